import JvmDerived
import JvmDerived.Pilot.@@N@@Statement
import JvmDerived.Pilot.@@N@@Code
set_option linter.unusedVariables false
set_option linter.unusedSimpArgs false
/- laws to paste: Road.backV, Road.lenW, Road.chN, Road.codOf (cut by pick.py; bodies as the Statement names them) -/
namespace Jvm.Pilot.@@N@@
namespace StrChars
open Jvm Sem ClassFile Op Lib Jvm.Stand Jvm.Free.XT Jvm.Free.ALB Jvm.Free.JM Jvm.Free
open Jvm.Lib.Cold (StaticIs)
/-- a char array whose places are chars -/
def Ch (a : Addr) (A : Cell) (U : State) : Prop := Arr .char a A U ∧ Typed .char A
theorem Ch.mv {a : Addr} {A : Cell} {U U' : State} (h : Ch a A U) (hal : U.vm.Alike U'.vm) (hh : U'.heap = U.heap) : Ch a A U' := ⟨h.1.mv hal hh, h.2⟩
theorem Ch.keep {a : Addr} {A : Cell} {U U' : State} (h : Ch a A U) (hal : U.vm.Alike U'.vm) (hk : U'.heap[a]? = some A) : Ch a A U' := ⟨h.1.keep hal hk, h.2⟩
/-- what place i of a char[]'s cell holds -/
def cv (A : Cell) (i : Nat) : Int32 := match A.slots[i]? with | some (.int x) => x | _ => 0
theorem Ch.get {a : Addr} {A : Cell} {U : State} (h : Ch a A U) {i : Nat} (hi : i < A.slots.size) : A.slots[i]? = some (.int (cv A i)) := by
  have e := Array.getElem?_eq_getElem hi
  have f := h.2 i _ e
  unfold cv; rw [e]
  generalize A.slots[i] = v at f
  cases v <;> simp [fits] at f ⊢
/-- the byte that i2b leaves of a char -/
def lo8 (x : Int32) : Int32 := x.toInt8.toInt32
theorem fits_lo8 (y : Int32) : fits .byte (.int (lo8 y)) = true := by
  have h1 := y.toInt8.le_toInt
  have h2 := y.toInt8.toInt_lt
  simp only [lo8, fits, Bool.and_eq_true, decide_eq_true_eq, Int32.le_iff_toInt_le, Int8.toInt_toInt32, show (-128 : Int32).toInt = -128 from by decide, show (127 : Int32).toInt = 127 from by decide]
  omega
/-- A' is A but that each place j of lo .. hi - 1 holds f j -/
def Laid (A A' : Cell) (lo hi : Nat) (f : Nat → Value) : Prop := A'.cls = A.cls ∧ A'.vm = A.vm ∧ A'.slots.size = A.slots.size ∧ ∀ i, A'.slots[i]? = if lo ≤ i ∧ i < hi then some (f i) else A.slots[i]?
theorem Laid.zero (A : Cell) (lo : Nat) (f : Nat → Value) : Laid A A lo (lo + 0) f := ⟨rfl, rfl, rfl, fun i => by rw [if_neg (by omega)]⟩
theorem Laid.step {A Ak : Cell} {lo k : Nat} {f : Nat → Value} {v : Value} (h : Laid A Ak lo k f) (hlo : lo ≤ k) (hk : k < Ak.slots.size) (hv : v = f k) : Laid A (Ak.setSlot k v) lo (k + 1) f := by
  refine ⟨h.1, h.2.1, by simpa [Cell.setSlot] using h.2.2.1, fun i => ?_⟩
  by_cases e : k = i
  · subst e; rw [Cell.slots_setSlot_self v hk, if_pos (by omega), hv]
  · rw [Cell.slots_setSlot_ne v e, h.2.2.2 i]
    by_cases q : lo ≤ i ∧ i < k
    · rw [if_pos q, if_pos (by omega)]
    · rw [if_neg q, if_neg (by omega)]
def U16 : String := "java/lang/StringUTF16"
namespace Cmp5
def yN : MethodName := ⟨"java/lang/StringUTF16", "compress", "([CI[BII)I"⟩
abbrev yB : ByteArray := jdk_52_method_21_code
theorem d0 : decode yB 0 = .ok (.iconst 0, 1) := by decide +kernel
theorem d1 : decode yB 1 = .ok (.istore 5, 2) := by decide +kernel
theorem d3 : decode yB 3 = .ok (.iload 5, 2) := by decide +kernel
theorem d5 : decode yB 5 = .ok (.iload 4, 2) := by decide +kernel
theorem d7 : decode yB 7 = .ok (.if_icmp (.ge) 37, 3) := by decide +kernel
theorem d10 : decode yB 10 = .ok (.aload_n 0, 1) := by decide +kernel
theorem d11 : decode yB 11 = .ok (.iload_n 1, 1) := by decide +kernel
theorem d12 : decode yB 12 = .ok (.caload, 1) := by decide +kernel
theorem d13 : decode yB 13 = .ok (.istore 6, 2) := by decide +kernel
theorem d15 : decode yB 15 = .ok (.iload 6, 2) := by decide +kernel
theorem d17 : decode yB 17 = .ok (.sipush 255, 3) := by decide +kernel
theorem d20 : decode yB 20 = .ok (.if_icmp (.le) 6, 3) := by decide +kernel
theorem d26 : decode yB 26 = .ok (.aload_n 2, 1) := by decide +kernel
theorem d27 : decode yB 27 = .ok (.iload_n 3, 1) := by decide +kernel
theorem d28 : decode yB 28 = .ok (.iload 6, 2) := by decide +kernel
theorem d30 : decode yB 30 = .ok (.i2b, 1) := by decide +kernel
theorem d31 : decode yB 31 = .ok (.bastore, 1) := by decide +kernel
theorem d32 : decode yB 32 = .ok (.iinc 1 1, 3) := by decide +kernel
theorem d35 : decode yB 35 = .ok (.iinc 3 1, 3) := by decide +kernel
theorem d38 : decode yB 38 = .ok (.iinc 5 1, 3) := by decide +kernel
theorem d41 : decode yB 41 = .ok (.goto (-38), 3) := by decide +kernel
theorem d44 : decode yB 44 = .ok (.iload 4, 2) := by decide +kernel
theorem d46 : decode yB 46 = .ok (.ireturn, 1) := by decide +kernel
def site : List Cond := []
def tab : Cond := tabOf yN yB 7 (some .int) site
def P (b : Addr) (A : Cell) (d : Addr) (B : Cell) (o q len : Nat) (args : Array Value) (s : State) : Prop := args = #[.ref b, .int (Int32.ofNat o), .ref d, .int (Int32.ofNat q), .int (Int32.ofNat len)] ∧ Ch b A s ∧ Arr .byte d B s ∧ b ≠ d ∧ o + len ≤ A.slots.size ∧ q + len ≤ B.slots.size ∧ ∀ i, i < len → ¬ 255 < cv A (o + i)
def E (b : Addr) (A : Cell) (d : Addr) (B : Cell) (o q len : Nat) (r : Option Value) (s u : State) : Prop := r = some (.int (Int32.ofNat len)) ∧ ∃ B', Put d B' s u ∧ Laid B B' q (q + len) (fun j => Value.int (lo8 (cv A (o + (j - q)))))
/-- no char of the range above 255: len; the places written hold each char's low byte -/
theorem law (l : Launch) (b : Addr) (A : Cell) (d : Addr) (B : Cell) (o q len : Nat) : Law l yN 5 5 0 0 yB 7 (some .int) site (P b A d B o q len) (E b A d B o q len) (copyLocs d q len) 0 0 := by
  refine Law.of_walk (plainFor_of_name (by decide +kernel)) (by decide +kernel) (by decide +kernel) (by decide) (fun _ _ h => by rw [h.1]; rfl) (fun _ U U' hal hh h => ⟨h.1, h.2.1.mv hal hh, h.2.2.1.mv hal hh, h.2.2.2⟩) (fun r U U' V V' h1 hal h2 h => ⟨h.1, h.2.elim fun B' q => ⟨B', q.1.mv h1 h2, q.2⟩⟩) ?_
  intro p e s m args below meth c s₁ X0 hexec hbytes hml hret hlk hnm hown hh0 W hP
  obtain ⟨rfl, hA, hB, hne, l1, l2, hp⟩ := hP
  have c1 : Steps p.tables e below (s₁.setTop (entryFrame m #[.ref b, .int (Int32.ofNat o), .ref d, .int (Int32.ofNat q), .int (Int32.ofNat len)] 7)) (s₁.setTop (mkF m 0 #[.val (.ref b), .val (.int (Int32.ofNat o)), .val (.ref d), .val (.int (Int32.ofNat q)), .val (.int (Int32.ofNat len)), .unset, .unset] [])) := entry rfl
  have hA0 := hA.1.mv X0.warmed.alike hh0
  have hB0 := hB.mv X0.warmed.alike hh0
  have a31 := hA.1.2.2.2
  have c2 : Steps p.tables e below (s₁.setTop (entryFrame m #[.ref b, .int (Int32.ofNat o), .ref d, .int (Int32.ofNat q), .int (Int32.ofNat len)] 7)) (s₁.setTop (mkF m 3 #[.val (.ref b), .val (.int (Int32.ofNat o)), .val (.ref d), .val (.int (Int32.ofNat q)), .val (.int (Int32.ofNat len)), .val (.int 0), .unset] [])) := c1.trans (by
    refine iconstV X0.here hexec rfl 0 (hb hbytes d0) (by decide) ?_
    refine XS.istore X0.here hexec rfl (hb hbytes d1) rfl rfl ?_
    exact Steps.refl _)
  have loop : ∀ (r i : Nat), i + r = len → ∀ (z : Slot), (z = .unset ∨ ∃ w, z = .val w ∧ w.category = 1) → ∀ (Tl : State) (Bk : Cell), Stand p l e { frames := 0, locals := 0, cells := 0, slots := 0 } s m #[.ref b, .int (Int32.ofNat o), .ref d, .int (Int32.ofNat q), .int (Int32.ofNat len)] below meth c Tl ([] ++ copyLocs d q i) 0 0 → Put d Bk s₁ Tl → Laid B Bk q (q + i) (fun j => Value.int (lo8 (cv A (o + (j - q))))) →
      Steps p.tables e below (s₁.setTop (entryFrame m #[.ref b, .int (Int32.ofNat o), .ref d, .int (Int32.ofNat q), .int (Int32.ofNat len)] 7)) (Tl.setTop (mkF m 3 #[.val (.ref b), .val (.int (Int32.ofNat (o + i))), .val (.ref d), .val (.int (Int32.ofNat (q + i))), .val (.int (Int32.ofNat len)), .val (.int (Int32.ofNat i)), z] [])) → ∃ (T' : State) (B' : Cell) (z' : Slot), Stand p l e { frames := 0, locals := 0, cells := 0, slots := 0 } s m #[.ref b, .int (Int32.ofNat o), .ref d, .int (Int32.ofNat q), .int (Int32.ofNat len)] below meth c T' ([] ++ copyLocs d q len) 0 0 ∧ Put d B' s₁ T' ∧ Laid B B' q (q + len) (fun j => Value.int (lo8 (cv A (o + (j - q))))) ∧
      Steps p.tables e below (s₁.setTop (entryFrame m #[.ref b, .int (Int32.ofNat o), .ref d, .int (Int32.ofNat q), .int (Int32.ofNat len)] 7)) (T'.setTop (mkF m 3 #[.val (.ref b), .val (.int (Int32.ofNat (o + len))), .val (.ref d), .val (.int (Int32.ofNat (q + len))), .val (.int (Int32.ofNat len)), .val (.int (Int32.ofNat len)), z'] [])) := by
    intro r
    induction r with
    | zero =>
      intro i hi z hz Tl Bk Xl pl fl cl
      have hil : i = len := by omega
      rw [hil] at Xl fl cl
      exact ⟨Tl, Bk, z, Xl, pl, fl, cl⟩
    | succ r ih =>
      intro i hi z hz Tl Bk Xl pl fl cl
      have all := X0.warmed.alike.symm.trans Xl.warmed.alike
      have hAl := hA0.keep all (pl.other hne hA0.1)
      have hBk := hB0.like all pl.1 fl.1 fl.2.1 fl.2.2.1
      have hlt : q + i < Bk.slots.size := by rw [fl.2.2.1]; omega
      have c3 : Steps p.tables e below (s₁.setTop (entryFrame m #[.ref b, .int (Int32.ofNat o), .ref d, .int (Int32.ofNat q), .int (Int32.ofNat len)] 7)) (Tl.setTop (mkF m 12 #[.val (.ref b), .val (.int (Int32.ofNat (o + i))), .val (.ref d), .val (.int (Int32.ofNat (q + i))), .val (.int (Int32.ofNat len)), .val (.int (Int32.ofNat i)), z] [.int (Int32.ofNat (o + i)), .ref b])) := cl.trans (by
        refine XS.iload Xl.here hexec rfl (hb hbytes d3) rfl ?_
        refine XS.iload Xl.here hexec rfl (hb hbytes d5) rfl ?_
        refine XS.icmpNo Xl.here hexec rfl (hb hbytes d7) rfl (ii_ge_f (lt32 (by omega) (by omega))) ?_
        refine XS.aloadN Xl.here hexec rfl (hb hbytes d10) rfl rfl ?_
        refine XS.iloadN Xl.here hexec rfl (hb hbytes d11) rfl ?_
        exact Steps.refl _)
      have c4 : Steps p.tables e below (s₁.setTop (entryFrame m #[.ref b, .int (Int32.ofNat o), .ref d, .int (Int32.ofNat q), .int (Int32.ofNat len)] 7)) (Tl.setTop (mkF m 13 #[.val (.ref b), .val (.int (Int32.ofNat (o + i))), .val (.ref d), .val (.int (Int32.ofNat (q + i))), .val (.int (Int32.ofNat len)), .val (.int (Int32.ofNat i)), z] [.int (cv A (o + i))])) := c3.trans (by
        refine Xl.aget hexec hAl rfl (hA.get (i := o + i) (by omega)) rfl rfl (hb hbytes d12) ?_
        exact Steps.refl _)
      have c5 : Steps p.tables e below (s₁.setTop (entryFrame m #[.ref b, .int (Int32.ofNat o), .ref d, .int (Int32.ofNat q), .int (Int32.ofNat len)] 7)) (Tl.setTop (mkF m 15 #[.val (.ref b), .val (.int (Int32.ofNat (o + i))), .val (.ref d), .val (.int (Int32.ofNat (q + i))), .val (.int (Int32.ofNat len)), .val (.int (Int32.ofNat i)), .val (.int (cv A (o + i)))] [])) := c4.trans (by
        refine XS.istoreS Xl.here hexec rfl (hb hbytes d13) rfl rfl hz ?_
        exact Steps.refl _)
      have c6 : Steps p.tables e below (s₁.setTop (entryFrame m #[.ref b, .int (Int32.ofNat o), .ref d, .int (Int32.ofNat q), .int (Int32.ofNat len)] 7)) (Tl.setTop (mkF m 31 #[.val (.ref b), .val (.int (Int32.ofNat (o + i))), .val (.ref d), .val (.int (Int32.ofNat (q + i))), .val (.int (Int32.ofNat len)), .val (.int (Int32.ofNat i)), .val (.int (cv A (o + i)))] [.int (lo8 (cv A (o + i))), .int (Int32.ofNat (q + i)), .ref d])) := c5.trans (by
        refine XS.iload Xl.here hexec rfl (hb hbytes d15) rfl ?_
        refine sipushV Xl.here hexec rfl 255 (hb hbytes d17) (by decide) ?_
        refine XS.icmpYes Xl.here hexec rfl (pc0 := 20) rfl (hb hbytes d20) rfl (ii_le_t (hp i (by omega))) (by decide) rfl ?_
        refine XS.aloadN Xl.here hexec rfl (hb hbytes d26) rfl rfl ?_
        refine XS.iloadN Xl.here hexec rfl (hb hbytes d27) rfl ?_
        refine XS.iload Xl.here hexec rfl (hb hbytes d28) rfl ?_
        refine i2b Xl.here hexec rfl (hb hbytes d30) rfl ?_
        exact Steps.refl _)
      obtain ⟨T7, X7, p7, st7⟩ := Xl.aput hexec hBk rfl hlt rfl (fits_lo8 (cv A (o + i))) (g := (mkF m 31 #[.val (.ref b), .val (.int (Int32.ofNat (o + i))), .val (.ref d), .val (.int (Int32.ofNat (q + i))), .val (.int (Int32.ofNat len)), .val (.int (Int32.ofNat i)), .val (.int (cv A (o + i)))] [.int (lo8 (cv A (o + i))), .int (Int32.ofNat (q + i)), .ref d])) rfl (rest := []) rfl (hb hbytes d31)
      have c8 : Steps p.tables e below (s₁.setTop (entryFrame m #[.ref b, .int (Int32.ofNat o), .ref d, .int (Int32.ofNat q), .int (Int32.ofNat len)] 7)) (T7.setTop (mkF m 32 #[.val (.ref b), .val (.int (Int32.ofNat (o + i))), .val (.ref d), .val (.int (Int32.ofNat (q + i))), .val (.int (Int32.ofNat len)), .val (.int (Int32.ofNat i)), .val (.int (cv A (o + i)))] [])) := c6.trans (st7 _ (Steps.refl _))
      have c9 : Steps p.tables e below (s₁.setTop (entryFrame m #[.ref b, .int (Int32.ofNat o), .ref d, .int (Int32.ofNat q), .int (Int32.ofNat len)] 7)) (T7.setTop (mkF m 3 #[.val (.ref b), .val (.int (Int32.ofNat (o + i) + 1)), .val (.ref d), .val (.int (Int32.ofNat (q + i) + 1)), .val (.int (Int32.ofNat len)), .val (.int (Int32.ofNat i + 1)), .val (.int (cv A (o + i)))] [])) := c8.trans (by
        refine iincV X7.here hexec rfl 1 (hb hbytes d32) (by decide) rfl rfl ?_
        refine iincV X7.here hexec rfl 1 (hb hbytes d35) (by decide) rfl rfl ?_
        refine iincV X7.here hexec rfl 1 (hb hbytes d38) (by decide) rfl rfl ?_
        refine XS.goto X7.here hexec rfl (pc0 := 41) rfl (hb hbytes d41) (by decide) rfl ?_
        exact Steps.refl _)
      have c10 : Steps p.tables e below (s₁.setTop (entryFrame m #[.ref b, .int (Int32.ofNat o), .ref d, .int (Int32.ofNat q), .int (Int32.ofNat len)] 7)) (T7.setTop (mkF m 3 #[.val (.ref b), .val (.int (Int32.ofNat (o + (i + 1)))), .val (.ref d), .val (.int (Int32.ofNat (q + (i + 1)))), .val (.int (Int32.ofNat len)), .val (.int (Int32.ofNat (i + 1))), .val (.int (cv A (o + i)))] [])) := by
        have := c9
        rw [succ32, succ32, succ32] at this
        exact this
      exact ih (i + 1) (by omega) _ (Or.inr ⟨_, rfl, rfl⟩) T7 _ (by rw [copyLocs_step, ← List.append_assoc]; exact X7) (pl.trans p7) (fl.step (by omega) hlt (by simp)) c10
  obtain ⟨T9, B9, z9, X9, p9, f9, g9⟩ := loop len 0 (by omega) .unset (Or.inl rfl) s₁ B (by simpa [copyLocs] using X0) ⟨hB0.1, fun _ _ => rfl, rfl⟩ (Laid.zero _ _ _) c2
  have c11 : Steps p.tables e below (s₁.setTop (entryFrame m #[.ref b, .int (Int32.ofNat o), .ref d, .int (Int32.ofNat q), .int (Int32.ofNat len)] 7)) (T9.setTop (mkF m 46 #[.val (.ref b), .val (.int (Int32.ofNat (o + len))), .val (.ref d), .val (.int (Int32.ofNat (q + len))), .val (.int (Int32.ofNat len)), .val (.int (Int32.ofNat len)), z9] [.int (Int32.ofNat len)])) := g9.trans (by
    refine XS.iload X9.here hexec rfl (hb hbytes d3) rfl ?_
    refine XS.iload X9.here hexec rfl (hb hbytes d5) rfl ?_
    refine XS.icmpYes X9.here hexec rfl (pc0 := 7) rfl (hb hbytes d7) rfl (ii_ge_t (nlt32 (by omega) (Nat.le_refl _))) (by decide) rfl ?_
    refine XS.iload X9.here hexec rfl (hb hbytes d44) rfl ?_
    exact Steps.refl _)
  exact ⟨T9, some (.int (Int32.ofNat len)), _, _, _, X9, by simp, rfl, rfl, (fun h => by cases h), ⟨rfl, B9, p9.from hh0, f9⟩, fun fs hl => c11.trans (X9.ireturnOut hexec hret rfl (Or.inl rfl) (hb hbytes d46) hl)⟩
end Cmp5
namespace Cmp3
def yN : MethodName := ⟨"java/lang/StringUTF16", "compress", "([CII)[B"⟩
abbrev yB : ByteArray := jdk_52_method_16_code
theorem d0 : decode yB 0 = .ok (.iload_n 2, 1) := by decide +kernel
theorem d1 : decode yB 1 = .ok (.newarray .byte, 2) := by decide +kernel
theorem d3 : decode yB 3 = .ok (.astore_n 3, 1) := by decide +kernel
theorem d4 : decode yB 4 = .ok (.aload_n 0, 1) := by decide +kernel
theorem d5 : decode yB 5 = .ok (.iload_n 1, 1) := by decide +kernel
theorem d6 : decode yB 6 = .ok (.aload_n 3, 1) := by decide +kernel
theorem d7 : decode yB 7 = .ok (.iconst 0, 1) := by decide +kernel
theorem d8 : decode yB 8 = .ok (.iload_n 2, 1) := by decide +kernel
theorem d9 : decode yB 9 = .ok (.invokestatic 115, 3) := by decide +kernel
theorem d12 : decode yB 12 = .ok (.istore 4, 2) := by decide +kernel
theorem d14 : decode yB 14 = .ok (.iload 4, 2) := by decide +kernel
theorem d16 : decode yB 16 = .ok (.iload_n 2, 1) := by decide +kernel
theorem d17 : decode yB 17 = .ok (.if_icmp (.eq) 40, 3) := by decide +kernel
theorem d57 : decode yB 57 = .ok (.aload_n 3, 1) := by decide +kernel
theorem d58 : decode yB 58 = .ok (.areturn, 1) := by decide +kernel
def site : List Cond := [.arrayClass .byte, Cmp5.tab] ++ staticW U16 115 Cmp5.yN
def tab : Cond := tabOf yN yB 6 (some (.array .byte)) site
def P (b : Addr) (A : Cell) (o len : Nat) (args : Array Value) (s : State) : Prop := args = #[.ref b, .int (Int32.ofNat o), .int (Int32.ofNat len)] ∧ Ch b A s ∧ o + len ≤ A.slots.size ∧ len ≤ 536870912 ∧ ∀ i, i < len → ¬ 255 < cv A (o + i)
def E (b : Addr) (A : Cell) (o len : Nat) (r : Option Value) (s u : State) : Prop := NewArr .byte "[B" len (fun j => .int (lo8 (cv A (o + j)))) r s u ∧ u.heap.size = s.heap.size + 1
/-- no char of the range above 255: a new byte[] of their low bytes -/
theorem law (l : Launch) (b : Addr) (A : Cell) (o len : Nat) : Law l yN 3 3 1 18 yB 6 (some (.array .byte)) site (P b A o len) (E b A o len) [] 1 len := by
  refine Law.of_walk (plainFor_of_name (by decide +kernel)) (by decide +kernel) (by decide +kernel) (by decide) (fun _ _ h => by rw [h.1]; rfl) (fun _ U U' hal hh h => ⟨h.1, h.2.1.mv hal hh, h.2.2⟩) (fun r U U' V V' h1 hal h2 h => ⟨NewArr.mv r U U' V V' h1 hal h2 h.1, by rw [h1, h2]; exact h.2⟩) ?_
  intro p e s m args below meth c s₁ X0 hexec hbytes hml hret hlk hnm hown hh0 W hP
  obtain ⟨rfl, hA, l1, l2, hp⟩ := hP
  have a31 := hA.1.2.2.2
  have c1 : Steps p.tables e below (s₁.setTop (entryFrame m #[.ref b, .int (Int32.ofNat o), .int (Int32.ofNat len)] 6)) (s₁.setTop (mkF m 0 #[.val (.ref b), .val (.int (Int32.ofNat o)), .val (.int (Int32.ofNat len)), .unset, .unset, .unset] [])) := entry rfl
  have c2 : Steps p.tables e below (s₁.setTop (entryFrame m #[.ref b, .int (Int32.ofNat o), .int (Int32.ofNat len)] 6)) (s₁.setTop (mkF m 1 #[.val (.ref b), .val (.int (Int32.ofNat o)), .val (.int (Int32.ofNat len)), .unset, .unset, .unset] [.int (Int32.ofNat len)])) := c1.trans (by
    refine XS.iloadN X0.here hexec rfl (hb hbytes d0) rfl ?_
    exact Steps.refl _)
  obtain ⟨T3, B3, X3, ba3, bs3, bv3, bh3, bf3, st3⟩ := X0.anew hexec (atype := .byte) (wk W (.arrayClass .byte)) rfl (by show len * 1 ≤ _; omega) (by omega) (g := (mkF m 1 #[.val (.ref b), .val (.int (Int32.ofNat o)), .val (.int (Int32.ofNat len)), .unset, .unset, .unset] [.int (Int32.ofNat len)])) rfl (hb hbytes d1) (rest := []) rfl (Nat.le_refl _) (by show 0 + len ≤ len; omega)
  rw [hh0] at ba3 st3
  have kp3 : XT.Kept s T3 := (XT.Kept.of_eq hh0).push bh3
  have hA3 := hA.keep X3.warmed.alike (kp3 _ _ hA.1.1)
  have hne : b ≠ s.heap.size := hA.1.ne
  have c4 : Steps p.tables e below (s₁.setTop (entryFrame m #[.ref b, .int (Int32.ofNat o), .int (Int32.ofNat len)] 6)) (T3.setTop (mkF m 3 #[.val (.ref b), .val (.int (Int32.ofNat o)), .val (.int (Int32.ofNat len)), .unset, .unset, .unset] [.ref s.heap.size])) := c2.trans (st3 _ (Steps.refl _))
  have c5 : Steps p.tables e below (s₁.setTop (entryFrame m #[.ref b, .int (Int32.ofNat o), .int (Int32.ofNat len)] 6)) (T3.setTop (mkF m 9 #[.val (.ref b), .val (.int (Int32.ofNat o)), .val (.int (Int32.ofNat len)), .val (.ref s.heap.size), .unset, .unset] [.int (Int32.ofNat len), .int 0, .ref s.heap.size, .int (Int32.ofNat o), .ref b])) := c4.trans (by
    refine XS.astoreN X3.here hexec rfl (hb hbytes d3) rfl rfl rfl ?_
    refine XS.aloadN X3.here hexec rfl (hb hbytes d4) rfl rfl ?_
    refine XS.iloadN X3.here hexec rfl (hb hbytes d5) rfl ?_
    refine XS.aloadN X3.here hexec rfl (hb hbytes d6) rfl rfl ?_
    refine iconstV X3.here hexec rfl 0 (hb hbytes d7) (by decide) ?_
    refine XS.iloadN X3.here hexec rfl (hb hbytes d8) rfl ?_
    exact Steps.refl _)
  obtain ⟨v6, T6, X6, E6, g6⟩ := X3.callS hexec (Cmp5.law l b A s.heap.size B3 o 0 len) hown (wks W (staticW U16 115 Cmp5.yN)) (wk W Cmp5.tab) (W := 0) (Nat.le_of_ble_eq_true rfl) (Nat.le_of_ble_eq_true rfl) (Nat.le_refl _) (by show 0 + len + 0 ≤ len; omega) (g := (mkF m 9 #[.val (.ref b), .val (.int (Int32.ofNat o)), .val (.int (Int32.ofNat len)), .val (.ref s.heap.size), .unset, .unset] [.int (Int32.ofNat len), .int (Int32.ofNat 0), .ref s.heap.size, .int (Int32.ofNat o), .ref b])) rfl (by rw [hml]; rfl) c5 (argsL := [.ref b, .int (Int32.ofNat o), .ref s.heap.size, .int (Int32.ofNat 0), .int (Int32.ofNat len)]) (rest := []) rfl rfl (by show 2 * 0 + 0 ≤ _; decide) (hb hbytes d9) (⟨rfl, hA3, ba3, hne, l1, by rw [bs3]; simp, hp⟩)
  obtain ⟨rfl, B6, p6, f6⟩ := E6
  have c7 : Steps p.tables e below (s₁.setTop (entryFrame m #[.ref b, .int (Int32.ofNat o), .int (Int32.ofNat len)] 6)) (T6.setTop (mkF m 12 #[.val (.ref b), .val (.int (Int32.ofNat o)), .val (.int (Int32.ofNat len)), .val (.ref s.heap.size), .unset, .unset] [.int (Int32.ofNat len)])) := g6
  have c8 : Steps p.tables e below (s₁.setTop (entryFrame m #[.ref b, .int (Int32.ofNat o), .int (Int32.ofNat len)] 6)) (T6.setTop (mkF m 58 #[.val (.ref b), .val (.int (Int32.ofNat o)), .val (.int (Int32.ofNat len)), .val (.ref s.heap.size), .val (.int (Int32.ofNat len)), .unset] [.ref s.heap.size])) := c7.trans (by
    refine XS.istore X6.here hexec rfl (hb hbytes d12) rfl rfl ?_
    refine XS.iload X6.here hexec rfl (hb hbytes d14) rfl ?_
    refine XS.iloadN X6.here hexec rfl (hb hbytes d16) rfl ?_
    refine XS.icmpYes X6.here hexec rfl (pc0 := 17) rfl (hb hbytes d17) rfl (ii_eq_t rfl) (by decide) rfl ?_
    refine XS.aloadN X6.here hexec rfl (hb hbytes d57) rfl rfl ?_
    exact Steps.refl _)
  have X8 := X6.wide (L' := []) (cells' := 1) (slots' := len) (fun x hx hlt => by
    simp only [List.nil_append, copyLocs, List.mem_map, List.mem_range] at hx
    obtain ⟨i, -, rfl⟩ := hx
    exact absurd hlt (Nat.lt_irrefl _)) (Nat.le_refl _) (by omega)
  exact ⟨T6, some (.ref s.heap.size), _, _, _, X8, rfl, rfl, rfl, (fun h => by cases h), ⟨⟨rfl, B6, ba3.like (X3.warmed.alike.symm.trans X6.warmed.alike) p6.1 f6.1 f6.2.1 f6.2.2.1, f6.2.1.trans bv3, by rw [X6.warmed.alike.findClass, f6.1]; exact bf3, by rw [f6.2.2.1, bs3]; simp, fun j hj => by rw [f6.2.2.2 j, if_pos (by omega)]; rfl, kp3.put p6 (Nat.le_refl _)⟩, by rw [p6.2.2, bh3, hh0]; simp⟩, fun fs hl => c8.trans (X8.areturnOut hexec rfl hret rfl (hb hbytes d58) hl)⟩
end Cmp3
namespace CodL
def yN : MethodName := ⟨"java/lang/StringUTF16", "coderFromArrayLen", "([BI)B"⟩
abbrev yB : ByteArray := jdk_52_method_15_code
theorem d0 : decode yB 0 = .ok (.iload_n 1, 1) := by decide +kernel
theorem d1 : decode yB 1 = .ok (.aload_n 0, 1) := by decide +kernel
theorem d2 : decode yB 2 = .ok (.arraylength, 1) := by decide +kernel
theorem d3 : decode yB 3 = .ok (.isub, 1) := by decide +kernel
theorem d4 : decode yB 4 = .ok (.bipush 31, 2) := by decide +kernel
theorem d6 : decode yB 6 = .ok (.iushr, 1) := by decide +kernel
theorem d7 : decode yB 7 = .ok (.i2b, 1) := by decide +kernel
theorem d8 : decode yB 8 = .ok (.ireturn, 1) := by decide +kernel
def site : List Cond := []
def tab : Cond := tabOf yN yB 2 (some .byte) site
def P (d : Addr) (B : Cell) (args : Array Value) (s : State) : Prop := args = #[.ref d, .int (Int32.ofNat B.slots.size)] ∧ Arr .byte d B s
def E (r : Option Value) (s u : State) : Prop := XT.PureE (some (.int 0)) r s u
/-- an array as long as the number of chars: LATIN1 -/
theorem law (l : Launch) (d : Addr) (B : Cell) : Law l yN 2 2 0 0 yB 2 (some .byte) site (P d B) E [] 0 0 := by
  refine Law.of_walk (plainFor_of_name (by decide +kernel)) (by decide +kernel) (by decide +kernel) (by decide) (fun _ _ h => by rw [h.1]; rfl) (fun _ U U' hal hh h => ⟨h.1, h.2.mv hal hh⟩) (fun r U U' V V' h1 hal h2 h => XT.PureE.mv r U U' V V' h1 hal h2 h) ?_
  intro p e s m args below meth c s₁ X0 hexec hbytes hml hret hlk hnm hown hh0 W hP
  obtain ⟨rfl, hB⟩ := hP
  have hB0 := hB.mv X0.warmed.alike hh0
  have c1 : Steps p.tables e below (s₁.setTop (entryFrame m #[.ref d, .int (Int32.ofNat B.slots.size)] 2)) (s₁.setTop (mkF m 0 #[.val (.ref d), .val (.int (Int32.ofNat B.slots.size))] [])) := entry rfl
  have c2 : Steps p.tables e below (s₁.setTop (entryFrame m #[.ref d, .int (Int32.ofNat B.slots.size)] 2)) (s₁.setTop (mkF m 2 #[.val (.ref d), .val (.int (Int32.ofNat B.slots.size))] [.ref d, .int (Int32.ofNat B.slots.size)])) := c1.trans (by
    refine XS.iloadN X0.here hexec rfl (hb hbytes d0) rfl ?_
    refine XS.aloadN X0.here hexec rfl (hb hbytes d1) rfl rfl ?_
    exact Steps.refl _)
  have c3 : Steps p.tables e below (s₁.setTop (entryFrame m #[.ref d, .int (Int32.ofNat B.slots.size)] 2)) (s₁.setTop (mkF m 8 #[.val (.ref d), .val (.int (Int32.ofNat B.slots.size))] [.int (lo8 (ushr (Int32.ofNat B.slots.size - Int32.ofNat B.slots.size) 31))])) := c2.trans (by
    refine X0.alen hexec hB0 rfl rfl (hb hbytes d2) ?_
    refine XS.isub X0.here hexec rfl (hb hbytes d3) rfl ?_
    refine bipushV X0.here hexec rfl 31 (hb hbytes d4) (by decide) ?_
    refine iushr X0.here hexec rfl (hb hbytes d6) rfl ?_
    refine i2b X0.here hexec rfl (hb hbytes d7) rfl ?_
    exact Steps.refl _)
  have e0 : lo8 (ushr (Int32.ofNat B.slots.size - Int32.ofNat B.slots.size) 31) = 0 := by rw [Int32.sub_self]; decide
  rw [e0] at c3
  exact ⟨s₁, some (.int 0), _, _, _, X0, rfl, rfl, rfl, (fun h => by cases h), ⟨rfl, hh0⟩, fun fs hl => c3.trans (X0.ireturnOut hexec hret rfl (Or.inr (Or.inr (Or.inl rfl))) (hb hbytes d8) hl)⟩
end CodL
/-- the String at a is Latin-1 over a new byte[] (the heap's one new cell): the low bytes of the len chars of A from o on; every cell but a is kept -/
def Got (a : Addr) (D : Cell) (fV fC : Field) (A : Cell) (o len : Nat) (r : Option Value) (s u : State) : Prop := r = none ∧ ∃ D' V : Cell, Blank "java/lang/String" a D' u ∧ Same D D' [fV.slot, fC.slot] ∧ D'.slots[fV.slot]? = some (.ref s.heap.size) ∧ D'.slots[fC.slot]? = some (.int 0) ∧ Arr .byte s.heap.size V u ∧ V.vm = .none ∧ u.vm.findClass "[B" = some V.cls ∧ V.slots.size = len ∧ (∀ j, j < len → V.slots[j]? = some (.int (lo8 (cv A (o + j))))) ∧ (∀ (y : Addr) (c : Cell), y ≠ a → s.heap[y]? = some c → u.heap[y]? = some c) ∧ u.heap.size = s.heap.size + 1
theorem Got.mv {a : Addr} {D A : Cell} {fV fC : Field} {o len : Nat} : ∀ r (U U' V V' : State), U'.heap = U.heap → V.vm.Alike V'.vm → V'.heap = V.heap → Got a D fV fC A o len r U V → Got a D fV fC A o len r U' V' :=
  fun r U U' V V' h1 hal h2 ⟨e0, D', X, a1, a2, a3, a4, a5, a6, a7, a8, a9, a10, a11⟩ => ⟨e0, D', X, a1.mv hal h2, a2, by rw [h1]; exact a3, a4, by rw [h1]; exact a5.mv hal h2, a6, by rw [hal.findClass]; exact a7, a8, a9, by rw [h1, h2]; exact a10, by rw [h1, h2]; exact a11⟩
namespace New4
def yN : MethodName := ⟨"java/lang/String", "<init>", "([CIILjava/lang/Void;)V"⟩
abbrev yB : ByteArray := jdk_42_method_149_code
theorem d0 : decode yB 0 = .ok (.aload_n 0, 1) := by decide +kernel
theorem d1 : decode yB 1 = .ok (.invokespecial 1, 3) := by decide +kernel
theorem d4 : decode yB 4 = .ok (.iload_n 3, 1) := by decide +kernel
theorem d5 : decode yB 5 = .ok (.ifCond (.ne) 22, 3) := by decide +kernel
theorem d27 : decode yB 27 = .ok (.getstatic 38, 3) := by decide +kernel
theorem d30 : decode yB 30 = .ok (.ifCond (.eq) 28, 3) := by decide +kernel
theorem d33 : decode yB 33 = .ok (.aload_n 1, 1) := by decide +kernel
theorem d34 : decode yB 34 = .ok (.iload_n 2, 1) := by decide +kernel
theorem d35 : decode yB 35 = .ok (.iload_n 3, 1) := by decide +kernel
theorem d36 : decode yB 36 = .ok (.invokestatic 177, 3) := by decide +kernel
theorem d39 : decode yB 39 = .ok (.astore 5, 2) := by decide +kernel
theorem d41 : decode yB 41 = .ok (.aload_n 0, 1) := by decide +kernel
theorem d42 : decode yB 42 = .ok (.aload 5, 2) := by decide +kernel
theorem d44 : decode yB 44 = .ok (.iload_n 3, 1) := by decide +kernel
theorem d45 : decode yB 45 = .ok (.invokestatic 47, 3) := by decide +kernel
theorem d48 : decode yB 48 = .ok (.putfield 15, 3) := by decide +kernel
theorem d51 : decode yB 51 = .ok (.aload_n 0, 1) := by decide +kernel
theorem d52 : decode yB 52 = .ok (.aload 5, 2) := by decide +kernel
theorem d54 : decode yB 54 = .ok (.putfield 9, 3) := by decide +kernel
theorem d57 : decode yB 57 = .ok (.return_, 1) := by decide +kernel
def site : List Cond := [.fieldLink "java/lang/String" 38 "java/lang/String" "COMPACT_STRINGS" "Z", Cmp3.tab, CodL.tab, .laysFinal "java/lang/String" "java/lang/String" "value" "[B", .fieldLink "java/lang/String" 9 "java/lang/String" "value" "[B", .laysFinal "java/lang/String" "java/lang/String" "coder" "B", .fieldLink "java/lang/String" 15 "java/lang/String" "coder" "B"] ++ objW "java/lang/String" 1 ++ staticW "java/lang/String" 177 Cmp3.yN ++ staticW "java/lang/String" 47 CodL.yN
def tab : Cond := tabOf yN yB 6 none site
def P (a : Addr) (D : Cell) (fV fC : Field) (b : Addr) (A : Cell) (z : Int32) (o len : Nat) (args : Array Value) (s : State) : Prop := args = #[.ref a, .ref b, .int (Int32.ofNat o), .int (Int32.ofNat len), .null] ∧ Blank "java/lang/String" a D s ∧ Found "java/lang/String" "value" "[B" fV s ∧ Found "java/lang/String" "coder" "B" fC s ∧ Ch b A s ∧ StaticIs s "java/lang/String" "COMPACT_STRINGS" "Z" (.int z) ∧ ¬ z = 0 ∧ 0 < len ∧ o + len ≤ A.slots.size ∧ len ≤ 536870912 ∧ ∀ i, i < len → ¬ 255 < cv A (o + i)
def E (a : Addr) (D : Cell) (fV fC : Field) (A : Cell) (o len : Nat) (r : Option Value) (s u : State) : Prop := Got a D fV fC A o len r s u
/-- len > 0, no char of the range above 255: a Latin-1 String of their low bytes -/
theorem law (l : Launch) (a : Addr) (D : Cell) (fV fC : Field) (b : Addr) (A : Cell) (z : Int32) (o len : Nat) : Law l yN 5 4 2 35 yB 6 none site (P a D fV fC b A z o len) (E a D fV fC A o len) [⟨a, fC.slot⟩, ⟨a, fV.slot⟩] 1 len := by
  refine Law.of_walk (plainFor_of_name (by decide +kernel)) (by decide +kernel) (by decide +kernel) (by decide) (fun _ _ h => by rw [h.1]; rfl) (fun _ U U' hal hh h => ⟨h.1, h.2.1.mv hal hh, h.2.2.1.al hal, h.2.2.2.1.al hal, h.2.2.2.2.1.mv hal hh, h.2.2.2.2.2.1.there hal hh, h.2.2.2.2.2.2⟩) (fun r U U' V V' h1 hal h2 h => Got.mv r U U' V V' h1 hal h2 h) ?_
  intro p e s m args below meth c s₁ X0 hexec hbytes hml hret hlk hnm hown hh0 W hP
  obtain ⟨rfl, hB, f1, f2, hA, s1, hz, l0, l1, l2, hp⟩ := hP
  have a31 := hA.1.2.2.2
  have c1 : Steps p.tables e below (s₁.setTop (entryFrame m #[.ref a, .ref b, .int (Int32.ofNat o), .int (Int32.ofNat len), .null] 6)) (s₁.setTop (mkF m 0 #[.val (.ref a), .val (.ref b), .val (.int (Int32.ofNat o)), .val (.int (Int32.ofNat len)), .val .null, .unset] [])) := entry rfl
  have c2 : Steps p.tables e below (s₁.setTop (entryFrame m #[.ref a, .ref b, .int (Int32.ofNat o), .int (Int32.ofNat len), .null] 6)) (s₁.setTop (mkF m 1 #[.val (.ref a), .val (.ref b), .val (.int (Int32.ofNat o)), .val (.int (Int32.ofNat len)), .val .null, .unset] [.ref a])) := c1.trans (by
    refine XS.aloadN X0.here hexec rfl (hb hbytes d0) rfl rfl ?_
    exact Steps.refl _)
  obtain ⟨T3, X3, q3, st3⟩ := X0.oinit hexec hown (wks W (objW "java/lang/String" 1)) (g := (mkF m 1 #[.val (.ref a), .val (.ref b), .val (.int (Int32.ofNat o)), .val (.int (Int32.ofNat len)), .val .null, .unset] [.ref a])) rfl (by rw [hml]; rfl) (rest := []) rfl (hb hbytes d1) (W := 0) (by show 2 * 0 + 0 ≤ _; decide) (Nat.le_of_ble_eq_true rfl) (Nat.le_of_ble_eq_true rfl)
  have hh3 := q3.trans hh0
  have c4 : Steps p.tables e below (s₁.setTop (entryFrame m #[.ref a, .ref b, .int (Int32.ofNat o), .int (Int32.ofNat len), .null] 6)) (T3.setTop (mkF m 27 #[.val (.ref a), .val (.ref b), .val (.int (Int32.ofNat o)), .val (.int (Int32.ofNat len)), .val .null, .unset] [])) := (c2.trans (st3 _ (Steps.refl _))).trans (by
    refine XS.iloadN X3.here hexec rfl (hb hbytes d4) rfl ?_
    refine XS.ifYes X3.here hexec rfl (pc0 := 5) rfl (hb hbytes d5) rfl (i0_ne_t (nz32 (by omega) l0)) (by decide) rfl ?_
    exact Steps.refl _)
  obtain ⟨T5, X5, q5, st5⟩ := X3.sget hexec hown (wk W (.fieldLink "java/lang/String" 38 "java/lang/String" "COMPACT_STRINGS" "Z")) s1 (fun _ _ h => by rw [hh3]; exact h) (g := (mkF m 27 #[.val (.ref a), .val (.ref b), .val (.int (Int32.ofNat o)), .val (.int (Int32.ofNat len)), .val .null, .unset] [])) rfl (hb hbytes d27)
  have hh5 := q5.trans hh3
  have c6 : Steps p.tables e below (s₁.setTop (entryFrame m #[.ref a, .ref b, .int (Int32.ofNat o), .int (Int32.ofNat len), .null] 6)) (T5.setTop (mkF m 30 #[.val (.ref a), .val (.ref b), .val (.int (Int32.ofNat o)), .val (.int (Int32.ofNat len)), .val .null, .unset] [.int z])) := c4.trans (st5 _ (Steps.refl _))
  have c7 : Steps p.tables e below (s₁.setTop (entryFrame m #[.ref a, .ref b, .int (Int32.ofNat o), .int (Int32.ofNat len), .null] 6)) (T5.setTop (mkF m 36 #[.val (.ref a), .val (.ref b), .val (.int (Int32.ofNat o)), .val (.int (Int32.ofNat len)), .val .null, .unset] [.int (Int32.ofNat len), .int (Int32.ofNat o), .ref b])) := c6.trans (by
    refine XS.ifNo X5.here hexec rfl (hb hbytes d30) rfl (i0_eq_f hz) ?_
    refine XS.aloadN X5.here hexec rfl (hb hbytes d33) rfl rfl ?_
    refine XS.iloadN X5.here hexec rfl (hb hbytes d34) rfl ?_
    refine XS.iloadN X5.here hexec rfl (hb hbytes d35) rfl ?_
    exact Steps.refl _)
  obtain ⟨v8, T8, X8, E8, g8⟩ := X5.callS hexec (Cmp3.law l b A o len) hown (wks W (staticW "java/lang/String" 177 Cmp3.yN)) (wk W Cmp3.tab) (W := 0) (Nat.le_of_ble_eq_true rfl) (Nat.le_of_ble_eq_true rfl) (Nat.le_refl _) (by show 0 + len ≤ len; omega) (g := (mkF m 36 #[.val (.ref a), .val (.ref b), .val (.int (Int32.ofNat o)), .val (.int (Int32.ofNat len)), .val .null, .unset] [.int (Int32.ofNat len), .int (Int32.ofNat o), .ref b])) rfl (by rw [hml]; rfl) c7 (argsL := [.ref b, .int (Int32.ofNat o), .int (Int32.ofNat len)]) (rest := []) rfl rfl (by show 2 * 0 + 0 ≤ _; decide) (hb hbytes d36) (⟨rfl, hA.mv X5.warmed.alike hh5, l1, l2, hp⟩)
  obtain ⟨e8, z8⟩ := E8
  obtain ⟨rfl, N, n1, n2, n3, n4, n5, n6⟩ := NewArr.mv _ T5 s _ _ hh5.symm (Vm.Alike.refl _) rfl e8
  rw [hh5] at z8
  have hB1 := hB.keep X8.warmed.alike (n6 _ _ hB.1)
  have hne : s.heap.size ≠ a := (Nat.ne_of_lt (Array.getElem?_eq_some_iff.mp hB.1).1).symm
  have c9 : Steps p.tables e below (s₁.setTop (entryFrame m #[.ref a, .ref b, .int (Int32.ofNat o), .int (Int32.ofNat len), .null] 6)) (T8.setTop (mkF m 39 #[.val (.ref a), .val (.ref b), .val (.int (Int32.ofNat o)), .val (.int (Int32.ofNat len)), .val .null, .unset] [.ref s.heap.size])) := g8
  have c10 : Steps p.tables e below (s₁.setTop (entryFrame m #[.ref a, .ref b, .int (Int32.ofNat o), .int (Int32.ofNat len), .null] 6)) (T8.setTop (mkF m 45 #[.val (.ref a), .val (.ref b), .val (.int (Int32.ofNat o)), .val (.int (Int32.ofNat len)), .val .null, .val (.ref s.heap.size)] [.int (Int32.ofNat N.slots.size), .ref s.heap.size, .ref a])) := by
    have hc : Steps p.tables e below (s₁.setTop (entryFrame m #[.ref a, .ref b, .int (Int32.ofNat o), .int (Int32.ofNat len), .null] 6)) (T8.setTop (mkF m 45 #[.val (.ref a), .val (.ref b), .val (.int (Int32.ofNat o)), .val (.int (Int32.ofNat len)), .val .null, .val (.ref s.heap.size)] [.int (Int32.ofNat len), .ref s.heap.size, .ref a])) := c9.trans (by
      refine XS.astore X8.here hexec rfl (hb hbytes d39) rfl rfl rfl ?_
      refine XS.aloadN X8.here hexec rfl (hb hbytes d41) rfl rfl ?_
      refine XS.aload X8.here hexec rfl (hb hbytes d42) rfl rfl ?_
      refine XS.iloadN X8.here hexec rfl (hb hbytes d44) rfl ?_
      exact Steps.refl _)
    rw [n4]; exact hc
  obtain ⟨v11, T11, X11, E11, g11⟩ := X8.callS hexec (CodL.law l s.heap.size N) hown (wks W (staticW "java/lang/String" 47 CodL.yN)) (wk W CodL.tab) (W := 1) (Nat.le_of_ble_eq_true rfl) (Nat.le_of_ble_eq_true rfl) (Nat.le_refl _) (by show 0 + len + 0 ≤ len; omega) (g := (mkF m 45 #[.val (.ref a), .val (.ref b), .val (.int (Int32.ofNat o)), .val (.int (Int32.ofNat len)), .val .null, .val (.ref s.heap.size)] [.int (Int32.ofNat N.slots.size), .ref s.heap.size, .ref a])) rfl (by rw [hml]; rfl) c10 (argsL := [.ref s.heap.size, .int (Int32.ofNat N.slots.size)]) (rest := [.ref a]) rfl rfl (by show 2 * 0 + (1 + 0) ≤ _; decide) (hb hbytes d45) (⟨rfl, n1⟩)
  obtain ⟨rfl, q11⟩ := E11
  have hB11 := hB1.mv (X8.warmed.alike.symm.trans X11.warmed.alike) q11
  have c12 : Steps p.tables e below (s₁.setTop (entryFrame m #[.ref a, .ref b, .int (Int32.ofNat o), .int (Int32.ofNat len), .null] 6)) (T11.setTop (mkF m 48 #[.val (.ref a), .val (.ref b), .val (.int (Int32.ofNat o)), .val (.int (Int32.ofNat len)), .val .null, .val (.ref s.heap.size)] [.int 0, .ref a])) := g11
  obtain ⟨T13, X13, p13, bl13, sl13, st13⟩ := X11.finit hexec hown (wk W (.fieldLink "java/lang/String" 15 "java/lang/String" "coder" "B")) (Or.inr ⟨_, (wk W (.laysFinal "java/lang/String" "java/lang/String" "coder" "B"))⟩) (Or.inl ⟨rfl, hnm⟩) f2 (Or.inl rfl) hB11 (t := .byte) (by decide +kernel) rfl (g := (mkF m 48 #[.val (.ref a), .val (.ref b), .val (.int (Int32.ofNat o)), .val (.int (Int32.ofNat len)), .val .null, .val (.ref s.heap.size)] [.int 0, .ref a])) rfl (rest := []) rfl (hb hbytes d48)
  have c14 : Steps p.tables e below (s₁.setTop (entryFrame m #[.ref a, .ref b, .int (Int32.ofNat o), .int (Int32.ofNat len), .null] 6)) (T13.setTop (mkF m 54 #[.val (.ref a), .val (.ref b), .val (.int (Int32.ofNat o)), .val (.int (Int32.ofNat len)), .val .null, .val (.ref s.heap.size)] [.ref s.heap.size, .ref a])) := (c12.trans (st13 _ (Steps.refl _))).trans (by
    refine XS.aloadN X13.here hexec rfl (hb hbytes d51) rfl rfl ?_
    refine XS.aload X13.here hexec rfl (hb hbytes d52) rfl rfl ?_
    exact Steps.refl _)
  obtain ⟨T15, X15, p15, bl15, sl15, st15⟩ := X13.finit hexec hown (wk W (.fieldLink "java/lang/String" 9 "java/lang/String" "value" "[B")) (Or.inr ⟨_, (wk W (.laysFinal "java/lang/String" "java/lang/String" "value" "[B"))⟩) (Or.inl ⟨rfl, hnm⟩) f1 (Or.inl rfl) bl13 (t := (.array .byte)) (by decide +kernel) rfl (g := (mkF m 54 #[.val (.ref a), .val (.ref b), .val (.int (Int32.ofNat o)), .val (.int (Int32.ofNat len)), .val .null, .val (.ref s.heap.size)] [.ref s.heap.size, .ref a])) rfl (rest := []) rfl (hb hbytes d54)
  have c16 : Steps p.tables e below (s₁.setTop (entryFrame m #[.ref a, .ref b, .int (Int32.ofNat o), .int (Int32.ofNat len), .null] 6)) (T15.setTop (mkF m 57 #[.val (.ref a), .val (.ref b), .val (.int (Int32.ofNat o)), .val (.int (Int32.ofNat len)), .val .null, .val (.ref s.heap.size)] [])) := c14.trans (st15 _ (Steps.refl _))
  have ap := apart (Or.inr ⟨_, (wk W (.laysFinal "java/lang/String" "java/lang/String" "value" "[B"))⟩) (Or.inr ⟨_, (wk W (.laysFinal "java/lang/String" "java/lang/String" "coder" "B"))⟩) f1 f2 (t₁ := .array .byte) (t₂ := .byte) (by decide +kernel) (by decide +kernel) (by decide)
  have al := X8.warmed.alike.symm.trans X15.warmed.alike
  have n7 : T11.heap[s.heap.size]? = some N := by rw [q11]; exact n1.1
  exact ⟨T15, none, _, _, _, X15, by simp, rfl, by omega, (fun _ => rfl), ⟨rfl, _, N, bl15, ((Same.refl D _).set _ (by simp)).set _ (by simp), sl15, (Cell.slots_setSlot_ne _ ap).trans sl13, n1.keep al (p15.other hne (p13.other hne n7)), n2, by rw [al.findClass]; exact n3, n4, n5, fun y c h1 h2 => p15.other h1 (p13.other h1 (by rw [q11]; exact n6 y c h2)), by rw [p15.2.2, p13.2.2, q11]; exact z8⟩, fun fs hl => c16.trans (X15.returnOut hexec hret (hb hbytes d57) hl)⟩
end New4
namespace New1
def yN : MethodName := ⟨"java/lang/String", "<init>", "([C)V"⟩
abbrev yB : ByteArray := jdk_42_method_3_code
theorem d0 : decode yB 0 = .ok (.aload_n 0, 1) := by decide +kernel
theorem d1 : decode yB 1 = .ok (.aload_n 1, 1) := by decide +kernel
theorem d2 : decode yB 2 = .ok (.iconst 0, 1) := by decide +kernel
theorem d3 : decode yB 3 = .ok (.aload_n 1, 1) := by decide +kernel
theorem d4 : decode yB 4 = .ok (.arraylength, 1) := by decide +kernel
theorem d5 : decode yB 5 = .ok (.aconst_null, 1) := by decide +kernel
theorem d6 : decode yB 6 = .ok (.invokespecial 27, 3) := by decide +kernel
theorem d9 : decode yB 9 = .ok (.return_, 1) := by decide +kernel
def site : List Cond := [New4.tab] ++ initW "java/lang/String" 27 New4.yN
def tab : Cond := tabOf yN yB 2 none site
def P (a : Addr) (D : Cell) (fV fC : Field) (b : Addr) (A : Cell) (z : Int32) (args : Array Value) (s : State) : Prop := args = #[.ref a, .ref b] ∧ Blank "java/lang/String" a D s ∧ Found "java/lang/String" "value" "[B" fV s ∧ Found "java/lang/String" "coder" "B" fC s ∧ Ch b A s ∧ StaticIs s "java/lang/String" "COMPACT_STRINGS" "Z" (.int z) ∧ ¬ z = 0 ∧ 0 < A.slots.size ∧ A.slots.size ≤ 536870912 ∧ ∀ i, i < A.slots.size → ¬ 255 < cv A i
def E (a : Addr) (D : Cell) (fV fC : Field) (A : Cell) (r : Option Value) (s u : State) : Prop := Got a D fV fC A 0 A.slots.size r s u
/-- new String(chars), not empty, no char above 255: a Latin-1 String of their low bytes -/
theorem law (l : Launch) (a : Addr) (D : Cell) (fV fC : Field) (b : Addr) (A : Cell) (z : Int32) : Law l yN 2 1 3 52 yB 2 none site (P a D fV fC b A z) (E a D fV fC A) [⟨a, fC.slot⟩, ⟨a, fV.slot⟩] 1 A.slots.size := by
  refine Law.of_walk (plainFor_of_name (by decide +kernel)) (by decide +kernel) (by decide +kernel) (by decide) (fun _ _ h => by rw [h.1]; rfl) (fun _ U U' hal hh h => ⟨h.1, h.2.1.mv hal hh, h.2.2.1.al hal, h.2.2.2.1.al hal, h.2.2.2.2.1.mv hal hh, h.2.2.2.2.2.1.there hal hh, h.2.2.2.2.2.2⟩) (fun r U U' V V' h1 hal h2 h => Got.mv r U U' V V' h1 hal h2 h) ?_
  intro p e s m args below meth c s₁ X0 hexec hbytes hml hret hlk hnm hown hh0 W hP
  obtain ⟨rfl, hB, f1, f2, hA, s1, hz, l0, l2, hp⟩ := hP
  have c1 : Steps p.tables e below (s₁.setTop (entryFrame m #[.ref a, .ref b] 2)) (s₁.setTop (mkF m 0 #[.val (.ref a), .val (.ref b)] [])) := entry rfl
  have c2 : Steps p.tables e below (s₁.setTop (entryFrame m #[.ref a, .ref b] 2)) (s₁.setTop (mkF m 6 #[.val (.ref a), .val (.ref b)] [.null, .int (Int32.ofNat A.slots.size), .int 0, .ref b, .ref a])) := c1.trans (by
    refine XS.aloadN X0.here hexec rfl (hb hbytes d0) rfl rfl ?_
    refine XS.aloadN X0.here hexec rfl (hb hbytes d1) rfl rfl ?_
    refine iconstV X0.here hexec rfl 0 (hb hbytes d2) (by decide) ?_
    refine XS.aloadN X0.here hexec rfl (hb hbytes d3) rfl rfl ?_
    refine X0.alen hexec (hA.1.mv X0.warmed.alike hh0) rfl rfl (hb hbytes d4) ?_
    refine XS.aconstNull X0.here hexec rfl (hb hbytes d5) ?_
    exact Steps.refl _)
  obtain ⟨v3, T3, X3, E3, g3⟩ := X0.callN hexec (New4.law l a D fV fC b A z 0 A.slots.size) rfl hown (wks W (initW "java/lang/String" 27 New4.yN)) (W New4.tab (by simp only [site, List.mem_cons, List.mem_append, true_or, or_true])) (W := 0) (Nat.le_of_ble_eq_true rfl) (Nat.le_of_ble_eq_true rfl) (Nat.le_refl _) (by show 0 + A.slots.size ≤ A.slots.size; omega) (g := (mkF m 6 #[.val (.ref a), .val (.ref b)] [.null, .int (Int32.ofNat A.slots.size), .int (Int32.ofNat 0), .ref b, .ref a])) rfl (by rw [hml]; rfl) c2 (argsL := [.ref b, .int (Int32.ofNat 0), .int (Int32.ofNat A.slots.size), .null]) (rest := []) rfl rfl (by show 2 * 0 + 0 ≤ _; decide) (hb hbytes d6) (⟨rfl, hB.mv X0.warmed.alike hh0, f1.al X0.warmed.alike, f2.al X0.warmed.alike, hA.mv X0.warmed.alike hh0, s1.there X0.warmed.alike hh0, hz, l0, by omega, l2, fun i hi => by rw [Nat.zero_add]; exact hp i hi⟩)
  have e0 := Got.mv _ s₁ s _ _ hh0.symm (Vm.Alike.refl _) rfl E3
  obtain rfl := e0.1
  have c4 : Steps p.tables e below (s₁.setTop (entryFrame m #[.ref a, .ref b] 2)) (T3.setTop (mkF m 9 #[.val (.ref a), .val (.ref b)] [])) := g3
  exact ⟨T3, none, _, _, _, X3, by simp, rfl, by omega, (fun _ => rfl), e0, fun fs hl => c4.trans (X3.returnOut hexec hret (hb hbytes d9) hl)⟩
theorem pays {l : Launch} {R : Room} {p : Program} {e : Env} {below : List Frame} {s : State} {sargs : Array Value} {len W : Nat} (a : Addr) (D : Cell) (fV fC : Field) (b : Addr) (A : Cell) (z : Int32) (htab : tab.before sargs s = true) (hfr : 4 ≤ R.frames) (hlo : W + 65 ≤ R.locals) :
    Back l R p e below s sargs yN len W (fun A₁ a₁ => A₁.cells + 1 ≤ R.cells ∧ A₁.slots + A.slots.size ≤ R.slots ∧ P a D fV fC b A z a₁ A₁.U) (fun A₁ _ v₁ B₁ => E a D fV fC A v₁ A₁.U B₁.U ∧ B₁.locs = A₁.locs ++ [⟨a, fC.slot⟩, ⟨a, fV.slot⟩] ∧ B₁.cells = A₁.cells + 1 ∧ B₁.slots = A₁.slots + A.slots.size) :=
  (law l a D fV fC b A z).pays htab hfr (by omega)
end New1
/-- the byte, read back as charAt reads it, is the char -/
theorem lo8_mask {x : Int32} (h0 : ¬ x < 0) (h1 : ¬ 255 < x) : lo8 x &&& 255 = x := by
  have t : ∀ k : Fin 256, lo8 (Int32.ofNat k.val) &&& 255 = Int32.ofNat k.val := by decide +kernel
  rw [Int32.lt_iff_toInt_lt] at h0 h1
  have e0 : (0 : Int32).toInt = 0 := rfl
  have e1 : (255 : Int32).toInt = 255 := rfl
  obtain ⟨k, hk⟩ : ∃ k : Nat, x.toInt = k := ⟨x.toInt.toNat, by omega⟩
  have hx : x = Int32.ofNat k := Int32.toInt_inj.mp (by rw [hk, Int32.toInt_ofNat_small (by omega)])
  rw [hx]
  exact t ⟨k, by omega⟩
end StrChars
namespace StrChars.Road
open Jvm Sem ClassFile Op Lib Jvm.Stand Jvm.Free Jvm.Free.XT
open Jvm.Lib.Cold (StaticIs)
abbrev ST : String := "java/lang/String"
/-- every table word that New1's law asks, flat -/
abbrev words : List Jvm.Cond := [.code New1.yN New1.yB 2 none, .initialized ST, .methodLink ST 27 New4.yN, .instanceMethod New4.yN,
  .code New4.yN New4.yB 6 none, .fieldLink ST 38 ST "COMPACT_STRINGS" "Z", .laysFinal ST ST "value" "[B", .fieldLink ST 9 ST "value" "[B", .laysFinal ST ST "coder" "B", .fieldLink ST 15 ST "coder" "B",
  .methodLink ST 1 Lib.objectInit, .instanceMethod Lib.objectInit, .code Lib.objectInit ⟨#[0xb1]⟩ 1 none, .methodLink ST 177 Cmp3.yN, .static Cmp3.yN, .methodLink ST 47 CodL.yN, .static CodL.yN,
  .code Cmp3.yN Cmp3.yB 6 (some (.array .byte)), .initialized U16, .arrayClass .byte, .methodLink U16 115 Cmp5.yN, .static Cmp5.yN, .code Cmp5.yN Cmp5.yB 7 (some .int), .code CodL.yN CodL.yB 2 (some .byte)]
theorem tab_of {a : Array Value} {s : State} (h : ∀ w ∈ words, w.before a s = true) : New1.tab.before a s = true := by
  have h5 : Cmp5.tab.before a s = true := unparts (wk h (.code Cmp5.yN Cmp5.yB 7 (some .int))) (wks h (.initialized Cmp5.yN.cls :: Cmp5.site))
  have hc : CodL.tab.before a s = true := unparts (wk h (.code CodL.yN CodL.yB 2 (some .byte))) (wks h (.initialized CodL.yN.cls :: CodL.site))
  have q5 : ∀ w ∈ Cmp5.tab :: words, w.before a s = true := fun w hw => (List.mem_cons.mp hw).elim (fun e => e ▸ h5) (h w)
  have h3 : Cmp3.tab.before a s = true := unparts (wk q5 (.code Cmp3.yN Cmp3.yB 6 (some (.array .byte)))) (wks q5 (.initialized Cmp3.yN.cls :: Cmp3.site))
  have q3 : ∀ w ∈ Cmp3.tab :: CodL.tab :: words, w.before a s = true := fun w hw => (List.mem_cons.mp hw).elim (fun e => e ▸ h3) fun hw => (List.mem_cons.mp hw).elim (fun e => e ▸ hc) (h w)
  have h4 : New4.tab.before a s = true := unparts (wk q3 (.code New4.yN New4.yB 6 none)) (wks q3 (.initialized New4.yN.cls :: New4.site))
  have q4 : ∀ w ∈ New4.tab :: words, w.before a s = true := fun w hw => (List.mem_cons.mp hw).elim (fun e => e ▸ h4) (h w)
  exact unparts (wk q4 (.code New1.yN New1.yB 2 none)) (wks q4 (.initialized New1.yN.cls :: New1.site))
/-- the words ride from the start Z to the walk's own state -/
theorem moved {Z s : State} {a0 args : Array Value} (hZ : Z.Warmed39 s.vm) (hw : ∀ d ∈ words, d.before a0 Z = true) : ∀ d ∈ words, d.before args s = true := fun d hd => by
  have q := hw d hd
  have t : ∀ d ∈ words, d = .arrayClass .byte ∨ (d.onTables && d.keepsFace) = true := by decide +kernel
  rcases t d hd with rfl | t
  · exact RoadKit.mvA hZ q
  · exact RoadKit.mv hZ q t
/-- WHAT COMES BACK, over the tables of the start Z: h the heap at the call, h' behind it -/
def Q (Z : State) (x : Addr) (A : Cell) (h : Heap) (v : Option Value) (h' : Heap) (L : List Loc) : Prop := v = none ∧ (∀ y ∈ L, y.base = x) ∧ RoadKit.Keep h h' [x] ∧ h'.size = h.size + 1 ∧ RoadKit.Exa Z h' x ST ∧ RoadKit.Fld Z h' x ST "value" "[B" (.ref h.size) ∧ RoadKit.Fld Z h' x ST "coder" "B" (.int 0) ∧
  (∃ V : Cell, RoadKit.Arr Z h' h.size V .byte ∧ V.vm = .none ∧ Z.vm.findClass "[B" = some V.cls ∧ V.slots.size = A.slots.size ∧ ∀ j, j < A.slots.size → V.slots[j]? = some (.int (lo8 (cv A j)))) ∧
  ∀ (O n d : String) (w : Value), RoadKit.Fld Z h x O n d w → RoadKit.slotOf Z O n d ≠ RoadKit.slotOf Z ST "value" "[B" → RoadKit.slotOf Z O n d ≠ RoadKit.slotOf Z ST "coder" "B" → RoadKit.Fld Z h' x O n d w
/-- **new String(chars) AT A CALL, IN THE ROAD'S FORM**: for specialBack behind newO: x the fresh String, b the char[] with the cell A -/
theorem back {p : Program} {l : Launch} {e : Env} {R : Room} {s : State} {args : Array Value} {below : List Frame} {len W : Nat} {Z : State} {a0 : Array Value} {h : Heap} (hZ : Z.Warmed39 s.vm) (hw : ∀ d ∈ words, d.before a0 Z = true) {kI : Nat} (wi : (Jvm.Cond.instantiable ST kI).before a0 Z = true)
    {x b : Addr} {A : Cell} {z : Int32} {v0 c0 : Value} (E : RoadKit.Exa Z h x ST) (V : RoadKit.Fld Z h x ST "value" "[B" v0) (C : RoadKit.Fld Z h x ST "coder" "B" c0) (K : RoadKit.Arr Z h b A .char) (hty : Typed .char A) (S : RoadKit.Sta Z h ST "COMPACT_STRINGS" "Z" (.int z)) (hz : ¬ z = 0)
    (l0 : 0 < A.slots.size) (l2 : A.slots.size ≤ 536870912) (hp : ∀ i, i < A.slots.size → ¬ 255 < cv A i) (hfr : 4 ≤ R.frames) (hlo : W + 65 ≤ R.locals) :
    Back l R p e below s args New1.yN len W (fun P a => a = #[.ref x, .ref b] ∧ P.U.heap = h ∧ P.cells + 1 ≤ R.cells ∧ P.slots + A.slots.size ≤ R.slots)
      (fun P _ v B => ∃ L, Q Z x A h v B.U.heap L ∧ B.locs = P.locs ++ L ∧ B.cells = P.cells + 1 ∧ B.slots = P.slots + A.slots.size) := by
  intro m meth c P g ig mk a X hg hsize hdg hW hn hp'
  obtain ⟨rfl, rfl, r1, r2⟩ := hp'
  have al : Z.vm.Alike P.U.vm := hZ.alike.trans X.warmed.alike
  obtain ⟨D, cfV, kV, iV, fV, hD, gV, stV, knV, obV, asV, slV⟩ := id V
  obtain ⟨D', cfC, kC, iC, fC, hD', gC, stC, -, -, asC, slC⟩ := id C
  cases hD.symm.trans hD'
  obtain ⟨D2, kD, e1, e2, e3, e4, e5⟩ := id E
  cases hD.symm.trans e1
  obtain ⟨c2, k2, i1, i2, i3, -⟩ := Cond.instantiable_spec wi
  cases e2.symm.trans i1
  cases e3.symm.trans i2
  obtain ⟨kU, u1, u2⟩ := al.2.2 _ _ e3
  have hB : Blank ST x D P.U := ⟨hD, ⟨knV, fun q hq => by rw [hq] at obV; cases obV⟩, by rw [al.findClass]; exact e2, kU, u1, by rw [u2]; exact i3, by rw [u2]; exact e5 i3⟩
  have F1 : Found ST "value" "[B" fV P.U := ⟨SBG.found_only al ⟨cfV, kV, iV, gV⟩, stV⟩
  have F2 : Found ST "coder" "B" fC P.U := ⟨SBG.found_only al ⟨cfC, kC, iC, gC⟩, stC⟩
  have hA : Ch b A P.U := ⟨⟨K.1, State.isArrayOf_alike al K.2.1, K.2.2, by omega⟩, hty⟩
  have hS : StaticIs P.U ST "COMPACT_STRINGS" "Z" (.int z) := by
    obtain ⟨cfS, iS, kS, fS, st, cS, t1, t2, t3, t4, t5, t6, t7⟩ := S
    exact StaticIs.there (s := { Z with heap := P.U.heap }) ⟨cfS, iS, kS, fS, st, cS, t1, t2, t3, t4, t5, (fun q => by rw [q] at t6; cases t6), t7⟩ al rfl
  obtain ⟨v, B, X', ⟨⟨hv, E', V', q1, q2, q3, q4, q5, q6, q7, q8, q9, q10, q11⟩, hl, hc, hs⟩, st⟩ := New1.pays x D fV fC b A z (tab_of (moved hZ hw)) hfr hlo m meth c P g ig mk _ X hg hsize hdg hW hn ⟨r1, r2, rfl, hB, F1, F2, hA, hS, hz, l0, l2, hp⟩
  have al' : Z.vm.Alike B.U.vm := hZ.alike.trans X'.warmed.alike
  have hsz : E'.slots.size = D.slots.size := by
    obtain ⟨-, -, -, kB, w1, w2, w3⟩ := q1
    obtain ⟨kB', y1, y2⟩ := al'.2.2 _ _ e3
    rw [q2.2.1] at w1
    cases w1.symm.trans y1
    rw [w3, e5 i3, y2]
  refine ⟨v, B, X', ⟨_, ⟨hv, ?_, ⟨by omega, fun y cy hy hn' => q10 y cy (by simpa using hn') hy, fun y cy hy => ?_⟩, q11, ⟨E', _, q1.1, by rw [q2.2.1]; exact e2, by rw [q2.2.1]; exact e3, by rw [q2.1]; exact obV, fun _ => by rw [hsz]; exact e5 i3⟩,
    ⟨E', cfV, kV, iV, fV, q1.1, gV, stV, by rw [q2.1]; exact knV, by rw [q2.1]; exact obV, by rw [q2.2.1]; exact asV, q3⟩, ⟨E', cfC, kC, iC, fC, q1.1, gC, stC, by rw [q2.1]; exact knV, by rw [q2.1]; exact obV, by rw [q2.2.1]; exact asC, q4⟩,
    ⟨V', ⟨q5.1, State.isArrayOf_alike al'.symm q5.2.1, q5.2.2.1⟩, q6, by rw [← al'.findClass]; exact q7, q8, fun j hj => by have := q9 j hj; rwa [Nat.zero_add] at this⟩, fun O n d w F n1 n2 => ?_⟩, hl, hc, hs⟩, st⟩
  · intro y hy
    simp only [List.mem_cons, List.not_mem_nil, or_false] at hy
    rcases hy with rfl | rfl <;> rfl
  · by_cases q : y = x
    · subst q
      cases hD.symm.trans hy
      exact ⟨E', q1.1, q2.2.1, q2.1, hsz⟩
    · exact ⟨cy, q10 y cy q hy, rfl, rfl, rfl⟩
  · obtain ⟨D3, cf, k, i, f, g1, g2, g3, g4, g5, g6, g7⟩ := F
    cases hD.symm.trans g1
    simp only [RoadKit.slotOf, g2, gV, gC, Option.map_some, Option.getD_some] at n1 n2
    exact ⟨E', cf, k, i, f, q1.1, g2, g3, by rw [q2.1]; exact g4, by rw [q2.1]; exact g5, by rw [q2.2.1]; exact g6, by rw [q2.2.2 f.slot (by simp [n1, n2])]; exact g7⟩
end StrChars.Road
namespace StrChars.Road
open Jvm Sem ClassFile Op Lib Jvm.Stand Jvm.Free Jvm.Free.XT
/-- WHAT COMES BACK, the byte[] as a list of values -/
def QA (Z : State) (x : Addr) (zn : Int32) (cs : List Int32) (h : Heap) (v : Option Value) (h' : Heap) (L : List Loc) : Prop := v = none ∧ (∀ y ∈ L, y.base = x) ∧ RoadKit.Keep h h' [x] ∧ h'.size = h.size + 1 ∧ RoadKit.Exa Z h' x ST ∧ RoadKit.Fld Z h' x ST "value" "[B" (.ref h.size) ∧ RoadKit.Fld Z h' x ST "coder" "B" (.int 0) ∧
  (∃ kb, Z.vm.findClass "[B" = some kb ∧ RoadKit.Arv Z h' h.size kb .byte zn (cs.map fun c => .int (lo8 c)) (.int 0)) ∧
  ∀ (O n d : String) (w : Value), RoadKit.Fld Z h x O n d w → RoadKit.slotOf Z O n d ≠ RoadKit.slotOf Z ST "value" "[B" → RoadKit.slotOf Z O n d ≠ RoadKit.slotOf Z ST "coder" "B" → RoadKit.Fld Z h' x O n d w
/-- **new String(chars) AT A CALL, THE ARRAYS AS LISTS**: the char[] at b holds cs, not empty, no char above 255 -/
theorem backArv {p : Program} {l : Launch} {e : Env} {R : Room} {s : State} {args : Array Value} {below : List Frame} {len W : Nat} {Z : State} {a0 : Array Value} {h : Heap} (hZ : Z.Warmed39 s.vm) (hw : ∀ d ∈ words, d.before a0 Z = true) {kI : Nat} (wi : (Jvm.Cond.instantiable ST kI).before a0 Z = true)
    {x b : Addr} {k : ClassId} {zn z : Int32} {cs : List Int32} {dv v0 c0 : Value} (E : RoadKit.Exa Z h x ST) (V : RoadKit.Fld Z h x ST "value" "[B" v0) (C : RoadKit.Fld Z h x ST "coder" "B" c0) (K : RoadKit.Arv Z h b k .char zn (cs.map Value.int) dv) (S : RoadKit.Sta Z h ST "COMPACT_STRINGS" "Z" (.int z)) (hz : ¬ z = 0)
    (hlen : zn.toNatClampNeg = cs.length) (h0 : 0 < cs.length) (hbig : cs.length ≤ 536870912) (hall : ∀ c ∈ cs, ¬ 255 < c) (hfr : 4 ≤ R.frames) (hlo : W + 65 ≤ R.locals) :
    Back l R p e below s args New1.yN len W (fun P a => a = #[.ref x, .ref b] ∧ P.U.heap = h ∧ P.cells + 1 ≤ R.cells ∧ P.slots + cs.length ≤ R.slots)
      (fun P _ v B => ∃ L, QA Z x zn cs h v B.U.heap L ∧ B.locs = P.locs ++ L ∧ B.cells = P.cells + 1 ∧ B.slots = P.slots + cs.length) := by
  obtain ⟨A, K1, K2, K3, K4, K5, K6⟩ := K
  have e : A.slots.size = cs.length := K3.trans hlen
  have hat : ∀ (i : Nat) (hi : i < cs.length), A.slots[i]? = some (.int cs[i]) := fun i hi => by rw [K5 i (by omega)]; simp [List.getD_eq_getElem?_getD, hi]
  have hcv : ∀ (i : Nat) (hi : i < cs.length), cv A i = cs[i] := fun i hi => by unfold cv; rw [hat i hi]
  have hty : Typed .char A := fun i v hv => by
    have hi : i < A.slots.size := (Array.getElem?_eq_some_iff.mp hv).1
    have q := K5 i hi
    rw [hv] at q
    rw [Option.some.inj q]
    exact K6 i hi
  refine Back.mono (back hZ hw wi E V C K1 hty S hz (by omega) (by omega) (fun i hi => by rw [hcv i (by omega)]; exact hall _ (List.getElem_mem _)) hfr hlo) (fun P a hp => ⟨hp.1, hp.2.1, hp.2.2.1, by rw [e]; exact hp.2.2.2⟩) (fun P a v B hp hq => ?_)
  obtain ⟨L, ⟨q1, q2, q3, q4, q5, q6, q7, ⟨V', v1, v2, v3, v4, v5⟩, q9⟩, hl, hc, hs⟩ := hq
  refine ⟨L, ⟨q1, q2, q3, q4, q5, q6, q7, ⟨V'.cls, v3, V', v1, rfl, by rw [v4, e, hlen], K4, fun i hi => ?_, fun i hi => ?_⟩, q9⟩, hl, hc, by rw [hs, e]⟩
  · have hi' : i < cs.length := by omega
    rw [v5 i (by omega), hcv i hi']; simp [List.getD_eq_getElem?_getD, hi']
  · have hi' : i < cs.length := by omega
    simp only [List.getD_eq_getElem?_getD, List.getElem?_map, List.getElem?_eq_getElem hi', Option.map_some, Option.getD_some]
    exact fits_lo8 _
end StrChars.Road
namespace StrChars.Road
open Jvm Sem ClassFile Op Lib Jvm.Stand Jvm.Free Jvm.Free.XT
/-- WHAT COMES BACK, in the writer's own shape -/
def QV (Z : State) (x : Addr) (N : Int32) (bs : List Int32) (h : Heap) (n0 : Nat) (v : Option Value) (h' : Heap) (L : List Loc) : Prop := v = none ∧ RoadKit.Fr n0 L ∧ RoadKit.Keep h h' [x] ∧ RoadKit.Exa Z h' x ST ∧ RoadKit.Fld Z h' x ST "coder" "B" (.int 0) ∧
  ∃ (t : Addr) (kb : ClassId), n0 ≤ t ∧ h.size ≤ t ∧ ¬ t = x ∧ RoadKit.Fld Z h' x ST "value" "[B" (.ref t) ∧ RoadKit.Arv Z h' t kb .byte N (bs.map Value.int) (.int 0)
/-- **new String(chars) AT A CALL, FOR THE WRITER**: a char[] of n known ints, each 0 to 255 -/
theorem backV {p : Program} {l : Launch} {e : Env} {R : Room} {s : State} {args : Array Value} {below : List Frame} {len W : Nat} {Z : State} {a0 : Array Value} {h : Heap} (hZ : Z.Warmed39 s.vm) (hw : ∀ d ∈ words, d.before a0 Z = true) {kI : Nat} (wi : (Jvm.Cond.instantiable ST kI).before a0 Z = true)
    {x b : Addr} {kC : ClassId} {cs bs : List Int32} {d v0 c0 : Value} {z N : Int32} {n n0 : Nat} (hx0 : n0 ≤ x) (hh0 : n0 ≤ h.size) (E : RoadKit.Exa Z h x ST) (V : RoadKit.Fld Z h x ST "value" "[B" v0) (C : RoadKit.Fld Z h x ST "coder" "B" c0) (K : RoadKit.Arv Z h b kC .char N (cs.map Value.int) d) (S : RoadKit.Sta Z h ST "COMPACT_STRINGS" "Z" (.int z)) (hz : ¬ z = 0)
    (hn : cs.length = n) (hN : N = Int32.ofNat n) (l0 : 0 < n) (l2 : n ≤ 4000) (hp : ∀ c ∈ cs, ¬ c < 0 ∧ ¬ (255 : Int32) < c) (hb : bs = cs.map (fun c => c.toInt8.toInt32)) (hfr : 4 ≤ R.frames) (hlo : W + 65 ≤ R.locals) :
    Back l R p e below s args (⟨"java/lang/String", "<init>", "([C)V"⟩ : MethodName) len W (fun P a => a = #[.ref x, .ref b] ∧ P.U.heap = h ∧ P.cells + 1 ≤ R.cells ∧ P.slots + n ≤ R.slots)
      (fun P _ v B => ∃ L, QV Z x N bs h n0 v B.U.heap L ∧ B.locs = P.locs ++ L ∧ B.cells = P.cells + 1 ∧ B.slots = P.slots + n) := by
  subst hn hN hb
  refine Back.mono (backArv hZ hw wi E V C K S hz (n32 (by omega)) l0 (by omega) (fun c hc => (hp c hc).2) hfr hlo) (fun P a hp => hp) (fun P a v B hp hq => ?_)
  obtain ⟨L, ⟨q1, q2, q3, q4, q5, q6, q7, ⟨kb, v1, v2⟩, q9⟩, hl, hc, hs⟩ := hq
  exact ⟨L, ⟨q1, fun y hy => by rw [q2 y hy]; exact hx0, q3, q5, q7, h.size, kb, hh0, Nat.le_refl _, Nat.ne_of_gt E.lt, q6, by rw [List.map_map]; exact v2⟩, hl, hc, hs⟩
end StrChars.Road
namespace StrChars
open Jvm Sem ClassFile Op Lib Jvm.Stand Jvm.Free.XT Jvm.Free.ALB Jvm.Free.JM Jvm.Free
open Jvm.Lib.Cold (StaticIs)
def hi8 (x : Int32) : Int32 := lo8 (x >>> ((8 : Int32) &&& 31))
/-- what StringUTF16.getChar makes of two bytes -/
def pairCh (u v : Int32) : Int32 := (((u &&& 255) <<< ((0 : Int32) &&& 31)) ||| ((v &&& 255) <<< ((8 : Int32) &&& 31))).toUInt32.toUInt16.toUInt32.toInt32
theorem shr0 (c : Int32) : c >>> ((0 : Int32) &&& 31) = c := by
  have e : ((0 : Int32) &&& 31) = 0 := by decide
  rw [e]
  apply Int32.toBitVec_inj.mp
  rw [Int32.toBitVec_shiftRight]
  have e1 : ((0 : Int32).toBitVec.smod 32) = 0#32 := by decide
  rw [e1, BitVec.sshiftRight_eq']
  exact BitVec.sshiftRight_zero
theorem lo8_and (x : Int32) : (lo8 x &&& 255).toBitVec.toNat = x.toBitVec.toNat % 256 := by
  have h : (lo8 x).toBitVec = (x.toBitVec.signExtend 8).signExtend 32 := by rw [lo8, Int8.toBitVec_toInt32, Int32.toBitVec_toInt8]
  rw [Int32.toBitVec_and, BitVec.toNat_and, h]
  have e : ((x.toBitVec.signExtend 8).signExtend 32).toNat % 256 = x.toBitVec.toNat % 256 := by
    rw [BitVec.toNat_signExtend]
    have hlt := x.toBitVec.isLt
    simp only [BitVec.toNat_setWidth, BitVec.toNat_signExtend]
    split <;> split <;> omega
  rw [← e]
  exact Nat.and_two_pow_sub_one_eq_mod _ 8
theorem pair_says {c : Int32} (h0 : ¬ c < 0) (h1 : ¬ 65535 < c) : pairCh (lo8 c) (hi8 c) = c := by
  rw [Int32.lt_iff_toInt_lt] at h0 h1
  have e0 : (0 : Int32).toInt = 0 := rfl
  have e1 : (65535 : Int32).toInt = 65535 := rfl
  have hc : c.toInt = c.toBitVec.toNat := by
    have := c.toBitVec.isLt
    have e : c.toInt = c.toBitVec.toInt := rfl
    rw [e] at h0 h1
    rw [e]
    rw [BitVec.toInt_eq_toNat_cond] at h0 h1 ⊢
    split at h0 <;> split <;> omega
  have hn : c.toBitVec.toNat < 65536 := by omega
  have a1 := lo8_and c
  have a2 : (hi8 c &&& 255).toBitVec.toNat = c.toBitVec.toNat / 256 := by
    rw [hi8, lo8_and]
    have e : ((8 : Int32) &&& 31) = 8 := by decide
    rw [e, Int32.toBitVec_shiftRight]
    have e2 : ((8 : Int32).toBitVec.smod 32) = 8#32 := by decide
    rw [e2, BitVec.sshiftRight_eq', BitVec.toNat_sshiftRight_of_msb_false (by rw [BitVec.msb_eq_false_iff_two_mul_lt]; omega)]
    show c.toBitVec.toNat >>> 8 % 256 = _
    rw [Nat.shiftRight_eq_div_pow]
    omega
  unfold pairCh
  apply Int32.toBitVec_inj.mp
  apply BitVec.eq_of_toNat_eq
  have f0 : ((0 : Int32) &&& 31) = 0 := by decide
  have f8 : ((8 : Int32) &&& 31) = 8 := by decide
  rw [f0, f8]
  have g : (((lo8 c &&& 255) <<< (0 : Int32)) ||| ((hi8 c &&& 255) <<< (8 : Int32))).toBitVec.toNat = c.toBitVec.toNat := by
    rw [Int32.toBitVec_or, Int32.toBitVec_shiftLeft, Int32.toBitVec_shiftLeft]
    have s0 : ((0 : Int32).toBitVec.smod 32) = 0#32 := by decide
    have s8 : ((8 : Int32).toBitVec.smod 32) = 8#32 := by decide
    rw [s0, s8, BitVec.toNat_or]
    simp only [BitVec.shiftLeft_eq', BitVec.toNat_shiftLeft, a1, a2]
    show (c.toBitVec.toNat % 256) <<< 0 % 2 ^ 32 ||| (c.toBitVec.toNat / 256) <<< 8 % 2 ^ 32 = _
    rw [Nat.shiftLeft_zero, Nat.mod_eq_of_lt (show c.toBitVec.toNat % 256 < 2 ^ 32 by omega), Nat.mod_eq_of_lt (show (c.toBitVec.toNat / 256) <<< 8 < 2 ^ 32 by rw [Nat.shiftLeft_eq]; omega), Nat.or_comm, ← Nat.shiftLeft_add_eq_or_of_lt (by omega), Nat.shiftLeft_eq]
    omega
  show BitVec.toNat (((((lo8 c &&& 255) <<< (0 : Int32)) ||| ((hi8 c &&& 255) <<< (8 : Int32))).toBitVec.setWidth 16).setWidth 32) = _
  rw [BitVec.toNat_setWidth, BitVec.toNat_setWidth, g]
  omega
end StrChars
namespace StrChars
open Jvm Sem ClassFile Op Lib Jvm.Stand Jvm.Free.XT Jvm.Free.ALB Jvm.Free.JM Jvm.Free
open Jvm.Lib.Cold (StaticIs)
theorem shr1 {n : Nat} (h : 2 * n < 2 ^ 31) : Int32.ofNat (2 * n) >>> ((1 : Int32) &&& 31) = Int32.ofNat n := by
  have e : ((1 : Int32) &&& 31) = 1 := by decide
  rw [e]
  apply Int32.toBitVec_inj.mp
  rw [Int32.toBitVec_shiftRight]
  have e1 : ((1 : Int32).toBitVec.smod 32) = 1#32 := by decide
  have hm : (BitVec.ofNat 32 (2 * n)).toNat = 2 * n := by rw [BitVec.toNat_ofNat, Nat.mod_eq_of_lt (by omega)]
  rw [e1, BitVec.sshiftRight_eq']
  apply BitVec.eq_of_toNat_eq
  show ((BitVec.ofNat 32 (2 * n)).sshiftRight 1).toNat = (BitVec.ofNat 32 n).toNat
  rw [BitVec.toNat_sshiftRight_of_msb_false (by rw [BitVec.msb_eq_false_iff_two_mul_lt, hm]; omega), hm, BitVec.toNat_ofNat, Nat.shiftRight_eq_div_pow]
  omega
/-- charAt's cast of a byte read back -/
def chr8 (u : Int32) : Int32 := (u &&& 255).toUInt32.toUInt16.toUInt32.toInt32
theorem chr8_lo8 {c : Int32} (h0 : ¬ c < 0) (h1 : ¬ 255 < c) : chr8 (lo8 c) = c := by
  have t : ∀ k : Fin 256, (Int32.ofNat k.val).toUInt32.toUInt16.toUInt32.toInt32 = Int32.ofNat k.val := by decide +kernel
  unfold chr8
  rw [lo8_mask h0 h1]
  rw [Int32.lt_iff_toInt_lt] at h0 h1
  have e0 : (0 : Int32).toInt = 0 := rfl
  have e1 : (255 : Int32).toInt = 255 := rfl
  obtain ⟨k, hk⟩ : ∃ k : Nat, c.toInt = k := ⟨c.toInt.toNat, by omega⟩
  have hx : c = Int32.ofNat k := Int32.toInt_inj.mp (by rw [hk, Int32.toInt_ofNat_small (by omega)])
  rw [hx]
  exact t ⟨k, by omega⟩
theorem narrow_ch {c : Int32} (h0 : ¬ c < 0) (h1 : ¬ 65535 < c) : narrow .char (.int c) = .int c := by
  have q : narrow .char (.int (pairCh (lo8 c) (hi8 c))) = .int (pairCh (lo8 c) (hi8 c)) := narrow_c _
  rwa [pair_says h0 h1] at q
/-- the array's cell V codes the n chars f 0 .. f (n - 1) by the coder cd, as the JDK does: coder 1 just where some char is above 255 -/
def Cod (cd : Int32) (n : Nat) (f : Nat → Int32) (V : Cell) : Prop := (cd = 0 ∧ V.slots.size = n ∧ ∀ j, j < n → V.slots[j]? = some (.int (lo8 (f j))) ∧ ¬ 255 < f j) ∨ (cd = 1 ∧ V.slots.size = 2 * n ∧ (∀ j, j < n → V.slots[2 * j]? = some (.int (lo8 (f j))) ∧ V.slots[2 * j + 1]? = some (.int (hi8 (f j)))) ∧ ∃ j, j < n ∧ 255 < f j)
theorem Cod.cd {cd : Int32} {n : Nat} {f : Nat → Int32} {V : Cell} (h : Cod cd n f V) : cd = 0 ∨ cd = 1 := h.imp (fun q => q.1) fun q => q.1
theorem Cod.len {cd : Int32} {n : Nat} {f : Nat → Int32} {V : Cell} (h : Cod cd n f V) (hs : V.slots.size < 2 ^ 31) : Int32.ofNat V.slots.size >>> (cd &&& 31) = Int32.ofNat n := by
  rcases h with ⟨rfl, h, -⟩ | ⟨rfl, h, -⟩
  · rw [shr0, h]
  · rw [h, shr1 (by omega)]
/-- **x is a String of the n chars f 0 .. f (n - 1)**, Latin-1 or UTF-16; its array at t has the cell V -/
def Txt (x t : Addr) (V : Cell) (cd : Int32) (n : Nat) (f : Nat → Int32) (U : State) : Prop := Exact "java/lang/String" x U ∧ Has x "java/lang/String" "value" "[B" (.ref t) U ∧ Has x "java/lang/String" "coder" "B" (.int cd) U ∧ XT.Arr .byte t V U ∧ Cod cd n f V ∧ ∀ j, j < n → ¬ f j < 0 ∧ ¬ 65535 < f j
theorem Txt.mv {x t : Addr} {V : Cell} {cd : Int32} {n : Nat} {f : Nat → Int32} {U U' : State} (h : Txt x t V cd n f U) (hal : U.vm.Alike U'.vm) (hh : U'.heap = U.heap) : Txt x t V cd n f U' := ⟨h.1.mv hal hh, h.2.1.mv hal hh, h.2.2.1.mv hal hh, h.2.2.2.1.mv hal hh, h.2.2.2.2⟩
namespace Cdr
def yN : MethodName := ⟨"java/lang/String", "coder", "()B"⟩
abbrev yB : ByteArray := jdk_42_method_152_code
theorem d0 : decode yB 0 = .ok (.getstatic 38, 3) := by decide +kernel
theorem d3 : decode yB 3 = .ok (.ifCond (.eq) 10, 3) := by decide +kernel
theorem d6 : decode yB 6 = .ok (.aload_n 0, 1) := by decide +kernel
theorem d7 : decode yB 7 = .ok (.getfield 15, 3) := by decide +kernel
theorem d10 : decode yB 10 = .ok (.goto 4, 3) := by decide +kernel
theorem d14 : decode yB 14 = .ok (.ireturn, 1) := by decide +kernel
def site : List Cond := [.fieldLink "java/lang/String" 38 "java/lang/String" "COMPACT_STRINGS" "Z", .fieldLink "java/lang/String" 15 "java/lang/String" "coder" "B"]
def tab : Cond := tabOf yN yB 1 (some .byte) site
def P (x : Addr) (cd z : Int32) (args : Array Value) (s : State) : Prop := args = #[.ref x] ∧ Has x "java/lang/String" "coder" "B" (.int cd) s ∧ (cd = 0 ∨ cd = 1) ∧ StaticIs s "java/lang/String" "COMPACT_STRINGS" "Z" (.int z) ∧ ¬ z = 0
def E (cd : Int32) (r : Option Value) (s u : State) : Prop := XT.PureE (some (.int cd)) r s u
theorem law (l : Launch) (x : Addr) (cd z : Int32) : Law l yN 1 0 0 0 yB 1 (some .byte) site (P x cd z) (E cd) [] 0 0 := by
  refine Law.of_walk (plainFor_of_name (by decide +kernel)) (by decide +kernel) (by decide +kernel) (by decide) (fun _ _ h => by rw [h.1]; rfl) (fun _ U U' hal hh h => ⟨h.1, h.2.1.mv hal hh, h.2.2.1, h.2.2.2.1.there hal hh, h.2.2.2.2⟩) (fun r U U' V V' h1 hal h2 h => XT.PureE.mv r U U' V V' h1 hal h2 h) ?_
  intro p e s m args below meth c s₁ X0 hexec hbytes hml hret hlk hnm hown hh0 W hP
  obtain ⟨rfl, hx, hc, s1, hz⟩ := hP
  have c1 : Steps p.tables e below (s₁.setTop (entryFrame m #[.ref x] 1)) (s₁.setTop (mkF m 0 #[.val (.ref x)] [])) := entry rfl
  obtain ⟨T2, X2, q2, st2⟩ := X0.sget hexec hown (wk W (.fieldLink "java/lang/String" 38 "java/lang/String" "COMPACT_STRINGS" "Z")) s1 (fun _ _ h => by rw [hh0]; exact h) (g := (mkF m 0 #[.val (.ref x)] [])) rfl (hb hbytes d0)
  have hh2 := q2.trans hh0
  have c3 : Steps p.tables e below (s₁.setTop (entryFrame m #[.ref x] 1)) (T2.setTop (mkF m 7 #[.val (.ref x)] [.ref x])) := (c1.trans (st2 _ (Steps.refl _))).trans (by
    refine XS.ifNo X2.here hexec rfl (hb hbytes d3) rfl (i0_eq_f hz) ?_
    refine XS.aloadN X2.here hexec rfl (hb hbytes d6) rfl rfl ?_
    exact Steps.refl _)
  obtain ⟨T4, X4, q4, st4⟩ := X2.hget hexec hown (wk W (.fieldLink "java/lang/String" 15 "java/lang/String" "coder" "B")) (hx.mv X2.warmed.alike hh2) (g := (mkF m 7 #[.val (.ref x)] [.ref x])) rfl (rest := []) rfl (hb hbytes d7)
  have c5 : Steps p.tables e below (s₁.setTop (entryFrame m #[.ref x] 1)) (T4.setTop (mkF m 14 #[.val (.ref x)] [.int cd])) := (c3.trans (st4 _ (Steps.refl _))).trans (by
    refine XS.goto X4.here hexec rfl (pc0 := 10) rfl (hb hbytes d10) (by decide) rfl ?_
    exact Steps.refl _)
  exact ⟨T4, some (.int cd), _, _, _, X4, rfl, rfl, rfl, (fun h => by cases h), ⟨rfl, q4.trans hh2⟩, fun fs hl => c5.trans (X4.ireturnOut hexec hret (by rcases hc with rfl | rfl <;> rfl) (Or.inr (Or.inr (Or.inl rfl))) (hb hbytes d14) hl)⟩
end Cdr
namespace Len
def yN : MethodName := ⟨"java/lang/String", "length", "()I"⟩
abbrev yB : ByteArray := jdk_42_method_54_code
theorem d0 : decode yB 0 = .ok (.aload_n 0, 1) := by decide +kernel
theorem d1 : decode yB 1 = .ok (.getfield 9, 3) := by decide +kernel
theorem d4 : decode yB 4 = .ok (.arraylength, 1) := by decide +kernel
theorem d5 : decode yB 5 = .ok (.aload_n 0, 1) := by decide +kernel
theorem d6 : decode yB 6 = .ok (.invokevirtual 335, 3) := by decide +kernel
theorem d9 : decode yB 9 = .ok (.ishr, 1) := by decide +kernel
theorem d10 : decode yB 10 = .ok (.ireturn, 1) := by decide +kernel
def site : List Cond := [.fieldLink "java/lang/String" 9 "java/lang/String" "value" "[B", Cdr.tab] ++ virtW "java/lang/String" 335 "java/lang/String" Cdr.yN Cdr.yN
def tab : Cond := tabOf yN yB 1 (some .int) site
def P (x t : Addr) (V : Cell) (cd : Int32) (n : Nat) (f : Nat → Int32) (z : Int32) (args : Array Value) (s : State) : Prop := args = #[.ref x] ∧ Txt x t V cd n f s ∧ StaticIs s "java/lang/String" "COMPACT_STRINGS" "Z" (.int z) ∧ ¬ z = 0
def E (n : Nat) (r : Option Value) (s u : State) : Prop := XT.PureE (some (.int (Int32.ofNat n))) r s u
/-- length() of a String of n chars, in either coding -/
theorem law (l : Launch) (x t : Addr) (V : Cell) (cd : Int32) (n : Nat) (f : Nat → Int32) (z : Int32) : Law l yN 1 0 1 13 yB 1 (some .int) site (P x t V cd n f z) (E n) [] 0 0 := by
  refine Law.of_walk (plainFor_of_name (by decide +kernel)) (by decide +kernel) (by decide +kernel) (by decide) (fun _ _ h => by rw [h.1]; rfl) (fun _ U U' hal hh h => ⟨h.1, h.2.1.mv hal hh, h.2.2.1.there hal hh, h.2.2.2⟩) (fun r U U' V V' h1 hal h2 h => XT.PureE.mv r U U' V V' h1 hal h2 h) ?_
  intro p e s m args below meth c s₁ X0 hexec hbytes hml hret hlk hnm hown hh0 W hP
  obtain ⟨rfl, hx, s1, hz⟩ := hP
  have v31 := hx.2.2.2.1.2.2.2
  have c1 : Steps p.tables e below (s₁.setTop (entryFrame m #[.ref x] 1)) (s₁.setTop (mkF m 1 #[.val (.ref x)] [.ref x])) := Steps.trans (entry rfl) (by
    show Steps p.tables e below (s₁.setTop (mkF m 0 #[.val (.ref x)] [])) _
    refine XS.aloadN X0.here hexec rfl (hb hbytes d0) rfl rfl ?_
    exact Steps.refl _)
  obtain ⟨T2, X2, q2, st2⟩ := X0.hget hexec hown (wk W (.fieldLink "java/lang/String" 9 "java/lang/String" "value" "[B")) (hx.mv X0.warmed.alike hh0).2.1 (g := (mkF m 1 #[.val (.ref x)] [.ref x])) rfl (rest := []) rfl (hb hbytes d1)
  have hh2 := q2.trans hh0
  have hx2 := hx.mv X2.warmed.alike hh2
  have c3 : Steps p.tables e below (s₁.setTop (entryFrame m #[.ref x] 1)) (T2.setTop (mkF m 6 #[.val (.ref x)] [.ref x, .int (Int32.ofNat V.slots.size)])) := (c1.trans (st2 _ (Steps.refl _))).trans (by
    refine X2.alen hexec hx2.2.2.2.1 rfl rfl (hb hbytes d4) ?_
    refine XS.aloadN X2.here hexec rfl (hb hbytes d5) rfl rfl ?_
    exact Steps.refl _)
  obtain ⟨v4, T4, X4, E4, g4⟩ := X2.callV hexec (Cdr.law l x cd z) hown (wks W (virtW "java/lang/String" 335 "java/lang/String" Cdr.yN Cdr.yN)) rfl (by decide) (wk W Cdr.tab) (W := 1) (Nat.le_of_ble_eq_true rfl) (Nat.le_of_ble_eq_true rfl) (Nat.le_refl _) (Nat.le_refl _) (hx2.1.fc X2.warmed.alike) hx2.1.is (g := (mkF m 6 #[.val (.ref x)] [.ref x, .int (Int32.ofNat V.slots.size)])) rfl (by rw [hml]; rfl) c3 (argsL := []) (rest := [.int (Int32.ofNat V.slots.size)]) rfl rfl (by show 2 * 0 + (1 + 0) ≤ _; decide) (hb hbytes d6) (⟨rfl, hx2.2.2.1, hx.2.2.2.2.1.cd, s1.there X2.warmed.alike hh2, hz⟩)
  obtain ⟨rfl, q4⟩ := E4
  have c5 : Steps p.tables e below (s₁.setTop (entryFrame m #[.ref x] 1)) (T4.setTop (mkF m 10 #[.val (.ref x)] [.int (Int32.ofNat V.slots.size >>> (cd &&& 31))])) := Steps.trans g4 (by
    refine ishr X4.here hexec rfl (hb hbytes d9) rfl ?_
    exact Steps.refl _)
  rw [hx.2.2.2.2.1.len v31] at c5
  exact ⟨T4, some (.int (Int32.ofNat n)), _, _, _, X4, rfl, rfl, rfl, (fun h => by cases h), ⟨rfl, q4.trans hh2⟩, fun fs hl => c5.trans (X4.ireturnOut hexec hret rfl (Or.inl rfl) (hb hbytes d10) hl)⟩
theorem pays {l : Launch} {R : Room} {p : Program} {e : Env} {below : List Frame} {s : State} {sargs : Array Value} {len W : Nat} (x t : Addr) (V : Cell) (cd : Int32) (n : Nat) (f : Nat → Int32) (z : Int32) (htab : tab.before sargs s = true) (hfr : 2 ≤ R.frames) (hlo : W + 25 ≤ R.locals) :
    Back l R p e below s sargs yN len W (fun A₁ a₁ => A₁.cells + 0 ≤ R.cells ∧ A₁.slots + 0 ≤ R.slots ∧ P x t V cd n f z a₁ A₁.U) (fun A₁ _ v₁ B₁ => E n v₁ A₁.U B₁.U ∧ B₁.locs = A₁.locs ++ [] ∧ B₁.cells = A₁.cells + 0 ∧ B₁.slots = A₁.slots + 0) :=
  (law l x t V cd n f z).pays htab hfr (by omega)
end Len
namespace IsL
def yN : MethodName := ⟨"java/lang/String", "isLatin1", "()Z"⟩
abbrev yB : ByteArray := jdk_42_method_154_code
theorem d0 : decode yB 0 = .ok (.getstatic 38, 3) := by decide +kernel
theorem d3 : decode yB 3 = .ok (.ifCond (.eq) 14, 3) := by decide +kernel
theorem d6 : decode yB 6 = .ok (.aload_n 0, 1) := by decide +kernel
theorem d7 : decode yB 7 = .ok (.getfield 15, 3) := by decide +kernel
theorem d10 : decode yB 10 = .ok (.ifCond (.ne) 7, 3) := by decide +kernel
theorem d13 : decode yB 13 = .ok (.iconst 1, 1) := by decide +kernel
theorem d14 : decode yB 14 = .ok (.goto 4, 3) := by decide +kernel
theorem d17 : decode yB 17 = .ok (.iconst 0, 1) := by decide +kernel
theorem d18 : decode yB 18 = .ok (.ireturn, 1) := by decide +kernel
def site : List Cond := [.fieldLink "java/lang/String" 38 "java/lang/String" "COMPACT_STRINGS" "Z", .fieldLink "java/lang/String" 15 "java/lang/String" "coder" "B"]
def tab : Cond := tabOf yN yB 1 (some .boolean) site
def P (x : Addr) (cd z : Int32) (args : Array Value) (s : State) : Prop := args = #[.ref x] ∧ Has x "java/lang/String" "coder" "B" (.int cd) s ∧ (cd = 0 ∨ cd = 1) ∧ StaticIs s "java/lang/String" "COMPACT_STRINGS" "Z" (.int z) ∧ ¬ z = 0
def E (cd : Int32) (r : Option Value) (s u : State) : Prop := XT.PureE (some (.int (1 - cd))) r s u
theorem law (l : Launch) (x : Addr) (cd z : Int32) : Law l yN 1 0 0 0 yB 1 (some .boolean) site (P x cd z) (E cd) [] 0 0 := by
  refine Law.of_walk (plainFor_of_name (by decide +kernel)) (by decide +kernel) (by decide +kernel) (by decide) (fun _ _ h => by rw [h.1]; rfl) (fun _ U U' hal hh h => ⟨h.1, h.2.1.mv hal hh, h.2.2.1, h.2.2.2.1.there hal hh, h.2.2.2.2⟩) (fun r U U' V V' h1 hal h2 h => XT.PureE.mv r U U' V V' h1 hal h2 h) ?_
  intro p e s m args below meth c s₁ X0 hexec hbytes hml hret hlk hnm hown hh0 W hP
  obtain ⟨rfl, hx, hc, s1, hz⟩ := hP
  have c1 : Steps p.tables e below (s₁.setTop (entryFrame m #[.ref x] 1)) (s₁.setTop (mkF m 0 #[.val (.ref x)] [])) := entry rfl
  obtain ⟨T2, X2, q2, st2⟩ := X0.sget hexec hown (wk W (.fieldLink "java/lang/String" 38 "java/lang/String" "COMPACT_STRINGS" "Z")) s1 (fun _ _ h => by rw [hh0]; exact h) (g := (mkF m 0 #[.val (.ref x)] [])) rfl (hb hbytes d0)
  have hh2 := q2.trans hh0
  have c3 : Steps p.tables e below (s₁.setTop (entryFrame m #[.ref x] 1)) (T2.setTop (mkF m 7 #[.val (.ref x)] [.ref x])) := (c1.trans (st2 _ (Steps.refl _))).trans (by
    refine XS.ifNo X2.here hexec rfl (hb hbytes d3) rfl (i0_eq_f hz) ?_
    refine XS.aloadN X2.here hexec rfl (hb hbytes d6) rfl rfl ?_
    exact Steps.refl _)
  obtain ⟨T4, X4, q4, st4⟩ := X2.hget hexec hown (wk W (.fieldLink "java/lang/String" 15 "java/lang/String" "coder" "B")) (hx.mv X2.warmed.alike hh2) (g := (mkF m 7 #[.val (.ref x)] [.ref x])) rfl (rest := []) rfl (hb hbytes d7)
  have c5 : Steps p.tables e below (s₁.setTop (entryFrame m #[.ref x] 1)) (T4.setTop (mkF m 10 #[.val (.ref x)] [.int cd])) := c3.trans (st4 _ (Steps.refl _))
  have c6 : Steps p.tables e below (s₁.setTop (entryFrame m #[.ref x] 1)) (T4.setTop (mkF m 18 #[.val (.ref x)] [.int (1 - cd)])) := by
    rcases hc with rfl | rfl
    · exact c5.trans (by
        refine XS.ifNo X4.here hexec rfl (hb hbytes d10) rfl (i0_ne_f rfl) ?_
        refine iconstV X4.here hexec rfl 1 (hb hbytes d13) (by decide) ?_
        refine XS.goto X4.here hexec rfl (pc0 := 14) rfl (hb hbytes d14) (by decide) rfl ?_
        exact Steps.refl _)
    · exact c5.trans (by
        refine XS.ifYes X4.here hexec rfl (pc0 := 10) rfl (hb hbytes d10) rfl (i0_ne_t (by decide)) (by decide) rfl ?_
        refine iconstV X4.here hexec rfl 0 (hb hbytes d17) (by decide) ?_
        exact Steps.refl _)
  exact ⟨T4, some (.int (1 - cd)), _, _, _, X4, rfl, rfl, rfl, (fun h => by cases h), ⟨rfl, q4.trans hh2⟩, fun fs hl => c6.trans (X4.ireturnOut hexec hret (by rcases hc with rfl | rfl <;> rfl) (Or.inr (Or.inl rfl)) (hb hbytes d18) hl)⟩
end IsL
namespace LChA
def yN : MethodName := ⟨"java/lang/StringLatin1", "charAt", "([BI)C"⟩
abbrev yB : ByteArray := jdk_43_method_2_code
theorem d0 : decode yB 0 = .ok (.iload_n 1, 1) := by decide +kernel
theorem d1 : decode yB 1 = .ok (.aload_n 0, 1) := by decide +kernel
theorem d2 : decode yB 2 = .ok (.arraylength, 1) := by decide +kernel
theorem d3 : decode yB 3 = .ok (.invokestatic 9, 3) := by decide +kernel
theorem d6 : decode yB 6 = .ok (.aload_n 0, 1) := by decide +kernel
theorem d7 : decode yB 7 = .ok (.iload_n 1, 1) := by decide +kernel
theorem d8 : decode yB 8 = .ok (.baload, 1) := by decide +kernel
theorem d9 : decode yB 9 = .ok (.sipush 255, 3) := by decide +kernel
theorem d12 : decode yB 12 = .ok (.iand, 1) := by decide +kernel
theorem d13 : decode yB 13 = .ok (.i2c, 1) := by decide +kernel
theorem d14 : decode yB 14 = .ok (.ireturn, 1) := by decide +kernel
def site : List Cond := [JO.Str_checkIndex.tab] ++ staticW "java/lang/StringLatin1" 9 JO.Str_checkIndex.yN
def tab : Cond := tabOf yN yB 2 (some .char) site
def P (t : Addr) (V : Cell) (i : Nat) (u : Int32) (fm : Value) (args : Array Value) (s : State) : Prop := args = #[.ref t, .int (Int32.ofNat i)] ∧ XT.Arr .byte t V s ∧ V.slots[i]? = some (.int u) ∧ (StaticIs s "jdk/internal/util/Preconditions" "SIOOBE_FORMATTER" "Ljava/util/function/BiFunction;" fm ∧ fm.isRef = true)
def E (u : Int32) (r : Option Value) (s w : State) : Prop := XT.PureE (some (.int (chr8 u))) r s w
theorem law (l : Launch) (t : Addr) (V : Cell) (i : Nat) (u : Int32) (fm : Value) : Law l yN 2 2 2 27 yB 2 (some .char) site (P t V i u fm) (E u) [] 0 0 := by
  refine Law.of_walk (plainFor_of_name (by decide +kernel)) (by decide +kernel) (by decide +kernel) (by decide) (fun _ _ h => by rw [h.1]; rfl) (fun _ U U' hal hh h => ⟨h.1, h.2.1.mv hal hh, h.2.2.1, h.2.2.2.1.there hal hh, h.2.2.2.2⟩) (fun r U U' V V' h1 hal h2 h => XT.PureE.mv r U U' V V' h1 hal h2 h) ?_
  intro p e s m args below meth c s₁ X0 hexec hbytes hml hret hlk hnm hown hh0 W hP
  obtain ⟨rfl, hV, hu, s1, rf⟩ := hP
  have v31 := hV.2.2.2
  have hi : i < V.slots.size := (Array.getElem?_eq_some_iff.mp hu).1
  have c1 : Steps p.tables e below (s₁.setTop (entryFrame m #[.ref t, .int (Int32.ofNat i)] 2)) (s₁.setTop (mkF m 0 #[.val (.ref t), .val (.int (Int32.ofNat i))] [])) := entry rfl
  have c2 : Steps p.tables e below (s₁.setTop (entryFrame m #[.ref t, .int (Int32.ofNat i)] 2)) (s₁.setTop (mkF m 3 #[.val (.ref t), .val (.int (Int32.ofNat i))] [.int (Int32.ofNat V.slots.size), .int (Int32.ofNat i)])) := c1.trans (by
    refine XS.iloadN X0.here hexec rfl (hb hbytes d0) rfl ?_
    refine XS.aloadN X0.here hexec rfl (hb hbytes d1) rfl rfl ?_
    refine X0.alen hexec (hV.mv X0.warmed.alike hh0) rfl rfl (hb hbytes d2) ?_
    exact Steps.refl _)
  obtain ⟨v3, T3, X3, E3, g3⟩ := X0.callS hexec (JO.Str_checkIndex.law l (Int32.ofNat i) (Int32.ofNat V.slots.size) fm) hown (wks W (staticW "java/lang/StringLatin1" 9 JO.Str_checkIndex.yN)) (wk W JO.Str_checkIndex.tab) (W := 0) (Nat.le_of_ble_eq_true rfl) (Nat.le_of_ble_eq_true rfl) (Nat.le_refl _) (Nat.le_refl _) (g := (mkF m 3 #[.val (.ref t), .val (.int (Int32.ofNat i))] [.int (Int32.ofNat V.slots.size), .int (Int32.ofNat i)])) rfl (by rw [hml]; rfl) c2 (argsL := [.int (Int32.ofNat i), .int (Int32.ofNat V.slots.size)]) (rest := []) rfl rfl (by show 2 * 0 + 0 ≤ _; decide) (hb hbytes d3) (⟨rfl, rf, s1.there X0.warmed.alike hh0, Int32.ofNat_not_neg (by omega), lt32 v31 hi⟩)
  obtain ⟨rfl, q3⟩ := E3
  have hh3 := q3.trans hh0
  have c4 : Steps p.tables e below (s₁.setTop (entryFrame m #[.ref t, .int (Int32.ofNat i)] 2)) (T3.setTop (mkF m 14 #[.val (.ref t), .val (.int (Int32.ofNat i))] [.int (chr8 u)])) := Steps.trans g3 (by
    refine XS.aloadN X3.here hexec rfl (hb hbytes d6) rfl rfl ?_
    refine XS.iloadN X3.here hexec rfl (hb hbytes d7) rfl ?_
    refine X3.aget hexec (hV.mv X3.warmed.alike hh3) rfl hu rfl rfl (hb hbytes d8) ?_
    refine sipushV X3.here hexec rfl 255 (hb hbytes d9) (by decide) ?_
    refine XS.iand X3.here hexec rfl (hb hbytes d12) rfl ?_
    refine i2c X3.here hexec rfl (hb hbytes d13) rfl ?_
    exact Steps.refl _)
  exact ⟨T3, some (.int (chr8 u)), _, _, _, X3, rfl, rfl, rfl, (fun h => by cases h), ⟨rfl, hh3⟩, fun fs hl => c4.trans (X3.ireturnOut hexec hret (narrow_c _) (Or.inr (Or.inr (Or.inr (Or.inl rfl)))) (hb hbytes d14) hl)⟩
end LChA
end StrChars
namespace StrChars.Road
open Jvm Sem ClassFile Op Lib Jvm.Stand Jvm.Free Jvm.Free.XT
open Jvm.Lib.Cold (StaticIs)
theorem consq {a : Array Value} {s : State} {c : Jvm.Cond} {L : List Jvm.Cond} (h0 : c.before a s = true) (h : ∀ w ∈ L, w.before a s = true) : ∀ w ∈ c :: L, w.before a s = true := fun w hw => (List.mem_cons.mp hw).elim (fun e => e ▸ h0) (h w)
/-- the words of String.length(), either coding -/
abbrev wordsLen : List Jvm.Cond := [.code Len.yN Len.yB 1 (some .int), .initialized ST, .fieldLink ST 9 ST "value" "[B", .fieldLink ST 38 ST "COMPACT_STRINGS" "Z", .fieldLink ST 15 ST "coder" "B", .code Cdr.yN Cdr.yB 1 (some .byte), .methodLink ST 335 Cdr.yN, .declares Cdr.yN, .selects ST Cdr.yN Cdr.yN, .instanceMethod Cdr.yN]
theorem tabLen_of {a : Array Value} {s : State} (h : ∀ w ∈ wordsLen, w.before a s = true) : Len.tab.before a s = true := by
  have hc : Cdr.tab.before a s = true := unparts (wk h (.code Cdr.yN Cdr.yB 1 (some .byte))) (wks h (.initialized Cdr.yN.cls :: Cdr.site))
  have q := consq hc h
  exact unparts (wk q (.code Len.yN Len.yB 1 (some .int))) (wks q (.initialized Len.yN.cls :: Len.site))
theorem movedLen {Z s : State} {a0 args : Array Value} (hZ : Z.Warmed39 s.vm) (hw : ∀ d ∈ wordsLen, d.before a0 Z = true) : ∀ d ∈ wordsLen, d.before args s = true := fun d hd => by
  have q := hw d hd
  have t : ∀ d ∈ wordsLen, d = .arrayClass .byte ∨ (d.onTables && d.keepsFace) = true := by decide +kernel
  rcases t d hd with rfl | t
  · exact RoadKit.mvA hZ q
  · exact RoadKit.mv hZ q t
/-- the bytes of the chars cs, low before high -/
def wideBytes : List Int32 → List Value
  | [] => []
  | c :: cs => .int (lo8 c) :: .int (hi8 c) :: wideBytes cs
theorem wide_lo (d : Value) : ∀ (cs : List Int32) (j : Nat), j < cs.length → (wideBytes cs).getD (2 * j) d = .int (lo8 (cs.getD j 0))
  | [], j, h => absurd h (Nat.not_lt_zero j)
  | c :: cs, 0, _ => rfl
  | c :: cs, j + 1, h => by
    have q := wide_lo d cs j (by simpa using h)
    rw [show 2 * (j + 1) = 2 * j + 1 + 1 from by omega]
    simpa [wideBytes] using q
theorem wide_hi (d : Value) : ∀ (cs : List Int32) (j : Nat), j < cs.length → (wideBytes cs).getD (2 * j + 1) d = .int (hi8 (cs.getD j 0))
  | [], j, h => absurd h (Nat.not_lt_zero j)
  | c :: cs, 0, _ => rfl
  | c :: cs, j + 1, h => by
    have q := wide_hi d cs j (by simpa using h)
    rw [show 2 * (j + 1) + 1 = 2 * j + 1 + 1 + 1 from by omega]
    simpa [wideBytes] using q
theorem low_at (d : Value) (cs : List Int32) (j : Nat) (h : j < cs.length) : (cs.map fun c => Value.int (lo8 c)).getD j d = .int (lo8 (cs.getD j 0)) := by
  simp [List.getD_eq_getElem?_getD, h]
/-- an array of N2 bytes vs codes the chars cs by the coder cd -/
def CodA (cs : List Int32) (cd N2 : Int32) (vs : List Value) : Prop := (cd = 0 ∧ N2 = Int32.ofNat cs.length ∧ vs = (cs.map fun c => Value.int (lo8 c)) ∧ ∀ c ∈ cs, ¬ 255 < c) ∨ (cd = 1 ∧ N2 = Int32.ofNat (2 * cs.length) ∧ vs = wideBytes cs ∧ ∃ c ∈ cs, 255 < c)
theorem CodA.cod {cs : List Int32} {cd N2 : Int32} {vs : List Value} {V : Cell} (h : CodA cs cd N2 vs) (hn : 2 * cs.length < 2 ^ 31) (hs : V.slots.size = N2.toNatClampNeg) (hv : RoadKit.Has V vs (.int 0)) : Cod cd cs.length (fun j => cs.getD j 0) V := by
  rcases h with ⟨rfl, rfl, rfl, h⟩ | ⟨rfl, rfl, rfl, c, hc, hw⟩
  · rw [n32 (by omega)] at hs
    exact Or.inl ⟨rfl, hs, fun j hj => ⟨by rw [hv j (by omega), low_at _ _ _ hj], by
      have e : cs.getD j 0 = cs[j] := by simp [List.getD_eq_getElem?_getD, hj]
      show ¬ 255 < cs.getD j 0
      rw [e]; exact h _ (List.getElem_mem _)⟩⟩
  · rw [n32 (by omega)] at hs
    obtain ⟨j, hj, rfl⟩ := List.getElem_of_mem hc
    exact Or.inr ⟨rfl, hs, fun j hj => ⟨by rw [hv _ (by omega), wide_lo _ _ _ hj], by rw [hv _ (by omega), wide_hi _ _ _ hj]⟩, j, hj, by
      have e : cs.getD j 0 = cs[j] := by simp [List.getD_eq_getElem?_getD, hj]
      show 255 < cs.getD j 0
      rw [e]; exact hw⟩
/-- an object of exactly java/lang/String, its two fields found: as the laws ask it -/
theorem strObj {Z U : State} {a0 : Array Value} {kI : Nat} (wi : (Jvm.Cond.instantiable ST kI).before a0 Z = true) (al : Z.vm.Alike U.vm) {x : Addr} {v0 c0 : Value} (E : RoadKit.Exa Z U.heap x ST) (V : RoadKit.Fld Z U.heap x ST "value" "[B" v0) (C : RoadKit.Fld Z U.heap x ST "coder" "B" c0) :
    ∃ (D : Cell) (fV fC : Field), Blank ST x D U ∧ Found ST "value" "[B" fV U ∧ Found ST "coder" "B" fC U ∧ D.slots[fV.slot]? = some v0 ∧ D.slots[fC.slot]? = some c0 ∧ RoadKit.slotOf Z ST "value" "[B" = fV.slot ∧ RoadKit.slotOf Z ST "coder" "B" = fC.slot := by
  obtain ⟨D, cfV, kV, iV, fV, hD, gV, stV, knV, obV, asV, slV⟩ := V
  obtain ⟨D', cfC, kC, iC, fC, hD', gC, stC, -, -, asC, slC⟩ := C
  cases hD.symm.trans hD'
  obtain ⟨D2, kD, e1, e2, e3, e4, e5⟩ := E
  cases hD.symm.trans e1
  obtain ⟨c2, k2, i1, i2, i3, -⟩ := Cond.instantiable_spec wi
  cases e2.symm.trans i1
  cases e3.symm.trans i2
  obtain ⟨kU, u1, u2⟩ := al.2.2 _ _ e3
  exact ⟨D, fV, fC, ⟨hD, ⟨knV, fun q hq => by rw [hq] at obV; cases obV⟩, by rw [al.findClass]; exact e2, kU, u1, by rw [u2]; exact i3, by rw [u2]; exact e5 i3⟩, ⟨SBG.found_only al ⟨cfV, kV, iV, gV⟩, stV⟩, ⟨SBG.found_only al ⟨cfC, kC, iC, gC⟩, stC⟩, slV, slC, by simp [RoadKit.slotOf, gV], by simp [RoadKit.slotOf, gC]⟩
theorem sta_is {Z U : State} (al : Z.vm.Alike U.vm) {C n d : String} {v : Value} (S : RoadKit.Sta Z U.heap C n d v) : StaticIs U C n d v := by
  obtain ⟨cfS, iS, kS, fS, st, cS, t1, t2, t3, t4, t5, t6, t7⟩ := S
  exact StaticIs.there (s := { Z with heap := U.heap }) ⟨cfS, iS, kS, fS, st, cS, t1, t2, t3, t4, t5, (fun q => by rw [q] at t6; cases t6), t7⟩ al rfl
/-- **length() OF SUCH A STRING** -/
theorem lenW {p : Program} {l : Launch} {e : Env} {R : Room} {s : State} {args : Array Value} {below : List Frame} {len W : Nat} {Z : State} {a0 : Array Value} {h : Heap} (hZ : Z.Warmed39 s.vm) (hw : ∀ d ∈ wordsLen, d.before a0 Z = true) {kI : Nat} (wi : (Jvm.Cond.instantiable ST kI).before a0 Z = true)
    {x t : Addr} {kb : ClassId} {cs : List Int32} {cd N2 z : Int32} {vs : List Value} (E : RoadKit.Exa Z h x ST) (V : RoadKit.Fld Z h x ST "value" "[B" (.ref t)) (C : RoadKit.Fld Z h x ST "coder" "B" (.int cd)) (K : RoadKit.Arv Z h t kb .byte N2 vs (.int 0)) (hc : CodA cs cd N2 vs) (hb : ∀ c ∈ cs, ¬ c < 0 ∧ ¬ (65535 : Int32) < c)
    (S : RoadKit.Sta Z h ST "COMPACT_STRINGS" "Z" (.int z)) (hz : ¬ z = 0) (l2 : cs.length ≤ 4000) (hfr : 2 ≤ R.frames) (hlo : W + 25 ≤ R.locals) :
    Back l R p e below s args (⟨"java/lang/String", "length", "()I"⟩ : MethodName) len W (fun P a => a = #[.ref x] ∧ P.U.heap = h ∧ P.cells + 0 ≤ R.cells ∧ P.slots + 0 ≤ R.slots)
      (fun P _ v B => ∃ L, (v = some (.int (Int32.ofNat cs.length)) ∧ L = [] ∧ B.U.heap = h) ∧ B.locs = P.locs ++ L ∧ B.cells = P.cells + 0 ∧ B.slots = P.slots + 0) := by
  obtain ⟨A, K1, K2, K3, K4, K5, K6⟩ := K
  have hcod := hc.cod (by omega) K3 K5
  intro m meth c P g ig mk a X hg hsize hdg hW hn hp'
  obtain ⟨rfl, rfl, r1, r2⟩ := hp'
  have al : Z.vm.Alike P.U.vm := hZ.alike.trans X.warmed.alike
  obtain ⟨D, fV, fC, hB, F1, F2, g1, g2, -, -⟩ := strObj wi al E V C
  have hx : Txt x t A cd cs.length (fun j => cs.getD j 0) P.U := ⟨⟨_, hB.2.2.1, D, hB.1, rfl, by cases q : D.vm <;> first | rfl | exact absurd q (hB.2.1.2 _)⟩, Has.of hB F1 g1, Has.of hB F2 g2, ⟨K1.1, State.isArrayOf_alike al K1.2.1, K1.2.2, by rcases hcod with ⟨-, q, -⟩ | ⟨-, q, -⟩ <;> omega⟩, hcod, fun j hj => by
    have e : cs.getD j 0 = cs[j] := by simp [List.getD_eq_getElem?_getD, hj]
    show ¬ cs.getD j 0 < 0 ∧ ¬ 65535 < cs.getD j 0
    rw [e]; exact hb _ (List.getElem_mem _)⟩
  obtain ⟨v, B, X', ⟨⟨hv, hh⟩, hl, hk, hs⟩, st⟩ := Len.pays x t A cd cs.length (fun j => cs.getD j 0) z (tabLen_of (movedLen hZ hw)) hfr hlo m meth c P g ig mk _ X hg hsize hdg hW hn ⟨r1, r2, rfl, hx, sta_is al S, hz⟩
  exact ⟨v, B, X', ⟨[], ⟨hv, rfl, hh⟩, hl, hk, hs⟩, st⟩
end StrChars.Road
namespace StrChars.Road
open Jvm Sem ClassFile Op Lib Jvm.Stand Jvm.Free Jvm.Free.XT
open Jvm.Lib.Cold (StaticIs)
/-- the road's facts of a String, as the laws ask it -/
theorem txt_of {Z U : State} {a0 : Array Value} {kI : Nat} (wi : (Jvm.Cond.instantiable ST kI).before a0 Z = true) (al : Z.vm.Alike U.vm) {x t : Addr} {kb : ClassId} {cs : List Int32} {cd N2 : Int32} {vs : List Value} (E : RoadKit.Exa Z U.heap x ST) (V : RoadKit.Fld Z U.heap x ST "value" "[B" (.ref t)) (C : RoadKit.Fld Z U.heap x ST "coder" "B" (.int cd)) (K : RoadKit.Arv Z U.heap t kb .byte N2 vs (.int 0)) (hc : CodA cs cd N2 vs) (hb : ∀ c ∈ cs, ¬ c < 0 ∧ ¬ (65535 : Int32) < c) (l2 : cs.length ≤ 4000) :
    ∃ A, Txt x t A cd cs.length (fun j => cs.getD j 0) U := by
  obtain ⟨A, K1, K2, K3, K4, K5, K6⟩ := K
  have hcod := hc.cod (by omega) K3 K5
  obtain ⟨D, fV, fC, hB, F1, F2, g1, g2, -, -⟩ := strObj wi al E V C
  exact ⟨A, ⟨_, hB.2.2.1, D, hB.1, rfl, by cases q : D.vm <;> first | rfl | exact absurd q (hB.2.1.2 _)⟩, Has.of hB F1 g1, Has.of hB F2 g2, ⟨K1.1, State.isArrayOf_alike al K1.2.1, K1.2.2, by rcases hcod with ⟨-, q, -⟩ | ⟨-, q, -⟩ <;> omega⟩, hcod, fun j hj => by
    have e : cs.getD j 0 = cs[j] := by simp [List.getD_eq_getElem?_getD, hj]
    show ¬ cs.getD j 0 < 0 ∧ ¬ 65535 < cs.getD j 0
    rw [e]; exact hb _ (List.getElem_mem _)⟩
end StrChars.Road
namespace StrChars
open Jvm Sem ClassFile Op Lib Jvm.Stand Jvm.Free.XT Jvm.Free.ALB Jvm.Free.JM Jvm.Free
open Jvm.Lib.Cold (StaticIs)
namespace ChN
def yN : MethodName := ⟨"java/lang/String", "charAt", "(I)C"⟩
abbrev yB : ByteArray := jdk_42_method_56_code
theorem d0 : decode yB 0 = .ok (.aload_n 0, 1) := by decide +kernel
theorem d1 : decode yB 1 = .ok (.invokevirtual 492, 3) := by decide +kernel
theorem d4 : decode yB 4 = .ok (.ifCond (.eq) 12, 3) := by decide +kernel
theorem d7 : decode yB 7 = .ok (.aload_n 0, 1) := by decide +kernel
theorem d8 : decode yB 8 = .ok (.getfield 9, 3) := by decide +kernel
theorem d11 : decode yB 11 = .ok (.iload_n 1, 1) := by decide +kernel
theorem d12 : decode yB 12 = .ok (.invokestatic 495, 3) := by decide +kernel
theorem d15 : decode yB 15 = .ok (.ireturn, 1) := by decide +kernel
def site : List Cond := [.fieldLink "java/lang/String" 9 "java/lang/String" "value" "[B", IsL.tab, LChA.tab] ++ virtW "java/lang/String" 492 "java/lang/String" IsL.yN IsL.yN ++ staticW "java/lang/String" 495 LChA.yN
def tab : Cond := tabOf yN yB 2 (some .char) site
def P (x t : Addr) (V : Cell) (n : Nat) (f : Nat → Int32) (z : Int32) (fm : Value) (i : Nat) (args : Array Value) (s : State) : Prop := args = #[.ref x, .int (Int32.ofNat i)] ∧ Txt x t V 0 n f s ∧ i < n ∧ StaticIs s "java/lang/String" "COMPACT_STRINGS" "Z" (.int z) ∧ ¬ z = 0 ∧ StaticIs s "jdk/internal/util/Preconditions" "SIOOBE_FORMATTER" "Ljava/util/function/BiFunction;" fm ∧ fm.isRef = true
def E (f : Nat → Int32) (i : Nat) (r : Option Value) (s u : State) : Prop := XT.PureE (some (.int (f i))) r s u
/-- charAt(i) of a Latin-1 String of n chars, i < n: f i -/
theorem law (l : Launch) (x t : Addr) (V : Cell) (n : Nat) (f : Nat → Int32) (z : Int32) (fm : Value) (i : Nat) : Law l yN 2 1 3 40 yB 2 (some .char) site (P x t V n f z fm i) (E f i) [] 0 0 := by
  refine Law.of_walk (plainFor_of_name (by decide +kernel)) (by decide +kernel) (by decide +kernel) (by decide) (fun _ _ h => by rw [h.1]; rfl) (fun _ U U' hal hh h => ⟨h.1, h.2.1.mv hal hh, h.2.2.1, h.2.2.2.1.there hal hh, h.2.2.2.2.1, h.2.2.2.2.2.1.there hal hh, h.2.2.2.2.2.2⟩) (fun r U U' V V' h1 hal h2 h => XT.PureE.mv r U U' V V' h1 hal h2 h) ?_
  intro p e s m args below meth c s₁ X0 hexec hbytes hml hret hlk hnm hown hh0 W hP
  obtain ⟨rfl, hx, hi, s1, hz, s3, rf⟩ := hP
  have v31 := hx.2.2.2.1.2.2.2
  have hr := hx.2.2.2.2.2 i hi
  have hx0 := hx.mv X0.warmed.alike hh0
  have c1 : Steps p.tables e below (s₁.setTop (entryFrame m #[.ref x, .int (Int32.ofNat i)] 2)) (s₁.setTop (mkF m 1 #[.val (.ref x), .val (.int (Int32.ofNat i))] [.ref x])) := Steps.trans (entry rfl) (by
    show Steps p.tables e below (s₁.setTop (mkF m 0 #[.val (.ref x), .val (.int (Int32.ofNat i))] [])) _
    refine XS.aloadN X0.here hexec rfl (hb hbytes d0) rfl rfl ?_
    exact Steps.refl _)
  obtain ⟨v2, T2, X2, E2, g2⟩ := X0.callV hexec (IsL.law l x 0 z) hown (wks W (virtW "java/lang/String" 492 "java/lang/String" IsL.yN IsL.yN)) rfl (by decide) (wk W IsL.tab) (W := 0) (Nat.le_of_ble_eq_true rfl) (Nat.le_of_ble_eq_true rfl) (Nat.le_refl _) (Nat.le_refl _) (hx0.1.fc X0.warmed.alike) hx0.1.is (g := (mkF m 1 #[.val (.ref x), .val (.int (Int32.ofNat i))] [.ref x])) rfl (by rw [hml]; rfl) c1 (argsL := []) (rest := []) rfl rfl (by show 2 * 0 + 0 ≤ _; decide) (hb hbytes d1) (⟨rfl, hx0.2.2.1, hx.2.2.2.2.1.cd, s1.there X0.warmed.alike hh0, hz⟩)
  obtain ⟨rfl, q2⟩ := E2
  have hh2 := q2.trans hh0
  have hx2 := hx.mv X2.warmed.alike hh2
  obtain ⟨-, k1, k2⟩ | ⟨k0, -⟩ := hx.2.2.2.2.1
  · have c3 : Steps p.tables e below (s₁.setTop (entryFrame m #[.ref x, .int (Int32.ofNat i)] 2)) (T2.setTop (mkF m 8 #[.val (.ref x), .val (.int (Int32.ofNat i))] [.ref x])) := Steps.trans g2 (by
      refine XS.ifNo X2.here hexec rfl (hb hbytes d4) rfl (i0_eq_f (by decide)) ?_
      refine XS.aloadN X2.here hexec rfl (hb hbytes d7) rfl rfl ?_
      exact Steps.refl _)
    obtain ⟨T4, X4, q4, st4⟩ := X2.hget hexec hown (wk W (.fieldLink "java/lang/String" 9 "java/lang/String" "value" "[B")) hx2.2.1 (g := (mkF m 8 #[.val (.ref x), .val (.int (Int32.ofNat i))] [.ref x])) rfl (rest := []) rfl (hb hbytes d8)
    have hh4 := q4.trans hh2
    have c5 : Steps p.tables e below (s₁.setTop (entryFrame m #[.ref x, .int (Int32.ofNat i)] 2)) (T4.setTop (mkF m 12 #[.val (.ref x), .val (.int (Int32.ofNat i))] [.int (Int32.ofNat i), .ref t])) := (c3.trans (st4 _ (Steps.refl _))).trans (by
      refine XS.iloadN X4.here hexec rfl (hb hbytes d11) rfl ?_
      exact Steps.refl _)
    obtain ⟨v6, T6, X6, E6, g6⟩ := X4.callS hexec (LChA.law l t V i (lo8 (f i)) fm) hown (wks W (staticW "java/lang/String" 495 LChA.yN)) (wk W LChA.tab) (W := 0) (Nat.le_of_ble_eq_true rfl) (Nat.le_of_ble_eq_true rfl) (Nat.le_refl _) (Nat.le_refl _) (g := (mkF m 12 #[.val (.ref x), .val (.int (Int32.ofNat i))] [.int (Int32.ofNat i), .ref t])) rfl (by rw [hml]; rfl) c5 (argsL := [.ref t, .int (Int32.ofNat i)]) (rest := []) rfl rfl (by show 2 * 0 + 0 ≤ _; decide) (hb hbytes d12) (⟨rfl, hx.2.2.2.1.mv X4.warmed.alike hh4, (k2 i hi).1, s3.there X4.warmed.alike hh4, rf⟩)
    obtain ⟨rfl, q6⟩ := E6
    rw [chr8_lo8 hr.1 (k2 i hi).2] at g6
    exact ⟨T6, some (.int (f i)), _, _, _, X6, rfl, rfl, rfl, (fun h => by cases h), ⟨rfl, q6.trans hh4⟩, fun fs hl => Steps.trans g6 (X6.ireturnOut hexec hret (narrow_ch hr.1 hr.2) (Or.inr (Or.inr (Or.inr (Or.inl rfl)))) (hb hbytes d15) hl)⟩
  · exact absurd k0 (by decide)
theorem pays {l : Launch} {R : Room} {p : Program} {e : Env} {below : List Frame} {s : State} {sargs : Array Value} {len W : Nat} (x t : Addr) (V : Cell) (n : Nat) (f : Nat → Int32) (z : Int32) (fm : Value) (i : Nat) (htab : tab.before sargs s = true) (hfr : 4 ≤ R.frames) (hlo : W + 53 ≤ R.locals) :
    Back l R p e below s sargs yN len W (fun A₁ a₁ => A₁.cells + 0 ≤ R.cells ∧ A₁.slots + 0 ≤ R.slots ∧ P x t V n f z fm i a₁ A₁.U) (fun A₁ _ v₁ B₁ => E f i v₁ A₁.U B₁.U ∧ B₁.locs = A₁.locs ++ [] ∧ B₁.cells = A₁.cells + 0 ∧ B₁.slots = A₁.slots + 0) :=
  (law l x t V n f z fm i).pays htab hfr (by omega)
end ChN
end StrChars
namespace StrChars.Road
open Jvm Sem ClassFile Op Lib Jvm.Stand Jvm.Free Jvm.Free.XT
open Jvm.Lib.Cold (StaticIs)
/-- the words of String.charAt(int), the Latin-1 road alone -/
abbrev wordsChN : List Jvm.Cond := [.code ChN.yN ChN.yB 2 (some .char), .initialized ST, .fieldLink ST 9 ST "value" "[B", .fieldLink ST 38 ST "COMPACT_STRINGS" "Z", .fieldLink ST 15 ST "coder" "B", .code IsL.yN IsL.yB 1 (some .boolean), .methodLink ST 492 IsL.yN, .declares IsL.yN, .selects ST IsL.yN IsL.yN, .instanceMethod IsL.yN,
  .methodLink ST 495 LChA.yN, .static LChA.yN, .code LChA.yN LChA.yB 2 (some .char), .initialized "java/lang/StringLatin1", .methodLink "java/lang/StringLatin1" 9 JO.Str_checkIndex.yN, .static JO.Str_checkIndex.yN, .code JO.Str_checkIndex.yN JO.Str_checkIndex.yB 2 none,
  .fieldLink ST 1053 "jdk/internal/util/Preconditions" "SIOOBE_FORMATTER" "Ljava/util/function/BiFunction;", .methodLink ST 1059 JC.PreCheck.yN, .static JC.PreCheck.yN, .code JC.PreCheck.yN JC.PreCheck.yB 3 (some .int), .initialized "jdk/internal/util/Preconditions"]
theorem tabChN_of {a : Array Value} {s : State} (h : ∀ w ∈ wordsChN, w.before a s = true) : ChN.tab.before a s = true := by
  have hp : JC.PreCheck.tab.before a s = true := unparts (wk h (.code JC.PreCheck.yN JC.PreCheck.yB 3 (some .int))) (wks h (.initialized JC.PreCheck.yN.cls :: JC.PreCheck.site))
  have qk := consq hp h
  have hk : JO.Str_checkIndex.tab.before a s = true := unparts (wk qk (.code JO.Str_checkIndex.yN JO.Str_checkIndex.yB 2 none)) (wks qk (.initialized JO.Str_checkIndex.yN.cls :: JO.Str_checkIndex.site))
  have ql := consq hk h
  have hl : LChA.tab.before a s = true := unparts (wk ql (.code LChA.yN LChA.yB 2 (some .char))) (wks ql (.initialized LChA.yN.cls :: LChA.site))
  have hi : IsL.tab.before a s = true := unparts (wk h (.code IsL.yN IsL.yB 1 (some .boolean))) (wks h (.initialized IsL.yN.cls :: IsL.site))
  have q := consq hi (consq hl h)
  exact unparts (wk q (.code ChN.yN ChN.yB 2 (some .char))) (wks q (.initialized ChN.yN.cls :: ChN.site))
theorem movedChN {Z s : State} {a0 args : Array Value} (hZ : Z.Warmed39 s.vm) (hw : ∀ d ∈ wordsChN, d.before a0 Z = true) : ∀ d ∈ wordsChN, d.before args s = true := fun d hd => by
  have t : ∀ d ∈ wordsChN, (d.onTables && d.keepsFace) = true := by decide +kernel
  exact RoadKit.mv hZ (hw d hd) (t d hd)
/-- **charAt(i) OF A LATIN-1 STRING**, i < n: the char -/
theorem chN {p : Program} {l : Launch} {e : Env} {R : Room} {s : State} {args : Array Value} {below : List Frame} {len W : Nat} {Z : State} {a0 : Array Value} {h : Heap} (hZ : Z.Warmed39 s.vm) (hw : ∀ d ∈ wordsChN, d.before a0 Z = true) {kI : Nat} (wi : (Jvm.Cond.instantiable ST kI).before a0 Z = true)
    {x t : Addr} {kb : ClassId} {cs : List Int32} {N2 z : Int32} {vs : List Value} {fm : Value} {i : Nat} {j : Int32} (E : RoadKit.Exa Z h x ST) (V : RoadKit.Fld Z h x ST "value" "[B" (.ref t)) (C : RoadKit.Fld Z h x ST "coder" "B" (.int 0)) (K : RoadKit.Arv Z h t kb .byte N2 vs (.int 0)) (hc : CodA cs 0 N2 vs) (hb : ∀ c ∈ cs, ¬ c < 0 ∧ ¬ (65535 : Int32) < c)
    (S : RoadKit.Sta Z h ST "COMPACT_STRINGS" "Z" (.int z)) (hz : ¬ z = 0) (F : RoadKit.Sta Z h "jdk/internal/util/Preconditions" "SIOOBE_FORMATTER" "Ljava/util/function/BiFunction;" fm) (rf : fm.isRef = true) (l2 : cs.length ≤ 4000) (hi : i < cs.length) (hj : j = Int32.ofNat i) (hfr : 4 ≤ R.frames) (hlo : W + 53 ≤ R.locals) :
    Back l R p e below s args (⟨"java/lang/String", "charAt", "(I)C"⟩ : MethodName) len W (fun P a => a = #[.ref x, .int j] ∧ P.U.heap = h ∧ P.cells + 0 ≤ R.cells ∧ P.slots + 0 ≤ R.slots)
      (fun P _ v B => ∃ L, (v = some (.int (cs.getD i 0)) ∧ L = [] ∧ B.U.heap = h) ∧ B.locs = P.locs ++ L ∧ B.cells = P.cells + 0 ∧ B.slots = P.slots + 0) := by
  subst hj
  intro m meth c P g ig mk a X hg hsize hdg hW hn hp'
  obtain ⟨rfl, rfl, r1, r2⟩ := hp'
  have al : Z.vm.Alike P.U.vm := hZ.alike.trans X.warmed.alike
  obtain ⟨A, hx⟩ := txt_of wi al E V C K hc hb l2
  obtain ⟨v, B, X', ⟨⟨hv, hh⟩, hl, hk, hs⟩, st⟩ := ChN.pays x t A cs.length (fun j => cs.getD j 0) z fm i (tabChN_of (movedChN hZ hw)) hfr hlo m meth c P g ig mk _ X hg hsize hdg hW hn ⟨r1, r2, rfl, hx, hi, sta_is al S, hz, sta_is al F, rf⟩
  exact ⟨v, B, X', ⟨[], ⟨hv, rfl, hh⟩, hl, hk, hs⟩, st⟩
/-- what backV says of its String, as the contracts of this text ask it: cs's low bytes, coder 0 -/
theorem codOf {cs : List Int32} {n : Nat} (hn : cs.length = n) (hb : ∀ c ∈ cs, ¬ 255 < c) : CodA cs 0 (Int32.ofNat n) ((cs.map lo8).map Value.int) := Or.inl ⟨rfl, by rw [hn], by simp [List.map_map, Function.comp_def], hb⟩
end StrChars.Road
end Jvm.Pilot.@@N@@
namespace Jvm.Pilot.@@N@@
open Jvm Jvm.ClassFile Sem Op Lib Jvm.Free Jvm.Stand Jvm.LawKit Jvm.RoadKit Bundle Jvm.Pilot.@@N@@.Jvm.D
theorem own_w {Z : State} {a0 : Array Value} (hw : ∀ d ∈ tables_1, d.before a0 Z = true) (i : Nat) {d : Jvm.Cond} (h : tables_1[i]? = some d) : d.before a0 Z = true := hw d (List.mem_of_getElem? h)
/-- the run goes on from here to an end at which K holds -/
def own_Go (p : Program) (e : Env) (below : List Frame) (T : State) (g : JFrame) (K : State → Outcome → Prop) : Prop := ∃ s₂ o, Steps p.tables e below (T.setTop g) s₂ ∧ K s₂ o
section OwnGo
variable {p : Program} {l : Launch} {e : Env} {R : Room} {s : State} {m : MethodId} {args : Array Value} {below : List Frame} {meth : Method} {c : Code} {T T' s₂ : State} {o : Outcome} {locs : List Loc} {cells slots : Nat} {g g' : JFrame} {K : State → Outcome → Prop}
theorem own_loop {F : Int32 → JFrame} {I : Nat → Int32 → Prop} {k0 : Nat} {i0 : Int32} (h0 : I k0 i0) (step : ∀ k i, I k i → (∀ k' i', k' < k → I k' i' → own_Go p e below T (F i') K) → own_Go p e below T (F i) K) : own_Go p e below T (F i0) K := by
  induction k0 using Nat.strongRecOn generalizing i0 with
  | ind k ih => exact step k i0 h0 fun k' i' hk' h' => ih k' hk' h'
theorem own_hold (h : ∀ KK : State → Outcome → Prop, (∀ a b, K a b → KK a b) → own_Go p e below T g KK) : own_Go p e below T g K := h K fun _ _ q => q
theorem own_enter (q : g = g') (k : own_Go p e below T g' K) : ∃ s₂ o, Steps p.tables e below (T.setTop g) s₂ ∧ K s₂ o := by subst q; exact k
theorem own_st (h : ∀ t, Steps p.tables e below (T'.setTop g') t → Steps p.tables e below (T.setTop g) t) (k : own_Go p e below T' g' K) : own_Go p e below T g K := by
  obtain ⟨s2, o, h1, h2⟩ := k
  exact ⟨s2, o, h _ h1, h2⟩
theorem own_tr (h : Steps p.tables e below (T.setTop g) (T'.setTop g')) (k : own_Go p e below T' g' K) : own_Go p e below T g K := own_st (fun _ q => h.trans q) k
theorem own_fin (h : Steps p.tables e below (T.setTop g) s₂) (k : K s₂ o) : own_Go p e below T g K := ⟨s₂, o, h, k⟩
theorem own_cst {Z : State} {h hA : Heap} {n0 : Nat} {b : Addr} {kk : ClassId} {z : Int32} {vs : List Value} {dv : Value} {n i : Nat} {j w : Int32} (X : Stand p l e R s m args below meth c T locs cells slots) (hx : p.tables.exec = Jvm.exec) (hZ : Z.Warmed39 s.vm) (eT : T.heap = h) (V : Arv Z h b kk .char z vs dv) (hl : vs.length = n) (hi : i < n) (hj : j.toNatClampNeg = i) (hin : ¬ j < 0 ∧ j < z) (hv : nar .char w = w) (N : Fr n0 locs) (Kb : Keep hA h [b]) (G : n0 ≤ b) {pc : Nat} {Ls : Array Slot} {rest : List Value} (hd : decode c.code pc = .ok (.castore, 1))
    (k : ∀ (T' : State) (h' : Heap) (L' : List Loc) (vs' : List Value), Stand p l e R s m args below meth c T' L' cells slots → T'.heap = h' → vs' = vs.set i (.int w) → vs'.length = n → Arv Z h' b kk .char z vs' dv → Fr n0 L' → Keep hA h' [b] → own_Go p e below T' (mkF m (pc + 1) Ls rest) K) : own_Go p e below T (mkF m pc Ls (.int w :: .int j :: .ref b :: rest)) K := by
  obtain ⟨cl, Ar, q, Sz, Nn, Hh, Gg⟩ := id V
  obtain ⟨T', h', X', e', W', st'⟩ := stC X hx hZ eT Ar (j := j) (inb_of Sz hin) (g := mkF m pc Ls (.int w :: .int j :: .ref b :: rest)) rfl rfl hd
  have V' := Arv.set Ar q Sz Nn Hh Gg (fits_nar_char _) W' i hj (by rw [hl]; exact hi)
  rw [hv] at V'
  exact own_st st' (k T' h' _ _ X' e' rfl (by rw [List.length_set]; exact hl) V' (Fr.snoc X' N G) (Kb.wr W' (Or.inl (List.mem_of_getElem? (i := 0) rfl))))
theorem own_retI (X : Stand p l e R s m args below meth c T locs cells slots) (hx : p.tables.exec = Jvm.exec) {pc : Nat} {Ls : Array Slot} {z : Int32} {rest : List Value} (hret : meth.sig.returnType = some .int) (hd : decode c.code pc = .ok (.ireturn, 1)) {fs : List Frame}
    (hl : ∀ (f : JFrame) (acts : List Action), f.method = m → f.locked = none → f.entered = [] → (doReturn e (T.setTop f) acts (some (.int z))).1 = T.setFrames fs) : Steps p.tables e below (T.setTop (mkF m pc Ls (.int z :: rest))) (T.setFrames fs) := by
  have hm' : T.vm.method? m = some meth := X.method'
  have hn : narrow .int (.int z) = .int z := rfl
  show Steps p.tables e below (T.setTop { method := m, pc := pc, locals := Ls, stack := _ :: rest, locked := none }) _
  jvm_step X.here [X.here.top, hx, hd, hm', hret, hn]
  first | (intro acts; rw [hl _ acts rfl rfl rfl]) | rw [hl _ _ rfl rfl rfl]
  exact Steps.refl _
theorem own_retD (X : Stand p l e R s m args below meth c T locs cells slots) (hx : p.tables.exec = Jvm.exec) {pc : Nat} {Ls : Array Slot} {z : UInt64} {rest : List Value} (hret : meth.sig.returnType = some .double) (hd : decode c.code pc = .ok (.dreturn, 1)) {fs : List Frame}
    (hl : ∀ (f : JFrame) (acts : List Action), f.method = m → f.locked = none → f.entered = [] → (doReturn e (T.setTop f) acts (some (.double z))).1 = T.setFrames fs) : Steps p.tables e below (T.setTop (mkF m pc Ls (.double z :: rest))) (T.setFrames fs) := by
  have hm' : T.vm.method? m = some meth := X.method'
  have hn : narrow .double (.double z) = .double z := rfl
  show Steps p.tables e below (T.setTop { method := m, pc := pc, locals := Ls, stack := _ :: rest, locked := none }) _
  jvm_step X.here [X.here.top, hx, hd, hm', hret, hn]
  first | (intro acts; rw [hl _ acts rfl rfl rfl]) | rw [hl _ _ rfl rfl rfl]
  exact Steps.refl _
theorem own_retL (X : Stand p l e R s m args below meth c T locs cells slots) (hx : p.tables.exec = Jvm.exec) {pc : Nat} {Ls : Array Slot} {z : Int64} {rest : List Value} (hret : meth.sig.returnType = some .long) (hd : decode c.code pc = .ok (.lreturn, 1)) {fs : List Frame}
    (hl : ∀ (f : JFrame) (acts : List Action), f.method = m → f.locked = none → f.entered = [] → (doReturn e (T.setTop f) acts (some (.long z))).1 = T.setFrames fs) : Steps p.tables e below (T.setTop (mkF m pc Ls (.long z :: rest))) (T.setFrames fs) := by
  have hm' : T.vm.method? m = some meth := X.method'
  have hn : narrow .long (.long z) = .long z := rfl
  show Steps p.tables e below (T.setTop { method := m, pc := pc, locals := Ls, stack := _ :: rest, locked := none }) _
  jvm_step X.here [X.here.top, hx, hd, hm', hret, hn]
  first | (intro acts; rw [hl _ acts rfl rfl rfl]) | rw [hl _ _ rfl rfl rfl]
  exact Steps.refl _
theorem own_retR (X : Stand p l e R s m args below meth c T locs cells slots) (hx : p.tables.exec = Jvm.exec) {pc : Nat} {Ls : Array Slot} {z : Value} {t : FieldType} {rest : List Value} (hz : z.isRef = true) (hret : meth.sig.returnType = some t) (ht : t.isReference = true) (hd : decode c.code pc = .ok (.areturn, 1)) {fs : List Frame}
    (hl : ∀ (f : JFrame) (acts : List Action), f.method = m → f.locked = none → f.entered = [] → (doReturn e (T.setTop f) acts (some z)).1 = T.setFrames fs) : Steps p.tables e below (T.setTop (mkF m pc Ls (z :: rest))) (T.setFrames fs) := by
  have hm' : T.vm.method? m = some meth := X.method'
  show Steps p.tables e below (T.setTop { method := m, pc := pc, locals := Ls, stack := _ :: rest, locked := none }) _
  jvm_step X.here [X.here.top, hx, hd, hm', hret, hz, ht]
  first | (intro acts; rw [hl _ acts rfl rfl rfl]) | rw [hl _ _ rfl rfl rfl]
  exact Steps.refl _
end OwnGo
theorem own_up (cs : List Int32) (h : ∀ c ∈ cs, ¬ c < 0 ∧ ¬ (255 : Int32) < c) : ∀ c ∈ cs, ¬ c < 0 ∧ ¬ (65535 : Int32) < c := fun c hc => ⟨(h c hc).1, fun q => (h c hc).2 (by rw [Int32.lt_iff_toInt_lt] at q ⊢; have e1 : (65535 : Int32).toInt = 65535 := rfl; have e2 : (255 : Int32).toInt = 255 := rfl; omega)⟩
theorem own_c255 (x : Int32) (h0 : 0 ≤ x.toInt) (h1 : x.toInt ≤ 255) : nar .char (x.toUInt32.toUInt16.toUInt32.toInt32) = x := by
  have e : x.toUInt32.toUInt16.toUInt32.toInt32 = x := by
    have h := c_i2c x
    apply Int32.toInt_inj.mp
    omega
  show (x.toUInt32.toUInt16.toUInt32.toInt32).toUInt32.toUInt16.toUInt32.toInt32 = x
  rw [e, e]
theorem own_in255 (x : Int32) (h0 : 0 ≤ x.toInt) (h1 : x.toInt ≤ 255) : ¬ x < 0 ∧ ¬ (255 : Int32) < x := by
  constructor
  · rw [Int32.lt_iff_toInt_lt]; have : (0 : Int32).toInt = 0 := rfl; omega
  · rw [Int32.lt_iff_toInt_lt]; have : (255 : Int32).toInt = 255 := rfl; omega
theorem own_m255 (x : Int32) : 0 ≤ (x &&& (255 : Int32)).toInt ∧ (x &&& (255 : Int32)).toInt ≤ 255 := by
  have h := c_and x 255 (by decide)
  exact h
theorem own_narc (x : Int32) : nar .char ((x &&& (255 : Int32)).toUInt32.toUInt16.toUInt32.toInt32) = x &&& (255 : Int32) := own_c255 _ (own_m255 x).1 (own_m255 x).2
theorem own_decl {Z : State} {a0 : Array Value} {y : MethodName} {bytes : ByteArray} {maxL : Nat} {ret : Option FieldType} (hi : (Cond.instanceMethod y).before a0 Z = true) (hc : (Cond.code y bytes maxL ret).before a0 Z = true) : (Cond.declares y).before a0 Z = true := by
  obtain ⟨mk, methM, hnamed, hmethM, hstM, habM⟩ := Cond.instanceMethod_spec hi
  obtain ⟨m2, cM, q1, -, -, -, -, -, -, hsig⟩ := Cond.code_spec hnamed hc
  cases hmethM.symm.trans q1
  simp [Cond.before, Cond.holds, Cond.value, hnamed, hmethM, hstM, hsig]
theorem own_same {Z : State} {a0 : Array Value} {C : String} {y y' : MethodName} (hd : (Cond.declares y).before a0 Z = true) (hs : (Cond.selects C y' y').before a0 Z = true) (hc : y'.cls = y.cls) (hx : y.cls ≠ "java/lang/invoke/MethodHandle" ∧ y.cls ≠ "java/lang/invoke/VarHandle") : (Cond.sameMethod y.cls y.cls y.name y.desc).before a0 Z = true := by
  obtain ⟨r0, r, hn, -⟩ := Cond.declares_spec hd
  obtain ⟨c2, r2, m2, q1, q2, q3, q4, kP, hkP, hkPi⟩ := Cond.selects_spec hs
  have hf := State.methodFound?_of_named hn hx
  have h1 := findClass_of_methodNamed hn
  have h2 := findClass_of_methodNamed q3
  rw [hc, h1] at h2
  have h3 : r0.cls = m2.cls := Option.some.inj h2
  rw [← h3] at hkP
  have hn' : Z.methodNamed? ⟨y.cls, y.name, y.desc⟩ = some r0 := hn
  simp [Cond.before, Cond.holds, Cond.value, h1, hf, hn', hkP, hkPi]
theorem own_nf {s : State} {a0 : Array Value} {C : String} {y y' : MethodName} (hs : (Cond.selects C y' y').before a0 s = true) (hc : y'.cls = y.cls) : NotFace s y := fun r0 h0 => by
  obtain ⟨c2, r2, m2, q1, q2, q3, q4, kP, hkP, hkPi⟩ := Cond.selects_spec hs
  have h1 := findClass_of_methodNamed h0
  have h2 := findClass_of_methodNamed q3
  rw [hc, h1] at h2
  have h3 : r0.cls = m2.cls := Option.some.inj h2
  exact ⟨kP, by rw [h3]; exact hkP, hkPi⟩
theorem own_shr0 (z : Int32) : z >>> ((0 : Int32) &&& 31) = z := by
  have h := c_ishr z 0 0 (by decide)
  apply Int32.toInt_inj.mp
  rw [h]
  show z.toInt / (1 : Int) = _
  omega
theorem own_shl0 (z : Int32) : z <<< ((0 : Int32) &&& 31) = z := by
  have h := c_ishl z 0 0 (by decide)
  have h1 := rng32 (z <<< ((0 : Int32) &&& 31))
  have h2 := rng32 z
  apply Int32.toInt_inj.mp
  rw [show ((2 ^ 0 : Nat) : Int) = 1 from rfl] at h
  omega
theorem own_sub0 (z : Int32) : z - (0 : Int32) = z := by
  have h := c_isub z 0
  have h1 := rng32 (z - 0)
  have h2 := rng32 z
  rw [show (0 : Int32).toInt = 0 from rfl] at h
  apply Int32.toInt_inj.mp
  omega
theorem own_clamp {z : Int32} {n : Nat} (h : z.toInt = (n : Int)) : z.toNatClampNeg = n := by simp only [Int32.toNatClampNeg]; omega
theorem own_nonneg {z : Int32} {n : Nat} (h : z.toInt = (n : Int)) : ¬ z < 0 := by rw [Int32.lt_iff_toInt_lt, show (0 : Int32).toInt = 0 from rfl]; omega
theorem own_range {us tl : List Value} {d : Value} {n : Int32} (h : n.toInt = (us.length : Int)) : us = (List.range n.toNatClampNeg).map fun i => (us ++ tl).getD ((0 : Int32).toNatClampNeg + i) d := by
  rw [own_clamp h]
  apply List.ext_getElem
  · simp
  · intro i h1 h2
    simp only [List.getElem_map, List.getElem_range]
    rw [show (0 : Int32).toNatClampNeg + i = i from Nat.zero_add i, List.getD_eq_getElem?_getD, List.getElem?_append_left h1, List.getElem?_eq_getElem h1]
    rfl
theorem own_cp {bs rest us : List Value} {k n : Int32} (hk : k.toInt = (bs.length : Int)) (hn : n.toInt = (us.length : Int)) : (bs ++ rest).take k.toNatClampNeg ++ us ++ (bs ++ rest).drop (k.toNatClampNeg + n.toNatClampNeg) = (bs ++ us) ++ rest.drop us.length := by
  rw [own_clamp hk, own_clamp hn, List.take_left, ← List.drop_drop, List.drop_left]
theorem own_cp0 {us zs : List Value} {n : Int32} (hn : n.toInt = (us.length : Int)) (hz : zs.length = us.length) : zs.take (0 : Int32).toNatClampNeg ++ us ++ zs.drop ((0 : Int32).toNatClampNeg + n.toNatClampNeg) = us := by
  rw [own_clamp hn, show (0 : Int32).toNatClampNeg = 0 from rfl, Nat.zero_add, ← hz, List.drop_length]
  simp
theorem own_addI {a b : Int32} {x y : Nat} (ha : a.toInt = (x : Int)) (hb : b.toInt = (y : Int)) (h : x + y ≤ 1000000) : (a + b).toInt = ((x + y : Nat) : Int) := by
  have h1 := c_iadd a b
  have h2 := rng32 (a + b)
  omega
theorem own_subNP {a b : Int32} (h0 : 0 ≤ a.toInt) (h1 : 0 ≤ b.toInt) (h : a.toInt ≤ b.toInt) : ¬ ((0 : Int32) < a - b) := by
  have h2 := c_isub a b
  have h3 := rng32 (a - b)
  have h4 := rng32 a
  have h5 := rng32 b
  rw [Int32.lt_iff_toInt_lt, show (0 : Int32).toInt = 0 from rfl]
  omega
def own_EL : List (String × Nat) := [("com/example/spillback/spillback/io/Config$Selection", 26), ("com/example/spillback/spillback/io/Config$Selection", 28), ("com/example/spillback/spillback/io/Config$Selection", 30), ("com/example/spillback/spillback/io/SelectionToStringPinLaw", 32)]
theorem own_EW {Z : State} {a0 : Array Value} (hw : ∀ d ∈ tables_1, d.before a0 Z = true) : EW Z a0 own_EL := EW.cons (text := "[") (hw _ (List.mem_of_getElem? (i := 105) rfl)) (by decide) (EW.cons (text := "=") (hw _ (List.mem_of_getElem? (i := 106) rfl)) (by decide) (EW.cons (text := "]") (hw _ (List.mem_of_getElem? (i := 107) rfl)) (by decide) (EW.cons (text := "") (hw _ (List.mem_of_getElem? (i := 4) rfl)) (by decide) (EW.nil))))
theorem own_wS {Z : State} {a0 : Array Value} (hw : ∀ d ∈ tables_1, d.before a0 Z = true) : ∀ a ∈ Bundle.stringAtoms, a.before a0 Z = true := fun d hd => hw d ((by decide +kernel : ∀ d ∈ Bundle.stringAtoms, d ∈ tables_1) d hd)
def own_P (cs : List Int32) : Prop := ∀ c ∈ cs, ¬ c < 0 ∧ ¬ (255 : Int32) < c
theorem own_i255 {x : Int32} (h0 : 0 ≤ x.toInt) (h1 : x.toInt ≤ 255) : x.toUInt32.toUInt16.toUInt32.toInt32 = x := by
  have h := c_i2c x
  apply Int32.toInt_inj.mp
  omega
theorem own_nar {x : Int32} (h : ¬ x < 0 ∧ ¬ (255 : Int32) < x) : nar .char x = x := by
  rw [Int32.lt_iff_toInt_lt, Int32.lt_iff_toInt_lt, show (0 : Int32).toInt = 0 from rfl, show (255 : Int32).toInt = 255 from rfl] at h
  exact own_i255 (by omega) (by omega)
theorem own_ofNat {n : Nat} (h : n ≤ 1000000) : (Int32.ofNat n).toInt = (n : Int) := Int32.toInt_ofNat_of_lt (by omega)
theorem own_eqOf {j : Int32} {n : Nat} (h : j.toInt = (n : Int)) (hn : n ≤ 1000000) : j = Int32.ofNat n := Int32.toInt_inj.mp (by rw [own_ofNat hn]; exact h)
def own_all (a b c : List Int32) : List Int32 := a ++ (91 :: (b ++ (61 :: (c ++ [93]))))
theorem own_getL {a b : List Int32} {i : Nat} (h : i < a.length) : (a ++ b).getD i 0 = a.getD i 0 := by
  rw [List.getD_eq_getElem?_getD, List.getD_eq_getElem?_getD, List.getElem?_append_left h]
theorem own_getR {a b : List Int32} {i : Nat} (h : a.length ≤ i) : (a ++ b).getD i 0 = b.getD (i - a.length) 0 := by
  rw [List.getD_eq_getElem?_getD, List.getD_eq_getElem?_getD, List.getElem?_append_right h]
theorem own_getS {x : Int32} {b : List Int32} {i : Nat} (h : 0 < i) : (x :: b).getD i 0 = b.getD (i - 1) 0 := by
  obtain ⟨k, rfl⟩ : ∃ k, i = k + 1 := ⟨i - 1, by omega⟩
  rfl
theorem own_mem {a : List Int32} {i : Nat} (h : i < a.length) (hp : own_P a) : ¬ (a.getD i 0) < 0 ∧ ¬ (255 : Int32) < a.getD i 0 := by
  rw [List.getD_eq_getElem?_getD, List.getElem?_eq_getElem h]
  exact hp _ (List.getElem_mem h)
theorem own_x1 {a b c : List Int32} {i : Nat} (h : i < a.length) : (own_all a b c).getD i 0 = a.getD i 0 := own_getL h
theorem own_x2 {a b c : List Int32} {i : Nat} (h : i = a.length) : (own_all a b c).getD i 0 = 91 := by
  unfold own_all; rw [own_getR (by omega), show i - a.length = 0 by omega]; rfl
theorem own_x3 {a b c : List Int32} {i k : Nat} (h : i = a.length + 1 + k) (hk : k < b.length) : (own_all a b c).getD i 0 = b.getD k 0 := by
  unfold own_all; rw [own_getR (by omega), own_getS (by omega), own_getL (by omega)]; congr 1; omega
theorem own_x4 {a b c : List Int32} {i : Nat} (h : i = a.length + 1 + b.length) : (own_all a b c).getD i 0 = 61 := by
  unfold own_all; rw [own_getR (by omega), own_getS (by omega), own_getR (by omega), show i - a.length - 1 - b.length = 0 by omega]; rfl
theorem own_x5 {a b c : List Int32} {i k : Nat} (h : i = a.length + 1 + b.length + 1 + k) (hk : k < c.length) : (own_all a b c).getD i 0 = c.getD k 0 := by
  unfold own_all; rw [own_getR (by omega), own_getS (by omega), own_getR (by omega), own_getS (by omega), own_getL (by omega)]; congr 1; omega
theorem own_x6 {a b c : List Int32} {i : Nat} (h : i = a.length + 1 + b.length + 1 + c.length) : (own_all a b c).getD i 0 = 93 := by
  unfold own_all; rw [own_getR (by omega), own_getS (by omega), own_getR (by omega), own_getS (by omega), own_getR (by omega), show i - a.length - 1 - b.length - 1 - c.length = 0 by omega]; rfl
theorem own_len (a b c : List Int32) : (own_all a b c).length = a.length + b.length + c.length + 3 := by unfold own_all; simp; omega
theorem own_allP {a b c : List Int32} (ha : own_P a) (hb : own_P b) (hc : own_P c) : own_P (own_all a b c) := by
  intro x hx
  unfold own_all at hx
  simp only [List.mem_append, List.mem_cons, List.not_mem_nil, or_false] at hx
  rcases hx with h | rfl | h | rfl | h | rfl
  · exact ha x h
  · decide
  · exact hb x h
  · decide
  · exact hc x h
  · decide
theorem own_three (y : Int32) : (y &&& (3 : Int32)) % (3 : Int32) = 0 ∨ (y &&& (3 : Int32)) % (3 : Int32) = 1 ∨ (y &&& (3 : Int32)) % (3 : Int32) = 2 := by
  have h := c_and y 3 (by decide)
  have hr := (c_irem (y &&& (3 : Int32)) 3 3 rfl).1 h.1
  generalize (y &&& (3 : Int32)) % (3 : Int32) = k at hr ⊢
  have h5 : k.toInt = 0 ∨ k.toInt = 1 ∨ k.toInt = 2 := by omega
  rcases h5 with q | q | q
  · exact Or.inl (Int32.toInt_inj.mp q)
  · exact Or.inr (Or.inl (Int32.toInt_inj.mp q))
  · exact Or.inr (Or.inr (Int32.toInt_inj.mp q))
theorem own_narb (c : Int32) : nar .byte (c.toInt8.toInt32) = c.toInt8.toInt32 := by show (c.toInt8.toInt32).toInt8.toInt32 = _; rw [Int8.toInt8_toInt32]
theorem d11_0 : decode jdk_42_method_152_code 0 = .ok (.getstatic 38, 3) := by decide +kernel
theorem d11_3 : decode jdk_42_method_152_code 3 = .ok (.ifCond .eq 10, 3) := by decide +kernel
theorem d11_6 : decode jdk_42_method_152_code 6 = .ok (.aload_n 0, 1) := by decide +kernel
theorem d11_7 : decode jdk_42_method_152_code 7 = .ok (.getfield 15, 3) := by decide +kernel
theorem d11_10 : decode jdk_42_method_152_code 10 = .ok (.goto 4, 3) := by decide +kernel
theorem d11_14 : decode jdk_42_method_152_code 14 = .ok (.ireturn, 1) := by decide +kernel
theorem pn_11 : plainName "java/lang/String" = true := by first | (simp [plainName, overriddenIn]; done) | decide +kernel
theorem ef_rmCo (m : MethodId) (x0 : Addr) : entryFrame m #[(.ref x0)] 1 = mkF m 0 #[.val (.ref x0)] [] := by first | (simp [entryFrame, mkF, argsToLocals, Value.category]; done) | rfl
def Q_rmCo (Z : State) (x : Addr) (zc : Int32) (h0 : Heap) (n0 : Nat) (v : Option Value) (h : Heap) (L : List Loc) : Prop := v = some (.int (0 : Int32)) ∧ Fr n0 L ∧ h = h0
set_option maxRecDepth 65536 in
set_option maxHeartbeats 40000000 in
theorem rmCo (l : Launch) (Z : State) (a0 : Array Value) (hw : ∀ d ∈ tables_1, d.before a0 Z = true) (ws : List Jvm.Cond) (x : Addr) (zc : Int32) (h0 : Heap) (n0 : Nat) (Z0 : n0 ≤ h0.size) (pE_x : Exa Z h0 x "java/lang/String") (pF_coder_x : Fld Z h0 x "java/lang/String" "coder" "B" (.int (0 : Int32))) (pS_COMPACT_STRINGS : Sta Z Z.heap "java/lang/String" "COMPACT_STRINGS" "Z" (.int zc)) (pP5 : (¬ (zc = (0 : Int32)))) (pO : Old Z n0 h0) :
    MetFree l (⟨"java/lang/String", "coder", "()B"⟩ : MethodName) (head1 (Jvm.Cond.code (⟨"java/lang/String", "coder", "()B"⟩ : MethodName) jdk_42_method_152_code 1 (some .byte) :: ws) ({ frames := 0, cells := 0, slots := 0, locals := 0 } : Room)) (fun a U => a = #[(.ref x)] ∧ Z.Warmed39 U.vm ∧ U.heap = h0) (fun _ _ _ _ _ => True) (fun _ U o U' => ∃ v L, o = .returned v ∧ Q_rmCo Z x zc h0 n0 v U'.heap L ∧ FrameEnd U o U' L ({ frames := 0, cells := 0, slots := 0, locals := 0 } : Room).cells ({ frames := 0, cells := 0, slots := 0, locals := 0 } : Room).slots) := by
  refine MetFree.of_bodySF (plainFor_of_name pn_11) hisR ?_
  intro p e s m args below meth c s₁ Bd hml0 hP hK
  obtain ⟨rfl, hZ, hh⟩ := hP
  have hx := Bd.exec
  have hby := Bd.bytes
  have hml : c.maxLocals = 1 := hml0
  have hown : s.vm.findClass "java/lang/String" = some m.cls := findClass_of_methodNamed Bd.named
  have hnm := (name_of_methodNamed Bd.named Bd.method).1
  have X0 : Stand p l e ({ frames := 0, cells := 0, slots := 0, locals := 0 } : Room) s m #[(.ref x)] below meth c s₁ [] 0 0 := Stand.of_body Bd
  have e0 : s₁.heap = h0 := by rw [← hh, Bd.state]; rfl
  have N0 := Fr.nil n0
  refine own_enter (ef_rmCo m x) ?_
  obtain ⟨T1, X1, e1, st1⟩ := getS2 X0 hx hZ hown (host := "") (Or.inl (own_w hw 76 rfl)) Via.refl e0 (pS_COMPACT_STRINGS.ext pO.2) (g := (mkF m 0 #[.val (.ref x)] [])) rfl (hb hby d11_0)
  refine own_st st1 ?_
  show own_Go p e below T1 (mkF m 3 #[.val (.ref x)] [(.int zc)]) _
  refine own_st (fun t_ k_ => XS.ifNo X1.here hx rfl (hb hby d11_3) rfl ((if0 _ _).trans (feq pP5).1) (XS.aloadN X1.here hx rfl (hb hby d11_6) rfl rfl k_)) ?_
  show own_Go p e below T1 (mkF m 7 #[.val (.ref x)] [(.ref x)]) _
  obtain ⟨T2, X2, e2, st2⟩ := getF X1 hx hZ hown (host := "") (Or.inl (own_w hw 77 rfl)) Via.refl e1 pF_coder_x (g := (mkF m 7 #[.val (.ref x)] [(.ref x)])) rfl rfl (hb hby d11_7)
  refine own_st st2 ?_
  show own_Go p e below T2 (mkF m 10 #[.val (.ref x)] [(.int (0 : Int32))]) _
  refine own_st (fun t_ k_ => XS.goto X2.here hx rfl (pc0 := 10) (pc' := 14) rfl (hb hby d11_10) (by decide) (by decide) k_) ?_
  show own_Go p e below T2 (mkF m 14 #[.val (.ref x)] [(.int (0 : Int32))]) _
  obtain ⟨fs, hr, hrun, hended, hW, hsame⟩ := X2.leave (v := some (.int (0 : Int32))) (fun h => by rw [Bd.returns] at h; cases h)
  refine own_fin (retN X2 hx (t := .byte) Bd.returns (by simp) (hb hby d11_14) hr) ⟨hrun, hended, _, _, rfl, ?_, ⟨_, rfl⟩, hW, hsame.mono (by decide) (by decide)⟩
  show Q_rmCo Z x zc h0 n0 _ T2.heap _
  rw [e2]
  exact ⟨rfl, N0, rfl⟩
theorem d10_0 : decode jdk_42_method_54_code 0 = .ok (.aload_n 0, 1) := by decide +kernel
theorem d10_1 : decode jdk_42_method_54_code 1 = .ok (.getfield 9, 3) := by decide +kernel
theorem d10_4 : decode jdk_42_method_54_code 4 = .ok (.arraylength, 1) := by decide +kernel
theorem d10_5 : decode jdk_42_method_54_code 5 = .ok (.aload_n 0, 1) := by decide +kernel
theorem d10_6 : decode jdk_42_method_54_code 6 = .ok (.invokevirtual 335, 3) := by decide +kernel
theorem d10_9 : decode jdk_42_method_54_code 9 = .ok (.ishr, 1) := by decide +kernel
theorem d10_10 : decode jdk_42_method_54_code 10 = .ok (.ireturn, 1) := by decide +kernel
theorem pn_10 : plainName "java/lang/String" = true := by first | (simp [plainName, overriddenIn]; done) | decide +kernel
theorem pd___B : parseMethodDescriptor "()B" = some ⟨[], some .byte⟩ := by decide +kernel
theorem ef_rmLe (m : MethodId) (x0 : Addr) : entryFrame m #[(.ref x0)] 1 = mkF m 0 #[.val (.ref x0)] [] := by first | (simp [entryFrame, mkF, argsToLocals, Value.category]; done) | rfl
def Q_rmLe (Z : State) (x : Addr) (tx : Addr) (kx : ClassId) (n : Int32) (us : List Value) (zc : Int32) (h0 : Heap) (n0 : Nat) (v : Option Value) (h : Heap) (L : List Loc) : Prop := v = some (.int n) ∧ Fr n0 L ∧ h = h0
set_option maxRecDepth 65536 in
set_option maxHeartbeats 40000000 in
theorem rmLe (l : Launch) (Z : State) (a0 : Array Value) (hw : ∀ d ∈ tables_1, d.before a0 Z = true) (ws : List Jvm.Cond) (x : Addr) (tx : Addr) (kx : ClassId) (n : Int32) (us : List Value) (zc : Int32) (h0 : Heap) (n0 : Nat) (Z0 : n0 ≤ h0.size) (pE_x : Exa Z h0 x "java/lang/String") (pF_value_x : Fld Z h0 x "java/lang/String" "value" "[B" (.ref tx)) (pF_coder_x : Fld Z h0 x "java/lang/String" "coder" "B" (.int (0 : Int32))) (pV_tx : Arv Z h0 tx kx .byte n us (.int 0)) (pS_COMPACT_STRINGS : Sta Z Z.heap "java/lang/String" "COMPACT_STRINGS" "Z" (.int zc)) (pP5 : (¬ (zc = (0 : Int32)))) (pO : Old Z n0 h0) :
    MetFree l (⟨"java/lang/String", "length", "()I"⟩ : MethodName) (head1 (Jvm.Cond.code (⟨"java/lang/String", "length", "()I"⟩ : MethodName) jdk_42_method_54_code 1 (some .int) :: ws) ({ frames := 1, cells := 0, slots := 0, locals := 13 } : Room)) (fun a U => a = #[(.ref x)] ∧ Z.Warmed39 U.vm ∧ U.heap = h0) (fun _ _ _ _ _ => True) (fun _ U o U' => ∃ v L, o = .returned v ∧ Q_rmLe Z x tx kx n us zc h0 n0 v U'.heap L ∧ FrameEnd U o U' L ({ frames := 1, cells := 0, slots := 0, locals := 13 } : Room).cells ({ frames := 1, cells := 0, slots := 0, locals := 13 } : Room).slots) := by
  refine MetFree.of_bodySF (plainFor_of_name pn_10) hisR ?_
  intro p e s m args below meth c s₁ Bd hml0 hP hK
  obtain ⟨rfl, hZ, hh⟩ := hP
  have hx := Bd.exec
  have hby := Bd.bytes
  have hml : c.maxLocals = 1 := hml0
  have hown : s.vm.findClass "java/lang/String" = some m.cls := findClass_of_methodNamed Bd.named
  have hnm := (name_of_methodNamed Bd.named Bd.method).1
  have X0 : Stand p l e ({ frames := 1, cells := 0, slots := 0, locals := 13 } : Room) s m #[(.ref x)] below meth c s₁ [] 0 0 := Stand.of_body Bd
  have e0 : s₁.heap = h0 := by rw [← hh, Bd.state]; rfl
  have N0 := Fr.nil n0
  refine own_enter (ef_rmLe m x) ?_
  refine own_st (fun t_ k_ => XS.aloadN X0.here hx rfl (hb hby d10_0) rfl rfl k_) ?_
  show own_Go p e below s₁ (mkF m 1 #[.val (.ref x)] [(.ref x)]) _
  obtain ⟨T1, X1, e1, st1⟩ := getF X0 hx hZ hown (host := "") (Or.inl (own_w hw 70 rfl)) Via.refl e0 pF_value_x (g := (mkF m 1 #[.val (.ref x)] [(.ref x)])) rfl rfl (hb hby d10_1)
  refine own_st st1 ?_
  show own_Go p e below T1 (mkF m 4 #[.val (.ref x)] [(.ref tx)]) _
  obtain ⟨cl2, Ar2, q2, Sz2, Nn2, Hh2, Gg2⟩ := id pV_tx
  refine own_st (fun t_ k_ => X1.arraylength hx (by rw [e1]; exact Ar2.1) (State.isArrayOf_alike hZ.alike Ar2.2.1) (g := (mkF m 4 #[.val (.ref x)] [(.ref tx)])) rfl rfl (hb hby d10_4) _ k_) ?_
  rw [len_of Sz2 Nn2]
  show own_Go p e below T1 (mkF m 5 #[.val (.ref x)] [(.int n)]) _
  refine own_st (fun t_ k_ => XS.aloadN X1.here hx rfl (hb hby d10_5) rfl rfl k_) ?_
  show own_Go p e below T1 (mkF m 6 #[.val (.ref x)] [(.ref x), (.int n)]) _
  obtain ⟨cq3, kq3, qa3, qb3, qc3⟩ := isOf hZ e1 pE_x
  obtain ⟨_, _, ⟨T3, L3, k3, n3⟩, -, X3, ⟨Lc3, hQ3, l3, y3, z3⟩, st3⟩ := X1.virtualBack hx (y := (⟨"java/lang/String", "coder", "()B"⟩ : MethodName)) (z := (⟨"java/lang/String", "coder", "()B"⟩ : MethodName)) hown (mvT hZ (own_w hw 71 rfl)) (mvT hZ (own_w hw 72 rfl)) (notFace_of_selects (args := #[]) (mvT hZ (own_w hw 74 rfl))) (mvT hZ (own_w hw 74 rfl)) (mvT hZ (own_w hw 73 rfl)) (by decide) (backOf (W := 1) (rmCo l Z a0 hw [] x zc h0 n0 Z0 pE_x pF_coder_x pS_COMPACT_STRINGS pP5 pO) hZ (own_w hw 75 rfl) (own_w hw 5 rfl) (by decide) (by decide)) qa3 qc3 (g := (mkF m 6 #[.val (.ref x)] [(.ref x), (.int n)])) rfl (by rw [hml]; rfl) (Steps.refl _) (argsL := []) (rest := [(.int n)]) (lenOf pd___B rfl) rfl (by show 2 * 0 + _ ≤ _; exact Nat.le_of_eq rfl) (hb hby d10_6) (fun _ _ => ⟨rfl, e1, (by decide : 0 + 0 ≤ _), (by decide : 0 + 0 ≤ _)⟩)
  dsimp only [Pt.U, Pt.locs, Pt.cells, Pt.slots] at X3 l3 y3 z3 st3 hQ3
  try dsimp only [Nat.reduceAdd] at y3 z3
  rw [l3, y3, z3] at X3
  obtain ⟨rfl, Nq3, eH3⟩ := hQ3
  have N3 := Fr.app N0 Nq3
  refine own_tr st3 ?_
  show own_Go p e below T3 (mkF m 9 #[.val (.ref x)] [(.int (0 : Int32)), (.int n)]) _
  refine own_st (fun t_ k_ => XS.ishr X3.here hx rfl (hb hby d10_9) rfl k_) ?_
  show own_Go p e below T3 (mkF m 10 #[.val (.ref x)] [(.int (n >>> ((0 : Int32) &&& 31)))]) _
  rw [own_shr0 n]
  show own_Go p e below T3 (mkF m 10 #[.val (.ref x)] [(.int n)]) _
  obtain ⟨fs, hr, hrun, hended, hW, hsame⟩ := X3.leave (v := some (.int n)) (fun h => by rw [Bd.returns] at h; cases h)
  refine own_fin (own_retI X3 hx Bd.returns (hb hby d10_10) hr) ⟨hrun, hended, _, _, rfl, ?_, ⟨_, rfl⟩, hW, hsame.mono (by decide) (by decide)⟩
  show Q_rmLe Z x tx kx n us zc h0 n0 _ T3.heap _
  rw [eH3]
  exact ⟨rfl, N3, rfl⟩
theorem d7_0 : decode jdk_68_method_2_code 0 = .ok (.aload_n 0, 1) := by decide +kernel
theorem d7_1 : decode jdk_68_method_2_code 1 = .ok (.invokespecial 3, 3) := by decide +kernel
theorem d7_4 : decode jdk_68_method_2_code 4 = .ok (.getstatic 18, 3) := by decide +kernel
theorem d7_7 : decode jdk_68_method_2_code 7 = .ok (.ifCond .eq 18, 3) := by decide +kernel
theorem d7_10 : decode jdk_68_method_2_code 10 = .ok (.aload_n 0, 1) := by decide +kernel
theorem d7_11 : decode jdk_68_method_2_code 11 = .ok (.iload_n 1, 1) := by decide +kernel
theorem d7_12 : decode jdk_68_method_2_code 12 = .ok (.newarray .byte, 2) := by decide +kernel
theorem d7_14 : decode jdk_68_method_2_code 14 = .ok (.putfield 15, 3) := by decide +kernel
theorem d7_17 : decode jdk_68_method_2_code 17 = .ok (.aload_n 0, 1) := by decide +kernel
theorem d7_18 : decode jdk_68_method_2_code 18 = .ok (.iconst 0, 1) := by decide +kernel
theorem d7_19 : decode jdk_68_method_2_code 19 = .ok (.putfield 22, 3) := by decide +kernel
theorem d7_22 : decode jdk_68_method_2_code 22 = .ok (.goto 16, 3) := by decide +kernel
theorem d7_38 : decode jdk_68_method_2_code 38 = .ok (.return_, 1) := by decide +kernel
theorem pn_7 : plainName "java/lang/AbstractStringBuilder" = true := by first | (simp [plainName, overriddenIn]; done) | decide +kernel
theorem ef_rmAbI (m : MethodId) (x0 : Addr) (x1 : Int32) : entryFrame m #[(.ref x0), (.int x1)] 2 = mkF m 0 #[.val (.ref x0), .val (.int x1)] [] := by first | (simp [entryFrame, mkF, argsToLocals, Value.category]; done) | rfl
def Q_rmAbI (Z : State) (a1 : Addr) (u1 : Value) (u2 : Value) (zc : Int32) (h0 : Heap) (n0 : Nat) (v : Option Value) (h : Heap) (L : List Loc) : Prop := ∃ va : Addr, ∃ kva : ClassId, v = none ∧ Fr n0 L ∧ Keep h0 h [a1] ∧ Exa Z h a1 "java/lang/StringBuilder" ∧ Fld Z h a1 "java/lang/AbstractStringBuilder" "value" "[B" (.ref va) ∧ Fld Z h a1 "java/lang/AbstractStringBuilder" "coder" "B" (.int (0 : Int32)) ∧ Fld Z h a1 "java/lang/AbstractStringBuilder" "count" "I" (.int (0 : Int32)) ∧ Arv Z h va kva .byte (16 : Int32) [(.int 0), (.int 0), (.int 0), (.int 0), (.int 0), (.int 0), (.int 0), (.int 0), (.int 0), (.int 0), (.int 0), (.int 0), (.int 0), (.int 0), (.int 0), (.int 0)] (.int 0) ∧ h0.size ≤ va ∧ n0 ≤ va
set_option maxRecDepth 65536 in
set_option maxHeartbeats 40000000 in
theorem rmAbI (l : Launch) (Z : State) (a0 : Array Value) (hw : ∀ d ∈ tables_1, d.before a0 Z = true) (ws : List Jvm.Cond) (a1 : Addr) (u1 : Value) (u2 : Value) (zc : Int32) (h0 : Heap) (n0 : Nat) (Z0 : n0 ≤ h0.size) (pE_a1 : Exa Z h0 a1 "java/lang/StringBuilder") (pF_value_a1 : Fld Z h0 a1 "java/lang/AbstractStringBuilder" "value" "[B" u1) (pF_coder_a1 : Fld Z h0 a1 "java/lang/AbstractStringBuilder" "coder" "B" u2) (pF_count_a1 : Fld Z h0 a1 "java/lang/AbstractStringBuilder" "count" "I" (.int (0 : Int32))) (pG_a1 : n0 ≤ a1) (pS_COMPACT_STRINGS : Sta Z Z.heap "java/lang/String" "COMPACT_STRINGS" "Z" (.int zc)) (pP5 : (¬ (zc = (0 : Int32)))) (pO : Old Z n0 h0) :
    MetFree l (⟨"java/lang/AbstractStringBuilder", "<init>", "(I)V"⟩ : MethodName) (head1 (Jvm.Cond.code (⟨"java/lang/AbstractStringBuilder", "<init>", "(I)V"⟩ : MethodName) jdk_68_method_2_code 2 none :: ws) ({ frames := 1, cells := 1, slots := 16, locals := 12 } : Room)) (fun a U => a = #[(.ref a1), (.int (16 : Int32))] ∧ Z.Warmed39 U.vm ∧ U.heap = h0) (fun _ _ _ _ _ => True) (fun _ U o U' => ∃ v L, o = .returned v ∧ Q_rmAbI Z a1 u1 u2 zc h0 n0 v U'.heap L ∧ FrameEnd U o U' L ({ frames := 1, cells := 1, slots := 16, locals := 12 } : Room).cells ({ frames := 1, cells := 1, slots := 16, locals := 12 } : Room).slots) := by
  refine MetFree.of_bodySF (plainFor_of_name pn_7) hisR ?_
  intro p e s m args below meth c s₁ Bd hml0 hP hK
  obtain ⟨rfl, hZ, hh⟩ := hP
  have hx := Bd.exec
  have hby := Bd.bytes
  have hml : c.maxLocals = 2 := hml0
  have hown : s.vm.findClass "java/lang/AbstractStringBuilder" = some m.cls := findClass_of_methodNamed Bd.named
  have hnm := (name_of_methodNamed Bd.named Bd.method).1
  have X0 : Stand p l e ({ frames := 1, cells := 1, slots := 16, locals := 12 } : Room) s m #[(.ref a1), (.int (16 : Int32))] below meth c s₁ [] 0 0 := Stand.of_body Bd
  have e0 : s₁.heap = h0 := by rw [← hh, Bd.state]; rfl
  have N0 := Fr.nil n0
  refine own_enter (ef_rmAbI m a1 ((16 : Int32))) ?_
  refine own_st (fun t_ k_ => XS.aloadN X0.here hx rfl (hb hby d7_0) rfl rfl k_) ?_
  show own_Go p e below s₁ (mkF m 1 #[.val (.ref a1), .val (.int (16 : Int32))] [(.ref a1)]) _
  obtain ⟨T1, X1, e1, st1⟩ := initO X0 hx hZ hown (own_w hw 49 rfl) (own_w hw 24 rfl) (own_w hw 25 rfl) e0 (g := (mkF m 1 #[.val (.ref a1), .val (.int (16 : Int32))] [(.ref a1)])) rfl (by rw [hml]; rfl) rfl (hb hby d7_1) (by decide) (W := 0) (by show 2 * 0 + _ ≤ _; exact Nat.le_of_eq rfl) (by decide)
  refine own_st st1 ?_
  show own_Go p e below T1 (mkF m 4 #[.val (.ref a1), .val (.int (16 : Int32))] []) _
  obtain ⟨T2, X2, e2, st2⟩ := getS2 X1 hx hZ hown (host := "") (Or.inl (own_w hw 50 rfl)) Via.refl e1 (pS_COMPACT_STRINGS.ext pO.2) (g := (mkF m 4 #[.val (.ref a1), .val (.int (16 : Int32))] [])) rfl (hb hby d7_4)
  refine own_st st2 ?_
  show own_Go p e below T2 (mkF m 7 #[.val (.ref a1), .val (.int (16 : Int32))] [(.int zc)]) _
  refine own_st (fun t_ k_ => XS.ifNo X2.here hx rfl (hb hby d7_7) rfl ((if0 _ _).trans (feq pP5).1) (XS.aloadN X2.here hx rfl (hb hby d7_10) rfl rfl (XS.iloadN X2.here hx rfl (hb hby d7_11) rfl k_))) ?_
  show own_Go p e below T2 (mkF m 12 #[.val (.ref a1), .val (.int (16 : Int32))] [(.int (16 : Int32)), (.ref a1)]) _
  obtain ⟨T3, h3, k3, X3, e3, E3, A3, st3⟩ := newP X2 hx hZ (own_w hw 7 rfl) e2 (g := (mkF m 12 #[.val (.ref a1), .val (.int (16 : Int32))] [(.int (16 : Int32)), (.ref a1)])) rfl (hb hby d7_12) rfl (by decide) (cap := 16) (by decide) (by decide) (by decide) (by decide)
  obtain ⟨b3, g3⟩ : ∃ z, z = h0.size := ⟨_, rfl⟩
  rw [← g3] at A3 st3
  have G3 : n0 ≤ b3 := Nat.le_trans Z0 (Nat.le_of_eq g3.symm)
  have B3 : h0.size ≤ b3 := Nat.le_trans (Keep.refl h0 [a1]).1 (Nat.le_of_eq g3.symm)
  have K4 : Keep h0 h3 [a1] := (Keep.refl h0 [a1]).ext E3
  have V3 : Arv Z h3 b3 k3 .byte (16 : Int32) [(.int (0 : Int32)), (.int (0 : Int32)), (.int (0 : Int32)), (.int (0 : Int32)), (.int (0 : Int32)), (.int (0 : Int32)), (.int (0 : Int32)), (.int (0 : Int32)), (.int (0 : Int32)), (.int (0 : Int32)), (.int (0 : Int32)), (.int (0 : Int32)), (.int (0 : Int32)), (.int (0 : Int32)), (.int (0 : Int32)), (.int (0 : Int32))] (.int (0 : Int32)) := (Arv.new A3 (by decide)).pad (pad_rep [] (.int (0 : Int32)) 16)
  refine own_st st3 ?_
  show own_Go p e below T3 (mkF m 14 #[.val (.ref a1), .val (.int (16 : Int32))] [(.ref b3), (.ref a1)]) _
  have f5 := (pE_a1.ext E3)
  have f6 := (pF_value_a1.ext E3)
  obtain ⟨T7, h7, X7, e7, W7, st7⟩ := putF X3 hx hZ hown (host := "") (Or.inl (own_w hw 51 rfl)) Via.refl e3 f6 f5 (Or.inl (own_w hw 52 rfl)) (own_w hw 38 rfl) (ty := (.array .byte)) (by decide) rfl rfl (g := (mkF m 14 #[.val (.ref a1), .val (.int (16 : Int32))] [(.ref b3), (.ref a1)])) rfl rfl (hb hby d7_14)
  have F7 := f6.same W7
  have K8 : Keep h0 h7 [a1] := K4.wr W7 (Or.inl (List.mem_of_getElem? (i := 0) rfl))
  have N7 := Fr.snoc X7 N0 pG_a1
  refine own_st st7 ?_
  show own_Go p e below T7 (mkF m 17 #[.val (.ref a1), .val (.int (16 : Int32))] []) _
  refine own_st (fun t_ k_ => XS.aloadN X7.here hx rfl (hb hby d7_17) rfl rfl (XS.iconst X7.here hx rfl (hb hby d7_18) k_)) ?_
  show own_Go p e below T7 (mkF m 19 #[.val (.ref a1), .val (.int (16 : Int32))] [(.int (0 : Int32)), (.ref a1)]) _
  have f9 := (f5.wr W7)
  have f10 := ((pF_coder_a1.ext E3).other W7 (Or.inr (slot_ne (Or.inl (own_w hw 54 rfl)) (Or.inl (own_w hw 52 rfl)) (by decide) (t := .byte) (t' := (.array .byte)) (by decide) (by decide))))
  obtain ⟨T11, h11, X11, e11, W11, st11⟩ := putFN X7 hx hZ hown (own_w hw 53 rfl) Via.refl e7 f10 f9 (Or.inl (own_w hw 54 rfl)) (own_w hw 38 rfl) (ty := .byte) (v' := (.int (0 : Int32))) (by decide) rfl (by decide) (g := (mkF m 19 #[.val (.ref a1), .val (.int (16 : Int32))] [(.int (0 : Int32)), (.ref a1)])) rfl rfl (hb hby d7_19)
  have F11 := f10.same W11
  have K12 : Keep h0 h11 [a1] := K8.wr W11 (Or.inl (List.mem_of_getElem? (i := 0) rfl))
  have N11 := Fr.snoc X11 N7 pG_a1
  refine own_st st11 ?_
  show own_Go p e below T11 (mkF m 22 #[.val (.ref a1), .val (.int (16 : Int32))] []) _
  refine own_st (fun t_ k_ => XS.goto X11.here hx rfl (pc0 := 22) (pc' := 38) rfl (hb hby d7_22) (by decide) (by decide) k_) ?_
  show own_Go p e below T11 (mkF m 38 #[.val (.ref a1), .val (.int (16 : Int32))] []) _
  have f13 := (f9.wr W11)
  have f14 := (F7.other W11 (Or.inr (slot_ne (Or.inl (own_w hw 52 rfl)) (Or.inl (own_w hw 54 rfl)) (by decide) (t := (.array .byte)) (t' := .byte) (by decide) (by decide))))
  have f15 := (((pF_count_a1.ext E3).other W7 (Or.inr (slot_ne (Or.inl (own_w hw 79 rfl)) (Or.inl (own_w hw 52 rfl)) (by decide) (t := .int) (t' := (.array .byte)) (by decide) (by decide)))).other W11 (Or.inr (slot_ne (Or.inl (own_w hw 79 rfl)) (Or.inl (own_w hw 54 rfl)) (by decide) (t := .int) (t' := .byte) (by decide) (by decide))))
  have f16 := ((V3.other W7 (Ne.symm (Nat.ne_of_lt (Nat.lt_of_lt_of_le pE_a1.lt (Nat.le_of_eq g3.symm))))).other W11 (Ne.symm (Nat.ne_of_lt (Nat.lt_of_lt_of_le pE_a1.lt (Nat.le_of_eq g3.symm)))))
  obtain ⟨fs, hr, hrun, hended, hW, hsame⟩ := X11.leave (v := none) (fun _ => rfl)
  refine own_fin (X11.returnOut hx Bd.returns (hb hby d7_38) hr) ⟨hrun, hended, _, _, rfl, ?_, ⟨_, rfl⟩, hW, hsame.mono (by decide) (by decide)⟩
  show Q_rmAbI Z a1 u1 u2 zc h0 n0 _ T11.heap _
  rw [e11]
  exact ⟨b3, k3, rfl, N11, K12, f13, f14, F11, f15, f16, B3, G3⟩
theorem d6_0 : decode jdk_67_method_1_code 0 = .ok (.aload_n 0, 1) := by decide +kernel
theorem d6_1 : decode jdk_67_method_1_code 1 = .ok (.bipush 16, 2) := by decide +kernel
theorem d6_3 : decode jdk_67_method_1_code 3 = .ok (.invokespecial 1, 3) := by decide +kernel
theorem d6_6 : decode jdk_67_method_1_code 6 = .ok (.return_, 1) := by decide +kernel
theorem pn_6 : plainName "java/lang/StringBuilder" = true := by first | (simp [plainName, overriddenIn]; done) | decide +kernel
theorem pd__I_V : parseMethodDescriptor "(I)V" = some ⟨[.int], none⟩ := by decide +kernel
theorem ef_rmSbI (m : MethodId) (x0 : Addr) : entryFrame m #[(.ref x0)] 1 = mkF m 0 #[.val (.ref x0)] [] := by first | (simp [entryFrame, mkF, argsToLocals, Value.category]; done) | rfl
def Q_rmSbI (Z : State) (a1 : Addr) (u1 : Value) (u2 : Value) (zc : Int32) (h0 : Heap) (n0 : Nat) (v : Option Value) (h : Heap) (L : List Loc) : Prop := ∃ va : Addr, ∃ kva : ClassId, v = none ∧ Fr n0 L ∧ Keep h0 h [a1] ∧ Exa Z h a1 "java/lang/StringBuilder" ∧ Fld Z h a1 "java/lang/AbstractStringBuilder" "value" "[B" (.ref va) ∧ Fld Z h a1 "java/lang/AbstractStringBuilder" "coder" "B" (.int (0 : Int32)) ∧ Fld Z h a1 "java/lang/AbstractStringBuilder" "count" "I" (.int (0 : Int32)) ∧ Arv Z h va kva .byte (16 : Int32) [(.int 0), (.int 0), (.int 0), (.int 0), (.int 0), (.int 0), (.int 0), (.int 0), (.int 0), (.int 0), (.int 0), (.int 0), (.int 0), (.int 0), (.int 0), (.int 0)] (.int 0) ∧ h0.size ≤ va ∧ n0 ≤ va
set_option maxRecDepth 65536 in
set_option maxHeartbeats 40000000 in
theorem rmSbI (l : Launch) (Z : State) (a0 : Array Value) (hw : ∀ d ∈ tables_1, d.before a0 Z = true) (ws : List Jvm.Cond) (a1 : Addr) (u1 : Value) (u2 : Value) (zc : Int32) (h0 : Heap) (n0 : Nat) (Z0 : n0 ≤ h0.size) (pE_a1 : Exa Z h0 a1 "java/lang/StringBuilder") (pF_value_a1 : Fld Z h0 a1 "java/lang/AbstractStringBuilder" "value" "[B" u1) (pF_coder_a1 : Fld Z h0 a1 "java/lang/AbstractStringBuilder" "coder" "B" u2) (pF_count_a1 : Fld Z h0 a1 "java/lang/AbstractStringBuilder" "count" "I" (.int (0 : Int32))) (pG_a1 : n0 ≤ a1) (pS_COMPACT_STRINGS : Sta Z Z.heap "java/lang/String" "COMPACT_STRINGS" "Z" (.int zc)) (pP5 : (¬ (zc = (0 : Int32)))) (pO : Old Z n0 h0) :
    MetFree l (⟨"java/lang/StringBuilder", "<init>", "()V"⟩ : MethodName) (head1 (Jvm.Cond.code (⟨"java/lang/StringBuilder", "<init>", "()V"⟩ : MethodName) jdk_67_method_1_code 1 none :: ws) ({ frames := 2, cells := 1, slots := 16, locals := 25 } : Room)) (fun a U => a = #[(.ref a1)] ∧ Z.Warmed39 U.vm ∧ U.heap = h0) (fun _ _ _ _ _ => True) (fun _ U o U' => ∃ v L, o = .returned v ∧ Q_rmSbI Z a1 u1 u2 zc h0 n0 v U'.heap L ∧ FrameEnd U o U' L ({ frames := 2, cells := 1, slots := 16, locals := 25 } : Room).cells ({ frames := 2, cells := 1, slots := 16, locals := 25 } : Room).slots) := by
  refine MetFree.of_bodySF (plainFor_of_name pn_6) hisR ?_
  intro p e s m args below meth c s₁ Bd hml0 hP hK
  obtain ⟨rfl, hZ, hh⟩ := hP
  have hx := Bd.exec
  have hby := Bd.bytes
  have hml : c.maxLocals = 1 := hml0
  have hown : s.vm.findClass "java/lang/StringBuilder" = some m.cls := findClass_of_methodNamed Bd.named
  have hnm := (name_of_methodNamed Bd.named Bd.method).1
  have X0 : Stand p l e ({ frames := 2, cells := 1, slots := 16, locals := 25 } : Room) s m #[(.ref a1)] below meth c s₁ [] 0 0 := Stand.of_body Bd
  have e0 : s₁.heap = h0 := by rw [← hh, Bd.state]; rfl
  have N0 := Fr.nil n0
  refine own_enter (ef_rmSbI m a1) ?_
  refine own_st (fun t_ k_ => XS.aloadN X0.here hx rfl (hb hby d6_0) rfl rfl (XS.bipush X0.here hx rfl (hb hby d6_1) k_)) ?_
  show own_Go p e below s₁ (mkF m 3 #[.val (.ref a1)] [(.int (16 : Int32)), (.ref a1)]) _
  obtain ⟨_, _, ⟨T1, L1, k1, n1⟩, -, X1, ⟨Lc1, hQ1, l1, y1, z1⟩, st1⟩ := X0.specialBack hx (y := (⟨"java/lang/AbstractStringBuilder", "<init>", "(I)V"⟩ : MethodName)) rfl hown (mvT hZ (own_w hw 43 rfl)) (mvT hZ (own_w hw 44 rfl)) (mvT hZ (own_w hw 48 rfl)) (by decide) (backOf (W := 0) (rmAbI l Z a0 hw [] a1 u1 u2 zc h0 n0 Z0 pE_a1 pF_value_a1 pF_coder_a1 pF_count_a1 pG_a1 pS_COMPACT_STRINGS pP5 pO) hZ (own_w hw 48 rfl) (own_w hw 47 rfl) (by decide) (by decide)) (g := (mkF m 3 #[.val (.ref a1)] [(.int (16 : Int32)), (.ref a1)])) rfl (by rw [hml]; rfl) (Steps.refl _) (a := a1) (argsL := [(.int (16 : Int32))]) (rest := []) (lenOf pd__I_V rfl) rfl (by show 2 * 0 + _ ≤ _; exact Nat.le_of_eq rfl) (hb hby d6_3) (fun _ _ => ⟨rfl, e0, (by decide : 0 + 1 ≤ _), (by decide : 0 + 16 ≤ _)⟩)
  dsimp only [Pt.U, Pt.locs, Pt.cells, Pt.slots] at X1 l1 y1 z1 st1 hQ1
  try dsimp only [Nat.reduceAdd] at y1 z1
  rw [l1, y1, z1] at X1
  obtain ⟨va_1, kva_1, rfl, Nq1, Kq1, q1_0, q1_1, q1_2, q1_3, q1_4, q1_5, q1_6⟩ := hQ1
  have N1 := Fr.app N0 Nq1
  have K2 : Keep h0 T1.heap [a1] := (Keep.refl h0 [a1]).trans Kq1 (allS (Or.inl (List.mem_of_getElem? (i := 0) rfl)) all0)
  have Bf3 : h0.size ≤ va_1 := Nat.le_trans (Keep.refl h0 [a1]).1 q1_5
  refine own_tr st1 ?_
  show own_Go p e below T1 (mkF m 6 #[.val (.ref a1)] []) _
  obtain ⟨fs, hr, hrun, hended, hW, hsame⟩ := X1.leave (v := none) (fun _ => rfl)
  refine own_fin (X1.returnOut hx Bd.returns (hb hby d6_6) hr) ⟨hrun, hended, _, _, rfl, ?_, ⟨_, rfl⟩, hW, hsame.mono (by decide) (by decide)⟩
  show Q_rmSbI Z a1 u1 u2 zc h0 n0 _ T1.heap _
  exact ⟨va_1, kva_1, rfl, N1, K2, q1_0, q1_1, q1_2, q1_3, q1_4, Bf3, q1_6⟩
theorem d12_0 : decode jdk_68_method_9_code 0 = .ok (.aload_n 0, 1) := by decide +kernel
theorem d12_1 : decode jdk_68_method_9_code 1 = .ok (.getfield 15, 3) := by decide +kernel
theorem d12_4 : decode jdk_68_method_9_code 4 = .ok (.arraylength, 1) := by decide +kernel
theorem d12_5 : decode jdk_68_method_9_code 5 = .ok (.aload_n 0, 1) := by decide +kernel
theorem d12_6 : decode jdk_68_method_9_code 6 = .ok (.getfield 22, 3) := by decide +kernel
theorem d12_9 : decode jdk_68_method_9_code 9 = .ok (.ishr, 1) := by decide +kernel
theorem d12_10 : decode jdk_68_method_9_code 10 = .ok (.istore_n 2, 1) := by decide +kernel
theorem d12_11 : decode jdk_68_method_9_code 11 = .ok (.iload_n 1, 1) := by decide +kernel
theorem d12_12 : decode jdk_68_method_9_code 12 = .ok (.iload_n 2, 1) := by decide +kernel
theorem d12_13 : decode jdk_68_method_9_code 13 = .ok (.isub, 1) := by decide +kernel
theorem d12_14 : decode jdk_68_method_9_code 14 = .ok (.ifCond .le 24, 3) := by decide +kernel
theorem d12_38 : decode jdk_68_method_9_code 38 = .ok (.return_, 1) := by decide +kernel
theorem pn_12 : plainName "java/lang/AbstractStringBuilder" = true := by first | (simp [plainName, overriddenIn]; done) | decide +kernel
theorem ef_rmEc (m : MethodId) (x0 : Addr) (x1 : Int32) : entryFrame m #[(.ref x0), (.int x1)] 3 = mkF m 0 #[.val (.ref x0), .val (.int x1), .unset] [] := by first | (simp [entryFrame, mkF, argsToLocals, Value.category]; done) | rfl
def Q_rmEc (Z : State) (a1 : Addr) (va : Addr) (kva : ClassId) (cap : Int32) (vs : List Value) (mm : Int32) (h0 : Heap) (n0 : Nat) (v : Option Value) (h : Heap) (L : List Loc) : Prop := v = none ∧ Fr n0 L ∧ h = h0
set_option maxRecDepth 65536 in
set_option maxHeartbeats 40000000 in
theorem rmEc (l : Launch) (Z : State) (a0 : Array Value) (hw : ∀ d ∈ tables_1, d.before a0 Z = true) (ws : List Jvm.Cond) (a1 : Addr) (va : Addr) (kva : ClassId) (cap : Int32) (vs : List Value) (mm : Int32) (h0 : Heap) (n0 : Nat) (Z0 : n0 ≤ h0.size) (pE_a1 : Exa Z h0 a1 "java/lang/StringBuilder") (pF_value_a1 : Fld Z h0 a1 "java/lang/AbstractStringBuilder" "value" "[B" (.ref va)) (pF_coder_a1 : Fld Z h0 a1 "java/lang/AbstractStringBuilder" "coder" "B" (.int (0 : Int32))) (pV_va : Arv Z h0 va kva .byte cap vs (.int 0)) (hmm : (¬ ((0 : Int32) < mm - cap))) :
    MetFree l (⟨"java/lang/AbstractStringBuilder", "ensureCapacityInternal", "(I)V"⟩ : MethodName) (head1 (Jvm.Cond.code (⟨"java/lang/AbstractStringBuilder", "ensureCapacityInternal", "(I)V"⟩ : MethodName) jdk_68_method_9_code 3 none :: ws) ({ frames := 0, cells := 0, slots := 0, locals := 0 } : Room)) (fun a U => a = #[(.ref a1), (.int mm)] ∧ Z.Warmed39 U.vm ∧ U.heap = h0) (fun _ _ _ _ _ => True) (fun _ U o U' => ∃ v L, o = .returned v ∧ Q_rmEc Z a1 va kva cap vs mm h0 n0 v U'.heap L ∧ FrameEnd U o U' L ({ frames := 0, cells := 0, slots := 0, locals := 0 } : Room).cells ({ frames := 0, cells := 0, slots := 0, locals := 0 } : Room).slots) := by
  refine MetFree.of_bodySF (plainFor_of_name pn_12) hisR ?_
  intro p e s m args below meth c s₁ Bd hml0 hP hK
  obtain ⟨rfl, hZ, hh⟩ := hP
  have hx := Bd.exec
  have hby := Bd.bytes
  have hml : c.maxLocals = 3 := hml0
  have hown : s.vm.findClass "java/lang/AbstractStringBuilder" = some m.cls := findClass_of_methodNamed Bd.named
  have hnm := (name_of_methodNamed Bd.named Bd.method).1
  have X0 : Stand p l e ({ frames := 0, cells := 0, slots := 0, locals := 0 } : Room) s m #[(.ref a1), (.int mm)] below meth c s₁ [] 0 0 := Stand.of_body Bd
  have e0 : s₁.heap = h0 := by rw [← hh, Bd.state]; rfl
  have N0 := Fr.nil n0
  refine own_enter (ef_rmEc m a1 mm) ?_
  refine own_st (fun t_ k_ => XS.aloadN X0.here hx rfl (hb hby d12_0) rfl rfl k_) ?_
  show own_Go p e below s₁ (mkF m 1 #[.val (.ref a1), .val (.int mm), .unset] [(.ref a1)]) _
  obtain ⟨T1, X1, e1, st1⟩ := getF X0 hx hZ hown (host := "") (Or.inl (own_w hw 51 rfl)) Via.refl e0 pF_value_a1 (g := (mkF m 1 #[.val (.ref a1), .val (.int mm), .unset] [(.ref a1)])) rfl rfl (hb hby d12_1)
  refine own_st st1 ?_
  show own_Go p e below T1 (mkF m 4 #[.val (.ref a1), .val (.int mm), .unset] [(.ref va)]) _
  obtain ⟨cl2, Ar2, q2, Sz2, Nn2, Hh2, Gg2⟩ := id pV_va
  refine own_st (fun t_ k_ => X1.arraylength hx (by rw [e1]; exact Ar2.1) (State.isArrayOf_alike hZ.alike Ar2.2.1) (g := (mkF m 4 #[.val (.ref a1), .val (.int mm), .unset] [(.ref va)])) rfl rfl (hb hby d12_4) _ k_) ?_
  rw [len_of Sz2 Nn2]
  show own_Go p e below T1 (mkF m 5 #[.val (.ref a1), .val (.int mm), .unset] [(.int cap)]) _
  refine own_st (fun t_ k_ => XS.aloadN X1.here hx rfl (hb hby d12_5) rfl rfl k_) ?_
  show own_Go p e below T1 (mkF m 6 #[.val (.ref a1), .val (.int mm), .unset] [(.ref a1), (.int cap)]) _
  obtain ⟨T3, X3, e3, st3⟩ := getF X1 hx hZ hown (host := "") (Or.inl (own_w hw 53 rfl)) Via.refl e1 pF_coder_a1 (g := (mkF m 6 #[.val (.ref a1), .val (.int mm), .unset] [(.ref a1), (.int cap)])) rfl rfl (hb hby d12_6)
  refine own_st st3 ?_
  show own_Go p e below T3 (mkF m 9 #[.val (.ref a1), .val (.int mm), .unset] [(.int (0 : Int32)), (.int cap)]) _
  refine own_st (fun t_ k_ => XS.ishr X3.here hx rfl (hb hby d12_9) rfl k_) ?_
  show own_Go p e below T3 (mkF m 10 #[.val (.ref a1), .val (.int mm), .unset] [(.int (cap >>> ((0 : Int32) &&& 31)))]) _
  rw [own_shr0 cap]
  show own_Go p e below T3 (mkF m 10 #[.val (.ref a1), .val (.int mm), .unset] [(.int cap)]) _
  refine own_st (fun t_ k_ => XS.istoreN X3.here hx rfl (hb hby d12_10) rfl (l' := #[.val (.ref a1), .val (.int mm), .val (.int cap)]) rfl (XS.iloadN X3.here hx rfl (hb hby d12_11) rfl (XS.iloadN X3.here hx rfl (hb hby d12_12) rfl (XS.isub X3.here hx rfl (hb hby d12_13) rfl (XS.ifYes X3.here hx rfl (pc0 := 14) (pc' := 38) rfl (hb hby d12_14) rfl ((if0 _ _).trans (flt hmm).2.2.2) (by decide) (by decide) k_))))) ?_
  show own_Go p e below T3 (mkF m 38 #[.val (.ref a1), .val (.int mm), .val (.int cap)] []) _
  obtain ⟨fs, hr, hrun, hended, hW, hsame⟩ := X3.leave (v := none) (fun _ => rfl)
  refine own_fin (X3.returnOut hx Bd.returns (hb hby d12_38) hr) ⟨hrun, hended, _, _, rfl, ?_, ⟨_, rfl⟩, hW, hsame.mono (by decide) (by decide)⟩
  show Q_rmEc Z a1 va kva cap vs mm h0 n0 _ T3.heap _
  rw [e3]
  exact ⟨rfl, N0, rfl⟩
theorem d14_0 : decode jdk_68_method_71_code 0 = .ok (.getstatic 18, 3) := by decide +kernel
theorem d14_3 : decode jdk_68_method_71_code 3 = .ok (.ifCond .eq 18, 3) := by decide +kernel
theorem d14_6 : decode jdk_68_method_71_code 6 = .ok (.aload_n 0, 1) := by decide +kernel
theorem d14_7 : decode jdk_68_method_71_code 7 = .ok (.getfield 22, 3) := by decide +kernel
theorem d14_10 : decode jdk_68_method_71_code 10 = .ok (.aload_n 1, 1) := by decide +kernel
theorem d14_11 : decode jdk_68_method_71_code 11 = .ok (.invokevirtual 40, 3) := by decide +kernel
theorem d14_14 : decode jdk_68_method_71_code 14 = .ok (.if_icmp .eq 7, 3) := by decide +kernel
theorem d14_21 : decode jdk_68_method_71_code 21 = .ok (.return_, 1) := by decide +kernel
theorem pn_14 : plainName "java/lang/AbstractStringBuilder" = true := by first | (simp [plainName, overriddenIn]; done) | decide +kernel
theorem ef_rmInf (m : MethodId) (x0 : Addr) (x1 : Addr) : entryFrame m #[(.ref x0), (.ref x1)] 2 = mkF m 0 #[.val (.ref x0), .val (.ref x1)] [] := by first | (simp [entryFrame, mkF, argsToLocals, Value.category]; done) | rfl
def Q_rmInf (Z : State) (a1 : Addr) (x : Addr) (zc : Int32) (h0 : Heap) (n0 : Nat) (v : Option Value) (h : Heap) (L : List Loc) : Prop := v = none ∧ Fr n0 L ∧ h = h0
set_option maxRecDepth 65536 in
set_option maxHeartbeats 40000000 in
theorem rmInf (l : Launch) (Z : State) (a0 : Array Value) (hw : ∀ d ∈ tables_1, d.before a0 Z = true) (ws : List Jvm.Cond) (a1 : Addr) (x : Addr) (zc : Int32) (h0 : Heap) (n0 : Nat) (Z0 : n0 ≤ h0.size) (pE_a1 : Exa Z h0 a1 "java/lang/StringBuilder") (pF_coder_a1 : Fld Z h0 a1 "java/lang/AbstractStringBuilder" "coder" "B" (.int (0 : Int32))) (pE_x : Exa Z h0 x "java/lang/String") (pF_coder_x : Fld Z h0 x "java/lang/String" "coder" "B" (.int (0 : Int32))) (pS_COMPACT_STRINGS : Sta Z Z.heap "java/lang/String" "COMPACT_STRINGS" "Z" (.int zc)) (pP5 : (¬ (zc = (0 : Int32)))) (pO : Old Z n0 h0) :
    MetFree l (⟨"java/lang/AbstractStringBuilder", "inflateIfNeededFor", "(Ljava/lang/String;)V"⟩ : MethodName) (head1 (Jvm.Cond.code (⟨"java/lang/AbstractStringBuilder", "inflateIfNeededFor", "(Ljava/lang/String;)V"⟩ : MethodName) jdk_68_method_71_code 2 none :: ws) ({ frames := 1, cells := 0, slots := 0, locals := 13 } : Room)) (fun a U => a = #[(.ref a1), (.ref x)] ∧ Z.Warmed39 U.vm ∧ U.heap = h0) (fun _ _ _ _ _ => True) (fun _ U o U' => ∃ v L, o = .returned v ∧ Q_rmInf Z a1 x zc h0 n0 v U'.heap L ∧ FrameEnd U o U' L ({ frames := 1, cells := 0, slots := 0, locals := 13 } : Room).cells ({ frames := 1, cells := 0, slots := 0, locals := 13 } : Room).slots) := by
  refine MetFree.of_bodySF (plainFor_of_name pn_14) hisR ?_
  intro p e s m args below meth c s₁ Bd hml0 hP hK
  obtain ⟨rfl, hZ, hh⟩ := hP
  have hx := Bd.exec
  have hby := Bd.bytes
  have hml : c.maxLocals = 2 := hml0
  have hown : s.vm.findClass "java/lang/AbstractStringBuilder" = some m.cls := findClass_of_methodNamed Bd.named
  have hnm := (name_of_methodNamed Bd.named Bd.method).1
  have X0 : Stand p l e ({ frames := 1, cells := 0, slots := 0, locals := 13 } : Room) s m #[(.ref a1), (.ref x)] below meth c s₁ [] 0 0 := Stand.of_body Bd
  have e0 : s₁.heap = h0 := by rw [← hh, Bd.state]; rfl
  have N0 := Fr.nil n0
  refine own_enter (ef_rmInf m a1 x) ?_
  obtain ⟨T1, X1, e1, st1⟩ := getS2 X0 hx hZ hown (host := "") (Or.inl (own_w hw 50 rfl)) Via.refl e0 (pS_COMPACT_STRINGS.ext pO.2) (g := (mkF m 0 #[.val (.ref a1), .val (.ref x)] [])) rfl (hb hby d14_0)
  refine own_st st1 ?_
  show own_Go p e below T1 (mkF m 3 #[.val (.ref a1), .val (.ref x)] [(.int zc)]) _
  refine own_st (fun t_ k_ => XS.ifNo X1.here hx rfl (hb hby d14_3) rfl ((if0 _ _).trans (feq pP5).1) (XS.aloadN X1.here hx rfl (hb hby d14_6) rfl rfl k_)) ?_
  show own_Go p e below T1 (mkF m 7 #[.val (.ref a1), .val (.ref x)] [(.ref a1)]) _
  obtain ⟨T2, X2, e2, st2⟩ := getF X1 hx hZ hown (host := "") (Or.inl (own_w hw 53 rfl)) Via.refl e1 pF_coder_a1 (g := (mkF m 7 #[.val (.ref a1), .val (.ref x)] [(.ref a1)])) rfl rfl (hb hby d14_7)
  refine own_st st2 ?_
  show own_Go p e below T2 (mkF m 10 #[.val (.ref a1), .val (.ref x)] [(.int (0 : Int32))]) _
  refine own_st (fun t_ k_ => XS.aloadN X2.here hx rfl (hb hby d14_10) rfl rfl k_) ?_
  show own_Go p e below T2 (mkF m 11 #[.val (.ref a1), .val (.ref x)] [(.ref x), (.int (0 : Int32))]) _
  obtain ⟨cq3, kq3, qa3, qb3, qc3⟩ := isOf hZ e2 pE_x
  obtain ⟨_, _, ⟨T3, L3, k3, n3⟩, -, X3, ⟨Lc3, hQ3, l3, y3, z3⟩, st3⟩ := X2.virtualBack hx (y := (⟨"java/lang/String", "coder", "()B"⟩ : MethodName)) (z := (⟨"java/lang/String", "coder", "()B"⟩ : MethodName)) hown (mvT hZ (own_w hw 95 rfl)) (mvT hZ (own_w hw 72 rfl)) (notFace_of_selects (args := #[]) (mvT hZ (own_w hw 74 rfl))) (mvT hZ (own_w hw 74 rfl)) (mvT hZ (own_w hw 73 rfl)) (by decide) (backOf (W := 1) (rmCo l Z a0 hw [] x zc h0 n0 Z0 pE_x pF_coder_x pS_COMPACT_STRINGS pP5 pO) hZ (own_w hw 75 rfl) (own_w hw 5 rfl) (by decide) (by decide)) qa3 qc3 (g := (mkF m 11 #[.val (.ref a1), .val (.ref x)] [(.ref x), (.int (0 : Int32))])) rfl (by rw [hml]; rfl) (Steps.refl _) (argsL := []) (rest := [(.int (0 : Int32))]) (lenOf pd___B rfl) rfl (by show 2 * 0 + _ ≤ _; exact Nat.le_of_eq rfl) (hb hby d14_11) (fun _ _ => ⟨rfl, e2, (by decide : 0 + 0 ≤ _), (by decide : 0 + 0 ≤ _)⟩)
  dsimp only [Pt.U, Pt.locs, Pt.cells, Pt.slots] at X3 l3 y3 z3 st3 hQ3
  try dsimp only [Nat.reduceAdd] at y3 z3
  rw [l3, y3, z3] at X3
  obtain ⟨rfl, Nq3, eH3⟩ := hQ3
  have N3 := Fr.app N0 Nq3
  refine own_tr st3 ?_
  show own_Go p e below T3 (mkF m 14 #[.val (.ref a1), .val (.ref x)] [(.int (0 : Int32)), (.int (0 : Int32))]) _
  refine own_st (fun t_ k_ => XS.icmpYes X3.here hx rfl (pc0 := 14) (pc' := 21) rfl (hb hby d14_14) rfl (by decide) (by decide) (by decide) k_) ?_
  show own_Go p e below T3 (mkF m 21 #[.val (.ref a1), .val (.ref x)] []) _
  obtain ⟨fs, hr, hrun, hended, hW, hsame⟩ := X3.leave (v := none) (fun _ => rfl)
  refine own_fin (X3.returnOut hx Bd.returns (hb hby d14_21) hr) ⟨hrun, hended, _, _, rfl, ?_, ⟨_, rfl⟩, hW, hsame.mono (by decide) (by decide)⟩
  show Q_rmInf Z a1 x zc h0 n0 _ T3.heap _
  rw [eH3]
  exact ⟨rfl, N3, rfl⟩
theorem d15_0 : decode jdk_42_method_147_code 0 = .ok (.aload_n 0, 1) := by decide +kernel
theorem d15_1 : decode jdk_42_method_147_code 1 = .ok (.invokevirtual 335, 3) := by decide +kernel
theorem d15_4 : decode jdk_42_method_147_code 4 = .ok (.iload_n 3, 1) := by decide +kernel
theorem d15_5 : decode jdk_42_method_147_code 5 = .ok (.if_icmp .ne 23, 3) := by decide +kernel
theorem d15_8 : decode jdk_42_method_147_code 8 = .ok (.aload_n 0, 1) := by decide +kernel
theorem d15_9 : decode jdk_42_method_147_code 9 = .ok (.getfield 9, 3) := by decide +kernel
theorem d15_12 : decode jdk_42_method_147_code 12 = .ok (.iconst 0, 1) := by decide +kernel
theorem d15_13 : decode jdk_42_method_147_code 13 = .ok (.aload_n 1, 1) := by decide +kernel
theorem d15_14 : decode jdk_42_method_147_code 14 = .ok (.iload_n 2, 1) := by decide +kernel
theorem d15_15 : decode jdk_42_method_147_code 15 = .ok (.iload_n 3, 1) := by decide +kernel
theorem d15_16 : decode jdk_42_method_147_code 16 = .ok (.ishl, 1) := by decide +kernel
theorem d15_17 : decode jdk_42_method_147_code 17 = .ok (.aload_n 0, 1) := by decide +kernel
theorem d15_18 : decode jdk_42_method_147_code 18 = .ok (.getfield 9, 3) := by decide +kernel
theorem d15_21 : decode jdk_42_method_147_code 21 = .ok (.arraylength, 1) := by decide +kernel
theorem d15_22 : decode jdk_42_method_147_code 22 = .ok (.invokestatic 212, 3) := by decide +kernel
theorem d15_25 : decode jdk_42_method_147_code 25 = .ok (.goto 18, 3) := by decide +kernel
theorem d15_43 : decode jdk_42_method_147_code 43 = .ok (.return_, 1) := by decide +kernel
theorem pn_15 : plainName "java/lang/String" = true := by first | (simp [plainName, overriddenIn]; done) | decide +kernel
theorem ef_rmGb (m : MethodId) (x0 : Addr) (x1 : Addr) (x2 : Int32) (x3 : Int32) : entryFrame m #[(.ref x0), (.ref x1), (.int x2), (.int x3)] 4 = mkF m 0 #[.val (.ref x0), .val (.ref x1), .val (.int x2), .val (.int x3)] [] := by first | (simp [entryFrame, mkF, argsToLocals, Value.category]; done) | rfl
def Q_rmGb (Z : State) (x : Addr) (tx : Addr) (kx : ClassId) (n : Int32) (us : List Value) (zc : Int32) (va : Addr) (kva : ClassId) (cap : Int32) (k : Int32) (bs : List Value) (rest : List Value) (h0 : Heap) (n0 : Nat) (v : Option Value) (h : Heap) (L : List Loc) : Prop := v = none ∧ Fr n0 L ∧ Keep h0 h [va] ∧ Arv Z h va kva .byte cap ((bs ++ us) ++ rest.drop us.length) (.int 0)
set_option maxRecDepth 65536 in
set_option maxHeartbeats 40000000 in
theorem rmGb (l : Launch) (Z : State) (a0 : Array Value) (hw : ∀ d ∈ tables_1, d.before a0 Z = true) (ws : List Jvm.Cond) (x : Addr) (tx : Addr) (kx : ClassId) (n : Int32) (us : List Value) (zc : Int32) (va : Addr) (kva : ClassId) (cap : Int32) (k : Int32) (bs : List Value) (rest : List Value) (h0 : Heap) (n0 : Nat) (Z0 : n0 ≤ h0.size) (pE_x : Exa Z h0 x "java/lang/String") (pF_value_x : Fld Z h0 x "java/lang/String" "value" "[B" (.ref tx)) (pF_coder_x : Fld Z h0 x "java/lang/String" "coder" "B" (.int (0 : Int32))) (pV_tx : Arv Z h0 tx kx .byte n us (.int 0)) (pV_va : Arv Z h0 va kva .byte cap (bs ++ rest) (.int 0)) (hk : (k.toInt = (bs.length : Int))) (hcap : (cap.toInt = ((bs.length + rest.length : Nat) : Int))) (hn : (n.toInt = (us.length : Int))) (hfit : (us.length ≤ rest.length)) (hbig : (bs.length + rest.length ≤ 1000000)) (pG_va : n0 ≤ va) (pS_COMPACT_STRINGS : Sta Z Z.heap "java/lang/String" "COMPACT_STRINGS" "Z" (.int zc)) (pP5 : (¬ (zc = (0 : Int32)))) (pO : Old Z n0 h0) :
    MetFree l (⟨"java/lang/String", "getBytes", "([BIB)V"⟩ : MethodName) (head1 (Jvm.Cond.code (⟨"java/lang/String", "getBytes", "([BIB)V"⟩ : MethodName) jdk_42_method_147_code 4 none :: ws) ({ frames := 1, cells := 0, slots := 0, locals := 120 } : Room)) (fun a U => a = #[(.ref x), (.ref va), (.int k), (.int (0 : Int32))] ∧ Z.Warmed39 U.vm ∧ U.heap = h0) (fun _ _ _ _ _ => True) (fun _ U o U' => ∃ v L, o = .returned v ∧ Q_rmGb Z x tx kx n us zc va kva cap k bs rest h0 n0 v U'.heap L ∧ FrameEnd U o U' L ({ frames := 1, cells := 0, slots := 0, locals := 120 } : Room).cells ({ frames := 1, cells := 0, slots := 0, locals := 120 } : Room).slots) := by
  refine MetFree.of_bodySF (plainFor_of_name pn_15) hisR ?_
  intro p e s m args below meth c s₁ Bd hml0 hP hK
  obtain ⟨rfl, hZ, hh⟩ := hP
  have hx := Bd.exec
  have hby := Bd.bytes
  have hml : c.maxLocals = 4 := hml0
  have hown : s.vm.findClass "java/lang/String" = some m.cls := findClass_of_methodNamed Bd.named
  have hnm := (name_of_methodNamed Bd.named Bd.method).1
  have X0 : Stand p l e ({ frames := 1, cells := 0, slots := 0, locals := 120 } : Room) s m #[(.ref x), (.ref va), (.int k), (.int (0 : Int32))] below meth c s₁ [] 0 0 := Stand.of_body Bd
  have e0 : s₁.heap = h0 := by rw [← hh, Bd.state]; rfl
  have N0 := Fr.nil n0
  refine own_enter (ef_rmGb m x va k ((0 : Int32))) ?_
  refine own_st (fun t_ k_ => XS.aloadN X0.here hx rfl (hb hby d15_0) rfl rfl k_) ?_
  show own_Go p e below s₁ (mkF m 1 #[.val (.ref x), .val (.ref va), .val (.int k), .val (.int (0 : Int32))] [(.ref x)]) _
  obtain ⟨cq1, kq1, qa1, qb1, qc1⟩ := isOf hZ e0 pE_x
  obtain ⟨_, _, ⟨T1, L1, k1, n1⟩, -, X1, ⟨Lc1, hQ1, l1, y1, z1⟩, st1⟩ := X0.virtualBack hx (y := (⟨"java/lang/String", "coder", "()B"⟩ : MethodName)) (z := (⟨"java/lang/String", "coder", "()B"⟩ : MethodName)) hown (mvT hZ (own_w hw 71 rfl)) (mvT hZ (own_w hw 72 rfl)) (notFace_of_selects (args := #[]) (mvT hZ (own_w hw 74 rfl))) (mvT hZ (own_w hw 74 rfl)) (mvT hZ (own_w hw 73 rfl)) (by decide) (backOf (W := 0) (rmCo l Z a0 hw [] x zc h0 n0 Z0 pE_x pF_coder_x pS_COMPACT_STRINGS pP5 pO) hZ (own_w hw 75 rfl) (own_w hw 5 rfl) (by decide) (by decide)) qa1 qc1 (g := (mkF m 1 #[.val (.ref x), .val (.ref va), .val (.int k), .val (.int (0 : Int32))] [(.ref x)])) rfl (by rw [hml]; rfl) (Steps.refl _) (argsL := []) (rest := []) (lenOf pd___B rfl) rfl (by show 2 * 0 + _ ≤ _; exact Nat.le_of_eq rfl) (hb hby d15_1) (fun _ _ => ⟨rfl, e0, (by decide : 0 + 0 ≤ _), (by decide : 0 + 0 ≤ _)⟩)
  dsimp only [Pt.U, Pt.locs, Pt.cells, Pt.slots] at X1 l1 y1 z1 st1 hQ1
  try dsimp only [Nat.reduceAdd] at y1 z1
  rw [l1, y1, z1] at X1
  obtain ⟨rfl, Nq1, eH1⟩ := hQ1
  have N1 := Fr.app N0 Nq1
  refine own_tr st1 ?_
  show own_Go p e below T1 (mkF m 4 #[.val (.ref x), .val (.ref va), .val (.int k), .val (.int (0 : Int32))] [(.int (0 : Int32))]) _
  refine own_st (fun t_ k_ => XS.iloadN X1.here hx rfl (hb hby d15_4) rfl (XS.icmpNo X1.here hx rfl (hb hby d15_5) rfl (by decide) (XS.aloadN X1.here hx rfl (hb hby d15_8) rfl rfl k_))) ?_
  show own_Go p e below T1 (mkF m 9 #[.val (.ref x), .val (.ref va), .val (.int k), .val (.int (0 : Int32))] [(.ref x)]) _
  obtain ⟨T2, X2, e2, st2⟩ := getF X1 hx hZ hown (host := "") (Or.inl (own_w hw 70 rfl)) Via.refl eH1 pF_value_x (g := (mkF m 9 #[.val (.ref x), .val (.ref va), .val (.int k), .val (.int (0 : Int32))] [(.ref x)])) rfl rfl (hb hby d15_9)
  refine own_st st2 ?_
  show own_Go p e below T2 (mkF m 12 #[.val (.ref x), .val (.ref va), .val (.int k), .val (.int (0 : Int32))] [(.ref tx)]) _
  refine own_st (fun t_ k_ => XS.iconst X2.here hx rfl (hb hby d15_12) (XS.aloadN X2.here hx rfl (hb hby d15_13) rfl rfl (XS.iloadN X2.here hx rfl (hb hby d15_14) rfl (XS.iloadN X2.here hx rfl (hb hby d15_15) rfl (XS.ishl X2.here hx rfl (hb hby d15_16) rfl k_))))) ?_
  show own_Go p e below T2 (mkF m 17 #[.val (.ref x), .val (.ref va), .val (.int k), .val (.int (0 : Int32))] [(.int (k <<< ((0 : Int32) &&& 31))), (.ref va), (.int (0 : Int32)), (.ref tx)]) _
  rw [own_shl0 k]
  show own_Go p e below T2 (mkF m 17 #[.val (.ref x), .val (.ref va), .val (.int k), .val (.int (0 : Int32))] [(.int k), (.ref va), (.int (0 : Int32)), (.ref tx)]) _
  refine own_st (fun t_ k_ => XS.aloadN X2.here hx rfl (hb hby d15_17) rfl rfl k_) ?_
  show own_Go p e below T2 (mkF m 18 #[.val (.ref x), .val (.ref va), .val (.int k), .val (.int (0 : Int32))] [(.ref x), (.int k), (.ref va), (.int (0 : Int32)), (.ref tx)]) _
  obtain ⟨T3, X3, e3, st3⟩ := getF X2 hx hZ hown (host := "") (Or.inl (own_w hw 70 rfl)) Via.refl e2 pF_value_x (g := (mkF m 18 #[.val (.ref x), .val (.ref va), .val (.int k), .val (.int (0 : Int32))] [(.ref x), (.int k), (.ref va), (.int (0 : Int32)), (.ref tx)])) rfl rfl (hb hby d15_18)
  refine own_st st3 ?_
  show own_Go p e below T3 (mkF m 21 #[.val (.ref x), .val (.ref va), .val (.int k), .val (.int (0 : Int32))] [(.ref tx), (.int k), (.ref va), (.int (0 : Int32)), (.ref tx)]) _
  obtain ⟨cl4, Ar4, q4, Sz4, Nn4, Hh4, Gg4⟩ := id pV_tx
  refine own_st (fun t_ k_ => X3.arraylength hx (by rw [e3]; exact Ar4.1) (State.isArrayOf_alike hZ.alike Ar4.2.1) (g := (mkF m 21 #[.val (.ref x), .val (.ref va), .val (.int k), .val (.int (0 : Int32))] [(.ref tx), (.int k), (.ref va), (.int (0 : Int32)), (.ref tx)])) rfl rfl (hb hby d15_21) _ k_) ?_
  rw [len_of Sz4 Nn4]
  show own_Go p e below T3 (mkF m 22 #[.val (.ref x), .val (.ref va), .val (.int k), .val (.int (0 : Int32))] [(.int n), (.int k), (.ref va), (.int (0 : Int32)), (.ref tx)]) _
  obtain ⟨T5, h5, L5, X5, e5, N5, Kq5, Va5, st5⟩ := cpA X3 hx hZ hown (own_w hw 101 rfl) (own_w hw 104 rfl) (own_w hw 102 rfl) (own_w hw 103 rfl) e3 pV_tx pV_va (Or.inl ⟨rfl, rfl⟩) (sp := (0 : Int32)) (dp := k) (nn := n) (by decide) (own_nonneg hk) (own_nonneg hn) (by rw [own_clamp hn]; exact Nat.le_of_eq (Nat.zero_add _)) (by rw [own_clamp hk, own_clamp hn, own_clamp hcap]; omega) (us := us) (by have q := own_range (tl := []) (d := (.int 0)) hn; rw [List.append_nil] at q; exact q) (by rw [own_clamp hk, own_clamp hn, List.length_append]; omega) N1 pG_va (g := (mkF m 22 #[.val (.ref x), .val (.ref va), .val (.int k), .val (.int (0 : Int32))] [(.int n), (.int k), (.ref va), (.int (0 : Int32)), (.ref tx)])) rfl (by rw [hml]; rfl) (rest := []) rfl (hb hby d15_22) (by decide) (W := 0) (by show 2 * 0 + _ ≤ _; exact Nat.le_of_eq rfl) (by decide +kernel)
  rw [own_cp hk hn] at Va5
  have K6 : Keep h0 h5 [va] := (Keep.refl h0 [va]).trans Kq5 (allS (Or.inl (List.mem_of_getElem? (i := 0) rfl)) all0)
  refine own_st st5 ?_
  show own_Go p e below T5 (mkF m 25 #[.val (.ref x), .val (.ref va), .val (.int k), .val (.int (0 : Int32))] []) _
  refine own_st (fun t_ k_ => XS.goto X5.here hx rfl (pc0 := 25) (pc' := 43) rfl (hb hby d15_25) (by decide) (by decide) k_) ?_
  show own_Go p e below T5 (mkF m 43 #[.val (.ref x), .val (.ref va), .val (.int k), .val (.int (0 : Int32))] []) _
  obtain ⟨fs, hr, hrun, hended, hW, hsame⟩ := X5.leave (v := none) (fun _ => rfl)
  refine own_fin (X5.returnOut hx Bd.returns (hb hby d15_43) hr) ⟨hrun, hended, _, _, rfl, ?_, ⟨_, rfl⟩, hW, hsame.mono (by decide) (by decide)⟩
  show Q_rmGb Z x tx kx n us zc va kva cap k bs rest h0 n0 _ T5.heap _
  rw [e5]
  exact ⟨rfl, N5, K6, Va5⟩
theorem d13_0 : decode jdk_68_method_73_code 0 = .ok (.aload_n 0, 1) := by decide +kernel
theorem d13_1 : decode jdk_68_method_73_code 1 = .ok (.aload_n 2, 1) := by decide +kernel
theorem d13_2 : decode jdk_68_method_73_code 2 = .ok (.invokevirtual 397, 3) := by decide +kernel
theorem d13_5 : decode jdk_68_method_73_code 5 = .ok (.aload_n 2, 1) := by decide +kernel
theorem d13_6 : decode jdk_68_method_73_code 6 = .ok (.aload_n 0, 1) := by decide +kernel
theorem d13_7 : decode jdk_68_method_73_code 7 = .ok (.getfield 15, 3) := by decide +kernel
theorem d13_10 : decode jdk_68_method_73_code 10 = .ok (.iload_n 1, 1) := by decide +kernel
theorem d13_11 : decode jdk_68_method_73_code 11 = .ok (.aload_n 0, 1) := by decide +kernel
theorem d13_12 : decode jdk_68_method_73_code 12 = .ok (.getfield 22, 3) := by decide +kernel
theorem d13_15 : decode jdk_68_method_73_code 15 = .ok (.invokevirtual 399, 3) := by decide +kernel
theorem d13_18 : decode jdk_68_method_73_code 18 = .ok (.return_, 1) := by decide +kernel
theorem pn_13 : plainName "java/lang/AbstractStringBuilder" = true := by first | (simp [plainName, overriddenIn]; done) | decide +kernel
theorem pd__Ljava_lang_String__V : parseMethodDescriptor "(Ljava/lang/String;)V" = some ⟨[(.object "java/lang/String")], none⟩ := by decide +kernel
theorem pd___BIB_V : parseMethodDescriptor "([BIB)V" = some ⟨[(.array .byte), .int, .byte], none⟩ := by decide +kernel
theorem ef_rmPs (m : MethodId) (x0 : Addr) (x1 : Int32) (x2 : Addr) : entryFrame m #[(.ref x0), (.int x1), (.ref x2)] 3 = mkF m 0 #[.val (.ref x0), .val (.int x1), .val (.ref x2)] [] := by first | (simp [entryFrame, mkF, argsToLocals, Value.category]; done) | rfl
def Q_rmPs (Z : State) (a1 : Addr) (va : Addr) (kva : ClassId) (cap : Int32) (k : Int32) (bs : List Value) (rest : List Value) (x : Addr) (tx : Addr) (kx : ClassId) (n : Int32) (us : List Value) (zc : Int32) (h0 : Heap) (n0 : Nat) (v : Option Value) (h : Heap) (L : List Loc) : Prop := v = none ∧ Fr n0 L ∧ Keep h0 h [va] ∧ Arv Z h va kva .byte cap ((bs ++ us) ++ rest.drop us.length) (.int 0)
set_option maxRecDepth 65536 in
set_option maxHeartbeats 40000000 in
theorem rmPs (l : Launch) (Z : State) (a0 : Array Value) (hw : ∀ d ∈ tables_1, d.before a0 Z = true) (ws : List Jvm.Cond) (a1 : Addr) (va : Addr) (kva : ClassId) (cap : Int32) (k : Int32) (bs : List Value) (rest : List Value) (x : Addr) (tx : Addr) (kx : ClassId) (n : Int32) (us : List Value) (zc : Int32) (h0 : Heap) (n0 : Nat) (Z0 : n0 ≤ h0.size) (pE_a1 : Exa Z h0 a1 "java/lang/StringBuilder") (pF_value_a1 : Fld Z h0 a1 "java/lang/AbstractStringBuilder" "value" "[B" (.ref va)) (pF_coder_a1 : Fld Z h0 a1 "java/lang/AbstractStringBuilder" "coder" "B" (.int (0 : Int32))) (pE_x : Exa Z h0 x "java/lang/String") (pF_value_x : Fld Z h0 x "java/lang/String" "value" "[B" (.ref tx)) (pF_coder_x : Fld Z h0 x "java/lang/String" "coder" "B" (.int (0 : Int32))) (pV_tx : Arv Z h0 tx kx .byte n us (.int 0)) (pV_va : Arv Z h0 va kva .byte cap (bs ++ rest) (.int 0)) (hk : (k.toInt = (bs.length : Int))) (hcap : (cap.toInt = ((bs.length + rest.length : Nat) : Int))) (hn : (n.toInt = (us.length : Int))) (hfit : (us.length ≤ rest.length)) (hbig : (bs.length + rest.length ≤ 1000000)) (pG_va : n0 ≤ va) (pS_COMPACT_STRINGS : Sta Z Z.heap "java/lang/String" "COMPACT_STRINGS" "Z" (.int zc)) (pP5 : (¬ (zc = (0 : Int32)))) (pO : Old Z n0 h0) :
    MetFree l (⟨"java/lang/AbstractStringBuilder", "putStringAt", "(ILjava/lang/String;)V"⟩ : MethodName) (head1 (Jvm.Cond.code (⟨"java/lang/AbstractStringBuilder", "putStringAt", "(ILjava/lang/String;)V"⟩ : MethodName) jdk_68_method_73_code 3 none :: ws) ({ frames := 2, cells := 0, slots := 0, locals := 135 } : Room)) (fun a U => a = #[(.ref a1), (.int k), (.ref x)] ∧ Z.Warmed39 U.vm ∧ U.heap = h0) (fun _ _ _ _ _ => True) (fun _ U o U' => ∃ v L, o = .returned v ∧ Q_rmPs Z a1 va kva cap k bs rest x tx kx n us zc h0 n0 v U'.heap L ∧ FrameEnd U o U' L ({ frames := 2, cells := 0, slots := 0, locals := 135 } : Room).cells ({ frames := 2, cells := 0, slots := 0, locals := 135 } : Room).slots) := by
  refine MetFree.of_bodySF (plainFor_of_name pn_13) hisR ?_
  intro p e s m args below meth c s₁ Bd hml0 hP hK
  obtain ⟨rfl, hZ, hh⟩ := hP
  have hx := Bd.exec
  have hby := Bd.bytes
  have hml : c.maxLocals = 3 := hml0
  have hown : s.vm.findClass "java/lang/AbstractStringBuilder" = some m.cls := findClass_of_methodNamed Bd.named
  have hnm := (name_of_methodNamed Bd.named Bd.method).1
  have X0 : Stand p l e ({ frames := 2, cells := 0, slots := 0, locals := 135 } : Room) s m #[(.ref a1), (.int k), (.ref x)] below meth c s₁ [] 0 0 := Stand.of_body Bd
  have e0 : s₁.heap = h0 := by rw [← hh, Bd.state]; rfl
  have N0 := Fr.nil n0
  refine own_enter (ef_rmPs m a1 k x) ?_
  refine own_st (fun t_ k_ => XS.aloadN X0.here hx rfl (hb hby d13_0) rfl rfl (XS.aloadN X0.here hx rfl (hb hby d13_1) rfl rfl k_)) ?_
  show own_Go p e below s₁ (mkF m 2 #[.val (.ref a1), .val (.int k), .val (.ref x)] [(.ref x), (.ref a1)]) _
  obtain ⟨cq1, kq1, qa1, qb1, qc1⟩ := isOf hZ e0 pE_a1
  obtain ⟨_, _, ⟨T1, L1, k1, n1⟩, -, X1, ⟨Lc1, hQ1, l1, y1, z1⟩, st1⟩ := X0.virtualBack hx (y := (⟨"java/lang/AbstractStringBuilder", "inflateIfNeededFor", "(Ljava/lang/String;)V"⟩ : MethodName)) (z := (⟨"java/lang/AbstractStringBuilder", "inflateIfNeededFor", "(Ljava/lang/String;)V"⟩ : MethodName)) hown (mvT hZ (own_w hw 90 rfl)) (mvT hZ (own_decl (own_w hw 91 rfl) (own_w hw 94 rfl))) (notFace_of_selects (args := #[]) (mvT hZ (own_w hw 93 rfl))) (mvT hZ (own_w hw 93 rfl)) (mvT hZ (own_w hw 91 rfl)) (by decide) (backOf (W := 0) (rmInf l Z a0 hw [] a1 x zc h0 n0 Z0 pE_a1 pF_coder_a1 pE_x pF_coder_x pS_COMPACT_STRINGS pP5 pO) hZ (own_w hw 94 rfl) (own_w hw 47 rfl) (by decide) (by decide)) qa1 qc1 (g := (mkF m 2 #[.val (.ref a1), .val (.int k), .val (.ref x)] [(.ref x), (.ref a1)])) rfl (by rw [hml]; rfl) (Steps.refl _) (argsL := [(.ref x)]) (rest := []) (lenOf pd__Ljava_lang_String__V rfl) rfl (by show 2 * 0 + _ ≤ _; exact Nat.le_of_eq rfl) (hb hby d13_2) (fun _ _ => ⟨rfl, e0, (by decide : 0 + 0 ≤ _), (by decide : 0 + 0 ≤ _)⟩)
  dsimp only [Pt.U, Pt.locs, Pt.cells, Pt.slots] at X1 l1 y1 z1 st1 hQ1
  try dsimp only [Nat.reduceAdd] at y1 z1
  rw [l1, y1, z1] at X1
  obtain ⟨rfl, Nq1, eH1⟩ := hQ1
  have N1 := Fr.app N0 Nq1
  refine own_tr st1 ?_
  show own_Go p e below T1 (mkF m 5 #[.val (.ref a1), .val (.int k), .val (.ref x)] []) _
  refine own_st (fun t_ k_ => XS.aloadN X1.here hx rfl (hb hby d13_5) rfl rfl (XS.aloadN X1.here hx rfl (hb hby d13_6) rfl rfl k_)) ?_
  show own_Go p e below T1 (mkF m 7 #[.val (.ref a1), .val (.int k), .val (.ref x)] [(.ref a1), (.ref x)]) _
  obtain ⟨T2, X2, e2, st2⟩ := getF X1 hx hZ hown (host := "") (Or.inl (own_w hw 51 rfl)) Via.refl eH1 pF_value_a1 (g := (mkF m 7 #[.val (.ref a1), .val (.int k), .val (.ref x)] [(.ref a1), (.ref x)])) rfl rfl (hb hby d13_7)
  refine own_st st2 ?_
  show own_Go p e below T2 (mkF m 10 #[.val (.ref a1), .val (.int k), .val (.ref x)] [(.ref va), (.ref x)]) _
  refine own_st (fun t_ k_ => XS.iloadN X2.here hx rfl (hb hby d13_10) rfl (XS.aloadN X2.here hx rfl (hb hby d13_11) rfl rfl k_)) ?_
  show own_Go p e below T2 (mkF m 12 #[.val (.ref a1), .val (.int k), .val (.ref x)] [(.ref a1), (.int k), (.ref va), (.ref x)]) _
  obtain ⟨T3, X3, e3, st3⟩ := getF X2 hx hZ hown (host := "") (Or.inl (own_w hw 53 rfl)) Via.refl e2 pF_coder_a1 (g := (mkF m 12 #[.val (.ref a1), .val (.int k), .val (.ref x)] [(.ref a1), (.int k), (.ref va), (.ref x)])) rfl rfl (hb hby d13_12)
  refine own_st st3 ?_
  show own_Go p e below T3 (mkF m 15 #[.val (.ref a1), .val (.int k), .val (.ref x)] [(.int (0 : Int32)), (.int k), (.ref va), (.ref x)]) _
  obtain ⟨cq4, kq4, qa4, qb4, qc4⟩ := isOf hZ e3 pE_x
  obtain ⟨_, _, ⟨T4, L4, k4, n4⟩, -, X4, ⟨Lc4, hQ4, l4, y4, z4⟩, st4⟩ := X3.virtualBack hx (y := (⟨"java/lang/String", "getBytes", "([BIB)V"⟩ : MethodName)) (z := (⟨"java/lang/String", "getBytes", "([BIB)V"⟩ : MethodName)) hown (mvT hZ (own_w hw 96 rfl)) (mvT hZ (own_w hw 97 rfl)) (notFace_of_selects (args := #[]) (mvT hZ (own_w hw 99 rfl))) (mvT hZ (own_w hw 99 rfl)) (mvT hZ (own_w hw 98 rfl)) (by decide) (backOf (W := 0) (rmGb l Z a0 hw [] x tx kx n us zc va kva cap k bs rest h0 n0 Z0 pE_x pF_value_x pF_coder_x pV_tx pV_va hk hcap hn hfit hbig pG_va pS_COMPACT_STRINGS pP5 pO) hZ (own_w hw 100 rfl) (own_w hw 5 rfl) (by decide) (by decide)) qa4 qc4 (g := (mkF m 15 #[.val (.ref a1), .val (.int k), .val (.ref x)] [(.int (0 : Int32)), (.int k), (.ref va), (.ref x)])) rfl (by rw [hml]; rfl) (Steps.refl _) (argsL := [(.ref va), (.int k), (.int (0 : Int32))]) (rest := []) (lenOf pd___BIB_V rfl) rfl (by show 2 * 0 + _ ≤ _; exact Nat.le_of_eq rfl) (hb hby d13_15) (fun _ _ => ⟨rfl, e3, (by decide : 0 + 0 ≤ _), (by decide : 0 + 0 ≤ _)⟩)
  dsimp only [Pt.U, Pt.locs, Pt.cells, Pt.slots] at X4 l4 y4 z4 st4 hQ4
  try dsimp only [Nat.reduceAdd] at y4 z4
  rw [l4, y4, z4] at X4
  obtain ⟨rfl, Nq4, Kq4, q4_0⟩ := hQ4
  have N4 := Fr.app N1 Nq4
  have K5 : Keep h0 T4.heap [va] := (Keep.refl h0 [va]).trans Kq4 (allS (Or.inl (List.mem_of_getElem? (i := 0) rfl)) all0)
  refine own_tr st4 ?_
  show own_Go p e below T4 (mkF m 18 #[.val (.ref a1), .val (.int k), .val (.ref x)] []) _
  obtain ⟨fs, hr, hrun, hended, hW, hsame⟩ := X4.leave (v := none) (fun _ => rfl)
  refine own_fin (X4.returnOut hx Bd.returns (hb hby d13_18) hr) ⟨hrun, hended, _, _, rfl, ?_, ⟨_, rfl⟩, hW, hsame.mono (by decide) (by decide)⟩
  show Q_rmPs Z a1 va kva cap k bs rest x tx kx n us zc h0 n0 _ T4.heap _
  exact ⟨rfl, N4, K5, q4_0⟩
theorem d9_0 : decode jdk_68_method_22_code 0 = .ok (.aload_n 1, 1) := by decide +kernel
theorem d9_1 : decode jdk_68_method_22_code 1 = .ok (.ifnonnull 8, 3) := by decide +kernel
theorem d9_9 : decode jdk_68_method_22_code 9 = .ok (.aload_n 1, 1) := by decide +kernel
theorem d9_10 : decode jdk_68_method_22_code 10 = .ok (.invokevirtual 32, 3) := by decide +kernel
theorem d9_13 : decode jdk_68_method_22_code 13 = .ok (.istore_n 2, 1) := by decide +kernel
theorem d9_14 : decode jdk_68_method_22_code 14 = .ok (.aload_n 0, 1) := by decide +kernel
theorem d9_15 : decode jdk_68_method_22_code 15 = .ok (.aload_n 0, 1) := by decide +kernel
theorem d9_16 : decode jdk_68_method_22_code 16 = .ok (.getfield 79, 3) := by decide +kernel
theorem d9_19 : decode jdk_68_method_22_code 19 = .ok (.iload_n 2, 1) := by decide +kernel
theorem d9_20 : decode jdk_68_method_22_code 20 = .ok (.iadd, 1) := by decide +kernel
theorem d9_21 : decode jdk_68_method_22_code 21 = .ok (.invokevirtual 100, 3) := by decide +kernel
theorem d9_24 : decode jdk_68_method_22_code 24 = .ok (.aload_n 0, 1) := by decide +kernel
theorem d9_25 : decode jdk_68_method_22_code 25 = .ok (.aload_n 0, 1) := by decide +kernel
theorem d9_26 : decode jdk_68_method_22_code 26 = .ok (.getfield 79, 3) := by decide +kernel
theorem d9_29 : decode jdk_68_method_22_code 29 = .ok (.aload_n 1, 1) := by decide +kernel
theorem d9_30 : decode jdk_68_method_22_code 30 = .ok (.invokevirtual 208, 3) := by decide +kernel
theorem d9_33 : decode jdk_68_method_22_code 33 = .ok (.aload_n 0, 1) := by decide +kernel
theorem d9_34 : decode jdk_68_method_22_code 34 = .ok (.dup, 1) := by decide +kernel
theorem d9_35 : decode jdk_68_method_22_code 35 = .ok (.getfield 79, 3) := by decide +kernel
theorem d9_38 : decode jdk_68_method_22_code 38 = .ok (.iload_n 2, 1) := by decide +kernel
theorem d9_39 : decode jdk_68_method_22_code 39 = .ok (.iadd, 1) := by decide +kernel
theorem d9_40 : decode jdk_68_method_22_code 40 = .ok (.putfield 79, 3) := by decide +kernel
theorem d9_43 : decode jdk_68_method_22_code 43 = .ok (.aload_n 0, 1) := by decide +kernel
theorem d9_44 : decode jdk_68_method_22_code 44 = .ok (.areturn, 1) := by decide +kernel
theorem pn_9 : plainName "java/lang/AbstractStringBuilder" = true := by first | (simp [plainName, overriddenIn]; done) | decide +kernel
theorem pd___I : parseMethodDescriptor "()I" = some ⟨[], some .int⟩ := by decide +kernel
theorem pd__ILjava_lang_String__V : parseMethodDescriptor "(ILjava/lang/String;)V" = some ⟨[.int, (.object "java/lang/String")], none⟩ := by decide +kernel
theorem ef_rmAbA (m : MethodId) (x0 : Addr) (x1 : Addr) : entryFrame m #[(.ref x0), (.ref x1)] 3 = mkF m 0 #[.val (.ref x0), .val (.ref x1), .unset] [] := by first | (simp [entryFrame, mkF, argsToLocals, Value.category]; done) | rfl
def Q_rmAbA (Z : State) (a1 : Addr) (va : Addr) (kva : ClassId) (cap : Int32) (k : Int32) (bs : List Value) (rest : List Value) (x : Addr) (tx : Addr) (kx : ClassId) (n : Int32) (us : List Value) (zc : Int32) (h0 : Heap) (n0 : Nat) (v : Option Value) (h : Heap) (L : List Loc) : Prop := v = some (.ref a1) ∧ Fr n0 L ∧ Keep h0 h [a1, va] ∧ Exa Z h a1 "java/lang/StringBuilder" ∧ Fld Z h a1 "java/lang/AbstractStringBuilder" "value" "[B" (.ref va) ∧ Fld Z h a1 "java/lang/AbstractStringBuilder" "coder" "B" (.int (0 : Int32)) ∧ Fld Z h a1 "java/lang/AbstractStringBuilder" "count" "I" (.int (k + n)) ∧ Arv Z h va kva .byte cap ((bs ++ us) ++ rest.drop us.length) (.int 0)
set_option maxRecDepth 65536 in
set_option maxHeartbeats 40000000 in
theorem rmAbA (l : Launch) (Z : State) (a0 : Array Value) (hw : ∀ d ∈ tables_1, d.before a0 Z = true) (ws : List Jvm.Cond) (a1 : Addr) (va : Addr) (kva : ClassId) (cap : Int32) (k : Int32) (bs : List Value) (rest : List Value) (x : Addr) (tx : Addr) (kx : ClassId) (n : Int32) (us : List Value) (zc : Int32) (h0 : Heap) (n0 : Nat) (Z0 : n0 ≤ h0.size) (pE_a1 : Exa Z h0 a1 "java/lang/StringBuilder") (pF_value_a1 : Fld Z h0 a1 "java/lang/AbstractStringBuilder" "value" "[B" (.ref va)) (pF_coder_a1 : Fld Z h0 a1 "java/lang/AbstractStringBuilder" "coder" "B" (.int (0 : Int32))) (pF_count_a1 : Fld Z h0 a1 "java/lang/AbstractStringBuilder" "count" "I" (.int k)) (pV_va : Arv Z h0 va kva .byte cap (bs ++ rest) (.int 0)) (pE_x : Exa Z h0 x "java/lang/String") (pF_value_x : Fld Z h0 x "java/lang/String" "value" "[B" (.ref tx)) (pF_coder_x : Fld Z h0 x "java/lang/String" "coder" "B" (.int (0 : Int32))) (pV_tx : Arv Z h0 tx kx .byte n us (.int 0)) (hk : (k.toInt = (bs.length : Int))) (hcap : (cap.toInt = ((bs.length + rest.length : Nat) : Int))) (hn : (n.toInt = (us.length : Int))) (hfit : (us.length ≤ rest.length)) (hbig : (bs.length + rest.length ≤ 1000000)) (pG_a1 : n0 ≤ a1) (pG_va : n0 ≤ va) (pS_COMPACT_STRINGS : Sta Z Z.heap "java/lang/String" "COMPACT_STRINGS" "Z" (.int zc)) (pP5 : (¬ (zc = (0 : Int32)))) (pO : Old Z n0 h0) :
    MetFree l (⟨"java/lang/AbstractStringBuilder", "append", "(Ljava/lang/String;)Ljava/lang/AbstractStringBuilder;"⟩ : MethodName) (head1 (Jvm.Cond.code (⟨"java/lang/AbstractStringBuilder", "append", "(Ljava/lang/String;)Ljava/lang/AbstractStringBuilder;"⟩ : MethodName) jdk_68_method_22_code 3 (some (.object "java/lang/AbstractStringBuilder")) :: ws) ({ frames := 3, cells := 0, slots := 0, locals := 149 } : Room)) (fun a U => a = #[(.ref a1), (.ref x)] ∧ Z.Warmed39 U.vm ∧ U.heap = h0) (fun _ _ _ _ _ => True) (fun _ U o U' => ∃ v L, o = .returned v ∧ Q_rmAbA Z a1 va kva cap k bs rest x tx kx n us zc h0 n0 v U'.heap L ∧ FrameEnd U o U' L ({ frames := 3, cells := 0, slots := 0, locals := 149 } : Room).cells ({ frames := 3, cells := 0, slots := 0, locals := 149 } : Room).slots) := by
  refine MetFree.of_bodySF (plainFor_of_name pn_9) hisR ?_
  intro p e s m args below meth c s₁ Bd hml0 hP hK
  obtain ⟨rfl, hZ, hh⟩ := hP
  have hx := Bd.exec
  have hby := Bd.bytes
  have hml : c.maxLocals = 3 := hml0
  have hown : s.vm.findClass "java/lang/AbstractStringBuilder" = some m.cls := findClass_of_methodNamed Bd.named
  have hnm := (name_of_methodNamed Bd.named Bd.method).1
  have X0 : Stand p l e ({ frames := 3, cells := 0, slots := 0, locals := 149 } : Room) s m #[(.ref a1), (.ref x)] below meth c s₁ [] 0 0 := Stand.of_body Bd
  have e0 : s₁.heap = h0 := by rw [← hh, Bd.state]; rfl
  have N0 := Fr.nil n0
  refine own_enter (ef_rmAbA m a1 x) ?_
  have hkn := own_addI hk hn (by omega)
  refine own_st (fun t_ k_ => XS.aloadN X0.here hx rfl (hb hby d9_0) rfl rfl (XS.ifnonnullYes X0.here hx rfl (pc0 := 1) (pc' := 9) rfl (hb hby d9_1) rfl (by decide) (by decide) (XS.aloadN X0.here hx rfl (hb hby d9_9) rfl rfl k_))) ?_
  show own_Go p e below s₁ (mkF m 10 #[.val (.ref a1), .val (.ref x), .unset] [(.ref x)]) _
  obtain ⟨cq1, kq1, qa1, qb1, qc1⟩ := isOf hZ e0 pE_x
  obtain ⟨_, _, ⟨T1, L1, k1, n1⟩, -, X1, ⟨Lc1, hQ1, l1, y1, z1⟩, st1⟩ := X0.virtualBack hx (y := (⟨"java/lang/String", "length", "()I"⟩ : MethodName)) (z := (⟨"java/lang/String", "length", "()I"⟩ : MethodName)) hown (mvT hZ (own_w hw 65 rfl)) (mvT hZ (own_w hw 66 rfl)) (notFace_of_selects (args := #[]) (mvT hZ (own_w hw 68 rfl))) (mvT hZ (own_w hw 68 rfl)) (mvT hZ (own_w hw 67 rfl)) (by decide) (backOf (W := 0) (rmLe l Z a0 hw [] x tx kx n us zc h0 n0 Z0 pE_x pF_value_x pF_coder_x pV_tx pS_COMPACT_STRINGS pP5 pO) hZ (own_w hw 69 rfl) (own_w hw 5 rfl) (by decide) (by decide)) qa1 qc1 (g := (mkF m 10 #[.val (.ref a1), .val (.ref x), .unset] [(.ref x)])) rfl (by rw [hml]; rfl) (Steps.refl _) (argsL := []) (rest := []) (lenOf pd___I rfl) rfl (by show 2 * 0 + _ ≤ _; exact Nat.le_of_eq rfl) (hb hby d9_10) (fun _ _ => ⟨rfl, e0, (by decide : 0 + 0 ≤ _), (by decide : 0 + 0 ≤ _)⟩)
  dsimp only [Pt.U, Pt.locs, Pt.cells, Pt.slots] at X1 l1 y1 z1 st1 hQ1
  try dsimp only [Nat.reduceAdd] at y1 z1
  rw [l1, y1, z1] at X1
  obtain ⟨rfl, Nq1, eH1⟩ := hQ1
  have N1 := Fr.app N0 Nq1
  refine own_tr st1 ?_
  show own_Go p e below T1 (mkF m 13 #[.val (.ref a1), .val (.ref x), .unset] [(.int n)]) _
  refine own_st (fun t_ k_ => XS.istoreN X1.here hx rfl (hb hby d9_13) rfl (l' := #[.val (.ref a1), .val (.ref x), .val (.int n)]) rfl (XS.aloadN X1.here hx rfl (hb hby d9_14) rfl rfl (XS.aloadN X1.here hx rfl (hb hby d9_15) rfl rfl k_))) ?_
  show own_Go p e below T1 (mkF m 16 #[.val (.ref a1), .val (.ref x), .val (.int n)] [(.ref a1), (.ref a1)]) _
  obtain ⟨T2, X2, e2, st2⟩ := getF X1 hx hZ hown (host := "") (Or.inl (own_w hw 78 rfl)) Via.refl eH1 pF_count_a1 (g := (mkF m 16 #[.val (.ref a1), .val (.ref x), .val (.int n)] [(.ref a1), (.ref a1)])) rfl rfl (hb hby d9_16)
  refine own_st st2 ?_
  show own_Go p e below T2 (mkF m 19 #[.val (.ref a1), .val (.ref x), .val (.int n)] [(.int k), (.ref a1)]) _
  refine own_st (fun t_ k_ => XS.iloadN X2.here hx rfl (hb hby d9_19) rfl (XS.iadd X2.here hx rfl (hb hby d9_20) rfl k_)) ?_
  show own_Go p e below T2 (mkF m 21 #[.val (.ref a1), .val (.ref x), .val (.int n)] [(.int (k + n)), (.ref a1)]) _
  obtain ⟨cq3, kq3, qa3, qb3, qc3⟩ := isOf hZ e2 pE_a1
  obtain ⟨_, _, ⟨T3, L3, k3, n3⟩, -, X3, ⟨Lc3, hQ3, l3, y3, z3⟩, st3⟩ := X2.virtualBack hx (y := (⟨"java/lang/AbstractStringBuilder", "ensureCapacityInternal", "(I)V"⟩ : MethodName)) (z := (⟨"java/lang/AbstractStringBuilder", "ensureCapacityInternal", "(I)V"⟩ : MethodName)) hown (mvT hZ (own_w hw 80 rfl)) (mvT hZ (own_decl (own_w hw 81 rfl) (own_w hw 84 rfl))) (notFace_of_selects (args := #[]) (mvT hZ (own_w hw 83 rfl))) (mvT hZ (own_w hw 83 rfl)) (mvT hZ (own_w hw 81 rfl)) (by decide) (backOf (W := 0) (rmEc l Z a0 hw [] a1 va kva cap ((bs ++ rest)) ((k + n)) h0 n0 Z0 pE_a1 pF_value_a1 pF_coder_a1 pV_va (own_subNP (by omega) (by omega) (by omega))) hZ (own_w hw 84 rfl) (own_w hw 47 rfl) (by decide) (by decide)) qa3 qc3 (g := (mkF m 21 #[.val (.ref a1), .val (.ref x), .val (.int n)] [(.int (k + n)), (.ref a1)])) rfl (by rw [hml]; rfl) (Steps.refl _) (argsL := [(.int (k + n))]) (rest := []) (lenOf pd__I_V rfl) rfl (by show 2 * 0 + _ ≤ _; exact Nat.le_of_eq rfl) (hb hby d9_21) (fun _ _ => ⟨rfl, e2, (by decide : 0 + 0 ≤ _), (by decide : 0 + 0 ≤ _)⟩)
  dsimp only [Pt.U, Pt.locs, Pt.cells, Pt.slots] at X3 l3 y3 z3 st3 hQ3
  try dsimp only [Nat.reduceAdd] at y3 z3
  rw [l3, y3, z3] at X3
  obtain ⟨rfl, Nq3, eH3⟩ := hQ3
  have N3 := Fr.app N1 Nq3
  refine own_tr st3 ?_
  show own_Go p e below T3 (mkF m 24 #[.val (.ref a1), .val (.ref x), .val (.int n)] []) _
  refine own_st (fun t_ k_ => XS.aloadN X3.here hx rfl (hb hby d9_24) rfl rfl (XS.aloadN X3.here hx rfl (hb hby d9_25) rfl rfl k_)) ?_
  show own_Go p e below T3 (mkF m 26 #[.val (.ref a1), .val (.ref x), .val (.int n)] [(.ref a1), (.ref a1)]) _
  obtain ⟨T4, X4, e4, st4⟩ := getF X3 hx hZ hown (host := "") (Or.inl (own_w hw 78 rfl)) Via.refl eH3 pF_count_a1 (g := (mkF m 26 #[.val (.ref a1), .val (.ref x), .val (.int n)] [(.ref a1), (.ref a1)])) rfl rfl (hb hby d9_26)
  refine own_st st4 ?_
  show own_Go p e below T4 (mkF m 29 #[.val (.ref a1), .val (.ref x), .val (.int n)] [(.int k), (.ref a1)]) _
  refine own_st (fun t_ k_ => XS.aloadN X4.here hx rfl (hb hby d9_29) rfl rfl k_) ?_
  show own_Go p e below T4 (mkF m 30 #[.val (.ref a1), .val (.ref x), .val (.int n)] [(.ref x), (.int k), (.ref a1)]) _
  obtain ⟨cq5, kq5, qa5, qb5, qc5⟩ := isOf hZ e4 pE_a1
  obtain ⟨_, _, ⟨T5, L5, k5, n5⟩, -, X5, ⟨Lc5, hQ5, l5, y5, z5⟩, st5⟩ := X4.virtualBack hx (y := (⟨"java/lang/AbstractStringBuilder", "putStringAt", "(ILjava/lang/String;)V"⟩ : MethodName)) (z := (⟨"java/lang/AbstractStringBuilder", "putStringAt", "(ILjava/lang/String;)V"⟩ : MethodName)) hown (mvT hZ (own_w hw 85 rfl)) (mvT hZ (own_decl (own_w hw 86 rfl) (own_w hw 89 rfl))) (notFace_of_selects (args := #[]) (mvT hZ (own_w hw 88 rfl))) (mvT hZ (own_w hw 88 rfl)) (mvT hZ (own_w hw 86 rfl)) (by decide) (backOf (W := 0) (rmPs l Z a0 hw [] a1 va kva cap k bs rest x tx kx n us zc h0 n0 Z0 pE_a1 pF_value_a1 pF_coder_a1 pE_x pF_value_x pF_coder_x pV_tx pV_va hk hcap hn hfit hbig pG_va pS_COMPACT_STRINGS pP5 pO) hZ (own_w hw 89 rfl) (own_w hw 47 rfl) (by decide) (by decide)) qa5 qc5 (g := (mkF m 30 #[.val (.ref a1), .val (.ref x), .val (.int n)] [(.ref x), (.int k), (.ref a1)])) rfl (by rw [hml]; rfl) (Steps.refl _) (argsL := [(.int k), (.ref x)]) (rest := []) (lenOf pd__ILjava_lang_String__V rfl) rfl (by show 2 * 0 + _ ≤ _; exact Nat.le_of_eq rfl) (hb hby d9_30) (fun _ _ => ⟨rfl, e4, (by decide : 0 + 0 ≤ _), (by decide : 0 + 0 ≤ _)⟩)
  dsimp only [Pt.U, Pt.locs, Pt.cells, Pt.slots] at X5 l5 y5 z5 st5 hQ5
  try dsimp only [Nat.reduceAdd] at y5 z5
  rw [l5, y5, z5] at X5
  obtain ⟨rfl, Nq5, Kq5, q5_0⟩ := hQ5
  have N5 := Fr.app N3 Nq5
  have K6 : Keep h0 T5.heap [a1, va] := (Keep.refl h0 [a1, va]).trans Kq5 (allS (Or.inl (List.mem_of_getElem? (i := 1) rfl)) all0)
  refine own_tr st5 ?_
  show own_Go p e below T5 (mkF m 33 #[.val (.ref a1), .val (.ref x), .val (.int n)] []) _
  refine own_st (fun t_ k_ => XS.aloadN X5.here hx rfl (hb hby d9_33) rfl rfl (XS.dup X5.here hx rfl (hb hby d9_34) rfl rfl k_)) ?_
  show own_Go p e below T5 (mkF m 35 #[.val (.ref a1), .val (.ref x), .val (.int n)] [(.ref a1), (.ref a1)]) _
  have f7 := (pF_count_a1.keep Kq5 (ninS (Exa.neArv (pE_a1.keep Kq5) q5_0 (own_w hw 38 rfl)) nin0))
  obtain ⟨T8, X8, e8, st8⟩ := getF X5 hx hZ hown (host := "") (Or.inl (own_w hw 78 rfl)) Via.refl rfl f7 (g := (mkF m 35 #[.val (.ref a1), .val (.ref x), .val (.int n)] [(.ref a1), (.ref a1)])) rfl rfl (hb hby d9_35)
  refine own_st st8 ?_
  show own_Go p e below T8 (mkF m 38 #[.val (.ref a1), .val (.ref x), .val (.int n)] [(.int k), (.ref a1)]) _
  refine own_st (fun t_ k_ => XS.iloadN X8.here hx rfl (hb hby d9_38) rfl (XS.iadd X8.here hx rfl (hb hby d9_39) rfl k_)) ?_
  show own_Go p e below T8 (mkF m 40 #[.val (.ref a1), .val (.ref x), .val (.int n)] [(.int (k + n)), (.ref a1)]) _
  have f9 := (pE_a1.keep Kq5)
  obtain ⟨T10, h10, X10, e10, W10, st10⟩ := putF X8 hx hZ hown (host := "") (Or.inl (own_w hw 78 rfl)) Via.refl e8 f7 f9 (Or.inl (own_w hw 79 rfl)) (own_w hw 38 rfl) (ty := .int) (by decide) rfl rfl (g := (mkF m 40 #[.val (.ref a1), .val (.ref x), .val (.int n)] [(.int (k + n)), (.ref a1)])) rfl rfl (hb hby d9_40)
  have F10 := f7.same W10
  have K11 : Keep h0 h10 [a1, va] := K6.wr W10 (Or.inl (List.mem_of_getElem? (i := 0) rfl))
  have N10 := Fr.snoc X10 N5 pG_a1
  refine own_st st10 ?_
  show own_Go p e below T10 (mkF m 43 #[.val (.ref a1), .val (.ref x), .val (.int n)] []) _
  refine own_st (fun t_ k_ => XS.aloadN X10.here hx rfl (hb hby d9_43) rfl rfl k_) ?_
  show own_Go p e below T10 (mkF m 44 #[.val (.ref a1), .val (.ref x), .val (.int n)] [(.ref a1)]) _
  have f12 := (f9.wr W10)
  have f13 := ((pF_value_a1.keep Kq5 (ninS (Exa.neArv f9 q5_0 (own_w hw 38 rfl)) nin0)).other W10 (Or.inr (slot_ne (Or.inl (own_w hw 52 rfl)) (Or.inl (own_w hw 79 rfl)) (by decide) (t := (.array .byte)) (t' := .int) (by decide) (by decide))))
  have f14 := ((pF_coder_a1.keep Kq5 (ninS (Exa.neArv f9 q5_0 (own_w hw 38 rfl)) nin0)).other W10 (Or.inr (slot_ne (Or.inl (own_w hw 54 rfl)) (Or.inl (own_w hw 79 rfl)) (by decide) (t := .byte) (t' := .int) (by decide) (by decide))))
  have f15 := (q5_0.other W10 (Ne.symm (Exa.neArv f9 q5_0 (own_w hw 38 rfl))))
  obtain ⟨fs, hr, hrun, hended, hW, hsame⟩ := X10.leave (v := some (.ref a1)) (fun h => by rw [Bd.returns] at h; cases h)
  refine own_fin (own_retR X10 hx rfl Bd.returns rfl (hb hby d9_44) hr) ⟨hrun, hended, _, _, rfl, ?_, ⟨_, rfl⟩, hW, hsame.mono (by decide) (by decide)⟩
  show Q_rmAbA Z a1 va kva cap k bs rest x tx kx n us zc h0 n0 _ T10.heap _
  rw [e10]
  exact ⟨rfl, N10, K11, f12, f13, f14, F10, f15⟩
theorem d8_0 : decode jdk_67_method_7_code 0 = .ok (.aload_n 0, 1) := by decide +kernel
theorem d8_1 : decode jdk_67_method_7_code 1 = .ok (.aload_n 1, 1) := by decide +kernel
theorem d8_2 : decode jdk_67_method_7_code 2 = .ok (.invokespecial 29, 3) := by decide +kernel
theorem d8_5 : decode jdk_67_method_7_code 5 = .ok (.pop, 1) := by decide +kernel
theorem d8_6 : decode jdk_67_method_7_code 6 = .ok (.aload_n 0, 1) := by decide +kernel
theorem d8_7 : decode jdk_67_method_7_code 7 = .ok (.areturn, 1) := by decide +kernel
theorem pn_8 : plainName "java/lang/StringBuilder" = true := by first | (simp [plainName, overriddenIn]; done) | decide +kernel
theorem pd__Ljava_lang_String__Ljava_lang_AbstractStringBuilder_ : parseMethodDescriptor "(Ljava/lang/String;)Ljava/lang/AbstractStringBuilder;" = some ⟨[(.object "java/lang/String")], some (.object "java/lang/AbstractStringBuilder")⟩ := by decide +kernel
theorem ef_rmSbA (m : MethodId) (x0 : Addr) (x1 : Addr) : entryFrame m #[(.ref x0), (.ref x1)] 2 = mkF m 0 #[.val (.ref x0), .val (.ref x1)] [] := by first | (simp [entryFrame, mkF, argsToLocals, Value.category]; done) | rfl
def Q_rmSbA (Z : State) (a1 : Addr) (va : Addr) (kva : ClassId) (cap : Int32) (k : Int32) (bs : List Value) (rest : List Value) (x : Addr) (tx : Addr) (kx : ClassId) (n : Int32) (us : List Value) (zc : Int32) (h0 : Heap) (n0 : Nat) (v : Option Value) (h : Heap) (L : List Loc) : Prop := v = some (.ref a1) ∧ Fr n0 L ∧ Keep h0 h [a1, va] ∧ Exa Z h a1 "java/lang/StringBuilder" ∧ Fld Z h a1 "java/lang/AbstractStringBuilder" "value" "[B" (.ref va) ∧ Fld Z h a1 "java/lang/AbstractStringBuilder" "coder" "B" (.int (0 : Int32)) ∧ Fld Z h a1 "java/lang/AbstractStringBuilder" "count" "I" (.int (k + n)) ∧ Arv Z h va kva .byte cap ((bs ++ us) ++ rest.drop us.length) (.int 0)
set_option maxRecDepth 65536 in
set_option maxHeartbeats 40000000 in
theorem rmSbA (l : Launch) (Z : State) (a0 : Array Value) (hw : ∀ d ∈ tables_1, d.before a0 Z = true) (ws : List Jvm.Cond) (a1 : Addr) (va : Addr) (kva : ClassId) (cap : Int32) (k : Int32) (bs : List Value) (rest : List Value) (x : Addr) (tx : Addr) (kx : ClassId) (n : Int32) (us : List Value) (zc : Int32) (h0 : Heap) (n0 : Nat) (Z0 : n0 ≤ h0.size) (pE_a1 : Exa Z h0 a1 "java/lang/StringBuilder") (pF_value_a1 : Fld Z h0 a1 "java/lang/AbstractStringBuilder" "value" "[B" (.ref va)) (pF_coder_a1 : Fld Z h0 a1 "java/lang/AbstractStringBuilder" "coder" "B" (.int (0 : Int32))) (pF_count_a1 : Fld Z h0 a1 "java/lang/AbstractStringBuilder" "count" "I" (.int k)) (pV_va : Arv Z h0 va kva .byte cap (bs ++ rest) (.int 0)) (pE_x : Exa Z h0 x "java/lang/String") (pF_value_x : Fld Z h0 x "java/lang/String" "value" "[B" (.ref tx)) (pF_coder_x : Fld Z h0 x "java/lang/String" "coder" "B" (.int (0 : Int32))) (pV_tx : Arv Z h0 tx kx .byte n us (.int 0)) (hk : (k.toInt = (bs.length : Int))) (hcap : (cap.toInt = ((bs.length + rest.length : Nat) : Int))) (hn : (n.toInt = (us.length : Int))) (hfit : (us.length ≤ rest.length)) (hbig : (bs.length + rest.length ≤ 1000000)) (pG_a1 : n0 ≤ a1) (pG_va : n0 ≤ va) (pS_COMPACT_STRINGS : Sta Z Z.heap "java/lang/String" "COMPACT_STRINGS" "Z" (.int zc)) (pP5 : (¬ (zc = (0 : Int32)))) (pO : Old Z n0 h0) :
    MetFree l (⟨"java/lang/StringBuilder", "append", "(Ljava/lang/String;)Ljava/lang/StringBuilder;"⟩ : MethodName) (head1 (Jvm.Cond.code (⟨"java/lang/StringBuilder", "append", "(Ljava/lang/String;)Ljava/lang/StringBuilder;"⟩ : MethodName) jdk_67_method_7_code 2 (some (.object "java/lang/StringBuilder")) :: ws) ({ frames := 4, cells := 0, slots := 0, locals := 163 } : Room)) (fun a U => a = #[(.ref a1), (.ref x)] ∧ Z.Warmed39 U.vm ∧ U.heap = h0) (fun _ _ _ _ _ => True) (fun _ U o U' => ∃ v L, o = .returned v ∧ Q_rmSbA Z a1 va kva cap k bs rest x tx kx n us zc h0 n0 v U'.heap L ∧ FrameEnd U o U' L ({ frames := 4, cells := 0, slots := 0, locals := 163 } : Room).cells ({ frames := 4, cells := 0, slots := 0, locals := 163 } : Room).slots) := by
  refine MetFree.of_bodySF (plainFor_of_name pn_8) hisR ?_
  intro p e s m args below meth c s₁ Bd hml0 hP hK
  obtain ⟨rfl, hZ, hh⟩ := hP
  have hx := Bd.exec
  have hby := Bd.bytes
  have hml : c.maxLocals = 2 := hml0
  have hown : s.vm.findClass "java/lang/StringBuilder" = some m.cls := findClass_of_methodNamed Bd.named
  have hnm := (name_of_methodNamed Bd.named Bd.method).1
  have X0 : Stand p l e ({ frames := 4, cells := 0, slots := 0, locals := 163 } : Room) s m #[(.ref a1), (.ref x)] below meth c s₁ [] 0 0 := Stand.of_body Bd
  have e0 : s₁.heap = h0 := by rw [← hh, Bd.state]; rfl
  have N0 := Fr.nil n0
  refine own_enter (ef_rmSbA m a1 x) ?_
  refine own_st (fun t_ k_ => XS.aloadN X0.here hx rfl (hb hby d8_0) rfl rfl (XS.aloadN X0.here hx rfl (hb hby d8_1) rfl rfl k_)) ?_
  show own_Go p e below s₁ (mkF m 2 #[.val (.ref a1), .val (.ref x)] [(.ref x), (.ref a1)]) _
  obtain ⟨_, _, ⟨T1, L1, k1, n1⟩, -, X1, ⟨Lc1, hQ1, l1, y1, z1⟩, st1⟩ := superBack X0 hx hZ (y := (⟨"java/lang/AbstractStringBuilder", "append", "(Ljava/lang/String;)Ljava/lang/AbstractStringBuilder;"⟩ : MethodName)) hown (own_w hw 60 rfl) (own_same (y := (⟨"java/lang/AbstractStringBuilder", "append", "(Ljava/lang/String;)Ljava/lang/AbstractStringBuilder;"⟩ : MethodName)) (y' := (⟨"java/lang/AbstractStringBuilder", "getValue", "()[B"⟩ : MethodName)) (own_w hw 63 rfl) (own_w hw 125 rfl) rfl (by decide)) (own_w hw 61 rfl) (own_w hw 62 rfl) (by decide) (backOf (W := 0) (rmAbA l Z a0 hw [] a1 va kva cap k bs rest x tx kx n us zc h0 n0 Z0 pE_a1 pF_value_a1 pF_coder_a1 pF_count_a1 pV_va pE_x pF_value_x pF_coder_x pV_tx hk hcap hn hfit hbig pG_a1 pG_va pS_COMPACT_STRINGS pP5 pO) hZ (own_w hw 64 rfl) (own_w hw 47 rfl) (by decide) (by decide)) e0 (Ins.self pE_a1) (g := (mkF m 2 #[.val (.ref a1), .val (.ref x)] [(.ref x), (.ref a1)])) rfl (by rw [hml]; rfl) (own_w hw 64 rfl) (argsL := [(.ref x)]) (rest := []) (lenOf pd__Ljava_lang_String__Ljava_lang_AbstractStringBuilder_ rfl) rfl (by show 2 * 0 + _ ≤ _; exact Nat.le_of_eq rfl) (hb hby d8_2) (fun _ _ => ⟨rfl, e0, (by decide : 0 + 0 ≤ _), (by decide : 0 + 0 ≤ _)⟩)
  dsimp only [Pt.U, Pt.locs, Pt.cells, Pt.slots] at X1 l1 y1 z1 st1 hQ1
  try dsimp only [Nat.reduceAdd] at y1 z1
  rw [l1, y1, z1] at X1
  obtain ⟨rfl, Nq1, Kq1, q1_0, q1_1, q1_2, q1_3, q1_4⟩ := hQ1
  have N1 := Fr.app N0 Nq1
  have K2 : Keep h0 T1.heap [a1, va] := (Keep.refl h0 [a1, va]).trans Kq1 (allS (Or.inl (List.mem_of_getElem? (i := 0) rfl)) (allS (Or.inl (List.mem_of_getElem? (i := 1) rfl)) all0))
  refine own_tr st1 ?_
  show own_Go p e below T1 (mkF m 5 #[.val (.ref a1), .val (.ref x)] [(.ref a1)]) _
  refine own_st (fun t_ k_ => XS.pop X1.here hx rfl (hb hby d8_5) rfl rfl (XS.aloadN X1.here hx rfl (hb hby d8_6) rfl rfl k_)) ?_
  show own_Go p e below T1 (mkF m 7 #[.val (.ref a1), .val (.ref x)] [(.ref a1)]) _
  obtain ⟨fs, hr, hrun, hended, hW, hsame⟩ := X1.leave (v := some (.ref a1)) (fun h => by rw [Bd.returns] at h; cases h)
  refine own_fin (own_retR X1 hx rfl Bd.returns rfl (hb hby d8_7) hr) ⟨hrun, hended, _, _, rfl, ?_, ⟨_, rfl⟩, hW, hsame.mono (by decide) (by decide)⟩
  show Q_rmSbA Z a1 va kva cap k bs rest x tx kx n us zc h0 n0 _ T1.heap _
  exact ⟨rfl, N1, K2, q1_0, q1_1, q1_2, q1_3, q1_4⟩
theorem d26_0 : decode jdk_29_method_69_code 0 = .ok (.iload_n 0, 1) := by decide +kernel
theorem d26_1 : decode jdk_29_method_69_code 1 = .ok (.iload_n 1, 1) := by decide +kernel
theorem d26_2 : decode jdk_29_method_69_code 2 = .ok (.if_icmp .gt 7, 3) := by decide +kernel
theorem d26_9 : decode jdk_29_method_69_code 9 = .ok (.iload_n 1, 1) := by decide +kernel
theorem d26_10 : decode jdk_29_method_69_code 10 = .ok (.ireturn, 1) := by decide +kernel
theorem ef_rmMb (m : MethodId) (x0 : Int32) (x1 : Int32) : entryFrame m #[(.int x0), (.int x1)] 2 = mkF m 0 #[.val (.int x0), .val (.int x1)] [] := by first | (simp [entryFrame, mkF, argsToLocals, Value.category]; done) | rfl
def Q_rmMb (Z : State) (a_ : Int32) (b_ : Int32) (h0 : Heap) (n0 : Nat) (v : Option Value) (h : Heap) (L : List Loc) : Prop := v = some (.int b_) ∧ Fr n0 L ∧ h = h0
set_option maxRecDepth 65536 in
set_option maxHeartbeats 40000000 in
theorem rmMb (l : Launch) (Z : State) (a0 : Array Value) (hw : ∀ d ∈ tables_1, d.before a0 Z = true) (ws : List Jvm.Cond) (a_ : Int32) (b_ : Int32) (h0 : Heap) (n0 : Nat) (Z0 : n0 ≤ h0.size) (h : (b_ < a_)) :
    MetFree l (⟨"java/lang/Math", "min", "(II)I"⟩ : MethodName) (head1 (Jvm.Cond.code (⟨"java/lang/Math", "min", "(II)I"⟩ : MethodName) jdk_29_method_69_code 2 (some .int) :: ws) ({ frames := 0, cells := 0, slots := 0, locals := 0 } : Room)) (fun a U => a = #[(.int a_), (.int b_)] ∧ Z.Warmed39 U.vm ∧ U.heap = h0) (fun _ _ _ _ _ => True) (fun _ U o U' => ∃ v L, o = .returned v ∧ Q_rmMb Z a_ b_ h0 n0 v U'.heap L ∧ FrameEnd U o U' L ({ frames := 0, cells := 0, slots := 0, locals := 0 } : Room).cells ({ frames := 0, cells := 0, slots := 0, locals := 0 } : Room).slots) := by
  refine MetFree.of_bodySF (Jvm.Free.JP.mathPlain rfl (by decide +kernel)) hisR ?_
  intro p e s m args below meth c s₁ Bd hml0 hP hK
  obtain ⟨rfl, hZ, hh⟩ := hP
  have hx := Bd.exec
  have hby := Bd.bytes
  have hml : c.maxLocals = 2 := hml0
  have hown : s.vm.findClass "java/lang/Math" = some m.cls := findClass_of_methodNamed Bd.named
  have hnm := (name_of_methodNamed Bd.named Bd.method).1
  have X0 : Stand p l e ({ frames := 0, cells := 0, slots := 0, locals := 0 } : Room) s m #[(.int a_), (.int b_)] below meth c s₁ [] 0 0 := Stand.of_body Bd
  have e0 : s₁.heap = h0 := by rw [← hh, Bd.state]; rfl
  have N0 := Fr.nil n0
  refine own_enter (ef_rmMb m a_ b_) ?_
  refine own_st (fun t_ k_ => XS.iloadN X0.here hx rfl (hb hby d26_0) rfl (XS.iloadN X0.here hx rfl (hb hby d26_1) rfl (XS.icmpYes X0.here hx rfl (pc0 := 2) (pc' := 9) rfl (hb hby d26_2) rfl (tlt h).2.2.1 (by decide) (by decide) (XS.iloadN X0.here hx rfl (hb hby d26_9) rfl k_)))) ?_
  show own_Go p e below s₁ (mkF m 10 #[.val (.int a_), .val (.int b_)] [(.int b_)]) _
  obtain ⟨fs, hr, hrun, hended, hW, hsame⟩ := X0.leave (v := some (.int b_)) (fun h => by rw [Bd.returns] at h; cases h)
  refine own_fin (own_retI X0 hx Bd.returns (hb hby d26_10) hr) ⟨hrun, hended, _, _, rfl, ?_, ⟨_, rfl⟩, hW, hsame.mono (by decide) (by decide)⟩
  show Q_rmMb Z a_ b_ h0 n0 _ s₁.heap _
  rw [e0]
  exact ⟨rfl, N0, rfl⟩
theorem d25_0 : decode jdk_65_method_131_code 0 = .ok (.iload_n 1, 1) := by decide +kernel
theorem d25_1 : decode jdk_65_method_131_code 1 = .ok (.iload_n 0, 1) := by decide +kernel
theorem d25_2 : decode jdk_65_method_131_code 2 = .ok (.if_icmp .ge 35, 3) := by decide +kernel
theorem d25_37 : decode jdk_65_method_131_code 37 = .ok (.return_, 1) := by decide +kernel
theorem pn_25 : plainName "java/util/Arrays" = true := by first | (simp [plainName, overriddenIn]; done) | decide +kernel
theorem ef_rmCl (m : MethodId) (x0 : Int32) (x1 : Int32) : entryFrame m #[(.int x0), (.int x1)] 2 = mkF m 0 #[.val (.int x0), .val (.int x1)] [] := by first | (simp [entryFrame, mkF, argsToLocals, Value.category]; done) | rfl
def Q_rmCl (Z : State) (a_ : Int32) (e_ : Int32) (h0 : Heap) (n0 : Nat) (v : Option Value) (h : Heap) (L : List Loc) : Prop := v = none ∧ Fr n0 L ∧ h = h0
set_option maxRecDepth 65536 in
set_option maxHeartbeats 40000000 in
theorem rmCl (l : Launch) (Z : State) (a0 : Array Value) (hw : ∀ d ∈ tables_1, d.before a0 Z = true) (ws : List Jvm.Cond) (a_ : Int32) (e_ : Int32) (h0 : Heap) (n0 : Nat) (Z0 : n0 ≤ h0.size) (hea : (¬ (e_ < a_))) :
    MetFree l (⟨"java/util/Arrays", "checkLength", "(II)V"⟩ : MethodName) (head1 (Jvm.Cond.code (⟨"java/util/Arrays", "checkLength", "(II)V"⟩ : MethodName) jdk_65_method_131_code 2 none :: ws) ({ frames := 0, cells := 0, slots := 0, locals := 0 } : Room)) (fun a U => a = #[(.int a_), (.int e_)] ∧ Z.Warmed39 U.vm ∧ U.heap = h0) (fun _ _ _ _ _ => True) (fun _ U o U' => ∃ v L, o = .returned v ∧ Q_rmCl Z a_ e_ h0 n0 v U'.heap L ∧ FrameEnd U o U' L ({ frames := 0, cells := 0, slots := 0, locals := 0 } : Room).cells ({ frames := 0, cells := 0, slots := 0, locals := 0 } : Room).slots) := by
  refine MetFree.of_bodySF (plainFor_of_name pn_25) hisR ?_
  intro p e s m args below meth c s₁ Bd hml0 hP hK
  obtain ⟨rfl, hZ, hh⟩ := hP
  have hx := Bd.exec
  have hby := Bd.bytes
  have hml : c.maxLocals = 2 := hml0
  have hown : s.vm.findClass "java/util/Arrays" = some m.cls := findClass_of_methodNamed Bd.named
  have hnm := (name_of_methodNamed Bd.named Bd.method).1
  have X0 : Stand p l e ({ frames := 0, cells := 0, slots := 0, locals := 0 } : Room) s m #[(.int a_), (.int e_)] below meth c s₁ [] 0 0 := Stand.of_body Bd
  have e0 : s₁.heap = h0 := by rw [← hh, Bd.state]; rfl
  have N0 := Fr.nil n0
  refine own_enter (ef_rmCl m a_ e_) ?_
  refine own_st (fun t_ k_ => XS.iloadN X0.here hx rfl (hb hby d25_0) rfl (XS.iloadN X0.here hx rfl (hb hby d25_1) rfl (XS.icmpYes X0.here hx rfl (pc0 := 2) (pc' := 37) rfl (hb hby d25_2) rfl (flt hea).2.1 (by decide) (by decide) k_))) ?_
  show own_Go p e below s₁ (mkF m 37 #[.val (.int a_), .val (.int e_)] []) _
  obtain ⟨fs, hr, hrun, hended, hW, hsame⟩ := X0.leave (v := none) (fun _ => rfl)
  refine own_fin (X0.returnOut hx Bd.returns (hb hby d25_37) hr) ⟨hrun, hended, _, _, rfl, ?_, ⟨_, rfl⟩, hW, hsame.mono (by decide) (by decide)⟩
  show Q_rmCl Z a_ e_ h0 n0 _ s₁.heap _
  rw [e0]
  exact ⟨rfl, N0, rfl⟩
theorem d24_0 : decode jdk_65_method_133_code 0 = .ok (.iload_n 1, 1) := by decide +kernel
theorem d24_1 : decode jdk_65_method_133_code 1 = .ok (.iload_n 2, 1) := by decide +kernel
theorem d24_2 : decode jdk_65_method_133_code 2 = .ok (.invokestatic 343, 3) := by decide +kernel
theorem d24_5 : decode jdk_65_method_133_code 5 = .ok (.iload_n 2, 1) := by decide +kernel
theorem d24_6 : decode jdk_65_method_133_code 6 = .ok (.iload_n 1, 1) := by decide +kernel
theorem d24_7 : decode jdk_65_method_133_code 7 = .ok (.isub, 1) := by decide +kernel
theorem d24_8 : decode jdk_65_method_133_code 8 = .ok (.istore_n 3, 1) := by decide +kernel
theorem d24_9 : decode jdk_65_method_133_code 9 = .ok (.iload_n 3, 1) := by decide +kernel
theorem d24_10 : decode jdk_65_method_133_code 10 = .ok (.newarray .byte, 2) := by decide +kernel
theorem d24_12 : decode jdk_65_method_133_code 12 = .ok (.astore 4, 2) := by decide +kernel
theorem d24_14 : decode jdk_65_method_133_code 14 = .ok (.aload_n 0, 1) := by decide +kernel
theorem d24_15 : decode jdk_65_method_133_code 15 = .ok (.iload_n 1, 1) := by decide +kernel
theorem d24_16 : decode jdk_65_method_133_code 16 = .ok (.aload 4, 2) := by decide +kernel
theorem d24_18 : decode jdk_65_method_133_code 18 = .ok (.iconst 0, 1) := by decide +kernel
theorem d24_19 : decode jdk_65_method_133_code 19 = .ok (.aload_n 0, 1) := by decide +kernel
theorem d24_20 : decode jdk_65_method_133_code 20 = .ok (.arraylength, 1) := by decide +kernel
theorem d24_21 : decode jdk_65_method_133_code 21 = .ok (.iload_n 1, 1) := by decide +kernel
theorem d24_22 : decode jdk_65_method_133_code 22 = .ok (.isub, 1) := by decide +kernel
theorem d24_23 : decode jdk_65_method_133_code 23 = .ok (.iload_n 3, 1) := by decide +kernel
theorem d24_24 : decode jdk_65_method_133_code 24 = .ok (.invokestatic 304, 3) := by decide +kernel
theorem d24_27 : decode jdk_65_method_133_code 27 = .ok (.invokestatic 150, 3) := by decide +kernel
theorem d24_30 : decode jdk_65_method_133_code 30 = .ok (.aload 4, 2) := by decide +kernel
theorem d24_32 : decode jdk_65_method_133_code 32 = .ok (.areturn, 1) := by decide +kernel
theorem pn_24 : plainName "java/util/Arrays" = true := by first | (simp [plainName, overriddenIn]; done) | decide +kernel
theorem pd__II_V : parseMethodDescriptor "(II)V" = some ⟨[.int, .int], none⟩ := by decide +kernel
theorem pd__II_I : parseMethodDescriptor "(II)I" = some ⟨[.int, .int], some .int⟩ := by decide +kernel
theorem ef_rmCr (m : MethodId) (x0 : Addr) (x1 : Int32) (x2 : Int32) : entryFrame m #[(.ref x0), (.int x1), (.int x2)] 5 = mkF m 0 #[.val (.ref x0), .val (.int x1), .val (.int x2), .unset, .unset] [] := by first | (simp [entryFrame, mkF, argsToLocals, Value.category]; done) | rfl
def Q_rmCr (Z : State) (va : Addr) (kva : ClassId) (cap : Int32) (k : Int32) (bs : List Value) (rest : List Value) (h0 : Heap) (n0 : Nat) (v : Option Value) (h : Heap) (L : List Loc) : Prop := ∃ b : Addr, ∃ kb : ClassId, v = some (.ref b) ∧ Fr n0 L ∧ Keep h0 h [] ∧ Arv Z h b kb .byte k bs (.int 0) ∧ h0.size ≤ b ∧ n0 ≤ b
set_option maxRecDepth 65536 in
set_option maxHeartbeats 40000000 in
theorem rmCr (l : Launch) (Z : State) (a0 : Array Value) (hw : ∀ d ∈ tables_1, d.before a0 Z = true) (ws : List Jvm.Cond) (va : Addr) (kva : ClassId) (cap : Int32) (k : Int32) (bs : List Value) (rest : List Value) (h0 : Heap) (n0 : Nat) (Z0 : n0 ≤ h0.size) (pV_va : Arv Z h0 va kva .byte cap (bs ++ rest) (.int 0)) (hk : (k.toInt = (bs.length : Int))) (hcap : (cap.toInt = ((bs.length + rest.length : Nat) : Int))) (hlt : (0 < rest.length)) (hbig : (bs.length ≤ 16)) :
    MetFree l (⟨"java/util/Arrays", "copyOfRangeByte", "([BII)[B"⟩ : MethodName) (head1 (Jvm.Cond.code (⟨"java/util/Arrays", "copyOfRangeByte", "([BII)[B"⟩ : MethodName) jdk_65_method_133_code 5 (some (.array .byte)) :: ws) ({ frames := 1, cells := 1, slots := 16, locals := 120 } : Room)) (fun a U => a = #[(.ref va), (.int (0 : Int32)), (.int k)] ∧ Z.Warmed39 U.vm ∧ U.heap = h0) (fun _ _ _ _ _ => True) (fun _ U o U' => ∃ v L, o = .returned v ∧ Q_rmCr Z va kva cap k bs rest h0 n0 v U'.heap L ∧ FrameEnd U o U' L ({ frames := 1, cells := 1, slots := 16, locals := 120 } : Room).cells ({ frames := 1, cells := 1, slots := 16, locals := 120 } : Room).slots) := by
  refine MetFree.of_bodySF (plainFor_of_name pn_24) hisR ?_
  intro p e s m args below meth c s₁ Bd hml0 hP hK
  obtain ⟨rfl, hZ, hh⟩ := hP
  have hx := Bd.exec
  have hby := Bd.bytes
  have hml : c.maxLocals = 5 := hml0
  have hown : s.vm.findClass "java/util/Arrays" = some m.cls := findClass_of_methodNamed Bd.named
  have hnm := (name_of_methodNamed Bd.named Bd.method).1
  have X0 : Stand p l e ({ frames := 1, cells := 1, slots := 16, locals := 120 } : Room) s m #[(.ref va), (.int (0 : Int32)), (.int k)] below meth c s₁ [] 0 0 := Stand.of_body Bd
  have e0 : s₁.heap = h0 := by rw [← hh, Bd.state]; rfl
  have N0 := Fr.nil n0
  refine own_enter (ef_rmCr m va ((0 : Int32)) k) ?_
  have hkz : k < cap := by rw [Int32.lt_iff_toInt_lt]; omega
  refine own_st (fun t_ k_ => XS.iloadN X0.here hx rfl (hb hby d24_0) rfl (XS.iloadN X0.here hx rfl (hb hby d24_1) rfl k_)) ?_
  show own_Go p e below s₁ (mkF m 2 #[.val (.ref va), .val (.int (0 : Int32)), .val (.int k), .unset, .unset] [(.int k), (.int (0 : Int32))]) _
  obtain ⟨_, _, ⟨T1, L1, k1, n1⟩, -, X1, ⟨Lc1, hQ1, l1, y1, z1⟩, st1⟩ := Jvm.LawKit.callS X0 hx (y := (⟨"java/util/Arrays", "checkLength", "(II)V"⟩ : MethodName)) hown (mvT hZ (own_w hw 147 rfl)) (mvT hZ (own_w hw 148 rfl)) (mvT hZ (own_w hw 142 rfl)) (mvT hZ (own_w hw 149 rfl)) (by decide) (backOf (W := 0) (rmCl l Z a0 hw [] ((0 : Int32)) k h0 n0 Z0 (own_nonneg hk)) hZ (own_w hw 149 rfl) (own_w hw 142 rfl) (by decide) (by decide)) (g := (mkF m 2 #[.val (.ref va), .val (.int (0 : Int32)), .val (.int k), .unset, .unset] [(.int k), (.int (0 : Int32))])) rfl (by rw [hml]; rfl) (argsL := [(.int (0 : Int32)), (.int k)]) (rest := []) (lenOf pd__II_V rfl) rfl (by show 2 * 0 + _ ≤ _; exact Nat.le_of_eq rfl) (hb hby d24_2) (fun _ _ => ⟨rfl, e0, (by decide : 0 + 0 ≤ _), (by decide : 0 + 0 ≤ _)⟩)
  dsimp only [Pt.U, Pt.locs, Pt.cells, Pt.slots] at X1 l1 y1 z1 st1 hQ1
  try dsimp only [Nat.reduceAdd] at y1 z1
  rw [l1, y1, z1] at X1
  obtain ⟨rfl, Nq1, eH1⟩ := hQ1
  have N1 := Fr.app N0 Nq1
  refine own_st st1 ?_
  show own_Go p e below T1 (mkF m 5 #[.val (.ref va), .val (.int (0 : Int32)), .val (.int k), .unset, .unset] []) _
  refine own_st (fun t_ k_ => XS.iloadN X1.here hx rfl (hb hby d24_5) rfl (XS.iloadN X1.here hx rfl (hb hby d24_6) rfl (XS.isub X1.here hx rfl (hb hby d24_7) rfl k_))) ?_
  show own_Go p e below T1 (mkF m 8 #[.val (.ref va), .val (.int (0 : Int32)), .val (.int k), .unset, .unset] [(.int (k - (0 : Int32)))]) _
  rw [own_sub0 k]
  show own_Go p e below T1 (mkF m 8 #[.val (.ref va), .val (.int (0 : Int32)), .val (.int k), .unset, .unset] [(.int k)]) _
  refine own_st (fun t_ k_ => XS.istoreN X1.here hx rfl (hb hby d24_8) rfl (l' := #[.val (.ref va), .val (.int (0 : Int32)), .val (.int k), .val (.int k), .unset]) rfl (XS.iloadN X1.here hx rfl (hb hby d24_9) rfl k_)) ?_
  show own_Go p e below T1 (mkF m 10 #[.val (.ref va), .val (.int (0 : Int32)), .val (.int k), .val (.int k), .unset] [(.int k)]) _
  obtain ⟨T2, h2, k2, X2, e2, E2, A2, st2⟩ := newP X1 hx hZ (own_w hw 7 rfl) eH1 (g := (mkF m 10 #[.val (.ref va), .val (.int (0 : Int32)), .val (.int k), .val (.int k), .unset] [(.int k)])) rfl (hb hby d24_10) rfl (own_nonneg hk) (cap := 16) (by rw [own_clamp hk]; exact hbig) (by decide) (by decide) (by decide)
  obtain ⟨b2, g2⟩ : ∃ z, z = h0.size := ⟨_, rfl⟩
  rw [← g2] at A2 st2
  have G2 : n0 ≤ b2 := Nat.le_trans Z0 (Nat.le_of_eq g2.symm)
  have B2 : h0.size ≤ b2 := Nat.le_trans (Keep.refl h0 []).1 (Nat.le_of_eq g2.symm)
  have K3 : Keep h0 h2 [] := (Keep.refl h0 []).ext E2
  have V2 : Arv Z h2 b2 k2 .byte k [] (.int (0 : Int32)) := Arv.new A2 (own_nonneg hk)
  refine own_st st2 ?_
  show own_Go p e below T2 (mkF m 12 #[.val (.ref va), .val (.int (0 : Int32)), .val (.int k), .val (.int k), .unset] [(.ref b2)]) _
  have Vp : Arv Z h2 b2 k2 .byte k (List.replicate bs.length (.int (0 : Int32))) (.int (0 : Int32)) := V2.pad (pad_rep [] (.int (0 : Int32)) bs.length)
  refine own_st (fun t_ k_ => XS.astore X2.here hx rfl (hb hby d24_12) rfl rfl (l' := #[.val (.ref va), .val (.int (0 : Int32)), .val (.int k), .val (.int k), .val (.ref b2)]) rfl (XS.aloadN X2.here hx rfl (hb hby d24_14) rfl rfl (XS.iloadN X2.here hx rfl (hb hby d24_15) rfl (XS.aload X2.here hx rfl (hb hby d24_16) rfl rfl (XS.iconst X2.here hx rfl (hb hby d24_18) (XS.aloadN X2.here hx rfl (hb hby d24_19) rfl rfl k_)))))) ?_
  show own_Go p e below T2 (mkF m 20 #[.val (.ref va), .val (.int (0 : Int32)), .val (.int k), .val (.int k), .val (.ref b2)] [(.ref va), (.int (0 : Int32)), (.ref b2), (.int (0 : Int32)), (.ref va)]) _
  have f4 := (pV_va.ext E2)
  obtain ⟨cl5, Ar5, q5, Sz5, Nn5, Hh5, Gg5⟩ := id f4
  refine own_st (fun t_ k_ => X2.arraylength hx (by rw [e2]; exact Ar5.1) (State.isArrayOf_alike hZ.alike Ar5.2.1) (g := (mkF m 20 #[.val (.ref va), .val (.int (0 : Int32)), .val (.int k), .val (.int k), .val (.ref b2)] [(.ref va), (.int (0 : Int32)), (.ref b2), (.int (0 : Int32)), (.ref va)])) rfl rfl (hb hby d24_20) _ k_) ?_
  rw [len_of Sz5 Nn5]
  show own_Go p e below T2 (mkF m 21 #[.val (.ref va), .val (.int (0 : Int32)), .val (.int k), .val (.int k), .val (.ref b2)] [(.int cap), (.int (0 : Int32)), (.ref b2), (.int (0 : Int32)), (.ref va)]) _
  refine own_st (fun t_ k_ => XS.iloadN X2.here hx rfl (hb hby d24_21) rfl (XS.isub X2.here hx rfl (hb hby d24_22) rfl k_)) ?_
  show own_Go p e below T2 (mkF m 23 #[.val (.ref va), .val (.int (0 : Int32)), .val (.int k), .val (.int k), .val (.ref b2)] [(.int (cap - (0 : Int32))), (.int (0 : Int32)), (.ref b2), (.int (0 : Int32)), (.ref va)]) _
  rw [own_sub0 cap]
  show own_Go p e below T2 (mkF m 23 #[.val (.ref va), .val (.int (0 : Int32)), .val (.int k), .val (.int k), .val (.ref b2)] [(.int cap), (.int (0 : Int32)), (.ref b2), (.int (0 : Int32)), (.ref va)]) _
  refine own_st (fun t_ k_ => XS.iloadN X2.here hx rfl (hb hby d24_23) rfl k_) ?_
  show own_Go p e below T2 (mkF m 24 #[.val (.ref va), .val (.int (0 : Int32)), .val (.int k), .val (.int k), .val (.ref b2)] [(.int k), (.int cap), (.int (0 : Int32)), (.ref b2), (.int (0 : Int32)), (.ref va)]) _
  have f6 := (Nat.le_trans Z0 E2.1)
  obtain ⟨_, _, ⟨T7, L7, k7, n7⟩, -, X7, ⟨Lc7, hQ7, l7, y7, z7⟩, st7⟩ := Jvm.LawKit.callS X2 hx (y := (⟨"java/lang/Math", "min", "(II)I"⟩ : MethodName)) hown (mvT hZ (own_w hw 150 rfl)) (mvT hZ (own_w hw 151 rfl)) (mvT hZ (own_w hw 152 rfl)) (mvT hZ (own_w hw 153 rfl)) (by decide) (backOf (W := 4) (rmMb l Z a0 hw [] cap k h2 n0 f6 hkz) hZ (own_w hw 153 rfl) (own_w hw 152 rfl) (by decide) (by decide)) (g := (mkF m 24 #[.val (.ref va), .val (.int (0 : Int32)), .val (.int k), .val (.int k), .val (.ref b2)] [(.int k), (.int cap), (.int (0 : Int32)), (.ref b2), (.int (0 : Int32)), (.ref va)])) rfl (by rw [hml]; rfl) (argsL := [(.int cap), (.int k)]) (rest := [(.int (0 : Int32)), (.ref b2), (.int (0 : Int32)), (.ref va)]) (lenOf pd__II_I rfl) rfl (by show 2 * 0 + _ ≤ _; exact Nat.le_of_eq rfl) (hb hby d24_24) (fun _ _ => ⟨rfl, e2, (by decide : 1 + 0 ≤ _), (by decide : 16 + 0 ≤ _)⟩)
  dsimp only [Pt.U, Pt.locs, Pt.cells, Pt.slots] at X7 l7 y7 z7 st7 hQ7
  try dsimp only [Nat.reduceAdd] at y7 z7
  rw [l7, y7, z7] at X7
  obtain ⟨rfl, Nq7, eH7⟩ := hQ7
  have N7 := Fr.app N1 Nq7
  refine own_st st7 ?_
  show own_Go p e below T7 (mkF m 27 #[.val (.ref va), .val (.int (0 : Int32)), .val (.int k), .val (.int k), .val (.ref b2)] [(.int k), (.int (0 : Int32)), (.ref b2), (.int (0 : Int32)), (.ref va)]) _
  obtain ⟨T8, h8, L8, X8, e8, N8, Kq8, Va8, st8⟩ := cpA X7 hx hZ hown (own_w hw 154 rfl) (own_w hw 104 rfl) (own_w hw 102 rfl) (own_w hw 103 rfl) eH7 f4 Vp (Or.inl ⟨rfl, rfl⟩) (sp := (0 : Int32)) (dp := (0 : Int32)) (nn := k) (by decide) (by decide) (own_nonneg hk) (by rw [own_clamp hk, own_clamp hcap]; exact Nat.le_trans (Nat.le_of_eq (Nat.zero_add _)) (Nat.le_add_right _ _)) (by rw [own_clamp hk]; exact Nat.le_of_eq (Nat.zero_add _)) (us := bs) (own_range hk) (by rw [own_clamp hk, List.length_replicate]; exact Nat.le_of_eq (Nat.zero_add _)) N7 G2 (g := (mkF m 27 #[.val (.ref va), .val (.int (0 : Int32)), .val (.int k), .val (.int k), .val (.ref b2)] [(.int k), (.int (0 : Int32)), (.ref b2), (.int (0 : Int32)), (.ref va)])) rfl (by rw [hml]; rfl) (rest := []) rfl (hb hby d24_27) (by decide) (W := 0) (by show 2 * 0 + _ ≤ _; exact Nat.le_of_eq rfl) (by decide +kernel)
  rw [own_cp0 hk (List.length_replicate ..)] at Va8
  have K9 : Keep h0 h8 [] := K3.trans Kq8 (allS (Or.inr B2) all0)
  refine own_st st8 ?_
  show own_Go p e below T8 (mkF m 30 #[.val (.ref va), .val (.int (0 : Int32)), .val (.int k), .val (.int k), .val (.ref b2)] []) _
  refine own_st (fun t_ k_ => XS.aload X8.here hx rfl (hb hby d24_30) rfl rfl k_) ?_
  show own_Go p e below T8 (mkF m 32 #[.val (.ref va), .val (.int (0 : Int32)), .val (.int k), .val (.int k), .val (.ref b2)] [(.ref b2)]) _
  obtain ⟨fs, hr, hrun, hended, hW, hsame⟩ := X8.leave (v := some (.ref b2)) (fun h => by rw [Bd.returns] at h; cases h)
  refine own_fin (own_retR X8 hx rfl Bd.returns rfl (hb hby d24_32) hr) ⟨hrun, hended, _, _, rfl, ?_, ⟨_, rfl⟩, hW, hsame.mono (by decide) (by decide)⟩
  show Q_rmCr Z va kva cap k bs rest h0 n0 _ T8.heap _
  rw [e8]
  exact ⟨b2, k2, rfl, N8, K9, Va8, B2, G2⟩
theorem d23_0 : decode jdk_65_method_132_code 0 = .ok (.iload_n 1, 1) := by decide +kernel
theorem d23_1 : decode jdk_65_method_132_code 1 = .ok (.ifCond .ne 9, 3) := by decide +kernel
theorem d23_4 : decode jdk_65_method_132_code 4 = .ok (.iload_n 2, 1) := by decide +kernel
theorem d23_5 : decode jdk_65_method_132_code 5 = .ok (.aload_n 0, 1) := by decide +kernel
theorem d23_6 : decode jdk_65_method_132_code 6 = .ok (.arraylength, 1) := by decide +kernel
theorem d23_7 : decode jdk_65_method_132_code 7 = .ok (.if_icmp .eq 10, 3) := by decide +kernel
theorem d23_10 : decode jdk_65_method_132_code 10 = .ok (.aload_n 0, 1) := by decide +kernel
theorem d23_11 : decode jdk_65_method_132_code 11 = .ok (.iload_n 1, 1) := by decide +kernel
theorem d23_12 : decode jdk_65_method_132_code 12 = .ok (.iload_n 2, 1) := by decide +kernel
theorem d23_13 : decode jdk_65_method_132_code 13 = .ok (.invokestatic 339, 3) := by decide +kernel
theorem d23_16 : decode jdk_65_method_132_code 16 = .ok (.areturn, 1) := by decide +kernel
theorem pn_23 : plainName "java/util/Arrays" = true := by first | (simp [plainName, overriddenIn]; done) | decide +kernel
theorem pd___BII__B : parseMethodDescriptor "([BII)[B" = some ⟨[(.array .byte), .int, .int], some (.array .byte)⟩ := by decide +kernel
theorem ef_rmCp (m : MethodId) (x0 : Addr) (x1 : Int32) (x2 : Int32) : entryFrame m #[(.ref x0), (.int x1), (.int x2)] 3 = mkF m 0 #[.val (.ref x0), .val (.int x1), .val (.int x2)] [] := by first | (simp [entryFrame, mkF, argsToLocals, Value.category]; done) | rfl
def Q_rmCp (Z : State) (va : Addr) (kva : ClassId) (cap : Int32) (k : Int32) (bs : List Value) (rest : List Value) (h0 : Heap) (n0 : Nat) (v : Option Value) (h : Heap) (L : List Loc) : Prop := ∃ b : Addr, ∃ kb : ClassId, v = some (.ref b) ∧ Fr n0 L ∧ Keep h0 h [] ∧ Arv Z h b kb .byte k bs (.int 0) ∧ h0.size ≤ b ∧ n0 ≤ b
set_option maxRecDepth 65536 in
set_option maxHeartbeats 40000000 in
theorem rmCp (l : Launch) (Z : State) (a0 : Array Value) (hw : ∀ d ∈ tables_1, d.before a0 Z = true) (ws : List Jvm.Cond) (va : Addr) (kva : ClassId) (cap : Int32) (k : Int32) (bs : List Value) (rest : List Value) (h0 : Heap) (n0 : Nat) (Z0 : n0 ≤ h0.size) (pV_va : Arv Z h0 va kva .byte cap (bs ++ rest) (.int 0)) (hk : (k.toInt = (bs.length : Int))) (hcap : (cap.toInt = ((bs.length + rest.length : Nat) : Int))) (hlt : (0 < rest.length)) (hbig : (bs.length ≤ 16)) :
    MetFree l (⟨"java/util/Arrays", "copyOfRange", "([BII)[B"⟩ : MethodName) (head1 (Jvm.Cond.code (⟨"java/util/Arrays", "copyOfRange", "([BII)[B"⟩ : MethodName) jdk_65_method_132_code 3 (some (.array .byte)) :: ws) ({ frames := 2, cells := 1, slots := 16, locals := 136 } : Room)) (fun a U => a = #[(.ref va), (.int (0 : Int32)), (.int k)] ∧ Z.Warmed39 U.vm ∧ U.heap = h0) (fun _ _ _ _ _ => True) (fun _ U o U' => ∃ v L, o = .returned v ∧ Q_rmCp Z va kva cap k bs rest h0 n0 v U'.heap L ∧ FrameEnd U o U' L ({ frames := 2, cells := 1, slots := 16, locals := 136 } : Room).cells ({ frames := 2, cells := 1, slots := 16, locals := 136 } : Room).slots) := by
  refine MetFree.of_bodySF (plainFor_of_name pn_23) hisR ?_
  intro p e s m args below meth c s₁ Bd hml0 hP hK
  obtain ⟨rfl, hZ, hh⟩ := hP
  have hx := Bd.exec
  have hby := Bd.bytes
  have hml : c.maxLocals = 3 := hml0
  have hown : s.vm.findClass "java/util/Arrays" = some m.cls := findClass_of_methodNamed Bd.named
  have hnm := (name_of_methodNamed Bd.named Bd.method).1
  have X0 : Stand p l e ({ frames := 2, cells := 1, slots := 16, locals := 136 } : Room) s m #[(.ref va), (.int (0 : Int32)), (.int k)] below meth c s₁ [] 0 0 := Stand.of_body Bd
  have e0 : s₁.heap = h0 := by rw [← hh, Bd.state]; rfl
  have N0 := Fr.nil n0
  refine own_enter (ef_rmCp m va ((0 : Int32)) k) ?_
  have hkz : k < cap := by rw [Int32.lt_iff_toInt_lt]; omega
  have hne : ¬ (k = cap) := fun q => by rw [q, Int32.lt_iff_toInt_lt] at hkz; omega
  refine own_st (fun t_ k_ => XS.iloadN X0.here hx rfl (hb hby d23_0) rfl (XS.ifNo X0.here hx rfl (hb hby d23_1) rfl (by decide) (XS.iloadN X0.here hx rfl (hb hby d23_4) rfl (XS.aloadN X0.here hx rfl (hb hby d23_5) rfl rfl k_)))) ?_
  show own_Go p e below s₁ (mkF m 6 #[.val (.ref va), .val (.int (0 : Int32)), .val (.int k)] [(.ref va), (.int k)]) _
  obtain ⟨cl1, Ar1, q1, Sz1, Nn1, Hh1, Gg1⟩ := id pV_va
  refine own_st (fun t_ k_ => X0.arraylength hx (by rw [e0]; exact Ar1.1) (State.isArrayOf_alike hZ.alike Ar1.2.1) (g := (mkF m 6 #[.val (.ref va), .val (.int (0 : Int32)), .val (.int k)] [(.ref va), (.int k)])) rfl rfl (hb hby d23_6) _ k_) ?_
  rw [len_of Sz1 Nn1]
  show own_Go p e below s₁ (mkF m 7 #[.val (.ref va), .val (.int (0 : Int32)), .val (.int k)] [(.int cap), (.int k)]) _
  refine own_st (fun t_ k_ => XS.icmpNo X0.here hx rfl (hb hby d23_7) rfl (feq hne).1 (XS.aloadN X0.here hx rfl (hb hby d23_10) rfl rfl (XS.iloadN X0.here hx rfl (hb hby d23_11) rfl (XS.iloadN X0.here hx rfl (hb hby d23_12) rfl k_)))) ?_
  show own_Go p e below s₁ (mkF m 13 #[.val (.ref va), .val (.int (0 : Int32)), .val (.int k)] [(.int k), (.int (0 : Int32)), (.ref va)]) _
  obtain ⟨_, _, ⟨T2, L2, k2, n2⟩, -, X2, ⟨Lc2, hQ2, l2, y2, z2⟩, st2⟩ := Jvm.LawKit.callS X0 hx (y := (⟨"java/util/Arrays", "copyOfRangeByte", "([BII)[B"⟩ : MethodName)) hown (mvT hZ (own_w hw 144 rfl)) (mvT hZ (own_w hw 145 rfl)) (mvT hZ (own_w hw 142 rfl)) (mvT hZ (own_w hw 146 rfl)) (by decide) (backOf (W := 0) (rmCr l Z a0 hw [] va kva cap k bs rest h0 n0 Z0 pV_va hk hcap hlt hbig) hZ (own_w hw 146 rfl) (own_w hw 142 rfl) (by decide) (by decide)) (g := (mkF m 13 #[.val (.ref va), .val (.int (0 : Int32)), .val (.int k)] [(.int k), (.int (0 : Int32)), (.ref va)])) rfl (by rw [hml]; rfl) (argsL := [(.ref va), (.int (0 : Int32)), (.int k)]) (rest := []) (lenOf pd___BII__B rfl) rfl (by show 2 * 0 + _ ≤ _; exact Nat.le_of_eq rfl) (hb hby d23_13) (fun _ _ => ⟨rfl, e0, (by decide : 0 + 1 ≤ _), (by decide : 0 + 16 ≤ _)⟩)
  dsimp only [Pt.U, Pt.locs, Pt.cells, Pt.slots] at X2 l2 y2 z2 st2 hQ2
  try dsimp only [Nat.reduceAdd] at y2 z2
  rw [l2, y2, z2] at X2
  obtain ⟨b_2, kb_2, rfl, Nq2, Kq2, q2_0, q2_1, q2_2⟩ := hQ2
  have N2 := Fr.app N0 Nq2
  have K3 : Keep h0 T2.heap [] := (Keep.refl h0 []).trans Kq2 all0
  have Bf4 : h0.size ≤ b_2 := Nat.le_trans (Keep.refl h0 []).1 q2_1
  refine own_st st2 ?_
  show own_Go p e below T2 (mkF m 16 #[.val (.ref va), .val (.int (0 : Int32)), .val (.int k)] [(.ref b_2)]) _
  obtain ⟨fs, hr, hrun, hended, hW, hsame⟩ := X2.leave (v := some (.ref b_2)) (fun h => by rw [Bd.returns] at h; cases h)
  refine own_fin (own_retR X2 hx rfl Bd.returns rfl (hb hby d23_16) hr) ⟨hrun, hended, _, _, rfl, ?_, ⟨_, rfl⟩, hW, hsame.mono (by decide) (by decide)⟩
  show Q_rmCp Z va kva cap k bs rest h0 n0 _ T2.heap _
  exact ⟨b_2, kb_2, rfl, N2, K3, q2_0, Bf4, q2_2⟩
theorem d19_0 : decode jdk_68_method_64_code 0 = .ok (.aload_n 0, 1) := by decide +kernel
theorem d19_1 : decode jdk_68_method_64_code 1 = .ok (.getfield 15, 3) := by decide +kernel
theorem d19_4 : decode jdk_68_method_64_code 4 = .ok (.areturn, 1) := by decide +kernel
theorem pn_19 : plainName "java/lang/AbstractStringBuilder" = true := by first | (simp [plainName, overriddenIn]; done) | decide +kernel
theorem ef_rmGv (m : MethodId) (x0 : Addr) : entryFrame m #[(.ref x0)] 1 = mkF m 0 #[.val (.ref x0)] [] := by first | (simp [entryFrame, mkF, argsToLocals, Value.category]; done) | rfl
def Q_rmGv (Z : State) (a1 : Addr) (va : Addr) (h0 : Heap) (n0 : Nat) (v : Option Value) (h : Heap) (L : List Loc) : Prop := v = some (.ref va) ∧ Fr n0 L ∧ h = h0
set_option maxRecDepth 65536 in
set_option maxHeartbeats 40000000 in
theorem rmGv (l : Launch) (Z : State) (a0 : Array Value) (hw : ∀ d ∈ tables_1, d.before a0 Z = true) (ws : List Jvm.Cond) (a1 : Addr) (va : Addr) (h0 : Heap) (n0 : Nat) (Z0 : n0 ≤ h0.size) (pE_a1 : Exa Z h0 a1 "java/lang/StringBuilder") (pF_value_a1 : Fld Z h0 a1 "java/lang/AbstractStringBuilder" "value" "[B" (.ref va)) :
    MetFree l (⟨"java/lang/AbstractStringBuilder", "getValue", "()[B"⟩ : MethodName) (head1 (Jvm.Cond.code (⟨"java/lang/AbstractStringBuilder", "getValue", "()[B"⟩ : MethodName) jdk_68_method_64_code 1 (some (.array .byte)) :: ws) ({ frames := 0, cells := 0, slots := 0, locals := 0 } : Room)) (fun a U => a = #[(.ref a1)] ∧ Z.Warmed39 U.vm ∧ U.heap = h0) (fun _ _ _ _ _ => True) (fun _ U o U' => ∃ v L, o = .returned v ∧ Q_rmGv Z a1 va h0 n0 v U'.heap L ∧ FrameEnd U o U' L ({ frames := 0, cells := 0, slots := 0, locals := 0 } : Room).cells ({ frames := 0, cells := 0, slots := 0, locals := 0 } : Room).slots) := by
  refine MetFree.of_bodySF (plainFor_of_name pn_19) hisR ?_
  intro p e s m args below meth c s₁ Bd hml0 hP hK
  obtain ⟨rfl, hZ, hh⟩ := hP
  have hx := Bd.exec
  have hby := Bd.bytes
  have hml : c.maxLocals = 1 := hml0
  have hown : s.vm.findClass "java/lang/AbstractStringBuilder" = some m.cls := findClass_of_methodNamed Bd.named
  have hnm := (name_of_methodNamed Bd.named Bd.method).1
  have X0 : Stand p l e ({ frames := 0, cells := 0, slots := 0, locals := 0 } : Room) s m #[(.ref a1)] below meth c s₁ [] 0 0 := Stand.of_body Bd
  have e0 : s₁.heap = h0 := by rw [← hh, Bd.state]; rfl
  have N0 := Fr.nil n0
  refine own_enter (ef_rmGv m a1) ?_
  refine own_st (fun t_ k_ => XS.aloadN X0.here hx rfl (hb hby d19_0) rfl rfl k_) ?_
  show own_Go p e below s₁ (mkF m 1 #[.val (.ref a1)] [(.ref a1)]) _
  obtain ⟨T1, X1, e1, st1⟩ := getF X0 hx hZ hown (host := "") (Or.inl (own_w hw 51 rfl)) Via.refl e0 pF_value_a1 (g := (mkF m 1 #[.val (.ref a1)] [(.ref a1)])) rfl rfl (hb hby d19_1)
  refine own_st st1 ?_
  show own_Go p e below T1 (mkF m 4 #[.val (.ref a1)] [(.ref va)]) _
  obtain ⟨fs, hr, hrun, hended, hW, hsame⟩ := X1.leave (v := some (.ref va)) (fun h => by rw [Bd.returns] at h; cases h)
  refine own_fin (own_retR X1 hx rfl Bd.returns rfl (hb hby d19_4) hr) ⟨hrun, hended, _, _, rfl, ?_, ⟨_, rfl⟩, hW, hsame.mono (by decide) (by decide)⟩
  show Q_rmGv Z a1 va h0 n0 _ T1.heap _
  rw [e1]
  exact ⟨rfl, N0, rfl⟩
theorem d21_0 : decode jdk_68_method_6_code 0 = .ok (.aload_n 0, 1) := by decide +kernel
theorem d21_1 : decode jdk_68_method_6_code 1 = .ok (.getfield 79, 3) := by decide +kernel
theorem d21_4 : decode jdk_68_method_6_code 4 = .ok (.ireturn, 1) := by decide +kernel
theorem pn_21 : plainName "java/lang/AbstractStringBuilder" = true := by first | (simp [plainName, overriddenIn]; done) | decide +kernel
theorem ef_rmAl (m : MethodId) (x0 : Addr) : entryFrame m #[(.ref x0)] 1 = mkF m 0 #[.val (.ref x0)] [] := by first | (simp [entryFrame, mkF, argsToLocals, Value.category]; done) | rfl
def Q_rmAl (Z : State) (a1 : Addr) (k : Int32) (h0 : Heap) (n0 : Nat) (v : Option Value) (h : Heap) (L : List Loc) : Prop := v = some (.int k) ∧ Fr n0 L ∧ h = h0
set_option maxRecDepth 65536 in
set_option maxHeartbeats 40000000 in
theorem rmAl (l : Launch) (Z : State) (a0 : Array Value) (hw : ∀ d ∈ tables_1, d.before a0 Z = true) (ws : List Jvm.Cond) (a1 : Addr) (k : Int32) (h0 : Heap) (n0 : Nat) (Z0 : n0 ≤ h0.size) (pE_a1 : Exa Z h0 a1 "java/lang/StringBuilder") (pF_count_a1 : Fld Z h0 a1 "java/lang/AbstractStringBuilder" "count" "I" (.int k)) :
    MetFree l (⟨"java/lang/AbstractStringBuilder", "length", "()I"⟩ : MethodName) (head1 (Jvm.Cond.code (⟨"java/lang/AbstractStringBuilder", "length", "()I"⟩ : MethodName) jdk_68_method_6_code 1 (some .int) :: ws) ({ frames := 0, cells := 0, slots := 0, locals := 0 } : Room)) (fun a U => a = #[(.ref a1)] ∧ Z.Warmed39 U.vm ∧ U.heap = h0) (fun _ _ _ _ _ => True) (fun _ U o U' => ∃ v L, o = .returned v ∧ Q_rmAl Z a1 k h0 n0 v U'.heap L ∧ FrameEnd U o U' L ({ frames := 0, cells := 0, slots := 0, locals := 0 } : Room).cells ({ frames := 0, cells := 0, slots := 0, locals := 0 } : Room).slots) := by
  refine MetFree.of_bodySF (plainFor_of_name pn_21) hisR ?_
  intro p e s m args below meth c s₁ Bd hml0 hP hK
  obtain ⟨rfl, hZ, hh⟩ := hP
  have hx := Bd.exec
  have hby := Bd.bytes
  have hml : c.maxLocals = 1 := hml0
  have hown : s.vm.findClass "java/lang/AbstractStringBuilder" = some m.cls := findClass_of_methodNamed Bd.named
  have hnm := (name_of_methodNamed Bd.named Bd.method).1
  have X0 : Stand p l e ({ frames := 0, cells := 0, slots := 0, locals := 0 } : Room) s m #[(.ref a1)] below meth c s₁ [] 0 0 := Stand.of_body Bd
  have e0 : s₁.heap = h0 := by rw [← hh, Bd.state]; rfl
  have N0 := Fr.nil n0
  refine own_enter (ef_rmAl m a1) ?_
  refine own_st (fun t_ k_ => XS.aloadN X0.here hx rfl (hb hby d21_0) rfl rfl k_) ?_
  show own_Go p e below s₁ (mkF m 1 #[.val (.ref a1)] [(.ref a1)]) _
  obtain ⟨T1, X1, e1, st1⟩ := getF X0 hx hZ hown (host := "") (Or.inl (own_w hw 78 rfl)) Via.refl e0 pF_count_a1 (g := (mkF m 1 #[.val (.ref a1)] [(.ref a1)])) rfl rfl (hb hby d21_1)
  refine own_st st1 ?_
  show own_Go p e below T1 (mkF m 4 #[.val (.ref a1)] [(.int k)]) _
  obtain ⟨fs, hr, hrun, hended, hW, hsame⟩ := X1.leave (v := some (.int k)) (fun h => by rw [Bd.returns] at h; cases h)
  refine own_fin (own_retI X1 hx Bd.returns (hb hby d21_4) hr) ⟨hrun, hended, _, _, rfl, ?_, ⟨_, rfl⟩, hW, hsame.mono (by decide) (by decide)⟩
  show Q_rmAl Z a1 k h0 n0 _ T1.heap _
  rw [e1]
  exact ⟨rfl, N0, rfl⟩
theorem d20_0 : decode jdk_67_method_93_code 0 = .ok (.aload_n 0, 1) := by decide +kernel
theorem d20_1 : decode jdk_67_method_93_code 1 = .ok (.invokespecial 343, 3) := by decide +kernel
theorem d20_4 : decode jdk_67_method_93_code 4 = .ok (.ireturn, 1) := by decide +kernel
theorem pn_20 : plainName "java/lang/StringBuilder" = true := by first | (simp [plainName, overriddenIn]; done) | decide +kernel
theorem ef_rmSl (m : MethodId) (x0 : Addr) : entryFrame m #[(.ref x0)] 1 = mkF m 0 #[.val (.ref x0)] [] := by first | (simp [entryFrame, mkF, argsToLocals, Value.category]; done) | rfl
def Q_rmSl (Z : State) (a1 : Addr) (k : Int32) (h0 : Heap) (n0 : Nat) (v : Option Value) (h : Heap) (L : List Loc) : Prop := v = some (.int k) ∧ Fr n0 L ∧ h = h0
set_option maxRecDepth 65536 in
set_option maxHeartbeats 40000000 in
theorem rmSl (l : Launch) (Z : State) (a0 : Array Value) (hw : ∀ d ∈ tables_1, d.before a0 Z = true) (ws : List Jvm.Cond) (a1 : Addr) (k : Int32) (h0 : Heap) (n0 : Nat) (Z0 : n0 ≤ h0.size) (pE_a1 : Exa Z h0 a1 "java/lang/StringBuilder") (pF_count_a1 : Fld Z h0 a1 "java/lang/AbstractStringBuilder" "count" "I" (.int k)) :
    MetFree l (⟨"java/lang/StringBuilder", "length", "()I"⟩ : MethodName) (head1 (Jvm.Cond.code (⟨"java/lang/StringBuilder", "length", "()I"⟩ : MethodName) jdk_67_method_93_code 1 (some .int) :: ws) ({ frames := 1, cells := 0, slots := 0, locals := 12 } : Room)) (fun a U => a = #[(.ref a1)] ∧ Z.Warmed39 U.vm ∧ U.heap = h0) (fun _ _ _ _ _ => True) (fun _ U o U' => ∃ v L, o = .returned v ∧ Q_rmSl Z a1 k h0 n0 v U'.heap L ∧ FrameEnd U o U' L ({ frames := 1, cells := 0, slots := 0, locals := 12 } : Room).cells ({ frames := 1, cells := 0, slots := 0, locals := 12 } : Room).slots) := by
  refine MetFree.of_bodySF (plainFor_of_name pn_20) hisR ?_
  intro p e s m args below meth c s₁ Bd hml0 hP hK
  obtain ⟨rfl, hZ, hh⟩ := hP
  have hx := Bd.exec
  have hby := Bd.bytes
  have hml : c.maxLocals = 1 := hml0
  have hown : s.vm.findClass "java/lang/StringBuilder" = some m.cls := findClass_of_methodNamed Bd.named
  have hnm := (name_of_methodNamed Bd.named Bd.method).1
  have X0 : Stand p l e ({ frames := 1, cells := 0, slots := 0, locals := 12 } : Room) s m #[(.ref a1)] below meth c s₁ [] 0 0 := Stand.of_body Bd
  have e0 : s₁.heap = h0 := by rw [← hh, Bd.state]; rfl
  have N0 := Fr.nil n0
  refine own_enter (ef_rmSl m a1) ?_
  refine own_st (fun t_ k_ => XS.aloadN X0.here hx rfl (hb hby d20_0) rfl rfl k_) ?_
  show own_Go p e below s₁ (mkF m 1 #[.val (.ref a1)] [(.ref a1)]) _
  obtain ⟨_, _, ⟨T1, L1, k1, n1⟩, -, X1, ⟨Lc1, hQ1, l1, y1, z1⟩, st1⟩ := superBack X0 hx hZ (y := (⟨"java/lang/AbstractStringBuilder", "length", "()I"⟩ : MethodName)) hown (own_w hw 133 rfl) (own_same (y := (⟨"java/lang/AbstractStringBuilder", "length", "()I"⟩ : MethodName)) (y' := (⟨"java/lang/AbstractStringBuilder", "getValue", "()[B"⟩ : MethodName)) (own_w hw 128 rfl) (own_w hw 125 rfl) rfl (by decide)) (own_w hw 129 rfl) (own_w hw 62 rfl) (by decide) (backOf (W := 0) (rmAl l Z a0 hw [] a1 k h0 n0 Z0 pE_a1 pF_count_a1) hZ (own_w hw 134 rfl) (own_w hw 47 rfl) (by decide) (by decide)) e0 (Ins.self pE_a1) (g := (mkF m 1 #[.val (.ref a1)] [(.ref a1)])) rfl (by rw [hml]; rfl) (own_w hw 134 rfl) (argsL := []) (rest := []) (lenOf pd___I rfl) rfl (by show 2 * 0 + _ ≤ _; exact Nat.le_of_eq rfl) (hb hby d20_1) (fun _ _ => ⟨rfl, e0, (by decide : 0 + 0 ≤ _), (by decide : 0 + 0 ≤ _)⟩)
  dsimp only [Pt.U, Pt.locs, Pt.cells, Pt.slots] at X1 l1 y1 z1 st1 hQ1
  try dsimp only [Nat.reduceAdd] at y1 z1
  rw [l1, y1, z1] at X1
  obtain ⟨rfl, Nq1, eH1⟩ := hQ1
  have N1 := Fr.app N0 Nq1
  refine own_tr st1 ?_
  show own_Go p e below T1 (mkF m 4 #[.val (.ref a1)] [(.int k)]) _
  obtain ⟨fs, hr, hrun, hended, hW, hsame⟩ := X1.leave (v := some (.int k)) (fun h => by rw [Bd.returns] at h; cases h)
  refine own_fin (own_retI X1 hx Bd.returns (hb hby d20_4) hr) ⟨hrun, hended, _, _, rfl, ?_, ⟨_, rfl⟩, hW, hsame.mono (by decide) (by decide)⟩
  show Q_rmSl Z a1 k h0 n0 _ T1.heap _
  rw [eH1]
  exact ⟨rfl, N1, rfl⟩
theorem d22_0 : decode jdk_68_method_68_code 0 = .ok (.getstatic 18, 3) := by decide +kernel
theorem d22_3 : decode jdk_68_method_68_code 3 = .ok (.ifCond .eq 14, 3) := by decide +kernel
theorem d22_6 : decode jdk_68_method_68_code 6 = .ok (.aload_n 0, 1) := by decide +kernel
theorem d22_7 : decode jdk_68_method_68_code 7 = .ok (.getfield 22, 3) := by decide +kernel
theorem d22_10 : decode jdk_68_method_68_code 10 = .ok (.ifCond .ne 7, 3) := by decide +kernel
theorem d22_13 : decode jdk_68_method_68_code 13 = .ok (.iconst 1, 1) := by decide +kernel
theorem d22_14 : decode jdk_68_method_68_code 14 = .ok (.goto 4, 3) := by decide +kernel
theorem d22_18 : decode jdk_68_method_68_code 18 = .ok (.ireturn, 1) := by decide +kernel
theorem pn_22 : plainName "java/lang/AbstractStringBuilder" = true := by first | (simp [plainName, overriddenIn]; done) | decide +kernel
theorem ef_rmAil (m : MethodId) (x0 : Addr) : entryFrame m #[(.ref x0)] 1 = mkF m 0 #[.val (.ref x0)] [] := by first | (simp [entryFrame, mkF, argsToLocals, Value.category]; done) | rfl
def Q_rmAil (Z : State) (a1 : Addr) (zc : Int32) (h0 : Heap) (n0 : Nat) (v : Option Value) (h : Heap) (L : List Loc) : Prop := v = some (.int (1 : Int32)) ∧ Fr n0 L ∧ h = h0
set_option maxRecDepth 65536 in
set_option maxHeartbeats 40000000 in
theorem rmAil (l : Launch) (Z : State) (a0 : Array Value) (hw : ∀ d ∈ tables_1, d.before a0 Z = true) (ws : List Jvm.Cond) (a1 : Addr) (zc : Int32) (h0 : Heap) (n0 : Nat) (Z0 : n0 ≤ h0.size) (pE_a1 : Exa Z h0 a1 "java/lang/StringBuilder") (pF_coder_a1 : Fld Z h0 a1 "java/lang/AbstractStringBuilder" "coder" "B" (.int (0 : Int32))) (pS_COMPACT_STRINGS : Sta Z Z.heap "java/lang/String" "COMPACT_STRINGS" "Z" (.int zc)) (pP5 : (¬ (zc = (0 : Int32)))) (pO : Old Z n0 h0) :
    MetFree l (⟨"java/lang/AbstractStringBuilder", "isLatin1", "()Z"⟩ : MethodName) (head1 (Jvm.Cond.code (⟨"java/lang/AbstractStringBuilder", "isLatin1", "()Z"⟩ : MethodName) jdk_68_method_68_code 1 (some .boolean) :: ws) ({ frames := 0, cells := 0, slots := 0, locals := 0 } : Room)) (fun a U => a = #[(.ref a1)] ∧ Z.Warmed39 U.vm ∧ U.heap = h0) (fun _ _ _ _ _ => True) (fun _ U o U' => ∃ v L, o = .returned v ∧ Q_rmAil Z a1 zc h0 n0 v U'.heap L ∧ FrameEnd U o U' L ({ frames := 0, cells := 0, slots := 0, locals := 0 } : Room).cells ({ frames := 0, cells := 0, slots := 0, locals := 0 } : Room).slots) := by
  refine MetFree.of_bodySF (plainFor_of_name pn_22) hisR ?_
  intro p e s m args below meth c s₁ Bd hml0 hP hK
  obtain ⟨rfl, hZ, hh⟩ := hP
  have hx := Bd.exec
  have hby := Bd.bytes
  have hml : c.maxLocals = 1 := hml0
  have hown : s.vm.findClass "java/lang/AbstractStringBuilder" = some m.cls := findClass_of_methodNamed Bd.named
  have hnm := (name_of_methodNamed Bd.named Bd.method).1
  have X0 : Stand p l e ({ frames := 0, cells := 0, slots := 0, locals := 0 } : Room) s m #[(.ref a1)] below meth c s₁ [] 0 0 := Stand.of_body Bd
  have e0 : s₁.heap = h0 := by rw [← hh, Bd.state]; rfl
  have N0 := Fr.nil n0
  refine own_enter (ef_rmAil m a1) ?_
  obtain ⟨T1, X1, e1, st1⟩ := getS2 X0 hx hZ hown (host := "") (Or.inl (own_w hw 50 rfl)) Via.refl e0 (pS_COMPACT_STRINGS.ext pO.2) (g := (mkF m 0 #[.val (.ref a1)] [])) rfl (hb hby d22_0)
  refine own_st st1 ?_
  show own_Go p e below T1 (mkF m 3 #[.val (.ref a1)] [(.int zc)]) _
  refine own_st (fun t_ k_ => XS.ifNo X1.here hx rfl (hb hby d22_3) rfl ((if0 _ _).trans (feq pP5).1) (XS.aloadN X1.here hx rfl (hb hby d22_6) rfl rfl k_)) ?_
  show own_Go p e below T1 (mkF m 7 #[.val (.ref a1)] [(.ref a1)]) _
  obtain ⟨T2, X2, e2, st2⟩ := getF X1 hx hZ hown (host := "") (Or.inl (own_w hw 53 rfl)) Via.refl e1 pF_coder_a1 (g := (mkF m 7 #[.val (.ref a1)] [(.ref a1)])) rfl rfl (hb hby d22_7)
  refine own_st st2 ?_
  show own_Go p e below T2 (mkF m 10 #[.val (.ref a1)] [(.int (0 : Int32))]) _
  refine own_st (fun t_ k_ => XS.ifNo X2.here hx rfl (hb hby d22_10) rfl (by decide) (XS.iconst X2.here hx rfl (hb hby d22_13) (XS.goto X2.here hx rfl (pc0 := 14) (pc' := 18) rfl (hb hby d22_14) (by decide) (by decide) k_))) ?_
  show own_Go p e below T2 (mkF m 18 #[.val (.ref a1)] [(.int (1 : Int32))]) _
  obtain ⟨fs, hr, hrun, hended, hW, hsame⟩ := X2.leave (v := some (.int (1 : Int32))) (fun h => by rw [Bd.returns] at h; cases h)
  refine own_fin (retN X2 hx (t := .boolean) Bd.returns (by simp) (hb hby d22_18) hr) ⟨hrun, hended, _, _, rfl, ?_, ⟨_, rfl⟩, hW, hsame.mono (by decide) (by decide)⟩
  show Q_rmAil Z a1 zc h0 n0 _ T2.heap _
  rw [e2]
  exact ⟨rfl, N0, rfl⟩
theorem d18_0 : decode jdk_42_method_150_code 0 = .ok (.aload_n 0, 1) := by decide +kernel
theorem d18_1 : decode jdk_42_method_150_code 1 = .ok (.invokespecial 1, 3) := by decide +kernel
theorem d18_4 : decode jdk_42_method_150_code 4 = .ok (.aload_n 1, 1) := by decide +kernel
theorem d18_5 : decode jdk_42_method_150_code 5 = .ok (.invokevirtual 552, 3) := by decide +kernel
theorem d18_8 : decode jdk_42_method_150_code 8 = .ok (.astore_n 3, 1) := by decide +kernel
theorem d18_9 : decode jdk_42_method_150_code 9 = .ok (.aload_n 1, 1) := by decide +kernel
theorem d18_10 : decode jdk_42_method_150_code 10 = .ok (.invokevirtual 549, 3) := by decide +kernel
theorem d18_13 : decode jdk_42_method_150_code 13 = .ok (.istore 4, 2) := by decide +kernel
theorem d18_15 : decode jdk_42_method_150_code 15 = .ok (.aload_n 1, 1) := by decide +kernel
theorem d18_16 : decode jdk_42_method_150_code 16 = .ok (.invokevirtual 1047, 3) := by decide +kernel
theorem d18_19 : decode jdk_42_method_150_code 19 = .ok (.ifCond .eq 22, 3) := by decide +kernel
theorem d18_22 : decode jdk_42_method_150_code 22 = .ok (.aload_n 0, 1) := by decide +kernel
theorem d18_23 : decode jdk_42_method_150_code 23 = .ok (.iconst 0, 1) := by decide +kernel
theorem d18_24 : decode jdk_42_method_150_code 24 = .ok (.putfield 15, 3) := by decide +kernel
theorem d18_27 : decode jdk_42_method_150_code 27 = .ok (.aload_n 0, 1) := by decide +kernel
theorem d18_28 : decode jdk_42_method_150_code 28 = .ok (.aload_n 3, 1) := by decide +kernel
theorem d18_29 : decode jdk_42_method_150_code 29 = .ok (.iconst 0, 1) := by decide +kernel
theorem d18_30 : decode jdk_42_method_150_code 30 = .ok (.iload 4, 2) := by decide +kernel
theorem d18_32 : decode jdk_42_method_150_code 32 = .ok (.invokestatic 54, 3) := by decide +kernel
theorem d18_35 : decode jdk_42_method_150_code 35 = .ok (.putfield 9, 3) := by decide +kernel
theorem d18_38 : decode jdk_42_method_150_code 38 = .ok (.goto 59, 3) := by decide +kernel
theorem d18_97 : decode jdk_42_method_150_code 97 = .ok (.return_, 1) := by decide +kernel
theorem pn_18 : plainName "java/lang/String" = true := by first | (simp [plainName, overriddenIn]; done) | decide +kernel
theorem pd____B : parseMethodDescriptor "()[B" = some ⟨[], some (.array .byte)⟩ := by decide +kernel
theorem pd___Z : parseMethodDescriptor "()Z" = some ⟨[], some .boolean⟩ := by decide +kernel
theorem ef_rmSiA (m : MethodId) (x0 : Addr) (x1 : Addr) : entryFrame m #[(.ref x0), (.ref x1), .null] 5 = mkF m 0 #[.val (.ref x0), .val (.ref x1), .val .null, .unset, .unset] [] := by first | (simp [entryFrame, mkF, argsToLocals, Value.category]; done) | rfl
def Q_rmSiA (Z : State) (s1 : Addr) (u1 : Value) (u2 : Value) (a1 : Addr) (va : Addr) (kva : ClassId) (cap : Int32) (k : Int32) (bs : List Value) (rest : List Value) (zc : Int32) (h0 : Heap) (n0 : Nat) (v : Option Value) (h : Heap) (L : List Loc) : Prop := ∃ b : Addr, ∃ kb : ClassId, v = none ∧ Fr n0 L ∧ Keep h0 h [s1] ∧ Exa Z h s1 "java/lang/String" ∧ Fld Z h s1 "java/lang/String" "value" "[B" (.ref b) ∧ Fld Z h s1 "java/lang/String" "coder" "B" (.int (0 : Int32)) ∧ Arv Z h b kb .byte k bs (.int 0) ∧ h0.size ≤ b ∧ n0 ≤ b
set_option maxRecDepth 65536 in
set_option maxHeartbeats 40000000 in
theorem rmSiA (l : Launch) (Z : State) (a0 : Array Value) (hw : ∀ d ∈ tables_1, d.before a0 Z = true) (ws : List Jvm.Cond) (s1 : Addr) (u1 : Value) (u2 : Value) (a1 : Addr) (va : Addr) (kva : ClassId) (cap : Int32) (k : Int32) (bs : List Value) (rest : List Value) (zc : Int32) (h0 : Heap) (n0 : Nat) (Z0 : n0 ≤ h0.size) (pE_s1 : Exa Z h0 s1 "java/lang/String") (pF_value_s1 : Fld Z h0 s1 "java/lang/String" "value" "[B" u1) (pF_coder_s1 : Fld Z h0 s1 "java/lang/String" "coder" "B" u2) (pG_s1 : n0 ≤ s1) (pE_a1 : Exa Z h0 a1 "java/lang/StringBuilder") (pF_value_a1 : Fld Z h0 a1 "java/lang/AbstractStringBuilder" "value" "[B" (.ref va)) (pF_coder_a1 : Fld Z h0 a1 "java/lang/AbstractStringBuilder" "coder" "B" (.int (0 : Int32))) (pF_count_a1 : Fld Z h0 a1 "java/lang/AbstractStringBuilder" "count" "I" (.int k)) (pV_va : Arv Z h0 va kva .byte cap (bs ++ rest) (.int 0)) (hk : (k.toInt = (bs.length : Int))) (hcap : (cap.toInt = ((bs.length + rest.length : Nat) : Int))) (hlt : (0 < rest.length)) (hbig : (bs.length ≤ 16)) (pS_COMPACT_STRINGS : Sta Z Z.heap "java/lang/String" "COMPACT_STRINGS" "Z" (.int zc)) (pP5 : (¬ (zc = (0 : Int32)))) (pO : Old Z n0 h0) :
    MetFree l (⟨"java/lang/String", "<init>", "(Ljava/lang/AbstractStringBuilder;Ljava/lang/Void;)V"⟩ : MethodName) (head1 (Jvm.Cond.code (⟨"java/lang/String", "<init>", "(Ljava/lang/AbstractStringBuilder;Ljava/lang/Void;)V"⟩ : MethodName) jdk_42_method_150_code 5 none :: ws) ({ frames := 3, cells := 1, slots := 16, locals := 151 } : Room)) (fun a U => a = #[(.ref s1), (.ref a1), .null] ∧ Z.Warmed39 U.vm ∧ U.heap = h0) (fun _ _ _ _ _ => True) (fun _ U o U' => ∃ v L, o = .returned v ∧ Q_rmSiA Z s1 u1 u2 a1 va kva cap k bs rest zc h0 n0 v U'.heap L ∧ FrameEnd U o U' L ({ frames := 3, cells := 1, slots := 16, locals := 151 } : Room).cells ({ frames := 3, cells := 1, slots := 16, locals := 151 } : Room).slots) := by
  refine MetFree.of_bodySF (plainFor_of_name pn_18) hisR ?_
  intro p e s m args below meth c s₁ Bd hml0 hP hK
  obtain ⟨rfl, hZ, hh⟩ := hP
  have hx := Bd.exec
  have hby := Bd.bytes
  have hml : c.maxLocals = 5 := hml0
  have hown : s.vm.findClass "java/lang/String" = some m.cls := findClass_of_methodNamed Bd.named
  have hnm := (name_of_methodNamed Bd.named Bd.method).1
  have X0 : Stand p l e ({ frames := 3, cells := 1, slots := 16, locals := 151 } : Room) s m #[(.ref s1), (.ref a1), .null] below meth c s₁ [] 0 0 := Stand.of_body Bd
  have e0 : s₁.heap = h0 := by rw [← hh, Bd.state]; rfl
  have N0 := Fr.nil n0
  refine own_enter (ef_rmSiA m s1 a1) ?_
  refine own_st (fun t_ k_ => XS.aloadN X0.here hx rfl (hb hby d18_0) rfl rfl k_) ?_
  show own_Go p e below s₁ (mkF m 1 #[.val (.ref s1), .val (.ref a1), .val .null, .unset, .unset] [(.ref s1)]) _
  obtain ⟨T1, X1, e1, st1⟩ := initO X0 hx hZ hown (own_w hw 121 rfl) (own_w hw 24 rfl) (own_w hw 25 rfl) e0 (g := (mkF m 1 #[.val (.ref s1), .val (.ref a1), .val .null, .unset, .unset] [(.ref s1)])) rfl (by rw [hml]; rfl) rfl (hb hby d18_1) (by decide) (W := 0) (by show 2 * 0 + _ ≤ _; exact Nat.le_of_eq rfl) (by decide)
  refine own_st st1 ?_
  show own_Go p e below T1 (mkF m 4 #[.val (.ref s1), .val (.ref a1), .val .null, .unset, .unset] []) _
  refine own_st (fun t_ k_ => XS.aloadN X1.here hx rfl (hb hby d18_4) rfl rfl k_) ?_
  show own_Go p e below T1 (mkF m 5 #[.val (.ref s1), .val (.ref a1), .val .null, .unset, .unset] [(.ref a1)]) _
  obtain ⟨cq2, kq2, qa2, qb2, qc2⟩ := isOf hZ e1 pE_a1
  obtain ⟨_, _, ⟨T2, L2, k2, n2⟩, -, X2, ⟨Lc2, hQ2, l2, y2, z2⟩, st2⟩ := X1.virtualBack hx (y := (⟨"java/lang/AbstractStringBuilder", "getValue", "()[B"⟩ : MethodName)) (z := (⟨"java/lang/AbstractStringBuilder", "getValue", "()[B"⟩ : MethodName)) hown (mvT hZ (own_w hw 122 rfl)) (mvT hZ (own_w hw 123 rfl)) (notFace_of_selects (args := #[]) (mvT hZ (own_w hw 125 rfl))) (mvT hZ (own_w hw 125 rfl)) (mvT hZ (own_w hw 124 rfl)) (by decide) (backOf (W := 0) (rmGv l Z a0 hw [] a1 va h0 n0 Z0 pE_a1 pF_value_a1) hZ (own_w hw 126 rfl) (own_w hw 47 rfl) (by decide) (by decide)) qa2 qc2 (g := (mkF m 5 #[.val (.ref s1), .val (.ref a1), .val .null, .unset, .unset] [(.ref a1)])) rfl (by rw [hml]; rfl) (Steps.refl _) (argsL := []) (rest := []) (lenOf pd____B rfl) rfl (by show 2 * 0 + _ ≤ _; exact Nat.le_of_eq rfl) (hb hby d18_5) (fun _ _ => ⟨rfl, e1, (by decide : 0 + 0 ≤ _), (by decide : 0 + 0 ≤ _)⟩)
  dsimp only [Pt.U, Pt.locs, Pt.cells, Pt.slots] at X2 l2 y2 z2 st2 hQ2
  try dsimp only [Nat.reduceAdd] at y2 z2
  rw [l2, y2, z2] at X2
  obtain ⟨rfl, Nq2, eH2⟩ := hQ2
  have N2 := Fr.app N0 Nq2
  refine own_tr st2 ?_
  show own_Go p e below T2 (mkF m 8 #[.val (.ref s1), .val (.ref a1), .val .null, .unset, .unset] [(.ref va)]) _
  refine own_st (fun t_ k_ => XS.astoreN X2.here hx rfl (hb hby d18_8) rfl rfl (l' := #[.val (.ref s1), .val (.ref a1), .val .null, .val (.ref va), .unset]) rfl (XS.aloadN X2.here hx rfl (hb hby d18_9) rfl rfl k_)) ?_
  show own_Go p e below T2 (mkF m 10 #[.val (.ref s1), .val (.ref a1), .val .null, .val (.ref va), .unset] [(.ref a1)]) _
  obtain ⟨cq3, kq3, qa3, qb3, qc3⟩ := isOf hZ eH2 pE_a1
  obtain ⟨_, _, ⟨T3, L3, k3, n3⟩, -, X3, ⟨Lc3, hQ3, l3, y3, z3⟩, st3⟩ := X2.virtualBack hx (y := (⟨"java/lang/AbstractStringBuilder", "length", "()I"⟩ : MethodName)) (z := (⟨"java/lang/StringBuilder", "length", "()I"⟩ : MethodName)) hown (mvT hZ (own_w hw 127 rfl)) (mvT hZ (own_w hw 128 rfl)) (own_nf (a0 := #[]) (y' := (⟨"java/lang/AbstractStringBuilder", "getValue", "()[B"⟩ : MethodName)) (mvT hZ (own_w hw 125 rfl)) rfl) (mvT hZ (own_w hw 130 rfl)) (mvT hZ (own_w hw 131 rfl)) (by decide) (backOf (W := 0) (rmSl l Z a0 hw [] a1 k h0 n0 Z0 pE_a1 pF_count_a1) hZ (own_w hw 132 rfl) (own_w hw 39 rfl) (by decide) (by decide)) qa3 qc3 (g := (mkF m 10 #[.val (.ref s1), .val (.ref a1), .val .null, .val (.ref va), .unset] [(.ref a1)])) rfl (by rw [hml]; rfl) (Steps.refl _) (argsL := []) (rest := []) (lenOf pd___I rfl) rfl (by show 2 * 0 + _ ≤ _; exact Nat.le_of_eq rfl) (hb hby d18_10) (fun _ _ => ⟨rfl, eH2, (by decide : 0 + 0 ≤ _), (by decide : 0 + 0 ≤ _)⟩)
  dsimp only [Pt.U, Pt.locs, Pt.cells, Pt.slots] at X3 l3 y3 z3 st3 hQ3
  try dsimp only [Nat.reduceAdd] at y3 z3
  rw [l3, y3, z3] at X3
  obtain ⟨rfl, Nq3, eH3⟩ := hQ3
  have N3 := Fr.app N2 Nq3
  refine own_tr st3 ?_
  show own_Go p e below T3 (mkF m 13 #[.val (.ref s1), .val (.ref a1), .val .null, .val (.ref va), .unset] [(.int k)]) _
  refine own_st (fun t_ k_ => XS.istore X3.here hx rfl (hb hby d18_13) rfl (l' := #[.val (.ref s1), .val (.ref a1), .val .null, .val (.ref va), .val (.int k)]) rfl (XS.aloadN X3.here hx rfl (hb hby d18_15) rfl rfl k_)) ?_
  show own_Go p e below T3 (mkF m 16 #[.val (.ref s1), .val (.ref a1), .val .null, .val (.ref va), .val (.int k)] [(.ref a1)]) _
  obtain ⟨cq4, kq4, qa4, qb4, qc4⟩ := isOf hZ eH3 pE_a1
  obtain ⟨_, _, ⟨T4, L4, k4, n4⟩, -, X4, ⟨Lc4, hQ4, l4, y4, z4⟩, st4⟩ := X3.virtualBack hx (y := (⟨"java/lang/AbstractStringBuilder", "isLatin1", "()Z"⟩ : MethodName)) (z := (⟨"java/lang/AbstractStringBuilder", "isLatin1", "()Z"⟩ : MethodName)) hown (mvT hZ (own_w hw 135 rfl)) (mvT hZ (own_w hw 136 rfl)) (notFace_of_selects (args := #[]) (mvT hZ (own_w hw 138 rfl))) (mvT hZ (own_w hw 138 rfl)) (mvT hZ (own_w hw 137 rfl)) (by decide) (backOf (W := 0) (rmAil l Z a0 hw [] a1 zc h0 n0 Z0 pE_a1 pF_coder_a1 pS_COMPACT_STRINGS pP5 pO) hZ (own_w hw 139 rfl) (own_w hw 47 rfl) (by decide) (by decide)) qa4 qc4 (g := (mkF m 16 #[.val (.ref s1), .val (.ref a1), .val .null, .val (.ref va), .val (.int k)] [(.ref a1)])) rfl (by rw [hml]; rfl) (Steps.refl _) (argsL := []) (rest := []) (lenOf pd___Z rfl) rfl (by show 2 * 0 + _ ≤ _; exact Nat.le_of_eq rfl) (hb hby d18_16) (fun _ _ => ⟨rfl, eH3, (by decide : 0 + 0 ≤ _), (by decide : 0 + 0 ≤ _)⟩)
  dsimp only [Pt.U, Pt.locs, Pt.cells, Pt.slots] at X4 l4 y4 z4 st4 hQ4
  try dsimp only [Nat.reduceAdd] at y4 z4
  rw [l4, y4, z4] at X4
  obtain ⟨rfl, Nq4, eH4⟩ := hQ4
  have N4 := Fr.app N3 Nq4
  refine own_tr st4 ?_
  show own_Go p e below T4 (mkF m 19 #[.val (.ref s1), .val (.ref a1), .val .null, .val (.ref va), .val (.int k)] [(.int (1 : Int32))]) _
  refine own_st (fun t_ k_ => XS.ifNo X4.here hx rfl (hb hby d18_19) rfl (by decide) (XS.aloadN X4.here hx rfl (hb hby d18_22) rfl rfl (XS.iconst X4.here hx rfl (hb hby d18_23) k_))) ?_
  show own_Go p e below T4 (mkF m 24 #[.val (.ref s1), .val (.ref a1), .val .null, .val (.ref va), .val (.int k)] [(.int (0 : Int32)), (.ref s1)]) _
  obtain ⟨T5, h5, X5, e5, W5, st5⟩ := putFN X4 hx hZ hown (own_w hw 77 rfl) Via.refl eH4 pF_coder_s1 pE_s1 (Or.inr ⟨(own_w hw 9 rfl), rfl, hnm⟩) (own_w hw 6 rfl) (ty := .byte) (v' := (.int (0 : Int32))) (by decide) rfl (by decide) (g := (mkF m 24 #[.val (.ref s1), .val (.ref a1), .val .null, .val (.ref va), .val (.int k)] [(.int (0 : Int32)), (.ref s1)])) rfl rfl (hb hby d18_24)
  have F5 := pF_coder_s1.same W5
  have K6 : Keep h0 h5 [s1] := (Keep.refl h0 [s1]).wr W5 (Or.inl (List.mem_of_getElem? (i := 0) rfl))
  have N5 := Fr.snoc X5 N4 pG_s1
  refine own_st st5 ?_
  show own_Go p e below T5 (mkF m 27 #[.val (.ref s1), .val (.ref a1), .val .null, .val (.ref va), .val (.int k)] []) _
  refine own_st (fun t_ k_ => XS.aloadN X5.here hx rfl (hb hby d18_27) rfl rfl (XS.aloadN X5.here hx rfl (hb hby d18_28) rfl rfl (XS.iconst X5.here hx rfl (hb hby d18_29) (XS.iload X5.here hx rfl (hb hby d18_30) rfl k_)))) ?_
  show own_Go p e below T5 (mkF m 32 #[.val (.ref s1), .val (.ref a1), .val .null, .val (.ref va), .val (.int k)] [(.int k), (.int (0 : Int32)), (.ref va), (.ref s1)]) _
  have f7 := (Nat.le_trans Z0 (Keep.of_wr W5).1)
  have f8 := (pV_va.other W5 (Ne.symm (Exa.neArv pE_s1 pV_va (own_w hw 6 rfl))))
  obtain ⟨_, _, ⟨T9, L9, k9, n9⟩, -, X9, ⟨Lc9, hQ9, l9, y9, z9⟩, st9⟩ := Jvm.LawKit.callS X5 hx (y := (⟨"java/util/Arrays", "copyOfRange", "([BII)[B"⟩ : MethodName)) hown (mvT hZ (own_w hw 140 rfl)) (mvT hZ (own_w hw 141 rfl)) (mvT hZ (own_w hw 142 rfl)) (mvT hZ (own_w hw 143 rfl)) (by decide) (backOf (W := 1) (rmCp l Z a0 hw [] va kva cap k bs rest h5 n0 f7 f8 hk hcap hlt hbig) hZ (own_w hw 143 rfl) (own_w hw 142 rfl) (by decide) (by decide)) (g := (mkF m 32 #[.val (.ref s1), .val (.ref a1), .val .null, .val (.ref va), .val (.int k)] [(.int k), (.int (0 : Int32)), (.ref va), (.ref s1)])) rfl (by rw [hml]; rfl) (argsL := [(.ref va), (.int (0 : Int32)), (.int k)]) (rest := [(.ref s1)]) (lenOf pd___BII__B rfl) rfl (by show 2 * 0 + _ ≤ _; exact Nat.le_of_eq rfl) (hb hby d18_32) (fun _ _ => ⟨rfl, e5, (by decide : 0 + 1 ≤ _), (by decide : 0 + 16 ≤ _)⟩)
  dsimp only [Pt.U, Pt.locs, Pt.cells, Pt.slots] at X9 l9 y9 z9 st9 hQ9
  try dsimp only [Nat.reduceAdd] at y9 z9
  rw [l9, y9, z9] at X9
  obtain ⟨b_9, kb_9, rfl, Nq9, Kq9, q9_0, q9_1, q9_2⟩ := hQ9
  have N9 := Fr.app N5 Nq9
  have K10 : Keep h0 T9.heap [s1] := K6.trans Kq9 all0
  have Bf11 : h0.size ≤ b_9 := Nat.le_trans K6.1 q9_1
  refine own_st st9 ?_
  show own_Go p e below T9 (mkF m 35 #[.val (.ref s1), .val (.ref a1), .val .null, .val (.ref va), .val (.int k)] [(.ref b_9), (.ref s1)]) _
  have f12 := ((pE_s1.wr W5).keep Kq9)
  have f13 := ((pF_value_s1.other W5 (Or.inr (slot_ne (Or.inr (own_w hw 8 rfl)) (Or.inr (own_w hw 9 rfl)) (by decide) (t := (.array .byte)) (t' := .byte) (by decide) (by decide)))).keep Kq9 nin0)
  obtain ⟨T14, h14, X14, e14, W14, st14⟩ := putF X9 hx hZ hown (host := "") (Or.inl (own_w hw 70 rfl)) Via.refl rfl f13 f12 (Or.inr ⟨(own_w hw 8 rfl), rfl, hnm⟩) (own_w hw 6 rfl) (ty := (.array .byte)) (by decide) rfl rfl (g := (mkF m 35 #[.val (.ref s1), .val (.ref a1), .val .null, .val (.ref va), .val (.int k)] [(.ref b_9), (.ref s1)])) rfl rfl (hb hby d18_35)
  have F14 := f13.same W14
  have K15 : Keep h0 h14 [s1] := K10.wr W14 (Or.inl (List.mem_of_getElem? (i := 0) rfl))
  have N14 := Fr.snoc X14 N9 pG_s1
  refine own_st st14 ?_
  show own_Go p e below T14 (mkF m 38 #[.val (.ref s1), .val (.ref a1), .val .null, .val (.ref va), .val (.int k)] []) _
  refine own_st (fun t_ k_ => XS.goto X14.here hx rfl (pc0 := 38) (pc' := 97) rfl (hb hby d18_38) (by decide) (by decide) k_) ?_
  show own_Go p e below T14 (mkF m 97 #[.val (.ref s1), .val (.ref a1), .val .null, .val (.ref va), .val (.int k)] []) _
  have f16 := (f12.wr W14)
  have f17 := ((F5.keep Kq9 nin0).other W14 (Or.inr (slot_ne (Or.inr (own_w hw 9 rfl)) (Or.inr (own_w hw 8 rfl)) (by decide) (t := .byte) (t' := (.array .byte)) (by decide) (by decide))))
  have f18 := (q9_0.other W14 (Ne.symm (Nat.ne_of_lt (Nat.lt_of_lt_of_le (pE_s1.wr W5).lt q9_1))))
  obtain ⟨fs, hr, hrun, hended, hW, hsame⟩ := X14.leave (v := none) (fun _ => rfl)
  refine own_fin (X14.returnOut hx Bd.returns (hb hby d18_97) hr) ⟨hrun, hended, _, _, rfl, ?_, ⟨_, rfl⟩, hW, hsame.mono (by decide) (by decide)⟩
  show Q_rmSiA Z s1 u1 u2 a1 va kva cap k bs rest zc h0 n0 _ T14.heap _
  rw [e14]
  exact ⟨b_9, kb_9, rfl, N14, K15, f16, F14, f17, f18, Bf11, q9_2⟩
theorem d17_0 : decode jdk_42_method_53_code 0 = .ok (.aload_n 0, 1) := by decide +kernel
theorem d17_1 : decode jdk_42_method_53_code 1 = .ok (.aload_n 1, 1) := by decide +kernel
theorem d17_2 : decode jdk_42_method_53_code 2 = .ok (.aconst_null, 1) := by decide +kernel
theorem d17_3 : decode jdk_42_method_53_code 3 = .ok (.invokespecial 489, 3) := by decide +kernel
theorem d17_6 : decode jdk_42_method_53_code 6 = .ok (.return_, 1) := by decide +kernel
theorem pn_17 : plainName "java/lang/String" = true := by first | (simp [plainName, overriddenIn]; done) | decide +kernel
theorem pd__Ljava_lang_AbstractStringBuilder_Ljava_lang_Void__V : parseMethodDescriptor "(Ljava/lang/AbstractStringBuilder;Ljava/lang/Void;)V" = some ⟨[(.object "java/lang/AbstractStringBuilder"), (.object "java/lang/Void")], none⟩ := by decide +kernel
theorem ef_rmSiS (m : MethodId) (x0 : Addr) (x1 : Addr) : entryFrame m #[(.ref x0), (.ref x1)] 2 = mkF m 0 #[.val (.ref x0), .val (.ref x1)] [] := by first | (simp [entryFrame, mkF, argsToLocals, Value.category]; done) | rfl
def Q_rmSiS (Z : State) (s1 : Addr) (u1 : Value) (u2 : Value) (a1 : Addr) (va : Addr) (kva : ClassId) (cap : Int32) (k : Int32) (bs : List Value) (rest : List Value) (zc : Int32) (h0 : Heap) (n0 : Nat) (v : Option Value) (h : Heap) (L : List Loc) : Prop := ∃ b : Addr, ∃ kb : ClassId, v = none ∧ Fr n0 L ∧ Keep h0 h [s1] ∧ Exa Z h s1 "java/lang/String" ∧ Fld Z h s1 "java/lang/String" "value" "[B" (.ref b) ∧ Fld Z h s1 "java/lang/String" "coder" "B" (.int (0 : Int32)) ∧ Arv Z h b kb .byte k bs (.int 0) ∧ h0.size ≤ b ∧ n0 ≤ b
set_option maxRecDepth 65536 in
set_option maxHeartbeats 40000000 in
theorem rmSiS (l : Launch) (Z : State) (a0 : Array Value) (hw : ∀ d ∈ tables_1, d.before a0 Z = true) (ws : List Jvm.Cond) (s1 : Addr) (u1 : Value) (u2 : Value) (a1 : Addr) (va : Addr) (kva : ClassId) (cap : Int32) (k : Int32) (bs : List Value) (rest : List Value) (zc : Int32) (h0 : Heap) (n0 : Nat) (Z0 : n0 ≤ h0.size) (pE_s1 : Exa Z h0 s1 "java/lang/String") (pF_value_s1 : Fld Z h0 s1 "java/lang/String" "value" "[B" u1) (pF_coder_s1 : Fld Z h0 s1 "java/lang/String" "coder" "B" u2) (pG_s1 : n0 ≤ s1) (pE_a1 : Exa Z h0 a1 "java/lang/StringBuilder") (pF_value_a1 : Fld Z h0 a1 "java/lang/AbstractStringBuilder" "value" "[B" (.ref va)) (pF_coder_a1 : Fld Z h0 a1 "java/lang/AbstractStringBuilder" "coder" "B" (.int (0 : Int32))) (pF_count_a1 : Fld Z h0 a1 "java/lang/AbstractStringBuilder" "count" "I" (.int k)) (pV_va : Arv Z h0 va kva .byte cap (bs ++ rest) (.int 0)) (hk : (k.toInt = (bs.length : Int))) (hcap : (cap.toInt = ((bs.length + rest.length : Nat) : Int))) (hlt : (0 < rest.length)) (hbig : (bs.length ≤ 16)) (pS_COMPACT_STRINGS : Sta Z Z.heap "java/lang/String" "COMPACT_STRINGS" "Z" (.int zc)) (pP5 : (¬ (zc = (0 : Int32)))) (pO : Old Z n0 h0) :
    MetFree l (⟨"java/lang/String", "<init>", "(Ljava/lang/StringBuilder;)V"⟩ : MethodName) (head1 (Jvm.Cond.code (⟨"java/lang/String", "<init>", "(Ljava/lang/StringBuilder;)V"⟩ : MethodName) jdk_42_method_53_code 2 none :: ws) ({ frames := 4, cells := 1, slots := 16, locals := 167 } : Room)) (fun a U => a = #[(.ref s1), (.ref a1)] ∧ Z.Warmed39 U.vm ∧ U.heap = h0) (fun _ _ _ _ _ => True) (fun _ U o U' => ∃ v L, o = .returned v ∧ Q_rmSiS Z s1 u1 u2 a1 va kva cap k bs rest zc h0 n0 v U'.heap L ∧ FrameEnd U o U' L ({ frames := 4, cells := 1, slots := 16, locals := 167 } : Room).cells ({ frames := 4, cells := 1, slots := 16, locals := 167 } : Room).slots) := by
  refine MetFree.of_bodySF (plainFor_of_name pn_17) hisR ?_
  intro p e s m args below meth c s₁ Bd hml0 hP hK
  obtain ⟨rfl, hZ, hh⟩ := hP
  have hx := Bd.exec
  have hby := Bd.bytes
  have hml : c.maxLocals = 2 := hml0
  have hown : s.vm.findClass "java/lang/String" = some m.cls := findClass_of_methodNamed Bd.named
  have hnm := (name_of_methodNamed Bd.named Bd.method).1
  have X0 : Stand p l e ({ frames := 4, cells := 1, slots := 16, locals := 167 } : Room) s m #[(.ref s1), (.ref a1)] below meth c s₁ [] 0 0 := Stand.of_body Bd
  have e0 : s₁.heap = h0 := by rw [← hh, Bd.state]; rfl
  have N0 := Fr.nil n0
  refine own_enter (ef_rmSiS m s1 a1) ?_
  refine own_st (fun t_ k_ => XS.aloadN X0.here hx rfl (hb hby d17_0) rfl rfl (XS.aloadN X0.here hx rfl (hb hby d17_1) rfl rfl (XS.aconstNull X0.here hx rfl (hb hby d17_2) k_))) ?_
  show own_Go p e below s₁ (mkF m 3 #[.val (.ref s1), .val (.ref a1)] [.null, (.ref a1), (.ref s1)]) _
  obtain ⟨_, _, ⟨T1, L1, k1, n1⟩, -, X1, ⟨Lc1, hQ1, l1, y1, z1⟩, st1⟩ := X0.specialBack hx (y := (⟨"java/lang/String", "<init>", "(Ljava/lang/AbstractStringBuilder;Ljava/lang/Void;)V"⟩ : MethodName)) rfl hown (mvT hZ (own_w hw 118 rfl)) (mvT hZ (own_w hw 119 rfl)) (mvT hZ (own_w hw 120 rfl)) (by decide) (backOf (W := 0) (rmSiA l Z a0 hw [] s1 u1 u2 a1 va kva cap k bs rest zc h0 n0 Z0 pE_s1 pF_value_s1 pF_coder_s1 pG_s1 pE_a1 pF_value_a1 pF_coder_a1 pF_count_a1 pV_va hk hcap hlt hbig pS_COMPACT_STRINGS pP5 pO) hZ (own_w hw 120 rfl) (own_w hw 5 rfl) (by decide) (by decide)) (g := (mkF m 3 #[.val (.ref s1), .val (.ref a1)] [.null, (.ref a1), (.ref s1)])) rfl (by rw [hml]; rfl) (Steps.refl _) (a := s1) (argsL := [(.ref a1), .null]) (rest := []) (lenOf pd__Ljava_lang_AbstractStringBuilder_Ljava_lang_Void__V rfl) rfl (by show 2 * 0 + _ ≤ _; exact Nat.le_of_eq rfl) (hb hby d17_3) (fun _ _ => ⟨rfl, e0, (by decide : 0 + 1 ≤ _), (by decide : 0 + 16 ≤ _)⟩)
  dsimp only [Pt.U, Pt.locs, Pt.cells, Pt.slots] at X1 l1 y1 z1 st1 hQ1
  try dsimp only [Nat.reduceAdd] at y1 z1
  rw [l1, y1, z1] at X1
  obtain ⟨b_1, kb_1, rfl, Nq1, Kq1, q1_0, q1_1, q1_2, q1_3, q1_4, q1_5⟩ := hQ1
  have N1 := Fr.app N0 Nq1
  have K2 : Keep h0 T1.heap [s1] := (Keep.refl h0 [s1]).trans Kq1 (allS (Or.inl (List.mem_of_getElem? (i := 0) rfl)) all0)
  have Bf3 : h0.size ≤ b_1 := Nat.le_trans (Keep.refl h0 [s1]).1 q1_4
  refine own_tr st1 ?_
  show own_Go p e below T1 (mkF m 6 #[.val (.ref s1), .val (.ref a1)] []) _
  obtain ⟨fs, hr, hrun, hended, hW, hsame⟩ := X1.leave (v := none) (fun _ => rfl)
  refine own_fin (X1.returnOut hx Bd.returns (hb hby d17_6) hr) ⟨hrun, hended, _, _, rfl, ?_, ⟨_, rfl⟩, hW, hsame.mono (by decide) (by decide)⟩
  show Q_rmSiS Z s1 u1 u2 a1 va kva cap k bs rest zc h0 n0 _ T1.heap _
  exact ⟨b_1, kb_1, rfl, N1, K2, q1_0, q1_1, q1_2, q1_3, Bf3, q1_5⟩
theorem d16_0 : decode jdk_67_method_42_code 0 = .ok (.new 18, 3) := by decide +kernel
theorem d16_3 : decode jdk_67_method_42_code 3 = .ok (.dup, 1) := by decide +kernel
theorem d16_4 : decode jdk_67_method_42_code 4 = .ok (.aload_n 0, 1) := by decide +kernel
theorem d16_5 : decode jdk_67_method_42_code 5 = .ok (.invokespecial 137, 3) := by decide +kernel
theorem d16_8 : decode jdk_67_method_42_code 8 = .ok (.areturn, 1) := by decide +kernel
theorem pn_16 : plainName "java/lang/StringBuilder" = true := by first | (simp [plainName, overriddenIn]; done) | decide +kernel
theorem pd__Ljava_lang_StringBuilder__V : parseMethodDescriptor "(Ljava/lang/StringBuilder;)V" = some ⟨[(.object "java/lang/StringBuilder")], none⟩ := by decide +kernel
theorem ef_rmTs (m : MethodId) (x0 : Addr) : entryFrame m #[(.ref x0)] 1 = mkF m 0 #[.val (.ref x0)] [] := by first | (simp [entryFrame, mkF, argsToLocals, Value.category]; done) | rfl
def Q_rmTs (Z : State) (a1 : Addr) (va : Addr) (kva : ClassId) (cap : Int32) (k : Int32) (bs : List Value) (rest : List Value) (zc : Int32) (h0 : Heap) (n0 : Nat) (v : Option Value) (h : Heap) (L : List Loc) : Prop := ∃ y : Addr, ∃ b : Addr, ∃ kb : ClassId, v = some (.ref y) ∧ Fr n0 L ∧ Keep h0 h [] ∧ Exa Z h y "java/lang/String" ∧ Fld Z h y "java/lang/String" "value" "[B" (.ref b) ∧ Fld Z h y "java/lang/String" "coder" "B" (.int (0 : Int32)) ∧ Arv Z h b kb .byte k bs (.int 0) ∧ h0.size ≤ b ∧ n0 ≤ b
set_option maxRecDepth 65536 in
set_option maxHeartbeats 40000000 in
theorem rmTs (l : Launch) (Z : State) (a0 : Array Value) (hw : ∀ d ∈ tables_1, d.before a0 Z = true) (ws : List Jvm.Cond) (a1 : Addr) (va : Addr) (kva : ClassId) (cap : Int32) (k : Int32) (bs : List Value) (rest : List Value) (zc : Int32) (h0 : Heap) (n0 : Nat) (Z0 : n0 ≤ h0.size) (pE_a1 : Exa Z h0 a1 "java/lang/StringBuilder") (pF_value_a1 : Fld Z h0 a1 "java/lang/AbstractStringBuilder" "value" "[B" (.ref va)) (pF_coder_a1 : Fld Z h0 a1 "java/lang/AbstractStringBuilder" "coder" "B" (.int (0 : Int32))) (pF_count_a1 : Fld Z h0 a1 "java/lang/AbstractStringBuilder" "count" "I" (.int k)) (pV_va : Arv Z h0 va kva .byte cap (bs ++ rest) (.int 0)) (hk : (k.toInt = (bs.length : Int))) (hcap : (cap.toInt = ((bs.length + rest.length : Nat) : Int))) (hlt : (0 < rest.length)) (hbig : (bs.length ≤ 16)) (pS_COMPACT_STRINGS : Sta Z Z.heap "java/lang/String" "COMPACT_STRINGS" "Z" (.int zc)) (pP5 : (¬ (zc = (0 : Int32)))) (pO : Old Z n0 h0) :
    MetFree l (⟨"java/lang/StringBuilder", "toString", "()Ljava/lang/String;"⟩ : MethodName) (head1 (Jvm.Cond.code (⟨"java/lang/StringBuilder", "toString", "()Ljava/lang/String;"⟩ : MethodName) jdk_67_method_42_code 1 (some (.object "java/lang/String")) :: ws) ({ frames := 5, cells := 2, slots := 20, locals := 181 } : Room)) (fun a U => a = #[(.ref a1)] ∧ Z.Warmed39 U.vm ∧ U.heap = h0) (fun _ _ _ _ _ => True) (fun _ U o U' => ∃ v L, o = .returned v ∧ Q_rmTs Z a1 va kva cap k bs rest zc h0 n0 v U'.heap L ∧ FrameEnd U o U' L ({ frames := 5, cells := 2, slots := 20, locals := 181 } : Room).cells ({ frames := 5, cells := 2, slots := 20, locals := 181 } : Room).slots) := by
  refine MetFree.of_bodySF (plainFor_of_name pn_16) hisR ?_
  intro p e s m args below meth c s₁ Bd hml0 hP hK
  obtain ⟨rfl, hZ, hh⟩ := hP
  have hx := Bd.exec
  have hby := Bd.bytes
  have hml : c.maxLocals = 1 := hml0
  have hown : s.vm.findClass "java/lang/StringBuilder" = some m.cls := findClass_of_methodNamed Bd.named
  have hnm := (name_of_methodNamed Bd.named Bd.method).1
  have X0 : Stand p l e ({ frames := 5, cells := 2, slots := 20, locals := 181 } : Room) s m #[(.ref a1)] below meth c s₁ [] 0 0 := Stand.of_body Bd
  have e0 : s₁.heap = h0 := by rw [← hh, Bd.state]; rfl
  have N0 := Fr.nil n0
  refine own_enter (ef_rmTs m a1) ?_
  obtain ⟨T1, h1, X1, e1, E1, A1, D1, -, st1⟩ := newO X0 hx hZ hown (own_w hw 113 rfl) (own_w hw 6 rfl) (own_w hw 5 rfl) e0 (g := (mkF m 0 #[.val (.ref a1)] [])) rfl (hb hby d16_0) (by decide) (by decide)
  obtain ⟨b1, g1⟩ : ∃ z, z = h0.size := ⟨_, rfl⟩
  rw [← g1] at A1 D1 st1
  have G1 : n0 ≤ b1 := Nat.le_trans Z0 (Nat.le_of_eq g1.symm)
  have B1 : h0.size ≤ b1 := Nat.le_trans (Keep.refl h0 []).1 (Nat.le_of_eq g1.symm)
  have K2 : Keep h0 h1 [] := (Keep.refl h0 []).ext E1
  have D1_value : Fld Z h1 b1 "java/lang/String" "value" "[B" .null := D1 (Or.inr (own_w hw 8 rfl)) (ty := (.array .byte)) (by decide)
  have D1_coder : Fld Z h1 b1 "java/lang/String" "coder" "B" (.int (0 : Int32)) := D1 (Or.inr (own_w hw 9 rfl)) (ty := .byte) (by decide)
  refine own_st st1 ?_
  show own_Go p e below T1 (mkF m 3 #[.val (.ref a1)] [(.ref b1)]) _
  refine own_st (fun t_ k_ => XS.dup X1.here hx rfl (hb hby d16_3) rfl rfl (XS.aloadN X1.here hx rfl (hb hby d16_4) rfl rfl k_)) ?_
  show own_Go p e below T1 (mkF m 5 #[.val (.ref a1)] [(.ref a1), (.ref b1), (.ref b1)]) _
  have f3 := (Nat.le_trans Z0 E1.1)
  have f4 := (pE_a1.ext E1)
  have f5 := (pF_value_a1.ext E1)
  have f6 := (pF_coder_a1.ext E1)
  have f7 := (pF_count_a1.ext E1)
  have f8 := (pV_va.ext E1)
  have f9 := (pO.ext E1)
  obtain ⟨_, _, ⟨T10, L10, k10, n10⟩, -, X10, ⟨Lc10, hQ10, l10, y10, z10⟩, st10⟩ := X1.specialBack hx (y := (⟨"java/lang/String", "<init>", "(Ljava/lang/StringBuilder;)V"⟩ : MethodName)) rfl hown (mvT hZ (own_w hw 114 rfl)) (mvT hZ (own_w hw 115 rfl)) (mvT hZ (own_w hw 117 rfl)) (by decide) (backOf (W := 1) (rmSiS l Z a0 hw [] b1 .null ((.int (0 : Int32))) a1 va kva cap k bs rest zc h1 n0 f3 A1 D1_value D1_coder G1 f4 f5 f6 f7 f8 hk hcap hlt hbig pS_COMPACT_STRINGS pP5 f9) hZ (own_w hw 117 rfl) (own_w hw 5 rfl) (by decide) (by decide)) (g := (mkF m 5 #[.val (.ref a1)] [(.ref a1), (.ref b1), (.ref b1)])) rfl (by rw [hml]; rfl) (Steps.refl _) (a := b1) (argsL := [(.ref a1)]) (rest := [(.ref b1)]) (lenOf pd__Ljava_lang_StringBuilder__V rfl) rfl (by show 2 * 0 + _ ≤ _; exact Nat.le_of_eq rfl) (hb hby d16_5) (fun _ _ => ⟨rfl, e1, (by decide : 1 + 1 ≤ _), (by decide : 4 + 16 ≤ _)⟩)
  dsimp only [Pt.U, Pt.locs, Pt.cells, Pt.slots] at X10 l10 y10 z10 st10 hQ10
  try dsimp only [Nat.reduceAdd] at y10 z10
  rw [l10, y10, z10] at X10
  obtain ⟨b_10, kb_10, rfl, Nq10, Kq10, q10_0, q10_1, q10_2, q10_3, q10_4, q10_5⟩ := hQ10
  have N10 := Fr.app N0 Nq10
  have K11 : Keep h0 T10.heap [] := K2.trans Kq10 (allS (Or.inr B1) all0)
  have Bf12 : h0.size ≤ b_10 := Nat.le_trans K2.1 q10_4
  refine own_tr st10 ?_
  show own_Go p e below T10 (mkF m 8 #[.val (.ref a1)] [(.ref b1)]) _
  obtain ⟨fs, hr, hrun, hended, hW, hsame⟩ := X10.leave (v := some (.ref b1)) (fun h => by rw [Bd.returns] at h; cases h)
  refine own_fin (own_retR X10 hx rfl Bd.returns rfl (hb hby d16_8) hr) ⟨hrun, hended, _, _, rfl, ?_, ⟨_, rfl⟩, hW, hsame.mono (by decide) (by decide)⟩
  show Q_rmTs Z a1 va kva cap k bs rest zc h0 n0 _ T10.heap _
  exact ⟨b1, b_10, kb_10, rfl, N10, K11, q10_0, q10_1, q10_2, q10_3, Bf12, q10_5⟩
theorem d40_0 : decode jdk_43_method_3_code 0 = .ok (.iload_n 0, 1) := by decide +kernel
theorem d40_1 : decode jdk_43_method_3_code 1 = .ok (.sipush 255, 3) := by decide +kernel
theorem d40_4 : decode jdk_43_method_3_code 4 = .ok (.if_icmp .gt 7, 3) := by decide +kernel
theorem d40_7 : decode jdk_43_method_3_code 7 = .ok (.iconst 1, 1) := by decide +kernel
theorem d40_8 : decode jdk_43_method_3_code 8 = .ok (.goto 4, 3) := by decide +kernel
theorem d40_12 : decode jdk_43_method_3_code 12 = .ok (.ireturn, 1) := by decide +kernel
theorem pn_40 : plainName "java/lang/StringLatin1" = true := by first | (simp [plainName, overriddenIn]; done) | decide +kernel
theorem ef_rmCe (m : MethodId) (x0 : Int32) : entryFrame m #[(.int x0)] 1 = mkF m 0 #[.val (.int x0)] [] := by first | (simp [entryFrame, mkF, argsToLocals, Value.category]; done) | rfl
def Q_rmCe (Z : State) (c0 : Int32) (h0 : Heap) (n0 : Nat) (v : Option Value) (h : Heap) (L : List Loc) : Prop := v = some (.int (1 : Int32)) ∧ Fr n0 L ∧ h = h0
set_option maxRecDepth 65536 in
set_option maxHeartbeats 40000000 in
theorem rmCe (l : Launch) (Z : State) (a0 : Array Value) (hw : ∀ d ∈ tables_1, d.before a0 Z = true) (ws : List Jvm.Cond) (c0 : Int32) (h0 : Heap) (n0 : Nat) (Z0 : n0 ≤ h0.size) (h255 : (¬ ((255 : Int32) < c0))) :
    MetFree l (⟨"java/lang/StringLatin1", "canEncode", "(C)Z"⟩ : MethodName) (head1 (Jvm.Cond.code (⟨"java/lang/StringLatin1", "canEncode", "(C)Z"⟩ : MethodName) jdk_43_method_3_code 1 (some .boolean) :: ws) ({ frames := 0, cells := 0, slots := 0, locals := 0 } : Room)) (fun a U => a = #[(.int c0)] ∧ Z.Warmed39 U.vm ∧ U.heap = h0) (fun _ _ _ _ _ => True) (fun _ U o U' => ∃ v L, o = .returned v ∧ Q_rmCe Z c0 h0 n0 v U'.heap L ∧ FrameEnd U o U' L ({ frames := 0, cells := 0, slots := 0, locals := 0 } : Room).cells ({ frames := 0, cells := 0, slots := 0, locals := 0 } : Room).slots) := by
  refine MetFree.of_bodySF (plainFor_of_name pn_40) hisR ?_
  intro p e s m args below meth c s₁ Bd hml0 hP hK
  obtain ⟨rfl, hZ, hh⟩ := hP
  have hx := Bd.exec
  have hby := Bd.bytes
  have hml : c.maxLocals = 1 := hml0
  have hown : s.vm.findClass "java/lang/StringLatin1" = some m.cls := findClass_of_methodNamed Bd.named
  have hnm := (name_of_methodNamed Bd.named Bd.method).1
  have X0 : Stand p l e ({ frames := 0, cells := 0, slots := 0, locals := 0 } : Room) s m #[(.int c0)] below meth c s₁ [] 0 0 := Stand.of_body Bd
  have e0 : s₁.heap = h0 := by rw [← hh, Bd.state]; rfl
  have N0 := Fr.nil n0
  refine own_enter (ef_rmCe m c0) ?_
  refine own_st (fun t_ k_ => XS.iloadN X0.here hx rfl (hb hby d40_0) rfl (XS.sipush X0.here hx rfl (hb hby d40_1) (XS.icmpNo X0.here hx rfl (hb hby d40_4) rfl (flt h255).2.2.1 (XS.iconst X0.here hx rfl (hb hby d40_7) (XS.goto X0.here hx rfl (pc0 := 8) (pc' := 12) rfl (hb hby d40_8) (by decide) (by decide) k_))))) ?_
  show own_Go p e below s₁ (mkF m 12 #[.val (.int c0)] [(.int (1 : Int32))]) _
  obtain ⟨fs, hr, hrun, hended, hW, hsame⟩ := X0.leave (v := some (.int (1 : Int32))) (fun h => by rw [Bd.returns] at h; cases h)
  refine own_fin (retN X0 hx (t := .boolean) Bd.returns (by simp) (hb hby d40_12) hr) ⟨hrun, hended, _, _, rfl, ?_, ⟨_, rfl⟩, hW, hsame.mono (by decide) (by decide)⟩
  show Q_rmCe Z c0 h0 n0 _ s₁.heap _
  rw [e0]
  exact ⟨rfl, N0, rfl⟩
theorem d41_0 : decode jdk_43_method_46_code 0 = .ok (.iconst 1, 1) := by decide +kernel
theorem d41_1 : decode jdk_43_method_46_code 1 = .ok (.newarray .byte, 2) := by decide +kernel
theorem d41_3 : decode jdk_43_method_46_code 3 = .ok (.dup, 1) := by decide +kernel
theorem d41_4 : decode jdk_43_method_46_code 4 = .ok (.iconst 0, 1) := by decide +kernel
theorem d41_5 : decode jdk_43_method_46_code 5 = .ok (.iload_n 0, 1) := by decide +kernel
theorem d41_6 : decode jdk_43_method_46_code 6 = .ok (.i2b, 1) := by decide +kernel
theorem d41_7 : decode jdk_43_method_46_code 7 = .ok (.bastore, 1) := by decide +kernel
theorem d41_8 : decode jdk_43_method_46_code 8 = .ok (.areturn, 1) := by decide +kernel
theorem pn_41 : plainName "java/lang/StringLatin1" = true := by first | (simp [plainName, overriddenIn]; done) | decide +kernel
theorem ef_rmTb (m : MethodId) (x0 : Int32) : entryFrame m #[(.int x0)] 1 = mkF m 0 #[.val (.int x0)] [] := by first | (simp [entryFrame, mkF, argsToLocals, Value.category]; done) | rfl
def Q_rmTb (Z : State) (c0 : Int32) (h0 : Heap) (n0 : Nat) (v : Option Value) (h : Heap) (L : List Loc) : Prop := ∃ t : Addr, ∃ kb : ClassId, v = some (.ref t) ∧ Fr n0 L ∧ Keep h0 h [] ∧ Arv Z h t kb .byte (1 : Int32) ((([c0] : List Int32).map (fun c : Int32 => c.toInt8.toInt32)).map Value.int) (.int 0) ∧ h0.size ≤ t ∧ n0 ≤ t
set_option maxRecDepth 65536 in
set_option maxHeartbeats 40000000 in
theorem rmTb (l : Launch) (Z : State) (a0 : Array Value) (hw : ∀ d ∈ tables_1, d.before a0 Z = true) (ws : List Jvm.Cond) (c0 : Int32) (h0 : Heap) (n0 : Nat) (Z0 : n0 ≤ h0.size) :
    MetFree l (⟨"java/lang/StringLatin1", "toBytes", "(C)[B"⟩ : MethodName) (head1 (Jvm.Cond.code (⟨"java/lang/StringLatin1", "toBytes", "(C)[B"⟩ : MethodName) jdk_43_method_46_code 1 (some (.array .byte)) :: ws) ({ frames := 0, cells := 1, slots := 1, locals := 0 } : Room)) (fun a U => a = #[(.int c0)] ∧ Z.Warmed39 U.vm ∧ U.heap = h0) (fun _ _ _ _ _ => True) (fun _ U o U' => ∃ v L, o = .returned v ∧ Q_rmTb Z c0 h0 n0 v U'.heap L ∧ FrameEnd U o U' L ({ frames := 0, cells := 1, slots := 1, locals := 0 } : Room).cells ({ frames := 0, cells := 1, slots := 1, locals := 0 } : Room).slots) := by
  refine MetFree.of_bodySF (plainFor_of_name pn_41) hisR ?_
  intro p e s m args below meth c s₁ Bd hml0 hP hK
  obtain ⟨rfl, hZ, hh⟩ := hP
  have hx := Bd.exec
  have hby := Bd.bytes
  have hml : c.maxLocals = 1 := hml0
  have hown : s.vm.findClass "java/lang/StringLatin1" = some m.cls := findClass_of_methodNamed Bd.named
  have hnm := (name_of_methodNamed Bd.named Bd.method).1
  have X0 : Stand p l e ({ frames := 0, cells := 1, slots := 1, locals := 0 } : Room) s m #[(.int c0)] below meth c s₁ [] 0 0 := Stand.of_body Bd
  have e0 : s₁.heap = h0 := by rw [← hh, Bd.state]; rfl
  have N0 := Fr.nil n0
  refine own_enter (ef_rmTb m c0) ?_
  refine own_st (fun t_ k_ => XS.iconst X0.here hx rfl (hb hby d41_0) k_) ?_
  show own_Go p e below s₁ (mkF m 1 #[.val (.int c0)] [(.int (1 : Int32))]) _
  obtain ⟨T1, h1, k1, X1, e1, E1, A1, st1⟩ := newP X0 hx hZ (own_w hw 7 rfl) e0 (g := (mkF m 1 #[.val (.int c0)] [(.int (1 : Int32))])) rfl (hb hby d41_1) rfl (by decide) (cap := 1) (by decide) (by decide) (by decide) (by decide)
  obtain ⟨b1, g1⟩ : ∃ z, z = h0.size := ⟨_, rfl⟩
  rw [← g1] at A1 st1
  have G1 : n0 ≤ b1 := Nat.le_trans Z0 (Nat.le_of_eq g1.symm)
  have B1 : h0.size ≤ b1 := Nat.le_trans (Keep.refl h0 []).1 (Nat.le_of_eq g1.symm)
  have K2 : Keep h0 h1 [] := (Keep.refl h0 []).ext E1
  have V1 : Arv Z h1 b1 k1 .byte (1 : Int32) [(.int (0 : Int32))] (.int (0 : Int32)) := (Arv.new A1 (by decide)).pad (pad_rep [] (.int (0 : Int32)) 1)
  refine own_st st1 ?_
  show own_Go p e below T1 (mkF m 3 #[.val (.int c0)] [(.ref b1)]) _
  refine own_st (fun t_ k_ => XS.dup X1.here hx rfl (hb hby d41_3) rfl rfl (XS.iconst X1.here hx rfl (hb hby d41_4) (XS.iloadN X1.here hx rfl (hb hby d41_5) rfl (XS.i2b X1.here hx rfl (hb hby d41_6) rfl k_)))) ?_
  show own_Go p e below T1 (mkF m 7 #[.val (.int c0)] [(.int (c0.toInt8.toInt32)), (.int (0 : Int32)), (.ref b1), (.ref b1)]) _
  obtain ⟨cl3, Ar3, q3, Sz3, Nn3, Hh3, Gg3⟩ := id V1
  have hin3 : ¬ ((0 : Int32) < 0 ∨ cl3.slots.size ≤ ((0 : Int32)).toNatClampNeg) := inb_of Sz3 ⟨by decide, by decide⟩
  obtain ⟨T4, h4, X4, e4, W4, st4⟩ := stB X1 hx hZ e1 Ar3 (j := (0 : Int32)) hin3 (g := (mkF m 7 #[.val (.int c0)] [(.int (c0.toInt8.toInt32)), (.int (0 : Int32)), (.ref b1), (.ref b1)])) rfl rfl (hb hby d41_7)
  have V4 : Arv Z h4 b1 k1 .byte (1 : Int32) [(.int (nar .byte (c0.toInt8.toInt32)))] (.int (0 : Int32)) := Arv.set Ar3 q3 Sz3 Nn3 Hh3 Gg3 (fits_nar_byte _) W4 0 rfl (Nat.le_of_ble_eq_true rfl)
  rw [own_narb] at V4
  have K5 : Keep h0 h4 [] := K2.wr W4 (Or.inr B1)
  have N4 := Fr.snoc X4 N0 G1
  refine own_st st4 ?_
  show own_Go p e below T4 (mkF m 8 #[.val (.int c0)] [(.ref b1)]) _
  obtain ⟨fs, hr, hrun, hended, hW, hsame⟩ := X4.leave (v := some (.ref b1)) (fun h => by rw [Bd.returns] at h; cases h)
  refine own_fin (own_retR X4 hx rfl Bd.returns rfl (hb hby d41_8) hr) ⟨hrun, hended, _, _, rfl, ?_, ⟨_, rfl⟩, hW, hsame.mono (by decide) (by decide)⟩
  show Q_rmTb Z c0 h0 n0 _ T4.heap _
  rw [e4]
  exact ⟨b1, k1, rfl, N4, K5, V4, B1, G1⟩
theorem d42_0 : decode jdk_42_method_151_code 0 = .ok (.aload_n 0, 1) := by decide +kernel
theorem d42_1 : decode jdk_42_method_151_code 1 = .ok (.invokespecial 1, 3) := by decide +kernel
theorem d42_4 : decode jdk_42_method_151_code 4 = .ok (.aload_n 0, 1) := by decide +kernel
theorem d42_5 : decode jdk_42_method_151_code 5 = .ok (.aload_n 1, 1) := by decide +kernel
theorem d42_6 : decode jdk_42_method_151_code 6 = .ok (.putfield 9, 3) := by decide +kernel
theorem d42_9 : decode jdk_42_method_151_code 9 = .ok (.aload_n 0, 1) := by decide +kernel
theorem d42_10 : decode jdk_42_method_151_code 10 = .ok (.iload_n 2, 1) := by decide +kernel
theorem d42_11 : decode jdk_42_method_151_code 11 = .ok (.putfield 15, 3) := by decide +kernel
theorem d42_14 : decode jdk_42_method_151_code 14 = .ok (.return_, 1) := by decide +kernel
theorem pn_42 : plainName "java/lang/String" = true := by first | (simp [plainName, overriddenIn]; done) | decide +kernel
theorem ef_rmIb (m : MethodId) (x0 : Addr) (x1 : Addr) (x2 : Int32) : entryFrame m #[(.ref x0), (.ref x1), (.int x2)] 3 = mkF m 0 #[.val (.ref x0), .val (.ref x1), .val (.int x2)] [] := by first | (simp [entryFrame, mkF, argsToLocals, Value.category]; done) | rfl
def Q_rmIb (Z : State) (a1 : Addr) (a2 : Addr) (u1 : Value) (u2 : Value) (h0 : Heap) (n0 : Nat) (v : Option Value) (h : Heap) (L : List Loc) : Prop := v = none ∧ Fr n0 L ∧ Keep h0 h [a1] ∧ Exa Z h a1 "java/lang/String" ∧ Fld Z h a1 "java/lang/String" "value" "[B" (.ref a2) ∧ Fld Z h a1 "java/lang/String" "coder" "B" (.int (0 : Int32))
set_option maxRecDepth 65536 in
set_option maxHeartbeats 40000000 in
theorem rmIb (l : Launch) (Z : State) (a0 : Array Value) (hw : ∀ d ∈ tables_1, d.before a0 Z = true) (ws : List Jvm.Cond) (a1 : Addr) (a2 : Addr) (u1 : Value) (u2 : Value) (h0 : Heap) (n0 : Nat) (Z0 : n0 ≤ h0.size) (pE_a1 : Exa Z h0 a1 "java/lang/String") (pF_value_a1 : Fld Z h0 a1 "java/lang/String" "value" "[B" u1) (pF_coder_a1 : Fld Z h0 a1 "java/lang/String" "coder" "B" u2) (pG_a1 : n0 ≤ a1) :
    MetFree l (⟨"java/lang/String", "<init>", "([BB)V"⟩ : MethodName) (head1 (Jvm.Cond.code (⟨"java/lang/String", "<init>", "([BB)V"⟩ : MethodName) jdk_42_method_151_code 3 none :: ws) ({ frames := 1, cells := 0, slots := 0, locals := 12 } : Room)) (fun a U => a = #[(.ref a1), (.ref a2), (.int (0 : Int32))] ∧ Z.Warmed39 U.vm ∧ U.heap = h0) (fun _ _ _ _ _ => True) (fun _ U o U' => ∃ v L, o = .returned v ∧ Q_rmIb Z a1 a2 u1 u2 h0 n0 v U'.heap L ∧ FrameEnd U o U' L ({ frames := 1, cells := 0, slots := 0, locals := 12 } : Room).cells ({ frames := 1, cells := 0, slots := 0, locals := 12 } : Room).slots) := by
  refine MetFree.of_bodySF (plainFor_of_name pn_42) hisR ?_
  intro p e s m args below meth c s₁ Bd hml0 hP hK
  obtain ⟨rfl, hZ, hh⟩ := hP
  have hx := Bd.exec
  have hby := Bd.bytes
  have hml : c.maxLocals = 3 := hml0
  have hown : s.vm.findClass "java/lang/String" = some m.cls := findClass_of_methodNamed Bd.named
  have hnm := (name_of_methodNamed Bd.named Bd.method).1
  have X0 : Stand p l e ({ frames := 1, cells := 0, slots := 0, locals := 12 } : Room) s m #[(.ref a1), (.ref a2), (.int (0 : Int32))] below meth c s₁ [] 0 0 := Stand.of_body Bd
  have e0 : s₁.heap = h0 := by rw [← hh, Bd.state]; rfl
  have N0 := Fr.nil n0
  refine own_enter (ef_rmIb m a1 a2 ((0 : Int32))) ?_
  refine own_st (fun t_ k_ => XS.aloadN X0.here hx rfl (hb hby d42_0) rfl rfl k_) ?_
  show own_Go p e below s₁ (mkF m 1 #[.val (.ref a1), .val (.ref a2), .val (.int (0 : Int32))] [(.ref a1)]) _
  obtain ⟨T1, X1, e1, st1⟩ := initO X0 hx hZ hown (own_w hw 121 rfl) (own_w hw 24 rfl) (own_w hw 25 rfl) e0 (g := (mkF m 1 #[.val (.ref a1), .val (.ref a2), .val (.int (0 : Int32))] [(.ref a1)])) rfl (by rw [hml]; rfl) rfl (hb hby d42_1) (by decide) (W := 0) (by show 2 * 0 + _ ≤ _; exact Nat.le_of_eq rfl) (by decide)
  refine own_st st1 ?_
  show own_Go p e below T1 (mkF m 4 #[.val (.ref a1), .val (.ref a2), .val (.int (0 : Int32))] []) _
  refine own_st (fun t_ k_ => XS.aloadN X1.here hx rfl (hb hby d42_4) rfl rfl (XS.aloadN X1.here hx rfl (hb hby d42_5) rfl rfl k_)) ?_
  show own_Go p e below T1 (mkF m 6 #[.val (.ref a1), .val (.ref a2), .val (.int (0 : Int32))] [(.ref a2), (.ref a1)]) _
  obtain ⟨T2, h2, X2, e2, W2, st2⟩ := putF X1 hx hZ hown (host := "") (Or.inl (own_w hw 70 rfl)) Via.refl e1 pF_value_a1 pE_a1 (Or.inr ⟨(own_w hw 8 rfl), rfl, hnm⟩) (own_w hw 6 rfl) (ty := (.array .byte)) (by decide) rfl rfl (g := (mkF m 6 #[.val (.ref a1), .val (.ref a2), .val (.int (0 : Int32))] [(.ref a2), (.ref a1)])) rfl rfl (hb hby d42_6)
  have F2 := pF_value_a1.same W2
  have K3 : Keep h0 h2 [a1] := (Keep.refl h0 [a1]).wr W2 (Or.inl (List.mem_of_getElem? (i := 0) rfl))
  have N2 := Fr.snoc X2 N0 pG_a1
  refine own_st st2 ?_
  show own_Go p e below T2 (mkF m 9 #[.val (.ref a1), .val (.ref a2), .val (.int (0 : Int32))] []) _
  refine own_st (fun t_ k_ => XS.aloadN X2.here hx rfl (hb hby d42_9) rfl rfl (XS.iloadN X2.here hx rfl (hb hby d42_10) rfl k_)) ?_
  show own_Go p e below T2 (mkF m 11 #[.val (.ref a1), .val (.ref a2), .val (.int (0 : Int32))] [(.int (0 : Int32)), (.ref a1)]) _
  have f4 := (pE_a1.wr W2)
  have f5 := (pF_coder_a1.other W2 (Or.inr (slot_ne (Or.inr (own_w hw 9 rfl)) (Or.inr (own_w hw 8 rfl)) (by decide) (t := .byte) (t' := (.array .byte)) (by decide) (by decide))))
  obtain ⟨T6, h6, X6, e6, W6, st6⟩ := putFN X2 hx hZ hown (own_w hw 77 rfl) Via.refl e2 f5 f4 (Or.inr ⟨(own_w hw 9 rfl), rfl, hnm⟩) (own_w hw 6 rfl) (ty := .byte) (v' := (.int (0 : Int32))) (by decide) rfl (by decide) (g := (mkF m 11 #[.val (.ref a1), .val (.ref a2), .val (.int (0 : Int32))] [(.int (0 : Int32)), (.ref a1)])) rfl rfl (hb hby d42_11)
  have F6 := f5.same W6
  have K7 : Keep h0 h6 [a1] := K3.wr W6 (Or.inl (List.mem_of_getElem? (i := 0) rfl))
  have N6 := Fr.snoc X6 N2 pG_a1
  refine own_st st6 ?_
  show own_Go p e below T6 (mkF m 14 #[.val (.ref a1), .val (.ref a2), .val (.int (0 : Int32))] []) _
  have f8 := (f4.wr W6)
  have f9 := (F2.other W6 (Or.inr (slot_ne (Or.inr (own_w hw 8 rfl)) (Or.inr (own_w hw 9 rfl)) (by decide) (t := (.array .byte)) (t' := .byte) (by decide) (by decide))))
  obtain ⟨fs, hr, hrun, hended, hW, hsame⟩ := X6.leave (v := none) (fun _ => rfl)
  refine own_fin (X6.returnOut hx Bd.returns (hb hby d42_14) hr) ⟨hrun, hended, _, _, rfl, ?_, ⟨_, rfl⟩, hW, hsame.mono (by decide) (by decide)⟩
  show Q_rmIb Z a1 a2 u1 u2 h0 n0 _ T6.heap _
  rw [e6]
  exact ⟨rfl, N6, K7, f8, f9, F6⟩
theorem d39_0 : decode jdk_42_method_139_code 0 = .ok (.getstatic 38, 3) := by decide +kernel
theorem d39_3 : decode jdk_42_method_139_code 3 = .ok (.ifCond .eq 23, 3) := by decide +kernel
theorem d39_6 : decode jdk_42_method_139_code 6 = .ok (.iload_n 0, 1) := by decide +kernel
theorem d39_7 : decode jdk_42_method_139_code 7 = .ok (.invokestatic 1015, 3) := by decide +kernel
theorem d39_10 : decode jdk_42_method_139_code 10 = .ok (.ifCond .eq 16, 3) := by decide +kernel
theorem d39_13 : decode jdk_42_method_139_code 13 = .ok (.new 10, 3) := by decide +kernel
theorem d39_16 : decode jdk_42_method_139_code 16 = .ok (.dup, 1) := by decide +kernel
theorem d39_17 : decode jdk_42_method_139_code 17 = .ok (.iload_n 0, 1) := by decide +kernel
theorem d39_18 : decode jdk_42_method_139_code 18 = .ok (.invokestatic 1018, 3) := by decide +kernel
theorem d39_21 : decode jdk_42_method_139_code 21 = .ok (.iconst 0, 1) := by decide +kernel
theorem d39_22 : decode jdk_42_method_139_code 22 = .ok (.invokespecial 209, 3) := by decide +kernel
theorem d39_25 : decode jdk_42_method_139_code 25 = .ok (.areturn, 1) := by decide +kernel
theorem pn_39 : plainName "java/lang/String" = true := by first | (simp [plainName, overriddenIn]; done) | decide +kernel
theorem pd__C_Z : parseMethodDescriptor "(C)Z" = some ⟨[.char], some .boolean⟩ := by decide +kernel
theorem pd__C__B : parseMethodDescriptor "(C)[B" = some ⟨[.char], some (.array .byte)⟩ := by decide +kernel
theorem pd___BB_V : parseMethodDescriptor "([BB)V" = some ⟨[(.array .byte), .byte], none⟩ := by decide +kernel
theorem ef_rmVo (m : MethodId) (x0 : Int32) : entryFrame m #[(.int x0)] 1 = mkF m 0 #[.val (.int x0)] [] := by first | (simp [entryFrame, mkF, argsToLocals, Value.category]; done) | rfl
def Q_rmVo (Z : State) (c0 : Int32) (zc : Int32) (h0 : Heap) (n0 : Nat) (v : Option Value) (h : Heap) (L : List Loc) : Prop := ∃ x : Addr, ∃ t : Addr, ∃ kb : ClassId, v = some (.ref x) ∧ Fr n0 L ∧ Keep h0 h [] ∧ Exa Z h x "java/lang/String" ∧ Fld Z h x "java/lang/String" "value" "[B" (.ref t) ∧ Fld Z h x "java/lang/String" "coder" "B" (.int (0 : Int32)) ∧ Arv Z h t kb .byte (1 : Int32) ((([c0] : List Int32).map (fun c : Int32 => c.toInt8.toInt32)).map Value.int) (.int 0)
set_option maxRecDepth 65536 in
set_option maxHeartbeats 40000000 in
theorem rmVo (l : Launch) (Z : State) (a0 : Array Value) (hw : ∀ d ∈ tables_1, d.before a0 Z = true) (ws : List Jvm.Cond) (c0 : Int32) (zc : Int32) (h0 : Heap) (n0 : Nat) (Z0 : n0 ≤ h0.size) (h255 : (¬ ((255 : Int32) < c0))) (pS_COMPACT_STRINGS : Sta Z Z.heap "java/lang/String" "COMPACT_STRINGS" "Z" (.int zc)) (pP5 : (¬ (zc = (0 : Int32)))) (pO : Old Z n0 h0) :
    MetFree l (⟨"java/lang/String", "valueOf", "(C)Ljava/lang/String;"⟩ : MethodName) (head1 (Jvm.Cond.code (⟨"java/lang/String", "valueOf", "(C)Ljava/lang/String;"⟩ : MethodName) jdk_42_method_139_code 1 (some (.object "java/lang/String")) :: ws) ({ frames := 2, cells := 2, slots := 5, locals := 27 } : Room)) (fun a U => a = #[(.int c0)] ∧ Z.Warmed39 U.vm ∧ U.heap = h0) (fun _ _ _ _ _ => True) (fun _ U o U' => ∃ v L, o = .returned v ∧ Q_rmVo Z c0 zc h0 n0 v U'.heap L ∧ FrameEnd U o U' L ({ frames := 2, cells := 2, slots := 5, locals := 27 } : Room).cells ({ frames := 2, cells := 2, slots := 5, locals := 27 } : Room).slots) := by
  refine MetFree.of_bodySF (plainFor_of_name pn_39) hisR ?_
  intro p e s m args below meth c s₁ Bd hml0 hP hK
  obtain ⟨rfl, hZ, hh⟩ := hP
  have hx := Bd.exec
  have hby := Bd.bytes
  have hml : c.maxLocals = 1 := hml0
  have hown : s.vm.findClass "java/lang/String" = some m.cls := findClass_of_methodNamed Bd.named
  have hnm := (name_of_methodNamed Bd.named Bd.method).1
  have X0 : Stand p l e ({ frames := 2, cells := 2, slots := 5, locals := 27 } : Room) s m #[(.int c0)] below meth c s₁ [] 0 0 := Stand.of_body Bd
  have e0 : s₁.heap = h0 := by rw [← hh, Bd.state]; rfl
  have N0 := Fr.nil n0
  refine own_enter (ef_rmVo m c0) ?_
  obtain ⟨T1, X1, e1, st1⟩ := getS2 X0 hx hZ hown (host := "") (Or.inl (own_w hw 76 rfl)) Via.refl e0 (pS_COMPACT_STRINGS.ext pO.2) (g := (mkF m 0 #[.val (.int c0)] [])) rfl (hb hby d39_0)
  refine own_st st1 ?_
  show own_Go p e below T1 (mkF m 3 #[.val (.int c0)] [(.int zc)]) _
  refine own_st (fun t_ k_ => XS.ifNo X1.here hx rfl (hb hby d39_3) rfl ((if0 _ _).trans (feq pP5).1) (XS.iloadN X1.here hx rfl (hb hby d39_6) rfl k_)) ?_
  show own_Go p e below T1 (mkF m 7 #[.val (.int c0)] [(.int c0)]) _
  obtain ⟨_, _, ⟨T2, L2, k2, n2⟩, -, X2, ⟨Lc2, hQ2, l2, y2, z2⟩, st2⟩ := Jvm.LawKit.callS X1 hx (y := (⟨"java/lang/StringLatin1", "canEncode", "(C)Z"⟩ : MethodName)) hown (mvT hZ (own_w hw 205 rfl)) (mvT hZ (own_w hw 206 rfl)) (mvT hZ (own_w hw 171 rfl)) (mvT hZ (own_w hw 207 rfl)) (by decide) (backOf (W := 0) (rmCe l Z a0 hw [] c0 h0 n0 Z0 h255) hZ (own_w hw 207 rfl) (own_w hw 171 rfl) (by decide) (by decide)) (g := (mkF m 7 #[.val (.int c0)] [(.int c0)])) rfl (by rw [hml]; rfl) (argsL := [(.int c0)]) (rest := []) (lenOf pd__C_Z rfl) rfl (by show 2 * 0 + _ ≤ _; exact Nat.le_of_eq rfl) (hb hby d39_7) (fun _ _ => ⟨rfl, e1, (by decide : 0 + 0 ≤ _), (by decide : 0 + 0 ≤ _)⟩)
  dsimp only [Pt.U, Pt.locs, Pt.cells, Pt.slots] at X2 l2 y2 z2 st2 hQ2
  try dsimp only [Nat.reduceAdd] at y2 z2
  rw [l2, y2, z2] at X2
  obtain ⟨rfl, Nq2, eH2⟩ := hQ2
  have N2 := Fr.app N0 Nq2
  refine own_st st2 ?_
  show own_Go p e below T2 (mkF m 10 #[.val (.int c0)] [(.int (1 : Int32))]) _
  refine own_st (fun t_ k_ => XS.ifNo X2.here hx rfl (hb hby d39_10) rfl (by decide) k_) ?_
  show own_Go p e below T2 (mkF m 13 #[.val (.int c0)] []) _
  obtain ⟨T3, h3, X3, e3, E3, A3, D3, -, st3⟩ := newO X2 hx hZ hown (own_w hw 208 rfl) (own_w hw 6 rfl) (own_w hw 5 rfl) eH2 (g := (mkF m 13 #[.val (.int c0)] [])) rfl (hb hby d39_13) (by decide) (by decide)
  obtain ⟨b3, g3⟩ : ∃ z, z = h0.size := ⟨_, rfl⟩
  rw [← g3] at A3 D3 st3
  have G3 : n0 ≤ b3 := Nat.le_trans Z0 (Nat.le_of_eq g3.symm)
  have B3 : h0.size ≤ b3 := Nat.le_trans (Keep.refl h0 []).1 (Nat.le_of_eq g3.symm)
  have K4 : Keep h0 h3 [] := (Keep.refl h0 []).ext E3
  have D3_value : Fld Z h3 b3 "java/lang/String" "value" "[B" .null := D3 (Or.inr (own_w hw 8 rfl)) (ty := (.array .byte)) (by decide)
  have D3_coder : Fld Z h3 b3 "java/lang/String" "coder" "B" (.int (0 : Int32)) := D3 (Or.inr (own_w hw 9 rfl)) (ty := .byte) (by decide)
  refine own_st st3 ?_
  show own_Go p e below T3 (mkF m 16 #[.val (.int c0)] [(.ref b3)]) _
  refine own_st (fun t_ k_ => XS.dup X3.here hx rfl (hb hby d39_16) rfl rfl (XS.iloadN X3.here hx rfl (hb hby d39_17) rfl k_)) ?_
  show own_Go p e below T3 (mkF m 18 #[.val (.int c0)] [(.int c0), (.ref b3), (.ref b3)]) _
  have f5 := (Nat.le_trans Z0 E3.1)
  obtain ⟨_, _, ⟨T6, L6, k6, n6⟩, -, X6, ⟨Lc6, hQ6, l6, y6, z6⟩, st6⟩ := Jvm.LawKit.callS X3 hx (y := (⟨"java/lang/StringLatin1", "toBytes", "(C)[B"⟩ : MethodName)) hown (mvT hZ (own_w hw 209 rfl)) (mvT hZ (own_w hw 210 rfl)) (mvT hZ (own_w hw 171 rfl)) (mvT hZ (own_w hw 211 rfl)) (by decide) (backOf (W := 2) (rmTb l Z a0 hw [] c0 h3 n0 f5 ) hZ (own_w hw 211 rfl) (own_w hw 171 rfl) (by decide) (by decide)) (g := (mkF m 18 #[.val (.int c0)] [(.int c0), (.ref b3), (.ref b3)])) rfl (by rw [hml]; rfl) (argsL := [(.int c0)]) (rest := [(.ref b3), (.ref b3)]) (lenOf pd__C__B rfl) rfl (by show 2 * 0 + _ ≤ _; exact Nat.le_of_eq rfl) (hb hby d39_18) (fun _ _ => ⟨rfl, e3, (by decide : 1 + 1 ≤ _), (by decide : 4 + 1 ≤ _)⟩)
  dsimp only [Pt.U, Pt.locs, Pt.cells, Pt.slots] at X6 l6 y6 z6 st6 hQ6
  try dsimp only [Nat.reduceAdd] at y6 z6
  rw [l6, y6, z6] at X6
  obtain ⟨t_6, kb_6, rfl, Nq6, Kq6, q6_0, q6_1, q6_2⟩ := hQ6
  have N6 := Fr.app N2 Nq6
  have K7 : Keep h0 T6.heap [] := K4.trans Kq6 all0
  have Bf8 : h0.size ≤ t_6 := Nat.le_trans K4.1 q6_1
  refine own_st st6 ?_
  show own_Go p e below T6 (mkF m 21 #[.val (.int c0)] [(.ref t_6), (.ref b3), (.ref b3)]) _
  refine own_st (fun t_ k_ => XS.iconst X6.here hx rfl (hb hby d39_21) k_) ?_
  show own_Go p e below T6 (mkF m 22 #[.val (.int c0)] [(.int (0 : Int32)), (.ref t_6), (.ref b3), (.ref b3)]) _
  have f9 := (Nat.le_trans f5 Kq6.1)
  have f10 := (A3.keep Kq6)
  have f11 := (D3_value.keep Kq6 nin0)
  have f12 := (D3_coder.keep Kq6 nin0)
  obtain ⟨_, _, ⟨T13, L13, k13, n13⟩, -, X13, ⟨Lc13, hQ13, l13, y13, z13⟩, st13⟩ := X6.specialBack hx (y := (⟨"java/lang/String", "<init>", "([BB)V"⟩ : MethodName)) rfl hown (mvT hZ (own_w hw 212 rfl)) (mvT hZ (own_w hw 213 rfl)) (mvT hZ (own_w hw 214 rfl)) (by decide) (backOf (W := 1) (rmIb l Z a0 hw [] b3 t_6 .null ((.int (0 : Int32))) T6.heap n0 f9 f10 f11 f12 G3) hZ (own_w hw 214 rfl) (own_w hw 5 rfl) (by decide) (by decide)) (g := (mkF m 22 #[.val (.int c0)] [(.int (0 : Int32)), (.ref t_6), (.ref b3), (.ref b3)])) rfl (by rw [hml]; rfl) (Steps.refl _) (a := b3) (argsL := [(.ref t_6), (.int (0 : Int32))]) (rest := [(.ref b3)]) (lenOf pd___BB_V rfl) rfl (by show 2 * 0 + _ ≤ _; exact Nat.le_of_eq rfl) (hb hby d39_22) (fun _ _ => ⟨rfl, rfl, (by decide : 2 + 0 ≤ _), (by decide : 5 + 0 ≤ _)⟩)
  dsimp only [Pt.U, Pt.locs, Pt.cells, Pt.slots] at X13 l13 y13 z13 st13 hQ13
  try dsimp only [Nat.reduceAdd] at y13 z13
  rw [l13, y13, z13] at X13
  obtain ⟨rfl, Nq13, Kq13, q13_0, q13_1, q13_2⟩ := hQ13
  have N13 := Fr.app N6 Nq13
  have K14 : Keep h0 T13.heap [] := K7.trans Kq13 (allS (Or.inr B3) all0)
  refine own_tr st13 ?_
  show own_Go p e below T13 (mkF m 25 #[.val (.int c0)] [(.ref b3)]) _
  have f15 := (q6_0.keep Kq13 (ninS (Ne.symm (Nat.ne_of_lt (Nat.lt_of_lt_of_le A3.lt q6_1))) nin0))
  obtain ⟨fs, hr, hrun, hended, hW, hsame⟩ := X13.leave (v := some (.ref b3)) (fun h => by rw [Bd.returns] at h; cases h)
  refine own_fin (own_retR X13 hx rfl Bd.returns rfl (hb hby d39_25) hr) ⟨hrun, hended, _, _, rfl, ?_, ⟨_, rfl⟩, hW, hsame.mono (by decide) (by decide)⟩
  show Q_rmVo Z c0 zc h0 n0 _ T13.heap _
  exact ⟨b3, t_6, kb_6, rfl, N13, K14, q13_0, q13_1, q13_2, f15⟩
theorem d1_0 : decode method_3_code 0 = .ok (.iload_n 0, 1) := by decide +kernel
theorem d1_1 : decode method_3_code 1 = .ok (.sipush 255, 3) := by decide +kernel
theorem d1_4 : decode method_3_code 4 = .ok (.iand, 1) := by decide +kernel
theorem d1_5 : decode method_3_code 5 = .ok (.i2c, 1) := by decide +kernel
theorem d1_6 : decode method_3_code 6 = .ok (.istore_n 1, 1) := by decide +kernel
theorem d1_7 : decode method_3_code 7 = .ok (.iload_n 0, 1) := by decide +kernel
theorem d1_8 : decode method_3_code 8 = .ok (.bipush 8, 2) := by decide +kernel
theorem d1_10 : decode method_3_code 10 = .ok (.iushr, 1) := by decide +kernel
theorem d1_11 : decode method_3_code 11 = .ok (.sipush 255, 3) := by decide +kernel
theorem d1_14 : decode method_3_code 14 = .ok (.iand, 1) := by decide +kernel
theorem d1_15 : decode method_3_code 15 = .ok (.i2c, 1) := by decide +kernel
theorem d1_16 : decode method_3_code 16 = .ok (.istore_n 2, 1) := by decide +kernel
theorem d1_17 : decode method_3_code 17 = .ok (.iload_n 0, 1) := by decide +kernel
theorem d1_18 : decode method_3_code 18 = .ok (.bipush 16, 2) := by decide +kernel
theorem d1_20 : decode method_3_code 20 = .ok (.iushr, 1) := by decide +kernel
theorem d1_21 : decode method_3_code 21 = .ok (.iconst 3, 1) := by decide +kernel
theorem d1_22 : decode method_3_code 22 = .ok (.iand, 1) := by decide +kernel
theorem d1_23 : decode method_3_code 23 = .ok (.iconst 3, 1) := by decide +kernel
theorem d1_24 : decode method_3_code 24 = .ok (.irem, 1) := by decide +kernel
theorem d1_25 : decode method_3_code 25 = .ok (.istore_n 3, 1) := by decide +kernel
theorem d1_26 : decode method_3_code 26 = .ok (.iload_n 3, 1) := by decide +kernel
theorem d1_27 : decode method_3_code 27 = .ok (.ifCond .ne 6, 3) := by decide +kernel
theorem d1_30 : decode method_3_code 30 = .ok (.ldc 32, 2) := by decide +kernel
theorem d1_32 : decode method_3_code 32 = .ok (.areturn, 1) := by decide +kernel
theorem d1_33 : decode method_3_code 33 = .ok (.iload_n 3, 1) := by decide +kernel
theorem d1_34 : decode method_3_code 34 = .ok (.iconst 1, 1) := by decide +kernel
theorem d1_35 : decode method_3_code 35 = .ok (.if_icmp .ne 8, 3) := by decide +kernel
theorem d1_38 : decode method_3_code 38 = .ok (.iload_n 1, 1) := by decide +kernel
theorem d1_39 : decode method_3_code 39 = .ok (.invokestatic 34, 3) := by decide +kernel
theorem d1_42 : decode method_3_code 42 = .ok (.areturn, 1) := by decide +kernel
theorem d1_43 : decode method_3_code 43 = .ok (.new 23, 3) := by decide +kernel
theorem d1_46 : decode method_3_code 46 = .ok (.dup, 1) := by decide +kernel
theorem d1_47 : decode method_3_code 47 = .ok (.iconst 2, 1) := by decide +kernel
theorem d1_48 : decode method_3_code 48 = .ok (.newarray .char, 2) := by decide +kernel
theorem d1_50 : decode method_3_code 50 = .ok (.dup, 1) := by decide +kernel
theorem d1_51 : decode method_3_code 51 = .ok (.iconst 0, 1) := by decide +kernel
theorem d1_52 : decode method_3_code 52 = .ok (.iload_n 1, 1) := by decide +kernel
theorem d1_53 : decode method_3_code 53 = .ok (.castore, 1) := by decide +kernel
theorem d1_54 : decode method_3_code 54 = .ok (.dup, 1) := by decide +kernel
theorem d1_55 : decode method_3_code 55 = .ok (.iconst 1, 1) := by decide +kernel
theorem d1_56 : decode method_3_code 56 = .ok (.iload_n 2, 1) := by decide +kernel
theorem d1_57 : decode method_3_code 57 = .ok (.castore, 1) := by decide +kernel
theorem d1_58 : decode method_3_code 58 = .ok (.invokespecial 38, 3) := by decide +kernel
theorem d1_61 : decode method_3_code 61 = .ok (.areturn, 1) := by decide +kernel
theorem pn_1 : plainName "com/example/spillback/spillback/io/SelectionToStringPinLaw" = true := by first | (simp [plainName, overriddenIn]; done) | decide +kernel
theorem pd__C_Ljava_lang_String_ : parseMethodDescriptor "(C)Ljava/lang/String;" = some ⟨[.char], some (.object "java/lang/String")⟩ := by decide +kernel
theorem pd___C_V : parseMethodDescriptor "([C)V" = some ⟨[(.array .char)], none⟩ := by decide +kernel
theorem ef_rmDr (m : MethodId) (x0 : Int32) : entryFrame m #[(.int x0)] 4 = mkF m 0 #[.val (.int x0), .unset, .unset, .unset] [] := by first | (simp [entryFrame, mkF, argsToLocals, Value.category]; done) | rfl
def Q_rmDr (Z : State) (pb : Int32) (zc : Int32) (h0 : Heap) (n0 : Nat) (v : Option Value) (h : Heap) (L : List Loc) : Prop := ∃ y : Addr, ∃ t : Addr, ∃ kb : ClassId, ∃ cs : List Int32, v = some (.ref y) ∧ Fr n0 L ∧ Keep h0 h [] ∧ Exa Z h y "java/lang/String" ∧ Fld Z h y "java/lang/String" "value" "[B" (.ref t) ∧ Fld Z h y "java/lang/String" "coder" "B" (.int (0 : Int32)) ∧ Arv Z h t kb .byte (Int32.ofNat (cs : List Int32).length) (((cs : List Int32).map (fun c : Int32 => c.toInt8.toInt32)).map Value.int) (.int 0) ∧ (own_P cs) ∧ (cs.length ≤ 2)
set_option maxRecDepth 65536 in
set_option maxHeartbeats 40000000 in
theorem rmDr (l : Launch) (Z : State) (a0 : Array Value) (hw : ∀ d ∈ tables_1, d.before a0 Z = true) (ws : List Jvm.Cond) (pb : Int32) (zc : Int32) (h0 : Heap) (n0 : Nat) (Z0 : n0 ≤ h0.size) (pS_COMPACT_STRINGS : Sta Z Z.heap "java/lang/String" "COMPACT_STRINGS" "Z" (.int zc)) (pP5 : (¬ (zc = (0 : Int32)))) (pO : Old Z n0 h0) :
    MetFree l (⟨"com/example/spillback/spillback/io/SelectionToStringPinLaw", "draw", "(I)Ljava/lang/String;"⟩ : MethodName) (head1 (Jvm.Cond.code (⟨"com/example/spillback/spillback/io/SelectionToStringPinLaw", "draw", "(I)Ljava/lang/String;"⟩ : MethodName) method_3_code 4 (some (.object "java/lang/String")) :: ws) ({ frames := 4, cells := 3, slots := 8, locals := 66 } : Room)) (fun a U => a = #[(.int pb)] ∧ Z.Warmed39 U.vm ∧ U.heap = h0 ∧ CHv Z own_EL U.vm h0) (fun _ _ _ _ _ => True) (fun _ U o U' => ∃ v L, o = .returned v ∧ Q_rmDr Z pb zc h0 n0 v U'.heap L ∧ CHr Z own_EL U.vm U.heap U'.vm U'.heap ∧ ReturnedEndW U o U' L ({ frames := 4, cells := 3, slots := 8, locals := 66 } : Room).cells ({ frames := 4, cells := 3, slots := 8, locals := 66 } : Room).slots) := by
  refine MetFree.of_bodySF (plainFor_of_name pn_1) hisR ?_
  intro p e s m args below meth c s₁ Bd hml0 hP hK
  obtain ⟨rfl, hZ, hh, hCH⟩ := hP
  have hx := Bd.exec
  have hby := Bd.bytes
  have hml : c.maxLocals = 4 := hml0
  have hown : s.vm.findClass "com/example/spillback/spillback/io/SelectionToStringPinLaw" = some m.cls := findClass_of_methodNamed Bd.named
  have hnm := (name_of_methodNamed Bd.named Bd.method).1
  have X0 : Stand p l e ({ frames := 4, cells := 3, slots := 8, locals := 66 } : Room) (s.setVm s.vm) m #[(.int pb)] below meth c s₁ [] 0 0 := Stand.of_body Bd
  have e0 : s₁.heap = h0 := by rw [← hh, Bd.state]; rfl
  have N0 := Fr.nil n0
  have hEL := own_EW hw
  have hCR := CHr.refl hCH
  have hS : s.Since s.vm h0.size := (State.WarmedH.refl s).since _
  have hK0 : h0.size ≤ h0.size := Nat.le_refl _
  refine own_enter (ef_rmDr m pb) ?_
  have hws : ∀ d ∈ StrChars.Road.words, d.before a0 Z = true := fun d hd => hw d ((by decide +kernel : ∀ d ∈ StrChars.Road.words, d ∈ tables_1) d hd)
  refine own_st (fun t_ k_ => XS.iloadN X0.here hx rfl (hb hby d1_0) rfl (XS.sipush X0.here hx rfl (hb hby d1_1) (XS.iand X0.here hx rfl (hb hby d1_4) rfl (XS.i2c X0.here hx rfl (hb hby d1_5) rfl k_)))) ?_
  show own_Go p e below s₁ (mkF m 6 #[.val (.int pb), .unset, .unset, .unset] [(.int ((pb &&& (255 : Int32)).toUInt32.toUInt16.toUInt32.toInt32))]) _
  have m0 := own_m255 pb
  rw [own_i255 m0.1 m0.2]
  show own_Go p e below s₁ (mkF m 6 #[.val (.int pb), .unset, .unset, .unset] [(.int (pb &&& (255 : Int32)))]) _
  generalize (pb &&& (255 : Int32)) = ca at m0 ⊢
  show own_Go p e below s₁ (mkF m 6 #[.val (.int pb), .unset, .unset, .unset] [(.int ca)]) _
  refine own_st (fun t_ k_ => XS.istoreN X0.here hx rfl (hb hby d1_6) rfl (l' := #[.val (.int pb), .val (.int ca), .unset, .unset]) rfl (XS.iloadN X0.here hx rfl (hb hby d1_7) rfl (XS.bipush X0.here hx rfl (hb hby d1_8) (XS.iushr X0.here hx rfl (hb hby d1_10) rfl (XS.sipush X0.here hx rfl (hb hby d1_11) (XS.iand X0.here hx rfl (hb hby d1_14) rfl k_)))))) ?_
  show own_Go p e below s₁ (mkF m 15 #[.val (.int pb), .val (.int ca), .unset, .unset] [(.int (((pb.toUInt32 >>> ((8 : Int32) &&& 31).toUInt32).toInt32) &&& (255 : Int32)))]) _
  have m1 := own_m255 (((pb.toUInt32 >>> ((8 : Int32) &&& 31).toUInt32).toInt32))
  generalize (((pb.toUInt32 >>> ((8 : Int32) &&& 31).toUInt32).toInt32) &&& (255 : Int32)) = cb at m1 ⊢
  show own_Go p e below s₁ (mkF m 15 #[.val (.int pb), .val (.int ca), .unset, .unset] [(.int cb)]) _
  refine own_st (fun t_ k_ => XS.i2c X0.here hx rfl (hb hby d1_15) rfl k_) ?_
  show own_Go p e below s₁ (mkF m 16 #[.val (.int pb), .val (.int ca), .unset, .unset] [(.int (cb.toUInt32.toUInt16.toUInt32.toInt32))]) _
  rw [own_i255 m1.1 m1.2]
  show own_Go p e below s₁ (mkF m 16 #[.val (.int pb), .val (.int ca), .unset, .unset] [(.int cb)]) _
  refine own_st (fun t_ k_ => XS.istoreN X0.here hx rfl (hb hby d1_16) rfl (l' := #[.val (.int pb), .val (.int ca), .val (.int cb), .unset]) rfl (XS.iloadN X0.here hx rfl (hb hby d1_17) rfl (XS.bipush X0.here hx rfl (hb hby d1_18) (XS.iushr X0.here hx rfl (hb hby d1_20) rfl (XS.iconst X0.here hx rfl (hb hby d1_21) (XS.iand X0.here hx rfl (hb hby d1_22) rfl (XS.iconst X0.here hx rfl (hb hby d1_23) (Jvm.RoadKit.iremM X0 hx rfl (hb hby d1_24) rfl (by decide) k_)))))))) ?_
  show own_Go p e below s₁ (mkF m 25 #[.val (.int pb), .val (.int ca), .val (.int cb), .unset] [(.int ((((pb.toUInt32 >>> ((16 : Int32) &&& 31).toUInt32).toInt32) &&& (3 : Int32)) % (3 : Int32)))]) _
  have h3 := own_three (((pb.toUInt32 >>> ((16 : Int32) &&& 31).toUInt32).toInt32))
  generalize ((((pb.toUInt32 >>> ((16 : Int32) &&& 31).toUInt32).toInt32) &&& (3 : Int32)) % (3 : Int32)) = nn at h3 ⊢
  show own_Go p e below s₁ (mkF m 25 #[.val (.int pb), .val (.int ca), .val (.int cb), .unset] [(.int nn)]) _
  have w0 := own_in255 ca m0.1 m0.2
  have w1 := own_in255 cb m1.1 m1.2
  rcases h3 with rfl | rfl | rfl
  · skip
    show own_Go p e below s₁ (mkF m 25 #[.val (.int pb), .val (.int ca), .val (.int cb), .unset] [(.int (0 : Int32))]) _
    refine own_st (fun t_ k_ => XS.istoreN X0.here hx rfl (hb hby d1_25) rfl (l' := #[.val (.int pb), .val (.int ca), .val (.int cb), .val (.int (0 : Int32))]) rfl (XS.iloadN X0.here hx rfl (hb hby d1_26) rfl (XS.ifNo X0.here hx rfl (hb hby d1_27) rfl (by decide) k_))) ?_
    show own_Go p e below s₁ (mkF m 30 #[.val (.int pb), .val (.int ca), .val (.int cb), .val (.int (0 : Int32))] []) _
    obtain ⟨b1, T1, h1, k1, t1, kb1, X1, e1, E1, hS, hk1, hZ, hown, xE1, xC1, xV1, xA1, -, -, A1, -, -, st1⟩ := ldcCH X0 hx hZ hown (own_w hw 4 rfl) (own_wS hw) e0 hS hK0 hEL (List.mem_of_getElem? (i := 3) rfl) hCH (vs := []) (z := (0 : Int32)) (by decide +kernel) (by decide) (by decide) (g := (mkF m 30 #[.val (.int pb), .val (.int ca), .val (.int cb), .val (.int (0 : Int32))] [])) rfl (hb hby d1_30) (n := 0) (by decide) (by decide) (by decide) (by decide)
    have CH2 := A1.1
    have CR2 := CHr.trans hCR (A1)
    have K3 : Keep h0 h1 [] := (Keep.refl h0 []).ext E1
    refine own_st st1 ?_
    show own_Go p e below T1 (mkF m 32 #[.val (.int pb), .val (.int ca), .val (.int cb), .val (.int (0 : Int32))] [(.ref b1)]) _
    obtain ⟨fs, hr, hrun, hended, hRW⟩ := X1.leaveW hS (by rw [e1]; exact hk1) (v := some (.ref b1)) (fun h => by rw [Bd.returns] at h; cases h)
    have hCend : CHr Z own_EL s.vm s.heap T1.vm T1.heap := by
      rw [hh, e1]
      exact CHr.trans CR2 (CHv.at X1 hZ hEL CH2)
    refine own_fin (own_retR X1 hx rfl Bd.returns rfl (hb hby d1_32) hr) ⟨hrun, hended, _, _, rfl, ?_, hCend, hRW.1, hRW.2.1, hRW.2.2.1, hRW.2.2.2.mono (by decide) (by decide)⟩
    show Q_rmDr Z pb zc h0 n0 _ T1.heap _
    rw [e1]
    exact ⟨b1, t1, kb1, [], rfl, N0, K3, xE1, xV1, xC1, xA1, (fun _ h => by cases h), (Nat.le_of_ble_eq_true rfl)⟩
  · skip
    show own_Go p e below s₁ (mkF m 25 #[.val (.int pb), .val (.int ca), .val (.int cb), .unset] [(.int (1 : Int32))]) _
    refine own_st (fun t_ k_ => XS.istoreN X0.here hx rfl (hb hby d1_25) rfl (l' := #[.val (.int pb), .val (.int ca), .val (.int cb), .val (.int (1 : Int32))]) rfl (XS.iloadN X0.here hx rfl (hb hby d1_26) rfl (XS.ifYes X0.here hx rfl (pc0 := 27) (pc' := 33) rfl (hb hby d1_27) rfl (by decide) (by decide) (by decide) (XS.iloadN X0.here hx rfl (hb hby d1_33) rfl (XS.iconst X0.here hx rfl (hb hby d1_34) (XS.icmpNo X0.here hx rfl (hb hby d1_35) rfl (by decide) (XS.iloadN X0.here hx rfl (hb hby d1_38) rfl k_))))))) ?_
    show own_Go p e below s₁ (mkF m 39 #[.val (.int pb), .val (.int ca), .val (.int cb), .val (.int (1 : Int32))] [(.int ca)]) _
    obtain ⟨_, _, ⟨T4, L4, k4, n4⟩, -, X4, ⟨Lc4, hQ4, l4, y4, z4⟩, st4⟩ := Jvm.LawKit.callS X0 hx (y := (⟨"java/lang/String", "valueOf", "(C)Ljava/lang/String;"⟩ : MethodName)) hown (mvT hZ (own_w hw 202 rfl)) (mvT hZ (own_w hw 203 rfl)) (mvT hZ (own_w hw 5 rfl)) (mvT hZ (own_w hw 204 rfl)) (by decide) (backOf (W := 0) (rmVo l Z a0 hw [] ca zc h0 n0 Z0 w0.2 pS_COMPACT_STRINGS pP5 pO) hZ (own_w hw 204 rfl) (own_w hw 5 rfl) (by decide) (by decide)) (g := (mkF m 39 #[.val (.int pb), .val (.int ca), .val (.int cb), .val (.int (1 : Int32))] [(.int ca)])) rfl (by rw [hml]; rfl) (argsL := [(.int ca)]) (rest := []) (lenOf pd__C_Ljava_lang_String_ rfl) rfl (by show 2 * 0 + _ ≤ _; exact Nat.le_of_eq rfl) (hb hby d1_39) (fun _ _ => ⟨rfl, e0, (by decide : 0 + 2 ≤ _), (by decide : 0 + 5 ≤ _)⟩)
    dsimp only [Pt.U, Pt.locs, Pt.cells, Pt.slots] at X4 l4 y4 z4 st4 hQ4
    try dsimp only [Nat.reduceAdd] at y4 z4
    rw [l4, y4, z4] at X4
    obtain ⟨x_4, t_4, kb_4, rfl, Nq4, Kq4, q4_0, q4_1, q4_2, q4_3⟩ := hQ4
    have N4 := Fr.app N0 Nq4
    have CH5 := hCH.keep Kq4 sf0
    have CR5 := CHr.trans hCR (CHr.keep Kq4 sf0 hCH)
    have K6 : Keep h0 T4.heap [] := (Keep.refl h0 []).trans Kq4 all0
    refine own_st st4 ?_
    show own_Go p e below T4 (mkF m 42 #[.val (.int pb), .val (.int ca), .val (.int cb), .val (.int (1 : Int32))] [(.ref x_4)]) _
    have f7 := (Nat.le_trans hK0 Kq4.1)
    obtain ⟨fs, hr, hrun, hended, hRW⟩ := X4.leaveW hS f7 (v := some (.ref x_4)) (fun h => by rw [Bd.returns] at h; cases h)
    have hCend : CHr Z own_EL s.vm s.heap T4.vm T4.heap := by
      rw [hh]
      exact CHr.trans CR5 (CHv.at X4 hZ hEL CH5)
    refine own_fin (own_retR X4 hx rfl Bd.returns rfl (hb hby d1_42) hr) ⟨hrun, hended, _, _, rfl, ?_, hCend, hRW.1, hRW.2.1, hRW.2.2.1, hRW.2.2.2.mono (by decide) (by decide)⟩
    show Q_rmDr Z pb zc h0 n0 _ T4.heap _
    exact ⟨x_4, t_4, kb_4, [ca], rfl, N4, K6, q4_0, q4_1, q4_2, q4_3, (fun c h => by simp only [List.mem_cons, List.not_mem_nil, or_false] at h; subst h; exact w0), (Nat.le_of_ble_eq_true rfl)⟩
  · skip
    show own_Go p e below s₁ (mkF m 25 #[.val (.int pb), .val (.int ca), .val (.int cb), .unset] [(.int (2 : Int32))]) _
    refine own_st (fun t_ k_ => XS.istoreN X0.here hx rfl (hb hby d1_25) rfl (l' := #[.val (.int pb), .val (.int ca), .val (.int cb), .val (.int (2 : Int32))]) rfl (XS.iloadN X0.here hx rfl (hb hby d1_26) rfl (XS.ifYes X0.here hx rfl (pc0 := 27) (pc' := 33) rfl (hb hby d1_27) rfl (by decide) (by decide) (by decide) (XS.iloadN X0.here hx rfl (hb hby d1_33) rfl (XS.iconst X0.here hx rfl (hb hby d1_34) (XS.icmpYes X0.here hx rfl (pc0 := 35) (pc' := 43) rfl (hb hby d1_35) rfl (by decide) (by decide) (by decide) k_)))))) ?_
    show own_Go p e below s₁ (mkF m 43 #[.val (.int pb), .val (.int ca), .val (.int cb), .val (.int (2 : Int32))] []) _
    obtain ⟨T8, h8, X8, e8, E8, A8, D8, -, st8⟩ := newO X0 hx hZ hown (own_w hw 184 rfl) (own_w hw 6 rfl) (own_w hw 5 rfl) e0 (g := (mkF m 43 #[.val (.int pb), .val (.int ca), .val (.int cb), .val (.int (2 : Int32))] [])) rfl (hb hby d1_43) (by decide) (by decide)
    obtain ⟨b8, g8⟩ : ∃ z, z = h0.size := ⟨_, rfl⟩
    rw [← g8] at A8 D8 st8
    have G8 : n0 ≤ b8 := Nat.le_trans Z0 (Nat.le_of_eq g8.symm)
    have B8 : h0.size ≤ b8 := Nat.le_trans (Keep.refl h0 []).1 (Nat.le_of_eq g8.symm)
    have CH9 := hCH.ext E8
    have CR9 := CHr.trans hCR (CHr.ext E8 hCH)
    have K10 : Keep h0 h8 [] := (Keep.refl h0 []).ext E8
    have SF8 : Safe Z own_EL s.vm h8 b8 := Safe.ext E8 hCH (Safe.new (x := b8) (Nat.le_of_eq g8.symm))
    have D8_value : Fld Z h8 b8 "java/lang/String" "value" "[B" .null := D8 (Or.inr (own_w hw 8 rfl)) (ty := (.array .byte)) (by decide)
    have D8_coder : Fld Z h8 b8 "java/lang/String" "coder" "B" (.int (0 : Int32)) := D8 (Or.inr (own_w hw 9 rfl)) (ty := .byte) (by decide)
    refine own_st st8 ?_
    show own_Go p e below T8 (mkF m 46 #[.val (.int pb), .val (.int ca), .val (.int cb), .val (.int (2 : Int32))] [(.ref b8)]) _
    refine own_st (fun t_ k_ => XS.dup X8.here hx rfl (hb hby d1_46) rfl rfl (XS.iconst X8.here hx rfl (hb hby d1_47) k_)) ?_
    show own_Go p e below T8 (mkF m 48 #[.val (.int pb), .val (.int ca), .val (.int cb), .val (.int (2 : Int32))] [(.int (2 : Int32)), (.ref b8), (.ref b8)]) _
    have f11 := (Nat.le_trans Z0 E8.1)
    obtain ⟨T12, h12, k12, X12, e12, E12, A12, st12⟩ := newP X8 hx hZ (own_w hw 185 rfl) e8 (g := (mkF m 48 #[.val (.int pb), .val (.int ca), .val (.int cb), .val (.int (2 : Int32))] [(.int (2 : Int32)), (.ref b8), (.ref b8)])) rfl (hb hby d1_48) rfl (by decide) (cap := 2) (by decide) (by decide) (by decide) (by decide)
    obtain ⟨b12, g12⟩ : ∃ z, z = h8.size := ⟨_, rfl⟩
    rw [← g12] at A12 st12
    have G12 : n0 ≤ b12 := Nat.le_trans f11 (Nat.le_of_eq g12.symm)
    have B12 : h0.size ≤ b12 := Nat.le_trans K10.1 (Nat.le_of_eq g12.symm)
    have CH13 := CH9.ext E12
    have CR13 := CHr.trans CR9 (CHr.ext E12 CH9)
    have K14 : Keep h0 h12 [] := K10.ext E12
    have V12 : Arv Z h12 b12 k12 .char (2 : Int32) [(.int (0 : Int32)), (.int (0 : Int32))] (.int (0 : Int32)) := (Arv.new A12 (by decide)).pad (pad_rep [] (.int (0 : Int32)) 2)
    refine own_st st12 ?_
    show own_Go p e below T12 (mkF m 50 #[.val (.int pb), .val (.int ca), .val (.int cb), .val (.int (2 : Int32))] [(.ref b12), (.ref b8), (.ref b8)]) _
    refine own_st (fun t_ k_ => XS.dup X12.here hx rfl (hb hby d1_50) rfl rfl (XS.iconst X12.here hx rfl (hb hby d1_51) (XS.iloadN X12.here hx rfl (hb hby d1_52) rfl k_))) ?_
    show own_Go p e below T12 (mkF m 53 #[.val (.int pb), .val (.int ca), .val (.int cb), .val (.int (2 : Int32))] [(.int ca), (.int (0 : Int32)), (.ref b12), (.ref b12), (.ref b8), (.ref b8)]) _
    obtain ⟨cl15, Ar15, q15, Sz15, Nn15, Hh15, Gg15⟩ := id V12
    have hin15 : ¬ ((0 : Int32) < 0 ∨ cl15.slots.size ≤ ((0 : Int32)).toNatClampNeg) := inb_of Sz15 ⟨by decide, by decide⟩
    obtain ⟨T16, h16, X16, e16, W16, st16⟩ := stC X12 hx hZ e12 Ar15 (j := (0 : Int32)) hin15 (g := (mkF m 53 #[.val (.int pb), .val (.int ca), .val (.int cb), .val (.int (2 : Int32))] [(.int ca), (.int (0 : Int32)), (.ref b12), (.ref b12), (.ref b8), (.ref b8)])) rfl rfl (hb hby d1_53)
    have V16 : Arv Z h16 b12 k12 .char (2 : Int32) [(.int (nar .char ca)), (.int (0 : Int32))] (.int (0 : Int32)) := Arv.set Ar15 q15 Sz15 Nn15 Hh15 Gg15 (fits_nar_char _) W16 0 rfl (Nat.le_of_ble_eq_true rfl)
    rw [own_nar w0] at V16
    have Sa17 : Safe Z own_EL s.vm h12 b12 := (Safe.arv hZ.alike V12 (by decide))
    have CH17 := CH13.wr W16 Sa17
    have CR17 := CHr.trans CR13 (CHr.wr W16 Sa17 CH13)
    have K18 : Keep h0 h16 [] := K14.wr W16 (Or.inr B12)
    have N16 := Fr.snoc X16 N0 G12
    refine own_st st16 ?_
    show own_Go p e below T16 (mkF m 54 #[.val (.int pb), .val (.int ca), .val (.int cb), .val (.int (2 : Int32))] [(.ref b12), (.ref b8), (.ref b8)]) _
    refine own_st (fun t_ k_ => XS.dup X16.here hx rfl (hb hby d1_54) rfl rfl (XS.iconst X16.here hx rfl (hb hby d1_55) (XS.iloadN X16.here hx rfl (hb hby d1_56) rfl k_))) ?_
    show own_Go p e below T16 (mkF m 57 #[.val (.int pb), .val (.int ca), .val (.int cb), .val (.int (2 : Int32))] [(.int cb), (.int (1 : Int32)), (.ref b12), (.ref b12), (.ref b8), (.ref b8)]) _
    obtain ⟨cl19, Ar19, q19, Sz19, Nn19, Hh19, Gg19⟩ := id V16
    have hin19 : ¬ ((1 : Int32) < 0 ∨ cl19.slots.size ≤ ((1 : Int32)).toNatClampNeg) := inb_of Sz19 ⟨by decide, by decide⟩
    obtain ⟨T20, h20, X20, e20, W20, st20⟩ := stC X16 hx hZ e16 Ar19 (j := (1 : Int32)) hin19 (g := (mkF m 57 #[.val (.int pb), .val (.int ca), .val (.int cb), .val (.int (2 : Int32))] [(.int cb), (.int (1 : Int32)), (.ref b12), (.ref b12), (.ref b8), (.ref b8)])) rfl rfl (hb hby d1_57)
    have V20 : Arv Z h20 b12 k12 .char (2 : Int32) [(.int ca), (.int (nar .char cb))] (.int (0 : Int32)) := Arv.set Ar19 q19 Sz19 Nn19 Hh19 Gg19 (fits_nar_char _) W20 1 rfl (Nat.le_of_ble_eq_true rfl)
    rw [own_nar w1] at V20
    have Sa21 : Safe Z own_EL s.vm h16 b12 := (Safe.arv hZ.alike V16 (by decide))
    have CH21 := CH17.wr W20 Sa21
    have CR21 := CHr.trans CR17 (CHr.wr W20 Sa21 CH17)
    have K22 : Keep h0 h20 [] := K18.wr W20 (Or.inr B12)
    have N20 := Fr.snoc X20 N16 G12
    refine own_st st20 ?_
    show own_Go p e below T20 (mkF m 58 #[.val (.int pb), .val (.int ca), .val (.int cb), .val (.int (2 : Int32))] [(.ref b12), (.ref b8), (.ref b8)]) _
    have hp1 : ∀ c ∈ ([ca, cb] : List Int32), ¬ c < 0 ∧ ¬ (255 : Int32) < c := by
      intro c hc
      simp only [List.mem_cons, List.not_mem_nil, or_false] at hc
      rcases hc with rfl | rfl
      · exact w0
      · exact w1
    have f23 := (Nat.le_trans (Nat.le_trans (Nat.le_trans f11 E12.1) (Keep.of_wr W16).1) (Keep.of_wr W20).1)
    have f24 := (((A8.ext E12).wr W16).wr W20)
    have f25 := (((D8_value.ext E12).other W16 (Or.inl (Nat.ne_of_lt (Nat.lt_of_lt_of_le A8.lt (Nat.le_of_eq g12.symm))))).other W20 (Or.inl (Nat.ne_of_lt (Nat.lt_of_lt_of_le A8.lt (Nat.le_of_eq g12.symm)))))
    have f26 := (((D8_coder.ext E12).other W16 (Or.inl (Nat.ne_of_lt (Nat.lt_of_lt_of_le A8.lt (Nat.le_of_eq g12.symm))))).other W20 (Or.inl (Nat.ne_of_lt (Nat.lt_of_lt_of_le A8.lt (Nat.le_of_eq g12.symm)))))
    have f27 := ((((pO.ext E8).ext E12).wr W16 G12).wr W20 G12)
    obtain ⟨_, _, ⟨T28, L28, k28, n28⟩, -, X28, ⟨Lc28, hQ28, l28, y28, z28⟩, st28⟩ := X20.specialBack hx (y := (⟨"java/lang/String", "<init>", "([C)V"⟩ : MethodName)) rfl hown (mvT hZ (own_w hw 186 rfl)) (mvT hZ (own_w hw 187 rfl)) (mvT hZ (own_w hw 188 rfl)) (by decide) (StrChars.Road.backV (W := 1) hZ hws (kI := 4) (own_w hw 6 rfl) (cs := ([ca, cb] : List Int32)) (bs := (([ca, cb] : List Int32)).map (fun c => c.toInt8.toInt32)) (n := 2) G8 f23 f24 f25 f26 V20 (pS_COMPACT_STRINGS.ext f27.2) pP5 rfl rfl (by decide) (by decide) hp1 rfl (by decide) (by decide)) (g := (mkF m 58 #[.val (.int pb), .val (.int ca), .val (.int cb), .val (.int (2 : Int32))] [(.ref b12), (.ref b8), (.ref b8)])) rfl (by rw [hml]; rfl) (Steps.refl _) (a := b8) (argsL := [(.ref b12)]) (rest := [(.ref b8)]) (lenOf pd___C_V rfl) rfl (by show 2 * 0 + _ ≤ _; exact Nat.le_of_eq rfl) (hb hby d1_58) (fun _ _ => ⟨rfl, e20, (by decide : 2 + 1 ≤ _), (by decide : 6 + 2 ≤ _)⟩)
    dsimp only [Pt.U, Pt.locs, Pt.cells, Pt.slots] at X28 l28 y28 z28 st28 hQ28
    try dsimp only [Nat.reduceAdd] at y28 z28
    rw [l28, y28, z28] at X28
    obtain ⟨rfl, Nq28, Kq28, q28_E, q28_c, t28, kb28, q28_g, q28_b, q28_n, q28_v, q28_V⟩ := hQ28
    have N28 := Fr.app N20 Nq28
    have f30 := (Safe.wr W20 Sa21 CH17 (Safe.wr W16 Sa17 CH13 (Safe.ext E12 CH9 SF8)))
    have Sa29 : ∀ y ∈ [b8], Safe Z own_EL s.vm h20 y := (sfS f30 sf0)
    have CH29 := CH21.keep Kq28 Sa29
    have CR29 := CHr.trans CR21 (CHr.keep Kq28 Sa29 CH21)
    have K31 : Keep h0 T28.heap [] := K22.trans Kq28 (allS (Or.inr B8) all0)
    have Bf32 : h0.size ≤ t28 := Nat.le_trans K22.1 q28_b
    refine own_tr st28 ?_
    show own_Go p e below T28 (mkF m 61 #[.val (.int pb), .val (.int ca), .val (.int cb), .val (.int (2 : Int32))] [(.ref b8)]) _
    have f33 := (Nat.le_trans (Nat.le_trans (Nat.le_trans (Nat.le_trans (Nat.le_trans hK0 E8.1) E12.1) (Keep.of_wr W16).1) (Keep.of_wr W20).1) Kq28.1)
    obtain ⟨fs, hr, hrun, hended, hRW⟩ := X28.leaveW hS f33 (v := some (.ref b8)) (fun h => by rw [Bd.returns] at h; cases h)
    have hCend : CHr Z own_EL s.vm s.heap T28.vm T28.heap := by
      rw [hh]
      exact CHr.trans CR29 (CHv.at X28 hZ hEL CH29)
    refine own_fin (own_retR X28 hx rfl Bd.returns rfl (hb hby d1_61) hr) ⟨hrun, hended, _, _, rfl, ?_, hCend, hRW.1, hRW.2.1, hRW.2.2.1, hRW.2.2.2.mono (by decide) (by decide)⟩
    show Q_rmDr Z pb zc h0 n0 _ T28.heap _
    exact ⟨b8, t28, kb28, [ca, cb], rfl, N28, K31, q28_E, q28_v, q28_c, q28_V, hp1, (Nat.le_of_ble_eq_true rfl)⟩
theorem d3_0 : decode jdk_30_method_1_code 0 = .ok (.aload_n 0, 1) := by decide +kernel
theorem d3_1 : decode jdk_30_method_1_code 1 = .ok (.invokespecial 1, 3) := by decide +kernel
theorem d3_4 : decode jdk_30_method_1_code 4 = .ok (.return_, 1) := by decide +kernel
theorem pn_3 : plainName "java/lang/Record" = true := by first | (simp [plainName, overriddenIn]; done) | decide +kernel
theorem ef_rmRc (m : MethodId) (x0 : Addr) : entryFrame m #[(.ref x0)] 1 = mkF m 0 #[.val (.ref x0)] [] := by first | (simp [entryFrame, mkF, argsToLocals, Value.category]; done) | rfl
def Q_rmRc (Z : State) (a1 : Addr) (h0 : Heap) (n0 : Nat) (v : Option Value) (h : Heap) (L : List Loc) : Prop := v = none ∧ Fr n0 L ∧ h = h0
set_option maxRecDepth 65536 in
set_option maxHeartbeats 40000000 in
theorem rmRc (l : Launch) (Z : State) (a0 : Array Value) (hw : ∀ d ∈ tables_1, d.before a0 Z = true) (ws : List Jvm.Cond) (a1 : Addr) (h0 : Heap) (n0 : Nat) (Z0 : n0 ≤ h0.size) :
    MetFree l (⟨"java/lang/Record", "<init>", "()V"⟩ : MethodName) (head1 (Jvm.Cond.code (⟨"java/lang/Record", "<init>", "()V"⟩ : MethodName) jdk_30_method_1_code 1 none :: ws) ({ frames := 1, cells := 0, slots := 0, locals := 12 } : Room)) (fun a U => a = #[(.ref a1)] ∧ Z.Warmed39 U.vm ∧ U.heap = h0) (fun _ _ _ _ _ => True) (fun _ U o U' => ∃ v L, o = .returned v ∧ Q_rmRc Z a1 h0 n0 v U'.heap L ∧ FrameEnd U o U' L ({ frames := 1, cells := 0, slots := 0, locals := 12 } : Room).cells ({ frames := 1, cells := 0, slots := 0, locals := 12 } : Room).slots) := by
  refine MetFree.of_bodySF (plainFor_of_name pn_3) hisR ?_
  intro p e s m args below meth c s₁ Bd hml0 hP hK
  obtain ⟨rfl, hZ, hh⟩ := hP
  have hx := Bd.exec
  have hby := Bd.bytes
  have hml : c.maxLocals = 1 := hml0
  have hown : s.vm.findClass "java/lang/Record" = some m.cls := findClass_of_methodNamed Bd.named
  have hnm := (name_of_methodNamed Bd.named Bd.method).1
  have X0 : Stand p l e ({ frames := 1, cells := 0, slots := 0, locals := 12 } : Room) s m #[(.ref a1)] below meth c s₁ [] 0 0 := Stand.of_body Bd
  have e0 : s₁.heap = h0 := by rw [← hh, Bd.state]; rfl
  have N0 := Fr.nil n0
  refine own_enter (ef_rmRc m a1) ?_
  refine own_st (fun t_ k_ => XS.aloadN X0.here hx rfl (hb hby d3_0) rfl rfl k_) ?_
  show own_Go p e below s₁ (mkF m 1 #[.val (.ref a1)] [(.ref a1)]) _
  obtain ⟨T1, X1, e1, st1⟩ := initO X0 hx hZ hown (own_w hw 23 rfl) (own_w hw 24 rfl) (own_w hw 25 rfl) e0 (g := (mkF m 1 #[.val (.ref a1)] [(.ref a1)])) rfl (by rw [hml]; rfl) rfl (hb hby d3_1) (by decide) (W := 0) (by show 2 * 0 + _ ≤ _; exact Nat.le_of_eq rfl) (by decide)
  refine own_st st1 ?_
  show own_Go p e below T1 (mkF m 4 #[.val (.ref a1)] []) _
  obtain ⟨fs, hr, hrun, hended, hW, hsame⟩ := X1.leave (v := none) (fun _ => rfl)
  refine own_fin (X1.returnOut hx Bd.returns (hb hby d3_4) hr) ⟨hrun, hended, _, _, rfl, ?_, ⟨_, rfl⟩, hW, hsame.mono (by decide) (by decide)⟩
  show Q_rmRc Z a1 h0 n0 _ T1.heap _
  rw [e1]
  exact ⟨rfl, N0, rfl⟩
theorem d2_0 : decode prog_42_method_1_code 0 = .ok (.aload_n 0, 1) := by decide +kernel
theorem d2_1 : decode prog_42_method_1_code 1 = .ok (.invokespecial 1, 3) := by decide +kernel
theorem d2_4 : decode prog_42_method_1_code 4 = .ok (.aload_n 0, 1) := by decide +kernel
theorem d2_5 : decode prog_42_method_1_code 5 = .ok (.aload_n 1, 1) := by decide +kernel
theorem d2_6 : decode prog_42_method_1_code 6 = .ok (.putfield 7, 3) := by decide +kernel
theorem d2_9 : decode prog_42_method_1_code 9 = .ok (.aload_n 0, 1) := by decide +kernel
theorem d2_10 : decode prog_42_method_1_code 10 = .ok (.aload_n 2, 1) := by decide +kernel
theorem d2_11 : decode prog_42_method_1_code 11 = .ok (.putfield 13, 3) := by decide +kernel
theorem d2_14 : decode prog_42_method_1_code 14 = .ok (.aload_n 0, 1) := by decide +kernel
theorem d2_15 : decode prog_42_method_1_code 15 = .ok (.aload_n 3, 1) := by decide +kernel
theorem d2_16 : decode prog_42_method_1_code 16 = .ok (.putfield 16, 3) := by decide +kernel
theorem d2_19 : decode prog_42_method_1_code 19 = .ok (.return_, 1) := by decide +kernel
theorem pn_2 : plainName "com/example/spillback/spillback/io/Config$Selection" = true := by first | (simp [plainName, overriddenIn]; done) | decide +kernel
theorem pd___V : parseMethodDescriptor "()V" = some ⟨[], none⟩ := by decide +kernel
theorem ef_rmSi (m : MethodId) (x0 : Addr) (x1 : Addr) (x2 : Addr) (x3 : Addr) : entryFrame m #[(.ref x0), (.ref x1), (.ref x2), (.ref x3)] 4 = mkF m 0 #[.val (.ref x0), .val (.ref x1), .val (.ref x2), .val (.ref x3)] [] := by first | (simp [entryFrame, mkF, argsToLocals, Value.category]; done) | rfl
def Q_rmSi (Z : State) (a1 : Addr) (x1 : Addr) (x2 : Addr) (x3 : Addr) (u1 : Value) (u2 : Value) (u3 : Value) (h0 : Heap) (n0 : Nat) (v : Option Value) (h : Heap) (L : List Loc) : Prop := v = none ∧ Fr n0 L ∧ Keep h0 h [a1] ∧ Exa Z h a1 "com/example/spillback/spillback/io/Config$Selection" ∧ Fld Z h a1 "com/example/spillback/spillback/io/Config$Selection" "type" "Ljava/lang/String;" (.ref x1) ∧ Fld Z h a1 "com/example/spillback/spillback/io/Config$Selection" "key" "Ljava/lang/String;" (.ref x2) ∧ Fld Z h a1 "com/example/spillback/spillback/io/Config$Selection" "value" "Ljava/lang/String;" (.ref x3)
set_option maxRecDepth 65536 in
set_option maxHeartbeats 40000000 in
theorem rmSi (l : Launch) (Z : State) (a0 : Array Value) (hw : ∀ d ∈ tables_1, d.before a0 Z = true) (ws : List Jvm.Cond) (a1 : Addr) (x1 : Addr) (x2 : Addr) (x3 : Addr) (u1 : Value) (u2 : Value) (u3 : Value) (h0 : Heap) (n0 : Nat) (Z0 : n0 ≤ h0.size) (pE_a1 : Exa Z h0 a1 "com/example/spillback/spillback/io/Config$Selection") (pF_type_a1 : Fld Z h0 a1 "com/example/spillback/spillback/io/Config$Selection" "type" "Ljava/lang/String;" u1) (pF_key_a1 : Fld Z h0 a1 "com/example/spillback/spillback/io/Config$Selection" "key" "Ljava/lang/String;" u2) (pF_value_a1 : Fld Z h0 a1 "com/example/spillback/spillback/io/Config$Selection" "value" "Ljava/lang/String;" u3) (pG_a1 : n0 ≤ a1) :
    MetFree l (⟨"com/example/spillback/spillback/io/Config$Selection", "<init>", "(Ljava/lang/String;Ljava/lang/String;Ljava/lang/String;)V"⟩ : MethodName) (head1 (Jvm.Cond.code (⟨"com/example/spillback/spillback/io/Config$Selection", "<init>", "(Ljava/lang/String;Ljava/lang/String;Ljava/lang/String;)V"⟩ : MethodName) prog_42_method_1_code 4 none :: ws) ({ frames := 2, cells := 0, slots := 0, locals := 24 } : Room)) (fun a U => a = #[(.ref a1), (.ref x1), (.ref x2), (.ref x3)] ∧ Z.Warmed39 U.vm ∧ U.heap = h0) (fun _ _ _ _ _ => True) (fun _ U o U' => ∃ v L, o = .returned v ∧ Q_rmSi Z a1 x1 x2 x3 u1 u2 u3 h0 n0 v U'.heap L ∧ FrameEnd U o U' L ({ frames := 2, cells := 0, slots := 0, locals := 24 } : Room).cells ({ frames := 2, cells := 0, slots := 0, locals := 24 } : Room).slots) := by
  refine MetFree.of_bodySF (plainFor_of_name pn_2) hisR ?_
  intro p e s m args below meth c s₁ Bd hml0 hP hK
  obtain ⟨rfl, hZ, hh⟩ := hP
  have hx := Bd.exec
  have hby := Bd.bytes
  have hml : c.maxLocals = 4 := hml0
  have hown : s.vm.findClass "com/example/spillback/spillback/io/Config$Selection" = some m.cls := findClass_of_methodNamed Bd.named
  have hnm := (name_of_methodNamed Bd.named Bd.method).1
  have X0 : Stand p l e ({ frames := 2, cells := 0, slots := 0, locals := 24 } : Room) s m #[(.ref a1), (.ref x1), (.ref x2), (.ref x3)] below meth c s₁ [] 0 0 := Stand.of_body Bd
  have e0 : s₁.heap = h0 := by rw [← hh, Bd.state]; rfl
  have N0 := Fr.nil n0
  refine own_enter (ef_rmSi m a1 x1 x2 x3) ?_
  refine own_st (fun t_ k_ => XS.aloadN X0.here hx rfl (hb hby d2_0) rfl rfl k_) ?_
  show own_Go p e below s₁ (mkF m 1 #[.val (.ref a1), .val (.ref x1), .val (.ref x2), .val (.ref x3)] [(.ref a1)]) _
  obtain ⟨_, _, ⟨T1, L1, k1, n1⟩, -, X1, ⟨Lc1, hQ1, l1, y1, z1⟩, st1⟩ := X0.specialBack hx (y := (⟨"java/lang/Record", "<init>", "()V"⟩ : MethodName)) rfl hown (mvT hZ (own_w hw 18 rfl)) (mvT hZ (own_w hw 19 rfl)) (mvT hZ (own_w hw 22 rfl)) (by decide) (backOf (W := 0) (rmRc l Z a0 hw [] a1 h0 n0 Z0 ) hZ (own_w hw 22 rfl) (own_w hw 21 rfl) (by decide) (by decide)) (g := (mkF m 1 #[.val (.ref a1), .val (.ref x1), .val (.ref x2), .val (.ref x3)] [(.ref a1)])) rfl (by rw [hml]; rfl) (Steps.refl _) (a := a1) (argsL := []) (rest := []) (lenOf pd___V rfl) rfl (by show 2 * 0 + _ ≤ _; exact Nat.le_of_eq rfl) (hb hby d2_1) (fun _ _ => ⟨rfl, e0, (by decide : 0 + 0 ≤ _), (by decide : 0 + 0 ≤ _)⟩)
  dsimp only [Pt.U, Pt.locs, Pt.cells, Pt.slots] at X1 l1 y1 z1 st1 hQ1
  try dsimp only [Nat.reduceAdd] at y1 z1
  rw [l1, y1, z1] at X1
  obtain ⟨rfl, Nq1, eH1⟩ := hQ1
  have N1 := Fr.app N0 Nq1
  refine own_tr st1 ?_
  show own_Go p e below T1 (mkF m 4 #[.val (.ref a1), .val (.ref x1), .val (.ref x2), .val (.ref x3)] []) _
  refine own_st (fun t_ k_ => XS.aloadN X1.here hx rfl (hb hby d2_4) rfl rfl (XS.aloadN X1.here hx rfl (hb hby d2_5) rfl rfl k_)) ?_
  show own_Go p e below T1 (mkF m 6 #[.val (.ref a1), .val (.ref x1), .val (.ref x2), .val (.ref x3)] [(.ref x1), (.ref a1)]) _
  obtain ⟨T2, h2, X2, e2, W2, st2⟩ := putF X1 hx hZ hown (host := "") (Or.inl (own_w hw 26 rfl)) Via.refl eH1 pF_type_a1 pE_a1 (Or.inr ⟨(own_w hw 27 rfl), rfl, hnm⟩) (own_w hw 13 rfl) (ty := (.object "java/lang/String")) (by decide) rfl rfl (g := (mkF m 6 #[.val (.ref a1), .val (.ref x1), .val (.ref x2), .val (.ref x3)] [(.ref x1), (.ref a1)])) rfl rfl (hb hby d2_6)
  have F2 := pF_type_a1.same W2
  have K3 : Keep h0 h2 [a1] := (Keep.refl h0 [a1]).wr W2 (Or.inl (List.mem_of_getElem? (i := 0) rfl))
  have N2 := Fr.snoc X2 N1 pG_a1
  refine own_st st2 ?_
  show own_Go p e below T2 (mkF m 9 #[.val (.ref a1), .val (.ref x1), .val (.ref x2), .val (.ref x3)] []) _
  refine own_st (fun t_ k_ => XS.aloadN X2.here hx rfl (hb hby d2_9) rfl rfl (XS.aloadN X2.here hx rfl (hb hby d2_10) rfl rfl k_)) ?_
  show own_Go p e below T2 (mkF m 11 #[.val (.ref a1), .val (.ref x1), .val (.ref x2), .val (.ref x3)] [(.ref x2), (.ref a1)]) _
  have f4 := (pE_a1.wr W2)
  have f5 := (pF_key_a1.other W2 (Or.inr (slot_ne (Or.inr (own_w hw 29 rfl)) (Or.inr (own_w hw 27 rfl)) (by decide) (t := (.object "java/lang/String")) (t' := (.object "java/lang/String")) (by decide) (by decide))))
  obtain ⟨T6, h6, X6, e6, W6, st6⟩ := putF X2 hx hZ hown (host := "") (Or.inl (own_w hw 28 rfl)) Via.refl e2 f5 f4 (Or.inr ⟨(own_w hw 29 rfl), rfl, hnm⟩) (own_w hw 13 rfl) (ty := (.object "java/lang/String")) (by decide) rfl rfl (g := (mkF m 11 #[.val (.ref a1), .val (.ref x1), .val (.ref x2), .val (.ref x3)] [(.ref x2), (.ref a1)])) rfl rfl (hb hby d2_11)
  have F6 := f5.same W6
  have K7 : Keep h0 h6 [a1] := K3.wr W6 (Or.inl (List.mem_of_getElem? (i := 0) rfl))
  have N6 := Fr.snoc X6 N2 pG_a1
  refine own_st st6 ?_
  show own_Go p e below T6 (mkF m 14 #[.val (.ref a1), .val (.ref x1), .val (.ref x2), .val (.ref x3)] []) _
  refine own_st (fun t_ k_ => XS.aloadN X6.here hx rfl (hb hby d2_14) rfl rfl (XS.aloadN X6.here hx rfl (hb hby d2_15) rfl rfl k_)) ?_
  show own_Go p e below T6 (mkF m 16 #[.val (.ref a1), .val (.ref x1), .val (.ref x2), .val (.ref x3)] [(.ref x3), (.ref a1)]) _
  have f8 := (f4.wr W6)
  have f9 := ((pF_value_a1.other W2 (Or.inr (slot_ne (Or.inr (own_w hw 31 rfl)) (Or.inr (own_w hw 27 rfl)) (by decide) (t := (.object "java/lang/String")) (t' := (.object "java/lang/String")) (by decide) (by decide)))).other W6 (Or.inr (slot_ne (Or.inr (own_w hw 31 rfl)) (Or.inr (own_w hw 29 rfl)) (by decide) (t := (.object "java/lang/String")) (t' := (.object "java/lang/String")) (by decide) (by decide))))
  obtain ⟨T10, h10, X10, e10, W10, st10⟩ := putF X6 hx hZ hown (host := "") (Or.inl (own_w hw 30 rfl)) Via.refl e6 f9 f8 (Or.inr ⟨(own_w hw 31 rfl), rfl, hnm⟩) (own_w hw 13 rfl) (ty := (.object "java/lang/String")) (by decide) rfl rfl (g := (mkF m 16 #[.val (.ref a1), .val (.ref x1), .val (.ref x2), .val (.ref x3)] [(.ref x3), (.ref a1)])) rfl rfl (hb hby d2_16)
  have F10 := f9.same W10
  have K11 : Keep h0 h10 [a1] := K7.wr W10 (Or.inl (List.mem_of_getElem? (i := 0) rfl))
  have N10 := Fr.snoc X10 N6 pG_a1
  refine own_st st10 ?_
  show own_Go p e below T10 (mkF m 19 #[.val (.ref a1), .val (.ref x1), .val (.ref x2), .val (.ref x3)] []) _
  have f12 := (f8.wr W10)
  have f13 := ((F2.other W6 (Or.inr (slot_ne (Or.inr (own_w hw 27 rfl)) (Or.inr (own_w hw 29 rfl)) (by decide) (t := (.object "java/lang/String")) (t' := (.object "java/lang/String")) (by decide) (by decide)))).other W10 (Or.inr (slot_ne (Or.inr (own_w hw 27 rfl)) (Or.inr (own_w hw 31 rfl)) (by decide) (t := (.object "java/lang/String")) (t' := (.object "java/lang/String")) (by decide) (by decide))))
  have f14 := (F6.other W10 (Or.inr (slot_ne (Or.inr (own_w hw 29 rfl)) (Or.inr (own_w hw 31 rfl)) (by decide) (t := (.object "java/lang/String")) (t' := (.object "java/lang/String")) (by decide) (by decide))))
  obtain ⟨fs, hr, hrun, hended, hW, hsame⟩ := X10.leave (v := none) (fun _ => rfl)
  refine own_fin (X10.returnOut hx Bd.returns (hb hby d2_19) hr) ⟨hrun, hended, _, _, rfl, ?_, ⟨_, rfl⟩, hW, hsame.mono (by decide) (by decide)⟩
  show Q_rmSi Z a1 x1 x2 x3 u1 u2 u3 h0 n0 _ T10.heap _
  rw [e10]
  exact ⟨rfl, N10, K11, f12, f13, f14, F10⟩
theorem d5_0 : decode prog_42_method_2_code 0 = .ok (.new 19, 3) := by decide +kernel
theorem d5_3 : decode prog_42_method_2_code 3 = .ok (.dup, 1) := by decide +kernel
theorem d5_4 : decode prog_42_method_2_code 4 = .ok (.invokespecial 21, 3) := by decide +kernel
theorem d5_7 : decode prog_42_method_2_code 7 = .ok (.aload_n 0, 1) := by decide +kernel
theorem d5_8 : decode prog_42_method_2_code 8 = .ok (.getfield 7, 3) := by decide +kernel
theorem d5_11 : decode prog_42_method_2_code 11 = .ok (.invokevirtual 22, 3) := by decide +kernel
theorem d5_14 : decode prog_42_method_2_code 14 = .ok (.ldc 26, 2) := by decide +kernel
theorem d5_16 : decode prog_42_method_2_code 16 = .ok (.invokevirtual 22, 3) := by decide +kernel
theorem d5_19 : decode prog_42_method_2_code 19 = .ok (.aload_n 0, 1) := by decide +kernel
theorem d5_20 : decode prog_42_method_2_code 20 = .ok (.getfield 13, 3) := by decide +kernel
theorem d5_23 : decode prog_42_method_2_code 23 = .ok (.invokevirtual 22, 3) := by decide +kernel
theorem d5_26 : decode prog_42_method_2_code 26 = .ok (.ldc 28, 2) := by decide +kernel
theorem d5_28 : decode prog_42_method_2_code 28 = .ok (.invokevirtual 22, 3) := by decide +kernel
theorem d5_31 : decode prog_42_method_2_code 31 = .ok (.aload_n 0, 1) := by decide +kernel
theorem d5_32 : decode prog_42_method_2_code 32 = .ok (.getfield 16, 3) := by decide +kernel
theorem d5_35 : decode prog_42_method_2_code 35 = .ok (.invokevirtual 22, 3) := by decide +kernel
theorem d5_38 : decode prog_42_method_2_code 38 = .ok (.ldc 30, 2) := by decide +kernel
theorem d5_40 : decode prog_42_method_2_code 40 = .ok (.invokevirtual 22, 3) := by decide +kernel
theorem d5_43 : decode prog_42_method_2_code 43 = .ok (.invokevirtual 32, 3) := by decide +kernel
theorem d5_46 : decode prog_42_method_2_code 46 = .ok (.areturn, 1) := by decide +kernel
theorem pn_5 : plainName "com/example/spillback/spillback/io/Config$Selection" = true := by first | (simp [plainName, overriddenIn]; done) | decide +kernel
theorem pd__Ljava_lang_String__Ljava_lang_StringBuilder_ : parseMethodDescriptor "(Ljava/lang/String;)Ljava/lang/StringBuilder;" = some ⟨[(.object "java/lang/String")], some (.object "java/lang/StringBuilder")⟩ := by decide +kernel
theorem pd___Ljava_lang_String_ : parseMethodDescriptor "()Ljava/lang/String;" = some ⟨[], some (.object "java/lang/String")⟩ := by decide +kernel
theorem ef_rmTo (m : MethodId) (x0 : Addr) : entryFrame m #[(.ref x0)] 1 = mkF m 0 #[.val (.ref x0)] [] := by first | (simp [entryFrame, mkF, argsToLocals, Value.category]; done) | rfl
def Q_rmTo (Z : State) (ob : Addr) (x1 : Addr) (t1_ : Addr) (k1_ : ClassId) (s1 : List Int32) (x2 : Addr) (t2_ : Addr) (k2_ : ClassId) (s2 : List Int32) (x3 : Addr) (t3_ : Addr) (k3_ : ClassId) (s3 : List Int32) (zc : Int32) (h0 : Heap) (n0 : Nat) (v : Option Value) (h : Heap) (L : List Loc) : Prop := ∃ y : Addr, ∃ b : Addr, ∃ kb : ClassId, v = some (.ref y) ∧ Fr n0 L ∧ Keep h0 h [] ∧ Exa Z h y "java/lang/String" ∧ Fld Z h y "java/lang/String" "value" "[B" (.ref b) ∧ Fld Z h y "java/lang/String" "coder" "B" (.int (0 : Int32)) ∧ Arv Z h b kb .byte (Int32.ofNat ((own_all s1 s2 s3) : List Int32).length) ((((own_all s1 s2 s3) : List Int32).map (fun c : Int32 => c.toInt8.toInt32)).map Value.int) (.int 0)
set_option maxRecDepth 65536 in
set_option maxHeartbeats 40000000 in
theorem rmTo (l : Launch) (Z : State) (a0 : Array Value) (hw : ∀ d ∈ tables_1, d.before a0 Z = true) (ws : List Jvm.Cond) (ob : Addr) (x1 : Addr) (t1_ : Addr) (k1_ : ClassId) (s1 : List Int32) (x2 : Addr) (t2_ : Addr) (k2_ : ClassId) (s2 : List Int32) (x3 : Addr) (t3_ : Addr) (k3_ : ClassId) (s3 : List Int32) (zc : Int32) (h0 : Heap) (n0 : Nat) (Z0 : n0 ≤ h0.size) (pE_ob : Exa Z h0 ob "com/example/spillback/spillback/io/Config$Selection") (pF_type_ob : Fld Z h0 ob "com/example/spillback/spillback/io/Config$Selection" "type" "Ljava/lang/String;" (.ref x1)) (pF_key_ob : Fld Z h0 ob "com/example/spillback/spillback/io/Config$Selection" "key" "Ljava/lang/String;" (.ref x2)) (pF_value_ob : Fld Z h0 ob "com/example/spillback/spillback/io/Config$Selection" "value" "Ljava/lang/String;" (.ref x3)) (pE_x1 : Exa Z h0 x1 "java/lang/String") (pF_value_x1 : Fld Z h0 x1 "java/lang/String" "value" "[B" (.ref t1_)) (pF_coder_x1 : Fld Z h0 x1 "java/lang/String" "coder" "B" (.int (0 : Int32))) (pV_t1_ : Arv Z h0 t1_ k1_ .byte (Int32.ofNat (s1 : List Int32).length) (((s1 : List Int32).map (fun c : Int32 => c.toInt8.toInt32)).map Value.int) (.int 0)) (pE_x2 : Exa Z h0 x2 "java/lang/String") (pF_value_x2 : Fld Z h0 x2 "java/lang/String" "value" "[B" (.ref t2_)) (pF_coder_x2 : Fld Z h0 x2 "java/lang/String" "coder" "B" (.int (0 : Int32))) (pV_t2_ : Arv Z h0 t2_ k2_ .byte (Int32.ofNat (s2 : List Int32).length) (((s2 : List Int32).map (fun c : Int32 => c.toInt8.toInt32)).map Value.int) (.int 0)) (pE_x3 : Exa Z h0 x3 "java/lang/String") (pF_value_x3 : Fld Z h0 x3 "java/lang/String" "value" "[B" (.ref t3_)) (pF_coder_x3 : Fld Z h0 x3 "java/lang/String" "coder" "B" (.int (0 : Int32))) (pV_t3_ : Arv Z h0 t3_ k3_ .byte (Int32.ofNat (s3 : List Int32).length) (((s3 : List Int32).map (fun c : Int32 => c.toInt8.toInt32)).map Value.int) (.int 0)) (hp1 : (own_P s1)) (hl1 : (s1.length ≤ 2)) (hp2 : (own_P s2)) (hl2 : (s2.length ≤ 2)) (hp3 : (own_P s3)) (hl3 : (s3.length ≤ 2)) (pS_COMPACT_STRINGS : Sta Z Z.heap "java/lang/String" "COMPACT_STRINGS" "Z" (.int zc)) (pP5 : (¬ (zc = (0 : Int32)))) (pO : Old Z n0 h0) :
    MetFree l (⟨"com/example/spillback/spillback/io/Config$Selection", "toString", "()Ljava/lang/String;"⟩ : MethodName) (head1 (Jvm.Cond.code (⟨"com/example/spillback/spillback/io/Config$Selection", "toString", "()Ljava/lang/String;"⟩ : MethodName) prog_42_method_2_code 1 (some (.object "java/lang/String")) :: ws) ({ frames := 6, cells := 10, slots := 64, locals := 193 } : Room)) (fun a U => a = #[(.ref ob)] ∧ Z.Warmed39 U.vm ∧ U.heap = h0 ∧ CHv Z own_EL U.vm h0) (fun _ _ _ _ _ => True) (fun _ U o U' => ∃ v L, o = .returned v ∧ Q_rmTo Z ob x1 t1_ k1_ s1 x2 t2_ k2_ s2 x3 t3_ k3_ s3 zc h0 n0 v U'.heap L ∧ CHr Z own_EL U.vm U.heap U'.vm U'.heap ∧ ReturnedEndW U o U' L ({ frames := 6, cells := 10, slots := 64, locals := 193 } : Room).cells ({ frames := 6, cells := 10, slots := 64, locals := 193 } : Room).slots) := by
  refine MetFree.of_bodySF (plainFor_of_name pn_5) hisR ?_
  intro p e s m args below meth c s₁ Bd hml0 hP hK
  obtain ⟨rfl, hZ, hh, hCH⟩ := hP
  have hx := Bd.exec
  have hby := Bd.bytes
  have hml : c.maxLocals = 1 := hml0
  have hown : s.vm.findClass "com/example/spillback/spillback/io/Config$Selection" = some m.cls := findClass_of_methodNamed Bd.named
  have hnm := (name_of_methodNamed Bd.named Bd.method).1
  have X0 : Stand p l e ({ frames := 6, cells := 10, slots := 64, locals := 193 } : Room) (s.setVm s.vm) m #[(.ref ob)] below meth c s₁ [] 0 0 := Stand.of_body Bd
  have e0 : s₁.heap = h0 := by rw [← hh, Bd.state]; rfl
  have N0 := Fr.nil n0
  have hEL := own_EW hw
  have hCR := CHr.refl hCH
  have hS : s.Since s.vm h0.size := (State.WarmedH.refl s).since _
  have hK0 : h0.size ≤ h0.size := Nat.le_refl _
  refine own_enter (ef_rmTo m ob) ?_
  have n1_ : (Int32.ofNat (s1 : List Int32).length).toInt = ((((s1 : List Int32).map (fun c : Int32 => c.toInt8.toInt32)).map Value.int).length : Int) := by rw [own_ofNat (by omega), List.length_map, List.length_map]
  have n2_ : (Int32.ofNat (s2 : List Int32).length).toInt = ((((s2 : List Int32).map (fun c : Int32 => c.toInt8.toInt32)).map Value.int).length : Int) := by rw [own_ofNat (by omega), List.length_map, List.length_map]
  have n3_ : (Int32.ofNat (s3 : List Int32).length).toInt = ((((s3 : List Int32).map (fun c : Int32 => c.toInt8.toInt32)).map Value.int).length : Int) := by rw [own_ofNat (by omega), List.length_map, List.length_map]
  obtain ⟨T1, h1, X1, e1, E1, A1, D1, -, st1⟩ := newO X0 hx hZ hown (own_w hw 37 rfl) (own_w hw 38 rfl) (own_w hw 39 rfl) e0 (g := (mkF m 0 #[.val (.ref ob)] [])) rfl (hb hby d5_0) (by decide) (by decide)
  obtain ⟨b1, g1⟩ : ∃ z, z = h0.size := ⟨_, rfl⟩
  rw [← g1] at A1 D1 st1
  have G1 : n0 ≤ b1 := Nat.le_trans Z0 (Nat.le_of_eq g1.symm)
  have B1 : h0.size ≤ b1 := Nat.le_trans (Keep.refl h0 []).1 (Nat.le_of_eq g1.symm)
  have CH2 := hCH.ext E1
  have CR2 := CHr.trans hCR (CHr.ext E1 hCH)
  have K3 : Keep h0 h1 [] := (Keep.refl h0 []).ext E1
  have D1_value : Fld Z h1 b1 "java/lang/AbstractStringBuilder" "value" "[B" .null := D1 (Or.inl (own_w hw 52 rfl)) (ty := (.array .byte)) (by decide)
  have D1_coder : Fld Z h1 b1 "java/lang/AbstractStringBuilder" "coder" "B" (.int (0 : Int32)) := D1 (Or.inl (own_w hw 54 rfl)) (ty := .byte) (by decide)
  have D1_count : Fld Z h1 b1 "java/lang/AbstractStringBuilder" "count" "I" (.int (0 : Int32)) := D1 (Or.inl (own_w hw 79 rfl)) (ty := .int) (by decide)
  refine own_st st1 ?_
  show own_Go p e below T1 (mkF m 3 #[.val (.ref ob)] [(.ref b1)]) _
  refine own_st (fun t_ k_ => XS.dup X1.here hx rfl (hb hby d5_3) rfl rfl k_) ?_
  show own_Go p e below T1 (mkF m 4 #[.val (.ref ob)] [(.ref b1), (.ref b1)]) _
  have f4 := (Nat.le_trans Z0 E1.1)
  have f5 := (pO.ext E1)
  obtain ⟨_, _, ⟨T6, L6, k6, n6⟩, -, X6, ⟨Lc6, hQ6, l6, y6, z6⟩, st6⟩ := X1.specialBack hx (y := (⟨"java/lang/StringBuilder", "<init>", "()V"⟩ : MethodName)) rfl hown (mvT hZ (own_w hw 40 rfl)) (mvT hZ (own_w hw 41 rfl)) (mvT hZ (own_w hw 42 rfl)) (by decide) (backOf (W := 1) (rmSbI l Z a0 hw [] b1 .null ((.int (0 : Int32))) zc h1 n0 f4 A1 D1_value D1_coder D1_count G1 pS_COMPACT_STRINGS pP5 f5) hZ (own_w hw 42 rfl) (own_w hw 39 rfl) (by decide) (by decide)) (g := (mkF m 4 #[.val (.ref ob)] [(.ref b1), (.ref b1)])) rfl (by rw [hml]; rfl) (Steps.refl _) (a := b1) (argsL := []) (rest := [(.ref b1)]) (lenOf pd___V rfl) rfl (by show 2 * 0 + _ ≤ _; exact Nat.le_of_eq rfl) (hb hby d5_4) (fun _ _ => ⟨rfl, e1, (by decide : 1 + 1 ≤ _), (by decide : 4 + 16 ≤ _)⟩)
  dsimp only [Pt.U, Pt.locs, Pt.cells, Pt.slots] at X6 l6 y6 z6 st6 hQ6
  try dsimp only [Nat.reduceAdd] at y6 z6
  rw [l6, y6, z6] at X6
  obtain ⟨va_6, kva_6, rfl, Nq6, Kq6, q6_0, q6_1, q6_2, q6_3, q6_4, q6_5, q6_6⟩ := hQ6
  have N6 := Fr.app N0 Nq6
  have Sa7 : ∀ y ∈ [b1], Safe Z own_EL s.vm h1 y := (sfS (Safe.exa hZ.alike A1 (by decide) (by decide)) sf0)
  have CH7 := CH2.keep Kq6 Sa7
  have CR7 := CHr.trans CR2 (CHr.keep Kq6 Sa7 CH2)
  have K8 : Keep h0 T6.heap [] := K3.trans Kq6 (allS (Or.inr B1) all0)
  have Bf9 : h0.size ≤ va_6 := Nat.le_trans K3.1 q6_5
  refine own_tr st6 ?_
  show own_Go p e below T6 (mkF m 7 #[.val (.ref ob)] [(.ref b1)]) _
  have hb0 : (0 : Int32).toInt = (([] : List Value).length : Int) := rfl
  have hr0 : ([(.int 0), (.int 0), (.int 0), (.int 0), (.int 0), (.int 0), (.int 0), (.int 0), (.int 0), (.int 0), (.int 0), (.int 0), (.int 0), (.int 0), (.int 0), (.int 0)] : List Value).length = 16 := rfl
  refine own_st (fun t_ k_ => XS.aloadN X6.here hx rfl (hb hby d5_7) rfl rfl k_) ?_
  show own_Go p e below T6 (mkF m 8 #[.val (.ref ob)] [(.ref ob), (.ref b1)]) _
  have f10 := ((pF_type_ob.ext E1).keep Kq6 (ninS (Nat.ne_of_lt (Nat.lt_of_lt_of_le pE_ob.lt (Nat.le_of_eq g1.symm))) nin0))
  obtain ⟨T11, X11, e11, st11⟩ := getF X6 hx hZ hown (host := "") (Or.inl (own_w hw 26 rfl)) Via.refl rfl f10 (g := (mkF m 8 #[.val (.ref ob)] [(.ref ob), (.ref b1)])) rfl rfl (hb hby d5_8)
  refine own_st st11 ?_
  show own_Go p e below T11 (mkF m 11 #[.val (.ref ob)] [(.ref x1), (.ref b1)]) _
  have ul0 : (((s1 : List Int32).map (fun c : Int32 => c.toInt8.toInt32)).map Value.int : List Value).length ≤ 2 := by simp only [List.length_map, List.length_cons, List.length_nil]; omega
  have rl0 : (([] : List Value).length + ([(.int 0), (.int 0), (.int 0), (.int 0), (.int 0), (.int 0), (.int 0), (.int 0), (.int 0), (.int 0), (.int 0), (.int 0), (.int 0), (.int 0), (.int 0), (.int 0)] : List Value).length) = 16 ∧ ([] : List Value).length ≤ 0 := by
    exact ⟨rfl, Nat.le_refl _⟩
  have f12 := (Nat.le_trans f4 Kq6.1)
  have f13 := ((pE_x1.ext E1).keep Kq6)
  have f14 := ((pF_value_x1.ext E1).keep Kq6 (ninS (Nat.ne_of_lt (Nat.lt_of_lt_of_le pE_x1.lt (Nat.le_of_eq g1.symm))) nin0))
  have f15 := ((pF_coder_x1.ext E1).keep Kq6 (ninS (Nat.ne_of_lt (Nat.lt_of_lt_of_le pE_x1.lt (Nat.le_of_eq g1.symm))) nin0))
  have f16 := ((pV_t1_.ext E1).keep Kq6 (ninS (Nat.ne_of_lt (Nat.lt_of_lt_of_le pV_t1_.lt (Nat.le_of_eq g1.symm))) nin0))
  have f17 := (f5.keep Kq6 (allS G1 all0))
  obtain ⟨cq18, kq18, qa18, qb18, qc18⟩ := isOf hZ e11 q6_0
  obtain ⟨_, _, ⟨T18, L18, k18, n18⟩, -, X18, ⟨Lc18, hQ18, l18, y18, z18⟩, st18⟩ := X11.virtualBack hx (y := (⟨"java/lang/StringBuilder", "append", "(Ljava/lang/String;)Ljava/lang/StringBuilder;"⟩ : MethodName)) (z := (⟨"java/lang/StringBuilder", "append", "(Ljava/lang/String;)Ljava/lang/StringBuilder;"⟩ : MethodName)) hown (mvT hZ (own_w hw 55 rfl)) (mvT hZ (own_w hw 56 rfl)) (notFace_of_selects (args := #[]) (mvT hZ (own_w hw 58 rfl))) (mvT hZ (own_w hw 58 rfl)) (mvT hZ (own_w hw 57 rfl)) (by decide) (backOf (W := 0) (rmSbA l Z a0 hw [] b1 va_6 kva_6 ((16 : Int32)) ((0 : Int32)) ([]) ([(.int 0), (.int 0), (.int 0), (.int 0), (.int 0), (.int 0), (.int 0), (.int 0), (.int 0), (.int 0), (.int 0), (.int 0), (.int 0), (.int 0), (.int 0), (.int 0)]) x1 t1_ k1_ ((Int32.ofNat (s1 : List Int32).length)) (((s1 : List Int32).map (fun c : Int32 => c.toInt8.toInt32)).map Value.int) zc T6.heap n0 f12 q6_0 q6_1 q6_2 q6_3 q6_4 f13 f14 f15 f16 hb0 (by rw [rl0.1]; rfl) n1_ (by omega) (by omega) G1 q6_6 pS_COMPACT_STRINGS pP5 f17) hZ (own_w hw 59 rfl) (own_w hw 39 rfl) (by decide) (by decide)) qa18 qc18 (g := (mkF m 11 #[.val (.ref ob)] [(.ref x1), (.ref b1)])) rfl (by rw [hml]; rfl) (Steps.refl _) (argsL := [(.ref x1)]) (rest := []) (lenOf pd__Ljava_lang_String__Ljava_lang_StringBuilder_ rfl) rfl (by show 2 * 0 + _ ≤ _; exact Nat.le_of_eq rfl) (hb hby d5_11) (fun _ _ => ⟨rfl, e11, (by decide : 2 + 0 ≤ _), (by decide : 20 + 0 ≤ _)⟩)
  dsimp only [Pt.U, Pt.locs, Pt.cells, Pt.slots] at X18 l18 y18 z18 st18 hQ18
  try dsimp only [Nat.reduceAdd] at y18 z18
  rw [l18, y18, z18] at X18
  obtain ⟨rfl, Nq18, Kq18, q18_0, q18_1, q18_2, q18_3, q18_4⟩ := hQ18
  have N18 := Fr.app N6 Nq18
  have f20 := (Safe.keep Kq6 Sa7 CH2 (Safe.new (x := va_6) q6_5))
  have Sa19 : ∀ y ∈ [b1, va_6], Safe Z own_EL s.vm T6.heap y := (sfS (Safe.exa hZ.alike q6_0 (by decide) (by decide)) (sfS f20 sf0))
  have CH19 := CH7.keep Kq18 Sa19
  have CR19 := CHr.trans CR7 (CHr.keep Kq18 Sa19 CH7)
  have K21 : Keep h0 T18.heap [] := K8.trans Kq18 (allS (Or.inr B1) (allS (Or.inr Bf9) all0))
  refine own_tr st18 ?_
  show own_Go p e below T18 (mkF m 14 #[.val (.ref ob)] [(.ref b1)]) _
  obtain ⟨Bz1, hB1_⟩ : ∃ b : List Value, b = ([]) ++ ((s1 : List Int32).map (fun c : Int32 => c.toInt8.toInt32)).map Value.int := ⟨_, rfl⟩
  obtain ⟨Rz1, hR1_⟩ : ∃ b : List Value, b = List.drop (((s1 : List Int32).map (fun c : Int32 => c.toInt8.toInt32)).map Value.int : List Value).length ([(.int 0), (.int 0), (.int 0), (.int 0), (.int 0), (.int 0), (.int 0), (.int 0), (.int 0), (.int 0), (.int 0), (.int 0), (.int 0), (.int 0), (.int 0), (.int 0)]) := ⟨_, rfl⟩
  obtain ⟨Cz1, hC1_⟩ : ∃ c : Int32, c = (0 : Int32) + (Int32.ofNat (s1 : List Int32).length) := ⟨_, rfl⟩
  rw [← hB1_, ← hR1_] at q18_4
  rw [← hC1_] at q18_3
  have hb1 : Cz1.toInt = (Bz1.length : Int) := by rw [hC1_, hB1_, List.length_append]; exact own_addI hb0 n1_ (by omega)
  have f23 := (Nat.le_trans (Nat.le_trans (Nat.le_trans hK0 E1.1) Kq6.1) Kq18.1)
  obtain ⟨b22, T22, h22, k22, t22, kb22, X22, e22, E22, hS, hk22, hZ, hown, xE22, xC22, xV22, xA22, -, -, A22, -, -, st22⟩ := ldcCH X18 hx hZ hown (own_w hw 105 rfl) (own_wS hw) rfl hS f23 hEL (List.mem_of_getElem? (i := 0) rfl) CH19 (vs := [(.int 91)]) (z := (1 : Int32)) (by decide +kernel) (by decide) (by decide) (g := (mkF m 14 #[.val (.ref ob)] [(.ref b1)])) rfl (hb hby d5_14) (n := 4) (by decide) (by decide) (by decide) (by decide)
  have CH24 := A22.1
  have CR24 := CHr.trans CR19 (A22)
  have K25 : Keep h0 h22 [] := K21.ext E22
  refine own_st st22 ?_
  show own_Go p e below T22 (mkF m 16 #[.val (.ref ob)] [(.ref b22), (.ref b1)]) _
  have ul1 : ([(.int 91)] : List Value).length ≤ 2 := by simp only [List.length_map, List.length_cons, List.length_nil]; omega
  have rl1 : ((Bz1 : List Value).length + (Rz1 : List Value).length) = 16 ∧ (Bz1 : List Value).length ≤ 2 := by
    rw [hB1_, hR1_]; simp only [List.length_append, List.length_drop]; omega
  have f26 := (Nat.le_trans (Nat.le_trans f12 Kq18.1) E22.1)
  have f27 := (q18_0.ext E22)
  have f28 := (q18_1.ext E22)
  have f29 := (q18_2.ext E22)
  have f30 := (q18_3.ext E22)
  have f31 := (q18_4.ext E22)
  have f32 := ((f17.keep Kq18 (allS G1 (allS q6_6 all0))).ext E22)
  obtain ⟨cq33, kq33, qa33, qb33, qc33⟩ := isOf hZ e22 f27
  obtain ⟨_, _, ⟨T33, L33, k33, n33⟩, -, X33, ⟨Lc33, hQ33, l33, y33, z33⟩, st33⟩ := X22.virtualBack hx (y := (⟨"java/lang/StringBuilder", "append", "(Ljava/lang/String;)Ljava/lang/StringBuilder;"⟩ : MethodName)) (z := (⟨"java/lang/StringBuilder", "append", "(Ljava/lang/String;)Ljava/lang/StringBuilder;"⟩ : MethodName)) hown (mvT hZ (own_w hw 55 rfl)) (mvT hZ (own_w hw 56 rfl)) (notFace_of_selects (args := #[]) (mvT hZ (own_w hw 58 rfl))) (mvT hZ (own_w hw 58 rfl)) (mvT hZ (own_w hw 57 rfl)) (by decide) (backOf (W := 0) (rmSbA l Z a0 hw [] b1 va_6 kva_6 ((16 : Int32)) Cz1 Bz1 Rz1 b22 t22 kb22 ((1 : Int32)) ([(.int 91)]) zc h22 n0 f26 f27 f28 f29 f30 f31 xE22 xV22 xC22 xA22 hb1 (by rw [rl1.1]; rfl) rfl (by omega) (by omega) G1 q6_6 pS_COMPACT_STRINGS pP5 f32) hZ (own_w hw 59 rfl) (own_w hw 39 rfl) (by decide) (by decide)) qa33 qc33 (g := (mkF m 16 #[.val (.ref ob)] [(.ref b22), (.ref b1)])) rfl (by rw [hml]; rfl) (Steps.refl _) (argsL := [(.ref b22)]) (rest := []) (lenOf pd__Ljava_lang_String__Ljava_lang_StringBuilder_ rfl) rfl (by show 2 * 0 + _ ≤ _; exact Nat.le_of_eq rfl) (hb hby d5_16) (fun _ _ => ⟨rfl, e22, (by decide : 4 + 0 ≤ _), (by decide : 28 + 0 ≤ _)⟩)
  dsimp only [Pt.U, Pt.locs, Pt.cells, Pt.slots] at X33 l33 y33 z33 st33 hQ33
  try dsimp only [Nat.reduceAdd] at y33 z33
  rw [l33, y33, z33] at X33
  obtain ⟨rfl, Nq33, Kq33, q33_0, q33_1, q33_2, q33_3, q33_4⟩ := hQ33
  have N33 := Fr.app N18 Nq33
  have f35 := (CHr.safe A22 q18_4.lt (Safe.keep Kq18 Sa19 CH7 f20))
  have Sa34 : ∀ y ∈ [b1, va_6], Safe Z own_EL T22.vm h22 y := (sfS (Safe.exa hZ.alike f27 (by decide) (by decide)) (sfS f35 sf0))
  have CH34 := CH24.keep Kq33 Sa34
  have CR34 := CHr.trans CR24 (CHr.keep Kq33 Sa34 CH24)
  have K36 : Keep h0 T33.heap [] := K25.trans Kq33 (allS (Or.inr B1) (allS (Or.inr Bf9) all0))
  refine own_tr st33 ?_
  show own_Go p e below T33 (mkF m 19 #[.val (.ref ob)] [(.ref b1)]) _
  obtain ⟨Bz2, hB2_⟩ : ∃ b : List Value, b = (Bz1) ++ [(.int 91)] := ⟨_, rfl⟩
  obtain ⟨Rz2, hR2_⟩ : ∃ b : List Value, b = List.drop ([(.int 91)] : List Value).length (Rz1) := ⟨_, rfl⟩
  obtain ⟨Cz2, hC2_⟩ : ∃ c : Int32, c = Cz1 + (1 : Int32) := ⟨_, rfl⟩
  rw [← hB2_, ← hR2_] at q33_4
  rw [← hC2_] at q33_3
  have hb2 : Cz2.toInt = (Bz2.length : Int) := by rw [hC2_, hB2_, List.length_append]; exact own_addI hb1 rfl (by omega)
  refine own_st (fun t_ k_ => XS.aloadN X33.here hx rfl (hb hby d5_19) rfl rfl k_) ?_
  show own_Go p e below T33 (mkF m 20 #[.val (.ref ob)] [(.ref ob), (.ref b1)]) _
  have f37 := (((((pF_key_ob.ext E1).keep Kq6 (ninS (Nat.ne_of_lt (Nat.lt_of_lt_of_le pE_ob.lt (Nat.le_of_eq g1.symm))) nin0)).keep Kq18 (ninS (Nat.ne_of_lt (Nat.lt_of_lt_of_le pE_ob.lt (Nat.le_of_eq g1.symm))) (ninS (Nat.ne_of_lt (Nat.lt_of_lt_of_le (pE_ob.ext E1).lt q6_5)) nin0))).ext E22).keep Kq33 (ninS (Nat.ne_of_lt (Nat.lt_of_lt_of_le pE_ob.lt (Nat.le_of_eq g1.symm))) (ninS (Nat.ne_of_lt (Nat.lt_of_lt_of_le (pE_ob.ext E1).lt q6_5)) nin0)))
  obtain ⟨T38, X38, e38, st38⟩ := getF X33 hx hZ hown (host := "") (Or.inl (own_w hw 28 rfl)) Via.refl rfl f37 (g := (mkF m 20 #[.val (.ref ob)] [(.ref ob), (.ref b1)])) rfl rfl (hb hby d5_20)
  refine own_st st38 ?_
  show own_Go p e below T38 (mkF m 23 #[.val (.ref ob)] [(.ref x2), (.ref b1)]) _
  have ul2 : (((s2 : List Int32).map (fun c : Int32 => c.toInt8.toInt32)).map Value.int : List Value).length ≤ 2 := by simp only [List.length_map, List.length_cons, List.length_nil]; omega
  have rl2 : ((Bz2 : List Value).length + (Rz2 : List Value).length) = 16 ∧ (Bz2 : List Value).length ≤ 4 := by
    rw [hB2_, hR2_]; simp only [List.length_append, List.length_drop]; omega
  have f39 := (Nat.le_trans f26 Kq33.1)
  have f40 := (((((pE_x2.ext E1).keep Kq6).keep Kq18).ext E22).keep Kq33)
  have f41 := (((((pF_value_x2.ext E1).keep Kq6 (ninS (Nat.ne_of_lt (Nat.lt_of_lt_of_le pE_x2.lt (Nat.le_of_eq g1.symm))) nin0)).keep Kq18 (ninS (Nat.ne_of_lt (Nat.lt_of_lt_of_le pE_x2.lt (Nat.le_of_eq g1.symm))) (ninS (Nat.ne_of_lt (Nat.lt_of_lt_of_le (pE_x2.ext E1).lt q6_5)) nin0))).ext E22).keep Kq33 (ninS (Nat.ne_of_lt (Nat.lt_of_lt_of_le pE_x2.lt (Nat.le_of_eq g1.symm))) (ninS (Nat.ne_of_lt (Nat.lt_of_lt_of_le (pE_x2.ext E1).lt q6_5)) nin0)))
  have f42 := (((((pF_coder_x2.ext E1).keep Kq6 (ninS (Nat.ne_of_lt (Nat.lt_of_lt_of_le pE_x2.lt (Nat.le_of_eq g1.symm))) nin0)).keep Kq18 (ninS (Nat.ne_of_lt (Nat.lt_of_lt_of_le pE_x2.lt (Nat.le_of_eq g1.symm))) (ninS (Nat.ne_of_lt (Nat.lt_of_lt_of_le (pE_x2.ext E1).lt q6_5)) nin0))).ext E22).keep Kq33 (ninS (Nat.ne_of_lt (Nat.lt_of_lt_of_le pE_x2.lt (Nat.le_of_eq g1.symm))) (ninS (Nat.ne_of_lt (Nat.lt_of_lt_of_le (pE_x2.ext E1).lt q6_5)) nin0)))
  have f43 := (((((pV_t2_.ext E1).keep Kq6 (ninS (Nat.ne_of_lt (Nat.lt_of_lt_of_le pV_t2_.lt (Nat.le_of_eq g1.symm))) nin0)).keep Kq18 (ninS (Nat.ne_of_lt (Nat.lt_of_lt_of_le pV_t2_.lt (Nat.le_of_eq g1.symm))) (ninS (Nat.ne_of_lt (Nat.lt_of_lt_of_le (pV_t2_.ext E1).lt q6_5)) nin0))).ext E22).keep Kq33 (ninS (Nat.ne_of_lt (Nat.lt_of_lt_of_le pV_t2_.lt (Nat.le_of_eq g1.symm))) (ninS (Nat.ne_of_lt (Nat.lt_of_lt_of_le (pV_t2_.ext E1).lt q6_5)) nin0)))
  have f44 := (f32.keep Kq33 (allS G1 (allS q6_6 all0)))
  obtain ⟨cq45, kq45, qa45, qb45, qc45⟩ := isOf hZ e38 q33_0
  obtain ⟨_, _, ⟨T45, L45, k45, n45⟩, -, X45, ⟨Lc45, hQ45, l45, y45, z45⟩, st45⟩ := X38.virtualBack hx (y := (⟨"java/lang/StringBuilder", "append", "(Ljava/lang/String;)Ljava/lang/StringBuilder;"⟩ : MethodName)) (z := (⟨"java/lang/StringBuilder", "append", "(Ljava/lang/String;)Ljava/lang/StringBuilder;"⟩ : MethodName)) hown (mvT hZ (own_w hw 55 rfl)) (mvT hZ (own_w hw 56 rfl)) (notFace_of_selects (args := #[]) (mvT hZ (own_w hw 58 rfl))) (mvT hZ (own_w hw 58 rfl)) (mvT hZ (own_w hw 57 rfl)) (by decide) (backOf (W := 0) (rmSbA l Z a0 hw [] b1 va_6 kva_6 ((16 : Int32)) Cz2 Bz2 Rz2 x2 t2_ k2_ ((Int32.ofNat (s2 : List Int32).length)) (((s2 : List Int32).map (fun c : Int32 => c.toInt8.toInt32)).map Value.int) zc T33.heap n0 f39 q33_0 q33_1 q33_2 q33_3 q33_4 f40 f41 f42 f43 hb2 (by rw [rl2.1]; rfl) n2_ (by omega) (by omega) G1 q6_6 pS_COMPACT_STRINGS pP5 f44) hZ (own_w hw 59 rfl) (own_w hw 39 rfl) (by decide) (by decide)) qa45 qc45 (g := (mkF m 23 #[.val (.ref ob)] [(.ref x2), (.ref b1)])) rfl (by rw [hml]; rfl) (Steps.refl _) (argsL := [(.ref x2)]) (rest := []) (lenOf pd__Ljava_lang_String__Ljava_lang_StringBuilder_ rfl) rfl (by show 2 * 0 + _ ≤ _; exact Nat.le_of_eq rfl) (hb hby d5_23) (fun _ _ => ⟨rfl, e38, (by decide : 4 + 0 ≤ _), (by decide : 28 + 0 ≤ _)⟩)
  dsimp only [Pt.U, Pt.locs, Pt.cells, Pt.slots] at X45 l45 y45 z45 st45 hQ45
  try dsimp only [Nat.reduceAdd] at y45 z45
  rw [l45, y45, z45] at X45
  obtain ⟨rfl, Nq45, Kq45, q45_0, q45_1, q45_2, q45_3, q45_4⟩ := hQ45
  have N45 := Fr.app N33 Nq45
  have f47 := (Safe.keep Kq33 Sa34 CH24 f35)
  have Sa46 : ∀ y ∈ [b1, va_6], Safe Z own_EL T22.vm T33.heap y := (sfS (Safe.exa hZ.alike q33_0 (by decide) (by decide)) (sfS f47 sf0))
  have CH46 := CH34.keep Kq45 Sa46
  have CR46 := CHr.trans CR34 (CHr.keep Kq45 Sa46 CH34)
  have K48 : Keep h0 T45.heap [] := K36.trans Kq45 (allS (Or.inr B1) (allS (Or.inr Bf9) all0))
  refine own_tr st45 ?_
  show own_Go p e below T45 (mkF m 26 #[.val (.ref ob)] [(.ref b1)]) _
  obtain ⟨Bz3, hB3_⟩ : ∃ b : List Value, b = (Bz2) ++ ((s2 : List Int32).map (fun c : Int32 => c.toInt8.toInt32)).map Value.int := ⟨_, rfl⟩
  obtain ⟨Rz3, hR3_⟩ : ∃ b : List Value, b = List.drop (((s2 : List Int32).map (fun c : Int32 => c.toInt8.toInt32)).map Value.int : List Value).length (Rz2) := ⟨_, rfl⟩
  obtain ⟨Cz3, hC3_⟩ : ∃ c : Int32, c = Cz2 + (Int32.ofNat (s2 : List Int32).length) := ⟨_, rfl⟩
  rw [← hB3_, ← hR3_] at q45_4
  rw [← hC3_] at q45_3
  have hb3 : Cz3.toInt = (Bz3.length : Int) := by rw [hC3_, hB3_, List.length_append]; exact own_addI hb2 n2_ (by omega)
  have f50 := (Nat.le_trans (Nat.le_trans hk22 Kq33.1) Kq45.1)
  obtain ⟨b49, T49, h49, k49, t49, kb49, X49, e49, E49, hS, hk49, hZ, hown, xE49, xC49, xV49, xA49, -, -, A49, -, -, st49⟩ := ldcCH X45 hx hZ hown (own_w hw 106 rfl) (own_wS hw) rfl hS f50 hEL (List.mem_of_getElem? (i := 1) rfl) CH46 (vs := [(.int 61)]) (z := (1 : Int32)) (by decide +kernel) (by decide) (by decide) (g := (mkF m 26 #[.val (.ref ob)] [(.ref b1)])) rfl (hb hby d5_26) (n := 4) (by decide) (by decide) (by decide) (by decide)
  have CH51 := A49.1
  have CR51 := CHr.trans CR46 (A49)
  have K52 : Keep h0 h49 [] := K48.ext E49
  refine own_st st49 ?_
  show own_Go p e below T49 (mkF m 28 #[.val (.ref ob)] [(.ref b49), (.ref b1)]) _
  have ul3 : ([(.int 61)] : List Value).length ≤ 2 := by simp only [List.length_map, List.length_cons, List.length_nil]; omega
  have rl3 : ((Bz3 : List Value).length + (Rz3 : List Value).length) = 16 ∧ (Bz3 : List Value).length ≤ 6 := by
    rw [hB3_, hR3_]; simp only [List.length_append, List.length_drop]; omega
  have f53 := (Nat.le_trans (Nat.le_trans f39 Kq45.1) E49.1)
  have f54 := (q45_0.ext E49)
  have f55 := (q45_1.ext E49)
  have f56 := (q45_2.ext E49)
  have f57 := (q45_3.ext E49)
  have f58 := (q45_4.ext E49)
  have f59 := ((f44.keep Kq45 (allS G1 (allS q6_6 all0))).ext E49)
  obtain ⟨cq60, kq60, qa60, qb60, qc60⟩ := isOf hZ e49 f54
  obtain ⟨_, _, ⟨T60, L60, k60, n60⟩, -, X60, ⟨Lc60, hQ60, l60, y60, z60⟩, st60⟩ := X49.virtualBack hx (y := (⟨"java/lang/StringBuilder", "append", "(Ljava/lang/String;)Ljava/lang/StringBuilder;"⟩ : MethodName)) (z := (⟨"java/lang/StringBuilder", "append", "(Ljava/lang/String;)Ljava/lang/StringBuilder;"⟩ : MethodName)) hown (mvT hZ (own_w hw 55 rfl)) (mvT hZ (own_w hw 56 rfl)) (notFace_of_selects (args := #[]) (mvT hZ (own_w hw 58 rfl))) (mvT hZ (own_w hw 58 rfl)) (mvT hZ (own_w hw 57 rfl)) (by decide) (backOf (W := 0) (rmSbA l Z a0 hw [] b1 va_6 kva_6 ((16 : Int32)) Cz3 Bz3 Rz3 b49 t49 kb49 ((1 : Int32)) ([(.int 61)]) zc h49 n0 f53 f54 f55 f56 f57 f58 xE49 xV49 xC49 xA49 hb3 (by rw [rl3.1]; rfl) rfl (by omega) (by omega) G1 q6_6 pS_COMPACT_STRINGS pP5 f59) hZ (own_w hw 59 rfl) (own_w hw 39 rfl) (by decide) (by decide)) qa60 qc60 (g := (mkF m 28 #[.val (.ref ob)] [(.ref b49), (.ref b1)])) rfl (by rw [hml]; rfl) (Steps.refl _) (argsL := [(.ref b49)]) (rest := []) (lenOf pd__Ljava_lang_String__Ljava_lang_StringBuilder_ rfl) rfl (by show 2 * 0 + _ ≤ _; exact Nat.le_of_eq rfl) (hb hby d5_28) (fun _ _ => ⟨rfl, e49, (by decide : 6 + 0 ≤ _), (by decide : 36 + 0 ≤ _)⟩)
  dsimp only [Pt.U, Pt.locs, Pt.cells, Pt.slots] at X60 l60 y60 z60 st60 hQ60
  try dsimp only [Nat.reduceAdd] at y60 z60
  rw [l60, y60, z60] at X60
  obtain ⟨rfl, Nq60, Kq60, q60_0, q60_1, q60_2, q60_3, q60_4⟩ := hQ60
  have N60 := Fr.app N45 Nq60
  have f62 := (CHr.safe A49 q45_4.lt (Safe.keep Kq45 Sa46 CH34 f47))
  have Sa61 : ∀ y ∈ [b1, va_6], Safe Z own_EL T49.vm h49 y := (sfS (Safe.exa hZ.alike f54 (by decide) (by decide)) (sfS f62 sf0))
  have CH61 := CH51.keep Kq60 Sa61
  have CR61 := CHr.trans CR51 (CHr.keep Kq60 Sa61 CH51)
  have K63 : Keep h0 T60.heap [] := K52.trans Kq60 (allS (Or.inr B1) (allS (Or.inr Bf9) all0))
  refine own_tr st60 ?_
  show own_Go p e below T60 (mkF m 31 #[.val (.ref ob)] [(.ref b1)]) _
  obtain ⟨Bz4, hB4_⟩ : ∃ b : List Value, b = (Bz3) ++ [(.int 61)] := ⟨_, rfl⟩
  obtain ⟨Rz4, hR4_⟩ : ∃ b : List Value, b = List.drop ([(.int 61)] : List Value).length (Rz3) := ⟨_, rfl⟩
  obtain ⟨Cz4, hC4_⟩ : ∃ c : Int32, c = Cz3 + (1 : Int32) := ⟨_, rfl⟩
  rw [← hB4_, ← hR4_] at q60_4
  rw [← hC4_] at q60_3
  have hb4 : Cz4.toInt = (Bz4.length : Int) := by rw [hC4_, hB4_, List.length_append]; exact own_addI hb3 rfl (by omega)
  refine own_st (fun t_ k_ => XS.aloadN X60.here hx rfl (hb hby d5_31) rfl rfl k_) ?_
  show own_Go p e below T60 (mkF m 32 #[.val (.ref ob)] [(.ref ob), (.ref b1)]) _
  have f64 := ((((((((pF_value_ob.ext E1).keep Kq6 (ninS (Nat.ne_of_lt (Nat.lt_of_lt_of_le pE_ob.lt (Nat.le_of_eq g1.symm))) nin0)).keep Kq18 (ninS (Nat.ne_of_lt (Nat.lt_of_lt_of_le pE_ob.lt (Nat.le_of_eq g1.symm))) (ninS (Nat.ne_of_lt (Nat.lt_of_lt_of_le (pE_ob.ext E1).lt q6_5)) nin0))).ext E22).keep Kq33 (ninS (Nat.ne_of_lt (Nat.lt_of_lt_of_le pE_ob.lt (Nat.le_of_eq g1.symm))) (ninS (Nat.ne_of_lt (Nat.lt_of_lt_of_le (pE_ob.ext E1).lt q6_5)) nin0))).keep Kq45 (ninS (Nat.ne_of_lt (Nat.lt_of_lt_of_le pE_ob.lt (Nat.le_of_eq g1.symm))) (ninS (Nat.ne_of_lt (Nat.lt_of_lt_of_le (pE_ob.ext E1).lt q6_5)) nin0))).ext E49).keep Kq60 (ninS (Nat.ne_of_lt (Nat.lt_of_lt_of_le pE_ob.lt (Nat.le_of_eq g1.symm))) (ninS (Nat.ne_of_lt (Nat.lt_of_lt_of_le (pE_ob.ext E1).lt q6_5)) nin0)))
  obtain ⟨T65, X65, e65, st65⟩ := getF X60 hx hZ hown (host := "") (Or.inl (own_w hw 30 rfl)) Via.refl rfl f64 (g := (mkF m 32 #[.val (.ref ob)] [(.ref ob), (.ref b1)])) rfl rfl (hb hby d5_32)
  refine own_st st65 ?_
  show own_Go p e below T65 (mkF m 35 #[.val (.ref ob)] [(.ref x3), (.ref b1)]) _
  have ul4 : (((s3 : List Int32).map (fun c : Int32 => c.toInt8.toInt32)).map Value.int : List Value).length ≤ 2 := by simp only [List.length_map, List.length_cons, List.length_nil]; omega
  have rl4 : ((Bz4 : List Value).length + (Rz4 : List Value).length) = 16 ∧ (Bz4 : List Value).length ≤ 8 := by
    rw [hB4_, hR4_]; simp only [List.length_append, List.length_drop]; omega
  have f66 := (Nat.le_trans f53 Kq60.1)
  have f67 := ((((((((pE_x3.ext E1).keep Kq6).keep Kq18).ext E22).keep Kq33).keep Kq45).ext E49).keep Kq60)
  have f68 := ((((((((pF_value_x3.ext E1).keep Kq6 (ninS (Nat.ne_of_lt (Nat.lt_of_lt_of_le pE_x3.lt (Nat.le_of_eq g1.symm))) nin0)).keep Kq18 (ninS (Nat.ne_of_lt (Nat.lt_of_lt_of_le pE_x3.lt (Nat.le_of_eq g1.symm))) (ninS (Nat.ne_of_lt (Nat.lt_of_lt_of_le (pE_x3.ext E1).lt q6_5)) nin0))).ext E22).keep Kq33 (ninS (Nat.ne_of_lt (Nat.lt_of_lt_of_le pE_x3.lt (Nat.le_of_eq g1.symm))) (ninS (Nat.ne_of_lt (Nat.lt_of_lt_of_le (pE_x3.ext E1).lt q6_5)) nin0))).keep Kq45 (ninS (Nat.ne_of_lt (Nat.lt_of_lt_of_le pE_x3.lt (Nat.le_of_eq g1.symm))) (ninS (Nat.ne_of_lt (Nat.lt_of_lt_of_le (pE_x3.ext E1).lt q6_5)) nin0))).ext E49).keep Kq60 (ninS (Nat.ne_of_lt (Nat.lt_of_lt_of_le pE_x3.lt (Nat.le_of_eq g1.symm))) (ninS (Nat.ne_of_lt (Nat.lt_of_lt_of_le (pE_x3.ext E1).lt q6_5)) nin0)))
  have f69 := ((((((((pF_coder_x3.ext E1).keep Kq6 (ninS (Nat.ne_of_lt (Nat.lt_of_lt_of_le pE_x3.lt (Nat.le_of_eq g1.symm))) nin0)).keep Kq18 (ninS (Nat.ne_of_lt (Nat.lt_of_lt_of_le pE_x3.lt (Nat.le_of_eq g1.symm))) (ninS (Nat.ne_of_lt (Nat.lt_of_lt_of_le (pE_x3.ext E1).lt q6_5)) nin0))).ext E22).keep Kq33 (ninS (Nat.ne_of_lt (Nat.lt_of_lt_of_le pE_x3.lt (Nat.le_of_eq g1.symm))) (ninS (Nat.ne_of_lt (Nat.lt_of_lt_of_le (pE_x3.ext E1).lt q6_5)) nin0))).keep Kq45 (ninS (Nat.ne_of_lt (Nat.lt_of_lt_of_le pE_x3.lt (Nat.le_of_eq g1.symm))) (ninS (Nat.ne_of_lt (Nat.lt_of_lt_of_le (pE_x3.ext E1).lt q6_5)) nin0))).ext E49).keep Kq60 (ninS (Nat.ne_of_lt (Nat.lt_of_lt_of_le pE_x3.lt (Nat.le_of_eq g1.symm))) (ninS (Nat.ne_of_lt (Nat.lt_of_lt_of_le (pE_x3.ext E1).lt q6_5)) nin0)))
  have f70 := ((((((((pV_t3_.ext E1).keep Kq6 (ninS (Nat.ne_of_lt (Nat.lt_of_lt_of_le pV_t3_.lt (Nat.le_of_eq g1.symm))) nin0)).keep Kq18 (ninS (Nat.ne_of_lt (Nat.lt_of_lt_of_le pV_t3_.lt (Nat.le_of_eq g1.symm))) (ninS (Nat.ne_of_lt (Nat.lt_of_lt_of_le (pV_t3_.ext E1).lt q6_5)) nin0))).ext E22).keep Kq33 (ninS (Nat.ne_of_lt (Nat.lt_of_lt_of_le pV_t3_.lt (Nat.le_of_eq g1.symm))) (ninS (Nat.ne_of_lt (Nat.lt_of_lt_of_le (pV_t3_.ext E1).lt q6_5)) nin0))).keep Kq45 (ninS (Nat.ne_of_lt (Nat.lt_of_lt_of_le pV_t3_.lt (Nat.le_of_eq g1.symm))) (ninS (Nat.ne_of_lt (Nat.lt_of_lt_of_le (pV_t3_.ext E1).lt q6_5)) nin0))).ext E49).keep Kq60 (ninS (Nat.ne_of_lt (Nat.lt_of_lt_of_le pV_t3_.lt (Nat.le_of_eq g1.symm))) (ninS (Nat.ne_of_lt (Nat.lt_of_lt_of_le (pV_t3_.ext E1).lt q6_5)) nin0)))
  have f71 := (f59.keep Kq60 (allS G1 (allS q6_6 all0)))
  obtain ⟨cq72, kq72, qa72, qb72, qc72⟩ := isOf hZ e65 q60_0
  obtain ⟨_, _, ⟨T72, L72, k72, n72⟩, -, X72, ⟨Lc72, hQ72, l72, y72, z72⟩, st72⟩ := X65.virtualBack hx (y := (⟨"java/lang/StringBuilder", "append", "(Ljava/lang/String;)Ljava/lang/StringBuilder;"⟩ : MethodName)) (z := (⟨"java/lang/StringBuilder", "append", "(Ljava/lang/String;)Ljava/lang/StringBuilder;"⟩ : MethodName)) hown (mvT hZ (own_w hw 55 rfl)) (mvT hZ (own_w hw 56 rfl)) (notFace_of_selects (args := #[]) (mvT hZ (own_w hw 58 rfl))) (mvT hZ (own_w hw 58 rfl)) (mvT hZ (own_w hw 57 rfl)) (by decide) (backOf (W := 0) (rmSbA l Z a0 hw [] b1 va_6 kva_6 ((16 : Int32)) Cz4 Bz4 Rz4 x3 t3_ k3_ ((Int32.ofNat (s3 : List Int32).length)) (((s3 : List Int32).map (fun c : Int32 => c.toInt8.toInt32)).map Value.int) zc T60.heap n0 f66 q60_0 q60_1 q60_2 q60_3 q60_4 f67 f68 f69 f70 hb4 (by rw [rl4.1]; rfl) n3_ (by omega) (by omega) G1 q6_6 pS_COMPACT_STRINGS pP5 f71) hZ (own_w hw 59 rfl) (own_w hw 39 rfl) (by decide) (by decide)) qa72 qc72 (g := (mkF m 35 #[.val (.ref ob)] [(.ref x3), (.ref b1)])) rfl (by rw [hml]; rfl) (Steps.refl _) (argsL := [(.ref x3)]) (rest := []) (lenOf pd__Ljava_lang_String__Ljava_lang_StringBuilder_ rfl) rfl (by show 2 * 0 + _ ≤ _; exact Nat.le_of_eq rfl) (hb hby d5_35) (fun _ _ => ⟨rfl, e65, (by decide : 6 + 0 ≤ _), (by decide : 36 + 0 ≤ _)⟩)
  dsimp only [Pt.U, Pt.locs, Pt.cells, Pt.slots] at X72 l72 y72 z72 st72 hQ72
  try dsimp only [Nat.reduceAdd] at y72 z72
  rw [l72, y72, z72] at X72
  obtain ⟨rfl, Nq72, Kq72, q72_0, q72_1, q72_2, q72_3, q72_4⟩ := hQ72
  have N72 := Fr.app N60 Nq72
  have f74 := (Safe.keep Kq60 Sa61 CH51 f62)
  have Sa73 : ∀ y ∈ [b1, va_6], Safe Z own_EL T49.vm T60.heap y := (sfS (Safe.exa hZ.alike q60_0 (by decide) (by decide)) (sfS f74 sf0))
  have CH73 := CH61.keep Kq72 Sa73
  have CR73 := CHr.trans CR61 (CHr.keep Kq72 Sa73 CH61)
  have K75 : Keep h0 T72.heap [] := K63.trans Kq72 (allS (Or.inr B1) (allS (Or.inr Bf9) all0))
  refine own_tr st72 ?_
  show own_Go p e below T72 (mkF m 38 #[.val (.ref ob)] [(.ref b1)]) _
  obtain ⟨Bz5, hB5_⟩ : ∃ b : List Value, b = (Bz4) ++ ((s3 : List Int32).map (fun c : Int32 => c.toInt8.toInt32)).map Value.int := ⟨_, rfl⟩
  obtain ⟨Rz5, hR5_⟩ : ∃ b : List Value, b = List.drop (((s3 : List Int32).map (fun c : Int32 => c.toInt8.toInt32)).map Value.int : List Value).length (Rz4) := ⟨_, rfl⟩
  obtain ⟨Cz5, hC5_⟩ : ∃ c : Int32, c = Cz4 + (Int32.ofNat (s3 : List Int32).length) := ⟨_, rfl⟩
  rw [← hB5_, ← hR5_] at q72_4
  rw [← hC5_] at q72_3
  have hb5 : Cz5.toInt = (Bz5.length : Int) := by rw [hC5_, hB5_, List.length_append]; exact own_addI hb4 n3_ (by omega)
  have f77 := (Nat.le_trans (Nat.le_trans hk49 Kq60.1) Kq72.1)
  obtain ⟨b76, T76, h76, k76, t76, kb76, X76, e76, E76, hS, hk76, hZ, hown, xE76, xC76, xV76, xA76, -, -, A76, -, -, st76⟩ := ldcCH X72 hx hZ hown (own_w hw 107 rfl) (own_wS hw) rfl hS f77 hEL (List.mem_of_getElem? (i := 2) rfl) CH73 (vs := [(.int 93)]) (z := (1 : Int32)) (by decide +kernel) (by decide) (by decide) (g := (mkF m 38 #[.val (.ref ob)] [(.ref b1)])) rfl (hb hby d5_38) (n := 4) (by decide) (by decide) (by decide) (by decide)
  have CH78 := A76.1
  have CR78 := CHr.trans CR73 (A76)
  have K79 : Keep h0 h76 [] := K75.ext E76
  refine own_st st76 ?_
  show own_Go p e below T76 (mkF m 40 #[.val (.ref ob)] [(.ref b76), (.ref b1)]) _
  have ul5 : ([(.int 93)] : List Value).length ≤ 2 := by simp only [List.length_map, List.length_cons, List.length_nil]; omega
  have rl5 : ((Bz5 : List Value).length + (Rz5 : List Value).length) = 16 ∧ (Bz5 : List Value).length ≤ 10 := by
    rw [hB5_, hR5_]; simp only [List.length_append, List.length_drop]; omega
  have f80 := (Nat.le_trans (Nat.le_trans f66 Kq72.1) E76.1)
  have f81 := (q72_0.ext E76)
  have f82 := (q72_1.ext E76)
  have f83 := (q72_2.ext E76)
  have f84 := (q72_3.ext E76)
  have f85 := (q72_4.ext E76)
  have f86 := ((f71.keep Kq72 (allS G1 (allS q6_6 all0))).ext E76)
  obtain ⟨cq87, kq87, qa87, qb87, qc87⟩ := isOf hZ e76 f81
  obtain ⟨_, _, ⟨T87, L87, k87, n87⟩, -, X87, ⟨Lc87, hQ87, l87, y87, z87⟩, st87⟩ := X76.virtualBack hx (y := (⟨"java/lang/StringBuilder", "append", "(Ljava/lang/String;)Ljava/lang/StringBuilder;"⟩ : MethodName)) (z := (⟨"java/lang/StringBuilder", "append", "(Ljava/lang/String;)Ljava/lang/StringBuilder;"⟩ : MethodName)) hown (mvT hZ (own_w hw 55 rfl)) (mvT hZ (own_w hw 56 rfl)) (notFace_of_selects (args := #[]) (mvT hZ (own_w hw 58 rfl))) (mvT hZ (own_w hw 58 rfl)) (mvT hZ (own_w hw 57 rfl)) (by decide) (backOf (W := 0) (rmSbA l Z a0 hw [] b1 va_6 kva_6 ((16 : Int32)) Cz5 Bz5 Rz5 b76 t76 kb76 ((1 : Int32)) ([(.int 93)]) zc h76 n0 f80 f81 f82 f83 f84 f85 xE76 xV76 xC76 xA76 hb5 (by rw [rl5.1]; rfl) rfl (by omega) (by omega) G1 q6_6 pS_COMPACT_STRINGS pP5 f86) hZ (own_w hw 59 rfl) (own_w hw 39 rfl) (by decide) (by decide)) qa87 qc87 (g := (mkF m 40 #[.val (.ref ob)] [(.ref b76), (.ref b1)])) rfl (by rw [hml]; rfl) (Steps.refl _) (argsL := [(.ref b76)]) (rest := []) (lenOf pd__Ljava_lang_String__Ljava_lang_StringBuilder_ rfl) rfl (by show 2 * 0 + _ ≤ _; exact Nat.le_of_eq rfl) (hb hby d5_40) (fun _ _ => ⟨rfl, e76, (by decide : 8 + 0 ≤ _), (by decide : 44 + 0 ≤ _)⟩)
  dsimp only [Pt.U, Pt.locs, Pt.cells, Pt.slots] at X87 l87 y87 z87 st87 hQ87
  try dsimp only [Nat.reduceAdd] at y87 z87
  rw [l87, y87, z87] at X87
  obtain ⟨rfl, Nq87, Kq87, q87_0, q87_1, q87_2, q87_3, q87_4⟩ := hQ87
  have N87 := Fr.app N72 Nq87
  have f89 := (CHr.safe A76 q72_4.lt (Safe.keep Kq72 Sa73 CH61 f74))
  have Sa88 : ∀ y ∈ [b1, va_6], Safe Z own_EL T76.vm h76 y := (sfS (Safe.exa hZ.alike f81 (by decide) (by decide)) (sfS f89 sf0))
  have CH88 := CH78.keep Kq87 Sa88
  have CR88 := CHr.trans CR78 (CHr.keep Kq87 Sa88 CH78)
  have K90 : Keep h0 T87.heap [] := K79.trans Kq87 (allS (Or.inr B1) (allS (Or.inr Bf9) all0))
  refine own_tr st87 ?_
  show own_Go p e below T87 (mkF m 43 #[.val (.ref ob)] [(.ref b1)]) _
  obtain ⟨Bz6, hB6_⟩ : ∃ b : List Value, b = (Bz5) ++ [(.int 93)] := ⟨_, rfl⟩
  obtain ⟨Rz6, hR6_⟩ : ∃ b : List Value, b = List.drop ([(.int 93)] : List Value).length (Rz5) := ⟨_, rfl⟩
  obtain ⟨Cz6, hC6_⟩ : ∃ c : Int32, c = Cz5 + (1 : Int32) := ⟨_, rfl⟩
  rw [← hB6_, ← hR6_] at q87_4
  rw [← hC6_] at q87_3
  have hb6 : Cz6.toInt = (Bz6.length : Int) := by rw [hC6_, hB6_, List.length_append]; exact own_addI hb5 rfl (by omega)
  have rl6 : (Bz6.length + Rz6.length) = 16 ∧ Bz6.length ≤ 12 := by
    rw [hB6_, hR6_]; simp only [List.length_append, List.length_drop]; omega
  have f91 := (Nat.le_trans f80 Kq87.1)
  have f92 := (f86.keep Kq87 (allS G1 (allS q6_6 all0)))
  obtain ⟨cq93, kq93, qa93, qb93, qc93⟩ := isOf hZ rfl q87_0
  obtain ⟨_, _, ⟨T93, L93, k93, n93⟩, -, X93, ⟨Lc93, hQ93, l93, y93, z93⟩, st93⟩ := X87.virtualBack hx (y := (⟨"java/lang/StringBuilder", "toString", "()Ljava/lang/String;"⟩ : MethodName)) (z := (⟨"java/lang/StringBuilder", "toString", "()Ljava/lang/String;"⟩ : MethodName)) hown (mvT hZ (own_w hw 108 rfl)) (mvT hZ (own_w hw 109 rfl)) (notFace_of_selects (args := #[]) (mvT hZ (own_w hw 111 rfl))) (mvT hZ (own_w hw 111 rfl)) (mvT hZ (own_w hw 110 rfl)) (by decide) (backOf (W := 0) (rmTs l Z a0 hw [] b1 va_6 kva_6 ((16 : Int32)) Cz6 Bz6 Rz6 zc T87.heap n0 f91 q87_0 q87_1 q87_2 q87_3 q87_4 hb6 (by rw [rl6.1]; rfl) (by omega) (by omega) pS_COMPACT_STRINGS pP5 f92) hZ (own_w hw 112 rfl) (own_w hw 39 rfl) (by decide) (by decide)) qa93 qc93 (g := (mkF m 43 #[.val (.ref ob)] [(.ref b1)])) rfl (by rw [hml]; rfl) (Steps.refl _) (argsL := []) (rest := []) (lenOf pd___Ljava_lang_String_ rfl) rfl (by show 2 * 0 + _ ≤ _; exact Nat.le_of_eq rfl) (hb hby d5_43) (fun _ _ => ⟨rfl, rfl, (by decide : 8 + 2 ≤ _), (by decide : 44 + 20 ≤ _)⟩)
  dsimp only [Pt.U, Pt.locs, Pt.cells, Pt.slots] at X93 l93 y93 z93 st93 hQ93
  try dsimp only [Nat.reduceAdd] at y93 z93
  rw [l93, y93, z93] at X93
  obtain ⟨y_93, b_93, kb_93, rfl, Nq93, Kq93, q93_0, q93_1, q93_2, q93_3, q93_4, q93_5⟩ := hQ93
  have N93 := Fr.app N87 Nq93
  have CH94 := CH88.keep Kq93 sf0
  have CR94 := CHr.trans CR88 (CHr.keep Kq93 sf0 CH88)
  have K95 : Keep h0 T93.heap [] := K90.trans Kq93 all0
  have Bf96 : h0.size ≤ b_93 := Nat.le_trans K90.1 q93_4
  refine own_tr st93 ?_
  show own_Go p e below T93 (mkF m 46 #[.val (.ref ob)] [(.ref y_93)]) _
  have eL : Bz6 = (((own_all s1 s2 s3) : List Int32).map (fun c : Int32 => c.toInt8.toInt32)).map Value.int := by rw [hB6_, hB5_, hB4_, hB3_, hB2_, hB1_]; unfold own_all; simp [List.map_append]
  have eZ : Cz6 = (Int32.ofNat ((own_all s1 s2 s3) : List Int32).length) := own_eqOf (by rw [hb6, eL, List.length_map, List.length_map]) (by rw [own_len]; omega)
  have Vy := q93_3
  rw [eL, eZ] at Vy
  have f97 := (Nat.le_trans (Nat.le_trans hk76 Kq87.1) Kq93.1)
  obtain ⟨fs, hr, hrun, hended, hRW⟩ := X93.leaveW hS f97 (v := some (.ref y_93)) (fun h => by rw [Bd.returns] at h; cases h)
  have hCend : CHr Z own_EL s.vm s.heap T93.vm T93.heap := by
    rw [hh]
    exact CHr.trans CR94 (CHv.at X93 hZ hEL CH94)
  refine own_fin (own_retR X93 hx rfl Bd.returns rfl (hb hby d5_46) hr) ⟨hrun, hended, _, _, rfl, ?_, hCend, hRW.1, hRW.2.1, hRW.2.2.1, hRW.2.2.2.mono (by decide) (by decide)⟩
  show Q_rmTo Z ob x1 t1_ k1_ s1 x2 t2_ k2_ s2 x3 t3_ k3_ s3 zc h0 n0 _ T93.heap _
  exact ⟨y_93, b_93, kb_93, rfl, N93, K95, q93_0, q93_1, q93_2, Vy⟩
theorem own_subN {a b : Int32} {x y : Nat} (ha : a.toInt = (x : Int)) (hb : b.toInt = (y : Int)) (h : y ≤ x) (hx : x ≤ 1000000) : ∃ z : Nat, x = y + z ∧ (a - b).toInt = (z : Int) := by
  have u1 := c_isub a b
  have u2 := rng32 (a - b)
  obtain ⟨z, rfl⟩ := Nat.exists_eq_add_of_le h
  exact ⟨z, rfl, by omega⟩
theorem own_decN {a : Int32} {x : Nat} (ha : a.toInt = (x : Int)) (h : 0 < x) (hx : x ≤ 1000000) : ∃ z : Nat, x = z + 1 ∧ (a + (-1 : Int32)).toInt = (z : Int) := by
  have u1 := c_iadd a (-1 : Int32)
  have u2 := rng32 (a + (-1 : Int32))
  rw [show (-1 : Int32).toInt = -1 from rfl] at u1
  obtain ⟨z, rfl⟩ := Nat.exists_eq_add_of_le h
  exact ⟨z, by omega, by omega⟩
theorem own_z0 {a : Int32} {x : Nat} (ha : a.toInt = (x : Int)) (h : a = (0 : Int32)) : x = 0 := by
  rw [h, show (0 : Int32).toInt = 0 from rfl] at ha
  omega
theorem own_zp {a : Int32} {x : Nat} (ha : a.toInt = (x : Int)) (h : ¬ a = (0 : Int32)) : 0 < x := Nat.pos_of_ne_zero fun q => h (Int32.toInt_inj.mp (by rw [ha, q]; rfl))
theorem d33_0 : decode method_5_code 0 = .ok (.iload_n 0, 1) := by decide +kernel
theorem d33_1 : decode method_5_code 1 = .ok (.istore 4, 2) := by decide +kernel
theorem d33_3 : decode method_5_code 3 = .ok (.iload 4, 2) := by decide +kernel
theorem d33_5 : decode method_5_code 5 = .ok (.aload_n 1, 1) := by decide +kernel
theorem d33_6 : decode method_5_code 6 = .ok (.invokevirtual 22, 3) := by decide +kernel
theorem d33_9 : decode method_5_code 9 = .ok (.if_icmp .ge 10, 3) := by decide +kernel
theorem d33_12 : decode method_5_code 12 = .ok (.aload_n 1, 1) := by decide +kernel
theorem d33_13 : decode method_5_code 13 = .ok (.iload 4, 2) := by decide +kernel
theorem d33_15 : decode method_5_code 15 = .ok (.invokevirtual 41, 3) := by decide +kernel
theorem d33_18 : decode method_5_code 18 = .ok (.ireturn, 1) := by decide +kernel
theorem d33_19 : decode method_5_code 19 = .ok (.iload 4, 2) := by decide +kernel
theorem d33_21 : decode method_5_code 21 = .ok (.aload_n 1, 1) := by decide +kernel
theorem d33_22 : decode method_5_code 22 = .ok (.invokevirtual 22, 3) := by decide +kernel
theorem d33_25 : decode method_5_code 25 = .ok (.isub, 1) := by decide +kernel
theorem d33_26 : decode method_5_code 26 = .ok (.istore 4, 2) := by decide +kernel
theorem d33_28 : decode method_5_code 28 = .ok (.iload 4, 2) := by decide +kernel
theorem d33_30 : decode method_5_code 30 = .ok (.ifCond .ne 6, 3) := by decide +kernel
theorem d33_33 : decode method_5_code 33 = .ok (.bipush 91, 2) := by decide +kernel
theorem d33_35 : decode method_5_code 35 = .ok (.ireturn, 1) := by decide +kernel
theorem d33_36 : decode method_5_code 36 = .ok (.iinc 4 (-1), 3) := by decide +kernel
theorem d33_39 : decode method_5_code 39 = .ok (.iload 4, 2) := by decide +kernel
theorem d33_41 : decode method_5_code 41 = .ok (.aload_n 2, 1) := by decide +kernel
theorem d33_42 : decode method_5_code 42 = .ok (.invokevirtual 22, 3) := by decide +kernel
theorem d33_45 : decode method_5_code 45 = .ok (.if_icmp .ge 10, 3) := by decide +kernel
theorem d33_48 : decode method_5_code 48 = .ok (.aload_n 2, 1) := by decide +kernel
theorem d33_49 : decode method_5_code 49 = .ok (.iload 4, 2) := by decide +kernel
theorem d33_51 : decode method_5_code 51 = .ok (.invokevirtual 41, 3) := by decide +kernel
theorem d33_54 : decode method_5_code 54 = .ok (.ireturn, 1) := by decide +kernel
theorem d33_55 : decode method_5_code 55 = .ok (.iload 4, 2) := by decide +kernel
theorem d33_57 : decode method_5_code 57 = .ok (.aload_n 2, 1) := by decide +kernel
theorem d33_58 : decode method_5_code 58 = .ok (.invokevirtual 22, 3) := by decide +kernel
theorem d33_61 : decode method_5_code 61 = .ok (.isub, 1) := by decide +kernel
theorem d33_62 : decode method_5_code 62 = .ok (.istore 4, 2) := by decide +kernel
theorem d33_64 : decode method_5_code 64 = .ok (.iload 4, 2) := by decide +kernel
theorem d33_66 : decode method_5_code 66 = .ok (.ifCond .ne 6, 3) := by decide +kernel
theorem d33_69 : decode method_5_code 69 = .ok (.bipush 61, 2) := by decide +kernel
theorem d33_71 : decode method_5_code 71 = .ok (.ireturn, 1) := by decide +kernel
theorem d33_72 : decode method_5_code 72 = .ok (.iinc 4 (-1), 3) := by decide +kernel
theorem d33_75 : decode method_5_code 75 = .ok (.iload 4, 2) := by decide +kernel
theorem d33_77 : decode method_5_code 77 = .ok (.aload_n 3, 1) := by decide +kernel
theorem d33_78 : decode method_5_code 78 = .ok (.invokevirtual 22, 3) := by decide +kernel
theorem d33_81 : decode method_5_code 81 = .ok (.if_icmp .ge 10, 3) := by decide +kernel
theorem d33_84 : decode method_5_code 84 = .ok (.aload_n 3, 1) := by decide +kernel
theorem d33_85 : decode method_5_code 85 = .ok (.iload 4, 2) := by decide +kernel
theorem d33_87 : decode method_5_code 87 = .ok (.invokevirtual 41, 3) := by decide +kernel
theorem d33_90 : decode method_5_code 90 = .ok (.ireturn, 1) := by decide +kernel
theorem d33_91 : decode method_5_code 91 = .ok (.bipush 93, 2) := by decide +kernel
theorem d33_93 : decode method_5_code 93 = .ok (.ireturn, 1) := by decide +kernel
theorem pn_33 : plainName "com/example/spillback/spillback/io/SelectionToStringPinLaw" = true := by first | (simp [plainName, overriddenIn]; done) | decide +kernel
theorem pd__I_C : parseMethodDescriptor "(I)C" = some ⟨[.int], some .char⟩ := by decide +kernel
theorem ef_rmEx (m : MethodId) (x0 : Int32) (x1 : Addr) (x2 : Addr) (x3 : Addr) : entryFrame m #[(.int x0), (.ref x1), (.ref x2), (.ref x3)] 5 = mkF m 0 #[.val (.int x0), .val (.ref x1), .val (.ref x2), .val (.ref x3), .unset] [] := by first | (simp [entryFrame, mkF, argsToLocals, Value.category]; done) | rfl
def Q_rmEx (Z : State) (j : Int32) (jj : Nat) (x1 : Addr) (t1_ : Addr) (k1_ : ClassId) (s1 : List Int32) (x2 : Addr) (t2_ : Addr) (k2_ : ClassId) (s2 : List Int32) (x3 : Addr) (t3_ : Addr) (k3_ : ClassId) (s3 : List Int32) (zc : Int32) (fm : Value) (h0 : Heap) (n0 : Nat) (v : Option Value) (h : Heap) (L : List Loc) : Prop := ∃ r : Int32, v = some (.int r) ∧ Fr n0 L ∧ h = h0 ∧ (r = (own_all s1 s2 s3).getD jj 0)
set_option maxRecDepth 65536 in
set_option maxHeartbeats 40000000 in
theorem rmEx (l : Launch) (Z : State) (a0 : Array Value) (hw : ∀ d ∈ tables_1, d.before a0 Z = true) (ws : List Jvm.Cond) (j : Int32) (jj : Nat) (x1 : Addr) (t1_ : Addr) (k1_ : ClassId) (s1 : List Int32) (x2 : Addr) (t2_ : Addr) (k2_ : ClassId) (s2 : List Int32) (x3 : Addr) (t3_ : Addr) (k3_ : ClassId) (s3 : List Int32) (zc : Int32) (fm : Value) (h0 : Heap) (n0 : Nat) (Z0 : n0 ≤ h0.size) (pE_x1 : Exa Z h0 x1 "java/lang/String") (pF_value_x1 : Fld Z h0 x1 "java/lang/String" "value" "[B" (.ref t1_)) (pF_coder_x1 : Fld Z h0 x1 "java/lang/String" "coder" "B" (.int (0 : Int32))) (pV_t1_ : Arv Z h0 t1_ k1_ .byte (Int32.ofNat (s1 : List Int32).length) (((s1 : List Int32).map (fun c : Int32 => c.toInt8.toInt32)).map Value.int) (.int 0)) (pE_x2 : Exa Z h0 x2 "java/lang/String") (pF_value_x2 : Fld Z h0 x2 "java/lang/String" "value" "[B" (.ref t2_)) (pF_coder_x2 : Fld Z h0 x2 "java/lang/String" "coder" "B" (.int (0 : Int32))) (pV_t2_ : Arv Z h0 t2_ k2_ .byte (Int32.ofNat (s2 : List Int32).length) (((s2 : List Int32).map (fun c : Int32 => c.toInt8.toInt32)).map Value.int) (.int 0)) (pE_x3 : Exa Z h0 x3 "java/lang/String") (pF_value_x3 : Fld Z h0 x3 "java/lang/String" "value" "[B" (.ref t3_)) (pF_coder_x3 : Fld Z h0 x3 "java/lang/String" "coder" "B" (.int (0 : Int32))) (pV_t3_ : Arv Z h0 t3_ k3_ .byte (Int32.ofNat (s3 : List Int32).length) (((s3 : List Int32).map (fun c : Int32 => c.toInt8.toInt32)).map Value.int) (.int 0)) (hp1 : (own_P s1)) (hl1 : (s1.length ≤ 2)) (hp2 : (own_P s2)) (hl2 : (s2.length ≤ 2)) (hp3 : (own_P s3)) (hl3 : (s3.length ≤ 2)) (hj : (j.toInt = (jj : Int))) (hjl : (jj < s1.length + s2.length + s3.length + 3)) (pS_COMPACT_STRINGS : Sta Z Z.heap "java/lang/String" "COMPACT_STRINGS" "Z" (.int zc)) (pP5 : (¬ (zc = (0 : Int32)))) (pS_SIOOBE_FORMATTER : Sta Z Z.heap "jdk/internal/util/Preconditions" "SIOOBE_FORMATTER" "Ljava/util/function/BiFunction;" fm) (rfm : (fm.isRef = true)) (pO : Old Z n0 h0) :
    MetFree l (⟨"com/example/spillback/spillback/io/SelectionToStringPinLaw", "expected", "(ILjava/lang/String;Ljava/lang/String;Ljava/lang/String;)C"⟩ : MethodName) (head1 (Jvm.Cond.code (⟨"com/example/spillback/spillback/io/SelectionToStringPinLaw", "expected", "(ILjava/lang/String;Ljava/lang/String;Ljava/lang/String;)C"⟩ : MethodName) method_5_code 5 (some .char) :: ws) ({ frames := 4, cells := 0, slots := 0, locals := 53 } : Room)) (fun a U => a = #[(.int j), (.ref x1), (.ref x2), (.ref x3)] ∧ Z.Warmed39 U.vm ∧ U.heap = h0) (fun _ _ _ _ _ => True) (fun _ U o U' => ∃ v L, o = .returned v ∧ Q_rmEx Z j jj x1 t1_ k1_ s1 x2 t2_ k2_ s2 x3 t3_ k3_ s3 zc fm h0 n0 v U'.heap L ∧ FrameEnd U o U' L ({ frames := 4, cells := 0, slots := 0, locals := 53 } : Room).cells ({ frames := 4, cells := 0, slots := 0, locals := 53 } : Room).slots) := by
  refine MetFree.of_bodySF (plainFor_of_name pn_33) hisR ?_
  intro p e s m args below meth c s₁ Bd hml0 hP hK
  obtain ⟨rfl, hZ, hh⟩ := hP
  have hx := Bd.exec
  have hby := Bd.bytes
  have hml : c.maxLocals = 5 := hml0
  have hown : s.vm.findClass "com/example/spillback/spillback/io/SelectionToStringPinLaw" = some m.cls := findClass_of_methodNamed Bd.named
  have hnm := (name_of_methodNamed Bd.named Bd.method).1
  have X0 : Stand p l e ({ frames := 4, cells := 0, slots := 0, locals := 53 } : Room) s m #[(.int j), (.ref x1), (.ref x2), (.ref x3)] below meth c s₁ [] 0 0 := Stand.of_body Bd
  have e0 : s₁.heap = h0 := by rw [← hh, Bd.state]; rfl
  have N0 := Fr.nil n0
  refine own_enter (ef_rmEx m j x1 x2 x3) ?_
  have hln : ∀ d ∈ StrChars.Road.wordsLen, d.before a0 Z = true := fun d hd => hw d ((by decide +kernel : ∀ d ∈ StrChars.Road.wordsLen, d ∈ tables_1) d hd)
  have hch : ∀ d ∈ StrChars.Road.wordsChN, d.before a0 Z = true := fun d hd => hw d ((by decide +kernel : ∀ d ∈ StrChars.Road.wordsChN, d ∈ tables_1) d hd)
  have o1_ : (Int32.ofNat (s1 : List Int32).length).toInt = (s1.length : Int) := own_ofNat (by omega)
  have q4_1 : s1.length ≤ 4000 := by omega
  have o2_ : (Int32.ofNat (s2 : List Int32).length).toInt = (s2.length : Int) := own_ofNat (by omega)
  have q4_2 : s2.length ≤ 4000 := by omega
  have o3_ : (Int32.ofNat (s3 : List Int32).length).toInt = (s3.length : Int) := own_ofNat (by omega)
  have q4_3 : s3.length ≤ 4000 := by omega
  refine own_st (fun t_ k_ => XS.iloadN X0.here hx rfl (hb hby d33_0) rfl (XS.istore X0.here hx rfl (hb hby d33_1) rfl (l' := #[.val (.int j), .val (.ref x1), .val (.ref x2), .val (.ref x3), .val (.int j)]) rfl (XS.iload X0.here hx rfl (hb hby d33_3) rfl (XS.aloadN X0.here hx rfl (hb hby d33_5) rfl rfl k_)))) ?_
  show own_Go p e below s₁ (mkF m 6 #[.val (.int j), .val (.ref x1), .val (.ref x2), .val (.ref x3), .val (.int j)] [(.ref x1), (.int j)]) _
  have hcd1 : StrChars.Road.CodA (s1 : List Int32) 0 (Int32.ofNat (s1 : List Int32).length) (((s1 : List Int32).map (fun c : Int32 => c.toInt8.toInt32)).map Value.int) := StrChars.Road.codOf rfl (fun x hx => (hp1 x hx).2)
  have hbd1 : ∀ x ∈ (s1 : List Int32), ¬ x < 0 ∧ ¬ (65535 : Int32) < x := own_up _ hp1
  obtain ⟨cq2, kq2, qa2, qb2, qc2⟩ := isOf hZ e0 pE_x1
  obtain ⟨_, _, ⟨T2, L2, k2, n2⟩, -, X2, ⟨Lc2, hQ2, l2, y2, z2⟩, st2⟩ := X0.virtualBack hx (y := (⟨"java/lang/String", "length", "()I"⟩ : MethodName)) (z := (⟨"java/lang/String", "length", "()I"⟩ : MethodName)) hown (mvT hZ (own_w hw 155 rfl)) (mvT hZ (own_w hw 66 rfl)) (notFace_of_selects (args := #[]) (mvT hZ (own_w hw 68 rfl))) (mvT hZ (own_w hw 68 rfl)) (mvT hZ (own_w hw 67 rfl)) (by decide) (StrChars.Road.lenW (W := 1) hZ hln (kI := 4) (own_w hw 6 rfl) pE_x1 pF_value_x1 pF_coder_x1 pV_t1_ hcd1 hbd1 (pS_COMPACT_STRINGS.ext pO.2) pP5 q4_1 (by decide) (by decide)) qa2 qc2 (g := (mkF m 6 #[.val (.int j), .val (.ref x1), .val (.ref x2), .val (.ref x3), .val (.int j)] [(.ref x1), (.int j)])) rfl (by rw [hml]; rfl) (Steps.refl _) (argsL := []) (rest := [(.int j)]) (lenOf pd___I rfl) rfl (by show 2 * 0 + _ ≤ _; exact Nat.le_of_eq rfl) (hb hby d33_6) (fun _ _ => ⟨rfl, e0, (by decide : 0 + 0 ≤ _), (by decide : 0 + 0 ≤ _)⟩)
  dsimp only [Pt.U, Pt.locs, Pt.cells, Pt.slots] at X2 l2 y2 z2 st2 hQ2
  try dsimp only [Nat.reduceAdd] at y2 z2
  rw [l2, y2, z2] at X2
  obtain ⟨rfl, rfl, eH2⟩ := hQ2
  have N2 := Fr.app N0 (Fr.nil n0)
  refine own_tr st2 ?_
  show own_Go p e below T2 (mkF m 9 #[.val (.int j), .val (.ref x1), .val (.ref x2), .val (.ref x3), .val (.int j)] [(.int (Int32.ofNat (s1 : List Int32).length)), (.int j)]) _
  by_cases c9 : j < (Int32.ofNat (s1 : List Int32).length)
  · skip
    refine own_st (fun t_ k_ => XS.icmpNo X2.here hx rfl (hb hby d33_9) rfl (tlt c9).2.1 k_) ?_
    show own_Go p e below T2 (mkF m 12 #[.val (.int j), .val (.ref x1), .val (.ref x2), .val (.ref x3), .val (.int j)] []) _
    have g1 : jj < s1.length := by rw [Int32.lt_iff_toInt_lt, o1_] at c9; omega
    refine own_st (fun t_ k_ => XS.aloadN X2.here hx rfl (hb hby d33_12) rfl rfl (XS.iload X2.here hx rfl (hb hby d33_13) rfl k_)) ?_
    show own_Go p e below T2 (mkF m 15 #[.val (.int j), .val (.ref x1), .val (.ref x2), .val (.ref x3), .val (.int j)] [(.int j), (.ref x1)]) _
    have ck : jj < s1.length := by omega
    obtain ⟨cq3, kq3, qa3, qb3, qc3⟩ := isOf hZ eH2 pE_x1
    obtain ⟨_, _, ⟨T3, L3, k3, n3⟩, -, X3, ⟨Lc3, hQ3, l3, y3, z3⟩, st3⟩ := X2.virtualBack hx (y := (⟨"java/lang/String", "charAt", "(I)C"⟩ : MethodName)) (z := (⟨"java/lang/String", "charAt", "(I)C"⟩ : MethodName)) hown (mvT hZ (own_w hw 159 rfl)) (mvT hZ (own_w hw 160 rfl)) (notFace_of_selects (args := #[]) (mvT hZ (own_w hw 162 rfl))) (mvT hZ (own_w hw 162 rfl)) (mvT hZ (own_w hw 161 rfl)) (by decide) (StrChars.Road.chN (W := 0) hZ hch (kI := 4) (own_w hw 6 rfl) pE_x1 pF_value_x1 pF_coder_x1 pV_t1_ hcd1 hbd1 (pS_COMPACT_STRINGS.ext pO.2) pP5 (pS_SIOOBE_FORMATTER.ext pO.2) rfm q4_1 (i := jj) ck (j := j) (own_eqOf hj (by omega)) (by decide) (by decide)) qa3 qc3 (g := (mkF m 15 #[.val (.int j), .val (.ref x1), .val (.ref x2), .val (.ref x3), .val (.int j)] [(.int j), (.ref x1)])) rfl (by rw [hml]; rfl) (Steps.refl _) (argsL := [(.int j)]) (rest := []) (lenOf pd__I_C rfl) rfl (by show 2 * 0 + _ ≤ _; exact Nat.le_of_eq rfl) (hb hby d33_15) (fun _ _ => ⟨rfl, eH2, (by decide : 0 + 0 ≤ _), (by decide : 0 + 0 ≤ _)⟩)
    dsimp only [Pt.U, Pt.locs, Pt.cells, Pt.slots] at X3 l3 y3 z3 st3 hQ3
    try dsimp only [Nat.reduceAdd] at y3 z3
    rw [l3, y3, z3] at X3
    obtain ⟨rfl, rfl, eH3⟩ := hQ3
    have N3 := Fr.app N2 (Fr.nil n0)
    refine own_tr st3 ?_
    show own_Go p e below T3 (mkF m 18 #[.val (.int j), .val (.ref x1), .val (.ref x2), .val (.ref x3), .val (.int j)] [(.int (s1.getD jj 0))]) _
    obtain ⟨fs, hr, hrun, hended, hW, hsame⟩ := X3.leave (v := some (.int (nar .char (s1.getD jj 0)))) (fun h => by rw [Bd.returns] at h; cases h)
    refine own_fin (retN X3 hx (t := .char) Bd.returns (by simp) (hb hby d33_18) hr) ⟨hrun, hended, _, _, rfl, ?_, ⟨_, rfl⟩, hW, hsame.mono (by decide) (by decide)⟩
    show Q_rmEx Z j jj x1 t1_ k1_ s1 x2 t2_ k2_ s2 x3 t3_ k3_ s3 zc fm h0 n0 _ T3.heap _
    rw [eH3]
    exact ⟨(nar .char (s1.getD jj 0)), rfl, N3, rfl, (by rw [own_nar (own_mem ck hp1), own_x1 ck])⟩
  · skip
    refine own_st (fun t_ k_ => XS.icmpYes X2.here hx rfl (pc0 := 9) (pc' := 19) rfl (hb hby d33_9) rfl (flt c9).2.1 (by decide) (by decide) k_) ?_
    show own_Go p e below T2 (mkF m 19 #[.val (.int j), .val (.ref x1), .val (.ref x2), .val (.ref x3), .val (.int j)] []) _
    have g1 : s1.length ≤ jj := by rw [Int32.lt_iff_toInt_lt, o1_] at c9; omega
    refine own_st (fun t_ k_ => XS.iload X2.here hx rfl (hb hby d33_19) rfl (XS.aloadN X2.here hx rfl (hb hby d33_21) rfl rfl k_)) ?_
    show own_Go p e below T2 (mkF m 22 #[.val (.int j), .val (.ref x1), .val (.ref x2), .val (.ref x3), .val (.int j)] [(.ref x1), (.int j)]) _
    obtain ⟨cq4, kq4, qa4, qb4, qc4⟩ := isOf hZ eH2 pE_x1
    obtain ⟨_, _, ⟨T4, L4, k4, n4⟩, -, X4, ⟨Lc4, hQ4, l4, y4, z4⟩, st4⟩ := X2.virtualBack hx (y := (⟨"java/lang/String", "length", "()I"⟩ : MethodName)) (z := (⟨"java/lang/String", "length", "()I"⟩ : MethodName)) hown (mvT hZ (own_w hw 155 rfl)) (mvT hZ (own_w hw 66 rfl)) (notFace_of_selects (args := #[]) (mvT hZ (own_w hw 68 rfl))) (mvT hZ (own_w hw 68 rfl)) (mvT hZ (own_w hw 67 rfl)) (by decide) (StrChars.Road.lenW (W := 1) hZ hln (kI := 4) (own_w hw 6 rfl) pE_x1 pF_value_x1 pF_coder_x1 pV_t1_ hcd1 hbd1 (pS_COMPACT_STRINGS.ext pO.2) pP5 q4_1 (by decide) (by decide)) qa4 qc4 (g := (mkF m 22 #[.val (.int j), .val (.ref x1), .val (.ref x2), .val (.ref x3), .val (.int j)] [(.ref x1), (.int j)])) rfl (by rw [hml]; rfl) (Steps.refl _) (argsL := []) (rest := [(.int j)]) (lenOf pd___I rfl) rfl (by show 2 * 0 + _ ≤ _; exact Nat.le_of_eq rfl) (hb hby d33_22) (fun _ _ => ⟨rfl, eH2, (by decide : 0 + 0 ≤ _), (by decide : 0 + 0 ≤ _)⟩)
    dsimp only [Pt.U, Pt.locs, Pt.cells, Pt.slots] at X4 l4 y4 z4 st4 hQ4
    try dsimp only [Nat.reduceAdd] at y4 z4
    rw [l4, y4, z4] at X4
    obtain ⟨rfl, rfl, eH4⟩ := hQ4
    have N4 := Fr.app N2 (Fr.nil n0)
    refine own_tr st4 ?_
    show own_Go p e below T4 (mkF m 25 #[.val (.int j), .val (.ref x1), .val (.ref x2), .val (.ref x3), .val (.int j)] [(.int (Int32.ofNat (s1 : List Int32).length)), (.int j)]) _
    refine own_st (fun t_ k_ => XS.isub X4.here hx rfl (hb hby d33_25) rfl k_) ?_
    show own_Go p e below T4 (mkF m 26 #[.val (.int j), .val (.ref x1), .val (.ref x2), .val (.ref x3), .val (.int j)] [(.int (j - (Int32.ofNat (s1 : List Int32).length)))]) _
    obtain ⟨ja, ha_, d1⟩ := own_subN hj o1_ g1 (by omega)
    generalize (j - (Int32.ofNat (s1 : List Int32).length)) = j1 at d1 ⊢
    show own_Go p e below T4 (mkF m 26 #[.val (.int j), .val (.ref x1), .val (.ref x2), .val (.ref x3), .val (.int j)] [(.int j1)]) _
    refine own_st (fun t_ k_ => XS.istore X4.here hx rfl (hb hby d33_26) rfl (l' := #[.val (.int j), .val (.ref x1), .val (.ref x2), .val (.ref x3), .val (.int j1)]) rfl (XS.iload X4.here hx rfl (hb hby d33_28) rfl k_)) ?_
    show own_Go p e below T4 (mkF m 30 #[.val (.int j), .val (.ref x1), .val (.ref x2), .val (.ref x3), .val (.int j1)] [(.int j1)]) _
    by_cases c30 : j1 = (0 : Int32)
    · skip
      refine own_st (fun t_ k_ => XS.ifNo X4.here hx rfl (hb hby d33_30) rfl ((if0 _ _).trans (teq c30).2) k_) ?_
      show own_Go p e below T4 (mkF m 33 #[.val (.int j), .val (.ref x1), .val (.ref x2), .val (.ref x3), .val (.int j1)] []) _
      have g2 : ja = 0 := own_z0 d1 c30
      refine own_st (fun t_ k_ => XS.bipush X4.here hx rfl (hb hby d33_33) k_) ?_
      show own_Go p e below T4 (mkF m 35 #[.val (.int j), .val (.ref x1), .val (.ref x2), .val (.ref x3), .val (.int j1)] [(.int (91 : Int32))]) _
      obtain ⟨fs, hr, hrun, hended, hW, hsame⟩ := X4.leave (v := some (.int (nar .char (91 : Int32)))) (fun h => by rw [Bd.returns] at h; cases h)
      refine own_fin (retN X4 hx (t := .char) Bd.returns (by simp) (hb hby d33_35) hr) ⟨hrun, hended, _, _, rfl, ?_, ⟨_, rfl⟩, hW, hsame.mono (by decide) (by decide)⟩
      show Q_rmEx Z j jj x1 t1_ k1_ s1 x2 t2_ k2_ s2 x3 t3_ k3_ s3 zc fm h0 n0 _ T4.heap _
      rw [eH4]
      exact ⟨(nar .char (91 : Int32)), rfl, N4, rfl, (by rw [own_x2 (show jj = s1.length by omega)]; rfl)⟩
    · skip
      refine own_st (fun t_ k_ => XS.ifYes X4.here hx rfl (pc0 := 30) (pc' := 36) rfl (hb hby d33_30) rfl ((if0 _ _).trans (feq c30).2) (by decide) (by decide) k_) ?_
      show own_Go p e below T4 (mkF m 36 #[.val (.int j), .val (.ref x1), .val (.ref x2), .val (.ref x3), .val (.int j1)] []) _
      have g2 : 0 < ja := own_zp d1 c30
      refine own_st (fun t_ k_ => XS.iinc X4.here hx rfl (hb hby d33_36) rfl (l' := #[.val (.int j), .val (.ref x1), .val (.ref x2), .val (.ref x3), .val (.int (j1 + (-1 : Int32)))]) rfl k_) ?_
      show own_Go p e below T4 (mkF m 39 #[.val (.int j), .val (.ref x1), .val (.ref x2), .val (.ref x3), .val (.int (j1 + (-1 : Int32)))] []) _
      obtain ⟨jb, hb_, d2⟩ := own_decN d1 g2 (by omega)
      generalize (j1 + (-1 : Int32)) = j2 at d2 ⊢
      show own_Go p e below T4 (mkF m 39 #[.val (.int j), .val (.ref x1), .val (.ref x2), .val (.ref x3), .val (.int j2)] []) _
      refine own_st (fun t_ k_ => XS.iload X4.here hx rfl (hb hby d33_39) rfl (XS.aloadN X4.here hx rfl (hb hby d33_41) rfl rfl k_)) ?_
      show own_Go p e below T4 (mkF m 42 #[.val (.int j), .val (.ref x1), .val (.ref x2), .val (.ref x3), .val (.int j2)] [(.ref x2), (.int j2)]) _
      have hcd5 : StrChars.Road.CodA (s2 : List Int32) 0 (Int32.ofNat (s2 : List Int32).length) (((s2 : List Int32).map (fun c : Int32 => c.toInt8.toInt32)).map Value.int) := StrChars.Road.codOf rfl (fun x hx => (hp2 x hx).2)
      have hbd5 : ∀ x ∈ (s2 : List Int32), ¬ x < 0 ∧ ¬ (65535 : Int32) < x := own_up _ hp2
      obtain ⟨cq6, kq6, qa6, qb6, qc6⟩ := isOf hZ eH4 pE_x2
      obtain ⟨_, _, ⟨T6, L6, k6, n6⟩, -, X6, ⟨Lc6, hQ6, l6, y6, z6⟩, st6⟩ := X4.virtualBack hx (y := (⟨"java/lang/String", "length", "()I"⟩ : MethodName)) (z := (⟨"java/lang/String", "length", "()I"⟩ : MethodName)) hown (mvT hZ (own_w hw 155 rfl)) (mvT hZ (own_w hw 66 rfl)) (notFace_of_selects (args := #[]) (mvT hZ (own_w hw 68 rfl))) (mvT hZ (own_w hw 68 rfl)) (mvT hZ (own_w hw 67 rfl)) (by decide) (StrChars.Road.lenW (W := 1) hZ hln (kI := 4) (own_w hw 6 rfl) pE_x2 pF_value_x2 pF_coder_x2 pV_t2_ hcd5 hbd5 (pS_COMPACT_STRINGS.ext pO.2) pP5 q4_2 (by decide) (by decide)) qa6 qc6 (g := (mkF m 42 #[.val (.int j), .val (.ref x1), .val (.ref x2), .val (.ref x3), .val (.int j2)] [(.ref x2), (.int j2)])) rfl (by rw [hml]; rfl) (Steps.refl _) (argsL := []) (rest := [(.int j2)]) (lenOf pd___I rfl) rfl (by show 2 * 0 + _ ≤ _; exact Nat.le_of_eq rfl) (hb hby d33_42) (fun _ _ => ⟨rfl, eH4, (by decide : 0 + 0 ≤ _), (by decide : 0 + 0 ≤ _)⟩)
      dsimp only [Pt.U, Pt.locs, Pt.cells, Pt.slots] at X6 l6 y6 z6 st6 hQ6
      try dsimp only [Nat.reduceAdd] at y6 z6
      rw [l6, y6, z6] at X6
      obtain ⟨rfl, rfl, eH6⟩ := hQ6
      have N6 := Fr.app N4 (Fr.nil n0)
      refine own_tr st6 ?_
      show own_Go p e below T6 (mkF m 45 #[.val (.int j), .val (.ref x1), .val (.ref x2), .val (.ref x3), .val (.int j2)] [(.int (Int32.ofNat (s2 : List Int32).length)), (.int j2)]) _
      by_cases c45 : j2 < (Int32.ofNat (s2 : List Int32).length)
      · skip
        refine own_st (fun t_ k_ => XS.icmpNo X6.here hx rfl (hb hby d33_45) rfl (tlt c45).2.1 k_) ?_
        show own_Go p e below T6 (mkF m 48 #[.val (.int j), .val (.ref x1), .val (.ref x2), .val (.ref x3), .val (.int j2)] []) _
        have g3 : jb < s2.length := by rw [Int32.lt_iff_toInt_lt, o2_, d2] at c45; exact Int.ofNat_lt.mp c45
        refine own_st (fun t_ k_ => XS.aloadN X6.here hx rfl (hb hby d33_48) rfl rfl (XS.iload X6.here hx rfl (hb hby d33_49) rfl k_)) ?_
        show own_Go p e below T6 (mkF m 51 #[.val (.int j), .val (.ref x1), .val (.ref x2), .val (.ref x3), .val (.int j2)] [(.int j2), (.ref x2)]) _
        have ck : jb < s2.length := by omega
        obtain ⟨cq7, kq7, qa7, qb7, qc7⟩ := isOf hZ eH6 pE_x2
        obtain ⟨_, _, ⟨T7, L7, k7, n7⟩, -, X7, ⟨Lc7, hQ7, l7, y7, z7⟩, st7⟩ := X6.virtualBack hx (y := (⟨"java/lang/String", "charAt", "(I)C"⟩ : MethodName)) (z := (⟨"java/lang/String", "charAt", "(I)C"⟩ : MethodName)) hown (mvT hZ (own_w hw 159 rfl)) (mvT hZ (own_w hw 160 rfl)) (notFace_of_selects (args := #[]) (mvT hZ (own_w hw 162 rfl))) (mvT hZ (own_w hw 162 rfl)) (mvT hZ (own_w hw 161 rfl)) (by decide) (StrChars.Road.chN (W := 0) hZ hch (kI := 4) (own_w hw 6 rfl) pE_x2 pF_value_x2 pF_coder_x2 pV_t2_ hcd5 hbd5 (pS_COMPACT_STRINGS.ext pO.2) pP5 (pS_SIOOBE_FORMATTER.ext pO.2) rfm q4_2 (i := jb) ck (j := j2) (own_eqOf d2 (by omega)) (by decide) (by decide)) qa7 qc7 (g := (mkF m 51 #[.val (.int j), .val (.ref x1), .val (.ref x2), .val (.ref x3), .val (.int j2)] [(.int j2), (.ref x2)])) rfl (by rw [hml]; rfl) (Steps.refl _) (argsL := [(.int j2)]) (rest := []) (lenOf pd__I_C rfl) rfl (by show 2 * 0 + _ ≤ _; exact Nat.le_of_eq rfl) (hb hby d33_51) (fun _ _ => ⟨rfl, eH6, (by decide : 0 + 0 ≤ _), (by decide : 0 + 0 ≤ _)⟩)
        dsimp only [Pt.U, Pt.locs, Pt.cells, Pt.slots] at X7 l7 y7 z7 st7 hQ7
        try dsimp only [Nat.reduceAdd] at y7 z7
        rw [l7, y7, z7] at X7
        obtain ⟨rfl, rfl, eH7⟩ := hQ7
        have N7 := Fr.app N6 (Fr.nil n0)
        refine own_tr st7 ?_
        show own_Go p e below T7 (mkF m 54 #[.val (.int j), .val (.ref x1), .val (.ref x2), .val (.ref x3), .val (.int j2)] [(.int (s2.getD jb 0))]) _
        obtain ⟨fs, hr, hrun, hended, hW, hsame⟩ := X7.leave (v := some (.int (nar .char (s2.getD jb 0)))) (fun h => by rw [Bd.returns] at h; cases h)
        refine own_fin (retN X7 hx (t := .char) Bd.returns (by simp) (hb hby d33_54) hr) ⟨hrun, hended, _, _, rfl, ?_, ⟨_, rfl⟩, hW, hsame.mono (by decide) (by decide)⟩
        show Q_rmEx Z j jj x1 t1_ k1_ s1 x2 t2_ k2_ s2 x3 t3_ k3_ s3 zc fm h0 n0 _ T7.heap _
        rw [eH7]
        exact ⟨(nar .char (s2.getD jb 0)), rfl, N7, rfl, (by rw [own_nar (own_mem ck hp2), own_x3 (show jj = s1.length + 1 + jb by omega) ck])⟩
      · skip
        refine own_st (fun t_ k_ => XS.icmpYes X6.here hx rfl (pc0 := 45) (pc' := 55) rfl (hb hby d33_45) rfl (flt c45).2.1 (by decide) (by decide) k_) ?_
        show own_Go p e below T6 (mkF m 55 #[.val (.int j), .val (.ref x1), .val (.ref x2), .val (.ref x3), .val (.int j2)] []) _
        have g3 : s2.length ≤ jb := by rw [Int32.lt_iff_toInt_lt, o2_, d2] at c45; omega
        refine own_st (fun t_ k_ => XS.iload X6.here hx rfl (hb hby d33_55) rfl (XS.aloadN X6.here hx rfl (hb hby d33_57) rfl rfl k_)) ?_
        show own_Go p e below T6 (mkF m 58 #[.val (.int j), .val (.ref x1), .val (.ref x2), .val (.ref x3), .val (.int j2)] [(.ref x2), (.int j2)]) _
        obtain ⟨cq8, kq8, qa8, qb8, qc8⟩ := isOf hZ eH6 pE_x2
        obtain ⟨_, _, ⟨T8, L8, k8, n8⟩, -, X8, ⟨Lc8, hQ8, l8, y8, z8⟩, st8⟩ := X6.virtualBack hx (y := (⟨"java/lang/String", "length", "()I"⟩ : MethodName)) (z := (⟨"java/lang/String", "length", "()I"⟩ : MethodName)) hown (mvT hZ (own_w hw 155 rfl)) (mvT hZ (own_w hw 66 rfl)) (notFace_of_selects (args := #[]) (mvT hZ (own_w hw 68 rfl))) (mvT hZ (own_w hw 68 rfl)) (mvT hZ (own_w hw 67 rfl)) (by decide) (StrChars.Road.lenW (W := 1) hZ hln (kI := 4) (own_w hw 6 rfl) pE_x2 pF_value_x2 pF_coder_x2 pV_t2_ hcd5 hbd5 (pS_COMPACT_STRINGS.ext pO.2) pP5 q4_2 (by decide) (by decide)) qa8 qc8 (g := (mkF m 58 #[.val (.int j), .val (.ref x1), .val (.ref x2), .val (.ref x3), .val (.int j2)] [(.ref x2), (.int j2)])) rfl (by rw [hml]; rfl) (Steps.refl _) (argsL := []) (rest := [(.int j2)]) (lenOf pd___I rfl) rfl (by show 2 * 0 + _ ≤ _; exact Nat.le_of_eq rfl) (hb hby d33_58) (fun _ _ => ⟨rfl, eH6, (by decide : 0 + 0 ≤ _), (by decide : 0 + 0 ≤ _)⟩)
        dsimp only [Pt.U, Pt.locs, Pt.cells, Pt.slots] at X8 l8 y8 z8 st8 hQ8
        try dsimp only [Nat.reduceAdd] at y8 z8
        rw [l8, y8, z8] at X8
        obtain ⟨rfl, rfl, eH8⟩ := hQ8
        have N8 := Fr.app N6 (Fr.nil n0)
        refine own_tr st8 ?_
        show own_Go p e below T8 (mkF m 61 #[.val (.int j), .val (.ref x1), .val (.ref x2), .val (.ref x3), .val (.int j2)] [(.int (Int32.ofNat (s2 : List Int32).length)), (.int j2)]) _
        refine own_st (fun t_ k_ => XS.isub X8.here hx rfl (hb hby d33_61) rfl k_) ?_
        show own_Go p e below T8 (mkF m 62 #[.val (.int j), .val (.ref x1), .val (.ref x2), .val (.ref x3), .val (.int j2)] [(.int (j2 - (Int32.ofNat (s2 : List Int32).length)))]) _
        obtain ⟨jc, hc_, d3⟩ := own_subN d2 o2_ g3 (by omega)
        generalize (j2 - (Int32.ofNat (s2 : List Int32).length)) = j3 at d3 ⊢
        show own_Go p e below T8 (mkF m 62 #[.val (.int j), .val (.ref x1), .val (.ref x2), .val (.ref x3), .val (.int j2)] [(.int j3)]) _
        refine own_st (fun t_ k_ => XS.istore X8.here hx rfl (hb hby d33_62) rfl (l' := #[.val (.int j), .val (.ref x1), .val (.ref x2), .val (.ref x3), .val (.int j3)]) rfl (XS.iload X8.here hx rfl (hb hby d33_64) rfl k_)) ?_
        show own_Go p e below T8 (mkF m 66 #[.val (.int j), .val (.ref x1), .val (.ref x2), .val (.ref x3), .val (.int j3)] [(.int j3)]) _
        by_cases c66 : j3 = (0 : Int32)
        · skip
          refine own_st (fun t_ k_ => XS.ifNo X8.here hx rfl (hb hby d33_66) rfl ((if0 _ _).trans (teq c66).2) k_) ?_
          show own_Go p e below T8 (mkF m 69 #[.val (.int j), .val (.ref x1), .val (.ref x2), .val (.ref x3), .val (.int j3)] []) _
          have g4 : jc = 0 := own_z0 d3 c66
          refine own_st (fun t_ k_ => XS.bipush X8.here hx rfl (hb hby d33_69) k_) ?_
          show own_Go p e below T8 (mkF m 71 #[.val (.int j), .val (.ref x1), .val (.ref x2), .val (.ref x3), .val (.int j3)] [(.int (61 : Int32))]) _
          obtain ⟨fs, hr, hrun, hended, hW, hsame⟩ := X8.leave (v := some (.int (nar .char (61 : Int32)))) (fun h => by rw [Bd.returns] at h; cases h)
          refine own_fin (retN X8 hx (t := .char) Bd.returns (by simp) (hb hby d33_71) hr) ⟨hrun, hended, _, _, rfl, ?_, ⟨_, rfl⟩, hW, hsame.mono (by decide) (by decide)⟩
          show Q_rmEx Z j jj x1 t1_ k1_ s1 x2 t2_ k2_ s2 x3 t3_ k3_ s3 zc fm h0 n0 _ T8.heap _
          rw [eH8]
          exact ⟨(nar .char (61 : Int32)), rfl, N8, rfl, (by rw [own_x4 (show jj = s1.length + 1 + s2.length by omega)]; rfl)⟩
        · skip
          refine own_st (fun t_ k_ => XS.ifYes X8.here hx rfl (pc0 := 66) (pc' := 72) rfl (hb hby d33_66) rfl ((if0 _ _).trans (feq c66).2) (by decide) (by decide) k_) ?_
          show own_Go p e below T8 (mkF m 72 #[.val (.int j), .val (.ref x1), .val (.ref x2), .val (.ref x3), .val (.int j3)] []) _
          have g4 : 0 < jc := own_zp d3 c66
          refine own_st (fun t_ k_ => XS.iinc X8.here hx rfl (hb hby d33_72) rfl (l' := #[.val (.int j), .val (.ref x1), .val (.ref x2), .val (.ref x3), .val (.int (j3 + (-1 : Int32)))]) rfl k_) ?_
          show own_Go p e below T8 (mkF m 75 #[.val (.int j), .val (.ref x1), .val (.ref x2), .val (.ref x3), .val (.int (j3 + (-1 : Int32)))] []) _
          obtain ⟨jd, hd_, d4⟩ := own_decN d3 g4 (by omega)
          generalize (j3 + (-1 : Int32)) = j4 at d4 ⊢
          show own_Go p e below T8 (mkF m 75 #[.val (.int j), .val (.ref x1), .val (.ref x2), .val (.ref x3), .val (.int j4)] []) _
          refine own_st (fun t_ k_ => XS.iload X8.here hx rfl (hb hby d33_75) rfl (XS.aloadN X8.here hx rfl (hb hby d33_77) rfl rfl k_)) ?_
          show own_Go p e below T8 (mkF m 78 #[.val (.int j), .val (.ref x1), .val (.ref x2), .val (.ref x3), .val (.int j4)] [(.ref x3), (.int j4)]) _
          have hcd9 : StrChars.Road.CodA (s3 : List Int32) 0 (Int32.ofNat (s3 : List Int32).length) (((s3 : List Int32).map (fun c : Int32 => c.toInt8.toInt32)).map Value.int) := StrChars.Road.codOf rfl (fun x hx => (hp3 x hx).2)
          have hbd9 : ∀ x ∈ (s3 : List Int32), ¬ x < 0 ∧ ¬ (65535 : Int32) < x := own_up _ hp3
          obtain ⟨cq10, kq10, qa10, qb10, qc10⟩ := isOf hZ eH8 pE_x3
          obtain ⟨_, _, ⟨T10, L10, k10, n10⟩, -, X10, ⟨Lc10, hQ10, l10, y10, z10⟩, st10⟩ := X8.virtualBack hx (y := (⟨"java/lang/String", "length", "()I"⟩ : MethodName)) (z := (⟨"java/lang/String", "length", "()I"⟩ : MethodName)) hown (mvT hZ (own_w hw 155 rfl)) (mvT hZ (own_w hw 66 rfl)) (notFace_of_selects (args := #[]) (mvT hZ (own_w hw 68 rfl))) (mvT hZ (own_w hw 68 rfl)) (mvT hZ (own_w hw 67 rfl)) (by decide) (StrChars.Road.lenW (W := 1) hZ hln (kI := 4) (own_w hw 6 rfl) pE_x3 pF_value_x3 pF_coder_x3 pV_t3_ hcd9 hbd9 (pS_COMPACT_STRINGS.ext pO.2) pP5 q4_3 (by decide) (by decide)) qa10 qc10 (g := (mkF m 78 #[.val (.int j), .val (.ref x1), .val (.ref x2), .val (.ref x3), .val (.int j4)] [(.ref x3), (.int j4)])) rfl (by rw [hml]; rfl) (Steps.refl _) (argsL := []) (rest := [(.int j4)]) (lenOf pd___I rfl) rfl (by show 2 * 0 + _ ≤ _; exact Nat.le_of_eq rfl) (hb hby d33_78) (fun _ _ => ⟨rfl, eH8, (by decide : 0 + 0 ≤ _), (by decide : 0 + 0 ≤ _)⟩)
          dsimp only [Pt.U, Pt.locs, Pt.cells, Pt.slots] at X10 l10 y10 z10 st10 hQ10
          try dsimp only [Nat.reduceAdd] at y10 z10
          rw [l10, y10, z10] at X10
          obtain ⟨rfl, rfl, eH10⟩ := hQ10
          have N10 := Fr.app N8 (Fr.nil n0)
          refine own_tr st10 ?_
          show own_Go p e below T10 (mkF m 81 #[.val (.int j), .val (.ref x1), .val (.ref x2), .val (.ref x3), .val (.int j4)] [(.int (Int32.ofNat (s3 : List Int32).length)), (.int j4)]) _
          by_cases c81 : j4 < (Int32.ofNat (s3 : List Int32).length)
          · skip
            refine own_st (fun t_ k_ => XS.icmpNo X10.here hx rfl (hb hby d33_81) rfl (tlt c81).2.1 k_) ?_
            show own_Go p e below T10 (mkF m 84 #[.val (.int j), .val (.ref x1), .val (.ref x2), .val (.ref x3), .val (.int j4)] []) _
            have g5 : jd < s3.length := by rw [Int32.lt_iff_toInt_lt, o3_, d4] at c81; exact Int.ofNat_lt.mp c81
            refine own_st (fun t_ k_ => XS.aloadN X10.here hx rfl (hb hby d33_84) rfl rfl (XS.iload X10.here hx rfl (hb hby d33_85) rfl k_)) ?_
            show own_Go p e below T10 (mkF m 87 #[.val (.int j), .val (.ref x1), .val (.ref x2), .val (.ref x3), .val (.int j4)] [(.int j4), (.ref x3)]) _
            have ck : jd < s3.length := by omega
            obtain ⟨cq11, kq11, qa11, qb11, qc11⟩ := isOf hZ eH10 pE_x3
            obtain ⟨_, _, ⟨T11, L11, k11, n11⟩, -, X11, ⟨Lc11, hQ11, l11, y11, z11⟩, st11⟩ := X10.virtualBack hx (y := (⟨"java/lang/String", "charAt", "(I)C"⟩ : MethodName)) (z := (⟨"java/lang/String", "charAt", "(I)C"⟩ : MethodName)) hown (mvT hZ (own_w hw 159 rfl)) (mvT hZ (own_w hw 160 rfl)) (notFace_of_selects (args := #[]) (mvT hZ (own_w hw 162 rfl))) (mvT hZ (own_w hw 162 rfl)) (mvT hZ (own_w hw 161 rfl)) (by decide) (StrChars.Road.chN (W := 0) hZ hch (kI := 4) (own_w hw 6 rfl) pE_x3 pF_value_x3 pF_coder_x3 pV_t3_ hcd9 hbd9 (pS_COMPACT_STRINGS.ext pO.2) pP5 (pS_SIOOBE_FORMATTER.ext pO.2) rfm q4_3 (i := jd) ck (j := j4) (own_eqOf d4 (by omega)) (by decide) (by decide)) qa11 qc11 (g := (mkF m 87 #[.val (.int j), .val (.ref x1), .val (.ref x2), .val (.ref x3), .val (.int j4)] [(.int j4), (.ref x3)])) rfl (by rw [hml]; rfl) (Steps.refl _) (argsL := [(.int j4)]) (rest := []) (lenOf pd__I_C rfl) rfl (by show 2 * 0 + _ ≤ _; exact Nat.le_of_eq rfl) (hb hby d33_87) (fun _ _ => ⟨rfl, eH10, (by decide : 0 + 0 ≤ _), (by decide : 0 + 0 ≤ _)⟩)
            dsimp only [Pt.U, Pt.locs, Pt.cells, Pt.slots] at X11 l11 y11 z11 st11 hQ11
            try dsimp only [Nat.reduceAdd] at y11 z11
            rw [l11, y11, z11] at X11
            obtain ⟨rfl, rfl, eH11⟩ := hQ11
            have N11 := Fr.app N10 (Fr.nil n0)
            refine own_tr st11 ?_
            show own_Go p e below T11 (mkF m 90 #[.val (.int j), .val (.ref x1), .val (.ref x2), .val (.ref x3), .val (.int j4)] [(.int (s3.getD jd 0))]) _
            obtain ⟨fs, hr, hrun, hended, hW, hsame⟩ := X11.leave (v := some (.int (nar .char (s3.getD jd 0)))) (fun h => by rw [Bd.returns] at h; cases h)
            refine own_fin (retN X11 hx (t := .char) Bd.returns (by simp) (hb hby d33_90) hr) ⟨hrun, hended, _, _, rfl, ?_, ⟨_, rfl⟩, hW, hsame.mono (by decide) (by decide)⟩
            show Q_rmEx Z j jj x1 t1_ k1_ s1 x2 t2_ k2_ s2 x3 t3_ k3_ s3 zc fm h0 n0 _ T11.heap _
            rw [eH11]
            exact ⟨(nar .char (s3.getD jd 0)), rfl, N11, rfl, (by rw [own_nar (own_mem ck hp3), own_x5 (show jj = s1.length + 1 + s2.length + 1 + jd by omega) ck])⟩
          · skip
            refine own_st (fun t_ k_ => XS.icmpYes X10.here hx rfl (pc0 := 81) (pc' := 91) rfl (hb hby d33_81) rfl (flt c81).2.1 (by decide) (by decide) k_) ?_
            show own_Go p e below T10 (mkF m 91 #[.val (.int j), .val (.ref x1), .val (.ref x2), .val (.ref x3), .val (.int j4)] []) _
            have g5 : s3.length ≤ jd := by rw [Int32.lt_iff_toInt_lt, o3_, d4] at c81; omega
            refine own_st (fun t_ k_ => XS.bipush X10.here hx rfl (hb hby d33_91) k_) ?_
            show own_Go p e below T10 (mkF m 93 #[.val (.int j), .val (.ref x1), .val (.ref x2), .val (.ref x3), .val (.int j4)] [(.int (93 : Int32))]) _
            obtain ⟨fs, hr, hrun, hended, hW, hsame⟩ := X10.leave (v := some (.int (nar .char (93 : Int32)))) (fun h => by rw [Bd.returns] at h; cases h)
            refine own_fin (retN X10 hx (t := .char) Bd.returns (by simp) (hb hby d33_93) hr) ⟨hrun, hended, _, _, rfl, ?_, ⟨_, rfl⟩, hW, hsame.mono (by decide) (by decide)⟩
            show Q_rmEx Z j jj x1 t1_ k1_ s1 x2 t2_ k2_ s2 x3 t3_ k3_ s3 zc fm h0 n0 _ T10.heap _
            rw [eH10]
            exact ⟨(nar .char (93 : Int32)), rfl, N10, rfl, (by rw [own_x6 (show jj = s1.length + 1 + s2.length + 1 + s3.length by omega)]; rfl)⟩
theorem d27_0 : decode method_4_code 0 = .ok (.iload_n 1, 1) := by decide +kernel
theorem d27_1 : decode method_4_code 1 = .ok (.aload_n 0, 1) := by decide +kernel
theorem d27_2 : decode method_4_code 2 = .ok (.invokevirtual 22, 3) := by decide +kernel
theorem d27_5 : decode method_4_code 5 = .ok (.if_icmp .ge 19, 3) := by decide +kernel
theorem d27_8 : decode method_4_code 8 = .ok (.aload_n 0, 1) := by decide +kernel
theorem d27_9 : decode method_4_code 9 = .ok (.iload_n 1, 1) := by decide +kernel
theorem d27_10 : decode method_4_code 10 = .ok (.invokevirtual 41, 3) := by decide +kernel
theorem d27_13 : decode method_4_code 13 = .ok (.iload_n 1, 1) := by decide +kernel
theorem d27_14 : decode method_4_code 14 = .ok (.aload_n 2, 1) := by decide +kernel
theorem d27_15 : decode method_4_code 15 = .ok (.aload_n 3, 1) := by decide +kernel
theorem d27_16 : decode method_4_code 16 = .ok (.aload 4, 2) := by decide +kernel
theorem d27_18 : decode method_4_code 18 = .ok (.invokestatic 45, 3) := by decide +kernel
theorem d27_21 : decode method_4_code 21 = .ok (.if_icmp .ne 7, 3) := by decide +kernel
theorem d27_24 : decode method_4_code 24 = .ok (.iconst 1, 1) := by decide +kernel
theorem d27_25 : decode method_4_code 25 = .ok (.goto 4, 3) := by decide +kernel
theorem d27_29 : decode method_4_code 29 = .ok (.ireturn, 1) := by decide +kernel
theorem pn_27 : plainName "com/example/spillback/spillback/io/SelectionToStringPinLaw" = true := by first | (simp [plainName, overriddenIn]; done) | decide +kernel
theorem pd__ILjava_lang_String_Ljava_lang_String_Ljava_lang_String__C : parseMethodDescriptor "(ILjava/lang/String;Ljava/lang/String;Ljava/lang/String;)C" = some ⟨[.int, (.object "java/lang/String"), (.object "java/lang/String"), (.object "java/lang/String")], some .char⟩ := by decide +kernel
theorem ef_rmAt (m : MethodId) (x0 : Addr) (x1 : Int32) (x2 : Addr) (x3 : Addr) (x4 : Addr) : entryFrame m #[(.ref x0), (.int x1), (.ref x2), (.ref x3), (.ref x4)] 5 = mkF m 0 #[.val (.ref x0), .val (.int x1), .val (.ref x2), .val (.ref x3), .val (.ref x4)] [] := by first | (simp [entryFrame, mkF, argsToLocals, Value.category]; done) | rfl
def Q_rmAt (Z : State) (y : Addr) (ty : Addr) (ky : ClassId) (j : Int32) (jj : Nat) (x1 : Addr) (t1_ : Addr) (k1_ : ClassId) (s1 : List Int32) (x2 : Addr) (t2_ : Addr) (k2_ : ClassId) (s2 : List Int32) (x3 : Addr) (t3_ : Addr) (k3_ : ClassId) (s3 : List Int32) (zc : Int32) (fm : Value) (h0 : Heap) (n0 : Nat) (v : Option Value) (h : Heap) (L : List Loc) : Prop := v = some (.int (1 : Int32)) ∧ Fr n0 L ∧ h = h0
set_option maxRecDepth 65536 in
set_option maxHeartbeats 40000000 in
theorem rmAt (l : Launch) (Z : State) (a0 : Array Value) (hw : ∀ d ∈ tables_1, d.before a0 Z = true) (ws : List Jvm.Cond) (y : Addr) (ty : Addr) (ky : ClassId) (j : Int32) (jj : Nat) (x1 : Addr) (t1_ : Addr) (k1_ : ClassId) (s1 : List Int32) (x2 : Addr) (t2_ : Addr) (k2_ : ClassId) (s2 : List Int32) (x3 : Addr) (t3_ : Addr) (k3_ : ClassId) (s3 : List Int32) (zc : Int32) (fm : Value) (h0 : Heap) (n0 : Nat) (Z0 : n0 ≤ h0.size) (pE_y : Exa Z h0 y "java/lang/String") (pF_value_y : Fld Z h0 y "java/lang/String" "value" "[B" (.ref ty)) (pF_coder_y : Fld Z h0 y "java/lang/String" "coder" "B" (.int (0 : Int32))) (pV_ty : Arv Z h0 ty ky .byte (Int32.ofNat ((own_all s1 s2 s3) : List Int32).length) ((((own_all s1 s2 s3) : List Int32).map (fun c : Int32 => c.toInt8.toInt32)).map Value.int) (.int 0)) (pE_x1 : Exa Z h0 x1 "java/lang/String") (pF_value_x1 : Fld Z h0 x1 "java/lang/String" "value" "[B" (.ref t1_)) (pF_coder_x1 : Fld Z h0 x1 "java/lang/String" "coder" "B" (.int (0 : Int32))) (pV_t1_ : Arv Z h0 t1_ k1_ .byte (Int32.ofNat (s1 : List Int32).length) (((s1 : List Int32).map (fun c : Int32 => c.toInt8.toInt32)).map Value.int) (.int 0)) (pE_x2 : Exa Z h0 x2 "java/lang/String") (pF_value_x2 : Fld Z h0 x2 "java/lang/String" "value" "[B" (.ref t2_)) (pF_coder_x2 : Fld Z h0 x2 "java/lang/String" "coder" "B" (.int (0 : Int32))) (pV_t2_ : Arv Z h0 t2_ k2_ .byte (Int32.ofNat (s2 : List Int32).length) (((s2 : List Int32).map (fun c : Int32 => c.toInt8.toInt32)).map Value.int) (.int 0)) (pE_x3 : Exa Z h0 x3 "java/lang/String") (pF_value_x3 : Fld Z h0 x3 "java/lang/String" "value" "[B" (.ref t3_)) (pF_coder_x3 : Fld Z h0 x3 "java/lang/String" "coder" "B" (.int (0 : Int32))) (pV_t3_ : Arv Z h0 t3_ k3_ .byte (Int32.ofNat (s3 : List Int32).length) (((s3 : List Int32).map (fun c : Int32 => c.toInt8.toInt32)).map Value.int) (.int 0)) (hp1 : (own_P s1)) (hl1 : (s1.length ≤ 2)) (hp2 : (own_P s2)) (hl2 : (s2.length ≤ 2)) (hp3 : (own_P s3)) (hl3 : (s3.length ≤ 2)) (hj : (j.toInt = (jj : Int))) (pS_COMPACT_STRINGS : Sta Z Z.heap "java/lang/String" "COMPACT_STRINGS" "Z" (.int zc)) (pP5 : (¬ (zc = (0 : Int32)))) (pS_SIOOBE_FORMATTER : Sta Z Z.heap "jdk/internal/util/Preconditions" "SIOOBE_FORMATTER" "Ljava/util/function/BiFunction;" fm) (rfm : (fm.isRef = true)) (pO : Old Z n0 h0) :
    MetFree l (⟨"com/example/spillback/spillback/io/SelectionToStringPinLaw", "at", "(Ljava/lang/String;ILjava/lang/String;Ljava/lang/String;Ljava/lang/String;)Z"⟩ : MethodName) (head1 (Jvm.Cond.code (⟨"com/example/spillback/spillback/io/SelectionToStringPinLaw", "at", "(Ljava/lang/String;ILjava/lang/String;Ljava/lang/String;Ljava/lang/String;)Z"⟩ : MethodName) method_4_code 5 (some .boolean) :: ws) ({ frames := 5, cells := 0, slots := 0, locals := 70 } : Room)) (fun a U => a = #[(.ref y), (.int j), (.ref x1), (.ref x2), (.ref x3)] ∧ Z.Warmed39 U.vm ∧ U.heap = h0) (fun _ _ _ _ _ => True) (fun _ U o U' => ∃ v L, o = .returned v ∧ Q_rmAt Z y ty ky j jj x1 t1_ k1_ s1 x2 t2_ k2_ s2 x3 t3_ k3_ s3 zc fm h0 n0 v U'.heap L ∧ FrameEnd U o U' L ({ frames := 5, cells := 0, slots := 0, locals := 70 } : Room).cells ({ frames := 5, cells := 0, slots := 0, locals := 70 } : Room).slots) := by
  refine MetFree.of_bodySF (plainFor_of_name pn_27) hisR ?_
  intro p e s m args below meth c s₁ Bd hml0 hP hK
  obtain ⟨rfl, hZ, hh⟩ := hP
  have hx := Bd.exec
  have hby := Bd.bytes
  have hml : c.maxLocals = 5 := hml0
  have hown : s.vm.findClass "com/example/spillback/spillback/io/SelectionToStringPinLaw" = some m.cls := findClass_of_methodNamed Bd.named
  have hnm := (name_of_methodNamed Bd.named Bd.method).1
  have X0 : Stand p l e ({ frames := 5, cells := 0, slots := 0, locals := 70 } : Room) s m #[(.ref y), (.int j), (.ref x1), (.ref x2), (.ref x3)] below meth c s₁ [] 0 0 := Stand.of_body Bd
  have e0 : s₁.heap = h0 := by rw [← hh, Bd.state]; rfl
  have N0 := Fr.nil n0
  refine own_enter (ef_rmAt m y j x1 x2 x3) ?_
  have hln : ∀ d ∈ StrChars.Road.wordsLen, d.before a0 Z = true := fun d hd => hw d ((by decide +kernel : ∀ d ∈ StrChars.Road.wordsLen, d ∈ tables_1) d hd)
  have hch : ∀ d ∈ StrChars.Road.wordsChN, d.before a0 Z = true := fun d hd => hw d ((by decide +kernel : ∀ d ∈ StrChars.Road.wordsChN, d ∈ tables_1) d hd)
  have hpA := own_allP hp1 hp2 hp3
  have lA := own_len s1 s2 s3
  have q4A : (own_all s1 s2 s3).length ≤ 4000 := by omega
  have oA : (Int32.ofNat ((own_all s1 s2 s3) : List Int32).length).toInt = ((own_all s1 s2 s3).length : Int) := own_ofNat (by omega)
  refine own_st (fun t_ k_ => XS.iloadN X0.here hx rfl (hb hby d27_0) rfl (XS.aloadN X0.here hx rfl (hb hby d27_1) rfl rfl k_)) ?_
  show own_Go p e below s₁ (mkF m 2 #[.val (.ref y), .val (.int j), .val (.ref x1), .val (.ref x2), .val (.ref x3)] [(.ref y), (.int j)]) _
  have hcd1 : StrChars.Road.CodA ((own_all s1 s2 s3) : List Int32) 0 (Int32.ofNat ((own_all s1 s2 s3) : List Int32).length) ((((own_all s1 s2 s3) : List Int32).map (fun c : Int32 => c.toInt8.toInt32)).map Value.int) := StrChars.Road.codOf rfl (fun x hx => (hpA x hx).2)
  have hbd1 : ∀ x ∈ ((own_all s1 s2 s3) : List Int32), ¬ x < 0 ∧ ¬ (65535 : Int32) < x := own_up _ hpA
  obtain ⟨cq2, kq2, qa2, qb2, qc2⟩ := isOf hZ e0 pE_y
  obtain ⟨_, _, ⟨T2, L2, k2, n2⟩, -, X2, ⟨Lc2, hQ2, l2, y2, z2⟩, st2⟩ := X0.virtualBack hx (y := (⟨"java/lang/String", "length", "()I"⟩ : MethodName)) (z := (⟨"java/lang/String", "length", "()I"⟩ : MethodName)) hown (mvT hZ (own_w hw 155 rfl)) (mvT hZ (own_w hw 66 rfl)) (notFace_of_selects (args := #[]) (mvT hZ (own_w hw 68 rfl))) (mvT hZ (own_w hw 68 rfl)) (mvT hZ (own_w hw 67 rfl)) (by decide) (StrChars.Road.lenW (W := 1) hZ hln (kI := 4) (own_w hw 6 rfl) pE_y pF_value_y pF_coder_y pV_ty hcd1 hbd1 (pS_COMPACT_STRINGS.ext pO.2) pP5 q4A (by decide) (by decide)) qa2 qc2 (g := (mkF m 2 #[.val (.ref y), .val (.int j), .val (.ref x1), .val (.ref x2), .val (.ref x3)] [(.ref y), (.int j)])) rfl (by rw [hml]; rfl) (Steps.refl _) (argsL := []) (rest := [(.int j)]) (lenOf pd___I rfl) rfl (by show 2 * 0 + _ ≤ _; exact Nat.le_of_eq rfl) (hb hby d27_2) (fun _ _ => ⟨rfl, e0, (by decide : 0 + 0 ≤ _), (by decide : 0 + 0 ≤ _)⟩)
  dsimp only [Pt.U, Pt.locs, Pt.cells, Pt.slots] at X2 l2 y2 z2 st2 hQ2
  try dsimp only [Nat.reduceAdd] at y2 z2
  rw [l2, y2, z2] at X2
  obtain ⟨rfl, rfl, eH2⟩ := hQ2
  have N2 := Fr.app N0 (Fr.nil n0)
  refine own_tr st2 ?_
  show own_Go p e below T2 (mkF m 5 #[.val (.ref y), .val (.int j), .val (.ref x1), .val (.ref x2), .val (.ref x3)] [(.int (Int32.ofNat ((own_all s1 s2 s3) : List Int32).length)), (.int j)]) _
  by_cases c5 : j < (Int32.ofNat ((own_all s1 s2 s3) : List Int32).length)
  · skip
    refine own_st (fun t_ k_ => XS.icmpNo X2.here hx rfl (hb hby d27_5) rfl (tlt c5).2.1 k_) ?_
    show own_Go p e below T2 (mkF m 8 #[.val (.ref y), .val (.int j), .val (.ref x1), .val (.ref x2), .val (.ref x3)] []) _
    have cj : jj < (own_all s1 s2 s3).length := by rw [Int32.lt_iff_toInt_lt, oA] at c5; omega
    refine own_st (fun t_ k_ => XS.aloadN X2.here hx rfl (hb hby d27_8) rfl rfl (XS.iloadN X2.here hx rfl (hb hby d27_9) rfl k_)) ?_
    show own_Go p e below T2 (mkF m 10 #[.val (.ref y), .val (.int j), .val (.ref x1), .val (.ref x2), .val (.ref x3)] [(.int j), (.ref y)]) _
    obtain ⟨cq3, kq3, qa3, qb3, qc3⟩ := isOf hZ eH2 pE_y
    obtain ⟨_, _, ⟨T3, L3, k3, n3⟩, -, X3, ⟨Lc3, hQ3, l3, y3, z3⟩, st3⟩ := X2.virtualBack hx (y := (⟨"java/lang/String", "charAt", "(I)C"⟩ : MethodName)) (z := (⟨"java/lang/String", "charAt", "(I)C"⟩ : MethodName)) hown (mvT hZ (own_w hw 159 rfl)) (mvT hZ (own_w hw 160 rfl)) (notFace_of_selects (args := #[]) (mvT hZ (own_w hw 162 rfl))) (mvT hZ (own_w hw 162 rfl)) (mvT hZ (own_w hw 161 rfl)) (by decide) (StrChars.Road.chN (W := 0) hZ hch (kI := 4) (own_w hw 6 rfl) pE_y pF_value_y pF_coder_y pV_ty hcd1 hbd1 (pS_COMPACT_STRINGS.ext pO.2) pP5 (pS_SIOOBE_FORMATTER.ext pO.2) rfm q4A (i := jj) cj (j := j) (own_eqOf hj (by omega)) (by decide) (by decide)) qa3 qc3 (g := (mkF m 10 #[.val (.ref y), .val (.int j), .val (.ref x1), .val (.ref x2), .val (.ref x3)] [(.int j), (.ref y)])) rfl (by rw [hml]; rfl) (Steps.refl _) (argsL := [(.int j)]) (rest := []) (lenOf pd__I_C rfl) rfl (by show 2 * 0 + _ ≤ _; exact Nat.le_of_eq rfl) (hb hby d27_10) (fun _ _ => ⟨rfl, eH2, (by decide : 0 + 0 ≤ _), (by decide : 0 + 0 ≤ _)⟩)
    dsimp only [Pt.U, Pt.locs, Pt.cells, Pt.slots] at X3 l3 y3 z3 st3 hQ3
    try dsimp only [Nat.reduceAdd] at y3 z3
    rw [l3, y3, z3] at X3
    obtain ⟨rfl, rfl, eH3⟩ := hQ3
    have N3 := Fr.app N2 (Fr.nil n0)
    refine own_tr st3 ?_
    show own_Go p e below T3 (mkF m 13 #[.val (.ref y), .val (.int j), .val (.ref x1), .val (.ref x2), .val (.ref x3)] [(.int ((own_all s1 s2 s3).getD jj 0))]) _
    refine own_st (fun t_ k_ => XS.iloadN X3.here hx rfl (hb hby d27_13) rfl (XS.aloadN X3.here hx rfl (hb hby d27_14) rfl rfl (XS.aloadN X3.here hx rfl (hb hby d27_15) rfl rfl (XS.aload X3.here hx rfl (hb hby d27_16) rfl rfl k_)))) ?_
    show own_Go p e below T3 (mkF m 18 #[.val (.ref y), .val (.int j), .val (.ref x1), .val (.ref x2), .val (.ref x3)] [(.ref x3), (.ref x2), (.ref x1), (.int j), (.int ((own_all s1 s2 s3).getD jj 0))]) _
    obtain ⟨_, _, ⟨T4, L4, k4, n4⟩, -, X4, ⟨Lc4, hQ4, l4, y4, z4⟩, st4⟩ := Jvm.LawKit.callS X3 hx (y := (⟨"com/example/spillback/spillback/io/SelectionToStringPinLaw", "expected", "(ILjava/lang/String;Ljava/lang/String;Ljava/lang/String;)C"⟩ : MethodName)) hown (mvT hZ (own_w hw 181 rfl)) (mvT hZ (own_w hw 182 rfl)) (mvT hZ (own_w hw 2 rfl)) (mvT hZ (own_w hw 183 rfl)) (by decide) (backOf (W := 1) (rmEx l Z a0 hw [] j jj x1 t1_ k1_ s1 x2 t2_ k2_ s2 x3 t3_ k3_ s3 zc fm h0 n0 Z0 pE_x1 pF_value_x1 pF_coder_x1 pV_t1_ pE_x2 pF_value_x2 pF_coder_x2 pV_t2_ pE_x3 pF_value_x3 pF_coder_x3 pV_t3_ hp1 hl1 hp2 hl2 hp3 hl3 hj (by omega) pS_COMPACT_STRINGS pP5 pS_SIOOBE_FORMATTER rfm pO) hZ (own_w hw 183 rfl) (own_w hw 2 rfl) (by decide) (by decide)) (g := (mkF m 18 #[.val (.ref y), .val (.int j), .val (.ref x1), .val (.ref x2), .val (.ref x3)] [(.ref x3), (.ref x2), (.ref x1), (.int j), (.int ((own_all s1 s2 s3).getD jj 0))])) rfl (by rw [hml]; rfl) (argsL := [(.int j), (.ref x1), (.ref x2), (.ref x3)]) (rest := [(.int ((own_all s1 s2 s3).getD jj 0))]) (lenOf pd__ILjava_lang_String_Ljava_lang_String_Ljava_lang_String__C rfl) rfl (by show 2 * 0 + _ ≤ _; exact Nat.le_of_eq rfl) (hb hby d27_18) (fun _ _ => ⟨rfl, eH3, (by decide : 0 + 0 ≤ _), (by decide : 0 + 0 ≤ _)⟩)
    dsimp only [Pt.U, Pt.locs, Pt.cells, Pt.slots] at X4 l4 y4 z4 st4 hQ4
    try dsimp only [Nat.reduceAdd] at y4 z4
    rw [l4, y4, z4] at X4
    obtain ⟨r_4, rfl, Nq4, eH4, q4_0⟩ := hQ4
    have N4 := Fr.app N3 Nq4
    refine own_st st4 ?_
    show own_Go p e below T4 (mkF m 21 #[.val (.ref y), .val (.int j), .val (.ref x1), .val (.ref x2), .val (.ref x3)] [(.int r_4), (.int ((own_all s1 s2 s3).getD jj 0))]) _
    refine own_st (fun t_ k_ => XS.icmpNo X4.here hx rfl (hb hby d27_21) rfl (teq q4_0.symm).2 (XS.iconst X4.here hx rfl (hb hby d27_24) (XS.goto X4.here hx rfl (pc0 := 25) (pc' := 29) rfl (hb hby d27_25) (by decide) (by decide) k_))) ?_
    show own_Go p e below T4 (mkF m 29 #[.val (.ref y), .val (.int j), .val (.ref x1), .val (.ref x2), .val (.ref x3)] [(.int (1 : Int32))]) _
    obtain ⟨fs, hr, hrun, hended, hW, hsame⟩ := X4.leave (v := some (.int (1 : Int32))) (fun h => by rw [Bd.returns] at h; cases h)
    refine own_fin (retN X4 hx (t := .boolean) Bd.returns (by simp) (hb hby d27_29) hr) ⟨hrun, hended, _, _, rfl, ?_, ⟨_, rfl⟩, hW, hsame.mono (by decide) (by decide)⟩
    show Q_rmAt Z y ty ky j jj x1 t1_ k1_ s1 x2 t2_ k2_ s2 x3 t3_ k3_ s3 zc fm h0 n0 _ T4.heap _
    rw [eH4]
    exact ⟨rfl, N4, rfl⟩
  · skip
    refine own_st (fun t_ k_ => XS.icmpYes X2.here hx rfl (pc0 := 5) (pc' := 24) rfl (hb hby d27_5) rfl (flt c5).2.1 (by decide) (by decide) (XS.iconst X2.here hx rfl (hb hby d27_24) (XS.goto X2.here hx rfl (pc0 := 25) (pc' := 29) rfl (hb hby d27_25) (by decide) (by decide) k_))) ?_
    show own_Go p e below T2 (mkF m 29 #[.val (.ref y), .val (.int j), .val (.ref x1), .val (.ref x2), .val (.ref x3)] [(.int (1 : Int32))]) _
    obtain ⟨fs, hr, hrun, hended, hW, hsame⟩ := X2.leave (v := some (.int (1 : Int32))) (fun h => by rw [Bd.returns] at h; cases h)
    refine own_fin (retN X2 hx (t := .boolean) Bd.returns (by simp) (hb hby d27_29) hr) ⟨hrun, hended, _, _, rfl, ?_, ⟨_, rfl⟩, hW, hsame.mono (by decide) (by decide)⟩
    show Q_rmAt Z y ty ky j jj x1 t1_ k1_ s1 x2 t2_ k2_ s2 x3 t3_ k3_ s3 zc fm h0 n0 _ T2.heap _
    rw [eH2]
    exact ⟨rfl, N2, rfl⟩
theorem pn_0 : plainName "com/example/spillback/spillback/io/SelectionToStringPinLaw" = true := by first | (simp [plainName, overriddenIn]; done) | decide +kernel
theorem pd__I_Ljava_lang_String_ : parseMethodDescriptor "(I)Ljava/lang/String;" = some ⟨[.int], some (.object "java/lang/String")⟩ := by decide +kernel
theorem pd__Ljava_lang_String_Ljava_lang_String_Ljava_lang_String__V : parseMethodDescriptor "(Ljava/lang/String;Ljava/lang/String;Ljava/lang/String;)V" = some ⟨[(.object "java/lang/String"), (.object "java/lang/String"), (.object "java/lang/String")], none⟩ := by decide +kernel
theorem pd__Ljava_lang_String_ILjava_lang_String_Ljava_lang_String_Ljava_lang_String__Z : parseMethodDescriptor "(Ljava/lang/String;ILjava/lang/String;Ljava/lang/String;Ljava/lang/String;)Z" = some ⟨[(.object "java/lang/String"), .int, (.object "java/lang/String"), (.object "java/lang/String"), (.object "java/lang/String")], some .boolean⟩ := by decide +kernel
theorem ef_rmLaw (m : MethodId) (x0 : Int32) (x1 : Int32) (x2 : Int32) : entryFrame m #[(.int x0), (.int x1), (.int x2)] maxLocals = mkF m 0 #[.val (.int x0), .val (.int x1), .val (.int x2), .unset, .unset, .unset, .unset, .unset] [] := by first | (simp [entryFrame, mkF, argsToLocals, Value.category, maxLocals]; done) | rfl
def Q_rmLaw (Z : State) (p0 : Int32) (p1 : Int32) (p2 : Int32) (zc : Int32) (fm : Value) (h0 : Heap) (n0 : Nat) (v : Option Value) (h : Heap) (L : List Loc) : Prop := v = some (.int (1 : Int32)) ∧ Fr n0 L ∧ Keep h0 h []
set_option maxRecDepth 65536 in
set_option maxHeartbeats 40000000 in
theorem rmLaw (l : Launch) (Z : State) (a0 : Array Value) (hw : ∀ d ∈ tables_1, d.before a0 Z = true) (ws : List Jvm.Cond) (p0 : Int32) (p1 : Int32) (p2 : Int32) (zc : Int32) (fm : Value) (h0 : Heap) (n0 : Nat) (Z0 : n0 ≤ h0.size) (pS_COMPACT_STRINGS : Sta Z Z.heap "java/lang/String" "COMPACT_STRINGS" "Z" (.int zc)) (pP5 : (¬ (zc = (0 : Int32)))) (pS_SIOOBE_FORMATTER : Sta Z Z.heap "jdk/internal/util/Preconditions" "SIOOBE_FORMATTER" "Ljava/util/function/BiFunction;" fm) (rfm : (fm.isRef = true)) (pO : Old Z n0 h0) :
    MetFree l x (head1 (Jvm.Cond.code x code maxLocals ret :: ws) room_1) (fun a U => a = #[(.int p0), (.int p1), (.int p2)] ∧ Z.Warmed39 U.vm ∧ U.heap = h0 ∧ CHv Z own_EL U.vm h0) (fun _ _ _ _ _ => True) (fun _ U o U' => ∃ v L, o = .returned v ∧ Q_rmLaw Z p0 p1 p2 zc fm h0 n0 v U'.heap L ∧ CHr Z own_EL U.vm U.heap U'.vm U'.heap ∧ ReturnedEndW U o U' L 48 4352) := by
  refine MetFree.of_bodySF (plainFor_of_name pn_0) hisR ?_
  intro p e s m args below meth c s₁ Bd hml0 hP hK
  obtain ⟨rfl, hZ, hh, hCH⟩ := hP
  have hx := Bd.exec
  have hby := Bd.bytes
  have hml : c.maxLocals = 8 := hml0
  have hown : s.vm.findClass "com/example/spillback/spillback/io/SelectionToStringPinLaw" = some m.cls := findClass_of_methodNamed Bd.named
  have hnm := (name_of_methodNamed Bd.named Bd.method).1
  have X0 : Stand p l e room_1 (s.setVm s.vm) m #[(.int p0), (.int p1), (.int p2)] below meth c s₁ [] 0 0 := Stand.of_body Bd
  have e0 : s₁.heap = h0 := by rw [← hh, Bd.state]; rfl
  have N0 := Fr.nil n0
  have hEL := own_EW hw
  have hCR := CHr.refl hCH
  have hS : s.Since s.vm h0.size := (State.WarmedH.refl s).since _
  have hK0 : h0.size ≤ h0.size := Nat.le_refl _
  refine own_enter (ef_rmLaw m p0 p1 p2) ?_
  have hln : ∀ d ∈ StrChars.Road.wordsLen, d.before a0 Z = true := fun d hd => hw d ((by decide +kernel : ∀ d ∈ StrChars.Road.wordsLen, d ∈ tables_1) d hd)
  refine own_st (fun t_ k_ => XS.iloadN X0.here hx rfl (hb hby at_0) rfl k_) ?_
  show own_Go p e below s₁ (mkF m 1 #[.val (.int p0), .val (.int p1), .val (.int p2), .unset, .unset, .unset, .unset, .unset] [(.int p0)]) _
  obtain ⟨_, _, ⟨T1, L1, k1, n1⟩, -, Xa1, hSa1, hGa1, ⟨Lc1, hQ1, l1, y1, z1, A1⟩, st1⟩ := Jvm.RoadKit.callSS X0 hx (y := (⟨"com/example/spillback/spillback/io/SelectionToStringPinLaw", "draw", "(I)Ljava/lang/String;"⟩ : MethodName)) hown (mvT hZ (own_w hw 0 rfl)) (mvT hZ (own_w hw 1 rfl)) (mvT hZ (own_w hw 2 rfl)) (mvT hZ (own_w hw 3 rfl)) (by decide) (backOfSH (W := 0) (rmDr l Z a0 hw [] p0 zc h0 n0 Z0 pS_COMPACT_STRINGS pP5 pO) hZ (own_w hw 3 rfl) (own_w hw 2 rfl) (by decide) (by decide) hEL hCH) (g := (mkF m 1 #[.val (.int p0), .val (.int p1), .val (.int p2), .unset, .unset, .unset, .unset, .unset] [(.int p0)])) rfl (by rw [hml]; rfl) (argsL := [(.int p0)]) (rest := []) (lenOf pd__I_Ljava_lang_String_ rfl) rfl (by show 2 * 0 + _ ≤ _; exact Nat.le_of_eq rfl) (hb hby at_1) (fun _ _ => ⟨rfl, e0, (by decide : 0 + 3 ≤ _), (by decide : 0 + 8 ≤ _)⟩)
  dsimp only [Pt.U, Pt.locs, Pt.cells, Pt.slots] at Xa1 hSa1 hGa1 l1 y1 z1 A1 st1 hQ1
  try dsimp only [Nat.reduceAdd] at y1 z1
  rw [l1, y1, z1] at Xa1
  obtain ⟨X1, hS, hZ, hown⟩ := rebS hS (by rw [e0]; exact hK0) Xa1 hSa1 hGa1 hZ hown
  obtain ⟨y_1, t_1, kb_1, cs_1, rfl, Nq1, Kq1, q1_0, q1_1, q1_2, q1_3, q1_4, q1_5⟩ := hQ1
  have N1 := Fr.app N0 Nq1
  have CH2 := A1.1
  have CR2 := CHr.trans hCR (A1)
  have K3 : Keep h0 T1.heap [] := (Keep.refl h0 []).trans Kq1 all0
  have hK1 : T1.heap.size ≤ T1.heap.size := Nat.le_refl _
  refine own_tr st1 ?_
  show own_Go p e below T1 (mkF m 4 #[.val (.int p0), .val (.int p1), .val (.int p2), .unset, .unset, .unset, .unset, .unset] [(.ref y_1)]) _
  refine own_st (fun t_ k_ => XS.astoreN X1.here hx rfl (hb hby at_4) rfl rfl (l' := #[.val (.int p0), .val (.int p1), .val (.int p2), .val (.ref y_1), .unset, .unset, .unset, .unset]) rfl (XS.iloadN X1.here hx rfl (hb hby at_5) rfl k_)) ?_
  show own_Go p e below T1 (mkF m 6 #[.val (.int p0), .val (.int p1), .val (.int p2), .val (.ref y_1), .unset, .unset, .unset, .unset] [(.int p1)]) _
  have f4 := (Nat.le_trans Z0 Kq1.1)
  have f5 := (pO.keep Kq1 all0)
  obtain ⟨_, _, ⟨T6, L6, k6, n6⟩, -, Xa6, hSa6, hGa6, ⟨Lc6, hQ6, l6, y6, z6, A6⟩, st6⟩ := Jvm.RoadKit.callSS X1 hx (y := (⟨"com/example/spillback/spillback/io/SelectionToStringPinLaw", "draw", "(I)Ljava/lang/String;"⟩ : MethodName)) hown (mvT hZ (own_w hw 0 rfl)) (mvT hZ (own_w hw 1 rfl)) (mvT hZ (own_w hw 2 rfl)) (mvT hZ (own_w hw 3 rfl)) (by decide) (backOfSH (W := 0) (rmDr l Z a0 hw [] p1 zc T1.heap n0 f4 pS_COMPACT_STRINGS pP5 f5) hZ (own_w hw 3 rfl) (own_w hw 2 rfl) (by decide) (by decide) hEL CH2) (g := (mkF m 6 #[.val (.int p0), .val (.int p1), .val (.int p2), .val (.ref y_1), .unset, .unset, .unset, .unset] [(.int p1)])) rfl (by rw [hml]; rfl) (argsL := [(.int p1)]) (rest := []) (lenOf pd__I_Ljava_lang_String_ rfl) rfl (by show 2 * 0 + _ ≤ _; exact Nat.le_of_eq rfl) (hb hby at_6) (fun _ _ => ⟨rfl, rfl, (by decide : 3 + 3 ≤ _), (by decide : 8 + 8 ≤ _)⟩)
  dsimp only [Pt.U, Pt.locs, Pt.cells, Pt.slots] at Xa6 hSa6 hGa6 l6 y6 z6 A6 st6 hQ6
  try dsimp only [Nat.reduceAdd] at y6 z6
  rw [l6, y6, z6] at Xa6
  obtain ⟨X6, hS, hZ, hown⟩ := rebS hS hK1 Xa6 hSa6 hGa6 hZ hown
  obtain ⟨y_6, t_6, kb_6, cs_6, rfl, Nq6, Kq6, q6_0, q6_1, q6_2, q6_3, q6_4, q6_5⟩ := hQ6
  have N6 := Fr.app N1 Nq6
  have CH7 := A6.1
  have CR7 := CHr.trans CR2 (A6)
  have K8 : Keep h0 T6.heap [] := K3.trans Kq6 all0
  have hK6 : T6.heap.size ≤ T6.heap.size := Nat.le_refl _
  refine own_tr st6 ?_
  show own_Go p e below T6 (mkF m 9 #[.val (.int p0), .val (.int p1), .val (.int p2), .val (.ref y_1), .unset, .unset, .unset, .unset] [(.ref y_6)]) _
  refine own_st (fun t_ k_ => XS.astore X6.here hx rfl (hb hby at_9) rfl rfl (l' := #[.val (.int p0), .val (.int p1), .val (.int p2), .val (.ref y_1), .val (.ref y_6), .unset, .unset, .unset]) rfl (XS.iloadN X6.here hx rfl (hb hby at_11) rfl k_)) ?_
  show own_Go p e below T6 (mkF m 12 #[.val (.int p0), .val (.int p1), .val (.int p2), .val (.ref y_1), .val (.ref y_6), .unset, .unset, .unset] [(.int p2)]) _
  have f9 := (Nat.le_trans f4 Kq6.1)
  have f10 := (f5.keep Kq6 all0)
  obtain ⟨_, _, ⟨T11, L11, k11, n11⟩, -, Xa11, hSa11, hGa11, ⟨Lc11, hQ11, l11, y11, z11, A11⟩, st11⟩ := Jvm.RoadKit.callSS X6 hx (y := (⟨"com/example/spillback/spillback/io/SelectionToStringPinLaw", "draw", "(I)Ljava/lang/String;"⟩ : MethodName)) hown (mvT hZ (own_w hw 0 rfl)) (mvT hZ (own_w hw 1 rfl)) (mvT hZ (own_w hw 2 rfl)) (mvT hZ (own_w hw 3 rfl)) (by decide) (backOfSH (W := 0) (rmDr l Z a0 hw [] p2 zc T6.heap n0 f9 pS_COMPACT_STRINGS pP5 f10) hZ (own_w hw 3 rfl) (own_w hw 2 rfl) (by decide) (by decide) hEL CH7) (g := (mkF m 12 #[.val (.int p0), .val (.int p1), .val (.int p2), .val (.ref y_1), .val (.ref y_6), .unset, .unset, .unset] [(.int p2)])) rfl (by rw [hml]; rfl) (argsL := [(.int p2)]) (rest := []) (lenOf pd__I_Ljava_lang_String_ rfl) rfl (by show 2 * 0 + _ ≤ _; exact Nat.le_of_eq rfl) (hb hby at_12) (fun _ _ => ⟨rfl, rfl, (by decide : 6 + 3 ≤ _), (by decide : 16 + 8 ≤ _)⟩)
  dsimp only [Pt.U, Pt.locs, Pt.cells, Pt.slots] at Xa11 hSa11 hGa11 l11 y11 z11 A11 st11 hQ11
  try dsimp only [Nat.reduceAdd] at y11 z11
  rw [l11, y11, z11] at Xa11
  obtain ⟨X11, hS, hZ, hown⟩ := rebS hS hK6 Xa11 hSa11 hGa11 hZ hown
  obtain ⟨y_11, t_11, kb_11, cs_11, rfl, Nq11, Kq11, q11_0, q11_1, q11_2, q11_3, q11_4, q11_5⟩ := hQ11
  have N11 := Fr.app N6 Nq11
  have CH12 := A11.1
  have CR12 := CHr.trans CR7 (A11)
  have K13 : Keep h0 T11.heap [] := K8.trans Kq11 all0
  have hK11 : T11.heap.size ≤ T11.heap.size := Nat.le_refl _
  refine own_tr st11 ?_
  show own_Go p e below T11 (mkF m 15 #[.val (.int p0), .val (.int p1), .val (.int p2), .val (.ref y_1), .val (.ref y_6), .unset, .unset, .unset] [(.ref y_11)]) _
  refine own_st (fun t_ k_ => XS.astore X11.here hx rfl (hb hby at_15) rfl rfl (l' := #[.val (.int p0), .val (.int p1), .val (.int p2), .val (.ref y_1), .val (.ref y_6), .val (.ref y_11), .unset, .unset]) rfl k_) ?_
  show own_Go p e below T11 (mkF m 17 #[.val (.int p0), .val (.int p1), .val (.int p2), .val (.ref y_1), .val (.ref y_6), .val (.ref y_11), .unset, .unset] []) _
  have f14 := (Nat.le_trans f9 Kq11.1)
  obtain ⟨T15, h15, X15, e15, E15, A15, D15, -, st15⟩ := newO X11 hx hZ hown (own_w hw 12 rfl) (own_w hw 13 rfl) (own_w hw 14 rfl) rfl (g := (mkF m 17 #[.val (.int p0), .val (.int p1), .val (.int p2), .val (.ref y_1), .val (.ref y_6), .val (.ref y_11), .unset, .unset] [])) rfl (hb hby at_17) (by decide) (by decide)
  obtain ⟨b15, g15⟩ : ∃ z, z = T11.heap.size := ⟨_, rfl⟩
  rw [← g15] at A15 D15 st15
  have G15 : n0 ≤ b15 := Nat.le_trans f14 (Nat.le_of_eq g15.symm)
  have B15 : h0.size ≤ b15 := Nat.le_trans K13.1 (Nat.le_of_eq g15.symm)
  have CH16 := CH12.ext E15
  have CR16 := CHr.trans CR12 (CHr.ext E15 CH12)
  have K17 : Keep h0 h15 [] := K13.ext E15
  have D15_type : Fld Z h15 b15 "com/example/spillback/spillback/io/Config$Selection" "type" "Ljava/lang/String;" .null := D15 (Or.inr (own_w hw 27 rfl)) (ty := (.object "java/lang/String")) (by decide)
  have D15_key : Fld Z h15 b15 "com/example/spillback/spillback/io/Config$Selection" "key" "Ljava/lang/String;" .null := D15 (Or.inr (own_w hw 29 rfl)) (ty := (.object "java/lang/String")) (by decide)
  have D15_value : Fld Z h15 b15 "com/example/spillback/spillback/io/Config$Selection" "value" "Ljava/lang/String;" .null := D15 (Or.inr (own_w hw 31 rfl)) (ty := (.object "java/lang/String")) (by decide)
  refine own_st st15 ?_
  show own_Go p e below T15 (mkF m 20 #[.val (.int p0), .val (.int p1), .val (.int p2), .val (.ref y_1), .val (.ref y_6), .val (.ref y_11), .unset, .unset] [(.ref b15)]) _
  refine own_st (fun t_ k_ => XS.dup X15.here hx rfl (hb hby at_20) rfl rfl (XS.aloadN X15.here hx rfl (hb hby at_21) rfl rfl (XS.aload X15.here hx rfl (hb hby at_22) rfl rfl (XS.aload X15.here hx rfl (hb hby at_24) rfl rfl k_)))) ?_
  show own_Go p e below T15 (mkF m 26 #[.val (.int p0), .val (.int p1), .val (.int p2), .val (.ref y_1), .val (.ref y_6), .val (.ref y_11), .unset, .unset] [(.ref y_11), (.ref y_6), (.ref y_1), (.ref b15), (.ref b15)]) _
  have f18 := (Nat.le_trans f14 E15.1)
  obtain ⟨_, _, ⟨T19, L19, k19, n19⟩, -, X19, ⟨Lc19, hQ19, l19, y19, z19⟩, st19⟩ := X15.specialBack hx (y := (⟨"com/example/spillback/spillback/io/Config$Selection", "<init>", "(Ljava/lang/String;Ljava/lang/String;Ljava/lang/String;)V"⟩ : MethodName)) rfl hown (mvT hZ (own_w hw 15 rfl)) (mvT hZ (own_w hw 16 rfl)) (mvT hZ (own_w hw 17 rfl)) (by decide) (backOf (W := 1) (rmSi l Z a0 hw [] b15 y_1 y_6 y_11 .null .null .null h15 n0 f18 A15 D15_type D15_key D15_value G15) hZ (own_w hw 17 rfl) (own_w hw 14 rfl) (by decide) (by decide)) (g := (mkF m 26 #[.val (.int p0), .val (.int p1), .val (.int p2), .val (.ref y_1), .val (.ref y_6), .val (.ref y_11), .unset, .unset] [(.ref y_11), (.ref y_6), (.ref y_1), (.ref b15), (.ref b15)])) rfl (by rw [hml]; rfl) (Steps.refl _) (a := b15) (argsL := [(.ref y_1), (.ref y_6), (.ref y_11)]) (rest := [(.ref b15)]) (lenOf pd__Ljava_lang_String_Ljava_lang_String_Ljava_lang_String__V rfl) rfl (by show 2 * 0 + _ ≤ _; exact Nat.le_of_eq rfl) (hb hby at_26) (fun _ _ => ⟨rfl, e15, (by decide : 10 + 0 ≤ _), (by decide : 27 + 0 ≤ _)⟩)
  dsimp only [Pt.U, Pt.locs, Pt.cells, Pt.slots] at X19 l19 y19 z19 st19 hQ19
  try dsimp only [Nat.reduceAdd] at y19 z19
  rw [l19, y19, z19] at X19
  obtain ⟨rfl, Nq19, Kq19, q19_0, q19_1, q19_2, q19_3⟩ := hQ19
  have N19 := Fr.app N11 Nq19
  have Sa20 : ∀ y ∈ [b15], Safe Z own_EL T11.vm h15 y := (sfS (Safe.exa hZ.alike A15 (by decide) (by decide)) sf0)
  have CH20 := CH16.keep Kq19 Sa20
  have CR20 := CHr.trans CR16 (CHr.keep Kq19 Sa20 CH16)
  have K21 : Keep h0 T19.heap [] := K17.trans Kq19 (allS (Or.inr B15) all0)
  refine own_tr st19 ?_
  show own_Go p e below T19 (mkF m 29 #[.val (.int p0), .val (.int p1), .val (.int p2), .val (.ref y_1), .val (.ref y_6), .val (.ref y_11), .unset, .unset] [(.ref b15)]) _
  have f22 := (Nat.le_trans f18 Kq19.1)
  have f23 := ((((q1_0.keep Kq6).keep Kq11).ext E15).keep Kq19)
  have f24 := ((((q1_1.keep Kq6 nin0).keep Kq11 nin0).ext E15).keep Kq19 (ninS (Nat.ne_of_lt (Nat.lt_of_lt_of_le ((q1_0.keep Kq6).keep Kq11).lt (Nat.le_of_eq g15.symm))) nin0))
  have f25 := ((((q1_2.keep Kq6 nin0).keep Kq11 nin0).ext E15).keep Kq19 (ninS (Nat.ne_of_lt (Nat.lt_of_lt_of_le ((q1_0.keep Kq6).keep Kq11).lt (Nat.le_of_eq g15.symm))) nin0))
  have f26 := ((((q1_3.keep Kq6 nin0).keep Kq11 nin0).ext E15).keep Kq19 (ninS (Nat.ne_of_lt (Nat.lt_of_lt_of_le ((q1_3.keep Kq6 nin0).keep Kq11 nin0).lt (Nat.le_of_eq g15.symm))) nin0))
  have f27 := (((q6_0.keep Kq11).ext E15).keep Kq19)
  have f28 := (((q6_1.keep Kq11 nin0).ext E15).keep Kq19 (ninS (Nat.ne_of_lt (Nat.lt_of_lt_of_le (q6_0.keep Kq11).lt (Nat.le_of_eq g15.symm))) nin0))
  have f29 := (((q6_2.keep Kq11 nin0).ext E15).keep Kq19 (ninS (Nat.ne_of_lt (Nat.lt_of_lt_of_le (q6_0.keep Kq11).lt (Nat.le_of_eq g15.symm))) nin0))
  have f30 := (((q6_3.keep Kq11 nin0).ext E15).keep Kq19 (ninS (Nat.ne_of_lt (Nat.lt_of_lt_of_le (q6_3.keep Kq11 nin0).lt (Nat.le_of_eq g15.symm))) nin0))
  have f31 := ((q11_0.ext E15).keep Kq19)
  have f32 := ((q11_1.ext E15).keep Kq19 (ninS (Nat.ne_of_lt (Nat.lt_of_lt_of_le q11_0.lt (Nat.le_of_eq g15.symm))) nin0))
  have f33 := ((q11_2.ext E15).keep Kq19 (ninS (Nat.ne_of_lt (Nat.lt_of_lt_of_le q11_0.lt (Nat.le_of_eq g15.symm))) nin0))
  have f34 := ((q11_3.ext E15).keep Kq19 (ninS (Nat.ne_of_lt (Nat.lt_of_lt_of_le q11_3.lt (Nat.le_of_eq g15.symm))) nin0))
  have f35 := (((f10.keep Kq11 all0).ext E15).keep Kq19 (allS G15 all0))
  have f37 := (Nat.le_trans (Nat.le_trans hK11 E15.1) Kq19.1)
  obtain ⟨cq36, kq36, qa36, qb36, qc36⟩ := isOf hZ rfl q19_0
  obtain ⟨_, _, ⟨T36, L36, k36, n36⟩, -, Xa36, hSa36, hGa36, ⟨Lc36, hQ36, l36, y36, z36, A36⟩, st36⟩ := X19.virtualBackS hx (y := (⟨"com/example/spillback/spillback/io/Config$Selection", "toString", "()Ljava/lang/String;"⟩ : MethodName)) (z := (⟨"com/example/spillback/spillback/io/Config$Selection", "toString", "()Ljava/lang/String;"⟩ : MethodName)) hown (mvT hZ (own_w hw 32 rfl)) (mvT hZ (own_w hw 33 rfl)) (notFace_of_selects (args := #[]) (mvT hZ (own_w hw 35 rfl))) (mvT hZ (own_w hw 35 rfl)) (mvT hZ (own_w hw 34 rfl)) (by decide) (backOfSH (W := 0) (rmTo l Z a0 hw [] b15 y_1 t_1 kb_1 cs_1 y_6 t_6 kb_6 cs_6 y_11 t_11 kb_11 cs_11 zc T19.heap n0 f22 q19_0 q19_1 q19_2 q19_3 f23 f24 f25 f26 f27 f28 f29 f30 f31 f32 f33 f34 q1_4 q1_5 q6_4 q6_5 q11_4 q11_5 pS_COMPACT_STRINGS pP5 f35) hZ (own_w hw 36 rfl) (own_w hw 14 rfl) (by decide) (by decide) hEL CH20) qa36 qc36 (g := (mkF m 29 #[.val (.int p0), .val (.int p1), .val (.int p2), .val (.ref y_1), .val (.ref y_6), .val (.ref y_11), .unset, .unset] [(.ref b15)])) rfl (by rw [hml]; rfl) (Steps.refl _) (argsL := []) (rest := []) (lenOf pd___Ljava_lang_String_ rfl) rfl (by show 2 * 0 + _ ≤ _; exact Nat.le_of_eq rfl) (hb hby at_29) (fun _ _ => ⟨rfl, rfl, (by decide : 10 + 10 ≤ _), (by decide : 27 + 64 ≤ _)⟩)
  dsimp only [Pt.U, Pt.locs, Pt.cells, Pt.slots] at Xa36 hSa36 hGa36 l36 y36 z36 A36 st36 hQ36
  try dsimp only [Nat.reduceAdd] at y36 z36
  rw [l36, y36, z36] at Xa36
  obtain ⟨X36, hS, hZ, hown⟩ := rebS hS f37 Xa36 hSa36 hGa36 hZ hown
  obtain ⟨y_36, b_36, kb_36, rfl, Nq36, Kq36, q36_0, q36_1, q36_2, q36_3⟩ := hQ36
  have N36 := Fr.app N19 Nq36
  have CH38 := A36.1
  have CR38 := CHr.trans CR20 (A36)
  have K39 : Keep h0 T36.heap [] := K21.trans Kq36 all0
  have hK36 : T36.heap.size ≤ T36.heap.size := Nat.le_refl _
  refine own_tr st36 ?_
  show own_Go p e below T36 (mkF m 32 #[.val (.int p0), .val (.int p1), .val (.int p2), .val (.ref y_1), .val (.ref y_6), .val (.ref y_11), .unset, .unset] [(.ref y_36)]) _
  have q4_0 : cs_1.length ≤ 4000 := by have := q1_5; omega
  have q4_1 : cs_6.length ≤ 4000 := by have := q6_5; omega
  have q4_2 : cs_11.length ≤ 4000 := by have := q11_5; omega
  have lA := own_len cs_1 cs_6 cs_11
  have hpA := own_allP q1_4 q6_4 q11_4
  have q4A : (own_all cs_1 cs_6 cs_11).length ≤ 4000 := by have := q1_5; have := q6_5; have := q11_5; omega
  refine own_st (fun t_ k_ => XS.astore X36.here hx rfl (hb hby at_32) rfl rfl (l' := #[.val (.int p0), .val (.int p1), .val (.int p2), .val (.ref y_1), .val (.ref y_6), .val (.ref y_11), .val (.ref y_36), .unset]) rfl (XS.aload X36.here hx rfl (hb hby at_34) rfl rfl (XS.ifnonnullYes X36.here hx rfl (pc0 := 36) (pc' := 41) rfl (hb hby at_36) rfl (by decide) (by decide) (XS.aloadN X36.here hx rfl (hb hby at_41) rfl rfl k_)))) ?_
  show own_Go p e below T36 (mkF m 42 #[.val (.int p0), .val (.int p1), .val (.int p2), .val (.ref y_1), .val (.ref y_6), .val (.ref y_11), .val (.ref y_36), .unset] [(.ref y_1)]) _
  have hcd40 : StrChars.Road.CodA (cs_1 : List Int32) 0 (Int32.ofNat (cs_1 : List Int32).length) (((cs_1 : List Int32).map (fun c : Int32 => c.toInt8.toInt32)).map Value.int) := StrChars.Road.codOf rfl (fun x hx => (q1_4 x hx).2)
  have hbd40 : ∀ x ∈ (cs_1 : List Int32), ¬ x < 0 ∧ ¬ (65535 : Int32) < x := own_up _ q1_4
  have f41 := (f23.keep Kq36)
  have f42 := (f24.keep Kq36 nin0)
  have f43 := (f25.keep Kq36 nin0)
  have f44 := (f26.keep Kq36 nin0)
  have f45 := (f35.keep Kq36 all0)
  obtain ⟨cq46, kq46, qa46, qb46, qc46⟩ := isOf hZ rfl f41
  obtain ⟨_, _, ⟨T46, L46, k46, n46⟩, -, X46, ⟨Lc46, hQ46, l46, y46, z46⟩, st46⟩ := X36.virtualBack hx (y := (⟨"java/lang/String", "length", "()I"⟩ : MethodName)) (z := (⟨"java/lang/String", "length", "()I"⟩ : MethodName)) hown (mvT hZ (own_w hw 155 rfl)) (mvT hZ (own_w hw 66 rfl)) (notFace_of_selects (args := #[]) (mvT hZ (own_w hw 68 rfl))) (mvT hZ (own_w hw 68 rfl)) (mvT hZ (own_w hw 67 rfl)) (by decide) (StrChars.Road.lenW (W := 0) hZ hln (kI := 4) (own_w hw 6 rfl) f41 f42 f43 f44 hcd40 hbd40 (pS_COMPACT_STRINGS.ext f45.2) pP5 q4_0 (by decide) (by decide)) qa46 qc46 (g := (mkF m 42 #[.val (.int p0), .val (.int p1), .val (.int p2), .val (.ref y_1), .val (.ref y_6), .val (.ref y_11), .val (.ref y_36), .unset] [(.ref y_1)])) rfl (by rw [hml]; rfl) (Steps.refl _) (argsL := []) (rest := []) (lenOf pd___I rfl) rfl (by show 2 * 0 + _ ≤ _; exact Nat.le_of_eq rfl) (hb hby at_42) (fun _ _ => ⟨rfl, rfl, (by decide : 20 + 0 ≤ _), (by decide : 91 + 0 ≤ _)⟩)
  dsimp only [Pt.U, Pt.locs, Pt.cells, Pt.slots] at X46 l46 y46 z46 st46 hQ46
  try dsimp only [Nat.reduceAdd] at y46 z46
  rw [l46, y46, z46] at X46
  obtain ⟨rfl, rfl, eH46⟩ := hQ46
  have N46 := Fr.app N36 (Fr.nil n0)
  refine own_tr st46 ?_
  show own_Go p e below T46 (mkF m 45 #[.val (.int p0), .val (.int p1), .val (.int p2), .val (.ref y_1), .val (.ref y_6), .val (.ref y_11), .val (.ref y_36), .unset] [(.int (Int32.ofNat (cs_1 : List Int32).length))]) _
  refine own_st (fun t_ k_ => XS.aload X46.here hx rfl (hb hby at_45) rfl rfl k_) ?_
  show own_Go p e below T46 (mkF m 47 #[.val (.int p0), .val (.int p1), .val (.int p2), .val (.ref y_1), .val (.ref y_6), .val (.ref y_11), .val (.ref y_36), .unset] [(.ref y_6), (.int (Int32.ofNat (cs_1 : List Int32).length))]) _
  have hcd47 : StrChars.Road.CodA (cs_6 : List Int32) 0 (Int32.ofNat (cs_6 : List Int32).length) (((cs_6 : List Int32).map (fun c : Int32 => c.toInt8.toInt32)).map Value.int) := StrChars.Road.codOf rfl (fun x hx => (q6_4 x hx).2)
  have hbd47 : ∀ x ∈ (cs_6 : List Int32), ¬ x < 0 ∧ ¬ (65535 : Int32) < x := own_up _ q6_4
  have f48 := (f27.keep Kq36)
  have f49 := (f28.keep Kq36 nin0)
  have f50 := (f29.keep Kq36 nin0)
  have f51 := (f30.keep Kq36 nin0)
  obtain ⟨cq52, kq52, qa52, qb52, qc52⟩ := isOf hZ eH46 f48
  obtain ⟨_, _, ⟨T52, L52, k52, n52⟩, -, X52, ⟨Lc52, hQ52, l52, y52, z52⟩, st52⟩ := X46.virtualBack hx (y := (⟨"java/lang/String", "length", "()I"⟩ : MethodName)) (z := (⟨"java/lang/String", "length", "()I"⟩ : MethodName)) hown (mvT hZ (own_w hw 155 rfl)) (mvT hZ (own_w hw 66 rfl)) (notFace_of_selects (args := #[]) (mvT hZ (own_w hw 68 rfl))) (mvT hZ (own_w hw 68 rfl)) (mvT hZ (own_w hw 67 rfl)) (by decide) (StrChars.Road.lenW (W := 1) hZ hln (kI := 4) (own_w hw 6 rfl) f48 f49 f50 f51 hcd47 hbd47 (pS_COMPACT_STRINGS.ext f45.2) pP5 q4_1 (by decide) (by decide)) qa52 qc52 (g := (mkF m 47 #[.val (.int p0), .val (.int p1), .val (.int p2), .val (.ref y_1), .val (.ref y_6), .val (.ref y_11), .val (.ref y_36), .unset] [(.ref y_6), (.int (Int32.ofNat (cs_1 : List Int32).length))])) rfl (by rw [hml]; rfl) (Steps.refl _) (argsL := []) (rest := [(.int (Int32.ofNat (cs_1 : List Int32).length))]) (lenOf pd___I rfl) rfl (by show 2 * 0 + _ ≤ _; exact Nat.le_of_eq rfl) (hb hby at_47) (fun _ _ => ⟨rfl, eH46, (by decide : 20 + 0 ≤ _), (by decide : 91 + 0 ≤ _)⟩)
  dsimp only [Pt.U, Pt.locs, Pt.cells, Pt.slots] at X52 l52 y52 z52 st52 hQ52
  try dsimp only [Nat.reduceAdd] at y52 z52
  rw [l52, y52, z52] at X52
  obtain ⟨rfl, rfl, eH52⟩ := hQ52
  have N52 := Fr.app N46 (Fr.nil n0)
  refine own_tr st52 ?_
  show own_Go p e below T52 (mkF m 50 #[.val (.int p0), .val (.int p1), .val (.int p2), .val (.ref y_1), .val (.ref y_6), .val (.ref y_11), .val (.ref y_36), .unset] [(.int (Int32.ofNat (cs_6 : List Int32).length)), (.int (Int32.ofNat (cs_1 : List Int32).length))]) _
  refine own_st (fun t_ k_ => XS.iadd X52.here hx rfl (hb hby at_50) rfl (XS.aload X52.here hx rfl (hb hby at_51) rfl rfl k_)) ?_
  show own_Go p e below T52 (mkF m 53 #[.val (.int p0), .val (.int p1), .val (.int p2), .val (.ref y_1), .val (.ref y_6), .val (.ref y_11), .val (.ref y_36), .unset] [(.ref y_11), (.int ((Int32.ofNat (cs_1 : List Int32).length) + (Int32.ofNat (cs_6 : List Int32).length)))]) _
  have hcd53 : StrChars.Road.CodA (cs_11 : List Int32) 0 (Int32.ofNat (cs_11 : List Int32).length) (((cs_11 : List Int32).map (fun c : Int32 => c.toInt8.toInt32)).map Value.int) := StrChars.Road.codOf rfl (fun x hx => (q11_4 x hx).2)
  have hbd53 : ∀ x ∈ (cs_11 : List Int32), ¬ x < 0 ∧ ¬ (65535 : Int32) < x := own_up _ q11_4
  have f54 := (f31.keep Kq36)
  have f55 := (f32.keep Kq36 nin0)
  have f56 := (f33.keep Kq36 nin0)
  have f57 := (f34.keep Kq36 nin0)
  obtain ⟨cq58, kq58, qa58, qb58, qc58⟩ := isOf hZ eH52 f54
  obtain ⟨_, _, ⟨T58, L58, k58, n58⟩, -, X58, ⟨Lc58, hQ58, l58, y58, z58⟩, st58⟩ := X52.virtualBack hx (y := (⟨"java/lang/String", "length", "()I"⟩ : MethodName)) (z := (⟨"java/lang/String", "length", "()I"⟩ : MethodName)) hown (mvT hZ (own_w hw 155 rfl)) (mvT hZ (own_w hw 66 rfl)) (notFace_of_selects (args := #[]) (mvT hZ (own_w hw 68 rfl))) (mvT hZ (own_w hw 68 rfl)) (mvT hZ (own_w hw 67 rfl)) (by decide) (StrChars.Road.lenW (W := 1) hZ hln (kI := 4) (own_w hw 6 rfl) f54 f55 f56 f57 hcd53 hbd53 (pS_COMPACT_STRINGS.ext f45.2) pP5 q4_2 (by decide) (by decide)) qa58 qc58 (g := (mkF m 53 #[.val (.int p0), .val (.int p1), .val (.int p2), .val (.ref y_1), .val (.ref y_6), .val (.ref y_11), .val (.ref y_36), .unset] [(.ref y_11), (.int ((Int32.ofNat (cs_1 : List Int32).length) + (Int32.ofNat (cs_6 : List Int32).length)))])) rfl (by rw [hml]; rfl) (Steps.refl _) (argsL := []) (rest := [(.int ((Int32.ofNat (cs_1 : List Int32).length) + (Int32.ofNat (cs_6 : List Int32).length)))]) (lenOf pd___I rfl) rfl (by show 2 * 0 + _ ≤ _; exact Nat.le_of_eq rfl) (hb hby at_53) (fun _ _ => ⟨rfl, eH52, (by decide : 20 + 0 ≤ _), (by decide : 91 + 0 ≤ _)⟩)
  dsimp only [Pt.U, Pt.locs, Pt.cells, Pt.slots] at X58 l58 y58 z58 st58 hQ58
  try dsimp only [Nat.reduceAdd] at y58 z58
  rw [l58, y58, z58] at X58
  obtain ⟨rfl, rfl, eH58⟩ := hQ58
  have N58 := Fr.app N52 (Fr.nil n0)
  refine own_tr st58 ?_
  show own_Go p e below T58 (mkF m 56 #[.val (.int p0), .val (.int p1), .val (.int p2), .val (.ref y_1), .val (.ref y_6), .val (.ref y_11), .val (.ref y_36), .unset] [(.int (Int32.ofNat (cs_11 : List Int32).length)), (.int ((Int32.ofNat (cs_1 : List Int32).length) + (Int32.ofNat (cs_6 : List Int32).length)))]) _
  refine own_st (fun t_ k_ => XS.iadd X58.here hx rfl (hb hby at_56) rfl (XS.iconst X58.here hx rfl (hb hby at_57) (XS.iadd X58.here hx rfl (hb hby at_58) rfl (XS.istore X58.here hx rfl (hb hby at_59) rfl (l' := #[.val (.int p0), .val (.int p1), .val (.int p2), .val (.ref y_1), .val (.ref y_6), .val (.ref y_11), .val (.ref y_36), .val (.int ((((Int32.ofNat (cs_1 : List Int32).length) + (Int32.ofNat (cs_6 : List Int32).length)) + (Int32.ofNat (cs_11 : List Int32).length)) + (3 : Int32)))]) rfl (XS.aload X58.here hx rfl (hb hby at_61) rfl rfl k_))))) ?_
  show own_Go p e below T58 (mkF m 63 #[.val (.int p0), .val (.int p1), .val (.int p2), .val (.ref y_1), .val (.ref y_6), .val (.ref y_11), .val (.ref y_36), .val (.int ((((Int32.ofNat (cs_1 : List Int32).length) + (Int32.ofNat (cs_6 : List Int32).length)) + (Int32.ofNat (cs_11 : List Int32).length)) + (3 : Int32)))] [(.ref y_36)]) _
  have hcd59 : StrChars.Road.CodA ((own_all cs_1 cs_6 cs_11) : List Int32) 0 (Int32.ofNat ((own_all cs_1 cs_6 cs_11) : List Int32).length) ((((own_all cs_1 cs_6 cs_11) : List Int32).map (fun c : Int32 => c.toInt8.toInt32)).map Value.int) := StrChars.Road.codOf rfl (fun x hx => (hpA x hx).2)
  have hbd59 : ∀ x ∈ ((own_all cs_1 cs_6 cs_11) : List Int32), ¬ x < 0 ∧ ¬ (65535 : Int32) < x := own_up _ hpA
  obtain ⟨cq60, kq60, qa60, qb60, qc60⟩ := isOf hZ eH58 q36_0
  obtain ⟨_, _, ⟨T60, L60, k60, n60⟩, -, X60, ⟨Lc60, hQ60, l60, y60, z60⟩, st60⟩ := X58.virtualBack hx (y := (⟨"java/lang/String", "length", "()I"⟩ : MethodName)) (z := (⟨"java/lang/String", "length", "()I"⟩ : MethodName)) hown (mvT hZ (own_w hw 155 rfl)) (mvT hZ (own_w hw 66 rfl)) (notFace_of_selects (args := #[]) (mvT hZ (own_w hw 68 rfl))) (mvT hZ (own_w hw 68 rfl)) (mvT hZ (own_w hw 67 rfl)) (by decide) (StrChars.Road.lenW (W := 0) hZ hln (kI := 4) (own_w hw 6 rfl) q36_0 q36_1 q36_2 q36_3 hcd59 hbd59 (pS_COMPACT_STRINGS.ext f45.2) pP5 q4A (by decide) (by decide)) qa60 qc60 (g := (mkF m 63 #[.val (.int p0), .val (.int p1), .val (.int p2), .val (.ref y_1), .val (.ref y_6), .val (.ref y_11), .val (.ref y_36), .val (.int ((((Int32.ofNat (cs_1 : List Int32).length) + (Int32.ofNat (cs_6 : List Int32).length)) + (Int32.ofNat (cs_11 : List Int32).length)) + (3 : Int32)))] [(.ref y_36)])) rfl (by rw [hml]; rfl) (Steps.refl _) (argsL := []) (rest := []) (lenOf pd___I rfl) rfl (by show 2 * 0 + _ ≤ _; exact Nat.le_of_eq rfl) (hb hby at_63) (fun _ _ => ⟨rfl, eH58, (by decide : 20 + 0 ≤ _), (by decide : 91 + 0 ≤ _)⟩)
  dsimp only [Pt.U, Pt.locs, Pt.cells, Pt.slots] at X60 l60 y60 z60 st60 hQ60
  try dsimp only [Nat.reduceAdd] at y60 z60
  rw [l60, y60, z60] at X60
  obtain ⟨rfl, rfl, eH60⟩ := hQ60
  have N60 := Fr.app N58 (Fr.nil n0)
  refine own_tr st60 ?_
  show own_Go p e below T60 (mkF m 66 #[.val (.int p0), .val (.int p1), .val (.int p2), .val (.ref y_1), .val (.ref y_6), .val (.ref y_11), .val (.ref y_36), .val (.int ((((Int32.ofNat (cs_1 : List Int32).length) + (Int32.ofNat (cs_6 : List Int32).length)) + (Int32.ofNat (cs_11 : List Int32).length)) + (3 : Int32)))] [(.int (Int32.ofNat ((own_all cs_1 cs_6 cs_11) : List Int32).length))]) _
  refine own_st (fun t_ k_ => XS.iload X60.here hx rfl (hb hby at_66) rfl k_) ?_
  show own_Go p e below T60 (mkF m 68 #[.val (.int p0), .val (.int p1), .val (.int p2), .val (.ref y_1), .val (.ref y_6), .val (.ref y_11), .val (.ref y_36), .val (.int ((((Int32.ofNat (cs_1 : List Int32).length) + (Int32.ofNat (cs_6 : List Int32).length)) + (Int32.ofNat (cs_11 : List Int32).length)) + (3 : Int32)))] [(.int ((((Int32.ofNat (cs_1 : List Int32).length) + (Int32.ofNat (cs_6 : List Int32).length)) + (Int32.ofNat (cs_11 : List Int32).length)) + (3 : Int32))), (.int (Int32.ofNat ((own_all cs_1 cs_6 cs_11) : List Int32).length))]) _
  have hl : (Int32.ofNat ((own_all cs_1 cs_6 cs_11) : List Int32).length) = ((((Int32.ofNat (cs_1 : List Int32).length) + (Int32.ofNat (cs_6 : List Int32).length)) + (Int32.ofNat (cs_11 : List Int32).length)) + (3 : Int32)) := by
    refine (own_eqOf ?_ (by omega)).symm
    have u1 := own_addI (own_ofNat (n := cs_1.length) (by omega)) (own_ofNat (n := cs_6.length) (by omega)) (by omega)
    have u2 := own_addI u1 (own_ofNat (n := cs_11.length) (by omega)) (by omega)
    have u3 := own_addI u2 (show (3 : Int32).toInt = ((3 : Nat) : Int) from rfl) (by omega)
    rw [lA]
    exact u3
  refine own_st (fun t_ k_ => XS.icmpYes X60.here hx rfl (pc0 := 68) (pc' := 73) rfl (hb hby at_68) rfl (teq hl).1 (by decide) (by decide) (XS.aload X60.here hx rfl (hb hby at_73) rfl rfl (XS.iconst X60.here hx rfl (hb hby at_75) (XS.aloadN X60.here hx rfl (hb hby at_76) rfl rfl (XS.aload X60.here hx rfl (hb hby at_77) rfl rfl (XS.aload X60.here hx rfl (hb hby at_79) rfl rfl k_)))))) ?_
  show own_Go p e below T60 (mkF m 81 #[.val (.int p0), .val (.int p1), .val (.int p2), .val (.ref y_1), .val (.ref y_6), .val (.ref y_11), .val (.ref y_36), .val (.int ((((Int32.ofNat (cs_1 : List Int32).length) + (Int32.ofNat (cs_6 : List Int32).length)) + (Int32.ofNat (cs_11 : List Int32).length)) + (3 : Int32)))] [(.ref y_11), (.ref y_6), (.ref y_1), (.int (0 : Int32)), (.ref y_36)]) _
  have f61 := (Nat.le_trans f22 Kq36.1)
  obtain ⟨_, _, ⟨T62, L62, k62, n62⟩, -, X62, ⟨Lc62, hQ62, l62, y62, z62⟩, st62⟩ := Jvm.LawKit.callS X60 hx (y := (⟨"com/example/spillback/spillback/io/SelectionToStringPinLaw", "at", "(Ljava/lang/String;ILjava/lang/String;Ljava/lang/String;Ljava/lang/String;)Z"⟩ : MethodName)) hown (mvT hZ (own_w hw 156 rfl)) (mvT hZ (own_w hw 157 rfl)) (mvT hZ (own_w hw 2 rfl)) (mvT hZ (own_w hw 158 rfl)) (by decide) (backOf (W := 0) (rmAt l Z a0 hw [] y_36 b_36 kb_36 ((0 : Int32)) 0 y_1 t_1 kb_1 cs_1 y_6 t_6 kb_6 cs_6 y_11 t_11 kb_11 cs_11 zc fm T36.heap n0 f61 q36_0 q36_1 q36_2 q36_3 f41 f42 f43 f44 f48 f49 f50 f51 f54 f55 f56 f57 q1_4 q1_5 q6_4 q6_5 q11_4 q11_5 rfl pS_COMPACT_STRINGS pP5 pS_SIOOBE_FORMATTER rfm f45) hZ (own_w hw 158 rfl) (own_w hw 2 rfl) (by decide) (by decide)) (g := (mkF m 81 #[.val (.int p0), .val (.int p1), .val (.int p2), .val (.ref y_1), .val (.ref y_6), .val (.ref y_11), .val (.ref y_36), .val (.int ((((Int32.ofNat (cs_1 : List Int32).length) + (Int32.ofNat (cs_6 : List Int32).length)) + (Int32.ofNat (cs_11 : List Int32).length)) + (3 : Int32)))] [(.ref y_11), (.ref y_6), (.ref y_1), (.int (0 : Int32)), (.ref y_36)])) rfl (by rw [hml]; rfl) (argsL := [(.ref y_36), (.int (0 : Int32)), (.ref y_1), (.ref y_6), (.ref y_11)]) (rest := []) (lenOf pd__Ljava_lang_String_ILjava_lang_String_Ljava_lang_String_Ljava_lang_String__Z rfl) rfl (by show 2 * 0 + _ ≤ _; exact Nat.le_of_eq rfl) (hb hby at_81) (fun _ _ => ⟨rfl, eH60, (by decide : 20 + 0 ≤ _), (by decide : 91 + 0 ≤ _)⟩)
  dsimp only [Pt.U, Pt.locs, Pt.cells, Pt.slots] at X62 l62 y62 z62 st62 hQ62
  try dsimp only [Nat.reduceAdd] at y62 z62
  rw [l62, y62, z62] at X62
  obtain ⟨rfl, Nq62, eH62⟩ := hQ62
  have N62 := Fr.app N60 Nq62
  refine own_st st62 ?_
  show own_Go p e below T62 (mkF m 84 #[.val (.int p0), .val (.int p1), .val (.int p2), .val (.ref y_1), .val (.ref y_6), .val (.ref y_11), .val (.ref y_36), .val (.int ((((Int32.ofNat (cs_1 : List Int32).length) + (Int32.ofNat (cs_6 : List Int32).length)) + (Int32.ofNat (cs_11 : List Int32).length)) + (3 : Int32)))] [(.int (1 : Int32))]) _
  refine own_st (fun t_ k_ => XS.ifNo X62.here hx rfl (hb hby at_84) rfl (by decide) (XS.aload X62.here hx rfl (hb hby at_87) rfl rfl (XS.iconst X62.here hx rfl (hb hby at_89) (XS.aloadN X62.here hx rfl (hb hby at_90) rfl rfl (XS.aload X62.here hx rfl (hb hby at_91) rfl rfl (XS.aload X62.here hx rfl (hb hby at_93) rfl rfl k_)))))) ?_
  show own_Go p e below T62 (mkF m 95 #[.val (.int p0), .val (.int p1), .val (.int p2), .val (.ref y_1), .val (.ref y_6), .val (.ref y_11), .val (.ref y_36), .val (.int ((((Int32.ofNat (cs_1 : List Int32).length) + (Int32.ofNat (cs_6 : List Int32).length)) + (Int32.ofNat (cs_11 : List Int32).length)) + (3 : Int32)))] [(.ref y_11), (.ref y_6), (.ref y_1), (.int (1 : Int32)), (.ref y_36)]) _
  obtain ⟨_, _, ⟨T63, L63, k63, n63⟩, -, X63, ⟨Lc63, hQ63, l63, y63, z63⟩, st63⟩ := Jvm.LawKit.callS X62 hx (y := (⟨"com/example/spillback/spillback/io/SelectionToStringPinLaw", "at", "(Ljava/lang/String;ILjava/lang/String;Ljava/lang/String;Ljava/lang/String;)Z"⟩ : MethodName)) hown (mvT hZ (own_w hw 156 rfl)) (mvT hZ (own_w hw 157 rfl)) (mvT hZ (own_w hw 2 rfl)) (mvT hZ (own_w hw 158 rfl)) (by decide) (backOf (W := 0) (rmAt l Z a0 hw [] y_36 b_36 kb_36 ((1 : Int32)) 1 y_1 t_1 kb_1 cs_1 y_6 t_6 kb_6 cs_6 y_11 t_11 kb_11 cs_11 zc fm T36.heap n0 f61 q36_0 q36_1 q36_2 q36_3 f41 f42 f43 f44 f48 f49 f50 f51 f54 f55 f56 f57 q1_4 q1_5 q6_4 q6_5 q11_4 q11_5 rfl pS_COMPACT_STRINGS pP5 pS_SIOOBE_FORMATTER rfm f45) hZ (own_w hw 158 rfl) (own_w hw 2 rfl) (by decide) (by decide)) (g := (mkF m 95 #[.val (.int p0), .val (.int p1), .val (.int p2), .val (.ref y_1), .val (.ref y_6), .val (.ref y_11), .val (.ref y_36), .val (.int ((((Int32.ofNat (cs_1 : List Int32).length) + (Int32.ofNat (cs_6 : List Int32).length)) + (Int32.ofNat (cs_11 : List Int32).length)) + (3 : Int32)))] [(.ref y_11), (.ref y_6), (.ref y_1), (.int (1 : Int32)), (.ref y_36)])) rfl (by rw [hml]; rfl) (argsL := [(.ref y_36), (.int (1 : Int32)), (.ref y_1), (.ref y_6), (.ref y_11)]) (rest := []) (lenOf pd__Ljava_lang_String_ILjava_lang_String_Ljava_lang_String_Ljava_lang_String__Z rfl) rfl (by show 2 * 0 + _ ≤ _; exact Nat.le_of_eq rfl) (hb hby at_95) (fun _ _ => ⟨rfl, eH62, (by decide : 20 + 0 ≤ _), (by decide : 91 + 0 ≤ _)⟩)
  dsimp only [Pt.U, Pt.locs, Pt.cells, Pt.slots] at X63 l63 y63 z63 st63 hQ63
  try dsimp only [Nat.reduceAdd] at y63 z63
  rw [l63, y63, z63] at X63
  obtain ⟨rfl, Nq63, eH63⟩ := hQ63
  have N63 := Fr.app N62 Nq63
  refine own_st st63 ?_
  show own_Go p e below T63 (mkF m 98 #[.val (.int p0), .val (.int p1), .val (.int p2), .val (.ref y_1), .val (.ref y_6), .val (.ref y_11), .val (.ref y_36), .val (.int ((((Int32.ofNat (cs_1 : List Int32).length) + (Int32.ofNat (cs_6 : List Int32).length)) + (Int32.ofNat (cs_11 : List Int32).length)) + (3 : Int32)))] [(.int (1 : Int32))]) _
  refine own_st (fun t_ k_ => XS.ifNo X63.here hx rfl (hb hby at_98) rfl (by decide) (XS.aload X63.here hx rfl (hb hby at_101) rfl rfl (XS.iconst X63.here hx rfl (hb hby at_103) (XS.aloadN X63.here hx rfl (hb hby at_104) rfl rfl (XS.aload X63.here hx rfl (hb hby at_105) rfl rfl (XS.aload X63.here hx rfl (hb hby at_107) rfl rfl k_)))))) ?_
  show own_Go p e below T63 (mkF m 109 #[.val (.int p0), .val (.int p1), .val (.int p2), .val (.ref y_1), .val (.ref y_6), .val (.ref y_11), .val (.ref y_36), .val (.int ((((Int32.ofNat (cs_1 : List Int32).length) + (Int32.ofNat (cs_6 : List Int32).length)) + (Int32.ofNat (cs_11 : List Int32).length)) + (3 : Int32)))] [(.ref y_11), (.ref y_6), (.ref y_1), (.int (2 : Int32)), (.ref y_36)]) _
  obtain ⟨_, _, ⟨T64, L64, k64, n64⟩, -, X64, ⟨Lc64, hQ64, l64, y64, z64⟩, st64⟩ := Jvm.LawKit.callS X63 hx (y := (⟨"com/example/spillback/spillback/io/SelectionToStringPinLaw", "at", "(Ljava/lang/String;ILjava/lang/String;Ljava/lang/String;Ljava/lang/String;)Z"⟩ : MethodName)) hown (mvT hZ (own_w hw 156 rfl)) (mvT hZ (own_w hw 157 rfl)) (mvT hZ (own_w hw 2 rfl)) (mvT hZ (own_w hw 158 rfl)) (by decide) (backOf (W := 0) (rmAt l Z a0 hw [] y_36 b_36 kb_36 ((2 : Int32)) 2 y_1 t_1 kb_1 cs_1 y_6 t_6 kb_6 cs_6 y_11 t_11 kb_11 cs_11 zc fm T36.heap n0 f61 q36_0 q36_1 q36_2 q36_3 f41 f42 f43 f44 f48 f49 f50 f51 f54 f55 f56 f57 q1_4 q1_5 q6_4 q6_5 q11_4 q11_5 rfl pS_COMPACT_STRINGS pP5 pS_SIOOBE_FORMATTER rfm f45) hZ (own_w hw 158 rfl) (own_w hw 2 rfl) (by decide) (by decide)) (g := (mkF m 109 #[.val (.int p0), .val (.int p1), .val (.int p2), .val (.ref y_1), .val (.ref y_6), .val (.ref y_11), .val (.ref y_36), .val (.int ((((Int32.ofNat (cs_1 : List Int32).length) + (Int32.ofNat (cs_6 : List Int32).length)) + (Int32.ofNat (cs_11 : List Int32).length)) + (3 : Int32)))] [(.ref y_11), (.ref y_6), (.ref y_1), (.int (2 : Int32)), (.ref y_36)])) rfl (by rw [hml]; rfl) (argsL := [(.ref y_36), (.int (2 : Int32)), (.ref y_1), (.ref y_6), (.ref y_11)]) (rest := []) (lenOf pd__Ljava_lang_String_ILjava_lang_String_Ljava_lang_String_Ljava_lang_String__Z rfl) rfl (by show 2 * 0 + _ ≤ _; exact Nat.le_of_eq rfl) (hb hby at_109) (fun _ _ => ⟨rfl, eH63, (by decide : 20 + 0 ≤ _), (by decide : 91 + 0 ≤ _)⟩)
  dsimp only [Pt.U, Pt.locs, Pt.cells, Pt.slots] at X64 l64 y64 z64 st64 hQ64
  try dsimp only [Nat.reduceAdd] at y64 z64
  rw [l64, y64, z64] at X64
  obtain ⟨rfl, Nq64, eH64⟩ := hQ64
  have N64 := Fr.app N63 Nq64
  refine own_st st64 ?_
  show own_Go p e below T64 (mkF m 112 #[.val (.int p0), .val (.int p1), .val (.int p2), .val (.ref y_1), .val (.ref y_6), .val (.ref y_11), .val (.ref y_36), .val (.int ((((Int32.ofNat (cs_1 : List Int32).length) + (Int32.ofNat (cs_6 : List Int32).length)) + (Int32.ofNat (cs_11 : List Int32).length)) + (3 : Int32)))] [(.int (1 : Int32))]) _
  refine own_st (fun t_ k_ => XS.ifNo X64.here hx rfl (hb hby at_112) rfl (by decide) (XS.aload X64.here hx rfl (hb hby at_115) rfl rfl (XS.iconst X64.here hx rfl (hb hby at_117) (XS.aloadN X64.here hx rfl (hb hby at_118) rfl rfl (XS.aload X64.here hx rfl (hb hby at_119) rfl rfl (XS.aload X64.here hx rfl (hb hby at_121) rfl rfl k_)))))) ?_
  show own_Go p e below T64 (mkF m 123 #[.val (.int p0), .val (.int p1), .val (.int p2), .val (.ref y_1), .val (.ref y_6), .val (.ref y_11), .val (.ref y_36), .val (.int ((((Int32.ofNat (cs_1 : List Int32).length) + (Int32.ofNat (cs_6 : List Int32).length)) + (Int32.ofNat (cs_11 : List Int32).length)) + (3 : Int32)))] [(.ref y_11), (.ref y_6), (.ref y_1), (.int (3 : Int32)), (.ref y_36)]) _
  obtain ⟨_, _, ⟨T65, L65, k65, n65⟩, -, X65, ⟨Lc65, hQ65, l65, y65, z65⟩, st65⟩ := Jvm.LawKit.callS X64 hx (y := (⟨"com/example/spillback/spillback/io/SelectionToStringPinLaw", "at", "(Ljava/lang/String;ILjava/lang/String;Ljava/lang/String;Ljava/lang/String;)Z"⟩ : MethodName)) hown (mvT hZ (own_w hw 156 rfl)) (mvT hZ (own_w hw 157 rfl)) (mvT hZ (own_w hw 2 rfl)) (mvT hZ (own_w hw 158 rfl)) (by decide) (backOf (W := 0) (rmAt l Z a0 hw [] y_36 b_36 kb_36 ((3 : Int32)) 3 y_1 t_1 kb_1 cs_1 y_6 t_6 kb_6 cs_6 y_11 t_11 kb_11 cs_11 zc fm T36.heap n0 f61 q36_0 q36_1 q36_2 q36_3 f41 f42 f43 f44 f48 f49 f50 f51 f54 f55 f56 f57 q1_4 q1_5 q6_4 q6_5 q11_4 q11_5 rfl pS_COMPACT_STRINGS pP5 pS_SIOOBE_FORMATTER rfm f45) hZ (own_w hw 158 rfl) (own_w hw 2 rfl) (by decide) (by decide)) (g := (mkF m 123 #[.val (.int p0), .val (.int p1), .val (.int p2), .val (.ref y_1), .val (.ref y_6), .val (.ref y_11), .val (.ref y_36), .val (.int ((((Int32.ofNat (cs_1 : List Int32).length) + (Int32.ofNat (cs_6 : List Int32).length)) + (Int32.ofNat (cs_11 : List Int32).length)) + (3 : Int32)))] [(.ref y_11), (.ref y_6), (.ref y_1), (.int (3 : Int32)), (.ref y_36)])) rfl (by rw [hml]; rfl) (argsL := [(.ref y_36), (.int (3 : Int32)), (.ref y_1), (.ref y_6), (.ref y_11)]) (rest := []) (lenOf pd__Ljava_lang_String_ILjava_lang_String_Ljava_lang_String_Ljava_lang_String__Z rfl) rfl (by show 2 * 0 + _ ≤ _; exact Nat.le_of_eq rfl) (hb hby at_123) (fun _ _ => ⟨rfl, eH64, (by decide : 20 + 0 ≤ _), (by decide : 91 + 0 ≤ _)⟩)
  dsimp only [Pt.U, Pt.locs, Pt.cells, Pt.slots] at X65 l65 y65 z65 st65 hQ65
  try dsimp only [Nat.reduceAdd] at y65 z65
  rw [l65, y65, z65] at X65
  obtain ⟨rfl, Nq65, eH65⟩ := hQ65
  have N65 := Fr.app N64 Nq65
  refine own_st st65 ?_
  show own_Go p e below T65 (mkF m 126 #[.val (.int p0), .val (.int p1), .val (.int p2), .val (.ref y_1), .val (.ref y_6), .val (.ref y_11), .val (.ref y_36), .val (.int ((((Int32.ofNat (cs_1 : List Int32).length) + (Int32.ofNat (cs_6 : List Int32).length)) + (Int32.ofNat (cs_11 : List Int32).length)) + (3 : Int32)))] [(.int (1 : Int32))]) _
  refine own_st (fun t_ k_ => XS.ifNo X65.here hx rfl (hb hby at_126) rfl (by decide) (XS.aload X65.here hx rfl (hb hby at_129) rfl rfl (XS.iconst X65.here hx rfl (hb hby at_131) (XS.aloadN X65.here hx rfl (hb hby at_132) rfl rfl (XS.aload X65.here hx rfl (hb hby at_133) rfl rfl (XS.aload X65.here hx rfl (hb hby at_135) rfl rfl k_)))))) ?_
  show own_Go p e below T65 (mkF m 137 #[.val (.int p0), .val (.int p1), .val (.int p2), .val (.ref y_1), .val (.ref y_6), .val (.ref y_11), .val (.ref y_36), .val (.int ((((Int32.ofNat (cs_1 : List Int32).length) + (Int32.ofNat (cs_6 : List Int32).length)) + (Int32.ofNat (cs_11 : List Int32).length)) + (3 : Int32)))] [(.ref y_11), (.ref y_6), (.ref y_1), (.int (4 : Int32)), (.ref y_36)]) _
  obtain ⟨_, _, ⟨T66, L66, k66, n66⟩, -, X66, ⟨Lc66, hQ66, l66, y66, z66⟩, st66⟩ := Jvm.LawKit.callS X65 hx (y := (⟨"com/example/spillback/spillback/io/SelectionToStringPinLaw", "at", "(Ljava/lang/String;ILjava/lang/String;Ljava/lang/String;Ljava/lang/String;)Z"⟩ : MethodName)) hown (mvT hZ (own_w hw 156 rfl)) (mvT hZ (own_w hw 157 rfl)) (mvT hZ (own_w hw 2 rfl)) (mvT hZ (own_w hw 158 rfl)) (by decide) (backOf (W := 0) (rmAt l Z a0 hw [] y_36 b_36 kb_36 ((4 : Int32)) 4 y_1 t_1 kb_1 cs_1 y_6 t_6 kb_6 cs_6 y_11 t_11 kb_11 cs_11 zc fm T36.heap n0 f61 q36_0 q36_1 q36_2 q36_3 f41 f42 f43 f44 f48 f49 f50 f51 f54 f55 f56 f57 q1_4 q1_5 q6_4 q6_5 q11_4 q11_5 rfl pS_COMPACT_STRINGS pP5 pS_SIOOBE_FORMATTER rfm f45) hZ (own_w hw 158 rfl) (own_w hw 2 rfl) (by decide) (by decide)) (g := (mkF m 137 #[.val (.int p0), .val (.int p1), .val (.int p2), .val (.ref y_1), .val (.ref y_6), .val (.ref y_11), .val (.ref y_36), .val (.int ((((Int32.ofNat (cs_1 : List Int32).length) + (Int32.ofNat (cs_6 : List Int32).length)) + (Int32.ofNat (cs_11 : List Int32).length)) + (3 : Int32)))] [(.ref y_11), (.ref y_6), (.ref y_1), (.int (4 : Int32)), (.ref y_36)])) rfl (by rw [hml]; rfl) (argsL := [(.ref y_36), (.int (4 : Int32)), (.ref y_1), (.ref y_6), (.ref y_11)]) (rest := []) (lenOf pd__Ljava_lang_String_ILjava_lang_String_Ljava_lang_String_Ljava_lang_String__Z rfl) rfl (by show 2 * 0 + _ ≤ _; exact Nat.le_of_eq rfl) (hb hby at_137) (fun _ _ => ⟨rfl, eH65, (by decide : 20 + 0 ≤ _), (by decide : 91 + 0 ≤ _)⟩)
  dsimp only [Pt.U, Pt.locs, Pt.cells, Pt.slots] at X66 l66 y66 z66 st66 hQ66
  try dsimp only [Nat.reduceAdd] at y66 z66
  rw [l66, y66, z66] at X66
  obtain ⟨rfl, Nq66, eH66⟩ := hQ66
  have N66 := Fr.app N65 Nq66
  refine own_st st66 ?_
  show own_Go p e below T66 (mkF m 140 #[.val (.int p0), .val (.int p1), .val (.int p2), .val (.ref y_1), .val (.ref y_6), .val (.ref y_11), .val (.ref y_36), .val (.int ((((Int32.ofNat (cs_1 : List Int32).length) + (Int32.ofNat (cs_6 : List Int32).length)) + (Int32.ofNat (cs_11 : List Int32).length)) + (3 : Int32)))] [(.int (1 : Int32))]) _
  refine own_st (fun t_ k_ => XS.ifNo X66.here hx rfl (hb hby at_140) rfl (by decide) (XS.aload X66.here hx rfl (hb hby at_143) rfl rfl (XS.iconst X66.here hx rfl (hb hby at_145) (XS.aloadN X66.here hx rfl (hb hby at_146) rfl rfl (XS.aload X66.here hx rfl (hb hby at_147) rfl rfl (XS.aload X66.here hx rfl (hb hby at_149) rfl rfl k_)))))) ?_
  show own_Go p e below T66 (mkF m 151 #[.val (.int p0), .val (.int p1), .val (.int p2), .val (.ref y_1), .val (.ref y_6), .val (.ref y_11), .val (.ref y_36), .val (.int ((((Int32.ofNat (cs_1 : List Int32).length) + (Int32.ofNat (cs_6 : List Int32).length)) + (Int32.ofNat (cs_11 : List Int32).length)) + (3 : Int32)))] [(.ref y_11), (.ref y_6), (.ref y_1), (.int (5 : Int32)), (.ref y_36)]) _
  obtain ⟨_, _, ⟨T67, L67, k67, n67⟩, -, X67, ⟨Lc67, hQ67, l67, y67, z67⟩, st67⟩ := Jvm.LawKit.callS X66 hx (y := (⟨"com/example/spillback/spillback/io/SelectionToStringPinLaw", "at", "(Ljava/lang/String;ILjava/lang/String;Ljava/lang/String;Ljava/lang/String;)Z"⟩ : MethodName)) hown (mvT hZ (own_w hw 156 rfl)) (mvT hZ (own_w hw 157 rfl)) (mvT hZ (own_w hw 2 rfl)) (mvT hZ (own_w hw 158 rfl)) (by decide) (backOf (W := 0) (rmAt l Z a0 hw [] y_36 b_36 kb_36 ((5 : Int32)) 5 y_1 t_1 kb_1 cs_1 y_6 t_6 kb_6 cs_6 y_11 t_11 kb_11 cs_11 zc fm T36.heap n0 f61 q36_0 q36_1 q36_2 q36_3 f41 f42 f43 f44 f48 f49 f50 f51 f54 f55 f56 f57 q1_4 q1_5 q6_4 q6_5 q11_4 q11_5 rfl pS_COMPACT_STRINGS pP5 pS_SIOOBE_FORMATTER rfm f45) hZ (own_w hw 158 rfl) (own_w hw 2 rfl) (by decide) (by decide)) (g := (mkF m 151 #[.val (.int p0), .val (.int p1), .val (.int p2), .val (.ref y_1), .val (.ref y_6), .val (.ref y_11), .val (.ref y_36), .val (.int ((((Int32.ofNat (cs_1 : List Int32).length) + (Int32.ofNat (cs_6 : List Int32).length)) + (Int32.ofNat (cs_11 : List Int32).length)) + (3 : Int32)))] [(.ref y_11), (.ref y_6), (.ref y_1), (.int (5 : Int32)), (.ref y_36)])) rfl (by rw [hml]; rfl) (argsL := [(.ref y_36), (.int (5 : Int32)), (.ref y_1), (.ref y_6), (.ref y_11)]) (rest := []) (lenOf pd__Ljava_lang_String_ILjava_lang_String_Ljava_lang_String_Ljava_lang_String__Z rfl) rfl (by show 2 * 0 + _ ≤ _; exact Nat.le_of_eq rfl) (hb hby at_151) (fun _ _ => ⟨rfl, eH66, (by decide : 20 + 0 ≤ _), (by decide : 91 + 0 ≤ _)⟩)
  dsimp only [Pt.U, Pt.locs, Pt.cells, Pt.slots] at X67 l67 y67 z67 st67 hQ67
  try dsimp only [Nat.reduceAdd] at y67 z67
  rw [l67, y67, z67] at X67
  obtain ⟨rfl, Nq67, eH67⟩ := hQ67
  have N67 := Fr.app N66 Nq67
  refine own_st st67 ?_
  show own_Go p e below T67 (mkF m 154 #[.val (.int p0), .val (.int p1), .val (.int p2), .val (.ref y_1), .val (.ref y_6), .val (.ref y_11), .val (.ref y_36), .val (.int ((((Int32.ofNat (cs_1 : List Int32).length) + (Int32.ofNat (cs_6 : List Int32).length)) + (Int32.ofNat (cs_11 : List Int32).length)) + (3 : Int32)))] [(.int (1 : Int32))]) _
  refine own_st (fun t_ k_ => XS.ifNo X67.here hx rfl (hb hby at_154) rfl (by decide) (XS.aload X67.here hx rfl (hb hby at_157) rfl rfl (XS.bipush X67.here hx rfl (hb hby at_159) (XS.aloadN X67.here hx rfl (hb hby at_161) rfl rfl (XS.aload X67.here hx rfl (hb hby at_162) rfl rfl (XS.aload X67.here hx rfl (hb hby at_164) rfl rfl k_)))))) ?_
  show own_Go p e below T67 (mkF m 166 #[.val (.int p0), .val (.int p1), .val (.int p2), .val (.ref y_1), .val (.ref y_6), .val (.ref y_11), .val (.ref y_36), .val (.int ((((Int32.ofNat (cs_1 : List Int32).length) + (Int32.ofNat (cs_6 : List Int32).length)) + (Int32.ofNat (cs_11 : List Int32).length)) + (3 : Int32)))] [(.ref y_11), (.ref y_6), (.ref y_1), (.int (6 : Int32)), (.ref y_36)]) _
  obtain ⟨_, _, ⟨T68, L68, k68, n68⟩, -, X68, ⟨Lc68, hQ68, l68, y68, z68⟩, st68⟩ := Jvm.LawKit.callS X67 hx (y := (⟨"com/example/spillback/spillback/io/SelectionToStringPinLaw", "at", "(Ljava/lang/String;ILjava/lang/String;Ljava/lang/String;Ljava/lang/String;)Z"⟩ : MethodName)) hown (mvT hZ (own_w hw 156 rfl)) (mvT hZ (own_w hw 157 rfl)) (mvT hZ (own_w hw 2 rfl)) (mvT hZ (own_w hw 158 rfl)) (by decide) (backOf (W := 0) (rmAt l Z a0 hw [] y_36 b_36 kb_36 ((6 : Int32)) 6 y_1 t_1 kb_1 cs_1 y_6 t_6 kb_6 cs_6 y_11 t_11 kb_11 cs_11 zc fm T36.heap n0 f61 q36_0 q36_1 q36_2 q36_3 f41 f42 f43 f44 f48 f49 f50 f51 f54 f55 f56 f57 q1_4 q1_5 q6_4 q6_5 q11_4 q11_5 rfl pS_COMPACT_STRINGS pP5 pS_SIOOBE_FORMATTER rfm f45) hZ (own_w hw 158 rfl) (own_w hw 2 rfl) (by decide) (by decide)) (g := (mkF m 166 #[.val (.int p0), .val (.int p1), .val (.int p2), .val (.ref y_1), .val (.ref y_6), .val (.ref y_11), .val (.ref y_36), .val (.int ((((Int32.ofNat (cs_1 : List Int32).length) + (Int32.ofNat (cs_6 : List Int32).length)) + (Int32.ofNat (cs_11 : List Int32).length)) + (3 : Int32)))] [(.ref y_11), (.ref y_6), (.ref y_1), (.int (6 : Int32)), (.ref y_36)])) rfl (by rw [hml]; rfl) (argsL := [(.ref y_36), (.int (6 : Int32)), (.ref y_1), (.ref y_6), (.ref y_11)]) (rest := []) (lenOf pd__Ljava_lang_String_ILjava_lang_String_Ljava_lang_String_Ljava_lang_String__Z rfl) rfl (by show 2 * 0 + _ ≤ _; exact Nat.le_of_eq rfl) (hb hby at_166) (fun _ _ => ⟨rfl, eH67, (by decide : 20 + 0 ≤ _), (by decide : 91 + 0 ≤ _)⟩)
  dsimp only [Pt.U, Pt.locs, Pt.cells, Pt.slots] at X68 l68 y68 z68 st68 hQ68
  try dsimp only [Nat.reduceAdd] at y68 z68
  rw [l68, y68, z68] at X68
  obtain ⟨rfl, Nq68, eH68⟩ := hQ68
  have N68 := Fr.app N67 Nq68
  refine own_st st68 ?_
  show own_Go p e below T68 (mkF m 169 #[.val (.int p0), .val (.int p1), .val (.int p2), .val (.ref y_1), .val (.ref y_6), .val (.ref y_11), .val (.ref y_36), .val (.int ((((Int32.ofNat (cs_1 : List Int32).length) + (Int32.ofNat (cs_6 : List Int32).length)) + (Int32.ofNat (cs_11 : List Int32).length)) + (3 : Int32)))] [(.int (1 : Int32))]) _
  refine own_st (fun t_ k_ => XS.ifNo X68.here hx rfl (hb hby at_169) rfl (by decide) (XS.aload X68.here hx rfl (hb hby at_172) rfl rfl (XS.bipush X68.here hx rfl (hb hby at_174) (XS.aloadN X68.here hx rfl (hb hby at_176) rfl rfl (XS.aload X68.here hx rfl (hb hby at_177) rfl rfl (XS.aload X68.here hx rfl (hb hby at_179) rfl rfl k_)))))) ?_
  show own_Go p e below T68 (mkF m 181 #[.val (.int p0), .val (.int p1), .val (.int p2), .val (.ref y_1), .val (.ref y_6), .val (.ref y_11), .val (.ref y_36), .val (.int ((((Int32.ofNat (cs_1 : List Int32).length) + (Int32.ofNat (cs_6 : List Int32).length)) + (Int32.ofNat (cs_11 : List Int32).length)) + (3 : Int32)))] [(.ref y_11), (.ref y_6), (.ref y_1), (.int (7 : Int32)), (.ref y_36)]) _
  obtain ⟨_, _, ⟨T69, L69, k69, n69⟩, -, X69, ⟨Lc69, hQ69, l69, y69, z69⟩, st69⟩ := Jvm.LawKit.callS X68 hx (y := (⟨"com/example/spillback/spillback/io/SelectionToStringPinLaw", "at", "(Ljava/lang/String;ILjava/lang/String;Ljava/lang/String;Ljava/lang/String;)Z"⟩ : MethodName)) hown (mvT hZ (own_w hw 156 rfl)) (mvT hZ (own_w hw 157 rfl)) (mvT hZ (own_w hw 2 rfl)) (mvT hZ (own_w hw 158 rfl)) (by decide) (backOf (W := 0) (rmAt l Z a0 hw [] y_36 b_36 kb_36 ((7 : Int32)) 7 y_1 t_1 kb_1 cs_1 y_6 t_6 kb_6 cs_6 y_11 t_11 kb_11 cs_11 zc fm T36.heap n0 f61 q36_0 q36_1 q36_2 q36_3 f41 f42 f43 f44 f48 f49 f50 f51 f54 f55 f56 f57 q1_4 q1_5 q6_4 q6_5 q11_4 q11_5 rfl pS_COMPACT_STRINGS pP5 pS_SIOOBE_FORMATTER rfm f45) hZ (own_w hw 158 rfl) (own_w hw 2 rfl) (by decide) (by decide)) (g := (mkF m 181 #[.val (.int p0), .val (.int p1), .val (.int p2), .val (.ref y_1), .val (.ref y_6), .val (.ref y_11), .val (.ref y_36), .val (.int ((((Int32.ofNat (cs_1 : List Int32).length) + (Int32.ofNat (cs_6 : List Int32).length)) + (Int32.ofNat (cs_11 : List Int32).length)) + (3 : Int32)))] [(.ref y_11), (.ref y_6), (.ref y_1), (.int (7 : Int32)), (.ref y_36)])) rfl (by rw [hml]; rfl) (argsL := [(.ref y_36), (.int (7 : Int32)), (.ref y_1), (.ref y_6), (.ref y_11)]) (rest := []) (lenOf pd__Ljava_lang_String_ILjava_lang_String_Ljava_lang_String_Ljava_lang_String__Z rfl) rfl (by show 2 * 0 + _ ≤ _; exact Nat.le_of_eq rfl) (hb hby at_181) (fun _ _ => ⟨rfl, eH68, (by decide : 20 + 0 ≤ _), (by decide : 91 + 0 ≤ _)⟩)
  dsimp only [Pt.U, Pt.locs, Pt.cells, Pt.slots] at X69 l69 y69 z69 st69 hQ69
  try dsimp only [Nat.reduceAdd] at y69 z69
  rw [l69, y69, z69] at X69
  obtain ⟨rfl, Nq69, eH69⟩ := hQ69
  have N69 := Fr.app N68 Nq69
  refine own_st st69 ?_
  show own_Go p e below T69 (mkF m 184 #[.val (.int p0), .val (.int p1), .val (.int p2), .val (.ref y_1), .val (.ref y_6), .val (.ref y_11), .val (.ref y_36), .val (.int ((((Int32.ofNat (cs_1 : List Int32).length) + (Int32.ofNat (cs_6 : List Int32).length)) + (Int32.ofNat (cs_11 : List Int32).length)) + (3 : Int32)))] [(.int (1 : Int32))]) _
  refine own_st (fun t_ k_ => XS.ifNo X69.here hx rfl (hb hby at_184) rfl (by decide) (XS.aload X69.here hx rfl (hb hby at_187) rfl rfl (XS.bipush X69.here hx rfl (hb hby at_189) (XS.aloadN X69.here hx rfl (hb hby at_191) rfl rfl (XS.aload X69.here hx rfl (hb hby at_192) rfl rfl (XS.aload X69.here hx rfl (hb hby at_194) rfl rfl k_)))))) ?_
  show own_Go p e below T69 (mkF m 196 #[.val (.int p0), .val (.int p1), .val (.int p2), .val (.ref y_1), .val (.ref y_6), .val (.ref y_11), .val (.ref y_36), .val (.int ((((Int32.ofNat (cs_1 : List Int32).length) + (Int32.ofNat (cs_6 : List Int32).length)) + (Int32.ofNat (cs_11 : List Int32).length)) + (3 : Int32)))] [(.ref y_11), (.ref y_6), (.ref y_1), (.int (8 : Int32)), (.ref y_36)]) _
  obtain ⟨_, _, ⟨T70, L70, k70, n70⟩, -, X70, ⟨Lc70, hQ70, l70, y70, z70⟩, st70⟩ := Jvm.LawKit.callS X69 hx (y := (⟨"com/example/spillback/spillback/io/SelectionToStringPinLaw", "at", "(Ljava/lang/String;ILjava/lang/String;Ljava/lang/String;Ljava/lang/String;)Z"⟩ : MethodName)) hown (mvT hZ (own_w hw 156 rfl)) (mvT hZ (own_w hw 157 rfl)) (mvT hZ (own_w hw 2 rfl)) (mvT hZ (own_w hw 158 rfl)) (by decide) (backOf (W := 0) (rmAt l Z a0 hw [] y_36 b_36 kb_36 ((8 : Int32)) 8 y_1 t_1 kb_1 cs_1 y_6 t_6 kb_6 cs_6 y_11 t_11 kb_11 cs_11 zc fm T36.heap n0 f61 q36_0 q36_1 q36_2 q36_3 f41 f42 f43 f44 f48 f49 f50 f51 f54 f55 f56 f57 q1_4 q1_5 q6_4 q6_5 q11_4 q11_5 rfl pS_COMPACT_STRINGS pP5 pS_SIOOBE_FORMATTER rfm f45) hZ (own_w hw 158 rfl) (own_w hw 2 rfl) (by decide) (by decide)) (g := (mkF m 196 #[.val (.int p0), .val (.int p1), .val (.int p2), .val (.ref y_1), .val (.ref y_6), .val (.ref y_11), .val (.ref y_36), .val (.int ((((Int32.ofNat (cs_1 : List Int32).length) + (Int32.ofNat (cs_6 : List Int32).length)) + (Int32.ofNat (cs_11 : List Int32).length)) + (3 : Int32)))] [(.ref y_11), (.ref y_6), (.ref y_1), (.int (8 : Int32)), (.ref y_36)])) rfl (by rw [hml]; rfl) (argsL := [(.ref y_36), (.int (8 : Int32)), (.ref y_1), (.ref y_6), (.ref y_11)]) (rest := []) (lenOf pd__Ljava_lang_String_ILjava_lang_String_Ljava_lang_String_Ljava_lang_String__Z rfl) rfl (by show 2 * 0 + _ ≤ _; exact Nat.le_of_eq rfl) (hb hby at_196) (fun _ _ => ⟨rfl, eH69, (by decide : 20 + 0 ≤ _), (by decide : 91 + 0 ≤ _)⟩)
  dsimp only [Pt.U, Pt.locs, Pt.cells, Pt.slots] at X70 l70 y70 z70 st70 hQ70
  try dsimp only [Nat.reduceAdd] at y70 z70
  rw [l70, y70, z70] at X70
  obtain ⟨rfl, Nq70, eH70⟩ := hQ70
  have N70 := Fr.app N69 Nq70
  refine own_st st70 ?_
  show own_Go p e below T70 (mkF m 199 #[.val (.int p0), .val (.int p1), .val (.int p2), .val (.ref y_1), .val (.ref y_6), .val (.ref y_11), .val (.ref y_36), .val (.int ((((Int32.ofNat (cs_1 : List Int32).length) + (Int32.ofNat (cs_6 : List Int32).length)) + (Int32.ofNat (cs_11 : List Int32).length)) + (3 : Int32)))] [(.int (1 : Int32))]) _
  refine own_st (fun t_ k_ => XS.ifNo X70.here hx rfl (hb hby at_199) rfl (by decide) (XS.iconst X70.here hx rfl (hb hby at_202) (XS.goto X70.here hx rfl (pc0 := 203) (pc' := 207) rfl (hb hby at_203) (by decide) (by decide) k_))) ?_
  show own_Go p e below T70 (mkF m 207 #[.val (.int p0), .val (.int p1), .val (.int p2), .val (.ref y_1), .val (.ref y_6), .val (.ref y_11), .val (.ref y_36), .val (.int ((((Int32.ofNat (cs_1 : List Int32).length) + (Int32.ofNat (cs_6 : List Int32).length)) + (Int32.ofNat (cs_11 : List Int32).length)) + (3 : Int32)))] [(.int (1 : Int32))]) _
  obtain ⟨fs, hr, hrun, hended, hRW⟩ := X70.leaveW hS (by rw [eH70]; exact hK36) (v := some (.int (1 : Int32))) (fun h => by rw [Bd.returns] at h; cases h)
  have hCend : CHr Z own_EL s.vm s.heap T70.vm T70.heap := by
    rw [hh, eH70]
    exact CHr.trans CR38 (CHv.at X70 hZ hEL CH38)
  refine own_fin (retN X70 hx (t := .boolean) Bd.returns (by simp) (hb hby at_207) hr) ⟨hrun, hended, _, _, rfl, ?_, hCend, hRW.1, hRW.2.1, hRW.2.2.1, hRW.2.2.2.mono (by decide) (by decide)⟩
  show Q_rmLaw Z p0 p1 p2 zc fm h0 n0 _ T70.heap _
  rw [eH70]
  exact ⟨rfl, N70, K39⟩
set_option maxRecDepth 65536 in
set_option maxHeartbeats 40000000 in
theorem comes_1 {Post : Tables → Env → Array Value → State → Outcome → State → Prop} (hpost : ∀ tb e args s v u, (limb_1_1.after args s (.returned v) u = true ∧ limb_1_2.after args s (.returned v) u = true ∧ True) → ReturnedEndW s (.returned v) u (Jvm.fieldLocs frame_1_writes args s ++ Jvm.arrayLocs frame_1_arrays args s ++ Jvm.staticLocs frame_1_statics s) 48 4352 → Post tb e args s (.returned v) u) :
    ArmFor flags0 classFile x code maxLocals ret World_1 tables_1 room_1 Calls_1 rest_1 Pre_1 Post := by
  intro l hfl _ _ p e ha hc hk s m args below hf hA hF happ hP
  obtain ⟨hcalls, hrest, hpre⟩ := hP
  obtain ⟨-, -, -, hnamed, -, -, -, hat⟩ := (Spec.applies_iff hf).mp happ
  obtain ⟨hg, hn⟩ := and_e (Cond.before_iff.mp (show (Jvm.Cond.and given_1 narrow_1).before args s = true from hpre))
  obtain ⟨hc0, hg0⟩ := and_e hg
  obtain ⟨ga0, hg1⟩ := and_e hg0
  obtain ⟨ga1, hg2⟩ := and_e hg1
  have ga2 := hg2
  obtain ⟨w0, w1, w2, rfl⟩ : ∃ w0 w1 w2 : Value, args = #[w0, w1, w2] := by
    have hs : args.size = 3 := by simpa [Cond.value, given_1] using hc0
    obtain ⟨L⟩ := args
    match L, hs with
    | [w0, w1, w2], _ => exact ⟨w0, w1, w2, rfl⟩
  have hw := fun d (hd : d ∈ tables_1) => atoms_spec (ws := Jvm.Cond.code x code maxLocals ret :: tables_1) hat d (List.mem_cons_of_mem _ hd)
  have hfit : Fit s := fun {y c} hc i hi => by
    obtain ⟨ha, rfl⟩ := Array.getElem?_eq_some_iff.mp hc
    have q := List.all_eq_true.mp ((Array.all_eq_true_iff_forall_mem.mp hF) _ (Array.getElem_mem ha)) i (List.mem_range.mpr hi)
    simpa [Array.getElem?_eq_getElem hi] using q
  obtain ⟨hsets, hown0⟩ := atoms_of _ (rest_1_c_eq ▸ (show rest_1_c.before _ s = true from hrest))
  obtain ⟨i0, ei0⟩ := is_v ga0
  obtain rfl : w0 = (.int i0) := Option.some.inj ei0
  obtain ⟨i1, ei1⟩ := is_v ga1
  obtain rfl : w1 = (.int i1) := Option.some.inj ei1
  obtain ⟨i2, ei2⟩ := is_v ga2
  obtain rfl : w2 = (.int i2) := Option.some.inj ei2
  have n5 := not_v (Cond.before_iff.mp (hsets _ (List.mem_of_getElem? (i := 2) rfl)))
  obtain ⟨j1, e1⟩ := is_v (Cond.before_iff.mp (hsets _ (List.mem_of_getElem? (i := 1) rfl)))
  have S1 : Sta s s.heap "java/lang/String" "COMPACT_STRINGS" "Z" (.int j1) := Sta.start e1 (Or.inl (hsets _ (List.mem_of_getElem? (i := 0) rfl)))
  have c5 : ¬ (j1 = (0 : Int32)) := gotF (Cond.eq_ints e1 (Term.int_eval (0))) n5
  obtain ⟨v8, e8, r8⟩ := isR_v (Cond.before_iff.mp (hsets _ (List.mem_of_getElem? (i := 8) rfl)))
  have S2 : Sta s s.heap "jdk/internal/util/Preconditions" "SIOOBE_FORMATTER" "Ljava/util/function/BiFunction;" v8 := Sta.start e8 (Or.inl (hsets _ (List.mem_of_getElem? (i := 7) rfl)))
  have hCH0 : CHv s own_EL s.vm s.heap := CHv.start (own_EW hw) (fun p hp => hcalls.1 p hp) (hsets _ (List.mem_of_getElem? (i := 2) rfl)) (own_w hw 7 rfl) (own_w hw 6 rfl)
  obtain ⟨n, o, h1, h2, h3, _, L, rfl, ⟨rfl, N, -⟩, -, hq⟩ := rmLaw l s _ hw tables_1 i0 i1 i2 j1 v8 s.heap s.heap.size (Nat.le_refl _) S1 c5 S2 r8 (Old.start s) p e ha hc hk s m _ below hf ((Spec.applies_iff_loose hf).mp happ).1 ⟨rfl, State.Warmed39.refl s, rfl, hCH0⟩ trivial
  refine ⟨n, _, h1, h2, h3, hpost _ _ _ _ _ _ ⟨Cond.after_iff.mpr rfl, Cond.after_iff.mpr (eq_i res_at (Term.int_eval (1)) rfl), trivial⟩ ⟨hq.1, hq.2.1, hq.2.2.1, (hq.2.2.2.sift fun y hy => Or.inr (N y hy)).mono (by decide) (by decide)⟩⟩
theorem main_1_1 : Claimed_1_1 := comes_1 fun _ _ _ _ _ _ h hF => ⟨h.1, hF⟩
theorem main_1_2 : Claimed_1_2 := comes_1 fun _ _ _ _ _ _ h hF => ⟨h.2.1, hF⟩
end Jvm.Pilot.@@N@@
namespace Jvm.Pilot.@@N@@
open Jvm Jvm.ClassFile Sem Op Lib Jvm.Free Jvm.Stand Jvm.Pilot.@@N@@.Jvm.D
/-! MADE BY PROGRAM (witnessworld.py) out of the Statement's table words and the real class files: 27 classes; the members and pool entries that the words name. The judged class is class 1, her method 1. -/
namespace start1
open Jvm.ClassFile
def u (s : String) : CpInfo := .utf8 (stringToUtf16 s)
/-- a pool by its gaps: so many unusable entries, then the entry; so many at the end -/
def gap : Nat → List CpInfo → List CpInfo
  | 0, r => r
  | n + 1, r => .unusable :: gap n r
def poolList (es : List (Nat × CpInfo)) (last : Nat) : List CpInfo := es.foldr (fun e r => gap e.1 (e.2 :: r)) (gap last [])
def pool (es : List (Nat × CpInfo)) (last : Nat) : Array CpInfo := ⟨poolList es last⟩
def fileOf (pool : Array CpInfo) (this : Nat) (attrs : Array Attribute := #[]) (ms : Array MethodInfo := #[]) (fl : Nat := 33) (sup : Nat := 0) (ifs : Array Nat := #[]) (fds : Array FieldInfo := #[]) : ClassFile where
  minorVersion := 0
  majorVersion := 65
  constantPool := pool
  accessFlags := fl
  thisClass := this
  superClass := sup
  interfaces := ifs
  fields := fds
  methods := ms
  attributes := attrs
def plain (name : String) (sup : Option ClassId) : Class where
  name := name
  kind := .ordinary
  loader := none
  accessFlags := 33
  super := sup
  interfaces := #[]
  cf := none
  fields := #[]
  methods := #[]
  instanceTypes := #[]
  staticTypes := #[]
  resolved := #[]
  callSites := []
  init := .initialized
  statics := none
  mirror := none

def pool0 : Array CpInfo := pool [(5, u "<init>"), (0, u "()V"), (1, .class_ 10), (1, u "java/lang/Object")] 113

def k0c0 : Code := { maxStack := 0, maxLocals := 1, code := object_method_1_code, exceptionTable := #[], attributes := #[] }
def k0m0 : Method := { name := "<init>", desc := "()V", sig := { parameters := [], returnType := none }, accessFlags := 1, code := some k0c0 }
/-- java/lang/Object -/
def k0 : Class := { plain "java/lang/Object" none with
  accessFlags := 33
  interfaces := #[]
  cf := some (fileOf pool0 8 #[] #[{ accessFlags := 1, nameIndex := 5, descriptorIndex := 6, attributes := #[] }] 33 0 #[] #[])
  fields := #[]
  methods := #[k0m0]
  instanceTypes := #[]
  staticTypes := #[]
  resolved := Array.replicate 124 none
  statics := none }

def pool1 : Array CpInfo := pool [(2, .class_ 4), (1, u "java/lang/Object"), (0, u "<init>"), (0, u "()V"), (0, .methodref 8 9), (0, .class_ 10), (0, .nameAndType 11 12), (0, u "com/example/spillback/spillback/io/SelectionToStringPinLaw"), (0, u "draw"), (0, u "(I)Ljava/lang/String;"), (0, .class_ 14), (0, u "com/example/spillback/spillback/io/Config$Selection"), (0, .methodref 13 16), (0, .nameAndType 5 17), (0, u "(Ljava/lang/String;Ljava/lang/String;Ljava/lang/String;)V"), (0, .methodref 13 19), (0, .nameAndType 20 21), (0, u "toString"), (0, u "()Ljava/lang/String;"), (0, .methodref 23 24), (0, .class_ 25), (0, .nameAndType 26 27), (0, u "java/lang/String"), (0, u "length"), (0, u "()I"), (0, .methodref 8 29), (0, .nameAndType 30 31), (0, u "at"), (0, u "(Ljava/lang/String;ILjava/lang/String;Ljava/lang/String;Ljava/lang/String;)Z"), (0, .string 33), (0, u ""), (0, .methodref 23 35), (0, .nameAndType 36 37), (0, u "valueOf"), (0, u "(C)Ljava/lang/String;"), (0, .methodref 23 39), (0, .nameAndType 5 40), (0, u "([C)V"), (0, .methodref 23 42), (0, .nameAndType 43 44), (0, u "charAt"), (0, u "(I)C"), (0, .methodref 8 46), (0, .nameAndType 47 48), (0, u "expected"), (0, u "(ILjava/lang/String;Ljava/lang/String;Ljava/lang/String;)C"), (2, u "law"), (0, u "(III)Z")] 7

def k1m0 : Method := { name := "<init>", desc := "()V", sig := { parameters := [], returnType := none }, accessFlags := 2, code := none }
def k1c1 : Code := { maxStack := 5, maxLocals := 8, code := code, exceptionTable := #[], attributes := #[] }
def k1m1 : Method := { name := "law", desc := "(III)Z", sig := { parameters := [.int, .int, .int], returnType := some .boolean }, accessFlags := 9, code := some k1c1 }
def k1c2 : Code := { maxStack := 6, maxLocals := 4, code := method_3_code, exceptionTable := #[], attributes := #[] }
def k1m2 : Method := { name := "draw", desc := "(I)Ljava/lang/String;", sig := { parameters := [.int], returnType := some (.object "java/lang/String") }, accessFlags := 10, code := some k1c2 }
def k1c3 : Code := { maxStack := 5, maxLocals := 5, code := method_4_code, exceptionTable := #[], attributes := #[] }
def k1m3 : Method := { name := "at", desc := "(Ljava/lang/String;ILjava/lang/String;Ljava/lang/String;Ljava/lang/String;)Z", sig := { parameters := [(.object "java/lang/String"), .int, (.object "java/lang/String"), (.object "java/lang/String"), (.object "java/lang/String")], returnType := some .boolean }, accessFlags := 10, code := some k1c3 }
def k1c4 : Code := { maxStack := 2, maxLocals := 5, code := method_5_code, exceptionTable := #[], attributes := #[] }
def k1m4 : Method := { name := "expected", desc := "(ILjava/lang/String;Ljava/lang/String;Ljava/lang/String;)C", sig := { parameters := [.int, (.object "java/lang/String"), (.object "java/lang/String"), (.object "java/lang/String")], returnType := some .char }, accessFlags := 10, code := some k1c4 }
/-- com/example/spillback/spillback/io/SelectionToStringPinLaw -/
def k1 : Class := { plain "com/example/spillback/spillback/io/SelectionToStringPinLaw" (some 0) with
  accessFlags := 49
  interfaces := #[]
  cf := some (fileOf pool1 8 #[] #[{ accessFlags := 2, nameIndex := 5, descriptorIndex := 6, attributes := #[] }, { accessFlags := 9, nameIndex := 51, descriptorIndex := 52, attributes := #[] }, { accessFlags := 10, nameIndex := 11, descriptorIndex := 12, attributes := #[] }, { accessFlags := 10, nameIndex := 30, descriptorIndex := 31, attributes := #[] }, { accessFlags := 10, nameIndex := 47, descriptorIndex := 48, attributes := #[] }] 49 2 #[] #[])
  fields := #[]
  methods := #[k1m0, k1m1, k1m2, k1m3, k1m4]
  instanceTypes := #[]
  staticTypes := #[]
  resolved := Array.replicate 60 none
  statics := none }

def pool2 : Array CpInfo := pool [(1, .class_ 2), (0, u "java/io/Serializable"), (0, .class_ 4), (0, u "java/lang/Object")] 2

/-- java/io/Serializable -/
def k2 : Class := { plain "java/io/Serializable" (some 0) with
  accessFlags := 1537
  interfaces := #[]
  cf := some (fileOf pool2 1 #[] #[] 1537 3 #[] #[])
  fields := #[]
  methods := #[]
  instanceTypes := #[]
  staticTypes := #[]
  resolved := Array.replicate 7 none
  statics := none }

def pool3 : Array CpInfo := pool [(1, .class_ 2), (0, u "java/lang/Comparable"), (0, .class_ 4), (0, u "java/lang/Object")] 7

/-- java/lang/Comparable -/
def k3 : Class := { plain "java/lang/Comparable" (some 0) with
  accessFlags := 1537
  interfaces := #[]
  cf := some (fileOf pool3 1 #[] #[] 1537 3 #[] #[])
  fields := #[]
  methods := #[]
  instanceTypes := #[]
  staticTypes := #[]
  resolved := Array.replicate 12 none
  statics := none }

def pool4 : Array CpInfo := pool [(2, .class_ 4), (1, u "java/lang/CharSequence"), (42, .class_ 48), (0, u "java/lang/CharSequence$1CodePointIterator"), (10, .class_ 60), (0, u "java/lang/CharSequence$1CharIterator"), (5, .class_ 67), (0, u "java/lang/Object")] 63

/-- java/lang/CharSequence -/
def k4 : Class := { plain "java/lang/CharSequence" (some 0) with
  accessFlags := 1537
  interfaces := #[]
  cf := some (fileOf pool4 2 #[.nestMembers #[47, 59]] #[] 1537 66 #[] #[])
  fields := #[]
  methods := #[]
  instanceTypes := #[]
  staticTypes := #[]
  resolved := Array.replicate 131 none
  statics := none }

def pool5 : Array CpInfo := pool [(1, .class_ 2), (0, u "java/lang/constant/Constable"), (0, .class_ 4), (0, u "java/lang/Object")] 6

/-- java/lang/constant/Constable -/
def k5 : Class := { plain "java/lang/constant/Constable" (some 0) with
  accessFlags := 1537
  interfaces := #[]
  cf := some (fileOf pool5 1 #[] #[] 1537 3 #[] #[])
  fields := #[]
  methods := #[]
  instanceTypes := #[]
  staticTypes := #[]
  resolved := Array.replicate 11 none
  statics := none }

def pool6 : Array CpInfo := pool [(1, .class_ 2), (0, u "java/lang/constant/ConstantDesc"), (0, .class_ 4), (0, u "java/lang/Object")] 32

/-- java/lang/constant/ConstantDesc -/
def k6 : Class := { plain "java/lang/constant/ConstantDesc" (some 0) with
  accessFlags := 1537
  interfaces := #[]
  cf := some (fileOf pool6 1 #[] #[] 1537 3 #[] #[])
  fields := #[]
  methods := #[]
  instanceTypes := #[]
  staticTypes := #[]
  resolved := Array.replicate 37 none
  statics := none }

def pool7 : Array CpInfo := pool [(1, .methodref 2 3), (0, .class_ 4), (0, .nameAndType 5 6), (0, u "java/lang/Object"), (0, u "<init>"), (0, u "()V"), (2, .fieldref 10 11), (0, .class_ 12), (0, .nameAndType 13 14), (0, u "java/lang/String"), (0, u "value"), (0, u "[B"), (0, .fieldref 10 16), (0, .nameAndType 17 18), (0, u "coder"), (0, u "B"), (2, u "hash"), (0, u "I"), (2, u "hashIsZero"), (0, u "Z"), (0, .methodref 10 28), (0, .nameAndType 5 29), (0, u "([CIILjava/lang/Void;)V"), (8, .fieldref 10 39), (0, .nameAndType 40 26), (0, u "COMPACT_STRINGS"), (1, .class_ 44), (1, u "java/lang/StringUTF16"), (0, u "compress"), (1, .methodref 42 48), (0, .nameAndType 49 50), (0, u "coderFromArrayLen"), (0, u "([BI)B"), (2, u "toBytes"), (0, .methodref 55 56), (0, .class_ 57), (0, .nameAndType 58 59), (0, u "java/util/Arrays"), (0, u "copyOfRange"), (0, u "([BII)[B"), (47, .class_ 109), (1, u "java/lang/StringLatin1"), (32, u "()Z"), (34, .methodref 42 178), (0, .nameAndType 45 179), (0, u "([CII)[B"), (13, .class_ 195), (1, u "java/lang/System"), (13, .methodref 10 210), (0, .nameAndType 5 211), (0, u "([BB)V"), (0, .methodref 193 213), (0, .nameAndType 214 215), (0, u "arraycopy"), (0, u "(Ljava/lang/Object;ILjava/lang/Object;II)V"), (118, u "()I"), (0, .methodref 10 336), (0, .nameAndType 17 337), (0, u "()B"), (2, u "()[B"), (22, u "([BI)C"), (5, u "(C)Z"), (21, u "(II)V"), (35, u "(I)C"), (61, .methodref 10 490), (0, .nameAndType 5 491), (0, u "(Ljava/lang/AbstractStringBuilder;Ljava/lang/Void;)V"), (0, .methodref 10 493), (0, .nameAndType 494 142), (0, u "isLatin1"), (0, .methodref 107 496), (0, .nameAndType 497 363), (0, u "charAt"), (3, u "checkIndex"), (4, .nameAndType 507 334), (0, u "length"), (24, u "getBytes"), (16, .methodref 550 506), (0, .class_ 551), (0, u "java/lang/AbstractStringBuilder"), (0, .methodref 550 553), (0, .nameAndType 554 340), (0, u "getValue"), (20, .class_ 576), (0, u "java/lang/CharSequence"), (22, u "CASE_INSENSITIVE_ORDER"), (0, u "Ljava/util/Comparator;"), (181, u "valueOf"), (0, u "(C)Ljava/lang/String;"), (37, u "([BIB)V"), (188, u "([C)V"), (4, .methodref 107 1016), (0, .nameAndType 1017 369), (0, u "canEncode"), (0, .methodref 107 1019), (0, .nameAndType 53 1020), (0, u "(C)[B"), (26, .methodref 550 493), (5, .fieldref 1054 1055), (0, .class_ 1056), (0, .nameAndType 1057 1058), (0, u "jdk/internal/util/Preconditions"), (0, u "SIOOBE_FORMATTER"), (0, u "Ljava/util/function/BiFunction;"), (0, .methodref 1054 1060), (0, .nameAndType 501 1061), (0, u "(IILjava/util/function/BiFunction;)I"), (39, u "serialPersistentFields"), (0, u "[Ljava/io/ObjectStreamField;"), (0, .class_ 1104), (0, u "java/lang/String$CaseInsensitiveComparator"), (1, .class_ 1107), (0, u "java/io/Serializable"), (0, .class_ 1109), (0, u "java/lang/Comparable"), (0, .class_ 1111), (0, u "java/lang/constant/Constable"), (0, .class_ 1113), (0, u "java/lang/constant/ConstantDesc"), (2, u "serialVersionUID"), (0, u "J"), (3, u "REPL"), (0, u "C"), (2, u "LATIN1"), (1, u "UTF16"), (105, u "(Ljava/lang/StringBuilder;)V")] 217

def k7m0 : Method := { name := "<init>", desc := "()V", sig := { parameters := [], returnType := none }, accessFlags := 1, code := none }
def k7c1 : Code := { maxStack := 5, maxLocals := 2, code := jdk_42_method_3_code, exceptionTable := #[], attributes := #[] }
def k7m1 : Method := { name := "<init>", desc := "([C)V", sig := { parameters := [(.array .char)], returnType := none }, accessFlags := 1, code := some k7c1 }
def k7c2 : Code := { maxStack := 3, maxLocals := 2, code := jdk_42_method_53_code, exceptionTable := #[], attributes := #[] }
def k7m2 : Method := { name := "<init>", desc := "(Ljava/lang/StringBuilder;)V", sig := { parameters := [(.object "java/lang/StringBuilder")], returnType := none }, accessFlags := 1, code := some k7c2 }
def k7c3 : Code := { maxStack := 2, maxLocals := 1, code := jdk_42_method_54_code, exceptionTable := #[], attributes := #[] }
def k7m3 : Method := { name := "length", desc := "()I", sig := { parameters := [], returnType := some .int }, accessFlags := 1, code := some k7c3 }
def k7c4 : Code := { maxStack := 2, maxLocals := 2, code := jdk_42_method_56_code, exceptionTable := #[], attributes := #[] }
def k7m4 : Method := { name := "charAt", desc := "(I)C", sig := { parameters := [.int], returnType := some .char }, accessFlags := 1, code := some k7c4 }
def k7c5 : Code := { maxStack := 4, maxLocals := 1, code := jdk_42_method_139_code, exceptionTable := #[], attributes := #[] }
def k7m5 : Method := { name := "valueOf", desc := "(C)Ljava/lang/String;", sig := { parameters := [.char], returnType := some (.object "java/lang/String") }, accessFlags := 9, code := some k7c5 }
def k7c6 : Code := { maxStack := 5, maxLocals := 4, code := jdk_42_method_147_code, exceptionTable := #[], attributes := #[] }
def k7m6 : Method := { name := "getBytes", desc := "([BIB)V", sig := { parameters := [(.array .byte), .int, .byte], returnType := none }, accessFlags := 0, code := some k7c6 }
def k7c7 : Code := { maxStack := 4, maxLocals := 6, code := jdk_42_method_149_code, exceptionTable := #[], attributes := #[] }
def k7m7 : Method := { name := "<init>", desc := "([CIILjava/lang/Void;)V", sig := { parameters := [(.array .char), .int, .int, (.object "java/lang/Void")], returnType := none }, accessFlags := 2, code := some k7c7 }
def k7c8 : Code := { maxStack := 5, maxLocals := 5, code := jdk_42_method_150_code, exceptionTable := #[], attributes := #[] }
def k7m8 : Method := { name := "<init>", desc := "(Ljava/lang/AbstractStringBuilder;Ljava/lang/Void;)V", sig := { parameters := [(.object "java/lang/AbstractStringBuilder"), (.object "java/lang/Void")], returnType := none }, accessFlags := 0, code := some k7c8 }
def k7c9 : Code := { maxStack := 2, maxLocals := 3, code := jdk_42_method_151_code, exceptionTable := #[], attributes := #[] }
def k7m9 : Method := { name := "<init>", desc := "([BB)V", sig := { parameters := [(.array .byte), .byte], returnType := none }, accessFlags := 0, code := some k7c9 }
def k7c10 : Code := { maxStack := 1, maxLocals := 1, code := jdk_42_method_152_code, exceptionTable := #[], attributes := #[] }
def k7m10 : Method := { name := "coder", desc := "()B", sig := { parameters := [], returnType := some .byte }, accessFlags := 0, code := some k7c10 }
def k7c11 : Code := { maxStack := 1, maxLocals := 1, code := jdk_42_method_154_code, exceptionTable := #[], attributes := #[] }
def k7m11 : Method := { name := "isLatin1", desc := "()Z", sig := { parameters := [], returnType := some .boolean }, accessFlags := 0, code := some k7c11 }
def k7c12 : Code := { maxStack := 3, maxLocals := 2, code := jdk_42_method_155_code, exceptionTable := #[], attributes := #[] }
def k7m12 : Method := { name := "checkIndex", desc := "(II)V", sig := { parameters := [.int, .int], returnType := none }, accessFlags := 8, code := some k7c12 }
/-- java/lang/String -/
def k7 : Class := { plain "java/lang/String" (some 0) with
  accessFlags := 49
  interfaces := #[2, 3, 4, 5, 6]
  cf := some (fileOf pool7 10 #[.nestMembers #[1103]] #[{ accessFlags := 1, nameIndex := 5, descriptorIndex := 6, attributes := #[] }, { accessFlags := 1, nameIndex := 5, descriptorIndex := 1010, attributes := #[] }, { accessFlags := 1, nameIndex := 5, descriptorIndex := 1233, attributes := #[] }, { accessFlags := 1, nameIndex := 507, descriptorIndex := 334, attributes := #[] }, { accessFlags := 1, nameIndex := 497, descriptorIndex := 427, attributes := #[] }, { accessFlags := 9, nameIndex := 782, descriptorIndex := 783, attributes := #[] }, { accessFlags := 0, nameIndex := 532, descriptorIndex := 821, attributes := #[] }, { accessFlags := 2, nameIndex := 5, descriptorIndex := 29, attributes := #[] }, { accessFlags := 0, nameIndex := 5, descriptorIndex := 491, attributes := #[] }, { accessFlags := 0, nameIndex := 5, descriptorIndex := 211, attributes := #[] }, { accessFlags := 0, nameIndex := 17, descriptorIndex := 337, attributes := #[] }, { accessFlags := 0, nameIndex := 494, descriptorIndex := 142, attributes := #[] }, { accessFlags := 8, nameIndex := 501, descriptorIndex := 391, attributes := #[] }] 49 2 #[1106, 1108, 575, 1110, 1112] #[{ accessFlags := 18, nameIndex := 13, descriptorIndex := 14, attributes := #[] }, { accessFlags := 18, nameIndex := 17, descriptorIndex := 18, attributes := #[] }, { accessFlags := 2, nameIndex := 21, descriptorIndex := 22, attributes := #[] }, { accessFlags := 2, nameIndex := 25, descriptorIndex := 26, attributes := #[] }, { accessFlags := 26, nameIndex := 1116, descriptorIndex := 1117, attributes := #[] }, { accessFlags := 24, nameIndex := 40, descriptorIndex := 26, attributes := #[] }, { accessFlags := 26, nameIndex := 1101, descriptorIndex := 1102, attributes := #[] }, { accessFlags := 26, nameIndex := 1121, descriptorIndex := 1122, attributes := #[] }, { accessFlags := 25, nameIndex := 599, descriptorIndex := 600, attributes := #[] }, { accessFlags := 24, nameIndex := 1125, descriptorIndex := 18, attributes := #[] }, { accessFlags := 24, nameIndex := 1127, descriptorIndex := 18, attributes := #[] }])
  fields := #[{ name := "value", type := (.array .byte), accessFlags := 18, slot := 0, constantValue := 0 }, { name := "coder", type := .byte, accessFlags := 18, slot := 1, constantValue := 0 }, { name := "hash", type := .int, accessFlags := 2, slot := 2, constantValue := 0 }, { name := "hashIsZero", type := .boolean, accessFlags := 2, slot := 3, constantValue := 0 }, { name := "serialVersionUID", type := .long, accessFlags := 26, slot := 0, constantValue := 0 }, { name := "COMPACT_STRINGS", type := .boolean, accessFlags := 24, slot := 1, constantValue := 0 }, { name := "serialPersistentFields", type := (.array (.object "java/io/ObjectStreamField")), accessFlags := 26, slot := 2, constantValue := 0 }, { name := "REPL", type := .char, accessFlags := 26, slot := 3, constantValue := 0 }, { name := "CASE_INSENSITIVE_ORDER", type := (.object "java/util/Comparator"), accessFlags := 25, slot := 4, constantValue := 0 }, { name := "LATIN1", type := .byte, accessFlags := 24, slot := 5, constantValue := 0 }, { name := "UTF16", type := .byte, accessFlags := 24, slot := 6, constantValue := 0 }]
  methods := #[k7m0, k7m1, k7m2, k7m3, k7m4, k7m5, k7m6, k7m7, k7m8, k7m9, k7m10, k7m11, k7m12]
  instanceTypes := #[(.array .byte), .byte, .int, .boolean]
  staticTypes := #[.long, .boolean, (.array (.object "java/io/ObjectStreamField")), .char, (.object "java/util/Comparator"), .byte, .byte]
  resolved := Array.replicate 1451 none
  statics := some 0 }

def pool8 : Array CpInfo := pool [(1, .methodref 2 3), (0, .class_ 4), (0, .nameAndType 5 6), (0, u "java/lang/Object"), (0, u "<init>"), (0, u "()V"), (0, .class_ 8), (0, u "java/lang/Record")] 13

def k8c0 : Code := { maxStack := 1, maxLocals := 1, code := jdk_30_method_1_code, exceptionTable := #[], attributes := #[] }
def k8m0 : Method := { name := "<init>", desc := "()V", sig := { parameters := [], returnType := none }, accessFlags := 4, code := some k8c0 }
/-- java/lang/Record -/
def k8 : Class := { plain "java/lang/Record" (some 0) with
  accessFlags := 1057
  interfaces := #[]
  cf := some (fileOf pool8 7 #[] #[{ accessFlags := 4, nameIndex := 5, descriptorIndex := 6, attributes := #[] }] 1057 2 #[] #[])
  fields := #[]
  methods := #[k8m0]
  instanceTypes := #[]
  staticTypes := #[]
  resolved := Array.replicate 22 none
  statics := none }

def pool9 : Array CpInfo := pool [(1, .methodref 2 3), (0, .class_ 4), (0, .nameAndType 5 6), (0, u "java/lang/Record"), (0, u "<init>"), (0, u "()V"), (0, .fieldref 8 9), (0, .class_ 10), (0, .nameAndType 11 12), (0, u "com/example/spillback/spillback/io/Config$Selection"), (0, u "type"), (0, u "Ljava/lang/String;"), (0, .fieldref 8 14), (0, .nameAndType 15 12), (0, u "key"), (0, .fieldref 8 17), (0, .nameAndType 18 12), (0, u "value"), (0, .class_ 20), (0, u "java/lang/StringBuilder"), (0, .methodref 19 3), (0, .methodref 19 23), (0, .nameAndType 24 25), (0, u "append"), (0, u "(Ljava/lang/String;)Ljava/lang/StringBuilder;"), (0, .string 27), (0, u "["), (0, .string 29), (0, u "="), (0, .string 31), (0, u "]"), (0, .methodref 19 33), (0, .nameAndType 34 35), (0, u "toString"), (0, u "()Ljava/lang/String;"), (8, u "(Ljava/lang/String;Ljava/lang/String;Ljava/lang/String;)V"), (8, .class_ 54), (0, u "com/example/spillback/spillback/io/Config")] 21

def k9c0 : Code := { maxStack := 2, maxLocals := 4, code := prog_42_method_1_code, exceptionTable := #[], attributes := #[] }
def k9m0 : Method := { name := "<init>", desc := "(Ljava/lang/String;Ljava/lang/String;Ljava/lang/String;)V", sig := { parameters := [(.object "java/lang/String"), (.object "java/lang/String"), (.object "java/lang/String")], returnType := none }, accessFlags := 1, code := some k9c0 }
def k9c1 : Code := { maxStack := 2, maxLocals := 1, code := prog_42_method_2_code, exceptionTable := #[], attributes := #[] }
def k9m1 : Method := { name := "toString", desc := "()Ljava/lang/String;", sig := { parameters := [], returnType := some (.object "java/lang/String") }, accessFlags := 1, code := some k9c1 }
/-- com/example/spillback/spillback/io/Config$Selection -/
def k9 : Class := { plain "com/example/spillback/spillback/io/Config$Selection" (some 8) with
  accessFlags := 49
  interfaces := #[]
  cf := some (fileOf pool9 8 #[.nestHost 53] #[{ accessFlags := 1, nameIndex := 5, descriptorIndex := 44, attributes := #[] }, { accessFlags := 1, nameIndex := 34, descriptorIndex := 35, attributes := #[] }] 49 2 #[] #[{ accessFlags := 18, nameIndex := 11, descriptorIndex := 12, attributes := #[] }, { accessFlags := 18, nameIndex := 15, descriptorIndex := 12, attributes := #[] }, { accessFlags := 18, nameIndex := 18, descriptorIndex := 12, attributes := #[] }])
  fields := #[{ name := "type", type := (.object "java/lang/String"), accessFlags := 18, slot := 0, constantValue := 0 }, { name := "key", type := (.object "java/lang/String"), accessFlags := 18, slot := 1, constantValue := 0 }, { name := "value", type := (.object "java/lang/String"), accessFlags := 18, slot := 2, constantValue := 0 }]
  methods := #[k9m0, k9m1]
  instanceTypes := #[(.object "java/lang/String"), (.object "java/lang/String"), (.object "java/lang/String")]
  staticTypes := #[]
  resolved := Array.replicate 76 none
  statics := none }

def pool10 : Array CpInfo := pool [(1, .class_ 2), (0, u "java/lang/Appendable"), (0, .class_ 4), (0, u "java/lang/Object")] 9

/-- java/lang/Appendable -/
def k10 : Class := { plain "java/lang/Appendable" (some 0) with
  accessFlags := 1537
  interfaces := #[]
  cf := some (fileOf pool10 1 #[] #[] 1537 3 #[] #[])
  fields := #[]
  methods := #[]
  instanceTypes := #[]
  staticTypes := #[]
  resolved := Array.replicate 14 none
  statics := none }

def pool11 : Array CpInfo := pool [(1, .class_ 2), (0, u "java/lang/String"), (0, .methodref 4 5), (0, .class_ 6), (0, .nameAndType 7 8), (0, u "java/lang/Object"), (0, u "<init>"), (0, u "()V"), (1, .class_ 12), (1, u "java/lang/AbstractStringBuilder"), (0, u "EMPTYVALUE"), (0, u "[B"), (0, .fieldref 10 16), (0, .nameAndType 17 14), (0, u "value"), (0, .fieldref 1 19), (0, .nameAndType 20 21), (0, u "COMPACT_STRINGS"), (0, u "Z"), (0, .fieldref 10 23), (0, .nameAndType 24 25), (0, u "coder"), (0, u "B"), (6, .methodref 1 33), (0, .nameAndType 34 35), (0, u "length"), (0, u "()I"), (4, .methodref 1 41), (0, .nameAndType 24 42), (0, u "()B"), (2, u "append"), (0, u "(Ljava/lang/String;)Ljava/lang/AbstractStringBuilder;"), (1, .class_ 49), (0, u "java/lang/CharSequence"), (19, u "(Ljava/lang/String;)V"), (5, u "maybeLatin1"), (3, .fieldref 10 80), (0, .nameAndType 81 82), (0, u "count"), (0, u "I"), (2, u "isLatin1"), (0, u "()Z"), (13, .methodref 10 101), (0, .nameAndType 102 103), (0, u "ensureCapacityInternal"), (0, u "(I)V"), (104, .methodref 10 209), (0, .nameAndType 210 211), (0, u "putStringAt"), (0, u "(ILjava/lang/String;)V"), (5, u "inflateIfNeededFor"), (2, .nameAndType 221 222), (0, u "getBytes"), (0, u "([BIB)V"), (174, .methodref 10 398), (0, .nameAndType 217 69), (0, .methodref 1 220), (3, u "()[B"), (40, .class_ 445), (0, u "java/lang/Appendable"), (106, u "getValue")] 56

def k11m0 : Method := { name := "<init>", desc := "()V", sig := { parameters := [], returnType := none }, accessFlags := 0, code := none }
def k11c1 : Code := { maxStack := 2, maxLocals := 2, code := jdk_68_method_2_code, exceptionTable := #[], attributes := #[] }
def k11m1 : Method := { name := "<init>", desc := "(I)V", sig := { parameters := [.int], returnType := none }, accessFlags := 0, code := some k11c1 }
def k11c2 : Code := { maxStack := 1, maxLocals := 1, code := jdk_68_method_6_code, exceptionTable := #[], attributes := #[] }
def k11m2 : Method := { name := "length", desc := "()I", sig := { parameters := [], returnType := some .int }, accessFlags := 1, code := some k11c2 }
def k11c3 : Code := { maxStack := 4, maxLocals := 3, code := jdk_68_method_9_code, exceptionTable := #[], attributes := #[] }
def k11m3 : Method := { name := "ensureCapacityInternal", desc := "(I)V", sig := { parameters := [.int], returnType := none }, accessFlags := 2, code := some k11c3 }
def k11c4 : Code := { maxStack := 3, maxLocals := 3, code := jdk_68_method_22_code, exceptionTable := #[], attributes := #[] }
def k11m4 : Method := { name := "append", desc := "(Ljava/lang/String;)Ljava/lang/AbstractStringBuilder;", sig := { parameters := [(.object "java/lang/String")], returnType := some (.object "java/lang/AbstractStringBuilder") }, accessFlags := 1, code := some k11c4 }
def k11c5 : Code := { maxStack := 1, maxLocals := 1, code := jdk_68_method_64_code, exceptionTable := #[], attributes := #[] }
def k11m5 : Method := { name := "getValue", desc := "()[B", sig := { parameters := [], returnType := some (.array .byte) }, accessFlags := 16, code := some k11c5 }
def k11c6 : Code := { maxStack := 1, maxLocals := 1, code := jdk_68_method_68_code, exceptionTable := #[], attributes := #[] }
def k11m6 : Method := { name := "isLatin1", desc := "()Z", sig := { parameters := [], returnType := some .boolean }, accessFlags := 16, code := some k11c6 }
def k11c7 : Code := { maxStack := 2, maxLocals := 2, code := jdk_68_method_71_code, exceptionTable := #[], attributes := #[] }
def k11m7 : Method := { name := "inflateIfNeededFor", desc := "(Ljava/lang/String;)V", sig := { parameters := [(.object "java/lang/String")], returnType := none }, accessFlags := 2, code := some k11c7 }
def k11c8 : Code := { maxStack := 4, maxLocals := 3, code := jdk_68_method_73_code, exceptionTable := #[], attributes := #[] }
def k11m8 : Method := { name := "putStringAt", desc := "(ILjava/lang/String;)V", sig := { parameters := [.int, (.object "java/lang/String")], returnType := none }, accessFlags := 2, code := some k11c8 }
/-- java/lang/AbstractStringBuilder -/
def k11 : Class := { plain "java/lang/AbstractStringBuilder" (some 0) with
  accessFlags := 1056
  interfaces := #[10, 4]
  cf := some (fileOf pool11 10 #[] #[{ accessFlags := 0, nameIndex := 7, descriptorIndex := 8, attributes := #[] }, { accessFlags := 0, nameIndex := 7, descriptorIndex := 103, attributes := #[] }, { accessFlags := 1, nameIndex := 34, descriptorIndex := 35, attributes := #[] }, { accessFlags := 2, nameIndex := 102, descriptorIndex := 103, attributes := #[] }, { accessFlags := 1, nameIndex := 45, descriptorIndex := 46, attributes := #[] }, { accessFlags := 16, nameIndex := 552, descriptorIndex := 403, attributes := #[] }, { accessFlags := 16, nameIndex := 85, descriptorIndex := 86, attributes := #[] }, { accessFlags := 2, nameIndex := 217, descriptorIndex := 69, attributes := #[] }, { accessFlags := 2, nameIndex := 210, descriptorIndex := 211, attributes := #[] }] 1056 4 #[444, 48] #[{ accessFlags := 0, nameIndex := 17, descriptorIndex := 14, attributes := #[] }, { accessFlags := 0, nameIndex := 24, descriptorIndex := 25, attributes := #[] }, { accessFlags := 0, nameIndex := 75, descriptorIndex := 21, attributes := #[] }, { accessFlags := 0, nameIndex := 81, descriptorIndex := 82, attributes := #[] }, { accessFlags := 26, nameIndex := 13, descriptorIndex := 14, attributes := #[] }])
  fields := #[{ name := "value", type := (.array .byte), accessFlags := 0, slot := 0, constantValue := 0 }, { name := "coder", type := .byte, accessFlags := 0, slot := 1, constantValue := 0 }, { name := "maybeLatin1", type := .boolean, accessFlags := 0, slot := 2, constantValue := 0 }, { name := "count", type := .int, accessFlags := 0, slot := 3, constantValue := 0 }, { name := "EMPTYVALUE", type := (.array .byte), accessFlags := 26, slot := 0, constantValue := 0 }]
  methods := #[k11m0, k11m1, k11m2, k11m3, k11m4, k11m5, k11m6, k11m7, k11m8]
  instanceTypes := #[(.array .byte), .byte, .boolean, .int]
  staticTypes := #[(.array .byte)]
  resolved := Array.replicate 609 none
  statics := none }

def pool12 : Array CpInfo := pool [(1, .methodref 2 3), (0, .class_ 4), (0, .nameAndType 5 6), (0, u "java/lang/AbstractStringBuilder"), (0, u "<init>"), (0, u "(I)V"), (11, .class_ 20), (1, u "java/lang/String"), (3, .class_ 26), (1, u "java/lang/StringBuilder"), (0, u "append"), (0, u "(Ljava/lang/String;)Ljava/lang/StringBuilder;"), (0, .methodref 2 30), (0, .nameAndType 27 31), (0, u "(Ljava/lang/String;)Ljava/lang/AbstractStringBuilder;"), (105, .methodref 18 138), (0, .nameAndType 5 139), (0, u "(Ljava/lang/StringBuilder;)V"), (5, u "()V"), (10, u "()I"), (186, .methodref 2 344), (0, .nameAndType 345 156), (0, u "length"), (3, .class_ 350), (0, u "java/lang/Appendable"), (0, .class_ 352), (0, u "java/io/Serializable"), (0, .class_ 354), (0, u "java/lang/Comparable"), (0, .class_ 356), (0, u "java/lang/CharSequence"), (0, u "serialVersionUID"), (0, u "J"), (40, u "toString"), (0, u "()Ljava/lang/String;")] 21

def k12c0 : Code := { maxStack := 2, maxLocals := 1, code := jdk_67_method_1_code, exceptionTable := #[], attributes := #[] }
def k12m0 : Method := { name := "<init>", desc := "()V", sig := { parameters := [], returnType := none }, accessFlags := 1, code := some k12c0 }
def k12c1 : Code := { maxStack := 2, maxLocals := 2, code := jdk_67_method_7_code, exceptionTable := #[], attributes := #[] }
def k12m1 : Method := { name := "append", desc := "(Ljava/lang/String;)Ljava/lang/StringBuilder;", sig := { parameters := [(.object "java/lang/String")], returnType := some (.object "java/lang/StringBuilder") }, accessFlags := 1, code := some k12c1 }
def k12c2 : Code := { maxStack := 3, maxLocals := 1, code := jdk_67_method_42_code, exceptionTable := #[], attributes := #[] }
def k12m2 : Method := { name := "toString", desc := "()Ljava/lang/String;", sig := { parameters := [], returnType := some (.object "java/lang/String") }, accessFlags := 1, code := some k12c2 }
def k12c3 : Code := { maxStack := 1, maxLocals := 1, code := jdk_67_method_93_code, exceptionTable := #[], attributes := #[] }
def k12m3 : Method := { name := "length", desc := "()I", sig := { parameters := [], returnType := some .int }, accessFlags := 4161, code := some k12c3 }
/-- java/lang/StringBuilder -/
def k12 : Class := { plain "java/lang/StringBuilder" (some 11) with
  accessFlags := 49
  interfaces := #[10, 2, 3, 4]
  cf := some (fileOf pool12 24 #[] #[{ accessFlags := 1, nameIndex := 5, descriptorIndex := 145, attributes := #[] }, { accessFlags := 1, nameIndex := 27, descriptorIndex := 28, attributes := #[] }, { accessFlags := 1, nameIndex := 399, descriptorIndex := 400, attributes := #[] }, { accessFlags := 4161, nameIndex := 345, descriptorIndex := 156, attributes := #[] }] 49 2 #[349, 351, 353, 355] #[{ accessFlags := 24, nameIndex := 357, descriptorIndex := 358, attributes := #[] }])
  fields := #[{ name := "serialVersionUID", type := .long, accessFlags := 24, slot := 0, constantValue := 0 }]
  methods := #[k12m0, k12m1, k12m2, k12m3]
  instanceTypes := #[(.array .byte), .byte, .boolean, .int]
  staticTypes := #[.long]
  resolved := Array.replicate 422 none
  statics := none }

def pool13 : Array CpInfo := pool [(2, .class_ 4), (1, u "java/lang/Object"), (0, u "<init>"), (0, u "()V"), (1, .class_ 10), (1, u "java/lang/System"), (0, u "allowSecurityManager"), (0, u "I"), (16, u "cons"), (0, u "Ljava/io/Console;"), (77, .class_ 110), (1, u "java/lang/System$CallersHolder"), (43, u "initialErrStream"), (0, u "Ljava/io/PrintStream;"), (19, u "security"), (0, u "Ljava/lang/SecurityManager;"), (31, .class_ 209), (0, u "java/lang/System$1"), (7, u "props"), (0, u "Ljava/util/Properties;"), (2, u "lineSeparator"), (0, u "Ljava/lang/String;"), (96, .class_ 321), (1, u "java/lang/System$LoggerFinder"), (5, .class_ 328), (0, u "java/lang/System$Logger"), (67, u "err"), (2, u "out"), (91, u "notSupportedJnuEncoding"), (15, u "in"), (17, u "initialIn"), (0, u "Ljava/io/InputStream;"), (35, u "bootLayer"), (0, u "Ljava/lang/ModuleLayer;"), (99, .class_ 664), (0, u "java/lang/System$2"), (9, u "NEVER"), (2, u "MAYBE"), (49, u "arraycopy"), (0, u "(Ljava/lang/Object;ILjava/lang/Object;II)V"), (72, .class_ 802), (0, u "java/lang/System$Logger$Level")] 31

def k13m0 : Method := { name := "<init>", desc := "()V", sig := { parameters := [], returnType := none }, accessFlags := 2, code := none }
def k13m1 : Method := { name := "arraycopy", desc := "(Ljava/lang/Object;ILjava/lang/Object;II)V", sig := { parameters := [(.object "java/lang/Object"), .int, (.object "java/lang/Object"), .int, .int], returnType := none }, accessFlags := 265, code := none }
/-- java/lang/System -/
def k13 : Class := { plain "java/lang/System" (some 0) with
  accessFlags := 49
  interfaces := #[]
  cf := some (fileOf pool13 8 #[.nestMembers #[319, 327, 801, 108, 663, 208]] #[{ accessFlags := 2, nameIndex := 5, descriptorIndex := 6, attributes := #[] }, { accessFlags := 265, nameIndex := 727, descriptorIndex := 728, attributes := #[] }] 49 2 #[] #[{ accessFlags := 25, nameIndex := 507, descriptorIndex := 526, attributes := #[] }, { accessFlags := 25, nameIndex := 399, descriptorIndex := 155, attributes := #[] }, { accessFlags := 25, nameIndex := 396, descriptorIndex := 155, attributes := #[] }, { accessFlags := 10, nameIndex := 525, descriptorIndex := 526, attributes := #[] }, { accessFlags := 26, nameIndex := 674, descriptorIndex := 12, attributes := #[] }, { accessFlags := 26, nameIndex := 677, descriptorIndex := 12, attributes := #[] }, { accessFlags := 10, nameIndex := 11, descriptorIndex := 12, attributes := #[] }, { accessFlags := 74, nameIndex := 175, descriptorIndex := 176, attributes := #[] }, { accessFlags := 10, nameIndex := 491, descriptorIndex := 222, attributes := #[] }, { accessFlags := 74, nameIndex := 29, descriptorIndex := 30, attributes := #[] }, { accessFlags := 74, nameIndex := 154, descriptorIndex := 155, attributes := #[] }, { accessFlags := 10, nameIndex := 217, descriptorIndex := 218, attributes := #[] }, { accessFlags := 10, nameIndex := 221, descriptorIndex := 222, attributes := #[] }, { accessFlags := 8, nameIndex := 562, descriptorIndex := 563, attributes := #[] }])
  fields := #[{ name := "in", type := (.object "java/io/InputStream"), accessFlags := 25, slot := 0, constantValue := 0 }, { name := "out", type := (.object "java/io/PrintStream"), accessFlags := 25, slot := 1, constantValue := 0 }, { name := "err", type := (.object "java/io/PrintStream"), accessFlags := 25, slot := 2, constantValue := 0 }, { name := "initialIn", type := (.object "java/io/InputStream"), accessFlags := 10, slot := 3, constantValue := 0 }, { name := "NEVER", type := .int, accessFlags := 26, slot := 4, constantValue := 0 }, { name := "MAYBE", type := .int, accessFlags := 26, slot := 5, constantValue := 0 }, { name := "allowSecurityManager", type := .int, accessFlags := 10, slot := 6, constantValue := 0 }, { name := "security", type := (.object "java/lang/SecurityManager"), accessFlags := 74, slot := 7, constantValue := 0 }, { name := "notSupportedJnuEncoding", type := (.object "java/lang/String"), accessFlags := 10, slot := 8, constantValue := 0 }, { name := "cons", type := (.object "java/io/Console"), accessFlags := 74, slot := 9, constantValue := 0 }, { name := "initialErrStream", type := (.object "java/io/PrintStream"), accessFlags := 74, slot := 10, constantValue := 0 }, { name := "props", type := (.object "java/util/Properties"), accessFlags := 10, slot := 11, constantValue := 0 }, { name := "lineSeparator", type := (.object "java/lang/String"), accessFlags := 10, slot := 12, constantValue := 0 }, { name := "bootLayer", type := (.object "java/lang/ModuleLayer"), accessFlags := 8, slot := 13, constantValue := 0 }]
  methods := #[k13m0, k13m1]
  instanceTypes := #[]
  staticTypes := #[(.object "java/io/InputStream"), (.object "java/io/PrintStream"), (.object "java/io/PrintStream"), (.object "java/io/InputStream"), .int, .int, .int, (.object "java/lang/SecurityManager"), (.object "java/lang/String"), (.object "java/io/Console"), (.object "java/io/PrintStream"), (.object "java/util/Properties"), (.object "java/lang/String"), (.object "java/lang/ModuleLayer")]
  resolved := Array.replicate 834 none
  statics := none }

def pool14 : Array CpInfo := pool [(2, .class_ 4), (1, u "java/lang/Object"), (0, u "<init>"), (0, u "()V"), (7, .class_ 16), (1, u "java/util/Arrays"), (57, .class_ 76), (1, u "java/util/Arrays$NaturalOrder"), (36, .class_ 115), (1, u "java/util/Arrays$LegacyMergeSort"), (1, u "Z"), (21, u "copyOfRange"), (10, .methodref 151 152), (0, .class_ 153), (0, .nameAndType 154 155), (0, u "java/lang/System"), (0, u "arraycopy"), (0, u "(Ljava/lang/Object;ILjava/lang/Object;II)V"), (148, .methodref 305 306), (0, .class_ 307), (0, .nameAndType 308 309), (0, u "java/lang/Math"), (0, u "min"), (0, u "(II)I"), (29, .methodref 14 340), (0, .nameAndType 341 342), (0, u "copyOfRangeByte"), (0, u "([BII)[B"), (0, .methodref 14 344), (0, .nameAndType 345 346), (0, u "checkLength"), (0, u "(II)V"), (28, .class_ 376), (0, u "java/util/Arrays$ArrayList"), (68, u "$assertionsDisabled"), (269, u "MIN_ARRAY_SORT_GRAN"), (0, u "I"), (2, u "INSERTIONSORT_THRESHOLD"), (255, .class_ 976), (0, u "java/util/Arrays$ArrayItr")] 52

def k14m0 : Method := { name := "<init>", desc := "()V", sig := { parameters := [], returnType := none }, accessFlags := 2, code := none }
def k14c1 : Code := { maxStack := 4, maxLocals := 2, code := jdk_65_method_131_code, exceptionTable := #[], attributes := #[] }
def k14m1 : Method := { name := "checkLength", desc := "(II)V", sig := { parameters := [.int, .int], returnType := none }, accessFlags := 10, code := some k14c1 }
def k14c2 : Code := { maxStack := 3, maxLocals := 3, code := jdk_65_method_132_code, exceptionTable := #[], attributes := #[] }
def k14m2 : Method := { name := "copyOfRange", desc := "([BII)[B", sig := { parameters := [(.array .byte), .int, .int], returnType := some (.array .byte) }, accessFlags := 9, code := some k14c2 }
def k14c3 : Code := { maxStack := 6, maxLocals := 5, code := jdk_65_method_133_code, exceptionTable := #[], attributes := #[] }
def k14m3 : Method := { name := "copyOfRangeByte", desc := "([BII)[B", sig := { parameters := [(.array .byte), .int, .int], returnType := some (.array .byte) }, accessFlags := 10, code := some k14c3 }
/-- java/util/Arrays -/
def k14 : Class := { plain "java/util/Arrays" (some 0) with
  accessFlags := 49
  interfaces := #[]
  cf := some (fileOf pool14 14 #[.nestMembers #[975, 375, 113, 74]] #[{ accessFlags := 2, nameIndex := 5, descriptorIndex := 6, attributes := #[] }, { accessFlags := 10, nameIndex := 345, descriptorIndex := 346, attributes := #[] }, { accessFlags := 9, nameIndex := 139, descriptorIndex := 342, attributes := #[] }, { accessFlags := 10, nameIndex := 341, descriptorIndex := 342, attributes := #[] }] 49 2 #[] #[{ accessFlags := 26, nameIndex := 715, descriptorIndex := 716, attributes := #[] }, { accessFlags := 26, nameIndex := 719, descriptorIndex := 716, attributes := #[] }, { accessFlags := 4120, nameIndex := 445, descriptorIndex := 117, attributes := #[] }])
  fields := #[{ name := "MIN_ARRAY_SORT_GRAN", type := .int, accessFlags := 26, slot := 0, constantValue := 0 }, { name := "INSERTIONSORT_THRESHOLD", type := .int, accessFlags := 26, slot := 1, constantValue := 0 }, { name := "$assertionsDisabled", type := .boolean, accessFlags := 4120, slot := 2, constantValue := 0 }]
  methods := #[k14m0, k14m1, k14m2, k14m3]
  instanceTypes := #[]
  staticTypes := #[.int, .int, .boolean]
  resolved := Array.replicate 1029 none
  statics := none }

def pool15 : Array CpInfo := pool [(1, .class_ 2), (0, u "java/lang/Math"), (1, .class_ 6), (1, u "java/lang/Object"), (0, u "<init>"), (0, u "()V"), (89, .class_ 100), (1, u "java/lang/Math$RandomNumberGeneratorHolder"), (71, u "negativeZeroFloatBits"), (0, u "J"), (2, u "negativeZeroDoubleBits"), (24, u "min"), (43, u "$assertionsDisabled"), (0, u "Z"), (88, u "(II)I"), (2, u "twoToTheDoubleScaleDown"), (0, u "D"), (4, u "twoToTheDoubleScaleUp"), (9, u "E"), (3, u "PI"), (2, u "TAU"), (2, u "DEGREES_TO_RADIANS"), (0, u "RADIANS_TO_DEGREES")] 94

def k15m0 : Method := { name := "<init>", desc := "()V", sig := { parameters := [], returnType := none }, accessFlags := 2, code := none }
def k15c1 : Code := { maxStack := 2, maxLocals := 2, code := jdk_29_method_69_code, exceptionTable := #[], attributes := #[] }
def k15m1 : Method := { name := "min", desc := "(II)I", sig := { parameters := [.int, .int], returnType := some .int }, accessFlags := 9, code := some k15c1 }
/-- java/lang/Math -/
def k15 : Class := { plain "java/lang/Math" (some 0) with
  accessFlags := 49
  interfaces := #[]
  cf := some (fileOf pool15 1 #[.nestMembers #[98]] #[{ accessFlags := 2, nameIndex := 7, descriptorIndex := 8, attributes := #[] }, { accessFlags := 9, nameIndex := 201, descriptorIndex := 335, attributes := #[] }] 49 4 #[] #[{ accessFlags := 25, nameIndex := 354, descriptorIndex := 339, attributes := #[] }, { accessFlags := 25, nameIndex := 358, descriptorIndex := 339, attributes := #[] }, { accessFlags := 25, nameIndex := 361, descriptorIndex := 339, attributes := #[] }, { accessFlags := 26, nameIndex := 364, descriptorIndex := 339, attributes := #[] }, { accessFlags := 26, nameIndex := 365, descriptorIndex := 339, attributes := #[] }, { accessFlags := 26, nameIndex := 172, descriptorIndex := 173, attributes := #[] }, { accessFlags := 26, nameIndex := 176, descriptorIndex := 173, attributes := #[] }, { accessFlags := 8, nameIndex := 344, descriptorIndex := 339, attributes := #[] }, { accessFlags := 8, nameIndex := 338, descriptorIndex := 339, attributes := #[] }, { accessFlags := 4120, nameIndex := 245, descriptorIndex := 246, attributes := #[] }])
  fields := #[{ name := "E", type := .double, accessFlags := 25, slot := 0, constantValue := 0 }, { name := "PI", type := .double, accessFlags := 25, slot := 1, constantValue := 0 }, { name := "TAU", type := .double, accessFlags := 25, slot := 2, constantValue := 0 }, { name := "DEGREES_TO_RADIANS", type := .double, accessFlags := 26, slot := 3, constantValue := 0 }, { name := "RADIANS_TO_DEGREES", type := .double, accessFlags := 26, slot := 4, constantValue := 0 }, { name := "negativeZeroFloatBits", type := .long, accessFlags := 26, slot := 5, constantValue := 0 }, { name := "negativeZeroDoubleBits", type := .long, accessFlags := 26, slot := 6, constantValue := 0 }, { name := "twoToTheDoubleScaleUp", type := .double, accessFlags := 8, slot := 7, constantValue := 0 }, { name := "twoToTheDoubleScaleDown", type := .double, accessFlags := 8, slot := 8, constantValue := 0 }, { name := "$assertionsDisabled", type := .boolean, accessFlags := 4120, slot := 9, constantValue := 0 }]
  methods := #[k15m0, k15m1]
  instanceTypes := #[]
  staticTypes := #[.double, .double, .double, .double, .double, .long, .long, .double, .double, .boolean]
  resolved := Array.replicate 460 none
  statics := none }

def pool16 : Array CpInfo := pool [(1, .class_ 2), (0, u "java/lang/String"), (1, .class_ 6), (1, u "java/lang/Object"), (0, u "<init>"), (0, u "()V"), (0, .methodref 1 10), (0, .nameAndType 11 12), (0, u "checkIndex"), (0, u "(II)V"), (1, .class_ 16), (1, u "java/lang/StringLatin1"), (36, u "([BI)C"), (36, u "canEncode"), (14, u "(C)Z"), (15, u "$assertionsDisabled"), (0, u "Z"), (98, .class_ 223), (1, u "java/lang/StringLatin1$LinesSpliterator"), (28, u "charAt"), (127, u "toBytes"), (1, u "(C)[B"), (7, .class_ 391), (0, u "java/lang/StringLatin1$CharsSpliterator")] 3

def k16m0 : Method := { name := "<init>", desc := "()V", sig := { parameters := [], returnType := none }, accessFlags := 0, code := none }
def k16c1 : Code := { maxStack := 2, maxLocals := 2, code := jdk_43_method_2_code, exceptionTable := #[], attributes := #[] }
def k16m1 : Method := { name := "charAt", desc := "([BI)C", sig := { parameters := [(.array .byte), .int], returnType := some .char }, accessFlags := 9, code := some k16c1 }
def k16c2 : Code := { maxStack := 2, maxLocals := 1, code := jdk_43_method_3_code, exceptionTable := #[], attributes := #[] }
def k16m2 : Method := { name := "canEncode", desc := "(C)Z", sig := { parameters := [.char], returnType := some .boolean }, accessFlags := 9, code := some k16c2 }
def k16c3 : Code := { maxStack := 4, maxLocals := 1, code := jdk_43_method_46_code, exceptionTable := #[], attributes := #[] }
def k16m3 : Method := { name := "toBytes", desc := "(C)[B", sig := { parameters := [.char], returnType := some (.array .byte) }, accessFlags := 9, code := some k16c3 }
/-- java/lang/StringLatin1 -/
def k16 : Class := { plain "java/lang/StringLatin1" (some 0) with
  accessFlags := 48
  interfaces := #[]
  cf := some (fileOf pool16 14 #[.nestMembers #[390, 221]] #[{ accessFlags := 0, nameIndex := 7, descriptorIndex := 8, attributes := #[] }, { accessFlags := 9, nameIndex := 252, descriptorIndex := 53, attributes := #[] }, { accessFlags := 9, nameIndex := 90, descriptorIndex := 105, attributes := #[] }, { accessFlags := 9, nameIndex := 380, descriptorIndex := 382, attributes := #[] }] 48 4 #[] #[{ accessFlags := 4120, nameIndex := 121, descriptorIndex := 122, attributes := #[] }])
  fields := #[{ name := "$assertionsDisabled", type := .boolean, accessFlags := 4120, slot := 0, constantValue := 0 }]
  methods := #[k16m0, k16m1, k16m2, k16m3]
  instanceTypes := #[]
  staticTypes := #[.boolean]
  resolved := Array.replicate 395 none
  statics := none }

def pool17 : Array CpInfo := pool [(2, .class_ 4), (1, u "java/lang/Object"), (0, u "<init>"), (0, u "()V"), (17, .class_ 26), (1, u "jdk/internal/util/Preconditions"), (6, u "checkIndex"), (21, .class_ 56), (0, u "jdk/internal/util/Preconditions$4"), (57, .class_ 115), (0, u "jdk/internal/util/Preconditions$1"), (7, u "SIOOBE_FORMATTER"), (0, u "Ljava/util/function/BiFunction;"), (0, .class_ 126), (0, u "jdk/internal/util/Preconditions$2"), (3, u "AIOOBE_FORMATTER"), (0, .class_ 132), (0, u "jdk/internal/util/Preconditions$3"), (3, u "IOOBE_FORMATTER"), (41, u "(IILjava/util/function/BiFunction;)I")] 15

def k17m0 : Method := { name := "<init>", desc := "()V", sig := { parameters := [], returnType := none }, accessFlags := 1, code := none }
def k17c1 : Code := { maxStack := 3, maxLocals := 3, code := jdk_41_method_11_code, exceptionTable := #[], attributes := #[] }
def k17m1 : Method := { name := "checkIndex", desc := "(IILjava/util/function/BiFunction;)I", sig := { parameters := [.int, .int, (.object "java/util/function/BiFunction")], returnType := some .int }, accessFlags := 9, code := some k17c1 }
/-- jdk/internal/util/Preconditions -/
def k17 : Class := { plain "jdk/internal/util/Preconditions" (some 0) with
  accessFlags := 33
  interfaces := #[]
  cf := some (fileOf pool17 24 #[.nestMembers #[55, 131, 125, 114]] #[{ accessFlags := 1, nameIndex := 5, descriptorIndex := 6, attributes := #[] }, { accessFlags := 9, nameIndex := 33, descriptorIndex := 178, attributes := #[] }] 33 2 #[] #[{ accessFlags := 25, nameIndex := 123, descriptorIndex := 124, attributes := #[] }, { accessFlags := 25, nameIndex := 130, descriptorIndex := 124, attributes := #[] }, { accessFlags := 25, nameIndex := 136, descriptorIndex := 124, attributes := #[] }])
  fields := #[{ name := "SIOOBE_FORMATTER", type := (.object "java/util/function/BiFunction"), accessFlags := 25, slot := 0, constantValue := 0 }, { name := "AIOOBE_FORMATTER", type := (.object "java/util/function/BiFunction"), accessFlags := 25, slot := 1, constantValue := 0 }, { name := "IOOBE_FORMATTER", type := (.object "java/util/function/BiFunction"), accessFlags := 25, slot := 2, constantValue := 0 }]
  methods := #[k17m0, k17m1]
  instanceTypes := #[]
  staticTypes := #[(.object "java/util/function/BiFunction"), (.object "java/util/function/BiFunction"), (.object "java/util/function/BiFunction")]
  resolved := Array.replicate 194 none
  statics := some 1 }

def pool18 : Array CpInfo := pool [(6, .class_ 8), (1, u "java/lang/Object"), (0, u "<init>"), (0, u "()V"), (1, .class_ 14), (1, u "java/lang/StringUTF16"), (31, u "$assertionsDisabled"), (0, u "Z"), (13, u "HI_BYTE_SHIFT"), (0, u "I"), (2, u "LO_BYTE_SHIFT"), (49, .methodref 12 116), (0, .nameAndType 117 118), (0, u "compress"), (0, u "([CI[BII)I"), (3, u "([CII)[B"), (138, u "coderFromArrayLen"), (0, u "([BI)B"), (106, .class_ 371), (1, u "java/lang/StringUTF16$LinesSpliterator"), (58, u "MAX_LENGTH"), (196, .class_ 628), (0, u "java/lang/StringUTF16$CodePointsSpliterator"), (0, .class_ 630), (0, u "java/lang/StringUTF16$CharsSpliterator")] 4

def k18m0 : Method := { name := "<init>", desc := "()V", sig := { parameters := [], returnType := none }, accessFlags := 0, code := none }
def k18c1 : Code := { maxStack := 2, maxLocals := 2, code := jdk_52_method_15_code, exceptionTable := #[], attributes := #[] }
def k18m1 : Method := { name := "coderFromArrayLen", desc := "([BI)B", sig := { parameters := [(.array .byte), .int], returnType := some .byte }, accessFlags := 8, code := some k18c1 }
def k18c2 : Code := { maxStack := 5, maxLocals := 6, code := jdk_52_method_16_code, exceptionTable := #[], attributes := #[] }
def k18m2 : Method := { name := "compress", desc := "([CII)[B", sig := { parameters := [(.array .char), .int, .int], returnType := some (.array .byte) }, accessFlags := 9, code := some k18c2 }
def k18c3 : Code := { maxStack := 3, maxLocals := 7, code := jdk_52_method_21_code, exceptionTable := #[], attributes := #[] }
def k18m3 : Method := { name := "compress", desc := "([CI[BII)I", sig := { parameters := [(.array .char), .int, (.array .byte), .int, .int], returnType := some .int }, accessFlags := 9, code := some k18c3 }
/-- java/lang/StringUTF16 -/
def k18 : Class := { plain "java/lang/StringUTF16" (some 0) with
  accessFlags := 48
  interfaces := #[]
  cf := some (fileOf pool18 12 #[.nestMembers #[627, 629, 369]] #[{ accessFlags := 0, nameIndex := 9, descriptorIndex := 10, attributes := #[] }, { accessFlags := 8, nameIndex := 261, descriptorIndex := 262, attributes := #[] }, { accessFlags := 9, nameIndex := 117, descriptorIndex := 122, attributes := #[] }, { accessFlags := 9, nameIndex := 117, descriptorIndex := 118, attributes := #[] }] 48 6 #[] #[{ accessFlags := 26, nameIndex := 61, descriptorIndex := 62, attributes := #[] }, { accessFlags := 26, nameIndex := 65, descriptorIndex := 62, attributes := #[] }, { accessFlags := 24, nameIndex := 430, descriptorIndex := 62, attributes := #[] }, { accessFlags := 4120, nameIndex := 46, descriptorIndex := 47, attributes := #[] }])
  fields := #[{ name := "HI_BYTE_SHIFT", type := .int, accessFlags := 26, slot := 0, constantValue := 0 }, { name := "LO_BYTE_SHIFT", type := .int, accessFlags := 26, slot := 1, constantValue := 0 }, { name := "MAX_LENGTH", type := .int, accessFlags := 24, slot := 2, constantValue := 0 }, { name := "$assertionsDisabled", type := .boolean, accessFlags := 4120, slot := 3, constantValue := 0 }]
  methods := #[k18m0, k18m1, k18m2, k18m3]
  instanceTypes := #[]
  staticTypes := #[.int, .int, .int, .boolean]
  resolved := Array.replicate 635 none
  statics := none }

def pool19 : Array CpInfo := pool [(9, u "<init>"), (6, .class_ 18), (1, u "java/lang/Object"), (0, u "()V"), (1, .class_ 23), (1, u "jdk/internal/util/ArraysSupport"), (0, u "LOG2_ARRAY_LONG_INDEX_SCALE"), (0, u "I"), (2, u "U"), (0, u "Ljdk/internal/misc/Unsafe;"), (8, u "BIG_ENDIAN"), (0, u "Z"), (8, u "LOG2_BYTE_BIT_SIZE"), (4, u "LOG2_ARRAY_INT_INDEX_SCALE"), (54, u "JLA"), (0, u "Ljdk/internal/access/JavaLangAccess;"), (11, u "LOG2_ARRAY_BOOLEAN_INDEX_SCALE"), (9, u "LOG2_ARRAY_BYTE_INDEX_SCALE"), (5, u "LOG2_ARRAY_CHAR_INDEX_SCALE"), (5, u "LOG2_ARRAY_SHORT_INDEX_SCALE"), (18, u "LOG2_ARRAY_FLOAT_INDEX_SCALE"), (24, u "LOG2_ARRAY_DOUBLE_INDEX_SCALE"), (89, u "T_BOOLEAN"), (2, u "T_CHAR"), (1, u "T_FLOAT"), (1, u "T_DOUBLE"), (1, u "T_BYTE"), (1, u "T_SHORT"), (1, u "T_INT"), (1, u "T_LONG"), (1, u "SOFT_MAX_ARRAY_LENGTH")] 83

def k19m0 : Method := { name := "<init>", desc := "()V", sig := { parameters := [], returnType := none }, accessFlags := 2, code := none }
/-- jdk/internal/util/ArraysSupport -/
def k19 : Class := { plain "jdk/internal/util/ArraysSupport" (some 0) with
  accessFlags := 33
  interfaces := #[]
  cf := some (fileOf pool19 21 #[] #[{ accessFlags := 2, nameIndex := 9, descriptorIndex := 19, attributes := #[] }] 33 16 #[] #[{ accessFlags := 24, nameIndex := 28, descriptorIndex := 29, attributes := #[] }, { accessFlags := 26, nameIndex := 38, descriptorIndex := 39, attributes := #[] }, { accessFlags := 25, nameIndex := 121, descriptorIndex := 25, attributes := #[] }, { accessFlags := 25, nameIndex := 131, descriptorIndex := 25, attributes := #[] }, { accessFlags := 25, nameIndex := 137, descriptorIndex := 25, attributes := #[] }, { accessFlags := 25, nameIndex := 143, descriptorIndex := 25, attributes := #[] }, { accessFlags := 25, nameIndex := 53, descriptorIndex := 25, attributes := #[] }, { accessFlags := 25, nameIndex := 24, descriptorIndex := 25, attributes := #[] }, { accessFlags := 25, nameIndex := 162, descriptorIndex := 25, attributes := #[] }, { accessFlags := 25, nameIndex := 187, descriptorIndex := 25, attributes := #[] }, { accessFlags := 26, nameIndex := 48, descriptorIndex := 25, attributes := #[] }, { accessFlags := 25, nameIndex := 277, descriptorIndex := 25, attributes := #[] }, { accessFlags := 25, nameIndex := 280, descriptorIndex := 25, attributes := #[] }, { accessFlags := 25, nameIndex := 282, descriptorIndex := 25, attributes := #[] }, { accessFlags := 25, nameIndex := 284, descriptorIndex := 25, attributes := #[] }, { accessFlags := 25, nameIndex := 286, descriptorIndex := 25, attributes := #[] }, { accessFlags := 25, nameIndex := 288, descriptorIndex := 25, attributes := #[] }, { accessFlags := 25, nameIndex := 290, descriptorIndex := 25, attributes := #[] }, { accessFlags := 25, nameIndex := 292, descriptorIndex := 25, attributes := #[] }, { accessFlags := 26, nameIndex := 108, descriptorIndex := 109, attributes := #[] }, { accessFlags := 25, nameIndex := 294, descriptorIndex := 25, attributes := #[] }])
  fields := #[{ name := "U", type := (.object "jdk/internal/misc/Unsafe"), accessFlags := 24, slot := 0, constantValue := 0 }, { name := "BIG_ENDIAN", type := .boolean, accessFlags := 26, slot := 1, constantValue := 0 }, { name := "LOG2_ARRAY_BOOLEAN_INDEX_SCALE", type := .int, accessFlags := 25, slot := 2, constantValue := 0 }, { name := "LOG2_ARRAY_BYTE_INDEX_SCALE", type := .int, accessFlags := 25, slot := 3, constantValue := 0 }, { name := "LOG2_ARRAY_CHAR_INDEX_SCALE", type := .int, accessFlags := 25, slot := 4, constantValue := 0 }, { name := "LOG2_ARRAY_SHORT_INDEX_SCALE", type := .int, accessFlags := 25, slot := 5, constantValue := 0 }, { name := "LOG2_ARRAY_INT_INDEX_SCALE", type := .int, accessFlags := 25, slot := 6, constantValue := 0 }, { name := "LOG2_ARRAY_LONG_INDEX_SCALE", type := .int, accessFlags := 25, slot := 7, constantValue := 0 }, { name := "LOG2_ARRAY_FLOAT_INDEX_SCALE", type := .int, accessFlags := 25, slot := 8, constantValue := 0 }, { name := "LOG2_ARRAY_DOUBLE_INDEX_SCALE", type := .int, accessFlags := 25, slot := 9, constantValue := 0 }, { name := "LOG2_BYTE_BIT_SIZE", type := .int, accessFlags := 26, slot := 10, constantValue := 0 }, { name := "T_BOOLEAN", type := .int, accessFlags := 25, slot := 11, constantValue := 0 }, { name := "T_CHAR", type := .int, accessFlags := 25, slot := 12, constantValue := 0 }, { name := "T_FLOAT", type := .int, accessFlags := 25, slot := 13, constantValue := 0 }, { name := "T_DOUBLE", type := .int, accessFlags := 25, slot := 14, constantValue := 0 }, { name := "T_BYTE", type := .int, accessFlags := 25, slot := 15, constantValue := 0 }, { name := "T_SHORT", type := .int, accessFlags := 25, slot := 16, constantValue := 0 }, { name := "T_INT", type := .int, accessFlags := 25, slot := 17, constantValue := 0 }, { name := "T_LONG", type := .int, accessFlags := 25, slot := 18, constantValue := 0 }, { name := "JLA", type := (.object "jdk/internal/access/JavaLangAccess"), accessFlags := 26, slot := 19, constantValue := 0 }, { name := "SOFT_MAX_ARRAY_LENGTH", type := .int, accessFlags := 25, slot := 20, constantValue := 0 }]
  methods := #[k19m0]
  instanceTypes := #[]
  staticTypes := #[(.object "jdk/internal/misc/Unsafe"), .boolean, .int, .int, .int, .int, .int, .int, .int, .int, .int, .int, .int, .int, .int, .int, .int, .int, .int, (.object "jdk/internal/access/JavaLangAccess"), .int]
  resolved := Array.replicate 378 none
  statics := none }

def pool20 : Array CpInfo := pool [(1, u "java/lang/Cloneable"), (0, .class_ 1), (0, u "java/lang/Object"), (0, .class_ 3)] 3

/-- java/lang/Cloneable -/
def k20 : Class := { plain "java/lang/Cloneable" (some 0) with
  accessFlags := 1537
  interfaces := #[]
  cf := some (fileOf pool20 2 #[] #[] 1537 4 #[] #[])
  fields := #[]
  methods := #[]
  instanceTypes := #[]
  staticTypes := #[]
  resolved := Array.replicate 8 none
  statics := none }

/-- the primitive byte -/
def k21 : Class := { plain "byte" none with kind := .primitive 'B', accessFlags := 0x411 }
/-- [B -/
def k22 : Class := { plain "[B" (some 0) with kind := .array 21 .byte, interfaces := #[20, 2], accessFlags := 1041 }

/-- the primitive char -/
def k23 : Class := { plain "char" none with kind := .primitive 'C', accessFlags := 0x411 }
/-- [C -/
def k24 : Class := { plain "[C" (some 0) with kind := .array 23 .char, interfaces := #[20, 2], accessFlags := 1041 }

/-- the primitive int -/
def k25 : Class := { plain "int" none with kind := .primitive 'I', accessFlags := 0x411 }
/-- [I -/
def k26 : Class := { plain "[I" (some 0) with kind := .array 25 .int, interfaces := #[20, 2], accessFlags := 1041 }

def heap : Heap := #[{ cls := 7, slots := #[.long 0, .int 1, .null, .int 0, .null, .int 0, .int 0], vm := .statics 7 },
  { cls := 17, slots := #[.null, .null, .null], vm := .statics 17 }]
def classes : Array Class := #[k0, k1, k2, k3, k4, k5, k6, k7, k8, k9, k10, k11, k12, k13, k14, k15, k16, k17, k18, k19, k20, k21, k22, k23, k24, k25, k26]
def interned : List (Array UInt16 × Addr) := []
def slotsUsed : Nat := 10
def theMethod : MethodId := ⟨1, 1⟩
def args0 : Array Value := #[.int 5, .int 3, .int 7]
def aboutOver (below : List Frame) : State where
  vm := { classes := classes, interned := interned.toArray }
  heap := heap
  slotsUsed := slotsUsed
  threads := #[{ frames := .invoking theMethod args0 :: below }]
def below0 : List Frame := [.native { method := ⟨0, 0⟩, args := #[] }]
def about1 : State := aboutOver below0
def p0 : Program := .bare "" "" ""
def e0 : Env := launch0.env 0 0 0
theorem w_frames : about1.frames = Frame.invoking theMethod args0 :: below0 := rfl
set_option maxRecDepth 65536 in
theorem w_args : argsFit about1.vm theMethod args0 = true := by decide +kernel
set_option maxRecDepth 65536 in
theorem w_heap : heapFits about1 = true := by decide +kernel
set_option maxRecDepth 65536 in
theorem w_runnable : about1.curStatus? = some .runnable := by decide +kernel
set_option maxRecDepth 65536 in
theorem w_alone : about1.alone = true := by decide +kernel
set_option maxRecDepth 65536 in
theorem w_named : about1.methodNamed? x = some theMethod := by decide +kernel
set_option maxRecDepth 65536 in
theorem w_hears : about1.hears theMethod below0 = true := by decide +kernel
set_option maxRecDepth 65536 in
theorem w_ripe : about1.ripe theMethod args0 below0 = true := by decide +kernel
theorem w_running : about1.status = .running := rfl
set_option maxRecDepth 65536 in
theorem w_room : about1.hasRoom e0.platform room_1 = true :=
  launch0.hasRoom_least _ room_1 (by decide +kernel) (by decide +kernel) (by decide +kernel) (by decide +kernel) (by decide +kernel) (by decide +kernel)
theorem allAtoms_all (ts : List Jvm.Cond) (a : Array Jvm.Value) (st : Jvm.State) : (allAtoms ts).before a st = ts.all (fun c => c.before a st) := by
  induction ts with
  | nil => rfl
  | cons c t ih =>
    show (Jvm.Cond.and c (allAtoms t)).before a st = _
    rw [Jvm.Cond.before_and, ih, List.all_cons]
def words1 : List Jvm.Cond := Jvm.Cond.code x code maxLocals ret :: tables_1
/-- a 'code' word, met by the world's own term for the bytes: nothing is compared byte by byte -/
theorem code_word {y : MethodName} {bytes : ByteArray} {mx : Nat} {rt : Option FieldType} {a : Array Value} {s : State} {m : MethodId} {meth : Method} {c : Code} (h1 : s.methodNamed? y = some m) (h2 : s.vm.method? m = some meth) (h3 : meth.code = some c) (h4 : c.code = bytes)
    (h5 : (c.maxLocals == mx && c.exceptionTable.isEmpty && decide (c.maxStack ≤ mostOperands) && decide (meth.sig.returnType = rt) && !meth.locks && decide (parseMethodDescriptor y.desc = some meth.sig)) = true) : (Jvm.Cond.code y bytes mx rt).before a s = true := by
  simp only [Bool.and_eq_true, beq_iff_eq, Bool.not_eq_true', decide_eq_true_eq] at h5
  obtain ⟨⟨⟨⟨⟨g1, g2⟩, g3⟩, g4⟩, g5⟩, g6⟩ := h5
  simp [Cond.before, Cond.holds, Cond.value, h1, h2, h3, h4, g1, g2, g3, g4, g5, g6]
def isCode : Jvm.Cond → Bool
  | .code _ _ _ _ => true
  | _ => false
theorem all_split {L : List Jvm.Cond} {P : Jvm.Cond → Bool} (h1 : L.all (fun c => isCode c || P c) = true) (h2 : ∀ c ∈ L.filter isCode, P c = true) : L.all P = true := by
  refine List.all_eq_true.mpr fun c hc => ?_
  have h := List.all_eq_true.mp h1 c hc
  rcases Bool.eq_false_or_eq_true (isCode c) with hi | hi
  · exact h2 c (List.mem_filter.mpr ⟨hc, hi⟩)
  · simpa [hi] using h
set_option maxRecDepth 65536 in
theorem w_c0 : (Jvm.Cond.code x code maxLocals ret).before args0 about1 = true := code_word (m := ⟨1, 1⟩) (meth := k1m1) (c := k1c1) (by decide +kernel) rfl rfl rfl (by decide +kernel)
set_option maxRecDepth 65536 in
theorem w_c1 : (Jvm.Cond.code ({ cls := "com/example/spillback/spillback/io/SelectionToStringPinLaw", name := "draw", desc := "(I)Ljava/lang/String;" } : Jvm.MethodName) method_3_code (4 : Nat) (Option.some (Jvm.ClassFile.FieldType.object "java/lang/String"))).before args0 about1 = true := code_word (m := ⟨1, 2⟩) (meth := k1m2) (c := k1c2) (by decide +kernel) rfl rfl rfl (by decide +kernel)
set_option maxRecDepth 65536 in
theorem w_c2 : (Jvm.Cond.code ({ cls := "com/example/spillback/spillback/io/Config$Selection", name := "<init>", desc := "(Ljava/lang/String;Ljava/lang/String;Ljava/lang/String;)V" } : Jvm.MethodName) prog_42_method_1_code (4 : Nat) (Option.none : Option Jvm.ClassFile.FieldType)).before args0 about1 = true := code_word (m := ⟨9, 0⟩) (meth := k9m0) (c := k9c0) (by decide +kernel) rfl rfl rfl (by decide +kernel)
set_option maxRecDepth 65536 in
theorem w_c3 : (Jvm.Cond.code ({ cls := "java/lang/Record", name := "<init>", desc := "()V" } : Jvm.MethodName) jdk_30_method_1_code (1 : Nat) (Option.none : Option Jvm.ClassFile.FieldType)).before args0 about1 = true := code_word (m := ⟨8, 0⟩) (meth := k8m0) (c := k8c0) (by decide +kernel) rfl rfl rfl (by decide +kernel)
set_option maxRecDepth 65536 in
theorem w_c4 : (Jvm.Cond.code ({ cls := "java/lang/Object", name := "<init>", desc := "()V" } : Jvm.MethodName) object_method_1_code (1 : Nat) (Option.none : Option Jvm.ClassFile.FieldType)).before args0 about1 = true := code_word (m := ⟨0, 0⟩) (meth := k0m0) (c := k0c0) (by decide +kernel) rfl rfl rfl (by decide +kernel)
set_option maxRecDepth 65536 in
theorem w_c5 : (Jvm.Cond.code ({ cls := "com/example/spillback/spillback/io/Config$Selection", name := "toString", desc := "()Ljava/lang/String;" } : Jvm.MethodName) prog_42_method_2_code (1 : Nat) (Option.some (Jvm.ClassFile.FieldType.object "java/lang/String"))).before args0 about1 = true := code_word (m := ⟨9, 1⟩) (meth := k9m1) (c := k9c1) (by decide +kernel) rfl rfl rfl (by decide +kernel)
set_option maxRecDepth 65536 in
theorem w_c6 : (Jvm.Cond.code ({ cls := "java/lang/StringBuilder", name := "<init>", desc := "()V" } : Jvm.MethodName) jdk_67_method_1_code (1 : Nat) (Option.none : Option Jvm.ClassFile.FieldType)).before args0 about1 = true := code_word (m := ⟨12, 0⟩) (meth := k12m0) (c := k12c0) (by decide +kernel) rfl rfl rfl (by decide +kernel)
set_option maxRecDepth 65536 in
theorem w_c7 : (Jvm.Cond.code ({ cls := "java/lang/AbstractStringBuilder", name := "<init>", desc := "(I)V" } : Jvm.MethodName) jdk_68_method_2_code (2 : Nat) (Option.none : Option Jvm.ClassFile.FieldType)).before args0 about1 = true := code_word (m := ⟨11, 1⟩) (meth := k11m1) (c := k11c1) (by decide +kernel) rfl rfl rfl (by decide +kernel)
set_option maxRecDepth 65536 in
theorem w_c8 : (Jvm.Cond.code ({ cls := "java/lang/StringBuilder", name := "append", desc := "(Ljava/lang/String;)Ljava/lang/StringBuilder;" } : Jvm.MethodName) jdk_67_method_7_code (2 : Nat) (Option.some (Jvm.ClassFile.FieldType.object "java/lang/StringBuilder"))).before args0 about1 = true := code_word (m := ⟨12, 1⟩) (meth := k12m1) (c := k12c1) (by decide +kernel) rfl rfl rfl (by decide +kernel)
set_option maxRecDepth 65536 in
theorem w_c9 : (Jvm.Cond.code ({ cls := "java/lang/AbstractStringBuilder", name := "append", desc := "(Ljava/lang/String;)Ljava/lang/AbstractStringBuilder;" } : Jvm.MethodName) jdk_68_method_22_code (3 : Nat) (Option.some (Jvm.ClassFile.FieldType.object "java/lang/AbstractStringBuilder"))).before args0 about1 = true := code_word (m := ⟨11, 4⟩) (meth := k11m4) (c := k11c4) (by decide +kernel) rfl rfl rfl (by decide +kernel)
set_option maxRecDepth 65536 in
theorem w_c10 : (Jvm.Cond.code ({ cls := "java/lang/String", name := "length", desc := "()I" } : Jvm.MethodName) jdk_42_method_54_code (1 : Nat) (Option.some Jvm.ClassFile.FieldType.int)).before args0 about1 = true := code_word (m := ⟨7, 3⟩) (meth := k7m3) (c := k7c3) (by decide +kernel) rfl rfl rfl (by decide +kernel)
set_option maxRecDepth 65536 in
theorem w_c11 : (Jvm.Cond.code ({ cls := "java/lang/String", name := "coder", desc := "()B" } : Jvm.MethodName) jdk_42_method_152_code (1 : Nat) (Option.some Jvm.ClassFile.FieldType.byte)).before args0 about1 = true := code_word (m := ⟨7, 10⟩) (meth := k7m10) (c := k7c10) (by decide +kernel) rfl rfl rfl (by decide +kernel)
set_option maxRecDepth 65536 in
theorem w_c12 : (Jvm.Cond.code ({ cls := "java/lang/AbstractStringBuilder", name := "ensureCapacityInternal", desc := "(I)V" } : Jvm.MethodName) jdk_68_method_9_code (3 : Nat) (Option.none : Option Jvm.ClassFile.FieldType)).before args0 about1 = true := code_word (m := ⟨11, 3⟩) (meth := k11m3) (c := k11c3) (by decide +kernel) rfl rfl rfl (by decide +kernel)
set_option maxRecDepth 65536 in
theorem w_c13 : (Jvm.Cond.code ({ cls := "java/lang/AbstractStringBuilder", name := "putStringAt", desc := "(ILjava/lang/String;)V" } : Jvm.MethodName) jdk_68_method_73_code (3 : Nat) (Option.none : Option Jvm.ClassFile.FieldType)).before args0 about1 = true := code_word (m := ⟨11, 8⟩) (meth := k11m8) (c := k11c8) (by decide +kernel) rfl rfl rfl (by decide +kernel)
set_option maxRecDepth 65536 in
theorem w_c14 : (Jvm.Cond.code ({ cls := "java/lang/AbstractStringBuilder", name := "inflateIfNeededFor", desc := "(Ljava/lang/String;)V" } : Jvm.MethodName) jdk_68_method_71_code (2 : Nat) (Option.none : Option Jvm.ClassFile.FieldType)).before args0 about1 = true := code_word (m := ⟨11, 7⟩) (meth := k11m7) (c := k11c7) (by decide +kernel) rfl rfl rfl (by decide +kernel)
set_option maxRecDepth 65536 in
theorem w_c15 : (Jvm.Cond.code ({ cls := "java/lang/String", name := "getBytes", desc := "([BIB)V" } : Jvm.MethodName) jdk_42_method_147_code (4 : Nat) (Option.none : Option Jvm.ClassFile.FieldType)).before args0 about1 = true := code_word (m := ⟨7, 6⟩) (meth := k7m6) (c := k7c6) (by decide +kernel) rfl rfl rfl (by decide +kernel)
set_option maxRecDepth 65536 in
theorem w_c16 : (Jvm.Cond.code ({ cls := "java/lang/StringBuilder", name := "toString", desc := "()Ljava/lang/String;" } : Jvm.MethodName) jdk_67_method_42_code (1 : Nat) (Option.some (Jvm.ClassFile.FieldType.object "java/lang/String"))).before args0 about1 = true := code_word (m := ⟨12, 2⟩) (meth := k12m2) (c := k12c2) (by decide +kernel) rfl rfl rfl (by decide +kernel)
set_option maxRecDepth 65536 in
theorem w_c17 : (Jvm.Cond.code ({ cls := "java/lang/String", name := "<init>", desc := "(Ljava/lang/StringBuilder;)V" } : Jvm.MethodName) jdk_42_method_53_code (2 : Nat) (Option.none : Option Jvm.ClassFile.FieldType)).before args0 about1 = true := code_word (m := ⟨7, 2⟩) (meth := k7m2) (c := k7c2) (by decide +kernel) rfl rfl rfl (by decide +kernel)
set_option maxRecDepth 65536 in
theorem w_c18 : (Jvm.Cond.code ({ cls := "java/lang/String", name := "<init>", desc := "(Ljava/lang/AbstractStringBuilder;Ljava/lang/Void;)V" } : Jvm.MethodName) jdk_42_method_150_code (5 : Nat) (Option.none : Option Jvm.ClassFile.FieldType)).before args0 about1 = true := code_word (m := ⟨7, 8⟩) (meth := k7m8) (c := k7c8) (by decide +kernel) rfl rfl rfl (by decide +kernel)
set_option maxRecDepth 65536 in
theorem w_c19 : (Jvm.Cond.code ({ cls := "java/lang/AbstractStringBuilder", name := "getValue", desc := "()[B" } : Jvm.MethodName) jdk_68_method_64_code (1 : Nat) (Option.some (Jvm.ClassFile.FieldType.array Jvm.ClassFile.FieldType.byte))).before args0 about1 = true := code_word (m := ⟨11, 5⟩) (meth := k11m5) (c := k11c5) (by decide +kernel) rfl rfl rfl (by decide +kernel)
set_option maxRecDepth 65536 in
theorem w_c20 : (Jvm.Cond.code ({ cls := "java/lang/StringBuilder", name := "length", desc := "()I" } : Jvm.MethodName) jdk_67_method_93_code (1 : Nat) (Option.some Jvm.ClassFile.FieldType.int)).before args0 about1 = true := code_word (m := ⟨12, 3⟩) (meth := k12m3) (c := k12c3) (by decide +kernel) rfl rfl rfl (by decide +kernel)
set_option maxRecDepth 65536 in
theorem w_c21 : (Jvm.Cond.code ({ cls := "java/lang/AbstractStringBuilder", name := "length", desc := "()I" } : Jvm.MethodName) jdk_68_method_6_code (1 : Nat) (Option.some Jvm.ClassFile.FieldType.int)).before args0 about1 = true := code_word (m := ⟨11, 2⟩) (meth := k11m2) (c := k11c2) (by decide +kernel) rfl rfl rfl (by decide +kernel)
set_option maxRecDepth 65536 in
theorem w_c22 : (Jvm.Cond.code ({ cls := "java/lang/AbstractStringBuilder", name := "isLatin1", desc := "()Z" } : Jvm.MethodName) jdk_68_method_68_code (1 : Nat) (Option.some Jvm.ClassFile.FieldType.boolean)).before args0 about1 = true := code_word (m := ⟨11, 6⟩) (meth := k11m6) (c := k11c6) (by decide +kernel) rfl rfl rfl (by decide +kernel)
set_option maxRecDepth 65536 in
theorem w_c23 : (Jvm.Cond.code ({ cls := "java/util/Arrays", name := "copyOfRange", desc := "([BII)[B" } : Jvm.MethodName) jdk_65_method_132_code (3 : Nat) (Option.some (Jvm.ClassFile.FieldType.array Jvm.ClassFile.FieldType.byte))).before args0 about1 = true := code_word (m := ⟨14, 2⟩) (meth := k14m2) (c := k14c2) (by decide +kernel) rfl rfl rfl (by decide +kernel)
set_option maxRecDepth 65536 in
theorem w_c24 : (Jvm.Cond.code ({ cls := "java/util/Arrays", name := "copyOfRangeByte", desc := "([BII)[B" } : Jvm.MethodName) jdk_65_method_133_code (5 : Nat) (Option.some (Jvm.ClassFile.FieldType.array Jvm.ClassFile.FieldType.byte))).before args0 about1 = true := code_word (m := ⟨14, 3⟩) (meth := k14m3) (c := k14c3) (by decide +kernel) rfl rfl rfl (by decide +kernel)
set_option maxRecDepth 65536 in
theorem w_c25 : (Jvm.Cond.code ({ cls := "java/util/Arrays", name := "checkLength", desc := "(II)V" } : Jvm.MethodName) jdk_65_method_131_code (2 : Nat) (Option.none : Option Jvm.ClassFile.FieldType)).before args0 about1 = true := code_word (m := ⟨14, 1⟩) (meth := k14m1) (c := k14c1) (by decide +kernel) rfl rfl rfl (by decide +kernel)
set_option maxRecDepth 65536 in
theorem w_c26 : (Jvm.Cond.code ({ cls := "java/lang/Math", name := "min", desc := "(II)I" } : Jvm.MethodName) jdk_29_method_69_code (2 : Nat) (Option.some Jvm.ClassFile.FieldType.int)).before args0 about1 = true := code_word (m := ⟨15, 1⟩) (meth := k15m1) (c := k15c1) (by decide +kernel) rfl rfl rfl (by decide +kernel)
set_option maxRecDepth 65536 in
theorem w_c27 : (Jvm.Cond.code ({ cls := "com/example/spillback/spillback/io/SelectionToStringPinLaw", name := "at", desc := "(Ljava/lang/String;ILjava/lang/String;Ljava/lang/String;Ljava/lang/String;)Z" } : Jvm.MethodName) method_4_code (5 : Nat) (Option.some Jvm.ClassFile.FieldType.boolean)).before args0 about1 = true := code_word (m := ⟨1, 3⟩) (meth := k1m3) (c := k1c3) (by decide +kernel) rfl rfl rfl (by decide +kernel)
set_option maxRecDepth 65536 in
theorem w_c28 : (Jvm.Cond.code ({ cls := "java/lang/String", name := "charAt", desc := "(I)C" } : Jvm.MethodName) jdk_42_method_56_code (2 : Nat) (Option.some Jvm.ClassFile.FieldType.char)).before args0 about1 = true := code_word (m := ⟨7, 4⟩) (meth := k7m4) (c := k7c4) (by decide +kernel) rfl rfl rfl (by decide +kernel)
set_option maxRecDepth 65536 in
theorem w_c29 : (Jvm.Cond.code ({ cls := "java/lang/String", name := "isLatin1", desc := "()Z" } : Jvm.MethodName) jdk_42_method_154_code (1 : Nat) (Option.some Jvm.ClassFile.FieldType.boolean)).before args0 about1 = true := code_word (m := ⟨7, 11⟩) (meth := k7m11) (c := k7c11) (by decide +kernel) rfl rfl rfl (by decide +kernel)
set_option maxRecDepth 65536 in
theorem w_c30 : (Jvm.Cond.code ({ cls := "java/lang/StringLatin1", name := "charAt", desc := "([BI)C" } : Jvm.MethodName) jdk_43_method_2_code (2 : Nat) (Option.some Jvm.ClassFile.FieldType.char)).before args0 about1 = true := code_word (m := ⟨16, 1⟩) (meth := k16m1) (c := k16c1) (by decide +kernel) rfl rfl rfl (by decide +kernel)
set_option maxRecDepth 65536 in
theorem w_c31 : (Jvm.Cond.code ({ cls := "java/lang/String", name := "checkIndex", desc := "(II)V" } : Jvm.MethodName) jdk_42_method_155_code (2 : Nat) (Option.none : Option Jvm.ClassFile.FieldType)).before args0 about1 = true := code_word (m := ⟨7, 12⟩) (meth := k7m12) (c := k7c12) (by decide +kernel) rfl rfl rfl (by decide +kernel)
set_option maxRecDepth 65536 in
theorem w_c32 : (Jvm.Cond.code ({ cls := "jdk/internal/util/Preconditions", name := "checkIndex", desc := "(IILjava/util/function/BiFunction;)I" } : Jvm.MethodName) jdk_41_method_11_code (3 : Nat) (Option.some Jvm.ClassFile.FieldType.int)).before args0 about1 = true := code_word (m := ⟨17, 1⟩) (meth := k17m1) (c := k17c1) (by decide +kernel) rfl rfl rfl (by decide +kernel)
set_option maxRecDepth 65536 in
theorem w_c33 : (Jvm.Cond.code ({ cls := "com/example/spillback/spillback/io/SelectionToStringPinLaw", name := "expected", desc := "(ILjava/lang/String;Ljava/lang/String;Ljava/lang/String;)C" } : Jvm.MethodName) method_5_code (5 : Nat) (Option.some Jvm.ClassFile.FieldType.char)).before args0 about1 = true := code_word (m := ⟨1, 4⟩) (meth := k1m4) (c := k1c4) (by decide +kernel) rfl rfl rfl (by decide +kernel)
set_option maxRecDepth 65536 in
theorem w_c34 : (Jvm.Cond.code ({ cls := "java/lang/String", name := "<init>", desc := "([C)V" } : Jvm.MethodName) jdk_42_method_3_code (2 : Nat) (Option.none : Option Jvm.ClassFile.FieldType)).before args0 about1 = true := code_word (m := ⟨7, 1⟩) (meth := k7m1) (c := k7c1) (by decide +kernel) rfl rfl rfl (by decide +kernel)
set_option maxRecDepth 65536 in
theorem w_c35 : (Jvm.Cond.code ({ cls := "java/lang/String", name := "<init>", desc := "([CIILjava/lang/Void;)V" } : Jvm.MethodName) jdk_42_method_149_code (6 : Nat) (Option.none : Option Jvm.ClassFile.FieldType)).before args0 about1 = true := code_word (m := ⟨7, 7⟩) (meth := k7m7) (c := k7c7) (by decide +kernel) rfl rfl rfl (by decide +kernel)
set_option maxRecDepth 65536 in
theorem w_c36 : (Jvm.Cond.code ({ cls := "java/lang/StringUTF16", name := "compress", desc := "([CII)[B" } : Jvm.MethodName) jdk_52_method_16_code (6 : Nat) (Option.some (Jvm.ClassFile.FieldType.array Jvm.ClassFile.FieldType.byte))).before args0 about1 = true := code_word (m := ⟨18, 2⟩) (meth := k18m2) (c := k18c2) (by decide +kernel) rfl rfl rfl (by decide +kernel)
set_option maxRecDepth 65536 in
theorem w_c37 : (Jvm.Cond.code ({ cls := "java/lang/StringUTF16", name := "compress", desc := "([CI[BII)I" } : Jvm.MethodName) jdk_52_method_21_code (7 : Nat) (Option.some Jvm.ClassFile.FieldType.int)).before args0 about1 = true := code_word (m := ⟨18, 3⟩) (meth := k18m3) (c := k18c3) (by decide +kernel) rfl rfl rfl (by decide +kernel)
set_option maxRecDepth 65536 in
theorem w_c38 : (Jvm.Cond.code ({ cls := "java/lang/StringUTF16", name := "coderFromArrayLen", desc := "([BI)B" } : Jvm.MethodName) jdk_52_method_15_code (2 : Nat) (Option.some Jvm.ClassFile.FieldType.byte)).before args0 about1 = true := code_word (m := ⟨18, 1⟩) (meth := k18m1) (c := k18c1) (by decide +kernel) rfl rfl rfl (by decide +kernel)
set_option maxRecDepth 65536 in
theorem w_c39 : (Jvm.Cond.code ({ cls := "java/lang/String", name := "valueOf", desc := "(C)Ljava/lang/String;" } : Jvm.MethodName) jdk_42_method_139_code (1 : Nat) (Option.some (Jvm.ClassFile.FieldType.object "java/lang/String"))).before args0 about1 = true := code_word (m := ⟨7, 5⟩) (meth := k7m5) (c := k7c5) (by decide +kernel) rfl rfl rfl (by decide +kernel)
set_option maxRecDepth 65536 in
theorem w_c40 : (Jvm.Cond.code ({ cls := "java/lang/StringLatin1", name := "canEncode", desc := "(C)Z" } : Jvm.MethodName) jdk_43_method_3_code (1 : Nat) (Option.some Jvm.ClassFile.FieldType.boolean)).before args0 about1 = true := code_word (m := ⟨16, 2⟩) (meth := k16m2) (c := k16c2) (by decide +kernel) rfl rfl rfl (by decide +kernel)
set_option maxRecDepth 65536 in
theorem w_c41 : (Jvm.Cond.code ({ cls := "java/lang/StringLatin1", name := "toBytes", desc := "(C)[B" } : Jvm.MethodName) jdk_43_method_46_code (1 : Nat) (Option.some (Jvm.ClassFile.FieldType.array Jvm.ClassFile.FieldType.byte))).before args0 about1 = true := code_word (m := ⟨16, 3⟩) (meth := k16m3) (c := k16c3) (by decide +kernel) rfl rfl rfl (by decide +kernel)
set_option maxRecDepth 65536 in
theorem w_c42 : (Jvm.Cond.code ({ cls := "java/lang/String", name := "<init>", desc := "([BB)V" } : Jvm.MethodName) jdk_42_method_151_code (3 : Nat) (Option.none : Option Jvm.ClassFile.FieldType)).before args0 about1 = true := code_word (m := ⟨7, 9⟩) (meth := k7m9) (c := k7c9) (by decide +kernel) rfl rfl rfl (by decide +kernel)
def codes1 : List Jvm.Cond := [Jvm.Cond.code x code maxLocals ret, Jvm.Cond.code ({ cls := "com/example/spillback/spillback/io/SelectionToStringPinLaw", name := "draw", desc := "(I)Ljava/lang/String;" } : Jvm.MethodName) method_3_code (4 : Nat) (Option.some (Jvm.ClassFile.FieldType.object "java/lang/String")), Jvm.Cond.code ({ cls := "com/example/spillback/spillback/io/Config$Selection", name := "<init>", desc := "(Ljava/lang/String;Ljava/lang/String;Ljava/lang/String;)V" } : Jvm.MethodName) prog_42_method_1_code (4 : Nat) (Option.none : Option Jvm.ClassFile.FieldType), Jvm.Cond.code ({ cls := "java/lang/Record", name := "<init>", desc := "()V" } : Jvm.MethodName) jdk_30_method_1_code (1 : Nat) (Option.none : Option Jvm.ClassFile.FieldType), Jvm.Cond.code ({ cls := "java/lang/Object", name := "<init>", desc := "()V" } : Jvm.MethodName) object_method_1_code (1 : Nat) (Option.none : Option Jvm.ClassFile.FieldType), Jvm.Cond.code ({ cls := "com/example/spillback/spillback/io/Config$Selection", name := "toString", desc := "()Ljava/lang/String;" } : Jvm.MethodName) prog_42_method_2_code (1 : Nat) (Option.some (Jvm.ClassFile.FieldType.object "java/lang/String")), Jvm.Cond.code ({ cls := "java/lang/StringBuilder", name := "<init>", desc := "()V" } : Jvm.MethodName) jdk_67_method_1_code (1 : Nat) (Option.none : Option Jvm.ClassFile.FieldType), Jvm.Cond.code ({ cls := "java/lang/AbstractStringBuilder", name := "<init>", desc := "(I)V" } : Jvm.MethodName) jdk_68_method_2_code (2 : Nat) (Option.none : Option Jvm.ClassFile.FieldType), Jvm.Cond.code ({ cls := "java/lang/StringBuilder", name := "append", desc := "(Ljava/lang/String;)Ljava/lang/StringBuilder;" } : Jvm.MethodName) jdk_67_method_7_code (2 : Nat) (Option.some (Jvm.ClassFile.FieldType.object "java/lang/StringBuilder")), Jvm.Cond.code ({ cls := "java/lang/AbstractStringBuilder", name := "append", desc := "(Ljava/lang/String;)Ljava/lang/AbstractStringBuilder;" } : Jvm.MethodName) jdk_68_method_22_code (3 : Nat) (Option.some (Jvm.ClassFile.FieldType.object "java/lang/AbstractStringBuilder")), Jvm.Cond.code ({ cls := "java/lang/String", name := "length", desc := "()I" } : Jvm.MethodName) jdk_42_method_54_code (1 : Nat) (Option.some Jvm.ClassFile.FieldType.int), Jvm.Cond.code ({ cls := "java/lang/String", name := "coder", desc := "()B" } : Jvm.MethodName) jdk_42_method_152_code (1 : Nat) (Option.some Jvm.ClassFile.FieldType.byte), Jvm.Cond.code ({ cls := "java/lang/AbstractStringBuilder", name := "ensureCapacityInternal", desc := "(I)V" } : Jvm.MethodName) jdk_68_method_9_code (3 : Nat) (Option.none : Option Jvm.ClassFile.FieldType), Jvm.Cond.code ({ cls := "java/lang/AbstractStringBuilder", name := "putStringAt", desc := "(ILjava/lang/String;)V" } : Jvm.MethodName) jdk_68_method_73_code (3 : Nat) (Option.none : Option Jvm.ClassFile.FieldType), Jvm.Cond.code ({ cls := "java/lang/AbstractStringBuilder", name := "inflateIfNeededFor", desc := "(Ljava/lang/String;)V" } : Jvm.MethodName) jdk_68_method_71_code (2 : Nat) (Option.none : Option Jvm.ClassFile.FieldType), Jvm.Cond.code ({ cls := "java/lang/String", name := "getBytes", desc := "([BIB)V" } : Jvm.MethodName) jdk_42_method_147_code (4 : Nat) (Option.none : Option Jvm.ClassFile.FieldType), Jvm.Cond.code ({ cls := "java/lang/StringBuilder", name := "toString", desc := "()Ljava/lang/String;" } : Jvm.MethodName) jdk_67_method_42_code (1 : Nat) (Option.some (Jvm.ClassFile.FieldType.object "java/lang/String")), Jvm.Cond.code ({ cls := "java/lang/String", name := "<init>", desc := "(Ljava/lang/StringBuilder;)V" } : Jvm.MethodName) jdk_42_method_53_code (2 : Nat) (Option.none : Option Jvm.ClassFile.FieldType), Jvm.Cond.code ({ cls := "java/lang/String", name := "<init>", desc := "(Ljava/lang/AbstractStringBuilder;Ljava/lang/Void;)V" } : Jvm.MethodName) jdk_42_method_150_code (5 : Nat) (Option.none : Option Jvm.ClassFile.FieldType), Jvm.Cond.code ({ cls := "java/lang/AbstractStringBuilder", name := "getValue", desc := "()[B" } : Jvm.MethodName) jdk_68_method_64_code (1 : Nat) (Option.some (Jvm.ClassFile.FieldType.array Jvm.ClassFile.FieldType.byte)), Jvm.Cond.code ({ cls := "java/lang/StringBuilder", name := "length", desc := "()I" } : Jvm.MethodName) jdk_67_method_93_code (1 : Nat) (Option.some Jvm.ClassFile.FieldType.int), Jvm.Cond.code ({ cls := "java/lang/AbstractStringBuilder", name := "length", desc := "()I" } : Jvm.MethodName) jdk_68_method_6_code (1 : Nat) (Option.some Jvm.ClassFile.FieldType.int), Jvm.Cond.code ({ cls := "java/lang/AbstractStringBuilder", name := "isLatin1", desc := "()Z" } : Jvm.MethodName) jdk_68_method_68_code (1 : Nat) (Option.some Jvm.ClassFile.FieldType.boolean), Jvm.Cond.code ({ cls := "java/util/Arrays", name := "copyOfRange", desc := "([BII)[B" } : Jvm.MethodName) jdk_65_method_132_code (3 : Nat) (Option.some (Jvm.ClassFile.FieldType.array Jvm.ClassFile.FieldType.byte)), Jvm.Cond.code ({ cls := "java/util/Arrays", name := "copyOfRangeByte", desc := "([BII)[B" } : Jvm.MethodName) jdk_65_method_133_code (5 : Nat) (Option.some (Jvm.ClassFile.FieldType.array Jvm.ClassFile.FieldType.byte)), Jvm.Cond.code ({ cls := "java/util/Arrays", name := "checkLength", desc := "(II)V" } : Jvm.MethodName) jdk_65_method_131_code (2 : Nat) (Option.none : Option Jvm.ClassFile.FieldType), Jvm.Cond.code ({ cls := "java/lang/Math", name := "min", desc := "(II)I" } : Jvm.MethodName) jdk_29_method_69_code (2 : Nat) (Option.some Jvm.ClassFile.FieldType.int), Jvm.Cond.code ({ cls := "com/example/spillback/spillback/io/SelectionToStringPinLaw", name := "at", desc := "(Ljava/lang/String;ILjava/lang/String;Ljava/lang/String;Ljava/lang/String;)Z" } : Jvm.MethodName) method_4_code (5 : Nat) (Option.some Jvm.ClassFile.FieldType.boolean), Jvm.Cond.code ({ cls := "java/lang/String", name := "charAt", desc := "(I)C" } : Jvm.MethodName) jdk_42_method_56_code (2 : Nat) (Option.some Jvm.ClassFile.FieldType.char), Jvm.Cond.code ({ cls := "java/lang/String", name := "isLatin1", desc := "()Z" } : Jvm.MethodName) jdk_42_method_154_code (1 : Nat) (Option.some Jvm.ClassFile.FieldType.boolean), Jvm.Cond.code ({ cls := "java/lang/StringLatin1", name := "charAt", desc := "([BI)C" } : Jvm.MethodName) jdk_43_method_2_code (2 : Nat) (Option.some Jvm.ClassFile.FieldType.char), Jvm.Cond.code ({ cls := "java/lang/String", name := "checkIndex", desc := "(II)V" } : Jvm.MethodName) jdk_42_method_155_code (2 : Nat) (Option.none : Option Jvm.ClassFile.FieldType), Jvm.Cond.code ({ cls := "jdk/internal/util/Preconditions", name := "checkIndex", desc := "(IILjava/util/function/BiFunction;)I" } : Jvm.MethodName) jdk_41_method_11_code (3 : Nat) (Option.some Jvm.ClassFile.FieldType.int), Jvm.Cond.code ({ cls := "com/example/spillback/spillback/io/SelectionToStringPinLaw", name := "expected", desc := "(ILjava/lang/String;Ljava/lang/String;Ljava/lang/String;)C" } : Jvm.MethodName) method_5_code (5 : Nat) (Option.some Jvm.ClassFile.FieldType.char), Jvm.Cond.code ({ cls := "java/lang/String", name := "<init>", desc := "([C)V" } : Jvm.MethodName) jdk_42_method_3_code (2 : Nat) (Option.none : Option Jvm.ClassFile.FieldType), Jvm.Cond.code ({ cls := "java/lang/String", name := "<init>", desc := "([CIILjava/lang/Void;)V" } : Jvm.MethodName) jdk_42_method_149_code (6 : Nat) (Option.none : Option Jvm.ClassFile.FieldType), Jvm.Cond.code ({ cls := "java/lang/StringUTF16", name := "compress", desc := "([CII)[B" } : Jvm.MethodName) jdk_52_method_16_code (6 : Nat) (Option.some (Jvm.ClassFile.FieldType.array Jvm.ClassFile.FieldType.byte)), Jvm.Cond.code ({ cls := "java/lang/StringUTF16", name := "compress", desc := "([CI[BII)I" } : Jvm.MethodName) jdk_52_method_21_code (7 : Nat) (Option.some Jvm.ClassFile.FieldType.int), Jvm.Cond.code ({ cls := "java/lang/StringUTF16", name := "coderFromArrayLen", desc := "([BI)B" } : Jvm.MethodName) jdk_52_method_15_code (2 : Nat) (Option.some Jvm.ClassFile.FieldType.byte), Jvm.Cond.code ({ cls := "java/lang/String", name := "valueOf", desc := "(C)Ljava/lang/String;" } : Jvm.MethodName) jdk_42_method_139_code (1 : Nat) (Option.some (Jvm.ClassFile.FieldType.object "java/lang/String")), Jvm.Cond.code ({ cls := "java/lang/StringLatin1", name := "canEncode", desc := "(C)Z" } : Jvm.MethodName) jdk_43_method_3_code (1 : Nat) (Option.some Jvm.ClassFile.FieldType.boolean), Jvm.Cond.code ({ cls := "java/lang/StringLatin1", name := "toBytes", desc := "(C)[B" } : Jvm.MethodName) jdk_43_method_46_code (1 : Nat) (Option.some (Jvm.ClassFile.FieldType.array Jvm.ClassFile.FieldType.byte)), Jvm.Cond.code ({ cls := "java/lang/String", name := "<init>", desc := "([BB)V" } : Jvm.MethodName) jdk_42_method_151_code (3 : Nat) (Option.none : Option Jvm.ClassFile.FieldType)]
set_option maxRecDepth 65536 in
theorem codes_eq : words1.filter isCode = codes1 := rfl
theorem w_codes : ∀ c ∈ words1.filter isCode, c.before args0 about1 = true := by
  rw [codes_eq]
  intro c hc
  simp only [codes1, List.mem_cons, List.not_mem_nil, or_false] at hc
  rcases hc with rfl | rfl | rfl | rfl | rfl | rfl | rfl | rfl | rfl | rfl | rfl | rfl | rfl | rfl | rfl | rfl | rfl | rfl | rfl | rfl | rfl | rfl | rfl | rfl | rfl | rfl | rfl | rfl | rfl | rfl | rfl | rfl | rfl | rfl | rfl | rfl | rfl | rfl | rfl | rfl | rfl | rfl | rfl
  · exact w_c0
  · exact w_c1
  · exact w_c2
  · exact w_c3
  · exact w_c4
  · exact w_c5
  · exact w_c6
  · exact w_c7
  · exact w_c8
  · exact w_c9
  · exact w_c10
  · exact w_c11
  · exact w_c12
  · exact w_c13
  · exact w_c14
  · exact w_c15
  · exact w_c16
  · exact w_c17
  · exact w_c18
  · exact w_c19
  · exact w_c20
  · exact w_c21
  · exact w_c22
  · exact w_c23
  · exact w_c24
  · exact w_c25
  · exact w_c26
  · exact w_c27
  · exact w_c28
  · exact w_c29
  · exact w_c30
  · exact w_c31
  · exact w_c32
  · exact w_c33
  · exact w_c34
  · exact w_c35
  · exact w_c36
  · exact w_c37
  · exact w_c38
  · exact w_c39
  · exact w_c40
  · exact w_c41
  · exact w_c42
set_option maxRecDepth 65536 in
theorem w_t1 : (words1.take 24).all (fun c => isCode c || c.before args0 about1) = true := by decide +kernel
set_option maxRecDepth 65536 in
theorem w_t2 : ((words1.drop 24).take 24).all (fun c => isCode c || c.before args0 about1) = true := by decide +kernel
set_option maxRecDepth 65536 in
theorem w_t3 : (((words1.drop 24).drop 24).take 24).all (fun c => isCode c || c.before args0 about1) = true := by decide +kernel
set_option maxRecDepth 65536 in
theorem w_t4 : ((((words1.drop 24).drop 24).drop 24).take 24).all (fun c => isCode c || c.before args0 about1) = true := by decide +kernel
set_option maxRecDepth 65536 in
theorem w_t5 : (((((words1.drop 24).drop 24).drop 24).drop 24).take 24).all (fun c => isCode c || c.before args0 about1) = true := by decide +kernel
set_option maxRecDepth 65536 in
theorem w_t6 : ((((((words1.drop 24).drop 24).drop 24).drop 24).drop 24).take 24).all (fun c => isCode c || c.before args0 about1) = true := by decide +kernel
set_option maxRecDepth 65536 in
theorem w_t7 : (((((((words1.drop 24).drop 24).drop 24).drop 24).drop 24).drop 24).take 24).all (fun c => isCode c || c.before args0 about1) = true := by decide +kernel
set_option maxRecDepth 65536 in
theorem w_t8 : ((((((((words1.drop 24).drop 24).drop 24).drop 24).drop 24).drop 24).drop 24).take 24).all (fun c => isCode c || c.before args0 about1) = true := by decide +kernel
set_option maxRecDepth 65536 in
theorem w_t9 : ((((((((words1.drop 24).drop 24).drop 24).drop 24).drop 24).drop 24).drop 24).drop 24).all (fun c => isCode c || c.before args0 about1) = true := by decide +kernel
theorem w_tables : (allAtoms (Jvm.Cond.code x code maxLocals ret :: tables_1)).before args0 about1 = true := by
  rw [allAtoms_all]
  show words1.all (fun c => c.before args0 about1) = true
  refine all_split ?_ w_codes
  rw [← List.take_append_drop 24 words1, List.all_append, w_t1, ← List.take_append_drop 24 (words1.drop 24), List.all_append, w_t2, ← List.take_append_drop 24 ((words1.drop 24).drop 24), List.all_append, w_t3, ← List.take_append_drop 24 (((words1.drop 24).drop 24).drop 24), List.all_append, w_t4, ← List.take_append_drop 24 ((((words1.drop 24).drop 24).drop 24).drop 24), List.all_append, w_t5, ← List.take_append_drop 24 (((((words1.drop 24).drop 24).drop 24).drop 24).drop 24), List.all_append, w_t6, ← List.take_append_drop 24 ((((((words1.drop 24).drop 24).drop 24).drop 24).drop 24).drop 24), List.all_append, w_t7, ← List.take_append_drop 24 (((((((words1.drop 24).drop 24).drop 24).drop 24).drop 24).drop 24).drop 24), List.all_append, w_t8, w_t9]
  rfl
set_option maxRecDepth 65536 in
theorem w_rest : rest_1_c.before args0 about1 = true := by decide +kernel
set_option maxRecDepth 65536 in
theorem w_case : (Jvm.Cond.and given_1 narrow_1).before args0 about1 = true := by decide +kernel
set_option maxRecDepth 65536 in
theorem w_consts : constsHeld consts_1 about1 := Jvm.Lit.constsHeldB_iff.mp (by decide +kernel)
theorem w_applies : (headSpec (Jvm.Cond.code x code maxLocals ret :: tables_1) room_1).applies x e0.platform about1 = true :=
  (Spec.applies_iff w_frames).mpr ⟨w_running, w_runnable, w_alone, w_named, w_hears, w_ripe, w_room, w_tables⟩
theorem atStart : AtStart classFile x code maxLocals ret World_1 tables_1 room_1 Calls_1 rest_1 Pre_1 launch0 p0 e0 about1 theMethod args0 below0 :=
  ⟨lists_1, trivial, launch0.admits_env _ _ _, launch0.least_env, fairChoices_fair.cas, fairChoices_fair.clock, w_frames, w_args, w_heap, w_applies, ⟨w_consts, trivial⟩, w_rest, w_case⟩
end start1
theorem witness_1 : WitnessClaimed_1 := ⟨start1.p0, start1.e0, start1.about1, start1.theMethod, start1.args0, start1.below0, start1.atStart⟩
end Jvm.Pilot.@@N@@
