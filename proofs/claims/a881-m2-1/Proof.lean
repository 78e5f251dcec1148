import JvmDerived
import JvmDerived.Pilot.@@N@@Statement
import JvmDerived.Pilot.@@N@@Code
set_option linter.unusedVariables false
set_option linter.unusedSimpArgs false
/- laws to paste: Road.backV, Road.lenW, Road.chN, Road.codOf (cut by pick.py; bodies as the Statement names them) -/
namespace Jvm.Pilot.@@N@@
namespace StrChars
open Jvm Sem ClassFile Op Lib Jvm.Stand Jvm.Free.XT Jvm.Free.ALB Jvm.Free.JM Jvm.Free
open Jvm.Lib.Cold (StaticIs)
/-- a char array whose places are chars -/
def Ch (a : Addr) (A : Cell) (U : State) : Prop := Arr .char a A U ∧ Typed .char A
theorem Ch.mv {a : Addr} {A : Cell} {U U' : State} (h : Ch a A U) (hal : U.vm.Alike U'.vm) (hh : U'.heap = U.heap) : Ch a A U' := ⟨h.1.mv hal hh, h.2⟩
theorem Ch.keep {a : Addr} {A : Cell} {U U' : State} (h : Ch a A U) (hal : U.vm.Alike U'.vm) (hk : U'.heap[a]? = some A) : Ch a A U' := ⟨h.1.keep hal hk, h.2⟩
/-- what place i of a char[]'s cell holds -/
def cv (A : Cell) (i : Nat) : Int32 := match A.slots[i]? with | some (.int x) => x | _ => 0
theorem Ch.get {a : Addr} {A : Cell} {U : State} (h : Ch a A U) {i : Nat} (hi : i < A.slots.size) : A.slots[i]? = some (.int (cv A i)) := by
  have e := Array.getElem?_eq_getElem hi
  have f := h.2 i _ e
  unfold cv; rw [e]
  generalize A.slots[i] = v at f
  cases v <;> simp [fits] at f ⊢
/-- the byte that i2b leaves of a char -/
def lo8 (x : Int32) : Int32 := x.toInt8.toInt32
theorem fits_lo8 (y : Int32) : fits .byte (.int (lo8 y)) = true := by
  have h1 := y.toInt8.le_toInt
  have h2 := y.toInt8.toInt_lt
  simp only [lo8, fits, Bool.and_eq_true, decide_eq_true_eq, Int32.le_iff_toInt_le, Int8.toInt_toInt32, show (-128 : Int32).toInt = -128 from by decide, show (127 : Int32).toInt = 127 from by decide]
  omega
/-- A' is A but that each place j of lo .. hi - 1 holds f j -/
def Laid (A A' : Cell) (lo hi : Nat) (f : Nat → Value) : Prop := A'.cls = A.cls ∧ A'.vm = A.vm ∧ A'.slots.size = A.slots.size ∧ ∀ i, A'.slots[i]? = if lo ≤ i ∧ i < hi then some (f i) else A.slots[i]?
theorem Laid.zero (A : Cell) (lo : Nat) (f : Nat → Value) : Laid A A lo (lo + 0) f := ⟨rfl, rfl, rfl, fun i => by rw [if_neg (by omega)]⟩
theorem Laid.step {A Ak : Cell} {lo k : Nat} {f : Nat → Value} {v : Value} (h : Laid A Ak lo k f) (hlo : lo ≤ k) (hk : k < Ak.slots.size) (hv : v = f k) : Laid A (Ak.setSlot k v) lo (k + 1) f := by
  refine ⟨h.1, h.2.1, by simpa [Cell.setSlot] using h.2.2.1, fun i => ?_⟩
  by_cases e : k = i
  · subst e; rw [Cell.slots_setSlot_self v hk, if_pos (by omega), hv]
  · rw [Cell.slots_setSlot_ne v e, h.2.2.2 i]
    by_cases q : lo ≤ i ∧ i < k
    · rw [if_pos q, if_pos (by omega)]
    · rw [if_neg q, if_neg (by omega)]
def U16 : String := "java/lang/StringUTF16"
namespace Cmp5
def yN : MethodName := ⟨"java/lang/StringUTF16", "compress", "([CI[BII)I"⟩
abbrev yB : ByteArray := jdk_52_method_21_code
theorem d0 : decode yB 0 = .ok (.iconst 0, 1) := by decide +kernel
theorem d1 : decode yB 1 = .ok (.istore 5, 2) := by decide +kernel
theorem d3 : decode yB 3 = .ok (.iload 5, 2) := by decide +kernel
theorem d5 : decode yB 5 = .ok (.iload 4, 2) := by decide +kernel
theorem d7 : decode yB 7 = .ok (.if_icmp (.ge) 37, 3) := by decide +kernel
theorem d10 : decode yB 10 = .ok (.aload_n 0, 1) := by decide +kernel
theorem d11 : decode yB 11 = .ok (.iload_n 1, 1) := by decide +kernel
theorem d12 : decode yB 12 = .ok (.caload, 1) := by decide +kernel
theorem d13 : decode yB 13 = .ok (.istore 6, 2) := by decide +kernel
theorem d15 : decode yB 15 = .ok (.iload 6, 2) := by decide +kernel
theorem d17 : decode yB 17 = .ok (.sipush 255, 3) := by decide +kernel
theorem d20 : decode yB 20 = .ok (.if_icmp (.le) 6, 3) := by decide +kernel
theorem d26 : decode yB 26 = .ok (.aload_n 2, 1) := by decide +kernel
theorem d27 : decode yB 27 = .ok (.iload_n 3, 1) := by decide +kernel
theorem d28 : decode yB 28 = .ok (.iload 6, 2) := by decide +kernel
theorem d30 : decode yB 30 = .ok (.i2b, 1) := by decide +kernel
theorem d31 : decode yB 31 = .ok (.bastore, 1) := by decide +kernel
theorem d32 : decode yB 32 = .ok (.iinc 1 1, 3) := by decide +kernel
theorem d35 : decode yB 35 = .ok (.iinc 3 1, 3) := by decide +kernel
theorem d38 : decode yB 38 = .ok (.iinc 5 1, 3) := by decide +kernel
theorem d41 : decode yB 41 = .ok (.goto (-38), 3) := by decide +kernel
theorem d44 : decode yB 44 = .ok (.iload 4, 2) := by decide +kernel
theorem d46 : decode yB 46 = .ok (.ireturn, 1) := by decide +kernel
def site : List Cond := []
def tab : Cond := tabOf yN yB 7 (some .int) site
def P (b : Addr) (A : Cell) (d : Addr) (B : Cell) (o q len : Nat) (args : Array Value) (s : State) : Prop := args = #[.ref b, .int (Int32.ofNat o), .ref d, .int (Int32.ofNat q), .int (Int32.ofNat len)] ∧ Ch b A s ∧ Arr .byte d B s ∧ b ≠ d ∧ o + len ≤ A.slots.size ∧ q + len ≤ B.slots.size ∧ ∀ i, i < len → ¬ 255 < cv A (o + i)
def E (b : Addr) (A : Cell) (d : Addr) (B : Cell) (o q len : Nat) (r : Option Value) (s u : State) : Prop := r = some (.int (Int32.ofNat len)) ∧ ∃ B', Put d B' s u ∧ Laid B B' q (q + len) (fun j => Value.int (lo8 (cv A (o + (j - q)))))
/-- no char of the range above 255: len; the places written hold each char's low byte -/
theorem law (l : Launch) (b : Addr) (A : Cell) (d : Addr) (B : Cell) (o q len : Nat) : Law l yN 5 5 0 0 yB 7 (some .int) site (P b A d B o q len) (E b A d B o q len) (copyLocs d q len) 0 0 := by
  refine Law.of_walk (plainFor_of_name (by decide +kernel)) (by decide +kernel) (by decide +kernel) (by decide) (fun _ _ h => by rw [h.1]; rfl) (fun _ U U' hal hh h => ⟨h.1, h.2.1.mv hal hh, h.2.2.1.mv hal hh, h.2.2.2⟩) (fun r U U' V V' h1 hal h2 h => ⟨h.1, h.2.elim fun B' q => ⟨B', q.1.mv h1 h2, q.2⟩⟩) ?_
  intro p e s m args below meth c s₁ X0 hexec hbytes hml hret hlk hnm hown hh0 W hP
  obtain ⟨rfl, hA, hB, hne, l1, l2, hp⟩ := hP
  have c1 : Steps p.tables e below (s₁.setTop (entryFrame m #[.ref b, .int (Int32.ofNat o), .ref d, .int (Int32.ofNat q), .int (Int32.ofNat len)] 7)) (s₁.setTop (mkF m 0 #[.val (.ref b), .val (.int (Int32.ofNat o)), .val (.ref d), .val (.int (Int32.ofNat q)), .val (.int (Int32.ofNat len)), .unset, .unset] [])) := entry rfl
  have hA0 := hA.1.mv X0.warmed.alike hh0
  have hB0 := hB.mv X0.warmed.alike hh0
  have a31 := hA.1.2.2.2
  have c2 : Steps p.tables e below (s₁.setTop (entryFrame m #[.ref b, .int (Int32.ofNat o), .ref d, .int (Int32.ofNat q), .int (Int32.ofNat len)] 7)) (s₁.setTop (mkF m 3 #[.val (.ref b), .val (.int (Int32.ofNat o)), .val (.ref d), .val (.int (Int32.ofNat q)), .val (.int (Int32.ofNat len)), .val (.int 0), .unset] [])) := c1.trans (by
    refine iconstV X0.here hexec rfl 0 (hb hbytes d0) (by decide) ?_
    refine XS.istore X0.here hexec rfl (hb hbytes d1) rfl rfl ?_
    exact Steps.refl _)
  have loop : ∀ (r i : Nat), i + r = len → ∀ (z : Slot), (z = .unset ∨ ∃ w, z = .val w ∧ w.category = 1) → ∀ (Tl : State) (Bk : Cell), Stand p l e { frames := 0, locals := 0, cells := 0, slots := 0 } s m #[.ref b, .int (Int32.ofNat o), .ref d, .int (Int32.ofNat q), .int (Int32.ofNat len)] below meth c Tl ([] ++ copyLocs d q i) 0 0 → Put d Bk s₁ Tl → Laid B Bk q (q + i) (fun j => Value.int (lo8 (cv A (o + (j - q))))) →
      Steps p.tables e below (s₁.setTop (entryFrame m #[.ref b, .int (Int32.ofNat o), .ref d, .int (Int32.ofNat q), .int (Int32.ofNat len)] 7)) (Tl.setTop (mkF m 3 #[.val (.ref b), .val (.int (Int32.ofNat (o + i))), .val (.ref d), .val (.int (Int32.ofNat (q + i))), .val (.int (Int32.ofNat len)), .val (.int (Int32.ofNat i)), z] [])) → ∃ (T' : State) (B' : Cell) (z' : Slot), Stand p l e { frames := 0, locals := 0, cells := 0, slots := 0 } s m #[.ref b, .int (Int32.ofNat o), .ref d, .int (Int32.ofNat q), .int (Int32.ofNat len)] below meth c T' ([] ++ copyLocs d q len) 0 0 ∧ Put d B' s₁ T' ∧ Laid B B' q (q + len) (fun j => Value.int (lo8 (cv A (o + (j - q))))) ∧
      Steps p.tables e below (s₁.setTop (entryFrame m #[.ref b, .int (Int32.ofNat o), .ref d, .int (Int32.ofNat q), .int (Int32.ofNat len)] 7)) (T'.setTop (mkF m 3 #[.val (.ref b), .val (.int (Int32.ofNat (o + len))), .val (.ref d), .val (.int (Int32.ofNat (q + len))), .val (.int (Int32.ofNat len)), .val (.int (Int32.ofNat len)), z'] [])) := by
    intro r
    induction r with
    | zero =>
      intro i hi z hz Tl Bk Xl pl fl cl
      have hil : i = len := by omega
      rw [hil] at Xl fl cl
      exact ⟨Tl, Bk, z, Xl, pl, fl, cl⟩
    | succ r ih =>
      intro i hi z hz Tl Bk Xl pl fl cl
      have all := X0.warmed.alike.symm.trans Xl.warmed.alike
      have hAl := hA0.keep all (pl.other hne hA0.1)
      have hBk := hB0.like all pl.1 fl.1 fl.2.1 fl.2.2.1
      have hlt : q + i < Bk.slots.size := by rw [fl.2.2.1]; omega
      have c3 : Steps p.tables e below (s₁.setTop (entryFrame m #[.ref b, .int (Int32.ofNat o), .ref d, .int (Int32.ofNat q), .int (Int32.ofNat len)] 7)) (Tl.setTop (mkF m 12 #[.val (.ref b), .val (.int (Int32.ofNat (o + i))), .val (.ref d), .val (.int (Int32.ofNat (q + i))), .val (.int (Int32.ofNat len)), .val (.int (Int32.ofNat i)), z] [.int (Int32.ofNat (o + i)), .ref b])) := cl.trans (by
        refine XS.iload Xl.here hexec rfl (hb hbytes d3) rfl ?_
        refine XS.iload Xl.here hexec rfl (hb hbytes d5) rfl ?_
        refine XS.icmpNo Xl.here hexec rfl (hb hbytes d7) rfl (ii_ge_f (lt32 (by omega) (by omega))) ?_
        refine XS.aloadN Xl.here hexec rfl (hb hbytes d10) rfl rfl ?_
        refine XS.iloadN Xl.here hexec rfl (hb hbytes d11) rfl ?_
        exact Steps.refl _)
      have c4 : Steps p.tables e below (s₁.setTop (entryFrame m #[.ref b, .int (Int32.ofNat o), .ref d, .int (Int32.ofNat q), .int (Int32.ofNat len)] 7)) (Tl.setTop (mkF m 13 #[.val (.ref b), .val (.int (Int32.ofNat (o + i))), .val (.ref d), .val (.int (Int32.ofNat (q + i))), .val (.int (Int32.ofNat len)), .val (.int (Int32.ofNat i)), z] [.int (cv A (o + i))])) := c3.trans (by
        refine Xl.aget hexec hAl rfl (hA.get (i := o + i) (by omega)) rfl rfl (hb hbytes d12) ?_
        exact Steps.refl _)
      have c5 : Steps p.tables e below (s₁.setTop (entryFrame m #[.ref b, .int (Int32.ofNat o), .ref d, .int (Int32.ofNat q), .int (Int32.ofNat len)] 7)) (Tl.setTop (mkF m 15 #[.val (.ref b), .val (.int (Int32.ofNat (o + i))), .val (.ref d), .val (.int (Int32.ofNat (q + i))), .val (.int (Int32.ofNat len)), .val (.int (Int32.ofNat i)), .val (.int (cv A (o + i)))] [])) := c4.trans (by
        refine XS.istoreS Xl.here hexec rfl (hb hbytes d13) rfl rfl hz ?_
        exact Steps.refl _)
      have c6 : Steps p.tables e below (s₁.setTop (entryFrame m #[.ref b, .int (Int32.ofNat o), .ref d, .int (Int32.ofNat q), .int (Int32.ofNat len)] 7)) (Tl.setTop (mkF m 31 #[.val (.ref b), .val (.int (Int32.ofNat (o + i))), .val (.ref d), .val (.int (Int32.ofNat (q + i))), .val (.int (Int32.ofNat len)), .val (.int (Int32.ofNat i)), .val (.int (cv A (o + i)))] [.int (lo8 (cv A (o + i))), .int (Int32.ofNat (q + i)), .ref d])) := c5.trans (by
        refine XS.iload Xl.here hexec rfl (hb hbytes d15) rfl ?_
        refine sipushV Xl.here hexec rfl 255 (hb hbytes d17) (by decide) ?_
        refine XS.icmpYes Xl.here hexec rfl (pc0 := 20) rfl (hb hbytes d20) rfl (ii_le_t (hp i (by omega))) (by decide) rfl ?_
        refine XS.aloadN Xl.here hexec rfl (hb hbytes d26) rfl rfl ?_
        refine XS.iloadN Xl.here hexec rfl (hb hbytes d27) rfl ?_
        refine XS.iload Xl.here hexec rfl (hb hbytes d28) rfl ?_
        refine i2b Xl.here hexec rfl (hb hbytes d30) rfl ?_
        exact Steps.refl _)
      obtain ⟨T7, X7, p7, st7⟩ := Xl.aput hexec hBk rfl hlt rfl (fits_lo8 (cv A (o + i))) (g := (mkF m 31 #[.val (.ref b), .val (.int (Int32.ofNat (o + i))), .val (.ref d), .val (.int (Int32.ofNat (q + i))), .val (.int (Int32.ofNat len)), .val (.int (Int32.ofNat i)), .val (.int (cv A (o + i)))] [.int (lo8 (cv A (o + i))), .int (Int32.ofNat (q + i)), .ref d])) rfl (rest := []) rfl (hb hbytes d31)
      have c8 : Steps p.tables e below (s₁.setTop (entryFrame m #[.ref b, .int (Int32.ofNat o), .ref d, .int (Int32.ofNat q), .int (Int32.ofNat len)] 7)) (T7.setTop (mkF m 32 #[.val (.ref b), .val (.int (Int32.ofNat (o + i))), .val (.ref d), .val (.int (Int32.ofNat (q + i))), .val (.int (Int32.ofNat len)), .val (.int (Int32.ofNat i)), .val (.int (cv A (o + i)))] [])) := c6.trans (st7 _ (Steps.refl _))
      have c9 : Steps p.tables e below (s₁.setTop (entryFrame m #[.ref b, .int (Int32.ofNat o), .ref d, .int (Int32.ofNat q), .int (Int32.ofNat len)] 7)) (T7.setTop (mkF m 3 #[.val (.ref b), .val (.int (Int32.ofNat (o + i) + 1)), .val (.ref d), .val (.int (Int32.ofNat (q + i) + 1)), .val (.int (Int32.ofNat len)), .val (.int (Int32.ofNat i + 1)), .val (.int (cv A (o + i)))] [])) := c8.trans (by
        refine iincV X7.here hexec rfl 1 (hb hbytes d32) (by decide) rfl rfl ?_
        refine iincV X7.here hexec rfl 1 (hb hbytes d35) (by decide) rfl rfl ?_
        refine iincV X7.here hexec rfl 1 (hb hbytes d38) (by decide) rfl rfl ?_
        refine XS.goto X7.here hexec rfl (pc0 := 41) rfl (hb hbytes d41) (by decide) rfl ?_
        exact Steps.refl _)
      have c10 : Steps p.tables e below (s₁.setTop (entryFrame m #[.ref b, .int (Int32.ofNat o), .ref d, .int (Int32.ofNat q), .int (Int32.ofNat len)] 7)) (T7.setTop (mkF m 3 #[.val (.ref b), .val (.int (Int32.ofNat (o + (i + 1)))), .val (.ref d), .val (.int (Int32.ofNat (q + (i + 1)))), .val (.int (Int32.ofNat len)), .val (.int (Int32.ofNat (i + 1))), .val (.int (cv A (o + i)))] [])) := by
        have := c9
        rw [succ32, succ32, succ32] at this
        exact this
      exact ih (i + 1) (by omega) _ (Or.inr ⟨_, rfl, rfl⟩) T7 _ (by rw [copyLocs_step, ← List.append_assoc]; exact X7) (pl.trans p7) (fl.step (by omega) hlt (by simp)) c10
  obtain ⟨T9, B9, z9, X9, p9, f9, g9⟩ := loop len 0 (by omega) .unset (Or.inl rfl) s₁ B (by simpa [copyLocs] using X0) ⟨hB0.1, fun _ _ => rfl, rfl⟩ (Laid.zero _ _ _) c2
  have c11 : Steps p.tables e below (s₁.setTop (entryFrame m #[.ref b, .int (Int32.ofNat o), .ref d, .int (Int32.ofNat q), .int (Int32.ofNat len)] 7)) (T9.setTop (mkF m 46 #[.val (.ref b), .val (.int (Int32.ofNat (o + len))), .val (.ref d), .val (.int (Int32.ofNat (q + len))), .val (.int (Int32.ofNat len)), .val (.int (Int32.ofNat len)), z9] [.int (Int32.ofNat len)])) := g9.trans (by
    refine XS.iload X9.here hexec rfl (hb hbytes d3) rfl ?_
    refine XS.iload X9.here hexec rfl (hb hbytes d5) rfl ?_
    refine XS.icmpYes X9.here hexec rfl (pc0 := 7) rfl (hb hbytes d7) rfl (ii_ge_t (nlt32 (by omega) (Nat.le_refl _))) (by decide) rfl ?_
    refine XS.iload X9.here hexec rfl (hb hbytes d44) rfl ?_
    exact Steps.refl _)
  exact ⟨T9, some (.int (Int32.ofNat len)), _, _, _, X9, by simp, rfl, rfl, (fun h => by cases h), ⟨rfl, B9, p9.from hh0, f9⟩, fun fs hl => c11.trans (X9.ireturnOut hexec hret rfl (Or.inl rfl) (hb hbytes d46) hl)⟩
end Cmp5
namespace Cmp3
def yN : MethodName := ⟨"java/lang/StringUTF16", "compress", "([CII)[B"⟩
abbrev yB : ByteArray := jdk_52_method_16_code
theorem d0 : decode yB 0 = .ok (.iload_n 2, 1) := by decide +kernel
theorem d1 : decode yB 1 = .ok (.newarray .byte, 2) := by decide +kernel
theorem d3 : decode yB 3 = .ok (.astore_n 3, 1) := by decide +kernel
theorem d4 : decode yB 4 = .ok (.aload_n 0, 1) := by decide +kernel
theorem d5 : decode yB 5 = .ok (.iload_n 1, 1) := by decide +kernel
theorem d6 : decode yB 6 = .ok (.aload_n 3, 1) := by decide +kernel
theorem d7 : decode yB 7 = .ok (.iconst 0, 1) := by decide +kernel
theorem d8 : decode yB 8 = .ok (.iload_n 2, 1) := by decide +kernel
theorem d9 : decode yB 9 = .ok (.invokestatic 115, 3) := by decide +kernel
theorem d12 : decode yB 12 = .ok (.istore 4, 2) := by decide +kernel
theorem d14 : decode yB 14 = .ok (.iload 4, 2) := by decide +kernel
theorem d16 : decode yB 16 = .ok (.iload_n 2, 1) := by decide +kernel
theorem d17 : decode yB 17 = .ok (.if_icmp (.eq) 40, 3) := by decide +kernel
theorem d57 : decode yB 57 = .ok (.aload_n 3, 1) := by decide +kernel
theorem d58 : decode yB 58 = .ok (.areturn, 1) := by decide +kernel
def site : List Cond := [.arrayClass .byte, Cmp5.tab] ++ staticW U16 115 Cmp5.yN
def tab : Cond := tabOf yN yB 6 (some (.array .byte)) site
def P (b : Addr) (A : Cell) (o len : Nat) (args : Array Value) (s : State) : Prop := args = #[.ref b, .int (Int32.ofNat o), .int (Int32.ofNat len)] ∧ Ch b A s ∧ o + len ≤ A.slots.size ∧ len ≤ 536870912 ∧ ∀ i, i < len → ¬ 255 < cv A (o + i)
def E (b : Addr) (A : Cell) (o len : Nat) (r : Option Value) (s u : State) : Prop := NewArr .byte "[B" len (fun j => .int (lo8 (cv A (o + j)))) r s u ∧ u.heap.size = s.heap.size + 1
/-- no char of the range above 255: a new byte[] of their low bytes -/
theorem law (l : Launch) (b : Addr) (A : Cell) (o len : Nat) : Law l yN 3 3 1 18 yB 6 (some (.array .byte)) site (P b A o len) (E b A o len) [] 1 len := by
  refine Law.of_walk (plainFor_of_name (by decide +kernel)) (by decide +kernel) (by decide +kernel) (by decide) (fun _ _ h => by rw [h.1]; rfl) (fun _ U U' hal hh h => ⟨h.1, h.2.1.mv hal hh, h.2.2⟩) (fun r U U' V V' h1 hal h2 h => ⟨NewArr.mv r U U' V V' h1 hal h2 h.1, by rw [h1, h2]; exact h.2⟩) ?_
  intro p e s m args below meth c s₁ X0 hexec hbytes hml hret hlk hnm hown hh0 W hP
  obtain ⟨rfl, hA, l1, l2, hp⟩ := hP
  have a31 := hA.1.2.2.2
  have c1 : Steps p.tables e below (s₁.setTop (entryFrame m #[.ref b, .int (Int32.ofNat o), .int (Int32.ofNat len)] 6)) (s₁.setTop (mkF m 0 #[.val (.ref b), .val (.int (Int32.ofNat o)), .val (.int (Int32.ofNat len)), .unset, .unset, .unset] [])) := entry rfl
  have c2 : Steps p.tables e below (s₁.setTop (entryFrame m #[.ref b, .int (Int32.ofNat o), .int (Int32.ofNat len)] 6)) (s₁.setTop (mkF m 1 #[.val (.ref b), .val (.int (Int32.ofNat o)), .val (.int (Int32.ofNat len)), .unset, .unset, .unset] [.int (Int32.ofNat len)])) := c1.trans (by
    refine XS.iloadN X0.here hexec rfl (hb hbytes d0) rfl ?_
    exact Steps.refl _)
  obtain ⟨T3, B3, X3, ba3, bs3, bv3, bh3, bf3, st3⟩ := X0.anew hexec (atype := .byte) (wk W (.arrayClass .byte)) rfl (by show len * 1 ≤ _; omega) (by omega) (g := (mkF m 1 #[.val (.ref b), .val (.int (Int32.ofNat o)), .val (.int (Int32.ofNat len)), .unset, .unset, .unset] [.int (Int32.ofNat len)])) rfl (hb hbytes d1) (rest := []) rfl (Nat.le_refl _) (by show 0 + len ≤ len; omega)
  rw [hh0] at ba3 st3
  have kp3 : XT.Kept s T3 := (XT.Kept.of_eq hh0).push bh3
  have hA3 := hA.keep X3.warmed.alike (kp3 _ _ hA.1.1)
  have hne : b ≠ s.heap.size := hA.1.ne
  have c4 : Steps p.tables e below (s₁.setTop (entryFrame m #[.ref b, .int (Int32.ofNat o), .int (Int32.ofNat len)] 6)) (T3.setTop (mkF m 3 #[.val (.ref b), .val (.int (Int32.ofNat o)), .val (.int (Int32.ofNat len)), .unset, .unset, .unset] [.ref s.heap.size])) := c2.trans (st3 _ (Steps.refl _))
  have c5 : Steps p.tables e below (s₁.setTop (entryFrame m #[.ref b, .int (Int32.ofNat o), .int (Int32.ofNat len)] 6)) (T3.setTop (mkF m 9 #[.val (.ref b), .val (.int (Int32.ofNat o)), .val (.int (Int32.ofNat len)), .val (.ref s.heap.size), .unset, .unset] [.int (Int32.ofNat len), .int 0, .ref s.heap.size, .int (Int32.ofNat o), .ref b])) := c4.trans (by
    refine XS.astoreN X3.here hexec rfl (hb hbytes d3) rfl rfl rfl ?_
    refine XS.aloadN X3.here hexec rfl (hb hbytes d4) rfl rfl ?_
    refine XS.iloadN X3.here hexec rfl (hb hbytes d5) rfl ?_
    refine XS.aloadN X3.here hexec rfl (hb hbytes d6) rfl rfl ?_
    refine iconstV X3.here hexec rfl 0 (hb hbytes d7) (by decide) ?_
    refine XS.iloadN X3.here hexec rfl (hb hbytes d8) rfl ?_
    exact Steps.refl _)
  obtain ⟨v6, T6, X6, E6, g6⟩ := X3.callS hexec (Cmp5.law l b A s.heap.size B3 o 0 len) hown (wks W (staticW U16 115 Cmp5.yN)) (wk W Cmp5.tab) (W := 0) (Nat.le_of_ble_eq_true rfl) (Nat.le_of_ble_eq_true rfl) (Nat.le_refl _) (by show 0 + len + 0 ≤ len; omega) (g := (mkF m 9 #[.val (.ref b), .val (.int (Int32.ofNat o)), .val (.int (Int32.ofNat len)), .val (.ref s.heap.size), .unset, .unset] [.int (Int32.ofNat len), .int (Int32.ofNat 0), .ref s.heap.size, .int (Int32.ofNat o), .ref b])) rfl (by rw [hml]; rfl) c5 (argsL := [.ref b, .int (Int32.ofNat o), .ref s.heap.size, .int (Int32.ofNat 0), .int (Int32.ofNat len)]) (rest := []) rfl rfl (by show 2 * 0 + 0 ≤ _; decide) (hb hbytes d9) (⟨rfl, hA3, ba3, hne, l1, by rw [bs3]; simp, hp⟩)
  obtain ⟨rfl, B6, p6, f6⟩ := E6
  have c7 : Steps p.tables e below (s₁.setTop (entryFrame m #[.ref b, .int (Int32.ofNat o), .int (Int32.ofNat len)] 6)) (T6.setTop (mkF m 12 #[.val (.ref b), .val (.int (Int32.ofNat o)), .val (.int (Int32.ofNat len)), .val (.ref s.heap.size), .unset, .unset] [.int (Int32.ofNat len)])) := g6
  have c8 : Steps p.tables e below (s₁.setTop (entryFrame m #[.ref b, .int (Int32.ofNat o), .int (Int32.ofNat len)] 6)) (T6.setTop (mkF m 58 #[.val (.ref b), .val (.int (Int32.ofNat o)), .val (.int (Int32.ofNat len)), .val (.ref s.heap.size), .val (.int (Int32.ofNat len)), .unset] [.ref s.heap.size])) := c7.trans (by
    refine XS.istore X6.here hexec rfl (hb hbytes d12) rfl rfl ?_
    refine XS.iload X6.here hexec rfl (hb hbytes d14) rfl ?_
    refine XS.iloadN X6.here hexec rfl (hb hbytes d16) rfl ?_
    refine XS.icmpYes X6.here hexec rfl (pc0 := 17) rfl (hb hbytes d17) rfl (ii_eq_t rfl) (by decide) rfl ?_
    refine XS.aloadN X6.here hexec rfl (hb hbytes d57) rfl rfl ?_
    exact Steps.refl _)
  have X8 := X6.wide (L' := []) (cells' := 1) (slots' := len) (fun x hx hlt => by
    simp only [List.nil_append, copyLocs, List.mem_map, List.mem_range] at hx
    obtain ⟨i, -, rfl⟩ := hx
    exact absurd hlt (Nat.lt_irrefl _)) (Nat.le_refl _) (by omega)
  exact ⟨T6, some (.ref s.heap.size), _, _, _, X8, rfl, rfl, rfl, (fun h => by cases h), ⟨⟨rfl, B6, ba3.like (X3.warmed.alike.symm.trans X6.warmed.alike) p6.1 f6.1 f6.2.1 f6.2.2.1, f6.2.1.trans bv3, by rw [X6.warmed.alike.findClass, f6.1]; exact bf3, by rw [f6.2.2.1, bs3]; simp, fun j hj => by rw [f6.2.2.2 j, if_pos (by omega)]; rfl, kp3.put p6 (Nat.le_refl _)⟩, by rw [p6.2.2, bh3, hh0]; simp⟩, fun fs hl => c8.trans (X8.areturnOut hexec rfl hret rfl (hb hbytes d58) hl)⟩
end Cmp3
namespace CodL
def yN : MethodName := ⟨"java/lang/StringUTF16", "coderFromArrayLen", "([BI)B"⟩
abbrev yB : ByteArray := jdk_52_method_15_code
theorem d0 : decode yB 0 = .ok (.iload_n 1, 1) := by decide +kernel
theorem d1 : decode yB 1 = .ok (.aload_n 0, 1) := by decide +kernel
theorem d2 : decode yB 2 = .ok (.arraylength, 1) := by decide +kernel
theorem d3 : decode yB 3 = .ok (.isub, 1) := by decide +kernel
theorem d4 : decode yB 4 = .ok (.bipush 31, 2) := by decide +kernel
theorem d6 : decode yB 6 = .ok (.iushr, 1) := by decide +kernel
theorem d7 : decode yB 7 = .ok (.i2b, 1) := by decide +kernel
theorem d8 : decode yB 8 = .ok (.ireturn, 1) := by decide +kernel
def site : List Cond := []
def tab : Cond := tabOf yN yB 2 (some .byte) site
def P (d : Addr) (B : Cell) (args : Array Value) (s : State) : Prop := args = #[.ref d, .int (Int32.ofNat B.slots.size)] ∧ Arr .byte d B s
def E (r : Option Value) (s u : State) : Prop := XT.PureE (some (.int 0)) r s u
/-- an array as long as the number of chars: LATIN1 -/
theorem law (l : Launch) (d : Addr) (B : Cell) : Law l yN 2 2 0 0 yB 2 (some .byte) site (P d B) E [] 0 0 := by
  refine Law.of_walk (plainFor_of_name (by decide +kernel)) (by decide +kernel) (by decide +kernel) (by decide) (fun _ _ h => by rw [h.1]; rfl) (fun _ U U' hal hh h => ⟨h.1, h.2.mv hal hh⟩) (fun r U U' V V' h1 hal h2 h => XT.PureE.mv r U U' V V' h1 hal h2 h) ?_
  intro p e s m args below meth c s₁ X0 hexec hbytes hml hret hlk hnm hown hh0 W hP
  obtain ⟨rfl, hB⟩ := hP
  have hB0 := hB.mv X0.warmed.alike hh0
  have c1 : Steps p.tables e below (s₁.setTop (entryFrame m #[.ref d, .int (Int32.ofNat B.slots.size)] 2)) (s₁.setTop (mkF m 0 #[.val (.ref d), .val (.int (Int32.ofNat B.slots.size))] [])) := entry rfl
  have c2 : Steps p.tables e below (s₁.setTop (entryFrame m #[.ref d, .int (Int32.ofNat B.slots.size)] 2)) (s₁.setTop (mkF m 2 #[.val (.ref d), .val (.int (Int32.ofNat B.slots.size))] [.ref d, .int (Int32.ofNat B.slots.size)])) := c1.trans (by
    refine XS.iloadN X0.here hexec rfl (hb hbytes d0) rfl ?_
    refine XS.aloadN X0.here hexec rfl (hb hbytes d1) rfl rfl ?_
    exact Steps.refl _)
  have c3 : Steps p.tables e below (s₁.setTop (entryFrame m #[.ref d, .int (Int32.ofNat B.slots.size)] 2)) (s₁.setTop (mkF m 8 #[.val (.ref d), .val (.int (Int32.ofNat B.slots.size))] [.int (lo8 (ushr (Int32.ofNat B.slots.size - Int32.ofNat B.slots.size) 31))])) := c2.trans (by
    refine X0.alen hexec hB0 rfl rfl (hb hbytes d2) ?_
    refine XS.isub X0.here hexec rfl (hb hbytes d3) rfl ?_
    refine bipushV X0.here hexec rfl 31 (hb hbytes d4) (by decide) ?_
    refine iushr X0.here hexec rfl (hb hbytes d6) rfl ?_
    refine i2b X0.here hexec rfl (hb hbytes d7) rfl ?_
    exact Steps.refl _)
  have e0 : lo8 (ushr (Int32.ofNat B.slots.size - Int32.ofNat B.slots.size) 31) = 0 := by rw [Int32.sub_self]; decide
  rw [e0] at c3
  exact ⟨s₁, some (.int 0), _, _, _, X0, rfl, rfl, rfl, (fun h => by cases h), ⟨rfl, hh0⟩, fun fs hl => c3.trans (X0.ireturnOut hexec hret rfl (Or.inr (Or.inr (Or.inl rfl))) (hb hbytes d8) hl)⟩
end CodL
/-- the String at a is Latin-1 over a new byte[] (the heap's one new cell): the low bytes of the len chars of A from o on; every cell but a is kept -/
def Got (a : Addr) (D : Cell) (fV fC : Field) (A : Cell) (o len : Nat) (r : Option Value) (s u : State) : Prop := r = none ∧ ∃ D' V : Cell, Blank "java/lang/String" a D' u ∧ Same D D' [fV.slot, fC.slot] ∧ D'.slots[fV.slot]? = some (.ref s.heap.size) ∧ D'.slots[fC.slot]? = some (.int 0) ∧ Arr .byte s.heap.size V u ∧ V.vm = .none ∧ u.vm.findClass "[B" = some V.cls ∧ V.slots.size = len ∧ (∀ j, j < len → V.slots[j]? = some (.int (lo8 (cv A (o + j))))) ∧ (∀ (y : Addr) (c : Cell), y ≠ a → s.heap[y]? = some c → u.heap[y]? = some c) ∧ u.heap.size = s.heap.size + 1
theorem Got.mv {a : Addr} {D A : Cell} {fV fC : Field} {o len : Nat} : ∀ r (U U' V V' : State), U'.heap = U.heap → V.vm.Alike V'.vm → V'.heap = V.heap → Got a D fV fC A o len r U V → Got a D fV fC A o len r U' V' :=
  fun r U U' V V' h1 hal h2 ⟨e0, D', X, a1, a2, a3, a4, a5, a6, a7, a8, a9, a10, a11⟩ => ⟨e0, D', X, a1.mv hal h2, a2, by rw [h1]; exact a3, a4, by rw [h1]; exact a5.mv hal h2, a6, by rw [hal.findClass]; exact a7, a8, a9, by rw [h1, h2]; exact a10, by rw [h1, h2]; exact a11⟩
namespace New4
def yN : MethodName := ⟨"java/lang/String", "<init>", "([CIILjava/lang/Void;)V"⟩
abbrev yB : ByteArray := jdk_42_method_149_code
theorem d0 : decode yB 0 = .ok (.aload_n 0, 1) := by decide +kernel
theorem d1 : decode yB 1 = .ok (.invokespecial 1, 3) := by decide +kernel
theorem d4 : decode yB 4 = .ok (.iload_n 3, 1) := by decide +kernel
theorem d5 : decode yB 5 = .ok (.ifCond (.ne) 22, 3) := by decide +kernel
theorem d27 : decode yB 27 = .ok (.getstatic 38, 3) := by decide +kernel
theorem d30 : decode yB 30 = .ok (.ifCond (.eq) 28, 3) := by decide +kernel
theorem d33 : decode yB 33 = .ok (.aload_n 1, 1) := by decide +kernel
theorem d34 : decode yB 34 = .ok (.iload_n 2, 1) := by decide +kernel
theorem d35 : decode yB 35 = .ok (.iload_n 3, 1) := by decide +kernel
theorem d36 : decode yB 36 = .ok (.invokestatic 177, 3) := by decide +kernel
theorem d39 : decode yB 39 = .ok (.astore 5, 2) := by decide +kernel
theorem d41 : decode yB 41 = .ok (.aload_n 0, 1) := by decide +kernel
theorem d42 : decode yB 42 = .ok (.aload 5, 2) := by decide +kernel
theorem d44 : decode yB 44 = .ok (.iload_n 3, 1) := by decide +kernel
theorem d45 : decode yB 45 = .ok (.invokestatic 47, 3) := by decide +kernel
theorem d48 : decode yB 48 = .ok (.putfield 15, 3) := by decide +kernel
theorem d51 : decode yB 51 = .ok (.aload_n 0, 1) := by decide +kernel
theorem d52 : decode yB 52 = .ok (.aload 5, 2) := by decide +kernel
theorem d54 : decode yB 54 = .ok (.putfield 9, 3) := by decide +kernel
theorem d57 : decode yB 57 = .ok (.return_, 1) := by decide +kernel
def site : List Cond := [.fieldLink "java/lang/String" 38 "java/lang/String" "COMPACT_STRINGS" "Z", Cmp3.tab, CodL.tab, .laysFinal "java/lang/String" "java/lang/String" "value" "[B", .fieldLink "java/lang/String" 9 "java/lang/String" "value" "[B", .laysFinal "java/lang/String" "java/lang/String" "coder" "B", .fieldLink "java/lang/String" 15 "java/lang/String" "coder" "B"] ++ objW "java/lang/String" 1 ++ staticW "java/lang/String" 177 Cmp3.yN ++ staticW "java/lang/String" 47 CodL.yN
def tab : Cond := tabOf yN yB 6 none site
def P (a : Addr) (D : Cell) (fV fC : Field) (b : Addr) (A : Cell) (z : Int32) (o len : Nat) (args : Array Value) (s : State) : Prop := args = #[.ref a, .ref b, .int (Int32.ofNat o), .int (Int32.ofNat len), .null] ∧ Blank "java/lang/String" a D s ∧ Found "java/lang/String" "value" "[B" fV s ∧ Found "java/lang/String" "coder" "B" fC s ∧ Ch b A s ∧ StaticIs s "java/lang/String" "COMPACT_STRINGS" "Z" (.int z) ∧ ¬ z = 0 ∧ 0 < len ∧ o + len ≤ A.slots.size ∧ len ≤ 536870912 ∧ ∀ i, i < len → ¬ 255 < cv A (o + i)
def E (a : Addr) (D : Cell) (fV fC : Field) (A : Cell) (o len : Nat) (r : Option Value) (s u : State) : Prop := Got a D fV fC A o len r s u
/-- len > 0, no char of the range above 255: a Latin-1 String of their low bytes -/
theorem law (l : Launch) (a : Addr) (D : Cell) (fV fC : Field) (b : Addr) (A : Cell) (z : Int32) (o len : Nat) : Law l yN 5 4 2 35 yB 6 none site (P a D fV fC b A z o len) (E a D fV fC A o len) [⟨a, fC.slot⟩, ⟨a, fV.slot⟩] 1 len := by
  refine Law.of_walk (plainFor_of_name (by decide +kernel)) (by decide +kernel) (by decide +kernel) (by decide) (fun _ _ h => by rw [h.1]; rfl) (fun _ U U' hal hh h => ⟨h.1, h.2.1.mv hal hh, h.2.2.1.al hal, h.2.2.2.1.al hal, h.2.2.2.2.1.mv hal hh, h.2.2.2.2.2.1.there hal hh, h.2.2.2.2.2.2⟩) (fun r U U' V V' h1 hal h2 h => Got.mv r U U' V V' h1 hal h2 h) ?_
  intro p e s m args below meth c s₁ X0 hexec hbytes hml hret hlk hnm hown hh0 W hP
  obtain ⟨rfl, hB, f1, f2, hA, s1, hz, l0, l1, l2, hp⟩ := hP
  have a31 := hA.1.2.2.2
  have c1 : Steps p.tables e below (s₁.setTop (entryFrame m #[.ref a, .ref b, .int (Int32.ofNat o), .int (Int32.ofNat len), .null] 6)) (s₁.setTop (mkF m 0 #[.val (.ref a), .val (.ref b), .val (.int (Int32.ofNat o)), .val (.int (Int32.ofNat len)), .val .null, .unset] [])) := entry rfl
  have c2 : Steps p.tables e below (s₁.setTop (entryFrame m #[.ref a, .ref b, .int (Int32.ofNat o), .int (Int32.ofNat len), .null] 6)) (s₁.setTop (mkF m 1 #[.val (.ref a), .val (.ref b), .val (.int (Int32.ofNat o)), .val (.int (Int32.ofNat len)), .val .null, .unset] [.ref a])) := c1.trans (by
    refine XS.aloadN X0.here hexec rfl (hb hbytes d0) rfl rfl ?_
    exact Steps.refl _)
  obtain ⟨T3, X3, q3, st3⟩ := X0.oinit hexec hown (wks W (objW "java/lang/String" 1)) (g := (mkF m 1 #[.val (.ref a), .val (.ref b), .val (.int (Int32.ofNat o)), .val (.int (Int32.ofNat len)), .val .null, .unset] [.ref a])) rfl (by rw [hml]; rfl) (rest := []) rfl (hb hbytes d1) (W := 0) (by show 2 * 0 + 0 ≤ _; decide) (Nat.le_of_ble_eq_true rfl) (Nat.le_of_ble_eq_true rfl)
  have hh3 := q3.trans hh0
  have c4 : Steps p.tables e below (s₁.setTop (entryFrame m #[.ref a, .ref b, .int (Int32.ofNat o), .int (Int32.ofNat len), .null] 6)) (T3.setTop (mkF m 27 #[.val (.ref a), .val (.ref b), .val (.int (Int32.ofNat o)), .val (.int (Int32.ofNat len)), .val .null, .unset] [])) := (c2.trans (st3 _ (Steps.refl _))).trans (by
    refine XS.iloadN X3.here hexec rfl (hb hbytes d4) rfl ?_
    refine XS.ifYes X3.here hexec rfl (pc0 := 5) rfl (hb hbytes d5) rfl (i0_ne_t (nz32 (by omega) l0)) (by decide) rfl ?_
    exact Steps.refl _)
  obtain ⟨T5, X5, q5, st5⟩ := X3.sget hexec hown (wk W (.fieldLink "java/lang/String" 38 "java/lang/String" "COMPACT_STRINGS" "Z")) s1 (fun _ _ h => by rw [hh3]; exact h) (g := (mkF m 27 #[.val (.ref a), .val (.ref b), .val (.int (Int32.ofNat o)), .val (.int (Int32.ofNat len)), .val .null, .unset] [])) rfl (hb hbytes d27)
  have hh5 := q5.trans hh3
  have c6 : Steps p.tables e below (s₁.setTop (entryFrame m #[.ref a, .ref b, .int (Int32.ofNat o), .int (Int32.ofNat len), .null] 6)) (T5.setTop (mkF m 30 #[.val (.ref a), .val (.ref b), .val (.int (Int32.ofNat o)), .val (.int (Int32.ofNat len)), .val .null, .unset] [.int z])) := c4.trans (st5 _ (Steps.refl _))
  have c7 : Steps p.tables e below (s₁.setTop (entryFrame m #[.ref a, .ref b, .int (Int32.ofNat o), .int (Int32.ofNat len), .null] 6)) (T5.setTop (mkF m 36 #[.val (.ref a), .val (.ref b), .val (.int (Int32.ofNat o)), .val (.int (Int32.ofNat len)), .val .null, .unset] [.int (Int32.ofNat len), .int (Int32.ofNat o), .ref b])) := c6.trans (by
    refine XS.ifNo X5.here hexec rfl (hb hbytes d30) rfl (i0_eq_f hz) ?_
    refine XS.aloadN X5.here hexec rfl (hb hbytes d33) rfl rfl ?_
    refine XS.iloadN X5.here hexec rfl (hb hbytes d34) rfl ?_
    refine XS.iloadN X5.here hexec rfl (hb hbytes d35) rfl ?_
    exact Steps.refl _)
  obtain ⟨v8, T8, X8, E8, g8⟩ := X5.callS hexec (Cmp3.law l b A o len) hown (wks W (staticW "java/lang/String" 177 Cmp3.yN)) (wk W Cmp3.tab) (W := 0) (Nat.le_of_ble_eq_true rfl) (Nat.le_of_ble_eq_true rfl) (Nat.le_refl _) (by show 0 + len ≤ len; omega) (g := (mkF m 36 #[.val (.ref a), .val (.ref b), .val (.int (Int32.ofNat o)), .val (.int (Int32.ofNat len)), .val .null, .unset] [.int (Int32.ofNat len), .int (Int32.ofNat o), .ref b])) rfl (by rw [hml]; rfl) c7 (argsL := [.ref b, .int (Int32.ofNat o), .int (Int32.ofNat len)]) (rest := []) rfl rfl (by show 2 * 0 + 0 ≤ _; decide) (hb hbytes d36) (⟨rfl, hA.mv X5.warmed.alike hh5, l1, l2, hp⟩)
  obtain ⟨e8, z8⟩ := E8
  obtain ⟨rfl, N, n1, n2, n3, n4, n5, n6⟩ := NewArr.mv _ T5 s _ _ hh5.symm (Vm.Alike.refl _) rfl e8
  rw [hh5] at z8
  have hB1 := hB.keep X8.warmed.alike (n6 _ _ hB.1)
  have hne : s.heap.size ≠ a := (Nat.ne_of_lt (Array.getElem?_eq_some_iff.mp hB.1).1).symm
  have c9 : Steps p.tables e below (s₁.setTop (entryFrame m #[.ref a, .ref b, .int (Int32.ofNat o), .int (Int32.ofNat len), .null] 6)) (T8.setTop (mkF m 39 #[.val (.ref a), .val (.ref b), .val (.int (Int32.ofNat o)), .val (.int (Int32.ofNat len)), .val .null, .unset] [.ref s.heap.size])) := g8
  have c10 : Steps p.tables e below (s₁.setTop (entryFrame m #[.ref a, .ref b, .int (Int32.ofNat o), .int (Int32.ofNat len), .null] 6)) (T8.setTop (mkF m 45 #[.val (.ref a), .val (.ref b), .val (.int (Int32.ofNat o)), .val (.int (Int32.ofNat len)), .val .null, .val (.ref s.heap.size)] [.int (Int32.ofNat N.slots.size), .ref s.heap.size, .ref a])) := by
    have hc : Steps p.tables e below (s₁.setTop (entryFrame m #[.ref a, .ref b, .int (Int32.ofNat o), .int (Int32.ofNat len), .null] 6)) (T8.setTop (mkF m 45 #[.val (.ref a), .val (.ref b), .val (.int (Int32.ofNat o)), .val (.int (Int32.ofNat len)), .val .null, .val (.ref s.heap.size)] [.int (Int32.ofNat len), .ref s.heap.size, .ref a])) := c9.trans (by
      refine XS.astore X8.here hexec rfl (hb hbytes d39) rfl rfl rfl ?_
      refine XS.aloadN X8.here hexec rfl (hb hbytes d41) rfl rfl ?_
      refine XS.aload X8.here hexec rfl (hb hbytes d42) rfl rfl ?_
      refine XS.iloadN X8.here hexec rfl (hb hbytes d44) rfl ?_
      exact Steps.refl _)
    rw [n4]; exact hc
  obtain ⟨v11, T11, X11, E11, g11⟩ := X8.callS hexec (CodL.law l s.heap.size N) hown (wks W (staticW "java/lang/String" 47 CodL.yN)) (wk W CodL.tab) (W := 1) (Nat.le_of_ble_eq_true rfl) (Nat.le_of_ble_eq_true rfl) (Nat.le_refl _) (by show 0 + len + 0 ≤ len; omega) (g := (mkF m 45 #[.val (.ref a), .val (.ref b), .val (.int (Int32.ofNat o)), .val (.int (Int32.ofNat len)), .val .null, .val (.ref s.heap.size)] [.int (Int32.ofNat N.slots.size), .ref s.heap.size, .ref a])) rfl (by rw [hml]; rfl) c10 (argsL := [.ref s.heap.size, .int (Int32.ofNat N.slots.size)]) (rest := [.ref a]) rfl rfl (by show 2 * 0 + (1 + 0) ≤ _; decide) (hb hbytes d45) (⟨rfl, n1⟩)
  obtain ⟨rfl, q11⟩ := E11
  have hB11 := hB1.mv (X8.warmed.alike.symm.trans X11.warmed.alike) q11
  have c12 : Steps p.tables e below (s₁.setTop (entryFrame m #[.ref a, .ref b, .int (Int32.ofNat o), .int (Int32.ofNat len), .null] 6)) (T11.setTop (mkF m 48 #[.val (.ref a), .val (.ref b), .val (.int (Int32.ofNat o)), .val (.int (Int32.ofNat len)), .val .null, .val (.ref s.heap.size)] [.int 0, .ref a])) := g11
  obtain ⟨T13, X13, p13, bl13, sl13, st13⟩ := X11.finit hexec hown (wk W (.fieldLink "java/lang/String" 15 "java/lang/String" "coder" "B")) (Or.inr ⟨_, (wk W (.laysFinal "java/lang/String" "java/lang/String" "coder" "B"))⟩) (Or.inl ⟨rfl, hnm⟩) f2 (Or.inl rfl) hB11 (t := .byte) (by decide +kernel) rfl (g := (mkF m 48 #[.val (.ref a), .val (.ref b), .val (.int (Int32.ofNat o)), .val (.int (Int32.ofNat len)), .val .null, .val (.ref s.heap.size)] [.int 0, .ref a])) rfl (rest := []) rfl (hb hbytes d48)
  have c14 : Steps p.tables e below (s₁.setTop (entryFrame m #[.ref a, .ref b, .int (Int32.ofNat o), .int (Int32.ofNat len), .null] 6)) (T13.setTop (mkF m 54 #[.val (.ref a), .val (.ref b), .val (.int (Int32.ofNat o)), .val (.int (Int32.ofNat len)), .val .null, .val (.ref s.heap.size)] [.ref s.heap.size, .ref a])) := (c12.trans (st13 _ (Steps.refl _))).trans (by
    refine XS.aloadN X13.here hexec rfl (hb hbytes d51) rfl rfl ?_
    refine XS.aload X13.here hexec rfl (hb hbytes d52) rfl rfl ?_
    exact Steps.refl _)
  obtain ⟨T15, X15, p15, bl15, sl15, st15⟩ := X13.finit hexec hown (wk W (.fieldLink "java/lang/String" 9 "java/lang/String" "value" "[B")) (Or.inr ⟨_, (wk W (.laysFinal "java/lang/String" "java/lang/String" "value" "[B"))⟩) (Or.inl ⟨rfl, hnm⟩) f1 (Or.inl rfl) bl13 (t := (.array .byte)) (by decide +kernel) rfl (g := (mkF m 54 #[.val (.ref a), .val (.ref b), .val (.int (Int32.ofNat o)), .val (.int (Int32.ofNat len)), .val .null, .val (.ref s.heap.size)] [.ref s.heap.size, .ref a])) rfl (rest := []) rfl (hb hbytes d54)
  have c16 : Steps p.tables e below (s₁.setTop (entryFrame m #[.ref a, .ref b, .int (Int32.ofNat o), .int (Int32.ofNat len), .null] 6)) (T15.setTop (mkF m 57 #[.val (.ref a), .val (.ref b), .val (.int (Int32.ofNat o)), .val (.int (Int32.ofNat len)), .val .null, .val (.ref s.heap.size)] [])) := c14.trans (st15 _ (Steps.refl _))
  have ap := apart (Or.inr ⟨_, (wk W (.laysFinal "java/lang/String" "java/lang/String" "value" "[B"))⟩) (Or.inr ⟨_, (wk W (.laysFinal "java/lang/String" "java/lang/String" "coder" "B"))⟩) f1 f2 (t₁ := .array .byte) (t₂ := .byte) (by decide +kernel) (by decide +kernel) (by decide)
  have al := X8.warmed.alike.symm.trans X15.warmed.alike
  have n7 : T11.heap[s.heap.size]? = some N := by rw [q11]; exact n1.1
  exact ⟨T15, none, _, _, _, X15, by simp, rfl, by omega, (fun _ => rfl), ⟨rfl, _, N, bl15, ((Same.refl D _).set _ (by simp)).set _ (by simp), sl15, (Cell.slots_setSlot_ne _ ap).trans sl13, n1.keep al (p15.other hne (p13.other hne n7)), n2, by rw [al.findClass]; exact n3, n4, n5, fun y c h1 h2 => p15.other h1 (p13.other h1 (by rw [q11]; exact n6 y c h2)), by rw [p15.2.2, p13.2.2, q11]; exact z8⟩, fun fs hl => c16.trans (X15.returnOut hexec hret (hb hbytes d57) hl)⟩
end New4
namespace New1
def yN : MethodName := ⟨"java/lang/String", "<init>", "([C)V"⟩
abbrev yB : ByteArray := jdk_42_method_3_code
theorem d0 : decode yB 0 = .ok (.aload_n 0, 1) := by decide +kernel
theorem d1 : decode yB 1 = .ok (.aload_n 1, 1) := by decide +kernel
theorem d2 : decode yB 2 = .ok (.iconst 0, 1) := by decide +kernel
theorem d3 : decode yB 3 = .ok (.aload_n 1, 1) := by decide +kernel
theorem d4 : decode yB 4 = .ok (.arraylength, 1) := by decide +kernel
theorem d5 : decode yB 5 = .ok (.aconst_null, 1) := by decide +kernel
theorem d6 : decode yB 6 = .ok (.invokespecial 27, 3) := by decide +kernel
theorem d9 : decode yB 9 = .ok (.return_, 1) := by decide +kernel
def site : List Cond := [New4.tab] ++ initW "java/lang/String" 27 New4.yN
def tab : Cond := tabOf yN yB 2 none site
def P (a : Addr) (D : Cell) (fV fC : Field) (b : Addr) (A : Cell) (z : Int32) (args : Array Value) (s : State) : Prop := args = #[.ref a, .ref b] ∧ Blank "java/lang/String" a D s ∧ Found "java/lang/String" "value" "[B" fV s ∧ Found "java/lang/String" "coder" "B" fC s ∧ Ch b A s ∧ StaticIs s "java/lang/String" "COMPACT_STRINGS" "Z" (.int z) ∧ ¬ z = 0 ∧ 0 < A.slots.size ∧ A.slots.size ≤ 536870912 ∧ ∀ i, i < A.slots.size → ¬ 255 < cv A i
def E (a : Addr) (D : Cell) (fV fC : Field) (A : Cell) (r : Option Value) (s u : State) : Prop := Got a D fV fC A 0 A.slots.size r s u
/-- new String(chars), not empty, no char above 255: a Latin-1 String of their low bytes -/
theorem law (l : Launch) (a : Addr) (D : Cell) (fV fC : Field) (b : Addr) (A : Cell) (z : Int32) : Law l yN 2 1 3 52 yB 2 none site (P a D fV fC b A z) (E a D fV fC A) [⟨a, fC.slot⟩, ⟨a, fV.slot⟩] 1 A.slots.size := by
  refine Law.of_walk (plainFor_of_name (by decide +kernel)) (by decide +kernel) (by decide +kernel) (by decide) (fun _ _ h => by rw [h.1]; rfl) (fun _ U U' hal hh h => ⟨h.1, h.2.1.mv hal hh, h.2.2.1.al hal, h.2.2.2.1.al hal, h.2.2.2.2.1.mv hal hh, h.2.2.2.2.2.1.there hal hh, h.2.2.2.2.2.2⟩) (fun r U U' V V' h1 hal h2 h => Got.mv r U U' V V' h1 hal h2 h) ?_
  intro p e s m args below meth c s₁ X0 hexec hbytes hml hret hlk hnm hown hh0 W hP
  obtain ⟨rfl, hB, f1, f2, hA, s1, hz, l0, l2, hp⟩ := hP
  have c1 : Steps p.tables e below (s₁.setTop (entryFrame m #[.ref a, .ref b] 2)) (s₁.setTop (mkF m 0 #[.val (.ref a), .val (.ref b)] [])) := entry rfl
  have c2 : Steps p.tables e below (s₁.setTop (entryFrame m #[.ref a, .ref b] 2)) (s₁.setTop (mkF m 6 #[.val (.ref a), .val (.ref b)] [.null, .int (Int32.ofNat A.slots.size), .int 0, .ref b, .ref a])) := c1.trans (by
    refine XS.aloadN X0.here hexec rfl (hb hbytes d0) rfl rfl ?_
    refine XS.aloadN X0.here hexec rfl (hb hbytes d1) rfl rfl ?_
    refine iconstV X0.here hexec rfl 0 (hb hbytes d2) (by decide) ?_
    refine XS.aloadN X0.here hexec rfl (hb hbytes d3) rfl rfl ?_
    refine X0.alen hexec (hA.1.mv X0.warmed.alike hh0) rfl rfl (hb hbytes d4) ?_
    refine XS.aconstNull X0.here hexec rfl (hb hbytes d5) ?_
    exact Steps.refl _)
  obtain ⟨v3, T3, X3, E3, g3⟩ := X0.callN hexec (New4.law l a D fV fC b A z 0 A.slots.size) rfl hown (wks W (initW "java/lang/String" 27 New4.yN)) (W New4.tab (by simp only [site, List.mem_cons, List.mem_append, true_or, or_true])) (W := 0) (Nat.le_of_ble_eq_true rfl) (Nat.le_of_ble_eq_true rfl) (Nat.le_refl _) (by show 0 + A.slots.size ≤ A.slots.size; omega) (g := (mkF m 6 #[.val (.ref a), .val (.ref b)] [.null, .int (Int32.ofNat A.slots.size), .int (Int32.ofNat 0), .ref b, .ref a])) rfl (by rw [hml]; rfl) c2 (argsL := [.ref b, .int (Int32.ofNat 0), .int (Int32.ofNat A.slots.size), .null]) (rest := []) rfl rfl (by show 2 * 0 + 0 ≤ _; decide) (hb hbytes d6) (⟨rfl, hB.mv X0.warmed.alike hh0, f1.al X0.warmed.alike, f2.al X0.warmed.alike, hA.mv X0.warmed.alike hh0, s1.there X0.warmed.alike hh0, hz, l0, by omega, l2, fun i hi => by rw [Nat.zero_add]; exact hp i hi⟩)
  have e0 := Got.mv _ s₁ s _ _ hh0.symm (Vm.Alike.refl _) rfl E3
  obtain rfl := e0.1
  have c4 : Steps p.tables e below (s₁.setTop (entryFrame m #[.ref a, .ref b] 2)) (T3.setTop (mkF m 9 #[.val (.ref a), .val (.ref b)] [])) := g3
  exact ⟨T3, none, _, _, _, X3, by simp, rfl, by omega, (fun _ => rfl), e0, fun fs hl => c4.trans (X3.returnOut hexec hret (hb hbytes d9) hl)⟩
theorem pays {l : Launch} {R : Room} {p : Program} {e : Env} {below : List Frame} {s : State} {sargs : Array Value} {len W : Nat} (a : Addr) (D : Cell) (fV fC : Field) (b : Addr) (A : Cell) (z : Int32) (htab : tab.before sargs s = true) (hfr : 4 ≤ R.frames) (hlo : W + 65 ≤ R.locals) :
    Back l R p e below s sargs yN len W (fun A₁ a₁ => A₁.cells + 1 ≤ R.cells ∧ A₁.slots + A.slots.size ≤ R.slots ∧ P a D fV fC b A z a₁ A₁.U) (fun A₁ _ v₁ B₁ => E a D fV fC A v₁ A₁.U B₁.U ∧ B₁.locs = A₁.locs ++ [⟨a, fC.slot⟩, ⟨a, fV.slot⟩] ∧ B₁.cells = A₁.cells + 1 ∧ B₁.slots = A₁.slots + A.slots.size) :=
  (law l a D fV fC b A z).pays htab hfr (by omega)
end New1
/-- the byte, read back as charAt reads it, is the char -/
theorem lo8_mask {x : Int32} (h0 : ¬ x < 0) (h1 : ¬ 255 < x) : lo8 x &&& 255 = x := by
  have t : ∀ k : Fin 256, lo8 (Int32.ofNat k.val) &&& 255 = Int32.ofNat k.val := by decide +kernel
  rw [Int32.lt_iff_toInt_lt] at h0 h1
  have e0 : (0 : Int32).toInt = 0 := rfl
  have e1 : (255 : Int32).toInt = 255 := rfl
  obtain ⟨k, hk⟩ : ∃ k : Nat, x.toInt = k := ⟨x.toInt.toNat, by omega⟩
  have hx : x = Int32.ofNat k := Int32.toInt_inj.mp (by rw [hk, Int32.toInt_ofNat_small (by omega)])
  rw [hx]
  exact t ⟨k, by omega⟩
end StrChars
namespace StrChars.Road
open Jvm Sem ClassFile Op Lib Jvm.Stand Jvm.Free Jvm.Free.XT
open Jvm.Lib.Cold (StaticIs)
abbrev ST : String := "java/lang/String"
/-- every table word that New1's law asks, flat -/
abbrev words : List Jvm.Cond := [.code New1.yN New1.yB 2 none, .initialized ST, .methodLink ST 27 New4.yN, .instanceMethod New4.yN,
  .code New4.yN New4.yB 6 none, .fieldLink ST 38 ST "COMPACT_STRINGS" "Z", .laysFinal ST ST "value" "[B", .fieldLink ST 9 ST "value" "[B", .laysFinal ST ST "coder" "B", .fieldLink ST 15 ST "coder" "B",
  .methodLink ST 1 Lib.objectInit, .instanceMethod Lib.objectInit, .code Lib.objectInit ⟨#[0xb1]⟩ 1 none, .methodLink ST 177 Cmp3.yN, .static Cmp3.yN, .methodLink ST 47 CodL.yN, .static CodL.yN,
  .code Cmp3.yN Cmp3.yB 6 (some (.array .byte)), .initialized U16, .arrayClass .byte, .methodLink U16 115 Cmp5.yN, .static Cmp5.yN, .code Cmp5.yN Cmp5.yB 7 (some .int), .code CodL.yN CodL.yB 2 (some .byte)]
theorem tab_of {a : Array Value} {s : State} (h : ∀ w ∈ words, w.before a s = true) : New1.tab.before a s = true := by
  have h5 : Cmp5.tab.before a s = true := unparts (wk h (.code Cmp5.yN Cmp5.yB 7 (some .int))) (wks h (.initialized Cmp5.yN.cls :: Cmp5.site))
  have hc : CodL.tab.before a s = true := unparts (wk h (.code CodL.yN CodL.yB 2 (some .byte))) (wks h (.initialized CodL.yN.cls :: CodL.site))
  have q5 : ∀ w ∈ Cmp5.tab :: words, w.before a s = true := fun w hw => (List.mem_cons.mp hw).elim (fun e => e ▸ h5) (h w)
  have h3 : Cmp3.tab.before a s = true := unparts (wk q5 (.code Cmp3.yN Cmp3.yB 6 (some (.array .byte)))) (wks q5 (.initialized Cmp3.yN.cls :: Cmp3.site))
  have q3 : ∀ w ∈ Cmp3.tab :: CodL.tab :: words, w.before a s = true := fun w hw => (List.mem_cons.mp hw).elim (fun e => e ▸ h3) fun hw => (List.mem_cons.mp hw).elim (fun e => e ▸ hc) (h w)
  have h4 : New4.tab.before a s = true := unparts (wk q3 (.code New4.yN New4.yB 6 none)) (wks q3 (.initialized New4.yN.cls :: New4.site))
  have q4 : ∀ w ∈ New4.tab :: words, w.before a s = true := fun w hw => (List.mem_cons.mp hw).elim (fun e => e ▸ h4) (h w)
  exact unparts (wk q4 (.code New1.yN New1.yB 2 none)) (wks q4 (.initialized New1.yN.cls :: New1.site))
/-- the words ride from the start Z to the walk's own state -/
theorem moved {Z s : State} {a0 args : Array Value} (hZ : Z.Warmed39 s.vm) (hw : ∀ d ∈ words, d.before a0 Z = true) : ∀ d ∈ words, d.before args s = true := fun d hd => by
  have q := hw d hd
  have t : ∀ d ∈ words, d = .arrayClass .byte ∨ (d.onTables && d.keepsFace) = true := by decide +kernel
  rcases t d hd with rfl | t
  · exact RoadKit.mvA hZ q
  · exact RoadKit.mv hZ q t
/-- WHAT COMES BACK, over the tables of the start Z: h the heap at the call, h' behind it -/
def Q (Z : State) (x : Addr) (A : Cell) (h : Heap) (v : Option Value) (h' : Heap) (L : List Loc) : Prop := v = none ∧ (∀ y ∈ L, y.base = x) ∧ RoadKit.Keep h h' [x] ∧ h'.size = h.size + 1 ∧ RoadKit.Exa Z h' x ST ∧ RoadKit.Fld Z h' x ST "value" "[B" (.ref h.size) ∧ RoadKit.Fld Z h' x ST "coder" "B" (.int 0) ∧
  (∃ V : Cell, RoadKit.Arr Z h' h.size V .byte ∧ V.vm = .none ∧ Z.vm.findClass "[B" = some V.cls ∧ V.slots.size = A.slots.size ∧ ∀ j, j < A.slots.size → V.slots[j]? = some (.int (lo8 (cv A j)))) ∧
  ∀ (O n d : String) (w : Value), RoadKit.Fld Z h x O n d w → RoadKit.slotOf Z O n d ≠ RoadKit.slotOf Z ST "value" "[B" → RoadKit.slotOf Z O n d ≠ RoadKit.slotOf Z ST "coder" "B" → RoadKit.Fld Z h' x O n d w
/-- **new String(chars) AT A CALL, IN THE ROAD'S FORM**: for specialBack behind newO: x the fresh String, b the char[] with the cell A -/
theorem back {p : Program} {l : Launch} {e : Env} {R : Room} {s : State} {args : Array Value} {below : List Frame} {len W : Nat} {Z : State} {a0 : Array Value} {h : Heap} (hZ : Z.Warmed39 s.vm) (hw : ∀ d ∈ words, d.before a0 Z = true) {kI : Nat} (wi : (Jvm.Cond.instantiable ST kI).before a0 Z = true)
    {x b : Addr} {A : Cell} {z : Int32} {v0 c0 : Value} (E : RoadKit.Exa Z h x ST) (V : RoadKit.Fld Z h x ST "value" "[B" v0) (C : RoadKit.Fld Z h x ST "coder" "B" c0) (K : RoadKit.Arr Z h b A .char) (hty : Typed .char A) (S : RoadKit.Sta Z h ST "COMPACT_STRINGS" "Z" (.int z)) (hz : ¬ z = 0)
    (l0 : 0 < A.slots.size) (l2 : A.slots.size ≤ 536870912) (hp : ∀ i, i < A.slots.size → ¬ 255 < cv A i) (hfr : 4 ≤ R.frames) (hlo : W + 65 ≤ R.locals) :
    Back l R p e below s args New1.yN len W (fun P a => a = #[.ref x, .ref b] ∧ P.U.heap = h ∧ P.cells + 1 ≤ R.cells ∧ P.slots + A.slots.size ≤ R.slots)
      (fun P _ v B => ∃ L, Q Z x A h v B.U.heap L ∧ B.locs = P.locs ++ L ∧ B.cells = P.cells + 1 ∧ B.slots = P.slots + A.slots.size) := by
  intro m meth c P g ig mk a X hg hsize hdg hW hn hp'
  obtain ⟨rfl, rfl, r1, r2⟩ := hp'
  have al : Z.vm.Alike P.U.vm := hZ.alike.trans X.warmed.alike
  obtain ⟨D, cfV, kV, iV, fV, hD, gV, stV, knV, obV, asV, slV⟩ := id V
  obtain ⟨D', cfC, kC, iC, fC, hD', gC, stC, -, -, asC, slC⟩ := id C
  cases hD.symm.trans hD'
  obtain ⟨D2, kD, e1, e2, e3, e4, e5⟩ := id E
  cases hD.symm.trans e1
  obtain ⟨c2, k2, i1, i2, i3, -⟩ := Cond.instantiable_spec wi
  cases e2.symm.trans i1
  cases e3.symm.trans i2
  obtain ⟨kU, u1, u2⟩ := al.2.2 _ _ e3
  have hB : Blank ST x D P.U := ⟨hD, ⟨knV, fun q hq => by rw [hq] at obV; cases obV⟩, by rw [al.findClass]; exact e2, kU, u1, by rw [u2]; exact i3, by rw [u2]; exact e5 i3⟩
  have F1 : Found ST "value" "[B" fV P.U := ⟨SBG.found_only al ⟨cfV, kV, iV, gV⟩, stV⟩
  have F2 : Found ST "coder" "B" fC P.U := ⟨SBG.found_only al ⟨cfC, kC, iC, gC⟩, stC⟩
  have hA : Ch b A P.U := ⟨⟨K.1, State.isArrayOf_alike al K.2.1, K.2.2, by omega⟩, hty⟩
  have hS : StaticIs P.U ST "COMPACT_STRINGS" "Z" (.int z) := by
    obtain ⟨cfS, iS, kS, fS, st, cS, t1, t2, t3, t4, t5, t6, t7⟩ := S
    exact StaticIs.there (s := { Z with heap := P.U.heap }) ⟨cfS, iS, kS, fS, st, cS, t1, t2, t3, t4, t5, (fun q => by rw [q] at t6; cases t6), t7⟩ al rfl
  obtain ⟨v, B, X', ⟨⟨hv, E', V', q1, q2, q3, q4, q5, q6, q7, q8, q9, q10, q11⟩, hl, hc, hs⟩, st⟩ := New1.pays x D fV fC b A z (tab_of (moved hZ hw)) hfr hlo m meth c P g ig mk _ X hg hsize hdg hW hn ⟨r1, r2, rfl, hB, F1, F2, hA, hS, hz, l0, l2, hp⟩
  have al' : Z.vm.Alike B.U.vm := hZ.alike.trans X'.warmed.alike
  have hsz : E'.slots.size = D.slots.size := by
    obtain ⟨-, -, -, kB, w1, w2, w3⟩ := q1
    obtain ⟨kB', y1, y2⟩ := al'.2.2 _ _ e3
    rw [q2.2.1] at w1
    cases w1.symm.trans y1
    rw [w3, e5 i3, y2]
  refine ⟨v, B, X', ⟨_, ⟨hv, ?_, ⟨by omega, fun y cy hy hn' => q10 y cy (by simpa using hn') hy, fun y cy hy => ?_⟩, q11, ⟨E', _, q1.1, by rw [q2.2.1]; exact e2, by rw [q2.2.1]; exact e3, by rw [q2.1]; exact obV, fun _ => by rw [hsz]; exact e5 i3⟩,
    ⟨E', cfV, kV, iV, fV, q1.1, gV, stV, by rw [q2.1]; exact knV, by rw [q2.1]; exact obV, by rw [q2.2.1]; exact asV, q3⟩, ⟨E', cfC, kC, iC, fC, q1.1, gC, stC, by rw [q2.1]; exact knV, by rw [q2.1]; exact obV, by rw [q2.2.1]; exact asC, q4⟩,
    ⟨V', ⟨q5.1, State.isArrayOf_alike al'.symm q5.2.1, q5.2.2.1⟩, q6, by rw [← al'.findClass]; exact q7, q8, fun j hj => by have := q9 j hj; rwa [Nat.zero_add] at this⟩, fun O n d w F n1 n2 => ?_⟩, hl, hc, hs⟩, st⟩
  · intro y hy
    simp only [List.mem_cons, List.not_mem_nil, or_false] at hy
    rcases hy with rfl | rfl <;> rfl
  · by_cases q : y = x
    · subst q
      cases hD.symm.trans hy
      exact ⟨E', q1.1, q2.2.1, q2.1, hsz⟩
    · exact ⟨cy, q10 y cy q hy, rfl, rfl, rfl⟩
  · obtain ⟨D3, cf, k, i, f, g1, g2, g3, g4, g5, g6, g7⟩ := F
    cases hD.symm.trans g1
    simp only [RoadKit.slotOf, g2, gV, gC, Option.map_some, Option.getD_some] at n1 n2
    exact ⟨E', cf, k, i, f, q1.1, g2, g3, by rw [q2.1]; exact g4, by rw [q2.1]; exact g5, by rw [q2.2.1]; exact g6, by rw [q2.2.2 f.slot (by simp [n1, n2])]; exact g7⟩
end StrChars.Road
namespace StrChars.Road
open Jvm Sem ClassFile Op Lib Jvm.Stand Jvm.Free Jvm.Free.XT
/-- WHAT COMES BACK, the byte[] as a list of values -/
def QA (Z : State) (x : Addr) (zn : Int32) (cs : List Int32) (h : Heap) (v : Option Value) (h' : Heap) (L : List Loc) : Prop := v = none ∧ (∀ y ∈ L, y.base = x) ∧ RoadKit.Keep h h' [x] ∧ h'.size = h.size + 1 ∧ RoadKit.Exa Z h' x ST ∧ RoadKit.Fld Z h' x ST "value" "[B" (.ref h.size) ∧ RoadKit.Fld Z h' x ST "coder" "B" (.int 0) ∧
  (∃ kb, Z.vm.findClass "[B" = some kb ∧ RoadKit.Arv Z h' h.size kb .byte zn (cs.map fun c => .int (lo8 c)) (.int 0)) ∧
  ∀ (O n d : String) (w : Value), RoadKit.Fld Z h x O n d w → RoadKit.slotOf Z O n d ≠ RoadKit.slotOf Z ST "value" "[B" → RoadKit.slotOf Z O n d ≠ RoadKit.slotOf Z ST "coder" "B" → RoadKit.Fld Z h' x O n d w
/-- **new String(chars) AT A CALL, THE ARRAYS AS LISTS**: the char[] at b holds cs, not empty, no char above 255 -/
theorem backArv {p : Program} {l : Launch} {e : Env} {R : Room} {s : State} {args : Array Value} {below : List Frame} {len W : Nat} {Z : State} {a0 : Array Value} {h : Heap} (hZ : Z.Warmed39 s.vm) (hw : ∀ d ∈ words, d.before a0 Z = true) {kI : Nat} (wi : (Jvm.Cond.instantiable ST kI).before a0 Z = true)
    {x b : Addr} {k : ClassId} {zn z : Int32} {cs : List Int32} {dv v0 c0 : Value} (E : RoadKit.Exa Z h x ST) (V : RoadKit.Fld Z h x ST "value" "[B" v0) (C : RoadKit.Fld Z h x ST "coder" "B" c0) (K : RoadKit.Arv Z h b k .char zn (cs.map Value.int) dv) (S : RoadKit.Sta Z h ST "COMPACT_STRINGS" "Z" (.int z)) (hz : ¬ z = 0)
    (hlen : zn.toNatClampNeg = cs.length) (h0 : 0 < cs.length) (hbig : cs.length ≤ 536870912) (hall : ∀ c ∈ cs, ¬ 255 < c) (hfr : 4 ≤ R.frames) (hlo : W + 65 ≤ R.locals) :
    Back l R p e below s args New1.yN len W (fun P a => a = #[.ref x, .ref b] ∧ P.U.heap = h ∧ P.cells + 1 ≤ R.cells ∧ P.slots + cs.length ≤ R.slots)
      (fun P _ v B => ∃ L, QA Z x zn cs h v B.U.heap L ∧ B.locs = P.locs ++ L ∧ B.cells = P.cells + 1 ∧ B.slots = P.slots + cs.length) := by
  obtain ⟨A, K1, K2, K3, K4, K5, K6⟩ := K
  have e : A.slots.size = cs.length := K3.trans hlen
  have hat : ∀ (i : Nat) (hi : i < cs.length), A.slots[i]? = some (.int cs[i]) := fun i hi => by rw [K5 i (by omega)]; simp [List.getD_eq_getElem?_getD, hi]
  have hcv : ∀ (i : Nat) (hi : i < cs.length), cv A i = cs[i] := fun i hi => by unfold cv; rw [hat i hi]
  have hty : Typed .char A := fun i v hv => by
    have hi : i < A.slots.size := (Array.getElem?_eq_some_iff.mp hv).1
    have q := K5 i hi
    rw [hv] at q
    rw [Option.some.inj q]
    exact K6 i hi
  refine Back.mono (back hZ hw wi E V C K1 hty S hz (by omega) (by omega) (fun i hi => by rw [hcv i (by omega)]; exact hall _ (List.getElem_mem _)) hfr hlo) (fun P a hp => ⟨hp.1, hp.2.1, hp.2.2.1, by rw [e]; exact hp.2.2.2⟩) (fun P a v B hp hq => ?_)
  obtain ⟨L, ⟨q1, q2, q3, q4, q5, q6, q7, ⟨V', v1, v2, v3, v4, v5⟩, q9⟩, hl, hc, hs⟩ := hq
  refine ⟨L, ⟨q1, q2, q3, q4, q5, q6, q7, ⟨V'.cls, v3, V', v1, rfl, by rw [v4, e, hlen], K4, fun i hi => ?_, fun i hi => ?_⟩, q9⟩, hl, hc, by rw [hs, e]⟩
  · have hi' : i < cs.length := by omega
    rw [v5 i (by omega), hcv i hi']; simp [List.getD_eq_getElem?_getD, hi']
  · have hi' : i < cs.length := by omega
    simp only [List.getD_eq_getElem?_getD, List.getElem?_map, List.getElem?_eq_getElem hi', Option.map_some, Option.getD_some]
    exact fits_lo8 _
end StrChars.Road
namespace StrChars.Road
open Jvm Sem ClassFile Op Lib Jvm.Stand Jvm.Free Jvm.Free.XT
/-- WHAT COMES BACK, in the writer's own shape -/
def QV (Z : State) (x : Addr) (N : Int32) (bs : List Int32) (h : Heap) (n0 : Nat) (v : Option Value) (h' : Heap) (L : List Loc) : Prop := v = none ∧ RoadKit.Fr n0 L ∧ RoadKit.Keep h h' [x] ∧ RoadKit.Exa Z h' x ST ∧ RoadKit.Fld Z h' x ST "coder" "B" (.int 0) ∧
  ∃ (t : Addr) (kb : ClassId), n0 ≤ t ∧ h.size ≤ t ∧ ¬ t = x ∧ RoadKit.Fld Z h' x ST "value" "[B" (.ref t) ∧ RoadKit.Arv Z h' t kb .byte N (bs.map Value.int) (.int 0)
/-- **new String(chars) AT A CALL, FOR THE WRITER**: a char[] of n known ints, each 0 to 255 -/
theorem backV {p : Program} {l : Launch} {e : Env} {R : Room} {s : State} {args : Array Value} {below : List Frame} {len W : Nat} {Z : State} {a0 : Array Value} {h : Heap} (hZ : Z.Warmed39 s.vm) (hw : ∀ d ∈ words, d.before a0 Z = true) {kI : Nat} (wi : (Jvm.Cond.instantiable ST kI).before a0 Z = true)
    {x b : Addr} {kC : ClassId} {cs bs : List Int32} {d v0 c0 : Value} {z N : Int32} {n n0 : Nat} (hx0 : n0 ≤ x) (hh0 : n0 ≤ h.size) (E : RoadKit.Exa Z h x ST) (V : RoadKit.Fld Z h x ST "value" "[B" v0) (C : RoadKit.Fld Z h x ST "coder" "B" c0) (K : RoadKit.Arv Z h b kC .char N (cs.map Value.int) d) (S : RoadKit.Sta Z h ST "COMPACT_STRINGS" "Z" (.int z)) (hz : ¬ z = 0)
    (hn : cs.length = n) (hN : N = Int32.ofNat n) (l0 : 0 < n) (l2 : n ≤ 4000) (hp : ∀ c ∈ cs, ¬ c < 0 ∧ ¬ (255 : Int32) < c) (hb : bs = cs.map (fun c => c.toInt8.toInt32)) (hfr : 4 ≤ R.frames) (hlo : W + 65 ≤ R.locals) :
    Back l R p e below s args (⟨"java/lang/String", "<init>", "([C)V"⟩ : MethodName) len W (fun P a => a = #[.ref x, .ref b] ∧ P.U.heap = h ∧ P.cells + 1 ≤ R.cells ∧ P.slots + n ≤ R.slots)
      (fun P _ v B => ∃ L, QV Z x N bs h n0 v B.U.heap L ∧ B.locs = P.locs ++ L ∧ B.cells = P.cells + 1 ∧ B.slots = P.slots + n) := by
  subst hn hN hb
  refine Back.mono (backArv hZ hw wi E V C K S hz (n32 (by omega)) l0 (by omega) (fun c hc => (hp c hc).2) hfr hlo) (fun P a hp => hp) (fun P a v B hp hq => ?_)
  obtain ⟨L, ⟨q1, q2, q3, q4, q5, q6, q7, ⟨kb, v1, v2⟩, q9⟩, hl, hc, hs⟩ := hq
  exact ⟨L, ⟨q1, fun y hy => by rw [q2 y hy]; exact hx0, q3, q5, q7, h.size, kb, hh0, Nat.le_refl _, Nat.ne_of_gt E.lt, q6, by rw [List.map_map]; exact v2⟩, hl, hc, hs⟩
end StrChars.Road
namespace StrChars
open Jvm Sem ClassFile Op Lib Jvm.Stand Jvm.Free.XT Jvm.Free.ALB Jvm.Free.JM Jvm.Free
open Jvm.Lib.Cold (StaticIs)
def hi8 (x : Int32) : Int32 := lo8 (x >>> ((8 : Int32) &&& 31))
/-- what StringUTF16.getChar makes of two bytes -/
def pairCh (u v : Int32) : Int32 := (((u &&& 255) <<< ((0 : Int32) &&& 31)) ||| ((v &&& 255) <<< ((8 : Int32) &&& 31))).toUInt32.toUInt16.toUInt32.toInt32
theorem shr0 (c : Int32) : c >>> ((0 : Int32) &&& 31) = c := by
  have e : ((0 : Int32) &&& 31) = 0 := by decide
  rw [e]
  apply Int32.toBitVec_inj.mp
  rw [Int32.toBitVec_shiftRight]
  have e1 : ((0 : Int32).toBitVec.smod 32) = 0#32 := by decide
  rw [e1, BitVec.sshiftRight_eq']
  exact BitVec.sshiftRight_zero
theorem lo8_and (x : Int32) : (lo8 x &&& 255).toBitVec.toNat = x.toBitVec.toNat % 256 := by
  have h : (lo8 x).toBitVec = (x.toBitVec.signExtend 8).signExtend 32 := by rw [lo8, Int8.toBitVec_toInt32, Int32.toBitVec_toInt8]
  rw [Int32.toBitVec_and, BitVec.toNat_and, h]
  have e : ((x.toBitVec.signExtend 8).signExtend 32).toNat % 256 = x.toBitVec.toNat % 256 := by
    rw [BitVec.toNat_signExtend]
    have hlt := x.toBitVec.isLt
    simp only [BitVec.toNat_setWidth, BitVec.toNat_signExtend]
    split <;> split <;> omega
  rw [← e]
  exact Nat.and_two_pow_sub_one_eq_mod _ 8
theorem pair_says {c : Int32} (h0 : ¬ c < 0) (h1 : ¬ 65535 < c) : pairCh (lo8 c) (hi8 c) = c := by
  rw [Int32.lt_iff_toInt_lt] at h0 h1
  have e0 : (0 : Int32).toInt = 0 := rfl
  have e1 : (65535 : Int32).toInt = 65535 := rfl
  have hc : c.toInt = c.toBitVec.toNat := by
    have := c.toBitVec.isLt
    have e : c.toInt = c.toBitVec.toInt := rfl
    rw [e] at h0 h1
    rw [e]
    rw [BitVec.toInt_eq_toNat_cond] at h0 h1 ⊢
    split at h0 <;> split <;> omega
  have hn : c.toBitVec.toNat < 65536 := by omega
  have a1 := lo8_and c
  have a2 : (hi8 c &&& 255).toBitVec.toNat = c.toBitVec.toNat / 256 := by
    rw [hi8, lo8_and]
    have e : ((8 : Int32) &&& 31) = 8 := by decide
    rw [e, Int32.toBitVec_shiftRight]
    have e2 : ((8 : Int32).toBitVec.smod 32) = 8#32 := by decide
    rw [e2, BitVec.sshiftRight_eq', BitVec.toNat_sshiftRight_of_msb_false (by rw [BitVec.msb_eq_false_iff_two_mul_lt]; omega)]
    show c.toBitVec.toNat >>> 8 % 256 = _
    rw [Nat.shiftRight_eq_div_pow]
    omega
  unfold pairCh
  apply Int32.toBitVec_inj.mp
  apply BitVec.eq_of_toNat_eq
  have f0 : ((0 : Int32) &&& 31) = 0 := by decide
  have f8 : ((8 : Int32) &&& 31) = 8 := by decide
  rw [f0, f8]
  have g : (((lo8 c &&& 255) <<< (0 : Int32)) ||| ((hi8 c &&& 255) <<< (8 : Int32))).toBitVec.toNat = c.toBitVec.toNat := by
    rw [Int32.toBitVec_or, Int32.toBitVec_shiftLeft, Int32.toBitVec_shiftLeft]
    have s0 : ((0 : Int32).toBitVec.smod 32) = 0#32 := by decide
    have s8 : ((8 : Int32).toBitVec.smod 32) = 8#32 := by decide
    rw [s0, s8, BitVec.toNat_or]
    simp only [BitVec.shiftLeft_eq', BitVec.toNat_shiftLeft, a1, a2]
    show (c.toBitVec.toNat % 256) <<< 0 % 2 ^ 32 ||| (c.toBitVec.toNat / 256) <<< 8 % 2 ^ 32 = _
    rw [Nat.shiftLeft_zero, Nat.mod_eq_of_lt (show c.toBitVec.toNat % 256 < 2 ^ 32 by omega), Nat.mod_eq_of_lt (show (c.toBitVec.toNat / 256) <<< 8 < 2 ^ 32 by rw [Nat.shiftLeft_eq]; omega), Nat.or_comm, ← Nat.shiftLeft_add_eq_or_of_lt (by omega), Nat.shiftLeft_eq]
    omega
  show BitVec.toNat (((((lo8 c &&& 255) <<< (0 : Int32)) ||| ((hi8 c &&& 255) <<< (8 : Int32))).toBitVec.setWidth 16).setWidth 32) = _
  rw [BitVec.toNat_setWidth, BitVec.toNat_setWidth, g]
  omega
end StrChars
namespace StrChars
open Jvm Sem ClassFile Op Lib Jvm.Stand Jvm.Free.XT Jvm.Free.ALB Jvm.Free.JM Jvm.Free
open Jvm.Lib.Cold (StaticIs)
theorem shr1 {n : Nat} (h : 2 * n < 2 ^ 31) : Int32.ofNat (2 * n) >>> ((1 : Int32) &&& 31) = Int32.ofNat n := by
  have e : ((1 : Int32) &&& 31) = 1 := by decide
  rw [e]
  apply Int32.toBitVec_inj.mp
  rw [Int32.toBitVec_shiftRight]
  have e1 : ((1 : Int32).toBitVec.smod 32) = 1#32 := by decide
  have hm : (BitVec.ofNat 32 (2 * n)).toNat = 2 * n := by rw [BitVec.toNat_ofNat, Nat.mod_eq_of_lt (by omega)]
  rw [e1, BitVec.sshiftRight_eq']
  apply BitVec.eq_of_toNat_eq
  show ((BitVec.ofNat 32 (2 * n)).sshiftRight 1).toNat = (BitVec.ofNat 32 n).toNat
  rw [BitVec.toNat_sshiftRight_of_msb_false (by rw [BitVec.msb_eq_false_iff_two_mul_lt, hm]; omega), hm, BitVec.toNat_ofNat, Nat.shiftRight_eq_div_pow]
  omega
/-- charAt's cast of a byte read back -/
def chr8 (u : Int32) : Int32 := (u &&& 255).toUInt32.toUInt16.toUInt32.toInt32
theorem chr8_lo8 {c : Int32} (h0 : ¬ c < 0) (h1 : ¬ 255 < c) : chr8 (lo8 c) = c := by
  have t : ∀ k : Fin 256, (Int32.ofNat k.val).toUInt32.toUInt16.toUInt32.toInt32 = Int32.ofNat k.val := by decide +kernel
  unfold chr8
  rw [lo8_mask h0 h1]
  rw [Int32.lt_iff_toInt_lt] at h0 h1
  have e0 : (0 : Int32).toInt = 0 := rfl
  have e1 : (255 : Int32).toInt = 255 := rfl
  obtain ⟨k, hk⟩ : ∃ k : Nat, c.toInt = k := ⟨c.toInt.toNat, by omega⟩
  have hx : c = Int32.ofNat k := Int32.toInt_inj.mp (by rw [hk, Int32.toInt_ofNat_small (by omega)])
  rw [hx]
  exact t ⟨k, by omega⟩
theorem narrow_ch {c : Int32} (h0 : ¬ c < 0) (h1 : ¬ 65535 < c) : narrow .char (.int c) = .int c := by
  have q : narrow .char (.int (pairCh (lo8 c) (hi8 c))) = .int (pairCh (lo8 c) (hi8 c)) := narrow_c _
  rwa [pair_says h0 h1] at q
/-- the array's cell V codes the n chars f 0 .. f (n - 1) by the coder cd, as the JDK does: coder 1 just where some char is above 255 -/
def Cod (cd : Int32) (n : Nat) (f : Nat → Int32) (V : Cell) : Prop := (cd = 0 ∧ V.slots.size = n ∧ ∀ j, j < n → V.slots[j]? = some (.int (lo8 (f j))) ∧ ¬ 255 < f j) ∨ (cd = 1 ∧ V.slots.size = 2 * n ∧ (∀ j, j < n → V.slots[2 * j]? = some (.int (lo8 (f j))) ∧ V.slots[2 * j + 1]? = some (.int (hi8 (f j)))) ∧ ∃ j, j < n ∧ 255 < f j)
theorem Cod.cd {cd : Int32} {n : Nat} {f : Nat → Int32} {V : Cell} (h : Cod cd n f V) : cd = 0 ∨ cd = 1 := h.imp (fun q => q.1) fun q => q.1
theorem Cod.len {cd : Int32} {n : Nat} {f : Nat → Int32} {V : Cell} (h : Cod cd n f V) (hs : V.slots.size < 2 ^ 31) : Int32.ofNat V.slots.size >>> (cd &&& 31) = Int32.ofNat n := by
  rcases h with ⟨rfl, h, -⟩ | ⟨rfl, h, -⟩
  · rw [shr0, h]
  · rw [h, shr1 (by omega)]
/-- **x is a String of the n chars f 0 .. f (n - 1)**, Latin-1 or UTF-16; its array at t has the cell V -/
def Txt (x t : Addr) (V : Cell) (cd : Int32) (n : Nat) (f : Nat → Int32) (U : State) : Prop := Exact "java/lang/String" x U ∧ Has x "java/lang/String" "value" "[B" (.ref t) U ∧ Has x "java/lang/String" "coder" "B" (.int cd) U ∧ XT.Arr .byte t V U ∧ Cod cd n f V ∧ ∀ j, j < n → ¬ f j < 0 ∧ ¬ 65535 < f j
theorem Txt.mv {x t : Addr} {V : Cell} {cd : Int32} {n : Nat} {f : Nat → Int32} {U U' : State} (h : Txt x t V cd n f U) (hal : U.vm.Alike U'.vm) (hh : U'.heap = U.heap) : Txt x t V cd n f U' := ⟨h.1.mv hal hh, h.2.1.mv hal hh, h.2.2.1.mv hal hh, h.2.2.2.1.mv hal hh, h.2.2.2.2⟩
namespace Cdr
def yN : MethodName := ⟨"java/lang/String", "coder", "()B"⟩
abbrev yB : ByteArray := jdk_42_method_152_code
theorem d0 : decode yB 0 = .ok (.getstatic 38, 3) := by decide +kernel
theorem d3 : decode yB 3 = .ok (.ifCond (.eq) 10, 3) := by decide +kernel
theorem d6 : decode yB 6 = .ok (.aload_n 0, 1) := by decide +kernel
theorem d7 : decode yB 7 = .ok (.getfield 15, 3) := by decide +kernel
theorem d10 : decode yB 10 = .ok (.goto 4, 3) := by decide +kernel
theorem d14 : decode yB 14 = .ok (.ireturn, 1) := by decide +kernel
def site : List Cond := [.fieldLink "java/lang/String" 38 "java/lang/String" "COMPACT_STRINGS" "Z", .fieldLink "java/lang/String" 15 "java/lang/String" "coder" "B"]
def tab : Cond := tabOf yN yB 1 (some .byte) site
def P (x : Addr) (cd z : Int32) (args : Array Value) (s : State) : Prop := args = #[.ref x] ∧ Has x "java/lang/String" "coder" "B" (.int cd) s ∧ (cd = 0 ∨ cd = 1) ∧ StaticIs s "java/lang/String" "COMPACT_STRINGS" "Z" (.int z) ∧ ¬ z = 0
def E (cd : Int32) (r : Option Value) (s u : State) : Prop := XT.PureE (some (.int cd)) r s u
theorem law (l : Launch) (x : Addr) (cd z : Int32) : Law l yN 1 0 0 0 yB 1 (some .byte) site (P x cd z) (E cd) [] 0 0 := by
  refine Law.of_walk (plainFor_of_name (by decide +kernel)) (by decide +kernel) (by decide +kernel) (by decide) (fun _ _ h => by rw [h.1]; rfl) (fun _ U U' hal hh h => ⟨h.1, h.2.1.mv hal hh, h.2.2.1, h.2.2.2.1.there hal hh, h.2.2.2.2⟩) (fun r U U' V V' h1 hal h2 h => XT.PureE.mv r U U' V V' h1 hal h2 h) ?_
  intro p e s m args below meth c s₁ X0 hexec hbytes hml hret hlk hnm hown hh0 W hP
  obtain ⟨rfl, hx, hc, s1, hz⟩ := hP
  have c1 : Steps p.tables e below (s₁.setTop (entryFrame m #[.ref x] 1)) (s₁.setTop (mkF m 0 #[.val (.ref x)] [])) := entry rfl
  obtain ⟨T2, X2, q2, st2⟩ := X0.sget hexec hown (wk W (.fieldLink "java/lang/String" 38 "java/lang/String" "COMPACT_STRINGS" "Z")) s1 (fun _ _ h => by rw [hh0]; exact h) (g := (mkF m 0 #[.val (.ref x)] [])) rfl (hb hbytes d0)
  have hh2 := q2.trans hh0
  have c3 : Steps p.tables e below (s₁.setTop (entryFrame m #[.ref x] 1)) (T2.setTop (mkF m 7 #[.val (.ref x)] [.ref x])) := (c1.trans (st2 _ (Steps.refl _))).trans (by
    refine XS.ifNo X2.here hexec rfl (hb hbytes d3) rfl (i0_eq_f hz) ?_
    refine XS.aloadN X2.here hexec rfl (hb hbytes d6) rfl rfl ?_
    exact Steps.refl _)
  obtain ⟨T4, X4, q4, st4⟩ := X2.hget hexec hown (wk W (.fieldLink "java/lang/String" 15 "java/lang/String" "coder" "B")) (hx.mv X2.warmed.alike hh2) (g := (mkF m 7 #[.val (.ref x)] [.ref x])) rfl (rest := []) rfl (hb hbytes d7)
  have c5 : Steps p.tables e below (s₁.setTop (entryFrame m #[.ref x] 1)) (T4.setTop (mkF m 14 #[.val (.ref x)] [.int cd])) := (c3.trans (st4 _ (Steps.refl _))).trans (by
    refine XS.goto X4.here hexec rfl (pc0 := 10) rfl (hb hbytes d10) (by decide) rfl ?_
    exact Steps.refl _)
  exact ⟨T4, some (.int cd), _, _, _, X4, rfl, rfl, rfl, (fun h => by cases h), ⟨rfl, q4.trans hh2⟩, fun fs hl => c5.trans (X4.ireturnOut hexec hret (by rcases hc with rfl | rfl <;> rfl) (Or.inr (Or.inr (Or.inl rfl))) (hb hbytes d14) hl)⟩
end Cdr
namespace Len
def yN : MethodName := ⟨"java/lang/String", "length", "()I"⟩
abbrev yB : ByteArray := jdk_42_method_54_code
theorem d0 : decode yB 0 = .ok (.aload_n 0, 1) := by decide +kernel
theorem d1 : decode yB 1 = .ok (.getfield 9, 3) := by decide +kernel
theorem d4 : decode yB 4 = .ok (.arraylength, 1) := by decide +kernel
theorem d5 : decode yB 5 = .ok (.aload_n 0, 1) := by decide +kernel
theorem d6 : decode yB 6 = .ok (.invokevirtual 335, 3) := by decide +kernel
theorem d9 : decode yB 9 = .ok (.ishr, 1) := by decide +kernel
theorem d10 : decode yB 10 = .ok (.ireturn, 1) := by decide +kernel
def site : List Cond := [.fieldLink "java/lang/String" 9 "java/lang/String" "value" "[B", Cdr.tab] ++ virtW "java/lang/String" 335 "java/lang/String" Cdr.yN Cdr.yN
def tab : Cond := tabOf yN yB 1 (some .int) site
def P (x t : Addr) (V : Cell) (cd : Int32) (n : Nat) (f : Nat → Int32) (z : Int32) (args : Array Value) (s : State) : Prop := args = #[.ref x] ∧ Txt x t V cd n f s ∧ StaticIs s "java/lang/String" "COMPACT_STRINGS" "Z" (.int z) ∧ ¬ z = 0
def E (n : Nat) (r : Option Value) (s u : State) : Prop := XT.PureE (some (.int (Int32.ofNat n))) r s u
/-- length() of a String of n chars, in either coding -/
theorem law (l : Launch) (x t : Addr) (V : Cell) (cd : Int32) (n : Nat) (f : Nat → Int32) (z : Int32) : Law l yN 1 0 1 13 yB 1 (some .int) site (P x t V cd n f z) (E n) [] 0 0 := by
  refine Law.of_walk (plainFor_of_name (by decide +kernel)) (by decide +kernel) (by decide +kernel) (by decide) (fun _ _ h => by rw [h.1]; rfl) (fun _ U U' hal hh h => ⟨h.1, h.2.1.mv hal hh, h.2.2.1.there hal hh, h.2.2.2⟩) (fun r U U' V V' h1 hal h2 h => XT.PureE.mv r U U' V V' h1 hal h2 h) ?_
  intro p e s m args below meth c s₁ X0 hexec hbytes hml hret hlk hnm hown hh0 W hP
  obtain ⟨rfl, hx, s1, hz⟩ := hP
  have v31 := hx.2.2.2.1.2.2.2
  have c1 : Steps p.tables e below (s₁.setTop (entryFrame m #[.ref x] 1)) (s₁.setTop (mkF m 1 #[.val (.ref x)] [.ref x])) := Steps.trans (entry rfl) (by
    show Steps p.tables e below (s₁.setTop (mkF m 0 #[.val (.ref x)] [])) _
    refine XS.aloadN X0.here hexec rfl (hb hbytes d0) rfl rfl ?_
    exact Steps.refl _)
  obtain ⟨T2, X2, q2, st2⟩ := X0.hget hexec hown (wk W (.fieldLink "java/lang/String" 9 "java/lang/String" "value" "[B")) (hx.mv X0.warmed.alike hh0).2.1 (g := (mkF m 1 #[.val (.ref x)] [.ref x])) rfl (rest := []) rfl (hb hbytes d1)
  have hh2 := q2.trans hh0
  have hx2 := hx.mv X2.warmed.alike hh2
  have c3 : Steps p.tables e below (s₁.setTop (entryFrame m #[.ref x] 1)) (T2.setTop (mkF m 6 #[.val (.ref x)] [.ref x, .int (Int32.ofNat V.slots.size)])) := (c1.trans (st2 _ (Steps.refl _))).trans (by
    refine X2.alen hexec hx2.2.2.2.1 rfl rfl (hb hbytes d4) ?_
    refine XS.aloadN X2.here hexec rfl (hb hbytes d5) rfl rfl ?_
    exact Steps.refl _)
  obtain ⟨v4, T4, X4, E4, g4⟩ := X2.callV hexec (Cdr.law l x cd z) hown (wks W (virtW "java/lang/String" 335 "java/lang/String" Cdr.yN Cdr.yN)) rfl (by decide) (wk W Cdr.tab) (W := 1) (Nat.le_of_ble_eq_true rfl) (Nat.le_of_ble_eq_true rfl) (Nat.le_refl _) (Nat.le_refl _) (hx2.1.fc X2.warmed.alike) hx2.1.is (g := (mkF m 6 #[.val (.ref x)] [.ref x, .int (Int32.ofNat V.slots.size)])) rfl (by rw [hml]; rfl) c3 (argsL := []) (rest := [.int (Int32.ofNat V.slots.size)]) rfl rfl (by show 2 * 0 + (1 + 0) ≤ _; decide) (hb hbytes d6) (⟨rfl, hx2.2.2.1, hx.2.2.2.2.1.cd, s1.there X2.warmed.alike hh2, hz⟩)
  obtain ⟨rfl, q4⟩ := E4
  have c5 : Steps p.tables e below (s₁.setTop (entryFrame m #[.ref x] 1)) (T4.setTop (mkF m 10 #[.val (.ref x)] [.int (Int32.ofNat V.slots.size >>> (cd &&& 31))])) := Steps.trans g4 (by
    refine ishr X4.here hexec rfl (hb hbytes d9) rfl ?_
    exact Steps.refl _)
  rw [hx.2.2.2.2.1.len v31] at c5
  exact ⟨T4, some (.int (Int32.ofNat n)), _, _, _, X4, rfl, rfl, rfl, (fun h => by cases h), ⟨rfl, q4.trans hh2⟩, fun fs hl => c5.trans (X4.ireturnOut hexec hret rfl (Or.inl rfl) (hb hbytes d10) hl)⟩
theorem pays {l : Launch} {R : Room} {p : Program} {e : Env} {below : List Frame} {s : State} {sargs : Array Value} {len W : Nat} (x t : Addr) (V : Cell) (cd : Int32) (n : Nat) (f : Nat → Int32) (z : Int32) (htab : tab.before sargs s = true) (hfr : 2 ≤ R.frames) (hlo : W + 25 ≤ R.locals) :
    Back l R p e below s sargs yN len W (fun A₁ a₁ => A₁.cells + 0 ≤ R.cells ∧ A₁.slots + 0 ≤ R.slots ∧ P x t V cd n f z a₁ A₁.U) (fun A₁ _ v₁ B₁ => E n v₁ A₁.U B₁.U ∧ B₁.locs = A₁.locs ++ [] ∧ B₁.cells = A₁.cells + 0 ∧ B₁.slots = A₁.slots + 0) :=
  (law l x t V cd n f z).pays htab hfr (by omega)
end Len
namespace IsL
def yN : MethodName := ⟨"java/lang/String", "isLatin1", "()Z"⟩
abbrev yB : ByteArray := jdk_42_method_154_code
theorem d0 : decode yB 0 = .ok (.getstatic 38, 3) := by decide +kernel
theorem d3 : decode yB 3 = .ok (.ifCond (.eq) 14, 3) := by decide +kernel
theorem d6 : decode yB 6 = .ok (.aload_n 0, 1) := by decide +kernel
theorem d7 : decode yB 7 = .ok (.getfield 15, 3) := by decide +kernel
theorem d10 : decode yB 10 = .ok (.ifCond (.ne) 7, 3) := by decide +kernel
theorem d13 : decode yB 13 = .ok (.iconst 1, 1) := by decide +kernel
theorem d14 : decode yB 14 = .ok (.goto 4, 3) := by decide +kernel
theorem d17 : decode yB 17 = .ok (.iconst 0, 1) := by decide +kernel
theorem d18 : decode yB 18 = .ok (.ireturn, 1) := by decide +kernel
def site : List Cond := [.fieldLink "java/lang/String" 38 "java/lang/String" "COMPACT_STRINGS" "Z", .fieldLink "java/lang/String" 15 "java/lang/String" "coder" "B"]
def tab : Cond := tabOf yN yB 1 (some .boolean) site
def P (x : Addr) (cd z : Int32) (args : Array Value) (s : State) : Prop := args = #[.ref x] ∧ Has x "java/lang/String" "coder" "B" (.int cd) s ∧ (cd = 0 ∨ cd = 1) ∧ StaticIs s "java/lang/String" "COMPACT_STRINGS" "Z" (.int z) ∧ ¬ z = 0
def E (cd : Int32) (r : Option Value) (s u : State) : Prop := XT.PureE (some (.int (1 - cd))) r s u
theorem law (l : Launch) (x : Addr) (cd z : Int32) : Law l yN 1 0 0 0 yB 1 (some .boolean) site (P x cd z) (E cd) [] 0 0 := by
  refine Law.of_walk (plainFor_of_name (by decide +kernel)) (by decide +kernel) (by decide +kernel) (by decide) (fun _ _ h => by rw [h.1]; rfl) (fun _ U U' hal hh h => ⟨h.1, h.2.1.mv hal hh, h.2.2.1, h.2.2.2.1.there hal hh, h.2.2.2.2⟩) (fun r U U' V V' h1 hal h2 h => XT.PureE.mv r U U' V V' h1 hal h2 h) ?_
  intro p e s m args below meth c s₁ X0 hexec hbytes hml hret hlk hnm hown hh0 W hP
  obtain ⟨rfl, hx, hc, s1, hz⟩ := hP
  have c1 : Steps p.tables e below (s₁.setTop (entryFrame m #[.ref x] 1)) (s₁.setTop (mkF m 0 #[.val (.ref x)] [])) := entry rfl
  obtain ⟨T2, X2, q2, st2⟩ := X0.sget hexec hown (wk W (.fieldLink "java/lang/String" 38 "java/lang/String" "COMPACT_STRINGS" "Z")) s1 (fun _ _ h => by rw [hh0]; exact h) (g := (mkF m 0 #[.val (.ref x)] [])) rfl (hb hbytes d0)
  have hh2 := q2.trans hh0
  have c3 : Steps p.tables e below (s₁.setTop (entryFrame m #[.ref x] 1)) (T2.setTop (mkF m 7 #[.val (.ref x)] [.ref x])) := (c1.trans (st2 _ (Steps.refl _))).trans (by
    refine XS.ifNo X2.here hexec rfl (hb hbytes d3) rfl (i0_eq_f hz) ?_
    refine XS.aloadN X2.here hexec rfl (hb hbytes d6) rfl rfl ?_
    exact Steps.refl _)
  obtain ⟨T4, X4, q4, st4⟩ := X2.hget hexec hown (wk W (.fieldLink "java/lang/String" 15 "java/lang/String" "coder" "B")) (hx.mv X2.warmed.alike hh2) (g := (mkF m 7 #[.val (.ref x)] [.ref x])) rfl (rest := []) rfl (hb hbytes d7)
  have c5 : Steps p.tables e below (s₁.setTop (entryFrame m #[.ref x] 1)) (T4.setTop (mkF m 10 #[.val (.ref x)] [.int cd])) := c3.trans (st4 _ (Steps.refl _))
  have c6 : Steps p.tables e below (s₁.setTop (entryFrame m #[.ref x] 1)) (T4.setTop (mkF m 18 #[.val (.ref x)] [.int (1 - cd)])) := by
    rcases hc with rfl | rfl
    · exact c5.trans (by
        refine XS.ifNo X4.here hexec rfl (hb hbytes d10) rfl (i0_ne_f rfl) ?_
        refine iconstV X4.here hexec rfl 1 (hb hbytes d13) (by decide) ?_
        refine XS.goto X4.here hexec rfl (pc0 := 14) rfl (hb hbytes d14) (by decide) rfl ?_
        exact Steps.refl _)
    · exact c5.trans (by
        refine XS.ifYes X4.here hexec rfl (pc0 := 10) rfl (hb hbytes d10) rfl (i0_ne_t (by decide)) (by decide) rfl ?_
        refine iconstV X4.here hexec rfl 0 (hb hbytes d17) (by decide) ?_
        exact Steps.refl _)
  exact ⟨T4, some (.int (1 - cd)), _, _, _, X4, rfl, rfl, rfl, (fun h => by cases h), ⟨rfl, q4.trans hh2⟩, fun fs hl => c6.trans (X4.ireturnOut hexec hret (by rcases hc with rfl | rfl <;> rfl) (Or.inr (Or.inl rfl)) (hb hbytes d18) hl)⟩
end IsL
namespace LChA
def yN : MethodName := ⟨"java/lang/StringLatin1", "charAt", "([BI)C"⟩
abbrev yB : ByteArray := jdk_43_method_2_code
theorem d0 : decode yB 0 = .ok (.iload_n 1, 1) := by decide +kernel
theorem d1 : decode yB 1 = .ok (.aload_n 0, 1) := by decide +kernel
theorem d2 : decode yB 2 = .ok (.arraylength, 1) := by decide +kernel
theorem d3 : decode yB 3 = .ok (.invokestatic 9, 3) := by decide +kernel
theorem d6 : decode yB 6 = .ok (.aload_n 0, 1) := by decide +kernel
theorem d7 : decode yB 7 = .ok (.iload_n 1, 1) := by decide +kernel
theorem d8 : decode yB 8 = .ok (.baload, 1) := by decide +kernel
theorem d9 : decode yB 9 = .ok (.sipush 255, 3) := by decide +kernel
theorem d12 : decode yB 12 = .ok (.iand, 1) := by decide +kernel
theorem d13 : decode yB 13 = .ok (.i2c, 1) := by decide +kernel
theorem d14 : decode yB 14 = .ok (.ireturn, 1) := by decide +kernel
def site : List Cond := [JO.Str_checkIndex.tab] ++ staticW "java/lang/StringLatin1" 9 JO.Str_checkIndex.yN
def tab : Cond := tabOf yN yB 2 (some .char) site
def P (t : Addr) (V : Cell) (i : Nat) (u : Int32) (fm : Value) (args : Array Value) (s : State) : Prop := args = #[.ref t, .int (Int32.ofNat i)] ∧ XT.Arr .byte t V s ∧ V.slots[i]? = some (.int u) ∧ (StaticIs s "jdk/internal/util/Preconditions" "SIOOBE_FORMATTER" "Ljava/util/function/BiFunction;" fm ∧ fm.isRef = true)
def E (u : Int32) (r : Option Value) (s w : State) : Prop := XT.PureE (some (.int (chr8 u))) r s w
theorem law (l : Launch) (t : Addr) (V : Cell) (i : Nat) (u : Int32) (fm : Value) : Law l yN 2 2 2 27 yB 2 (some .char) site (P t V i u fm) (E u) [] 0 0 := by
  refine Law.of_walk (plainFor_of_name (by decide +kernel)) (by decide +kernel) (by decide +kernel) (by decide) (fun _ _ h => by rw [h.1]; rfl) (fun _ U U' hal hh h => ⟨h.1, h.2.1.mv hal hh, h.2.2.1, h.2.2.2.1.there hal hh, h.2.2.2.2⟩) (fun r U U' V V' h1 hal h2 h => XT.PureE.mv r U U' V V' h1 hal h2 h) ?_
  intro p e s m args below meth c s₁ X0 hexec hbytes hml hret hlk hnm hown hh0 W hP
  obtain ⟨rfl, hV, hu, s1, rf⟩ := hP
  have v31 := hV.2.2.2
  have hi : i < V.slots.size := (Array.getElem?_eq_some_iff.mp hu).1
  have c1 : Steps p.tables e below (s₁.setTop (entryFrame m #[.ref t, .int (Int32.ofNat i)] 2)) (s₁.setTop (mkF m 0 #[.val (.ref t), .val (.int (Int32.ofNat i))] [])) := entry rfl
  have c2 : Steps p.tables e below (s₁.setTop (entryFrame m #[.ref t, .int (Int32.ofNat i)] 2)) (s₁.setTop (mkF m 3 #[.val (.ref t), .val (.int (Int32.ofNat i))] [.int (Int32.ofNat V.slots.size), .int (Int32.ofNat i)])) := c1.trans (by
    refine XS.iloadN X0.here hexec rfl (hb hbytes d0) rfl ?_
    refine XS.aloadN X0.here hexec rfl (hb hbytes d1) rfl rfl ?_
    refine X0.alen hexec (hV.mv X0.warmed.alike hh0) rfl rfl (hb hbytes d2) ?_
    exact Steps.refl _)
  obtain ⟨v3, T3, X3, E3, g3⟩ := X0.callS hexec (JO.Str_checkIndex.law l (Int32.ofNat i) (Int32.ofNat V.slots.size) fm) hown (wks W (staticW "java/lang/StringLatin1" 9 JO.Str_checkIndex.yN)) (wk W JO.Str_checkIndex.tab) (W := 0) (Nat.le_of_ble_eq_true rfl) (Nat.le_of_ble_eq_true rfl) (Nat.le_refl _) (Nat.le_refl _) (g := (mkF m 3 #[.val (.ref t), .val (.int (Int32.ofNat i))] [.int (Int32.ofNat V.slots.size), .int (Int32.ofNat i)])) rfl (by rw [hml]; rfl) c2 (argsL := [.int (Int32.ofNat i), .int (Int32.ofNat V.slots.size)]) (rest := []) rfl rfl (by show 2 * 0 + 0 ≤ _; decide) (hb hbytes d3) (⟨rfl, rf, s1.there X0.warmed.alike hh0, Int32.ofNat_not_neg (by omega), lt32 v31 hi⟩)
  obtain ⟨rfl, q3⟩ := E3
  have hh3 := q3.trans hh0
  have c4 : Steps p.tables e below (s₁.setTop (entryFrame m #[.ref t, .int (Int32.ofNat i)] 2)) (T3.setTop (mkF m 14 #[.val (.ref t), .val (.int (Int32.ofNat i))] [.int (chr8 u)])) := Steps.trans g3 (by
    refine XS.aloadN X3.here hexec rfl (hb hbytes d6) rfl rfl ?_
    refine XS.iloadN X3.here hexec rfl (hb hbytes d7) rfl ?_
    refine X3.aget hexec (hV.mv X3.warmed.alike hh3) rfl hu rfl rfl (hb hbytes d8) ?_
    refine sipushV X3.here hexec rfl 255 (hb hbytes d9) (by decide) ?_
    refine XS.iand X3.here hexec rfl (hb hbytes d12) rfl ?_
    refine i2c X3.here hexec rfl (hb hbytes d13) rfl ?_
    exact Steps.refl _)
  exact ⟨T3, some (.int (chr8 u)), _, _, _, X3, rfl, rfl, rfl, (fun h => by cases h), ⟨rfl, hh3⟩, fun fs hl => c4.trans (X3.ireturnOut hexec hret (narrow_c _) (Or.inr (Or.inr (Or.inr (Or.inl rfl)))) (hb hbytes d14) hl)⟩
end LChA
end StrChars
namespace StrChars.Road
open Jvm Sem ClassFile Op Lib Jvm.Stand Jvm.Free Jvm.Free.XT
open Jvm.Lib.Cold (StaticIs)
theorem consq {a : Array Value} {s : State} {c : Jvm.Cond} {L : List Jvm.Cond} (h0 : c.before a s = true) (h : ∀ w ∈ L, w.before a s = true) : ∀ w ∈ c :: L, w.before a s = true := fun w hw => (List.mem_cons.mp hw).elim (fun e => e ▸ h0) (h w)
/-- the words of String.length(), either coding -/
abbrev wordsLen : List Jvm.Cond := [.code Len.yN Len.yB 1 (some .int), .initialized ST, .fieldLink ST 9 ST "value" "[B", .fieldLink ST 38 ST "COMPACT_STRINGS" "Z", .fieldLink ST 15 ST "coder" "B", .code Cdr.yN Cdr.yB 1 (some .byte), .methodLink ST 335 Cdr.yN, .declares Cdr.yN, .selects ST Cdr.yN Cdr.yN, .instanceMethod Cdr.yN]
theorem tabLen_of {a : Array Value} {s : State} (h : ∀ w ∈ wordsLen, w.before a s = true) : Len.tab.before a s = true := by
  have hc : Cdr.tab.before a s = true := unparts (wk h (.code Cdr.yN Cdr.yB 1 (some .byte))) (wks h (.initialized Cdr.yN.cls :: Cdr.site))
  have q := consq hc h
  exact unparts (wk q (.code Len.yN Len.yB 1 (some .int))) (wks q (.initialized Len.yN.cls :: Len.site))
theorem movedLen {Z s : State} {a0 args : Array Value} (hZ : Z.Warmed39 s.vm) (hw : ∀ d ∈ wordsLen, d.before a0 Z = true) : ∀ d ∈ wordsLen, d.before args s = true := fun d hd => by
  have q := hw d hd
  have t : ∀ d ∈ wordsLen, d = .arrayClass .byte ∨ (d.onTables && d.keepsFace) = true := by decide +kernel
  rcases t d hd with rfl | t
  · exact RoadKit.mvA hZ q
  · exact RoadKit.mv hZ q t
/-- the bytes of the chars cs, low before high -/
def wideBytes : List Int32 → List Value
  | [] => []
  | c :: cs => .int (lo8 c) :: .int (hi8 c) :: wideBytes cs
theorem wide_lo (d : Value) : ∀ (cs : List Int32) (j : Nat), j < cs.length → (wideBytes cs).getD (2 * j) d = .int (lo8 (cs.getD j 0))
  | [], j, h => absurd h (Nat.not_lt_zero j)
  | c :: cs, 0, _ => rfl
  | c :: cs, j + 1, h => by
    have q := wide_lo d cs j (by simpa using h)
    rw [show 2 * (j + 1) = 2 * j + 1 + 1 from by omega]
    simpa [wideBytes] using q
theorem wide_hi (d : Value) : ∀ (cs : List Int32) (j : Nat), j < cs.length → (wideBytes cs).getD (2 * j + 1) d = .int (hi8 (cs.getD j 0))
  | [], j, h => absurd h (Nat.not_lt_zero j)
  | c :: cs, 0, _ => rfl
  | c :: cs, j + 1, h => by
    have q := wide_hi d cs j (by simpa using h)
    rw [show 2 * (j + 1) + 1 = 2 * j + 1 + 1 + 1 from by omega]
    simpa [wideBytes] using q
theorem low_at (d : Value) (cs : List Int32) (j : Nat) (h : j < cs.length) : (cs.map fun c => Value.int (lo8 c)).getD j d = .int (lo8 (cs.getD j 0)) := by
  simp [List.getD_eq_getElem?_getD, h]
/-- an array of N2 bytes vs codes the chars cs by the coder cd -/
def CodA (cs : List Int32) (cd N2 : Int32) (vs : List Value) : Prop := (cd = 0 ∧ N2 = Int32.ofNat cs.length ∧ vs = (cs.map fun c => Value.int (lo8 c)) ∧ ∀ c ∈ cs, ¬ 255 < c) ∨ (cd = 1 ∧ N2 = Int32.ofNat (2 * cs.length) ∧ vs = wideBytes cs ∧ ∃ c ∈ cs, 255 < c)
theorem CodA.cod {cs : List Int32} {cd N2 : Int32} {vs : List Value} {V : Cell} (h : CodA cs cd N2 vs) (hn : 2 * cs.length < 2 ^ 31) (hs : V.slots.size = N2.toNatClampNeg) (hv : RoadKit.Has V vs (.int 0)) : Cod cd cs.length (fun j => cs.getD j 0) V := by
  rcases h with ⟨rfl, rfl, rfl, h⟩ | ⟨rfl, rfl, rfl, c, hc, hw⟩
  · rw [n32 (by omega)] at hs
    exact Or.inl ⟨rfl, hs, fun j hj => ⟨by rw [hv j (by omega), low_at _ _ _ hj], by
      have e : cs.getD j 0 = cs[j] := by simp [List.getD_eq_getElem?_getD, hj]
      show ¬ 255 < cs.getD j 0
      rw [e]; exact h _ (List.getElem_mem _)⟩⟩
  · rw [n32 (by omega)] at hs
    obtain ⟨j, hj, rfl⟩ := List.getElem_of_mem hc
    exact Or.inr ⟨rfl, hs, fun j hj => ⟨by rw [hv _ (by omega), wide_lo _ _ _ hj], by rw [hv _ (by omega), wide_hi _ _ _ hj]⟩, j, hj, by
      have e : cs.getD j 0 = cs[j] := by simp [List.getD_eq_getElem?_getD, hj]
      show 255 < cs.getD j 0
      rw [e]; exact hw⟩
/-- an object of exactly java/lang/String, its two fields found: as the laws ask it -/
theorem strObj {Z U : State} {a0 : Array Value} {kI : Nat} (wi : (Jvm.Cond.instantiable ST kI).before a0 Z = true) (al : Z.vm.Alike U.vm) {x : Addr} {v0 c0 : Value} (E : RoadKit.Exa Z U.heap x ST) (V : RoadKit.Fld Z U.heap x ST "value" "[B" v0) (C : RoadKit.Fld Z U.heap x ST "coder" "B" c0) :
    ∃ (D : Cell) (fV fC : Field), Blank ST x D U ∧ Found ST "value" "[B" fV U ∧ Found ST "coder" "B" fC U ∧ D.slots[fV.slot]? = some v0 ∧ D.slots[fC.slot]? = some c0 ∧ RoadKit.slotOf Z ST "value" "[B" = fV.slot ∧ RoadKit.slotOf Z ST "coder" "B" = fC.slot := by
  obtain ⟨D, cfV, kV, iV, fV, hD, gV, stV, knV, obV, asV, slV⟩ := V
  obtain ⟨D', cfC, kC, iC, fC, hD', gC, stC, -, -, asC, slC⟩ := C
  cases hD.symm.trans hD'
  obtain ⟨D2, kD, e1, e2, e3, e4, e5⟩ := E
  cases hD.symm.trans e1
  obtain ⟨c2, k2, i1, i2, i3, -⟩ := Cond.instantiable_spec wi
  cases e2.symm.trans i1
  cases e3.symm.trans i2
  obtain ⟨kU, u1, u2⟩ := al.2.2 _ _ e3
  exact ⟨D, fV, fC, ⟨hD, ⟨knV, fun q hq => by rw [hq] at obV; cases obV⟩, by rw [al.findClass]; exact e2, kU, u1, by rw [u2]; exact i3, by rw [u2]; exact e5 i3⟩, ⟨SBG.found_only al ⟨cfV, kV, iV, gV⟩, stV⟩, ⟨SBG.found_only al ⟨cfC, kC, iC, gC⟩, stC⟩, slV, slC, by simp [RoadKit.slotOf, gV], by simp [RoadKit.slotOf, gC]⟩
theorem sta_is {Z U : State} (al : Z.vm.Alike U.vm) {C n d : String} {v : Value} (S : RoadKit.Sta Z U.heap C n d v) : StaticIs U C n d v := by
  obtain ⟨cfS, iS, kS, fS, st, cS, t1, t2, t3, t4, t5, t6, t7⟩ := S
  exact StaticIs.there (s := { Z with heap := U.heap }) ⟨cfS, iS, kS, fS, st, cS, t1, t2, t3, t4, t5, (fun q => by rw [q] at t6; cases t6), t7⟩ al rfl
/-- **length() OF SUCH A STRING** -/
theorem lenW {p : Program} {l : Launch} {e : Env} {R : Room} {s : State} {args : Array Value} {below : List Frame} {len W : Nat} {Z : State} {a0 : Array Value} {h : Heap} (hZ : Z.Warmed39 s.vm) (hw : ∀ d ∈ wordsLen, d.before a0 Z = true) {kI : Nat} (wi : (Jvm.Cond.instantiable ST kI).before a0 Z = true)
    {x t : Addr} {kb : ClassId} {cs : List Int32} {cd N2 z : Int32} {vs : List Value} (E : RoadKit.Exa Z h x ST) (V : RoadKit.Fld Z h x ST "value" "[B" (.ref t)) (C : RoadKit.Fld Z h x ST "coder" "B" (.int cd)) (K : RoadKit.Arv Z h t kb .byte N2 vs (.int 0)) (hc : CodA cs cd N2 vs) (hb : ∀ c ∈ cs, ¬ c < 0 ∧ ¬ (65535 : Int32) < c)
    (S : RoadKit.Sta Z h ST "COMPACT_STRINGS" "Z" (.int z)) (hz : ¬ z = 0) (l2 : cs.length ≤ 4000) (hfr : 2 ≤ R.frames) (hlo : W + 25 ≤ R.locals) :
    Back l R p e below s args (⟨"java/lang/String", "length", "()I"⟩ : MethodName) len W (fun P a => a = #[.ref x] ∧ P.U.heap = h ∧ P.cells + 0 ≤ R.cells ∧ P.slots + 0 ≤ R.slots)
      (fun P _ v B => ∃ L, (v = some (.int (Int32.ofNat cs.length)) ∧ L = [] ∧ B.U.heap = h) ∧ B.locs = P.locs ++ L ∧ B.cells = P.cells + 0 ∧ B.slots = P.slots + 0) := by
  obtain ⟨A, K1, K2, K3, K4, K5, K6⟩ := K
  have hcod := hc.cod (by omega) K3 K5
  intro m meth c P g ig mk a X hg hsize hdg hW hn hp'
  obtain ⟨rfl, rfl, r1, r2⟩ := hp'
  have al : Z.vm.Alike P.U.vm := hZ.alike.trans X.warmed.alike
  obtain ⟨D, fV, fC, hB, F1, F2, g1, g2, -, -⟩ := strObj wi al E V C
  have hx : Txt x t A cd cs.length (fun j => cs.getD j 0) P.U := ⟨⟨_, hB.2.2.1, D, hB.1, rfl, by cases q : D.vm <;> first | rfl | exact absurd q (hB.2.1.2 _)⟩, Has.of hB F1 g1, Has.of hB F2 g2, ⟨K1.1, State.isArrayOf_alike al K1.2.1, K1.2.2, by rcases hcod with ⟨-, q, -⟩ | ⟨-, q, -⟩ <;> omega⟩, hcod, fun j hj => by
    have e : cs.getD j 0 = cs[j] := by simp [List.getD_eq_getElem?_getD, hj]
    show ¬ cs.getD j 0 < 0 ∧ ¬ 65535 < cs.getD j 0
    rw [e]; exact hb _ (List.getElem_mem _)⟩
  obtain ⟨v, B, X', ⟨⟨hv, hh⟩, hl, hk, hs⟩, st⟩ := Len.pays x t A cd cs.length (fun j => cs.getD j 0) z (tabLen_of (movedLen hZ hw)) hfr hlo m meth c P g ig mk _ X hg hsize hdg hW hn ⟨r1, r2, rfl, hx, sta_is al S, hz⟩
  exact ⟨v, B, X', ⟨[], ⟨hv, rfl, hh⟩, hl, hk, hs⟩, st⟩
end StrChars.Road
namespace StrChars.Road
open Jvm Sem ClassFile Op Lib Jvm.Stand Jvm.Free Jvm.Free.XT
open Jvm.Lib.Cold (StaticIs)
/-- the road's facts of a String, as the laws ask it -/
theorem txt_of {Z U : State} {a0 : Array Value} {kI : Nat} (wi : (Jvm.Cond.instantiable ST kI).before a0 Z = true) (al : Z.vm.Alike U.vm) {x t : Addr} {kb : ClassId} {cs : List Int32} {cd N2 : Int32} {vs : List Value} (E : RoadKit.Exa Z U.heap x ST) (V : RoadKit.Fld Z U.heap x ST "value" "[B" (.ref t)) (C : RoadKit.Fld Z U.heap x ST "coder" "B" (.int cd)) (K : RoadKit.Arv Z U.heap t kb .byte N2 vs (.int 0)) (hc : CodA cs cd N2 vs) (hb : ∀ c ∈ cs, ¬ c < 0 ∧ ¬ (65535 : Int32) < c) (l2 : cs.length ≤ 4000) :
    ∃ A, Txt x t A cd cs.length (fun j => cs.getD j 0) U := by
  obtain ⟨A, K1, K2, K3, K4, K5, K6⟩ := K
  have hcod := hc.cod (by omega) K3 K5
  obtain ⟨D, fV, fC, hB, F1, F2, g1, g2, -, -⟩ := strObj wi al E V C
  exact ⟨A, ⟨_, hB.2.2.1, D, hB.1, rfl, by cases q : D.vm <;> first | rfl | exact absurd q (hB.2.1.2 _)⟩, Has.of hB F1 g1, Has.of hB F2 g2, ⟨K1.1, State.isArrayOf_alike al K1.2.1, K1.2.2, by rcases hcod with ⟨-, q, -⟩ | ⟨-, q, -⟩ <;> omega⟩, hcod, fun j hj => by
    have e : cs.getD j 0 = cs[j] := by simp [List.getD_eq_getElem?_getD, hj]
    show ¬ cs.getD j 0 < 0 ∧ ¬ 65535 < cs.getD j 0
    rw [e]; exact hb _ (List.getElem_mem _)⟩
end StrChars.Road
namespace StrChars
open Jvm Sem ClassFile Op Lib Jvm.Stand Jvm.Free.XT Jvm.Free.ALB Jvm.Free.JM Jvm.Free
open Jvm.Lib.Cold (StaticIs)
namespace ChN
def yN : MethodName := ⟨"java/lang/String", "charAt", "(I)C"⟩
abbrev yB : ByteArray := jdk_42_method_56_code
theorem d0 : decode yB 0 = .ok (.aload_n 0, 1) := by decide +kernel
theorem d1 : decode yB 1 = .ok (.invokevirtual 492, 3) := by decide +kernel
theorem d4 : decode yB 4 = .ok (.ifCond (.eq) 12, 3) := by decide +kernel
theorem d7 : decode yB 7 = .ok (.aload_n 0, 1) := by decide +kernel
theorem d8 : decode yB 8 = .ok (.getfield 9, 3) := by decide +kernel
theorem d11 : decode yB 11 = .ok (.iload_n 1, 1) := by decide +kernel
theorem d12 : decode yB 12 = .ok (.invokestatic 495, 3) := by decide +kernel
theorem d15 : decode yB 15 = .ok (.ireturn, 1) := by decide +kernel
def site : List Cond := [.fieldLink "java/lang/String" 9 "java/lang/String" "value" "[B", IsL.tab, LChA.tab] ++ virtW "java/lang/String" 492 "java/lang/String" IsL.yN IsL.yN ++ staticW "java/lang/String" 495 LChA.yN
def tab : Cond := tabOf yN yB 2 (some .char) site
def P (x t : Addr) (V : Cell) (n : Nat) (f : Nat → Int32) (z : Int32) (fm : Value) (i : Nat) (args : Array Value) (s : State) : Prop := args = #[.ref x, .int (Int32.ofNat i)] ∧ Txt x t V 0 n f s ∧ i < n ∧ StaticIs s "java/lang/String" "COMPACT_STRINGS" "Z" (.int z) ∧ ¬ z = 0 ∧ StaticIs s "jdk/internal/util/Preconditions" "SIOOBE_FORMATTER" "Ljava/util/function/BiFunction;" fm ∧ fm.isRef = true
def E (f : Nat → Int32) (i : Nat) (r : Option Value) (s u : State) : Prop := XT.PureE (some (.int (f i))) r s u
/-- charAt(i) of a Latin-1 String of n chars, i < n: f i -/
theorem law (l : Launch) (x t : Addr) (V : Cell) (n : Nat) (f : Nat → Int32) (z : Int32) (fm : Value) (i : Nat) : Law l yN 2 1 3 40 yB 2 (some .char) site (P x t V n f z fm i) (E f i) [] 0 0 := by
  refine Law.of_walk (plainFor_of_name (by decide +kernel)) (by decide +kernel) (by decide +kernel) (by decide) (fun _ _ h => by rw [h.1]; rfl) (fun _ U U' hal hh h => ⟨h.1, h.2.1.mv hal hh, h.2.2.1, h.2.2.2.1.there hal hh, h.2.2.2.2.1, h.2.2.2.2.2.1.there hal hh, h.2.2.2.2.2.2⟩) (fun r U U' V V' h1 hal h2 h => XT.PureE.mv r U U' V V' h1 hal h2 h) ?_
  intro p e s m args below meth c s₁ X0 hexec hbytes hml hret hlk hnm hown hh0 W hP
  obtain ⟨rfl, hx, hi, s1, hz, s3, rf⟩ := hP
  have v31 := hx.2.2.2.1.2.2.2
  have hr := hx.2.2.2.2.2 i hi
  have hx0 := hx.mv X0.warmed.alike hh0
  have c1 : Steps p.tables e below (s₁.setTop (entryFrame m #[.ref x, .int (Int32.ofNat i)] 2)) (s₁.setTop (mkF m 1 #[.val (.ref x), .val (.int (Int32.ofNat i))] [.ref x])) := Steps.trans (entry rfl) (by
    show Steps p.tables e below (s₁.setTop (mkF m 0 #[.val (.ref x), .val (.int (Int32.ofNat i))] [])) _
    refine XS.aloadN X0.here hexec rfl (hb hbytes d0) rfl rfl ?_
    exact Steps.refl _)
  obtain ⟨v2, T2, X2, E2, g2⟩ := X0.callV hexec (IsL.law l x 0 z) hown (wks W (virtW "java/lang/String" 492 "java/lang/String" IsL.yN IsL.yN)) rfl (by decide) (wk W IsL.tab) (W := 0) (Nat.le_of_ble_eq_true rfl) (Nat.le_of_ble_eq_true rfl) (Nat.le_refl _) (Nat.le_refl _) (hx0.1.fc X0.warmed.alike) hx0.1.is (g := (mkF m 1 #[.val (.ref x), .val (.int (Int32.ofNat i))] [.ref x])) rfl (by rw [hml]; rfl) c1 (argsL := []) (rest := []) rfl rfl (by show 2 * 0 + 0 ≤ _; decide) (hb hbytes d1) (⟨rfl, hx0.2.2.1, hx.2.2.2.2.1.cd, s1.there X0.warmed.alike hh0, hz⟩)
  obtain ⟨rfl, q2⟩ := E2
  have hh2 := q2.trans hh0
  have hx2 := hx.mv X2.warmed.alike hh2
  obtain ⟨-, k1, k2⟩ | ⟨k0, -⟩ := hx.2.2.2.2.1
  · have c3 : Steps p.tables e below (s₁.setTop (entryFrame m #[.ref x, .int (Int32.ofNat i)] 2)) (T2.setTop (mkF m 8 #[.val (.ref x), .val (.int (Int32.ofNat i))] [.ref x])) := Steps.trans g2 (by
      refine XS.ifNo X2.here hexec rfl (hb hbytes d4) rfl (i0_eq_f (by decide)) ?_
      refine XS.aloadN X2.here hexec rfl (hb hbytes d7) rfl rfl ?_
      exact Steps.refl _)
    obtain ⟨T4, X4, q4, st4⟩ := X2.hget hexec hown (wk W (.fieldLink "java/lang/String" 9 "java/lang/String" "value" "[B")) hx2.2.1 (g := (mkF m 8 #[.val (.ref x), .val (.int (Int32.ofNat i))] [.ref x])) rfl (rest := []) rfl (hb hbytes d8)
    have hh4 := q4.trans hh2
    have c5 : Steps p.tables e below (s₁.setTop (entryFrame m #[.ref x, .int (Int32.ofNat i)] 2)) (T4.setTop (mkF m 12 #[.val (.ref x), .val (.int (Int32.ofNat i))] [.int (Int32.ofNat i), .ref t])) := (c3.trans (st4 _ (Steps.refl _))).trans (by
      refine XS.iloadN X4.here hexec rfl (hb hbytes d11) rfl ?_
      exact Steps.refl _)
    obtain ⟨v6, T6, X6, E6, g6⟩ := X4.callS hexec (LChA.law l t V i (lo8 (f i)) fm) hown (wks W (staticW "java/lang/String" 495 LChA.yN)) (wk W LChA.tab) (W := 0) (Nat.le_of_ble_eq_true rfl) (Nat.le_of_ble_eq_true rfl) (Nat.le_refl _) (Nat.le_refl _) (g := (mkF m 12 #[.val (.ref x), .val (.int (Int32.ofNat i))] [.int (Int32.ofNat i), .ref t])) rfl (by rw [hml]; rfl) c5 (argsL := [.ref t, .int (Int32.ofNat i)]) (rest := []) rfl rfl (by show 2 * 0 + 0 ≤ _; decide) (hb hbytes d12) (⟨rfl, hx.2.2.2.1.mv X4.warmed.alike hh4, (k2 i hi).1, s3.there X4.warmed.alike hh4, rf⟩)
    obtain ⟨rfl, q6⟩ := E6
    rw [chr8_lo8 hr.1 (k2 i hi).2] at g6
    exact ⟨T6, some (.int (f i)), _, _, _, X6, rfl, rfl, rfl, (fun h => by cases h), ⟨rfl, q6.trans hh4⟩, fun fs hl => Steps.trans g6 (X6.ireturnOut hexec hret (narrow_ch hr.1 hr.2) (Or.inr (Or.inr (Or.inr (Or.inl rfl)))) (hb hbytes d15) hl)⟩
  · exact absurd k0 (by decide)
theorem pays {l : Launch} {R : Room} {p : Program} {e : Env} {below : List Frame} {s : State} {sargs : Array Value} {len W : Nat} (x t : Addr) (V : Cell) (n : Nat) (f : Nat → Int32) (z : Int32) (fm : Value) (i : Nat) (htab : tab.before sargs s = true) (hfr : 4 ≤ R.frames) (hlo : W + 53 ≤ R.locals) :
    Back l R p e below s sargs yN len W (fun A₁ a₁ => A₁.cells + 0 ≤ R.cells ∧ A₁.slots + 0 ≤ R.slots ∧ P x t V n f z fm i a₁ A₁.U) (fun A₁ _ v₁ B₁ => E f i v₁ A₁.U B₁.U ∧ B₁.locs = A₁.locs ++ [] ∧ B₁.cells = A₁.cells + 0 ∧ B₁.slots = A₁.slots + 0) :=
  (law l x t V n f z fm i).pays htab hfr (by omega)
end ChN
end StrChars
namespace StrChars.Road
open Jvm Sem ClassFile Op Lib Jvm.Stand Jvm.Free Jvm.Free.XT
open Jvm.Lib.Cold (StaticIs)
/-- the words of String.charAt(int), the Latin-1 road alone -/
abbrev wordsChN : List Jvm.Cond := [.code ChN.yN ChN.yB 2 (some .char), .initialized ST, .fieldLink ST 9 ST "value" "[B", .fieldLink ST 38 ST "COMPACT_STRINGS" "Z", .fieldLink ST 15 ST "coder" "B", .code IsL.yN IsL.yB 1 (some .boolean), .methodLink ST 492 IsL.yN, .declares IsL.yN, .selects ST IsL.yN IsL.yN, .instanceMethod IsL.yN,
  .methodLink ST 495 LChA.yN, .static LChA.yN, .code LChA.yN LChA.yB 2 (some .char), .initialized "java/lang/StringLatin1", .methodLink "java/lang/StringLatin1" 9 JO.Str_checkIndex.yN, .static JO.Str_checkIndex.yN, .code JO.Str_checkIndex.yN JO.Str_checkIndex.yB 2 none,
  .fieldLink ST 1053 "jdk/internal/util/Preconditions" "SIOOBE_FORMATTER" "Ljava/util/function/BiFunction;", .methodLink ST 1059 JC.PreCheck.yN, .static JC.PreCheck.yN, .code JC.PreCheck.yN JC.PreCheck.yB 3 (some .int), .initialized "jdk/internal/util/Preconditions"]
theorem tabChN_of {a : Array Value} {s : State} (h : ∀ w ∈ wordsChN, w.before a s = true) : ChN.tab.before a s = true := by
  have hp : JC.PreCheck.tab.before a s = true := unparts (wk h (.code JC.PreCheck.yN JC.PreCheck.yB 3 (some .int))) (wks h (.initialized JC.PreCheck.yN.cls :: JC.PreCheck.site))
  have qk := consq hp h
  have hk : JO.Str_checkIndex.tab.before a s = true := unparts (wk qk (.code JO.Str_checkIndex.yN JO.Str_checkIndex.yB 2 none)) (wks qk (.initialized JO.Str_checkIndex.yN.cls :: JO.Str_checkIndex.site))
  have ql := consq hk h
  have hl : LChA.tab.before a s = true := unparts (wk ql (.code LChA.yN LChA.yB 2 (some .char))) (wks ql (.initialized LChA.yN.cls :: LChA.site))
  have hi : IsL.tab.before a s = true := unparts (wk h (.code IsL.yN IsL.yB 1 (some .boolean))) (wks h (.initialized IsL.yN.cls :: IsL.site))
  have q := consq hi (consq hl h)
  exact unparts (wk q (.code ChN.yN ChN.yB 2 (some .char))) (wks q (.initialized ChN.yN.cls :: ChN.site))
theorem movedChN {Z s : State} {a0 args : Array Value} (hZ : Z.Warmed39 s.vm) (hw : ∀ d ∈ wordsChN, d.before a0 Z = true) : ∀ d ∈ wordsChN, d.before args s = true := fun d hd => by
  have t : ∀ d ∈ wordsChN, (d.onTables && d.keepsFace) = true := by decide +kernel
  exact RoadKit.mv hZ (hw d hd) (t d hd)
/-- **charAt(i) OF A LATIN-1 STRING**, i < n: the char -/
theorem chN {p : Program} {l : Launch} {e : Env} {R : Room} {s : State} {args : Array Value} {below : List Frame} {len W : Nat} {Z : State} {a0 : Array Value} {h : Heap} (hZ : Z.Warmed39 s.vm) (hw : ∀ d ∈ wordsChN, d.before a0 Z = true) {kI : Nat} (wi : (Jvm.Cond.instantiable ST kI).before a0 Z = true)
    {x t : Addr} {kb : ClassId} {cs : List Int32} {N2 z : Int32} {vs : List Value} {fm : Value} {i : Nat} {j : Int32} (E : RoadKit.Exa Z h x ST) (V : RoadKit.Fld Z h x ST "value" "[B" (.ref t)) (C : RoadKit.Fld Z h x ST "coder" "B" (.int 0)) (K : RoadKit.Arv Z h t kb .byte N2 vs (.int 0)) (hc : CodA cs 0 N2 vs) (hb : ∀ c ∈ cs, ¬ c < 0 ∧ ¬ (65535 : Int32) < c)
    (S : RoadKit.Sta Z h ST "COMPACT_STRINGS" "Z" (.int z)) (hz : ¬ z = 0) (F : RoadKit.Sta Z h "jdk/internal/util/Preconditions" "SIOOBE_FORMATTER" "Ljava/util/function/BiFunction;" fm) (rf : fm.isRef = true) (l2 : cs.length ≤ 4000) (hi : i < cs.length) (hj : j = Int32.ofNat i) (hfr : 4 ≤ R.frames) (hlo : W + 53 ≤ R.locals) :
    Back l R p e below s args (⟨"java/lang/String", "charAt", "(I)C"⟩ : MethodName) len W (fun P a => a = #[.ref x, .int j] ∧ P.U.heap = h ∧ P.cells + 0 ≤ R.cells ∧ P.slots + 0 ≤ R.slots)
      (fun P _ v B => ∃ L, (v = some (.int (cs.getD i 0)) ∧ L = [] ∧ B.U.heap = h) ∧ B.locs = P.locs ++ L ∧ B.cells = P.cells + 0 ∧ B.slots = P.slots + 0) := by
  subst hj
  intro m meth c P g ig mk a X hg hsize hdg hW hn hp'
  obtain ⟨rfl, rfl, r1, r2⟩ := hp'
  have al : Z.vm.Alike P.U.vm := hZ.alike.trans X.warmed.alike
  obtain ⟨A, hx⟩ := txt_of wi al E V C K hc hb l2
  obtain ⟨v, B, X', ⟨⟨hv, hh⟩, hl, hk, hs⟩, st⟩ := ChN.pays x t A cs.length (fun j => cs.getD j 0) z fm i (tabChN_of (movedChN hZ hw)) hfr hlo m meth c P g ig mk _ X hg hsize hdg hW hn ⟨r1, r2, rfl, hx, hi, sta_is al S, hz, sta_is al F, rf⟩
  exact ⟨v, B, X', ⟨[], ⟨hv, rfl, hh⟩, hl, hk, hs⟩, st⟩
/-- what backV says of its String, as the contracts of this text ask it: cs's low bytes, coder 0 -/
theorem codOf {cs : List Int32} {n : Nat} (hn : cs.length = n) (hb : ∀ c ∈ cs, ¬ 255 < c) : CodA cs 0 (Int32.ofNat n) ((cs.map lo8).map Value.int) := Or.inl ⟨rfl, by rw [hn], by simp [List.map_map, Function.comp_def], hb⟩
end StrChars.Road
end Jvm.Pilot.@@N@@
namespace Jvm.Pilot.@@N@@
open Jvm Jvm.ClassFile Sem Op Lib Jvm.Free Jvm.Stand Jvm.LawKit Jvm.RoadKit Bundle Jvm.Pilot.@@N@@.Jvm.D
/-- the run goes on from here to an end at which K holds -/
def own_Go (p : Program) (e : Env) (below : List Frame) (T : State) (g : JFrame) (K : State → Outcome → Prop) : Prop := ∃ s₂ o, Steps p.tables e below (T.setTop g) s₂ ∧ K s₂ o
section OwnGo
variable {p : Program} {l : Launch} {e : Env} {R : Room} {s : State} {m : MethodId} {args : Array Value} {below : List Frame} {meth : Method} {c : Code} {T T' s₂ : State} {o : Outcome} {locs : List Loc} {cells slots : Nat} {g g' : JFrame} {K : State → Outcome → Prop}
theorem own_loop {F : Int32 → JFrame} {I : Nat → Int32 → Prop} {k0 : Nat} {i0 : Int32} (h0 : I k0 i0) (step : ∀ k i, I k i → (∀ k' i', k' < k → I k' i' → own_Go p e below T (F i') K) → own_Go p e below T (F i) K) : own_Go p e below T (F i0) K := by
  induction k0 using Nat.strongRecOn generalizing i0 with
  | ind k ih => exact step k i0 h0 fun k' i' hk' h' => ih k' hk' h'
theorem own_enter (q : g = g') (k : own_Go p e below T g' K) : ∃ s₂ o, Steps p.tables e below (T.setTop g) s₂ ∧ K s₂ o := by subst q; exact k
theorem own_st (h : ∀ t, Steps p.tables e below (T'.setTop g') t → Steps p.tables e below (T.setTop g) t) (k : own_Go p e below T' g' K) : own_Go p e below T g K := by
  obtain ⟨s2, o, h1, h2⟩ := k
  exact ⟨s2, o, h _ h1, h2⟩
theorem own_tr (h : Steps p.tables e below (T.setTop g) (T'.setTop g')) (k : own_Go p e below T' g' K) : own_Go p e below T g K := own_st (fun _ q => h.trans q) k
theorem own_fin (h : Steps p.tables e below (T.setTop g) s₂) (k : K s₂ o) : own_Go p e below T g K := ⟨s₂, o, h, k⟩
theorem own_retI (X : Stand p l e R s m args below meth c T locs cells slots) (hx : p.tables.exec = Jvm.exec) {pc : Nat} {Ls : Array Slot} {z : Int32} {rest : List Value} (hret : meth.sig.returnType = some .int) (hd : decode c.code pc = .ok (.ireturn, 1)) {fs : List Frame}
    (hl : ∀ (f : JFrame) (acts : List Action), f.method = m → f.locked = none → f.entered = [] → (doReturn e (T.setTop f) acts (some (.int z))).1 = T.setFrames fs) : Steps p.tables e below (T.setTop (mkF m pc Ls (.int z :: rest))) (T.setFrames fs) := by
  have hm' : T.vm.method? m = some meth := X.method'
  have hn : narrow .int (.int z) = .int z := rfl
  show Steps p.tables e below (T.setTop { method := m, pc := pc, locals := Ls, stack := _ :: rest, locked := none }) _
  jvm_step X.here [X.here.top, hx, hd, hm', hret, hn]
  first | (intro acts; rw [hl _ acts rfl rfl rfl]) | rw [hl _ _ rfl rfl rfl]
  exact Steps.refl _
theorem own_retD (X : Stand p l e R s m args below meth c T locs cells slots) (hx : p.tables.exec = Jvm.exec) {pc : Nat} {Ls : Array Slot} {z : UInt64} {rest : List Value} (hret : meth.sig.returnType = some .double) (hd : decode c.code pc = .ok (.dreturn, 1)) {fs : List Frame}
    (hl : ∀ (f : JFrame) (acts : List Action), f.method = m → f.locked = none → f.entered = [] → (doReturn e (T.setTop f) acts (some (.double z))).1 = T.setFrames fs) : Steps p.tables e below (T.setTop (mkF m pc Ls (.double z :: rest))) (T.setFrames fs) := by
  have hm' : T.vm.method? m = some meth := X.method'
  have hn : narrow .double (.double z) = .double z := rfl
  show Steps p.tables e below (T.setTop { method := m, pc := pc, locals := Ls, stack := _ :: rest, locked := none }) _
  jvm_step X.here [X.here.top, hx, hd, hm', hret, hn]
  first | (intro acts; rw [hl _ acts rfl rfl rfl]) | rw [hl _ _ rfl rfl rfl]
  exact Steps.refl _
theorem own_retL (X : Stand p l e R s m args below meth c T locs cells slots) (hx : p.tables.exec = Jvm.exec) {pc : Nat} {Ls : Array Slot} {z : Int64} {rest : List Value} (hret : meth.sig.returnType = some .long) (hd : decode c.code pc = .ok (.lreturn, 1)) {fs : List Frame}
    (hl : ∀ (f : JFrame) (acts : List Action), f.method = m → f.locked = none → f.entered = [] → (doReturn e (T.setTop f) acts (some (.long z))).1 = T.setFrames fs) : Steps p.tables e below (T.setTop (mkF m pc Ls (.long z :: rest))) (T.setFrames fs) := by
  have hm' : T.vm.method? m = some meth := X.method'
  have hn : narrow .long (.long z) = .long z := rfl
  show Steps p.tables e below (T.setTop { method := m, pc := pc, locals := Ls, stack := _ :: rest, locked := none }) _
  jvm_step X.here [X.here.top, hx, hd, hm', hret, hn]
  first | (intro acts; rw [hl _ acts rfl rfl rfl]) | rw [hl _ _ rfl rfl rfl]
  exact Steps.refl _
theorem own_retR (X : Stand p l e R s m args below meth c T locs cells slots) (hx : p.tables.exec = Jvm.exec) {pc : Nat} {Ls : Array Slot} {z : Value} {t : FieldType} {rest : List Value} (hz : z.isRef = true) (hret : meth.sig.returnType = some t) (ht : t.isReference = true) (hd : decode c.code pc = .ok (.areturn, 1)) {fs : List Frame}
    (hl : ∀ (f : JFrame) (acts : List Action), f.method = m → f.locked = none → f.entered = [] → (doReturn e (T.setTop f) acts (some z)).1 = T.setFrames fs) : Steps p.tables e below (T.setTop (mkF m pc Ls (z :: rest))) (T.setFrames fs) := by
  have hm' : T.vm.method? m = some meth := X.method'
  show Steps p.tables e below (T.setTop { method := m, pc := pc, locals := Ls, stack := _ :: rest, locked := none }) _
  jvm_step X.here [X.here.top, hx, hd, hm', hret, hz, ht]
  first | (intro acts; rw [hl _ acts rfl rfl rfl]) | rw [hl _ _ rfl rfl rfl]
  exact Steps.refl _
end OwnGo
theorem own_up (cs : List Int32) (h : ∀ c ∈ cs, ¬ c < 0 ∧ ¬ (255 : Int32) < c) : ∀ c ∈ cs, ¬ c < 0 ∧ ¬ (65535 : Int32) < c := fun c hc => ⟨(h c hc).1, fun q => (h c hc).2 (by rw [Int32.lt_iff_toInt_lt] at q ⊢; have e1 : (65535 : Int32).toInt = 65535 := rfl; have e2 : (255 : Int32).toInt = 255 := rfl; omega)⟩
theorem own_c255 (x : Int32) (h0 : 0 ≤ x.toInt) (h1 : x.toInt ≤ 255) : nar .char (x.toUInt32.toUInt16.toUInt32.toInt32) = x := by
  have e : x.toUInt32.toUInt16.toUInt32.toInt32 = x := by
    have h := c_i2c x
    apply Int32.toInt_inj.mp
    omega
  show (x.toUInt32.toUInt16.toUInt32.toInt32).toUInt32.toUInt16.toUInt32.toInt32 = x
  rw [e, e]
theorem own_in255 (x : Int32) (h0 : 0 ≤ x.toInt) (h1 : x.toInt ≤ 255) : ¬ x < 0 ∧ ¬ (255 : Int32) < x := by
  constructor
  · rw [Int32.lt_iff_toInt_lt]; have : (0 : Int32).toInt = 0 := rfl; omega
  · rw [Int32.lt_iff_toInt_lt]; have : (255 : Int32).toInt = 255 := rfl; omega
theorem own_m255 (x : Int32) : 0 ≤ (x &&& (255 : Int32)).toInt ∧ (x &&& (255 : Int32)).toInt ≤ 255 := by
  have h := c_and x 255 (by decide)
  exact h
theorem own_narc (x : Int32) : nar .char ((x &&& (255 : Int32)).toUInt32.toUInt16.toUInt32.toInt32) = x &&& (255 : Int32) := own_c255 _ (own_m255 x).1 (own_m255 x).2
def own_EL : List (String × Nat) := [("java/lang/StringLatin1", 151)]
theorem own_EW {Z : State} {a0 : Array Value} (hw : ∀ d ∈ tables_1, d.before a0 Z = true) : EW Z a0 own_EL := EW.cons (text := "") (hw _ (List.mem_of_getElem? (i := 127) rfl)) (by decide) EW.nil
theorem own_wS {Z : State} {a0 : Array Value} (hw : ∀ d ∈ tables_1, d.before a0 Z = true) : ∀ a ∈ Bundle.stringAtoms, a.before a0 Z = true := fun d hd => hw d ((by decide +kernel : ∀ d ∈ Bundle.stringAtoms, d ∈ tables_1) d hd)
def own_ch (c : Int32) : Prop := 0 ≤ c.toInt ∧ c.toInt ≤ 255
theorem own_ch255 {c : Int32} (h : own_ch c) : ¬ c < 0 ∧ ¬ (255 : Int32) < c := own_in255 c h.1 h.2
theorem own_chnar {c : Int32} (h : own_ch c) : nar .char c = c := by
  have e : c.toUInt32.toUInt16.toUInt32.toInt32 = c := by
    have h2 := c_i2c c
    apply Int32.toInt_inj.mp
    unfold own_ch at h
    omega
  exact e
theorem own_cat {v : Value} (h : v.isRef = true) : v.category = 1 := by cases v <;> first | rfl | cases h
theorem own_chm (x : Int32) : own_ch (x &&& (255 : Int32)) := own_m255 x
theorem own_chc {x : Int32} (h : own_ch x) : own_ch (nar .char (x.toUInt32.toUInt16.toUInt32.toInt32)) := by rw [own_c255 x h.1 h.2]; exact h
theorem own_shr0 (z : Int32) : z >>> ((0 : Int32) &&& 31) = z := by
  have h := c_ishr z 0 0 (by decide)
  apply Int32.toInt_inj.mp
  rw [h]
  show z.toInt / (1 : Int) = _
  omega
theorem own_46 {c : Int32} (h : own_ch c) (e : c.toInt8.toInt32 = (46 : Int32)) : c = 46 := by
  have h2 := c_i2b c
  rw [e, show (46 : Int32).toInt = 46 from rfl] at h2
  apply Int32.toInt_inj.mp
  rw [show (46 : Int32).toInt = 46 from rfl]
  unfold own_ch at h
  omega
theorem own_n46 {c : Int32} (e : ¬ c.toInt8.toInt32 = (46 : Int32)) : ¬ c = 46 := fun q => e (by rw [q]; decide)
theorem own_n (x : Int32) : (x &&& (7 : Int32)) % (5 : Int32) + (1 : Int32) = 1 ∨ (x &&& (7 : Int32)) % (5 : Int32) + (1 : Int32) = 2 ∨ (x &&& (7 : Int32)) % (5 : Int32) + (1 : Int32) = 3 ∨ (x &&& (7 : Int32)) % (5 : Int32) + (1 : Int32) = 4 ∨ (x &&& (7 : Int32)) % (5 : Int32) + (1 : Int32) = 5 := by
  have h := c_and x 7 (by decide)
  have hr := (c_irem (x &&& (7 : Int32)) 5 5 rfl).1 h.1
  generalize (x &&& (7 : Int32)) % (5 : Int32) = k at hr ⊢
  have h5 : k.toInt = 0 ∨ k.toInt = 1 ∨ k.toInt = 2 ∨ k.toInt = 3 ∨ k.toInt = 4 := by omega
  rcases h5 with q | q | q | q | q
  · rw [show k = 0 from Int32.toInt_inj.mp q]; decide
  · rw [show k = 1 from Int32.toInt_inj.mp q]; decide
  · rw [show k = 2 from Int32.toInt_inj.mp q]; decide
  · rw [show k = 3 from Int32.toInt_inj.mp q]; decide
  · rw [show k = 4 from Int32.toInt_inj.mp q]; decide
theorem own_sub0 (z : Int32) : z - (0 : Int32) = z := by
  have h := c_isub z 0
  have h1 := rng32 (z - 0)
  have h2 := rng32 z
  rw [show (0 : Int32).toInt = 0 from rfl] at h
  apply Int32.toInt_inj.mp
  omega
theorem d1_0 : decode method_3_code 0 = .ok (.iload_n 0, 1) := by decide +kernel
theorem d1_1 : decode method_3_code 1 = .ok (.iload_n 1, 1) := by decide +kernel
theorem d1_2 : decode method_3_code 2 = .ok (.iushr, 1) := by decide +kernel
theorem d1_3 : decode method_3_code 3 = .ok (.iconst 1, 1) := by decide +kernel
theorem d1_4 : decode method_3_code 4 = .ok (.iand, 1) := by decide +kernel
theorem d1_5 : decode method_3_code 5 = .ok (.ifCond .eq 8, 3) := by decide +kernel
theorem d1_8 : decode method_3_code 8 = .ok (.bipush 46, 2) := by decide +kernel
theorem d1_10 : decode method_3_code 10 = .ok (.goto 5, 3) := by decide +kernel
theorem d1_13 : decode method_3_code 13 = .ok (.iload_n 2, 1) := by decide +kernel
theorem d1_14 : decode method_3_code 14 = .ok (.i2c, 1) := by decide +kernel
theorem d1_15 : decode method_3_code 15 = .ok (.ireturn, 1) := by decide +kernel
theorem pn_1 : plainName "com/example/descriptor/descriptor/vocabulary/HierarchyParentPinLaw" = true := by first | (simp [plainName, overriddenIn]; done) | decide +kernel
theorem ef_rmPk (m : MethodId) (x0 : Int32) (x1 : Int32) (x2 : Int32) : entryFrame m #[(.int x0), (.int x1), (.int x2)] 3 = mkF m 0 #[.val (.int x0), .val (.int x1), .val (.int x2)] [] := by first | (simp [entryFrame, mkF, argsToLocals, Value.category]; done) | rfl
def Q_rmPk (Z : State) (d : Int32) (i : Int32) (x : Int32) (h0 : Heap) (n0 : Nat) (v : Option Value) (h : Heap) (L : List Loc) : Prop := ∃ r : Int32, v = some (.int r) ∧ Fr n0 L ∧ h = h0 ∧ (own_ch r)
set_option maxRecDepth 65536 in
set_option maxHeartbeats 40000000 in
theorem rmPk (l : Launch) (Z : State) (a0 : Array Value) (hw : ∀ d ∈ tables_1, d.before a0 Z = true) (ws : List Jvm.Cond) (d : Int32) (i : Int32) (x : Int32) (h0 : Heap) (n0 : Nat) (Z0 : n0 ≤ h0.size) (hx_ : (own_ch x)) :
    MetFree l (⟨"com/example/descriptor/descriptor/vocabulary/HierarchyParentPinLaw", "pick", "(III)C"⟩ : MethodName) (head1 (Jvm.Cond.code (⟨"com/example/descriptor/descriptor/vocabulary/HierarchyParentPinLaw", "pick", "(III)C"⟩ : MethodName) method_3_code 3 (some .char) :: ws) ({ frames := 0, cells := 0, slots := 0, locals := 0 } : Room)) (fun a U => a = #[(.int d), (.int i), (.int x)] ∧ Z.Warmed39 U.vm ∧ U.heap = h0) (fun _ _ _ _ _ => True) (fun _ U o U' => ∃ v L, o = .returned v ∧ Q_rmPk Z d i x h0 n0 v U'.heap L ∧ FrameEnd U o U' L ({ frames := 0, cells := 0, slots := 0, locals := 0 } : Room).cells ({ frames := 0, cells := 0, slots := 0, locals := 0 } : Room).slots) := by
  refine MetFree.of_bodySF (plainFor_of_name pn_1) hisR ?_
  intro p e s m args below meth c s₁ Bd hml0 hP hK
  obtain ⟨rfl, hZ, hh⟩ := hP
  have hx := Bd.exec
  have hby := Bd.bytes
  have hml : c.maxLocals = 3 := hml0
  have hown : s.vm.findClass "com/example/descriptor/descriptor/vocabulary/HierarchyParentPinLaw" = some m.cls := findClass_of_methodNamed Bd.named
  have hnm := (name_of_methodNamed Bd.named Bd.method).1
  have X0 : Stand p l e ({ frames := 0, cells := 0, slots := 0, locals := 0 } : Room) s m #[(.int d), (.int i), (.int x)] below meth c s₁ [] 0 0 := Stand.of_body Bd
  have e0 : s₁.heap = h0 := by rw [← hh, Bd.state]; rfl
  have N0 := Fr.nil n0
  refine own_enter (ef_rmPk m d i x) ?_
  refine own_st (fun t_ k_ => XS.iloadN X0.here hx rfl (hb hby d1_0) rfl k_) ?_
  refine own_st (fun t_ k_ => XS.iloadN X0.here hx rfl (hb hby d1_1) rfl k_) ?_
  refine own_st (fun t_ k_ => XS.iushr X0.here hx rfl (hb hby d1_2) rfl k_) ?_
  refine own_st (fun t_ k_ => XS.iconst X0.here hx rfl (hb hby d1_3) k_) ?_
  refine own_st (fun t_ k_ => XS.iand X0.here hx rfl (hb hby d1_4) rfl k_) ?_
  show own_Go p e below s₁ (mkF m 5 #[.val (.int d), .val (.int i), .val (.int x)] [(.int (((d.toUInt32 >>> (i &&& 31).toUInt32).toInt32) &&& (1 : Int32)))]) _
  by_cases c5 : (((d.toUInt32 >>> (i &&& 31).toUInt32).toInt32) &&& (1 : Int32)) = (0 : Int32)
  · skip
    refine own_st (fun t_ k_ => XS.ifYes X0.here hx rfl (pc0 := 5) (pc' := 13) rfl (hb hby d1_5) rfl ((if0 _ _).trans (teq c5).1) (by decide) (by decide) k_) ?_
    refine own_st (fun t_ k_ => XS.iloadN X0.here hx rfl (hb hby d1_13) rfl k_) ?_
    refine own_st (fun t_ k_ => XS.i2c X0.here hx rfl (hb hby d1_14) rfl k_) ?_
    show own_Go p e below s₁ (mkF m 15 #[.val (.int d), .val (.int i), .val (.int x)] [(.int (x.toUInt32.toUInt16.toUInt32.toInt32))]) _
    obtain ⟨fs, hr, hrun, hended, hW, hsame⟩ := X0.leave (v := some (.int (nar .char (x.toUInt32.toUInt16.toUInt32.toInt32)))) (fun h => by rw [Bd.returns] at h; cases h)
    refine own_fin (retN X0 hx (t := .char) Bd.returns (by simp) (hb hby d1_15) hr) ⟨hrun, hended, _, _, rfl, ?_, ⟨_, rfl⟩, hW, hsame.mono (by decide) (by decide)⟩
    show Q_rmPk Z d i x h0 n0 _ s₁.heap _
    rw [e0]
    exact ⟨(nar .char (x.toUInt32.toUInt16.toUInt32.toInt32)), rfl, N0, rfl, (own_chc hx_)⟩
  · skip
    refine own_st (fun t_ k_ => XS.ifNo X0.here hx rfl (hb hby d1_5) rfl ((if0 _ _).trans (feq c5).1) k_) ?_
    refine own_st (fun t_ k_ => XS.bipush X0.here hx rfl (hb hby d1_8) k_) ?_
    refine own_st (fun t_ k_ => XS.goto X0.here hx rfl (pc0 := 10) (pc' := 15) rfl (hb hby d1_10) (by decide) (by decide) k_) ?_
    show own_Go p e below s₁ (mkF m 15 #[.val (.int d), .val (.int i), .val (.int x)] [(.int (46 : Int32))]) _
    obtain ⟨fs, hr, hrun, hended, hW, hsame⟩ := X0.leave (v := some (.int (nar .char (46 : Int32)))) (fun h => by rw [Bd.returns] at h; cases h)
    refine own_fin (retN X0 hx (t := .char) Bd.returns (by simp) (hb hby d1_15) hr) ⟨hrun, hended, _, _, rfl, ?_, ⟨_, rfl⟩, hW, hsame.mono (by decide) (by decide)⟩
    show Q_rmPk Z d i x h0 n0 _ s₁.heap _
    rw [e0]
    exact ⟨(nar .char (46 : Int32)), rfl, N0, rfl, (by unfold own_ch; decide)⟩
theorem d2_0 : decode method_4_code 0 = .ok (.iload_n 0, 1) := by decide +kernel
theorem d2_1 : decode method_4_code 1 = .ok (.iconst 1, 1) := by decide +kernel
theorem d2_2 : decode method_4_code 2 = .ok (.if_icmp .ne 20, 3) := by decide +kernel
theorem d2_5 : decode method_4_code 5 = .ok (.new 24, 3) := by decide +kernel
theorem d2_8 : decode method_4_code 8 = .ok (.dup, 1) := by decide +kernel
theorem d2_9 : decode method_4_code 9 = .ok (.iconst 1, 1) := by decide +kernel
theorem d2_10 : decode method_4_code 10 = .ok (.newarray .char, 2) := by decide +kernel
theorem d2_12 : decode method_4_code 12 = .ok (.dup, 1) := by decide +kernel
theorem d2_13 : decode method_4_code 13 = .ok (.iconst 0, 1) := by decide +kernel
theorem d2_14 : decode method_4_code 14 = .ok (.aload_n 1, 1) := by decide +kernel
theorem d2_15 : decode method_4_code 15 = .ok (.iconst 0, 1) := by decide +kernel
theorem d2_16 : decode method_4_code 16 = .ok (.caload, 1) := by decide +kernel
theorem d2_17 : decode method_4_code 17 = .ok (.castore, 1) := by decide +kernel
theorem d2_18 : decode method_4_code 18 = .ok (.invokespecial 33, 3) := by decide +kernel
theorem d2_21 : decode method_4_code 21 = .ok (.areturn, 1) := by decide +kernel
theorem pn_2 : plainName "com/example/descriptor/descriptor/vocabulary/HierarchyParentPinLaw" = true := by first | (simp [plainName, overriddenIn]; done) | decide +kernel
theorem pd___C_V : parseMethodDescriptor "([C)V" = some ⟨[(.array .char)], none⟩ := by decide +kernel
theorem ef_rmMk1 (m : MethodId) (x0 : Int32) (x1 : Addr) : entryFrame m #[(.int x0), (.ref x1)] 2 = mkF m 0 #[.val (.int x0), .val (.ref x1)] [] := by first | (simp [entryFrame, mkF, argsToLocals, Value.category]; done) | rfl
def Q_rmMk1 (Z : State) (a1 : Addr) (ka : ClassId) (c0 : Int32) (c1 : Int32) (c2 : Int32) (c3 : Int32) (c4 : Int32) (zc : Int32) (h0 : Heap) (n0 : Nat) (v : Option Value) (h : Heap) (L : List Loc) : Prop := ∃ x : Addr, ∃ t : Addr, ∃ kb : ClassId, v = some (.ref x) ∧ Fr n0 L ∧ Keep h0 h [] ∧ Exa Z h x "java/lang/String" ∧ Fld Z h x "java/lang/String" "value" "[B" (.ref t) ∧ Fld Z h x "java/lang/String" "coder" "B" (.int (0 : Int32)) ∧ Arv Z h t kb .byte (1 : Int32) ((([c0] : List Int32).map (fun c : Int32 => c.toInt8.toInt32)).map Value.int) (.int 0)
set_option maxRecDepth 65536 in
set_option maxHeartbeats 40000000 in
theorem rmMk1 (l : Launch) (Z : State) (a0 : Array Value) (hw : ∀ d ∈ tables_1, d.before a0 Z = true) (ws : List Jvm.Cond) (a1 : Addr) (ka : ClassId) (c0 : Int32) (c1 : Int32) (c2 : Int32) (c3 : Int32) (c4 : Int32) (zc : Int32) (h0 : Heap) (n0 : Nat) (Z0 : n0 ≤ h0.size) (pV_a1 : Arv Z h0 a1 ka .char (5 : Int32) [(.int c0), (.int c1), (.int c2), (.int c3), (.int c4)] (.int (0 : Int32))) (h_c0 : (own_ch c0)) (h_c1 : (own_ch c1)) (h_c2 : (own_ch c2)) (h_c3 : (own_ch c3)) (h_c4 : (own_ch c4)) (pS_COMPACT_STRINGS : Sta Z Z.heap "java/lang/String" "COMPACT_STRINGS" "Z" (.int zc)) (pP5 : (¬ (zc = (0 : Int32)))) (pO : Old Z n0 h0) :
    MetFree l (⟨"com/example/descriptor/descriptor/vocabulary/HierarchyParentPinLaw", "make", "(I[C)Ljava/lang/String;"⟩ : MethodName) (head1 (Jvm.Cond.code (⟨"com/example/descriptor/descriptor/vocabulary/HierarchyParentPinLaw", "make", "(I[C)Ljava/lang/String;"⟩ : MethodName) method_4_code 2 (some (.object "java/lang/String")) :: ws) ({ frames := 4, cells := 3, slots := 6, locals := 66 } : Room)) (fun a U => a = #[(.int (1 : Int32)), (.ref a1)] ∧ Z.Warmed39 U.vm ∧ U.heap = h0) (fun _ _ _ _ _ => True) (fun _ U o U' => ∃ v L, o = .returned v ∧ Q_rmMk1 Z a1 ka c0 c1 c2 c3 c4 zc h0 n0 v U'.heap L ∧ FrameEnd U o U' L ({ frames := 4, cells := 3, slots := 6, locals := 66 } : Room).cells ({ frames := 4, cells := 3, slots := 6, locals := 66 } : Room).slots) := by
  refine MetFree.of_bodySF (plainFor_of_name pn_2) hisR ?_
  intro p e s m args below meth c s₁ Bd hml0 hP hK
  obtain ⟨rfl, hZ, hh⟩ := hP
  have hx := Bd.exec
  have hby := Bd.bytes
  have hml : c.maxLocals = 2 := hml0
  have hown : s.vm.findClass "com/example/descriptor/descriptor/vocabulary/HierarchyParentPinLaw" = some m.cls := findClass_of_methodNamed Bd.named
  have hnm := (name_of_methodNamed Bd.named Bd.method).1
  have X0 : Stand p l e ({ frames := 4, cells := 3, slots := 6, locals := 66 } : Room) s m #[(.int (1 : Int32)), (.ref a1)] below meth c s₁ [] 0 0 := Stand.of_body Bd
  have e0 : s₁.heap = h0 := by rw [← hh, Bd.state]; rfl
  have N0 := Fr.nil n0
  refine own_enter (ef_rmMk1 m ((1 : Int32)) a1) ?_
  have hws : ∀ d ∈ StrChars.Road.words, d.before a0 Z = true := fun d hd => hw d ((by decide +kernel : ∀ d ∈ StrChars.Road.words, d ∈ tables_1) d hd)
  refine own_st (fun t_ k_ => XS.iloadN X0.here hx rfl (hb hby d2_0) rfl k_) ?_
  refine own_st (fun t_ k_ => XS.iconst X0.here hx rfl (hb hby d2_1) k_) ?_
  refine own_st (fun t_ k_ => XS.icmpNo X0.here hx rfl (hb hby d2_2) rfl (by decide) k_) ?_
  show own_Go p e below s₁ (mkF m 5 #[.val (.int (1 : Int32)), .val (.ref a1)] []) _
  obtain ⟨T1, h1, X1, e1, E1, A1, D1, -, st1⟩ := newO X0 hx hZ hown (hw _ (List.mem_of_getElem? (i := 8) rfl)) (hw _ (List.mem_of_getElem? (i := 9) rfl)) (hw _ (List.mem_of_getElem? (i := 10) rfl)) e0 (g := (mkF m 5 #[.val (.int (1 : Int32)), .val (.ref a1)] [])) rfl (hb hby d2_5) (by decide) (by decide)
  obtain ⟨b1, g1⟩ : ∃ z, z = h0.size := ⟨_, rfl⟩
  rw [← g1] at A1 D1 st1
  have G1 : n0 ≤ b1 := Nat.le_trans Z0 (Nat.le_of_eq g1.symm)
  have B1 : h0.size ≤ b1 := Nat.le_trans (Keep.refl h0 []).1 (Nat.le_of_eq g1.symm)
  have K2 : Keep h0 h1 [] := (Keep.refl h0 []).ext E1
  have D1_coder : Fld Z h1 b1 "java/lang/String" "coder" "B" (.int (0 : Int32)) := D1 (Or.inr (hw _ (List.mem_of_getElem? (i := 34) rfl))) (ty := .byte) (by decide)
  have D1_value : Fld Z h1 b1 "java/lang/String" "value" "[B" .null := D1 (Or.inr (hw _ (List.mem_of_getElem? (i := 36) rfl))) (ty := (.array .byte)) (by decide)
  refine own_st st1 ?_
  show own_Go p e below T1 (mkF m 8 #[.val (.int (1 : Int32)), .val (.ref a1)] [(.ref b1)]) _
  refine own_st (fun t_ k_ => XS.dup X1.here hx rfl (hb hby d2_8) rfl rfl k_) ?_
  refine own_st (fun t_ k_ => XS.iconst X1.here hx rfl (hb hby d2_9) k_) ?_
  show own_Go p e below T1 (mkF m 10 #[.val (.int (1 : Int32)), .val (.ref a1)] [(.int (1 : Int32)), (.ref b1), (.ref b1)]) _
  have f3 := (Nat.le_trans Z0 E1.1)
  obtain ⟨T4, h4, k4, X4, e4, E4, A4, st4⟩ := newP X1 hx hZ (hw _ (List.mem_of_getElem? (i := 0) rfl)) e1 (g := (mkF m 10 #[.val (.int (1 : Int32)), .val (.ref a1)] [(.int (1 : Int32)), (.ref b1), (.ref b1)])) rfl (hb hby d2_10) rfl (by decide) (cap := 1) (by decide) (by decide) (by decide) (by decide)
  obtain ⟨b4, g4⟩ : ∃ z, z = h1.size := ⟨_, rfl⟩
  rw [← g4] at A4 st4
  have G4 : n0 ≤ b4 := Nat.le_trans f3 (Nat.le_of_eq g4.symm)
  have B4 : h0.size ≤ b4 := Nat.le_trans K2.1 (Nat.le_of_eq g4.symm)
  have K5 : Keep h0 h4 [] := K2.ext E4
  have V4 : Arv Z h4 b4 k4 .char (1 : Int32) [(.int (0 : Int32))] (.int (0 : Int32)) := (Arv.new A4 (by decide)).pad (pad_rep [] (.int (0 : Int32)) 1)
  refine own_st st4 ?_
  show own_Go p e below T4 (mkF m 12 #[.val (.int (1 : Int32)), .val (.ref a1)] [(.ref b4), (.ref b1), (.ref b1)]) _
  refine own_st (fun t_ k_ => XS.dup X4.here hx rfl (hb hby d2_12) rfl rfl k_) ?_
  refine own_st (fun t_ k_ => XS.iconst X4.here hx rfl (hb hby d2_13) k_) ?_
  refine own_st (fun t_ k_ => XS.aloadN X4.here hx rfl (hb hby d2_14) rfl rfl k_) ?_
  refine own_st (fun t_ k_ => XS.iconst X4.here hx rfl (hb hby d2_15) k_) ?_
  show own_Go p e below T4 (mkF m 16 #[.val (.int (1 : Int32)), .val (.ref a1)] [(.int (0 : Int32)), (.ref a1), (.int (0 : Int32)), (.ref b4), (.ref b4), (.ref b1), (.ref b1)]) _
  have f6 := ((pV_a1.ext E1).ext E4)
  obtain ⟨cl7, Ar7, q7, Sz7, Nn7, Hh7, Gg7⟩ := id f6
  have hin7 : ¬ ((0 : Int32) < 0 ∨ cl7.slots.size ≤ ((0 : Int32)).toNatClampNeg) := inb_of Sz7 ⟨by decide, by decide⟩
  have hat7 : cl7.slots[((0 : Int32)).toNatClampNeg]? = some (.int c0) := Has.at Hh7 hin7 rfl
  refine own_st (fun t_ k_ => X4.caload hx (j := (0 : Int32)) (v := (.int c0)) (by rw [e4]; exact Ar7.1) (State.isArrayOf_alike hZ.alike Ar7.2.1) Ar7.2.2 hin7 hat7 (g := (mkF m 16 #[.val (.int (1 : Int32)), .val (.ref a1)] [(.int (0 : Int32)), (.ref a1), (.int (0 : Int32)), (.ref b4), (.ref b4), (.ref b1), (.ref b1)])) rfl rfl (hb hby d2_16) _ k_) ?_
  show own_Go p e below T4 (mkF m 17 #[.val (.int (1 : Int32)), .val (.ref a1)] [(.int c0), (.int (0 : Int32)), (.ref b4), (.ref b4), (.ref b1), (.ref b1)]) _
  obtain ⟨cl8, Ar8, q8, Sz8, Nn8, Hh8, Gg8⟩ := id V4
  have hin8 : ¬ ((0 : Int32) < 0 ∨ cl8.slots.size ≤ ((0 : Int32)).toNatClampNeg) := inb_of Sz8 ⟨by decide, by decide⟩
  obtain ⟨T9, h9, X9, e9, W9, st9⟩ := stC X4 hx hZ e4 Ar8 (j := (0 : Int32)) hin8 (g := (mkF m 17 #[.val (.int (1 : Int32)), .val (.ref a1)] [(.int c0), (.int (0 : Int32)), (.ref b4), (.ref b4), (.ref b1), (.ref b1)])) rfl rfl (hb hby d2_17)
  have V9 : Arv Z h9 b4 k4 .char (1 : Int32) [(.int (nar .char c0))] (.int (0 : Int32)) := Arv.set Ar8 q8 Sz8 Nn8 Hh8 Gg8 (fits_nar_char _) W9 0 rfl (Nat.le_of_ble_eq_true rfl)
  rw [own_chnar h_c0] at V9
  have K10 : Keep h0 h9 [] := K5.wr W9 (Or.inr B4)
  have N9 := Fr.snoc X9 N0 G4
  refine own_st st9 ?_
  show own_Go p e below T9 (mkF m 18 #[.val (.int (1 : Int32)), .val (.ref a1)] [(.ref b4), (.ref b1), (.ref b1)]) _
  have hp1 : ∀ c ∈ ([c0] : List Int32), ¬ c < 0 ∧ ¬ (255 : Int32) < c := by
    intro c hc
    simp only [List.mem_cons, List.not_mem_nil, or_false] at hc
    subst hc
    exact own_ch255 h_c0
  have f11 := (Nat.le_trans (Nat.le_trans f3 E4.1) (Keep.of_wr W9).1)
  have f12 := ((A1.ext E4).wr W9)
  have f13 := ((D1_value.ext E4).other W9 (Or.inl (Nat.ne_of_lt (Nat.lt_of_lt_of_le A1.lt (Nat.le_of_eq g4.symm)))))
  have f14 := ((D1_coder.ext E4).other W9 (Or.inl (Nat.ne_of_lt (Nat.lt_of_lt_of_le A1.lt (Nat.le_of_eq g4.symm)))))
  have f15 := (((pO.ext E1).ext E4).wr W9 G4)
  obtain ⟨_, _, ⟨T16, L16, k16, n16⟩, -, X16, ⟨Lc16, hQ16, l16, y16, z16⟩, st16⟩ := X9.specialBack hx (y := (⟨"java/lang/String", "<init>", "([C)V"⟩ : MethodName)) rfl hown (mvT hZ (hw _ (List.mem_of_getElem? (i := 11) rfl))) (mvT hZ (hw _ (List.mem_of_getElem? (i := 12) rfl))) (mvT hZ (hw _ (List.mem_of_getElem? (i := 13) rfl))) (by decide) (StrChars.Road.backV (W := 1) hZ hws (kI := 4) (hw _ (List.mem_of_getElem? (i := 9) rfl)) (cs := ([c0] : List Int32)) (bs := (([c0] : List Int32)).map (fun c => c.toInt8.toInt32)) (n := 1) G1 f11 f12 f13 f14 V9 (pS_COMPACT_STRINGS.ext f15.2) pP5 rfl rfl (by decide) (by decide) hp1 rfl (by decide) (by decide)) (g := (mkF m 18 #[.val (.int (1 : Int32)), .val (.ref a1)] [(.ref b4), (.ref b1), (.ref b1)])) rfl (by rw [hml]; rfl) (Steps.refl _) (a := b1) (argsL := [(.ref b4)]) (rest := [(.ref b1)]) (lenOf pd___C_V rfl) rfl (by show 2 * 0 + _ ≤ _; exact Nat.le_of_eq rfl) (hb hby d2_18) (fun _ _ => ⟨rfl, e9, (by decide : 2 + 1 ≤ _), (by decide : 5 + 1 ≤ _)⟩)
  dsimp only [Pt.U, Pt.locs, Pt.cells, Pt.slots] at X16 l16 y16 z16 st16 hQ16
  try dsimp only [Nat.reduceAdd] at y16 z16
  rw [l16, y16, z16] at X16
  obtain ⟨rfl, Nq16, Kq16, q16_E, q16_c, t16, kb16, q16_g, q16_b, q16_n, q16_v, q16_V⟩ := hQ16
  have N16 := Fr.app N9 Nq16
  have K17 : Keep h0 T16.heap [] := K10.trans Kq16 (allS (Or.inr B1) all0)
  have Bf18 : h0.size ≤ t16 := Nat.le_trans K10.1 q16_b
  refine own_tr st16 ?_
  show own_Go p e below T16 (mkF m 21 #[.val (.int (1 : Int32)), .val (.ref a1)] [(.ref b1)]) _
  obtain ⟨fs, hr, hrun, hended, hW, hsame⟩ := X16.leave (v := some (.ref b1)) (fun h => by rw [Bd.returns] at h; cases h)
  refine own_fin (own_retR X16 hx rfl Bd.returns rfl (hb hby d2_21) hr) ⟨hrun, hended, _, _, rfl, ?_, ⟨_, rfl⟩, hW, hsame.mono (by decide) (by decide)⟩
  show Q_rmMk1 Z a1 ka c0 c1 c2 c3 c4 zc h0 n0 _ T16.heap _
  exact ⟨b1, t16, kb16, rfl, N16, K17, q16_E, q16_v, q16_c, q16_V⟩
theorem d2_22 : decode method_4_code 22 = .ok (.iload_n 0, 1) := by decide +kernel
theorem d2_23 : decode method_4_code 23 = .ok (.iconst 2, 1) := by decide +kernel
theorem d2_24 : decode method_4_code 24 = .ok (.if_icmp .ne 26, 3) := by decide +kernel
theorem d2_27 : decode method_4_code 27 = .ok (.new 24, 3) := by decide +kernel
theorem d2_30 : decode method_4_code 30 = .ok (.dup, 1) := by decide +kernel
theorem d2_31 : decode method_4_code 31 = .ok (.iconst 2, 1) := by decide +kernel
theorem d2_32 : decode method_4_code 32 = .ok (.newarray .char, 2) := by decide +kernel
theorem d2_34 : decode method_4_code 34 = .ok (.dup, 1) := by decide +kernel
theorem d2_35 : decode method_4_code 35 = .ok (.iconst 0, 1) := by decide +kernel
theorem d2_36 : decode method_4_code 36 = .ok (.aload_n 1, 1) := by decide +kernel
theorem d2_37 : decode method_4_code 37 = .ok (.iconst 0, 1) := by decide +kernel
theorem d2_38 : decode method_4_code 38 = .ok (.caload, 1) := by decide +kernel
theorem d2_39 : decode method_4_code 39 = .ok (.castore, 1) := by decide +kernel
theorem d2_40 : decode method_4_code 40 = .ok (.dup, 1) := by decide +kernel
theorem d2_41 : decode method_4_code 41 = .ok (.iconst 1, 1) := by decide +kernel
theorem d2_42 : decode method_4_code 42 = .ok (.aload_n 1, 1) := by decide +kernel
theorem d2_43 : decode method_4_code 43 = .ok (.iconst 1, 1) := by decide +kernel
theorem d2_44 : decode method_4_code 44 = .ok (.caload, 1) := by decide +kernel
theorem d2_45 : decode method_4_code 45 = .ok (.castore, 1) := by decide +kernel
theorem d2_46 : decode method_4_code 46 = .ok (.invokespecial 33, 3) := by decide +kernel
theorem d2_49 : decode method_4_code 49 = .ok (.areturn, 1) := by decide +kernel
theorem ef_rmMk2 (m : MethodId) (x0 : Int32) (x1 : Addr) : entryFrame m #[(.int x0), (.ref x1)] 2 = mkF m 0 #[.val (.int x0), .val (.ref x1)] [] := by first | (simp [entryFrame, mkF, argsToLocals, Value.category]; done) | rfl
def Q_rmMk2 (Z : State) (a1 : Addr) (ka : ClassId) (c0 : Int32) (c1 : Int32) (c2 : Int32) (c3 : Int32) (c4 : Int32) (zc : Int32) (h0 : Heap) (n0 : Nat) (v : Option Value) (h : Heap) (L : List Loc) : Prop := ∃ x : Addr, ∃ t : Addr, ∃ kb : ClassId, v = some (.ref x) ∧ Fr n0 L ∧ Keep h0 h [] ∧ Exa Z h x "java/lang/String" ∧ Fld Z h x "java/lang/String" "value" "[B" (.ref t) ∧ Fld Z h x "java/lang/String" "coder" "B" (.int (0 : Int32)) ∧ Arv Z h t kb .byte (2 : Int32) ((([c0, c1] : List Int32).map (fun c : Int32 => c.toInt8.toInt32)).map Value.int) (.int 0)
set_option maxRecDepth 65536 in
set_option maxHeartbeats 40000000 in
theorem rmMk2 (l : Launch) (Z : State) (a0 : Array Value) (hw : ∀ d ∈ tables_1, d.before a0 Z = true) (ws : List Jvm.Cond) (a1 : Addr) (ka : ClassId) (c0 : Int32) (c1 : Int32) (c2 : Int32) (c3 : Int32) (c4 : Int32) (zc : Int32) (h0 : Heap) (n0 : Nat) (Z0 : n0 ≤ h0.size) (pV_a1 : Arv Z h0 a1 ka .char (5 : Int32) [(.int c0), (.int c1), (.int c2), (.int c3), (.int c4)] (.int (0 : Int32))) (h_c0 : (own_ch c0)) (h_c1 : (own_ch c1)) (h_c2 : (own_ch c2)) (h_c3 : (own_ch c3)) (h_c4 : (own_ch c4)) (pS_COMPACT_STRINGS : Sta Z Z.heap "java/lang/String" "COMPACT_STRINGS" "Z" (.int zc)) (pP5 : (¬ (zc = (0 : Int32)))) (pO : Old Z n0 h0) :
    MetFree l (⟨"com/example/descriptor/descriptor/vocabulary/HierarchyParentPinLaw", "make", "(I[C)Ljava/lang/String;"⟩ : MethodName) (head1 (Jvm.Cond.code (⟨"com/example/descriptor/descriptor/vocabulary/HierarchyParentPinLaw", "make", "(I[C)Ljava/lang/String;"⟩ : MethodName) method_4_code 2 (some (.object "java/lang/String")) :: ws) ({ frames := 4, cells := 3, slots := 8, locals := 66 } : Room)) (fun a U => a = #[(.int (2 : Int32)), (.ref a1)] ∧ Z.Warmed39 U.vm ∧ U.heap = h0) (fun _ _ _ _ _ => True) (fun _ U o U' => ∃ v L, o = .returned v ∧ Q_rmMk2 Z a1 ka c0 c1 c2 c3 c4 zc h0 n0 v U'.heap L ∧ FrameEnd U o U' L ({ frames := 4, cells := 3, slots := 8, locals := 66 } : Room).cells ({ frames := 4, cells := 3, slots := 8, locals := 66 } : Room).slots) := by
  refine MetFree.of_bodySF (plainFor_of_name pn_2) hisR ?_
  intro p e s m args below meth c s₁ Bd hml0 hP hK
  obtain ⟨rfl, hZ, hh⟩ := hP
  have hx := Bd.exec
  have hby := Bd.bytes
  have hml : c.maxLocals = 2 := hml0
  have hown : s.vm.findClass "com/example/descriptor/descriptor/vocabulary/HierarchyParentPinLaw" = some m.cls := findClass_of_methodNamed Bd.named
  have hnm := (name_of_methodNamed Bd.named Bd.method).1
  have X0 : Stand p l e ({ frames := 4, cells := 3, slots := 8, locals := 66 } : Room) s m #[(.int (2 : Int32)), (.ref a1)] below meth c s₁ [] 0 0 := Stand.of_body Bd
  have e0 : s₁.heap = h0 := by rw [← hh, Bd.state]; rfl
  have N0 := Fr.nil n0
  refine own_enter (ef_rmMk2 m ((2 : Int32)) a1) ?_
  have hws : ∀ d ∈ StrChars.Road.words, d.before a0 Z = true := fun d hd => hw d ((by decide +kernel : ∀ d ∈ StrChars.Road.words, d ∈ tables_1) d hd)
  refine own_st (fun t_ k_ => XS.iloadN X0.here hx rfl (hb hby d2_0) rfl k_) ?_
  refine own_st (fun t_ k_ => XS.iconst X0.here hx rfl (hb hby d2_1) k_) ?_
  refine own_st (fun t_ k_ => XS.icmpYes X0.here hx rfl (pc0 := 2) (pc' := 22) rfl (hb hby d2_2) rfl (by decide) (by decide) (by decide) k_) ?_
  refine own_st (fun t_ k_ => XS.iloadN X0.here hx rfl (hb hby d2_22) rfl k_) ?_
  refine own_st (fun t_ k_ => XS.iconst X0.here hx rfl (hb hby d2_23) k_) ?_
  show own_Go p e below s₁ (mkF m 24 #[.val (.int (2 : Int32)), .val (.ref a1)] [(.int (2 : Int32)), (.int (2 : Int32))]) _
  refine own_st (fun t_ k_ => XS.icmpNo X0.here hx rfl (hb hby d2_24) rfl (by decide) k_) ?_
  show own_Go p e below s₁ (mkF m 27 #[.val (.int (2 : Int32)), .val (.ref a1)] []) _
  obtain ⟨T1, h1, X1, e1, E1, A1, D1, -, st1⟩ := newO X0 hx hZ hown (hw _ (List.mem_of_getElem? (i := 8) rfl)) (hw _ (List.mem_of_getElem? (i := 9) rfl)) (hw _ (List.mem_of_getElem? (i := 10) rfl)) e0 (g := (mkF m 27 #[.val (.int (2 : Int32)), .val (.ref a1)] [])) rfl (hb hby d2_27) (by decide) (by decide)
  obtain ⟨b1, g1⟩ : ∃ z, z = h0.size := ⟨_, rfl⟩
  rw [← g1] at A1 D1 st1
  have G1 : n0 ≤ b1 := Nat.le_trans Z0 (Nat.le_of_eq g1.symm)
  have B1 : h0.size ≤ b1 := Nat.le_trans (Keep.refl h0 []).1 (Nat.le_of_eq g1.symm)
  have K2 : Keep h0 h1 [] := (Keep.refl h0 []).ext E1
  have D1_coder : Fld Z h1 b1 "java/lang/String" "coder" "B" (.int (0 : Int32)) := D1 (Or.inr (hw _ (List.mem_of_getElem? (i := 34) rfl))) (ty := .byte) (by decide)
  have D1_value : Fld Z h1 b1 "java/lang/String" "value" "[B" .null := D1 (Or.inr (hw _ (List.mem_of_getElem? (i := 36) rfl))) (ty := (.array .byte)) (by decide)
  refine own_st st1 ?_
  show own_Go p e below T1 (mkF m 30 #[.val (.int (2 : Int32)), .val (.ref a1)] [(.ref b1)]) _
  refine own_st (fun t_ k_ => XS.dup X1.here hx rfl (hb hby d2_30) rfl rfl k_) ?_
  refine own_st (fun t_ k_ => XS.iconst X1.here hx rfl (hb hby d2_31) k_) ?_
  show own_Go p e below T1 (mkF m 32 #[.val (.int (2 : Int32)), .val (.ref a1)] [(.int (2 : Int32)), (.ref b1), (.ref b1)]) _
  have f3 := (Nat.le_trans Z0 E1.1)
  obtain ⟨T4, h4, k4, X4, e4, E4, A4, st4⟩ := newP X1 hx hZ (hw _ (List.mem_of_getElem? (i := 0) rfl)) e1 (g := (mkF m 32 #[.val (.int (2 : Int32)), .val (.ref a1)] [(.int (2 : Int32)), (.ref b1), (.ref b1)])) rfl (hb hby d2_32) rfl (by decide) (cap := 2) (by decide) (by decide) (by decide) (by decide)
  obtain ⟨b4, g4⟩ : ∃ z, z = h1.size := ⟨_, rfl⟩
  rw [← g4] at A4 st4
  have G4 : n0 ≤ b4 := Nat.le_trans f3 (Nat.le_of_eq g4.symm)
  have B4 : h0.size ≤ b4 := Nat.le_trans K2.1 (Nat.le_of_eq g4.symm)
  have K5 : Keep h0 h4 [] := K2.ext E4
  have V4 : Arv Z h4 b4 k4 .char (2 : Int32) [(.int (0 : Int32)), (.int (0 : Int32))] (.int (0 : Int32)) := (Arv.new A4 (by decide)).pad (pad_rep [] (.int (0 : Int32)) 2)
  refine own_st st4 ?_
  show own_Go p e below T4 (mkF m 34 #[.val (.int (2 : Int32)), .val (.ref a1)] [(.ref b4), (.ref b1), (.ref b1)]) _
  refine own_st (fun t_ k_ => XS.dup X4.here hx rfl (hb hby d2_34) rfl rfl k_) ?_
  refine own_st (fun t_ k_ => XS.iconst X4.here hx rfl (hb hby d2_35) k_) ?_
  refine own_st (fun t_ k_ => XS.aloadN X4.here hx rfl (hb hby d2_36) rfl rfl k_) ?_
  refine own_st (fun t_ k_ => XS.iconst X4.here hx rfl (hb hby d2_37) k_) ?_
  show own_Go p e below T4 (mkF m 38 #[.val (.int (2 : Int32)), .val (.ref a1)] [(.int (0 : Int32)), (.ref a1), (.int (0 : Int32)), (.ref b4), (.ref b4), (.ref b1), (.ref b1)]) _
  have f6 := ((pV_a1.ext E1).ext E4)
  obtain ⟨cl7, Ar7, q7, Sz7, Nn7, Hh7, Gg7⟩ := id f6
  have hin7 : ¬ ((0 : Int32) < 0 ∨ cl7.slots.size ≤ ((0 : Int32)).toNatClampNeg) := inb_of Sz7 ⟨by decide, by decide⟩
  have hat7 : cl7.slots[((0 : Int32)).toNatClampNeg]? = some (.int c0) := Has.at Hh7 hin7 rfl
  refine own_st (fun t_ k_ => X4.caload hx (j := (0 : Int32)) (v := (.int c0)) (by rw [e4]; exact Ar7.1) (State.isArrayOf_alike hZ.alike Ar7.2.1) Ar7.2.2 hin7 hat7 (g := (mkF m 38 #[.val (.int (2 : Int32)), .val (.ref a1)] [(.int (0 : Int32)), (.ref a1), (.int (0 : Int32)), (.ref b4), (.ref b4), (.ref b1), (.ref b1)])) rfl rfl (hb hby d2_38) _ k_) ?_
  show own_Go p e below T4 (mkF m 39 #[.val (.int (2 : Int32)), .val (.ref a1)] [(.int c0), (.int (0 : Int32)), (.ref b4), (.ref b4), (.ref b1), (.ref b1)]) _
  obtain ⟨cl8, Ar8, q8, Sz8, Nn8, Hh8, Gg8⟩ := id V4
  have hin8 : ¬ ((0 : Int32) < 0 ∨ cl8.slots.size ≤ ((0 : Int32)).toNatClampNeg) := inb_of Sz8 ⟨by decide, by decide⟩
  obtain ⟨T9, h9, X9, e9, W9, st9⟩ := stC X4 hx hZ e4 Ar8 (j := (0 : Int32)) hin8 (g := (mkF m 39 #[.val (.int (2 : Int32)), .val (.ref a1)] [(.int c0), (.int (0 : Int32)), (.ref b4), (.ref b4), (.ref b1), (.ref b1)])) rfl rfl (hb hby d2_39)
  have V9 : Arv Z h9 b4 k4 .char (2 : Int32) [(.int (nar .char c0)), (.int (0 : Int32))] (.int (0 : Int32)) := Arv.set Ar8 q8 Sz8 Nn8 Hh8 Gg8 (fits_nar_char _) W9 0 rfl (Nat.le_of_ble_eq_true rfl)
  rw [own_chnar h_c0] at V9
  have K10 : Keep h0 h9 [] := K5.wr W9 (Or.inr B4)
  have N9 := Fr.snoc X9 N0 G4
  refine own_st st9 ?_
  show own_Go p e below T9 (mkF m 40 #[.val (.int (2 : Int32)), .val (.ref a1)] [(.ref b4), (.ref b1), (.ref b1)]) _
  refine own_st (fun t_ k_ => XS.dup X9.here hx rfl (hb hby d2_40) rfl rfl k_) ?_
  refine own_st (fun t_ k_ => XS.iconst X9.here hx rfl (hb hby d2_41) k_) ?_
  refine own_st (fun t_ k_ => XS.aloadN X9.here hx rfl (hb hby d2_42) rfl rfl k_) ?_
  refine own_st (fun t_ k_ => XS.iconst X9.here hx rfl (hb hby d2_43) k_) ?_
  show own_Go p e below T9 (mkF m 44 #[.val (.int (2 : Int32)), .val (.ref a1)] [(.int (1 : Int32)), (.ref a1), (.int (1 : Int32)), (.ref b4), (.ref b4), (.ref b1), (.ref b1)]) _
  have f11 := (f6.other W9 (Nat.ne_of_lt (Nat.lt_of_lt_of_le (pV_a1.ext E1).lt (Nat.le_of_eq g4.symm))))
  obtain ⟨cl12, Ar12, q12, Sz12, Nn12, Hh12, Gg12⟩ := id f11
  have hin12 : ¬ ((1 : Int32) < 0 ∨ cl12.slots.size ≤ ((1 : Int32)).toNatClampNeg) := inb_of Sz12 ⟨by decide, by decide⟩
  have hat12 : cl12.slots[((1 : Int32)).toNatClampNeg]? = some (.int c1) := Has.at Hh12 hin12 rfl
  refine own_st (fun t_ k_ => X9.caload hx (j := (1 : Int32)) (v := (.int c1)) (by rw [e9]; exact Ar12.1) (State.isArrayOf_alike hZ.alike Ar12.2.1) Ar12.2.2 hin12 hat12 (g := (mkF m 44 #[.val (.int (2 : Int32)), .val (.ref a1)] [(.int (1 : Int32)), (.ref a1), (.int (1 : Int32)), (.ref b4), (.ref b4), (.ref b1), (.ref b1)])) rfl rfl (hb hby d2_44) _ k_) ?_
  show own_Go p e below T9 (mkF m 45 #[.val (.int (2 : Int32)), .val (.ref a1)] [(.int c1), (.int (1 : Int32)), (.ref b4), (.ref b4), (.ref b1), (.ref b1)]) _
  obtain ⟨cl13, Ar13, q13, Sz13, Nn13, Hh13, Gg13⟩ := id V9
  have hin13 : ¬ ((1 : Int32) < 0 ∨ cl13.slots.size ≤ ((1 : Int32)).toNatClampNeg) := inb_of Sz13 ⟨by decide, by decide⟩
  obtain ⟨T14, h14, X14, e14, W14, st14⟩ := stC X9 hx hZ e9 Ar13 (j := (1 : Int32)) hin13 (g := (mkF m 45 #[.val (.int (2 : Int32)), .val (.ref a1)] [(.int c1), (.int (1 : Int32)), (.ref b4), (.ref b4), (.ref b1), (.ref b1)])) rfl rfl (hb hby d2_45)
  have V14 : Arv Z h14 b4 k4 .char (2 : Int32) [(.int c0), (.int (nar .char c1))] (.int (0 : Int32)) := Arv.set Ar13 q13 Sz13 Nn13 Hh13 Gg13 (fits_nar_char _) W14 1 rfl (Nat.le_of_ble_eq_true rfl)
  rw [own_chnar h_c1] at V14
  have K15 : Keep h0 h14 [] := K10.wr W14 (Or.inr B4)
  have N14 := Fr.snoc X14 N9 G4
  refine own_st st14 ?_
  show own_Go p e below T14 (mkF m 46 #[.val (.int (2 : Int32)), .val (.ref a1)] [(.ref b4), (.ref b1), (.ref b1)]) _
  have hp1 : ∀ c ∈ ([c0, c1] : List Int32), ¬ c < 0 ∧ ¬ (255 : Int32) < c := by
    intro c hc
    simp only [List.mem_cons, List.not_mem_nil, or_false] at hc
    rcases hc with rfl | rfl
    · exact own_ch255 h_c0
    · exact own_ch255 h_c1
  have f16 := (Nat.le_trans (Nat.le_trans (Nat.le_trans f3 E4.1) (Keep.of_wr W9).1) (Keep.of_wr W14).1)
  have f17 := (((A1.ext E4).wr W9).wr W14)
  have f18 := (((D1_value.ext E4).other W9 (Or.inl (Nat.ne_of_lt (Nat.lt_of_lt_of_le A1.lt (Nat.le_of_eq g4.symm))))).other W14 (Or.inl (Nat.ne_of_lt (Nat.lt_of_lt_of_le A1.lt (Nat.le_of_eq g4.symm)))))
  have f19 := (((D1_coder.ext E4).other W9 (Or.inl (Nat.ne_of_lt (Nat.lt_of_lt_of_le A1.lt (Nat.le_of_eq g4.symm))))).other W14 (Or.inl (Nat.ne_of_lt (Nat.lt_of_lt_of_le A1.lt (Nat.le_of_eq g4.symm)))))
  have f20 := ((((pO.ext E1).ext E4).wr W9 G4).wr W14 G4)
  obtain ⟨_, _, ⟨T21, L21, k21, n21⟩, -, X21, ⟨Lc21, hQ21, l21, y21, z21⟩, st21⟩ := X14.specialBack hx (y := (⟨"java/lang/String", "<init>", "([C)V"⟩ : MethodName)) rfl hown (mvT hZ (hw _ (List.mem_of_getElem? (i := 11) rfl))) (mvT hZ (hw _ (List.mem_of_getElem? (i := 12) rfl))) (mvT hZ (hw _ (List.mem_of_getElem? (i := 13) rfl))) (by decide) (StrChars.Road.backV (W := 1) hZ hws (kI := 4) (hw _ (List.mem_of_getElem? (i := 9) rfl)) (cs := ([c0, c1] : List Int32)) (bs := (([c0, c1] : List Int32)).map (fun c => c.toInt8.toInt32)) (n := 2) G1 f16 f17 f18 f19 V14 (pS_COMPACT_STRINGS.ext f20.2) pP5 rfl rfl (by decide) (by decide) hp1 rfl (by decide) (by decide)) (g := (mkF m 46 #[.val (.int (2 : Int32)), .val (.ref a1)] [(.ref b4), (.ref b1), (.ref b1)])) rfl (by rw [hml]; rfl) (Steps.refl _) (a := b1) (argsL := [(.ref b4)]) (rest := [(.ref b1)]) (lenOf pd___C_V rfl) rfl (by show 2 * 0 + _ ≤ _; exact Nat.le_of_eq rfl) (hb hby d2_46) (fun _ _ => ⟨rfl, e14, (by decide : 2 + 1 ≤ _), (by decide : 6 + 2 ≤ _)⟩)
  dsimp only [Pt.U, Pt.locs, Pt.cells, Pt.slots] at X21 l21 y21 z21 st21 hQ21
  try dsimp only [Nat.reduceAdd] at y21 z21
  rw [l21, y21, z21] at X21
  obtain ⟨rfl, Nq21, Kq21, q21_E, q21_c, t21, kb21, q21_g, q21_b, q21_n, q21_v, q21_V⟩ := hQ21
  have N21 := Fr.app N14 Nq21
  have K22 : Keep h0 T21.heap [] := K15.trans Kq21 (allS (Or.inr B1) all0)
  have Bf23 : h0.size ≤ t21 := Nat.le_trans K15.1 q21_b
  refine own_tr st21 ?_
  show own_Go p e below T21 (mkF m 49 #[.val (.int (2 : Int32)), .val (.ref a1)] [(.ref b1)]) _
  obtain ⟨fs, hr, hrun, hended, hW, hsame⟩ := X21.leave (v := some (.ref b1)) (fun h => by rw [Bd.returns] at h; cases h)
  refine own_fin (own_retR X21 hx rfl Bd.returns rfl (hb hby d2_49) hr) ⟨hrun, hended, _, _, rfl, ?_, ⟨_, rfl⟩, hW, hsame.mono (by decide) (by decide)⟩
  show Q_rmMk2 Z a1 ka c0 c1 c2 c3 c4 zc h0 n0 _ T21.heap _
  exact ⟨b1, t21, kb21, rfl, N21, K22, q21_E, q21_v, q21_c, q21_V⟩
theorem d2_50 : decode method_4_code 50 = .ok (.iload_n 0, 1) := by decide +kernel
theorem d2_51 : decode method_4_code 51 = .ok (.iconst 3, 1) := by decide +kernel
theorem d2_52 : decode method_4_code 52 = .ok (.if_icmp .ne 32, 3) := by decide +kernel
theorem d2_55 : decode method_4_code 55 = .ok (.new 24, 3) := by decide +kernel
theorem d2_58 : decode method_4_code 58 = .ok (.dup, 1) := by decide +kernel
theorem d2_59 : decode method_4_code 59 = .ok (.iconst 3, 1) := by decide +kernel
theorem d2_60 : decode method_4_code 60 = .ok (.newarray .char, 2) := by decide +kernel
theorem d2_62 : decode method_4_code 62 = .ok (.dup, 1) := by decide +kernel
theorem d2_63 : decode method_4_code 63 = .ok (.iconst 0, 1) := by decide +kernel
theorem d2_64 : decode method_4_code 64 = .ok (.aload_n 1, 1) := by decide +kernel
theorem d2_65 : decode method_4_code 65 = .ok (.iconst 0, 1) := by decide +kernel
theorem d2_66 : decode method_4_code 66 = .ok (.caload, 1) := by decide +kernel
theorem d2_67 : decode method_4_code 67 = .ok (.castore, 1) := by decide +kernel
theorem d2_68 : decode method_4_code 68 = .ok (.dup, 1) := by decide +kernel
theorem d2_69 : decode method_4_code 69 = .ok (.iconst 1, 1) := by decide +kernel
theorem d2_70 : decode method_4_code 70 = .ok (.aload_n 1, 1) := by decide +kernel
theorem d2_71 : decode method_4_code 71 = .ok (.iconst 1, 1) := by decide +kernel
theorem d2_72 : decode method_4_code 72 = .ok (.caload, 1) := by decide +kernel
theorem d2_73 : decode method_4_code 73 = .ok (.castore, 1) := by decide +kernel
theorem d2_74 : decode method_4_code 74 = .ok (.dup, 1) := by decide +kernel
theorem d2_75 : decode method_4_code 75 = .ok (.iconst 2, 1) := by decide +kernel
theorem d2_76 : decode method_4_code 76 = .ok (.aload_n 1, 1) := by decide +kernel
theorem d2_77 : decode method_4_code 77 = .ok (.iconst 2, 1) := by decide +kernel
theorem d2_78 : decode method_4_code 78 = .ok (.caload, 1) := by decide +kernel
theorem d2_79 : decode method_4_code 79 = .ok (.castore, 1) := by decide +kernel
theorem d2_80 : decode method_4_code 80 = .ok (.invokespecial 33, 3) := by decide +kernel
theorem d2_83 : decode method_4_code 83 = .ok (.areturn, 1) := by decide +kernel
theorem ef_rmMk3 (m : MethodId) (x0 : Int32) (x1 : Addr) : entryFrame m #[(.int x0), (.ref x1)] 2 = mkF m 0 #[.val (.int x0), .val (.ref x1)] [] := by first | (simp [entryFrame, mkF, argsToLocals, Value.category]; done) | rfl
def Q_rmMk3 (Z : State) (a1 : Addr) (ka : ClassId) (c0 : Int32) (c1 : Int32) (c2 : Int32) (c3 : Int32) (c4 : Int32) (zc : Int32) (h0 : Heap) (n0 : Nat) (v : Option Value) (h : Heap) (L : List Loc) : Prop := ∃ x : Addr, ∃ t : Addr, ∃ kb : ClassId, v = some (.ref x) ∧ Fr n0 L ∧ Keep h0 h [] ∧ Exa Z h x "java/lang/String" ∧ Fld Z h x "java/lang/String" "value" "[B" (.ref t) ∧ Fld Z h x "java/lang/String" "coder" "B" (.int (0 : Int32)) ∧ Arv Z h t kb .byte (3 : Int32) ((([c0, c1, c2] : List Int32).map (fun c : Int32 => c.toInt8.toInt32)).map Value.int) (.int 0)
set_option maxRecDepth 65536 in
set_option maxHeartbeats 40000000 in
theorem rmMk3 (l : Launch) (Z : State) (a0 : Array Value) (hw : ∀ d ∈ tables_1, d.before a0 Z = true) (ws : List Jvm.Cond) (a1 : Addr) (ka : ClassId) (c0 : Int32) (c1 : Int32) (c2 : Int32) (c3 : Int32) (c4 : Int32) (zc : Int32) (h0 : Heap) (n0 : Nat) (Z0 : n0 ≤ h0.size) (pV_a1 : Arv Z h0 a1 ka .char (5 : Int32) [(.int c0), (.int c1), (.int c2), (.int c3), (.int c4)] (.int (0 : Int32))) (h_c0 : (own_ch c0)) (h_c1 : (own_ch c1)) (h_c2 : (own_ch c2)) (h_c3 : (own_ch c3)) (h_c4 : (own_ch c4)) (pS_COMPACT_STRINGS : Sta Z Z.heap "java/lang/String" "COMPACT_STRINGS" "Z" (.int zc)) (pP5 : (¬ (zc = (0 : Int32)))) (pO : Old Z n0 h0) :
    MetFree l (⟨"com/example/descriptor/descriptor/vocabulary/HierarchyParentPinLaw", "make", "(I[C)Ljava/lang/String;"⟩ : MethodName) (head1 (Jvm.Cond.code (⟨"com/example/descriptor/descriptor/vocabulary/HierarchyParentPinLaw", "make", "(I[C)Ljava/lang/String;"⟩ : MethodName) method_4_code 2 (some (.object "java/lang/String")) :: ws) ({ frames := 4, cells := 3, slots := 10, locals := 66 } : Room)) (fun a U => a = #[(.int (3 : Int32)), (.ref a1)] ∧ Z.Warmed39 U.vm ∧ U.heap = h0) (fun _ _ _ _ _ => True) (fun _ U o U' => ∃ v L, o = .returned v ∧ Q_rmMk3 Z a1 ka c0 c1 c2 c3 c4 zc h0 n0 v U'.heap L ∧ FrameEnd U o U' L ({ frames := 4, cells := 3, slots := 10, locals := 66 } : Room).cells ({ frames := 4, cells := 3, slots := 10, locals := 66 } : Room).slots) := by
  refine MetFree.of_bodySF (plainFor_of_name pn_2) hisR ?_
  intro p e s m args below meth c s₁ Bd hml0 hP hK
  obtain ⟨rfl, hZ, hh⟩ := hP
  have hx := Bd.exec
  have hby := Bd.bytes
  have hml : c.maxLocals = 2 := hml0
  have hown : s.vm.findClass "com/example/descriptor/descriptor/vocabulary/HierarchyParentPinLaw" = some m.cls := findClass_of_methodNamed Bd.named
  have hnm := (name_of_methodNamed Bd.named Bd.method).1
  have X0 : Stand p l e ({ frames := 4, cells := 3, slots := 10, locals := 66 } : Room) s m #[(.int (3 : Int32)), (.ref a1)] below meth c s₁ [] 0 0 := Stand.of_body Bd
  have e0 : s₁.heap = h0 := by rw [← hh, Bd.state]; rfl
  have N0 := Fr.nil n0
  refine own_enter (ef_rmMk3 m ((3 : Int32)) a1) ?_
  have hws : ∀ d ∈ StrChars.Road.words, d.before a0 Z = true := fun d hd => hw d ((by decide +kernel : ∀ d ∈ StrChars.Road.words, d ∈ tables_1) d hd)
  refine own_st (fun t_ k_ => XS.iloadN X0.here hx rfl (hb hby d2_0) rfl k_) ?_
  refine own_st (fun t_ k_ => XS.iconst X0.here hx rfl (hb hby d2_1) k_) ?_
  refine own_st (fun t_ k_ => XS.icmpYes X0.here hx rfl (pc0 := 2) (pc' := 22) rfl (hb hby d2_2) rfl (by decide) (by decide) (by decide) k_) ?_
  refine own_st (fun t_ k_ => XS.iloadN X0.here hx rfl (hb hby d2_22) rfl k_) ?_
  refine own_st (fun t_ k_ => XS.iconst X0.here hx rfl (hb hby d2_23) k_) ?_
  show own_Go p e below s₁ (mkF m 24 #[.val (.int (3 : Int32)), .val (.ref a1)] [(.int (2 : Int32)), (.int (3 : Int32))]) _
  refine own_st (fun t_ k_ => XS.icmpYes X0.here hx rfl (pc0 := 24) (pc' := 50) rfl (hb hby d2_24) rfl (by decide) (by decide) (by decide) k_) ?_
  refine own_st (fun t_ k_ => XS.iloadN X0.here hx rfl (hb hby d2_50) rfl k_) ?_
  refine own_st (fun t_ k_ => XS.iconst X0.here hx rfl (hb hby d2_51) k_) ?_
  refine own_st (fun t_ k_ => XS.icmpNo X0.here hx rfl (hb hby d2_52) rfl (by decide) k_) ?_
  show own_Go p e below s₁ (mkF m 55 #[.val (.int (3 : Int32)), .val (.ref a1)] []) _
  obtain ⟨T1, h1, X1, e1, E1, A1, D1, -, st1⟩ := newO X0 hx hZ hown (hw _ (List.mem_of_getElem? (i := 8) rfl)) (hw _ (List.mem_of_getElem? (i := 9) rfl)) (hw _ (List.mem_of_getElem? (i := 10) rfl)) e0 (g := (mkF m 55 #[.val (.int (3 : Int32)), .val (.ref a1)] [])) rfl (hb hby d2_55) (by decide) (by decide)
  obtain ⟨b1, g1⟩ : ∃ z, z = h0.size := ⟨_, rfl⟩
  rw [← g1] at A1 D1 st1
  have G1 : n0 ≤ b1 := Nat.le_trans Z0 (Nat.le_of_eq g1.symm)
  have B1 : h0.size ≤ b1 := Nat.le_trans (Keep.refl h0 []).1 (Nat.le_of_eq g1.symm)
  have K2 : Keep h0 h1 [] := (Keep.refl h0 []).ext E1
  have D1_coder : Fld Z h1 b1 "java/lang/String" "coder" "B" (.int (0 : Int32)) := D1 (Or.inr (hw _ (List.mem_of_getElem? (i := 34) rfl))) (ty := .byte) (by decide)
  have D1_value : Fld Z h1 b1 "java/lang/String" "value" "[B" .null := D1 (Or.inr (hw _ (List.mem_of_getElem? (i := 36) rfl))) (ty := (.array .byte)) (by decide)
  refine own_st st1 ?_
  show own_Go p e below T1 (mkF m 58 #[.val (.int (3 : Int32)), .val (.ref a1)] [(.ref b1)]) _
  refine own_st (fun t_ k_ => XS.dup X1.here hx rfl (hb hby d2_58) rfl rfl k_) ?_
  refine own_st (fun t_ k_ => XS.iconst X1.here hx rfl (hb hby d2_59) k_) ?_
  show own_Go p e below T1 (mkF m 60 #[.val (.int (3 : Int32)), .val (.ref a1)] [(.int (3 : Int32)), (.ref b1), (.ref b1)]) _
  have f3 := (Nat.le_trans Z0 E1.1)
  obtain ⟨T4, h4, k4, X4, e4, E4, A4, st4⟩ := newP X1 hx hZ (hw _ (List.mem_of_getElem? (i := 0) rfl)) e1 (g := (mkF m 60 #[.val (.int (3 : Int32)), .val (.ref a1)] [(.int (3 : Int32)), (.ref b1), (.ref b1)])) rfl (hb hby d2_60) rfl (by decide) (cap := 3) (by decide) (by decide) (by decide) (by decide)
  obtain ⟨b4, g4⟩ : ∃ z, z = h1.size := ⟨_, rfl⟩
  rw [← g4] at A4 st4
  have G4 : n0 ≤ b4 := Nat.le_trans f3 (Nat.le_of_eq g4.symm)
  have B4 : h0.size ≤ b4 := Nat.le_trans K2.1 (Nat.le_of_eq g4.symm)
  have K5 : Keep h0 h4 [] := K2.ext E4
  have V4 : Arv Z h4 b4 k4 .char (3 : Int32) [(.int (0 : Int32)), (.int (0 : Int32)), (.int (0 : Int32))] (.int (0 : Int32)) := (Arv.new A4 (by decide)).pad (pad_rep [] (.int (0 : Int32)) 3)
  refine own_st st4 ?_
  show own_Go p e below T4 (mkF m 62 #[.val (.int (3 : Int32)), .val (.ref a1)] [(.ref b4), (.ref b1), (.ref b1)]) _
  refine own_st (fun t_ k_ => XS.dup X4.here hx rfl (hb hby d2_62) rfl rfl k_) ?_
  refine own_st (fun t_ k_ => XS.iconst X4.here hx rfl (hb hby d2_63) k_) ?_
  refine own_st (fun t_ k_ => XS.aloadN X4.here hx rfl (hb hby d2_64) rfl rfl k_) ?_
  refine own_st (fun t_ k_ => XS.iconst X4.here hx rfl (hb hby d2_65) k_) ?_
  show own_Go p e below T4 (mkF m 66 #[.val (.int (3 : Int32)), .val (.ref a1)] [(.int (0 : Int32)), (.ref a1), (.int (0 : Int32)), (.ref b4), (.ref b4), (.ref b1), (.ref b1)]) _
  have f6 := ((pV_a1.ext E1).ext E4)
  obtain ⟨cl7, Ar7, q7, Sz7, Nn7, Hh7, Gg7⟩ := id f6
  have hin7 : ¬ ((0 : Int32) < 0 ∨ cl7.slots.size ≤ ((0 : Int32)).toNatClampNeg) := inb_of Sz7 ⟨by decide, by decide⟩
  have hat7 : cl7.slots[((0 : Int32)).toNatClampNeg]? = some (.int c0) := Has.at Hh7 hin7 rfl
  refine own_st (fun t_ k_ => X4.caload hx (j := (0 : Int32)) (v := (.int c0)) (by rw [e4]; exact Ar7.1) (State.isArrayOf_alike hZ.alike Ar7.2.1) Ar7.2.2 hin7 hat7 (g := (mkF m 66 #[.val (.int (3 : Int32)), .val (.ref a1)] [(.int (0 : Int32)), (.ref a1), (.int (0 : Int32)), (.ref b4), (.ref b4), (.ref b1), (.ref b1)])) rfl rfl (hb hby d2_66) _ k_) ?_
  show own_Go p e below T4 (mkF m 67 #[.val (.int (3 : Int32)), .val (.ref a1)] [(.int c0), (.int (0 : Int32)), (.ref b4), (.ref b4), (.ref b1), (.ref b1)]) _
  obtain ⟨cl8, Ar8, q8, Sz8, Nn8, Hh8, Gg8⟩ := id V4
  have hin8 : ¬ ((0 : Int32) < 0 ∨ cl8.slots.size ≤ ((0 : Int32)).toNatClampNeg) := inb_of Sz8 ⟨by decide, by decide⟩
  obtain ⟨T9, h9, X9, e9, W9, st9⟩ := stC X4 hx hZ e4 Ar8 (j := (0 : Int32)) hin8 (g := (mkF m 67 #[.val (.int (3 : Int32)), .val (.ref a1)] [(.int c0), (.int (0 : Int32)), (.ref b4), (.ref b4), (.ref b1), (.ref b1)])) rfl rfl (hb hby d2_67)
  have V9 : Arv Z h9 b4 k4 .char (3 : Int32) [(.int (nar .char c0)), (.int (0 : Int32)), (.int (0 : Int32))] (.int (0 : Int32)) := Arv.set Ar8 q8 Sz8 Nn8 Hh8 Gg8 (fits_nar_char _) W9 0 rfl (Nat.le_of_ble_eq_true rfl)
  rw [own_chnar h_c0] at V9
  have K10 : Keep h0 h9 [] := K5.wr W9 (Or.inr B4)
  have N9 := Fr.snoc X9 N0 G4
  refine own_st st9 ?_
  show own_Go p e below T9 (mkF m 68 #[.val (.int (3 : Int32)), .val (.ref a1)] [(.ref b4), (.ref b1), (.ref b1)]) _
  refine own_st (fun t_ k_ => XS.dup X9.here hx rfl (hb hby d2_68) rfl rfl k_) ?_
  refine own_st (fun t_ k_ => XS.iconst X9.here hx rfl (hb hby d2_69) k_) ?_
  refine own_st (fun t_ k_ => XS.aloadN X9.here hx rfl (hb hby d2_70) rfl rfl k_) ?_
  refine own_st (fun t_ k_ => XS.iconst X9.here hx rfl (hb hby d2_71) k_) ?_
  show own_Go p e below T9 (mkF m 72 #[.val (.int (3 : Int32)), .val (.ref a1)] [(.int (1 : Int32)), (.ref a1), (.int (1 : Int32)), (.ref b4), (.ref b4), (.ref b1), (.ref b1)]) _
  have f11 := (f6.other W9 (Nat.ne_of_lt (Nat.lt_of_lt_of_le (pV_a1.ext E1).lt (Nat.le_of_eq g4.symm))))
  obtain ⟨cl12, Ar12, q12, Sz12, Nn12, Hh12, Gg12⟩ := id f11
  have hin12 : ¬ ((1 : Int32) < 0 ∨ cl12.slots.size ≤ ((1 : Int32)).toNatClampNeg) := inb_of Sz12 ⟨by decide, by decide⟩
  have hat12 : cl12.slots[((1 : Int32)).toNatClampNeg]? = some (.int c1) := Has.at Hh12 hin12 rfl
  refine own_st (fun t_ k_ => X9.caload hx (j := (1 : Int32)) (v := (.int c1)) (by rw [e9]; exact Ar12.1) (State.isArrayOf_alike hZ.alike Ar12.2.1) Ar12.2.2 hin12 hat12 (g := (mkF m 72 #[.val (.int (3 : Int32)), .val (.ref a1)] [(.int (1 : Int32)), (.ref a1), (.int (1 : Int32)), (.ref b4), (.ref b4), (.ref b1), (.ref b1)])) rfl rfl (hb hby d2_72) _ k_) ?_
  show own_Go p e below T9 (mkF m 73 #[.val (.int (3 : Int32)), .val (.ref a1)] [(.int c1), (.int (1 : Int32)), (.ref b4), (.ref b4), (.ref b1), (.ref b1)]) _
  obtain ⟨cl13, Ar13, q13, Sz13, Nn13, Hh13, Gg13⟩ := id V9
  have hin13 : ¬ ((1 : Int32) < 0 ∨ cl13.slots.size ≤ ((1 : Int32)).toNatClampNeg) := inb_of Sz13 ⟨by decide, by decide⟩
  obtain ⟨T14, h14, X14, e14, W14, st14⟩ := stC X9 hx hZ e9 Ar13 (j := (1 : Int32)) hin13 (g := (mkF m 73 #[.val (.int (3 : Int32)), .val (.ref a1)] [(.int c1), (.int (1 : Int32)), (.ref b4), (.ref b4), (.ref b1), (.ref b1)])) rfl rfl (hb hby d2_73)
  have V14 : Arv Z h14 b4 k4 .char (3 : Int32) [(.int c0), (.int (nar .char c1)), (.int (0 : Int32))] (.int (0 : Int32)) := Arv.set Ar13 q13 Sz13 Nn13 Hh13 Gg13 (fits_nar_char _) W14 1 rfl (Nat.le_of_ble_eq_true rfl)
  rw [own_chnar h_c1] at V14
  have K15 : Keep h0 h14 [] := K10.wr W14 (Or.inr B4)
  have N14 := Fr.snoc X14 N9 G4
  refine own_st st14 ?_
  show own_Go p e below T14 (mkF m 74 #[.val (.int (3 : Int32)), .val (.ref a1)] [(.ref b4), (.ref b1), (.ref b1)]) _
  refine own_st (fun t_ k_ => XS.dup X14.here hx rfl (hb hby d2_74) rfl rfl k_) ?_
  refine own_st (fun t_ k_ => XS.iconst X14.here hx rfl (hb hby d2_75) k_) ?_
  refine own_st (fun t_ k_ => XS.aloadN X14.here hx rfl (hb hby d2_76) rfl rfl k_) ?_
  refine own_st (fun t_ k_ => XS.iconst X14.here hx rfl (hb hby d2_77) k_) ?_
  show own_Go p e below T14 (mkF m 78 #[.val (.int (3 : Int32)), .val (.ref a1)] [(.int (2 : Int32)), (.ref a1), (.int (2 : Int32)), (.ref b4), (.ref b4), (.ref b1), (.ref b1)]) _
  have f16 := (f11.other W14 (Nat.ne_of_lt (Nat.lt_of_lt_of_le (pV_a1.ext E1).lt (Nat.le_of_eq g4.symm))))
  obtain ⟨cl17, Ar17, q17, Sz17, Nn17, Hh17, Gg17⟩ := id f16
  have hin17 : ¬ ((2 : Int32) < 0 ∨ cl17.slots.size ≤ ((2 : Int32)).toNatClampNeg) := inb_of Sz17 ⟨by decide, by decide⟩
  have hat17 : cl17.slots[((2 : Int32)).toNatClampNeg]? = some (.int c2) := Has.at Hh17 hin17 rfl
  refine own_st (fun t_ k_ => X14.caload hx (j := (2 : Int32)) (v := (.int c2)) (by rw [e14]; exact Ar17.1) (State.isArrayOf_alike hZ.alike Ar17.2.1) Ar17.2.2 hin17 hat17 (g := (mkF m 78 #[.val (.int (3 : Int32)), .val (.ref a1)] [(.int (2 : Int32)), (.ref a1), (.int (2 : Int32)), (.ref b4), (.ref b4), (.ref b1), (.ref b1)])) rfl rfl (hb hby d2_78) _ k_) ?_
  show own_Go p e below T14 (mkF m 79 #[.val (.int (3 : Int32)), .val (.ref a1)] [(.int c2), (.int (2 : Int32)), (.ref b4), (.ref b4), (.ref b1), (.ref b1)]) _
  obtain ⟨cl18, Ar18, q18, Sz18, Nn18, Hh18, Gg18⟩ := id V14
  have hin18 : ¬ ((2 : Int32) < 0 ∨ cl18.slots.size ≤ ((2 : Int32)).toNatClampNeg) := inb_of Sz18 ⟨by decide, by decide⟩
  obtain ⟨T19, h19, X19, e19, W19, st19⟩ := stC X14 hx hZ e14 Ar18 (j := (2 : Int32)) hin18 (g := (mkF m 79 #[.val (.int (3 : Int32)), .val (.ref a1)] [(.int c2), (.int (2 : Int32)), (.ref b4), (.ref b4), (.ref b1), (.ref b1)])) rfl rfl (hb hby d2_79)
  have V19 : Arv Z h19 b4 k4 .char (3 : Int32) [(.int c0), (.int c1), (.int (nar .char c2))] (.int (0 : Int32)) := Arv.set Ar18 q18 Sz18 Nn18 Hh18 Gg18 (fits_nar_char _) W19 2 rfl (Nat.le_of_ble_eq_true rfl)
  rw [own_chnar h_c2] at V19
  have K20 : Keep h0 h19 [] := K15.wr W19 (Or.inr B4)
  have N19 := Fr.snoc X19 N14 G4
  refine own_st st19 ?_
  show own_Go p e below T19 (mkF m 80 #[.val (.int (3 : Int32)), .val (.ref a1)] [(.ref b4), (.ref b1), (.ref b1)]) _
  have hp1 : ∀ c ∈ ([c0, c1, c2] : List Int32), ¬ c < 0 ∧ ¬ (255 : Int32) < c := by
    intro c hc
    simp only [List.mem_cons, List.not_mem_nil, or_false] at hc
    rcases hc with rfl | rfl | rfl
    · exact own_ch255 h_c0
    · exact own_ch255 h_c1
    · exact own_ch255 h_c2
  have f21 := (Nat.le_trans (Nat.le_trans (Nat.le_trans (Nat.le_trans f3 E4.1) (Keep.of_wr W9).1) (Keep.of_wr W14).1) (Keep.of_wr W19).1)
  have f22 := ((((A1.ext E4).wr W9).wr W14).wr W19)
  have f23 := ((((D1_value.ext E4).other W9 (Or.inl (Nat.ne_of_lt (Nat.lt_of_lt_of_le A1.lt (Nat.le_of_eq g4.symm))))).other W14 (Or.inl (Nat.ne_of_lt (Nat.lt_of_lt_of_le A1.lt (Nat.le_of_eq g4.symm))))).other W19 (Or.inl (Nat.ne_of_lt (Nat.lt_of_lt_of_le A1.lt (Nat.le_of_eq g4.symm)))))
  have f24 := ((((D1_coder.ext E4).other W9 (Or.inl (Nat.ne_of_lt (Nat.lt_of_lt_of_le A1.lt (Nat.le_of_eq g4.symm))))).other W14 (Or.inl (Nat.ne_of_lt (Nat.lt_of_lt_of_le A1.lt (Nat.le_of_eq g4.symm))))).other W19 (Or.inl (Nat.ne_of_lt (Nat.lt_of_lt_of_le A1.lt (Nat.le_of_eq g4.symm)))))
  have f25 := (((((pO.ext E1).ext E4).wr W9 G4).wr W14 G4).wr W19 G4)
  obtain ⟨_, _, ⟨T26, L26, k26, n26⟩, -, X26, ⟨Lc26, hQ26, l26, y26, z26⟩, st26⟩ := X19.specialBack hx (y := (⟨"java/lang/String", "<init>", "([C)V"⟩ : MethodName)) rfl hown (mvT hZ (hw _ (List.mem_of_getElem? (i := 11) rfl))) (mvT hZ (hw _ (List.mem_of_getElem? (i := 12) rfl))) (mvT hZ (hw _ (List.mem_of_getElem? (i := 13) rfl))) (by decide) (StrChars.Road.backV (W := 1) hZ hws (kI := 4) (hw _ (List.mem_of_getElem? (i := 9) rfl)) (cs := ([c0, c1, c2] : List Int32)) (bs := (([c0, c1, c2] : List Int32)).map (fun c => c.toInt8.toInt32)) (n := 3) G1 f21 f22 f23 f24 V19 (pS_COMPACT_STRINGS.ext f25.2) pP5 rfl rfl (by decide) (by decide) hp1 rfl (by decide) (by decide)) (g := (mkF m 80 #[.val (.int (3 : Int32)), .val (.ref a1)] [(.ref b4), (.ref b1), (.ref b1)])) rfl (by rw [hml]; rfl) (Steps.refl _) (a := b1) (argsL := [(.ref b4)]) (rest := [(.ref b1)]) (lenOf pd___C_V rfl) rfl (by show 2 * 0 + _ ≤ _; exact Nat.le_of_eq rfl) (hb hby d2_80) (fun _ _ => ⟨rfl, e19, (by decide : 2 + 1 ≤ _), (by decide : 7 + 3 ≤ _)⟩)
  dsimp only [Pt.U, Pt.locs, Pt.cells, Pt.slots] at X26 l26 y26 z26 st26 hQ26
  try dsimp only [Nat.reduceAdd] at y26 z26
  rw [l26, y26, z26] at X26
  obtain ⟨rfl, Nq26, Kq26, q26_E, q26_c, t26, kb26, q26_g, q26_b, q26_n, q26_v, q26_V⟩ := hQ26
  have N26 := Fr.app N19 Nq26
  have K27 : Keep h0 T26.heap [] := K20.trans Kq26 (allS (Or.inr B1) all0)
  have Bf28 : h0.size ≤ t26 := Nat.le_trans K20.1 q26_b
  refine own_tr st26 ?_
  show own_Go p e below T26 (mkF m 83 #[.val (.int (3 : Int32)), .val (.ref a1)] [(.ref b1)]) _
  obtain ⟨fs, hr, hrun, hended, hW, hsame⟩ := X26.leave (v := some (.ref b1)) (fun h => by rw [Bd.returns] at h; cases h)
  refine own_fin (own_retR X26 hx rfl Bd.returns rfl (hb hby d2_83) hr) ⟨hrun, hended, _, _, rfl, ?_, ⟨_, rfl⟩, hW, hsame.mono (by decide) (by decide)⟩
  show Q_rmMk3 Z a1 ka c0 c1 c2 c3 c4 zc h0 n0 _ T26.heap _
  exact ⟨b1, t26, kb26, rfl, N26, K27, q26_E, q26_v, q26_c, q26_V⟩
theorem d2_84 : decode method_4_code 84 = .ok (.iload_n 0, 1) := by decide +kernel
theorem d2_85 : decode method_4_code 85 = .ok (.iconst 4, 1) := by decide +kernel
theorem d2_86 : decode method_4_code 86 = .ok (.if_icmp .ne 38, 3) := by decide +kernel
theorem d2_89 : decode method_4_code 89 = .ok (.new 24, 3) := by decide +kernel
theorem d2_92 : decode method_4_code 92 = .ok (.dup, 1) := by decide +kernel
theorem d2_93 : decode method_4_code 93 = .ok (.iconst 4, 1) := by decide +kernel
theorem d2_94 : decode method_4_code 94 = .ok (.newarray .char, 2) := by decide +kernel
theorem d2_96 : decode method_4_code 96 = .ok (.dup, 1) := by decide +kernel
theorem d2_97 : decode method_4_code 97 = .ok (.iconst 0, 1) := by decide +kernel
theorem d2_98 : decode method_4_code 98 = .ok (.aload_n 1, 1) := by decide +kernel
theorem d2_99 : decode method_4_code 99 = .ok (.iconst 0, 1) := by decide +kernel
theorem d2_100 : decode method_4_code 100 = .ok (.caload, 1) := by decide +kernel
theorem d2_101 : decode method_4_code 101 = .ok (.castore, 1) := by decide +kernel
theorem d2_102 : decode method_4_code 102 = .ok (.dup, 1) := by decide +kernel
theorem d2_103 : decode method_4_code 103 = .ok (.iconst 1, 1) := by decide +kernel
theorem d2_104 : decode method_4_code 104 = .ok (.aload_n 1, 1) := by decide +kernel
theorem d2_105 : decode method_4_code 105 = .ok (.iconst 1, 1) := by decide +kernel
theorem d2_106 : decode method_4_code 106 = .ok (.caload, 1) := by decide +kernel
theorem d2_107 : decode method_4_code 107 = .ok (.castore, 1) := by decide +kernel
theorem d2_108 : decode method_4_code 108 = .ok (.dup, 1) := by decide +kernel
theorem d2_109 : decode method_4_code 109 = .ok (.iconst 2, 1) := by decide +kernel
theorem d2_110 : decode method_4_code 110 = .ok (.aload_n 1, 1) := by decide +kernel
theorem d2_111 : decode method_4_code 111 = .ok (.iconst 2, 1) := by decide +kernel
theorem d2_112 : decode method_4_code 112 = .ok (.caload, 1) := by decide +kernel
theorem d2_113 : decode method_4_code 113 = .ok (.castore, 1) := by decide +kernel
theorem d2_114 : decode method_4_code 114 = .ok (.dup, 1) := by decide +kernel
theorem d2_115 : decode method_4_code 115 = .ok (.iconst 3, 1) := by decide +kernel
theorem d2_116 : decode method_4_code 116 = .ok (.aload_n 1, 1) := by decide +kernel
theorem d2_117 : decode method_4_code 117 = .ok (.iconst 3, 1) := by decide +kernel
theorem d2_118 : decode method_4_code 118 = .ok (.caload, 1) := by decide +kernel
theorem d2_119 : decode method_4_code 119 = .ok (.castore, 1) := by decide +kernel
theorem d2_120 : decode method_4_code 120 = .ok (.invokespecial 33, 3) := by decide +kernel
theorem d2_123 : decode method_4_code 123 = .ok (.areturn, 1) := by decide +kernel
theorem ef_rmMk4 (m : MethodId) (x0 : Int32) (x1 : Addr) : entryFrame m #[(.int x0), (.ref x1)] 2 = mkF m 0 #[.val (.int x0), .val (.ref x1)] [] := by first | (simp [entryFrame, mkF, argsToLocals, Value.category]; done) | rfl
def Q_rmMk4 (Z : State) (a1 : Addr) (ka : ClassId) (c0 : Int32) (c1 : Int32) (c2 : Int32) (c3 : Int32) (c4 : Int32) (zc : Int32) (h0 : Heap) (n0 : Nat) (v : Option Value) (h : Heap) (L : List Loc) : Prop := ∃ x : Addr, ∃ t : Addr, ∃ kb : ClassId, v = some (.ref x) ∧ Fr n0 L ∧ Keep h0 h [] ∧ Exa Z h x "java/lang/String" ∧ Fld Z h x "java/lang/String" "value" "[B" (.ref t) ∧ Fld Z h x "java/lang/String" "coder" "B" (.int (0 : Int32)) ∧ Arv Z h t kb .byte (4 : Int32) ((([c0, c1, c2, c3] : List Int32).map (fun c : Int32 => c.toInt8.toInt32)).map Value.int) (.int 0)
set_option maxRecDepth 65536 in
set_option maxHeartbeats 40000000 in
theorem rmMk4 (l : Launch) (Z : State) (a0 : Array Value) (hw : ∀ d ∈ tables_1, d.before a0 Z = true) (ws : List Jvm.Cond) (a1 : Addr) (ka : ClassId) (c0 : Int32) (c1 : Int32) (c2 : Int32) (c3 : Int32) (c4 : Int32) (zc : Int32) (h0 : Heap) (n0 : Nat) (Z0 : n0 ≤ h0.size) (pV_a1 : Arv Z h0 a1 ka .char (5 : Int32) [(.int c0), (.int c1), (.int c2), (.int c3), (.int c4)] (.int (0 : Int32))) (h_c0 : (own_ch c0)) (h_c1 : (own_ch c1)) (h_c2 : (own_ch c2)) (h_c3 : (own_ch c3)) (h_c4 : (own_ch c4)) (pS_COMPACT_STRINGS : Sta Z Z.heap "java/lang/String" "COMPACT_STRINGS" "Z" (.int zc)) (pP5 : (¬ (zc = (0 : Int32)))) (pO : Old Z n0 h0) :
    MetFree l (⟨"com/example/descriptor/descriptor/vocabulary/HierarchyParentPinLaw", "make", "(I[C)Ljava/lang/String;"⟩ : MethodName) (head1 (Jvm.Cond.code (⟨"com/example/descriptor/descriptor/vocabulary/HierarchyParentPinLaw", "make", "(I[C)Ljava/lang/String;"⟩ : MethodName) method_4_code 2 (some (.object "java/lang/String")) :: ws) ({ frames := 4, cells := 3, slots := 12, locals := 66 } : Room)) (fun a U => a = #[(.int (4 : Int32)), (.ref a1)] ∧ Z.Warmed39 U.vm ∧ U.heap = h0) (fun _ _ _ _ _ => True) (fun _ U o U' => ∃ v L, o = .returned v ∧ Q_rmMk4 Z a1 ka c0 c1 c2 c3 c4 zc h0 n0 v U'.heap L ∧ FrameEnd U o U' L ({ frames := 4, cells := 3, slots := 12, locals := 66 } : Room).cells ({ frames := 4, cells := 3, slots := 12, locals := 66 } : Room).slots) := by
  refine MetFree.of_bodySF (plainFor_of_name pn_2) hisR ?_
  intro p e s m args below meth c s₁ Bd hml0 hP hK
  obtain ⟨rfl, hZ, hh⟩ := hP
  have hx := Bd.exec
  have hby := Bd.bytes
  have hml : c.maxLocals = 2 := hml0
  have hown : s.vm.findClass "com/example/descriptor/descriptor/vocabulary/HierarchyParentPinLaw" = some m.cls := findClass_of_methodNamed Bd.named
  have hnm := (name_of_methodNamed Bd.named Bd.method).1
  have X0 : Stand p l e ({ frames := 4, cells := 3, slots := 12, locals := 66 } : Room) s m #[(.int (4 : Int32)), (.ref a1)] below meth c s₁ [] 0 0 := Stand.of_body Bd
  have e0 : s₁.heap = h0 := by rw [← hh, Bd.state]; rfl
  have N0 := Fr.nil n0
  refine own_enter (ef_rmMk4 m ((4 : Int32)) a1) ?_
  have hws : ∀ d ∈ StrChars.Road.words, d.before a0 Z = true := fun d hd => hw d ((by decide +kernel : ∀ d ∈ StrChars.Road.words, d ∈ tables_1) d hd)
  refine own_st (fun t_ k_ => XS.iloadN X0.here hx rfl (hb hby d2_0) rfl k_) ?_
  refine own_st (fun t_ k_ => XS.iconst X0.here hx rfl (hb hby d2_1) k_) ?_
  refine own_st (fun t_ k_ => XS.icmpYes X0.here hx rfl (pc0 := 2) (pc' := 22) rfl (hb hby d2_2) rfl (by decide) (by decide) (by decide) k_) ?_
  refine own_st (fun t_ k_ => XS.iloadN X0.here hx rfl (hb hby d2_22) rfl k_) ?_
  refine own_st (fun t_ k_ => XS.iconst X0.here hx rfl (hb hby d2_23) k_) ?_
  show own_Go p e below s₁ (mkF m 24 #[.val (.int (4 : Int32)), .val (.ref a1)] [(.int (2 : Int32)), (.int (4 : Int32))]) _
  refine own_st (fun t_ k_ => XS.icmpYes X0.here hx rfl (pc0 := 24) (pc' := 50) rfl (hb hby d2_24) rfl (by decide) (by decide) (by decide) k_) ?_
  refine own_st (fun t_ k_ => XS.iloadN X0.here hx rfl (hb hby d2_50) rfl k_) ?_
  refine own_st (fun t_ k_ => XS.iconst X0.here hx rfl (hb hby d2_51) k_) ?_
  refine own_st (fun t_ k_ => XS.icmpYes X0.here hx rfl (pc0 := 52) (pc' := 84) rfl (hb hby d2_52) rfl (by decide) (by decide) (by decide) k_) ?_
  refine own_st (fun t_ k_ => XS.iloadN X0.here hx rfl (hb hby d2_84) rfl k_) ?_
  refine own_st (fun t_ k_ => XS.iconst X0.here hx rfl (hb hby d2_85) k_) ?_
  show own_Go p e below s₁ (mkF m 86 #[.val (.int (4 : Int32)), .val (.ref a1)] [(.int (4 : Int32)), (.int (4 : Int32))]) _
  refine own_st (fun t_ k_ => XS.icmpNo X0.here hx rfl (hb hby d2_86) rfl (by decide) k_) ?_
  show own_Go p e below s₁ (mkF m 89 #[.val (.int (4 : Int32)), .val (.ref a1)] []) _
  obtain ⟨T1, h1, X1, e1, E1, A1, D1, -, st1⟩ := newO X0 hx hZ hown (hw _ (List.mem_of_getElem? (i := 8) rfl)) (hw _ (List.mem_of_getElem? (i := 9) rfl)) (hw _ (List.mem_of_getElem? (i := 10) rfl)) e0 (g := (mkF m 89 #[.val (.int (4 : Int32)), .val (.ref a1)] [])) rfl (hb hby d2_89) (by decide) (by decide)
  obtain ⟨b1, g1⟩ : ∃ z, z = h0.size := ⟨_, rfl⟩
  rw [← g1] at A1 D1 st1
  have G1 : n0 ≤ b1 := Nat.le_trans Z0 (Nat.le_of_eq g1.symm)
  have B1 : h0.size ≤ b1 := Nat.le_trans (Keep.refl h0 []).1 (Nat.le_of_eq g1.symm)
  have K2 : Keep h0 h1 [] := (Keep.refl h0 []).ext E1
  have D1_coder : Fld Z h1 b1 "java/lang/String" "coder" "B" (.int (0 : Int32)) := D1 (Or.inr (hw _ (List.mem_of_getElem? (i := 34) rfl))) (ty := .byte) (by decide)
  have D1_value : Fld Z h1 b1 "java/lang/String" "value" "[B" .null := D1 (Or.inr (hw _ (List.mem_of_getElem? (i := 36) rfl))) (ty := (.array .byte)) (by decide)
  refine own_st st1 ?_
  show own_Go p e below T1 (mkF m 92 #[.val (.int (4 : Int32)), .val (.ref a1)] [(.ref b1)]) _
  refine own_st (fun t_ k_ => XS.dup X1.here hx rfl (hb hby d2_92) rfl rfl k_) ?_
  refine own_st (fun t_ k_ => XS.iconst X1.here hx rfl (hb hby d2_93) k_) ?_
  show own_Go p e below T1 (mkF m 94 #[.val (.int (4 : Int32)), .val (.ref a1)] [(.int (4 : Int32)), (.ref b1), (.ref b1)]) _
  have f3 := (Nat.le_trans Z0 E1.1)
  obtain ⟨T4, h4, k4, X4, e4, E4, A4, st4⟩ := newP X1 hx hZ (hw _ (List.mem_of_getElem? (i := 0) rfl)) e1 (g := (mkF m 94 #[.val (.int (4 : Int32)), .val (.ref a1)] [(.int (4 : Int32)), (.ref b1), (.ref b1)])) rfl (hb hby d2_94) rfl (by decide) (cap := 4) (by decide) (by decide) (by decide) (by decide)
  obtain ⟨b4, g4⟩ : ∃ z, z = h1.size := ⟨_, rfl⟩
  rw [← g4] at A4 st4
  have G4 : n0 ≤ b4 := Nat.le_trans f3 (Nat.le_of_eq g4.symm)
  have B4 : h0.size ≤ b4 := Nat.le_trans K2.1 (Nat.le_of_eq g4.symm)
  have K5 : Keep h0 h4 [] := K2.ext E4
  have V4 : Arv Z h4 b4 k4 .char (4 : Int32) [(.int (0 : Int32)), (.int (0 : Int32)), (.int (0 : Int32)), (.int (0 : Int32))] (.int (0 : Int32)) := (Arv.new A4 (by decide)).pad (pad_rep [] (.int (0 : Int32)) 4)
  refine own_st st4 ?_
  show own_Go p e below T4 (mkF m 96 #[.val (.int (4 : Int32)), .val (.ref a1)] [(.ref b4), (.ref b1), (.ref b1)]) _
  refine own_st (fun t_ k_ => XS.dup X4.here hx rfl (hb hby d2_96) rfl rfl k_) ?_
  refine own_st (fun t_ k_ => XS.iconst X4.here hx rfl (hb hby d2_97) k_) ?_
  refine own_st (fun t_ k_ => XS.aloadN X4.here hx rfl (hb hby d2_98) rfl rfl k_) ?_
  refine own_st (fun t_ k_ => XS.iconst X4.here hx rfl (hb hby d2_99) k_) ?_
  show own_Go p e below T4 (mkF m 100 #[.val (.int (4 : Int32)), .val (.ref a1)] [(.int (0 : Int32)), (.ref a1), (.int (0 : Int32)), (.ref b4), (.ref b4), (.ref b1), (.ref b1)]) _
  have f6 := ((pV_a1.ext E1).ext E4)
  obtain ⟨cl7, Ar7, q7, Sz7, Nn7, Hh7, Gg7⟩ := id f6
  have hin7 : ¬ ((0 : Int32) < 0 ∨ cl7.slots.size ≤ ((0 : Int32)).toNatClampNeg) := inb_of Sz7 ⟨by decide, by decide⟩
  have hat7 : cl7.slots[((0 : Int32)).toNatClampNeg]? = some (.int c0) := Has.at Hh7 hin7 rfl
  refine own_st (fun t_ k_ => X4.caload hx (j := (0 : Int32)) (v := (.int c0)) (by rw [e4]; exact Ar7.1) (State.isArrayOf_alike hZ.alike Ar7.2.1) Ar7.2.2 hin7 hat7 (g := (mkF m 100 #[.val (.int (4 : Int32)), .val (.ref a1)] [(.int (0 : Int32)), (.ref a1), (.int (0 : Int32)), (.ref b4), (.ref b4), (.ref b1), (.ref b1)])) rfl rfl (hb hby d2_100) _ k_) ?_
  show own_Go p e below T4 (mkF m 101 #[.val (.int (4 : Int32)), .val (.ref a1)] [(.int c0), (.int (0 : Int32)), (.ref b4), (.ref b4), (.ref b1), (.ref b1)]) _
  obtain ⟨cl8, Ar8, q8, Sz8, Nn8, Hh8, Gg8⟩ := id V4
  have hin8 : ¬ ((0 : Int32) < 0 ∨ cl8.slots.size ≤ ((0 : Int32)).toNatClampNeg) := inb_of Sz8 ⟨by decide, by decide⟩
  obtain ⟨T9, h9, X9, e9, W9, st9⟩ := stC X4 hx hZ e4 Ar8 (j := (0 : Int32)) hin8 (g := (mkF m 101 #[.val (.int (4 : Int32)), .val (.ref a1)] [(.int c0), (.int (0 : Int32)), (.ref b4), (.ref b4), (.ref b1), (.ref b1)])) rfl rfl (hb hby d2_101)
  have V9 : Arv Z h9 b4 k4 .char (4 : Int32) [(.int (nar .char c0)), (.int (0 : Int32)), (.int (0 : Int32)), (.int (0 : Int32))] (.int (0 : Int32)) := Arv.set Ar8 q8 Sz8 Nn8 Hh8 Gg8 (fits_nar_char _) W9 0 rfl (Nat.le_of_ble_eq_true rfl)
  rw [own_chnar h_c0] at V9
  have K10 : Keep h0 h9 [] := K5.wr W9 (Or.inr B4)
  have N9 := Fr.snoc X9 N0 G4
  refine own_st st9 ?_
  show own_Go p e below T9 (mkF m 102 #[.val (.int (4 : Int32)), .val (.ref a1)] [(.ref b4), (.ref b1), (.ref b1)]) _
  refine own_st (fun t_ k_ => XS.dup X9.here hx rfl (hb hby d2_102) rfl rfl k_) ?_
  refine own_st (fun t_ k_ => XS.iconst X9.here hx rfl (hb hby d2_103) k_) ?_
  refine own_st (fun t_ k_ => XS.aloadN X9.here hx rfl (hb hby d2_104) rfl rfl k_) ?_
  refine own_st (fun t_ k_ => XS.iconst X9.here hx rfl (hb hby d2_105) k_) ?_
  show own_Go p e below T9 (mkF m 106 #[.val (.int (4 : Int32)), .val (.ref a1)] [(.int (1 : Int32)), (.ref a1), (.int (1 : Int32)), (.ref b4), (.ref b4), (.ref b1), (.ref b1)]) _
  have f11 := (f6.other W9 (Nat.ne_of_lt (Nat.lt_of_lt_of_le (pV_a1.ext E1).lt (Nat.le_of_eq g4.symm))))
  obtain ⟨cl12, Ar12, q12, Sz12, Nn12, Hh12, Gg12⟩ := id f11
  have hin12 : ¬ ((1 : Int32) < 0 ∨ cl12.slots.size ≤ ((1 : Int32)).toNatClampNeg) := inb_of Sz12 ⟨by decide, by decide⟩
  have hat12 : cl12.slots[((1 : Int32)).toNatClampNeg]? = some (.int c1) := Has.at Hh12 hin12 rfl
  refine own_st (fun t_ k_ => X9.caload hx (j := (1 : Int32)) (v := (.int c1)) (by rw [e9]; exact Ar12.1) (State.isArrayOf_alike hZ.alike Ar12.2.1) Ar12.2.2 hin12 hat12 (g := (mkF m 106 #[.val (.int (4 : Int32)), .val (.ref a1)] [(.int (1 : Int32)), (.ref a1), (.int (1 : Int32)), (.ref b4), (.ref b4), (.ref b1), (.ref b1)])) rfl rfl (hb hby d2_106) _ k_) ?_
  show own_Go p e below T9 (mkF m 107 #[.val (.int (4 : Int32)), .val (.ref a1)] [(.int c1), (.int (1 : Int32)), (.ref b4), (.ref b4), (.ref b1), (.ref b1)]) _
  obtain ⟨cl13, Ar13, q13, Sz13, Nn13, Hh13, Gg13⟩ := id V9
  have hin13 : ¬ ((1 : Int32) < 0 ∨ cl13.slots.size ≤ ((1 : Int32)).toNatClampNeg) := inb_of Sz13 ⟨by decide, by decide⟩
  obtain ⟨T14, h14, X14, e14, W14, st14⟩ := stC X9 hx hZ e9 Ar13 (j := (1 : Int32)) hin13 (g := (mkF m 107 #[.val (.int (4 : Int32)), .val (.ref a1)] [(.int c1), (.int (1 : Int32)), (.ref b4), (.ref b4), (.ref b1), (.ref b1)])) rfl rfl (hb hby d2_107)
  have V14 : Arv Z h14 b4 k4 .char (4 : Int32) [(.int c0), (.int (nar .char c1)), (.int (0 : Int32)), (.int (0 : Int32))] (.int (0 : Int32)) := Arv.set Ar13 q13 Sz13 Nn13 Hh13 Gg13 (fits_nar_char _) W14 1 rfl (Nat.le_of_ble_eq_true rfl)
  rw [own_chnar h_c1] at V14
  have K15 : Keep h0 h14 [] := K10.wr W14 (Or.inr B4)
  have N14 := Fr.snoc X14 N9 G4
  refine own_st st14 ?_
  show own_Go p e below T14 (mkF m 108 #[.val (.int (4 : Int32)), .val (.ref a1)] [(.ref b4), (.ref b1), (.ref b1)]) _
  refine own_st (fun t_ k_ => XS.dup X14.here hx rfl (hb hby d2_108) rfl rfl k_) ?_
  refine own_st (fun t_ k_ => XS.iconst X14.here hx rfl (hb hby d2_109) k_) ?_
  refine own_st (fun t_ k_ => XS.aloadN X14.here hx rfl (hb hby d2_110) rfl rfl k_) ?_
  refine own_st (fun t_ k_ => XS.iconst X14.here hx rfl (hb hby d2_111) k_) ?_
  show own_Go p e below T14 (mkF m 112 #[.val (.int (4 : Int32)), .val (.ref a1)] [(.int (2 : Int32)), (.ref a1), (.int (2 : Int32)), (.ref b4), (.ref b4), (.ref b1), (.ref b1)]) _
  have f16 := (f11.other W14 (Nat.ne_of_lt (Nat.lt_of_lt_of_le (pV_a1.ext E1).lt (Nat.le_of_eq g4.symm))))
  obtain ⟨cl17, Ar17, q17, Sz17, Nn17, Hh17, Gg17⟩ := id f16
  have hin17 : ¬ ((2 : Int32) < 0 ∨ cl17.slots.size ≤ ((2 : Int32)).toNatClampNeg) := inb_of Sz17 ⟨by decide, by decide⟩
  have hat17 : cl17.slots[((2 : Int32)).toNatClampNeg]? = some (.int c2) := Has.at Hh17 hin17 rfl
  refine own_st (fun t_ k_ => X14.caload hx (j := (2 : Int32)) (v := (.int c2)) (by rw [e14]; exact Ar17.1) (State.isArrayOf_alike hZ.alike Ar17.2.1) Ar17.2.2 hin17 hat17 (g := (mkF m 112 #[.val (.int (4 : Int32)), .val (.ref a1)] [(.int (2 : Int32)), (.ref a1), (.int (2 : Int32)), (.ref b4), (.ref b4), (.ref b1), (.ref b1)])) rfl rfl (hb hby d2_112) _ k_) ?_
  show own_Go p e below T14 (mkF m 113 #[.val (.int (4 : Int32)), .val (.ref a1)] [(.int c2), (.int (2 : Int32)), (.ref b4), (.ref b4), (.ref b1), (.ref b1)]) _
  obtain ⟨cl18, Ar18, q18, Sz18, Nn18, Hh18, Gg18⟩ := id V14
  have hin18 : ¬ ((2 : Int32) < 0 ∨ cl18.slots.size ≤ ((2 : Int32)).toNatClampNeg) := inb_of Sz18 ⟨by decide, by decide⟩
  obtain ⟨T19, h19, X19, e19, W19, st19⟩ := stC X14 hx hZ e14 Ar18 (j := (2 : Int32)) hin18 (g := (mkF m 113 #[.val (.int (4 : Int32)), .val (.ref a1)] [(.int c2), (.int (2 : Int32)), (.ref b4), (.ref b4), (.ref b1), (.ref b1)])) rfl rfl (hb hby d2_113)
  have V19 : Arv Z h19 b4 k4 .char (4 : Int32) [(.int c0), (.int c1), (.int (nar .char c2)), (.int (0 : Int32))] (.int (0 : Int32)) := Arv.set Ar18 q18 Sz18 Nn18 Hh18 Gg18 (fits_nar_char _) W19 2 rfl (Nat.le_of_ble_eq_true rfl)
  rw [own_chnar h_c2] at V19
  have K20 : Keep h0 h19 [] := K15.wr W19 (Or.inr B4)
  have N19 := Fr.snoc X19 N14 G4
  refine own_st st19 ?_
  show own_Go p e below T19 (mkF m 114 #[.val (.int (4 : Int32)), .val (.ref a1)] [(.ref b4), (.ref b1), (.ref b1)]) _
  refine own_st (fun t_ k_ => XS.dup X19.here hx rfl (hb hby d2_114) rfl rfl k_) ?_
  refine own_st (fun t_ k_ => XS.iconst X19.here hx rfl (hb hby d2_115) k_) ?_
  refine own_st (fun t_ k_ => XS.aloadN X19.here hx rfl (hb hby d2_116) rfl rfl k_) ?_
  refine own_st (fun t_ k_ => XS.iconst X19.here hx rfl (hb hby d2_117) k_) ?_
  show own_Go p e below T19 (mkF m 118 #[.val (.int (4 : Int32)), .val (.ref a1)] [(.int (3 : Int32)), (.ref a1), (.int (3 : Int32)), (.ref b4), (.ref b4), (.ref b1), (.ref b1)]) _
  have f21 := (f16.other W19 (Nat.ne_of_lt (Nat.lt_of_lt_of_le (pV_a1.ext E1).lt (Nat.le_of_eq g4.symm))))
  obtain ⟨cl22, Ar22, q22, Sz22, Nn22, Hh22, Gg22⟩ := id f21
  have hin22 : ¬ ((3 : Int32) < 0 ∨ cl22.slots.size ≤ ((3 : Int32)).toNatClampNeg) := inb_of Sz22 ⟨by decide, by decide⟩
  have hat22 : cl22.slots[((3 : Int32)).toNatClampNeg]? = some (.int c3) := Has.at Hh22 hin22 rfl
  refine own_st (fun t_ k_ => X19.caload hx (j := (3 : Int32)) (v := (.int c3)) (by rw [e19]; exact Ar22.1) (State.isArrayOf_alike hZ.alike Ar22.2.1) Ar22.2.2 hin22 hat22 (g := (mkF m 118 #[.val (.int (4 : Int32)), .val (.ref a1)] [(.int (3 : Int32)), (.ref a1), (.int (3 : Int32)), (.ref b4), (.ref b4), (.ref b1), (.ref b1)])) rfl rfl (hb hby d2_118) _ k_) ?_
  show own_Go p e below T19 (mkF m 119 #[.val (.int (4 : Int32)), .val (.ref a1)] [(.int c3), (.int (3 : Int32)), (.ref b4), (.ref b4), (.ref b1), (.ref b1)]) _
  obtain ⟨cl23, Ar23, q23, Sz23, Nn23, Hh23, Gg23⟩ := id V19
  have hin23 : ¬ ((3 : Int32) < 0 ∨ cl23.slots.size ≤ ((3 : Int32)).toNatClampNeg) := inb_of Sz23 ⟨by decide, by decide⟩
  obtain ⟨T24, h24, X24, e24, W24, st24⟩ := stC X19 hx hZ e19 Ar23 (j := (3 : Int32)) hin23 (g := (mkF m 119 #[.val (.int (4 : Int32)), .val (.ref a1)] [(.int c3), (.int (3 : Int32)), (.ref b4), (.ref b4), (.ref b1), (.ref b1)])) rfl rfl (hb hby d2_119)
  have V24 : Arv Z h24 b4 k4 .char (4 : Int32) [(.int c0), (.int c1), (.int c2), (.int (nar .char c3))] (.int (0 : Int32)) := Arv.set Ar23 q23 Sz23 Nn23 Hh23 Gg23 (fits_nar_char _) W24 3 rfl (Nat.le_of_ble_eq_true rfl)
  rw [own_chnar h_c3] at V24
  have K25 : Keep h0 h24 [] := K20.wr W24 (Or.inr B4)
  have N24 := Fr.snoc X24 N19 G4
  refine own_st st24 ?_
  show own_Go p e below T24 (mkF m 120 #[.val (.int (4 : Int32)), .val (.ref a1)] [(.ref b4), (.ref b1), (.ref b1)]) _
  have hp1 : ∀ c ∈ ([c0, c1, c2, c3] : List Int32), ¬ c < 0 ∧ ¬ (255 : Int32) < c := by
    intro c hc
    simp only [List.mem_cons, List.not_mem_nil, or_false] at hc
    rcases hc with rfl | rfl | rfl | rfl
    · exact own_ch255 h_c0
    · exact own_ch255 h_c1
    · exact own_ch255 h_c2
    · exact own_ch255 h_c3
  have f26 := (Nat.le_trans (Nat.le_trans (Nat.le_trans (Nat.le_trans (Nat.le_trans f3 E4.1) (Keep.of_wr W9).1) (Keep.of_wr W14).1) (Keep.of_wr W19).1) (Keep.of_wr W24).1)
  have f27 := (((((A1.ext E4).wr W9).wr W14).wr W19).wr W24)
  have f28 := (((((D1_value.ext E4).other W9 (Or.inl (Nat.ne_of_lt (Nat.lt_of_lt_of_le A1.lt (Nat.le_of_eq g4.symm))))).other W14 (Or.inl (Nat.ne_of_lt (Nat.lt_of_lt_of_le A1.lt (Nat.le_of_eq g4.symm))))).other W19 (Or.inl (Nat.ne_of_lt (Nat.lt_of_lt_of_le A1.lt (Nat.le_of_eq g4.symm))))).other W24 (Or.inl (Nat.ne_of_lt (Nat.lt_of_lt_of_le A1.lt (Nat.le_of_eq g4.symm)))))
  have f29 := (((((D1_coder.ext E4).other W9 (Or.inl (Nat.ne_of_lt (Nat.lt_of_lt_of_le A1.lt (Nat.le_of_eq g4.symm))))).other W14 (Or.inl (Nat.ne_of_lt (Nat.lt_of_lt_of_le A1.lt (Nat.le_of_eq g4.symm))))).other W19 (Or.inl (Nat.ne_of_lt (Nat.lt_of_lt_of_le A1.lt (Nat.le_of_eq g4.symm))))).other W24 (Or.inl (Nat.ne_of_lt (Nat.lt_of_lt_of_le A1.lt (Nat.le_of_eq g4.symm)))))
  have f30 := ((((((pO.ext E1).ext E4).wr W9 G4).wr W14 G4).wr W19 G4).wr W24 G4)
  obtain ⟨_, _, ⟨T31, L31, k31, n31⟩, -, X31, ⟨Lc31, hQ31, l31, y31, z31⟩, st31⟩ := X24.specialBack hx (y := (⟨"java/lang/String", "<init>", "([C)V"⟩ : MethodName)) rfl hown (mvT hZ (hw _ (List.mem_of_getElem? (i := 11) rfl))) (mvT hZ (hw _ (List.mem_of_getElem? (i := 12) rfl))) (mvT hZ (hw _ (List.mem_of_getElem? (i := 13) rfl))) (by decide) (StrChars.Road.backV (W := 1) hZ hws (kI := 4) (hw _ (List.mem_of_getElem? (i := 9) rfl)) (cs := ([c0, c1, c2, c3] : List Int32)) (bs := (([c0, c1, c2, c3] : List Int32)).map (fun c => c.toInt8.toInt32)) (n := 4) G1 f26 f27 f28 f29 V24 (pS_COMPACT_STRINGS.ext f30.2) pP5 rfl rfl (by decide) (by decide) hp1 rfl (by decide) (by decide)) (g := (mkF m 120 #[.val (.int (4 : Int32)), .val (.ref a1)] [(.ref b4), (.ref b1), (.ref b1)])) rfl (by rw [hml]; rfl) (Steps.refl _) (a := b1) (argsL := [(.ref b4)]) (rest := [(.ref b1)]) (lenOf pd___C_V rfl) rfl (by show 2 * 0 + _ ≤ _; exact Nat.le_of_eq rfl) (hb hby d2_120) (fun _ _ => ⟨rfl, e24, (by decide : 2 + 1 ≤ _), (by decide : 8 + 4 ≤ _)⟩)
  dsimp only [Pt.U, Pt.locs, Pt.cells, Pt.slots] at X31 l31 y31 z31 st31 hQ31
  try dsimp only [Nat.reduceAdd] at y31 z31
  rw [l31, y31, z31] at X31
  obtain ⟨rfl, Nq31, Kq31, q31_E, q31_c, t31, kb31, q31_g, q31_b, q31_n, q31_v, q31_V⟩ := hQ31
  have N31 := Fr.app N24 Nq31
  have K32 : Keep h0 T31.heap [] := K25.trans Kq31 (allS (Or.inr B1) all0)
  have Bf33 : h0.size ≤ t31 := Nat.le_trans K25.1 q31_b
  refine own_tr st31 ?_
  show own_Go p e below T31 (mkF m 123 #[.val (.int (4 : Int32)), .val (.ref a1)] [(.ref b1)]) _
  obtain ⟨fs, hr, hrun, hended, hW, hsame⟩ := X31.leave (v := some (.ref b1)) (fun h => by rw [Bd.returns] at h; cases h)
  refine own_fin (own_retR X31 hx rfl Bd.returns rfl (hb hby d2_123) hr) ⟨hrun, hended, _, _, rfl, ?_, ⟨_, rfl⟩, hW, hsame.mono (by decide) (by decide)⟩
  show Q_rmMk4 Z a1 ka c0 c1 c2 c3 c4 zc h0 n0 _ T31.heap _
  exact ⟨b1, t31, kb31, rfl, N31, K32, q31_E, q31_v, q31_c, q31_V⟩
theorem d2_124 : decode method_4_code 124 = .ok (.new 24, 3) := by decide +kernel
theorem d2_127 : decode method_4_code 127 = .ok (.dup, 1) := by decide +kernel
theorem d2_128 : decode method_4_code 128 = .ok (.iconst 5, 1) := by decide +kernel
theorem d2_129 : decode method_4_code 129 = .ok (.newarray .char, 2) := by decide +kernel
theorem d2_131 : decode method_4_code 131 = .ok (.dup, 1) := by decide +kernel
theorem d2_132 : decode method_4_code 132 = .ok (.iconst 0, 1) := by decide +kernel
theorem d2_133 : decode method_4_code 133 = .ok (.aload_n 1, 1) := by decide +kernel
theorem d2_134 : decode method_4_code 134 = .ok (.iconst 0, 1) := by decide +kernel
theorem d2_135 : decode method_4_code 135 = .ok (.caload, 1) := by decide +kernel
theorem d2_136 : decode method_4_code 136 = .ok (.castore, 1) := by decide +kernel
theorem d2_137 : decode method_4_code 137 = .ok (.dup, 1) := by decide +kernel
theorem d2_138 : decode method_4_code 138 = .ok (.iconst 1, 1) := by decide +kernel
theorem d2_139 : decode method_4_code 139 = .ok (.aload_n 1, 1) := by decide +kernel
theorem d2_140 : decode method_4_code 140 = .ok (.iconst 1, 1) := by decide +kernel
theorem d2_141 : decode method_4_code 141 = .ok (.caload, 1) := by decide +kernel
theorem d2_142 : decode method_4_code 142 = .ok (.castore, 1) := by decide +kernel
theorem d2_143 : decode method_4_code 143 = .ok (.dup, 1) := by decide +kernel
theorem d2_144 : decode method_4_code 144 = .ok (.iconst 2, 1) := by decide +kernel
theorem d2_145 : decode method_4_code 145 = .ok (.aload_n 1, 1) := by decide +kernel
theorem d2_146 : decode method_4_code 146 = .ok (.iconst 2, 1) := by decide +kernel
theorem d2_147 : decode method_4_code 147 = .ok (.caload, 1) := by decide +kernel
theorem d2_148 : decode method_4_code 148 = .ok (.castore, 1) := by decide +kernel
theorem d2_149 : decode method_4_code 149 = .ok (.dup, 1) := by decide +kernel
theorem d2_150 : decode method_4_code 150 = .ok (.iconst 3, 1) := by decide +kernel
theorem d2_151 : decode method_4_code 151 = .ok (.aload_n 1, 1) := by decide +kernel
theorem d2_152 : decode method_4_code 152 = .ok (.iconst 3, 1) := by decide +kernel
theorem d2_153 : decode method_4_code 153 = .ok (.caload, 1) := by decide +kernel
theorem d2_154 : decode method_4_code 154 = .ok (.castore, 1) := by decide +kernel
theorem d2_155 : decode method_4_code 155 = .ok (.dup, 1) := by decide +kernel
theorem d2_156 : decode method_4_code 156 = .ok (.iconst 4, 1) := by decide +kernel
theorem d2_157 : decode method_4_code 157 = .ok (.aload_n 1, 1) := by decide +kernel
theorem d2_158 : decode method_4_code 158 = .ok (.iconst 4, 1) := by decide +kernel
theorem d2_159 : decode method_4_code 159 = .ok (.caload, 1) := by decide +kernel
theorem d2_160 : decode method_4_code 160 = .ok (.castore, 1) := by decide +kernel
theorem d2_161 : decode method_4_code 161 = .ok (.invokespecial 33, 3) := by decide +kernel
theorem d2_164 : decode method_4_code 164 = .ok (.areturn, 1) := by decide +kernel
theorem ef_rmMk5 (m : MethodId) (x0 : Int32) (x1 : Addr) : entryFrame m #[(.int x0), (.ref x1)] 2 = mkF m 0 #[.val (.int x0), .val (.ref x1)] [] := by first | (simp [entryFrame, mkF, argsToLocals, Value.category]; done) | rfl
def Q_rmMk5 (Z : State) (a1 : Addr) (ka : ClassId) (c0 : Int32) (c1 : Int32) (c2 : Int32) (c3 : Int32) (c4 : Int32) (zc : Int32) (h0 : Heap) (n0 : Nat) (v : Option Value) (h : Heap) (L : List Loc) : Prop := ∃ x : Addr, ∃ t : Addr, ∃ kb : ClassId, v = some (.ref x) ∧ Fr n0 L ∧ Keep h0 h [] ∧ Exa Z h x "java/lang/String" ∧ Fld Z h x "java/lang/String" "value" "[B" (.ref t) ∧ Fld Z h x "java/lang/String" "coder" "B" (.int (0 : Int32)) ∧ Arv Z h t kb .byte (5 : Int32) ((([c0, c1, c2, c3, c4] : List Int32).map (fun c : Int32 => c.toInt8.toInt32)).map Value.int) (.int 0)
set_option maxRecDepth 65536 in
set_option maxHeartbeats 40000000 in
theorem rmMk5 (l : Launch) (Z : State) (a0 : Array Value) (hw : ∀ d ∈ tables_1, d.before a0 Z = true) (ws : List Jvm.Cond) (a1 : Addr) (ka : ClassId) (c0 : Int32) (c1 : Int32) (c2 : Int32) (c3 : Int32) (c4 : Int32) (zc : Int32) (h0 : Heap) (n0 : Nat) (Z0 : n0 ≤ h0.size) (pV_a1 : Arv Z h0 a1 ka .char (5 : Int32) [(.int c0), (.int c1), (.int c2), (.int c3), (.int c4)] (.int (0 : Int32))) (h_c0 : (own_ch c0)) (h_c1 : (own_ch c1)) (h_c2 : (own_ch c2)) (h_c3 : (own_ch c3)) (h_c4 : (own_ch c4)) (pS_COMPACT_STRINGS : Sta Z Z.heap "java/lang/String" "COMPACT_STRINGS" "Z" (.int zc)) (pP5 : (¬ (zc = (0 : Int32)))) (pO : Old Z n0 h0) :
    MetFree l (⟨"com/example/descriptor/descriptor/vocabulary/HierarchyParentPinLaw", "make", "(I[C)Ljava/lang/String;"⟩ : MethodName) (head1 (Jvm.Cond.code (⟨"com/example/descriptor/descriptor/vocabulary/HierarchyParentPinLaw", "make", "(I[C)Ljava/lang/String;"⟩ : MethodName) method_4_code 2 (some (.object "java/lang/String")) :: ws) ({ frames := 4, cells := 3, slots := 14, locals := 66 } : Room)) (fun a U => a = #[(.int (5 : Int32)), (.ref a1)] ∧ Z.Warmed39 U.vm ∧ U.heap = h0) (fun _ _ _ _ _ => True) (fun _ U o U' => ∃ v L, o = .returned v ∧ Q_rmMk5 Z a1 ka c0 c1 c2 c3 c4 zc h0 n0 v U'.heap L ∧ FrameEnd U o U' L ({ frames := 4, cells := 3, slots := 14, locals := 66 } : Room).cells ({ frames := 4, cells := 3, slots := 14, locals := 66 } : Room).slots) := by
  refine MetFree.of_bodySF (plainFor_of_name pn_2) hisR ?_
  intro p e s m args below meth c s₁ Bd hml0 hP hK
  obtain ⟨rfl, hZ, hh⟩ := hP
  have hx := Bd.exec
  have hby := Bd.bytes
  have hml : c.maxLocals = 2 := hml0
  have hown : s.vm.findClass "com/example/descriptor/descriptor/vocabulary/HierarchyParentPinLaw" = some m.cls := findClass_of_methodNamed Bd.named
  have hnm := (name_of_methodNamed Bd.named Bd.method).1
  have X0 : Stand p l e ({ frames := 4, cells := 3, slots := 14, locals := 66 } : Room) s m #[(.int (5 : Int32)), (.ref a1)] below meth c s₁ [] 0 0 := Stand.of_body Bd
  have e0 : s₁.heap = h0 := by rw [← hh, Bd.state]; rfl
  have N0 := Fr.nil n0
  refine own_enter (ef_rmMk5 m ((5 : Int32)) a1) ?_
  have hws : ∀ d ∈ StrChars.Road.words, d.before a0 Z = true := fun d hd => hw d ((by decide +kernel : ∀ d ∈ StrChars.Road.words, d ∈ tables_1) d hd)
  refine own_st (fun t_ k_ => XS.iloadN X0.here hx rfl (hb hby d2_0) rfl k_) ?_
  refine own_st (fun t_ k_ => XS.iconst X0.here hx rfl (hb hby d2_1) k_) ?_
  refine own_st (fun t_ k_ => XS.icmpYes X0.here hx rfl (pc0 := 2) (pc' := 22) rfl (hb hby d2_2) rfl (by decide) (by decide) (by decide) k_) ?_
  refine own_st (fun t_ k_ => XS.iloadN X0.here hx rfl (hb hby d2_22) rfl k_) ?_
  refine own_st (fun t_ k_ => XS.iconst X0.here hx rfl (hb hby d2_23) k_) ?_
  show own_Go p e below s₁ (mkF m 24 #[.val (.int (5 : Int32)), .val (.ref a1)] [(.int (2 : Int32)), (.int (5 : Int32))]) _
  refine own_st (fun t_ k_ => XS.icmpYes X0.here hx rfl (pc0 := 24) (pc' := 50) rfl (hb hby d2_24) rfl (by decide) (by decide) (by decide) k_) ?_
  refine own_st (fun t_ k_ => XS.iloadN X0.here hx rfl (hb hby d2_50) rfl k_) ?_
  refine own_st (fun t_ k_ => XS.iconst X0.here hx rfl (hb hby d2_51) k_) ?_
  refine own_st (fun t_ k_ => XS.icmpYes X0.here hx rfl (pc0 := 52) (pc' := 84) rfl (hb hby d2_52) rfl (by decide) (by decide) (by decide) k_) ?_
  refine own_st (fun t_ k_ => XS.iloadN X0.here hx rfl (hb hby d2_84) rfl k_) ?_
  refine own_st (fun t_ k_ => XS.iconst X0.here hx rfl (hb hby d2_85) k_) ?_
  show own_Go p e below s₁ (mkF m 86 #[.val (.int (5 : Int32)), .val (.ref a1)] [(.int (4 : Int32)), (.int (5 : Int32))]) _
  refine own_st (fun t_ k_ => XS.icmpYes X0.here hx rfl (pc0 := 86) (pc' := 124) rfl (hb hby d2_86) rfl (by decide) (by decide) (by decide) k_) ?_
  show own_Go p e below s₁ (mkF m 124 #[.val (.int (5 : Int32)), .val (.ref a1)] []) _
  obtain ⟨T1, h1, X1, e1, E1, A1, D1, -, st1⟩ := newO X0 hx hZ hown (hw _ (List.mem_of_getElem? (i := 8) rfl)) (hw _ (List.mem_of_getElem? (i := 9) rfl)) (hw _ (List.mem_of_getElem? (i := 10) rfl)) e0 (g := (mkF m 124 #[.val (.int (5 : Int32)), .val (.ref a1)] [])) rfl (hb hby d2_124) (by decide) (by decide)
  obtain ⟨b1, g1⟩ : ∃ z, z = h0.size := ⟨_, rfl⟩
  rw [← g1] at A1 D1 st1
  have G1 : n0 ≤ b1 := Nat.le_trans Z0 (Nat.le_of_eq g1.symm)
  have B1 : h0.size ≤ b1 := Nat.le_trans (Keep.refl h0 []).1 (Nat.le_of_eq g1.symm)
  have K2 : Keep h0 h1 [] := (Keep.refl h0 []).ext E1
  have D1_coder : Fld Z h1 b1 "java/lang/String" "coder" "B" (.int (0 : Int32)) := D1 (Or.inr (hw _ (List.mem_of_getElem? (i := 34) rfl))) (ty := .byte) (by decide)
  have D1_value : Fld Z h1 b1 "java/lang/String" "value" "[B" .null := D1 (Or.inr (hw _ (List.mem_of_getElem? (i := 36) rfl))) (ty := (.array .byte)) (by decide)
  refine own_st st1 ?_
  show own_Go p e below T1 (mkF m 127 #[.val (.int (5 : Int32)), .val (.ref a1)] [(.ref b1)]) _
  refine own_st (fun t_ k_ => XS.dup X1.here hx rfl (hb hby d2_127) rfl rfl k_) ?_
  refine own_st (fun t_ k_ => XS.iconst X1.here hx rfl (hb hby d2_128) k_) ?_
  show own_Go p e below T1 (mkF m 129 #[.val (.int (5 : Int32)), .val (.ref a1)] [(.int (5 : Int32)), (.ref b1), (.ref b1)]) _
  have f3 := (Nat.le_trans Z0 E1.1)
  obtain ⟨T4, h4, k4, X4, e4, E4, A4, st4⟩ := newP X1 hx hZ (hw _ (List.mem_of_getElem? (i := 0) rfl)) e1 (g := (mkF m 129 #[.val (.int (5 : Int32)), .val (.ref a1)] [(.int (5 : Int32)), (.ref b1), (.ref b1)])) rfl (hb hby d2_129) rfl (by decide) (cap := 5) (by decide) (by decide) (by decide) (by decide)
  obtain ⟨b4, g4⟩ : ∃ z, z = h1.size := ⟨_, rfl⟩
  rw [← g4] at A4 st4
  have G4 : n0 ≤ b4 := Nat.le_trans f3 (Nat.le_of_eq g4.symm)
  have B4 : h0.size ≤ b4 := Nat.le_trans K2.1 (Nat.le_of_eq g4.symm)
  have K5 : Keep h0 h4 [] := K2.ext E4
  have V4 : Arv Z h4 b4 k4 .char (5 : Int32) [(.int (0 : Int32)), (.int (0 : Int32)), (.int (0 : Int32)), (.int (0 : Int32)), (.int (0 : Int32))] (.int (0 : Int32)) := (Arv.new A4 (by decide)).pad (pad_rep [] (.int (0 : Int32)) 5)
  refine own_st st4 ?_
  show own_Go p e below T4 (mkF m 131 #[.val (.int (5 : Int32)), .val (.ref a1)] [(.ref b4), (.ref b1), (.ref b1)]) _
  refine own_st (fun t_ k_ => XS.dup X4.here hx rfl (hb hby d2_131) rfl rfl k_) ?_
  refine own_st (fun t_ k_ => XS.iconst X4.here hx rfl (hb hby d2_132) k_) ?_
  refine own_st (fun t_ k_ => XS.aloadN X4.here hx rfl (hb hby d2_133) rfl rfl k_) ?_
  refine own_st (fun t_ k_ => XS.iconst X4.here hx rfl (hb hby d2_134) k_) ?_
  show own_Go p e below T4 (mkF m 135 #[.val (.int (5 : Int32)), .val (.ref a1)] [(.int (0 : Int32)), (.ref a1), (.int (0 : Int32)), (.ref b4), (.ref b4), (.ref b1), (.ref b1)]) _
  have f6 := ((pV_a1.ext E1).ext E4)
  obtain ⟨cl7, Ar7, q7, Sz7, Nn7, Hh7, Gg7⟩ := id f6
  have hin7 : ¬ ((0 : Int32) < 0 ∨ cl7.slots.size ≤ ((0 : Int32)).toNatClampNeg) := inb_of Sz7 ⟨by decide, by decide⟩
  have hat7 : cl7.slots[((0 : Int32)).toNatClampNeg]? = some (.int c0) := Has.at Hh7 hin7 rfl
  refine own_st (fun t_ k_ => X4.caload hx (j := (0 : Int32)) (v := (.int c0)) (by rw [e4]; exact Ar7.1) (State.isArrayOf_alike hZ.alike Ar7.2.1) Ar7.2.2 hin7 hat7 (g := (mkF m 135 #[.val (.int (5 : Int32)), .val (.ref a1)] [(.int (0 : Int32)), (.ref a1), (.int (0 : Int32)), (.ref b4), (.ref b4), (.ref b1), (.ref b1)])) rfl rfl (hb hby d2_135) _ k_) ?_
  show own_Go p e below T4 (mkF m 136 #[.val (.int (5 : Int32)), .val (.ref a1)] [(.int c0), (.int (0 : Int32)), (.ref b4), (.ref b4), (.ref b1), (.ref b1)]) _
  obtain ⟨cl8, Ar8, q8, Sz8, Nn8, Hh8, Gg8⟩ := id V4
  have hin8 : ¬ ((0 : Int32) < 0 ∨ cl8.slots.size ≤ ((0 : Int32)).toNatClampNeg) := inb_of Sz8 ⟨by decide, by decide⟩
  obtain ⟨T9, h9, X9, e9, W9, st9⟩ := stC X4 hx hZ e4 Ar8 (j := (0 : Int32)) hin8 (g := (mkF m 136 #[.val (.int (5 : Int32)), .val (.ref a1)] [(.int c0), (.int (0 : Int32)), (.ref b4), (.ref b4), (.ref b1), (.ref b1)])) rfl rfl (hb hby d2_136)
  have V9 : Arv Z h9 b4 k4 .char (5 : Int32) [(.int (nar .char c0)), (.int (0 : Int32)), (.int (0 : Int32)), (.int (0 : Int32)), (.int (0 : Int32))] (.int (0 : Int32)) := Arv.set Ar8 q8 Sz8 Nn8 Hh8 Gg8 (fits_nar_char _) W9 0 rfl (Nat.le_of_ble_eq_true rfl)
  rw [own_chnar h_c0] at V9
  have K10 : Keep h0 h9 [] := K5.wr W9 (Or.inr B4)
  have N9 := Fr.snoc X9 N0 G4
  refine own_st st9 ?_
  show own_Go p e below T9 (mkF m 137 #[.val (.int (5 : Int32)), .val (.ref a1)] [(.ref b4), (.ref b1), (.ref b1)]) _
  refine own_st (fun t_ k_ => XS.dup X9.here hx rfl (hb hby d2_137) rfl rfl k_) ?_
  refine own_st (fun t_ k_ => XS.iconst X9.here hx rfl (hb hby d2_138) k_) ?_
  refine own_st (fun t_ k_ => XS.aloadN X9.here hx rfl (hb hby d2_139) rfl rfl k_) ?_
  refine own_st (fun t_ k_ => XS.iconst X9.here hx rfl (hb hby d2_140) k_) ?_
  show own_Go p e below T9 (mkF m 141 #[.val (.int (5 : Int32)), .val (.ref a1)] [(.int (1 : Int32)), (.ref a1), (.int (1 : Int32)), (.ref b4), (.ref b4), (.ref b1), (.ref b1)]) _
  have f11 := (f6.other W9 (Nat.ne_of_lt (Nat.lt_of_lt_of_le (pV_a1.ext E1).lt (Nat.le_of_eq g4.symm))))
  obtain ⟨cl12, Ar12, q12, Sz12, Nn12, Hh12, Gg12⟩ := id f11
  have hin12 : ¬ ((1 : Int32) < 0 ∨ cl12.slots.size ≤ ((1 : Int32)).toNatClampNeg) := inb_of Sz12 ⟨by decide, by decide⟩
  have hat12 : cl12.slots[((1 : Int32)).toNatClampNeg]? = some (.int c1) := Has.at Hh12 hin12 rfl
  refine own_st (fun t_ k_ => X9.caload hx (j := (1 : Int32)) (v := (.int c1)) (by rw [e9]; exact Ar12.1) (State.isArrayOf_alike hZ.alike Ar12.2.1) Ar12.2.2 hin12 hat12 (g := (mkF m 141 #[.val (.int (5 : Int32)), .val (.ref a1)] [(.int (1 : Int32)), (.ref a1), (.int (1 : Int32)), (.ref b4), (.ref b4), (.ref b1), (.ref b1)])) rfl rfl (hb hby d2_141) _ k_) ?_
  show own_Go p e below T9 (mkF m 142 #[.val (.int (5 : Int32)), .val (.ref a1)] [(.int c1), (.int (1 : Int32)), (.ref b4), (.ref b4), (.ref b1), (.ref b1)]) _
  obtain ⟨cl13, Ar13, q13, Sz13, Nn13, Hh13, Gg13⟩ := id V9
  have hin13 : ¬ ((1 : Int32) < 0 ∨ cl13.slots.size ≤ ((1 : Int32)).toNatClampNeg) := inb_of Sz13 ⟨by decide, by decide⟩
  obtain ⟨T14, h14, X14, e14, W14, st14⟩ := stC X9 hx hZ e9 Ar13 (j := (1 : Int32)) hin13 (g := (mkF m 142 #[.val (.int (5 : Int32)), .val (.ref a1)] [(.int c1), (.int (1 : Int32)), (.ref b4), (.ref b4), (.ref b1), (.ref b1)])) rfl rfl (hb hby d2_142)
  have V14 : Arv Z h14 b4 k4 .char (5 : Int32) [(.int c0), (.int (nar .char c1)), (.int (0 : Int32)), (.int (0 : Int32)), (.int (0 : Int32))] (.int (0 : Int32)) := Arv.set Ar13 q13 Sz13 Nn13 Hh13 Gg13 (fits_nar_char _) W14 1 rfl (Nat.le_of_ble_eq_true rfl)
  rw [own_chnar h_c1] at V14
  have K15 : Keep h0 h14 [] := K10.wr W14 (Or.inr B4)
  have N14 := Fr.snoc X14 N9 G4
  refine own_st st14 ?_
  show own_Go p e below T14 (mkF m 143 #[.val (.int (5 : Int32)), .val (.ref a1)] [(.ref b4), (.ref b1), (.ref b1)]) _
  refine own_st (fun t_ k_ => XS.dup X14.here hx rfl (hb hby d2_143) rfl rfl k_) ?_
  refine own_st (fun t_ k_ => XS.iconst X14.here hx rfl (hb hby d2_144) k_) ?_
  refine own_st (fun t_ k_ => XS.aloadN X14.here hx rfl (hb hby d2_145) rfl rfl k_) ?_
  refine own_st (fun t_ k_ => XS.iconst X14.here hx rfl (hb hby d2_146) k_) ?_
  show own_Go p e below T14 (mkF m 147 #[.val (.int (5 : Int32)), .val (.ref a1)] [(.int (2 : Int32)), (.ref a1), (.int (2 : Int32)), (.ref b4), (.ref b4), (.ref b1), (.ref b1)]) _
  have f16 := (f11.other W14 (Nat.ne_of_lt (Nat.lt_of_lt_of_le (pV_a1.ext E1).lt (Nat.le_of_eq g4.symm))))
  obtain ⟨cl17, Ar17, q17, Sz17, Nn17, Hh17, Gg17⟩ := id f16
  have hin17 : ¬ ((2 : Int32) < 0 ∨ cl17.slots.size ≤ ((2 : Int32)).toNatClampNeg) := inb_of Sz17 ⟨by decide, by decide⟩
  have hat17 : cl17.slots[((2 : Int32)).toNatClampNeg]? = some (.int c2) := Has.at Hh17 hin17 rfl
  refine own_st (fun t_ k_ => X14.caload hx (j := (2 : Int32)) (v := (.int c2)) (by rw [e14]; exact Ar17.1) (State.isArrayOf_alike hZ.alike Ar17.2.1) Ar17.2.2 hin17 hat17 (g := (mkF m 147 #[.val (.int (5 : Int32)), .val (.ref a1)] [(.int (2 : Int32)), (.ref a1), (.int (2 : Int32)), (.ref b4), (.ref b4), (.ref b1), (.ref b1)])) rfl rfl (hb hby d2_147) _ k_) ?_
  show own_Go p e below T14 (mkF m 148 #[.val (.int (5 : Int32)), .val (.ref a1)] [(.int c2), (.int (2 : Int32)), (.ref b4), (.ref b4), (.ref b1), (.ref b1)]) _
  obtain ⟨cl18, Ar18, q18, Sz18, Nn18, Hh18, Gg18⟩ := id V14
  have hin18 : ¬ ((2 : Int32) < 0 ∨ cl18.slots.size ≤ ((2 : Int32)).toNatClampNeg) := inb_of Sz18 ⟨by decide, by decide⟩
  obtain ⟨T19, h19, X19, e19, W19, st19⟩ := stC X14 hx hZ e14 Ar18 (j := (2 : Int32)) hin18 (g := (mkF m 148 #[.val (.int (5 : Int32)), .val (.ref a1)] [(.int c2), (.int (2 : Int32)), (.ref b4), (.ref b4), (.ref b1), (.ref b1)])) rfl rfl (hb hby d2_148)
  have V19 : Arv Z h19 b4 k4 .char (5 : Int32) [(.int c0), (.int c1), (.int (nar .char c2)), (.int (0 : Int32)), (.int (0 : Int32))] (.int (0 : Int32)) := Arv.set Ar18 q18 Sz18 Nn18 Hh18 Gg18 (fits_nar_char _) W19 2 rfl (Nat.le_of_ble_eq_true rfl)
  rw [own_chnar h_c2] at V19
  have K20 : Keep h0 h19 [] := K15.wr W19 (Or.inr B4)
  have N19 := Fr.snoc X19 N14 G4
  refine own_st st19 ?_
  show own_Go p e below T19 (mkF m 149 #[.val (.int (5 : Int32)), .val (.ref a1)] [(.ref b4), (.ref b1), (.ref b1)]) _
  refine own_st (fun t_ k_ => XS.dup X19.here hx rfl (hb hby d2_149) rfl rfl k_) ?_
  refine own_st (fun t_ k_ => XS.iconst X19.here hx rfl (hb hby d2_150) k_) ?_
  refine own_st (fun t_ k_ => XS.aloadN X19.here hx rfl (hb hby d2_151) rfl rfl k_) ?_
  refine own_st (fun t_ k_ => XS.iconst X19.here hx rfl (hb hby d2_152) k_) ?_
  show own_Go p e below T19 (mkF m 153 #[.val (.int (5 : Int32)), .val (.ref a1)] [(.int (3 : Int32)), (.ref a1), (.int (3 : Int32)), (.ref b4), (.ref b4), (.ref b1), (.ref b1)]) _
  have f21 := (f16.other W19 (Nat.ne_of_lt (Nat.lt_of_lt_of_le (pV_a1.ext E1).lt (Nat.le_of_eq g4.symm))))
  obtain ⟨cl22, Ar22, q22, Sz22, Nn22, Hh22, Gg22⟩ := id f21
  have hin22 : ¬ ((3 : Int32) < 0 ∨ cl22.slots.size ≤ ((3 : Int32)).toNatClampNeg) := inb_of Sz22 ⟨by decide, by decide⟩
  have hat22 : cl22.slots[((3 : Int32)).toNatClampNeg]? = some (.int c3) := Has.at Hh22 hin22 rfl
  refine own_st (fun t_ k_ => X19.caload hx (j := (3 : Int32)) (v := (.int c3)) (by rw [e19]; exact Ar22.1) (State.isArrayOf_alike hZ.alike Ar22.2.1) Ar22.2.2 hin22 hat22 (g := (mkF m 153 #[.val (.int (5 : Int32)), .val (.ref a1)] [(.int (3 : Int32)), (.ref a1), (.int (3 : Int32)), (.ref b4), (.ref b4), (.ref b1), (.ref b1)])) rfl rfl (hb hby d2_153) _ k_) ?_
  show own_Go p e below T19 (mkF m 154 #[.val (.int (5 : Int32)), .val (.ref a1)] [(.int c3), (.int (3 : Int32)), (.ref b4), (.ref b4), (.ref b1), (.ref b1)]) _
  obtain ⟨cl23, Ar23, q23, Sz23, Nn23, Hh23, Gg23⟩ := id V19
  have hin23 : ¬ ((3 : Int32) < 0 ∨ cl23.slots.size ≤ ((3 : Int32)).toNatClampNeg) := inb_of Sz23 ⟨by decide, by decide⟩
  obtain ⟨T24, h24, X24, e24, W24, st24⟩ := stC X19 hx hZ e19 Ar23 (j := (3 : Int32)) hin23 (g := (mkF m 154 #[.val (.int (5 : Int32)), .val (.ref a1)] [(.int c3), (.int (3 : Int32)), (.ref b4), (.ref b4), (.ref b1), (.ref b1)])) rfl rfl (hb hby d2_154)
  have V24 : Arv Z h24 b4 k4 .char (5 : Int32) [(.int c0), (.int c1), (.int c2), (.int (nar .char c3)), (.int (0 : Int32))] (.int (0 : Int32)) := Arv.set Ar23 q23 Sz23 Nn23 Hh23 Gg23 (fits_nar_char _) W24 3 rfl (Nat.le_of_ble_eq_true rfl)
  rw [own_chnar h_c3] at V24
  have K25 : Keep h0 h24 [] := K20.wr W24 (Or.inr B4)
  have N24 := Fr.snoc X24 N19 G4
  refine own_st st24 ?_
  show own_Go p e below T24 (mkF m 155 #[.val (.int (5 : Int32)), .val (.ref a1)] [(.ref b4), (.ref b1), (.ref b1)]) _
  refine own_st (fun t_ k_ => XS.dup X24.here hx rfl (hb hby d2_155) rfl rfl k_) ?_
  refine own_st (fun t_ k_ => XS.iconst X24.here hx rfl (hb hby d2_156) k_) ?_
  refine own_st (fun t_ k_ => XS.aloadN X24.here hx rfl (hb hby d2_157) rfl rfl k_) ?_
  refine own_st (fun t_ k_ => XS.iconst X24.here hx rfl (hb hby d2_158) k_) ?_
  show own_Go p e below T24 (mkF m 159 #[.val (.int (5 : Int32)), .val (.ref a1)] [(.int (4 : Int32)), (.ref a1), (.int (4 : Int32)), (.ref b4), (.ref b4), (.ref b1), (.ref b1)]) _
  have f26 := (f21.other W24 (Nat.ne_of_lt (Nat.lt_of_lt_of_le (pV_a1.ext E1).lt (Nat.le_of_eq g4.symm))))
  obtain ⟨cl27, Ar27, q27, Sz27, Nn27, Hh27, Gg27⟩ := id f26
  have hin27 : ¬ ((4 : Int32) < 0 ∨ cl27.slots.size ≤ ((4 : Int32)).toNatClampNeg) := inb_of Sz27 ⟨by decide, by decide⟩
  have hat27 : cl27.slots[((4 : Int32)).toNatClampNeg]? = some (.int c4) := Has.at Hh27 hin27 rfl
  refine own_st (fun t_ k_ => X24.caload hx (j := (4 : Int32)) (v := (.int c4)) (by rw [e24]; exact Ar27.1) (State.isArrayOf_alike hZ.alike Ar27.2.1) Ar27.2.2 hin27 hat27 (g := (mkF m 159 #[.val (.int (5 : Int32)), .val (.ref a1)] [(.int (4 : Int32)), (.ref a1), (.int (4 : Int32)), (.ref b4), (.ref b4), (.ref b1), (.ref b1)])) rfl rfl (hb hby d2_159) _ k_) ?_
  show own_Go p e below T24 (mkF m 160 #[.val (.int (5 : Int32)), .val (.ref a1)] [(.int c4), (.int (4 : Int32)), (.ref b4), (.ref b4), (.ref b1), (.ref b1)]) _
  obtain ⟨cl28, Ar28, q28, Sz28, Nn28, Hh28, Gg28⟩ := id V24
  have hin28 : ¬ ((4 : Int32) < 0 ∨ cl28.slots.size ≤ ((4 : Int32)).toNatClampNeg) := inb_of Sz28 ⟨by decide, by decide⟩
  obtain ⟨T29, h29, X29, e29, W29, st29⟩ := stC X24 hx hZ e24 Ar28 (j := (4 : Int32)) hin28 (g := (mkF m 160 #[.val (.int (5 : Int32)), .val (.ref a1)] [(.int c4), (.int (4 : Int32)), (.ref b4), (.ref b4), (.ref b1), (.ref b1)])) rfl rfl (hb hby d2_160)
  have V29 : Arv Z h29 b4 k4 .char (5 : Int32) [(.int c0), (.int c1), (.int c2), (.int c3), (.int (nar .char c4))] (.int (0 : Int32)) := Arv.set Ar28 q28 Sz28 Nn28 Hh28 Gg28 (fits_nar_char _) W29 4 rfl (Nat.le_of_ble_eq_true rfl)
  rw [own_chnar h_c4] at V29
  have K30 : Keep h0 h29 [] := K25.wr W29 (Or.inr B4)
  have N29 := Fr.snoc X29 N24 G4
  refine own_st st29 ?_
  show own_Go p e below T29 (mkF m 161 #[.val (.int (5 : Int32)), .val (.ref a1)] [(.ref b4), (.ref b1), (.ref b1)]) _
  have hp1 : ∀ c ∈ ([c0, c1, c2, c3, c4] : List Int32), ¬ c < 0 ∧ ¬ (255 : Int32) < c := by
    intro c hc
    simp only [List.mem_cons, List.not_mem_nil, or_false] at hc
    rcases hc with rfl | rfl | rfl | rfl | rfl
    · exact own_ch255 h_c0
    · exact own_ch255 h_c1
    · exact own_ch255 h_c2
    · exact own_ch255 h_c3
    · exact own_ch255 h_c4
  have f31 := (Nat.le_trans (Nat.le_trans (Nat.le_trans (Nat.le_trans (Nat.le_trans (Nat.le_trans f3 E4.1) (Keep.of_wr W9).1) (Keep.of_wr W14).1) (Keep.of_wr W19).1) (Keep.of_wr W24).1) (Keep.of_wr W29).1)
  have f32 := ((((((A1.ext E4).wr W9).wr W14).wr W19).wr W24).wr W29)
  have f33 := ((((((D1_value.ext E4).other W9 (Or.inl (Nat.ne_of_lt (Nat.lt_of_lt_of_le A1.lt (Nat.le_of_eq g4.symm))))).other W14 (Or.inl (Nat.ne_of_lt (Nat.lt_of_lt_of_le A1.lt (Nat.le_of_eq g4.symm))))).other W19 (Or.inl (Nat.ne_of_lt (Nat.lt_of_lt_of_le A1.lt (Nat.le_of_eq g4.symm))))).other W24 (Or.inl (Nat.ne_of_lt (Nat.lt_of_lt_of_le A1.lt (Nat.le_of_eq g4.symm))))).other W29 (Or.inl (Nat.ne_of_lt (Nat.lt_of_lt_of_le A1.lt (Nat.le_of_eq g4.symm)))))
  have f34 := ((((((D1_coder.ext E4).other W9 (Or.inl (Nat.ne_of_lt (Nat.lt_of_lt_of_le A1.lt (Nat.le_of_eq g4.symm))))).other W14 (Or.inl (Nat.ne_of_lt (Nat.lt_of_lt_of_le A1.lt (Nat.le_of_eq g4.symm))))).other W19 (Or.inl (Nat.ne_of_lt (Nat.lt_of_lt_of_le A1.lt (Nat.le_of_eq g4.symm))))).other W24 (Or.inl (Nat.ne_of_lt (Nat.lt_of_lt_of_le A1.lt (Nat.le_of_eq g4.symm))))).other W29 (Or.inl (Nat.ne_of_lt (Nat.lt_of_lt_of_le A1.lt (Nat.le_of_eq g4.symm)))))
  have f35 := (((((((pO.ext E1).ext E4).wr W9 G4).wr W14 G4).wr W19 G4).wr W24 G4).wr W29 G4)
  obtain ⟨_, _, ⟨T36, L36, k36, n36⟩, -, X36, ⟨Lc36, hQ36, l36, y36, z36⟩, st36⟩ := X29.specialBack hx (y := (⟨"java/lang/String", "<init>", "([C)V"⟩ : MethodName)) rfl hown (mvT hZ (hw _ (List.mem_of_getElem? (i := 11) rfl))) (mvT hZ (hw _ (List.mem_of_getElem? (i := 12) rfl))) (mvT hZ (hw _ (List.mem_of_getElem? (i := 13) rfl))) (by decide) (StrChars.Road.backV (W := 1) hZ hws (kI := 4) (hw _ (List.mem_of_getElem? (i := 9) rfl)) (cs := ([c0, c1, c2, c3, c4] : List Int32)) (bs := (([c0, c1, c2, c3, c4] : List Int32)).map (fun c => c.toInt8.toInt32)) (n := 5) G1 f31 f32 f33 f34 V29 (pS_COMPACT_STRINGS.ext f35.2) pP5 rfl rfl (by decide) (by decide) hp1 rfl (by decide) (by decide)) (g := (mkF m 161 #[.val (.int (5 : Int32)), .val (.ref a1)] [(.ref b4), (.ref b1), (.ref b1)])) rfl (by rw [hml]; rfl) (Steps.refl _) (a := b1) (argsL := [(.ref b4)]) (rest := [(.ref b1)]) (lenOf pd___C_V rfl) rfl (by show 2 * 0 + _ ≤ _; exact Nat.le_of_eq rfl) (hb hby d2_161) (fun _ _ => ⟨rfl, e29, (by decide : 2 + 1 ≤ _), (by decide : 9 + 5 ≤ _)⟩)
  dsimp only [Pt.U, Pt.locs, Pt.cells, Pt.slots] at X36 l36 y36 z36 st36 hQ36
  try dsimp only [Nat.reduceAdd] at y36 z36
  rw [l36, y36, z36] at X36
  obtain ⟨rfl, Nq36, Kq36, q36_E, q36_c, t36, kb36, q36_g, q36_b, q36_n, q36_v, q36_V⟩ := hQ36
  have N36 := Fr.app N29 Nq36
  have K37 : Keep h0 T36.heap [] := K30.trans Kq36 (allS (Or.inr B1) all0)
  have Bf38 : h0.size ≤ t36 := Nat.le_trans K30.1 q36_b
  refine own_tr st36 ?_
  show own_Go p e below T36 (mkF m 164 #[.val (.int (5 : Int32)), .val (.ref a1)] [(.ref b1)]) _
  obtain ⟨fs, hr, hrun, hended, hW, hsame⟩ := X36.leave (v := some (.ref b1)) (fun h => by rw [Bd.returns] at h; cases h)
  refine own_fin (own_retR X36 hx rfl Bd.returns rfl (hb hby d2_164) hr) ⟨hrun, hended, _, _, rfl, ?_, ⟨_, rfl⟩, hW, hsame.mono (by decide) (by decide)⟩
  show Q_rmMk5 Z a1 ka c0 c1 c2 c3 c4 zc h0 n0 _ T36.heap _
  exact ⟨b1, t36, kb36, rfl, N36, K37, q36_E, q36_v, q36_c, q36_V⟩
theorem d12_0 : decode jdk_42_method_152_code 0 = .ok (.getstatic 38, 3) := by decide +kernel
theorem d12_3 : decode jdk_42_method_152_code 3 = .ok (.ifCond .eq 10, 3) := by decide +kernel
theorem d12_6 : decode jdk_42_method_152_code 6 = .ok (.aload_n 0, 1) := by decide +kernel
theorem d12_7 : decode jdk_42_method_152_code 7 = .ok (.getfield 15, 3) := by decide +kernel
theorem d12_10 : decode jdk_42_method_152_code 10 = .ok (.goto 4, 3) := by decide +kernel
theorem d12_14 : decode jdk_42_method_152_code 14 = .ok (.ireturn, 1) := by decide +kernel
theorem pn_12 : plainName "java/lang/String" = true := by first | (simp [plainName, overriddenIn]; done) | decide +kernel
theorem ef_rmCo (m : MethodId) (x0 : Addr) : entryFrame m #[(.ref x0)] 1 = mkF m 0 #[.val (.ref x0)] [] := by first | (simp [entryFrame, mkF, argsToLocals, Value.category]; done) | rfl
def Q_rmCo (Z : State) (x : Addr) (zc : Int32) (h0 : Heap) (n0 : Nat) (v : Option Value) (h : Heap) (L : List Loc) : Prop := v = some (.int (0 : Int32)) ∧ Fr n0 L ∧ h = h0
set_option maxRecDepth 65536 in
set_option maxHeartbeats 40000000 in
theorem rmCo (l : Launch) (Z : State) (a0 : Array Value) (hw : ∀ d ∈ tables_1, d.before a0 Z = true) (ws : List Jvm.Cond) (x : Addr) (zc : Int32) (h0 : Heap) (n0 : Nat) (Z0 : n0 ≤ h0.size) (pE_x : Exa Z h0 x "java/lang/String") (pF_coder_x : Fld Z h0 x "java/lang/String" "coder" "B" (.int (0 : Int32))) (pS_COMPACT_STRINGS : Sta Z Z.heap "java/lang/String" "COMPACT_STRINGS" "Z" (.int zc)) (pP5 : (¬ (zc = (0 : Int32)))) (pO : Old Z n0 h0) :
    MetFree l (⟨"java/lang/String", "coder", "()B"⟩ : MethodName) (head1 (Jvm.Cond.code (⟨"java/lang/String", "coder", "()B"⟩ : MethodName) jdk_42_method_152_code 1 (some .byte) :: ws) ({ frames := 0, cells := 0, slots := 0, locals := 0 } : Room)) (fun a U => a = #[(.ref x)] ∧ Z.Warmed39 U.vm ∧ U.heap = h0) (fun _ _ _ _ _ => True) (fun _ U o U' => ∃ v L, o = .returned v ∧ Q_rmCo Z x zc h0 n0 v U'.heap L ∧ FrameEnd U o U' L ({ frames := 0, cells := 0, slots := 0, locals := 0 } : Room).cells ({ frames := 0, cells := 0, slots := 0, locals := 0 } : Room).slots) := by
  refine MetFree.of_bodySF (plainFor_of_name pn_12) hisR ?_
  intro p e s m args below meth c s₁ Bd hml0 hP hK
  obtain ⟨rfl, hZ, hh⟩ := hP
  have hx := Bd.exec
  have hby := Bd.bytes
  have hml : c.maxLocals = 1 := hml0
  have hown : s.vm.findClass "java/lang/String" = some m.cls := findClass_of_methodNamed Bd.named
  have hnm := (name_of_methodNamed Bd.named Bd.method).1
  have X0 : Stand p l e ({ frames := 0, cells := 0, slots := 0, locals := 0 } : Room) s m #[(.ref x)] below meth c s₁ [] 0 0 := Stand.of_body Bd
  have e0 : s₁.heap = h0 := by rw [← hh, Bd.state]; rfl
  have N0 := Fr.nil n0
  refine own_enter (ef_rmCo m x) ?_
  obtain ⟨T1, X1, e1, st1⟩ := getS2 X0 hx hZ hown (host := "") (Or.inl (hw _ (List.mem_of_getElem? (i := 21) rfl))) Via.refl e0 (pS_COMPACT_STRINGS.ext pO.2) (g := (mkF m 0 #[.val (.ref x)] [])) rfl (hb hby d12_0)
  refine own_st st1 ?_
  show own_Go p e below T1 (mkF m 3 #[.val (.ref x)] [(.int zc)]) _
  refine own_st (fun t_ k_ => XS.ifNo X1.here hx rfl (hb hby d12_3) rfl ((if0 _ _).trans (feq pP5).1) k_) ?_
  refine own_st (fun t_ k_ => XS.aloadN X1.here hx rfl (hb hby d12_6) rfl rfl k_) ?_
  show own_Go p e below T1 (mkF m 7 #[.val (.ref x)] [(.ref x)]) _
  obtain ⟨T2, X2, e2, st2⟩ := getF X1 hx hZ hown (host := "") (Or.inl (hw _ (List.mem_of_getElem? (i := 33) rfl))) Via.refl e1 pF_coder_x (g := (mkF m 7 #[.val (.ref x)] [(.ref x)])) rfl rfl (hb hby d12_7)
  refine own_st st2 ?_
  show own_Go p e below T2 (mkF m 10 #[.val (.ref x)] [(.int (0 : Int32))]) _
  refine own_st (fun t_ k_ => XS.goto X2.here hx rfl (pc0 := 10) (pc' := 14) rfl (hb hby d12_10) (by decide) (by decide) k_) ?_
  show own_Go p e below T2 (mkF m 14 #[.val (.ref x)] [(.int (0 : Int32))]) _
  obtain ⟨fs, hr, hrun, hended, hW, hsame⟩ := X2.leave (v := some (.int (0 : Int32))) (fun h => by rw [Bd.returns] at h; cases h)
  refine own_fin (retN X2 hx (t := .byte) Bd.returns (by simp) (hb hby d12_14) hr) ⟨hrun, hended, _, _, rfl, ?_, ⟨_, rfl⟩, hW, hsame.mono (by decide) (by decide)⟩
  show Q_rmCo Z x zc h0 n0 _ T2.heap _
  rw [e2]
  exact ⟨rfl, N0, rfl⟩
theorem d14_0 : decode jdk_42_method_154_code 0 = .ok (.getstatic 38, 3) := by decide +kernel
theorem d14_3 : decode jdk_42_method_154_code 3 = .ok (.ifCond .eq 14, 3) := by decide +kernel
theorem d14_6 : decode jdk_42_method_154_code 6 = .ok (.aload_n 0, 1) := by decide +kernel
theorem d14_7 : decode jdk_42_method_154_code 7 = .ok (.getfield 15, 3) := by decide +kernel
theorem d14_10 : decode jdk_42_method_154_code 10 = .ok (.ifCond .ne 7, 3) := by decide +kernel
theorem d14_13 : decode jdk_42_method_154_code 13 = .ok (.iconst 1, 1) := by decide +kernel
theorem d14_14 : decode jdk_42_method_154_code 14 = .ok (.goto 4, 3) := by decide +kernel
theorem d14_18 : decode jdk_42_method_154_code 18 = .ok (.ireturn, 1) := by decide +kernel
theorem pn_14 : plainName "java/lang/String" = true := by first | (simp [plainName, overriddenIn]; done) | decide +kernel
theorem ef_rmIl (m : MethodId) (x0 : Addr) : entryFrame m #[(.ref x0)] 1 = mkF m 0 #[.val (.ref x0)] [] := by first | (simp [entryFrame, mkF, argsToLocals, Value.category]; done) | rfl
def Q_rmIl (Z : State) (x : Addr) (zc : Int32) (h0 : Heap) (n0 : Nat) (v : Option Value) (h : Heap) (L : List Loc) : Prop := v = some (.int (1 : Int32)) ∧ Fr n0 L ∧ h = h0
set_option maxRecDepth 65536 in
set_option maxHeartbeats 40000000 in
theorem rmIl (l : Launch) (Z : State) (a0 : Array Value) (hw : ∀ d ∈ tables_1, d.before a0 Z = true) (ws : List Jvm.Cond) (x : Addr) (zc : Int32) (h0 : Heap) (n0 : Nat) (Z0 : n0 ≤ h0.size) (pE_x : Exa Z h0 x "java/lang/String") (pF_coder_x : Fld Z h0 x "java/lang/String" "coder" "B" (.int (0 : Int32))) (pS_COMPACT_STRINGS : Sta Z Z.heap "java/lang/String" "COMPACT_STRINGS" "Z" (.int zc)) (pP5 : (¬ (zc = (0 : Int32)))) (pO : Old Z n0 h0) :
    MetFree l (⟨"java/lang/String", "isLatin1", "()Z"⟩ : MethodName) (head1 (Jvm.Cond.code (⟨"java/lang/String", "isLatin1", "()Z"⟩ : MethodName) jdk_42_method_154_code 1 (some .boolean) :: ws) ({ frames := 0, cells := 0, slots := 0, locals := 0 } : Room)) (fun a U => a = #[(.ref x)] ∧ Z.Warmed39 U.vm ∧ U.heap = h0) (fun _ _ _ _ _ => True) (fun _ U o U' => ∃ v L, o = .returned v ∧ Q_rmIl Z x zc h0 n0 v U'.heap L ∧ FrameEnd U o U' L ({ frames := 0, cells := 0, slots := 0, locals := 0 } : Room).cells ({ frames := 0, cells := 0, slots := 0, locals := 0 } : Room).slots) := by
  refine MetFree.of_bodySF (plainFor_of_name pn_14) hisR ?_
  intro p e s m args below meth c s₁ Bd hml0 hP hK
  obtain ⟨rfl, hZ, hh⟩ := hP
  have hx := Bd.exec
  have hby := Bd.bytes
  have hml : c.maxLocals = 1 := hml0
  have hown : s.vm.findClass "java/lang/String" = some m.cls := findClass_of_methodNamed Bd.named
  have hnm := (name_of_methodNamed Bd.named Bd.method).1
  have X0 : Stand p l e ({ frames := 0, cells := 0, slots := 0, locals := 0 } : Room) s m #[(.ref x)] below meth c s₁ [] 0 0 := Stand.of_body Bd
  have e0 : s₁.heap = h0 := by rw [← hh, Bd.state]; rfl
  have N0 := Fr.nil n0
  refine own_enter (ef_rmIl m x) ?_
  obtain ⟨T1, X1, e1, st1⟩ := getS2 X0 hx hZ hown (host := "") (Or.inl (hw _ (List.mem_of_getElem? (i := 21) rfl))) Via.refl e0 (pS_COMPACT_STRINGS.ext pO.2) (g := (mkF m 0 #[.val (.ref x)] [])) rfl (hb hby d14_0)
  refine own_st st1 ?_
  show own_Go p e below T1 (mkF m 3 #[.val (.ref x)] [(.int zc)]) _
  refine own_st (fun t_ k_ => XS.ifNo X1.here hx rfl (hb hby d14_3) rfl ((if0 _ _).trans (feq pP5).1) k_) ?_
  refine own_st (fun t_ k_ => XS.aloadN X1.here hx rfl (hb hby d14_6) rfl rfl k_) ?_
  show own_Go p e below T1 (mkF m 7 #[.val (.ref x)] [(.ref x)]) _
  obtain ⟨T2, X2, e2, st2⟩ := getF X1 hx hZ hown (host := "") (Or.inl (hw _ (List.mem_of_getElem? (i := 33) rfl))) Via.refl e1 pF_coder_x (g := (mkF m 7 #[.val (.ref x)] [(.ref x)])) rfl rfl (hb hby d14_7)
  refine own_st st2 ?_
  show own_Go p e below T2 (mkF m 10 #[.val (.ref x)] [(.int (0 : Int32))]) _
  refine own_st (fun t_ k_ => XS.ifNo X2.here hx rfl (hb hby d14_10) rfl (by decide) k_) ?_
  refine own_st (fun t_ k_ => XS.iconst X2.here hx rfl (hb hby d14_13) k_) ?_
  refine own_st (fun t_ k_ => XS.goto X2.here hx rfl (pc0 := 14) (pc' := 18) rfl (hb hby d14_14) (by decide) (by decide) k_) ?_
  show own_Go p e below T2 (mkF m 18 #[.val (.ref x)] [(.int (1 : Int32))]) _
  obtain ⟨fs, hr, hrun, hended, hW, hsame⟩ := X2.leave (v := some (.int (1 : Int32))) (fun h => by rw [Bd.returns] at h; cases h)
  refine own_fin (retN X2 hx (t := .boolean) Bd.returns (by simp) (hb hby d14_18) hr) ⟨hrun, hended, _, _, rfl, ?_, ⟨_, rfl⟩, hW, hsame.mono (by decide) (by decide)⟩
  show Q_rmIl Z x zc h0 n0 _ T2.heap _
  rw [e2]
  exact ⟨rfl, N0, rfl⟩
theorem d11_0 : decode jdk_42_method_54_code 0 = .ok (.aload_n 0, 1) := by decide +kernel
theorem d11_1 : decode jdk_42_method_54_code 1 = .ok (.getfield 9, 3) := by decide +kernel
theorem d11_4 : decode jdk_42_method_54_code 4 = .ok (.arraylength, 1) := by decide +kernel
theorem d11_5 : decode jdk_42_method_54_code 5 = .ok (.aload_n 0, 1) := by decide +kernel
theorem d11_6 : decode jdk_42_method_54_code 6 = .ok (.invokevirtual 335, 3) := by decide +kernel
theorem d11_9 : decode jdk_42_method_54_code 9 = .ok (.ishr, 1) := by decide +kernel
theorem d11_10 : decode jdk_42_method_54_code 10 = .ok (.ireturn, 1) := by decide +kernel
theorem pn_11 : plainName "java/lang/String" = true := by first | (simp [plainName, overriddenIn]; done) | decide +kernel
theorem pd___B : parseMethodDescriptor "()B" = some ⟨[], some .byte⟩ := by decide +kernel
theorem ef_rmLe (m : MethodId) (x0 : Addr) : entryFrame m #[(.ref x0)] 1 = mkF m 0 #[.val (.ref x0)] [] := by first | (simp [entryFrame, mkF, argsToLocals, Value.category]; done) | rfl
def Q_rmLe (Z : State) (x : Addr) (tx : Addr) (kx : ClassId) (z : Int32) (vs : List Value) (zc : Int32) (h0 : Heap) (n0 : Nat) (v : Option Value) (h : Heap) (L : List Loc) : Prop := v = some (.int z) ∧ Fr n0 L ∧ h = h0
set_option maxRecDepth 65536 in
set_option maxHeartbeats 40000000 in
theorem rmLe (l : Launch) (Z : State) (a0 : Array Value) (hw : ∀ d ∈ tables_1, d.before a0 Z = true) (ws : List Jvm.Cond) (x : Addr) (tx : Addr) (kx : ClassId) (z : Int32) (vs : List Value) (zc : Int32) (h0 : Heap) (n0 : Nat) (Z0 : n0 ≤ h0.size) (pE_x : Exa Z h0 x "java/lang/String") (pF_value_x : Fld Z h0 x "java/lang/String" "value" "[B" (.ref tx)) (pF_coder_x : Fld Z h0 x "java/lang/String" "coder" "B" (.int (0 : Int32))) (pV_tx : Arv Z h0 tx kx .byte z vs (.int 0)) (pS_COMPACT_STRINGS : Sta Z Z.heap "java/lang/String" "COMPACT_STRINGS" "Z" (.int zc)) (pP5 : (¬ (zc = (0 : Int32)))) (pO : Old Z n0 h0) :
    MetFree l (⟨"java/lang/String", "length", "()I"⟩ : MethodName) (head1 (Jvm.Cond.code (⟨"java/lang/String", "length", "()I"⟩ : MethodName) jdk_42_method_54_code 1 (some .int) :: ws) ({ frames := 1, cells := 0, slots := 0, locals := 13 } : Room)) (fun a U => a = #[(.ref x)] ∧ Z.Warmed39 U.vm ∧ U.heap = h0) (fun _ _ _ _ _ => True) (fun _ U o U' => ∃ v L, o = .returned v ∧ Q_rmLe Z x tx kx z vs zc h0 n0 v U'.heap L ∧ FrameEnd U o U' L ({ frames := 1, cells := 0, slots := 0, locals := 13 } : Room).cells ({ frames := 1, cells := 0, slots := 0, locals := 13 } : Room).slots) := by
  refine MetFree.of_bodySF (plainFor_of_name pn_11) hisR ?_
  intro p e s m args below meth c s₁ Bd hml0 hP hK
  obtain ⟨rfl, hZ, hh⟩ := hP
  have hx := Bd.exec
  have hby := Bd.bytes
  have hml : c.maxLocals = 1 := hml0
  have hown : s.vm.findClass "java/lang/String" = some m.cls := findClass_of_methodNamed Bd.named
  have hnm := (name_of_methodNamed Bd.named Bd.method).1
  have X0 : Stand p l e ({ frames := 1, cells := 0, slots := 0, locals := 13 } : Room) s m #[(.ref x)] below meth c s₁ [] 0 0 := Stand.of_body Bd
  have e0 : s₁.heap = h0 := by rw [← hh, Bd.state]; rfl
  have N0 := Fr.nil n0
  refine own_enter (ef_rmLe m x) ?_
  refine own_st (fun t_ k_ => XS.aloadN X0.here hx rfl (hb hby d11_0) rfl rfl k_) ?_
  show own_Go p e below s₁ (mkF m 1 #[.val (.ref x)] [(.ref x)]) _
  obtain ⟨T1, X1, e1, st1⟩ := getF X0 hx hZ hown (host := "") (Or.inl (hw _ (List.mem_of_getElem? (i := 35) rfl))) Via.refl e0 pF_value_x (g := (mkF m 1 #[.val (.ref x)] [(.ref x)])) rfl rfl (hb hby d11_1)
  refine own_st st1 ?_
  show own_Go p e below T1 (mkF m 4 #[.val (.ref x)] [(.ref tx)]) _
  obtain ⟨cl2, Ar2, q2, Sz2, Nn2, Hh2, Gg2⟩ := id pV_tx
  refine own_st (fun t_ k_ => X1.arraylength hx (by rw [e1]; exact Ar2.1) (State.isArrayOf_alike hZ.alike Ar2.2.1) (g := (mkF m 4 #[.val (.ref x)] [(.ref tx)])) rfl rfl (hb hby d11_4) _ k_) ?_
  rw [len_of Sz2 Nn2]
  show own_Go p e below T1 (mkF m 5 #[.val (.ref x)] [(.int z)]) _
  refine own_st (fun t_ k_ => XS.aloadN X1.here hx rfl (hb hby d11_5) rfl rfl k_) ?_
  show own_Go p e below T1 (mkF m 6 #[.val (.ref x)] [(.ref x), (.int z)]) _
  obtain ⟨cq3, kq3, qa3, qb3, qc3⟩ := isOf hZ e1 pE_x
  obtain ⟨_, _, ⟨T3, L3, k3, n3⟩, -, X3, ⟨Lc3, hQ3, l3, y3, z3⟩, st3⟩ := X1.virtualBack hx (y := (⟨"java/lang/String", "coder", "()B"⟩ : MethodName)) (z := (⟨"java/lang/String", "coder", "()B"⟩ : MethodName)) hown (mvT hZ (hw _ (List.mem_of_getElem? (i := 51) rfl))) (mvT hZ (hw _ (List.mem_of_getElem? (i := 52) rfl))) (notFace_of_selects (args := #[]) (mvT hZ (hw _ (List.mem_of_getElem? (i := 54) rfl)))) (mvT hZ (hw _ (List.mem_of_getElem? (i := 54) rfl))) (mvT hZ (hw _ (List.mem_of_getElem? (i := 53) rfl))) (by decide) (backOf (W := 1) (rmCo l Z a0 hw [] x zc h0 n0 Z0 pE_x pF_coder_x pS_COMPACT_STRINGS pP5 pO) hZ (hw _ (List.mem_of_getElem? (i := 55) rfl)) (hw _ (List.mem_of_getElem? (i := 10) rfl)) (by decide) (by decide)) qa3 qc3 (g := (mkF m 6 #[.val (.ref x)] [(.ref x), (.int z)])) rfl (by rw [hml]; rfl) (Steps.refl _) (argsL := []) (rest := [(.int z)]) (lenOf pd___B rfl) rfl (by show 2 * 0 + _ ≤ _; exact Nat.le_of_eq rfl) (hb hby d11_6) (fun _ _ => ⟨rfl, e1, (by decide : 0 + 0 ≤ _), (by decide : 0 + 0 ≤ _)⟩)
  dsimp only [Pt.U, Pt.locs, Pt.cells, Pt.slots] at X3 l3 y3 z3 st3 hQ3
  try dsimp only [Nat.reduceAdd] at y3 z3
  rw [l3, y3, z3] at X3
  obtain ⟨rfl, Nq3, eH3⟩ := hQ3
  have N3 := Fr.app N0 Nq3
  refine own_tr st3 ?_
  show own_Go p e below T3 (mkF m 9 #[.val (.ref x)] [(.int (0 : Int32)), (.int z)]) _
  refine own_st (fun t_ k_ => XS.ishr X3.here hx rfl (hb hby d11_9) rfl k_) ?_
  show own_Go p e below T3 (mkF m 10 #[.val (.ref x)] [(.int (z >>> ((0 : Int32) &&& 31)))]) _
  rw [own_shr0 z]
  show own_Go p e below T3 (mkF m 10 #[.val (.ref x)] [(.int z)]) _
  obtain ⟨fs, hr, hrun, hended, hW, hsame⟩ := X3.leave (v := some (.int z)) (fun h => by rw [Bd.returns] at h; cases h)
  refine own_fin (own_retI X3 hx Bd.returns (hb hby d11_10) hr) ⟨hrun, hended, _, _, rfl, ?_, ⟨_, rfl⟩, hW, hsame.mono (by decide) (by decide)⟩
  show Q_rmLe Z x tx kx z vs zc h0 n0 _ T3.heap _
  rw [eH3]
  exact ⟨rfl, N3, rfl⟩
theorem d20_0 : decode jdk_41_method_12_code 0 = .ok (.iload_n 0, 1) := by decide +kernel
theorem d20_1 : decode jdk_41_method_12_code 1 = .ok (.ifCond .lt 13, 3) := by decide +kernel
theorem d20_4 : decode jdk_41_method_12_code 4 = .ok (.iload_n 0, 1) := by decide +kernel
theorem d20_5 : decode jdk_41_method_12_code 5 = .ok (.iload_n 1, 1) := by decide +kernel
theorem d20_6 : decode jdk_41_method_12_code 6 = .ok (.if_icmp .gt 8, 3) := by decide +kernel
theorem d20_9 : decode jdk_41_method_12_code 9 = .ok (.iload_n 1, 1) := by decide +kernel
theorem d20_10 : decode jdk_41_method_12_code 10 = .ok (.iload_n 2, 1) := by decide +kernel
theorem d20_11 : decode jdk_41_method_12_code 11 = .ok (.if_icmp .le 11, 3) := by decide +kernel
theorem d20_22 : decode jdk_41_method_12_code 22 = .ok (.iload_n 0, 1) := by decide +kernel
theorem d20_23 : decode jdk_41_method_12_code 23 = .ok (.ireturn, 1) := by decide +kernel
theorem pn_20 : plainName "jdk/internal/util/Preconditions" = true := by first | (simp [plainName, overriddenIn]; done) | decide +kernel
theorem ef_rmCk (m : MethodId) (x0 : Int32) (x1 : Int32) (x2 : Int32) (x3 : Value) (hx3 : x3.category = 1) : entryFrame m #[(.int x0), (.int x1), (.int x2), x3] 4 = mkF m 0 #[.val (.int x0), .val (.int x1), .val (.int x2), .val x3] [] := by first | (simp [entryFrame, mkF, argsToLocals, Value.category, hx3]; done) | rfl | (cases x3 <;> first | rfl | exact absurd hx3 (by simp [Value.category]))
def Q_rmCk (Z : State) (e_ : Int32) (z : Int32) (fm : Value) (h0 : Heap) (n0 : Nat) (v : Option Value) (h : Heap) (L : List Loc) : Prop := v = some (.int (0 : Int32)) ∧ Fr n0 L ∧ h = h0
set_option maxRecDepth 65536 in
set_option maxHeartbeats 40000000 in
theorem rmCk (l : Launch) (Z : State) (a0 : Array Value) (hw : ∀ d ∈ tables_1, d.before a0 Z = true) (ws : List Jvm.Cond) (e_ : Int32) (z : Int32) (fm : Value) (h0 : Heap) (n0 : Nat) (Z0 : n0 ≤ h0.size) (he0 : (¬ (e_ < (0 : Int32)))) (hez : (¬ (z < e_))) (rfm : (fm.isRef = true)) :
    MetFree l (⟨"jdk/internal/util/Preconditions", "checkFromToIndex", "(IIILjava/util/function/BiFunction;)I"⟩ : MethodName) (head1 (Jvm.Cond.code (⟨"jdk/internal/util/Preconditions", "checkFromToIndex", "(IIILjava/util/function/BiFunction;)I"⟩ : MethodName) jdk_41_method_12_code 4 (some .int) :: ws) ({ frames := 0, cells := 0, slots := 0, locals := 0 } : Room)) (fun a U => a = #[(.int (0 : Int32)), (.int e_), (.int z), fm] ∧ Z.Warmed39 U.vm ∧ U.heap = h0) (fun _ _ _ _ _ => True) (fun _ U o U' => ∃ v L, o = .returned v ∧ Q_rmCk Z e_ z fm h0 n0 v U'.heap L ∧ FrameEnd U o U' L ({ frames := 0, cells := 0, slots := 0, locals := 0 } : Room).cells ({ frames := 0, cells := 0, slots := 0, locals := 0 } : Room).slots) := by
  refine MetFree.of_bodySF (plainFor_of_name pn_20) hisR ?_
  intro p e s m args below meth c s₁ Bd hml0 hP hK
  obtain ⟨rfl, hZ, hh⟩ := hP
  have hx := Bd.exec
  have hby := Bd.bytes
  have hml : c.maxLocals = 4 := hml0
  have hown : s.vm.findClass "jdk/internal/util/Preconditions" = some m.cls := findClass_of_methodNamed Bd.named
  have hnm := (name_of_methodNamed Bd.named Bd.method).1
  have X0 : Stand p l e ({ frames := 0, cells := 0, slots := 0, locals := 0 } : Room) s m #[(.int (0 : Int32)), (.int e_), (.int z), fm] below meth c s₁ [] 0 0 := Stand.of_body Bd
  have e0 : s₁.heap = h0 := by rw [← hh, Bd.state]; rfl
  have N0 := Fr.nil n0
  refine own_enter (ef_rmCk m ((0 : Int32)) e_ z fm (own_cat rfm)) ?_
  refine own_st (fun t_ k_ => XS.iloadN X0.here hx rfl (hb hby d20_0) rfl k_) ?_
  refine own_st (fun t_ k_ => XS.ifNo X0.here hx rfl (hb hby d20_1) rfl (by decide) k_) ?_
  refine own_st (fun t_ k_ => XS.iloadN X0.here hx rfl (hb hby d20_4) rfl k_) ?_
  refine own_st (fun t_ k_ => XS.iloadN X0.here hx rfl (hb hby d20_5) rfl k_) ?_
  refine own_st (fun t_ k_ => XS.icmpNo X0.here hx rfl (hb hby d20_6) rfl (flt he0).2.2.1 k_) ?_
  show own_Go p e below s₁ (mkF m 9 #[.val (.int (0 : Int32)), .val (.int e_), .val (.int z), .val fm] []) _
  refine own_st (fun t_ k_ => XS.iloadN X0.here hx rfl (hb hby d20_9) rfl k_) ?_
  refine own_st (fun t_ k_ => XS.iloadN X0.here hx rfl (hb hby d20_10) rfl k_) ?_
  refine own_st (fun t_ k_ => XS.icmpYes X0.here hx rfl (pc0 := 11) (pc' := 22) rfl (hb hby d20_11) rfl (flt hez).2.2.2 (by decide) (by decide) k_) ?_
  refine own_st (fun t_ k_ => XS.iloadN X0.here hx rfl (hb hby d20_22) rfl k_) ?_
  show own_Go p e below s₁ (mkF m 23 #[.val (.int (0 : Int32)), .val (.int e_), .val (.int z), .val fm] [(.int (0 : Int32))]) _
  obtain ⟨fs, hr, hrun, hended, hW, hsame⟩ := X0.leave (v := some (.int (0 : Int32))) (fun h => by rw [Bd.returns] at h; cases h)
  refine own_fin (own_retI X0 hx Bd.returns (hb hby d20_23) hr) ⟨hrun, hended, _, _, rfl, ?_, ⟨_, rfl⟩, hW, hsame.mono (by decide) (by decide)⟩
  show Q_rmCk Z e_ z fm h0 n0 _ s₁.heap _
  rw [e0]
  exact ⟨rfl, N0, rfl⟩
theorem d19_0 : decode jdk_42_method_158_code 0 = .ok (.iload_n 0, 1) := by decide +kernel
theorem d19_1 : decode jdk_42_method_158_code 1 = .ok (.iload_n 1, 1) := by decide +kernel
theorem d19_2 : decode jdk_42_method_158_code 2 = .ok (.iload_n 2, 1) := by decide +kernel
theorem d19_3 : decode jdk_42_method_158_code 3 = .ok (.getstatic 1053, 3) := by decide +kernel
theorem d19_6 : decode jdk_42_method_158_code 6 = .ok (.invokestatic 1062, 3) := by decide +kernel
theorem d19_9 : decode jdk_42_method_158_code 9 = .ok (.pop, 1) := by decide +kernel
theorem d19_10 : decode jdk_42_method_158_code 10 = .ok (.return_, 1) := by decide +kernel
theorem pn_19 : plainName "java/lang/String" = true := by first | (simp [plainName, overriddenIn]; done) | decide +kernel
theorem pd__IIILjava_util_function_BiFunction__I : parseMethodDescriptor "(IIILjava/util/function/BiFunction;)I" = some ⟨[.int, .int, .int, (.object "java/util/function/BiFunction")], some .int⟩ := by decide +kernel
theorem ef_rmCb (m : MethodId) (x0 : Int32) (x1 : Int32) (x2 : Int32) : entryFrame m #[(.int x0), (.int x1), (.int x2)] 3 = mkF m 0 #[.val (.int x0), .val (.int x1), .val (.int x2)] [] := by first | (simp [entryFrame, mkF, argsToLocals, Value.category]; done) | rfl
def Q_rmCb (Z : State) (e_ : Int32) (z : Int32) (fm : Value) (h0 : Heap) (n0 : Nat) (v : Option Value) (h : Heap) (L : List Loc) : Prop := v = none ∧ Fr n0 L ∧ h = h0
set_option maxRecDepth 65536 in
set_option maxHeartbeats 40000000 in
theorem rmCb (l : Launch) (Z : State) (a0 : Array Value) (hw : ∀ d ∈ tables_1, d.before a0 Z = true) (ws : List Jvm.Cond) (e_ : Int32) (z : Int32) (fm : Value) (h0 : Heap) (n0 : Nat) (Z0 : n0 ≤ h0.size) (he0 : (¬ (e_ < (0 : Int32)))) (hez : (¬ (z < e_))) (pS_SIOOBE_FORMATTER : Sta Z Z.heap "jdk/internal/util/Preconditions" "SIOOBE_FORMATTER" "Ljava/util/function/BiFunction;" fm) (rfm : (fm.isRef = true)) (pO : Old Z n0 h0) :
    MetFree l (⟨"java/lang/String", "checkBoundsBeginEnd", "(III)V"⟩ : MethodName) (head1 (Jvm.Cond.code (⟨"java/lang/String", "checkBoundsBeginEnd", "(III)V"⟩ : MethodName) jdk_42_method_158_code 3 none :: ws) ({ frames := 1, cells := 0, slots := 0, locals := 15 } : Room)) (fun a U => a = #[(.int (0 : Int32)), (.int e_), (.int z)] ∧ Z.Warmed39 U.vm ∧ U.heap = h0) (fun _ _ _ _ _ => True) (fun _ U o U' => ∃ v L, o = .returned v ∧ Q_rmCb Z e_ z fm h0 n0 v U'.heap L ∧ FrameEnd U o U' L ({ frames := 1, cells := 0, slots := 0, locals := 15 } : Room).cells ({ frames := 1, cells := 0, slots := 0, locals := 15 } : Room).slots) := by
  refine MetFree.of_bodySF (plainFor_of_name pn_19) hisR ?_
  intro p e s m args below meth c s₁ Bd hml0 hP hK
  obtain ⟨rfl, hZ, hh⟩ := hP
  have hx := Bd.exec
  have hby := Bd.bytes
  have hml : c.maxLocals = 3 := hml0
  have hown : s.vm.findClass "java/lang/String" = some m.cls := findClass_of_methodNamed Bd.named
  have hnm := (name_of_methodNamed Bd.named Bd.method).1
  have X0 : Stand p l e ({ frames := 1, cells := 0, slots := 0, locals := 15 } : Room) s m #[(.int (0 : Int32)), (.int e_), (.int z)] below meth c s₁ [] 0 0 := Stand.of_body Bd
  have e0 : s₁.heap = h0 := by rw [← hh, Bd.state]; rfl
  have N0 := Fr.nil n0
  refine own_enter (ef_rmCb m ((0 : Int32)) e_ z) ?_
  refine own_st (fun t_ k_ => XS.iloadN X0.here hx rfl (hb hby d19_0) rfl k_) ?_
  refine own_st (fun t_ k_ => XS.iloadN X0.here hx rfl (hb hby d19_1) rfl k_) ?_
  refine own_st (fun t_ k_ => XS.iloadN X0.here hx rfl (hb hby d19_2) rfl k_) ?_
  show own_Go p e below s₁ (mkF m 3 #[.val (.int (0 : Int32)), .val (.int e_), .val (.int z)] [(.int z), (.int e_), (.int (0 : Int32))]) _
  obtain ⟨T1, X1, e1, st1⟩ := getS2 X0 hx hZ hown (host := "") (Or.inl (hw _ (List.mem_of_getElem? (i := 85) rfl))) Via.refl e0 (pS_SIOOBE_FORMATTER.ext pO.2) (g := (mkF m 3 #[.val (.int (0 : Int32)), .val (.int e_), .val (.int z)] [(.int z), (.int e_), (.int (0 : Int32))])) rfl (hb hby d19_3)
  refine own_st st1 ?_
  show own_Go p e below T1 (mkF m 6 #[.val (.int (0 : Int32)), .val (.int e_), .val (.int z)] [fm, (.int z), (.int e_), (.int (0 : Int32))]) _
  obtain ⟨_, _, ⟨T2, L2, k2, n2⟩, -, X2, ⟨Lc2, hQ2, l2, y2, z2⟩, st2⟩ := Jvm.LawKit.callS X1 hx (y := (⟨"jdk/internal/util/Preconditions", "checkFromToIndex", "(IIILjava/util/function/BiFunction;)I"⟩ : MethodName)) hown (mvT hZ (hw _ (List.mem_of_getElem? (i := 87) rfl))) (mvT hZ (hw _ (List.mem_of_getElem? (i := 88) rfl))) (mvT hZ (hw _ (List.mem_of_getElem? (i := 86) rfl))) (mvT hZ (hw _ (List.mem_of_getElem? (i := 89) rfl))) (by decide) (backOf (W := 0) (rmCk l Z a0 hw [] e_ z fm h0 n0 Z0 he0 hez rfm) hZ (hw _ (List.mem_of_getElem? (i := 89) rfl)) (hw _ (List.mem_of_getElem? (i := 86) rfl)) (by decide) (by decide)) (g := (mkF m 6 #[.val (.int (0 : Int32)), .val (.int e_), .val (.int z)] [fm, (.int z), (.int e_), (.int (0 : Int32))])) rfl (by rw [hml]; rfl) (argsL := [(.int (0 : Int32)), (.int e_), (.int z), fm]) (rest := []) (lenOf pd__IIILjava_util_function_BiFunction__I rfl) rfl (by show 2 * 0 + _ ≤ _; exact Nat.le_of_eq rfl) (hb hby d19_6) (fun _ _ => ⟨rfl, e1, (by decide : 0 + 0 ≤ _), (by decide : 0 + 0 ≤ _)⟩)
  dsimp only [Pt.U, Pt.locs, Pt.cells, Pt.slots] at X2 l2 y2 z2 st2 hQ2
  try dsimp only [Nat.reduceAdd] at y2 z2
  rw [l2, y2, z2] at X2
  obtain ⟨rfl, Nq2, eH2⟩ := hQ2
  have N2 := Fr.app N0 Nq2
  refine own_st st2 ?_
  show own_Go p e below T2 (mkF m 9 #[.val (.int (0 : Int32)), .val (.int e_), .val (.int z)] [(.int (0 : Int32))]) _
  refine own_st (fun t_ k_ => XS.pop X2.here hx rfl (hb hby d19_9) rfl rfl k_) ?_
  show own_Go p e below T2 (mkF m 10 #[.val (.int (0 : Int32)), .val (.int e_), .val (.int z)] []) _
  obtain ⟨fs, hr, hrun, hended, hW, hsame⟩ := X2.leave (v := none) (fun _ => rfl)
  refine own_fin (X2.returnOut hx Bd.returns (hb hby d19_10) hr) ⟨hrun, hended, _, _, rfl, ?_, ⟨_, rfl⟩, hW, hsame.mono (by decide) (by decide)⟩
  show Q_rmCb Z e_ z fm h0 n0 _ T2.heap _
  rw [eH2]
  exact ⟨rfl, N2, rfl⟩
theorem d24_0 : decode jdk_65_method_131_code 0 = .ok (.iload_n 1, 1) := by decide +kernel
theorem d24_1 : decode jdk_65_method_131_code 1 = .ok (.iload_n 0, 1) := by decide +kernel
theorem d24_2 : decode jdk_65_method_131_code 2 = .ok (.if_icmp .ge 35, 3) := by decide +kernel
theorem d24_37 : decode jdk_65_method_131_code 37 = .ok (.return_, 1) := by decide +kernel
theorem pn_24 : plainName "java/util/Arrays" = true := by first | (simp [plainName, overriddenIn]; done) | decide +kernel
theorem ef_rmCl (m : MethodId) (x0 : Int32) (x1 : Int32) : entryFrame m #[(.int x0), (.int x1)] 2 = mkF m 0 #[.val (.int x0), .val (.int x1)] [] := by first | (simp [entryFrame, mkF, argsToLocals, Value.category]; done) | rfl
def Q_rmCl (Z : State) (a_ : Int32) (e_ : Int32) (h0 : Heap) (n0 : Nat) (v : Option Value) (h : Heap) (L : List Loc) : Prop := v = none ∧ Fr n0 L ∧ h = h0
set_option maxRecDepth 65536 in
set_option maxHeartbeats 40000000 in
theorem rmCl (l : Launch) (Z : State) (a0 : Array Value) (hw : ∀ d ∈ tables_1, d.before a0 Z = true) (ws : List Jvm.Cond) (a_ : Int32) (e_ : Int32) (h0 : Heap) (n0 : Nat) (Z0 : n0 ≤ h0.size) (hea : (¬ (e_ < a_))) :
    MetFree l (⟨"java/util/Arrays", "checkLength", "(II)V"⟩ : MethodName) (head1 (Jvm.Cond.code (⟨"java/util/Arrays", "checkLength", "(II)V"⟩ : MethodName) jdk_65_method_131_code 2 none :: ws) ({ frames := 0, cells := 0, slots := 0, locals := 0 } : Room)) (fun a U => a = #[(.int a_), (.int e_)] ∧ Z.Warmed39 U.vm ∧ U.heap = h0) (fun _ _ _ _ _ => True) (fun _ U o U' => ∃ v L, o = .returned v ∧ Q_rmCl Z a_ e_ h0 n0 v U'.heap L ∧ FrameEnd U o U' L ({ frames := 0, cells := 0, slots := 0, locals := 0 } : Room).cells ({ frames := 0, cells := 0, slots := 0, locals := 0 } : Room).slots) := by
  refine MetFree.of_bodySF (plainFor_of_name pn_24) hisR ?_
  intro p e s m args below meth c s₁ Bd hml0 hP hK
  obtain ⟨rfl, hZ, hh⟩ := hP
  have hx := Bd.exec
  have hby := Bd.bytes
  have hml : c.maxLocals = 2 := hml0
  have hown : s.vm.findClass "java/util/Arrays" = some m.cls := findClass_of_methodNamed Bd.named
  have hnm := (name_of_methodNamed Bd.named Bd.method).1
  have X0 : Stand p l e ({ frames := 0, cells := 0, slots := 0, locals := 0 } : Room) s m #[(.int a_), (.int e_)] below meth c s₁ [] 0 0 := Stand.of_body Bd
  have e0 : s₁.heap = h0 := by rw [← hh, Bd.state]; rfl
  have N0 := Fr.nil n0
  refine own_enter (ef_rmCl m a_ e_) ?_
  refine own_st (fun t_ k_ => XS.iloadN X0.here hx rfl (hb hby d24_0) rfl k_) ?_
  refine own_st (fun t_ k_ => XS.iloadN X0.here hx rfl (hb hby d24_1) rfl k_) ?_
  refine own_st (fun t_ k_ => XS.icmpYes X0.here hx rfl (pc0 := 2) (pc' := 37) rfl (hb hby d24_2) rfl (flt hea).2.1 (by decide) (by decide) k_) ?_
  show own_Go p e below s₁ (mkF m 37 #[.val (.int a_), .val (.int e_)] []) _
  obtain ⟨fs, hr, hrun, hended, hW, hsame⟩ := X0.leave (v := none) (fun _ => rfl)
  refine own_fin (X0.returnOut hx Bd.returns (hb hby d24_37) hr) ⟨hrun, hended, _, _, rfl, ?_, ⟨_, rfl⟩, hW, hsame.mono (by decide) (by decide)⟩
  show Q_rmCl Z a_ e_ h0 n0 _ s₁.heap _
  rw [e0]
  exact ⟨rfl, N0, rfl⟩
theorem d17_0 : decode jdk_29_method_69_code 0 = .ok (.iload_n 0, 1) := by decide +kernel
theorem d17_1 : decode jdk_29_method_69_code 1 = .ok (.iload_n 1, 1) := by decide +kernel
theorem d17_2 : decode jdk_29_method_69_code 2 = .ok (.if_icmp .gt 7, 3) := by decide +kernel
theorem d17_5 : decode jdk_29_method_69_code 5 = .ok (.iload_n 0, 1) := by decide +kernel
theorem d17_6 : decode jdk_29_method_69_code 6 = .ok (.goto 4, 3) := by decide +kernel
theorem d17_10 : decode jdk_29_method_69_code 10 = .ok (.ireturn, 1) := by decide +kernel
theorem ef_rmMa (m : MethodId) (x0 : Int32) (x1 : Int32) : entryFrame m #[(.int x0), (.int x1)] 2 = mkF m 0 #[.val (.int x0), .val (.int x1)] [] := by first | (simp [entryFrame, mkF, argsToLocals, Value.category]; done) | rfl
def Q_rmMa (Z : State) (a_ : Int32) (b_ : Int32) (h0 : Heap) (n0 : Nat) (v : Option Value) (h : Heap) (L : List Loc) : Prop := v = some (.int a_) ∧ Fr n0 L ∧ h = h0
set_option maxRecDepth 65536 in
set_option maxHeartbeats 40000000 in
theorem rmMa (l : Launch) (Z : State) (a0 : Array Value) (hw : ∀ d ∈ tables_1, d.before a0 Z = true) (ws : List Jvm.Cond) (a_ : Int32) (b_ : Int32) (h0 : Heap) (n0 : Nat) (Z0 : n0 ≤ h0.size) (h : (¬ (b_ < a_))) :
    MetFree l (⟨"java/lang/Math", "min", "(II)I"⟩ : MethodName) (head1 (Jvm.Cond.code (⟨"java/lang/Math", "min", "(II)I"⟩ : MethodName) jdk_29_method_69_code 2 (some .int) :: ws) ({ frames := 0, cells := 0, slots := 0, locals := 0 } : Room)) (fun a U => a = #[(.int a_), (.int b_)] ∧ Z.Warmed39 U.vm ∧ U.heap = h0) (fun _ _ _ _ _ => True) (fun _ U o U' => ∃ v L, o = .returned v ∧ Q_rmMa Z a_ b_ h0 n0 v U'.heap L ∧ FrameEnd U o U' L ({ frames := 0, cells := 0, slots := 0, locals := 0 } : Room).cells ({ frames := 0, cells := 0, slots := 0, locals := 0 } : Room).slots) := by
  refine MetFree.of_bodySF (Jvm.Free.JP.mathPlain rfl (by decide +kernel)) hisR ?_
  intro p e s m args below meth c s₁ Bd hml0 hP hK
  obtain ⟨rfl, hZ, hh⟩ := hP
  have hx := Bd.exec
  have hby := Bd.bytes
  have hml : c.maxLocals = 2 := hml0
  have hown : s.vm.findClass "java/lang/Math" = some m.cls := findClass_of_methodNamed Bd.named
  have hnm := (name_of_methodNamed Bd.named Bd.method).1
  have X0 : Stand p l e ({ frames := 0, cells := 0, slots := 0, locals := 0 } : Room) s m #[(.int a_), (.int b_)] below meth c s₁ [] 0 0 := Stand.of_body Bd
  have e0 : s₁.heap = h0 := by rw [← hh, Bd.state]; rfl
  have N0 := Fr.nil n0
  refine own_enter (ef_rmMa m a_ b_) ?_
  refine own_st (fun t_ k_ => XS.iloadN X0.here hx rfl (hb hby d17_0) rfl k_) ?_
  refine own_st (fun t_ k_ => XS.iloadN X0.here hx rfl (hb hby d17_1) rfl k_) ?_
  refine own_st (fun t_ k_ => XS.icmpNo X0.here hx rfl (hb hby d17_2) rfl (flt h).2.2.1 k_) ?_
  refine own_st (fun t_ k_ => XS.iloadN X0.here hx rfl (hb hby d17_5) rfl k_) ?_
  refine own_st (fun t_ k_ => XS.goto X0.here hx rfl (pc0 := 6) (pc' := 10) rfl (hb hby d17_6) (by decide) (by decide) k_) ?_
  show own_Go p e below s₁ (mkF m 10 #[.val (.int a_), .val (.int b_)] [(.int a_)]) _
  obtain ⟨fs, hr, hrun, hended, hW, hsame⟩ := X0.leave (v := some (.int a_)) (fun h => by rw [Bd.returns] at h; cases h)
  refine own_fin (own_retI X0 hx Bd.returns (hb hby d17_10) hr) ⟨hrun, hended, _, _, rfl, ?_, ⟨_, rfl⟩, hW, hsame.mono (by decide) (by decide)⟩
  show Q_rmMa Z a_ b_ h0 n0 _ s₁.heap _
  rw [e0]
  exact ⟨rfl, N0, rfl⟩
theorem d17_9 : decode jdk_29_method_69_code 9 = .ok (.iload_n 1, 1) := by decide +kernel
theorem ef_rmMb (m : MethodId) (x0 : Int32) (x1 : Int32) : entryFrame m #[(.int x0), (.int x1)] 2 = mkF m 0 #[.val (.int x0), .val (.int x1)] [] := by first | (simp [entryFrame, mkF, argsToLocals, Value.category]; done) | rfl
def Q_rmMb (Z : State) (a_ : Int32) (b_ : Int32) (h0 : Heap) (n0 : Nat) (v : Option Value) (h : Heap) (L : List Loc) : Prop := v = some (.int b_) ∧ Fr n0 L ∧ h = h0
set_option maxRecDepth 65536 in
set_option maxHeartbeats 40000000 in
theorem rmMb (l : Launch) (Z : State) (a0 : Array Value) (hw : ∀ d ∈ tables_1, d.before a0 Z = true) (ws : List Jvm.Cond) (a_ : Int32) (b_ : Int32) (h0 : Heap) (n0 : Nat) (Z0 : n0 ≤ h0.size) (h : (b_ < a_)) :
    MetFree l (⟨"java/lang/Math", "min", "(II)I"⟩ : MethodName) (head1 (Jvm.Cond.code (⟨"java/lang/Math", "min", "(II)I"⟩ : MethodName) jdk_29_method_69_code 2 (some .int) :: ws) ({ frames := 0, cells := 0, slots := 0, locals := 0 } : Room)) (fun a U => a = #[(.int a_), (.int b_)] ∧ Z.Warmed39 U.vm ∧ U.heap = h0) (fun _ _ _ _ _ => True) (fun _ U o U' => ∃ v L, o = .returned v ∧ Q_rmMb Z a_ b_ h0 n0 v U'.heap L ∧ FrameEnd U o U' L ({ frames := 0, cells := 0, slots := 0, locals := 0 } : Room).cells ({ frames := 0, cells := 0, slots := 0, locals := 0 } : Room).slots) := by
  refine MetFree.of_bodySF (Jvm.Free.JP.mathPlain rfl (by decide +kernel)) hisR ?_
  intro p e s m args below meth c s₁ Bd hml0 hP hK
  obtain ⟨rfl, hZ, hh⟩ := hP
  have hx := Bd.exec
  have hby := Bd.bytes
  have hml : c.maxLocals = 2 := hml0
  have hown : s.vm.findClass "java/lang/Math" = some m.cls := findClass_of_methodNamed Bd.named
  have hnm := (name_of_methodNamed Bd.named Bd.method).1
  have X0 : Stand p l e ({ frames := 0, cells := 0, slots := 0, locals := 0 } : Room) s m #[(.int a_), (.int b_)] below meth c s₁ [] 0 0 := Stand.of_body Bd
  have e0 : s₁.heap = h0 := by rw [← hh, Bd.state]; rfl
  have N0 := Fr.nil n0
  refine own_enter (ef_rmMb m a_ b_) ?_
  refine own_st (fun t_ k_ => XS.iloadN X0.here hx rfl (hb hby d17_0) rfl k_) ?_
  refine own_st (fun t_ k_ => XS.iloadN X0.here hx rfl (hb hby d17_1) rfl k_) ?_
  refine own_st (fun t_ k_ => XS.icmpYes X0.here hx rfl (pc0 := 2) (pc' := 9) rfl (hb hby d17_2) rfl (tlt h).2.2.1 (by decide) (by decide) k_) ?_
  refine own_st (fun t_ k_ => XS.iloadN X0.here hx rfl (hb hby d17_9) rfl k_) ?_
  show own_Go p e below s₁ (mkF m 10 #[.val (.int a_), .val (.int b_)] [(.int b_)]) _
  obtain ⟨fs, hr, hrun, hended, hW, hsame⟩ := X0.leave (v := some (.int b_)) (fun h => by rw [Bd.returns] at h; cases h)
  refine own_fin (own_retI X0 hx Bd.returns (hb hby d17_10) hr) ⟨hrun, hended, _, _, rfl, ?_, ⟨_, rfl⟩, hW, hsame.mono (by decide) (by decide)⟩
  show Q_rmMb Z a_ b_ h0 n0 _ s₁.heap _
  rw [e0]
  exact ⟨rfl, N0, rfl⟩
theorem d25_0 : decode jdk_42_method_151_code 0 = .ok (.aload_n 0, 1) := by decide +kernel
theorem d25_1 : decode jdk_42_method_151_code 1 = .ok (.invokespecial 1, 3) := by decide +kernel
theorem d25_4 : decode jdk_42_method_151_code 4 = .ok (.aload_n 0, 1) := by decide +kernel
theorem d25_5 : decode jdk_42_method_151_code 5 = .ok (.aload_n 1, 1) := by decide +kernel
theorem d25_6 : decode jdk_42_method_151_code 6 = .ok (.putfield 9, 3) := by decide +kernel
theorem d25_9 : decode jdk_42_method_151_code 9 = .ok (.aload_n 0, 1) := by decide +kernel
theorem d25_10 : decode jdk_42_method_151_code 10 = .ok (.iload_n 2, 1) := by decide +kernel
theorem d25_11 : decode jdk_42_method_151_code 11 = .ok (.putfield 15, 3) := by decide +kernel
theorem d25_14 : decode jdk_42_method_151_code 14 = .ok (.return_, 1) := by decide +kernel
theorem pn_25 : plainName "java/lang/String" = true := by first | (simp [plainName, overriddenIn]; done) | decide +kernel
theorem ef_rmIb (m : MethodId) (x0 : Addr) (x1 : Addr) (x2 : Int32) : entryFrame m #[(.ref x0), (.ref x1), (.int x2)] 3 = mkF m 0 #[.val (.ref x0), .val (.ref x1), .val (.int x2)] [] := by first | (simp [entryFrame, mkF, argsToLocals, Value.category]; done) | rfl
def Q_rmIb (Z : State) (a1 : Addr) (a2 : Addr) (u1 : Value) (u2 : Value) (h0 : Heap) (n0 : Nat) (v : Option Value) (h : Heap) (L : List Loc) : Prop := v = none ∧ Fr n0 L ∧ Keep h0 h [a1] ∧ Exa Z h a1 "java/lang/String" ∧ Fld Z h a1 "java/lang/String" "value" "[B" (.ref a2) ∧ Fld Z h a1 "java/lang/String" "coder" "B" (.int (0 : Int32))
set_option maxRecDepth 65536 in
set_option maxHeartbeats 40000000 in
theorem rmIb (l : Launch) (Z : State) (a0 : Array Value) (hw : ∀ d ∈ tables_1, d.before a0 Z = true) (ws : List Jvm.Cond) (a1 : Addr) (a2 : Addr) (u1 : Value) (u2 : Value) (h0 : Heap) (n0 : Nat) (Z0 : n0 ≤ h0.size) (pE_a1 : Exa Z h0 a1 "java/lang/String") (pF_value_a1 : Fld Z h0 a1 "java/lang/String" "value" "[B" u1) (pF_coder_a1 : Fld Z h0 a1 "java/lang/String" "coder" "B" u2) (pG_a1 : n0 ≤ a1) :
    MetFree l (⟨"java/lang/String", "<init>", "([BB)V"⟩ : MethodName) (head1 (Jvm.Cond.code (⟨"java/lang/String", "<init>", "([BB)V"⟩ : MethodName) jdk_42_method_151_code 3 none :: ws) ({ frames := 1, cells := 0, slots := 0, locals := 12 } : Room)) (fun a U => a = #[(.ref a1), (.ref a2), (.int (0 : Int32))] ∧ Z.Warmed39 U.vm ∧ U.heap = h0) (fun _ _ _ _ _ => True) (fun _ U o U' => ∃ v L, o = .returned v ∧ Q_rmIb Z a1 a2 u1 u2 h0 n0 v U'.heap L ∧ FrameEnd U o U' L ({ frames := 1, cells := 0, slots := 0, locals := 12 } : Room).cells ({ frames := 1, cells := 0, slots := 0, locals := 12 } : Room).slots) := by
  refine MetFree.of_bodySF (plainFor_of_name pn_25) hisR ?_
  intro p e s m args below meth c s₁ Bd hml0 hP hK
  obtain ⟨rfl, hZ, hh⟩ := hP
  have hx := Bd.exec
  have hby := Bd.bytes
  have hml : c.maxLocals = 3 := hml0
  have hown : s.vm.findClass "java/lang/String" = some m.cls := findClass_of_methodNamed Bd.named
  have hnm := (name_of_methodNamed Bd.named Bd.method).1
  have X0 : Stand p l e ({ frames := 1, cells := 0, slots := 0, locals := 12 } : Room) s m #[(.ref a1), (.ref a2), (.int (0 : Int32))] below meth c s₁ [] 0 0 := Stand.of_body Bd
  have e0 : s₁.heap = h0 := by rw [← hh, Bd.state]; rfl
  have N0 := Fr.nil n0
  refine own_enter (ef_rmIb m a1 a2 ((0 : Int32))) ?_
  refine own_st (fun t_ k_ => XS.aloadN X0.here hx rfl (hb hby d25_0) rfl rfl k_) ?_
  show own_Go p e below s₁ (mkF m 1 #[.val (.ref a1), .val (.ref a2), .val (.int (0 : Int32))] [(.ref a1)]) _
  obtain ⟨T1, X1, e1, st1⟩ := initO X0 hx hZ hown (hw _ (List.mem_of_getElem? (i := 18) rfl)) (hw _ (List.mem_of_getElem? (i := 19) rfl)) (hw _ (List.mem_of_getElem? (i := 20) rfl)) e0 (g := (mkF m 1 #[.val (.ref a1), .val (.ref a2), .val (.int (0 : Int32))] [(.ref a1)])) rfl (by rw [hml]; rfl) rfl (hb hby d25_1) (by decide) (W := 0) (by show 2 * 0 + _ ≤ _; exact Nat.le_of_eq rfl) (by decide)
  refine own_st st1 ?_
  show own_Go p e below T1 (mkF m 4 #[.val (.ref a1), .val (.ref a2), .val (.int (0 : Int32))] []) _
  refine own_st (fun t_ k_ => XS.aloadN X1.here hx rfl (hb hby d25_4) rfl rfl k_) ?_
  refine own_st (fun t_ k_ => XS.aloadN X1.here hx rfl (hb hby d25_5) rfl rfl k_) ?_
  show own_Go p e below T1 (mkF m 6 #[.val (.ref a1), .val (.ref a2), .val (.int (0 : Int32))] [(.ref a2), (.ref a1)]) _
  obtain ⟨T2, h2, X2, e2, W2, st2⟩ := putF X1 hx hZ hown (host := "") (Or.inl (hw _ (List.mem_of_getElem? (i := 35) rfl))) Via.refl e1 pF_value_a1 pE_a1 (Or.inr ⟨(hw _ (List.mem_of_getElem? (i := 36) rfl)), rfl, hnm⟩) (hw _ (List.mem_of_getElem? (i := 9) rfl)) (ty := (.array .byte)) (by decide) rfl rfl (g := (mkF m 6 #[.val (.ref a1), .val (.ref a2), .val (.int (0 : Int32))] [(.ref a2), (.ref a1)])) rfl rfl (hb hby d25_6)
  have F2 := pF_value_a1.same W2
  have K3 : Keep h0 h2 [a1] := (Keep.refl h0 [a1]).wr W2 (Or.inl (List.mem_of_getElem? (i := 0) rfl))
  have N2 := Fr.snoc X2 N0 pG_a1
  refine own_st st2 ?_
  show own_Go p e below T2 (mkF m 9 #[.val (.ref a1), .val (.ref a2), .val (.int (0 : Int32))] []) _
  refine own_st (fun t_ k_ => XS.aloadN X2.here hx rfl (hb hby d25_9) rfl rfl k_) ?_
  refine own_st (fun t_ k_ => XS.iloadN X2.here hx rfl (hb hby d25_10) rfl k_) ?_
  show own_Go p e below T2 (mkF m 11 #[.val (.ref a1), .val (.ref a2), .val (.int (0 : Int32))] [(.int (0 : Int32)), (.ref a1)]) _
  have f4 := (pE_a1.wr W2)
  have f5 := (pF_coder_a1.other W2 (Or.inr (slot_ne (Or.inr (hw _ (List.mem_of_getElem? (i := 34) rfl))) (Or.inr (hw _ (List.mem_of_getElem? (i := 36) rfl))) (by decide) (t := .byte) (t' := (.array .byte)) (by decide) (by decide))))
  obtain ⟨T6, h6, X6, e6, W6, st6⟩ := putFN X2 hx hZ hown (hw _ (List.mem_of_getElem? (i := 33) rfl)) Via.refl e2 f5 f4 (Or.inr ⟨(hw _ (List.mem_of_getElem? (i := 34) rfl)), rfl, hnm⟩) (hw _ (List.mem_of_getElem? (i := 9) rfl)) (ty := .byte) (v' := (.int (0 : Int32))) (by decide) rfl (by decide) (g := (mkF m 11 #[.val (.ref a1), .val (.ref a2), .val (.int (0 : Int32))] [(.int (0 : Int32)), (.ref a1)])) rfl rfl (hb hby d25_11)
  have F6 := f5.same W6
  have K7 : Keep h0 h6 [a1] := K3.wr W6 (Or.inl (List.mem_of_getElem? (i := 0) rfl))
  have N6 := Fr.snoc X6 N2 pG_a1
  refine own_st st6 ?_
  show own_Go p e below T6 (mkF m 14 #[.val (.ref a1), .val (.ref a2), .val (.int (0 : Int32))] []) _
  have f8 := (f4.wr W6)
  have f9 := (F2.other W6 (Or.inr (slot_ne (Or.inr (hw _ (List.mem_of_getElem? (i := 36) rfl))) (Or.inr (hw _ (List.mem_of_getElem? (i := 34) rfl))) (by decide) (t := (.array .byte)) (t' := .byte) (by decide) (by decide))))
  obtain ⟨fs, hr, hrun, hended, hW, hsame⟩ := X6.leave (v := none) (fun _ => rfl)
  refine own_fin (X6.returnOut hx Bd.returns (hb hby d25_14) hr) ⟨hrun, hended, _, _, rfl, ?_, ⟨_, rfl⟩, hW, hsame.mono (by decide) (by decide)⟩
  show Q_rmIb Z a1 a2 u1 u2 h0 n0 _ T6.heap _
  rw [e6]
  exact ⟨rfl, N6, K7, f8, f9, F6⟩
theorem d23_0 : decode jdk_65_method_133_code 0 = .ok (.iload_n 1, 1) := by decide +kernel
theorem d23_1 : decode jdk_65_method_133_code 1 = .ok (.iload_n 2, 1) := by decide +kernel
theorem d23_2 : decode jdk_65_method_133_code 2 = .ok (.invokestatic 343, 3) := by decide +kernel
theorem d23_5 : decode jdk_65_method_133_code 5 = .ok (.iload_n 2, 1) := by decide +kernel
theorem d23_6 : decode jdk_65_method_133_code 6 = .ok (.iload_n 1, 1) := by decide +kernel
theorem d23_7 : decode jdk_65_method_133_code 7 = .ok (.isub, 1) := by decide +kernel
theorem d23_8 : decode jdk_65_method_133_code 8 = .ok (.istore_n 3, 1) := by decide +kernel
theorem d23_9 : decode jdk_65_method_133_code 9 = .ok (.iload_n 3, 1) := by decide +kernel
theorem d23_10 : decode jdk_65_method_133_code 10 = .ok (.newarray .byte, 2) := by decide +kernel
theorem d23_12 : decode jdk_65_method_133_code 12 = .ok (.astore 4, 2) := by decide +kernel
theorem d23_14 : decode jdk_65_method_133_code 14 = .ok (.aload_n 0, 1) := by decide +kernel
theorem d23_15 : decode jdk_65_method_133_code 15 = .ok (.iload_n 1, 1) := by decide +kernel
theorem d23_16 : decode jdk_65_method_133_code 16 = .ok (.aload 4, 2) := by decide +kernel
theorem d23_18 : decode jdk_65_method_133_code 18 = .ok (.iconst 0, 1) := by decide +kernel
theorem d23_19 : decode jdk_65_method_133_code 19 = .ok (.aload_n 0, 1) := by decide +kernel
theorem d23_20 : decode jdk_65_method_133_code 20 = .ok (.arraylength, 1) := by decide +kernel
theorem d23_21 : decode jdk_65_method_133_code 21 = .ok (.iload_n 1, 1) := by decide +kernel
theorem d23_22 : decode jdk_65_method_133_code 22 = .ok (.isub, 1) := by decide +kernel
theorem d23_23 : decode jdk_65_method_133_code 23 = .ok (.iload_n 3, 1) := by decide +kernel
theorem d23_24 : decode jdk_65_method_133_code 24 = .ok (.invokestatic 304, 3) := by decide +kernel
theorem d23_27 : decode jdk_65_method_133_code 27 = .ok (.invokestatic 150, 3) := by decide +kernel
theorem d23_30 : decode jdk_65_method_133_code 30 = .ok (.aload 4, 2) := by decide +kernel
theorem d23_32 : decode jdk_65_method_133_code 32 = .ok (.areturn, 1) := by decide +kernel
theorem pn_23 : plainName "java/util/Arrays" = true := by first | (simp [plainName, overriddenIn]; done) | decide +kernel
theorem pd__II_V : parseMethodDescriptor "(II)V" = some ⟨[.int, .int], none⟩ := by decide +kernel
theorem pd__II_I : parseMethodDescriptor "(II)I" = some ⟨[.int, .int], some .int⟩ := by decide +kernel
theorem ef_rmCr1 (m : MethodId) (x0 : Addr) (x1 : Int32) (x2 : Int32) : entryFrame m #[(.ref x0), (.int x1), (.int x2)] 5 = mkF m 0 #[.val (.ref x0), .val (.int x1), .val (.int x2), .unset, .unset] [] := by first | (simp [entryFrame, mkF, argsToLocals, Value.category]; done) | rfl
def Q_rmCr1 (Z : State) (t : Addr) (kt : ClassId) (z : Int32) (u0 : Int32) (tl : List Value) (h0 : Heap) (n0 : Nat) (v : Option Value) (h : Heap) (L : List Loc) : Prop := ∃ b : Addr, ∃ kb : ClassId, v = some (.ref b) ∧ Fr n0 L ∧ Keep h0 h [] ∧ Arv Z h b kb .byte (1 : Int32) [(.int u0)] (.int 0) ∧ h0.size ≤ b ∧ n0 ≤ b
set_option maxRecDepth 65536 in
set_option maxHeartbeats 40000000 in
theorem rmCr1 (l : Launch) (Z : State) (a0 : Array Value) (hw : ∀ d ∈ tables_1, d.before a0 Z = true) (ws : List Jvm.Cond) (t : Addr) (kt : ClassId) (z : Int32) (u0 : Int32) (tl : List Value) (h0 : Heap) (n0 : Nat) (Z0 : n0 ≤ h0.size) (pV_t : Arv Z h0 t kt .byte z ((.int u0) :: tl) (.int 0)) (hez : ((1 : Int32) < z)) :
    MetFree l (⟨"java/util/Arrays", "copyOfRangeByte", "([BII)[B"⟩ : MethodName) (head1 (Jvm.Cond.code (⟨"java/util/Arrays", "copyOfRangeByte", "([BII)[B"⟩ : MethodName) jdk_65_method_133_code 5 (some (.array .byte)) :: ws) ({ frames := 1, cells := 1, slots := 1, locals := 120 } : Room)) (fun a U => a = #[(.ref t), (.int (0 : Int32)), (.int (1 : Int32))] ∧ Z.Warmed39 U.vm ∧ U.heap = h0) (fun _ _ _ _ _ => True) (fun _ U o U' => ∃ v L, o = .returned v ∧ Q_rmCr1 Z t kt z u0 tl h0 n0 v U'.heap L ∧ FrameEnd U o U' L ({ frames := 1, cells := 1, slots := 1, locals := 120 } : Room).cells ({ frames := 1, cells := 1, slots := 1, locals := 120 } : Room).slots) := by
  refine MetFree.of_bodySF (plainFor_of_name pn_23) hisR ?_
  intro p e s m args below meth c s₁ Bd hml0 hP hK
  obtain ⟨rfl, hZ, hh⟩ := hP
  have hx := Bd.exec
  have hby := Bd.bytes
  have hml : c.maxLocals = 5 := hml0
  have hown : s.vm.findClass "java/util/Arrays" = some m.cls := findClass_of_methodNamed Bd.named
  have hnm := (name_of_methodNamed Bd.named Bd.method).1
  have X0 : Stand p l e ({ frames := 1, cells := 1, slots := 1, locals := 120 } : Room) s m #[(.ref t), (.int (0 : Int32)), (.int (1 : Int32))] below meth c s₁ [] 0 0 := Stand.of_body Bd
  have e0 : s₁.heap = h0 := by rw [← hh, Bd.state]; rfl
  have N0 := Fr.nil n0
  refine own_enter (ef_rmCr1 m t ((0 : Int32)) ((1 : Int32))) ?_
  have hzn : 1 < z.toInt := by rw [Int32.lt_iff_toInt_lt] at hez; exact hez
  refine own_st (fun t_ k_ => XS.iloadN X0.here hx rfl (hb hby d23_0) rfl k_) ?_
  refine own_st (fun t_ k_ => XS.iloadN X0.here hx rfl (hb hby d23_1) rfl k_) ?_
  show own_Go p e below s₁ (mkF m 2 #[.val (.ref t), .val (.int (0 : Int32)), .val (.int (1 : Int32)), .unset, .unset] [(.int (1 : Int32)), (.int (0 : Int32))]) _
  obtain ⟨_, _, ⟨T1, L1, k1, n1⟩, -, X1, ⟨Lc1, hQ1, l1, y1, z1⟩, st1⟩ := Jvm.LawKit.callS X0 hx (y := (⟨"java/util/Arrays", "checkLength", "(II)V"⟩ : MethodName)) hown (mvT hZ (hw _ (List.mem_of_getElem? (i := 101) rfl))) (mvT hZ (hw _ (List.mem_of_getElem? (i := 102) rfl))) (mvT hZ (hw _ (List.mem_of_getElem? (i := 96) rfl))) (mvT hZ (hw _ (List.mem_of_getElem? (i := 103) rfl))) (by decide) (backOf (W := 0) (rmCl l Z a0 hw [] ((0 : Int32)) ((1 : Int32)) h0 n0 Z0 (by decide)) hZ (hw _ (List.mem_of_getElem? (i := 103) rfl)) (hw _ (List.mem_of_getElem? (i := 96) rfl)) (by decide) (by decide)) (g := (mkF m 2 #[.val (.ref t), .val (.int (0 : Int32)), .val (.int (1 : Int32)), .unset, .unset] [(.int (1 : Int32)), (.int (0 : Int32))])) rfl (by rw [hml]; rfl) (argsL := [(.int (0 : Int32)), (.int (1 : Int32))]) (rest := []) (lenOf pd__II_V rfl) rfl (by show 2 * 0 + _ ≤ _; exact Nat.le_of_eq rfl) (hb hby d23_2) (fun _ _ => ⟨rfl, e0, (by decide : 0 + 0 ≤ _), (by decide : 0 + 0 ≤ _)⟩)
  dsimp only [Pt.U, Pt.locs, Pt.cells, Pt.slots] at X1 l1 y1 z1 st1 hQ1
  try dsimp only [Nat.reduceAdd] at y1 z1
  rw [l1, y1, z1] at X1
  obtain ⟨rfl, Nq1, eH1⟩ := hQ1
  have N1 := Fr.app N0 Nq1
  refine own_st st1 ?_
  show own_Go p e below T1 (mkF m 5 #[.val (.ref t), .val (.int (0 : Int32)), .val (.int (1 : Int32)), .unset, .unset] []) _
  refine own_st (fun t_ k_ => XS.iloadN X1.here hx rfl (hb hby d23_5) rfl k_) ?_
  refine own_st (fun t_ k_ => XS.iloadN X1.here hx rfl (hb hby d23_6) rfl k_) ?_
  refine own_st (fun t_ k_ => XS.isub X1.here hx rfl (hb hby d23_7) rfl k_) ?_
  refine own_st (fun t_ k_ => XS.istoreN X1.here hx rfl (hb hby d23_8) rfl (l' := #[.val (.ref t), .val (.int (0 : Int32)), .val (.int (1 : Int32)), .val (.int (1 : Int32)), .unset]) rfl k_) ?_
  refine own_st (fun t_ k_ => XS.iloadN X1.here hx rfl (hb hby d23_9) rfl k_) ?_
  show own_Go p e below T1 (mkF m 10 #[.val (.ref t), .val (.int (0 : Int32)), .val (.int (1 : Int32)), .val (.int (1 : Int32)), .unset] [(.int (1 : Int32))]) _
  obtain ⟨T2, h2, k2, X2, e2, E2, A2, st2⟩ := newP X1 hx hZ (hw _ (List.mem_of_getElem? (i := 26) rfl)) eH1 (g := (mkF m 10 #[.val (.ref t), .val (.int (0 : Int32)), .val (.int (1 : Int32)), .val (.int (1 : Int32)), .unset] [(.int (1 : Int32))])) rfl (hb hby d23_10) rfl (by decide) (cap := 1) (by decide) (by decide) (by decide) (by decide)
  obtain ⟨b2, g2⟩ : ∃ z, z = h0.size := ⟨_, rfl⟩
  rw [← g2] at A2 st2
  have G2 : n0 ≤ b2 := Nat.le_trans Z0 (Nat.le_of_eq g2.symm)
  have B2 : h0.size ≤ b2 := Nat.le_trans (Keep.refl h0 []).1 (Nat.le_of_eq g2.symm)
  have K3 : Keep h0 h2 [] := (Keep.refl h0 []).ext E2
  have V2 : Arv Z h2 b2 k2 .byte (1 : Int32) [(.int (0 : Int32))] (.int (0 : Int32)) := (Arv.new A2 (by decide)).pad (pad_rep [] (.int (0 : Int32)) 1)
  refine own_st st2 ?_
  show own_Go p e below T2 (mkF m 12 #[.val (.ref t), .val (.int (0 : Int32)), .val (.int (1 : Int32)), .val (.int (1 : Int32)), .unset] [(.ref b2)]) _
  refine own_st (fun t_ k_ => XS.astore X2.here hx rfl (hb hby d23_12) rfl rfl (l' := #[.val (.ref t), .val (.int (0 : Int32)), .val (.int (1 : Int32)), .val (.int (1 : Int32)), .val (.ref b2)]) rfl k_) ?_
  refine own_st (fun t_ k_ => XS.aloadN X2.here hx rfl (hb hby d23_14) rfl rfl k_) ?_
  refine own_st (fun t_ k_ => XS.iloadN X2.here hx rfl (hb hby d23_15) rfl k_) ?_
  refine own_st (fun t_ k_ => XS.aload X2.here hx rfl (hb hby d23_16) rfl rfl k_) ?_
  refine own_st (fun t_ k_ => XS.iconst X2.here hx rfl (hb hby d23_18) k_) ?_
  show own_Go p e below T2 (mkF m 19 #[.val (.ref t), .val (.int (0 : Int32)), .val (.int (1 : Int32)), .val (.int (1 : Int32)), .val (.ref b2)] [(.int (0 : Int32)), (.ref b2), (.int (0 : Int32)), (.ref t)]) _
  refine own_st (fun t_ k_ => XS.aloadN X2.here hx rfl (hb hby d23_19) rfl rfl k_) ?_
  show own_Go p e below T2 (mkF m 20 #[.val (.ref t), .val (.int (0 : Int32)), .val (.int (1 : Int32)), .val (.int (1 : Int32)), .val (.ref b2)] [(.ref t), (.int (0 : Int32)), (.ref b2), (.int (0 : Int32)), (.ref t)]) _
  have f4 := (pV_t.ext E2)
  obtain ⟨cl5, Ar5, q5, Sz5, Nn5, Hh5, Gg5⟩ := id f4
  refine own_st (fun t_ k_ => X2.arraylength hx (by rw [e2]; exact Ar5.1) (State.isArrayOf_alike hZ.alike Ar5.2.1) (g := (mkF m 20 #[.val (.ref t), .val (.int (0 : Int32)), .val (.int (1 : Int32)), .val (.int (1 : Int32)), .val (.ref b2)] [(.ref t), (.int (0 : Int32)), (.ref b2), (.int (0 : Int32)), (.ref t)])) rfl rfl (hb hby d23_20) _ k_) ?_
  rw [len_of Sz5 Nn5]
  show own_Go p e below T2 (mkF m 21 #[.val (.ref t), .val (.int (0 : Int32)), .val (.int (1 : Int32)), .val (.int (1 : Int32)), .val (.ref b2)] [(.int z), (.int (0 : Int32)), (.ref b2), (.int (0 : Int32)), (.ref t)]) _
  refine own_st (fun t_ k_ => XS.iloadN X2.here hx rfl (hb hby d23_21) rfl k_) ?_
  refine own_st (fun t_ k_ => XS.isub X2.here hx rfl (hb hby d23_22) rfl k_) ?_
  show own_Go p e below T2 (mkF m 23 #[.val (.ref t), .val (.int (0 : Int32)), .val (.int (1 : Int32)), .val (.int (1 : Int32)), .val (.ref b2)] [(.int (z - (0 : Int32))), (.int (0 : Int32)), (.ref b2), (.int (0 : Int32)), (.ref t)]) _
  rw [own_sub0 z]
  show own_Go p e below T2 (mkF m 23 #[.val (.ref t), .val (.int (0 : Int32)), .val (.int (1 : Int32)), .val (.int (1 : Int32)), .val (.ref b2)] [(.int z), (.int (0 : Int32)), (.ref b2), (.int (0 : Int32)), (.ref t)]) _
  refine own_st (fun t_ k_ => XS.iloadN X2.here hx rfl (hb hby d23_23) rfl k_) ?_
  show own_Go p e below T2 (mkF m 24 #[.val (.ref t), .val (.int (0 : Int32)), .val (.int (1 : Int32)), .val (.int (1 : Int32)), .val (.ref b2)] [(.int (1 : Int32)), (.int z), (.int (0 : Int32)), (.ref b2), (.int (0 : Int32)), (.ref t)]) _
  have f6 := (Nat.le_trans Z0 E2.1)
  obtain ⟨_, _, ⟨T7, L7, k7, n7⟩, -, X7, ⟨Lc7, hQ7, l7, y7, z7⟩, st7⟩ := Jvm.LawKit.callS X2 hx (y := (⟨"java/lang/Math", "min", "(II)I"⟩ : MethodName)) hown (mvT hZ (hw _ (List.mem_of_getElem? (i := 104) rfl))) (mvT hZ (hw _ (List.mem_of_getElem? (i := 74) rfl))) (mvT hZ (hw _ (List.mem_of_getElem? (i := 75) rfl))) (mvT hZ (hw _ (List.mem_of_getElem? (i := 76) rfl))) (by decide) (backOf (W := 4) (rmMb l Z a0 hw [] z ((1 : Int32)) h2 n0 f6 hez) hZ (hw _ (List.mem_of_getElem? (i := 76) rfl)) (hw _ (List.mem_of_getElem? (i := 75) rfl)) (by decide) (by decide)) (g := (mkF m 24 #[.val (.ref t), .val (.int (0 : Int32)), .val (.int (1 : Int32)), .val (.int (1 : Int32)), .val (.ref b2)] [(.int (1 : Int32)), (.int z), (.int (0 : Int32)), (.ref b2), (.int (0 : Int32)), (.ref t)])) rfl (by rw [hml]; rfl) (argsL := [(.int z), (.int (1 : Int32))]) (rest := [(.int (0 : Int32)), (.ref b2), (.int (0 : Int32)), (.ref t)]) (lenOf pd__II_I rfl) rfl (by show 2 * 0 + _ ≤ _; exact Nat.le_of_eq rfl) (hb hby d23_24) (fun _ _ => ⟨rfl, e2, (by decide : 1 + 0 ≤ _), (by decide : 1 + 0 ≤ _)⟩)
  dsimp only [Pt.U, Pt.locs, Pt.cells, Pt.slots] at X7 l7 y7 z7 st7 hQ7
  try dsimp only [Nat.reduceAdd] at y7 z7
  rw [l7, y7, z7] at X7
  obtain ⟨rfl, Nq7, eH7⟩ := hQ7
  have N7 := Fr.app N1 Nq7
  refine own_st st7 ?_
  show own_Go p e below T7 (mkF m 27 #[.val (.ref t), .val (.int (0 : Int32)), .val (.int (1 : Int32)), .val (.int (1 : Int32)), .val (.ref b2)] [(.int (1 : Int32)), (.int (0 : Int32)), (.ref b2), (.int (0 : Int32)), (.ref t)]) _
  obtain ⟨T8, h8, L8, X8, e8, N8, Kq8, Va8, st8⟩ := cpA X7 hx hZ hown (hw _ (List.mem_of_getElem? (i := 105) rfl)) (hw _ (List.mem_of_getElem? (i := 108) rfl)) (hw _ (List.mem_of_getElem? (i := 106) rfl)) (hw _ (List.mem_of_getElem? (i := 107) rfl)) eH7 f4 V2 (Or.inl ⟨rfl, rfl⟩) (sp := (0 : Int32)) (dp := (0 : Int32)) (nn := (1 : Int32)) (by decide) (by decide) (by decide) (by show 0 + 1 ≤ _; simp only [Int32.toNatClampNeg]; omega) (by decide) (us := [(.int u0)]) rfl (by decide) N7 G2 (g := (mkF m 27 #[.val (.ref t), .val (.int (0 : Int32)), .val (.int (1 : Int32)), .val (.int (1 : Int32)), .val (.ref b2)] [(.int (1 : Int32)), (.int (0 : Int32)), (.ref b2), (.int (0 : Int32)), (.ref t)])) rfl (by rw [hml]; rfl) (rest := []) rfl (hb hby d23_27) (by decide) (W := 0) (by show 2 * 0 + _ ≤ _; exact Nat.le_of_eq rfl) (by decide +kernel)
  have V8 : Arv Z h8 b2 k2 .byte (1 : Int32) [(.int u0)] (.int (0 : Int32)) := Va8
  have K9 : Keep h0 h8 [] := K3.trans Kq8 (allS (Or.inr B2) all0)
  refine own_st st8 ?_
  show own_Go p e below T8 (mkF m 30 #[.val (.ref t), .val (.int (0 : Int32)), .val (.int (1 : Int32)), .val (.int (1 : Int32)), .val (.ref b2)] []) _
  refine own_st (fun t_ k_ => XS.aload X8.here hx rfl (hb hby d23_30) rfl rfl k_) ?_
  show own_Go p e below T8 (mkF m 32 #[.val (.ref t), .val (.int (0 : Int32)), .val (.int (1 : Int32)), .val (.int (1 : Int32)), .val (.ref b2)] [(.ref b2)]) _
  obtain ⟨fs, hr, hrun, hended, hW, hsame⟩ := X8.leave (v := some (.ref b2)) (fun h => by rw [Bd.returns] at h; cases h)
  refine own_fin (own_retR X8 hx rfl Bd.returns rfl (hb hby d23_32) hr) ⟨hrun, hended, _, _, rfl, ?_, ⟨_, rfl⟩, hW, hsame.mono (by decide) (by decide)⟩
  show Q_rmCr1 Z t kt z u0 tl h0 n0 _ T8.heap _
  rw [e8]
  exact ⟨b2, k2, rfl, N8, K9, V8, B2, G2⟩
theorem d22_0 : decode jdk_65_method_132_code 0 = .ok (.iload_n 1, 1) := by decide +kernel
theorem d22_1 : decode jdk_65_method_132_code 1 = .ok (.ifCond .ne 9, 3) := by decide +kernel
theorem d22_4 : decode jdk_65_method_132_code 4 = .ok (.iload_n 2, 1) := by decide +kernel
theorem d22_5 : decode jdk_65_method_132_code 5 = .ok (.aload_n 0, 1) := by decide +kernel
theorem d22_6 : decode jdk_65_method_132_code 6 = .ok (.arraylength, 1) := by decide +kernel
theorem d22_7 : decode jdk_65_method_132_code 7 = .ok (.if_icmp .eq 10, 3) := by decide +kernel
theorem d22_10 : decode jdk_65_method_132_code 10 = .ok (.aload_n 0, 1) := by decide +kernel
theorem d22_11 : decode jdk_65_method_132_code 11 = .ok (.iload_n 1, 1) := by decide +kernel
theorem d22_12 : decode jdk_65_method_132_code 12 = .ok (.iload_n 2, 1) := by decide +kernel
theorem d22_13 : decode jdk_65_method_132_code 13 = .ok (.invokestatic 339, 3) := by decide +kernel
theorem d22_16 : decode jdk_65_method_132_code 16 = .ok (.areturn, 1) := by decide +kernel
theorem pn_22 : plainName "java/util/Arrays" = true := by first | (simp [plainName, overriddenIn]; done) | decide +kernel
theorem pd___BII__B : parseMethodDescriptor "([BII)[B" = some ⟨[(.array .byte), .int, .int], some (.array .byte)⟩ := by decide +kernel
theorem ef_rmCp1 (m : MethodId) (x0 : Addr) (x1 : Int32) (x2 : Int32) : entryFrame m #[(.ref x0), (.int x1), (.int x2)] 3 = mkF m 0 #[.val (.ref x0), .val (.int x1), .val (.int x2)] [] := by first | (simp [entryFrame, mkF, argsToLocals, Value.category]; done) | rfl
def Q_rmCp1 (Z : State) (t : Addr) (kt : ClassId) (z : Int32) (u0 : Int32) (tl : List Value) (h0 : Heap) (n0 : Nat) (v : Option Value) (h : Heap) (L : List Loc) : Prop := ∃ b : Addr, ∃ kb : ClassId, v = some (.ref b) ∧ Fr n0 L ∧ Keep h0 h [] ∧ Arv Z h b kb .byte (1 : Int32) [(.int u0)] (.int 0) ∧ h0.size ≤ b ∧ n0 ≤ b
set_option maxRecDepth 65536 in
set_option maxHeartbeats 40000000 in
theorem rmCp1 (l : Launch) (Z : State) (a0 : Array Value) (hw : ∀ d ∈ tables_1, d.before a0 Z = true) (ws : List Jvm.Cond) (t : Addr) (kt : ClassId) (z : Int32) (u0 : Int32) (tl : List Value) (h0 : Heap) (n0 : Nat) (Z0 : n0 ≤ h0.size) (pV_t : Arv Z h0 t kt .byte z ((.int u0) :: tl) (.int 0)) (hez : ((1 : Int32) < z)) :
    MetFree l (⟨"java/util/Arrays", "copyOfRange", "([BII)[B"⟩ : MethodName) (head1 (Jvm.Cond.code (⟨"java/util/Arrays", "copyOfRange", "([BII)[B"⟩ : MethodName) jdk_65_method_132_code 3 (some (.array .byte)) :: ws) ({ frames := 2, cells := 1, slots := 1, locals := 136 } : Room)) (fun a U => a = #[(.ref t), (.int (0 : Int32)), (.int (1 : Int32))] ∧ Z.Warmed39 U.vm ∧ U.heap = h0) (fun _ _ _ _ _ => True) (fun _ U o U' => ∃ v L, o = .returned v ∧ Q_rmCp1 Z t kt z u0 tl h0 n0 v U'.heap L ∧ FrameEnd U o U' L ({ frames := 2, cells := 1, slots := 1, locals := 136 } : Room).cells ({ frames := 2, cells := 1, slots := 1, locals := 136 } : Room).slots) := by
  refine MetFree.of_bodySF (plainFor_of_name pn_22) hisR ?_
  intro p e s m args below meth c s₁ Bd hml0 hP hK
  obtain ⟨rfl, hZ, hh⟩ := hP
  have hx := Bd.exec
  have hby := Bd.bytes
  have hml : c.maxLocals = 3 := hml0
  have hown : s.vm.findClass "java/util/Arrays" = some m.cls := findClass_of_methodNamed Bd.named
  have hnm := (name_of_methodNamed Bd.named Bd.method).1
  have X0 : Stand p l e ({ frames := 2, cells := 1, slots := 1, locals := 136 } : Room) s m #[(.ref t), (.int (0 : Int32)), (.int (1 : Int32))] below meth c s₁ [] 0 0 := Stand.of_body Bd
  have e0 : s₁.heap = h0 := by rw [← hh, Bd.state]; rfl
  have N0 := Fr.nil n0
  refine own_enter (ef_rmCp1 m t ((0 : Int32)) ((1 : Int32))) ?_
  have hne : ¬ ((1 : Int32) = z) := fun q => absurd hez (by rw [← q]; decide)
  refine own_st (fun t_ k_ => XS.iloadN X0.here hx rfl (hb hby d22_0) rfl k_) ?_
  refine own_st (fun t_ k_ => XS.ifNo X0.here hx rfl (hb hby d22_1) rfl (by decide) k_) ?_
  refine own_st (fun t_ k_ => XS.iloadN X0.here hx rfl (hb hby d22_4) rfl k_) ?_
  refine own_st (fun t_ k_ => XS.aloadN X0.here hx rfl (hb hby d22_5) rfl rfl k_) ?_
  show own_Go p e below s₁ (mkF m 6 #[.val (.ref t), .val (.int (0 : Int32)), .val (.int (1 : Int32))] [(.ref t), (.int (1 : Int32))]) _
  obtain ⟨cl1, Ar1, q1, Sz1, Nn1, Hh1, Gg1⟩ := id pV_t
  refine own_st (fun t_ k_ => X0.arraylength hx (by rw [e0]; exact Ar1.1) (State.isArrayOf_alike hZ.alike Ar1.2.1) (g := (mkF m 6 #[.val (.ref t), .val (.int (0 : Int32)), .val (.int (1 : Int32))] [(.ref t), (.int (1 : Int32))])) rfl rfl (hb hby d22_6) _ k_) ?_
  rw [len_of Sz1 Nn1]
  show own_Go p e below s₁ (mkF m 7 #[.val (.ref t), .val (.int (0 : Int32)), .val (.int (1 : Int32))] [(.int z), (.int (1 : Int32))]) _
  refine own_st (fun t_ k_ => XS.icmpNo X0.here hx rfl (hb hby d22_7) rfl (feq hne).1 k_) ?_
  refine own_st (fun t_ k_ => XS.aloadN X0.here hx rfl (hb hby d22_10) rfl rfl k_) ?_
  refine own_st (fun t_ k_ => XS.iloadN X0.here hx rfl (hb hby d22_11) rfl k_) ?_
  refine own_st (fun t_ k_ => XS.iloadN X0.here hx rfl (hb hby d22_12) rfl k_) ?_
  show own_Go p e below s₁ (mkF m 13 #[.val (.ref t), .val (.int (0 : Int32)), .val (.int (1 : Int32))] [(.int (1 : Int32)), (.int (0 : Int32)), (.ref t)]) _
  obtain ⟨_, _, ⟨T2, L2, k2, n2⟩, -, X2, ⟨Lc2, hQ2, l2, y2, z2⟩, st2⟩ := Jvm.LawKit.callS X0 hx (y := (⟨"java/util/Arrays", "copyOfRangeByte", "([BII)[B"⟩ : MethodName)) hown (mvT hZ (hw _ (List.mem_of_getElem? (i := 98) rfl))) (mvT hZ (hw _ (List.mem_of_getElem? (i := 99) rfl))) (mvT hZ (hw _ (List.mem_of_getElem? (i := 96) rfl))) (mvT hZ (hw _ (List.mem_of_getElem? (i := 100) rfl))) (by decide) (backOf (W := 0) (rmCr1 l Z a0 hw [] t kt z u0 tl h0 n0 Z0 pV_t hez) hZ (hw _ (List.mem_of_getElem? (i := 100) rfl)) (hw _ (List.mem_of_getElem? (i := 96) rfl)) (by decide) (by decide)) (g := (mkF m 13 #[.val (.ref t), .val (.int (0 : Int32)), .val (.int (1 : Int32))] [(.int (1 : Int32)), (.int (0 : Int32)), (.ref t)])) rfl (by rw [hml]; rfl) (argsL := [(.ref t), (.int (0 : Int32)), (.int (1 : Int32))]) (rest := []) (lenOf pd___BII__B rfl) rfl (by show 2 * 0 + _ ≤ _; exact Nat.le_of_eq rfl) (hb hby d22_13) (fun _ _ => ⟨rfl, e0, (by decide : 0 + 1 ≤ _), (by decide : 0 + 1 ≤ _)⟩)
  dsimp only [Pt.U, Pt.locs, Pt.cells, Pt.slots] at X2 l2 y2 z2 st2 hQ2
  try dsimp only [Nat.reduceAdd] at y2 z2
  rw [l2, y2, z2] at X2
  obtain ⟨b_2, kb_2, rfl, Nq2, Kq2, q2_0, q2_1, q2_2⟩ := hQ2
  have N2 := Fr.app N0 Nq2
  have K3 : Keep h0 T2.heap [] := (Keep.refl h0 []).trans Kq2 all0
  have Bf4 : h0.size ≤ b_2 := Nat.le_trans (Keep.refl h0 []).1 q2_1
  refine own_st st2 ?_
  show own_Go p e below T2 (mkF m 16 #[.val (.ref t), .val (.int (0 : Int32)), .val (.int (1 : Int32))] [(.ref b_2)]) _
  obtain ⟨fs, hr, hrun, hended, hW, hsame⟩ := X2.leave (v := some (.ref b_2)) (fun h => by rw [Bd.returns] at h; cases h)
  refine own_fin (own_retR X2 hx rfl Bd.returns rfl (hb hby d22_16) hr) ⟨hrun, hended, _, _, rfl, ?_, ⟨_, rfl⟩, hW, hsame.mono (by decide) (by decide)⟩
  show Q_rmCp1 Z t kt z u0 tl h0 n0 _ T2.heap _
  exact ⟨b_2, kb_2, rfl, N2, K3, q2_0, Bf4, q2_2⟩
theorem d21_0 : decode jdk_43_method_47_code 0 = .ok (.iload_n 2, 1) := by decide +kernel
theorem d21_1 : decode jdk_43_method_47_code 1 = .ok (.ifCond .ne 6, 3) := by decide +kernel
theorem d21_7 : decode jdk_43_method_47_code 7 = .ok (.new 1, 3) := by decide +kernel
theorem d21_10 : decode jdk_43_method_47_code 10 = .ok (.dup, 1) := by decide +kernel
theorem d21_11 : decode jdk_43_method_47_code 11 = .ok (.aload_n 0, 1) := by decide +kernel
theorem d21_12 : decode jdk_43_method_47_code 12 = .ok (.iload_n 1, 1) := by decide +kernel
theorem d21_13 : decode jdk_43_method_47_code 13 = .ok (.iload_n 1, 1) := by decide +kernel
theorem d21_14 : decode jdk_43_method_47_code 14 = .ok (.iload_n 2, 1) := by decide +kernel
theorem d21_15 : decode jdk_43_method_47_code 15 = .ok (.iadd, 1) := by decide +kernel
theorem d21_16 : decode jdk_43_method_47_code 16 = .ok (.invokestatic 232, 3) := by decide +kernel
theorem d21_19 : decode jdk_43_method_47_code 19 = .ok (.iconst 0, 1) := by decide +kernel
theorem d21_20 : decode jdk_43_method_47_code 20 = .ok (.invokespecial 112, 3) := by decide +kernel
theorem d21_23 : decode jdk_43_method_47_code 23 = .ok (.areturn, 1) := by decide +kernel
theorem pn_21 : plainName "java/lang/StringLatin1" = true := by first | (simp [plainName, overriddenIn]; done) | decide +kernel
theorem pd___BB_V : parseMethodDescriptor "([BB)V" = some ⟨[(.array .byte), .byte], none⟩ := by decide +kernel
theorem ef_rmNs1 (m : MethodId) (x0 : Addr) (x1 : Int32) (x2 : Int32) : entryFrame m #[(.ref x0), (.int x1), (.int x2)] 3 = mkF m 0 #[.val (.ref x0), .val (.int x1), .val (.int x2)] [] := by first | (simp [entryFrame, mkF, argsToLocals, Value.category]; done) | rfl
def Q_rmNs1 (Z : State) (t : Addr) (kt : ClassId) (z : Int32) (u0 : Int32) (tl : List Value) (h0 : Heap) (n0 : Nat) (v : Option Value) (h : Heap) (L : List Loc) : Prop := ∃ y : Addr, ∃ b : Addr, ∃ kb : ClassId, v = some (.ref y) ∧ Fr n0 L ∧ Keep h0 h [] ∧ Exa Z h y "java/lang/String" ∧ Fld Z h y "java/lang/String" "value" "[B" (.ref b) ∧ Fld Z h y "java/lang/String" "coder" "B" (.int (0 : Int32)) ∧ Arv Z h b kb .byte (1 : Int32) [(.int u0)] (.int 0)
set_option maxRecDepth 65536 in
set_option maxHeartbeats 40000000 in
theorem rmNs1 (l : Launch) (Z : State) (a0 : Array Value) (hw : ∀ d ∈ tables_1, d.before a0 Z = true) (ws : List Jvm.Cond) (t : Addr) (kt : ClassId) (z : Int32) (u0 : Int32) (tl : List Value) (h0 : Heap) (n0 : Nat) (Z0 : n0 ≤ h0.size) (pV_t : Arv Z h0 t kt .byte z ((.int u0) :: tl) (.int 0)) (hez : ((1 : Int32) < z)) :
    MetFree l (⟨"java/lang/StringLatin1", "newString", "([BII)Ljava/lang/String;"⟩ : MethodName) (head1 (Jvm.Cond.code (⟨"java/lang/StringLatin1", "newString", "([BII)Ljava/lang/String;"⟩ : MethodName) jdk_43_method_47_code 3 (some (.object "java/lang/String")) :: ws) ({ frames := 3, cells := 2, slots := 5, locals := 152 } : Room)) (fun a U => a = #[(.ref t), (.int (0 : Int32)), (.int (1 : Int32))] ∧ Z.Warmed39 U.vm ∧ U.heap = h0) (fun _ _ _ _ _ => True) (fun _ U o U' => ∃ v L, o = .returned v ∧ Q_rmNs1 Z t kt z u0 tl h0 n0 v U'.heap L ∧ FrameEnd U o U' L ({ frames := 3, cells := 2, slots := 5, locals := 152 } : Room).cells ({ frames := 3, cells := 2, slots := 5, locals := 152 } : Room).slots) := by
  refine MetFree.of_bodySF (plainFor_of_name pn_21) hisR ?_
  intro p e s m args below meth c s₁ Bd hml0 hP hK
  obtain ⟨rfl, hZ, hh⟩ := hP
  have hx := Bd.exec
  have hby := Bd.bytes
  have hml : c.maxLocals = 3 := hml0
  have hown : s.vm.findClass "java/lang/StringLatin1" = some m.cls := findClass_of_methodNamed Bd.named
  have hnm := (name_of_methodNamed Bd.named Bd.method).1
  have X0 : Stand p l e ({ frames := 3, cells := 2, slots := 5, locals := 152 } : Room) s m #[(.ref t), (.int (0 : Int32)), (.int (1 : Int32))] below meth c s₁ [] 0 0 := Stand.of_body Bd
  have e0 : s₁.heap = h0 := by rw [← hh, Bd.state]; rfl
  have N0 := Fr.nil n0
  refine own_enter (ef_rmNs1 m t ((0 : Int32)) ((1 : Int32))) ?_
  refine own_st (fun t_ k_ => XS.iloadN X0.here hx rfl (hb hby d21_0) rfl k_) ?_
  refine own_st (fun t_ k_ => XS.ifYes X0.here hx rfl (pc0 := 1) (pc' := 7) rfl (hb hby d21_1) rfl (by decide) (by decide) (by decide) k_) ?_
  show own_Go p e below s₁ (mkF m 7 #[.val (.ref t), .val (.int (0 : Int32)), .val (.int (1 : Int32))] []) _
  obtain ⟨T1, h1, X1, e1, E1, A1, D1, -, st1⟩ := newO X0 hx hZ hown (hw _ (List.mem_of_getElem? (i := 93) rfl)) (hw _ (List.mem_of_getElem? (i := 9) rfl)) (hw _ (List.mem_of_getElem? (i := 10) rfl)) e0 (g := (mkF m 7 #[.val (.ref t), .val (.int (0 : Int32)), .val (.int (1 : Int32))] [])) rfl (hb hby d21_7) (by decide) (by decide)
  obtain ⟨b1, g1⟩ : ∃ z, z = h0.size := ⟨_, rfl⟩
  rw [← g1] at A1 D1 st1
  have G1 : n0 ≤ b1 := Nat.le_trans Z0 (Nat.le_of_eq g1.symm)
  have B1 : h0.size ≤ b1 := Nat.le_trans (Keep.refl h0 []).1 (Nat.le_of_eq g1.symm)
  have K2 : Keep h0 h1 [] := (Keep.refl h0 []).ext E1
  have D1_coder : Fld Z h1 b1 "java/lang/String" "coder" "B" (.int (0 : Int32)) := D1 (Or.inr (hw _ (List.mem_of_getElem? (i := 34) rfl))) (ty := .byte) (by decide)
  have D1_value : Fld Z h1 b1 "java/lang/String" "value" "[B" .null := D1 (Or.inr (hw _ (List.mem_of_getElem? (i := 36) rfl))) (ty := (.array .byte)) (by decide)
  refine own_st st1 ?_
  show own_Go p e below T1 (mkF m 10 #[.val (.ref t), .val (.int (0 : Int32)), .val (.int (1 : Int32))] [(.ref b1)]) _
  refine own_st (fun t_ k_ => XS.dup X1.here hx rfl (hb hby d21_10) rfl rfl k_) ?_
  refine own_st (fun t_ k_ => XS.aloadN X1.here hx rfl (hb hby d21_11) rfl rfl k_) ?_
  refine own_st (fun t_ k_ => XS.iloadN X1.here hx rfl (hb hby d21_12) rfl k_) ?_
  refine own_st (fun t_ k_ => XS.iloadN X1.here hx rfl (hb hby d21_13) rfl k_) ?_
  refine own_st (fun t_ k_ => XS.iloadN X1.here hx rfl (hb hby d21_14) rfl k_) ?_
  show own_Go p e below T1 (mkF m 15 #[.val (.ref t), .val (.int (0 : Int32)), .val (.int (1 : Int32))] [(.int (1 : Int32)), (.int (0 : Int32)), (.int (0 : Int32)), (.ref t), (.ref b1), (.ref b1)]) _
  refine own_st (fun t_ k_ => XS.iadd X1.here hx rfl (hb hby d21_15) rfl k_) ?_
  show own_Go p e below T1 (mkF m 16 #[.val (.ref t), .val (.int (0 : Int32)), .val (.int (1 : Int32))] [(.int (1 : Int32)), (.int (0 : Int32)), (.ref t), (.ref b1), (.ref b1)]) _
  have f3 := (Nat.le_trans Z0 E1.1)
  have f4 := (pV_t.ext E1)
  obtain ⟨_, _, ⟨T5, L5, k5, n5⟩, -, X5, ⟨Lc5, hQ5, l5, y5, z5⟩, st5⟩ := Jvm.LawKit.callS X1 hx (y := (⟨"java/util/Arrays", "copyOfRange", "([BII)[B"⟩ : MethodName)) hown (mvT hZ (hw _ (List.mem_of_getElem? (i := 94) rfl))) (mvT hZ (hw _ (List.mem_of_getElem? (i := 95) rfl))) (mvT hZ (hw _ (List.mem_of_getElem? (i := 96) rfl))) (mvT hZ (hw _ (List.mem_of_getElem? (i := 97) rfl))) (by decide) (backOf (W := 2) (rmCp1 l Z a0 hw [] t kt z u0 tl h1 n0 f3 f4 hez) hZ (hw _ (List.mem_of_getElem? (i := 97) rfl)) (hw _ (List.mem_of_getElem? (i := 96) rfl)) (by decide) (by decide)) (g := (mkF m 16 #[.val (.ref t), .val (.int (0 : Int32)), .val (.int (1 : Int32))] [(.int (1 : Int32)), (.int (0 : Int32)), (.ref t), (.ref b1), (.ref b1)])) rfl (by rw [hml]; rfl) (argsL := [(.ref t), (.int (0 : Int32)), (.int (1 : Int32))]) (rest := [(.ref b1), (.ref b1)]) (lenOf pd___BII__B rfl) rfl (by show 2 * 0 + _ ≤ _; exact Nat.le_of_eq rfl) (hb hby d21_16) (fun _ _ => ⟨rfl, e1, (by decide : 1 + 1 ≤ _), (by decide : 4 + 1 ≤ _)⟩)
  dsimp only [Pt.U, Pt.locs, Pt.cells, Pt.slots] at X5 l5 y5 z5 st5 hQ5
  try dsimp only [Nat.reduceAdd] at y5 z5
  rw [l5, y5, z5] at X5
  obtain ⟨b_5, kb_5, rfl, Nq5, Kq5, q5_0, q5_1, q5_2⟩ := hQ5
  have N5 := Fr.app N0 Nq5
  have K6 : Keep h0 T5.heap [] := K2.trans Kq5 all0
  have Bf7 : h0.size ≤ b_5 := Nat.le_trans K2.1 q5_1
  refine own_st st5 ?_
  show own_Go p e below T5 (mkF m 19 #[.val (.ref t), .val (.int (0 : Int32)), .val (.int (1 : Int32))] [(.ref b_5), (.ref b1), (.ref b1)]) _
  refine own_st (fun t_ k_ => XS.iconst X5.here hx rfl (hb hby d21_19) k_) ?_
  show own_Go p e below T5 (mkF m 20 #[.val (.ref t), .val (.int (0 : Int32)), .val (.int (1 : Int32))] [(.int (0 : Int32)), (.ref b_5), (.ref b1), (.ref b1)]) _
  have f8 := (Nat.le_trans f3 Kq5.1)
  have f9 := (A1.keep Kq5)
  have f10 := (D1_value.keep Kq5 nin0)
  have f11 := (D1_coder.keep Kq5 nin0)
  obtain ⟨_, _, ⟨T12, L12, k12, n12⟩, -, X12, ⟨Lc12, hQ12, l12, y12, z12⟩, st12⟩ := X5.specialBack hx (y := (⟨"java/lang/String", "<init>", "([BB)V"⟩ : MethodName)) rfl hown (mvT hZ (hw _ (List.mem_of_getElem? (i := 109) rfl))) (mvT hZ (hw _ (List.mem_of_getElem? (i := 110) rfl))) (mvT hZ (hw _ (List.mem_of_getElem? (i := 111) rfl))) (by decide) (backOf (W := 1) (rmIb l Z a0 hw [] b1 b_5 .null ((.int (0 : Int32))) T5.heap n0 f8 f9 f10 f11 G1) hZ (hw _ (List.mem_of_getElem? (i := 111) rfl)) (hw _ (List.mem_of_getElem? (i := 10) rfl)) (by decide) (by decide)) (g := (mkF m 20 #[.val (.ref t), .val (.int (0 : Int32)), .val (.int (1 : Int32))] [(.int (0 : Int32)), (.ref b_5), (.ref b1), (.ref b1)])) rfl (by rw [hml]; rfl) (Steps.refl _) (a := b1) (argsL := [(.ref b_5), (.int (0 : Int32))]) (rest := [(.ref b1)]) (lenOf pd___BB_V rfl) rfl (by show 2 * 0 + _ ≤ _; exact Nat.le_of_eq rfl) (hb hby d21_20) (fun _ _ => ⟨rfl, rfl, (by decide : 2 + 0 ≤ _), (by decide : 5 + 0 ≤ _)⟩)
  dsimp only [Pt.U, Pt.locs, Pt.cells, Pt.slots] at X12 l12 y12 z12 st12 hQ12
  try dsimp only [Nat.reduceAdd] at y12 z12
  rw [l12, y12, z12] at X12
  obtain ⟨rfl, Nq12, Kq12, q12_0, q12_1, q12_2⟩ := hQ12
  have N12 := Fr.app N5 Nq12
  have K13 : Keep h0 T12.heap [] := K6.trans Kq12 (allS (Or.inr B1) all0)
  refine own_tr st12 ?_
  show own_Go p e below T12 (mkF m 23 #[.val (.ref t), .val (.int (0 : Int32)), .val (.int (1 : Int32))] [(.ref b1)]) _
  have f14 := (q5_0.keep Kq12 (ninS (Ne.symm (Nat.ne_of_lt (Nat.lt_of_lt_of_le A1.lt q5_1))) nin0))
  obtain ⟨fs, hr, hrun, hended, hW, hsame⟩ := X12.leave (v := some (.ref b1)) (fun h => by rw [Bd.returns] at h; cases h)
  refine own_fin (own_retR X12 hx rfl Bd.returns rfl (hb hby d21_23) hr) ⟨hrun, hended, _, _, rfl, ?_, ⟨_, rfl⟩, hW, hsame.mono (by decide) (by decide)⟩
  show Q_rmNs1 Z t kt z u0 tl h0 n0 _ T12.heap _
  exact ⟨b1, b_5, kb_5, rfl, N12, K13, q12_0, q12_1, q12_2, f14⟩
theorem d18_0 : decode jdk_42_method_92_code 0 = .ok (.aload_n 0, 1) := by decide +kernel
theorem d18_1 : decode jdk_42_method_92_code 1 = .ok (.invokevirtual 505, 3) := by decide +kernel
theorem d18_4 : decode jdk_42_method_92_code 4 = .ok (.istore_n 3, 1) := by decide +kernel
theorem d18_5 : decode jdk_42_method_92_code 5 = .ok (.iload_n 1, 1) := by decide +kernel
theorem d18_6 : decode jdk_42_method_92_code 6 = .ok (.iload_n 2, 1) := by decide +kernel
theorem d18_7 : decode jdk_42_method_92_code 7 = .ok (.iload_n 3, 1) := by decide +kernel
theorem d18_8 : decode jdk_42_method_92_code 8 = .ok (.invokestatic 521, 3) := by decide +kernel
theorem d18_11 : decode jdk_42_method_92_code 11 = .ok (.iload_n 1, 1) := by decide +kernel
theorem d18_12 : decode jdk_42_method_92_code 12 = .ok (.ifCond .ne 10, 3) := by decide +kernel
theorem d18_15 : decode jdk_42_method_92_code 15 = .ok (.iload_n 2, 1) := by decide +kernel
theorem d18_16 : decode jdk_42_method_92_code 16 = .ok (.iload_n 3, 1) := by decide +kernel
theorem d18_17 : decode jdk_42_method_92_code 17 = .ok (.if_icmp .ne 5, 3) := by decide +kernel
theorem d18_22 : decode jdk_42_method_92_code 22 = .ok (.iload_n 2, 1) := by decide +kernel
theorem d18_23 : decode jdk_42_method_92_code 23 = .ok (.iload_n 1, 1) := by decide +kernel
theorem d18_24 : decode jdk_42_method_92_code 24 = .ok (.isub, 1) := by decide +kernel
theorem d18_25 : decode jdk_42_method_92_code 25 = .ok (.istore 4, 2) := by decide +kernel
theorem d18_27 : decode jdk_42_method_92_code 27 = .ok (.aload_n 0, 1) := by decide +kernel
theorem d18_28 : decode jdk_42_method_92_code 28 = .ok (.invokevirtual 492, 3) := by decide +kernel
theorem d18_31 : decode jdk_42_method_92_code 31 = .ok (.ifCond .eq 16, 3) := by decide +kernel
theorem d18_34 : decode jdk_42_method_92_code 34 = .ok (.aload_n 0, 1) := by decide +kernel
theorem d18_35 : decode jdk_42_method_92_code 35 = .ok (.getfield 9, 3) := by decide +kernel
theorem d18_38 : decode jdk_42_method_92_code 38 = .ok (.iload_n 1, 1) := by decide +kernel
theorem d18_39 : decode jdk_42_method_92_code 39 = .ok (.iload 4, 2) := by decide +kernel
theorem d18_41 : decode jdk_42_method_92_code 41 = .ok (.invokestatic 685, 3) := by decide +kernel
theorem d18_44 : decode jdk_42_method_92_code 44 = .ok (.goto 13, 3) := by decide +kernel
theorem d18_57 : decode jdk_42_method_92_code 57 = .ok (.areturn, 1) := by decide +kernel
theorem pn_18 : plainName "java/lang/String" = true := by first | (simp [plainName, overriddenIn]; done) | decide +kernel
theorem pd___I : parseMethodDescriptor "()I" = some ⟨[], some .int⟩ := by decide +kernel
theorem pd__III_V : parseMethodDescriptor "(III)V" = some ⟨[.int, .int, .int], none⟩ := by decide +kernel
theorem pd___Z : parseMethodDescriptor "()Z" = some ⟨[], some .boolean⟩ := by decide +kernel
theorem pd___BII_Ljava_lang_String_ : parseMethodDescriptor "([BII)Ljava/lang/String;" = some ⟨[(.array .byte), .int, .int], some (.object "java/lang/String")⟩ := by decide +kernel
theorem ef_rmSb1 (m : MethodId) (x0 : Addr) (x1 : Int32) (x2 : Int32) : entryFrame m #[(.ref x0), (.int x1), (.int x2)] 5 = mkF m 0 #[.val (.ref x0), .val (.int x1), .val (.int x2), .unset, .unset] [] := by first | (simp [entryFrame, mkF, argsToLocals, Value.category]; done) | rfl
def Q_rmSb1 (Z : State) (x : Addr) (tx : Addr) (kx : ClassId) (z : Int32) (u0 : Int32) (tl : List Value) (zc : Int32) (fm : Value) (h0 : Heap) (n0 : Nat) (v : Option Value) (h : Heap) (L : List Loc) : Prop := ∃ y : Addr, ∃ b : Addr, ∃ kb : ClassId, v = some (.ref y) ∧ Fr n0 L ∧ Keep h0 h [] ∧ Exa Z h y "java/lang/String" ∧ Fld Z h y "java/lang/String" "value" "[B" (.ref b) ∧ Fld Z h y "java/lang/String" "coder" "B" (.int (0 : Int32)) ∧ Arv Z h b kb .byte (1 : Int32) [(.int u0)] (.int 0)
set_option maxRecDepth 65536 in
set_option maxHeartbeats 40000000 in
theorem rmSb1 (l : Launch) (Z : State) (a0 : Array Value) (hw : ∀ d ∈ tables_1, d.before a0 Z = true) (ws : List Jvm.Cond) (x : Addr) (tx : Addr) (kx : ClassId) (z : Int32) (u0 : Int32) (tl : List Value) (zc : Int32) (fm : Value) (h0 : Heap) (n0 : Nat) (Z0 : n0 ≤ h0.size) (pE_x : Exa Z h0 x "java/lang/String") (pF_value_x : Fld Z h0 x "java/lang/String" "value" "[B" (.ref tx)) (pF_coder_x : Fld Z h0 x "java/lang/String" "coder" "B" (.int (0 : Int32))) (pV_tx : Arv Z h0 tx kx .byte z ((.int u0) :: tl) (.int 0)) (hez : ((1 : Int32) < z)) (pS_COMPACT_STRINGS : Sta Z Z.heap "java/lang/String" "COMPACT_STRINGS" "Z" (.int zc)) (pP5 : (¬ (zc = (0 : Int32)))) (pS_SIOOBE_FORMATTER : Sta Z Z.heap "jdk/internal/util/Preconditions" "SIOOBE_FORMATTER" "Ljava/util/function/BiFunction;" fm) (rfm : (fm.isRef = true)) (pO : Old Z n0 h0) :
    MetFree l (⟨"java/lang/String", "substring", "(II)Ljava/lang/String;"⟩ : MethodName) (head1 (Jvm.Cond.code (⟨"java/lang/String", "substring", "(II)Ljava/lang/String;"⟩ : MethodName) jdk_42_method_92_code 5 (some (.object "java/lang/String")) :: ws) ({ frames := 4, cells := 2, slots := 5, locals := 166 } : Room)) (fun a U => a = #[(.ref x), (.int (0 : Int32)), (.int (1 : Int32))] ∧ Z.Warmed39 U.vm ∧ U.heap = h0) (fun _ _ _ _ _ => True) (fun _ U o U' => ∃ v L, o = .returned v ∧ Q_rmSb1 Z x tx kx z u0 tl zc fm h0 n0 v U'.heap L ∧ FrameEnd U o U' L ({ frames := 4, cells := 2, slots := 5, locals := 166 } : Room).cells ({ frames := 4, cells := 2, slots := 5, locals := 166 } : Room).slots) := by
  refine MetFree.of_bodySF (plainFor_of_name pn_18) hisR ?_
  intro p e s m args below meth c s₁ Bd hml0 hP hK
  obtain ⟨rfl, hZ, hh⟩ := hP
  have hx := Bd.exec
  have hby := Bd.bytes
  have hml : c.maxLocals = 5 := hml0
  have hown : s.vm.findClass "java/lang/String" = some m.cls := findClass_of_methodNamed Bd.named
  have hnm := (name_of_methodNamed Bd.named Bd.method).1
  have X0 : Stand p l e ({ frames := 4, cells := 2, slots := 5, locals := 166 } : Room) s m #[(.ref x), (.int (0 : Int32)), (.int (1 : Int32))] below meth c s₁ [] 0 0 := Stand.of_body Bd
  have e0 : s₁.heap = h0 := by rw [← hh, Bd.state]; rfl
  have N0 := Fr.nil n0
  refine own_enter (ef_rmSb1 m x ((0 : Int32)) ((1 : Int32))) ?_
  have hne : ¬ ((1 : Int32) = z) := fun q => absurd hez (by rw [← q]; decide)
  have hle : ¬ (z < (1 : Int32)) := by rw [Int32.lt_iff_toInt_lt] at hez ⊢; omega
  refine own_st (fun t_ k_ => XS.aloadN X0.here hx rfl (hb hby d18_0) rfl rfl k_) ?_
  show own_Go p e below s₁ (mkF m 1 #[.val (.ref x), .val (.int (0 : Int32)), .val (.int (1 : Int32)), .unset, .unset] [(.ref x)]) _
  obtain ⟨cq1, kq1, qa1, qb1, qc1⟩ := isOf hZ e0 pE_x
  obtain ⟨_, _, ⟨T1, L1, k1, n1⟩, -, X1, ⟨Lc1, hQ1, l1, y1, z1⟩, st1⟩ := X0.virtualBack hx (y := (⟨"java/lang/String", "length", "()I"⟩ : MethodName)) (z := (⟨"java/lang/String", "length", "()I"⟩ : MethodName)) hown (mvT hZ (hw _ (List.mem_of_getElem? (i := 46) rfl))) (mvT hZ (hw _ (List.mem_of_getElem? (i := 47) rfl))) (notFace_of_selects (args := #[]) (mvT hZ (hw _ (List.mem_of_getElem? (i := 49) rfl)))) (mvT hZ (hw _ (List.mem_of_getElem? (i := 49) rfl))) (mvT hZ (hw _ (List.mem_of_getElem? (i := 48) rfl))) (by decide) (backOf (W := 0) (rmLe l Z a0 hw [] x tx kx z (((.int u0) :: tl)) zc h0 n0 Z0 pE_x pF_value_x pF_coder_x pV_tx pS_COMPACT_STRINGS pP5 pO) hZ (hw _ (List.mem_of_getElem? (i := 50) rfl)) (hw _ (List.mem_of_getElem? (i := 10) rfl)) (by decide) (by decide)) qa1 qc1 (g := (mkF m 1 #[.val (.ref x), .val (.int (0 : Int32)), .val (.int (1 : Int32)), .unset, .unset] [(.ref x)])) rfl (by rw [hml]; rfl) (Steps.refl _) (argsL := []) (rest := []) (lenOf pd___I rfl) rfl (by show 2 * 0 + _ ≤ _; exact Nat.le_of_eq rfl) (hb hby d18_1) (fun _ _ => ⟨rfl, e0, (by decide : 0 + 0 ≤ _), (by decide : 0 + 0 ≤ _)⟩)
  dsimp only [Pt.U, Pt.locs, Pt.cells, Pt.slots] at X1 l1 y1 z1 st1 hQ1
  try dsimp only [Nat.reduceAdd] at y1 z1
  rw [l1, y1, z1] at X1
  obtain ⟨rfl, Nq1, eH1⟩ := hQ1
  have N1 := Fr.app N0 Nq1
  refine own_tr st1 ?_
  show own_Go p e below T1 (mkF m 4 #[.val (.ref x), .val (.int (0 : Int32)), .val (.int (1 : Int32)), .unset, .unset] [(.int z)]) _
  refine own_st (fun t_ k_ => XS.istoreN X1.here hx rfl (hb hby d18_4) rfl (l' := #[.val (.ref x), .val (.int (0 : Int32)), .val (.int (1 : Int32)), .val (.int z), .unset]) rfl k_) ?_
  refine own_st (fun t_ k_ => XS.iloadN X1.here hx rfl (hb hby d18_5) rfl k_) ?_
  refine own_st (fun t_ k_ => XS.iloadN X1.here hx rfl (hb hby d18_6) rfl k_) ?_
  refine own_st (fun t_ k_ => XS.iloadN X1.here hx rfl (hb hby d18_7) rfl k_) ?_
  show own_Go p e below T1 (mkF m 8 #[.val (.ref x), .val (.int (0 : Int32)), .val (.int (1 : Int32)), .val (.int z), .unset] [(.int z), (.int (1 : Int32)), (.int (0 : Int32))]) _
  obtain ⟨_, _, ⟨T2, L2, k2, n2⟩, -, X2, ⟨Lc2, hQ2, l2, y2, z2⟩, st2⟩ := Jvm.LawKit.callS X1 hx (y := (⟨"java/lang/String", "checkBoundsBeginEnd", "(III)V"⟩ : MethodName)) hown (mvT hZ (hw _ (List.mem_of_getElem? (i := 82) rfl))) (mvT hZ (hw _ (List.mem_of_getElem? (i := 83) rfl))) (mvT hZ (hw _ (List.mem_of_getElem? (i := 10) rfl))) (mvT hZ (hw _ (List.mem_of_getElem? (i := 84) rfl))) (by decide) (backOf (W := 0) (rmCb l Z a0 hw [] ((1 : Int32)) z fm h0 n0 Z0 (by decide) hle pS_SIOOBE_FORMATTER rfm pO) hZ (hw _ (List.mem_of_getElem? (i := 84) rfl)) (hw _ (List.mem_of_getElem? (i := 10) rfl)) (by decide) (by decide)) (g := (mkF m 8 #[.val (.ref x), .val (.int (0 : Int32)), .val (.int (1 : Int32)), .val (.int z), .unset] [(.int z), (.int (1 : Int32)), (.int (0 : Int32))])) rfl (by rw [hml]; rfl) (argsL := [(.int (0 : Int32)), (.int (1 : Int32)), (.int z)]) (rest := []) (lenOf pd__III_V rfl) rfl (by show 2 * 0 + _ ≤ _; exact Nat.le_of_eq rfl) (hb hby d18_8) (fun _ _ => ⟨rfl, eH1, (by decide : 0 + 0 ≤ _), (by decide : 0 + 0 ≤ _)⟩)
  dsimp only [Pt.U, Pt.locs, Pt.cells, Pt.slots] at X2 l2 y2 z2 st2 hQ2
  try dsimp only [Nat.reduceAdd] at y2 z2
  rw [l2, y2, z2] at X2
  obtain ⟨rfl, Nq2, eH2⟩ := hQ2
  have N2 := Fr.app N1 Nq2
  refine own_st st2 ?_
  show own_Go p e below T2 (mkF m 11 #[.val (.ref x), .val (.int (0 : Int32)), .val (.int (1 : Int32)), .val (.int z), .unset] []) _
  refine own_st (fun t_ k_ => XS.iloadN X2.here hx rfl (hb hby d18_11) rfl k_) ?_
  refine own_st (fun t_ k_ => XS.ifNo X2.here hx rfl (hb hby d18_12) rfl (by decide) k_) ?_
  refine own_st (fun t_ k_ => XS.iloadN X2.here hx rfl (hb hby d18_15) rfl k_) ?_
  refine own_st (fun t_ k_ => XS.iloadN X2.here hx rfl (hb hby d18_16) rfl k_) ?_
  refine own_st (fun t_ k_ => XS.icmpYes X2.here hx rfl (pc0 := 17) (pc' := 22) rfl (hb hby d18_17) rfl (feq hne).2 (by decide) (by decide) k_) ?_
  show own_Go p e below T2 (mkF m 22 #[.val (.ref x), .val (.int (0 : Int32)), .val (.int (1 : Int32)), .val (.int z), .unset] []) _
  refine own_st (fun t_ k_ => XS.iloadN X2.here hx rfl (hb hby d18_22) rfl k_) ?_
  refine own_st (fun t_ k_ => XS.iloadN X2.here hx rfl (hb hby d18_23) rfl k_) ?_
  refine own_st (fun t_ k_ => XS.isub X2.here hx rfl (hb hby d18_24) rfl k_) ?_
  refine own_st (fun t_ k_ => XS.istore X2.here hx rfl (hb hby d18_25) rfl (l' := #[.val (.ref x), .val (.int (0 : Int32)), .val (.int (1 : Int32)), .val (.int z), .val (.int (1 : Int32))]) rfl k_) ?_
  refine own_st (fun t_ k_ => XS.aloadN X2.here hx rfl (hb hby d18_27) rfl rfl k_) ?_
  show own_Go p e below T2 (mkF m 28 #[.val (.ref x), .val (.int (0 : Int32)), .val (.int (1 : Int32)), .val (.int z), .val (.int (1 : Int32))] [(.ref x)]) _
  obtain ⟨cq3, kq3, qa3, qb3, qc3⟩ := isOf hZ eH2 pE_x
  obtain ⟨_, _, ⟨T3, L3, k3, n3⟩, -, X3, ⟨Lc3, hQ3, l3, y3, z3⟩, st3⟩ := X2.virtualBack hx (y := (⟨"java/lang/String", "isLatin1", "()Z"⟩ : MethodName)) (z := (⟨"java/lang/String", "isLatin1", "()Z"⟩ : MethodName)) hown (mvT hZ (hw _ (List.mem_of_getElem? (i := 61) rfl))) (mvT hZ (hw _ (List.mem_of_getElem? (i := 62) rfl))) (notFace_of_selects (args := #[]) (mvT hZ (hw _ (List.mem_of_getElem? (i := 64) rfl)))) (mvT hZ (hw _ (List.mem_of_getElem? (i := 64) rfl))) (mvT hZ (hw _ (List.mem_of_getElem? (i := 63) rfl))) (by decide) (backOf (W := 0) (rmIl l Z a0 hw [] x zc h0 n0 Z0 pE_x pF_coder_x pS_COMPACT_STRINGS pP5 pO) hZ (hw _ (List.mem_of_getElem? (i := 65) rfl)) (hw _ (List.mem_of_getElem? (i := 10) rfl)) (by decide) (by decide)) qa3 qc3 (g := (mkF m 28 #[.val (.ref x), .val (.int (0 : Int32)), .val (.int (1 : Int32)), .val (.int z), .val (.int (1 : Int32))] [(.ref x)])) rfl (by rw [hml]; rfl) (Steps.refl _) (argsL := []) (rest := []) (lenOf pd___Z rfl) rfl (by show 2 * 0 + _ ≤ _; exact Nat.le_of_eq rfl) (hb hby d18_28) (fun _ _ => ⟨rfl, eH2, (by decide : 0 + 0 ≤ _), (by decide : 0 + 0 ≤ _)⟩)
  dsimp only [Pt.U, Pt.locs, Pt.cells, Pt.slots] at X3 l3 y3 z3 st3 hQ3
  try dsimp only [Nat.reduceAdd] at y3 z3
  rw [l3, y3, z3] at X3
  obtain ⟨rfl, Nq3, eH3⟩ := hQ3
  have N3 := Fr.app N2 Nq3
  refine own_tr st3 ?_
  show own_Go p e below T3 (mkF m 31 #[.val (.ref x), .val (.int (0 : Int32)), .val (.int (1 : Int32)), .val (.int z), .val (.int (1 : Int32))] [(.int (1 : Int32))]) _
  refine own_st (fun t_ k_ => XS.ifNo X3.here hx rfl (hb hby d18_31) rfl (by decide) k_) ?_
  refine own_st (fun t_ k_ => XS.aloadN X3.here hx rfl (hb hby d18_34) rfl rfl k_) ?_
  show own_Go p e below T3 (mkF m 35 #[.val (.ref x), .val (.int (0 : Int32)), .val (.int (1 : Int32)), .val (.int z), .val (.int (1 : Int32))] [(.ref x)]) _
  obtain ⟨T4, X4, e4, st4⟩ := getF X3 hx hZ hown (host := "") (Or.inl (hw _ (List.mem_of_getElem? (i := 35) rfl))) Via.refl eH3 pF_value_x (g := (mkF m 35 #[.val (.ref x), .val (.int (0 : Int32)), .val (.int (1 : Int32)), .val (.int z), .val (.int (1 : Int32))] [(.ref x)])) rfl rfl (hb hby d18_35)
  refine own_st st4 ?_
  show own_Go p e below T4 (mkF m 38 #[.val (.ref x), .val (.int (0 : Int32)), .val (.int (1 : Int32)), .val (.int z), .val (.int (1 : Int32))] [(.ref tx)]) _
  refine own_st (fun t_ k_ => XS.iloadN X4.here hx rfl (hb hby d18_38) rfl k_) ?_
  refine own_st (fun t_ k_ => XS.iload X4.here hx rfl (hb hby d18_39) rfl k_) ?_
  show own_Go p e below T4 (mkF m 41 #[.val (.ref x), .val (.int (0 : Int32)), .val (.int (1 : Int32)), .val (.int z), .val (.int (1 : Int32))] [(.int (1 : Int32)), (.int (0 : Int32)), (.ref tx)]) _
  obtain ⟨_, _, ⟨T5, L5, k5, n5⟩, -, X5, ⟨Lc5, hQ5, l5, y5, z5⟩, st5⟩ := Jvm.LawKit.callS X4 hx (y := (⟨"java/lang/StringLatin1", "newString", "([BII)Ljava/lang/String;"⟩ : MethodName)) hown (mvT hZ (hw _ (List.mem_of_getElem? (i := 90) rfl))) (mvT hZ (hw _ (List.mem_of_getElem? (i := 91) rfl))) (mvT hZ (hw _ (List.mem_of_getElem? (i := 68) rfl))) (mvT hZ (hw _ (List.mem_of_getElem? (i := 92) rfl))) (by decide) (backOf (W := 0) (rmNs1 l Z a0 hw [] tx kx z u0 tl h0 n0 Z0 pV_tx hez) hZ (hw _ (List.mem_of_getElem? (i := 92) rfl)) (hw _ (List.mem_of_getElem? (i := 68) rfl)) (by decide) (by decide)) (g := (mkF m 41 #[.val (.ref x), .val (.int (0 : Int32)), .val (.int (1 : Int32)), .val (.int z), .val (.int (1 : Int32))] [(.int (1 : Int32)), (.int (0 : Int32)), (.ref tx)])) rfl (by rw [hml]; rfl) (argsL := [(.ref tx), (.int (0 : Int32)), (.int (1 : Int32))]) (rest := []) (lenOf pd___BII_Ljava_lang_String_ rfl) rfl (by show 2 * 0 + _ ≤ _; exact Nat.le_of_eq rfl) (hb hby d18_41) (fun _ _ => ⟨rfl, e4, (by decide : 0 + 2 ≤ _), (by decide : 0 + 5 ≤ _)⟩)
  dsimp only [Pt.U, Pt.locs, Pt.cells, Pt.slots] at X5 l5 y5 z5 st5 hQ5
  try dsimp only [Nat.reduceAdd] at y5 z5
  rw [l5, y5, z5] at X5
  obtain ⟨y_5, b_5, kb_5, rfl, Nq5, Kq5, q5_0, q5_1, q5_2, q5_3⟩ := hQ5
  have N5 := Fr.app N3 Nq5
  have K6 : Keep h0 T5.heap [] := (Keep.refl h0 []).trans Kq5 all0
  refine own_st st5 ?_
  show own_Go p e below T5 (mkF m 44 #[.val (.ref x), .val (.int (0 : Int32)), .val (.int (1 : Int32)), .val (.int z), .val (.int (1 : Int32))] [(.ref y_5)]) _
  refine own_st (fun t_ k_ => XS.goto X5.here hx rfl (pc0 := 44) (pc' := 57) rfl (hb hby d18_44) (by decide) (by decide) k_) ?_
  show own_Go p e below T5 (mkF m 57 #[.val (.ref x), .val (.int (0 : Int32)), .val (.int (1 : Int32)), .val (.int z), .val (.int (1 : Int32))] [(.ref y_5)]) _
  obtain ⟨fs, hr, hrun, hended, hW, hsame⟩ := X5.leave (v := some (.ref y_5)) (fun h => by rw [Bd.returns] at h; cases h)
  refine own_fin (own_retR X5 hx rfl Bd.returns rfl (hb hby d18_57) hr) ⟨hrun, hended, _, _, rfl, ?_, ⟨_, rfl⟩, hW, hsame.mono (by decide) (by decide)⟩
  show Q_rmSb1 Z x tx kx z u0 tl zc fm h0 n0 _ T5.heap _
  exact ⟨y_5, b_5, kb_5, rfl, N5, K6, q5_0, q5_1, q5_2, q5_3⟩
theorem ef_rmCr2 (m : MethodId) (x0 : Addr) (x1 : Int32) (x2 : Int32) : entryFrame m #[(.ref x0), (.int x1), (.int x2)] 5 = mkF m 0 #[.val (.ref x0), .val (.int x1), .val (.int x2), .unset, .unset] [] := by first | (simp [entryFrame, mkF, argsToLocals, Value.category]; done) | rfl
def Q_rmCr2 (Z : State) (t : Addr) (kt : ClassId) (z : Int32) (u0 : Int32) (u1 : Int32) (tl : List Value) (h0 : Heap) (n0 : Nat) (v : Option Value) (h : Heap) (L : List Loc) : Prop := ∃ b : Addr, ∃ kb : ClassId, v = some (.ref b) ∧ Fr n0 L ∧ Keep h0 h [] ∧ Arv Z h b kb .byte (2 : Int32) [(.int u0), (.int u1)] (.int 0) ∧ h0.size ≤ b ∧ n0 ≤ b
set_option maxRecDepth 65536 in
set_option maxHeartbeats 40000000 in
theorem rmCr2 (l : Launch) (Z : State) (a0 : Array Value) (hw : ∀ d ∈ tables_1, d.before a0 Z = true) (ws : List Jvm.Cond) (t : Addr) (kt : ClassId) (z : Int32) (u0 : Int32) (u1 : Int32) (tl : List Value) (h0 : Heap) (n0 : Nat) (Z0 : n0 ≤ h0.size) (pV_t : Arv Z h0 t kt .byte z ((.int u0) :: (.int u1) :: tl) (.int 0)) (hez : ((2 : Int32) < z)) :
    MetFree l (⟨"java/util/Arrays", "copyOfRangeByte", "([BII)[B"⟩ : MethodName) (head1 (Jvm.Cond.code (⟨"java/util/Arrays", "copyOfRangeByte", "([BII)[B"⟩ : MethodName) jdk_65_method_133_code 5 (some (.array .byte)) :: ws) ({ frames := 1, cells := 1, slots := 2, locals := 120 } : Room)) (fun a U => a = #[(.ref t), (.int (0 : Int32)), (.int (2 : Int32))] ∧ Z.Warmed39 U.vm ∧ U.heap = h0) (fun _ _ _ _ _ => True) (fun _ U o U' => ∃ v L, o = .returned v ∧ Q_rmCr2 Z t kt z u0 u1 tl h0 n0 v U'.heap L ∧ FrameEnd U o U' L ({ frames := 1, cells := 1, slots := 2, locals := 120 } : Room).cells ({ frames := 1, cells := 1, slots := 2, locals := 120 } : Room).slots) := by
  refine MetFree.of_bodySF (plainFor_of_name pn_23) hisR ?_
  intro p e s m args below meth c s₁ Bd hml0 hP hK
  obtain ⟨rfl, hZ, hh⟩ := hP
  have hx := Bd.exec
  have hby := Bd.bytes
  have hml : c.maxLocals = 5 := hml0
  have hown : s.vm.findClass "java/util/Arrays" = some m.cls := findClass_of_methodNamed Bd.named
  have hnm := (name_of_methodNamed Bd.named Bd.method).1
  have X0 : Stand p l e ({ frames := 1, cells := 1, slots := 2, locals := 120 } : Room) s m #[(.ref t), (.int (0 : Int32)), (.int (2 : Int32))] below meth c s₁ [] 0 0 := Stand.of_body Bd
  have e0 : s₁.heap = h0 := by rw [← hh, Bd.state]; rfl
  have N0 := Fr.nil n0
  refine own_enter (ef_rmCr2 m t ((0 : Int32)) ((2 : Int32))) ?_
  have hzn : 2 < z.toInt := by rw [Int32.lt_iff_toInt_lt] at hez; exact hez
  refine own_st (fun t_ k_ => XS.iloadN X0.here hx rfl (hb hby d23_0) rfl k_) ?_
  refine own_st (fun t_ k_ => XS.iloadN X0.here hx rfl (hb hby d23_1) rfl k_) ?_
  show own_Go p e below s₁ (mkF m 2 #[.val (.ref t), .val (.int (0 : Int32)), .val (.int (2 : Int32)), .unset, .unset] [(.int (2 : Int32)), (.int (0 : Int32))]) _
  obtain ⟨_, _, ⟨T1, L1, k1, n1⟩, -, X1, ⟨Lc1, hQ1, l1, y1, z1⟩, st1⟩ := Jvm.LawKit.callS X0 hx (y := (⟨"java/util/Arrays", "checkLength", "(II)V"⟩ : MethodName)) hown (mvT hZ (hw _ (List.mem_of_getElem? (i := 101) rfl))) (mvT hZ (hw _ (List.mem_of_getElem? (i := 102) rfl))) (mvT hZ (hw _ (List.mem_of_getElem? (i := 96) rfl))) (mvT hZ (hw _ (List.mem_of_getElem? (i := 103) rfl))) (by decide) (backOf (W := 0) (rmCl l Z a0 hw [] ((0 : Int32)) ((2 : Int32)) h0 n0 Z0 (by decide)) hZ (hw _ (List.mem_of_getElem? (i := 103) rfl)) (hw _ (List.mem_of_getElem? (i := 96) rfl)) (by decide) (by decide)) (g := (mkF m 2 #[.val (.ref t), .val (.int (0 : Int32)), .val (.int (2 : Int32)), .unset, .unset] [(.int (2 : Int32)), (.int (0 : Int32))])) rfl (by rw [hml]; rfl) (argsL := [(.int (0 : Int32)), (.int (2 : Int32))]) (rest := []) (lenOf pd__II_V rfl) rfl (by show 2 * 0 + _ ≤ _; exact Nat.le_of_eq rfl) (hb hby d23_2) (fun _ _ => ⟨rfl, e0, (by decide : 0 + 0 ≤ _), (by decide : 0 + 0 ≤ _)⟩)
  dsimp only [Pt.U, Pt.locs, Pt.cells, Pt.slots] at X1 l1 y1 z1 st1 hQ1
  try dsimp only [Nat.reduceAdd] at y1 z1
  rw [l1, y1, z1] at X1
  obtain ⟨rfl, Nq1, eH1⟩ := hQ1
  have N1 := Fr.app N0 Nq1
  refine own_st st1 ?_
  show own_Go p e below T1 (mkF m 5 #[.val (.ref t), .val (.int (0 : Int32)), .val (.int (2 : Int32)), .unset, .unset] []) _
  refine own_st (fun t_ k_ => XS.iloadN X1.here hx rfl (hb hby d23_5) rfl k_) ?_
  refine own_st (fun t_ k_ => XS.iloadN X1.here hx rfl (hb hby d23_6) rfl k_) ?_
  refine own_st (fun t_ k_ => XS.isub X1.here hx rfl (hb hby d23_7) rfl k_) ?_
  refine own_st (fun t_ k_ => XS.istoreN X1.here hx rfl (hb hby d23_8) rfl (l' := #[.val (.ref t), .val (.int (0 : Int32)), .val (.int (2 : Int32)), .val (.int (2 : Int32)), .unset]) rfl k_) ?_
  refine own_st (fun t_ k_ => XS.iloadN X1.here hx rfl (hb hby d23_9) rfl k_) ?_
  show own_Go p e below T1 (mkF m 10 #[.val (.ref t), .val (.int (0 : Int32)), .val (.int (2 : Int32)), .val (.int (2 : Int32)), .unset] [(.int (2 : Int32))]) _
  obtain ⟨T2, h2, k2, X2, e2, E2, A2, st2⟩ := newP X1 hx hZ (hw _ (List.mem_of_getElem? (i := 26) rfl)) eH1 (g := (mkF m 10 #[.val (.ref t), .val (.int (0 : Int32)), .val (.int (2 : Int32)), .val (.int (2 : Int32)), .unset] [(.int (2 : Int32))])) rfl (hb hby d23_10) rfl (by decide) (cap := 2) (by decide) (by decide) (by decide) (by decide)
  obtain ⟨b2, g2⟩ : ∃ z, z = h0.size := ⟨_, rfl⟩
  rw [← g2] at A2 st2
  have G2 : n0 ≤ b2 := Nat.le_trans Z0 (Nat.le_of_eq g2.symm)
  have B2 : h0.size ≤ b2 := Nat.le_trans (Keep.refl h0 []).1 (Nat.le_of_eq g2.symm)
  have K3 : Keep h0 h2 [] := (Keep.refl h0 []).ext E2
  have V2 : Arv Z h2 b2 k2 .byte (2 : Int32) [(.int (0 : Int32)), (.int (0 : Int32))] (.int (0 : Int32)) := (Arv.new A2 (by decide)).pad (pad_rep [] (.int (0 : Int32)) 2)
  refine own_st st2 ?_
  show own_Go p e below T2 (mkF m 12 #[.val (.ref t), .val (.int (0 : Int32)), .val (.int (2 : Int32)), .val (.int (2 : Int32)), .unset] [(.ref b2)]) _
  refine own_st (fun t_ k_ => XS.astore X2.here hx rfl (hb hby d23_12) rfl rfl (l' := #[.val (.ref t), .val (.int (0 : Int32)), .val (.int (2 : Int32)), .val (.int (2 : Int32)), .val (.ref b2)]) rfl k_) ?_
  refine own_st (fun t_ k_ => XS.aloadN X2.here hx rfl (hb hby d23_14) rfl rfl k_) ?_
  refine own_st (fun t_ k_ => XS.iloadN X2.here hx rfl (hb hby d23_15) rfl k_) ?_
  refine own_st (fun t_ k_ => XS.aload X2.here hx rfl (hb hby d23_16) rfl rfl k_) ?_
  refine own_st (fun t_ k_ => XS.iconst X2.here hx rfl (hb hby d23_18) k_) ?_
  show own_Go p e below T2 (mkF m 19 #[.val (.ref t), .val (.int (0 : Int32)), .val (.int (2 : Int32)), .val (.int (2 : Int32)), .val (.ref b2)] [(.int (0 : Int32)), (.ref b2), (.int (0 : Int32)), (.ref t)]) _
  refine own_st (fun t_ k_ => XS.aloadN X2.here hx rfl (hb hby d23_19) rfl rfl k_) ?_
  show own_Go p e below T2 (mkF m 20 #[.val (.ref t), .val (.int (0 : Int32)), .val (.int (2 : Int32)), .val (.int (2 : Int32)), .val (.ref b2)] [(.ref t), (.int (0 : Int32)), (.ref b2), (.int (0 : Int32)), (.ref t)]) _
  have f4 := (pV_t.ext E2)
  obtain ⟨cl5, Ar5, q5, Sz5, Nn5, Hh5, Gg5⟩ := id f4
  refine own_st (fun t_ k_ => X2.arraylength hx (by rw [e2]; exact Ar5.1) (State.isArrayOf_alike hZ.alike Ar5.2.1) (g := (mkF m 20 #[.val (.ref t), .val (.int (0 : Int32)), .val (.int (2 : Int32)), .val (.int (2 : Int32)), .val (.ref b2)] [(.ref t), (.int (0 : Int32)), (.ref b2), (.int (0 : Int32)), (.ref t)])) rfl rfl (hb hby d23_20) _ k_) ?_
  rw [len_of Sz5 Nn5]
  show own_Go p e below T2 (mkF m 21 #[.val (.ref t), .val (.int (0 : Int32)), .val (.int (2 : Int32)), .val (.int (2 : Int32)), .val (.ref b2)] [(.int z), (.int (0 : Int32)), (.ref b2), (.int (0 : Int32)), (.ref t)]) _
  refine own_st (fun t_ k_ => XS.iloadN X2.here hx rfl (hb hby d23_21) rfl k_) ?_
  refine own_st (fun t_ k_ => XS.isub X2.here hx rfl (hb hby d23_22) rfl k_) ?_
  show own_Go p e below T2 (mkF m 23 #[.val (.ref t), .val (.int (0 : Int32)), .val (.int (2 : Int32)), .val (.int (2 : Int32)), .val (.ref b2)] [(.int (z - (0 : Int32))), (.int (0 : Int32)), (.ref b2), (.int (0 : Int32)), (.ref t)]) _
  rw [own_sub0 z]
  show own_Go p e below T2 (mkF m 23 #[.val (.ref t), .val (.int (0 : Int32)), .val (.int (2 : Int32)), .val (.int (2 : Int32)), .val (.ref b2)] [(.int z), (.int (0 : Int32)), (.ref b2), (.int (0 : Int32)), (.ref t)]) _
  refine own_st (fun t_ k_ => XS.iloadN X2.here hx rfl (hb hby d23_23) rfl k_) ?_
  show own_Go p e below T2 (mkF m 24 #[.val (.ref t), .val (.int (0 : Int32)), .val (.int (2 : Int32)), .val (.int (2 : Int32)), .val (.ref b2)] [(.int (2 : Int32)), (.int z), (.int (0 : Int32)), (.ref b2), (.int (0 : Int32)), (.ref t)]) _
  have f6 := (Nat.le_trans Z0 E2.1)
  obtain ⟨_, _, ⟨T7, L7, k7, n7⟩, -, X7, ⟨Lc7, hQ7, l7, y7, z7⟩, st7⟩ := Jvm.LawKit.callS X2 hx (y := (⟨"java/lang/Math", "min", "(II)I"⟩ : MethodName)) hown (mvT hZ (hw _ (List.mem_of_getElem? (i := 104) rfl))) (mvT hZ (hw _ (List.mem_of_getElem? (i := 74) rfl))) (mvT hZ (hw _ (List.mem_of_getElem? (i := 75) rfl))) (mvT hZ (hw _ (List.mem_of_getElem? (i := 76) rfl))) (by decide) (backOf (W := 4) (rmMb l Z a0 hw [] z ((2 : Int32)) h2 n0 f6 hez) hZ (hw _ (List.mem_of_getElem? (i := 76) rfl)) (hw _ (List.mem_of_getElem? (i := 75) rfl)) (by decide) (by decide)) (g := (mkF m 24 #[.val (.ref t), .val (.int (0 : Int32)), .val (.int (2 : Int32)), .val (.int (2 : Int32)), .val (.ref b2)] [(.int (2 : Int32)), (.int z), (.int (0 : Int32)), (.ref b2), (.int (0 : Int32)), (.ref t)])) rfl (by rw [hml]; rfl) (argsL := [(.int z), (.int (2 : Int32))]) (rest := [(.int (0 : Int32)), (.ref b2), (.int (0 : Int32)), (.ref t)]) (lenOf pd__II_I rfl) rfl (by show 2 * 0 + _ ≤ _; exact Nat.le_of_eq rfl) (hb hby d23_24) (fun _ _ => ⟨rfl, e2, (by decide : 1 + 0 ≤ _), (by decide : 2 + 0 ≤ _)⟩)
  dsimp only [Pt.U, Pt.locs, Pt.cells, Pt.slots] at X7 l7 y7 z7 st7 hQ7
  try dsimp only [Nat.reduceAdd] at y7 z7
  rw [l7, y7, z7] at X7
  obtain ⟨rfl, Nq7, eH7⟩ := hQ7
  have N7 := Fr.app N1 Nq7
  refine own_st st7 ?_
  show own_Go p e below T7 (mkF m 27 #[.val (.ref t), .val (.int (0 : Int32)), .val (.int (2 : Int32)), .val (.int (2 : Int32)), .val (.ref b2)] [(.int (2 : Int32)), (.int (0 : Int32)), (.ref b2), (.int (0 : Int32)), (.ref t)]) _
  obtain ⟨T8, h8, L8, X8, e8, N8, Kq8, Va8, st8⟩ := cpA X7 hx hZ hown (hw _ (List.mem_of_getElem? (i := 105) rfl)) (hw _ (List.mem_of_getElem? (i := 108) rfl)) (hw _ (List.mem_of_getElem? (i := 106) rfl)) (hw _ (List.mem_of_getElem? (i := 107) rfl)) eH7 f4 V2 (Or.inl ⟨rfl, rfl⟩) (sp := (0 : Int32)) (dp := (0 : Int32)) (nn := (2 : Int32)) (by decide) (by decide) (by decide) (by show 0 + 2 ≤ _; simp only [Int32.toNatClampNeg]; omega) (by decide) (us := [(.int u0), (.int u1)]) rfl (by decide) N7 G2 (g := (mkF m 27 #[.val (.ref t), .val (.int (0 : Int32)), .val (.int (2 : Int32)), .val (.int (2 : Int32)), .val (.ref b2)] [(.int (2 : Int32)), (.int (0 : Int32)), (.ref b2), (.int (0 : Int32)), (.ref t)])) rfl (by rw [hml]; rfl) (rest := []) rfl (hb hby d23_27) (by decide) (W := 0) (by show 2 * 0 + _ ≤ _; exact Nat.le_of_eq rfl) (by decide +kernel)
  have V8 : Arv Z h8 b2 k2 .byte (2 : Int32) [(.int u0), (.int u1)] (.int (0 : Int32)) := Va8
  have K9 : Keep h0 h8 [] := K3.trans Kq8 (allS (Or.inr B2) all0)
  refine own_st st8 ?_
  show own_Go p e below T8 (mkF m 30 #[.val (.ref t), .val (.int (0 : Int32)), .val (.int (2 : Int32)), .val (.int (2 : Int32)), .val (.ref b2)] []) _
  refine own_st (fun t_ k_ => XS.aload X8.here hx rfl (hb hby d23_30) rfl rfl k_) ?_
  show own_Go p e below T8 (mkF m 32 #[.val (.ref t), .val (.int (0 : Int32)), .val (.int (2 : Int32)), .val (.int (2 : Int32)), .val (.ref b2)] [(.ref b2)]) _
  obtain ⟨fs, hr, hrun, hended, hW, hsame⟩ := X8.leave (v := some (.ref b2)) (fun h => by rw [Bd.returns] at h; cases h)
  refine own_fin (own_retR X8 hx rfl Bd.returns rfl (hb hby d23_32) hr) ⟨hrun, hended, _, _, rfl, ?_, ⟨_, rfl⟩, hW, hsame.mono (by decide) (by decide)⟩
  show Q_rmCr2 Z t kt z u0 u1 tl h0 n0 _ T8.heap _
  rw [e8]
  exact ⟨b2, k2, rfl, N8, K9, V8, B2, G2⟩
theorem ef_rmCp2 (m : MethodId) (x0 : Addr) (x1 : Int32) (x2 : Int32) : entryFrame m #[(.ref x0), (.int x1), (.int x2)] 3 = mkF m 0 #[.val (.ref x0), .val (.int x1), .val (.int x2)] [] := by first | (simp [entryFrame, mkF, argsToLocals, Value.category]; done) | rfl
def Q_rmCp2 (Z : State) (t : Addr) (kt : ClassId) (z : Int32) (u0 : Int32) (u1 : Int32) (tl : List Value) (h0 : Heap) (n0 : Nat) (v : Option Value) (h : Heap) (L : List Loc) : Prop := ∃ b : Addr, ∃ kb : ClassId, v = some (.ref b) ∧ Fr n0 L ∧ Keep h0 h [] ∧ Arv Z h b kb .byte (2 : Int32) [(.int u0), (.int u1)] (.int 0) ∧ h0.size ≤ b ∧ n0 ≤ b
set_option maxRecDepth 65536 in
set_option maxHeartbeats 40000000 in
theorem rmCp2 (l : Launch) (Z : State) (a0 : Array Value) (hw : ∀ d ∈ tables_1, d.before a0 Z = true) (ws : List Jvm.Cond) (t : Addr) (kt : ClassId) (z : Int32) (u0 : Int32) (u1 : Int32) (tl : List Value) (h0 : Heap) (n0 : Nat) (Z0 : n0 ≤ h0.size) (pV_t : Arv Z h0 t kt .byte z ((.int u0) :: (.int u1) :: tl) (.int 0)) (hez : ((2 : Int32) < z)) :
    MetFree l (⟨"java/util/Arrays", "copyOfRange", "([BII)[B"⟩ : MethodName) (head1 (Jvm.Cond.code (⟨"java/util/Arrays", "copyOfRange", "([BII)[B"⟩ : MethodName) jdk_65_method_132_code 3 (some (.array .byte)) :: ws) ({ frames := 2, cells := 1, slots := 2, locals := 136 } : Room)) (fun a U => a = #[(.ref t), (.int (0 : Int32)), (.int (2 : Int32))] ∧ Z.Warmed39 U.vm ∧ U.heap = h0) (fun _ _ _ _ _ => True) (fun _ U o U' => ∃ v L, o = .returned v ∧ Q_rmCp2 Z t kt z u0 u1 tl h0 n0 v U'.heap L ∧ FrameEnd U o U' L ({ frames := 2, cells := 1, slots := 2, locals := 136 } : Room).cells ({ frames := 2, cells := 1, slots := 2, locals := 136 } : Room).slots) := by
  refine MetFree.of_bodySF (plainFor_of_name pn_22) hisR ?_
  intro p e s m args below meth c s₁ Bd hml0 hP hK
  obtain ⟨rfl, hZ, hh⟩ := hP
  have hx := Bd.exec
  have hby := Bd.bytes
  have hml : c.maxLocals = 3 := hml0
  have hown : s.vm.findClass "java/util/Arrays" = some m.cls := findClass_of_methodNamed Bd.named
  have hnm := (name_of_methodNamed Bd.named Bd.method).1
  have X0 : Stand p l e ({ frames := 2, cells := 1, slots := 2, locals := 136 } : Room) s m #[(.ref t), (.int (0 : Int32)), (.int (2 : Int32))] below meth c s₁ [] 0 0 := Stand.of_body Bd
  have e0 : s₁.heap = h0 := by rw [← hh, Bd.state]; rfl
  have N0 := Fr.nil n0
  refine own_enter (ef_rmCp2 m t ((0 : Int32)) ((2 : Int32))) ?_
  have hne : ¬ ((2 : Int32) = z) := fun q => absurd hez (by rw [← q]; decide)
  refine own_st (fun t_ k_ => XS.iloadN X0.here hx rfl (hb hby d22_0) rfl k_) ?_
  refine own_st (fun t_ k_ => XS.ifNo X0.here hx rfl (hb hby d22_1) rfl (by decide) k_) ?_
  refine own_st (fun t_ k_ => XS.iloadN X0.here hx rfl (hb hby d22_4) rfl k_) ?_
  refine own_st (fun t_ k_ => XS.aloadN X0.here hx rfl (hb hby d22_5) rfl rfl k_) ?_
  show own_Go p e below s₁ (mkF m 6 #[.val (.ref t), .val (.int (0 : Int32)), .val (.int (2 : Int32))] [(.ref t), (.int (2 : Int32))]) _
  obtain ⟨cl1, Ar1, q1, Sz1, Nn1, Hh1, Gg1⟩ := id pV_t
  refine own_st (fun t_ k_ => X0.arraylength hx (by rw [e0]; exact Ar1.1) (State.isArrayOf_alike hZ.alike Ar1.2.1) (g := (mkF m 6 #[.val (.ref t), .val (.int (0 : Int32)), .val (.int (2 : Int32))] [(.ref t), (.int (2 : Int32))])) rfl rfl (hb hby d22_6) _ k_) ?_
  rw [len_of Sz1 Nn1]
  show own_Go p e below s₁ (mkF m 7 #[.val (.ref t), .val (.int (0 : Int32)), .val (.int (2 : Int32))] [(.int z), (.int (2 : Int32))]) _
  refine own_st (fun t_ k_ => XS.icmpNo X0.here hx rfl (hb hby d22_7) rfl (feq hne).1 k_) ?_
  refine own_st (fun t_ k_ => XS.aloadN X0.here hx rfl (hb hby d22_10) rfl rfl k_) ?_
  refine own_st (fun t_ k_ => XS.iloadN X0.here hx rfl (hb hby d22_11) rfl k_) ?_
  refine own_st (fun t_ k_ => XS.iloadN X0.here hx rfl (hb hby d22_12) rfl k_) ?_
  show own_Go p e below s₁ (mkF m 13 #[.val (.ref t), .val (.int (0 : Int32)), .val (.int (2 : Int32))] [(.int (2 : Int32)), (.int (0 : Int32)), (.ref t)]) _
  obtain ⟨_, _, ⟨T2, L2, k2, n2⟩, -, X2, ⟨Lc2, hQ2, l2, y2, z2⟩, st2⟩ := Jvm.LawKit.callS X0 hx (y := (⟨"java/util/Arrays", "copyOfRangeByte", "([BII)[B"⟩ : MethodName)) hown (mvT hZ (hw _ (List.mem_of_getElem? (i := 98) rfl))) (mvT hZ (hw _ (List.mem_of_getElem? (i := 99) rfl))) (mvT hZ (hw _ (List.mem_of_getElem? (i := 96) rfl))) (mvT hZ (hw _ (List.mem_of_getElem? (i := 100) rfl))) (by decide) (backOf (W := 0) (rmCr2 l Z a0 hw [] t kt z u0 u1 tl h0 n0 Z0 pV_t hez) hZ (hw _ (List.mem_of_getElem? (i := 100) rfl)) (hw _ (List.mem_of_getElem? (i := 96) rfl)) (by decide) (by decide)) (g := (mkF m 13 #[.val (.ref t), .val (.int (0 : Int32)), .val (.int (2 : Int32))] [(.int (2 : Int32)), (.int (0 : Int32)), (.ref t)])) rfl (by rw [hml]; rfl) (argsL := [(.ref t), (.int (0 : Int32)), (.int (2 : Int32))]) (rest := []) (lenOf pd___BII__B rfl) rfl (by show 2 * 0 + _ ≤ _; exact Nat.le_of_eq rfl) (hb hby d22_13) (fun _ _ => ⟨rfl, e0, (by decide : 0 + 1 ≤ _), (by decide : 0 + 2 ≤ _)⟩)
  dsimp only [Pt.U, Pt.locs, Pt.cells, Pt.slots] at X2 l2 y2 z2 st2 hQ2
  try dsimp only [Nat.reduceAdd] at y2 z2
  rw [l2, y2, z2] at X2
  obtain ⟨b_2, kb_2, rfl, Nq2, Kq2, q2_0, q2_1, q2_2⟩ := hQ2
  have N2 := Fr.app N0 Nq2
  have K3 : Keep h0 T2.heap [] := (Keep.refl h0 []).trans Kq2 all0
  have Bf4 : h0.size ≤ b_2 := Nat.le_trans (Keep.refl h0 []).1 q2_1
  refine own_st st2 ?_
  show own_Go p e below T2 (mkF m 16 #[.val (.ref t), .val (.int (0 : Int32)), .val (.int (2 : Int32))] [(.ref b_2)]) _
  obtain ⟨fs, hr, hrun, hended, hW, hsame⟩ := X2.leave (v := some (.ref b_2)) (fun h => by rw [Bd.returns] at h; cases h)
  refine own_fin (own_retR X2 hx rfl Bd.returns rfl (hb hby d22_16) hr) ⟨hrun, hended, _, _, rfl, ?_, ⟨_, rfl⟩, hW, hsame.mono (by decide) (by decide)⟩
  show Q_rmCp2 Z t kt z u0 u1 tl h0 n0 _ T2.heap _
  exact ⟨b_2, kb_2, rfl, N2, K3, q2_0, Bf4, q2_2⟩
theorem ef_rmNs2 (m : MethodId) (x0 : Addr) (x1 : Int32) (x2 : Int32) : entryFrame m #[(.ref x0), (.int x1), (.int x2)] 3 = mkF m 0 #[.val (.ref x0), .val (.int x1), .val (.int x2)] [] := by first | (simp [entryFrame, mkF, argsToLocals, Value.category]; done) | rfl
def Q_rmNs2 (Z : State) (t : Addr) (kt : ClassId) (z : Int32) (u0 : Int32) (u1 : Int32) (tl : List Value) (h0 : Heap) (n0 : Nat) (v : Option Value) (h : Heap) (L : List Loc) : Prop := ∃ y : Addr, ∃ b : Addr, ∃ kb : ClassId, v = some (.ref y) ∧ Fr n0 L ∧ Keep h0 h [] ∧ Exa Z h y "java/lang/String" ∧ Fld Z h y "java/lang/String" "value" "[B" (.ref b) ∧ Fld Z h y "java/lang/String" "coder" "B" (.int (0 : Int32)) ∧ Arv Z h b kb .byte (2 : Int32) [(.int u0), (.int u1)] (.int 0)
set_option maxRecDepth 65536 in
set_option maxHeartbeats 40000000 in
theorem rmNs2 (l : Launch) (Z : State) (a0 : Array Value) (hw : ∀ d ∈ tables_1, d.before a0 Z = true) (ws : List Jvm.Cond) (t : Addr) (kt : ClassId) (z : Int32) (u0 : Int32) (u1 : Int32) (tl : List Value) (h0 : Heap) (n0 : Nat) (Z0 : n0 ≤ h0.size) (pV_t : Arv Z h0 t kt .byte z ((.int u0) :: (.int u1) :: tl) (.int 0)) (hez : ((2 : Int32) < z)) :
    MetFree l (⟨"java/lang/StringLatin1", "newString", "([BII)Ljava/lang/String;"⟩ : MethodName) (head1 (Jvm.Cond.code (⟨"java/lang/StringLatin1", "newString", "([BII)Ljava/lang/String;"⟩ : MethodName) jdk_43_method_47_code 3 (some (.object "java/lang/String")) :: ws) ({ frames := 3, cells := 2, slots := 6, locals := 152 } : Room)) (fun a U => a = #[(.ref t), (.int (0 : Int32)), (.int (2 : Int32))] ∧ Z.Warmed39 U.vm ∧ U.heap = h0) (fun _ _ _ _ _ => True) (fun _ U o U' => ∃ v L, o = .returned v ∧ Q_rmNs2 Z t kt z u0 u1 tl h0 n0 v U'.heap L ∧ FrameEnd U o U' L ({ frames := 3, cells := 2, slots := 6, locals := 152 } : Room).cells ({ frames := 3, cells := 2, slots := 6, locals := 152 } : Room).slots) := by
  refine MetFree.of_bodySF (plainFor_of_name pn_21) hisR ?_
  intro p e s m args below meth c s₁ Bd hml0 hP hK
  obtain ⟨rfl, hZ, hh⟩ := hP
  have hx := Bd.exec
  have hby := Bd.bytes
  have hml : c.maxLocals = 3 := hml0
  have hown : s.vm.findClass "java/lang/StringLatin1" = some m.cls := findClass_of_methodNamed Bd.named
  have hnm := (name_of_methodNamed Bd.named Bd.method).1
  have X0 : Stand p l e ({ frames := 3, cells := 2, slots := 6, locals := 152 } : Room) s m #[(.ref t), (.int (0 : Int32)), (.int (2 : Int32))] below meth c s₁ [] 0 0 := Stand.of_body Bd
  have e0 : s₁.heap = h0 := by rw [← hh, Bd.state]; rfl
  have N0 := Fr.nil n0
  refine own_enter (ef_rmNs2 m t ((0 : Int32)) ((2 : Int32))) ?_
  refine own_st (fun t_ k_ => XS.iloadN X0.here hx rfl (hb hby d21_0) rfl k_) ?_
  refine own_st (fun t_ k_ => XS.ifYes X0.here hx rfl (pc0 := 1) (pc' := 7) rfl (hb hby d21_1) rfl (by decide) (by decide) (by decide) k_) ?_
  show own_Go p e below s₁ (mkF m 7 #[.val (.ref t), .val (.int (0 : Int32)), .val (.int (2 : Int32))] []) _
  obtain ⟨T1, h1, X1, e1, E1, A1, D1, -, st1⟩ := newO X0 hx hZ hown (hw _ (List.mem_of_getElem? (i := 93) rfl)) (hw _ (List.mem_of_getElem? (i := 9) rfl)) (hw _ (List.mem_of_getElem? (i := 10) rfl)) e0 (g := (mkF m 7 #[.val (.ref t), .val (.int (0 : Int32)), .val (.int (2 : Int32))] [])) rfl (hb hby d21_7) (by decide) (by decide)
  obtain ⟨b1, g1⟩ : ∃ z, z = h0.size := ⟨_, rfl⟩
  rw [← g1] at A1 D1 st1
  have G1 : n0 ≤ b1 := Nat.le_trans Z0 (Nat.le_of_eq g1.symm)
  have B1 : h0.size ≤ b1 := Nat.le_trans (Keep.refl h0 []).1 (Nat.le_of_eq g1.symm)
  have K2 : Keep h0 h1 [] := (Keep.refl h0 []).ext E1
  have D1_coder : Fld Z h1 b1 "java/lang/String" "coder" "B" (.int (0 : Int32)) := D1 (Or.inr (hw _ (List.mem_of_getElem? (i := 34) rfl))) (ty := .byte) (by decide)
  have D1_value : Fld Z h1 b1 "java/lang/String" "value" "[B" .null := D1 (Or.inr (hw _ (List.mem_of_getElem? (i := 36) rfl))) (ty := (.array .byte)) (by decide)
  refine own_st st1 ?_
  show own_Go p e below T1 (mkF m 10 #[.val (.ref t), .val (.int (0 : Int32)), .val (.int (2 : Int32))] [(.ref b1)]) _
  refine own_st (fun t_ k_ => XS.dup X1.here hx rfl (hb hby d21_10) rfl rfl k_) ?_
  refine own_st (fun t_ k_ => XS.aloadN X1.here hx rfl (hb hby d21_11) rfl rfl k_) ?_
  refine own_st (fun t_ k_ => XS.iloadN X1.here hx rfl (hb hby d21_12) rfl k_) ?_
  refine own_st (fun t_ k_ => XS.iloadN X1.here hx rfl (hb hby d21_13) rfl k_) ?_
  refine own_st (fun t_ k_ => XS.iloadN X1.here hx rfl (hb hby d21_14) rfl k_) ?_
  show own_Go p e below T1 (mkF m 15 #[.val (.ref t), .val (.int (0 : Int32)), .val (.int (2 : Int32))] [(.int (2 : Int32)), (.int (0 : Int32)), (.int (0 : Int32)), (.ref t), (.ref b1), (.ref b1)]) _
  refine own_st (fun t_ k_ => XS.iadd X1.here hx rfl (hb hby d21_15) rfl k_) ?_
  show own_Go p e below T1 (mkF m 16 #[.val (.ref t), .val (.int (0 : Int32)), .val (.int (2 : Int32))] [(.int (2 : Int32)), (.int (0 : Int32)), (.ref t), (.ref b1), (.ref b1)]) _
  have f3 := (Nat.le_trans Z0 E1.1)
  have f4 := (pV_t.ext E1)
  obtain ⟨_, _, ⟨T5, L5, k5, n5⟩, -, X5, ⟨Lc5, hQ5, l5, y5, z5⟩, st5⟩ := Jvm.LawKit.callS X1 hx (y := (⟨"java/util/Arrays", "copyOfRange", "([BII)[B"⟩ : MethodName)) hown (mvT hZ (hw _ (List.mem_of_getElem? (i := 94) rfl))) (mvT hZ (hw _ (List.mem_of_getElem? (i := 95) rfl))) (mvT hZ (hw _ (List.mem_of_getElem? (i := 96) rfl))) (mvT hZ (hw _ (List.mem_of_getElem? (i := 97) rfl))) (by decide) (backOf (W := 2) (rmCp2 l Z a0 hw [] t kt z u0 u1 tl h1 n0 f3 f4 hez) hZ (hw _ (List.mem_of_getElem? (i := 97) rfl)) (hw _ (List.mem_of_getElem? (i := 96) rfl)) (by decide) (by decide)) (g := (mkF m 16 #[.val (.ref t), .val (.int (0 : Int32)), .val (.int (2 : Int32))] [(.int (2 : Int32)), (.int (0 : Int32)), (.ref t), (.ref b1), (.ref b1)])) rfl (by rw [hml]; rfl) (argsL := [(.ref t), (.int (0 : Int32)), (.int (2 : Int32))]) (rest := [(.ref b1), (.ref b1)]) (lenOf pd___BII__B rfl) rfl (by show 2 * 0 + _ ≤ _; exact Nat.le_of_eq rfl) (hb hby d21_16) (fun _ _ => ⟨rfl, e1, (by decide : 1 + 1 ≤ _), (by decide : 4 + 2 ≤ _)⟩)
  dsimp only [Pt.U, Pt.locs, Pt.cells, Pt.slots] at X5 l5 y5 z5 st5 hQ5
  try dsimp only [Nat.reduceAdd] at y5 z5
  rw [l5, y5, z5] at X5
  obtain ⟨b_5, kb_5, rfl, Nq5, Kq5, q5_0, q5_1, q5_2⟩ := hQ5
  have N5 := Fr.app N0 Nq5
  have K6 : Keep h0 T5.heap [] := K2.trans Kq5 all0
  have Bf7 : h0.size ≤ b_5 := Nat.le_trans K2.1 q5_1
  refine own_st st5 ?_
  show own_Go p e below T5 (mkF m 19 #[.val (.ref t), .val (.int (0 : Int32)), .val (.int (2 : Int32))] [(.ref b_5), (.ref b1), (.ref b1)]) _
  refine own_st (fun t_ k_ => XS.iconst X5.here hx rfl (hb hby d21_19) k_) ?_
  show own_Go p e below T5 (mkF m 20 #[.val (.ref t), .val (.int (0 : Int32)), .val (.int (2 : Int32))] [(.int (0 : Int32)), (.ref b_5), (.ref b1), (.ref b1)]) _
  have f8 := (Nat.le_trans f3 Kq5.1)
  have f9 := (A1.keep Kq5)
  have f10 := (D1_value.keep Kq5 nin0)
  have f11 := (D1_coder.keep Kq5 nin0)
  obtain ⟨_, _, ⟨T12, L12, k12, n12⟩, -, X12, ⟨Lc12, hQ12, l12, y12, z12⟩, st12⟩ := X5.specialBack hx (y := (⟨"java/lang/String", "<init>", "([BB)V"⟩ : MethodName)) rfl hown (mvT hZ (hw _ (List.mem_of_getElem? (i := 109) rfl))) (mvT hZ (hw _ (List.mem_of_getElem? (i := 110) rfl))) (mvT hZ (hw _ (List.mem_of_getElem? (i := 111) rfl))) (by decide) (backOf (W := 1) (rmIb l Z a0 hw [] b1 b_5 .null ((.int (0 : Int32))) T5.heap n0 f8 f9 f10 f11 G1) hZ (hw _ (List.mem_of_getElem? (i := 111) rfl)) (hw _ (List.mem_of_getElem? (i := 10) rfl)) (by decide) (by decide)) (g := (mkF m 20 #[.val (.ref t), .val (.int (0 : Int32)), .val (.int (2 : Int32))] [(.int (0 : Int32)), (.ref b_5), (.ref b1), (.ref b1)])) rfl (by rw [hml]; rfl) (Steps.refl _) (a := b1) (argsL := [(.ref b_5), (.int (0 : Int32))]) (rest := [(.ref b1)]) (lenOf pd___BB_V rfl) rfl (by show 2 * 0 + _ ≤ _; exact Nat.le_of_eq rfl) (hb hby d21_20) (fun _ _ => ⟨rfl, rfl, (by decide : 2 + 0 ≤ _), (by decide : 6 + 0 ≤ _)⟩)
  dsimp only [Pt.U, Pt.locs, Pt.cells, Pt.slots] at X12 l12 y12 z12 st12 hQ12
  try dsimp only [Nat.reduceAdd] at y12 z12
  rw [l12, y12, z12] at X12
  obtain ⟨rfl, Nq12, Kq12, q12_0, q12_1, q12_2⟩ := hQ12
  have N12 := Fr.app N5 Nq12
  have K13 : Keep h0 T12.heap [] := K6.trans Kq12 (allS (Or.inr B1) all0)
  refine own_tr st12 ?_
  show own_Go p e below T12 (mkF m 23 #[.val (.ref t), .val (.int (0 : Int32)), .val (.int (2 : Int32))] [(.ref b1)]) _
  have f14 := (q5_0.keep Kq12 (ninS (Ne.symm (Nat.ne_of_lt (Nat.lt_of_lt_of_le A1.lt q5_1))) nin0))
  obtain ⟨fs, hr, hrun, hended, hW, hsame⟩ := X12.leave (v := some (.ref b1)) (fun h => by rw [Bd.returns] at h; cases h)
  refine own_fin (own_retR X12 hx rfl Bd.returns rfl (hb hby d21_23) hr) ⟨hrun, hended, _, _, rfl, ?_, ⟨_, rfl⟩, hW, hsame.mono (by decide) (by decide)⟩
  show Q_rmNs2 Z t kt z u0 u1 tl h0 n0 _ T12.heap _
  exact ⟨b1, b_5, kb_5, rfl, N12, K13, q12_0, q12_1, q12_2, f14⟩
theorem ef_rmSb2 (m : MethodId) (x0 : Addr) (x1 : Int32) (x2 : Int32) : entryFrame m #[(.ref x0), (.int x1), (.int x2)] 5 = mkF m 0 #[.val (.ref x0), .val (.int x1), .val (.int x2), .unset, .unset] [] := by first | (simp [entryFrame, mkF, argsToLocals, Value.category]; done) | rfl
def Q_rmSb2 (Z : State) (x : Addr) (tx : Addr) (kx : ClassId) (z : Int32) (u0 : Int32) (u1 : Int32) (tl : List Value) (zc : Int32) (fm : Value) (h0 : Heap) (n0 : Nat) (v : Option Value) (h : Heap) (L : List Loc) : Prop := ∃ y : Addr, ∃ b : Addr, ∃ kb : ClassId, v = some (.ref y) ∧ Fr n0 L ∧ Keep h0 h [] ∧ Exa Z h y "java/lang/String" ∧ Fld Z h y "java/lang/String" "value" "[B" (.ref b) ∧ Fld Z h y "java/lang/String" "coder" "B" (.int (0 : Int32)) ∧ Arv Z h b kb .byte (2 : Int32) [(.int u0), (.int u1)] (.int 0)
set_option maxRecDepth 65536 in
set_option maxHeartbeats 40000000 in
theorem rmSb2 (l : Launch) (Z : State) (a0 : Array Value) (hw : ∀ d ∈ tables_1, d.before a0 Z = true) (ws : List Jvm.Cond) (x : Addr) (tx : Addr) (kx : ClassId) (z : Int32) (u0 : Int32) (u1 : Int32) (tl : List Value) (zc : Int32) (fm : Value) (h0 : Heap) (n0 : Nat) (Z0 : n0 ≤ h0.size) (pE_x : Exa Z h0 x "java/lang/String") (pF_value_x : Fld Z h0 x "java/lang/String" "value" "[B" (.ref tx)) (pF_coder_x : Fld Z h0 x "java/lang/String" "coder" "B" (.int (0 : Int32))) (pV_tx : Arv Z h0 tx kx .byte z ((.int u0) :: (.int u1) :: tl) (.int 0)) (hez : ((2 : Int32) < z)) (pS_COMPACT_STRINGS : Sta Z Z.heap "java/lang/String" "COMPACT_STRINGS" "Z" (.int zc)) (pP5 : (¬ (zc = (0 : Int32)))) (pS_SIOOBE_FORMATTER : Sta Z Z.heap "jdk/internal/util/Preconditions" "SIOOBE_FORMATTER" "Ljava/util/function/BiFunction;" fm) (rfm : (fm.isRef = true)) (pO : Old Z n0 h0) :
    MetFree l (⟨"java/lang/String", "substring", "(II)Ljava/lang/String;"⟩ : MethodName) (head1 (Jvm.Cond.code (⟨"java/lang/String", "substring", "(II)Ljava/lang/String;"⟩ : MethodName) jdk_42_method_92_code 5 (some (.object "java/lang/String")) :: ws) ({ frames := 4, cells := 2, slots := 6, locals := 166 } : Room)) (fun a U => a = #[(.ref x), (.int (0 : Int32)), (.int (2 : Int32))] ∧ Z.Warmed39 U.vm ∧ U.heap = h0) (fun _ _ _ _ _ => True) (fun _ U o U' => ∃ v L, o = .returned v ∧ Q_rmSb2 Z x tx kx z u0 u1 tl zc fm h0 n0 v U'.heap L ∧ FrameEnd U o U' L ({ frames := 4, cells := 2, slots := 6, locals := 166 } : Room).cells ({ frames := 4, cells := 2, slots := 6, locals := 166 } : Room).slots) := by
  refine MetFree.of_bodySF (plainFor_of_name pn_18) hisR ?_
  intro p e s m args below meth c s₁ Bd hml0 hP hK
  obtain ⟨rfl, hZ, hh⟩ := hP
  have hx := Bd.exec
  have hby := Bd.bytes
  have hml : c.maxLocals = 5 := hml0
  have hown : s.vm.findClass "java/lang/String" = some m.cls := findClass_of_methodNamed Bd.named
  have hnm := (name_of_methodNamed Bd.named Bd.method).1
  have X0 : Stand p l e ({ frames := 4, cells := 2, slots := 6, locals := 166 } : Room) s m #[(.ref x), (.int (0 : Int32)), (.int (2 : Int32))] below meth c s₁ [] 0 0 := Stand.of_body Bd
  have e0 : s₁.heap = h0 := by rw [← hh, Bd.state]; rfl
  have N0 := Fr.nil n0
  refine own_enter (ef_rmSb2 m x ((0 : Int32)) ((2 : Int32))) ?_
  have hne : ¬ ((2 : Int32) = z) := fun q => absurd hez (by rw [← q]; decide)
  have hle : ¬ (z < (2 : Int32)) := by rw [Int32.lt_iff_toInt_lt] at hez ⊢; omega
  refine own_st (fun t_ k_ => XS.aloadN X0.here hx rfl (hb hby d18_0) rfl rfl k_) ?_
  show own_Go p e below s₁ (mkF m 1 #[.val (.ref x), .val (.int (0 : Int32)), .val (.int (2 : Int32)), .unset, .unset] [(.ref x)]) _
  obtain ⟨cq1, kq1, qa1, qb1, qc1⟩ := isOf hZ e0 pE_x
  obtain ⟨_, _, ⟨T1, L1, k1, n1⟩, -, X1, ⟨Lc1, hQ1, l1, y1, z1⟩, st1⟩ := X0.virtualBack hx (y := (⟨"java/lang/String", "length", "()I"⟩ : MethodName)) (z := (⟨"java/lang/String", "length", "()I"⟩ : MethodName)) hown (mvT hZ (hw _ (List.mem_of_getElem? (i := 46) rfl))) (mvT hZ (hw _ (List.mem_of_getElem? (i := 47) rfl))) (notFace_of_selects (args := #[]) (mvT hZ (hw _ (List.mem_of_getElem? (i := 49) rfl)))) (mvT hZ (hw _ (List.mem_of_getElem? (i := 49) rfl))) (mvT hZ (hw _ (List.mem_of_getElem? (i := 48) rfl))) (by decide) (backOf (W := 0) (rmLe l Z a0 hw [] x tx kx z (((.int u0) :: (.int u1) :: tl)) zc h0 n0 Z0 pE_x pF_value_x pF_coder_x pV_tx pS_COMPACT_STRINGS pP5 pO) hZ (hw _ (List.mem_of_getElem? (i := 50) rfl)) (hw _ (List.mem_of_getElem? (i := 10) rfl)) (by decide) (by decide)) qa1 qc1 (g := (mkF m 1 #[.val (.ref x), .val (.int (0 : Int32)), .val (.int (2 : Int32)), .unset, .unset] [(.ref x)])) rfl (by rw [hml]; rfl) (Steps.refl _) (argsL := []) (rest := []) (lenOf pd___I rfl) rfl (by show 2 * 0 + _ ≤ _; exact Nat.le_of_eq rfl) (hb hby d18_1) (fun _ _ => ⟨rfl, e0, (by decide : 0 + 0 ≤ _), (by decide : 0 + 0 ≤ _)⟩)
  dsimp only [Pt.U, Pt.locs, Pt.cells, Pt.slots] at X1 l1 y1 z1 st1 hQ1
  try dsimp only [Nat.reduceAdd] at y1 z1
  rw [l1, y1, z1] at X1
  obtain ⟨rfl, Nq1, eH1⟩ := hQ1
  have N1 := Fr.app N0 Nq1
  refine own_tr st1 ?_
  show own_Go p e below T1 (mkF m 4 #[.val (.ref x), .val (.int (0 : Int32)), .val (.int (2 : Int32)), .unset, .unset] [(.int z)]) _
  refine own_st (fun t_ k_ => XS.istoreN X1.here hx rfl (hb hby d18_4) rfl (l' := #[.val (.ref x), .val (.int (0 : Int32)), .val (.int (2 : Int32)), .val (.int z), .unset]) rfl k_) ?_
  refine own_st (fun t_ k_ => XS.iloadN X1.here hx rfl (hb hby d18_5) rfl k_) ?_
  refine own_st (fun t_ k_ => XS.iloadN X1.here hx rfl (hb hby d18_6) rfl k_) ?_
  refine own_st (fun t_ k_ => XS.iloadN X1.here hx rfl (hb hby d18_7) rfl k_) ?_
  show own_Go p e below T1 (mkF m 8 #[.val (.ref x), .val (.int (0 : Int32)), .val (.int (2 : Int32)), .val (.int z), .unset] [(.int z), (.int (2 : Int32)), (.int (0 : Int32))]) _
  obtain ⟨_, _, ⟨T2, L2, k2, n2⟩, -, X2, ⟨Lc2, hQ2, l2, y2, z2⟩, st2⟩ := Jvm.LawKit.callS X1 hx (y := (⟨"java/lang/String", "checkBoundsBeginEnd", "(III)V"⟩ : MethodName)) hown (mvT hZ (hw _ (List.mem_of_getElem? (i := 82) rfl))) (mvT hZ (hw _ (List.mem_of_getElem? (i := 83) rfl))) (mvT hZ (hw _ (List.mem_of_getElem? (i := 10) rfl))) (mvT hZ (hw _ (List.mem_of_getElem? (i := 84) rfl))) (by decide) (backOf (W := 0) (rmCb l Z a0 hw [] ((2 : Int32)) z fm h0 n0 Z0 (by decide) hle pS_SIOOBE_FORMATTER rfm pO) hZ (hw _ (List.mem_of_getElem? (i := 84) rfl)) (hw _ (List.mem_of_getElem? (i := 10) rfl)) (by decide) (by decide)) (g := (mkF m 8 #[.val (.ref x), .val (.int (0 : Int32)), .val (.int (2 : Int32)), .val (.int z), .unset] [(.int z), (.int (2 : Int32)), (.int (0 : Int32))])) rfl (by rw [hml]; rfl) (argsL := [(.int (0 : Int32)), (.int (2 : Int32)), (.int z)]) (rest := []) (lenOf pd__III_V rfl) rfl (by show 2 * 0 + _ ≤ _; exact Nat.le_of_eq rfl) (hb hby d18_8) (fun _ _ => ⟨rfl, eH1, (by decide : 0 + 0 ≤ _), (by decide : 0 + 0 ≤ _)⟩)
  dsimp only [Pt.U, Pt.locs, Pt.cells, Pt.slots] at X2 l2 y2 z2 st2 hQ2
  try dsimp only [Nat.reduceAdd] at y2 z2
  rw [l2, y2, z2] at X2
  obtain ⟨rfl, Nq2, eH2⟩ := hQ2
  have N2 := Fr.app N1 Nq2
  refine own_st st2 ?_
  show own_Go p e below T2 (mkF m 11 #[.val (.ref x), .val (.int (0 : Int32)), .val (.int (2 : Int32)), .val (.int z), .unset] []) _
  refine own_st (fun t_ k_ => XS.iloadN X2.here hx rfl (hb hby d18_11) rfl k_) ?_
  refine own_st (fun t_ k_ => XS.ifNo X2.here hx rfl (hb hby d18_12) rfl (by decide) k_) ?_
  refine own_st (fun t_ k_ => XS.iloadN X2.here hx rfl (hb hby d18_15) rfl k_) ?_
  refine own_st (fun t_ k_ => XS.iloadN X2.here hx rfl (hb hby d18_16) rfl k_) ?_
  refine own_st (fun t_ k_ => XS.icmpYes X2.here hx rfl (pc0 := 17) (pc' := 22) rfl (hb hby d18_17) rfl (feq hne).2 (by decide) (by decide) k_) ?_
  show own_Go p e below T2 (mkF m 22 #[.val (.ref x), .val (.int (0 : Int32)), .val (.int (2 : Int32)), .val (.int z), .unset] []) _
  refine own_st (fun t_ k_ => XS.iloadN X2.here hx rfl (hb hby d18_22) rfl k_) ?_
  refine own_st (fun t_ k_ => XS.iloadN X2.here hx rfl (hb hby d18_23) rfl k_) ?_
  refine own_st (fun t_ k_ => XS.isub X2.here hx rfl (hb hby d18_24) rfl k_) ?_
  refine own_st (fun t_ k_ => XS.istore X2.here hx rfl (hb hby d18_25) rfl (l' := #[.val (.ref x), .val (.int (0 : Int32)), .val (.int (2 : Int32)), .val (.int z), .val (.int (2 : Int32))]) rfl k_) ?_
  refine own_st (fun t_ k_ => XS.aloadN X2.here hx rfl (hb hby d18_27) rfl rfl k_) ?_
  show own_Go p e below T2 (mkF m 28 #[.val (.ref x), .val (.int (0 : Int32)), .val (.int (2 : Int32)), .val (.int z), .val (.int (2 : Int32))] [(.ref x)]) _
  obtain ⟨cq3, kq3, qa3, qb3, qc3⟩ := isOf hZ eH2 pE_x
  obtain ⟨_, _, ⟨T3, L3, k3, n3⟩, -, X3, ⟨Lc3, hQ3, l3, y3, z3⟩, st3⟩ := X2.virtualBack hx (y := (⟨"java/lang/String", "isLatin1", "()Z"⟩ : MethodName)) (z := (⟨"java/lang/String", "isLatin1", "()Z"⟩ : MethodName)) hown (mvT hZ (hw _ (List.mem_of_getElem? (i := 61) rfl))) (mvT hZ (hw _ (List.mem_of_getElem? (i := 62) rfl))) (notFace_of_selects (args := #[]) (mvT hZ (hw _ (List.mem_of_getElem? (i := 64) rfl)))) (mvT hZ (hw _ (List.mem_of_getElem? (i := 64) rfl))) (mvT hZ (hw _ (List.mem_of_getElem? (i := 63) rfl))) (by decide) (backOf (W := 0) (rmIl l Z a0 hw [] x zc h0 n0 Z0 pE_x pF_coder_x pS_COMPACT_STRINGS pP5 pO) hZ (hw _ (List.mem_of_getElem? (i := 65) rfl)) (hw _ (List.mem_of_getElem? (i := 10) rfl)) (by decide) (by decide)) qa3 qc3 (g := (mkF m 28 #[.val (.ref x), .val (.int (0 : Int32)), .val (.int (2 : Int32)), .val (.int z), .val (.int (2 : Int32))] [(.ref x)])) rfl (by rw [hml]; rfl) (Steps.refl _) (argsL := []) (rest := []) (lenOf pd___Z rfl) rfl (by show 2 * 0 + _ ≤ _; exact Nat.le_of_eq rfl) (hb hby d18_28) (fun _ _ => ⟨rfl, eH2, (by decide : 0 + 0 ≤ _), (by decide : 0 + 0 ≤ _)⟩)
  dsimp only [Pt.U, Pt.locs, Pt.cells, Pt.slots] at X3 l3 y3 z3 st3 hQ3
  try dsimp only [Nat.reduceAdd] at y3 z3
  rw [l3, y3, z3] at X3
  obtain ⟨rfl, Nq3, eH3⟩ := hQ3
  have N3 := Fr.app N2 Nq3
  refine own_tr st3 ?_
  show own_Go p e below T3 (mkF m 31 #[.val (.ref x), .val (.int (0 : Int32)), .val (.int (2 : Int32)), .val (.int z), .val (.int (2 : Int32))] [(.int (1 : Int32))]) _
  refine own_st (fun t_ k_ => XS.ifNo X3.here hx rfl (hb hby d18_31) rfl (by decide) k_) ?_
  refine own_st (fun t_ k_ => XS.aloadN X3.here hx rfl (hb hby d18_34) rfl rfl k_) ?_
  show own_Go p e below T3 (mkF m 35 #[.val (.ref x), .val (.int (0 : Int32)), .val (.int (2 : Int32)), .val (.int z), .val (.int (2 : Int32))] [(.ref x)]) _
  obtain ⟨T4, X4, e4, st4⟩ := getF X3 hx hZ hown (host := "") (Or.inl (hw _ (List.mem_of_getElem? (i := 35) rfl))) Via.refl eH3 pF_value_x (g := (mkF m 35 #[.val (.ref x), .val (.int (0 : Int32)), .val (.int (2 : Int32)), .val (.int z), .val (.int (2 : Int32))] [(.ref x)])) rfl rfl (hb hby d18_35)
  refine own_st st4 ?_
  show own_Go p e below T4 (mkF m 38 #[.val (.ref x), .val (.int (0 : Int32)), .val (.int (2 : Int32)), .val (.int z), .val (.int (2 : Int32))] [(.ref tx)]) _
  refine own_st (fun t_ k_ => XS.iloadN X4.here hx rfl (hb hby d18_38) rfl k_) ?_
  refine own_st (fun t_ k_ => XS.iload X4.here hx rfl (hb hby d18_39) rfl k_) ?_
  show own_Go p e below T4 (mkF m 41 #[.val (.ref x), .val (.int (0 : Int32)), .val (.int (2 : Int32)), .val (.int z), .val (.int (2 : Int32))] [(.int (2 : Int32)), (.int (0 : Int32)), (.ref tx)]) _
  obtain ⟨_, _, ⟨T5, L5, k5, n5⟩, -, X5, ⟨Lc5, hQ5, l5, y5, z5⟩, st5⟩ := Jvm.LawKit.callS X4 hx (y := (⟨"java/lang/StringLatin1", "newString", "([BII)Ljava/lang/String;"⟩ : MethodName)) hown (mvT hZ (hw _ (List.mem_of_getElem? (i := 90) rfl))) (mvT hZ (hw _ (List.mem_of_getElem? (i := 91) rfl))) (mvT hZ (hw _ (List.mem_of_getElem? (i := 68) rfl))) (mvT hZ (hw _ (List.mem_of_getElem? (i := 92) rfl))) (by decide) (backOf (W := 0) (rmNs2 l Z a0 hw [] tx kx z u0 u1 tl h0 n0 Z0 pV_tx hez) hZ (hw _ (List.mem_of_getElem? (i := 92) rfl)) (hw _ (List.mem_of_getElem? (i := 68) rfl)) (by decide) (by decide)) (g := (mkF m 41 #[.val (.ref x), .val (.int (0 : Int32)), .val (.int (2 : Int32)), .val (.int z), .val (.int (2 : Int32))] [(.int (2 : Int32)), (.int (0 : Int32)), (.ref tx)])) rfl (by rw [hml]; rfl) (argsL := [(.ref tx), (.int (0 : Int32)), (.int (2 : Int32))]) (rest := []) (lenOf pd___BII_Ljava_lang_String_ rfl) rfl (by show 2 * 0 + _ ≤ _; exact Nat.le_of_eq rfl) (hb hby d18_41) (fun _ _ => ⟨rfl, e4, (by decide : 0 + 2 ≤ _), (by decide : 0 + 6 ≤ _)⟩)
  dsimp only [Pt.U, Pt.locs, Pt.cells, Pt.slots] at X5 l5 y5 z5 st5 hQ5
  try dsimp only [Nat.reduceAdd] at y5 z5
  rw [l5, y5, z5] at X5
  obtain ⟨y_5, b_5, kb_5, rfl, Nq5, Kq5, q5_0, q5_1, q5_2, q5_3⟩ := hQ5
  have N5 := Fr.app N3 Nq5
  have K6 : Keep h0 T5.heap [] := (Keep.refl h0 []).trans Kq5 all0
  refine own_st st5 ?_
  show own_Go p e below T5 (mkF m 44 #[.val (.ref x), .val (.int (0 : Int32)), .val (.int (2 : Int32)), .val (.int z), .val (.int (2 : Int32))] [(.ref y_5)]) _
  refine own_st (fun t_ k_ => XS.goto X5.here hx rfl (pc0 := 44) (pc' := 57) rfl (hb hby d18_44) (by decide) (by decide) k_) ?_
  show own_Go p e below T5 (mkF m 57 #[.val (.ref x), .val (.int (0 : Int32)), .val (.int (2 : Int32)), .val (.int z), .val (.int (2 : Int32))] [(.ref y_5)]) _
  obtain ⟨fs, hr, hrun, hended, hW, hsame⟩ := X5.leave (v := some (.ref y_5)) (fun h => by rw [Bd.returns] at h; cases h)
  refine own_fin (own_retR X5 hx rfl Bd.returns rfl (hb hby d18_57) hr) ⟨hrun, hended, _, _, rfl, ?_, ⟨_, rfl⟩, hW, hsame.mono (by decide) (by decide)⟩
  show Q_rmSb2 Z x tx kx z u0 u1 tl zc fm h0 n0 _ T5.heap _
  exact ⟨y_5, b_5, kb_5, rfl, N5, K6, q5_0, q5_1, q5_2, q5_3⟩
theorem ef_rmCr3 (m : MethodId) (x0 : Addr) (x1 : Int32) (x2 : Int32) : entryFrame m #[(.ref x0), (.int x1), (.int x2)] 5 = mkF m 0 #[.val (.ref x0), .val (.int x1), .val (.int x2), .unset, .unset] [] := by first | (simp [entryFrame, mkF, argsToLocals, Value.category]; done) | rfl
def Q_rmCr3 (Z : State) (t : Addr) (kt : ClassId) (z : Int32) (u0 : Int32) (u1 : Int32) (u2 : Int32) (tl : List Value) (h0 : Heap) (n0 : Nat) (v : Option Value) (h : Heap) (L : List Loc) : Prop := ∃ b : Addr, ∃ kb : ClassId, v = some (.ref b) ∧ Fr n0 L ∧ Keep h0 h [] ∧ Arv Z h b kb .byte (3 : Int32) [(.int u0), (.int u1), (.int u2)] (.int 0) ∧ h0.size ≤ b ∧ n0 ≤ b
set_option maxRecDepth 65536 in
set_option maxHeartbeats 40000000 in
theorem rmCr3 (l : Launch) (Z : State) (a0 : Array Value) (hw : ∀ d ∈ tables_1, d.before a0 Z = true) (ws : List Jvm.Cond) (t : Addr) (kt : ClassId) (z : Int32) (u0 : Int32) (u1 : Int32) (u2 : Int32) (tl : List Value) (h0 : Heap) (n0 : Nat) (Z0 : n0 ≤ h0.size) (pV_t : Arv Z h0 t kt .byte z ((.int u0) :: (.int u1) :: (.int u2) :: tl) (.int 0)) (hez : ((3 : Int32) < z)) :
    MetFree l (⟨"java/util/Arrays", "copyOfRangeByte", "([BII)[B"⟩ : MethodName) (head1 (Jvm.Cond.code (⟨"java/util/Arrays", "copyOfRangeByte", "([BII)[B"⟩ : MethodName) jdk_65_method_133_code 5 (some (.array .byte)) :: ws) ({ frames := 1, cells := 1, slots := 3, locals := 120 } : Room)) (fun a U => a = #[(.ref t), (.int (0 : Int32)), (.int (3 : Int32))] ∧ Z.Warmed39 U.vm ∧ U.heap = h0) (fun _ _ _ _ _ => True) (fun _ U o U' => ∃ v L, o = .returned v ∧ Q_rmCr3 Z t kt z u0 u1 u2 tl h0 n0 v U'.heap L ∧ FrameEnd U o U' L ({ frames := 1, cells := 1, slots := 3, locals := 120 } : Room).cells ({ frames := 1, cells := 1, slots := 3, locals := 120 } : Room).slots) := by
  refine MetFree.of_bodySF (plainFor_of_name pn_23) hisR ?_
  intro p e s m args below meth c s₁ Bd hml0 hP hK
  obtain ⟨rfl, hZ, hh⟩ := hP
  have hx := Bd.exec
  have hby := Bd.bytes
  have hml : c.maxLocals = 5 := hml0
  have hown : s.vm.findClass "java/util/Arrays" = some m.cls := findClass_of_methodNamed Bd.named
  have hnm := (name_of_methodNamed Bd.named Bd.method).1
  have X0 : Stand p l e ({ frames := 1, cells := 1, slots := 3, locals := 120 } : Room) s m #[(.ref t), (.int (0 : Int32)), (.int (3 : Int32))] below meth c s₁ [] 0 0 := Stand.of_body Bd
  have e0 : s₁.heap = h0 := by rw [← hh, Bd.state]; rfl
  have N0 := Fr.nil n0
  refine own_enter (ef_rmCr3 m t ((0 : Int32)) ((3 : Int32))) ?_
  have hzn : 3 < z.toInt := by rw [Int32.lt_iff_toInt_lt] at hez; exact hez
  refine own_st (fun t_ k_ => XS.iloadN X0.here hx rfl (hb hby d23_0) rfl k_) ?_
  refine own_st (fun t_ k_ => XS.iloadN X0.here hx rfl (hb hby d23_1) rfl k_) ?_
  show own_Go p e below s₁ (mkF m 2 #[.val (.ref t), .val (.int (0 : Int32)), .val (.int (3 : Int32)), .unset, .unset] [(.int (3 : Int32)), (.int (0 : Int32))]) _
  obtain ⟨_, _, ⟨T1, L1, k1, n1⟩, -, X1, ⟨Lc1, hQ1, l1, y1, z1⟩, st1⟩ := Jvm.LawKit.callS X0 hx (y := (⟨"java/util/Arrays", "checkLength", "(II)V"⟩ : MethodName)) hown (mvT hZ (hw _ (List.mem_of_getElem? (i := 101) rfl))) (mvT hZ (hw _ (List.mem_of_getElem? (i := 102) rfl))) (mvT hZ (hw _ (List.mem_of_getElem? (i := 96) rfl))) (mvT hZ (hw _ (List.mem_of_getElem? (i := 103) rfl))) (by decide) (backOf (W := 0) (rmCl l Z a0 hw [] ((0 : Int32)) ((3 : Int32)) h0 n0 Z0 (by decide)) hZ (hw _ (List.mem_of_getElem? (i := 103) rfl)) (hw _ (List.mem_of_getElem? (i := 96) rfl)) (by decide) (by decide)) (g := (mkF m 2 #[.val (.ref t), .val (.int (0 : Int32)), .val (.int (3 : Int32)), .unset, .unset] [(.int (3 : Int32)), (.int (0 : Int32))])) rfl (by rw [hml]; rfl) (argsL := [(.int (0 : Int32)), (.int (3 : Int32))]) (rest := []) (lenOf pd__II_V rfl) rfl (by show 2 * 0 + _ ≤ _; exact Nat.le_of_eq rfl) (hb hby d23_2) (fun _ _ => ⟨rfl, e0, (by decide : 0 + 0 ≤ _), (by decide : 0 + 0 ≤ _)⟩)
  dsimp only [Pt.U, Pt.locs, Pt.cells, Pt.slots] at X1 l1 y1 z1 st1 hQ1
  try dsimp only [Nat.reduceAdd] at y1 z1
  rw [l1, y1, z1] at X1
  obtain ⟨rfl, Nq1, eH1⟩ := hQ1
  have N1 := Fr.app N0 Nq1
  refine own_st st1 ?_
  show own_Go p e below T1 (mkF m 5 #[.val (.ref t), .val (.int (0 : Int32)), .val (.int (3 : Int32)), .unset, .unset] []) _
  refine own_st (fun t_ k_ => XS.iloadN X1.here hx rfl (hb hby d23_5) rfl k_) ?_
  refine own_st (fun t_ k_ => XS.iloadN X1.here hx rfl (hb hby d23_6) rfl k_) ?_
  refine own_st (fun t_ k_ => XS.isub X1.here hx rfl (hb hby d23_7) rfl k_) ?_
  refine own_st (fun t_ k_ => XS.istoreN X1.here hx rfl (hb hby d23_8) rfl (l' := #[.val (.ref t), .val (.int (0 : Int32)), .val (.int (3 : Int32)), .val (.int (3 : Int32)), .unset]) rfl k_) ?_
  refine own_st (fun t_ k_ => XS.iloadN X1.here hx rfl (hb hby d23_9) rfl k_) ?_
  show own_Go p e below T1 (mkF m 10 #[.val (.ref t), .val (.int (0 : Int32)), .val (.int (3 : Int32)), .val (.int (3 : Int32)), .unset] [(.int (3 : Int32))]) _
  obtain ⟨T2, h2, k2, X2, e2, E2, A2, st2⟩ := newP X1 hx hZ (hw _ (List.mem_of_getElem? (i := 26) rfl)) eH1 (g := (mkF m 10 #[.val (.ref t), .val (.int (0 : Int32)), .val (.int (3 : Int32)), .val (.int (3 : Int32)), .unset] [(.int (3 : Int32))])) rfl (hb hby d23_10) rfl (by decide) (cap := 3) (by decide) (by decide) (by decide) (by decide)
  obtain ⟨b2, g2⟩ : ∃ z, z = h0.size := ⟨_, rfl⟩
  rw [← g2] at A2 st2
  have G2 : n0 ≤ b2 := Nat.le_trans Z0 (Nat.le_of_eq g2.symm)
  have B2 : h0.size ≤ b2 := Nat.le_trans (Keep.refl h0 []).1 (Nat.le_of_eq g2.symm)
  have K3 : Keep h0 h2 [] := (Keep.refl h0 []).ext E2
  have V2 : Arv Z h2 b2 k2 .byte (3 : Int32) [(.int (0 : Int32)), (.int (0 : Int32)), (.int (0 : Int32))] (.int (0 : Int32)) := (Arv.new A2 (by decide)).pad (pad_rep [] (.int (0 : Int32)) 3)
  refine own_st st2 ?_
  show own_Go p e below T2 (mkF m 12 #[.val (.ref t), .val (.int (0 : Int32)), .val (.int (3 : Int32)), .val (.int (3 : Int32)), .unset] [(.ref b2)]) _
  refine own_st (fun t_ k_ => XS.astore X2.here hx rfl (hb hby d23_12) rfl rfl (l' := #[.val (.ref t), .val (.int (0 : Int32)), .val (.int (3 : Int32)), .val (.int (3 : Int32)), .val (.ref b2)]) rfl k_) ?_
  refine own_st (fun t_ k_ => XS.aloadN X2.here hx rfl (hb hby d23_14) rfl rfl k_) ?_
  refine own_st (fun t_ k_ => XS.iloadN X2.here hx rfl (hb hby d23_15) rfl k_) ?_
  refine own_st (fun t_ k_ => XS.aload X2.here hx rfl (hb hby d23_16) rfl rfl k_) ?_
  refine own_st (fun t_ k_ => XS.iconst X2.here hx rfl (hb hby d23_18) k_) ?_
  show own_Go p e below T2 (mkF m 19 #[.val (.ref t), .val (.int (0 : Int32)), .val (.int (3 : Int32)), .val (.int (3 : Int32)), .val (.ref b2)] [(.int (0 : Int32)), (.ref b2), (.int (0 : Int32)), (.ref t)]) _
  refine own_st (fun t_ k_ => XS.aloadN X2.here hx rfl (hb hby d23_19) rfl rfl k_) ?_
  show own_Go p e below T2 (mkF m 20 #[.val (.ref t), .val (.int (0 : Int32)), .val (.int (3 : Int32)), .val (.int (3 : Int32)), .val (.ref b2)] [(.ref t), (.int (0 : Int32)), (.ref b2), (.int (0 : Int32)), (.ref t)]) _
  have f4 := (pV_t.ext E2)
  obtain ⟨cl5, Ar5, q5, Sz5, Nn5, Hh5, Gg5⟩ := id f4
  refine own_st (fun t_ k_ => X2.arraylength hx (by rw [e2]; exact Ar5.1) (State.isArrayOf_alike hZ.alike Ar5.2.1) (g := (mkF m 20 #[.val (.ref t), .val (.int (0 : Int32)), .val (.int (3 : Int32)), .val (.int (3 : Int32)), .val (.ref b2)] [(.ref t), (.int (0 : Int32)), (.ref b2), (.int (0 : Int32)), (.ref t)])) rfl rfl (hb hby d23_20) _ k_) ?_
  rw [len_of Sz5 Nn5]
  show own_Go p e below T2 (mkF m 21 #[.val (.ref t), .val (.int (0 : Int32)), .val (.int (3 : Int32)), .val (.int (3 : Int32)), .val (.ref b2)] [(.int z), (.int (0 : Int32)), (.ref b2), (.int (0 : Int32)), (.ref t)]) _
  refine own_st (fun t_ k_ => XS.iloadN X2.here hx rfl (hb hby d23_21) rfl k_) ?_
  refine own_st (fun t_ k_ => XS.isub X2.here hx rfl (hb hby d23_22) rfl k_) ?_
  show own_Go p e below T2 (mkF m 23 #[.val (.ref t), .val (.int (0 : Int32)), .val (.int (3 : Int32)), .val (.int (3 : Int32)), .val (.ref b2)] [(.int (z - (0 : Int32))), (.int (0 : Int32)), (.ref b2), (.int (0 : Int32)), (.ref t)]) _
  rw [own_sub0 z]
  show own_Go p e below T2 (mkF m 23 #[.val (.ref t), .val (.int (0 : Int32)), .val (.int (3 : Int32)), .val (.int (3 : Int32)), .val (.ref b2)] [(.int z), (.int (0 : Int32)), (.ref b2), (.int (0 : Int32)), (.ref t)]) _
  refine own_st (fun t_ k_ => XS.iloadN X2.here hx rfl (hb hby d23_23) rfl k_) ?_
  show own_Go p e below T2 (mkF m 24 #[.val (.ref t), .val (.int (0 : Int32)), .val (.int (3 : Int32)), .val (.int (3 : Int32)), .val (.ref b2)] [(.int (3 : Int32)), (.int z), (.int (0 : Int32)), (.ref b2), (.int (0 : Int32)), (.ref t)]) _
  have f6 := (Nat.le_trans Z0 E2.1)
  obtain ⟨_, _, ⟨T7, L7, k7, n7⟩, -, X7, ⟨Lc7, hQ7, l7, y7, z7⟩, st7⟩ := Jvm.LawKit.callS X2 hx (y := (⟨"java/lang/Math", "min", "(II)I"⟩ : MethodName)) hown (mvT hZ (hw _ (List.mem_of_getElem? (i := 104) rfl))) (mvT hZ (hw _ (List.mem_of_getElem? (i := 74) rfl))) (mvT hZ (hw _ (List.mem_of_getElem? (i := 75) rfl))) (mvT hZ (hw _ (List.mem_of_getElem? (i := 76) rfl))) (by decide) (backOf (W := 4) (rmMb l Z a0 hw [] z ((3 : Int32)) h2 n0 f6 hez) hZ (hw _ (List.mem_of_getElem? (i := 76) rfl)) (hw _ (List.mem_of_getElem? (i := 75) rfl)) (by decide) (by decide)) (g := (mkF m 24 #[.val (.ref t), .val (.int (0 : Int32)), .val (.int (3 : Int32)), .val (.int (3 : Int32)), .val (.ref b2)] [(.int (3 : Int32)), (.int z), (.int (0 : Int32)), (.ref b2), (.int (0 : Int32)), (.ref t)])) rfl (by rw [hml]; rfl) (argsL := [(.int z), (.int (3 : Int32))]) (rest := [(.int (0 : Int32)), (.ref b2), (.int (0 : Int32)), (.ref t)]) (lenOf pd__II_I rfl) rfl (by show 2 * 0 + _ ≤ _; exact Nat.le_of_eq rfl) (hb hby d23_24) (fun _ _ => ⟨rfl, e2, (by decide : 1 + 0 ≤ _), (by decide : 3 + 0 ≤ _)⟩)
  dsimp only [Pt.U, Pt.locs, Pt.cells, Pt.slots] at X7 l7 y7 z7 st7 hQ7
  try dsimp only [Nat.reduceAdd] at y7 z7
  rw [l7, y7, z7] at X7
  obtain ⟨rfl, Nq7, eH7⟩ := hQ7
  have N7 := Fr.app N1 Nq7
  refine own_st st7 ?_
  show own_Go p e below T7 (mkF m 27 #[.val (.ref t), .val (.int (0 : Int32)), .val (.int (3 : Int32)), .val (.int (3 : Int32)), .val (.ref b2)] [(.int (3 : Int32)), (.int (0 : Int32)), (.ref b2), (.int (0 : Int32)), (.ref t)]) _
  obtain ⟨T8, h8, L8, X8, e8, N8, Kq8, Va8, st8⟩ := cpA X7 hx hZ hown (hw _ (List.mem_of_getElem? (i := 105) rfl)) (hw _ (List.mem_of_getElem? (i := 108) rfl)) (hw _ (List.mem_of_getElem? (i := 106) rfl)) (hw _ (List.mem_of_getElem? (i := 107) rfl)) eH7 f4 V2 (Or.inl ⟨rfl, rfl⟩) (sp := (0 : Int32)) (dp := (0 : Int32)) (nn := (3 : Int32)) (by decide) (by decide) (by decide) (by show 0 + 3 ≤ _; simp only [Int32.toNatClampNeg]; omega) (by decide) (us := [(.int u0), (.int u1), (.int u2)]) rfl (by decide) N7 G2 (g := (mkF m 27 #[.val (.ref t), .val (.int (0 : Int32)), .val (.int (3 : Int32)), .val (.int (3 : Int32)), .val (.ref b2)] [(.int (3 : Int32)), (.int (0 : Int32)), (.ref b2), (.int (0 : Int32)), (.ref t)])) rfl (by rw [hml]; rfl) (rest := []) rfl (hb hby d23_27) (by decide) (W := 0) (by show 2 * 0 + _ ≤ _; exact Nat.le_of_eq rfl) (by decide +kernel)
  have V8 : Arv Z h8 b2 k2 .byte (3 : Int32) [(.int u0), (.int u1), (.int u2)] (.int (0 : Int32)) := Va8
  have K9 : Keep h0 h8 [] := K3.trans Kq8 (allS (Or.inr B2) all0)
  refine own_st st8 ?_
  show own_Go p e below T8 (mkF m 30 #[.val (.ref t), .val (.int (0 : Int32)), .val (.int (3 : Int32)), .val (.int (3 : Int32)), .val (.ref b2)] []) _
  refine own_st (fun t_ k_ => XS.aload X8.here hx rfl (hb hby d23_30) rfl rfl k_) ?_
  show own_Go p e below T8 (mkF m 32 #[.val (.ref t), .val (.int (0 : Int32)), .val (.int (3 : Int32)), .val (.int (3 : Int32)), .val (.ref b2)] [(.ref b2)]) _
  obtain ⟨fs, hr, hrun, hended, hW, hsame⟩ := X8.leave (v := some (.ref b2)) (fun h => by rw [Bd.returns] at h; cases h)
  refine own_fin (own_retR X8 hx rfl Bd.returns rfl (hb hby d23_32) hr) ⟨hrun, hended, _, _, rfl, ?_, ⟨_, rfl⟩, hW, hsame.mono (by decide) (by decide)⟩
  show Q_rmCr3 Z t kt z u0 u1 u2 tl h0 n0 _ T8.heap _
  rw [e8]
  exact ⟨b2, k2, rfl, N8, K9, V8, B2, G2⟩
theorem ef_rmCp3 (m : MethodId) (x0 : Addr) (x1 : Int32) (x2 : Int32) : entryFrame m #[(.ref x0), (.int x1), (.int x2)] 3 = mkF m 0 #[.val (.ref x0), .val (.int x1), .val (.int x2)] [] := by first | (simp [entryFrame, mkF, argsToLocals, Value.category]; done) | rfl
def Q_rmCp3 (Z : State) (t : Addr) (kt : ClassId) (z : Int32) (u0 : Int32) (u1 : Int32) (u2 : Int32) (tl : List Value) (h0 : Heap) (n0 : Nat) (v : Option Value) (h : Heap) (L : List Loc) : Prop := ∃ b : Addr, ∃ kb : ClassId, v = some (.ref b) ∧ Fr n0 L ∧ Keep h0 h [] ∧ Arv Z h b kb .byte (3 : Int32) [(.int u0), (.int u1), (.int u2)] (.int 0) ∧ h0.size ≤ b ∧ n0 ≤ b
set_option maxRecDepth 65536 in
set_option maxHeartbeats 40000000 in
theorem rmCp3 (l : Launch) (Z : State) (a0 : Array Value) (hw : ∀ d ∈ tables_1, d.before a0 Z = true) (ws : List Jvm.Cond) (t : Addr) (kt : ClassId) (z : Int32) (u0 : Int32) (u1 : Int32) (u2 : Int32) (tl : List Value) (h0 : Heap) (n0 : Nat) (Z0 : n0 ≤ h0.size) (pV_t : Arv Z h0 t kt .byte z ((.int u0) :: (.int u1) :: (.int u2) :: tl) (.int 0)) (hez : ((3 : Int32) < z)) :
    MetFree l (⟨"java/util/Arrays", "copyOfRange", "([BII)[B"⟩ : MethodName) (head1 (Jvm.Cond.code (⟨"java/util/Arrays", "copyOfRange", "([BII)[B"⟩ : MethodName) jdk_65_method_132_code 3 (some (.array .byte)) :: ws) ({ frames := 2, cells := 1, slots := 3, locals := 136 } : Room)) (fun a U => a = #[(.ref t), (.int (0 : Int32)), (.int (3 : Int32))] ∧ Z.Warmed39 U.vm ∧ U.heap = h0) (fun _ _ _ _ _ => True) (fun _ U o U' => ∃ v L, o = .returned v ∧ Q_rmCp3 Z t kt z u0 u1 u2 tl h0 n0 v U'.heap L ∧ FrameEnd U o U' L ({ frames := 2, cells := 1, slots := 3, locals := 136 } : Room).cells ({ frames := 2, cells := 1, slots := 3, locals := 136 } : Room).slots) := by
  refine MetFree.of_bodySF (plainFor_of_name pn_22) hisR ?_
  intro p e s m args below meth c s₁ Bd hml0 hP hK
  obtain ⟨rfl, hZ, hh⟩ := hP
  have hx := Bd.exec
  have hby := Bd.bytes
  have hml : c.maxLocals = 3 := hml0
  have hown : s.vm.findClass "java/util/Arrays" = some m.cls := findClass_of_methodNamed Bd.named
  have hnm := (name_of_methodNamed Bd.named Bd.method).1
  have X0 : Stand p l e ({ frames := 2, cells := 1, slots := 3, locals := 136 } : Room) s m #[(.ref t), (.int (0 : Int32)), (.int (3 : Int32))] below meth c s₁ [] 0 0 := Stand.of_body Bd
  have e0 : s₁.heap = h0 := by rw [← hh, Bd.state]; rfl
  have N0 := Fr.nil n0
  refine own_enter (ef_rmCp3 m t ((0 : Int32)) ((3 : Int32))) ?_
  have hne : ¬ ((3 : Int32) = z) := fun q => absurd hez (by rw [← q]; decide)
  refine own_st (fun t_ k_ => XS.iloadN X0.here hx rfl (hb hby d22_0) rfl k_) ?_
  refine own_st (fun t_ k_ => XS.ifNo X0.here hx rfl (hb hby d22_1) rfl (by decide) k_) ?_
  refine own_st (fun t_ k_ => XS.iloadN X0.here hx rfl (hb hby d22_4) rfl k_) ?_
  refine own_st (fun t_ k_ => XS.aloadN X0.here hx rfl (hb hby d22_5) rfl rfl k_) ?_
  show own_Go p e below s₁ (mkF m 6 #[.val (.ref t), .val (.int (0 : Int32)), .val (.int (3 : Int32))] [(.ref t), (.int (3 : Int32))]) _
  obtain ⟨cl1, Ar1, q1, Sz1, Nn1, Hh1, Gg1⟩ := id pV_t
  refine own_st (fun t_ k_ => X0.arraylength hx (by rw [e0]; exact Ar1.1) (State.isArrayOf_alike hZ.alike Ar1.2.1) (g := (mkF m 6 #[.val (.ref t), .val (.int (0 : Int32)), .val (.int (3 : Int32))] [(.ref t), (.int (3 : Int32))])) rfl rfl (hb hby d22_6) _ k_) ?_
  rw [len_of Sz1 Nn1]
  show own_Go p e below s₁ (mkF m 7 #[.val (.ref t), .val (.int (0 : Int32)), .val (.int (3 : Int32))] [(.int z), (.int (3 : Int32))]) _
  refine own_st (fun t_ k_ => XS.icmpNo X0.here hx rfl (hb hby d22_7) rfl (feq hne).1 k_) ?_
  refine own_st (fun t_ k_ => XS.aloadN X0.here hx rfl (hb hby d22_10) rfl rfl k_) ?_
  refine own_st (fun t_ k_ => XS.iloadN X0.here hx rfl (hb hby d22_11) rfl k_) ?_
  refine own_st (fun t_ k_ => XS.iloadN X0.here hx rfl (hb hby d22_12) rfl k_) ?_
  show own_Go p e below s₁ (mkF m 13 #[.val (.ref t), .val (.int (0 : Int32)), .val (.int (3 : Int32))] [(.int (3 : Int32)), (.int (0 : Int32)), (.ref t)]) _
  obtain ⟨_, _, ⟨T2, L2, k2, n2⟩, -, X2, ⟨Lc2, hQ2, l2, y2, z2⟩, st2⟩ := Jvm.LawKit.callS X0 hx (y := (⟨"java/util/Arrays", "copyOfRangeByte", "([BII)[B"⟩ : MethodName)) hown (mvT hZ (hw _ (List.mem_of_getElem? (i := 98) rfl))) (mvT hZ (hw _ (List.mem_of_getElem? (i := 99) rfl))) (mvT hZ (hw _ (List.mem_of_getElem? (i := 96) rfl))) (mvT hZ (hw _ (List.mem_of_getElem? (i := 100) rfl))) (by decide) (backOf (W := 0) (rmCr3 l Z a0 hw [] t kt z u0 u1 u2 tl h0 n0 Z0 pV_t hez) hZ (hw _ (List.mem_of_getElem? (i := 100) rfl)) (hw _ (List.mem_of_getElem? (i := 96) rfl)) (by decide) (by decide)) (g := (mkF m 13 #[.val (.ref t), .val (.int (0 : Int32)), .val (.int (3 : Int32))] [(.int (3 : Int32)), (.int (0 : Int32)), (.ref t)])) rfl (by rw [hml]; rfl) (argsL := [(.ref t), (.int (0 : Int32)), (.int (3 : Int32))]) (rest := []) (lenOf pd___BII__B rfl) rfl (by show 2 * 0 + _ ≤ _; exact Nat.le_of_eq rfl) (hb hby d22_13) (fun _ _ => ⟨rfl, e0, (by decide : 0 + 1 ≤ _), (by decide : 0 + 3 ≤ _)⟩)
  dsimp only [Pt.U, Pt.locs, Pt.cells, Pt.slots] at X2 l2 y2 z2 st2 hQ2
  try dsimp only [Nat.reduceAdd] at y2 z2
  rw [l2, y2, z2] at X2
  obtain ⟨b_2, kb_2, rfl, Nq2, Kq2, q2_0, q2_1, q2_2⟩ := hQ2
  have N2 := Fr.app N0 Nq2
  have K3 : Keep h0 T2.heap [] := (Keep.refl h0 []).trans Kq2 all0
  have Bf4 : h0.size ≤ b_2 := Nat.le_trans (Keep.refl h0 []).1 q2_1
  refine own_st st2 ?_
  show own_Go p e below T2 (mkF m 16 #[.val (.ref t), .val (.int (0 : Int32)), .val (.int (3 : Int32))] [(.ref b_2)]) _
  obtain ⟨fs, hr, hrun, hended, hW, hsame⟩ := X2.leave (v := some (.ref b_2)) (fun h => by rw [Bd.returns] at h; cases h)
  refine own_fin (own_retR X2 hx rfl Bd.returns rfl (hb hby d22_16) hr) ⟨hrun, hended, _, _, rfl, ?_, ⟨_, rfl⟩, hW, hsame.mono (by decide) (by decide)⟩
  show Q_rmCp3 Z t kt z u0 u1 u2 tl h0 n0 _ T2.heap _
  exact ⟨b_2, kb_2, rfl, N2, K3, q2_0, Bf4, q2_2⟩
theorem ef_rmNs3 (m : MethodId) (x0 : Addr) (x1 : Int32) (x2 : Int32) : entryFrame m #[(.ref x0), (.int x1), (.int x2)] 3 = mkF m 0 #[.val (.ref x0), .val (.int x1), .val (.int x2)] [] := by first | (simp [entryFrame, mkF, argsToLocals, Value.category]; done) | rfl
def Q_rmNs3 (Z : State) (t : Addr) (kt : ClassId) (z : Int32) (u0 : Int32) (u1 : Int32) (u2 : Int32) (tl : List Value) (h0 : Heap) (n0 : Nat) (v : Option Value) (h : Heap) (L : List Loc) : Prop := ∃ y : Addr, ∃ b : Addr, ∃ kb : ClassId, v = some (.ref y) ∧ Fr n0 L ∧ Keep h0 h [] ∧ Exa Z h y "java/lang/String" ∧ Fld Z h y "java/lang/String" "value" "[B" (.ref b) ∧ Fld Z h y "java/lang/String" "coder" "B" (.int (0 : Int32)) ∧ Arv Z h b kb .byte (3 : Int32) [(.int u0), (.int u1), (.int u2)] (.int 0)
set_option maxRecDepth 65536 in
set_option maxHeartbeats 40000000 in
theorem rmNs3 (l : Launch) (Z : State) (a0 : Array Value) (hw : ∀ d ∈ tables_1, d.before a0 Z = true) (ws : List Jvm.Cond) (t : Addr) (kt : ClassId) (z : Int32) (u0 : Int32) (u1 : Int32) (u2 : Int32) (tl : List Value) (h0 : Heap) (n0 : Nat) (Z0 : n0 ≤ h0.size) (pV_t : Arv Z h0 t kt .byte z ((.int u0) :: (.int u1) :: (.int u2) :: tl) (.int 0)) (hez : ((3 : Int32) < z)) :
    MetFree l (⟨"java/lang/StringLatin1", "newString", "([BII)Ljava/lang/String;"⟩ : MethodName) (head1 (Jvm.Cond.code (⟨"java/lang/StringLatin1", "newString", "([BII)Ljava/lang/String;"⟩ : MethodName) jdk_43_method_47_code 3 (some (.object "java/lang/String")) :: ws) ({ frames := 3, cells := 2, slots := 7, locals := 152 } : Room)) (fun a U => a = #[(.ref t), (.int (0 : Int32)), (.int (3 : Int32))] ∧ Z.Warmed39 U.vm ∧ U.heap = h0) (fun _ _ _ _ _ => True) (fun _ U o U' => ∃ v L, o = .returned v ∧ Q_rmNs3 Z t kt z u0 u1 u2 tl h0 n0 v U'.heap L ∧ FrameEnd U o U' L ({ frames := 3, cells := 2, slots := 7, locals := 152 } : Room).cells ({ frames := 3, cells := 2, slots := 7, locals := 152 } : Room).slots) := by
  refine MetFree.of_bodySF (plainFor_of_name pn_21) hisR ?_
  intro p e s m args below meth c s₁ Bd hml0 hP hK
  obtain ⟨rfl, hZ, hh⟩ := hP
  have hx := Bd.exec
  have hby := Bd.bytes
  have hml : c.maxLocals = 3 := hml0
  have hown : s.vm.findClass "java/lang/StringLatin1" = some m.cls := findClass_of_methodNamed Bd.named
  have hnm := (name_of_methodNamed Bd.named Bd.method).1
  have X0 : Stand p l e ({ frames := 3, cells := 2, slots := 7, locals := 152 } : Room) s m #[(.ref t), (.int (0 : Int32)), (.int (3 : Int32))] below meth c s₁ [] 0 0 := Stand.of_body Bd
  have e0 : s₁.heap = h0 := by rw [← hh, Bd.state]; rfl
  have N0 := Fr.nil n0
  refine own_enter (ef_rmNs3 m t ((0 : Int32)) ((3 : Int32))) ?_
  refine own_st (fun t_ k_ => XS.iloadN X0.here hx rfl (hb hby d21_0) rfl k_) ?_
  refine own_st (fun t_ k_ => XS.ifYes X0.here hx rfl (pc0 := 1) (pc' := 7) rfl (hb hby d21_1) rfl (by decide) (by decide) (by decide) k_) ?_
  show own_Go p e below s₁ (mkF m 7 #[.val (.ref t), .val (.int (0 : Int32)), .val (.int (3 : Int32))] []) _
  obtain ⟨T1, h1, X1, e1, E1, A1, D1, -, st1⟩ := newO X0 hx hZ hown (hw _ (List.mem_of_getElem? (i := 93) rfl)) (hw _ (List.mem_of_getElem? (i := 9) rfl)) (hw _ (List.mem_of_getElem? (i := 10) rfl)) e0 (g := (mkF m 7 #[.val (.ref t), .val (.int (0 : Int32)), .val (.int (3 : Int32))] [])) rfl (hb hby d21_7) (by decide) (by decide)
  obtain ⟨b1, g1⟩ : ∃ z, z = h0.size := ⟨_, rfl⟩
  rw [← g1] at A1 D1 st1
  have G1 : n0 ≤ b1 := Nat.le_trans Z0 (Nat.le_of_eq g1.symm)
  have B1 : h0.size ≤ b1 := Nat.le_trans (Keep.refl h0 []).1 (Nat.le_of_eq g1.symm)
  have K2 : Keep h0 h1 [] := (Keep.refl h0 []).ext E1
  have D1_coder : Fld Z h1 b1 "java/lang/String" "coder" "B" (.int (0 : Int32)) := D1 (Or.inr (hw _ (List.mem_of_getElem? (i := 34) rfl))) (ty := .byte) (by decide)
  have D1_value : Fld Z h1 b1 "java/lang/String" "value" "[B" .null := D1 (Or.inr (hw _ (List.mem_of_getElem? (i := 36) rfl))) (ty := (.array .byte)) (by decide)
  refine own_st st1 ?_
  show own_Go p e below T1 (mkF m 10 #[.val (.ref t), .val (.int (0 : Int32)), .val (.int (3 : Int32))] [(.ref b1)]) _
  refine own_st (fun t_ k_ => XS.dup X1.here hx rfl (hb hby d21_10) rfl rfl k_) ?_
  refine own_st (fun t_ k_ => XS.aloadN X1.here hx rfl (hb hby d21_11) rfl rfl k_) ?_
  refine own_st (fun t_ k_ => XS.iloadN X1.here hx rfl (hb hby d21_12) rfl k_) ?_
  refine own_st (fun t_ k_ => XS.iloadN X1.here hx rfl (hb hby d21_13) rfl k_) ?_
  refine own_st (fun t_ k_ => XS.iloadN X1.here hx rfl (hb hby d21_14) rfl k_) ?_
  show own_Go p e below T1 (mkF m 15 #[.val (.ref t), .val (.int (0 : Int32)), .val (.int (3 : Int32))] [(.int (3 : Int32)), (.int (0 : Int32)), (.int (0 : Int32)), (.ref t), (.ref b1), (.ref b1)]) _
  refine own_st (fun t_ k_ => XS.iadd X1.here hx rfl (hb hby d21_15) rfl k_) ?_
  show own_Go p e below T1 (mkF m 16 #[.val (.ref t), .val (.int (0 : Int32)), .val (.int (3 : Int32))] [(.int (3 : Int32)), (.int (0 : Int32)), (.ref t), (.ref b1), (.ref b1)]) _
  have f3 := (Nat.le_trans Z0 E1.1)
  have f4 := (pV_t.ext E1)
  obtain ⟨_, _, ⟨T5, L5, k5, n5⟩, -, X5, ⟨Lc5, hQ5, l5, y5, z5⟩, st5⟩ := Jvm.LawKit.callS X1 hx (y := (⟨"java/util/Arrays", "copyOfRange", "([BII)[B"⟩ : MethodName)) hown (mvT hZ (hw _ (List.mem_of_getElem? (i := 94) rfl))) (mvT hZ (hw _ (List.mem_of_getElem? (i := 95) rfl))) (mvT hZ (hw _ (List.mem_of_getElem? (i := 96) rfl))) (mvT hZ (hw _ (List.mem_of_getElem? (i := 97) rfl))) (by decide) (backOf (W := 2) (rmCp3 l Z a0 hw [] t kt z u0 u1 u2 tl h1 n0 f3 f4 hez) hZ (hw _ (List.mem_of_getElem? (i := 97) rfl)) (hw _ (List.mem_of_getElem? (i := 96) rfl)) (by decide) (by decide)) (g := (mkF m 16 #[.val (.ref t), .val (.int (0 : Int32)), .val (.int (3 : Int32))] [(.int (3 : Int32)), (.int (0 : Int32)), (.ref t), (.ref b1), (.ref b1)])) rfl (by rw [hml]; rfl) (argsL := [(.ref t), (.int (0 : Int32)), (.int (3 : Int32))]) (rest := [(.ref b1), (.ref b1)]) (lenOf pd___BII__B rfl) rfl (by show 2 * 0 + _ ≤ _; exact Nat.le_of_eq rfl) (hb hby d21_16) (fun _ _ => ⟨rfl, e1, (by decide : 1 + 1 ≤ _), (by decide : 4 + 3 ≤ _)⟩)
  dsimp only [Pt.U, Pt.locs, Pt.cells, Pt.slots] at X5 l5 y5 z5 st5 hQ5
  try dsimp only [Nat.reduceAdd] at y5 z5
  rw [l5, y5, z5] at X5
  obtain ⟨b_5, kb_5, rfl, Nq5, Kq5, q5_0, q5_1, q5_2⟩ := hQ5
  have N5 := Fr.app N0 Nq5
  have K6 : Keep h0 T5.heap [] := K2.trans Kq5 all0
  have Bf7 : h0.size ≤ b_5 := Nat.le_trans K2.1 q5_1
  refine own_st st5 ?_
  show own_Go p e below T5 (mkF m 19 #[.val (.ref t), .val (.int (0 : Int32)), .val (.int (3 : Int32))] [(.ref b_5), (.ref b1), (.ref b1)]) _
  refine own_st (fun t_ k_ => XS.iconst X5.here hx rfl (hb hby d21_19) k_) ?_
  show own_Go p e below T5 (mkF m 20 #[.val (.ref t), .val (.int (0 : Int32)), .val (.int (3 : Int32))] [(.int (0 : Int32)), (.ref b_5), (.ref b1), (.ref b1)]) _
  have f8 := (Nat.le_trans f3 Kq5.1)
  have f9 := (A1.keep Kq5)
  have f10 := (D1_value.keep Kq5 nin0)
  have f11 := (D1_coder.keep Kq5 nin0)
  obtain ⟨_, _, ⟨T12, L12, k12, n12⟩, -, X12, ⟨Lc12, hQ12, l12, y12, z12⟩, st12⟩ := X5.specialBack hx (y := (⟨"java/lang/String", "<init>", "([BB)V"⟩ : MethodName)) rfl hown (mvT hZ (hw _ (List.mem_of_getElem? (i := 109) rfl))) (mvT hZ (hw _ (List.mem_of_getElem? (i := 110) rfl))) (mvT hZ (hw _ (List.mem_of_getElem? (i := 111) rfl))) (by decide) (backOf (W := 1) (rmIb l Z a0 hw [] b1 b_5 .null ((.int (0 : Int32))) T5.heap n0 f8 f9 f10 f11 G1) hZ (hw _ (List.mem_of_getElem? (i := 111) rfl)) (hw _ (List.mem_of_getElem? (i := 10) rfl)) (by decide) (by decide)) (g := (mkF m 20 #[.val (.ref t), .val (.int (0 : Int32)), .val (.int (3 : Int32))] [(.int (0 : Int32)), (.ref b_5), (.ref b1), (.ref b1)])) rfl (by rw [hml]; rfl) (Steps.refl _) (a := b1) (argsL := [(.ref b_5), (.int (0 : Int32))]) (rest := [(.ref b1)]) (lenOf pd___BB_V rfl) rfl (by show 2 * 0 + _ ≤ _; exact Nat.le_of_eq rfl) (hb hby d21_20) (fun _ _ => ⟨rfl, rfl, (by decide : 2 + 0 ≤ _), (by decide : 7 + 0 ≤ _)⟩)
  dsimp only [Pt.U, Pt.locs, Pt.cells, Pt.slots] at X12 l12 y12 z12 st12 hQ12
  try dsimp only [Nat.reduceAdd] at y12 z12
  rw [l12, y12, z12] at X12
  obtain ⟨rfl, Nq12, Kq12, q12_0, q12_1, q12_2⟩ := hQ12
  have N12 := Fr.app N5 Nq12
  have K13 : Keep h0 T12.heap [] := K6.trans Kq12 (allS (Or.inr B1) all0)
  refine own_tr st12 ?_
  show own_Go p e below T12 (mkF m 23 #[.val (.ref t), .val (.int (0 : Int32)), .val (.int (3 : Int32))] [(.ref b1)]) _
  have f14 := (q5_0.keep Kq12 (ninS (Ne.symm (Nat.ne_of_lt (Nat.lt_of_lt_of_le A1.lt q5_1))) nin0))
  obtain ⟨fs, hr, hrun, hended, hW, hsame⟩ := X12.leave (v := some (.ref b1)) (fun h => by rw [Bd.returns] at h; cases h)
  refine own_fin (own_retR X12 hx rfl Bd.returns rfl (hb hby d21_23) hr) ⟨hrun, hended, _, _, rfl, ?_, ⟨_, rfl⟩, hW, hsame.mono (by decide) (by decide)⟩
  show Q_rmNs3 Z t kt z u0 u1 u2 tl h0 n0 _ T12.heap _
  exact ⟨b1, b_5, kb_5, rfl, N12, K13, q12_0, q12_1, q12_2, f14⟩
theorem ef_rmSb3 (m : MethodId) (x0 : Addr) (x1 : Int32) (x2 : Int32) : entryFrame m #[(.ref x0), (.int x1), (.int x2)] 5 = mkF m 0 #[.val (.ref x0), .val (.int x1), .val (.int x2), .unset, .unset] [] := by first | (simp [entryFrame, mkF, argsToLocals, Value.category]; done) | rfl
def Q_rmSb3 (Z : State) (x : Addr) (tx : Addr) (kx : ClassId) (z : Int32) (u0 : Int32) (u1 : Int32) (u2 : Int32) (tl : List Value) (zc : Int32) (fm : Value) (h0 : Heap) (n0 : Nat) (v : Option Value) (h : Heap) (L : List Loc) : Prop := ∃ y : Addr, ∃ b : Addr, ∃ kb : ClassId, v = some (.ref y) ∧ Fr n0 L ∧ Keep h0 h [] ∧ Exa Z h y "java/lang/String" ∧ Fld Z h y "java/lang/String" "value" "[B" (.ref b) ∧ Fld Z h y "java/lang/String" "coder" "B" (.int (0 : Int32)) ∧ Arv Z h b kb .byte (3 : Int32) [(.int u0), (.int u1), (.int u2)] (.int 0)
set_option maxRecDepth 65536 in
set_option maxHeartbeats 40000000 in
theorem rmSb3 (l : Launch) (Z : State) (a0 : Array Value) (hw : ∀ d ∈ tables_1, d.before a0 Z = true) (ws : List Jvm.Cond) (x : Addr) (tx : Addr) (kx : ClassId) (z : Int32) (u0 : Int32) (u1 : Int32) (u2 : Int32) (tl : List Value) (zc : Int32) (fm : Value) (h0 : Heap) (n0 : Nat) (Z0 : n0 ≤ h0.size) (pE_x : Exa Z h0 x "java/lang/String") (pF_value_x : Fld Z h0 x "java/lang/String" "value" "[B" (.ref tx)) (pF_coder_x : Fld Z h0 x "java/lang/String" "coder" "B" (.int (0 : Int32))) (pV_tx : Arv Z h0 tx kx .byte z ((.int u0) :: (.int u1) :: (.int u2) :: tl) (.int 0)) (hez : ((3 : Int32) < z)) (pS_COMPACT_STRINGS : Sta Z Z.heap "java/lang/String" "COMPACT_STRINGS" "Z" (.int zc)) (pP5 : (¬ (zc = (0 : Int32)))) (pS_SIOOBE_FORMATTER : Sta Z Z.heap "jdk/internal/util/Preconditions" "SIOOBE_FORMATTER" "Ljava/util/function/BiFunction;" fm) (rfm : (fm.isRef = true)) (pO : Old Z n0 h0) :
    MetFree l (⟨"java/lang/String", "substring", "(II)Ljava/lang/String;"⟩ : MethodName) (head1 (Jvm.Cond.code (⟨"java/lang/String", "substring", "(II)Ljava/lang/String;"⟩ : MethodName) jdk_42_method_92_code 5 (some (.object "java/lang/String")) :: ws) ({ frames := 4, cells := 2, slots := 7, locals := 166 } : Room)) (fun a U => a = #[(.ref x), (.int (0 : Int32)), (.int (3 : Int32))] ∧ Z.Warmed39 U.vm ∧ U.heap = h0) (fun _ _ _ _ _ => True) (fun _ U o U' => ∃ v L, o = .returned v ∧ Q_rmSb3 Z x tx kx z u0 u1 u2 tl zc fm h0 n0 v U'.heap L ∧ FrameEnd U o U' L ({ frames := 4, cells := 2, slots := 7, locals := 166 } : Room).cells ({ frames := 4, cells := 2, slots := 7, locals := 166 } : Room).slots) := by
  refine MetFree.of_bodySF (plainFor_of_name pn_18) hisR ?_
  intro p e s m args below meth c s₁ Bd hml0 hP hK
  obtain ⟨rfl, hZ, hh⟩ := hP
  have hx := Bd.exec
  have hby := Bd.bytes
  have hml : c.maxLocals = 5 := hml0
  have hown : s.vm.findClass "java/lang/String" = some m.cls := findClass_of_methodNamed Bd.named
  have hnm := (name_of_methodNamed Bd.named Bd.method).1
  have X0 : Stand p l e ({ frames := 4, cells := 2, slots := 7, locals := 166 } : Room) s m #[(.ref x), (.int (0 : Int32)), (.int (3 : Int32))] below meth c s₁ [] 0 0 := Stand.of_body Bd
  have e0 : s₁.heap = h0 := by rw [← hh, Bd.state]; rfl
  have N0 := Fr.nil n0
  refine own_enter (ef_rmSb3 m x ((0 : Int32)) ((3 : Int32))) ?_
  have hne : ¬ ((3 : Int32) = z) := fun q => absurd hez (by rw [← q]; decide)
  have hle : ¬ (z < (3 : Int32)) := by rw [Int32.lt_iff_toInt_lt] at hez ⊢; omega
  refine own_st (fun t_ k_ => XS.aloadN X0.here hx rfl (hb hby d18_0) rfl rfl k_) ?_
  show own_Go p e below s₁ (mkF m 1 #[.val (.ref x), .val (.int (0 : Int32)), .val (.int (3 : Int32)), .unset, .unset] [(.ref x)]) _
  obtain ⟨cq1, kq1, qa1, qb1, qc1⟩ := isOf hZ e0 pE_x
  obtain ⟨_, _, ⟨T1, L1, k1, n1⟩, -, X1, ⟨Lc1, hQ1, l1, y1, z1⟩, st1⟩ := X0.virtualBack hx (y := (⟨"java/lang/String", "length", "()I"⟩ : MethodName)) (z := (⟨"java/lang/String", "length", "()I"⟩ : MethodName)) hown (mvT hZ (hw _ (List.mem_of_getElem? (i := 46) rfl))) (mvT hZ (hw _ (List.mem_of_getElem? (i := 47) rfl))) (notFace_of_selects (args := #[]) (mvT hZ (hw _ (List.mem_of_getElem? (i := 49) rfl)))) (mvT hZ (hw _ (List.mem_of_getElem? (i := 49) rfl))) (mvT hZ (hw _ (List.mem_of_getElem? (i := 48) rfl))) (by decide) (backOf (W := 0) (rmLe l Z a0 hw [] x tx kx z (((.int u0) :: (.int u1) :: (.int u2) :: tl)) zc h0 n0 Z0 pE_x pF_value_x pF_coder_x pV_tx pS_COMPACT_STRINGS pP5 pO) hZ (hw _ (List.mem_of_getElem? (i := 50) rfl)) (hw _ (List.mem_of_getElem? (i := 10) rfl)) (by decide) (by decide)) qa1 qc1 (g := (mkF m 1 #[.val (.ref x), .val (.int (0 : Int32)), .val (.int (3 : Int32)), .unset, .unset] [(.ref x)])) rfl (by rw [hml]; rfl) (Steps.refl _) (argsL := []) (rest := []) (lenOf pd___I rfl) rfl (by show 2 * 0 + _ ≤ _; exact Nat.le_of_eq rfl) (hb hby d18_1) (fun _ _ => ⟨rfl, e0, (by decide : 0 + 0 ≤ _), (by decide : 0 + 0 ≤ _)⟩)
  dsimp only [Pt.U, Pt.locs, Pt.cells, Pt.slots] at X1 l1 y1 z1 st1 hQ1
  try dsimp only [Nat.reduceAdd] at y1 z1
  rw [l1, y1, z1] at X1
  obtain ⟨rfl, Nq1, eH1⟩ := hQ1
  have N1 := Fr.app N0 Nq1
  refine own_tr st1 ?_
  show own_Go p e below T1 (mkF m 4 #[.val (.ref x), .val (.int (0 : Int32)), .val (.int (3 : Int32)), .unset, .unset] [(.int z)]) _
  refine own_st (fun t_ k_ => XS.istoreN X1.here hx rfl (hb hby d18_4) rfl (l' := #[.val (.ref x), .val (.int (0 : Int32)), .val (.int (3 : Int32)), .val (.int z), .unset]) rfl k_) ?_
  refine own_st (fun t_ k_ => XS.iloadN X1.here hx rfl (hb hby d18_5) rfl k_) ?_
  refine own_st (fun t_ k_ => XS.iloadN X1.here hx rfl (hb hby d18_6) rfl k_) ?_
  refine own_st (fun t_ k_ => XS.iloadN X1.here hx rfl (hb hby d18_7) rfl k_) ?_
  show own_Go p e below T1 (mkF m 8 #[.val (.ref x), .val (.int (0 : Int32)), .val (.int (3 : Int32)), .val (.int z), .unset] [(.int z), (.int (3 : Int32)), (.int (0 : Int32))]) _
  obtain ⟨_, _, ⟨T2, L2, k2, n2⟩, -, X2, ⟨Lc2, hQ2, l2, y2, z2⟩, st2⟩ := Jvm.LawKit.callS X1 hx (y := (⟨"java/lang/String", "checkBoundsBeginEnd", "(III)V"⟩ : MethodName)) hown (mvT hZ (hw _ (List.mem_of_getElem? (i := 82) rfl))) (mvT hZ (hw _ (List.mem_of_getElem? (i := 83) rfl))) (mvT hZ (hw _ (List.mem_of_getElem? (i := 10) rfl))) (mvT hZ (hw _ (List.mem_of_getElem? (i := 84) rfl))) (by decide) (backOf (W := 0) (rmCb l Z a0 hw [] ((3 : Int32)) z fm h0 n0 Z0 (by decide) hle pS_SIOOBE_FORMATTER rfm pO) hZ (hw _ (List.mem_of_getElem? (i := 84) rfl)) (hw _ (List.mem_of_getElem? (i := 10) rfl)) (by decide) (by decide)) (g := (mkF m 8 #[.val (.ref x), .val (.int (0 : Int32)), .val (.int (3 : Int32)), .val (.int z), .unset] [(.int z), (.int (3 : Int32)), (.int (0 : Int32))])) rfl (by rw [hml]; rfl) (argsL := [(.int (0 : Int32)), (.int (3 : Int32)), (.int z)]) (rest := []) (lenOf pd__III_V rfl) rfl (by show 2 * 0 + _ ≤ _; exact Nat.le_of_eq rfl) (hb hby d18_8) (fun _ _ => ⟨rfl, eH1, (by decide : 0 + 0 ≤ _), (by decide : 0 + 0 ≤ _)⟩)
  dsimp only [Pt.U, Pt.locs, Pt.cells, Pt.slots] at X2 l2 y2 z2 st2 hQ2
  try dsimp only [Nat.reduceAdd] at y2 z2
  rw [l2, y2, z2] at X2
  obtain ⟨rfl, Nq2, eH2⟩ := hQ2
  have N2 := Fr.app N1 Nq2
  refine own_st st2 ?_
  show own_Go p e below T2 (mkF m 11 #[.val (.ref x), .val (.int (0 : Int32)), .val (.int (3 : Int32)), .val (.int z), .unset] []) _
  refine own_st (fun t_ k_ => XS.iloadN X2.here hx rfl (hb hby d18_11) rfl k_) ?_
  refine own_st (fun t_ k_ => XS.ifNo X2.here hx rfl (hb hby d18_12) rfl (by decide) k_) ?_
  refine own_st (fun t_ k_ => XS.iloadN X2.here hx rfl (hb hby d18_15) rfl k_) ?_
  refine own_st (fun t_ k_ => XS.iloadN X2.here hx rfl (hb hby d18_16) rfl k_) ?_
  refine own_st (fun t_ k_ => XS.icmpYes X2.here hx rfl (pc0 := 17) (pc' := 22) rfl (hb hby d18_17) rfl (feq hne).2 (by decide) (by decide) k_) ?_
  show own_Go p e below T2 (mkF m 22 #[.val (.ref x), .val (.int (0 : Int32)), .val (.int (3 : Int32)), .val (.int z), .unset] []) _
  refine own_st (fun t_ k_ => XS.iloadN X2.here hx rfl (hb hby d18_22) rfl k_) ?_
  refine own_st (fun t_ k_ => XS.iloadN X2.here hx rfl (hb hby d18_23) rfl k_) ?_
  refine own_st (fun t_ k_ => XS.isub X2.here hx rfl (hb hby d18_24) rfl k_) ?_
  refine own_st (fun t_ k_ => XS.istore X2.here hx rfl (hb hby d18_25) rfl (l' := #[.val (.ref x), .val (.int (0 : Int32)), .val (.int (3 : Int32)), .val (.int z), .val (.int (3 : Int32))]) rfl k_) ?_
  refine own_st (fun t_ k_ => XS.aloadN X2.here hx rfl (hb hby d18_27) rfl rfl k_) ?_
  show own_Go p e below T2 (mkF m 28 #[.val (.ref x), .val (.int (0 : Int32)), .val (.int (3 : Int32)), .val (.int z), .val (.int (3 : Int32))] [(.ref x)]) _
  obtain ⟨cq3, kq3, qa3, qb3, qc3⟩ := isOf hZ eH2 pE_x
  obtain ⟨_, _, ⟨T3, L3, k3, n3⟩, -, X3, ⟨Lc3, hQ3, l3, y3, z3⟩, st3⟩ := X2.virtualBack hx (y := (⟨"java/lang/String", "isLatin1", "()Z"⟩ : MethodName)) (z := (⟨"java/lang/String", "isLatin1", "()Z"⟩ : MethodName)) hown (mvT hZ (hw _ (List.mem_of_getElem? (i := 61) rfl))) (mvT hZ (hw _ (List.mem_of_getElem? (i := 62) rfl))) (notFace_of_selects (args := #[]) (mvT hZ (hw _ (List.mem_of_getElem? (i := 64) rfl)))) (mvT hZ (hw _ (List.mem_of_getElem? (i := 64) rfl))) (mvT hZ (hw _ (List.mem_of_getElem? (i := 63) rfl))) (by decide) (backOf (W := 0) (rmIl l Z a0 hw [] x zc h0 n0 Z0 pE_x pF_coder_x pS_COMPACT_STRINGS pP5 pO) hZ (hw _ (List.mem_of_getElem? (i := 65) rfl)) (hw _ (List.mem_of_getElem? (i := 10) rfl)) (by decide) (by decide)) qa3 qc3 (g := (mkF m 28 #[.val (.ref x), .val (.int (0 : Int32)), .val (.int (3 : Int32)), .val (.int z), .val (.int (3 : Int32))] [(.ref x)])) rfl (by rw [hml]; rfl) (Steps.refl _) (argsL := []) (rest := []) (lenOf pd___Z rfl) rfl (by show 2 * 0 + _ ≤ _; exact Nat.le_of_eq rfl) (hb hby d18_28) (fun _ _ => ⟨rfl, eH2, (by decide : 0 + 0 ≤ _), (by decide : 0 + 0 ≤ _)⟩)
  dsimp only [Pt.U, Pt.locs, Pt.cells, Pt.slots] at X3 l3 y3 z3 st3 hQ3
  try dsimp only [Nat.reduceAdd] at y3 z3
  rw [l3, y3, z3] at X3
  obtain ⟨rfl, Nq3, eH3⟩ := hQ3
  have N3 := Fr.app N2 Nq3
  refine own_tr st3 ?_
  show own_Go p e below T3 (mkF m 31 #[.val (.ref x), .val (.int (0 : Int32)), .val (.int (3 : Int32)), .val (.int z), .val (.int (3 : Int32))] [(.int (1 : Int32))]) _
  refine own_st (fun t_ k_ => XS.ifNo X3.here hx rfl (hb hby d18_31) rfl (by decide) k_) ?_
  refine own_st (fun t_ k_ => XS.aloadN X3.here hx rfl (hb hby d18_34) rfl rfl k_) ?_
  show own_Go p e below T3 (mkF m 35 #[.val (.ref x), .val (.int (0 : Int32)), .val (.int (3 : Int32)), .val (.int z), .val (.int (3 : Int32))] [(.ref x)]) _
  obtain ⟨T4, X4, e4, st4⟩ := getF X3 hx hZ hown (host := "") (Or.inl (hw _ (List.mem_of_getElem? (i := 35) rfl))) Via.refl eH3 pF_value_x (g := (mkF m 35 #[.val (.ref x), .val (.int (0 : Int32)), .val (.int (3 : Int32)), .val (.int z), .val (.int (3 : Int32))] [(.ref x)])) rfl rfl (hb hby d18_35)
  refine own_st st4 ?_
  show own_Go p e below T4 (mkF m 38 #[.val (.ref x), .val (.int (0 : Int32)), .val (.int (3 : Int32)), .val (.int z), .val (.int (3 : Int32))] [(.ref tx)]) _
  refine own_st (fun t_ k_ => XS.iloadN X4.here hx rfl (hb hby d18_38) rfl k_) ?_
  refine own_st (fun t_ k_ => XS.iload X4.here hx rfl (hb hby d18_39) rfl k_) ?_
  show own_Go p e below T4 (mkF m 41 #[.val (.ref x), .val (.int (0 : Int32)), .val (.int (3 : Int32)), .val (.int z), .val (.int (3 : Int32))] [(.int (3 : Int32)), (.int (0 : Int32)), (.ref tx)]) _
  obtain ⟨_, _, ⟨T5, L5, k5, n5⟩, -, X5, ⟨Lc5, hQ5, l5, y5, z5⟩, st5⟩ := Jvm.LawKit.callS X4 hx (y := (⟨"java/lang/StringLatin1", "newString", "([BII)Ljava/lang/String;"⟩ : MethodName)) hown (mvT hZ (hw _ (List.mem_of_getElem? (i := 90) rfl))) (mvT hZ (hw _ (List.mem_of_getElem? (i := 91) rfl))) (mvT hZ (hw _ (List.mem_of_getElem? (i := 68) rfl))) (mvT hZ (hw _ (List.mem_of_getElem? (i := 92) rfl))) (by decide) (backOf (W := 0) (rmNs3 l Z a0 hw [] tx kx z u0 u1 u2 tl h0 n0 Z0 pV_tx hez) hZ (hw _ (List.mem_of_getElem? (i := 92) rfl)) (hw _ (List.mem_of_getElem? (i := 68) rfl)) (by decide) (by decide)) (g := (mkF m 41 #[.val (.ref x), .val (.int (0 : Int32)), .val (.int (3 : Int32)), .val (.int z), .val (.int (3 : Int32))] [(.int (3 : Int32)), (.int (0 : Int32)), (.ref tx)])) rfl (by rw [hml]; rfl) (argsL := [(.ref tx), (.int (0 : Int32)), (.int (3 : Int32))]) (rest := []) (lenOf pd___BII_Ljava_lang_String_ rfl) rfl (by show 2 * 0 + _ ≤ _; exact Nat.le_of_eq rfl) (hb hby d18_41) (fun _ _ => ⟨rfl, e4, (by decide : 0 + 2 ≤ _), (by decide : 0 + 7 ≤ _)⟩)
  dsimp only [Pt.U, Pt.locs, Pt.cells, Pt.slots] at X5 l5 y5 z5 st5 hQ5
  try dsimp only [Nat.reduceAdd] at y5 z5
  rw [l5, y5, z5] at X5
  obtain ⟨y_5, b_5, kb_5, rfl, Nq5, Kq5, q5_0, q5_1, q5_2, q5_3⟩ := hQ5
  have N5 := Fr.app N3 Nq5
  have K6 : Keep h0 T5.heap [] := (Keep.refl h0 []).trans Kq5 all0
  refine own_st st5 ?_
  show own_Go p e below T5 (mkF m 44 #[.val (.ref x), .val (.int (0 : Int32)), .val (.int (3 : Int32)), .val (.int z), .val (.int (3 : Int32))] [(.ref y_5)]) _
  refine own_st (fun t_ k_ => XS.goto X5.here hx rfl (pc0 := 44) (pc' := 57) rfl (hb hby d18_44) (by decide) (by decide) k_) ?_
  show own_Go p e below T5 (mkF m 57 #[.val (.ref x), .val (.int (0 : Int32)), .val (.int (3 : Int32)), .val (.int z), .val (.int (3 : Int32))] [(.ref y_5)]) _
  obtain ⟨fs, hr, hrun, hended, hW, hsame⟩ := X5.leave (v := some (.ref y_5)) (fun h => by rw [Bd.returns] at h; cases h)
  refine own_fin (own_retR X5 hx rfl Bd.returns rfl (hb hby d18_57) hr) ⟨hrun, hended, _, _, rfl, ?_, ⟨_, rfl⟩, hW, hsame.mono (by decide) (by decide)⟩
  show Q_rmSb3 Z x tx kx z u0 u1 u2 tl zc fm h0 n0 _ T5.heap _
  exact ⟨y_5, b_5, kb_5, rfl, N5, K6, q5_0, q5_1, q5_2, q5_3⟩
theorem ef_rmCr4 (m : MethodId) (x0 : Addr) (x1 : Int32) (x2 : Int32) : entryFrame m #[(.ref x0), (.int x1), (.int x2)] 5 = mkF m 0 #[.val (.ref x0), .val (.int x1), .val (.int x2), .unset, .unset] [] := by first | (simp [entryFrame, mkF, argsToLocals, Value.category]; done) | rfl
def Q_rmCr4 (Z : State) (t : Addr) (kt : ClassId) (z : Int32) (u0 : Int32) (u1 : Int32) (u2 : Int32) (u3 : Int32) (tl : List Value) (h0 : Heap) (n0 : Nat) (v : Option Value) (h : Heap) (L : List Loc) : Prop := ∃ b : Addr, ∃ kb : ClassId, v = some (.ref b) ∧ Fr n0 L ∧ Keep h0 h [] ∧ Arv Z h b kb .byte (4 : Int32) [(.int u0), (.int u1), (.int u2), (.int u3)] (.int 0) ∧ h0.size ≤ b ∧ n0 ≤ b
set_option maxRecDepth 65536 in
set_option maxHeartbeats 40000000 in
theorem rmCr4 (l : Launch) (Z : State) (a0 : Array Value) (hw : ∀ d ∈ tables_1, d.before a0 Z = true) (ws : List Jvm.Cond) (t : Addr) (kt : ClassId) (z : Int32) (u0 : Int32) (u1 : Int32) (u2 : Int32) (u3 : Int32) (tl : List Value) (h0 : Heap) (n0 : Nat) (Z0 : n0 ≤ h0.size) (pV_t : Arv Z h0 t kt .byte z ((.int u0) :: (.int u1) :: (.int u2) :: (.int u3) :: tl) (.int 0)) (hez : ((4 : Int32) < z)) :
    MetFree l (⟨"java/util/Arrays", "copyOfRangeByte", "([BII)[B"⟩ : MethodName) (head1 (Jvm.Cond.code (⟨"java/util/Arrays", "copyOfRangeByte", "([BII)[B"⟩ : MethodName) jdk_65_method_133_code 5 (some (.array .byte)) :: ws) ({ frames := 1, cells := 1, slots := 4, locals := 120 } : Room)) (fun a U => a = #[(.ref t), (.int (0 : Int32)), (.int (4 : Int32))] ∧ Z.Warmed39 U.vm ∧ U.heap = h0) (fun _ _ _ _ _ => True) (fun _ U o U' => ∃ v L, o = .returned v ∧ Q_rmCr4 Z t kt z u0 u1 u2 u3 tl h0 n0 v U'.heap L ∧ FrameEnd U o U' L ({ frames := 1, cells := 1, slots := 4, locals := 120 } : Room).cells ({ frames := 1, cells := 1, slots := 4, locals := 120 } : Room).slots) := by
  refine MetFree.of_bodySF (plainFor_of_name pn_23) hisR ?_
  intro p e s m args below meth c s₁ Bd hml0 hP hK
  obtain ⟨rfl, hZ, hh⟩ := hP
  have hx := Bd.exec
  have hby := Bd.bytes
  have hml : c.maxLocals = 5 := hml0
  have hown : s.vm.findClass "java/util/Arrays" = some m.cls := findClass_of_methodNamed Bd.named
  have hnm := (name_of_methodNamed Bd.named Bd.method).1
  have X0 : Stand p l e ({ frames := 1, cells := 1, slots := 4, locals := 120 } : Room) s m #[(.ref t), (.int (0 : Int32)), (.int (4 : Int32))] below meth c s₁ [] 0 0 := Stand.of_body Bd
  have e0 : s₁.heap = h0 := by rw [← hh, Bd.state]; rfl
  have N0 := Fr.nil n0
  refine own_enter (ef_rmCr4 m t ((0 : Int32)) ((4 : Int32))) ?_
  have hzn : 4 < z.toInt := by rw [Int32.lt_iff_toInt_lt] at hez; exact hez
  refine own_st (fun t_ k_ => XS.iloadN X0.here hx rfl (hb hby d23_0) rfl k_) ?_
  refine own_st (fun t_ k_ => XS.iloadN X0.here hx rfl (hb hby d23_1) rfl k_) ?_
  show own_Go p e below s₁ (mkF m 2 #[.val (.ref t), .val (.int (0 : Int32)), .val (.int (4 : Int32)), .unset, .unset] [(.int (4 : Int32)), (.int (0 : Int32))]) _
  obtain ⟨_, _, ⟨T1, L1, k1, n1⟩, -, X1, ⟨Lc1, hQ1, l1, y1, z1⟩, st1⟩ := Jvm.LawKit.callS X0 hx (y := (⟨"java/util/Arrays", "checkLength", "(II)V"⟩ : MethodName)) hown (mvT hZ (hw _ (List.mem_of_getElem? (i := 101) rfl))) (mvT hZ (hw _ (List.mem_of_getElem? (i := 102) rfl))) (mvT hZ (hw _ (List.mem_of_getElem? (i := 96) rfl))) (mvT hZ (hw _ (List.mem_of_getElem? (i := 103) rfl))) (by decide) (backOf (W := 0) (rmCl l Z a0 hw [] ((0 : Int32)) ((4 : Int32)) h0 n0 Z0 (by decide)) hZ (hw _ (List.mem_of_getElem? (i := 103) rfl)) (hw _ (List.mem_of_getElem? (i := 96) rfl)) (by decide) (by decide)) (g := (mkF m 2 #[.val (.ref t), .val (.int (0 : Int32)), .val (.int (4 : Int32)), .unset, .unset] [(.int (4 : Int32)), (.int (0 : Int32))])) rfl (by rw [hml]; rfl) (argsL := [(.int (0 : Int32)), (.int (4 : Int32))]) (rest := []) (lenOf pd__II_V rfl) rfl (by show 2 * 0 + _ ≤ _; exact Nat.le_of_eq rfl) (hb hby d23_2) (fun _ _ => ⟨rfl, e0, (by decide : 0 + 0 ≤ _), (by decide : 0 + 0 ≤ _)⟩)
  dsimp only [Pt.U, Pt.locs, Pt.cells, Pt.slots] at X1 l1 y1 z1 st1 hQ1
  try dsimp only [Nat.reduceAdd] at y1 z1
  rw [l1, y1, z1] at X1
  obtain ⟨rfl, Nq1, eH1⟩ := hQ1
  have N1 := Fr.app N0 Nq1
  refine own_st st1 ?_
  show own_Go p e below T1 (mkF m 5 #[.val (.ref t), .val (.int (0 : Int32)), .val (.int (4 : Int32)), .unset, .unset] []) _
  refine own_st (fun t_ k_ => XS.iloadN X1.here hx rfl (hb hby d23_5) rfl k_) ?_
  refine own_st (fun t_ k_ => XS.iloadN X1.here hx rfl (hb hby d23_6) rfl k_) ?_
  refine own_st (fun t_ k_ => XS.isub X1.here hx rfl (hb hby d23_7) rfl k_) ?_
  refine own_st (fun t_ k_ => XS.istoreN X1.here hx rfl (hb hby d23_8) rfl (l' := #[.val (.ref t), .val (.int (0 : Int32)), .val (.int (4 : Int32)), .val (.int (4 : Int32)), .unset]) rfl k_) ?_
  refine own_st (fun t_ k_ => XS.iloadN X1.here hx rfl (hb hby d23_9) rfl k_) ?_
  show own_Go p e below T1 (mkF m 10 #[.val (.ref t), .val (.int (0 : Int32)), .val (.int (4 : Int32)), .val (.int (4 : Int32)), .unset] [(.int (4 : Int32))]) _
  obtain ⟨T2, h2, k2, X2, e2, E2, A2, st2⟩ := newP X1 hx hZ (hw _ (List.mem_of_getElem? (i := 26) rfl)) eH1 (g := (mkF m 10 #[.val (.ref t), .val (.int (0 : Int32)), .val (.int (4 : Int32)), .val (.int (4 : Int32)), .unset] [(.int (4 : Int32))])) rfl (hb hby d23_10) rfl (by decide) (cap := 4) (by decide) (by decide) (by decide) (by decide)
  obtain ⟨b2, g2⟩ : ∃ z, z = h0.size := ⟨_, rfl⟩
  rw [← g2] at A2 st2
  have G2 : n0 ≤ b2 := Nat.le_trans Z0 (Nat.le_of_eq g2.symm)
  have B2 : h0.size ≤ b2 := Nat.le_trans (Keep.refl h0 []).1 (Nat.le_of_eq g2.symm)
  have K3 : Keep h0 h2 [] := (Keep.refl h0 []).ext E2
  have V2 : Arv Z h2 b2 k2 .byte (4 : Int32) [(.int (0 : Int32)), (.int (0 : Int32)), (.int (0 : Int32)), (.int (0 : Int32))] (.int (0 : Int32)) := (Arv.new A2 (by decide)).pad (pad_rep [] (.int (0 : Int32)) 4)
  refine own_st st2 ?_
  show own_Go p e below T2 (mkF m 12 #[.val (.ref t), .val (.int (0 : Int32)), .val (.int (4 : Int32)), .val (.int (4 : Int32)), .unset] [(.ref b2)]) _
  refine own_st (fun t_ k_ => XS.astore X2.here hx rfl (hb hby d23_12) rfl rfl (l' := #[.val (.ref t), .val (.int (0 : Int32)), .val (.int (4 : Int32)), .val (.int (4 : Int32)), .val (.ref b2)]) rfl k_) ?_
  refine own_st (fun t_ k_ => XS.aloadN X2.here hx rfl (hb hby d23_14) rfl rfl k_) ?_
  refine own_st (fun t_ k_ => XS.iloadN X2.here hx rfl (hb hby d23_15) rfl k_) ?_
  refine own_st (fun t_ k_ => XS.aload X2.here hx rfl (hb hby d23_16) rfl rfl k_) ?_
  refine own_st (fun t_ k_ => XS.iconst X2.here hx rfl (hb hby d23_18) k_) ?_
  show own_Go p e below T2 (mkF m 19 #[.val (.ref t), .val (.int (0 : Int32)), .val (.int (4 : Int32)), .val (.int (4 : Int32)), .val (.ref b2)] [(.int (0 : Int32)), (.ref b2), (.int (0 : Int32)), (.ref t)]) _
  refine own_st (fun t_ k_ => XS.aloadN X2.here hx rfl (hb hby d23_19) rfl rfl k_) ?_
  show own_Go p e below T2 (mkF m 20 #[.val (.ref t), .val (.int (0 : Int32)), .val (.int (4 : Int32)), .val (.int (4 : Int32)), .val (.ref b2)] [(.ref t), (.int (0 : Int32)), (.ref b2), (.int (0 : Int32)), (.ref t)]) _
  have f4 := (pV_t.ext E2)
  obtain ⟨cl5, Ar5, q5, Sz5, Nn5, Hh5, Gg5⟩ := id f4
  refine own_st (fun t_ k_ => X2.arraylength hx (by rw [e2]; exact Ar5.1) (State.isArrayOf_alike hZ.alike Ar5.2.1) (g := (mkF m 20 #[.val (.ref t), .val (.int (0 : Int32)), .val (.int (4 : Int32)), .val (.int (4 : Int32)), .val (.ref b2)] [(.ref t), (.int (0 : Int32)), (.ref b2), (.int (0 : Int32)), (.ref t)])) rfl rfl (hb hby d23_20) _ k_) ?_
  rw [len_of Sz5 Nn5]
  show own_Go p e below T2 (mkF m 21 #[.val (.ref t), .val (.int (0 : Int32)), .val (.int (4 : Int32)), .val (.int (4 : Int32)), .val (.ref b2)] [(.int z), (.int (0 : Int32)), (.ref b2), (.int (0 : Int32)), (.ref t)]) _
  refine own_st (fun t_ k_ => XS.iloadN X2.here hx rfl (hb hby d23_21) rfl k_) ?_
  refine own_st (fun t_ k_ => XS.isub X2.here hx rfl (hb hby d23_22) rfl k_) ?_
  show own_Go p e below T2 (mkF m 23 #[.val (.ref t), .val (.int (0 : Int32)), .val (.int (4 : Int32)), .val (.int (4 : Int32)), .val (.ref b2)] [(.int (z - (0 : Int32))), (.int (0 : Int32)), (.ref b2), (.int (0 : Int32)), (.ref t)]) _
  rw [own_sub0 z]
  show own_Go p e below T2 (mkF m 23 #[.val (.ref t), .val (.int (0 : Int32)), .val (.int (4 : Int32)), .val (.int (4 : Int32)), .val (.ref b2)] [(.int z), (.int (0 : Int32)), (.ref b2), (.int (0 : Int32)), (.ref t)]) _
  refine own_st (fun t_ k_ => XS.iloadN X2.here hx rfl (hb hby d23_23) rfl k_) ?_
  show own_Go p e below T2 (mkF m 24 #[.val (.ref t), .val (.int (0 : Int32)), .val (.int (4 : Int32)), .val (.int (4 : Int32)), .val (.ref b2)] [(.int (4 : Int32)), (.int z), (.int (0 : Int32)), (.ref b2), (.int (0 : Int32)), (.ref t)]) _
  have f6 := (Nat.le_trans Z0 E2.1)
  obtain ⟨_, _, ⟨T7, L7, k7, n7⟩, -, X7, ⟨Lc7, hQ7, l7, y7, z7⟩, st7⟩ := Jvm.LawKit.callS X2 hx (y := (⟨"java/lang/Math", "min", "(II)I"⟩ : MethodName)) hown (mvT hZ (hw _ (List.mem_of_getElem? (i := 104) rfl))) (mvT hZ (hw _ (List.mem_of_getElem? (i := 74) rfl))) (mvT hZ (hw _ (List.mem_of_getElem? (i := 75) rfl))) (mvT hZ (hw _ (List.mem_of_getElem? (i := 76) rfl))) (by decide) (backOf (W := 4) (rmMb l Z a0 hw [] z ((4 : Int32)) h2 n0 f6 hez) hZ (hw _ (List.mem_of_getElem? (i := 76) rfl)) (hw _ (List.mem_of_getElem? (i := 75) rfl)) (by decide) (by decide)) (g := (mkF m 24 #[.val (.ref t), .val (.int (0 : Int32)), .val (.int (4 : Int32)), .val (.int (4 : Int32)), .val (.ref b2)] [(.int (4 : Int32)), (.int z), (.int (0 : Int32)), (.ref b2), (.int (0 : Int32)), (.ref t)])) rfl (by rw [hml]; rfl) (argsL := [(.int z), (.int (4 : Int32))]) (rest := [(.int (0 : Int32)), (.ref b2), (.int (0 : Int32)), (.ref t)]) (lenOf pd__II_I rfl) rfl (by show 2 * 0 + _ ≤ _; exact Nat.le_of_eq rfl) (hb hby d23_24) (fun _ _ => ⟨rfl, e2, (by decide : 1 + 0 ≤ _), (by decide : 4 + 0 ≤ _)⟩)
  dsimp only [Pt.U, Pt.locs, Pt.cells, Pt.slots] at X7 l7 y7 z7 st7 hQ7
  try dsimp only [Nat.reduceAdd] at y7 z7
  rw [l7, y7, z7] at X7
  obtain ⟨rfl, Nq7, eH7⟩ := hQ7
  have N7 := Fr.app N1 Nq7
  refine own_st st7 ?_
  show own_Go p e below T7 (mkF m 27 #[.val (.ref t), .val (.int (0 : Int32)), .val (.int (4 : Int32)), .val (.int (4 : Int32)), .val (.ref b2)] [(.int (4 : Int32)), (.int (0 : Int32)), (.ref b2), (.int (0 : Int32)), (.ref t)]) _
  obtain ⟨T8, h8, L8, X8, e8, N8, Kq8, Va8, st8⟩ := cpA X7 hx hZ hown (hw _ (List.mem_of_getElem? (i := 105) rfl)) (hw _ (List.mem_of_getElem? (i := 108) rfl)) (hw _ (List.mem_of_getElem? (i := 106) rfl)) (hw _ (List.mem_of_getElem? (i := 107) rfl)) eH7 f4 V2 (Or.inl ⟨rfl, rfl⟩) (sp := (0 : Int32)) (dp := (0 : Int32)) (nn := (4 : Int32)) (by decide) (by decide) (by decide) (by show 0 + 4 ≤ _; simp only [Int32.toNatClampNeg]; omega) (by decide) (us := [(.int u0), (.int u1), (.int u2), (.int u3)]) rfl (by decide) N7 G2 (g := (mkF m 27 #[.val (.ref t), .val (.int (0 : Int32)), .val (.int (4 : Int32)), .val (.int (4 : Int32)), .val (.ref b2)] [(.int (4 : Int32)), (.int (0 : Int32)), (.ref b2), (.int (0 : Int32)), (.ref t)])) rfl (by rw [hml]; rfl) (rest := []) rfl (hb hby d23_27) (by decide) (W := 0) (by show 2 * 0 + _ ≤ _; exact Nat.le_of_eq rfl) (by decide +kernel)
  have V8 : Arv Z h8 b2 k2 .byte (4 : Int32) [(.int u0), (.int u1), (.int u2), (.int u3)] (.int (0 : Int32)) := Va8
  have K9 : Keep h0 h8 [] := K3.trans Kq8 (allS (Or.inr B2) all0)
  refine own_st st8 ?_
  show own_Go p e below T8 (mkF m 30 #[.val (.ref t), .val (.int (0 : Int32)), .val (.int (4 : Int32)), .val (.int (4 : Int32)), .val (.ref b2)] []) _
  refine own_st (fun t_ k_ => XS.aload X8.here hx rfl (hb hby d23_30) rfl rfl k_) ?_
  show own_Go p e below T8 (mkF m 32 #[.val (.ref t), .val (.int (0 : Int32)), .val (.int (4 : Int32)), .val (.int (4 : Int32)), .val (.ref b2)] [(.ref b2)]) _
  obtain ⟨fs, hr, hrun, hended, hW, hsame⟩ := X8.leave (v := some (.ref b2)) (fun h => by rw [Bd.returns] at h; cases h)
  refine own_fin (own_retR X8 hx rfl Bd.returns rfl (hb hby d23_32) hr) ⟨hrun, hended, _, _, rfl, ?_, ⟨_, rfl⟩, hW, hsame.mono (by decide) (by decide)⟩
  show Q_rmCr4 Z t kt z u0 u1 u2 u3 tl h0 n0 _ T8.heap _
  rw [e8]
  exact ⟨b2, k2, rfl, N8, K9, V8, B2, G2⟩
theorem ef_rmCp4 (m : MethodId) (x0 : Addr) (x1 : Int32) (x2 : Int32) : entryFrame m #[(.ref x0), (.int x1), (.int x2)] 3 = mkF m 0 #[.val (.ref x0), .val (.int x1), .val (.int x2)] [] := by first | (simp [entryFrame, mkF, argsToLocals, Value.category]; done) | rfl
def Q_rmCp4 (Z : State) (t : Addr) (kt : ClassId) (z : Int32) (u0 : Int32) (u1 : Int32) (u2 : Int32) (u3 : Int32) (tl : List Value) (h0 : Heap) (n0 : Nat) (v : Option Value) (h : Heap) (L : List Loc) : Prop := ∃ b : Addr, ∃ kb : ClassId, v = some (.ref b) ∧ Fr n0 L ∧ Keep h0 h [] ∧ Arv Z h b kb .byte (4 : Int32) [(.int u0), (.int u1), (.int u2), (.int u3)] (.int 0) ∧ h0.size ≤ b ∧ n0 ≤ b
set_option maxRecDepth 65536 in
set_option maxHeartbeats 40000000 in
theorem rmCp4 (l : Launch) (Z : State) (a0 : Array Value) (hw : ∀ d ∈ tables_1, d.before a0 Z = true) (ws : List Jvm.Cond) (t : Addr) (kt : ClassId) (z : Int32) (u0 : Int32) (u1 : Int32) (u2 : Int32) (u3 : Int32) (tl : List Value) (h0 : Heap) (n0 : Nat) (Z0 : n0 ≤ h0.size) (pV_t : Arv Z h0 t kt .byte z ((.int u0) :: (.int u1) :: (.int u2) :: (.int u3) :: tl) (.int 0)) (hez : ((4 : Int32) < z)) :
    MetFree l (⟨"java/util/Arrays", "copyOfRange", "([BII)[B"⟩ : MethodName) (head1 (Jvm.Cond.code (⟨"java/util/Arrays", "copyOfRange", "([BII)[B"⟩ : MethodName) jdk_65_method_132_code 3 (some (.array .byte)) :: ws) ({ frames := 2, cells := 1, slots := 4, locals := 136 } : Room)) (fun a U => a = #[(.ref t), (.int (0 : Int32)), (.int (4 : Int32))] ∧ Z.Warmed39 U.vm ∧ U.heap = h0) (fun _ _ _ _ _ => True) (fun _ U o U' => ∃ v L, o = .returned v ∧ Q_rmCp4 Z t kt z u0 u1 u2 u3 tl h0 n0 v U'.heap L ∧ FrameEnd U o U' L ({ frames := 2, cells := 1, slots := 4, locals := 136 } : Room).cells ({ frames := 2, cells := 1, slots := 4, locals := 136 } : Room).slots) := by
  refine MetFree.of_bodySF (plainFor_of_name pn_22) hisR ?_
  intro p e s m args below meth c s₁ Bd hml0 hP hK
  obtain ⟨rfl, hZ, hh⟩ := hP
  have hx := Bd.exec
  have hby := Bd.bytes
  have hml : c.maxLocals = 3 := hml0
  have hown : s.vm.findClass "java/util/Arrays" = some m.cls := findClass_of_methodNamed Bd.named
  have hnm := (name_of_methodNamed Bd.named Bd.method).1
  have X0 : Stand p l e ({ frames := 2, cells := 1, slots := 4, locals := 136 } : Room) s m #[(.ref t), (.int (0 : Int32)), (.int (4 : Int32))] below meth c s₁ [] 0 0 := Stand.of_body Bd
  have e0 : s₁.heap = h0 := by rw [← hh, Bd.state]; rfl
  have N0 := Fr.nil n0
  refine own_enter (ef_rmCp4 m t ((0 : Int32)) ((4 : Int32))) ?_
  have hne : ¬ ((4 : Int32) = z) := fun q => absurd hez (by rw [← q]; decide)
  refine own_st (fun t_ k_ => XS.iloadN X0.here hx rfl (hb hby d22_0) rfl k_) ?_
  refine own_st (fun t_ k_ => XS.ifNo X0.here hx rfl (hb hby d22_1) rfl (by decide) k_) ?_
  refine own_st (fun t_ k_ => XS.iloadN X0.here hx rfl (hb hby d22_4) rfl k_) ?_
  refine own_st (fun t_ k_ => XS.aloadN X0.here hx rfl (hb hby d22_5) rfl rfl k_) ?_
  show own_Go p e below s₁ (mkF m 6 #[.val (.ref t), .val (.int (0 : Int32)), .val (.int (4 : Int32))] [(.ref t), (.int (4 : Int32))]) _
  obtain ⟨cl1, Ar1, q1, Sz1, Nn1, Hh1, Gg1⟩ := id pV_t
  refine own_st (fun t_ k_ => X0.arraylength hx (by rw [e0]; exact Ar1.1) (State.isArrayOf_alike hZ.alike Ar1.2.1) (g := (mkF m 6 #[.val (.ref t), .val (.int (0 : Int32)), .val (.int (4 : Int32))] [(.ref t), (.int (4 : Int32))])) rfl rfl (hb hby d22_6) _ k_) ?_
  rw [len_of Sz1 Nn1]
  show own_Go p e below s₁ (mkF m 7 #[.val (.ref t), .val (.int (0 : Int32)), .val (.int (4 : Int32))] [(.int z), (.int (4 : Int32))]) _
  refine own_st (fun t_ k_ => XS.icmpNo X0.here hx rfl (hb hby d22_7) rfl (feq hne).1 k_) ?_
  refine own_st (fun t_ k_ => XS.aloadN X0.here hx rfl (hb hby d22_10) rfl rfl k_) ?_
  refine own_st (fun t_ k_ => XS.iloadN X0.here hx rfl (hb hby d22_11) rfl k_) ?_
  refine own_st (fun t_ k_ => XS.iloadN X0.here hx rfl (hb hby d22_12) rfl k_) ?_
  show own_Go p e below s₁ (mkF m 13 #[.val (.ref t), .val (.int (0 : Int32)), .val (.int (4 : Int32))] [(.int (4 : Int32)), (.int (0 : Int32)), (.ref t)]) _
  obtain ⟨_, _, ⟨T2, L2, k2, n2⟩, -, X2, ⟨Lc2, hQ2, l2, y2, z2⟩, st2⟩ := Jvm.LawKit.callS X0 hx (y := (⟨"java/util/Arrays", "copyOfRangeByte", "([BII)[B"⟩ : MethodName)) hown (mvT hZ (hw _ (List.mem_of_getElem? (i := 98) rfl))) (mvT hZ (hw _ (List.mem_of_getElem? (i := 99) rfl))) (mvT hZ (hw _ (List.mem_of_getElem? (i := 96) rfl))) (mvT hZ (hw _ (List.mem_of_getElem? (i := 100) rfl))) (by decide) (backOf (W := 0) (rmCr4 l Z a0 hw [] t kt z u0 u1 u2 u3 tl h0 n0 Z0 pV_t hez) hZ (hw _ (List.mem_of_getElem? (i := 100) rfl)) (hw _ (List.mem_of_getElem? (i := 96) rfl)) (by decide) (by decide)) (g := (mkF m 13 #[.val (.ref t), .val (.int (0 : Int32)), .val (.int (4 : Int32))] [(.int (4 : Int32)), (.int (0 : Int32)), (.ref t)])) rfl (by rw [hml]; rfl) (argsL := [(.ref t), (.int (0 : Int32)), (.int (4 : Int32))]) (rest := []) (lenOf pd___BII__B rfl) rfl (by show 2 * 0 + _ ≤ _; exact Nat.le_of_eq rfl) (hb hby d22_13) (fun _ _ => ⟨rfl, e0, (by decide : 0 + 1 ≤ _), (by decide : 0 + 4 ≤ _)⟩)
  dsimp only [Pt.U, Pt.locs, Pt.cells, Pt.slots] at X2 l2 y2 z2 st2 hQ2
  try dsimp only [Nat.reduceAdd] at y2 z2
  rw [l2, y2, z2] at X2
  obtain ⟨b_2, kb_2, rfl, Nq2, Kq2, q2_0, q2_1, q2_2⟩ := hQ2
  have N2 := Fr.app N0 Nq2
  have K3 : Keep h0 T2.heap [] := (Keep.refl h0 []).trans Kq2 all0
  have Bf4 : h0.size ≤ b_2 := Nat.le_trans (Keep.refl h0 []).1 q2_1
  refine own_st st2 ?_
  show own_Go p e below T2 (mkF m 16 #[.val (.ref t), .val (.int (0 : Int32)), .val (.int (4 : Int32))] [(.ref b_2)]) _
  obtain ⟨fs, hr, hrun, hended, hW, hsame⟩ := X2.leave (v := some (.ref b_2)) (fun h => by rw [Bd.returns] at h; cases h)
  refine own_fin (own_retR X2 hx rfl Bd.returns rfl (hb hby d22_16) hr) ⟨hrun, hended, _, _, rfl, ?_, ⟨_, rfl⟩, hW, hsame.mono (by decide) (by decide)⟩
  show Q_rmCp4 Z t kt z u0 u1 u2 u3 tl h0 n0 _ T2.heap _
  exact ⟨b_2, kb_2, rfl, N2, K3, q2_0, Bf4, q2_2⟩
theorem ef_rmNs4 (m : MethodId) (x0 : Addr) (x1 : Int32) (x2 : Int32) : entryFrame m #[(.ref x0), (.int x1), (.int x2)] 3 = mkF m 0 #[.val (.ref x0), .val (.int x1), .val (.int x2)] [] := by first | (simp [entryFrame, mkF, argsToLocals, Value.category]; done) | rfl
def Q_rmNs4 (Z : State) (t : Addr) (kt : ClassId) (z : Int32) (u0 : Int32) (u1 : Int32) (u2 : Int32) (u3 : Int32) (tl : List Value) (h0 : Heap) (n0 : Nat) (v : Option Value) (h : Heap) (L : List Loc) : Prop := ∃ y : Addr, ∃ b : Addr, ∃ kb : ClassId, v = some (.ref y) ∧ Fr n0 L ∧ Keep h0 h [] ∧ Exa Z h y "java/lang/String" ∧ Fld Z h y "java/lang/String" "value" "[B" (.ref b) ∧ Fld Z h y "java/lang/String" "coder" "B" (.int (0 : Int32)) ∧ Arv Z h b kb .byte (4 : Int32) [(.int u0), (.int u1), (.int u2), (.int u3)] (.int 0)
set_option maxRecDepth 65536 in
set_option maxHeartbeats 40000000 in
theorem rmNs4 (l : Launch) (Z : State) (a0 : Array Value) (hw : ∀ d ∈ tables_1, d.before a0 Z = true) (ws : List Jvm.Cond) (t : Addr) (kt : ClassId) (z : Int32) (u0 : Int32) (u1 : Int32) (u2 : Int32) (u3 : Int32) (tl : List Value) (h0 : Heap) (n0 : Nat) (Z0 : n0 ≤ h0.size) (pV_t : Arv Z h0 t kt .byte z ((.int u0) :: (.int u1) :: (.int u2) :: (.int u3) :: tl) (.int 0)) (hez : ((4 : Int32) < z)) :
    MetFree l (⟨"java/lang/StringLatin1", "newString", "([BII)Ljava/lang/String;"⟩ : MethodName) (head1 (Jvm.Cond.code (⟨"java/lang/StringLatin1", "newString", "([BII)Ljava/lang/String;"⟩ : MethodName) jdk_43_method_47_code 3 (some (.object "java/lang/String")) :: ws) ({ frames := 3, cells := 2, slots := 8, locals := 152 } : Room)) (fun a U => a = #[(.ref t), (.int (0 : Int32)), (.int (4 : Int32))] ∧ Z.Warmed39 U.vm ∧ U.heap = h0) (fun _ _ _ _ _ => True) (fun _ U o U' => ∃ v L, o = .returned v ∧ Q_rmNs4 Z t kt z u0 u1 u2 u3 tl h0 n0 v U'.heap L ∧ FrameEnd U o U' L ({ frames := 3, cells := 2, slots := 8, locals := 152 } : Room).cells ({ frames := 3, cells := 2, slots := 8, locals := 152 } : Room).slots) := by
  refine MetFree.of_bodySF (plainFor_of_name pn_21) hisR ?_
  intro p e s m args below meth c s₁ Bd hml0 hP hK
  obtain ⟨rfl, hZ, hh⟩ := hP
  have hx := Bd.exec
  have hby := Bd.bytes
  have hml : c.maxLocals = 3 := hml0
  have hown : s.vm.findClass "java/lang/StringLatin1" = some m.cls := findClass_of_methodNamed Bd.named
  have hnm := (name_of_methodNamed Bd.named Bd.method).1
  have X0 : Stand p l e ({ frames := 3, cells := 2, slots := 8, locals := 152 } : Room) s m #[(.ref t), (.int (0 : Int32)), (.int (4 : Int32))] below meth c s₁ [] 0 0 := Stand.of_body Bd
  have e0 : s₁.heap = h0 := by rw [← hh, Bd.state]; rfl
  have N0 := Fr.nil n0
  refine own_enter (ef_rmNs4 m t ((0 : Int32)) ((4 : Int32))) ?_
  refine own_st (fun t_ k_ => XS.iloadN X0.here hx rfl (hb hby d21_0) rfl k_) ?_
  refine own_st (fun t_ k_ => XS.ifYes X0.here hx rfl (pc0 := 1) (pc' := 7) rfl (hb hby d21_1) rfl (by decide) (by decide) (by decide) k_) ?_
  show own_Go p e below s₁ (mkF m 7 #[.val (.ref t), .val (.int (0 : Int32)), .val (.int (4 : Int32))] []) _
  obtain ⟨T1, h1, X1, e1, E1, A1, D1, -, st1⟩ := newO X0 hx hZ hown (hw _ (List.mem_of_getElem? (i := 93) rfl)) (hw _ (List.mem_of_getElem? (i := 9) rfl)) (hw _ (List.mem_of_getElem? (i := 10) rfl)) e0 (g := (mkF m 7 #[.val (.ref t), .val (.int (0 : Int32)), .val (.int (4 : Int32))] [])) rfl (hb hby d21_7) (by decide) (by decide)
  obtain ⟨b1, g1⟩ : ∃ z, z = h0.size := ⟨_, rfl⟩
  rw [← g1] at A1 D1 st1
  have G1 : n0 ≤ b1 := Nat.le_trans Z0 (Nat.le_of_eq g1.symm)
  have B1 : h0.size ≤ b1 := Nat.le_trans (Keep.refl h0 []).1 (Nat.le_of_eq g1.symm)
  have K2 : Keep h0 h1 [] := (Keep.refl h0 []).ext E1
  have D1_coder : Fld Z h1 b1 "java/lang/String" "coder" "B" (.int (0 : Int32)) := D1 (Or.inr (hw _ (List.mem_of_getElem? (i := 34) rfl))) (ty := .byte) (by decide)
  have D1_value : Fld Z h1 b1 "java/lang/String" "value" "[B" .null := D1 (Or.inr (hw _ (List.mem_of_getElem? (i := 36) rfl))) (ty := (.array .byte)) (by decide)
  refine own_st st1 ?_
  show own_Go p e below T1 (mkF m 10 #[.val (.ref t), .val (.int (0 : Int32)), .val (.int (4 : Int32))] [(.ref b1)]) _
  refine own_st (fun t_ k_ => XS.dup X1.here hx rfl (hb hby d21_10) rfl rfl k_) ?_
  refine own_st (fun t_ k_ => XS.aloadN X1.here hx rfl (hb hby d21_11) rfl rfl k_) ?_
  refine own_st (fun t_ k_ => XS.iloadN X1.here hx rfl (hb hby d21_12) rfl k_) ?_
  refine own_st (fun t_ k_ => XS.iloadN X1.here hx rfl (hb hby d21_13) rfl k_) ?_
  refine own_st (fun t_ k_ => XS.iloadN X1.here hx rfl (hb hby d21_14) rfl k_) ?_
  show own_Go p e below T1 (mkF m 15 #[.val (.ref t), .val (.int (0 : Int32)), .val (.int (4 : Int32))] [(.int (4 : Int32)), (.int (0 : Int32)), (.int (0 : Int32)), (.ref t), (.ref b1), (.ref b1)]) _
  refine own_st (fun t_ k_ => XS.iadd X1.here hx rfl (hb hby d21_15) rfl k_) ?_
  show own_Go p e below T1 (mkF m 16 #[.val (.ref t), .val (.int (0 : Int32)), .val (.int (4 : Int32))] [(.int (4 : Int32)), (.int (0 : Int32)), (.ref t), (.ref b1), (.ref b1)]) _
  have f3 := (Nat.le_trans Z0 E1.1)
  have f4 := (pV_t.ext E1)
  obtain ⟨_, _, ⟨T5, L5, k5, n5⟩, -, X5, ⟨Lc5, hQ5, l5, y5, z5⟩, st5⟩ := Jvm.LawKit.callS X1 hx (y := (⟨"java/util/Arrays", "copyOfRange", "([BII)[B"⟩ : MethodName)) hown (mvT hZ (hw _ (List.mem_of_getElem? (i := 94) rfl))) (mvT hZ (hw _ (List.mem_of_getElem? (i := 95) rfl))) (mvT hZ (hw _ (List.mem_of_getElem? (i := 96) rfl))) (mvT hZ (hw _ (List.mem_of_getElem? (i := 97) rfl))) (by decide) (backOf (W := 2) (rmCp4 l Z a0 hw [] t kt z u0 u1 u2 u3 tl h1 n0 f3 f4 hez) hZ (hw _ (List.mem_of_getElem? (i := 97) rfl)) (hw _ (List.mem_of_getElem? (i := 96) rfl)) (by decide) (by decide)) (g := (mkF m 16 #[.val (.ref t), .val (.int (0 : Int32)), .val (.int (4 : Int32))] [(.int (4 : Int32)), (.int (0 : Int32)), (.ref t), (.ref b1), (.ref b1)])) rfl (by rw [hml]; rfl) (argsL := [(.ref t), (.int (0 : Int32)), (.int (4 : Int32))]) (rest := [(.ref b1), (.ref b1)]) (lenOf pd___BII__B rfl) rfl (by show 2 * 0 + _ ≤ _; exact Nat.le_of_eq rfl) (hb hby d21_16) (fun _ _ => ⟨rfl, e1, (by decide : 1 + 1 ≤ _), (by decide : 4 + 4 ≤ _)⟩)
  dsimp only [Pt.U, Pt.locs, Pt.cells, Pt.slots] at X5 l5 y5 z5 st5 hQ5
  try dsimp only [Nat.reduceAdd] at y5 z5
  rw [l5, y5, z5] at X5
  obtain ⟨b_5, kb_5, rfl, Nq5, Kq5, q5_0, q5_1, q5_2⟩ := hQ5
  have N5 := Fr.app N0 Nq5
  have K6 : Keep h0 T5.heap [] := K2.trans Kq5 all0
  have Bf7 : h0.size ≤ b_5 := Nat.le_trans K2.1 q5_1
  refine own_st st5 ?_
  show own_Go p e below T5 (mkF m 19 #[.val (.ref t), .val (.int (0 : Int32)), .val (.int (4 : Int32))] [(.ref b_5), (.ref b1), (.ref b1)]) _
  refine own_st (fun t_ k_ => XS.iconst X5.here hx rfl (hb hby d21_19) k_) ?_
  show own_Go p e below T5 (mkF m 20 #[.val (.ref t), .val (.int (0 : Int32)), .val (.int (4 : Int32))] [(.int (0 : Int32)), (.ref b_5), (.ref b1), (.ref b1)]) _
  have f8 := (Nat.le_trans f3 Kq5.1)
  have f9 := (A1.keep Kq5)
  have f10 := (D1_value.keep Kq5 nin0)
  have f11 := (D1_coder.keep Kq5 nin0)
  obtain ⟨_, _, ⟨T12, L12, k12, n12⟩, -, X12, ⟨Lc12, hQ12, l12, y12, z12⟩, st12⟩ := X5.specialBack hx (y := (⟨"java/lang/String", "<init>", "([BB)V"⟩ : MethodName)) rfl hown (mvT hZ (hw _ (List.mem_of_getElem? (i := 109) rfl))) (mvT hZ (hw _ (List.mem_of_getElem? (i := 110) rfl))) (mvT hZ (hw _ (List.mem_of_getElem? (i := 111) rfl))) (by decide) (backOf (W := 1) (rmIb l Z a0 hw [] b1 b_5 .null ((.int (0 : Int32))) T5.heap n0 f8 f9 f10 f11 G1) hZ (hw _ (List.mem_of_getElem? (i := 111) rfl)) (hw _ (List.mem_of_getElem? (i := 10) rfl)) (by decide) (by decide)) (g := (mkF m 20 #[.val (.ref t), .val (.int (0 : Int32)), .val (.int (4 : Int32))] [(.int (0 : Int32)), (.ref b_5), (.ref b1), (.ref b1)])) rfl (by rw [hml]; rfl) (Steps.refl _) (a := b1) (argsL := [(.ref b_5), (.int (0 : Int32))]) (rest := [(.ref b1)]) (lenOf pd___BB_V rfl) rfl (by show 2 * 0 + _ ≤ _; exact Nat.le_of_eq rfl) (hb hby d21_20) (fun _ _ => ⟨rfl, rfl, (by decide : 2 + 0 ≤ _), (by decide : 8 + 0 ≤ _)⟩)
  dsimp only [Pt.U, Pt.locs, Pt.cells, Pt.slots] at X12 l12 y12 z12 st12 hQ12
  try dsimp only [Nat.reduceAdd] at y12 z12
  rw [l12, y12, z12] at X12
  obtain ⟨rfl, Nq12, Kq12, q12_0, q12_1, q12_2⟩ := hQ12
  have N12 := Fr.app N5 Nq12
  have K13 : Keep h0 T12.heap [] := K6.trans Kq12 (allS (Or.inr B1) all0)
  refine own_tr st12 ?_
  show own_Go p e below T12 (mkF m 23 #[.val (.ref t), .val (.int (0 : Int32)), .val (.int (4 : Int32))] [(.ref b1)]) _
  have f14 := (q5_0.keep Kq12 (ninS (Ne.symm (Nat.ne_of_lt (Nat.lt_of_lt_of_le A1.lt q5_1))) nin0))
  obtain ⟨fs, hr, hrun, hended, hW, hsame⟩ := X12.leave (v := some (.ref b1)) (fun h => by rw [Bd.returns] at h; cases h)
  refine own_fin (own_retR X12 hx rfl Bd.returns rfl (hb hby d21_23) hr) ⟨hrun, hended, _, _, rfl, ?_, ⟨_, rfl⟩, hW, hsame.mono (by decide) (by decide)⟩
  show Q_rmNs4 Z t kt z u0 u1 u2 u3 tl h0 n0 _ T12.heap _
  exact ⟨b1, b_5, kb_5, rfl, N12, K13, q12_0, q12_1, q12_2, f14⟩
theorem ef_rmSb4 (m : MethodId) (x0 : Addr) (x1 : Int32) (x2 : Int32) : entryFrame m #[(.ref x0), (.int x1), (.int x2)] 5 = mkF m 0 #[.val (.ref x0), .val (.int x1), .val (.int x2), .unset, .unset] [] := by first | (simp [entryFrame, mkF, argsToLocals, Value.category]; done) | rfl
def Q_rmSb4 (Z : State) (x : Addr) (tx : Addr) (kx : ClassId) (z : Int32) (u0 : Int32) (u1 : Int32) (u2 : Int32) (u3 : Int32) (tl : List Value) (zc : Int32) (fm : Value) (h0 : Heap) (n0 : Nat) (v : Option Value) (h : Heap) (L : List Loc) : Prop := ∃ y : Addr, ∃ b : Addr, ∃ kb : ClassId, v = some (.ref y) ∧ Fr n0 L ∧ Keep h0 h [] ∧ Exa Z h y "java/lang/String" ∧ Fld Z h y "java/lang/String" "value" "[B" (.ref b) ∧ Fld Z h y "java/lang/String" "coder" "B" (.int (0 : Int32)) ∧ Arv Z h b kb .byte (4 : Int32) [(.int u0), (.int u1), (.int u2), (.int u3)] (.int 0)
set_option maxRecDepth 65536 in
set_option maxHeartbeats 40000000 in
theorem rmSb4 (l : Launch) (Z : State) (a0 : Array Value) (hw : ∀ d ∈ tables_1, d.before a0 Z = true) (ws : List Jvm.Cond) (x : Addr) (tx : Addr) (kx : ClassId) (z : Int32) (u0 : Int32) (u1 : Int32) (u2 : Int32) (u3 : Int32) (tl : List Value) (zc : Int32) (fm : Value) (h0 : Heap) (n0 : Nat) (Z0 : n0 ≤ h0.size) (pE_x : Exa Z h0 x "java/lang/String") (pF_value_x : Fld Z h0 x "java/lang/String" "value" "[B" (.ref tx)) (pF_coder_x : Fld Z h0 x "java/lang/String" "coder" "B" (.int (0 : Int32))) (pV_tx : Arv Z h0 tx kx .byte z ((.int u0) :: (.int u1) :: (.int u2) :: (.int u3) :: tl) (.int 0)) (hez : ((4 : Int32) < z)) (pS_COMPACT_STRINGS : Sta Z Z.heap "java/lang/String" "COMPACT_STRINGS" "Z" (.int zc)) (pP5 : (¬ (zc = (0 : Int32)))) (pS_SIOOBE_FORMATTER : Sta Z Z.heap "jdk/internal/util/Preconditions" "SIOOBE_FORMATTER" "Ljava/util/function/BiFunction;" fm) (rfm : (fm.isRef = true)) (pO : Old Z n0 h0) :
    MetFree l (⟨"java/lang/String", "substring", "(II)Ljava/lang/String;"⟩ : MethodName) (head1 (Jvm.Cond.code (⟨"java/lang/String", "substring", "(II)Ljava/lang/String;"⟩ : MethodName) jdk_42_method_92_code 5 (some (.object "java/lang/String")) :: ws) ({ frames := 4, cells := 2, slots := 8, locals := 166 } : Room)) (fun a U => a = #[(.ref x), (.int (0 : Int32)), (.int (4 : Int32))] ∧ Z.Warmed39 U.vm ∧ U.heap = h0) (fun _ _ _ _ _ => True) (fun _ U o U' => ∃ v L, o = .returned v ∧ Q_rmSb4 Z x tx kx z u0 u1 u2 u3 tl zc fm h0 n0 v U'.heap L ∧ FrameEnd U o U' L ({ frames := 4, cells := 2, slots := 8, locals := 166 } : Room).cells ({ frames := 4, cells := 2, slots := 8, locals := 166 } : Room).slots) := by
  refine MetFree.of_bodySF (plainFor_of_name pn_18) hisR ?_
  intro p e s m args below meth c s₁ Bd hml0 hP hK
  obtain ⟨rfl, hZ, hh⟩ := hP
  have hx := Bd.exec
  have hby := Bd.bytes
  have hml : c.maxLocals = 5 := hml0
  have hown : s.vm.findClass "java/lang/String" = some m.cls := findClass_of_methodNamed Bd.named
  have hnm := (name_of_methodNamed Bd.named Bd.method).1
  have X0 : Stand p l e ({ frames := 4, cells := 2, slots := 8, locals := 166 } : Room) s m #[(.ref x), (.int (0 : Int32)), (.int (4 : Int32))] below meth c s₁ [] 0 0 := Stand.of_body Bd
  have e0 : s₁.heap = h0 := by rw [← hh, Bd.state]; rfl
  have N0 := Fr.nil n0
  refine own_enter (ef_rmSb4 m x ((0 : Int32)) ((4 : Int32))) ?_
  have hne : ¬ ((4 : Int32) = z) := fun q => absurd hez (by rw [← q]; decide)
  have hle : ¬ (z < (4 : Int32)) := by rw [Int32.lt_iff_toInt_lt] at hez ⊢; omega
  refine own_st (fun t_ k_ => XS.aloadN X0.here hx rfl (hb hby d18_0) rfl rfl k_) ?_
  show own_Go p e below s₁ (mkF m 1 #[.val (.ref x), .val (.int (0 : Int32)), .val (.int (4 : Int32)), .unset, .unset] [(.ref x)]) _
  obtain ⟨cq1, kq1, qa1, qb1, qc1⟩ := isOf hZ e0 pE_x
  obtain ⟨_, _, ⟨T1, L1, k1, n1⟩, -, X1, ⟨Lc1, hQ1, l1, y1, z1⟩, st1⟩ := X0.virtualBack hx (y := (⟨"java/lang/String", "length", "()I"⟩ : MethodName)) (z := (⟨"java/lang/String", "length", "()I"⟩ : MethodName)) hown (mvT hZ (hw _ (List.mem_of_getElem? (i := 46) rfl))) (mvT hZ (hw _ (List.mem_of_getElem? (i := 47) rfl))) (notFace_of_selects (args := #[]) (mvT hZ (hw _ (List.mem_of_getElem? (i := 49) rfl)))) (mvT hZ (hw _ (List.mem_of_getElem? (i := 49) rfl))) (mvT hZ (hw _ (List.mem_of_getElem? (i := 48) rfl))) (by decide) (backOf (W := 0) (rmLe l Z a0 hw [] x tx kx z (((.int u0) :: (.int u1) :: (.int u2) :: (.int u3) :: tl)) zc h0 n0 Z0 pE_x pF_value_x pF_coder_x pV_tx pS_COMPACT_STRINGS pP5 pO) hZ (hw _ (List.mem_of_getElem? (i := 50) rfl)) (hw _ (List.mem_of_getElem? (i := 10) rfl)) (by decide) (by decide)) qa1 qc1 (g := (mkF m 1 #[.val (.ref x), .val (.int (0 : Int32)), .val (.int (4 : Int32)), .unset, .unset] [(.ref x)])) rfl (by rw [hml]; rfl) (Steps.refl _) (argsL := []) (rest := []) (lenOf pd___I rfl) rfl (by show 2 * 0 + _ ≤ _; exact Nat.le_of_eq rfl) (hb hby d18_1) (fun _ _ => ⟨rfl, e0, (by decide : 0 + 0 ≤ _), (by decide : 0 + 0 ≤ _)⟩)
  dsimp only [Pt.U, Pt.locs, Pt.cells, Pt.slots] at X1 l1 y1 z1 st1 hQ1
  try dsimp only [Nat.reduceAdd] at y1 z1
  rw [l1, y1, z1] at X1
  obtain ⟨rfl, Nq1, eH1⟩ := hQ1
  have N1 := Fr.app N0 Nq1
  refine own_tr st1 ?_
  show own_Go p e below T1 (mkF m 4 #[.val (.ref x), .val (.int (0 : Int32)), .val (.int (4 : Int32)), .unset, .unset] [(.int z)]) _
  refine own_st (fun t_ k_ => XS.istoreN X1.here hx rfl (hb hby d18_4) rfl (l' := #[.val (.ref x), .val (.int (0 : Int32)), .val (.int (4 : Int32)), .val (.int z), .unset]) rfl k_) ?_
  refine own_st (fun t_ k_ => XS.iloadN X1.here hx rfl (hb hby d18_5) rfl k_) ?_
  refine own_st (fun t_ k_ => XS.iloadN X1.here hx rfl (hb hby d18_6) rfl k_) ?_
  refine own_st (fun t_ k_ => XS.iloadN X1.here hx rfl (hb hby d18_7) rfl k_) ?_
  show own_Go p e below T1 (mkF m 8 #[.val (.ref x), .val (.int (0 : Int32)), .val (.int (4 : Int32)), .val (.int z), .unset] [(.int z), (.int (4 : Int32)), (.int (0 : Int32))]) _
  obtain ⟨_, _, ⟨T2, L2, k2, n2⟩, -, X2, ⟨Lc2, hQ2, l2, y2, z2⟩, st2⟩ := Jvm.LawKit.callS X1 hx (y := (⟨"java/lang/String", "checkBoundsBeginEnd", "(III)V"⟩ : MethodName)) hown (mvT hZ (hw _ (List.mem_of_getElem? (i := 82) rfl))) (mvT hZ (hw _ (List.mem_of_getElem? (i := 83) rfl))) (mvT hZ (hw _ (List.mem_of_getElem? (i := 10) rfl))) (mvT hZ (hw _ (List.mem_of_getElem? (i := 84) rfl))) (by decide) (backOf (W := 0) (rmCb l Z a0 hw [] ((4 : Int32)) z fm h0 n0 Z0 (by decide) hle pS_SIOOBE_FORMATTER rfm pO) hZ (hw _ (List.mem_of_getElem? (i := 84) rfl)) (hw _ (List.mem_of_getElem? (i := 10) rfl)) (by decide) (by decide)) (g := (mkF m 8 #[.val (.ref x), .val (.int (0 : Int32)), .val (.int (4 : Int32)), .val (.int z), .unset] [(.int z), (.int (4 : Int32)), (.int (0 : Int32))])) rfl (by rw [hml]; rfl) (argsL := [(.int (0 : Int32)), (.int (4 : Int32)), (.int z)]) (rest := []) (lenOf pd__III_V rfl) rfl (by show 2 * 0 + _ ≤ _; exact Nat.le_of_eq rfl) (hb hby d18_8) (fun _ _ => ⟨rfl, eH1, (by decide : 0 + 0 ≤ _), (by decide : 0 + 0 ≤ _)⟩)
  dsimp only [Pt.U, Pt.locs, Pt.cells, Pt.slots] at X2 l2 y2 z2 st2 hQ2
  try dsimp only [Nat.reduceAdd] at y2 z2
  rw [l2, y2, z2] at X2
  obtain ⟨rfl, Nq2, eH2⟩ := hQ2
  have N2 := Fr.app N1 Nq2
  refine own_st st2 ?_
  show own_Go p e below T2 (mkF m 11 #[.val (.ref x), .val (.int (0 : Int32)), .val (.int (4 : Int32)), .val (.int z), .unset] []) _
  refine own_st (fun t_ k_ => XS.iloadN X2.here hx rfl (hb hby d18_11) rfl k_) ?_
  refine own_st (fun t_ k_ => XS.ifNo X2.here hx rfl (hb hby d18_12) rfl (by decide) k_) ?_
  refine own_st (fun t_ k_ => XS.iloadN X2.here hx rfl (hb hby d18_15) rfl k_) ?_
  refine own_st (fun t_ k_ => XS.iloadN X2.here hx rfl (hb hby d18_16) rfl k_) ?_
  refine own_st (fun t_ k_ => XS.icmpYes X2.here hx rfl (pc0 := 17) (pc' := 22) rfl (hb hby d18_17) rfl (feq hne).2 (by decide) (by decide) k_) ?_
  show own_Go p e below T2 (mkF m 22 #[.val (.ref x), .val (.int (0 : Int32)), .val (.int (4 : Int32)), .val (.int z), .unset] []) _
  refine own_st (fun t_ k_ => XS.iloadN X2.here hx rfl (hb hby d18_22) rfl k_) ?_
  refine own_st (fun t_ k_ => XS.iloadN X2.here hx rfl (hb hby d18_23) rfl k_) ?_
  refine own_st (fun t_ k_ => XS.isub X2.here hx rfl (hb hby d18_24) rfl k_) ?_
  refine own_st (fun t_ k_ => XS.istore X2.here hx rfl (hb hby d18_25) rfl (l' := #[.val (.ref x), .val (.int (0 : Int32)), .val (.int (4 : Int32)), .val (.int z), .val (.int (4 : Int32))]) rfl k_) ?_
  refine own_st (fun t_ k_ => XS.aloadN X2.here hx rfl (hb hby d18_27) rfl rfl k_) ?_
  show own_Go p e below T2 (mkF m 28 #[.val (.ref x), .val (.int (0 : Int32)), .val (.int (4 : Int32)), .val (.int z), .val (.int (4 : Int32))] [(.ref x)]) _
  obtain ⟨cq3, kq3, qa3, qb3, qc3⟩ := isOf hZ eH2 pE_x
  obtain ⟨_, _, ⟨T3, L3, k3, n3⟩, -, X3, ⟨Lc3, hQ3, l3, y3, z3⟩, st3⟩ := X2.virtualBack hx (y := (⟨"java/lang/String", "isLatin1", "()Z"⟩ : MethodName)) (z := (⟨"java/lang/String", "isLatin1", "()Z"⟩ : MethodName)) hown (mvT hZ (hw _ (List.mem_of_getElem? (i := 61) rfl))) (mvT hZ (hw _ (List.mem_of_getElem? (i := 62) rfl))) (notFace_of_selects (args := #[]) (mvT hZ (hw _ (List.mem_of_getElem? (i := 64) rfl)))) (mvT hZ (hw _ (List.mem_of_getElem? (i := 64) rfl))) (mvT hZ (hw _ (List.mem_of_getElem? (i := 63) rfl))) (by decide) (backOf (W := 0) (rmIl l Z a0 hw [] x zc h0 n0 Z0 pE_x pF_coder_x pS_COMPACT_STRINGS pP5 pO) hZ (hw _ (List.mem_of_getElem? (i := 65) rfl)) (hw _ (List.mem_of_getElem? (i := 10) rfl)) (by decide) (by decide)) qa3 qc3 (g := (mkF m 28 #[.val (.ref x), .val (.int (0 : Int32)), .val (.int (4 : Int32)), .val (.int z), .val (.int (4 : Int32))] [(.ref x)])) rfl (by rw [hml]; rfl) (Steps.refl _) (argsL := []) (rest := []) (lenOf pd___Z rfl) rfl (by show 2 * 0 + _ ≤ _; exact Nat.le_of_eq rfl) (hb hby d18_28) (fun _ _ => ⟨rfl, eH2, (by decide : 0 + 0 ≤ _), (by decide : 0 + 0 ≤ _)⟩)
  dsimp only [Pt.U, Pt.locs, Pt.cells, Pt.slots] at X3 l3 y3 z3 st3 hQ3
  try dsimp only [Nat.reduceAdd] at y3 z3
  rw [l3, y3, z3] at X3
  obtain ⟨rfl, Nq3, eH3⟩ := hQ3
  have N3 := Fr.app N2 Nq3
  refine own_tr st3 ?_
  show own_Go p e below T3 (mkF m 31 #[.val (.ref x), .val (.int (0 : Int32)), .val (.int (4 : Int32)), .val (.int z), .val (.int (4 : Int32))] [(.int (1 : Int32))]) _
  refine own_st (fun t_ k_ => XS.ifNo X3.here hx rfl (hb hby d18_31) rfl (by decide) k_) ?_
  refine own_st (fun t_ k_ => XS.aloadN X3.here hx rfl (hb hby d18_34) rfl rfl k_) ?_
  show own_Go p e below T3 (mkF m 35 #[.val (.ref x), .val (.int (0 : Int32)), .val (.int (4 : Int32)), .val (.int z), .val (.int (4 : Int32))] [(.ref x)]) _
  obtain ⟨T4, X4, e4, st4⟩ := getF X3 hx hZ hown (host := "") (Or.inl (hw _ (List.mem_of_getElem? (i := 35) rfl))) Via.refl eH3 pF_value_x (g := (mkF m 35 #[.val (.ref x), .val (.int (0 : Int32)), .val (.int (4 : Int32)), .val (.int z), .val (.int (4 : Int32))] [(.ref x)])) rfl rfl (hb hby d18_35)
  refine own_st st4 ?_
  show own_Go p e below T4 (mkF m 38 #[.val (.ref x), .val (.int (0 : Int32)), .val (.int (4 : Int32)), .val (.int z), .val (.int (4 : Int32))] [(.ref tx)]) _
  refine own_st (fun t_ k_ => XS.iloadN X4.here hx rfl (hb hby d18_38) rfl k_) ?_
  refine own_st (fun t_ k_ => XS.iload X4.here hx rfl (hb hby d18_39) rfl k_) ?_
  show own_Go p e below T4 (mkF m 41 #[.val (.ref x), .val (.int (0 : Int32)), .val (.int (4 : Int32)), .val (.int z), .val (.int (4 : Int32))] [(.int (4 : Int32)), (.int (0 : Int32)), (.ref tx)]) _
  obtain ⟨_, _, ⟨T5, L5, k5, n5⟩, -, X5, ⟨Lc5, hQ5, l5, y5, z5⟩, st5⟩ := Jvm.LawKit.callS X4 hx (y := (⟨"java/lang/StringLatin1", "newString", "([BII)Ljava/lang/String;"⟩ : MethodName)) hown (mvT hZ (hw _ (List.mem_of_getElem? (i := 90) rfl))) (mvT hZ (hw _ (List.mem_of_getElem? (i := 91) rfl))) (mvT hZ (hw _ (List.mem_of_getElem? (i := 68) rfl))) (mvT hZ (hw _ (List.mem_of_getElem? (i := 92) rfl))) (by decide) (backOf (W := 0) (rmNs4 l Z a0 hw [] tx kx z u0 u1 u2 u3 tl h0 n0 Z0 pV_tx hez) hZ (hw _ (List.mem_of_getElem? (i := 92) rfl)) (hw _ (List.mem_of_getElem? (i := 68) rfl)) (by decide) (by decide)) (g := (mkF m 41 #[.val (.ref x), .val (.int (0 : Int32)), .val (.int (4 : Int32)), .val (.int z), .val (.int (4 : Int32))] [(.int (4 : Int32)), (.int (0 : Int32)), (.ref tx)])) rfl (by rw [hml]; rfl) (argsL := [(.ref tx), (.int (0 : Int32)), (.int (4 : Int32))]) (rest := []) (lenOf pd___BII_Ljava_lang_String_ rfl) rfl (by show 2 * 0 + _ ≤ _; exact Nat.le_of_eq rfl) (hb hby d18_41) (fun _ _ => ⟨rfl, e4, (by decide : 0 + 2 ≤ _), (by decide : 0 + 8 ≤ _)⟩)
  dsimp only [Pt.U, Pt.locs, Pt.cells, Pt.slots] at X5 l5 y5 z5 st5 hQ5
  try dsimp only [Nat.reduceAdd] at y5 z5
  rw [l5, y5, z5] at X5
  obtain ⟨y_5, b_5, kb_5, rfl, Nq5, Kq5, q5_0, q5_1, q5_2, q5_3⟩ := hQ5
  have N5 := Fr.app N3 Nq5
  have K6 : Keep h0 T5.heap [] := (Keep.refl h0 []).trans Kq5 all0
  refine own_st st5 ?_
  show own_Go p e below T5 (mkF m 44 #[.val (.ref x), .val (.int (0 : Int32)), .val (.int (4 : Int32)), .val (.int z), .val (.int (4 : Int32))] [(.ref y_5)]) _
  refine own_st (fun t_ k_ => XS.goto X5.here hx rfl (pc0 := 44) (pc' := 57) rfl (hb hby d18_44) (by decide) (by decide) k_) ?_
  show own_Go p e below T5 (mkF m 57 #[.val (.ref x), .val (.int (0 : Int32)), .val (.int (4 : Int32)), .val (.int z), .val (.int (4 : Int32))] [(.ref y_5)]) _
  obtain ⟨fs, hr, hrun, hended, hW, hsame⟩ := X5.leave (v := some (.ref y_5)) (fun h => by rw [Bd.returns] at h; cases h)
  refine own_fin (own_retR X5 hx rfl Bd.returns rfl (hb hby d18_57) hr) ⟨hrun, hended, _, _, rfl, ?_, ⟨_, rfl⟩, hW, hsame.mono (by decide) (by decide)⟩
  show Q_rmSb4 Z x tx kx z u0 u1 u2 u3 tl zc fm h0 n0 _ T5.heap _
  exact ⟨y_5, b_5, kb_5, rfl, N5, K6, q5_0, q5_1, q5_2, q5_3⟩
theorem d18_20 : decode jdk_42_method_92_code 20 = .ok (.aload_n 0, 1) := by decide +kernel
theorem d18_21 : decode jdk_42_method_92_code 21 = .ok (.areturn, 1) := by decide +kernel
theorem ef_rmSbI (m : MethodId) (x0 : Addr) (x1 : Int32) (x2 : Int32) : entryFrame m #[(.ref x0), (.int x1), (.int x2)] 5 = mkF m 0 #[.val (.ref x0), .val (.int x1), .val (.int x2), .unset, .unset] [] := by first | (simp [entryFrame, mkF, argsToLocals, Value.category]; done) | rfl
def Q_rmSbI (Z : State) (x : Addr) (tx : Addr) (kx : ClassId) (vs : List Value) (zc : Int32) (fm : Value) (h0 : Heap) (n0 : Nat) (v : Option Value) (h : Heap) (L : List Loc) : Prop := v = some (.ref x) ∧ Fr n0 L ∧ h = h0
set_option maxRecDepth 65536 in
set_option maxHeartbeats 40000000 in
theorem rmSbI (l : Launch) (Z : State) (a0 : Array Value) (hw : ∀ d ∈ tables_1, d.before a0 Z = true) (ws : List Jvm.Cond) (x : Addr) (tx : Addr) (kx : ClassId) (vs : List Value) (zc : Int32) (fm : Value) (h0 : Heap) (n0 : Nat) (Z0 : n0 ≤ h0.size) (pE_x : Exa Z h0 x "java/lang/String") (pF_value_x : Fld Z h0 x "java/lang/String" "value" "[B" (.ref tx)) (pF_coder_x : Fld Z h0 x "java/lang/String" "coder" "B" (.int (0 : Int32))) (pV_tx : Arv Z h0 tx kx .byte (1 : Int32) vs (.int 0)) (pS_COMPACT_STRINGS : Sta Z Z.heap "java/lang/String" "COMPACT_STRINGS" "Z" (.int zc)) (pP5 : (¬ (zc = (0 : Int32)))) (pS_SIOOBE_FORMATTER : Sta Z Z.heap "jdk/internal/util/Preconditions" "SIOOBE_FORMATTER" "Ljava/util/function/BiFunction;" fm) (rfm : (fm.isRef = true)) (pO : Old Z n0 h0) :
    MetFree l (⟨"java/lang/String", "substring", "(II)Ljava/lang/String;"⟩ : MethodName) (head1 (Jvm.Cond.code (⟨"java/lang/String", "substring", "(II)Ljava/lang/String;"⟩ : MethodName) jdk_42_method_92_code 5 (some (.object "java/lang/String")) :: ws) ({ frames := 2, cells := 0, slots := 0, locals := 29 } : Room)) (fun a U => a = #[(.ref x), (.int (0 : Int32)), (.int (1 : Int32))] ∧ Z.Warmed39 U.vm ∧ U.heap = h0) (fun _ _ _ _ _ => True) (fun _ U o U' => ∃ v L, o = .returned v ∧ Q_rmSbI Z x tx kx vs zc fm h0 n0 v U'.heap L ∧ FrameEnd U o U' L ({ frames := 2, cells := 0, slots := 0, locals := 29 } : Room).cells ({ frames := 2, cells := 0, slots := 0, locals := 29 } : Room).slots) := by
  refine MetFree.of_bodySF (plainFor_of_name pn_18) hisR ?_
  intro p e s m args below meth c s₁ Bd hml0 hP hK
  obtain ⟨rfl, hZ, hh⟩ := hP
  have hx := Bd.exec
  have hby := Bd.bytes
  have hml : c.maxLocals = 5 := hml0
  have hown : s.vm.findClass "java/lang/String" = some m.cls := findClass_of_methodNamed Bd.named
  have hnm := (name_of_methodNamed Bd.named Bd.method).1
  have X0 : Stand p l e ({ frames := 2, cells := 0, slots := 0, locals := 29 } : Room) s m #[(.ref x), (.int (0 : Int32)), (.int (1 : Int32))] below meth c s₁ [] 0 0 := Stand.of_body Bd
  have e0 : s₁.heap = h0 := by rw [← hh, Bd.state]; rfl
  have N0 := Fr.nil n0
  refine own_enter (ef_rmSbI m x ((0 : Int32)) ((1 : Int32))) ?_
  refine own_st (fun t_ k_ => XS.aloadN X0.here hx rfl (hb hby d18_0) rfl rfl k_) ?_
  show own_Go p e below s₁ (mkF m 1 #[.val (.ref x), .val (.int (0 : Int32)), .val (.int (1 : Int32)), .unset, .unset] [(.ref x)]) _
  obtain ⟨cq1, kq1, qa1, qb1, qc1⟩ := isOf hZ e0 pE_x
  obtain ⟨_, _, ⟨T1, L1, k1, n1⟩, -, X1, ⟨Lc1, hQ1, l1, y1, z1⟩, st1⟩ := X0.virtualBack hx (y := (⟨"java/lang/String", "length", "()I"⟩ : MethodName)) (z := (⟨"java/lang/String", "length", "()I"⟩ : MethodName)) hown (mvT hZ (hw _ (List.mem_of_getElem? (i := 46) rfl))) (mvT hZ (hw _ (List.mem_of_getElem? (i := 47) rfl))) (notFace_of_selects (args := #[]) (mvT hZ (hw _ (List.mem_of_getElem? (i := 49) rfl)))) (mvT hZ (hw _ (List.mem_of_getElem? (i := 49) rfl))) (mvT hZ (hw _ (List.mem_of_getElem? (i := 48) rfl))) (by decide) (backOf (W := 0) (rmLe l Z a0 hw [] x tx kx ((1 : Int32)) vs zc h0 n0 Z0 pE_x pF_value_x pF_coder_x pV_tx pS_COMPACT_STRINGS pP5 pO) hZ (hw _ (List.mem_of_getElem? (i := 50) rfl)) (hw _ (List.mem_of_getElem? (i := 10) rfl)) (by decide) (by decide)) qa1 qc1 (g := (mkF m 1 #[.val (.ref x), .val (.int (0 : Int32)), .val (.int (1 : Int32)), .unset, .unset] [(.ref x)])) rfl (by rw [hml]; rfl) (Steps.refl _) (argsL := []) (rest := []) (lenOf pd___I rfl) rfl (by show 2 * 0 + _ ≤ _; exact Nat.le_of_eq rfl) (hb hby d18_1) (fun _ _ => ⟨rfl, e0, (by decide : 0 + 0 ≤ _), (by decide : 0 + 0 ≤ _)⟩)
  dsimp only [Pt.U, Pt.locs, Pt.cells, Pt.slots] at X1 l1 y1 z1 st1 hQ1
  try dsimp only [Nat.reduceAdd] at y1 z1
  rw [l1, y1, z1] at X1
  obtain ⟨rfl, Nq1, eH1⟩ := hQ1
  have N1 := Fr.app N0 Nq1
  refine own_tr st1 ?_
  show own_Go p e below T1 (mkF m 4 #[.val (.ref x), .val (.int (0 : Int32)), .val (.int (1 : Int32)), .unset, .unset] [(.int (1 : Int32))]) _
  refine own_st (fun t_ k_ => XS.istoreN X1.here hx rfl (hb hby d18_4) rfl (l' := #[.val (.ref x), .val (.int (0 : Int32)), .val (.int (1 : Int32)), .val (.int (1 : Int32)), .unset]) rfl k_) ?_
  refine own_st (fun t_ k_ => XS.iloadN X1.here hx rfl (hb hby d18_5) rfl k_) ?_
  refine own_st (fun t_ k_ => XS.iloadN X1.here hx rfl (hb hby d18_6) rfl k_) ?_
  refine own_st (fun t_ k_ => XS.iloadN X1.here hx rfl (hb hby d18_7) rfl k_) ?_
  show own_Go p e below T1 (mkF m 8 #[.val (.ref x), .val (.int (0 : Int32)), .val (.int (1 : Int32)), .val (.int (1 : Int32)), .unset] [(.int (1 : Int32)), (.int (1 : Int32)), (.int (0 : Int32))]) _
  obtain ⟨_, _, ⟨T2, L2, k2, n2⟩, -, X2, ⟨Lc2, hQ2, l2, y2, z2⟩, st2⟩ := Jvm.LawKit.callS X1 hx (y := (⟨"java/lang/String", "checkBoundsBeginEnd", "(III)V"⟩ : MethodName)) hown (mvT hZ (hw _ (List.mem_of_getElem? (i := 82) rfl))) (mvT hZ (hw _ (List.mem_of_getElem? (i := 83) rfl))) (mvT hZ (hw _ (List.mem_of_getElem? (i := 10) rfl))) (mvT hZ (hw _ (List.mem_of_getElem? (i := 84) rfl))) (by decide) (backOf (W := 0) (rmCb l Z a0 hw [] ((1 : Int32)) ((1 : Int32)) fm h0 n0 Z0 (by decide) (by decide) pS_SIOOBE_FORMATTER rfm pO) hZ (hw _ (List.mem_of_getElem? (i := 84) rfl)) (hw _ (List.mem_of_getElem? (i := 10) rfl)) (by decide) (by decide)) (g := (mkF m 8 #[.val (.ref x), .val (.int (0 : Int32)), .val (.int (1 : Int32)), .val (.int (1 : Int32)), .unset] [(.int (1 : Int32)), (.int (1 : Int32)), (.int (0 : Int32))])) rfl (by rw [hml]; rfl) (argsL := [(.int (0 : Int32)), (.int (1 : Int32)), (.int (1 : Int32))]) (rest := []) (lenOf pd__III_V rfl) rfl (by show 2 * 0 + _ ≤ _; exact Nat.le_of_eq rfl) (hb hby d18_8) (fun _ _ => ⟨rfl, eH1, (by decide : 0 + 0 ≤ _), (by decide : 0 + 0 ≤ _)⟩)
  dsimp only [Pt.U, Pt.locs, Pt.cells, Pt.slots] at X2 l2 y2 z2 st2 hQ2
  try dsimp only [Nat.reduceAdd] at y2 z2
  rw [l2, y2, z2] at X2
  obtain ⟨rfl, Nq2, eH2⟩ := hQ2
  have N2 := Fr.app N1 Nq2
  refine own_st st2 ?_
  show own_Go p e below T2 (mkF m 11 #[.val (.ref x), .val (.int (0 : Int32)), .val (.int (1 : Int32)), .val (.int (1 : Int32)), .unset] []) _
  refine own_st (fun t_ k_ => XS.iloadN X2.here hx rfl (hb hby d18_11) rfl k_) ?_
  refine own_st (fun t_ k_ => XS.ifNo X2.here hx rfl (hb hby d18_12) rfl (by decide) k_) ?_
  refine own_st (fun t_ k_ => XS.iloadN X2.here hx rfl (hb hby d18_15) rfl k_) ?_
  refine own_st (fun t_ k_ => XS.iloadN X2.here hx rfl (hb hby d18_16) rfl k_) ?_
  refine own_st (fun t_ k_ => XS.icmpNo X2.here hx rfl (hb hby d18_17) rfl (by decide) k_) ?_
  show own_Go p e below T2 (mkF m 20 #[.val (.ref x), .val (.int (0 : Int32)), .val (.int (1 : Int32)), .val (.int (1 : Int32)), .unset] []) _
  refine own_st (fun t_ k_ => XS.aloadN X2.here hx rfl (hb hby d18_20) rfl rfl k_) ?_
  show own_Go p e below T2 (mkF m 21 #[.val (.ref x), .val (.int (0 : Int32)), .val (.int (1 : Int32)), .val (.int (1 : Int32)), .unset] [(.ref x)]) _
  obtain ⟨fs, hr, hrun, hended, hW, hsame⟩ := X2.leave (v := some (.ref x)) (fun h => by rw [Bd.returns] at h; cases h)
  refine own_fin (own_retR X2 hx rfl Bd.returns rfl (hb hby d18_21) hr) ⟨hrun, hended, _, _, rfl, ?_, ⟨_, rfl⟩, hW, hsame.mono (by decide) (by decide)⟩
  show Q_rmSbI Z x tx kx vs zc fm h0 n0 _ T2.heap _
  rw [eH2]
  exact ⟨rfl, N2, rfl⟩
theorem d21_4 : decode jdk_43_method_47_code 4 = .ok (.ldc 151, 2) := by decide +kernel
theorem d21_6 : decode jdk_43_method_47_code 6 = .ok (.areturn, 1) := by decide +kernel
theorem ef_rmNs0 (m : MethodId) (x0 : Addr) (x1 : Int32) (x2 : Int32) : entryFrame m #[(.ref x0), (.int x1), (.int x2)] 3 = mkF m 0 #[.val (.ref x0), .val (.int x1), .val (.int x2)] [] := by first | (simp [entryFrame, mkF, argsToLocals, Value.category]; done) | rfl
def Q_rmNs0 (Z : State) (t : Addr) (h0 : Heap) (n0 : Nat) (v : Option Value) (h : Heap) (L : List Loc) : Prop := ∃ y : Addr, ∃ b : Addr, ∃ kb : ClassId, v = some (.ref y) ∧ Fr n0 L ∧ Keep h0 h [] ∧ Exa Z h y "java/lang/String" ∧ Fld Z h y "java/lang/String" "value" "[B" (.ref b) ∧ Fld Z h y "java/lang/String" "coder" "B" (.int (0 : Int32)) ∧ Arv Z h b kb .byte (0 : Int32) [] (.int 0)
set_option maxRecDepth 65536 in
set_option maxHeartbeats 40000000 in
theorem rmNs0 (l : Launch) (Z : State) (a0 : Array Value) (hw : ∀ d ∈ tables_1, d.before a0 Z = true) (ws : List Jvm.Cond) (t : Addr) (h0 : Heap) (n0 : Nat) (Z0 : n0 ≤ h0.size) :
    MetFree l (⟨"java/lang/StringLatin1", "newString", "([BII)Ljava/lang/String;"⟩ : MethodName) (head1 (Jvm.Cond.code (⟨"java/lang/StringLatin1", "newString", "([BII)Ljava/lang/String;"⟩ : MethodName) jdk_43_method_47_code 3 (some (.object "java/lang/String")) :: ws) ({ frames := 0, cells := 2, slots := 4, locals := 0 } : Room)) (fun a U => a = #[(.ref t), (.int (0 : Int32)), (.int (0 : Int32))] ∧ Z.Warmed39 U.vm ∧ U.heap = h0 ∧ CHv Z own_EL U.vm h0) (fun _ _ _ _ _ => True) (fun _ U o U' => ∃ v L, o = .returned v ∧ Q_rmNs0 Z t h0 n0 v U'.heap L ∧ CHr Z own_EL U.vm U.heap U'.vm U'.heap ∧ ReturnedEndW U o U' L ({ frames := 0, cells := 2, slots := 4, locals := 0 } : Room).cells ({ frames := 0, cells := 2, slots := 4, locals := 0 } : Room).slots) := by
  refine MetFree.of_bodySF (plainFor_of_name pn_21) hisR ?_
  intro p e s m args below meth c s₁ Bd hml0 hP hK
  obtain ⟨rfl, hZ, hh, hCH⟩ := hP
  have hx := Bd.exec
  have hby := Bd.bytes
  have hml : c.maxLocals = 3 := hml0
  have hown : s.vm.findClass "java/lang/StringLatin1" = some m.cls := findClass_of_methodNamed Bd.named
  have hnm := (name_of_methodNamed Bd.named Bd.method).1
  have X0 : Stand p l e ({ frames := 0, cells := 2, slots := 4, locals := 0 } : Room) (s.setVm s.vm) m #[(.ref t), (.int (0 : Int32)), (.int (0 : Int32))] below meth c s₁ [] 0 0 := Stand.of_body Bd
  have e0 : s₁.heap = h0 := by rw [← hh, Bd.state]; rfl
  have N0 := Fr.nil n0
  have hEL := own_EW hw
  have hCR := CHr.refl hCH
  have hS : s.Since s.vm h0.size := (State.WarmedH.refl s).since _
  have hK0 : h0.size ≤ h0.size := Nat.le_refl _
  refine own_enter (ef_rmNs0 m t ((0 : Int32)) ((0 : Int32))) ?_
  refine own_st (fun t_ k_ => XS.iloadN X0.here hx rfl (hb hby d21_0) rfl k_) ?_
  refine own_st (fun t_ k_ => XS.ifNo X0.here hx rfl (hb hby d21_1) rfl (by decide) k_) ?_
  show own_Go p e below s₁ (mkF m 4 #[.val (.ref t), .val (.int (0 : Int32)), .val (.int (0 : Int32))] []) _
  obtain ⟨b1, T1, h1, k1, t1, kb1, X1, e1, E1, hS, hk1, hZ, hown, xE1, xC1, xV1, xA1, -, -, A1, -, -, st1⟩ := ldcCH X0 hx hZ hown (hw _ (List.mem_of_getElem? (i := 127) rfl)) (own_wS hw) e0 hS hK0 hEL (List.mem_of_getElem? (i := 0) rfl) hCH (vs := []) (z := (0 : Int32)) (by decide +kernel) (by decide) (by decide) (g := (mkF m 4 #[.val (.ref t), .val (.int (0 : Int32)), .val (.int (0 : Int32))] [])) rfl (hb hby d21_4) (n := 0) (by decide) (by decide) (by decide) (by decide)
  have CH2 := A1.1
  have CR2 := CHr.trans hCR (A1)
  have K3 : Keep h0 h1 [] := (Keep.refl h0 []).ext E1
  refine own_st st1 ?_
  show own_Go p e below T1 (mkF m 6 #[.val (.ref t), .val (.int (0 : Int32)), .val (.int (0 : Int32))] [(.ref b1)]) _
  obtain ⟨fs, hr, hrun, hended, hRW⟩ := X1.leaveW hS (by rw [e1]; exact hk1) (v := some (.ref b1)) (fun h => by rw [Bd.returns] at h; cases h)
  have hCend : CHr Z own_EL s.vm s.heap T1.vm T1.heap := by
    rw [hh, e1]
    exact CHr.trans CR2 (CHv.at X1 hZ hEL CH2)
  refine own_fin (own_retR X1 hx rfl Bd.returns rfl (hb hby d21_6) hr) ⟨hrun, hended, _, _, rfl, ?_, hCend, hRW.1, hRW.2.1, hRW.2.2.1, hRW.2.2.2.mono (by decide) (by decide)⟩
  show Q_rmNs0 Z t h0 n0 _ T1.heap _
  rw [e1]
  exact ⟨b1, t1, kb1, rfl, N0, K3, xE1, xV1, xC1, xA1⟩
theorem ef_rmSb0 (m : MethodId) (x0 : Addr) (x1 : Int32) (x2 : Int32) : entryFrame m #[(.ref x0), (.int x1), (.int x2)] 5 = mkF m 0 #[.val (.ref x0), .val (.int x1), .val (.int x2), .unset, .unset] [] := by first | (simp [entryFrame, mkF, argsToLocals, Value.category]; done) | rfl
def Q_rmSb0 (Z : State) (x : Addr) (tx : Addr) (kx : ClassId) (z : Int32) (vs : List Value) (zc : Int32) (fm : Value) (h0 : Heap) (n0 : Nat) (v : Option Value) (h : Heap) (L : List Loc) : Prop := ∃ y : Addr, ∃ b : Addr, ∃ kb : ClassId, v = some (.ref y) ∧ Fr n0 L ∧ Keep h0 h [] ∧ Exa Z h y "java/lang/String" ∧ Fld Z h y "java/lang/String" "value" "[B" (.ref b) ∧ Fld Z h y "java/lang/String" "coder" "B" (.int (0 : Int32)) ∧ Arv Z h b kb .byte (0 : Int32) [] (.int 0)
set_option maxRecDepth 65536 in
set_option maxHeartbeats 40000000 in
theorem rmSb0 (l : Launch) (Z : State) (a0 : Array Value) (hw : ∀ d ∈ tables_1, d.before a0 Z = true) (ws : List Jvm.Cond) (x : Addr) (tx : Addr) (kx : ClassId) (z : Int32) (vs : List Value) (zc : Int32) (fm : Value) (h0 : Heap) (n0 : Nat) (Z0 : n0 ≤ h0.size) (pE_x : Exa Z h0 x "java/lang/String") (pF_value_x : Fld Z h0 x "java/lang/String" "value" "[B" (.ref tx)) (pF_coder_x : Fld Z h0 x "java/lang/String" "coder" "B" (.int (0 : Int32))) (pV_tx : Arv Z h0 tx kx .byte z vs (.int 0)) (hez : ((0 : Int32) < z)) (pS_COMPACT_STRINGS : Sta Z Z.heap "java/lang/String" "COMPACT_STRINGS" "Z" (.int zc)) (pP5 : (¬ (zc = (0 : Int32)))) (pS_SIOOBE_FORMATTER : Sta Z Z.heap "jdk/internal/util/Preconditions" "SIOOBE_FORMATTER" "Ljava/util/function/BiFunction;" fm) (rfm : (fm.isRef = true)) (pO : Old Z n0 h0) :
    MetFree l (⟨"java/lang/String", "substring", "(II)Ljava/lang/String;"⟩ : MethodName) (head1 (Jvm.Cond.code (⟨"java/lang/String", "substring", "(II)Ljava/lang/String;"⟩ : MethodName) jdk_42_method_92_code 5 (some (.object "java/lang/String")) :: ws) ({ frames := 2, cells := 2, slots := 4, locals := 29 } : Room)) (fun a U => a = #[(.ref x), (.int (0 : Int32)), (.int (0 : Int32))] ∧ Z.Warmed39 U.vm ∧ U.heap = h0 ∧ CHv Z own_EL U.vm h0) (fun _ _ _ _ _ => True) (fun _ U o U' => ∃ v L, o = .returned v ∧ Q_rmSb0 Z x tx kx z vs zc fm h0 n0 v U'.heap L ∧ CHr Z own_EL U.vm U.heap U'.vm U'.heap ∧ ReturnedEndW U o U' L ({ frames := 2, cells := 2, slots := 4, locals := 29 } : Room).cells ({ frames := 2, cells := 2, slots := 4, locals := 29 } : Room).slots) := by
  refine MetFree.of_bodySF (plainFor_of_name pn_18) hisR ?_
  intro p e s m args below meth c s₁ Bd hml0 hP hK
  obtain ⟨rfl, hZ, hh, hCH⟩ := hP
  have hx := Bd.exec
  have hby := Bd.bytes
  have hml : c.maxLocals = 5 := hml0
  have hown : s.vm.findClass "java/lang/String" = some m.cls := findClass_of_methodNamed Bd.named
  have hnm := (name_of_methodNamed Bd.named Bd.method).1
  have X0 : Stand p l e ({ frames := 2, cells := 2, slots := 4, locals := 29 } : Room) (s.setVm s.vm) m #[(.ref x), (.int (0 : Int32)), (.int (0 : Int32))] below meth c s₁ [] 0 0 := Stand.of_body Bd
  have e0 : s₁.heap = h0 := by rw [← hh, Bd.state]; rfl
  have N0 := Fr.nil n0
  have hEL := own_EW hw
  have hCR := CHr.refl hCH
  have hS : s.Since s.vm h0.size := (State.WarmedH.refl s).since _
  have hK0 : h0.size ≤ h0.size := Nat.le_refl _
  refine own_enter (ef_rmSb0 m x ((0 : Int32)) ((0 : Int32))) ?_
  have hne : ¬ ((0 : Int32) = z) := fun q => absurd hez (by rw [← q]; decide)
  have hle : ¬ (z < (0 : Int32)) := by rw [Int32.lt_iff_toInt_lt] at hez ⊢; omega
  refine own_st (fun t_ k_ => XS.aloadN X0.here hx rfl (hb hby d18_0) rfl rfl k_) ?_
  show own_Go p e below s₁ (mkF m 1 #[.val (.ref x), .val (.int (0 : Int32)), .val (.int (0 : Int32)), .unset, .unset] [(.ref x)]) _
  obtain ⟨cq1, kq1, qa1, qb1, qc1⟩ := isOf hZ e0 pE_x
  obtain ⟨_, _, ⟨T1, L1, k1, n1⟩, -, X1, ⟨Lc1, hQ1, l1, y1, z1⟩, st1⟩ := X0.virtualBack hx (y := (⟨"java/lang/String", "length", "()I"⟩ : MethodName)) (z := (⟨"java/lang/String", "length", "()I"⟩ : MethodName)) hown (mvT hZ (hw _ (List.mem_of_getElem? (i := 46) rfl))) (mvT hZ (hw _ (List.mem_of_getElem? (i := 47) rfl))) (notFace_of_selects (args := #[]) (mvT hZ (hw _ (List.mem_of_getElem? (i := 49) rfl)))) (mvT hZ (hw _ (List.mem_of_getElem? (i := 49) rfl))) (mvT hZ (hw _ (List.mem_of_getElem? (i := 48) rfl))) (by decide) (backOf (W := 0) (rmLe l Z a0 hw [] x tx kx z vs zc h0 n0 Z0 pE_x pF_value_x pF_coder_x pV_tx pS_COMPACT_STRINGS pP5 pO) hZ (hw _ (List.mem_of_getElem? (i := 50) rfl)) (hw _ (List.mem_of_getElem? (i := 10) rfl)) (by decide) (by decide)) qa1 qc1 (g := (mkF m 1 #[.val (.ref x), .val (.int (0 : Int32)), .val (.int (0 : Int32)), .unset, .unset] [(.ref x)])) rfl (by rw [hml]; rfl) (Steps.refl _) (argsL := []) (rest := []) (lenOf pd___I rfl) rfl (by show 2 * 0 + _ ≤ _; exact Nat.le_of_eq rfl) (hb hby d18_1) (fun _ _ => ⟨rfl, e0, (by decide : 0 + 0 ≤ _), (by decide : 0 + 0 ≤ _)⟩)
  dsimp only [Pt.U, Pt.locs, Pt.cells, Pt.slots] at X1 l1 y1 z1 st1 hQ1
  try dsimp only [Nat.reduceAdd] at y1 z1
  rw [l1, y1, z1] at X1
  obtain ⟨rfl, Nq1, eH1⟩ := hQ1
  have N1 := Fr.app N0 Nq1
  refine own_tr st1 ?_
  show own_Go p e below T1 (mkF m 4 #[.val (.ref x), .val (.int (0 : Int32)), .val (.int (0 : Int32)), .unset, .unset] [(.int z)]) _
  refine own_st (fun t_ k_ => XS.istoreN X1.here hx rfl (hb hby d18_4) rfl (l' := #[.val (.ref x), .val (.int (0 : Int32)), .val (.int (0 : Int32)), .val (.int z), .unset]) rfl k_) ?_
  refine own_st (fun t_ k_ => XS.iloadN X1.here hx rfl (hb hby d18_5) rfl k_) ?_
  refine own_st (fun t_ k_ => XS.iloadN X1.here hx rfl (hb hby d18_6) rfl k_) ?_
  refine own_st (fun t_ k_ => XS.iloadN X1.here hx rfl (hb hby d18_7) rfl k_) ?_
  show own_Go p e below T1 (mkF m 8 #[.val (.ref x), .val (.int (0 : Int32)), .val (.int (0 : Int32)), .val (.int z), .unset] [(.int z), (.int (0 : Int32)), (.int (0 : Int32))]) _
  obtain ⟨_, _, ⟨T2, L2, k2, n2⟩, -, X2, ⟨Lc2, hQ2, l2, y2, z2⟩, st2⟩ := Jvm.LawKit.callS X1 hx (y := (⟨"java/lang/String", "checkBoundsBeginEnd", "(III)V"⟩ : MethodName)) hown (mvT hZ (hw _ (List.mem_of_getElem? (i := 82) rfl))) (mvT hZ (hw _ (List.mem_of_getElem? (i := 83) rfl))) (mvT hZ (hw _ (List.mem_of_getElem? (i := 10) rfl))) (mvT hZ (hw _ (List.mem_of_getElem? (i := 84) rfl))) (by decide) (backOf (W := 0) (rmCb l Z a0 hw [] ((0 : Int32)) z fm h0 n0 Z0 (by decide) hle pS_SIOOBE_FORMATTER rfm pO) hZ (hw _ (List.mem_of_getElem? (i := 84) rfl)) (hw _ (List.mem_of_getElem? (i := 10) rfl)) (by decide) (by decide)) (g := (mkF m 8 #[.val (.ref x), .val (.int (0 : Int32)), .val (.int (0 : Int32)), .val (.int z), .unset] [(.int z), (.int (0 : Int32)), (.int (0 : Int32))])) rfl (by rw [hml]; rfl) (argsL := [(.int (0 : Int32)), (.int (0 : Int32)), (.int z)]) (rest := []) (lenOf pd__III_V rfl) rfl (by show 2 * 0 + _ ≤ _; exact Nat.le_of_eq rfl) (hb hby d18_8) (fun _ _ => ⟨rfl, eH1, (by decide : 0 + 0 ≤ _), (by decide : 0 + 0 ≤ _)⟩)
  dsimp only [Pt.U, Pt.locs, Pt.cells, Pt.slots] at X2 l2 y2 z2 st2 hQ2
  try dsimp only [Nat.reduceAdd] at y2 z2
  rw [l2, y2, z2] at X2
  obtain ⟨rfl, Nq2, eH2⟩ := hQ2
  have N2 := Fr.app N1 Nq2
  refine own_st st2 ?_
  show own_Go p e below T2 (mkF m 11 #[.val (.ref x), .val (.int (0 : Int32)), .val (.int (0 : Int32)), .val (.int z), .unset] []) _
  refine own_st (fun t_ k_ => XS.iloadN X2.here hx rfl (hb hby d18_11) rfl k_) ?_
  refine own_st (fun t_ k_ => XS.ifNo X2.here hx rfl (hb hby d18_12) rfl (by decide) k_) ?_
  refine own_st (fun t_ k_ => XS.iloadN X2.here hx rfl (hb hby d18_15) rfl k_) ?_
  refine own_st (fun t_ k_ => XS.iloadN X2.here hx rfl (hb hby d18_16) rfl k_) ?_
  refine own_st (fun t_ k_ => XS.icmpYes X2.here hx rfl (pc0 := 17) (pc' := 22) rfl (hb hby d18_17) rfl (feq hne).2 (by decide) (by decide) k_) ?_
  show own_Go p e below T2 (mkF m 22 #[.val (.ref x), .val (.int (0 : Int32)), .val (.int (0 : Int32)), .val (.int z), .unset] []) _
  refine own_st (fun t_ k_ => XS.iloadN X2.here hx rfl (hb hby d18_22) rfl k_) ?_
  refine own_st (fun t_ k_ => XS.iloadN X2.here hx rfl (hb hby d18_23) rfl k_) ?_
  refine own_st (fun t_ k_ => XS.isub X2.here hx rfl (hb hby d18_24) rfl k_) ?_
  refine own_st (fun t_ k_ => XS.istore X2.here hx rfl (hb hby d18_25) rfl (l' := #[.val (.ref x), .val (.int (0 : Int32)), .val (.int (0 : Int32)), .val (.int z), .val (.int (0 : Int32))]) rfl k_) ?_
  refine own_st (fun t_ k_ => XS.aloadN X2.here hx rfl (hb hby d18_27) rfl rfl k_) ?_
  show own_Go p e below T2 (mkF m 28 #[.val (.ref x), .val (.int (0 : Int32)), .val (.int (0 : Int32)), .val (.int z), .val (.int (0 : Int32))] [(.ref x)]) _
  obtain ⟨cq3, kq3, qa3, qb3, qc3⟩ := isOf hZ eH2 pE_x
  obtain ⟨_, _, ⟨T3, L3, k3, n3⟩, -, X3, ⟨Lc3, hQ3, l3, y3, z3⟩, st3⟩ := X2.virtualBack hx (y := (⟨"java/lang/String", "isLatin1", "()Z"⟩ : MethodName)) (z := (⟨"java/lang/String", "isLatin1", "()Z"⟩ : MethodName)) hown (mvT hZ (hw _ (List.mem_of_getElem? (i := 61) rfl))) (mvT hZ (hw _ (List.mem_of_getElem? (i := 62) rfl))) (notFace_of_selects (args := #[]) (mvT hZ (hw _ (List.mem_of_getElem? (i := 64) rfl)))) (mvT hZ (hw _ (List.mem_of_getElem? (i := 64) rfl))) (mvT hZ (hw _ (List.mem_of_getElem? (i := 63) rfl))) (by decide) (backOf (W := 0) (rmIl l Z a0 hw [] x zc h0 n0 Z0 pE_x pF_coder_x pS_COMPACT_STRINGS pP5 pO) hZ (hw _ (List.mem_of_getElem? (i := 65) rfl)) (hw _ (List.mem_of_getElem? (i := 10) rfl)) (by decide) (by decide)) qa3 qc3 (g := (mkF m 28 #[.val (.ref x), .val (.int (0 : Int32)), .val (.int (0 : Int32)), .val (.int z), .val (.int (0 : Int32))] [(.ref x)])) rfl (by rw [hml]; rfl) (Steps.refl _) (argsL := []) (rest := []) (lenOf pd___Z rfl) rfl (by show 2 * 0 + _ ≤ _; exact Nat.le_of_eq rfl) (hb hby d18_28) (fun _ _ => ⟨rfl, eH2, (by decide : 0 + 0 ≤ _), (by decide : 0 + 0 ≤ _)⟩)
  dsimp only [Pt.U, Pt.locs, Pt.cells, Pt.slots] at X3 l3 y3 z3 st3 hQ3
  try dsimp only [Nat.reduceAdd] at y3 z3
  rw [l3, y3, z3] at X3
  obtain ⟨rfl, Nq3, eH3⟩ := hQ3
  have N3 := Fr.app N2 Nq3
  refine own_tr st3 ?_
  show own_Go p e below T3 (mkF m 31 #[.val (.ref x), .val (.int (0 : Int32)), .val (.int (0 : Int32)), .val (.int z), .val (.int (0 : Int32))] [(.int (1 : Int32))]) _
  refine own_st (fun t_ k_ => XS.ifNo X3.here hx rfl (hb hby d18_31) rfl (by decide) k_) ?_
  refine own_st (fun t_ k_ => XS.aloadN X3.here hx rfl (hb hby d18_34) rfl rfl k_) ?_
  show own_Go p e below T3 (mkF m 35 #[.val (.ref x), .val (.int (0 : Int32)), .val (.int (0 : Int32)), .val (.int z), .val (.int (0 : Int32))] [(.ref x)]) _
  obtain ⟨T4, X4, e4, st4⟩ := getF X3 hx hZ hown (host := "") (Or.inl (hw _ (List.mem_of_getElem? (i := 35) rfl))) Via.refl eH3 pF_value_x (g := (mkF m 35 #[.val (.ref x), .val (.int (0 : Int32)), .val (.int (0 : Int32)), .val (.int z), .val (.int (0 : Int32))] [(.ref x)])) rfl rfl (hb hby d18_35)
  refine own_st st4 ?_
  show own_Go p e below T4 (mkF m 38 #[.val (.ref x), .val (.int (0 : Int32)), .val (.int (0 : Int32)), .val (.int z), .val (.int (0 : Int32))] [(.ref tx)]) _
  refine own_st (fun t_ k_ => XS.iloadN X4.here hx rfl (hb hby d18_38) rfl k_) ?_
  refine own_st (fun t_ k_ => XS.iload X4.here hx rfl (hb hby d18_39) rfl k_) ?_
  show own_Go p e below T4 (mkF m 41 #[.val (.ref x), .val (.int (0 : Int32)), .val (.int (0 : Int32)), .val (.int z), .val (.int (0 : Int32))] [(.int (0 : Int32)), (.int (0 : Int32)), (.ref tx)]) _
  obtain ⟨_, _, ⟨T5, L5, k5, n5⟩, -, Xa5, hSa5, hGa5, ⟨Lc5, hQ5, l5, y5, z5, A5⟩, st5⟩ := Jvm.RoadKit.callSS X4 hx (y := (⟨"java/lang/StringLatin1", "newString", "([BII)Ljava/lang/String;"⟩ : MethodName)) hown (mvT hZ (hw _ (List.mem_of_getElem? (i := 90) rfl))) (mvT hZ (hw _ (List.mem_of_getElem? (i := 91) rfl))) (mvT hZ (hw _ (List.mem_of_getElem? (i := 68) rfl))) (mvT hZ (hw _ (List.mem_of_getElem? (i := 92) rfl))) (by decide) (backOfSH (W := 0) (rmNs0 l Z a0 hw [] tx h0 n0 Z0 ) hZ (hw _ (List.mem_of_getElem? (i := 92) rfl)) (hw _ (List.mem_of_getElem? (i := 68) rfl)) (by decide) (by decide) hEL hCH) (g := (mkF m 41 #[.val (.ref x), .val (.int (0 : Int32)), .val (.int (0 : Int32)), .val (.int z), .val (.int (0 : Int32))] [(.int (0 : Int32)), (.int (0 : Int32)), (.ref tx)])) rfl (by rw [hml]; rfl) (argsL := [(.ref tx), (.int (0 : Int32)), (.int (0 : Int32))]) (rest := []) (lenOf pd___BII_Ljava_lang_String_ rfl) rfl (by show 2 * 0 + _ ≤ _; exact Nat.le_of_eq rfl) (hb hby d18_41) (fun _ _ => ⟨rfl, e4, (by decide : 0 + 2 ≤ _), (by decide : 0 + 4 ≤ _)⟩)
  dsimp only [Pt.U, Pt.locs, Pt.cells, Pt.slots] at Xa5 hSa5 hGa5 l5 y5 z5 A5 st5 hQ5
  try dsimp only [Nat.reduceAdd] at y5 z5
  rw [l5, y5, z5] at Xa5
  obtain ⟨X5, hS, hZ, hown⟩ := rebS hS (by rw [e4]; exact hK0) Xa5 hSa5 hGa5 hZ hown
  obtain ⟨y_5, b_5, kb_5, rfl, Nq5, Kq5, q5_0, q5_1, q5_2, q5_3⟩ := hQ5
  have N5 := Fr.app N3 Nq5
  have CH6 := A5.1
  have CR6 := CHr.trans hCR (A5)
  have K7 : Keep h0 T5.heap [] := (Keep.refl h0 []).trans Kq5 all0
  have hK5 : T5.heap.size ≤ T5.heap.size := Nat.le_refl _
  refine own_tr st5 ?_
  show own_Go p e below T5 (mkF m 44 #[.val (.ref x), .val (.int (0 : Int32)), .val (.int (0 : Int32)), .val (.int z), .val (.int (0 : Int32))] [(.ref y_5)]) _
  refine own_st (fun t_ k_ => XS.goto X5.here hx rfl (pc0 := 44) (pc' := 57) rfl (hb hby d18_44) (by decide) (by decide) k_) ?_
  show own_Go p e below T5 (mkF m 57 #[.val (.ref x), .val (.int (0 : Int32)), .val (.int (0 : Int32)), .val (.int z), .val (.int (0 : Int32))] [(.ref y_5)]) _
  obtain ⟨fs, hr, hrun, hended, hRW⟩ := X5.leaveW hS hK5 (v := some (.ref y_5)) (fun h => by rw [Bd.returns] at h; cases h)
  have hCend : CHr Z own_EL s.vm s.heap T5.vm T5.heap := by
    rw [hh]
    exact CHr.trans CR6 (CHv.at X5 hZ hEL CH6)
  refine own_fin (own_retR X5 hx rfl Bd.returns rfl (hb hby d18_57) hr) ⟨hrun, hended, _, _, rfl, ?_, hCend, hRW.1, hRW.2.1, hRW.2.2.1, hRW.2.2.2.mono (by decide) (by decide)⟩
  show Q_rmSb0 Z x tx kx z vs zc fm h0 n0 _ T5.heap _
  exact ⟨y_5, b_5, kb_5, rfl, N5, K7, q5_0, q5_1, q5_2, q5_3⟩
theorem d16_0 : decode jdk_43_method_4_code 0 = .ok (.iload_n 0, 1) := by decide +kernel
theorem d16_1 : decode jdk_43_method_4_code 1 = .ok (.ifCond .lt 14, 3) := by decide +kernel
theorem d16_4 : decode jdk_43_method_4_code 4 = .ok (.iload_n 0, 1) := by decide +kernel
theorem d16_5 : decode jdk_43_method_4_code 5 = .ok (.sipush 255, 3) := by decide +kernel
theorem d16_8 : decode jdk_43_method_4_code 8 = .ok (.if_icmp .gt 7, 3) := by decide +kernel
theorem d16_11 : decode jdk_43_method_4_code 11 = .ok (.iconst 1, 1) := by decide +kernel
theorem d16_12 : decode jdk_43_method_4_code 12 = .ok (.goto 4, 3) := by decide +kernel
theorem d16_16 : decode jdk_43_method_4_code 16 = .ok (.ireturn, 1) := by decide +kernel
theorem pn_16 : plainName "java/lang/StringLatin1" = true := by first | (simp [plainName, overriddenIn]; done) | decide +kernel
theorem ef_rmCe (m : MethodId) (x0 : Int32) : entryFrame m #[(.int x0)] 1 = mkF m 0 #[.val (.int x0)] [] := by first | (simp [entryFrame, mkF, argsToLocals, Value.category]; done) | rfl
def Q_rmCe (Z : State)  (h0 : Heap) (n0 : Nat) (v : Option Value) (h : Heap) (L : List Loc) : Prop := v = some (.int (1 : Int32)) ∧ Fr n0 L ∧ h = h0
set_option maxRecDepth 65536 in
set_option maxHeartbeats 40000000 in
theorem rmCe (l : Launch) (Z : State) (a0 : Array Value) (hw : ∀ d ∈ tables_1, d.before a0 Z = true) (ws : List Jvm.Cond)  (h0 : Heap) (n0 : Nat) (Z0 : n0 ≤ h0.size) :
    MetFree l (⟨"java/lang/StringLatin1", "canEncode", "(I)Z"⟩ : MethodName) (head1 (Jvm.Cond.code (⟨"java/lang/StringLatin1", "canEncode", "(I)Z"⟩ : MethodName) jdk_43_method_4_code 1 (some .boolean) :: ws) ({ frames := 0, cells := 0, slots := 0, locals := 0 } : Room)) (fun a U => a = #[(.int (46 : Int32))] ∧ Z.Warmed39 U.vm ∧ U.heap = h0) (fun _ _ _ _ _ => True) (fun _ U o U' => ∃ v L, o = .returned v ∧ Q_rmCe Z  h0 n0 v U'.heap L ∧ FrameEnd U o U' L ({ frames := 0, cells := 0, slots := 0, locals := 0 } : Room).cells ({ frames := 0, cells := 0, slots := 0, locals := 0 } : Room).slots) := by
  refine MetFree.of_bodySF (plainFor_of_name pn_16) hisR ?_
  intro p e s m args below meth c s₁ Bd hml0 hP hK
  obtain ⟨rfl, hZ, hh⟩ := hP
  have hx := Bd.exec
  have hby := Bd.bytes
  have hml : c.maxLocals = 1 := hml0
  have hown : s.vm.findClass "java/lang/StringLatin1" = some m.cls := findClass_of_methodNamed Bd.named
  have hnm := (name_of_methodNamed Bd.named Bd.method).1
  have X0 : Stand p l e ({ frames := 0, cells := 0, slots := 0, locals := 0 } : Room) s m #[(.int (46 : Int32))] below meth c s₁ [] 0 0 := Stand.of_body Bd
  have e0 : s₁.heap = h0 := by rw [← hh, Bd.state]; rfl
  have N0 := Fr.nil n0
  refine own_enter (ef_rmCe m ((46 : Int32))) ?_
  refine own_st (fun t_ k_ => XS.iloadN X0.here hx rfl (hb hby d16_0) rfl k_) ?_
  refine own_st (fun t_ k_ => XS.ifNo X0.here hx rfl (hb hby d16_1) rfl (by decide) k_) ?_
  refine own_st (fun t_ k_ => XS.iloadN X0.here hx rfl (hb hby d16_4) rfl k_) ?_
  refine own_st (fun t_ k_ => XS.sipush X0.here hx rfl (hb hby d16_5) k_) ?_
  refine own_st (fun t_ k_ => XS.icmpNo X0.here hx rfl (hb hby d16_8) rfl (by decide) k_) ?_
  show own_Go p e below s₁ (mkF m 11 #[.val (.int (46 : Int32))] []) _
  refine own_st (fun t_ k_ => XS.iconst X0.here hx rfl (hb hby d16_11) k_) ?_
  refine own_st (fun t_ k_ => XS.goto X0.here hx rfl (pc0 := 12) (pc' := 16) rfl (hb hby d16_12) (by decide) (by decide) k_) ?_
  show own_Go p e below s₁ (mkF m 16 #[.val (.int (46 : Int32))] [(.int (1 : Int32))]) _
  obtain ⟨fs, hr, hrun, hended, hW, hsame⟩ := X0.leave (v := some (.int (1 : Int32))) (fun h => by rw [Bd.returns] at h; cases h)
  refine own_fin (retN X0 hx (t := .boolean) Bd.returns (by simp) (hb hby d16_16) hr) ⟨hrun, hended, _, _, rfl, ?_, ⟨_, rfl⟩, hW, hsame.mono (by decide) (by decide)⟩
  show Q_rmCe Z  h0 n0 _ s₁.heap _
  rw [e0]
  exact ⟨rfl, N0, rfl⟩
def own_li (cs : List Int32) (r : Int32) : Prop := (r = -1 ∧ ∀ c ∈ cs, ¬ c = 46) ∨ ∃ pre post, cs = pre ++ 46 :: post ∧ r.toInt = (pre.length : Int) ∧ ∀ c ∈ post, ¬ c = 46
theorem own_li_hit {cs : List Int32} {k : Nat} {i : Int32} (hk : k < cs.length) (h46 : cs[k] = 46) (hi : i.toInt = (k : Int)) (hl : ∀ c ∈ cs.drop (k + 1), ¬ c = 46) : own_li cs i :=
  Or.inr ⟨cs.take k, cs.drop (k + 1), by rw [← h46, ← List.drop_eq_getElem_cons hk, List.take_append_drop], by rw [List.length_take]; omega, hl⟩
theorem own_li_go {cs : List Int32} {k : Nat} (hk : k < cs.length) (hn : ¬ cs[k] = 46) (hl : ∀ c ∈ cs.drop (k + 1), ¬ c = 46) : ∀ c ∈ cs.drop k, ¬ c = 46 := by
  rw [List.drop_eq_getElem_cons hk]
  intro c hc
  rcases List.mem_cons.mp hc with rfl | h
  · exact hn
  · exact hl c h
theorem own_getD {cs : List Int32} {k : Nat} {i : Int32} (hk : k < cs.length) (hi : i.toInt = (k : Int)) : (((cs : List Int32).map (fun c => c.toInt8.toInt32)).map Value.int).getD i.toNatClampNeg (.int 0) = .int (cs[k]).toInt8.toInt32 := by
  have e : i.toNatClampNeg = k := by simp only [Int32.toNatClampNeg]; omega
  rw [e, List.getD_eq_getElem?_getD, List.getElem?_map, List.getElem?_map, List.getElem?_eq_getElem hk]
  rfl
def own_pa (cs : List Int32) (el : Int32) (us : List Value) : Prop := (el = 1 ∧ us = ((cs.take 1).map (fun c => c.toInt8.toInt32)).map Value.int ∧ ∀ c ∈ cs, ¬ c = 46) ∨ ∃ pre post, cs = pre ++ 46 :: post ∧ el.toInt = (pre.length : Int) ∧ us = (pre.map (fun c => c.toInt8.toInt32)).map Value.int ∧ ∀ c ∈ post, ¬ c = 46
theorem own_two {cs : List Int32} (h : 0 < cs.length) : (∃ c0, cs = [c0]) ∨ ∃ c0 c1 tl, cs = c0 :: c1 :: tl := by
  match cs, h with
  | [c0], _ => exact Or.inl ⟨c0, rfl⟩
  | c0 :: c1 :: tl, _ => exact Or.inr ⟨c0, c1, tl, rfl⟩
theorem own_dec (z : Int32) (h : 0 < z.toInt) : (z - (1 : Int32)).toInt = z.toInt - 1 := by
  have h1 := c_isub z 1
  have h2 := rng32 (z - 1)
  have h3 := rng32 z
  rw [show (1 : Int32).toInt = 1 from rfl] at h1
  omega
theorem own_inc (i : Int32) (h : 0 ≤ i.toInt) : (i + (-1 : Int32)).toInt = i.toInt - 1 := by
  have h1 := c_iadd i (-1)
  have h2 := rng32 (i + -1)
  have h3 := rng32 i
  rw [show (-1 : Int32).toInt = -1 from rfl] at h1
  omega
theorem d15_0 : decode jdk_43_method_27_code 0 = .ok (.iload_n 1, 1) := by decide +kernel
theorem d15_1 : decode jdk_43_method_27_code 1 = .ok (.invokestatic 88, 3) := by decide +kernel
theorem d15_4 : decode jdk_43_method_27_code 4 = .ok (.ifCond .ne 5, 3) := by decide +kernel
theorem d15_9 : decode jdk_43_method_27_code 9 = .ok (.iload_n 2, 1) := by decide +kernel
theorem d15_10 : decode jdk_43_method_27_code 10 = .ok (.aload_n 0, 1) := by decide +kernel
theorem d15_11 : decode jdk_43_method_27_code 11 = .ok (.arraylength, 1) := by decide +kernel
theorem d15_12 : decode jdk_43_method_27_code 12 = .ok (.iconst 1, 1) := by decide +kernel
theorem d15_13 : decode jdk_43_method_27_code 13 = .ok (.isub, 1) := by decide +kernel
theorem d15_14 : decode jdk_43_method_27_code 14 = .ok (.invokestatic 38, 3) := by decide +kernel
theorem d15_17 : decode jdk_43_method_27_code 17 = .ok (.istore_n 3, 1) := by decide +kernel
theorem d15_18 : decode jdk_43_method_27_code 18 = .ok (.iload_n 3, 1) := by decide +kernel
theorem d15_19 : decode jdk_43_method_27_code 19 = .ok (.ifCond .lt 19, 3) := by decide +kernel
theorem d15_22 : decode jdk_43_method_27_code 22 = .ok (.aload_n 0, 1) := by decide +kernel
theorem d15_23 : decode jdk_43_method_27_code 23 = .ok (.iload_n 3, 1) := by decide +kernel
theorem d15_24 : decode jdk_43_method_27_code 24 = .ok (.baload, 1) := by decide +kernel
theorem d15_25 : decode jdk_43_method_27_code 25 = .ok (.iload_n 1, 1) := by decide +kernel
theorem d15_26 : decode jdk_43_method_27_code 26 = .ok (.i2b, 1) := by decide +kernel
theorem d15_27 : decode jdk_43_method_27_code 27 = .ok (.if_icmp .ne 5, 3) := by decide +kernel
theorem d15_30 : decode jdk_43_method_27_code 30 = .ok (.iload_n 3, 1) := by decide +kernel
theorem d15_31 : decode jdk_43_method_27_code 31 = .ok (.ireturn, 1) := by decide +kernel
theorem d15_32 : decode jdk_43_method_27_code 32 = .ok (.iinc 3 (-1), 3) := by decide +kernel
theorem d15_35 : decode jdk_43_method_27_code 35 = .ok (.goto (-17), 3) := by decide +kernel
theorem d15_38 : decode jdk_43_method_27_code 38 = .ok (.iconst (-1), 1) := by decide +kernel
theorem d15_39 : decode jdk_43_method_27_code 39 = .ok (.ireturn, 1) := by decide +kernel
theorem pn_15 : plainName "java/lang/StringLatin1" = true := by first | (simp [plainName, overriddenIn]; done) | decide +kernel
theorem pd__I_Z : parseMethodDescriptor "(I)Z" = some ⟨[.int], some .boolean⟩ := by decide +kernel
theorem ef_rmLi (m : MethodId) (x0 : Addr) (x1 : Int32) (x2 : Int32) : entryFrame m #[(.ref x0), (.int x1), (.int x2)] 4 = mkF m 0 #[.val (.ref x0), .val (.int x1), .val (.int x2), .unset] [] := by first | (simp [entryFrame, mkF, argsToLocals, Value.category]; done) | rfl
def Q_rmLi (Z : State) (t : Addr) (kt : ClassId) (z : Int32) (cs : List Int32) (h0 : Heap) (n0 : Nat) (v : Option Value) (h : Heap) (L : List Loc) : Prop := ∃ r : Int32, v = some (.int r) ∧ Fr n0 L ∧ h = h0 ∧ (own_li cs r)
set_option maxRecDepth 65536 in
set_option maxHeartbeats 40000000 in
theorem rmLi (l : Launch) (Z : State) (a0 : Array Value) (hw : ∀ d ∈ tables_1, d.before a0 Z = true) (ws : List Jvm.Cond) (t : Addr) (kt : ClassId) (z : Int32) (cs : List Int32) (h0 : Heap) (n0 : Nat) (Z0 : n0 ≤ h0.size) (pV_t : Arv Z h0 t kt .byte z (((cs : List Int32).map (fun c : Int32 => c.toInt8.toInt32)).map Value.int) (.int 0)) (hz : (z.toInt = (cs.length : Int))) (h0_ : (0 < cs.length)) (hch : (∀ c ∈ cs, own_ch c)) :
    MetFree l (⟨"java/lang/StringLatin1", "lastIndexOf", "([BII)I"⟩ : MethodName) (head1 (Jvm.Cond.code (⟨"java/lang/StringLatin1", "lastIndexOf", "([BII)I"⟩ : MethodName) jdk_43_method_27_code 4 (some .int) :: ws) ({ frames := 1, cells := 0, slots := 0, locals := 13 } : Room)) (fun a U => a = #[(.ref t), (.int (46 : Int32)), (.int (z - (1 : Int32)))] ∧ Z.Warmed39 U.vm ∧ U.heap = h0) (fun _ _ _ _ _ => True) (fun _ U o U' => ∃ v L, o = .returned v ∧ Q_rmLi Z t kt z cs h0 n0 v U'.heap L ∧ FrameEnd U o U' L ({ frames := 1, cells := 0, slots := 0, locals := 13 } : Room).cells ({ frames := 1, cells := 0, slots := 0, locals := 13 } : Room).slots) := by
  refine MetFree.of_bodySF (plainFor_of_name pn_15) hisR ?_
  intro p e s m args below meth c s₁ Bd hml0 hP hK
  obtain ⟨rfl, hZ, hh⟩ := hP
  have hx := Bd.exec
  have hby := Bd.bytes
  have hml : c.maxLocals = 4 := hml0
  have hown : s.vm.findClass "java/lang/StringLatin1" = some m.cls := findClass_of_methodNamed Bd.named
  have hnm := (name_of_methodNamed Bd.named Bd.method).1
  have X0 : Stand p l e ({ frames := 1, cells := 0, slots := 0, locals := 13 } : Room) s m #[(.ref t), (.int (46 : Int32)), (.int (z - (1 : Int32)))] below meth c s₁ [] 0 0 := Stand.of_body Bd
  have e0 : s₁.heap = h0 := by rw [← hh, Bd.state]; rfl
  have N0 := Fr.nil n0
  refine own_enter (ef_rmLi m t ((46 : Int32)) ((z - (1 : Int32)))) ?_
  refine own_st (fun t_ k_ => XS.iloadN X0.here hx rfl (hb hby d15_0) rfl k_) ?_
  show own_Go p e below s₁ (mkF m 1 #[.val (.ref t), .val (.int (46 : Int32)), .val (.int (z - (1 : Int32))), .unset] [(.int (46 : Int32))]) _
  obtain ⟨_, _, ⟨T1, L1, k1, n1⟩, -, X1, ⟨Lc1, hQ1, l1, y1, z1⟩, st1⟩ := Jvm.LawKit.callS X0 hx (y := (⟨"java/lang/StringLatin1", "canEncode", "(I)Z"⟩ : MethodName)) hown (mvT hZ (hw _ (List.mem_of_getElem? (i := 70) rfl))) (mvT hZ (hw _ (List.mem_of_getElem? (i := 71) rfl))) (mvT hZ (hw _ (List.mem_of_getElem? (i := 68) rfl))) (mvT hZ (hw _ (List.mem_of_getElem? (i := 72) rfl))) (by decide) (backOf (W := 0) (rmCe l Z a0 hw []  h0 n0 Z0 ) hZ (hw _ (List.mem_of_getElem? (i := 72) rfl)) (hw _ (List.mem_of_getElem? (i := 68) rfl)) (by decide) (by decide)) (g := (mkF m 1 #[.val (.ref t), .val (.int (46 : Int32)), .val (.int (z - (1 : Int32))), .unset] [(.int (46 : Int32))])) rfl (by rw [hml]; rfl) (argsL := [(.int (46 : Int32))]) (rest := []) (lenOf pd__I_Z rfl) rfl (by show 2 * 0 + _ ≤ _; exact Nat.le_of_eq rfl) (hb hby d15_1) (fun _ _ => ⟨rfl, e0, (by decide : 0 + 0 ≤ _), (by decide : 0 + 0 ≤ _)⟩)
  dsimp only [Pt.U, Pt.locs, Pt.cells, Pt.slots] at X1 l1 y1 z1 st1 hQ1
  try dsimp only [Nat.reduceAdd] at y1 z1
  rw [l1, y1, z1] at X1
  obtain ⟨rfl, Nq1, eH1⟩ := hQ1
  have N1 := Fr.app N0 Nq1
  refine own_st st1 ?_
  show own_Go p e below T1 (mkF m 4 #[.val (.ref t), .val (.int (46 : Int32)), .val (.int (z - (1 : Int32))), .unset] [(.int (1 : Int32))]) _
  refine own_st (fun t_ k_ => XS.ifYes X1.here hx rfl (pc0 := 4) (pc' := 9) rfl (hb hby d15_4) rfl (by decide) (by decide) (by decide) k_) ?_
  refine own_st (fun t_ k_ => XS.iloadN X1.here hx rfl (hb hby d15_9) rfl k_) ?_
  refine own_st (fun t_ k_ => XS.aloadN X1.here hx rfl (hb hby d15_10) rfl rfl k_) ?_
  show own_Go p e below T1 (mkF m 11 #[.val (.ref t), .val (.int (46 : Int32)), .val (.int (z - (1 : Int32))), .unset] [(.ref t), (.int (z - (1 : Int32)))]) _
  obtain ⟨cl2, Ar2, q2, Sz2, Nn2, Hh2, Gg2⟩ := id pV_t
  refine own_st (fun t_ k_ => X1.arraylength hx (by rw [eH1]; exact Ar2.1) (State.isArrayOf_alike hZ.alike Ar2.2.1) (g := (mkF m 11 #[.val (.ref t), .val (.int (46 : Int32)), .val (.int (z - (1 : Int32))), .unset] [(.ref t), (.int (z - (1 : Int32)))])) rfl rfl (hb hby d15_11) _ k_) ?_
  rw [len_of Sz2 Nn2]
  show own_Go p e below T1 (mkF m 12 #[.val (.ref t), .val (.int (46 : Int32)), .val (.int (z - (1 : Int32))), .unset] [(.int z), (.int (z - (1 : Int32)))]) _
  refine own_st (fun t_ k_ => XS.iconst X1.here hx rfl (hb hby d15_12) k_) ?_
  refine own_st (fun t_ k_ => XS.isub X1.here hx rfl (hb hby d15_13) rfl k_) ?_
  show own_Go p e below T1 (mkF m 14 #[.val (.ref t), .val (.int (46 : Int32)), .val (.int (z - (1 : Int32))), .unset] [(.int (z - (1 : Int32))), (.int (z - (1 : Int32)))]) _
  obtain ⟨_, _, ⟨T3, L3, k3, n3⟩, -, X3, ⟨Lc3, hQ3, l3, y3, z3⟩, st3⟩ := Jvm.LawKit.callS X1 hx (y := (⟨"java/lang/Math", "min", "(II)I"⟩ : MethodName)) hown (mvT hZ (hw _ (List.mem_of_getElem? (i := 73) rfl))) (mvT hZ (hw _ (List.mem_of_getElem? (i := 74) rfl))) (mvT hZ (hw _ (List.mem_of_getElem? (i := 75) rfl))) (mvT hZ (hw _ (List.mem_of_getElem? (i := 76) rfl))) (by decide) (backOf (W := 0) (rmMa l Z a0 hw [] ((z - (1 : Int32))) ((z - (1 : Int32))) h0 n0 Z0 Int32.lt_irrefl) hZ (hw _ (List.mem_of_getElem? (i := 76) rfl)) (hw _ (List.mem_of_getElem? (i := 75) rfl)) (by decide) (by decide)) (g := (mkF m 14 #[.val (.ref t), .val (.int (46 : Int32)), .val (.int (z - (1 : Int32))), .unset] [(.int (z - (1 : Int32))), (.int (z - (1 : Int32)))])) rfl (by rw [hml]; rfl) (argsL := [(.int (z - (1 : Int32))), (.int (z - (1 : Int32)))]) (rest := []) (lenOf pd__II_I rfl) rfl (by show 2 * 0 + _ ≤ _; exact Nat.le_of_eq rfl) (hb hby d15_14) (fun _ _ => ⟨rfl, eH1, (by decide : 0 + 0 ≤ _), (by decide : 0 + 0 ≤ _)⟩)
  dsimp only [Pt.U, Pt.locs, Pt.cells, Pt.slots] at X3 l3 y3 z3 st3 hQ3
  try dsimp only [Nat.reduceAdd] at y3 z3
  rw [l3, y3, z3] at X3
  obtain ⟨rfl, Nq3, eH3⟩ := hQ3
  have N3 := Fr.app N1 Nq3
  refine own_st st3 ?_
  show own_Go p e below T3 (mkF m 17 #[.val (.ref t), .val (.int (46 : Int32)), .val (.int (z - (1 : Int32))), .unset] [(.int (z - (1 : Int32)))]) _
  refine own_st (fun t_ k_ => XS.istoreN X3.here hx rfl (hb hby d15_17) rfl (l' := #[.val (.ref t), .val (.int (46 : Int32)), .val (.int (z - (1 : Int32))), .val (.int (z - (1 : Int32)))]) rfl k_) ?_
  show own_Go p e below T3 (mkF m 18 #[.val (.ref t), .val (.int (46 : Int32)), .val (.int (z - (1 : Int32))), .val (.int (z - (1 : Int32)))] []) _
  refine own_loop (F := fun i => mkF m 18 #[.val (.ref t), .val (.int (46 : Int32)), .val (.int (z - (1 : Int32))), .val (.int i)] []) (I := fun k i => i.toInt + 1 = (k : Int) ∧ k ≤ cs.length ∧ ∀ c ∈ cs.drop k, ¬ c = 46) (k0 := cs.length) (i0 := z - (1 : Int32)) ⟨(by rw [own_dec z (by omega)]; omega), Nat.le_refl _, (by rw [List.drop_length]; intro c hc; cases hc)⟩ ?_
  intro k i hI ih
  obtain ⟨hik, hkl, hlat⟩ := hI
  show own_Go p e below T3 (mkF m 18 #[.val (.ref t), .val (.int (46 : Int32)), .val (.int (z - (1 : Int32))), .val (.int i)] []) _
  have e46 : ((46 : Int32)).toInt8.toInt32 = 46 := rfl
  match k, hik, hkl, hlat, ih with
  | 0, hik, hkl, hlat, ih =>
    have hneg : i < (0 : Int32) := by rw [Int32.lt_iff_toInt_lt, show (0 : Int32).toInt = 0 from rfl]; omega
    refine own_st (fun t_ k_ => XS.iloadN X3.here hx rfl (hb hby d15_18) rfl k_) ?_
    refine own_st (fun t_ k_ => XS.ifYes X3.here hx rfl (pc0 := 19) (pc' := 38) rfl (hb hby d15_19) rfl ((if0 _ _).trans (tlt hneg).1) (by decide) (by decide) k_) ?_
    refine own_st (fun t_ k_ => XS.iconst X3.here hx rfl (hb hby d15_38) k_) ?_
    show own_Go p e below T3 (mkF m 39 #[.val (.ref t), .val (.int (46 : Int32)), .val (.int (z - (1 : Int32))), .val (.int i)] [(.int (-1 : Int32))]) _
    obtain ⟨fs, hr, hrun, hended, hW, hsame⟩ := X3.leave (v := some (.int (-1 : Int32))) (fun h => by rw [Bd.returns] at h; cases h)
    refine own_fin (own_retI X3 hx Bd.returns (hb hby d15_39) hr) ⟨hrun, hended, _, _, rfl, ?_, ⟨_, rfl⟩, hW, hsame.mono (by decide) (by decide)⟩
    show Q_rmLi Z t kt z cs h0 n0 _ T3.heap _
    rw [eH3]
    exact ⟨(-1 : Int32), rfl, N3, rfl, (Or.inl ⟨rfl, hlat⟩)⟩
  | k + 1, hik, hkl, hlat, ih =>
    have hi : i.toInt = (k : Int) := by omega
    have hpos : ¬ (i < (0 : Int32)) := by rw [Int32.lt_iff_toInt_lt, show (0 : Int32).toInt = 0 from rfl]; omega
    have hk : k < cs.length := by omega
    refine own_st (fun t_ k_ => XS.iloadN X3.here hx rfl (hb hby d15_18) rfl k_) ?_
    refine own_st (fun t_ k_ => XS.ifNo X3.here hx rfl (hb hby d15_19) rfl ((if0 _ _).trans (flt hpos).1) k_) ?_
    refine own_st (fun t_ k_ => XS.aloadN X3.here hx rfl (hb hby d15_22) rfl rfl k_) ?_
    refine own_st (fun t_ k_ => XS.iloadN X3.here hx rfl (hb hby d15_23) rfl k_) ?_
    show own_Go p e below T3 (mkF m 24 #[.val (.ref t), .val (.int (46 : Int32)), .val (.int (z - (1 : Int32))), .val (.int i)] [(.int i), (.ref t)]) _
    obtain ⟨cl4, Ar4, q4, Sz4, Nn4, Hh4, Gg4⟩ := id pV_t
    have hin4 : ¬ (i < 0 ∨ cl4.slots.size ≤ (i).toNatClampNeg) := inb_of Sz4 ⟨hpos, by rw [Int32.lt_iff_toInt_lt]; omega⟩
    have hat4 : cl4.slots[(i).toNatClampNeg]? = some (.int (cs[k]).toInt8.toInt32) := Has.at Hh4 hin4 (own_getD hk hi)
    refine own_st (fun t_ k_ => X3.baloadBytes hx (j := i) (v := (.int (cs[k]).toInt8.toInt32)) (by rw [eH3]; exact Ar4.1) (State.isArrayOf_alike hZ.alike Ar4.2.1) Ar4.2.2 hin4 hat4 (g := (mkF m 24 #[.val (.ref t), .val (.int (46 : Int32)), .val (.int (z - (1 : Int32))), .val (.int i)] [(.int i), (.ref t)])) rfl rfl (hb hby d15_24) _ k_) ?_
    refine own_st (fun t_ k_ => XS.iloadN X3.here hx rfl (hb hby d15_25) rfl k_) ?_
    refine own_st (fun t_ k_ => XS.i2b X3.here hx rfl (hb hby d15_26) rfl k_) ?_
    show own_Go p e below T3 (mkF m 27 #[.val (.ref t), .val (.int (46 : Int32)), .val (.int (z - (1 : Int32))), .val (.int i)] [(.int ((46 : Int32).toInt8.toInt32)), (.int (cs[k]).toInt8.toInt32)]) _
    rw [e46]
    show own_Go p e below T3 (mkF m 27 #[.val (.ref t), .val (.int (46 : Int32)), .val (.int (z - (1 : Int32))), .val (.int i)] [(.int (46 : Int32)), (.int (cs[k]).toInt8.toInt32)]) _
    by_cases c27 : (cs[k]).toInt8.toInt32 = (46 : Int32)
    · skip
      refine own_st (fun t_ k_ => XS.icmpNo X3.here hx rfl (hb hby d15_27) rfl (teq c27).2 k_) ?_
      refine own_st (fun t_ k_ => XS.iloadN X3.here hx rfl (hb hby d15_30) rfl k_) ?_
      show own_Go p e below T3 (mkF m 31 #[.val (.ref t), .val (.int (46 : Int32)), .val (.int (z - (1 : Int32))), .val (.int i)] [(.int i)]) _
      obtain ⟨fs, hr, hrun, hended, hW, hsame⟩ := X3.leave (v := some (.int i)) (fun h => by rw [Bd.returns] at h; cases h)
      refine own_fin (own_retI X3 hx Bd.returns (hb hby d15_31) hr) ⟨hrun, hended, _, _, rfl, ?_, ⟨_, rfl⟩, hW, hsame.mono (by decide) (by decide)⟩
      show Q_rmLi Z t kt z cs h0 n0 _ T3.heap _
      rw [eH3]
      exact ⟨i, rfl, N3, rfl, (own_li_hit hk (own_46 (hch _ (List.getElem_mem hk)) c27) hi hlat)⟩
    · skip
      refine own_st (fun t_ k_ => XS.icmpYes X3.here hx rfl (pc0 := 27) (pc' := 32) rfl (hb hby d15_27) rfl (feq c27).2 (by decide) (by decide) k_) ?_
      refine own_st (fun t_ k_ => XS.iinc X3.here hx rfl (hb hby d15_32) rfl (l' := #[.val (.ref t), .val (.int (46 : Int32)), .val (.int (z - (1 : Int32))), .val (.int (i + (-1 : Int32)))]) rfl k_) ?_
      refine own_st (fun t_ k_ => XS.goto X3.here hx rfl (pc0 := 35) (pc' := 18) rfl (hb hby d15_35) (by decide) (by decide) k_) ?_
      show own_Go p e below T3 (mkF m 18 #[.val (.ref t), .val (.int (46 : Int32)), .val (.int (z - (1 : Int32))), .val (.int (i + (-1 : Int32)))] []) _
      exact ih k (i + (-1 : Int32)) (Nat.lt_succ_self k) ⟨(by rw [own_inc i (by omega)]; omega), (by omega), own_li_go hk (own_n46 c27) hlat⟩
theorem d13_0 : decode jdk_42_method_83_code 0 = .ok (.aload_n 0, 1) := by decide +kernel
theorem d13_1 : decode jdk_42_method_83_code 1 = .ok (.invokevirtual 492, 3) := by decide +kernel
theorem d13_4 : decode jdk_42_method_83_code 4 = .ok (.ifCond .eq 15, 3) := by decide +kernel
theorem d13_7 : decode jdk_42_method_83_code 7 = .ok (.aload_n 0, 1) := by decide +kernel
theorem d13_8 : decode jdk_42_method_83_code 8 = .ok (.getfield 9, 3) := by decide +kernel
theorem d13_11 : decode jdk_42_method_83_code 11 = .ok (.iload_n 1, 1) := by decide +kernel
theorem d13_12 : decode jdk_42_method_83_code 12 = .ok (.iload_n 2, 1) := by decide +kernel
theorem d13_13 : decode jdk_42_method_83_code 13 = .ok (.invokestatic 644, 3) := by decide +kernel
theorem d13_16 : decode jdk_42_method_83_code 16 = .ok (.goto 12, 3) := by decide +kernel
theorem d13_28 : decode jdk_42_method_83_code 28 = .ok (.ireturn, 1) := by decide +kernel
theorem pn_13 : plainName "java/lang/String" = true := by first | (simp [plainName, overriddenIn]; done) | decide +kernel
theorem pd___BII_I : parseMethodDescriptor "([BII)I" = some ⟨[(.array .byte), .int, .int], some .int⟩ := by decide +kernel
theorem ef_rmLs (m : MethodId) (x0 : Addr) (x1 : Int32) (x2 : Int32) : entryFrame m #[(.ref x0), (.int x1), (.int x2)] 3 = mkF m 0 #[.val (.ref x0), .val (.int x1), .val (.int x2)] [] := by first | (simp [entryFrame, mkF, argsToLocals, Value.category]; done) | rfl
def Q_rmLs (Z : State) (x : Addr) (tx : Addr) (kx : ClassId) (z : Int32) (cs : List Int32) (zc : Int32) (h0 : Heap) (n0 : Nat) (v : Option Value) (h : Heap) (L : List Loc) : Prop := ∃ r : Int32, v = some (.int r) ∧ Fr n0 L ∧ h = h0 ∧ (own_li cs r)
set_option maxRecDepth 65536 in
set_option maxHeartbeats 40000000 in
theorem rmLs (l : Launch) (Z : State) (a0 : Array Value) (hw : ∀ d ∈ tables_1, d.before a0 Z = true) (ws : List Jvm.Cond) (x : Addr) (tx : Addr) (kx : ClassId) (z : Int32) (cs : List Int32) (zc : Int32) (h0 : Heap) (n0 : Nat) (Z0 : n0 ≤ h0.size) (pE_x : Exa Z h0 x "java/lang/String") (pF_value_x : Fld Z h0 x "java/lang/String" "value" "[B" (.ref tx)) (pF_coder_x : Fld Z h0 x "java/lang/String" "coder" "B" (.int (0 : Int32))) (pV_tx : Arv Z h0 tx kx .byte z (((cs : List Int32).map (fun c : Int32 => c.toInt8.toInt32)).map Value.int) (.int 0)) (hz : (z.toInt = (cs.length : Int))) (h0_ : (0 < cs.length)) (hch : (∀ c ∈ cs, own_ch c)) (pS_COMPACT_STRINGS : Sta Z Z.heap "java/lang/String" "COMPACT_STRINGS" "Z" (.int zc)) (pP5 : (¬ (zc = (0 : Int32)))) (pO : Old Z n0 h0) :
    MetFree l (⟨"java/lang/String", "lastIndexOf", "(II)I"⟩ : MethodName) (head1 (Jvm.Cond.code (⟨"java/lang/String", "lastIndexOf", "(II)I"⟩ : MethodName) jdk_42_method_83_code 3 (some .int) :: ws) ({ frames := 2, cells := 0, slots := 0, locals := 28 } : Room)) (fun a U => a = #[(.ref x), (.int (46 : Int32)), (.int (z - (1 : Int32)))] ∧ Z.Warmed39 U.vm ∧ U.heap = h0) (fun _ _ _ _ _ => True) (fun _ U o U' => ∃ v L, o = .returned v ∧ Q_rmLs Z x tx kx z cs zc h0 n0 v U'.heap L ∧ FrameEnd U o U' L ({ frames := 2, cells := 0, slots := 0, locals := 28 } : Room).cells ({ frames := 2, cells := 0, slots := 0, locals := 28 } : Room).slots) := by
  refine MetFree.of_bodySF (plainFor_of_name pn_13) hisR ?_
  intro p e s m args below meth c s₁ Bd hml0 hP hK
  obtain ⟨rfl, hZ, hh⟩ := hP
  have hx := Bd.exec
  have hby := Bd.bytes
  have hml : c.maxLocals = 3 := hml0
  have hown : s.vm.findClass "java/lang/String" = some m.cls := findClass_of_methodNamed Bd.named
  have hnm := (name_of_methodNamed Bd.named Bd.method).1
  have X0 : Stand p l e ({ frames := 2, cells := 0, slots := 0, locals := 28 } : Room) s m #[(.ref x), (.int (46 : Int32)), (.int (z - (1 : Int32)))] below meth c s₁ [] 0 0 := Stand.of_body Bd
  have e0 : s₁.heap = h0 := by rw [← hh, Bd.state]; rfl
  have N0 := Fr.nil n0
  refine own_enter (ef_rmLs m x ((46 : Int32)) ((z - (1 : Int32)))) ?_
  refine own_st (fun t_ k_ => XS.aloadN X0.here hx rfl (hb hby d13_0) rfl rfl k_) ?_
  show own_Go p e below s₁ (mkF m 1 #[.val (.ref x), .val (.int (46 : Int32)), .val (.int (z - (1 : Int32)))] [(.ref x)]) _
  obtain ⟨cq1, kq1, qa1, qb1, qc1⟩ := isOf hZ e0 pE_x
  obtain ⟨_, _, ⟨T1, L1, k1, n1⟩, -, X1, ⟨Lc1, hQ1, l1, y1, z1⟩, st1⟩ := X0.virtualBack hx (y := (⟨"java/lang/String", "isLatin1", "()Z"⟩ : MethodName)) (z := (⟨"java/lang/String", "isLatin1", "()Z"⟩ : MethodName)) hown (mvT hZ (hw _ (List.mem_of_getElem? (i := 61) rfl))) (mvT hZ (hw _ (List.mem_of_getElem? (i := 62) rfl))) (notFace_of_selects (args := #[]) (mvT hZ (hw _ (List.mem_of_getElem? (i := 64) rfl)))) (mvT hZ (hw _ (List.mem_of_getElem? (i := 64) rfl))) (mvT hZ (hw _ (List.mem_of_getElem? (i := 63) rfl))) (by decide) (backOf (W := 0) (rmIl l Z a0 hw [] x zc h0 n0 Z0 pE_x pF_coder_x pS_COMPACT_STRINGS pP5 pO) hZ (hw _ (List.mem_of_getElem? (i := 65) rfl)) (hw _ (List.mem_of_getElem? (i := 10) rfl)) (by decide) (by decide)) qa1 qc1 (g := (mkF m 1 #[.val (.ref x), .val (.int (46 : Int32)), .val (.int (z - (1 : Int32)))] [(.ref x)])) rfl (by rw [hml]; rfl) (Steps.refl _) (argsL := []) (rest := []) (lenOf pd___Z rfl) rfl (by show 2 * 0 + _ ≤ _; exact Nat.le_of_eq rfl) (hb hby d13_1) (fun _ _ => ⟨rfl, e0, (by decide : 0 + 0 ≤ _), (by decide : 0 + 0 ≤ _)⟩)
  dsimp only [Pt.U, Pt.locs, Pt.cells, Pt.slots] at X1 l1 y1 z1 st1 hQ1
  try dsimp only [Nat.reduceAdd] at y1 z1
  rw [l1, y1, z1] at X1
  obtain ⟨rfl, Nq1, eH1⟩ := hQ1
  have N1 := Fr.app N0 Nq1
  refine own_tr st1 ?_
  show own_Go p e below T1 (mkF m 4 #[.val (.ref x), .val (.int (46 : Int32)), .val (.int (z - (1 : Int32)))] [(.int (1 : Int32))]) _
  refine own_st (fun t_ k_ => XS.ifNo X1.here hx rfl (hb hby d13_4) rfl (by decide) k_) ?_
  refine own_st (fun t_ k_ => XS.aloadN X1.here hx rfl (hb hby d13_7) rfl rfl k_) ?_
  show own_Go p e below T1 (mkF m 8 #[.val (.ref x), .val (.int (46 : Int32)), .val (.int (z - (1 : Int32)))] [(.ref x)]) _
  obtain ⟨T2, X2, e2, st2⟩ := getF X1 hx hZ hown (host := "") (Or.inl (hw _ (List.mem_of_getElem? (i := 35) rfl))) Via.refl eH1 pF_value_x (g := (mkF m 8 #[.val (.ref x), .val (.int (46 : Int32)), .val (.int (z - (1 : Int32)))] [(.ref x)])) rfl rfl (hb hby d13_8)
  refine own_st st2 ?_
  show own_Go p e below T2 (mkF m 11 #[.val (.ref x), .val (.int (46 : Int32)), .val (.int (z - (1 : Int32)))] [(.ref tx)]) _
  refine own_st (fun t_ k_ => XS.iloadN X2.here hx rfl (hb hby d13_11) rfl k_) ?_
  refine own_st (fun t_ k_ => XS.iloadN X2.here hx rfl (hb hby d13_12) rfl k_) ?_
  show own_Go p e below T2 (mkF m 13 #[.val (.ref x), .val (.int (46 : Int32)), .val (.int (z - (1 : Int32)))] [(.int (z - (1 : Int32))), (.int (46 : Int32)), (.ref tx)]) _
  obtain ⟨_, _, ⟨T3, L3, k3, n3⟩, -, X3, ⟨Lc3, hQ3, l3, y3, z3⟩, st3⟩ := Jvm.LawKit.callS X2 hx (y := (⟨"java/lang/StringLatin1", "lastIndexOf", "([BII)I"⟩ : MethodName)) hown (mvT hZ (hw _ (List.mem_of_getElem? (i := 66) rfl))) (mvT hZ (hw _ (List.mem_of_getElem? (i := 67) rfl))) (mvT hZ (hw _ (List.mem_of_getElem? (i := 68) rfl))) (mvT hZ (hw _ (List.mem_of_getElem? (i := 69) rfl))) (by decide) (backOf (W := 0) (rmLi l Z a0 hw [] tx kx z cs h0 n0 Z0 pV_tx hz h0_ hch) hZ (hw _ (List.mem_of_getElem? (i := 69) rfl)) (hw _ (List.mem_of_getElem? (i := 68) rfl)) (by decide) (by decide)) (g := (mkF m 13 #[.val (.ref x), .val (.int (46 : Int32)), .val (.int (z - (1 : Int32)))] [(.int (z - (1 : Int32))), (.int (46 : Int32)), (.ref tx)])) rfl (by rw [hml]; rfl) (argsL := [(.ref tx), (.int (46 : Int32)), (.int (z - (1 : Int32)))]) (rest := []) (lenOf pd___BII_I rfl) rfl (by show 2 * 0 + _ ≤ _; exact Nat.le_of_eq rfl) (hb hby d13_13) (fun _ _ => ⟨rfl, e2, (by decide : 0 + 0 ≤ _), (by decide : 0 + 0 ≤ _)⟩)
  dsimp only [Pt.U, Pt.locs, Pt.cells, Pt.slots] at X3 l3 y3 z3 st3 hQ3
  try dsimp only [Nat.reduceAdd] at y3 z3
  rw [l3, y3, z3] at X3
  obtain ⟨r_3, rfl, Nq3, eH3, q3_0⟩ := hQ3
  have N3 := Fr.app N1 Nq3
  refine own_st st3 ?_
  show own_Go p e below T3 (mkF m 16 #[.val (.ref x), .val (.int (46 : Int32)), .val (.int (z - (1 : Int32)))] [(.int r_3)]) _
  refine own_st (fun t_ k_ => XS.goto X3.here hx rfl (pc0 := 16) (pc' := 28) rfl (hb hby d13_16) (by decide) (by decide) k_) ?_
  show own_Go p e below T3 (mkF m 28 #[.val (.ref x), .val (.int (46 : Int32)), .val (.int (z - (1 : Int32)))] [(.int r_3)]) _
  obtain ⟨fs, hr, hrun, hended, hW, hsame⟩ := X3.leave (v := some (.int r_3)) (fun h => by rw [Bd.returns] at h; cases h)
  refine own_fin (own_retI X3 hx Bd.returns (hb hby d13_28) hr) ⟨hrun, hended, _, _, rfl, ?_, ⟨_, rfl⟩, hW, hsame.mono (by decide) (by decide)⟩
  show Q_rmLs Z x tx kx z cs zc h0 n0 _ T3.heap _
  rw [eH3]
  exact ⟨r_3, rfl, N3, rfl, q3_0⟩
theorem d10_0 : decode jdk_42_method_82_code 0 = .ok (.aload_n 0, 1) := by decide +kernel
theorem d10_1 : decode jdk_42_method_82_code 1 = .ok (.iload_n 1, 1) := by decide +kernel
theorem d10_2 : decode jdk_42_method_82_code 2 = .ok (.aload_n 0, 1) := by decide +kernel
theorem d10_3 : decode jdk_42_method_82_code 3 = .ok (.invokevirtual 505, 3) := by decide +kernel
theorem d10_6 : decode jdk_42_method_82_code 6 = .ok (.iconst 1, 1) := by decide +kernel
theorem d10_7 : decode jdk_42_method_82_code 7 = .ok (.isub, 1) := by decide +kernel
theorem d10_8 : decode jdk_42_method_82_code 8 = .ok (.invokevirtual 641, 3) := by decide +kernel
theorem d10_11 : decode jdk_42_method_82_code 11 = .ok (.ireturn, 1) := by decide +kernel
theorem pn_10 : plainName "java/lang/String" = true := by first | (simp [plainName, overriddenIn]; done) | decide +kernel
theorem ef_rmLt (m : MethodId) (x0 : Addr) (x1 : Int32) : entryFrame m #[(.ref x0), (.int x1)] 2 = mkF m 0 #[.val (.ref x0), .val (.int x1)] [] := by first | (simp [entryFrame, mkF, argsToLocals, Value.category]; done) | rfl
def Q_rmLt (Z : State) (x : Addr) (tx : Addr) (kx : ClassId) (z : Int32) (cs : List Int32) (zc : Int32) (h0 : Heap) (n0 : Nat) (v : Option Value) (h : Heap) (L : List Loc) : Prop := ∃ r : Int32, v = some (.int r) ∧ Fr n0 L ∧ h = h0 ∧ (own_li cs r)
set_option maxRecDepth 65536 in
set_option maxHeartbeats 40000000 in
theorem rmLt (l : Launch) (Z : State) (a0 : Array Value) (hw : ∀ d ∈ tables_1, d.before a0 Z = true) (ws : List Jvm.Cond) (x : Addr) (tx : Addr) (kx : ClassId) (z : Int32) (cs : List Int32) (zc : Int32) (h0 : Heap) (n0 : Nat) (Z0 : n0 ≤ h0.size) (pE_x : Exa Z h0 x "java/lang/String") (pF_value_x : Fld Z h0 x "java/lang/String" "value" "[B" (.ref tx)) (pF_coder_x : Fld Z h0 x "java/lang/String" "coder" "B" (.int (0 : Int32))) (pV_tx : Arv Z h0 tx kx .byte z (((cs : List Int32).map (fun c : Int32 => c.toInt8.toInt32)).map Value.int) (.int 0)) (hz : (z.toInt = (cs.length : Int))) (h0_ : (0 < cs.length)) (hch : (∀ c ∈ cs, own_ch c)) (pS_COMPACT_STRINGS : Sta Z Z.heap "java/lang/String" "COMPACT_STRINGS" "Z" (.int zc)) (pP5 : (¬ (zc = (0 : Int32)))) (pO : Old Z n0 h0) :
    MetFree l (⟨"java/lang/String", "lastIndexOf", "(I)I"⟩ : MethodName) (head1 (Jvm.Cond.code (⟨"java/lang/String", "lastIndexOf", "(I)I"⟩ : MethodName) jdk_42_method_82_code 2 (some .int) :: ws) ({ frames := 3, cells := 0, slots := 0, locals := 42 } : Room)) (fun a U => a = #[(.ref x), (.int (46 : Int32))] ∧ Z.Warmed39 U.vm ∧ U.heap = h0) (fun _ _ _ _ _ => True) (fun _ U o U' => ∃ v L, o = .returned v ∧ Q_rmLt Z x tx kx z cs zc h0 n0 v U'.heap L ∧ FrameEnd U o U' L ({ frames := 3, cells := 0, slots := 0, locals := 42 } : Room).cells ({ frames := 3, cells := 0, slots := 0, locals := 42 } : Room).slots) := by
  refine MetFree.of_bodySF (plainFor_of_name pn_10) hisR ?_
  intro p e s m args below meth c s₁ Bd hml0 hP hK
  obtain ⟨rfl, hZ, hh⟩ := hP
  have hx := Bd.exec
  have hby := Bd.bytes
  have hml : c.maxLocals = 2 := hml0
  have hown : s.vm.findClass "java/lang/String" = some m.cls := findClass_of_methodNamed Bd.named
  have hnm := (name_of_methodNamed Bd.named Bd.method).1
  have X0 : Stand p l e ({ frames := 3, cells := 0, slots := 0, locals := 42 } : Room) s m #[(.ref x), (.int (46 : Int32))] below meth c s₁ [] 0 0 := Stand.of_body Bd
  have e0 : s₁.heap = h0 := by rw [← hh, Bd.state]; rfl
  have N0 := Fr.nil n0
  refine own_enter (ef_rmLt m x ((46 : Int32))) ?_
  refine own_st (fun t_ k_ => XS.aloadN X0.here hx rfl (hb hby d10_0) rfl rfl k_) ?_
  refine own_st (fun t_ k_ => XS.iloadN X0.here hx rfl (hb hby d10_1) rfl k_) ?_
  refine own_st (fun t_ k_ => XS.aloadN X0.here hx rfl (hb hby d10_2) rfl rfl k_) ?_
  show own_Go p e below s₁ (mkF m 3 #[.val (.ref x), .val (.int (46 : Int32))] [(.ref x), (.int (46 : Int32)), (.ref x)]) _
  obtain ⟨cq1, kq1, qa1, qb1, qc1⟩ := isOf hZ e0 pE_x
  obtain ⟨_, _, ⟨T1, L1, k1, n1⟩, -, X1, ⟨Lc1, hQ1, l1, y1, z1⟩, st1⟩ := X0.virtualBack hx (y := (⟨"java/lang/String", "length", "()I"⟩ : MethodName)) (z := (⟨"java/lang/String", "length", "()I"⟩ : MethodName)) hown (mvT hZ (hw _ (List.mem_of_getElem? (i := 46) rfl))) (mvT hZ (hw _ (List.mem_of_getElem? (i := 47) rfl))) (notFace_of_selects (args := #[]) (mvT hZ (hw _ (List.mem_of_getElem? (i := 49) rfl)))) (mvT hZ (hw _ (List.mem_of_getElem? (i := 49) rfl))) (mvT hZ (hw _ (List.mem_of_getElem? (i := 48) rfl))) (by decide) (backOf (W := 2) (rmLe l Z a0 hw [] x tx kx z ((((cs : List Int32).map (fun c : Int32 => c.toInt8.toInt32)).map Value.int)) zc h0 n0 Z0 pE_x pF_value_x pF_coder_x pV_tx pS_COMPACT_STRINGS pP5 pO) hZ (hw _ (List.mem_of_getElem? (i := 50) rfl)) (hw _ (List.mem_of_getElem? (i := 10) rfl)) (by decide) (by decide)) qa1 qc1 (g := (mkF m 3 #[.val (.ref x), .val (.int (46 : Int32))] [(.ref x), (.int (46 : Int32)), (.ref x)])) rfl (by rw [hml]; rfl) (Steps.refl _) (argsL := []) (rest := [(.int (46 : Int32)), (.ref x)]) (lenOf pd___I rfl) rfl (by show 2 * 0 + _ ≤ _; exact Nat.le_of_eq rfl) (hb hby d10_3) (fun _ _ => ⟨rfl, e0, (by decide : 0 + 0 ≤ _), (by decide : 0 + 0 ≤ _)⟩)
  dsimp only [Pt.U, Pt.locs, Pt.cells, Pt.slots] at X1 l1 y1 z1 st1 hQ1
  try dsimp only [Nat.reduceAdd] at y1 z1
  rw [l1, y1, z1] at X1
  obtain ⟨rfl, Nq1, eH1⟩ := hQ1
  have N1 := Fr.app N0 Nq1
  refine own_tr st1 ?_
  show own_Go p e below T1 (mkF m 6 #[.val (.ref x), .val (.int (46 : Int32))] [(.int z), (.int (46 : Int32)), (.ref x)]) _
  refine own_st (fun t_ k_ => XS.iconst X1.here hx rfl (hb hby d10_6) k_) ?_
  refine own_st (fun t_ k_ => XS.isub X1.here hx rfl (hb hby d10_7) rfl k_) ?_
  show own_Go p e below T1 (mkF m 8 #[.val (.ref x), .val (.int (46 : Int32))] [(.int (z - (1 : Int32))), (.int (46 : Int32)), (.ref x)]) _
  obtain ⟨cq2, kq2, qa2, qb2, qc2⟩ := isOf hZ eH1 pE_x
  obtain ⟨_, _, ⟨T2, L2, k2, n2⟩, -, X2, ⟨Lc2, hQ2, l2, y2, z2⟩, st2⟩ := X1.virtualBack hx (y := (⟨"java/lang/String", "lastIndexOf", "(II)I"⟩ : MethodName)) (z := (⟨"java/lang/String", "lastIndexOf", "(II)I"⟩ : MethodName)) hown (mvT hZ (hw _ (List.mem_of_getElem? (i := 56) rfl))) (mvT hZ (hw _ (List.mem_of_getElem? (i := 57) rfl))) (notFace_of_selects (args := #[]) (mvT hZ (hw _ (List.mem_of_getElem? (i := 59) rfl)))) (mvT hZ (hw _ (List.mem_of_getElem? (i := 59) rfl))) (mvT hZ (hw _ (List.mem_of_getElem? (i := 58) rfl))) (by decide) (backOf (W := 0) (rmLs l Z a0 hw [] x tx kx z cs zc h0 n0 Z0 pE_x pF_value_x pF_coder_x pV_tx hz h0_ hch pS_COMPACT_STRINGS pP5 pO) hZ (hw _ (List.mem_of_getElem? (i := 60) rfl)) (hw _ (List.mem_of_getElem? (i := 10) rfl)) (by decide) (by decide)) qa2 qc2 (g := (mkF m 8 #[.val (.ref x), .val (.int (46 : Int32))] [(.int (z - (1 : Int32))), (.int (46 : Int32)), (.ref x)])) rfl (by rw [hml]; rfl) (Steps.refl _) (argsL := [(.int (46 : Int32)), (.int (z - (1 : Int32)))]) (rest := []) (lenOf pd__II_I rfl) rfl (by show 2 * 0 + _ ≤ _; exact Nat.le_of_eq rfl) (hb hby d10_8) (fun _ _ => ⟨rfl, eH1, (by decide : 0 + 0 ≤ _), (by decide : 0 + 0 ≤ _)⟩)
  dsimp only [Pt.U, Pt.locs, Pt.cells, Pt.slots] at X2 l2 y2 z2 st2 hQ2
  try dsimp only [Nat.reduceAdd] at y2 z2
  rw [l2, y2, z2] at X2
  obtain ⟨r_2, rfl, Nq2, eH2, q2_0⟩ := hQ2
  have N2 := Fr.app N1 Nq2
  refine own_tr st2 ?_
  show own_Go p e below T2 (mkF m 11 #[.val (.ref x), .val (.int (46 : Int32))] [(.int r_2)]) _
  obtain ⟨fs, hr, hrun, hended, hW, hsame⟩ := X2.leave (v := some (.int r_2)) (fun h => by rw [Bd.returns] at h; cases h)
  refine own_fin (own_retI X2 hx Bd.returns (hb hby d10_11) hr) ⟨hrun, hended, _, _, rfl, ?_, ⟨_, rfl⟩, hW, hsame.mono (by decide) (by decide)⟩
  show Q_rmLt Z x tx kx z cs zc h0 n0 _ T2.heap _
  rw [eH2]
  exact ⟨r_2, rfl, N2, rfl, q2_0⟩
theorem d9_0 : decode prog_49_method_2_code 0 = .ok (.aload_n 0, 1) := by decide +kernel
theorem d9_1 : decode prog_49_method_2_code 1 = .ok (.bipush 46, 2) := by decide +kernel
theorem d9_3 : decode prog_49_method_2_code 3 = .ok (.invokevirtual 66, 3) := by decide +kernel
theorem d9_6 : decode prog_49_method_2_code 6 = .ok (.istore_n 1, 1) := by decide +kernel
theorem d9_7 : decode prog_49_method_2_code 7 = .ok (.iload_n 1, 1) := by decide +kernel
theorem d9_8 : decode prog_49_method_2_code 8 = .ok (.ifCond .ge 12, 3) := by decide +kernel
theorem d9_11 : decode prog_49_method_2_code 11 = .ok (.aload_n 0, 1) := by decide +kernel
theorem d9_12 : decode prog_49_method_2_code 12 = .ok (.iconst 0, 1) := by decide +kernel
theorem d9_13 : decode prog_49_method_2_code 13 = .ok (.iconst 1, 1) := by decide +kernel
theorem d9_14 : decode prog_49_method_2_code 14 = .ok (.invokevirtual 70, 3) := by decide +kernel
theorem d9_17 : decode prog_49_method_2_code 17 = .ok (.goto 9, 3) := by decide +kernel
theorem d9_20 : decode prog_49_method_2_code 20 = .ok (.aload_n 0, 1) := by decide +kernel
theorem d9_21 : decode prog_49_method_2_code 21 = .ok (.iconst 0, 1) := by decide +kernel
theorem d9_22 : decode prog_49_method_2_code 22 = .ok (.iload_n 1, 1) := by decide +kernel
theorem d9_23 : decode prog_49_method_2_code 23 = .ok (.invokevirtual 70, 3) := by decide +kernel
theorem d9_26 : decode prog_49_method_2_code 26 = .ok (.areturn, 1) := by decide +kernel
theorem pn_9 : plainName "com/example/descriptor/descriptor/vocabulary/Hierarchy" = true := by first | (simp [plainName, overriddenIn]; done) | decide +kernel
theorem pd__I_I : parseMethodDescriptor "(I)I" = some ⟨[.int], some .int⟩ := by decide +kernel
theorem pd__II_Ljava_lang_String_ : parseMethodDescriptor "(II)Ljava/lang/String;" = some ⟨[.int, .int], some (.object "java/lang/String")⟩ := by decide +kernel
theorem ef_rmPa (m : MethodId) (x0 : Addr) : entryFrame m #[(.ref x0)] 2 = mkF m 0 #[.val (.ref x0), .unset] [] := by first | (simp [entryFrame, mkF, argsToLocals, Value.category]; done) | rfl
def Q_rmPa (Z : State) (x : Addr) (tx : Addr) (kx : ClassId) (z : Int32) (cs : List Int32) (zc : Int32) (fm : Value) (h0 : Heap) (n0 : Nat) (v : Option Value) (h : Heap) (L : List Loc) : Prop := ∃ y : Addr, ∃ b : Addr, ∃ kb : ClassId, ∃ el : Int32, ∃ us : List Value, v = some (.ref y) ∧ Fr n0 L ∧ Keep h0 h [] ∧ Exa Z h y "java/lang/String" ∧ Fld Z h y "java/lang/String" "value" "[B" (.ref b) ∧ Fld Z h y "java/lang/String" "coder" "B" (.int (0 : Int32)) ∧ Arv Z h b kb .byte el us (.int 0) ∧ (own_pa cs el us)
set_option maxRecDepth 65536 in
set_option maxHeartbeats 40000000 in
theorem rmPa (l : Launch) (Z : State) (a0 : Array Value) (hw : ∀ d ∈ tables_1, d.before a0 Z = true) (ws : List Jvm.Cond) (x : Addr) (tx : Addr) (kx : ClassId) (z : Int32) (cs : List Int32) (zc : Int32) (fm : Value) (h0 : Heap) (n0 : Nat) (Z0 : n0 ≤ h0.size) (pE_x : Exa Z h0 x "java/lang/String") (pF_value_x : Fld Z h0 x "java/lang/String" "value" "[B" (.ref tx)) (pF_coder_x : Fld Z h0 x "java/lang/String" "coder" "B" (.int (0 : Int32))) (pV_tx : Arv Z h0 tx kx .byte z (((cs : List Int32).map (fun c : Int32 => c.toInt8.toInt32)).map Value.int) (.int 0)) (hz : (z.toInt = (cs.length : Int))) (h0_ : (0 < cs.length)) (hch : (∀ c ∈ cs, own_ch c)) (h5 : (cs.length ≤ 5)) (pS_COMPACT_STRINGS : Sta Z Z.heap "java/lang/String" "COMPACT_STRINGS" "Z" (.int zc)) (pP5 : (¬ (zc = (0 : Int32)))) (pS_SIOOBE_FORMATTER : Sta Z Z.heap "jdk/internal/util/Preconditions" "SIOOBE_FORMATTER" "Ljava/util/function/BiFunction;" fm) (rfm : (fm.isRef = true)) (pO : Old Z n0 h0) :
    MetFree l (⟨"com/example/descriptor/descriptor/vocabulary/Hierarchy", "parent", "(Ljava/lang/String;)Ljava/lang/String;"⟩ : MethodName) (head1 (Jvm.Cond.code (⟨"com/example/descriptor/descriptor/vocabulary/Hierarchy", "parent", "(Ljava/lang/String;)Ljava/lang/String;"⟩ : MethodName) prog_49_method_2_code 2 (some (.object "java/lang/String")) :: ws) ({ frames := 5, cells := 2, slots := 8, locals := 182 } : Room)) (fun a U => a = #[(.ref x)] ∧ Z.Warmed39 U.vm ∧ U.heap = h0 ∧ CHv Z own_EL U.vm h0) (fun _ _ _ _ _ => True) (fun _ U o U' => ∃ v L, o = .returned v ∧ Q_rmPa Z x tx kx z cs zc fm h0 n0 v U'.heap L ∧ CHr Z own_EL U.vm U.heap U'.vm U'.heap ∧ ReturnedEndW U o U' L ({ frames := 5, cells := 2, slots := 8, locals := 182 } : Room).cells ({ frames := 5, cells := 2, slots := 8, locals := 182 } : Room).slots) := by
  refine MetFree.of_bodySF (plainFor_of_name pn_9) hisR ?_
  intro p e s m args below meth c s₁ Bd hml0 hP hK
  obtain ⟨rfl, hZ, hh, hCH⟩ := hP
  have hx := Bd.exec
  have hby := Bd.bytes
  have hml : c.maxLocals = 2 := hml0
  have hown : s.vm.findClass "com/example/descriptor/descriptor/vocabulary/Hierarchy" = some m.cls := findClass_of_methodNamed Bd.named
  have hnm := (name_of_methodNamed Bd.named Bd.method).1
  have X0 : Stand p l e ({ frames := 5, cells := 2, slots := 8, locals := 182 } : Room) (s.setVm s.vm) m #[(.ref x)] below meth c s₁ [] 0 0 := Stand.of_body Bd
  have e0 : s₁.heap = h0 := by rw [← hh, Bd.state]; rfl
  have N0 := Fr.nil n0
  have hEL := own_EW hw
  have hCR := CHr.refl hCH
  have hS : s.Since s.vm h0.size := (State.WarmedH.refl s).since _
  have hK0 : h0.size ≤ h0.size := Nat.le_refl _
  refine own_enter (ef_rmPa m x) ?_
  refine own_st (fun t_ k_ => XS.aloadN X0.here hx rfl (hb hby d9_0) rfl rfl k_) ?_
  refine own_st (fun t_ k_ => XS.bipush X0.here hx rfl (hb hby d9_1) k_) ?_
  show own_Go p e below s₁ (mkF m 3 #[.val (.ref x), .unset] [(.int (46 : Int32)), (.ref x)]) _
  obtain ⟨cq1, kq1, qa1, qb1, qc1⟩ := isOf hZ e0 pE_x
  obtain ⟨_, _, ⟨T1, L1, k1, n1⟩, -, X1, ⟨Lc1, hQ1, l1, y1, z1⟩, st1⟩ := X0.virtualBack hx (y := (⟨"java/lang/String", "lastIndexOf", "(I)I"⟩ : MethodName)) (z := (⟨"java/lang/String", "lastIndexOf", "(I)I"⟩ : MethodName)) hown (mvT hZ (hw _ (List.mem_of_getElem? (i := 41) rfl))) (mvT hZ (hw _ (List.mem_of_getElem? (i := 42) rfl))) (notFace_of_selects (args := #[]) (mvT hZ (hw _ (List.mem_of_getElem? (i := 44) rfl)))) (mvT hZ (hw _ (List.mem_of_getElem? (i := 44) rfl))) (mvT hZ (hw _ (List.mem_of_getElem? (i := 43) rfl))) (by decide) (backOf (W := 0) (rmLt l Z a0 hw [] x tx kx z cs zc h0 n0 Z0 pE_x pF_value_x pF_coder_x pV_tx hz h0_ hch pS_COMPACT_STRINGS pP5 pO) hZ (hw _ (List.mem_of_getElem? (i := 45) rfl)) (hw _ (List.mem_of_getElem? (i := 10) rfl)) (by decide) (by decide)) qa1 qc1 (g := (mkF m 3 #[.val (.ref x), .unset] [(.int (46 : Int32)), (.ref x)])) rfl (by rw [hml]; rfl) (Steps.refl _) (argsL := [(.int (46 : Int32))]) (rest := []) (lenOf pd__I_I rfl) rfl (by show 2 * 0 + _ ≤ _; exact Nat.le_of_eq rfl) (hb hby d9_3) (fun _ _ => ⟨rfl, e0, (by decide : 0 + 0 ≤ _), (by decide : 0 + 0 ≤ _)⟩)
  dsimp only [Pt.U, Pt.locs, Pt.cells, Pt.slots] at X1 l1 y1 z1 st1 hQ1
  try dsimp only [Nat.reduceAdd] at y1 z1
  rw [l1, y1, z1] at X1
  obtain ⟨r_1, rfl, Nq1, eH1, q1_0⟩ := hQ1
  have N1 := Fr.app N0 Nq1
  refine own_tr st1 ?_
  show own_Go p e below T1 (mkF m 6 #[.val (.ref x), .unset] [(.int r_1)]) _
  rcases q1_0 with ⟨rfl, hno⟩ | ⟨pre, post, hcs, hr, hno⟩
  · skip
    show own_Go p e below T1 (mkF m 6 #[.val (.ref x), .unset] [(.int (-1 : Int32))]) _
    refine own_st (fun t_ k_ => XS.istoreN X1.here hx rfl (hb hby d9_6) rfl (l' := #[.val (.ref x), .val (.int (-1 : Int32))]) rfl k_) ?_
    refine own_st (fun t_ k_ => XS.iloadN X1.here hx rfl (hb hby d9_7) rfl k_) ?_
    refine own_st (fun t_ k_ => XS.ifNo X1.here hx rfl (hb hby d9_8) rfl (by decide) k_) ?_
    refine own_st (fun t_ k_ => XS.aloadN X1.here hx rfl (hb hby d9_11) rfl rfl k_) ?_
    refine own_st (fun t_ k_ => XS.iconst X1.here hx rfl (hb hby d9_12) k_) ?_
    show own_Go p e below T1 (mkF m 13 #[.val (.ref x), .val (.int (-1 : Int32))] [(.int (0 : Int32)), (.ref x)]) _
    refine own_st (fun t_ k_ => XS.iconst X1.here hx rfl (hb hby d9_13) k_) ?_
    show own_Go p e below T1 (mkF m 14 #[.val (.ref x), .val (.int (-1 : Int32))] [(.int (1 : Int32)), (.int (0 : Int32)), (.ref x)]) _
    rcases own_two h0_ with ⟨c0, hcs⟩ | ⟨c0, c1, tl, hcs⟩
    · skip
      have hz1 : z = (1 : Int32) := Int32.toInt_inj.mp (by rw [hz, hcs]; rfl)
      have Vy2 := pV_tx
      rw [hcs] at Vy2
      rw [hz1] at Vy2
      obtain ⟨cq3, kq3, qa3, qb3, qc3⟩ := isOf hZ eH1 pE_x
      obtain ⟨_, _, ⟨T3, L3, k3, n3⟩, -, X3, ⟨Lc3, hQ3, l3, y3, z3⟩, st3⟩ := X1.virtualBack hx (y := (⟨"java/lang/String", "substring", "(II)Ljava/lang/String;"⟩ : MethodName)) (z := (⟨"java/lang/String", "substring", "(II)Ljava/lang/String;"⟩ : MethodName)) hown (mvT hZ (hw _ (List.mem_of_getElem? (i := 77) rfl))) (mvT hZ (hw _ (List.mem_of_getElem? (i := 78) rfl))) (notFace_of_selects (args := #[]) (mvT hZ (hw _ (List.mem_of_getElem? (i := 80) rfl)))) (mvT hZ (hw _ (List.mem_of_getElem? (i := 80) rfl))) (mvT hZ (hw _ (List.mem_of_getElem? (i := 79) rfl))) (by decide) (backOf (W := 0) (rmSbI l Z a0 hw [] x tx kx ((([c0] : List Int32).map (fun c : Int32 => c.toInt8.toInt32)).map Value.int) zc fm h0 n0 Z0 pE_x pF_value_x pF_coder_x Vy2 pS_COMPACT_STRINGS pP5 pS_SIOOBE_FORMATTER rfm pO) hZ (hw _ (List.mem_of_getElem? (i := 81) rfl)) (hw _ (List.mem_of_getElem? (i := 10) rfl)) (by decide) (by decide)) qa3 qc3 (g := (mkF m 14 #[.val (.ref x), .val (.int (-1 : Int32))] [(.int (1 : Int32)), (.int (0 : Int32)), (.ref x)])) rfl (by rw [hml]; rfl) (Steps.refl _) (argsL := [(.int (0 : Int32)), (.int (1 : Int32))]) (rest := []) (lenOf pd__II_Ljava_lang_String_ rfl) rfl (by show 2 * 0 + _ ≤ _; exact Nat.le_of_eq rfl) (hb hby d9_14) (fun _ _ => ⟨rfl, eH1, (by decide : 0 + 0 ≤ _), (by decide : 0 + 0 ≤ _)⟩)
      dsimp only [Pt.U, Pt.locs, Pt.cells, Pt.slots] at X3 l3 y3 z3 st3 hQ3
      try dsimp only [Nat.reduceAdd] at y3 z3
      rw [l3, y3, z3] at X3
      obtain ⟨rfl, Nq3, eH3⟩ := hQ3
      have N3 := Fr.app N1 Nq3
      refine own_tr st3 ?_
      show own_Go p e below T3 (mkF m 17 #[.val (.ref x), .val (.int (-1 : Int32))] [(.ref x)]) _
      refine own_st (fun t_ k_ => XS.goto X3.here hx rfl (pc0 := 17) (pc' := 26) rfl (hb hby d9_17) (by decide) (by decide) k_) ?_
      show own_Go p e below T3 (mkF m 26 #[.val (.ref x), .val (.int (-1 : Int32))] [(.ref x)]) _
      obtain ⟨fs, hr, hrun, hended, hRW⟩ := X3.leaveW hS (by rw [eH3]; exact hK0) (v := some (.ref x)) (fun h => by rw [Bd.returns] at h; cases h)
      have hCend : CHr Z own_EL s.vm s.heap T3.vm T3.heap := by
        rw [hh, eH3]
        exact CHr.trans hCR (CHv.at X3 hZ hEL hCH)
      refine own_fin (own_retR X3 hx rfl Bd.returns rfl (hb hby d9_26) hr) ⟨hrun, hended, _, _, rfl, ?_, hCend, hRW.1, hRW.2.1, hRW.2.2.1, hRW.2.2.2.mono (by decide) (by decide)⟩
      show Q_rmPa Z x tx kx z cs zc fm h0 n0 _ T3.heap _
      rw [eH3]
      exact ⟨x, tx, kx, (1 : Int32), (([c0] : List Int32).map (fun c : Int32 => c.toInt8.toInt32)).map Value.int, rfl, N3, (Keep.refl h0 []), pE_x, pF_value_x, pF_coder_x, Vy2, (Or.inl ⟨rfl, (by rw [hcs]; rfl), hno⟩)⟩
    · skip
      have hlz : (1 : Int32) < z := by rw [Int32.lt_iff_toInt_lt, hz, hcs]; simp only [List.length_cons, show (1 : Int32).toInt = 1 from rfl]; omega
      have Vy4 := pV_tx
      rw [hcs] at Vy4
      obtain ⟨cq5, kq5, qa5, qb5, qc5⟩ := isOf hZ eH1 pE_x
      obtain ⟨_, _, ⟨T5, L5, k5, n5⟩, -, X5, ⟨Lc5, hQ5, l5, y5, z5⟩, st5⟩ := X1.virtualBack hx (y := (⟨"java/lang/String", "substring", "(II)Ljava/lang/String;"⟩ : MethodName)) (z := (⟨"java/lang/String", "substring", "(II)Ljava/lang/String;"⟩ : MethodName)) hown (mvT hZ (hw _ (List.mem_of_getElem? (i := 77) rfl))) (mvT hZ (hw _ (List.mem_of_getElem? (i := 78) rfl))) (notFace_of_selects (args := #[]) (mvT hZ (hw _ (List.mem_of_getElem? (i := 80) rfl)))) (mvT hZ (hw _ (List.mem_of_getElem? (i := 80) rfl))) (mvT hZ (hw _ (List.mem_of_getElem? (i := 79) rfl))) (by decide) (backOf (W := 0) (rmSb1 l Z a0 hw [] x tx kx z c0.toInt8.toInt32 (((c1 :: tl : List Int32).map (fun c : Int32 => c.toInt8.toInt32)).map Value.int) zc fm h0 n0 Z0 pE_x pF_value_x pF_coder_x Vy4 hlz pS_COMPACT_STRINGS pP5 pS_SIOOBE_FORMATTER rfm pO) hZ (hw _ (List.mem_of_getElem? (i := 81) rfl)) (hw _ (List.mem_of_getElem? (i := 10) rfl)) (by decide) (by decide)) qa5 qc5 (g := (mkF m 14 #[.val (.ref x), .val (.int (-1 : Int32))] [(.int (1 : Int32)), (.int (0 : Int32)), (.ref x)])) rfl (by rw [hml]; rfl) (Steps.refl _) (argsL := [(.int (0 : Int32)), (.int (1 : Int32))]) (rest := []) (lenOf pd__II_Ljava_lang_String_ rfl) rfl (by show 2 * 0 + _ ≤ _; exact Nat.le_of_eq rfl) (hb hby d9_14) (fun _ _ => ⟨rfl, eH1, (by decide : 0 + 2 ≤ _), (by decide : 0 + 5 ≤ _)⟩)
      dsimp only [Pt.U, Pt.locs, Pt.cells, Pt.slots] at X5 l5 y5 z5 st5 hQ5
      try dsimp only [Nat.reduceAdd] at y5 z5
      rw [l5, y5, z5] at X5
      obtain ⟨y_5, b_5, kb_5, rfl, Nq5, Kq5, q5_0, q5_1, q5_2, q5_3⟩ := hQ5
      have N5 := Fr.app N1 Nq5
      have CH6 := hCH.keep Kq5 sf0
      have CR6 := CHr.trans hCR (CHr.keep Kq5 sf0 hCH)
      have K7 : Keep h0 T5.heap [] := (Keep.refl h0 []).trans Kq5 all0
      refine own_tr st5 ?_
      show own_Go p e below T5 (mkF m 17 #[.val (.ref x), .val (.int (-1 : Int32))] [(.ref y_5)]) _
      refine own_st (fun t_ k_ => XS.goto X5.here hx rfl (pc0 := 17) (pc' := 26) rfl (hb hby d9_17) (by decide) (by decide) k_) ?_
      show own_Go p e below T5 (mkF m 26 #[.val (.ref x), .val (.int (-1 : Int32))] [(.ref y_5)]) _
      have f8 := (Nat.le_trans hK0 Kq5.1)
      obtain ⟨fs, hr, hrun, hended, hRW⟩ := X5.leaveW hS f8 (v := some (.ref y_5)) (fun h => by rw [Bd.returns] at h; cases h)
      have hCend : CHr Z own_EL s.vm s.heap T5.vm T5.heap := by
        rw [hh]
        exact CHr.trans CR6 (CHv.at X5 hZ hEL CH6)
      refine own_fin (own_retR X5 hx rfl Bd.returns rfl (hb hby d9_26) hr) ⟨hrun, hended, _, _, rfl, ?_, hCend, hRW.1, hRW.2.1, hRW.2.2.1, hRW.2.2.2.mono (by decide) (by decide)⟩
      show Q_rmPa Z x tx kx z cs zc fm h0 n0 _ T5.heap _
      exact ⟨y_5, b_5, kb_5, (1 : Int32), [(.int c0.toInt8.toInt32)], rfl, N5, K7, q5_0, q5_1, q5_2, q5_3, (Or.inl ⟨rfl, (by rw [hcs]; rfl), hno⟩)⟩
  · skip
    rcases pre with _ | ⟨va0, _ | ⟨va1, _ | ⟨va2, _ | ⟨va3, _ | ⟨va4, tl⟩⟩⟩⟩⟩
    · skip
      obtain rfl : r_1 = (0 : Int32) := Int32.toInt_inj.mp hr
      show own_Go p e below T1 (mkF m 6 #[.val (.ref x), .unset] [(.int (0 : Int32))]) _
      refine own_st (fun t_ k_ => XS.istoreN X1.here hx rfl (hb hby d9_6) rfl (l' := #[.val (.ref x), .val (.int (0 : Int32))]) rfl k_) ?_
      refine own_st (fun t_ k_ => XS.iloadN X1.here hx rfl (hb hby d9_7) rfl k_) ?_
      refine own_st (fun t_ k_ => XS.ifYes X1.here hx rfl (pc0 := 8) (pc' := 20) rfl (hb hby d9_8) rfl (by decide) (by decide) (by decide) k_) ?_
      refine own_st (fun t_ k_ => XS.aloadN X1.here hx rfl (hb hby d9_20) rfl rfl k_) ?_
      refine own_st (fun t_ k_ => XS.iconst X1.here hx rfl (hb hby d9_21) k_) ?_
      show own_Go p e below T1 (mkF m 22 #[.val (.ref x), .val (.int (0 : Int32))] [(.int (0 : Int32)), (.ref x)]) _
      refine own_st (fun t_ k_ => XS.iloadN X1.here hx rfl (hb hby d9_22) rfl k_) ?_
      show own_Go p e below T1 (mkF m 23 #[.val (.ref x), .val (.int (0 : Int32))] [(.int (0 : Int32)), (.int (0 : Int32)), (.ref x)]) _
      have Vy9 := pV_tx
      rw [hcs] at Vy9
      have hlz : (0 : Int32) < z := by rw [Int32.lt_iff_toInt_lt, hz, hcs]; simp only [List.length_append, List.length_cons, List.length_nil, show (0 : Int32).toInt = 0 from rfl]; omega
      obtain ⟨cq10, kq10, qa10, qb10, qc10⟩ := isOf hZ eH1 pE_x
      obtain ⟨_, _, ⟨T10, L10, k10, n10⟩, -, Xa10, hSa10, hGa10, ⟨Lc10, hQ10, l10, y10, z10, A10⟩, st10⟩ := X1.virtualBackS hx (y := (⟨"java/lang/String", "substring", "(II)Ljava/lang/String;"⟩ : MethodName)) (z := (⟨"java/lang/String", "substring", "(II)Ljava/lang/String;"⟩ : MethodName)) hown (mvT hZ (hw _ (List.mem_of_getElem? (i := 77) rfl))) (mvT hZ (hw _ (List.mem_of_getElem? (i := 78) rfl))) (notFace_of_selects (args := #[]) (mvT hZ (hw _ (List.mem_of_getElem? (i := 80) rfl)))) (mvT hZ (hw _ (List.mem_of_getElem? (i := 80) rfl))) (mvT hZ (hw _ (List.mem_of_getElem? (i := 79) rfl))) (by decide) (backOfSH (W := 0) (rmSb0 l Z a0 hw [] x tx kx z ((([] ++ 46 :: post : List Int32).map (fun c : Int32 => c.toInt8.toInt32)).map Value.int) zc fm h0 n0 Z0 pE_x pF_value_x pF_coder_x Vy9 hlz pS_COMPACT_STRINGS pP5 pS_SIOOBE_FORMATTER rfm pO) hZ (hw _ (List.mem_of_getElem? (i := 81) rfl)) (hw _ (List.mem_of_getElem? (i := 10) rfl)) (by decide) (by decide) hEL hCH) qa10 qc10 (g := (mkF m 23 #[.val (.ref x), .val (.int (0 : Int32))] [(.int (0 : Int32)), (.int (0 : Int32)), (.ref x)])) rfl (by rw [hml]; rfl) (Steps.refl _) (argsL := [(.int (0 : Int32)), (.int (0 : Int32))]) (rest := []) (lenOf pd__II_Ljava_lang_String_ rfl) rfl (by show 2 * 0 + _ ≤ _; exact Nat.le_of_eq rfl) (hb hby d9_23) (fun _ _ => ⟨rfl, eH1, (by decide : 0 + 2 ≤ _), (by decide : 0 + 4 ≤ _)⟩)
      dsimp only [Pt.U, Pt.locs, Pt.cells, Pt.slots] at Xa10 hSa10 hGa10 l10 y10 z10 A10 st10 hQ10
      try dsimp only [Nat.reduceAdd] at y10 z10
      rw [l10, y10, z10] at Xa10
      obtain ⟨X10, hS, hZ, hown⟩ := rebS hS (by rw [eH1]; exact hK0) Xa10 hSa10 hGa10 hZ hown
      obtain ⟨y_10, b_10, kb_10, rfl, Nq10, Kq10, q10_0, q10_1, q10_2, q10_3⟩ := hQ10
      have N10 := Fr.app N1 Nq10
      have CH11 := A10.1
      have CR11 := CHr.trans hCR (A10)
      have K12 : Keep h0 T10.heap [] := (Keep.refl h0 []).trans Kq10 all0
      have hK10 : T10.heap.size ≤ T10.heap.size := Nat.le_refl _
      refine own_tr st10 ?_
      show own_Go p e below T10 (mkF m 26 #[.val (.ref x), .val (.int (0 : Int32))] [(.ref y_10)]) _
      obtain ⟨fs, hr, hrun, hended, hRW⟩ := X10.leaveW hS hK10 (v := some (.ref y_10)) (fun h => by rw [Bd.returns] at h; cases h)
      have hCend : CHr Z own_EL s.vm s.heap T10.vm T10.heap := by
        rw [hh]
        exact CHr.trans CR11 (CHv.at X10 hZ hEL CH11)
      refine own_fin (own_retR X10 hx rfl Bd.returns rfl (hb hby d9_26) hr) ⟨hrun, hended, _, _, rfl, ?_, hCend, hRW.1, hRW.2.1, hRW.2.2.1, hRW.2.2.2.mono (by decide) (by decide)⟩
      show Q_rmPa Z x tx kx z cs zc fm h0 n0 _ T10.heap _
      exact ⟨y_10, b_10, kb_10, (0 : Int32), [], rfl, N10, K12, q10_0, q10_1, q10_2, q10_3, (Or.inr ⟨[], post, hcs, rfl, rfl, hno⟩)⟩
    · skip
      obtain rfl : r_1 = (1 : Int32) := Int32.toInt_inj.mp hr
      show own_Go p e below T1 (mkF m 6 #[.val (.ref x), .unset] [(.int (1 : Int32))]) _
      refine own_st (fun t_ k_ => XS.istoreN X1.here hx rfl (hb hby d9_6) rfl (l' := #[.val (.ref x), .val (.int (1 : Int32))]) rfl k_) ?_
      refine own_st (fun t_ k_ => XS.iloadN X1.here hx rfl (hb hby d9_7) rfl k_) ?_
      refine own_st (fun t_ k_ => XS.ifYes X1.here hx rfl (pc0 := 8) (pc' := 20) rfl (hb hby d9_8) rfl (by decide) (by decide) (by decide) k_) ?_
      refine own_st (fun t_ k_ => XS.aloadN X1.here hx rfl (hb hby d9_20) rfl rfl k_) ?_
      refine own_st (fun t_ k_ => XS.iconst X1.here hx rfl (hb hby d9_21) k_) ?_
      show own_Go p e below T1 (mkF m 22 #[.val (.ref x), .val (.int (1 : Int32))] [(.int (0 : Int32)), (.ref x)]) _
      refine own_st (fun t_ k_ => XS.iloadN X1.here hx rfl (hb hby d9_22) rfl k_) ?_
      show own_Go p e below T1 (mkF m 23 #[.val (.ref x), .val (.int (1 : Int32))] [(.int (1 : Int32)), (.int (0 : Int32)), (.ref x)]) _
      have Vy13 := pV_tx
      rw [hcs] at Vy13
      have hlz : (1 : Int32) < z := by rw [Int32.lt_iff_toInt_lt, hz, hcs]; simp only [List.length_append, List.length_cons, List.length_nil, show (1 : Int32).toInt = 1 from rfl]; omega
      obtain ⟨cq14, kq14, qa14, qb14, qc14⟩ := isOf hZ eH1 pE_x
      obtain ⟨_, _, ⟨T14, L14, k14, n14⟩, -, X14, ⟨Lc14, hQ14, l14, y14, z14⟩, st14⟩ := X1.virtualBack hx (y := (⟨"java/lang/String", "substring", "(II)Ljava/lang/String;"⟩ : MethodName)) (z := (⟨"java/lang/String", "substring", "(II)Ljava/lang/String;"⟩ : MethodName)) hown (mvT hZ (hw _ (List.mem_of_getElem? (i := 77) rfl))) (mvT hZ (hw _ (List.mem_of_getElem? (i := 78) rfl))) (notFace_of_selects (args := #[]) (mvT hZ (hw _ (List.mem_of_getElem? (i := 80) rfl)))) (mvT hZ (hw _ (List.mem_of_getElem? (i := 80) rfl))) (mvT hZ (hw _ (List.mem_of_getElem? (i := 79) rfl))) (by decide) (backOf (W := 0) (rmSb1 l Z a0 hw [] x tx kx z va0.toInt8.toInt32 (((46 :: post : List Int32).map (fun c : Int32 => c.toInt8.toInt32)).map Value.int) zc fm h0 n0 Z0 pE_x pF_value_x pF_coder_x Vy13 hlz pS_COMPACT_STRINGS pP5 pS_SIOOBE_FORMATTER rfm pO) hZ (hw _ (List.mem_of_getElem? (i := 81) rfl)) (hw _ (List.mem_of_getElem? (i := 10) rfl)) (by decide) (by decide)) qa14 qc14 (g := (mkF m 23 #[.val (.ref x), .val (.int (1 : Int32))] [(.int (1 : Int32)), (.int (0 : Int32)), (.ref x)])) rfl (by rw [hml]; rfl) (Steps.refl _) (argsL := [(.int (0 : Int32)), (.int (1 : Int32))]) (rest := []) (lenOf pd__II_Ljava_lang_String_ rfl) rfl (by show 2 * 0 + _ ≤ _; exact Nat.le_of_eq rfl) (hb hby d9_23) (fun _ _ => ⟨rfl, eH1, (by decide : 0 + 2 ≤ _), (by decide : 0 + 5 ≤ _)⟩)
      dsimp only [Pt.U, Pt.locs, Pt.cells, Pt.slots] at X14 l14 y14 z14 st14 hQ14
      try dsimp only [Nat.reduceAdd] at y14 z14
      rw [l14, y14, z14] at X14
      obtain ⟨y_14, b_14, kb_14, rfl, Nq14, Kq14, q14_0, q14_1, q14_2, q14_3⟩ := hQ14
      have N14 := Fr.app N1 Nq14
      have CH15 := hCH.keep Kq14 sf0
      have CR15 := CHr.trans hCR (CHr.keep Kq14 sf0 hCH)
      have K16 : Keep h0 T14.heap [] := (Keep.refl h0 []).trans Kq14 all0
      refine own_tr st14 ?_
      show own_Go p e below T14 (mkF m 26 #[.val (.ref x), .val (.int (1 : Int32))] [(.ref y_14)]) _
      have f17 := (Nat.le_trans hK0 Kq14.1)
      obtain ⟨fs, hr, hrun, hended, hRW⟩ := X14.leaveW hS f17 (v := some (.ref y_14)) (fun h => by rw [Bd.returns] at h; cases h)
      have hCend : CHr Z own_EL s.vm s.heap T14.vm T14.heap := by
        rw [hh]
        exact CHr.trans CR15 (CHv.at X14 hZ hEL CH15)
      refine own_fin (own_retR X14 hx rfl Bd.returns rfl (hb hby d9_26) hr) ⟨hrun, hended, _, _, rfl, ?_, hCend, hRW.1, hRW.2.1, hRW.2.2.1, hRW.2.2.2.mono (by decide) (by decide)⟩
      show Q_rmPa Z x tx kx z cs zc fm h0 n0 _ T14.heap _
      exact ⟨y_14, b_14, kb_14, (1 : Int32), [(.int va0.toInt8.toInt32)], rfl, N14, K16, q14_0, q14_1, q14_2, q14_3, (Or.inr ⟨[va0], post, hcs, rfl, rfl, hno⟩)⟩
    · skip
      obtain rfl : r_1 = (2 : Int32) := Int32.toInt_inj.mp hr
      show own_Go p e below T1 (mkF m 6 #[.val (.ref x), .unset] [(.int (2 : Int32))]) _
      refine own_st (fun t_ k_ => XS.istoreN X1.here hx rfl (hb hby d9_6) rfl (l' := #[.val (.ref x), .val (.int (2 : Int32))]) rfl k_) ?_
      refine own_st (fun t_ k_ => XS.iloadN X1.here hx rfl (hb hby d9_7) rfl k_) ?_
      refine own_st (fun t_ k_ => XS.ifYes X1.here hx rfl (pc0 := 8) (pc' := 20) rfl (hb hby d9_8) rfl (by decide) (by decide) (by decide) k_) ?_
      refine own_st (fun t_ k_ => XS.aloadN X1.here hx rfl (hb hby d9_20) rfl rfl k_) ?_
      refine own_st (fun t_ k_ => XS.iconst X1.here hx rfl (hb hby d9_21) k_) ?_
      show own_Go p e below T1 (mkF m 22 #[.val (.ref x), .val (.int (2 : Int32))] [(.int (0 : Int32)), (.ref x)]) _
      refine own_st (fun t_ k_ => XS.iloadN X1.here hx rfl (hb hby d9_22) rfl k_) ?_
      show own_Go p e below T1 (mkF m 23 #[.val (.ref x), .val (.int (2 : Int32))] [(.int (2 : Int32)), (.int (0 : Int32)), (.ref x)]) _
      have Vy18 := pV_tx
      rw [hcs] at Vy18
      have hlz : (2 : Int32) < z := by rw [Int32.lt_iff_toInt_lt, hz, hcs]; simp only [List.length_append, List.length_cons, List.length_nil, show (2 : Int32).toInt = 2 from rfl]; omega
      obtain ⟨cq19, kq19, qa19, qb19, qc19⟩ := isOf hZ eH1 pE_x
      obtain ⟨_, _, ⟨T19, L19, k19, n19⟩, -, X19, ⟨Lc19, hQ19, l19, y19, z19⟩, st19⟩ := X1.virtualBack hx (y := (⟨"java/lang/String", "substring", "(II)Ljava/lang/String;"⟩ : MethodName)) (z := (⟨"java/lang/String", "substring", "(II)Ljava/lang/String;"⟩ : MethodName)) hown (mvT hZ (hw _ (List.mem_of_getElem? (i := 77) rfl))) (mvT hZ (hw _ (List.mem_of_getElem? (i := 78) rfl))) (notFace_of_selects (args := #[]) (mvT hZ (hw _ (List.mem_of_getElem? (i := 80) rfl)))) (mvT hZ (hw _ (List.mem_of_getElem? (i := 80) rfl))) (mvT hZ (hw _ (List.mem_of_getElem? (i := 79) rfl))) (by decide) (backOf (W := 0) (rmSb2 l Z a0 hw [] x tx kx z va0.toInt8.toInt32 va1.toInt8.toInt32 (((46 :: post : List Int32).map (fun c : Int32 => c.toInt8.toInt32)).map Value.int) zc fm h0 n0 Z0 pE_x pF_value_x pF_coder_x Vy18 hlz pS_COMPACT_STRINGS pP5 pS_SIOOBE_FORMATTER rfm pO) hZ (hw _ (List.mem_of_getElem? (i := 81) rfl)) (hw _ (List.mem_of_getElem? (i := 10) rfl)) (by decide) (by decide)) qa19 qc19 (g := (mkF m 23 #[.val (.ref x), .val (.int (2 : Int32))] [(.int (2 : Int32)), (.int (0 : Int32)), (.ref x)])) rfl (by rw [hml]; rfl) (Steps.refl _) (argsL := [(.int (0 : Int32)), (.int (2 : Int32))]) (rest := []) (lenOf pd__II_Ljava_lang_String_ rfl) rfl (by show 2 * 0 + _ ≤ _; exact Nat.le_of_eq rfl) (hb hby d9_23) (fun _ _ => ⟨rfl, eH1, (by decide : 0 + 2 ≤ _), (by decide : 0 + 6 ≤ _)⟩)
      dsimp only [Pt.U, Pt.locs, Pt.cells, Pt.slots] at X19 l19 y19 z19 st19 hQ19
      try dsimp only [Nat.reduceAdd] at y19 z19
      rw [l19, y19, z19] at X19
      obtain ⟨y_19, b_19, kb_19, rfl, Nq19, Kq19, q19_0, q19_1, q19_2, q19_3⟩ := hQ19
      have N19 := Fr.app N1 Nq19
      have CH20 := hCH.keep Kq19 sf0
      have CR20 := CHr.trans hCR (CHr.keep Kq19 sf0 hCH)
      have K21 : Keep h0 T19.heap [] := (Keep.refl h0 []).trans Kq19 all0
      refine own_tr st19 ?_
      show own_Go p e below T19 (mkF m 26 #[.val (.ref x), .val (.int (2 : Int32))] [(.ref y_19)]) _
      have f22 := (Nat.le_trans hK0 Kq19.1)
      obtain ⟨fs, hr, hrun, hended, hRW⟩ := X19.leaveW hS f22 (v := some (.ref y_19)) (fun h => by rw [Bd.returns] at h; cases h)
      have hCend : CHr Z own_EL s.vm s.heap T19.vm T19.heap := by
        rw [hh]
        exact CHr.trans CR20 (CHv.at X19 hZ hEL CH20)
      refine own_fin (own_retR X19 hx rfl Bd.returns rfl (hb hby d9_26) hr) ⟨hrun, hended, _, _, rfl, ?_, hCend, hRW.1, hRW.2.1, hRW.2.2.1, hRW.2.2.2.mono (by decide) (by decide)⟩
      show Q_rmPa Z x tx kx z cs zc fm h0 n0 _ T19.heap _
      exact ⟨y_19, b_19, kb_19, (2 : Int32), [(.int va0.toInt8.toInt32), (.int va1.toInt8.toInt32)], rfl, N19, K21, q19_0, q19_1, q19_2, q19_3, (Or.inr ⟨[va0, va1], post, hcs, rfl, rfl, hno⟩)⟩
    · skip
      obtain rfl : r_1 = (3 : Int32) := Int32.toInt_inj.mp hr
      show own_Go p e below T1 (mkF m 6 #[.val (.ref x), .unset] [(.int (3 : Int32))]) _
      refine own_st (fun t_ k_ => XS.istoreN X1.here hx rfl (hb hby d9_6) rfl (l' := #[.val (.ref x), .val (.int (3 : Int32))]) rfl k_) ?_
      refine own_st (fun t_ k_ => XS.iloadN X1.here hx rfl (hb hby d9_7) rfl k_) ?_
      refine own_st (fun t_ k_ => XS.ifYes X1.here hx rfl (pc0 := 8) (pc' := 20) rfl (hb hby d9_8) rfl (by decide) (by decide) (by decide) k_) ?_
      refine own_st (fun t_ k_ => XS.aloadN X1.here hx rfl (hb hby d9_20) rfl rfl k_) ?_
      refine own_st (fun t_ k_ => XS.iconst X1.here hx rfl (hb hby d9_21) k_) ?_
      show own_Go p e below T1 (mkF m 22 #[.val (.ref x), .val (.int (3 : Int32))] [(.int (0 : Int32)), (.ref x)]) _
      refine own_st (fun t_ k_ => XS.iloadN X1.here hx rfl (hb hby d9_22) rfl k_) ?_
      show own_Go p e below T1 (mkF m 23 #[.val (.ref x), .val (.int (3 : Int32))] [(.int (3 : Int32)), (.int (0 : Int32)), (.ref x)]) _
      have Vy23 := pV_tx
      rw [hcs] at Vy23
      have hlz : (3 : Int32) < z := by rw [Int32.lt_iff_toInt_lt, hz, hcs]; simp only [List.length_append, List.length_cons, List.length_nil, show (3 : Int32).toInt = 3 from rfl]; omega
      obtain ⟨cq24, kq24, qa24, qb24, qc24⟩ := isOf hZ eH1 pE_x
      obtain ⟨_, _, ⟨T24, L24, k24, n24⟩, -, X24, ⟨Lc24, hQ24, l24, y24, z24⟩, st24⟩ := X1.virtualBack hx (y := (⟨"java/lang/String", "substring", "(II)Ljava/lang/String;"⟩ : MethodName)) (z := (⟨"java/lang/String", "substring", "(II)Ljava/lang/String;"⟩ : MethodName)) hown (mvT hZ (hw _ (List.mem_of_getElem? (i := 77) rfl))) (mvT hZ (hw _ (List.mem_of_getElem? (i := 78) rfl))) (notFace_of_selects (args := #[]) (mvT hZ (hw _ (List.mem_of_getElem? (i := 80) rfl)))) (mvT hZ (hw _ (List.mem_of_getElem? (i := 80) rfl))) (mvT hZ (hw _ (List.mem_of_getElem? (i := 79) rfl))) (by decide) (backOf (W := 0) (rmSb3 l Z a0 hw [] x tx kx z va0.toInt8.toInt32 va1.toInt8.toInt32 va2.toInt8.toInt32 (((46 :: post : List Int32).map (fun c : Int32 => c.toInt8.toInt32)).map Value.int) zc fm h0 n0 Z0 pE_x pF_value_x pF_coder_x Vy23 hlz pS_COMPACT_STRINGS pP5 pS_SIOOBE_FORMATTER rfm pO) hZ (hw _ (List.mem_of_getElem? (i := 81) rfl)) (hw _ (List.mem_of_getElem? (i := 10) rfl)) (by decide) (by decide)) qa24 qc24 (g := (mkF m 23 #[.val (.ref x), .val (.int (3 : Int32))] [(.int (3 : Int32)), (.int (0 : Int32)), (.ref x)])) rfl (by rw [hml]; rfl) (Steps.refl _) (argsL := [(.int (0 : Int32)), (.int (3 : Int32))]) (rest := []) (lenOf pd__II_Ljava_lang_String_ rfl) rfl (by show 2 * 0 + _ ≤ _; exact Nat.le_of_eq rfl) (hb hby d9_23) (fun _ _ => ⟨rfl, eH1, (by decide : 0 + 2 ≤ _), (by decide : 0 + 7 ≤ _)⟩)
      dsimp only [Pt.U, Pt.locs, Pt.cells, Pt.slots] at X24 l24 y24 z24 st24 hQ24
      try dsimp only [Nat.reduceAdd] at y24 z24
      rw [l24, y24, z24] at X24
      obtain ⟨y_24, b_24, kb_24, rfl, Nq24, Kq24, q24_0, q24_1, q24_2, q24_3⟩ := hQ24
      have N24 := Fr.app N1 Nq24
      have CH25 := hCH.keep Kq24 sf0
      have CR25 := CHr.trans hCR (CHr.keep Kq24 sf0 hCH)
      have K26 : Keep h0 T24.heap [] := (Keep.refl h0 []).trans Kq24 all0
      refine own_tr st24 ?_
      show own_Go p e below T24 (mkF m 26 #[.val (.ref x), .val (.int (3 : Int32))] [(.ref y_24)]) _
      have f27 := (Nat.le_trans hK0 Kq24.1)
      obtain ⟨fs, hr, hrun, hended, hRW⟩ := X24.leaveW hS f27 (v := some (.ref y_24)) (fun h => by rw [Bd.returns] at h; cases h)
      have hCend : CHr Z own_EL s.vm s.heap T24.vm T24.heap := by
        rw [hh]
        exact CHr.trans CR25 (CHv.at X24 hZ hEL CH25)
      refine own_fin (own_retR X24 hx rfl Bd.returns rfl (hb hby d9_26) hr) ⟨hrun, hended, _, _, rfl, ?_, hCend, hRW.1, hRW.2.1, hRW.2.2.1, hRW.2.2.2.mono (by decide) (by decide)⟩
      show Q_rmPa Z x tx kx z cs zc fm h0 n0 _ T24.heap _
      exact ⟨y_24, b_24, kb_24, (3 : Int32), [(.int va0.toInt8.toInt32), (.int va1.toInt8.toInt32), (.int va2.toInt8.toInt32)], rfl, N24, K26, q24_0, q24_1, q24_2, q24_3, (Or.inr ⟨[va0, va1, va2], post, hcs, rfl, rfl, hno⟩)⟩
    · skip
      obtain rfl : r_1 = (4 : Int32) := Int32.toInt_inj.mp hr
      show own_Go p e below T1 (mkF m 6 #[.val (.ref x), .unset] [(.int (4 : Int32))]) _
      refine own_st (fun t_ k_ => XS.istoreN X1.here hx rfl (hb hby d9_6) rfl (l' := #[.val (.ref x), .val (.int (4 : Int32))]) rfl k_) ?_
      refine own_st (fun t_ k_ => XS.iloadN X1.here hx rfl (hb hby d9_7) rfl k_) ?_
      refine own_st (fun t_ k_ => XS.ifYes X1.here hx rfl (pc0 := 8) (pc' := 20) rfl (hb hby d9_8) rfl (by decide) (by decide) (by decide) k_) ?_
      refine own_st (fun t_ k_ => XS.aloadN X1.here hx rfl (hb hby d9_20) rfl rfl k_) ?_
      refine own_st (fun t_ k_ => XS.iconst X1.here hx rfl (hb hby d9_21) k_) ?_
      show own_Go p e below T1 (mkF m 22 #[.val (.ref x), .val (.int (4 : Int32))] [(.int (0 : Int32)), (.ref x)]) _
      refine own_st (fun t_ k_ => XS.iloadN X1.here hx rfl (hb hby d9_22) rfl k_) ?_
      show own_Go p e below T1 (mkF m 23 #[.val (.ref x), .val (.int (4 : Int32))] [(.int (4 : Int32)), (.int (0 : Int32)), (.ref x)]) _
      have Vy28 := pV_tx
      rw [hcs] at Vy28
      have hlz : (4 : Int32) < z := by rw [Int32.lt_iff_toInt_lt, hz, hcs]; simp only [List.length_append, List.length_cons, List.length_nil, show (4 : Int32).toInt = 4 from rfl]; omega
      obtain ⟨cq29, kq29, qa29, qb29, qc29⟩ := isOf hZ eH1 pE_x
      obtain ⟨_, _, ⟨T29, L29, k29, n29⟩, -, X29, ⟨Lc29, hQ29, l29, y29, z29⟩, st29⟩ := X1.virtualBack hx (y := (⟨"java/lang/String", "substring", "(II)Ljava/lang/String;"⟩ : MethodName)) (z := (⟨"java/lang/String", "substring", "(II)Ljava/lang/String;"⟩ : MethodName)) hown (mvT hZ (hw _ (List.mem_of_getElem? (i := 77) rfl))) (mvT hZ (hw _ (List.mem_of_getElem? (i := 78) rfl))) (notFace_of_selects (args := #[]) (mvT hZ (hw _ (List.mem_of_getElem? (i := 80) rfl)))) (mvT hZ (hw _ (List.mem_of_getElem? (i := 80) rfl))) (mvT hZ (hw _ (List.mem_of_getElem? (i := 79) rfl))) (by decide) (backOf (W := 0) (rmSb4 l Z a0 hw [] x tx kx z va0.toInt8.toInt32 va1.toInt8.toInt32 va2.toInt8.toInt32 va3.toInt8.toInt32 (((46 :: post : List Int32).map (fun c : Int32 => c.toInt8.toInt32)).map Value.int) zc fm h0 n0 Z0 pE_x pF_value_x pF_coder_x Vy28 hlz pS_COMPACT_STRINGS pP5 pS_SIOOBE_FORMATTER rfm pO) hZ (hw _ (List.mem_of_getElem? (i := 81) rfl)) (hw _ (List.mem_of_getElem? (i := 10) rfl)) (by decide) (by decide)) qa29 qc29 (g := (mkF m 23 #[.val (.ref x), .val (.int (4 : Int32))] [(.int (4 : Int32)), (.int (0 : Int32)), (.ref x)])) rfl (by rw [hml]; rfl) (Steps.refl _) (argsL := [(.int (0 : Int32)), (.int (4 : Int32))]) (rest := []) (lenOf pd__II_Ljava_lang_String_ rfl) rfl (by show 2 * 0 + _ ≤ _; exact Nat.le_of_eq rfl) (hb hby d9_23) (fun _ _ => ⟨rfl, eH1, (by decide : 0 + 2 ≤ _), (by decide : 0 + 8 ≤ _)⟩)
      dsimp only [Pt.U, Pt.locs, Pt.cells, Pt.slots] at X29 l29 y29 z29 st29 hQ29
      try dsimp only [Nat.reduceAdd] at y29 z29
      rw [l29, y29, z29] at X29
      obtain ⟨y_29, b_29, kb_29, rfl, Nq29, Kq29, q29_0, q29_1, q29_2, q29_3⟩ := hQ29
      have N29 := Fr.app N1 Nq29
      have CH30 := hCH.keep Kq29 sf0
      have CR30 := CHr.trans hCR (CHr.keep Kq29 sf0 hCH)
      have K31 : Keep h0 T29.heap [] := (Keep.refl h0 []).trans Kq29 all0
      refine own_tr st29 ?_
      show own_Go p e below T29 (mkF m 26 #[.val (.ref x), .val (.int (4 : Int32))] [(.ref y_29)]) _
      have f32 := (Nat.le_trans hK0 Kq29.1)
      obtain ⟨fs, hr, hrun, hended, hRW⟩ := X29.leaveW hS f32 (v := some (.ref y_29)) (fun h => by rw [Bd.returns] at h; cases h)
      have hCend : CHr Z own_EL s.vm s.heap T29.vm T29.heap := by
        rw [hh]
        exact CHr.trans CR30 (CHv.at X29 hZ hEL CH30)
      refine own_fin (own_retR X29 hx rfl Bd.returns rfl (hb hby d9_26) hr) ⟨hrun, hended, _, _, rfl, ?_, hCend, hRW.1, hRW.2.1, hRW.2.2.1, hRW.2.2.2.mono (by decide) (by decide)⟩
      show Q_rmPa Z x tx kx z cs zc fm h0 n0 _ T29.heap _
      exact ⟨y_29, b_29, kb_29, (4 : Int32), [(.int va0.toInt8.toInt32), (.int va1.toInt8.toInt32), (.int va2.toInt8.toInt32), (.int va3.toInt8.toInt32)], rfl, N29, K31, q29_0, q29_1, q29_2, q29_3, (Or.inr ⟨[va0, va1, va2, va3], post, hcs, rfl, rfl, hno⟩)⟩
    · skip
      exfalso
      rw [hcs] at h5
      simp only [List.length_append, List.length_cons] at h5
      omega
theorem own_pa1 {c0 el : Int32} {us : List Value} (h : own_pa [c0] el us) : (el = (0 : Int32) ∧ us = (([] : List Int32).map (fun c : Int32 => c.toInt8.toInt32)).map Value.int ∧ c0 = 46) ∨ (el = (1 : Int32) ∧ us = (([c0] : List Int32).map (fun c : Int32 => c.toInt8.toInt32)).map Value.int ∧ ¬ c0 = 46) := by
  rcases h with ⟨h1, h2, hno⟩ | ⟨pre, post, hcs, hl, h2, hno⟩
  · exact (Or.inr (⟨h1, h2, hno _ (List.mem_of_getElem? (i := 0) rfl)⟩))
  · rcases pre with _ | ⟨a0, tl⟩
    · simp only [List.nil_append, List.cons_append, List.cons.injEq] at hcs
      obtain ⟨h46, hp⟩ := hcs
      exact (Or.inl (⟨Int32.toInt_inj.mp hl, h2, h46⟩))
    · simp at hcs
theorem own_pa2 {c0 c1 el : Int32} {us : List Value} (h : own_pa [c0, c1] el us) : (el = (1 : Int32) ∧ us = (([c0] : List Int32).map (fun c : Int32 => c.toInt8.toInt32)).map Value.int ∧ c1 = 46) ∨ (el = (0 : Int32) ∧ us = (([] : List Int32).map (fun c : Int32 => c.toInt8.toInt32)).map Value.int ∧ c0 = 46 ∧ ¬ c1 = 46) ∨ (el = (1 : Int32) ∧ us = (([c0] : List Int32).map (fun c : Int32 => c.toInt8.toInt32)).map Value.int ∧ ¬ c1 = 46 ∧ ¬ c0 = 46) := by
  rcases h with ⟨h1, h2, hno⟩ | ⟨pre, post, hcs, hl, h2, hno⟩
  · exact (Or.inr (Or.inr (⟨h1, h2, hno _ (List.mem_of_getElem? (i := 1) rfl), hno _ (List.mem_of_getElem? (i := 0) rfl)⟩)))
  · rcases pre with _ | ⟨a0, _ | ⟨a1, tl⟩⟩
    · simp only [List.nil_append, List.cons_append, List.cons.injEq] at hcs
      obtain ⟨h46, hp⟩ := hcs
      exact (Or.inr (Or.inl (⟨Int32.toInt_inj.mp hl, h2, h46, hno _ (by rw [← hp]; exact List.mem_of_getElem? (i := 0) rfl)⟩)))
    · simp only [List.nil_append, List.cons_append, List.cons.injEq] at hcs
      obtain ⟨rfl, h46, hp⟩ := hcs
      exact (Or.inl (⟨Int32.toInt_inj.mp hl, h2, h46⟩))
    · simp at hcs
theorem own_pa3 {c0 c1 c2 el : Int32} {us : List Value} (h : own_pa [c0, c1, c2] el us) : (el = (2 : Int32) ∧ us = (([c0, c1] : List Int32).map (fun c : Int32 => c.toInt8.toInt32)).map Value.int ∧ c2 = 46) ∨ (el = (1 : Int32) ∧ us = (([c0] : List Int32).map (fun c : Int32 => c.toInt8.toInt32)).map Value.int ∧ c1 = 46 ∧ ¬ c2 = 46) ∨ (el = (0 : Int32) ∧ us = (([] : List Int32).map (fun c : Int32 => c.toInt8.toInt32)).map Value.int ∧ c0 = 46 ∧ ¬ c2 = 46 ∧ ¬ c1 = 46) ∨ (el = (1 : Int32) ∧ us = (([c0] : List Int32).map (fun c : Int32 => c.toInt8.toInt32)).map Value.int ∧ ¬ c2 = 46 ∧ ¬ c1 = 46 ∧ ¬ c0 = 46) := by
  rcases h with ⟨h1, h2, hno⟩ | ⟨pre, post, hcs, hl, h2, hno⟩
  · exact (Or.inr (Or.inr (Or.inr (⟨h1, h2, hno _ (List.mem_of_getElem? (i := 2) rfl), hno _ (List.mem_of_getElem? (i := 1) rfl), hno _ (List.mem_of_getElem? (i := 0) rfl)⟩))))
  · rcases pre with _ | ⟨a0, _ | ⟨a1, _ | ⟨a2, tl⟩⟩⟩
    · simp only [List.nil_append, List.cons_append, List.cons.injEq] at hcs
      obtain ⟨h46, hp⟩ := hcs
      exact (Or.inr (Or.inr (Or.inl (⟨Int32.toInt_inj.mp hl, h2, h46, hno _ (by rw [← hp]; exact List.mem_of_getElem? (i := 1) rfl), hno _ (by rw [← hp]; exact List.mem_of_getElem? (i := 0) rfl)⟩))))
    · simp only [List.nil_append, List.cons_append, List.cons.injEq] at hcs
      obtain ⟨rfl, h46, hp⟩ := hcs
      exact (Or.inr (Or.inl (⟨Int32.toInt_inj.mp hl, h2, h46, hno _ (by rw [← hp]; exact List.mem_of_getElem? (i := 0) rfl)⟩)))
    · simp only [List.nil_append, List.cons_append, List.cons.injEq] at hcs
      obtain ⟨rfl, rfl, h46, hp⟩ := hcs
      exact (Or.inl (⟨Int32.toInt_inj.mp hl, h2, h46⟩))
    · simp at hcs
theorem own_pa4 {c0 c1 c2 c3 el : Int32} {us : List Value} (h : own_pa [c0, c1, c2, c3] el us) : (el = (3 : Int32) ∧ us = (([c0, c1, c2] : List Int32).map (fun c : Int32 => c.toInt8.toInt32)).map Value.int ∧ c3 = 46) ∨ (el = (2 : Int32) ∧ us = (([c0, c1] : List Int32).map (fun c : Int32 => c.toInt8.toInt32)).map Value.int ∧ c2 = 46 ∧ ¬ c3 = 46) ∨ (el = (1 : Int32) ∧ us = (([c0] : List Int32).map (fun c : Int32 => c.toInt8.toInt32)).map Value.int ∧ c1 = 46 ∧ ¬ c3 = 46 ∧ ¬ c2 = 46) ∨ (el = (0 : Int32) ∧ us = (([] : List Int32).map (fun c : Int32 => c.toInt8.toInt32)).map Value.int ∧ c0 = 46 ∧ ¬ c3 = 46 ∧ ¬ c2 = 46 ∧ ¬ c1 = 46) ∨ (el = (1 : Int32) ∧ us = (([c0] : List Int32).map (fun c : Int32 => c.toInt8.toInt32)).map Value.int ∧ ¬ c3 = 46 ∧ ¬ c2 = 46 ∧ ¬ c1 = 46 ∧ ¬ c0 = 46) := by
  rcases h with ⟨h1, h2, hno⟩ | ⟨pre, post, hcs, hl, h2, hno⟩
  · exact (Or.inr (Or.inr (Or.inr (Or.inr (⟨h1, h2, hno _ (List.mem_of_getElem? (i := 3) rfl), hno _ (List.mem_of_getElem? (i := 2) rfl), hno _ (List.mem_of_getElem? (i := 1) rfl), hno _ (List.mem_of_getElem? (i := 0) rfl)⟩)))))
  · rcases pre with _ | ⟨a0, _ | ⟨a1, _ | ⟨a2, _ | ⟨a3, tl⟩⟩⟩⟩
    · simp only [List.nil_append, List.cons_append, List.cons.injEq] at hcs
      obtain ⟨h46, hp⟩ := hcs
      exact (Or.inr (Or.inr (Or.inr (Or.inl (⟨Int32.toInt_inj.mp hl, h2, h46, hno _ (by rw [← hp]; exact List.mem_of_getElem? (i := 2) rfl), hno _ (by rw [← hp]; exact List.mem_of_getElem? (i := 1) rfl), hno _ (by rw [← hp]; exact List.mem_of_getElem? (i := 0) rfl)⟩)))))
    · simp only [List.nil_append, List.cons_append, List.cons.injEq] at hcs
      obtain ⟨rfl, h46, hp⟩ := hcs
      exact (Or.inr (Or.inr (Or.inl (⟨Int32.toInt_inj.mp hl, h2, h46, hno _ (by rw [← hp]; exact List.mem_of_getElem? (i := 1) rfl), hno _ (by rw [← hp]; exact List.mem_of_getElem? (i := 0) rfl)⟩))))
    · simp only [List.nil_append, List.cons_append, List.cons.injEq] at hcs
      obtain ⟨rfl, rfl, h46, hp⟩ := hcs
      exact (Or.inr (Or.inl (⟨Int32.toInt_inj.mp hl, h2, h46, hno _ (by rw [← hp]; exact List.mem_of_getElem? (i := 0) rfl)⟩)))
    · simp only [List.nil_append, List.cons_append, List.cons.injEq] at hcs
      obtain ⟨rfl, rfl, rfl, h46, hp⟩ := hcs
      exact (Or.inl (⟨Int32.toInt_inj.mp hl, h2, h46⟩))
    · simp at hcs
theorem own_pa5 {c0 c1 c2 c3 c4 el : Int32} {us : List Value} (h : own_pa [c0, c1, c2, c3, c4] el us) : (el = (4 : Int32) ∧ us = (([c0, c1, c2, c3] : List Int32).map (fun c : Int32 => c.toInt8.toInt32)).map Value.int ∧ c4 = 46) ∨ (el = (3 : Int32) ∧ us = (([c0, c1, c2] : List Int32).map (fun c : Int32 => c.toInt8.toInt32)).map Value.int ∧ c3 = 46 ∧ ¬ c4 = 46) ∨ (el = (2 : Int32) ∧ us = (([c0, c1] : List Int32).map (fun c : Int32 => c.toInt8.toInt32)).map Value.int ∧ c2 = 46 ∧ ¬ c4 = 46 ∧ ¬ c3 = 46) ∨ (el = (1 : Int32) ∧ us = (([c0] : List Int32).map (fun c : Int32 => c.toInt8.toInt32)).map Value.int ∧ c1 = 46 ∧ ¬ c4 = 46 ∧ ¬ c3 = 46 ∧ ¬ c2 = 46) ∨ (el = (0 : Int32) ∧ us = (([] : List Int32).map (fun c : Int32 => c.toInt8.toInt32)).map Value.int ∧ c0 = 46 ∧ ¬ c4 = 46 ∧ ¬ c3 = 46 ∧ ¬ c2 = 46 ∧ ¬ c1 = 46) ∨ (el = (1 : Int32) ∧ us = (([c0] : List Int32).map (fun c : Int32 => c.toInt8.toInt32)).map Value.int ∧ ¬ c4 = 46 ∧ ¬ c3 = 46 ∧ ¬ c2 = 46 ∧ ¬ c1 = 46 ∧ ¬ c0 = 46) := by
  rcases h with ⟨h1, h2, hno⟩ | ⟨pre, post, hcs, hl, h2, hno⟩
  · exact (Or.inr (Or.inr (Or.inr (Or.inr (Or.inr (⟨h1, h2, hno _ (List.mem_of_getElem? (i := 4) rfl), hno _ (List.mem_of_getElem? (i := 3) rfl), hno _ (List.mem_of_getElem? (i := 2) rfl), hno _ (List.mem_of_getElem? (i := 1) rfl), hno _ (List.mem_of_getElem? (i := 0) rfl)⟩))))))
  · rcases pre with _ | ⟨a0, _ | ⟨a1, _ | ⟨a2, _ | ⟨a3, _ | ⟨a4, tl⟩⟩⟩⟩⟩
    · simp only [List.nil_append, List.cons_append, List.cons.injEq] at hcs
      obtain ⟨h46, hp⟩ := hcs
      exact (Or.inr (Or.inr (Or.inr (Or.inr (Or.inl (⟨Int32.toInt_inj.mp hl, h2, h46, hno _ (by rw [← hp]; exact List.mem_of_getElem? (i := 3) rfl), hno _ (by rw [← hp]; exact List.mem_of_getElem? (i := 2) rfl), hno _ (by rw [← hp]; exact List.mem_of_getElem? (i := 1) rfl), hno _ (by rw [← hp]; exact List.mem_of_getElem? (i := 0) rfl)⟩))))))
    · simp only [List.nil_append, List.cons_append, List.cons.injEq] at hcs
      obtain ⟨rfl, h46, hp⟩ := hcs
      exact (Or.inr (Or.inr (Or.inr (Or.inl (⟨Int32.toInt_inj.mp hl, h2, h46, hno _ (by rw [← hp]; exact List.mem_of_getElem? (i := 2) rfl), hno _ (by rw [← hp]; exact List.mem_of_getElem? (i := 1) rfl), hno _ (by rw [← hp]; exact List.mem_of_getElem? (i := 0) rfl)⟩)))))
    · simp only [List.nil_append, List.cons_append, List.cons.injEq] at hcs
      obtain ⟨rfl, rfl, h46, hp⟩ := hcs
      exact (Or.inr (Or.inr (Or.inl (⟨Int32.toInt_inj.mp hl, h2, h46, hno _ (by rw [← hp]; exact List.mem_of_getElem? (i := 1) rfl), hno _ (by rw [← hp]; exact List.mem_of_getElem? (i := 0) rfl)⟩))))
    · simp only [List.nil_append, List.cons_append, List.cons.injEq] at hcs
      obtain ⟨rfl, rfl, rfl, h46, hp⟩ := hcs
      exact (Or.inr (Or.inl (⟨Int32.toInt_inj.mp hl, h2, h46, hno _ (by rw [← hp]; exact List.mem_of_getElem? (i := 0) rfl)⟩)))
    · simp only [List.nil_append, List.cons_append, List.cons.injEq] at hcs
      obtain ⟨rfl, rfl, rfl, rfl, h46, hp⟩ := hcs
      exact (Or.inl (⟨Int32.toInt_inj.mp hl, h2, h46⟩))
    · simp at hcs
def own_A (p0 p1 p2 n d : Int32) (b : Addr) (s t u v : Slot) : Array Slot := #[.val (.int p0), .val (.int p1), .val (.int p2), .val (.int n), .val (.int d), .val (.ref b), s, t, u, v]
theorem pn_0 : plainName "com/example/descriptor/descriptor/vocabulary/HierarchyParentPinLaw" = true := by first | (simp [plainName, overriddenIn]; done) | decide +kernel
theorem pd__III_C : parseMethodDescriptor "(III)C" = some ⟨[.int, .int, .int], some .char⟩ := by decide +kernel
theorem pd__I_C_Ljava_lang_String_ : parseMethodDescriptor "(I[C)Ljava/lang/String;" = some ⟨[.int, (.array .char)], some (.object "java/lang/String")⟩ := by decide +kernel
theorem pd__Ljava_lang_String__Ljava_lang_String_ : parseMethodDescriptor "(Ljava/lang/String;)Ljava/lang/String;" = some ⟨[(.object "java/lang/String")], some (.object "java/lang/String")⟩ := by decide +kernel
theorem pd__I_C : parseMethodDescriptor "(I)C" = some ⟨[.int], some .char⟩ := by decide +kernel
theorem ef_rmLaw (m : MethodId) (x0 : Int32) (x1 : Int32) (x2 : Int32) : entryFrame m #[(.int x0), (.int x1), (.int x2)] maxLocals = mkF m 0 #[.val (.int x0), .val (.int x1), .val (.int x2), .unset, .unset, .unset, .unset, .unset, .unset, .unset] [] := by first | (simp [entryFrame, mkF, argsToLocals, Value.category, maxLocals]; done) | rfl
def Q_rmLaw (Z : State) (p0 : Int32) (p1 : Int32) (p2 : Int32) (zc : Int32) (fm : Value) (h0 : Heap) (n0 : Nat) (v : Option Value) (h : Heap) (L : List Loc) : Prop := v = some (.int (1 : Int32)) ∧ Fr n0 L ∧ Keep h0 h []
set_option maxRecDepth 65536 in
set_option maxHeartbeats 40000000 in
theorem rmLaw (l : Launch) (Z : State) (a0 : Array Value) (hw : ∀ d ∈ tables_1, d.before a0 Z = true) (ws : List Jvm.Cond) (p0 : Int32) (p1 : Int32) (p2 : Int32) (zc : Int32) (fm : Value) (h0 : Heap) (n0 : Nat) (Z0 : n0 ≤ h0.size) (pS_COMPACT_STRINGS : Sta Z Z.heap "java/lang/String" "COMPACT_STRINGS" "Z" (.int zc)) (pP5 : (¬ (zc = (0 : Int32)))) (pS_SIOOBE_FORMATTER : Sta Z Z.heap "jdk/internal/util/Preconditions" "SIOOBE_FORMATTER" "Ljava/util/function/BiFunction;" fm) (rfm : (fm.isRef = true)) (pO : Old Z n0 h0) :
    MetFree l x (head1 (Jvm.Cond.code x code maxLocals ret :: ws) room_1) (fun a U => a = #[(.int p0), (.int p1), (.int p2)] ∧ Z.Warmed39 U.vm ∧ U.heap = h0 ∧ CHv Z own_EL U.vm h0) (fun _ _ _ _ _ => True) (fun _ U o U' => ∃ v L, o = .returned v ∧ Q_rmLaw Z p0 p1 p2 zc fm h0 n0 v U'.heap L ∧ CHr Z own_EL U.vm U.heap U'.vm U'.heap ∧ ReturnedEndW U o U' L 24 1152) := by
  refine MetFree.of_bodySF (plainFor_of_name pn_0) hisR ?_
  intro p e s m args below meth c s₁ Bd hml0 hP hK
  obtain ⟨rfl, hZ, hh, hCH⟩ := hP
  have hx := Bd.exec
  have hby := Bd.bytes
  have hml : c.maxLocals = 10 := hml0
  have hown : s.vm.findClass "com/example/descriptor/descriptor/vocabulary/HierarchyParentPinLaw" = some m.cls := findClass_of_methodNamed Bd.named
  have hnm := (name_of_methodNamed Bd.named Bd.method).1
  have X0 : Stand p l e room_1 (s.setVm s.vm) m #[(.int p0), (.int p1), (.int p2)] below meth c s₁ [] 0 0 := Stand.of_body Bd
  have e0 : s₁.heap = h0 := by rw [← hh, Bd.state]; rfl
  have N0 := Fr.nil n0
  have hEL := own_EW hw
  have hCR := CHr.refl hCH
  have hS : s.Since s.vm h0.size := (State.WarmedH.refl s).since _
  have hK0 : h0.size ≤ h0.size := Nat.le_refl _
  refine own_enter (ef_rmLaw m p0 p1 p2) ?_
  have hln : ∀ d ∈ StrChars.Road.wordsLen, d.before a0 Z = true := fun d hd => hw d ((by decide +kernel : ∀ d ∈ StrChars.Road.wordsLen, d ∈ tables_1) d hd)
  have hch : ∀ d ∈ StrChars.Road.wordsChN, d.before a0 Z = true := fun d hd => hw d ((by decide +kernel : ∀ d ∈ StrChars.Road.wordsChN, d ∈ tables_1) d hd)
  have hn := own_n p2
  refine own_st (fun t_ k_ => XS.iloadN X0.here hx rfl (hb hby at_0) rfl k_) ?_
  refine own_st (fun t_ k_ => XS.bipush X0.here hx rfl (hb hby at_1) k_) ?_
  refine own_st (fun t_ k_ => XS.iand X0.here hx rfl (hb hby at_3) rfl k_) ?_
  refine own_st (fun t_ k_ => XS.iconst X0.here hx rfl (hb hby at_4) k_) ?_
  refine own_st (fun t_ k_ => Jvm.RoadKit.iremM X0 hx rfl (hb hby at_5) rfl (by decide) k_) ?_
  show own_Go p e below s₁ (mkF m 6 #[.val (.int p0), .val (.int p1), .val (.int p2), .unset, .unset, .unset, .unset, .unset, .unset, .unset] [(.int ((p2 &&& (7 : Int32)) % (5 : Int32)))]) _
  refine own_st (fun t_ k_ => XS.iconst X0.here hx rfl (hb hby at_6) k_) ?_
  refine own_st (fun t_ k_ => XS.iadd X0.here hx rfl (hb hby at_7) rfl k_) ?_
  show own_Go p e below s₁ (mkF m 8 #[.val (.int p0), .val (.int p1), .val (.int p2), .unset, .unset, .unset, .unset, .unset, .unset, .unset] [(.int (((p2 &&& (7 : Int32)) % (5 : Int32)) + (1 : Int32)))]) _
  generalize (((p2 &&& (7 : Int32)) % (5 : Int32)) + (1 : Int32)) = nn at hn ⊢
  show own_Go p e below s₁ (mkF m 8 #[.val (.int p0), .val (.int p1), .val (.int p2), .unset, .unset, .unset, .unset, .unset, .unset, .unset] [(.int nn)]) _
  refine own_st (fun t_ k_ => XS.istoreN X0.here hx rfl (hb hby at_8) rfl (l' := #[.val (.int p0), .val (.int p1), .val (.int p2), .val (.int nn), .unset, .unset, .unset, .unset, .unset, .unset]) rfl k_) ?_
  refine own_st (fun t_ k_ => XS.iloadN X0.here hx rfl (hb hby at_9) rfl k_) ?_
  refine own_st (fun t_ k_ => XS.iconst X0.here hx rfl (hb hby at_10) k_) ?_
  refine own_st (fun t_ k_ => XS.iushr X0.here hx rfl (hb hby at_11) rfl k_) ?_
  show own_Go p e below s₁ (mkF m 12 #[.val (.int p0), .val (.int p1), .val (.int p2), .val (.int nn), .unset, .unset, .unset, .unset, .unset, .unset] [(.int ((p2.toUInt32 >>> ((3 : Int32) &&& 31).toUInt32).toInt32))]) _
  generalize ((p2.toUInt32 >>> ((3 : Int32) &&& 31).toUInt32).toInt32) = dd
  show own_Go p e below s₁ (mkF m 12 #[.val (.int p0), .val (.int p1), .val (.int p2), .val (.int nn), .unset, .unset, .unset, .unset, .unset, .unset] [(.int dd)]) _
  refine own_st (fun t_ k_ => XS.istore X0.here hx rfl (hb hby at_12) rfl (l' := #[.val (.int p0), .val (.int p1), .val (.int p2), .val (.int nn), .val (.int dd), .unset, .unset, .unset, .unset, .unset]) rfl k_) ?_
  refine own_st (fun t_ k_ => XS.iconst X0.here hx rfl (hb hby at_14) k_) ?_
  show own_Go p e below s₁ (mkF m 15 #[.val (.int p0), .val (.int p1), .val (.int p2), .val (.int nn), .val (.int dd), .unset, .unset, .unset, .unset, .unset] [(.int (5 : Int32))]) _
  obtain ⟨T1, h1, k1, X1, e1, E1, A1, st1⟩ := newP X0 hx hZ (hw _ (List.mem_of_getElem? (i := 0) rfl)) e0 (g := (mkF m 15 #[.val (.int p0), .val (.int p1), .val (.int p2), .val (.int nn), .val (.int dd), .unset, .unset, .unset, .unset, .unset] [(.int (5 : Int32))])) rfl (hb hby at_15) rfl (by decide) (cap := 5) (by decide) (by decide) (by decide) (by decide)
  obtain ⟨b1, g1⟩ : ∃ z, z = h0.size := ⟨_, rfl⟩
  rw [← g1] at A1 st1
  have G1 : n0 ≤ b1 := Nat.le_trans Z0 (Nat.le_of_eq g1.symm)
  have B1 : h0.size ≤ b1 := Nat.le_trans (Keep.refl h0 []).1 (Nat.le_of_eq g1.symm)
  have CH2 := hCH.ext E1
  have CR2 := CHr.trans hCR (CHr.ext E1 hCH)
  have K3 : Keep h0 h1 [] := (Keep.refl h0 []).ext E1
  have V1 : Arv Z h1 b1 k1 .char (5 : Int32) [(.int (0 : Int32)), (.int (0 : Int32)), (.int (0 : Int32)), (.int (0 : Int32)), (.int (0 : Int32))] (.int (0 : Int32)) := (Arv.new A1 (by decide)).pad (pad_rep [] (.int (0 : Int32)) 5)
  refine own_st st1 ?_
  show own_Go p e below T1 (mkF m 17 #[.val (.int p0), .val (.int p1), .val (.int p2), .val (.int nn), .val (.int dd), .unset, .unset, .unset, .unset, .unset] [(.ref b1)]) _
  refine own_st (fun t_ k_ => XS.astore X1.here hx rfl (hb hby at_17) rfl rfl (l' := (own_A p0 p1 p2 nn dd b1 .unset .unset .unset .unset)) rfl k_) ?_
  refine own_st (fun t_ k_ => XS.aload X1.here hx rfl (hb hby at_19) rfl rfl k_) ?_
  refine own_st (fun t_ k_ => XS.iconst X1.here hx rfl (hb hby at_21) k_) ?_
  refine own_st (fun t_ k_ => XS.iload X1.here hx rfl (hb hby at_22) rfl k_) ?_
  refine own_st (fun t_ k_ => XS.iconst X1.here hx rfl (hb hby at_24) k_) ?_
  show own_Go p e below T1 (mkF m 25 (own_A p0 p1 p2 nn dd b1 .unset .unset .unset .unset) [(.int (0 : Int32)), (.int dd), (.int (0 : Int32)), (.ref b1)]) _
  refine own_st (fun t_ k_ => XS.iloadN X1.here hx rfl (hb hby at_25) rfl k_) ?_
  refine own_st (fun t_ k_ => XS.sipush X1.here hx rfl (hb hby at_26) k_) ?_
  refine own_st (fun t_ k_ => XS.iand X1.here hx rfl (hb hby at_29) rfl k_) ?_
  show own_Go p e below T1 (mkF m 30 (own_A p0 p1 p2 nn dd b1 .unset .unset .unset .unset) [(.int (p0 &&& (255 : Int32))), (.int (0 : Int32)), (.int dd), (.int (0 : Int32)), (.ref b1)]) _
  have f4 := (Nat.le_trans Z0 E1.1)
  obtain ⟨_, _, ⟨T5, L5, k5, n5⟩, -, X5, ⟨Lc5, hQ5, l5, y5, z5⟩, st5⟩ := Jvm.LawKit.callS X1 hx (y := (⟨"com/example/descriptor/descriptor/vocabulary/HierarchyParentPinLaw", "pick", "(III)C"⟩ : MethodName)) hown (mvT hZ (hw _ (List.mem_of_getElem? (i := 1) rfl))) (mvT hZ (hw _ (List.mem_of_getElem? (i := 2) rfl))) (mvT hZ (hw _ (List.mem_of_getElem? (i := 3) rfl))) (mvT hZ (hw _ (List.mem_of_getElem? (i := 4) rfl))) (by decide) (backOf (W := 2) (rmPk l Z a0 hw [] dd ((0 : Int32)) ((p0 &&& (255 : Int32))) h1 n0 f4 (own_chm _)) hZ (hw _ (List.mem_of_getElem? (i := 4) rfl)) (hw _ (List.mem_of_getElem? (i := 3) rfl)) (by decide) (by decide)) (g := (mkF m 30 (own_A p0 p1 p2 nn dd b1 .unset .unset .unset .unset) [(.int (p0 &&& (255 : Int32))), (.int (0 : Int32)), (.int dd), (.int (0 : Int32)), (.ref b1)])) rfl (by rw [hml]; rfl) (argsL := [(.int dd), (.int (0 : Int32)), (.int (p0 &&& (255 : Int32)))]) (rest := [(.int (0 : Int32)), (.ref b1)]) (lenOf pd__III_C rfl) rfl (by show 2 * 0 + _ ≤ _; exact Nat.le_of_eq rfl) (hb hby at_30) (fun _ _ => ⟨rfl, e1, (by decide : 1 + 0 ≤ _), (by decide : 5 + 0 ≤ _)⟩)
  dsimp only [Pt.U, Pt.locs, Pt.cells, Pt.slots] at X5 l5 y5 z5 st5 hQ5
  try dsimp only [Nat.reduceAdd] at y5 z5
  rw [l5, y5, z5] at X5
  obtain ⟨r_5, rfl, Nq5, eH5, q5_0⟩ := hQ5
  have N5 := Fr.app N0 Nq5
  refine own_st st5 ?_
  show own_Go p e below T5 (mkF m 33 (own_A p0 p1 p2 nn dd b1 .unset .unset .unset .unset) [(.int r_5), (.int (0 : Int32)), (.ref b1)]) _
  obtain ⟨cl6, Ar6, q6, Sz6, Nn6, Hh6, Gg6⟩ := id V1
  have hin6 : ¬ ((0 : Int32) < 0 ∨ cl6.slots.size ≤ ((0 : Int32)).toNatClampNeg) := inb_of Sz6 ⟨by decide, by decide⟩
  obtain ⟨T7, h7, X7, e7, W7, st7⟩ := stC X5 hx hZ eH5 Ar6 (j := (0 : Int32)) hin6 (g := (mkF m 33 (own_A p0 p1 p2 nn dd b1 .unset .unset .unset .unset) [(.int r_5), (.int (0 : Int32)), (.ref b1)])) rfl rfl (hb hby at_33)
  have V7 : Arv Z h7 b1 k1 .char (5 : Int32) [(.int (nar .char r_5)), (.int (0 : Int32)), (.int (0 : Int32)), (.int (0 : Int32)), (.int (0 : Int32))] (.int (0 : Int32)) := Arv.set Ar6 q6 Sz6 Nn6 Hh6 Gg6 (fits_nar_char _) W7 0 rfl (Nat.le_of_ble_eq_true rfl)
  rw [own_chnar q5_0] at V7
  have Sa8 : Safe Z own_EL s.vm h1 b1 := (Safe.arv hZ.alike V1 (by decide))
  have CH8 := CH2.wr W7 Sa8
  have CR8 := CHr.trans CR2 (CHr.wr W7 Sa8 CH2)
  have K9 : Keep h0 h7 [] := K3.wr W7 (Or.inr B1)
  have N7 := Fr.snoc X7 N5 G1
  refine own_st st7 ?_
  show own_Go p e below T7 (mkF m 34 (own_A p0 p1 p2 nn dd b1 .unset .unset .unset .unset) []) _
  refine own_st (fun t_ k_ => XS.aload X7.here hx rfl (hb hby at_34) rfl rfl k_) ?_
  refine own_st (fun t_ k_ => XS.iconst X7.here hx rfl (hb hby at_36) k_) ?_
  refine own_st (fun t_ k_ => XS.iload X7.here hx rfl (hb hby at_37) rfl k_) ?_
  refine own_st (fun t_ k_ => XS.iconst X7.here hx rfl (hb hby at_39) k_) ?_
  refine own_st (fun t_ k_ => XS.iloadN X7.here hx rfl (hb hby at_40) rfl k_) ?_
  show own_Go p e below T7 (mkF m 41 (own_A p0 p1 p2 nn dd b1 .unset .unset .unset .unset) [(.int p0), (.int (1 : Int32)), (.int dd), (.int (1 : Int32)), (.ref b1)]) _
  refine own_st (fun t_ k_ => XS.bipush X7.here hx rfl (hb hby at_41) k_) ?_
  refine own_st (fun t_ k_ => XS.iushr X7.here hx rfl (hb hby at_43) rfl k_) ?_
  refine own_st (fun t_ k_ => XS.sipush X7.here hx rfl (hb hby at_44) k_) ?_
  refine own_st (fun t_ k_ => XS.iand X7.here hx rfl (hb hby at_47) rfl k_) ?_
  show own_Go p e below T7 (mkF m 48 (own_A p0 p1 p2 nn dd b1 .unset .unset .unset .unset) [(.int (((p0.toUInt32 >>> ((8 : Int32) &&& 31).toUInt32).toInt32) &&& (255 : Int32))), (.int (1 : Int32)), (.int dd), (.int (1 : Int32)), (.ref b1)]) _
  have f10 := (Nat.le_trans f4 (Keep.of_wr W7).1)
  obtain ⟨_, _, ⟨T11, L11, k11, n11⟩, -, X11, ⟨Lc11, hQ11, l11, y11, z11⟩, st11⟩ := Jvm.LawKit.callS X7 hx (y := (⟨"com/example/descriptor/descriptor/vocabulary/HierarchyParentPinLaw", "pick", "(III)C"⟩ : MethodName)) hown (mvT hZ (hw _ (List.mem_of_getElem? (i := 1) rfl))) (mvT hZ (hw _ (List.mem_of_getElem? (i := 2) rfl))) (mvT hZ (hw _ (List.mem_of_getElem? (i := 3) rfl))) (mvT hZ (hw _ (List.mem_of_getElem? (i := 4) rfl))) (by decide) (backOf (W := 2) (rmPk l Z a0 hw [] dd ((1 : Int32)) ((((p0.toUInt32 >>> ((8 : Int32) &&& 31).toUInt32).toInt32) &&& (255 : Int32))) h7 n0 f10 (own_chm _)) hZ (hw _ (List.mem_of_getElem? (i := 4) rfl)) (hw _ (List.mem_of_getElem? (i := 3) rfl)) (by decide) (by decide)) (g := (mkF m 48 (own_A p0 p1 p2 nn dd b1 .unset .unset .unset .unset) [(.int (((p0.toUInt32 >>> ((8 : Int32) &&& 31).toUInt32).toInt32) &&& (255 : Int32))), (.int (1 : Int32)), (.int dd), (.int (1 : Int32)), (.ref b1)])) rfl (by rw [hml]; rfl) (argsL := [(.int dd), (.int (1 : Int32)), (.int (((p0.toUInt32 >>> ((8 : Int32) &&& 31).toUInt32).toInt32) &&& (255 : Int32)))]) (rest := [(.int (1 : Int32)), (.ref b1)]) (lenOf pd__III_C rfl) rfl (by show 2 * 0 + _ ≤ _; exact Nat.le_of_eq rfl) (hb hby at_48) (fun _ _ => ⟨rfl, e7, (by decide : 1 + 0 ≤ _), (by decide : 5 + 0 ≤ _)⟩)
  dsimp only [Pt.U, Pt.locs, Pt.cells, Pt.slots] at X11 l11 y11 z11 st11 hQ11
  try dsimp only [Nat.reduceAdd] at y11 z11
  rw [l11, y11, z11] at X11
  obtain ⟨r_11, rfl, Nq11, eH11, q11_0⟩ := hQ11
  have N11 := Fr.app N7 Nq11
  refine own_st st11 ?_
  show own_Go p e below T11 (mkF m 51 (own_A p0 p1 p2 nn dd b1 .unset .unset .unset .unset) [(.int r_11), (.int (1 : Int32)), (.ref b1)]) _
  obtain ⟨cl12, Ar12, q12, Sz12, Nn12, Hh12, Gg12⟩ := id V7
  have hin12 : ¬ ((1 : Int32) < 0 ∨ cl12.slots.size ≤ ((1 : Int32)).toNatClampNeg) := inb_of Sz12 ⟨by decide, by decide⟩
  obtain ⟨T13, h13, X13, e13, W13, st13⟩ := stC X11 hx hZ eH11 Ar12 (j := (1 : Int32)) hin12 (g := (mkF m 51 (own_A p0 p1 p2 nn dd b1 .unset .unset .unset .unset) [(.int r_11), (.int (1 : Int32)), (.ref b1)])) rfl rfl (hb hby at_51)
  have V13 : Arv Z h13 b1 k1 .char (5 : Int32) [(.int r_5), (.int (nar .char r_11)), (.int (0 : Int32)), (.int (0 : Int32)), (.int (0 : Int32))] (.int (0 : Int32)) := Arv.set Ar12 q12 Sz12 Nn12 Hh12 Gg12 (fits_nar_char _) W13 1 rfl (Nat.le_of_ble_eq_true rfl)
  rw [own_chnar q11_0] at V13
  have Sa14 : Safe Z own_EL s.vm h7 b1 := (Safe.arv hZ.alike V7 (by decide))
  have CH14 := CH8.wr W13 Sa14
  have CR14 := CHr.trans CR8 (CHr.wr W13 Sa14 CH8)
  have K15 : Keep h0 h13 [] := K9.wr W13 (Or.inr B1)
  have N13 := Fr.snoc X13 N11 G1
  refine own_st st13 ?_
  show own_Go p e below T13 (mkF m 52 (own_A p0 p1 p2 nn dd b1 .unset .unset .unset .unset) []) _
  refine own_st (fun t_ k_ => XS.aload X13.here hx rfl (hb hby at_52) rfl rfl k_) ?_
  refine own_st (fun t_ k_ => XS.iconst X13.here hx rfl (hb hby at_54) k_) ?_
  refine own_st (fun t_ k_ => XS.iload X13.here hx rfl (hb hby at_55) rfl k_) ?_
  refine own_st (fun t_ k_ => XS.iconst X13.here hx rfl (hb hby at_57) k_) ?_
  refine own_st (fun t_ k_ => XS.iloadN X13.here hx rfl (hb hby at_58) rfl k_) ?_
  show own_Go p e below T13 (mkF m 59 (own_A p0 p1 p2 nn dd b1 .unset .unset .unset .unset) [(.int p0), (.int (2 : Int32)), (.int dd), (.int (2 : Int32)), (.ref b1)]) _
  refine own_st (fun t_ k_ => XS.bipush X13.here hx rfl (hb hby at_59) k_) ?_
  refine own_st (fun t_ k_ => XS.iushr X13.here hx rfl (hb hby at_61) rfl k_) ?_
  refine own_st (fun t_ k_ => XS.sipush X13.here hx rfl (hb hby at_62) k_) ?_
  refine own_st (fun t_ k_ => XS.iand X13.here hx rfl (hb hby at_65) rfl k_) ?_
  show own_Go p e below T13 (mkF m 66 (own_A p0 p1 p2 nn dd b1 .unset .unset .unset .unset) [(.int (((p0.toUInt32 >>> ((16 : Int32) &&& 31).toUInt32).toInt32) &&& (255 : Int32))), (.int (2 : Int32)), (.int dd), (.int (2 : Int32)), (.ref b1)]) _
  have f16 := (Nat.le_trans f10 (Keep.of_wr W13).1)
  obtain ⟨_, _, ⟨T17, L17, k17, n17⟩, -, X17, ⟨Lc17, hQ17, l17, y17, z17⟩, st17⟩ := Jvm.LawKit.callS X13 hx (y := (⟨"com/example/descriptor/descriptor/vocabulary/HierarchyParentPinLaw", "pick", "(III)C"⟩ : MethodName)) hown (mvT hZ (hw _ (List.mem_of_getElem? (i := 1) rfl))) (mvT hZ (hw _ (List.mem_of_getElem? (i := 2) rfl))) (mvT hZ (hw _ (List.mem_of_getElem? (i := 3) rfl))) (mvT hZ (hw _ (List.mem_of_getElem? (i := 4) rfl))) (by decide) (backOf (W := 2) (rmPk l Z a0 hw [] dd ((2 : Int32)) ((((p0.toUInt32 >>> ((16 : Int32) &&& 31).toUInt32).toInt32) &&& (255 : Int32))) h13 n0 f16 (own_chm _)) hZ (hw _ (List.mem_of_getElem? (i := 4) rfl)) (hw _ (List.mem_of_getElem? (i := 3) rfl)) (by decide) (by decide)) (g := (mkF m 66 (own_A p0 p1 p2 nn dd b1 .unset .unset .unset .unset) [(.int (((p0.toUInt32 >>> ((16 : Int32) &&& 31).toUInt32).toInt32) &&& (255 : Int32))), (.int (2 : Int32)), (.int dd), (.int (2 : Int32)), (.ref b1)])) rfl (by rw [hml]; rfl) (argsL := [(.int dd), (.int (2 : Int32)), (.int (((p0.toUInt32 >>> ((16 : Int32) &&& 31).toUInt32).toInt32) &&& (255 : Int32)))]) (rest := [(.int (2 : Int32)), (.ref b1)]) (lenOf pd__III_C rfl) rfl (by show 2 * 0 + _ ≤ _; exact Nat.le_of_eq rfl) (hb hby at_66) (fun _ _ => ⟨rfl, e13, (by decide : 1 + 0 ≤ _), (by decide : 5 + 0 ≤ _)⟩)
  dsimp only [Pt.U, Pt.locs, Pt.cells, Pt.slots] at X17 l17 y17 z17 st17 hQ17
  try dsimp only [Nat.reduceAdd] at y17 z17
  rw [l17, y17, z17] at X17
  obtain ⟨r_17, rfl, Nq17, eH17, q17_0⟩ := hQ17
  have N17 := Fr.app N13 Nq17
  refine own_st st17 ?_
  show own_Go p e below T17 (mkF m 69 (own_A p0 p1 p2 nn dd b1 .unset .unset .unset .unset) [(.int r_17), (.int (2 : Int32)), (.ref b1)]) _
  obtain ⟨cl18, Ar18, q18, Sz18, Nn18, Hh18, Gg18⟩ := id V13
  have hin18 : ¬ ((2 : Int32) < 0 ∨ cl18.slots.size ≤ ((2 : Int32)).toNatClampNeg) := inb_of Sz18 ⟨by decide, by decide⟩
  obtain ⟨T19, h19, X19, e19, W19, st19⟩ := stC X17 hx hZ eH17 Ar18 (j := (2 : Int32)) hin18 (g := (mkF m 69 (own_A p0 p1 p2 nn dd b1 .unset .unset .unset .unset) [(.int r_17), (.int (2 : Int32)), (.ref b1)])) rfl rfl (hb hby at_69)
  have V19 : Arv Z h19 b1 k1 .char (5 : Int32) [(.int r_5), (.int r_11), (.int (nar .char r_17)), (.int (0 : Int32)), (.int (0 : Int32))] (.int (0 : Int32)) := Arv.set Ar18 q18 Sz18 Nn18 Hh18 Gg18 (fits_nar_char _) W19 2 rfl (Nat.le_of_ble_eq_true rfl)
  rw [own_chnar q17_0] at V19
  have Sa20 : Safe Z own_EL s.vm h13 b1 := (Safe.arv hZ.alike V13 (by decide))
  have CH20 := CH14.wr W19 Sa20
  have CR20 := CHr.trans CR14 (CHr.wr W19 Sa20 CH14)
  have K21 : Keep h0 h19 [] := K15.wr W19 (Or.inr B1)
  have N19 := Fr.snoc X19 N17 G1
  refine own_st st19 ?_
  show own_Go p e below T19 (mkF m 70 (own_A p0 p1 p2 nn dd b1 .unset .unset .unset .unset) []) _
  refine own_st (fun t_ k_ => XS.aload X19.here hx rfl (hb hby at_70) rfl rfl k_) ?_
  refine own_st (fun t_ k_ => XS.iconst X19.here hx rfl (hb hby at_72) k_) ?_
  refine own_st (fun t_ k_ => XS.iload X19.here hx rfl (hb hby at_73) rfl k_) ?_
  refine own_st (fun t_ k_ => XS.iconst X19.here hx rfl (hb hby at_75) k_) ?_
  refine own_st (fun t_ k_ => XS.iloadN X19.here hx rfl (hb hby at_76) rfl k_) ?_
  show own_Go p e below T19 (mkF m 77 (own_A p0 p1 p2 nn dd b1 .unset .unset .unset .unset) [(.int p0), (.int (3 : Int32)), (.int dd), (.int (3 : Int32)), (.ref b1)]) _
  refine own_st (fun t_ k_ => XS.bipush X19.here hx rfl (hb hby at_77) k_) ?_
  refine own_st (fun t_ k_ => XS.iushr X19.here hx rfl (hb hby at_79) rfl k_) ?_
  refine own_st (fun t_ k_ => XS.sipush X19.here hx rfl (hb hby at_80) k_) ?_
  refine own_st (fun t_ k_ => XS.iand X19.here hx rfl (hb hby at_83) rfl k_) ?_
  show own_Go p e below T19 (mkF m 84 (own_A p0 p1 p2 nn dd b1 .unset .unset .unset .unset) [(.int (((p0.toUInt32 >>> ((24 : Int32) &&& 31).toUInt32).toInt32) &&& (255 : Int32))), (.int (3 : Int32)), (.int dd), (.int (3 : Int32)), (.ref b1)]) _
  have f22 := (Nat.le_trans f16 (Keep.of_wr W19).1)
  obtain ⟨_, _, ⟨T23, L23, k23, n23⟩, -, X23, ⟨Lc23, hQ23, l23, y23, z23⟩, st23⟩ := Jvm.LawKit.callS X19 hx (y := (⟨"com/example/descriptor/descriptor/vocabulary/HierarchyParentPinLaw", "pick", "(III)C"⟩ : MethodName)) hown (mvT hZ (hw _ (List.mem_of_getElem? (i := 1) rfl))) (mvT hZ (hw _ (List.mem_of_getElem? (i := 2) rfl))) (mvT hZ (hw _ (List.mem_of_getElem? (i := 3) rfl))) (mvT hZ (hw _ (List.mem_of_getElem? (i := 4) rfl))) (by decide) (backOf (W := 2) (rmPk l Z a0 hw [] dd ((3 : Int32)) ((((p0.toUInt32 >>> ((24 : Int32) &&& 31).toUInt32).toInt32) &&& (255 : Int32))) h19 n0 f22 (own_chm _)) hZ (hw _ (List.mem_of_getElem? (i := 4) rfl)) (hw _ (List.mem_of_getElem? (i := 3) rfl)) (by decide) (by decide)) (g := (mkF m 84 (own_A p0 p1 p2 nn dd b1 .unset .unset .unset .unset) [(.int (((p0.toUInt32 >>> ((24 : Int32) &&& 31).toUInt32).toInt32) &&& (255 : Int32))), (.int (3 : Int32)), (.int dd), (.int (3 : Int32)), (.ref b1)])) rfl (by rw [hml]; rfl) (argsL := [(.int dd), (.int (3 : Int32)), (.int (((p0.toUInt32 >>> ((24 : Int32) &&& 31).toUInt32).toInt32) &&& (255 : Int32)))]) (rest := [(.int (3 : Int32)), (.ref b1)]) (lenOf pd__III_C rfl) rfl (by show 2 * 0 + _ ≤ _; exact Nat.le_of_eq rfl) (hb hby at_84) (fun _ _ => ⟨rfl, e19, (by decide : 1 + 0 ≤ _), (by decide : 5 + 0 ≤ _)⟩)
  dsimp only [Pt.U, Pt.locs, Pt.cells, Pt.slots] at X23 l23 y23 z23 st23 hQ23
  try dsimp only [Nat.reduceAdd] at y23 z23
  rw [l23, y23, z23] at X23
  obtain ⟨r_23, rfl, Nq23, eH23, q23_0⟩ := hQ23
  have N23 := Fr.app N19 Nq23
  refine own_st st23 ?_
  show own_Go p e below T23 (mkF m 87 (own_A p0 p1 p2 nn dd b1 .unset .unset .unset .unset) [(.int r_23), (.int (3 : Int32)), (.ref b1)]) _
  obtain ⟨cl24, Ar24, q24, Sz24, Nn24, Hh24, Gg24⟩ := id V19
  have hin24 : ¬ ((3 : Int32) < 0 ∨ cl24.slots.size ≤ ((3 : Int32)).toNatClampNeg) := inb_of Sz24 ⟨by decide, by decide⟩
  obtain ⟨T25, h25, X25, e25, W25, st25⟩ := stC X23 hx hZ eH23 Ar24 (j := (3 : Int32)) hin24 (g := (mkF m 87 (own_A p0 p1 p2 nn dd b1 .unset .unset .unset .unset) [(.int r_23), (.int (3 : Int32)), (.ref b1)])) rfl rfl (hb hby at_87)
  have V25 : Arv Z h25 b1 k1 .char (5 : Int32) [(.int r_5), (.int r_11), (.int r_17), (.int (nar .char r_23)), (.int (0 : Int32))] (.int (0 : Int32)) := Arv.set Ar24 q24 Sz24 Nn24 Hh24 Gg24 (fits_nar_char _) W25 3 rfl (Nat.le_of_ble_eq_true rfl)
  rw [own_chnar q23_0] at V25
  have Sa26 : Safe Z own_EL s.vm h19 b1 := (Safe.arv hZ.alike V19 (by decide))
  have CH26 := CH20.wr W25 Sa26
  have CR26 := CHr.trans CR20 (CHr.wr W25 Sa26 CH20)
  have K27 : Keep h0 h25 [] := K21.wr W25 (Or.inr B1)
  have N25 := Fr.snoc X25 N23 G1
  refine own_st st25 ?_
  show own_Go p e below T25 (mkF m 88 (own_A p0 p1 p2 nn dd b1 .unset .unset .unset .unset) []) _
  refine own_st (fun t_ k_ => XS.aload X25.here hx rfl (hb hby at_88) rfl rfl k_) ?_
  refine own_st (fun t_ k_ => XS.iconst X25.here hx rfl (hb hby at_90) k_) ?_
  refine own_st (fun t_ k_ => XS.iload X25.here hx rfl (hb hby at_91) rfl k_) ?_
  refine own_st (fun t_ k_ => XS.iconst X25.here hx rfl (hb hby at_93) k_) ?_
  refine own_st (fun t_ k_ => XS.iloadN X25.here hx rfl (hb hby at_94) rfl k_) ?_
  show own_Go p e below T25 (mkF m 95 (own_A p0 p1 p2 nn dd b1 .unset .unset .unset .unset) [(.int p1), (.int (4 : Int32)), (.int dd), (.int (4 : Int32)), (.ref b1)]) _
  refine own_st (fun t_ k_ => XS.sipush X25.here hx rfl (hb hby at_95) k_) ?_
  refine own_st (fun t_ k_ => XS.iand X25.here hx rfl (hb hby at_98) rfl k_) ?_
  show own_Go p e below T25 (mkF m 99 (own_A p0 p1 p2 nn dd b1 .unset .unset .unset .unset) [(.int (p1 &&& (255 : Int32))), (.int (4 : Int32)), (.int dd), (.int (4 : Int32)), (.ref b1)]) _
  have f28 := (Nat.le_trans f22 (Keep.of_wr W25).1)
  obtain ⟨_, _, ⟨T29, L29, k29, n29⟩, -, X29, ⟨Lc29, hQ29, l29, y29, z29⟩, st29⟩ := Jvm.LawKit.callS X25 hx (y := (⟨"com/example/descriptor/descriptor/vocabulary/HierarchyParentPinLaw", "pick", "(III)C"⟩ : MethodName)) hown (mvT hZ (hw _ (List.mem_of_getElem? (i := 1) rfl))) (mvT hZ (hw _ (List.mem_of_getElem? (i := 2) rfl))) (mvT hZ (hw _ (List.mem_of_getElem? (i := 3) rfl))) (mvT hZ (hw _ (List.mem_of_getElem? (i := 4) rfl))) (by decide) (backOf (W := 2) (rmPk l Z a0 hw [] dd ((4 : Int32)) ((p1 &&& (255 : Int32))) h25 n0 f28 (own_chm _)) hZ (hw _ (List.mem_of_getElem? (i := 4) rfl)) (hw _ (List.mem_of_getElem? (i := 3) rfl)) (by decide) (by decide)) (g := (mkF m 99 (own_A p0 p1 p2 nn dd b1 .unset .unset .unset .unset) [(.int (p1 &&& (255 : Int32))), (.int (4 : Int32)), (.int dd), (.int (4 : Int32)), (.ref b1)])) rfl (by rw [hml]; rfl) (argsL := [(.int dd), (.int (4 : Int32)), (.int (p1 &&& (255 : Int32)))]) (rest := [(.int (4 : Int32)), (.ref b1)]) (lenOf pd__III_C rfl) rfl (by show 2 * 0 + _ ≤ _; exact Nat.le_of_eq rfl) (hb hby at_99) (fun _ _ => ⟨rfl, e25, (by decide : 1 + 0 ≤ _), (by decide : 5 + 0 ≤ _)⟩)
  dsimp only [Pt.U, Pt.locs, Pt.cells, Pt.slots] at X29 l29 y29 z29 st29 hQ29
  try dsimp only [Nat.reduceAdd] at y29 z29
  rw [l29, y29, z29] at X29
  obtain ⟨r_29, rfl, Nq29, eH29, q29_0⟩ := hQ29
  have N29 := Fr.app N25 Nq29
  refine own_st st29 ?_
  show own_Go p e below T29 (mkF m 102 (own_A p0 p1 p2 nn dd b1 .unset .unset .unset .unset) [(.int r_29), (.int (4 : Int32)), (.ref b1)]) _
  obtain ⟨cl30, Ar30, q30, Sz30, Nn30, Hh30, Gg30⟩ := id V25
  have hin30 : ¬ ((4 : Int32) < 0 ∨ cl30.slots.size ≤ ((4 : Int32)).toNatClampNeg) := inb_of Sz30 ⟨by decide, by decide⟩
  obtain ⟨T31, h31, X31, e31, W31, st31⟩ := stC X29 hx hZ eH29 Ar30 (j := (4 : Int32)) hin30 (g := (mkF m 102 (own_A p0 p1 p2 nn dd b1 .unset .unset .unset .unset) [(.int r_29), (.int (4 : Int32)), (.ref b1)])) rfl rfl (hb hby at_102)
  have V31 : Arv Z h31 b1 k1 .char (5 : Int32) [(.int r_5), (.int r_11), (.int r_17), (.int r_23), (.int (nar .char r_29))] (.int (0 : Int32)) := Arv.set Ar30 q30 Sz30 Nn30 Hh30 Gg30 (fits_nar_char _) W31 4 rfl (Nat.le_of_ble_eq_true rfl)
  rw [own_chnar q29_0] at V31
  have Sa32 : Safe Z own_EL s.vm h25 b1 := (Safe.arv hZ.alike V25 (by decide))
  have CH32 := CH26.wr W31 Sa32
  have CR32 := CHr.trans CR26 (CHr.wr W31 Sa32 CH26)
  have K33 : Keep h0 h31 [] := K27.wr W31 (Or.inr B1)
  have N31 := Fr.snoc X31 N29 G1
  refine own_st st31 ?_
  show own_Go p e below T31 (mkF m 103 (own_A p0 p1 p2 nn dd b1 .unset .unset .unset .unset) []) _
  refine own_st (fun t_ k_ => XS.iloadN X31.here hx rfl (hb hby at_103) rfl k_) ?_
  refine own_st (fun t_ k_ => XS.aload X31.here hx rfl (hb hby at_104) rfl rfl k_) ?_
  show own_Go p e below T31 (mkF m 106 (own_A p0 p1 p2 nn dd b1 .unset .unset .unset .unset) [(.ref b1), (.int nn)]) _
  rcases hn with rfl | rfl | rfl | rfl | rfl
  · skip
    show own_Go p e below T31 (mkF m 106 (own_A p0 p1 p2 (1 : Int32) dd b1 .unset .unset .unset .unset) [(.ref b1), (.int (1 : Int32))]) _
    have f34 := (Nat.le_trans f28 (Keep.of_wr W31).1)
    have f35 := ((((((pO.ext E1).wr W7 G1).wr W13 G1).wr W19 G1).wr W25 G1).wr W31 G1)
    obtain ⟨_, _, ⟨T36, L36, k36, n36⟩, -, X36, ⟨Lc36, hQ36, l36, y36, z36⟩, st36⟩ := Jvm.LawKit.callS X31 hx (y := (⟨"com/example/descriptor/descriptor/vocabulary/HierarchyParentPinLaw", "make", "(I[C)Ljava/lang/String;"⟩ : MethodName)) hown (mvT hZ (hw _ (List.mem_of_getElem? (i := 5) rfl))) (mvT hZ (hw _ (List.mem_of_getElem? (i := 6) rfl))) (mvT hZ (hw _ (List.mem_of_getElem? (i := 3) rfl))) (mvT hZ (hw _ (List.mem_of_getElem? (i := 7) rfl))) (by decide) (backOf (W := 0) (rmMk1 l Z a0 hw [] b1 k1 r_5 r_11 r_17 r_23 r_29 zc h31 n0 f34 V31 q5_0 q11_0 q17_0 q23_0 q29_0 pS_COMPACT_STRINGS pP5 f35) hZ (hw _ (List.mem_of_getElem? (i := 7) rfl)) (hw _ (List.mem_of_getElem? (i := 3) rfl)) (by decide) (by decide)) (g := (mkF m 106 (own_A p0 p1 p2 (1 : Int32) dd b1 .unset .unset .unset .unset) [(.ref b1), (.int (1 : Int32))])) rfl (by rw [hml]; rfl) (argsL := [(.int (1 : Int32)), (.ref b1)]) (rest := []) (lenOf pd__I_C_Ljava_lang_String_ rfl) rfl (by show 2 * 0 + _ ≤ _; exact Nat.le_of_eq rfl) (hb hby at_106) (fun _ _ => ⟨rfl, e31, (by decide : 1 + 3 ≤ _), (by decide : 5 + 6 ≤ _)⟩)
    dsimp only [Pt.U, Pt.locs, Pt.cells, Pt.slots] at X36 l36 y36 z36 st36 hQ36
    try dsimp only [Nat.reduceAdd] at y36 z36
    rw [l36, y36, z36] at X36
    obtain ⟨x_36, t_36, kb_36, rfl, Nq36, Kq36, q36_0, q36_1, q36_2, q36_3⟩ := hQ36
    have N36 := Fr.app N31 Nq36
    have CH37 := CH32.keep Kq36 sf0
    have CR37 := CHr.trans CR32 (CHr.keep Kq36 sf0 CH32)
    have K38 : Keep h0 T36.heap [] := K33.trans Kq36 all0
    refine own_st st36 ?_
    show own_Go p e below T36 (mkF m 109 (own_A p0 p1 p2 (1 : Int32) dd b1 .unset .unset .unset .unset) [(.ref x_36)]) _
    refine own_st (fun t_ k_ => XS.astore X36.here hx rfl (hb hby at_109) rfl rfl (l' := (own_A p0 p1 p2 (1 : Int32) dd b1 (.val (.ref x_36)) .unset .unset .unset)) rfl k_) ?_
    refine own_st (fun t_ k_ => XS.aload X36.here hx rfl (hb hby at_111) rfl rfl k_) ?_
    show own_Go p e below T36 (mkF m 113 (own_A p0 p1 p2 (1 : Int32) dd b1 (.val (.ref x_36)) .unset .unset .unset) [(.ref x_36)]) _
    have hch1 : ∀ c ∈ ([r_5] : List Int32), own_ch c := by
      intro c hc
      simp only [List.mem_cons, List.not_mem_nil, or_false] at hc
      subst hc
      exact q5_0
    have f39 := (Nat.le_trans f34 Kq36.1)
    have f40 := (f35.keep Kq36 all0)
    have f42 := (Nat.le_trans (Nat.le_trans (Nat.le_trans (Nat.le_trans (Nat.le_trans (Nat.le_trans (Nat.le_trans hK0 E1.1) (Keep.of_wr W7).1) (Keep.of_wr W13).1) (Keep.of_wr W19).1) (Keep.of_wr W25).1) (Keep.of_wr W31).1) Kq36.1)
    obtain ⟨_, _, ⟨T41, L41, k41, n41⟩, -, Xa41, hSa41, hGa41, ⟨Lc41, hQ41, l41, y41, z41, A41⟩, st41⟩ := Jvm.RoadKit.callSS X36 hx (y := (⟨"com/example/descriptor/descriptor/vocabulary/Hierarchy", "parent", "(Ljava/lang/String;)Ljava/lang/String;"⟩ : MethodName)) hown (mvT hZ (hw _ (List.mem_of_getElem? (i := 37) rfl))) (mvT hZ (hw _ (List.mem_of_getElem? (i := 38) rfl))) (mvT hZ (hw _ (List.mem_of_getElem? (i := 39) rfl))) (mvT hZ (hw _ (List.mem_of_getElem? (i := 40) rfl))) (by decide) (backOfSH (W := 0) (rmPa l Z a0 hw [] x_36 t_36 kb_36 ((1 : Int32)) ([r_5]) zc fm T36.heap n0 f39 q36_0 q36_1 q36_2 q36_3 rfl (Nat.le_of_ble_eq_true rfl) hch1 (Nat.le_of_ble_eq_true rfl) pS_COMPACT_STRINGS pP5 pS_SIOOBE_FORMATTER rfm f40) hZ (hw _ (List.mem_of_getElem? (i := 40) rfl)) (hw _ (List.mem_of_getElem? (i := 39) rfl)) (by decide) (by decide) hEL CH37) (g := (mkF m 113 (own_A p0 p1 p2 (1 : Int32) dd b1 (.val (.ref x_36)) .unset .unset .unset) [(.ref x_36)])) rfl (by rw [hml]; rfl) (argsL := [(.ref x_36)]) (rest := []) (lenOf pd__Ljava_lang_String__Ljava_lang_String_ rfl) rfl (by show 2 * 0 + _ ≤ _; exact Nat.le_of_eq rfl) (hb hby at_113) (fun _ _ => ⟨rfl, rfl, (by decide : 4 + 2 ≤ _), (by decide : 11 + 8 ≤ _)⟩)
    dsimp only [Pt.U, Pt.locs, Pt.cells, Pt.slots] at Xa41 hSa41 hGa41 l41 y41 z41 A41 st41 hQ41
    try dsimp only [Nat.reduceAdd] at y41 z41
    rw [l41, y41, z41] at Xa41
    obtain ⟨X41, hS, hZ, hown⟩ := rebS hS f42 Xa41 hSa41 hGa41 hZ hown
    obtain ⟨y_41, b_41, kb_41, el_41, us_41, rfl, Nq41, Kq41, q41_0, q41_1, q41_2, q41_3, q41_4⟩ := hQ41
    have N41 := Fr.app N36 Nq41
    have CH43 := A41.1
    have CR43 := CHr.trans CR37 (A41)
    have K44 : Keep h0 T41.heap [] := K38.trans Kq41 all0
    have hK41 : T41.heap.size ≤ T41.heap.size := Nat.le_refl _
    refine own_tr st41 ?_
    show own_Go p e below T41 (mkF m 116 (own_A p0 p1 p2 (1 : Int32) dd b1 (.val (.ref x_36)) .unset .unset .unset) [(.ref y_41)]) _
    rcases own_pa1 q41_4 with ⟨rfl, rfl, hj⟩ | ⟨rfl, rfl, hj⟩
    · skip
      have hpe : ∀ c ∈ ([] : List Int32), ¬ c < 0 ∧ ¬ (255 : Int32) < c := by
        intro c hc
        simp only [List.mem_cons, List.not_mem_nil, or_false] at hc
      have d0 := hj
      refine own_st (fun t_ k_ => XS.astore X41.here hx rfl (hb hby at_116) rfl rfl (l' := (own_A p0 p1 p2 (1 : Int32) dd b1 (.val (.ref x_36)) (.val (.ref y_41)) .unset .unset)) rfl k_) ?_
      refine own_st (fun t_ k_ => XS.iconst X41.here hx rfl (hb hby at_118) k_) ?_
      refine own_st (fun t_ k_ => XS.istore X41.here hx rfl (hb hby at_119) rfl (l' := (own_A p0 p1 p2 (1 : Int32) dd b1 (.val (.ref x_36)) (.val (.ref y_41)) (.val (.int (-1 : Int32))) .unset)) rfl k_) ?_
      refine own_st (fun t_ k_ => XS.iloadN X41.here hx rfl (hb hby at_121) rfl k_) ?_
      refine own_st (fun t_ k_ => XS.iconst X41.here hx rfl (hb hby at_122) k_) ?_
      show own_Go p e below T41 (mkF m 123 (own_A p0 p1 p2 (1 : Int32) dd b1 (.val (.ref x_36)) (.val (.ref y_41)) (.val (.int (-1 : Int32))) .unset) [(.int (4 : Int32)), (.int (1 : Int32))]) _
      refine own_st (fun t_ k_ => XS.icmpYes X41.here hx rfl (pc0 := 123) (pc' := 141) rfl (hb hby at_123) rfl (by decide) (by decide) (by decide) k_) ?_
      refine own_st (fun t_ k_ => XS.iloadN X41.here hx rfl (hb hby at_141) rfl k_) ?_
      refine own_st (fun t_ k_ => XS.iconst X41.here hx rfl (hb hby at_142) k_) ?_
      refine own_st (fun t_ k_ => XS.icmpYes X41.here hx rfl (pc0 := 143) (pc' := 161) rfl (hb hby at_143) rfl (by decide) (by decide) (by decide) k_) ?_
      refine own_st (fun t_ k_ => XS.iloadN X41.here hx rfl (hb hby at_161) rfl k_) ?_
      refine own_st (fun t_ k_ => XS.iconst X41.here hx rfl (hb hby at_162) k_) ?_
      show own_Go p e below T41 (mkF m 163 (own_A p0 p1 p2 (1 : Int32) dd b1 (.val (.ref x_36)) (.val (.ref y_41)) (.val (.int (-1 : Int32))) .unset) [(.int (2 : Int32)), (.int (1 : Int32))]) _
      refine own_st (fun t_ k_ => XS.icmpYes X41.here hx rfl (pc0 := 163) (pc' := 181) rfl (hb hby at_163) rfl (by decide) (by decide) (by decide) k_) ?_
      refine own_st (fun t_ k_ => XS.iloadN X41.here hx rfl (hb hby at_181) rfl k_) ?_
      refine own_st (fun t_ k_ => XS.iconst X41.here hx rfl (hb hby at_182) k_) ?_
      refine own_st (fun t_ k_ => XS.icmpYes X41.here hx rfl (pc0 := 183) (pc' := 201) rfl (hb hby at_183) rfl (by decide) (by decide) (by decide) k_) ?_
      refine own_st (fun t_ k_ => XS.aload X41.here hx rfl (hb hby at_201) rfl rfl k_) ?_
      refine own_st (fun t_ k_ => XS.iconst X41.here hx rfl (hb hby at_203) k_) ?_
      show own_Go p e below T41 (mkF m 204 (own_A p0 p1 p2 (1 : Int32) dd b1 (.val (.ref x_36)) (.val (.ref y_41)) (.val (.int (-1 : Int32))) .unset) [(.int (0 : Int32)), (.ref b1)]) _
      have f45 := ((V31.keep Kq36 nin0).keep Kq41 nin0)
      obtain ⟨cl46, Ar46, q46, Sz46, Nn46, Hh46, Gg46⟩ := id f45
      have hin46 : ¬ ((0 : Int32) < 0 ∨ cl46.slots.size ≤ ((0 : Int32)).toNatClampNeg) := inb_of Sz46 ⟨by decide, by decide⟩
      have hat46 : cl46.slots[((0 : Int32)).toNatClampNeg]? = some (.int r_5) := Has.at Hh46 hin46 rfl
      refine own_st (fun t_ k_ => X41.caload hx (j := (0 : Int32)) (v := (.int r_5)) (by exact Ar46.1) (State.isArrayOf_alike hZ.alike Ar46.2.1) Ar46.2.2 hin46 hat46 (g := (mkF m 204 (own_A p0 p1 p2 (1 : Int32) dd b1 (.val (.ref x_36)) (.val (.ref y_41)) (.val (.int (-1 : Int32))) .unset) [(.int (0 : Int32)), (.ref b1)])) rfl rfl (hb hby at_204) _ k_) ?_
      refine own_st (fun t_ k_ => XS.bipush X41.here hx rfl (hb hby at_205) k_) ?_
      refine own_st (fun t_ k_ => XS.icmpNo X41.here hx rfl (hb hby at_207) rfl (teq d0).2 k_) ?_
      refine own_st (fun t_ k_ => XS.iconst X41.here hx rfl (hb hby at_210) k_) ?_
      refine own_st (fun t_ k_ => XS.istore X41.here hx rfl (hb hby at_211) rfl (l' := (own_A p0 p1 p2 (1 : Int32) dd b1 (.val (.ref x_36)) (.val (.ref y_41)) (.val (.int (0 : Int32))) .unset)) rfl k_) ?_
      show own_Go p e below T41 (mkF m 213 (own_A p0 p1 p2 (1 : Int32) dd b1 (.val (.ref x_36)) (.val (.ref y_41)) (.val (.int (0 : Int32))) .unset) []) _
      refine own_st (fun t_ k_ => XS.iload X41.here hx rfl (hb hby at_213) rfl k_) ?_
      refine own_st (fun t_ k_ => XS.ifYes X41.here hx rfl (pc0 := 215) (pc' := 222) rfl (hb hby at_215) rfl (by decide) (by decide) (by decide) k_) ?_
      refine own_st (fun t_ k_ => XS.iload X41.here hx rfl (hb hby at_222) rfl k_) ?_
      refine own_st (fun t_ k_ => XS.istore X41.here hx rfl (hb hby at_224) rfl (l' := (own_A p0 p1 p2 (1 : Int32) dd b1 (.val (.ref x_36)) (.val (.ref y_41)) (.val (.int (0 : Int32))) (.val (.int (0 : Int32))))) rfl k_) ?_
      refine own_st (fun t_ k_ => XS.aload X41.here hx rfl (hb hby at_226) rfl rfl k_) ?_
      refine own_st (fun t_ k_ => XS.ifnullNo X41.here hx rfl (hb hby at_228) rfl k_) ?_
      show own_Go p e below T41 (mkF m 231 (own_A p0 p1 p2 (1 : Int32) dd b1 (.val (.ref x_36)) (.val (.ref y_41)) (.val (.int (0 : Int32))) (.val (.int (0 : Int32)))) []) _
      refine own_st (fun t_ k_ => XS.aload X41.here hx rfl (hb hby at_231) rfl rfl k_) ?_
      show own_Go p e below T41 (mkF m 233 (own_A p0 p1 p2 (1 : Int32) dd b1 (.val (.ref x_36)) (.val (.ref y_41)) (.val (.int (0 : Int32))) (.val (.int (0 : Int32)))) [(.ref y_41)]) _
      have hcd47 : StrChars.Road.CodA ([] : List Int32) 0 (0 : Int32) ((([] : List Int32).map (fun c : Int32 => c.toInt8.toInt32)).map Value.int) := StrChars.Road.codOf rfl (fun x hx => (hpe x hx).2)
      have hbd47 : ∀ x ∈ ([] : List Int32), ¬ x < 0 ∧ ¬ (65535 : Int32) < x := own_up _ hpe
      have f48 := (f40.keep Kq41 all0)
      obtain ⟨cq49, kq49, qa49, qb49, qc49⟩ := isOf hZ rfl q41_0
      obtain ⟨_, _, ⟨T49, L49, k49, n49⟩, -, X49, ⟨Lc49, hQ49, l49, y49, z49⟩, st49⟩ := X41.virtualBack hx (y := (⟨"java/lang/String", "length", "()I"⟩ : MethodName)) (z := (⟨"java/lang/String", "length", "()I"⟩ : MethodName)) hown (mvT hZ (hw _ (List.mem_of_getElem? (i := 112) rfl))) (mvT hZ (hw _ (List.mem_of_getElem? (i := 47) rfl))) (notFace_of_selects (args := #[]) (mvT hZ (hw _ (List.mem_of_getElem? (i := 49) rfl)))) (mvT hZ (hw _ (List.mem_of_getElem? (i := 49) rfl))) (mvT hZ (hw _ (List.mem_of_getElem? (i := 48) rfl))) (by decide) (StrChars.Road.lenW (W := 0) hZ hln (kI := 4) (hw _ (List.mem_of_getElem? (i := 9) rfl)) q41_0 q41_1 q41_2 q41_3 hcd47 hbd47 (pS_COMPACT_STRINGS.ext f48.2) pP5 (Nat.le_of_ble_eq_true rfl) (by decide) (by decide)) qa49 qc49 (g := (mkF m 233 (own_A p0 p1 p2 (1 : Int32) dd b1 (.val (.ref x_36)) (.val (.ref y_41)) (.val (.int (0 : Int32))) (.val (.int (0 : Int32)))) [(.ref y_41)])) rfl (by rw [hml]; rfl) (Steps.refl _) (argsL := []) (rest := []) (lenOf pd___I rfl) rfl (by show 2 * 0 + _ ≤ _; exact Nat.le_of_eq rfl) (hb hby at_233) (fun _ _ => ⟨rfl, rfl, (by decide : 6 + 0 ≤ _), (by decide : 19 + 0 ≤ _)⟩)
      dsimp only [Pt.U, Pt.locs, Pt.cells, Pt.slots] at X49 l49 y49 z49 st49 hQ49
      try dsimp only [Nat.reduceAdd] at y49 z49
      rw [l49, y49, z49] at X49
      obtain ⟨rfl, rfl, eH49⟩ := hQ49
      have N49 := Fr.app N41 (Fr.nil n0)
      refine own_tr st49 ?_
      show own_Go p e below T49 (mkF m 236 (own_A p0 p1 p2 (1 : Int32) dd b1 (.val (.ref x_36)) (.val (.ref y_41)) (.val (.int (0 : Int32))) (.val (.int (0 : Int32)))) [(.int (0 : Int32))]) _
      refine own_st (fun t_ k_ => XS.iload X49.here hx rfl (hb hby at_236) rfl k_) ?_
      refine own_st (fun t_ k_ => XS.icmpNo X49.here hx rfl (hb hby at_238) rfl (by decide) k_) ?_
      refine own_st (fun t_ k_ => XS.iload X49.here hx rfl (hb hby at_241) rfl k_) ?_
      refine own_st (fun t_ k_ => XS.iconst X49.here hx rfl (hb hby at_243) k_) ?_
      refine own_st (fun t_ k_ => XS.icmpYes X49.here hx rfl (pc0 := 244) (pc' := 260) rfl (hb hby at_244) rfl (by decide) (by decide) (by decide) k_) ?_
      show own_Go p e below T49 (mkF m 260 (own_A p0 p1 p2 (1 : Int32) dd b1 (.val (.ref x_36)) (.val (.ref y_41)) (.val (.int (0 : Int32))) (.val (.int (0 : Int32)))) []) _
      refine own_st (fun t_ k_ => XS.iload X49.here hx rfl (hb hby at_260) rfl k_) ?_
      refine own_st (fun t_ k_ => XS.iconst X49.here hx rfl (hb hby at_262) k_) ?_
      refine own_st (fun t_ k_ => XS.icmpYes X49.here hx rfl (pc0 := 263) (pc' := 279) rfl (hb hby at_263) rfl (by decide) (by decide) (by decide) k_) ?_
      refine own_st (fun t_ k_ => XS.iload X49.here hx rfl (hb hby at_279) rfl k_) ?_
      refine own_st (fun t_ k_ => XS.iconst X49.here hx rfl (hb hby at_281) k_) ?_
      refine own_st (fun t_ k_ => XS.icmpYes X49.here hx rfl (pc0 := 282) (pc' := 298) rfl (hb hby at_282) rfl (by decide) (by decide) (by decide) k_) ?_
      show own_Go p e below T49 (mkF m 298 (own_A p0 p1 p2 (1 : Int32) dd b1 (.val (.ref x_36)) (.val (.ref y_41)) (.val (.int (0 : Int32))) (.val (.int (0 : Int32)))) []) _
      refine own_st (fun t_ k_ => XS.iload X49.here hx rfl (hb hby at_298) rfl k_) ?_
      refine own_st (fun t_ k_ => XS.iconst X49.here hx rfl (hb hby at_300) k_) ?_
      refine own_st (fun t_ k_ => XS.icmpYes X49.here hx rfl (pc0 := 301) (pc' := 317) rfl (hb hby at_301) rfl (by decide) (by decide) (by decide) k_) ?_
      refine own_st (fun t_ k_ => XS.iconst X49.here hx rfl (hb hby at_317) k_) ?_
      refine own_st (fun t_ k_ => XS.goto X49.here hx rfl (pc0 := 318) (pc' := 322) rfl (hb hby at_318) (by decide) (by decide) k_) ?_
      show own_Go p e below T49 (mkF m 322 (own_A p0 p1 p2 (1 : Int32) dd b1 (.val (.ref x_36)) (.val (.ref y_41)) (.val (.int (0 : Int32))) (.val (.int (0 : Int32)))) [(.int (1 : Int32))]) _
      obtain ⟨fs, hr, hrun, hended, hRW⟩ := X49.leaveW hS (by rw [eH49]; exact hK41) (v := some (.int (1 : Int32))) (fun h => by rw [Bd.returns] at h; cases h)
      have hCend : CHr Z own_EL s.vm s.heap T49.vm T49.heap := by
        rw [hh, eH49]
        exact CHr.trans CR43 (CHv.at X49 hZ hEL CH43)
      refine own_fin (retN X49 hx (t := .boolean) Bd.returns (by simp) (hb hby at_322) hr) ⟨hrun, hended, _, _, rfl, ?_, hCend, hRW.1, hRW.2.1, hRW.2.2.1, hRW.2.2.2.mono (by decide) (by decide)⟩
      show Q_rmLaw Z p0 p1 p2 zc fm h0 n0 _ T49.heap _
      rw [eH49]
      exact ⟨rfl, N49, K44⟩
    · skip
      have hpe : ∀ c ∈ ([r_5] : List Int32), ¬ c < 0 ∧ ¬ (255 : Int32) < c := by
        intro c hc
        simp only [List.mem_cons, List.not_mem_nil, or_false] at hc
        subst hc
        exact own_ch255 q5_0
      have d0 := hj
      refine own_st (fun t_ k_ => XS.astore X41.here hx rfl (hb hby at_116) rfl rfl (l' := (own_A p0 p1 p2 (1 : Int32) dd b1 (.val (.ref x_36)) (.val (.ref y_41)) .unset .unset)) rfl k_) ?_
      refine own_st (fun t_ k_ => XS.iconst X41.here hx rfl (hb hby at_118) k_) ?_
      refine own_st (fun t_ k_ => XS.istore X41.here hx rfl (hb hby at_119) rfl (l' := (own_A p0 p1 p2 (1 : Int32) dd b1 (.val (.ref x_36)) (.val (.ref y_41)) (.val (.int (-1 : Int32))) .unset)) rfl k_) ?_
      refine own_st (fun t_ k_ => XS.iloadN X41.here hx rfl (hb hby at_121) rfl k_) ?_
      refine own_st (fun t_ k_ => XS.iconst X41.here hx rfl (hb hby at_122) k_) ?_
      show own_Go p e below T41 (mkF m 123 (own_A p0 p1 p2 (1 : Int32) dd b1 (.val (.ref x_36)) (.val (.ref y_41)) (.val (.int (-1 : Int32))) .unset) [(.int (4 : Int32)), (.int (1 : Int32))]) _
      refine own_st (fun t_ k_ => XS.icmpYes X41.here hx rfl (pc0 := 123) (pc' := 141) rfl (hb hby at_123) rfl (by decide) (by decide) (by decide) k_) ?_
      refine own_st (fun t_ k_ => XS.iloadN X41.here hx rfl (hb hby at_141) rfl k_) ?_
      refine own_st (fun t_ k_ => XS.iconst X41.here hx rfl (hb hby at_142) k_) ?_
      refine own_st (fun t_ k_ => XS.icmpYes X41.here hx rfl (pc0 := 143) (pc' := 161) rfl (hb hby at_143) rfl (by decide) (by decide) (by decide) k_) ?_
      refine own_st (fun t_ k_ => XS.iloadN X41.here hx rfl (hb hby at_161) rfl k_) ?_
      refine own_st (fun t_ k_ => XS.iconst X41.here hx rfl (hb hby at_162) k_) ?_
      show own_Go p e below T41 (mkF m 163 (own_A p0 p1 p2 (1 : Int32) dd b1 (.val (.ref x_36)) (.val (.ref y_41)) (.val (.int (-1 : Int32))) .unset) [(.int (2 : Int32)), (.int (1 : Int32))]) _
      refine own_st (fun t_ k_ => XS.icmpYes X41.here hx rfl (pc0 := 163) (pc' := 181) rfl (hb hby at_163) rfl (by decide) (by decide) (by decide) k_) ?_
      refine own_st (fun t_ k_ => XS.iloadN X41.here hx rfl (hb hby at_181) rfl k_) ?_
      refine own_st (fun t_ k_ => XS.iconst X41.here hx rfl (hb hby at_182) k_) ?_
      refine own_st (fun t_ k_ => XS.icmpYes X41.here hx rfl (pc0 := 183) (pc' := 201) rfl (hb hby at_183) rfl (by decide) (by decide) (by decide) k_) ?_
      refine own_st (fun t_ k_ => XS.aload X41.here hx rfl (hb hby at_201) rfl rfl k_) ?_
      refine own_st (fun t_ k_ => XS.iconst X41.here hx rfl (hb hby at_203) k_) ?_
      show own_Go p e below T41 (mkF m 204 (own_A p0 p1 p2 (1 : Int32) dd b1 (.val (.ref x_36)) (.val (.ref y_41)) (.val (.int (-1 : Int32))) .unset) [(.int (0 : Int32)), (.ref b1)]) _
      have f50 := ((V31.keep Kq36 nin0).keep Kq41 nin0)
      obtain ⟨cl51, Ar51, q51, Sz51, Nn51, Hh51, Gg51⟩ := id f50
      have hin51 : ¬ ((0 : Int32) < 0 ∨ cl51.slots.size ≤ ((0 : Int32)).toNatClampNeg) := inb_of Sz51 ⟨by decide, by decide⟩
      have hat51 : cl51.slots[((0 : Int32)).toNatClampNeg]? = some (.int r_5) := Has.at Hh51 hin51 rfl
      refine own_st (fun t_ k_ => X41.caload hx (j := (0 : Int32)) (v := (.int r_5)) (by exact Ar51.1) (State.isArrayOf_alike hZ.alike Ar51.2.1) Ar51.2.2 hin51 hat51 (g := (mkF m 204 (own_A p0 p1 p2 (1 : Int32) dd b1 (.val (.ref x_36)) (.val (.ref y_41)) (.val (.int (-1 : Int32))) .unset) [(.int (0 : Int32)), (.ref b1)])) rfl rfl (hb hby at_204) _ k_) ?_
      refine own_st (fun t_ k_ => XS.bipush X41.here hx rfl (hb hby at_205) k_) ?_
      refine own_st (fun t_ k_ => XS.icmpYes X41.here hx rfl (pc0 := 207) (pc' := 213) rfl (hb hby at_207) rfl (feq d0).2 (by decide) (by decide) k_) ?_
      refine own_st (fun t_ k_ => XS.iload X41.here hx rfl (hb hby at_213) rfl k_) ?_
      refine own_st (fun t_ k_ => XS.ifNo X41.here hx rfl (hb hby at_215) rfl (by decide) k_) ?_
      show own_Go p e below T41 (mkF m 218 (own_A p0 p1 p2 (1 : Int32) dd b1 (.val (.ref x_36)) (.val (.ref y_41)) (.val (.int (-1 : Int32))) .unset) []) _
      refine own_st (fun t_ k_ => XS.iconst X41.here hx rfl (hb hby at_218) k_) ?_
      refine own_st (fun t_ k_ => XS.goto X41.here hx rfl (pc0 := 219) (pc' := 224) rfl (hb hby at_219) (by decide) (by decide) k_) ?_
      refine own_st (fun t_ k_ => XS.istore X41.here hx rfl (hb hby at_224) rfl (l' := (own_A p0 p1 p2 (1 : Int32) dd b1 (.val (.ref x_36)) (.val (.ref y_41)) (.val (.int (-1 : Int32))) (.val (.int (1 : Int32))))) rfl k_) ?_
      refine own_st (fun t_ k_ => XS.aload X41.here hx rfl (hb hby at_226) rfl rfl k_) ?_
      refine own_st (fun t_ k_ => XS.ifnullNo X41.here hx rfl (hb hby at_228) rfl k_) ?_
      refine own_st (fun t_ k_ => XS.aload X41.here hx rfl (hb hby at_231) rfl rfl k_) ?_
      show own_Go p e below T41 (mkF m 233 (own_A p0 p1 p2 (1 : Int32) dd b1 (.val (.ref x_36)) (.val (.ref y_41)) (.val (.int (-1 : Int32))) (.val (.int (1 : Int32)))) [(.ref y_41)]) _
      have hcd52 : StrChars.Road.CodA ([r_5] : List Int32) 0 (1 : Int32) ((([r_5] : List Int32).map (fun c : Int32 => c.toInt8.toInt32)).map Value.int) := StrChars.Road.codOf rfl (fun x hx => (hpe x hx).2)
      have hbd52 : ∀ x ∈ ([r_5] : List Int32), ¬ x < 0 ∧ ¬ (65535 : Int32) < x := own_up _ hpe
      have f53 := (f40.keep Kq41 all0)
      obtain ⟨cq54, kq54, qa54, qb54, qc54⟩ := isOf hZ rfl q41_0
      obtain ⟨_, _, ⟨T54, L54, k54, n54⟩, -, X54, ⟨Lc54, hQ54, l54, y54, z54⟩, st54⟩ := X41.virtualBack hx (y := (⟨"java/lang/String", "length", "()I"⟩ : MethodName)) (z := (⟨"java/lang/String", "length", "()I"⟩ : MethodName)) hown (mvT hZ (hw _ (List.mem_of_getElem? (i := 112) rfl))) (mvT hZ (hw _ (List.mem_of_getElem? (i := 47) rfl))) (notFace_of_selects (args := #[]) (mvT hZ (hw _ (List.mem_of_getElem? (i := 49) rfl)))) (mvT hZ (hw _ (List.mem_of_getElem? (i := 49) rfl))) (mvT hZ (hw _ (List.mem_of_getElem? (i := 48) rfl))) (by decide) (StrChars.Road.lenW (W := 0) hZ hln (kI := 4) (hw _ (List.mem_of_getElem? (i := 9) rfl)) q41_0 q41_1 q41_2 q41_3 hcd52 hbd52 (pS_COMPACT_STRINGS.ext f53.2) pP5 (Nat.le_of_ble_eq_true rfl) (by decide) (by decide)) qa54 qc54 (g := (mkF m 233 (own_A p0 p1 p2 (1 : Int32) dd b1 (.val (.ref x_36)) (.val (.ref y_41)) (.val (.int (-1 : Int32))) (.val (.int (1 : Int32)))) [(.ref y_41)])) rfl (by rw [hml]; rfl) (Steps.refl _) (argsL := []) (rest := []) (lenOf pd___I rfl) rfl (by show 2 * 0 + _ ≤ _; exact Nat.le_of_eq rfl) (hb hby at_233) (fun _ _ => ⟨rfl, rfl, (by decide : 6 + 0 ≤ _), (by decide : 19 + 0 ≤ _)⟩)
      dsimp only [Pt.U, Pt.locs, Pt.cells, Pt.slots] at X54 l54 y54 z54 st54 hQ54
      try dsimp only [Nat.reduceAdd] at y54 z54
      rw [l54, y54, z54] at X54
      obtain ⟨rfl, rfl, eH54⟩ := hQ54
      have N54 := Fr.app N41 (Fr.nil n0)
      refine own_tr st54 ?_
      show own_Go p e below T54 (mkF m 236 (own_A p0 p1 p2 (1 : Int32) dd b1 (.val (.ref x_36)) (.val (.ref y_41)) (.val (.int (-1 : Int32))) (.val (.int (1 : Int32)))) [(.int (1 : Int32))]) _
      refine own_st (fun t_ k_ => XS.iload X54.here hx rfl (hb hby at_236) rfl k_) ?_
      refine own_st (fun t_ k_ => XS.icmpNo X54.here hx rfl (hb hby at_238) rfl (by decide) k_) ?_
      refine own_st (fun t_ k_ => XS.iload X54.here hx rfl (hb hby at_241) rfl k_) ?_
      refine own_st (fun t_ k_ => XS.iconst X54.here hx rfl (hb hby at_243) k_) ?_
      refine own_st (fun t_ k_ => XS.icmpNo X54.here hx rfl (hb hby at_244) rfl (by decide) k_) ?_
      show own_Go p e below T54 (mkF m 247 (own_A p0 p1 p2 (1 : Int32) dd b1 (.val (.ref x_36)) (.val (.ref y_41)) (.val (.int (-1 : Int32))) (.val (.int (1 : Int32)))) []) _
      refine own_st (fun t_ k_ => XS.aload X54.here hx rfl (hb hby at_247) rfl rfl k_) ?_
      refine own_st (fun t_ k_ => XS.iconst X54.here hx rfl (hb hby at_249) k_) ?_
      show own_Go p e below T54 (mkF m 250 (own_A p0 p1 p2 (1 : Int32) dd b1 (.val (.ref x_36)) (.val (.ref y_41)) (.val (.int (-1 : Int32))) (.val (.int (1 : Int32)))) [(.int (0 : Int32)), (.ref y_41)]) _
      obtain ⟨cq55, kq55, qa55, qb55, qc55⟩ := isOf hZ eH54 q41_0
      obtain ⟨_, _, ⟨T55, L55, k55, n55⟩, -, X55, ⟨Lc55, hQ55, l55, y55, z55⟩, st55⟩ := X54.virtualBack hx (y := (⟨"java/lang/String", "charAt", "(I)C"⟩ : MethodName)) (z := (⟨"java/lang/String", "charAt", "(I)C"⟩ : MethodName)) hown (mvT hZ (hw _ (List.mem_of_getElem? (i := 113) rfl))) (mvT hZ (hw _ (List.mem_of_getElem? (i := 114) rfl))) (notFace_of_selects (args := #[]) (mvT hZ (hw _ (List.mem_of_getElem? (i := 116) rfl)))) (mvT hZ (hw _ (List.mem_of_getElem? (i := 116) rfl))) (mvT hZ (hw _ (List.mem_of_getElem? (i := 115) rfl))) (by decide) (StrChars.Road.chN (W := 0) hZ hch (kI := 4) (hw _ (List.mem_of_getElem? (i := 9) rfl)) q41_0 q41_1 q41_2 q41_3 hcd52 hbd52 (pS_COMPACT_STRINGS.ext f53.2) pP5 (pS_SIOOBE_FORMATTER.ext f53.2) rfm (Nat.le_of_ble_eq_true rfl) (i := 0) (Nat.le_of_ble_eq_true rfl) (j := (0 : Int32)) rfl (by decide) (by decide)) qa55 qc55 (g := (mkF m 250 (own_A p0 p1 p2 (1 : Int32) dd b1 (.val (.ref x_36)) (.val (.ref y_41)) (.val (.int (-1 : Int32))) (.val (.int (1 : Int32)))) [(.int (0 : Int32)), (.ref y_41)])) rfl (by rw [hml]; rfl) (Steps.refl _) (argsL := [(.int (0 : Int32))]) (rest := []) (lenOf pd__I_C rfl) rfl (by show 2 * 0 + _ ≤ _; exact Nat.le_of_eq rfl) (hb hby at_250) (fun _ _ => ⟨rfl, eH54, (by decide : 6 + 0 ≤ _), (by decide : 19 + 0 ≤ _)⟩)
      dsimp only [Pt.U, Pt.locs, Pt.cells, Pt.slots] at X55 l55 y55 z55 st55 hQ55
      try dsimp only [Nat.reduceAdd] at y55 z55
      rw [l55, y55, z55] at X55
      obtain ⟨rfl, rfl, eH55⟩ := hQ55
      have N55 := Fr.app N54 (Fr.nil n0)
      refine own_tr st55 ?_
      show own_Go p e below T55 (mkF m 253 (own_A p0 p1 p2 (1 : Int32) dd b1 (.val (.ref x_36)) (.val (.ref y_41)) (.val (.int (-1 : Int32))) (.val (.int (1 : Int32)))) [(.int r_5)]) _
      refine own_st (fun t_ k_ => XS.aload X55.here hx rfl (hb hby at_253) rfl rfl k_) ?_
      refine own_st (fun t_ k_ => XS.iconst X55.here hx rfl (hb hby at_255) k_) ?_
      show own_Go p e below T55 (mkF m 256 (own_A p0 p1 p2 (1 : Int32) dd b1 (.val (.ref x_36)) (.val (.ref y_41)) (.val (.int (-1 : Int32))) (.val (.int (1 : Int32)))) [(.int (0 : Int32)), (.ref b1), (.int r_5)]) _
      obtain ⟨cl56, Ar56, q56, Sz56, Nn56, Hh56, Gg56⟩ := id f50
      have hin56 : ¬ ((0 : Int32) < 0 ∨ cl56.slots.size ≤ ((0 : Int32)).toNatClampNeg) := inb_of Sz56 ⟨by decide, by decide⟩
      have hat56 : cl56.slots[((0 : Int32)).toNatClampNeg]? = some (.int r_5) := Has.at Hh56 hin56 rfl
      refine own_st (fun t_ k_ => X55.caload hx (j := (0 : Int32)) (v := (.int r_5)) (by rw [eH55]; exact Ar56.1) (State.isArrayOf_alike hZ.alike Ar56.2.1) Ar56.2.2 hin56 hat56 (g := (mkF m 256 (own_A p0 p1 p2 (1 : Int32) dd b1 (.val (.ref x_36)) (.val (.ref y_41)) (.val (.int (-1 : Int32))) (.val (.int (1 : Int32)))) [(.int (0 : Int32)), (.ref b1), (.int r_5)])) rfl rfl (hb hby at_256) _ k_) ?_
      refine own_st (fun t_ k_ => XS.icmpNo X55.here hx rfl (hb hby at_257) rfl (teq rfl).2 k_) ?_
      refine own_st (fun t_ k_ => XS.iload X55.here hx rfl (hb hby at_260) rfl k_) ?_
      refine own_st (fun t_ k_ => XS.iconst X55.here hx rfl (hb hby at_262) k_) ?_
      refine own_st (fun t_ k_ => XS.icmpYes X55.here hx rfl (pc0 := 263) (pc' := 279) rfl (hb hby at_263) rfl (by decide) (by decide) (by decide) k_) ?_
      show own_Go p e below T55 (mkF m 279 (own_A p0 p1 p2 (1 : Int32) dd b1 (.val (.ref x_36)) (.val (.ref y_41)) (.val (.int (-1 : Int32))) (.val (.int (1 : Int32)))) []) _
      refine own_st (fun t_ k_ => XS.iload X55.here hx rfl (hb hby at_279) rfl k_) ?_
      refine own_st (fun t_ k_ => XS.iconst X55.here hx rfl (hb hby at_281) k_) ?_
      refine own_st (fun t_ k_ => XS.icmpYes X55.here hx rfl (pc0 := 282) (pc' := 298) rfl (hb hby at_282) rfl (by decide) (by decide) (by decide) k_) ?_
      refine own_st (fun t_ k_ => XS.iload X55.here hx rfl (hb hby at_298) rfl k_) ?_
      refine own_st (fun t_ k_ => XS.iconst X55.here hx rfl (hb hby at_300) k_) ?_
      refine own_st (fun t_ k_ => XS.icmpYes X55.here hx rfl (pc0 := 301) (pc' := 317) rfl (hb hby at_301) rfl (by decide) (by decide) (by decide) k_) ?_
      show own_Go p e below T55 (mkF m 317 (own_A p0 p1 p2 (1 : Int32) dd b1 (.val (.ref x_36)) (.val (.ref y_41)) (.val (.int (-1 : Int32))) (.val (.int (1 : Int32)))) []) _
      refine own_st (fun t_ k_ => XS.iconst X55.here hx rfl (hb hby at_317) k_) ?_
      refine own_st (fun t_ k_ => XS.goto X55.here hx rfl (pc0 := 318) (pc' := 322) rfl (hb hby at_318) (by decide) (by decide) k_) ?_
      show own_Go p e below T55 (mkF m 322 (own_A p0 p1 p2 (1 : Int32) dd b1 (.val (.ref x_36)) (.val (.ref y_41)) (.val (.int (-1 : Int32))) (.val (.int (1 : Int32)))) [(.int (1 : Int32))]) _
      obtain ⟨fs, hr, hrun, hended, hRW⟩ := X55.leaveW hS (by rw [eH55]; exact hK41) (v := some (.int (1 : Int32))) (fun h => by rw [Bd.returns] at h; cases h)
      have hCend : CHr Z own_EL s.vm s.heap T55.vm T55.heap := by
        rw [hh, eH55]
        exact CHr.trans CR43 (CHv.at X55 hZ hEL CH43)
      refine own_fin (retN X55 hx (t := .boolean) Bd.returns (by simp) (hb hby at_322) hr) ⟨hrun, hended, _, _, rfl, ?_, hCend, hRW.1, hRW.2.1, hRW.2.2.1, hRW.2.2.2.mono (by decide) (by decide)⟩
      show Q_rmLaw Z p0 p1 p2 zc fm h0 n0 _ T55.heap _
      rw [eH55]
      exact ⟨rfl, N55, K44⟩
  · skip
    show own_Go p e below T31 (mkF m 106 (own_A p0 p1 p2 (2 : Int32) dd b1 .unset .unset .unset .unset) [(.ref b1), (.int (2 : Int32))]) _
    have f57 := (Nat.le_trans f28 (Keep.of_wr W31).1)
    have f58 := ((((((pO.ext E1).wr W7 G1).wr W13 G1).wr W19 G1).wr W25 G1).wr W31 G1)
    obtain ⟨_, _, ⟨T59, L59, k59, n59⟩, -, X59, ⟨Lc59, hQ59, l59, y59, z59⟩, st59⟩ := Jvm.LawKit.callS X31 hx (y := (⟨"com/example/descriptor/descriptor/vocabulary/HierarchyParentPinLaw", "make", "(I[C)Ljava/lang/String;"⟩ : MethodName)) hown (mvT hZ (hw _ (List.mem_of_getElem? (i := 5) rfl))) (mvT hZ (hw _ (List.mem_of_getElem? (i := 6) rfl))) (mvT hZ (hw _ (List.mem_of_getElem? (i := 3) rfl))) (mvT hZ (hw _ (List.mem_of_getElem? (i := 7) rfl))) (by decide) (backOf (W := 0) (rmMk2 l Z a0 hw [] b1 k1 r_5 r_11 r_17 r_23 r_29 zc h31 n0 f57 V31 q5_0 q11_0 q17_0 q23_0 q29_0 pS_COMPACT_STRINGS pP5 f58) hZ (hw _ (List.mem_of_getElem? (i := 7) rfl)) (hw _ (List.mem_of_getElem? (i := 3) rfl)) (by decide) (by decide)) (g := (mkF m 106 (own_A p0 p1 p2 (2 : Int32) dd b1 .unset .unset .unset .unset) [(.ref b1), (.int (2 : Int32))])) rfl (by rw [hml]; rfl) (argsL := [(.int (2 : Int32)), (.ref b1)]) (rest := []) (lenOf pd__I_C_Ljava_lang_String_ rfl) rfl (by show 2 * 0 + _ ≤ _; exact Nat.le_of_eq rfl) (hb hby at_106) (fun _ _ => ⟨rfl, e31, (by decide : 1 + 3 ≤ _), (by decide : 5 + 8 ≤ _)⟩)
    dsimp only [Pt.U, Pt.locs, Pt.cells, Pt.slots] at X59 l59 y59 z59 st59 hQ59
    try dsimp only [Nat.reduceAdd] at y59 z59
    rw [l59, y59, z59] at X59
    obtain ⟨x_59, t_59, kb_59, rfl, Nq59, Kq59, q59_0, q59_1, q59_2, q59_3⟩ := hQ59
    have N59 := Fr.app N31 Nq59
    have CH60 := CH32.keep Kq59 sf0
    have CR60 := CHr.trans CR32 (CHr.keep Kq59 sf0 CH32)
    have K61 : Keep h0 T59.heap [] := K33.trans Kq59 all0
    refine own_st st59 ?_
    show own_Go p e below T59 (mkF m 109 (own_A p0 p1 p2 (2 : Int32) dd b1 .unset .unset .unset .unset) [(.ref x_59)]) _
    refine own_st (fun t_ k_ => XS.astore X59.here hx rfl (hb hby at_109) rfl rfl (l' := (own_A p0 p1 p2 (2 : Int32) dd b1 (.val (.ref x_59)) .unset .unset .unset)) rfl k_) ?_
    refine own_st (fun t_ k_ => XS.aload X59.here hx rfl (hb hby at_111) rfl rfl k_) ?_
    show own_Go p e below T59 (mkF m 113 (own_A p0 p1 p2 (2 : Int32) dd b1 (.val (.ref x_59)) .unset .unset .unset) [(.ref x_59)]) _
    have hch2 : ∀ c ∈ ([r_5, r_11] : List Int32), own_ch c := by
      intro c hc
      simp only [List.mem_cons, List.not_mem_nil, or_false] at hc
      rcases hc with rfl | rfl
      · exact q5_0
      · exact q11_0
    have f62 := (Nat.le_trans f57 Kq59.1)
    have f63 := (f58.keep Kq59 all0)
    have f65 := (Nat.le_trans (Nat.le_trans (Nat.le_trans (Nat.le_trans (Nat.le_trans (Nat.le_trans (Nat.le_trans hK0 E1.1) (Keep.of_wr W7).1) (Keep.of_wr W13).1) (Keep.of_wr W19).1) (Keep.of_wr W25).1) (Keep.of_wr W31).1) Kq59.1)
    obtain ⟨_, _, ⟨T64, L64, k64, n64⟩, -, Xa64, hSa64, hGa64, ⟨Lc64, hQ64, l64, y64, z64, A64⟩, st64⟩ := Jvm.RoadKit.callSS X59 hx (y := (⟨"com/example/descriptor/descriptor/vocabulary/Hierarchy", "parent", "(Ljava/lang/String;)Ljava/lang/String;"⟩ : MethodName)) hown (mvT hZ (hw _ (List.mem_of_getElem? (i := 37) rfl))) (mvT hZ (hw _ (List.mem_of_getElem? (i := 38) rfl))) (mvT hZ (hw _ (List.mem_of_getElem? (i := 39) rfl))) (mvT hZ (hw _ (List.mem_of_getElem? (i := 40) rfl))) (by decide) (backOfSH (W := 0) (rmPa l Z a0 hw [] x_59 t_59 kb_59 ((2 : Int32)) ([r_5, r_11]) zc fm T59.heap n0 f62 q59_0 q59_1 q59_2 q59_3 rfl (Nat.le_of_ble_eq_true rfl) hch2 (Nat.le_of_ble_eq_true rfl) pS_COMPACT_STRINGS pP5 pS_SIOOBE_FORMATTER rfm f63) hZ (hw _ (List.mem_of_getElem? (i := 40) rfl)) (hw _ (List.mem_of_getElem? (i := 39) rfl)) (by decide) (by decide) hEL CH60) (g := (mkF m 113 (own_A p0 p1 p2 (2 : Int32) dd b1 (.val (.ref x_59)) .unset .unset .unset) [(.ref x_59)])) rfl (by rw [hml]; rfl) (argsL := [(.ref x_59)]) (rest := []) (lenOf pd__Ljava_lang_String__Ljava_lang_String_ rfl) rfl (by show 2 * 0 + _ ≤ _; exact Nat.le_of_eq rfl) (hb hby at_113) (fun _ _ => ⟨rfl, rfl, (by decide : 4 + 2 ≤ _), (by decide : 13 + 8 ≤ _)⟩)
    dsimp only [Pt.U, Pt.locs, Pt.cells, Pt.slots] at Xa64 hSa64 hGa64 l64 y64 z64 A64 st64 hQ64
    try dsimp only [Nat.reduceAdd] at y64 z64
    rw [l64, y64, z64] at Xa64
    obtain ⟨X64, hS, hZ, hown⟩ := rebS hS f65 Xa64 hSa64 hGa64 hZ hown
    obtain ⟨y_64, b_64, kb_64, el_64, us_64, rfl, Nq64, Kq64, q64_0, q64_1, q64_2, q64_3, q64_4⟩ := hQ64
    have N64 := Fr.app N59 Nq64
    have CH66 := A64.1
    have CR66 := CHr.trans CR60 (A64)
    have K67 : Keep h0 T64.heap [] := K61.trans Kq64 all0
    have hK64 : T64.heap.size ≤ T64.heap.size := Nat.le_refl _
    refine own_tr st64 ?_
    show own_Go p e below T64 (mkF m 116 (own_A p0 p1 p2 (2 : Int32) dd b1 (.val (.ref x_59)) .unset .unset .unset) [(.ref y_64)]) _
    rcases own_pa2 q64_4 with ⟨rfl, rfl, hj⟩ | ⟨rfl, rfl, hj⟩ | ⟨rfl, rfl, hj⟩
    · skip
      have hpe : ∀ c ∈ ([r_5] : List Int32), ¬ c < 0 ∧ ¬ (255 : Int32) < c := by
        intro c hc
        simp only [List.mem_cons, List.not_mem_nil, or_false] at hc
        subst hc
        exact own_ch255 q5_0
      have d1 := hj
      refine own_st (fun t_ k_ => XS.astore X64.here hx rfl (hb hby at_116) rfl rfl (l' := (own_A p0 p1 p2 (2 : Int32) dd b1 (.val (.ref x_59)) (.val (.ref y_64)) .unset .unset)) rfl k_) ?_
      refine own_st (fun t_ k_ => XS.iconst X64.here hx rfl (hb hby at_118) k_) ?_
      refine own_st (fun t_ k_ => XS.istore X64.here hx rfl (hb hby at_119) rfl (l' := (own_A p0 p1 p2 (2 : Int32) dd b1 (.val (.ref x_59)) (.val (.ref y_64)) (.val (.int (-1 : Int32))) .unset)) rfl k_) ?_
      refine own_st (fun t_ k_ => XS.iloadN X64.here hx rfl (hb hby at_121) rfl k_) ?_
      refine own_st (fun t_ k_ => XS.iconst X64.here hx rfl (hb hby at_122) k_) ?_
      show own_Go p e below T64 (mkF m 123 (own_A p0 p1 p2 (2 : Int32) dd b1 (.val (.ref x_59)) (.val (.ref y_64)) (.val (.int (-1 : Int32))) .unset) [(.int (4 : Int32)), (.int (2 : Int32))]) _
      refine own_st (fun t_ k_ => XS.icmpYes X64.here hx rfl (pc0 := 123) (pc' := 141) rfl (hb hby at_123) rfl (by decide) (by decide) (by decide) k_) ?_
      refine own_st (fun t_ k_ => XS.iloadN X64.here hx rfl (hb hby at_141) rfl k_) ?_
      refine own_st (fun t_ k_ => XS.iconst X64.here hx rfl (hb hby at_142) k_) ?_
      refine own_st (fun t_ k_ => XS.icmpYes X64.here hx rfl (pc0 := 143) (pc' := 161) rfl (hb hby at_143) rfl (by decide) (by decide) (by decide) k_) ?_
      refine own_st (fun t_ k_ => XS.iloadN X64.here hx rfl (hb hby at_161) rfl k_) ?_
      refine own_st (fun t_ k_ => XS.iconst X64.here hx rfl (hb hby at_162) k_) ?_
      show own_Go p e below T64 (mkF m 163 (own_A p0 p1 p2 (2 : Int32) dd b1 (.val (.ref x_59)) (.val (.ref y_64)) (.val (.int (-1 : Int32))) .unset) [(.int (2 : Int32)), (.int (2 : Int32))]) _
      refine own_st (fun t_ k_ => XS.icmpYes X64.here hx rfl (pc0 := 163) (pc' := 181) rfl (hb hby at_163) rfl (by decide) (by decide) (by decide) k_) ?_
      refine own_st (fun t_ k_ => XS.iloadN X64.here hx rfl (hb hby at_181) rfl k_) ?_
      refine own_st (fun t_ k_ => XS.iconst X64.here hx rfl (hb hby at_182) k_) ?_
      refine own_st (fun t_ k_ => XS.icmpNo X64.here hx rfl (hb hby at_183) rfl (by decide) k_) ?_
      refine own_st (fun t_ k_ => XS.aload X64.here hx rfl (hb hby at_186) rfl rfl k_) ?_
      refine own_st (fun t_ k_ => XS.iconst X64.here hx rfl (hb hby at_188) k_) ?_
      show own_Go p e below T64 (mkF m 189 (own_A p0 p1 p2 (2 : Int32) dd b1 (.val (.ref x_59)) (.val (.ref y_64)) (.val (.int (-1 : Int32))) .unset) [(.int (1 : Int32)), (.ref b1)]) _
      have f68 := ((V31.keep Kq59 nin0).keep Kq64 nin0)
      obtain ⟨cl69, Ar69, q69, Sz69, Nn69, Hh69, Gg69⟩ := id f68
      have hin69 : ¬ ((1 : Int32) < 0 ∨ cl69.slots.size ≤ ((1 : Int32)).toNatClampNeg) := inb_of Sz69 ⟨by decide, by decide⟩
      have hat69 : cl69.slots[((1 : Int32)).toNatClampNeg]? = some (.int r_11) := Has.at Hh69 hin69 rfl
      refine own_st (fun t_ k_ => X64.caload hx (j := (1 : Int32)) (v := (.int r_11)) (by exact Ar69.1) (State.isArrayOf_alike hZ.alike Ar69.2.1) Ar69.2.2 hin69 hat69 (g := (mkF m 189 (own_A p0 p1 p2 (2 : Int32) dd b1 (.val (.ref x_59)) (.val (.ref y_64)) (.val (.int (-1 : Int32))) .unset) [(.int (1 : Int32)), (.ref b1)])) rfl rfl (hb hby at_189) _ k_) ?_
      refine own_st (fun t_ k_ => XS.bipush X64.here hx rfl (hb hby at_190) k_) ?_
      refine own_st (fun t_ k_ => XS.icmpNo X64.here hx rfl (hb hby at_192) rfl (teq d1).2 k_) ?_
      refine own_st (fun t_ k_ => XS.iconst X64.here hx rfl (hb hby at_195) k_) ?_
      refine own_st (fun t_ k_ => XS.istore X64.here hx rfl (hb hby at_196) rfl (l' := (own_A p0 p1 p2 (2 : Int32) dd b1 (.val (.ref x_59)) (.val (.ref y_64)) (.val (.int (1 : Int32))) .unset)) rfl k_) ?_
      show own_Go p e below T64 (mkF m 198 (own_A p0 p1 p2 (2 : Int32) dd b1 (.val (.ref x_59)) (.val (.ref y_64)) (.val (.int (1 : Int32))) .unset) []) _
      refine own_st (fun t_ k_ => XS.goto X64.here hx rfl (pc0 := 198) (pc' := 213) rfl (hb hby at_198) (by decide) (by decide) k_) ?_
      refine own_st (fun t_ k_ => XS.iload X64.here hx rfl (hb hby at_213) rfl k_) ?_
      refine own_st (fun t_ k_ => XS.ifYes X64.here hx rfl (pc0 := 215) (pc' := 222) rfl (hb hby at_215) rfl (by decide) (by decide) (by decide) k_) ?_
      refine own_st (fun t_ k_ => XS.iload X64.here hx rfl (hb hby at_222) rfl k_) ?_
      refine own_st (fun t_ k_ => XS.istore X64.here hx rfl (hb hby at_224) rfl (l' := (own_A p0 p1 p2 (2 : Int32) dd b1 (.val (.ref x_59)) (.val (.ref y_64)) (.val (.int (1 : Int32))) (.val (.int (1 : Int32))))) rfl k_) ?_
      refine own_st (fun t_ k_ => XS.aload X64.here hx rfl (hb hby at_226) rfl rfl k_) ?_
      show own_Go p e below T64 (mkF m 228 (own_A p0 p1 p2 (2 : Int32) dd b1 (.val (.ref x_59)) (.val (.ref y_64)) (.val (.int (1 : Int32))) (.val (.int (1 : Int32)))) [(.ref y_64)]) _
      refine own_st (fun t_ k_ => XS.ifnullNo X64.here hx rfl (hb hby at_228) rfl k_) ?_
      refine own_st (fun t_ k_ => XS.aload X64.here hx rfl (hb hby at_231) rfl rfl k_) ?_
      show own_Go p e below T64 (mkF m 233 (own_A p0 p1 p2 (2 : Int32) dd b1 (.val (.ref x_59)) (.val (.ref y_64)) (.val (.int (1 : Int32))) (.val (.int (1 : Int32)))) [(.ref y_64)]) _
      have hcd70 : StrChars.Road.CodA ([r_5] : List Int32) 0 (1 : Int32) ((([r_5] : List Int32).map (fun c : Int32 => c.toInt8.toInt32)).map Value.int) := StrChars.Road.codOf rfl (fun x hx => (hpe x hx).2)
      have hbd70 : ∀ x ∈ ([r_5] : List Int32), ¬ x < 0 ∧ ¬ (65535 : Int32) < x := own_up _ hpe
      have f71 := (f63.keep Kq64 all0)
      obtain ⟨cq72, kq72, qa72, qb72, qc72⟩ := isOf hZ rfl q64_0
      obtain ⟨_, _, ⟨T72, L72, k72, n72⟩, -, X72, ⟨Lc72, hQ72, l72, y72, z72⟩, st72⟩ := X64.virtualBack hx (y := (⟨"java/lang/String", "length", "()I"⟩ : MethodName)) (z := (⟨"java/lang/String", "length", "()I"⟩ : MethodName)) hown (mvT hZ (hw _ (List.mem_of_getElem? (i := 112) rfl))) (mvT hZ (hw _ (List.mem_of_getElem? (i := 47) rfl))) (notFace_of_selects (args := #[]) (mvT hZ (hw _ (List.mem_of_getElem? (i := 49) rfl)))) (mvT hZ (hw _ (List.mem_of_getElem? (i := 49) rfl))) (mvT hZ (hw _ (List.mem_of_getElem? (i := 48) rfl))) (by decide) (StrChars.Road.lenW (W := 0) hZ hln (kI := 4) (hw _ (List.mem_of_getElem? (i := 9) rfl)) q64_0 q64_1 q64_2 q64_3 hcd70 hbd70 (pS_COMPACT_STRINGS.ext f71.2) pP5 (Nat.le_of_ble_eq_true rfl) (by decide) (by decide)) qa72 qc72 (g := (mkF m 233 (own_A p0 p1 p2 (2 : Int32) dd b1 (.val (.ref x_59)) (.val (.ref y_64)) (.val (.int (1 : Int32))) (.val (.int (1 : Int32)))) [(.ref y_64)])) rfl (by rw [hml]; rfl) (Steps.refl _) (argsL := []) (rest := []) (lenOf pd___I rfl) rfl (by show 2 * 0 + _ ≤ _; exact Nat.le_of_eq rfl) (hb hby at_233) (fun _ _ => ⟨rfl, rfl, (by decide : 6 + 0 ≤ _), (by decide : 21 + 0 ≤ _)⟩)
      dsimp only [Pt.U, Pt.locs, Pt.cells, Pt.slots] at X72 l72 y72 z72 st72 hQ72
      try dsimp only [Nat.reduceAdd] at y72 z72
      rw [l72, y72, z72] at X72
      obtain ⟨rfl, rfl, eH72⟩ := hQ72
      have N72 := Fr.app N64 (Fr.nil n0)
      refine own_tr st72 ?_
      show own_Go p e below T72 (mkF m 236 (own_A p0 p1 p2 (2 : Int32) dd b1 (.val (.ref x_59)) (.val (.ref y_64)) (.val (.int (1 : Int32))) (.val (.int (1 : Int32)))) [(.int (1 : Int32))]) _
      refine own_st (fun t_ k_ => XS.iload X72.here hx rfl (hb hby at_236) rfl k_) ?_
      refine own_st (fun t_ k_ => XS.icmpNo X72.here hx rfl (hb hby at_238) rfl (by decide) k_) ?_
      refine own_st (fun t_ k_ => XS.iload X72.here hx rfl (hb hby at_241) rfl k_) ?_
      refine own_st (fun t_ k_ => XS.iconst X72.here hx rfl (hb hby at_243) k_) ?_
      refine own_st (fun t_ k_ => XS.icmpNo X72.here hx rfl (hb hby at_244) rfl (by decide) k_) ?_
      show own_Go p e below T72 (mkF m 247 (own_A p0 p1 p2 (2 : Int32) dd b1 (.val (.ref x_59)) (.val (.ref y_64)) (.val (.int (1 : Int32))) (.val (.int (1 : Int32)))) []) _
      refine own_st (fun t_ k_ => XS.aload X72.here hx rfl (hb hby at_247) rfl rfl k_) ?_
      refine own_st (fun t_ k_ => XS.iconst X72.here hx rfl (hb hby at_249) k_) ?_
      show own_Go p e below T72 (mkF m 250 (own_A p0 p1 p2 (2 : Int32) dd b1 (.val (.ref x_59)) (.val (.ref y_64)) (.val (.int (1 : Int32))) (.val (.int (1 : Int32)))) [(.int (0 : Int32)), (.ref y_64)]) _
      obtain ⟨cq73, kq73, qa73, qb73, qc73⟩ := isOf hZ eH72 q64_0
      obtain ⟨_, _, ⟨T73, L73, k73, n73⟩, -, X73, ⟨Lc73, hQ73, l73, y73, z73⟩, st73⟩ := X72.virtualBack hx (y := (⟨"java/lang/String", "charAt", "(I)C"⟩ : MethodName)) (z := (⟨"java/lang/String", "charAt", "(I)C"⟩ : MethodName)) hown (mvT hZ (hw _ (List.mem_of_getElem? (i := 113) rfl))) (mvT hZ (hw _ (List.mem_of_getElem? (i := 114) rfl))) (notFace_of_selects (args := #[]) (mvT hZ (hw _ (List.mem_of_getElem? (i := 116) rfl)))) (mvT hZ (hw _ (List.mem_of_getElem? (i := 116) rfl))) (mvT hZ (hw _ (List.mem_of_getElem? (i := 115) rfl))) (by decide) (StrChars.Road.chN (W := 0) hZ hch (kI := 4) (hw _ (List.mem_of_getElem? (i := 9) rfl)) q64_0 q64_1 q64_2 q64_3 hcd70 hbd70 (pS_COMPACT_STRINGS.ext f71.2) pP5 (pS_SIOOBE_FORMATTER.ext f71.2) rfm (Nat.le_of_ble_eq_true rfl) (i := 0) (Nat.le_of_ble_eq_true rfl) (j := (0 : Int32)) rfl (by decide) (by decide)) qa73 qc73 (g := (mkF m 250 (own_A p0 p1 p2 (2 : Int32) dd b1 (.val (.ref x_59)) (.val (.ref y_64)) (.val (.int (1 : Int32))) (.val (.int (1 : Int32)))) [(.int (0 : Int32)), (.ref y_64)])) rfl (by rw [hml]; rfl) (Steps.refl _) (argsL := [(.int (0 : Int32))]) (rest := []) (lenOf pd__I_C rfl) rfl (by show 2 * 0 + _ ≤ _; exact Nat.le_of_eq rfl) (hb hby at_250) (fun _ _ => ⟨rfl, eH72, (by decide : 6 + 0 ≤ _), (by decide : 21 + 0 ≤ _)⟩)
      dsimp only [Pt.U, Pt.locs, Pt.cells, Pt.slots] at X73 l73 y73 z73 st73 hQ73
      try dsimp only [Nat.reduceAdd] at y73 z73
      rw [l73, y73, z73] at X73
      obtain ⟨rfl, rfl, eH73⟩ := hQ73
      have N73 := Fr.app N72 (Fr.nil n0)
      refine own_tr st73 ?_
      show own_Go p e below T73 (mkF m 253 (own_A p0 p1 p2 (2 : Int32) dd b1 (.val (.ref x_59)) (.val (.ref y_64)) (.val (.int (1 : Int32))) (.val (.int (1 : Int32)))) [(.int r_5)]) _
      refine own_st (fun t_ k_ => XS.aload X73.here hx rfl (hb hby at_253) rfl rfl k_) ?_
      refine own_st (fun t_ k_ => XS.iconst X73.here hx rfl (hb hby at_255) k_) ?_
      show own_Go p e below T73 (mkF m 256 (own_A p0 p1 p2 (2 : Int32) dd b1 (.val (.ref x_59)) (.val (.ref y_64)) (.val (.int (1 : Int32))) (.val (.int (1 : Int32)))) [(.int (0 : Int32)), (.ref b1), (.int r_5)]) _
      obtain ⟨cl74, Ar74, q74, Sz74, Nn74, Hh74, Gg74⟩ := id f68
      have hin74 : ¬ ((0 : Int32) < 0 ∨ cl74.slots.size ≤ ((0 : Int32)).toNatClampNeg) := inb_of Sz74 ⟨by decide, by decide⟩
      have hat74 : cl74.slots[((0 : Int32)).toNatClampNeg]? = some (.int r_5) := Has.at Hh74 hin74 rfl
      refine own_st (fun t_ k_ => X73.caload hx (j := (0 : Int32)) (v := (.int r_5)) (by rw [eH73]; exact Ar74.1) (State.isArrayOf_alike hZ.alike Ar74.2.1) Ar74.2.2 hin74 hat74 (g := (mkF m 256 (own_A p0 p1 p2 (2 : Int32) dd b1 (.val (.ref x_59)) (.val (.ref y_64)) (.val (.int (1 : Int32))) (.val (.int (1 : Int32)))) [(.int (0 : Int32)), (.ref b1), (.int r_5)])) rfl rfl (hb hby at_256) _ k_) ?_
      refine own_st (fun t_ k_ => XS.icmpNo X73.here hx rfl (hb hby at_257) rfl (teq rfl).2 k_) ?_
      refine own_st (fun t_ k_ => XS.iload X73.here hx rfl (hb hby at_260) rfl k_) ?_
      refine own_st (fun t_ k_ => XS.iconst X73.here hx rfl (hb hby at_262) k_) ?_
      refine own_st (fun t_ k_ => XS.icmpYes X73.here hx rfl (pc0 := 263) (pc' := 279) rfl (hb hby at_263) rfl (by decide) (by decide) (by decide) k_) ?_
      show own_Go p e below T73 (mkF m 279 (own_A p0 p1 p2 (2 : Int32) dd b1 (.val (.ref x_59)) (.val (.ref y_64)) (.val (.int (1 : Int32))) (.val (.int (1 : Int32)))) []) _
      refine own_st (fun t_ k_ => XS.iload X73.here hx rfl (hb hby at_279) rfl k_) ?_
      refine own_st (fun t_ k_ => XS.iconst X73.here hx rfl (hb hby at_281) k_) ?_
      refine own_st (fun t_ k_ => XS.icmpYes X73.here hx rfl (pc0 := 282) (pc' := 298) rfl (hb hby at_282) rfl (by decide) (by decide) (by decide) k_) ?_
      refine own_st (fun t_ k_ => XS.iload X73.here hx rfl (hb hby at_298) rfl k_) ?_
      refine own_st (fun t_ k_ => XS.iconst X73.here hx rfl (hb hby at_300) k_) ?_
      refine own_st (fun t_ k_ => XS.icmpYes X73.here hx rfl (pc0 := 301) (pc' := 317) rfl (hb hby at_301) rfl (by decide) (by decide) (by decide) k_) ?_
      show own_Go p e below T73 (mkF m 317 (own_A p0 p1 p2 (2 : Int32) dd b1 (.val (.ref x_59)) (.val (.ref y_64)) (.val (.int (1 : Int32))) (.val (.int (1 : Int32)))) []) _
      refine own_st (fun t_ k_ => XS.iconst X73.here hx rfl (hb hby at_317) k_) ?_
      refine own_st (fun t_ k_ => XS.goto X73.here hx rfl (pc0 := 318) (pc' := 322) rfl (hb hby at_318) (by decide) (by decide) k_) ?_
      show own_Go p e below T73 (mkF m 322 (own_A p0 p1 p2 (2 : Int32) dd b1 (.val (.ref x_59)) (.val (.ref y_64)) (.val (.int (1 : Int32))) (.val (.int (1 : Int32)))) [(.int (1 : Int32))]) _
      obtain ⟨fs, hr, hrun, hended, hRW⟩ := X73.leaveW hS (by rw [eH73]; exact hK64) (v := some (.int (1 : Int32))) (fun h => by rw [Bd.returns] at h; cases h)
      have hCend : CHr Z own_EL s.vm s.heap T73.vm T73.heap := by
        rw [hh, eH73]
        exact CHr.trans CR66 (CHv.at X73 hZ hEL CH66)
      refine own_fin (retN X73 hx (t := .boolean) Bd.returns (by simp) (hb hby at_322) hr) ⟨hrun, hended, _, _, rfl, ?_, hCend, hRW.1, hRW.2.1, hRW.2.2.1, hRW.2.2.2.mono (by decide) (by decide)⟩
      show Q_rmLaw Z p0 p1 p2 zc fm h0 n0 _ T73.heap _
      rw [eH73]
      exact ⟨rfl, N73, K67⟩
    · skip
      have hpe : ∀ c ∈ ([] : List Int32), ¬ c < 0 ∧ ¬ (255 : Int32) < c := by
        intro c hc
        simp only [List.mem_cons, List.not_mem_nil, or_false] at hc
      obtain ⟨d0, d1⟩ := hj
      refine own_st (fun t_ k_ => XS.astore X64.here hx rfl (hb hby at_116) rfl rfl (l' := (own_A p0 p1 p2 (2 : Int32) dd b1 (.val (.ref x_59)) (.val (.ref y_64)) .unset .unset)) rfl k_) ?_
      refine own_st (fun t_ k_ => XS.iconst X64.here hx rfl (hb hby at_118) k_) ?_
      refine own_st (fun t_ k_ => XS.istore X64.here hx rfl (hb hby at_119) rfl (l' := (own_A p0 p1 p2 (2 : Int32) dd b1 (.val (.ref x_59)) (.val (.ref y_64)) (.val (.int (-1 : Int32))) .unset)) rfl k_) ?_
      refine own_st (fun t_ k_ => XS.iloadN X64.here hx rfl (hb hby at_121) rfl k_) ?_
      refine own_st (fun t_ k_ => XS.iconst X64.here hx rfl (hb hby at_122) k_) ?_
      show own_Go p e below T64 (mkF m 123 (own_A p0 p1 p2 (2 : Int32) dd b1 (.val (.ref x_59)) (.val (.ref y_64)) (.val (.int (-1 : Int32))) .unset) [(.int (4 : Int32)), (.int (2 : Int32))]) _
      refine own_st (fun t_ k_ => XS.icmpYes X64.here hx rfl (pc0 := 123) (pc' := 141) rfl (hb hby at_123) rfl (by decide) (by decide) (by decide) k_) ?_
      refine own_st (fun t_ k_ => XS.iloadN X64.here hx rfl (hb hby at_141) rfl k_) ?_
      refine own_st (fun t_ k_ => XS.iconst X64.here hx rfl (hb hby at_142) k_) ?_
      refine own_st (fun t_ k_ => XS.icmpYes X64.here hx rfl (pc0 := 143) (pc' := 161) rfl (hb hby at_143) rfl (by decide) (by decide) (by decide) k_) ?_
      refine own_st (fun t_ k_ => XS.iloadN X64.here hx rfl (hb hby at_161) rfl k_) ?_
      refine own_st (fun t_ k_ => XS.iconst X64.here hx rfl (hb hby at_162) k_) ?_
      show own_Go p e below T64 (mkF m 163 (own_A p0 p1 p2 (2 : Int32) dd b1 (.val (.ref x_59)) (.val (.ref y_64)) (.val (.int (-1 : Int32))) .unset) [(.int (2 : Int32)), (.int (2 : Int32))]) _
      refine own_st (fun t_ k_ => XS.icmpYes X64.here hx rfl (pc0 := 163) (pc' := 181) rfl (hb hby at_163) rfl (by decide) (by decide) (by decide) k_) ?_
      refine own_st (fun t_ k_ => XS.iloadN X64.here hx rfl (hb hby at_181) rfl k_) ?_
      refine own_st (fun t_ k_ => XS.iconst X64.here hx rfl (hb hby at_182) k_) ?_
      refine own_st (fun t_ k_ => XS.icmpNo X64.here hx rfl (hb hby at_183) rfl (by decide) k_) ?_
      refine own_st (fun t_ k_ => XS.aload X64.here hx rfl (hb hby at_186) rfl rfl k_) ?_
      refine own_st (fun t_ k_ => XS.iconst X64.here hx rfl (hb hby at_188) k_) ?_
      show own_Go p e below T64 (mkF m 189 (own_A p0 p1 p2 (2 : Int32) dd b1 (.val (.ref x_59)) (.val (.ref y_64)) (.val (.int (-1 : Int32))) .unset) [(.int (1 : Int32)), (.ref b1)]) _
      have f75 := ((V31.keep Kq59 nin0).keep Kq64 nin0)
      obtain ⟨cl76, Ar76, q76, Sz76, Nn76, Hh76, Gg76⟩ := id f75
      have hin76 : ¬ ((1 : Int32) < 0 ∨ cl76.slots.size ≤ ((1 : Int32)).toNatClampNeg) := inb_of Sz76 ⟨by decide, by decide⟩
      have hat76 : cl76.slots[((1 : Int32)).toNatClampNeg]? = some (.int r_11) := Has.at Hh76 hin76 rfl
      refine own_st (fun t_ k_ => X64.caload hx (j := (1 : Int32)) (v := (.int r_11)) (by exact Ar76.1) (State.isArrayOf_alike hZ.alike Ar76.2.1) Ar76.2.2 hin76 hat76 (g := (mkF m 189 (own_A p0 p1 p2 (2 : Int32) dd b1 (.val (.ref x_59)) (.val (.ref y_64)) (.val (.int (-1 : Int32))) .unset) [(.int (1 : Int32)), (.ref b1)])) rfl rfl (hb hby at_189) _ k_) ?_
      refine own_st (fun t_ k_ => XS.bipush X64.here hx rfl (hb hby at_190) k_) ?_
      refine own_st (fun t_ k_ => XS.icmpYes X64.here hx rfl (pc0 := 192) (pc' := 201) rfl (hb hby at_192) rfl (feq d1).2 (by decide) (by decide) k_) ?_
      refine own_st (fun t_ k_ => XS.aload X64.here hx rfl (hb hby at_201) rfl rfl k_) ?_
      refine own_st (fun t_ k_ => XS.iconst X64.here hx rfl (hb hby at_203) k_) ?_
      show own_Go p e below T64 (mkF m 204 (own_A p0 p1 p2 (2 : Int32) dd b1 (.val (.ref x_59)) (.val (.ref y_64)) (.val (.int (-1 : Int32))) .unset) [(.int (0 : Int32)), (.ref b1)]) _
      obtain ⟨cl77, Ar77, q77, Sz77, Nn77, Hh77, Gg77⟩ := id f75
      have hin77 : ¬ ((0 : Int32) < 0 ∨ cl77.slots.size ≤ ((0 : Int32)).toNatClampNeg) := inb_of Sz77 ⟨by decide, by decide⟩
      have hat77 : cl77.slots[((0 : Int32)).toNatClampNeg]? = some (.int r_5) := Has.at Hh77 hin77 rfl
      refine own_st (fun t_ k_ => X64.caload hx (j := (0 : Int32)) (v := (.int r_5)) (by exact Ar77.1) (State.isArrayOf_alike hZ.alike Ar77.2.1) Ar77.2.2 hin77 hat77 (g := (mkF m 204 (own_A p0 p1 p2 (2 : Int32) dd b1 (.val (.ref x_59)) (.val (.ref y_64)) (.val (.int (-1 : Int32))) .unset) [(.int (0 : Int32)), (.ref b1)])) rfl rfl (hb hby at_204) _ k_) ?_
      refine own_st (fun t_ k_ => XS.bipush X64.here hx rfl (hb hby at_205) k_) ?_
      refine own_st (fun t_ k_ => XS.icmpNo X64.here hx rfl (hb hby at_207) rfl (teq d0).2 k_) ?_
      refine own_st (fun t_ k_ => XS.iconst X64.here hx rfl (hb hby at_210) k_) ?_
      refine own_st (fun t_ k_ => XS.istore X64.here hx rfl (hb hby at_211) rfl (l' := (own_A p0 p1 p2 (2 : Int32) dd b1 (.val (.ref x_59)) (.val (.ref y_64)) (.val (.int (0 : Int32))) .unset)) rfl k_) ?_
      show own_Go p e below T64 (mkF m 213 (own_A p0 p1 p2 (2 : Int32) dd b1 (.val (.ref x_59)) (.val (.ref y_64)) (.val (.int (0 : Int32))) .unset) []) _
      refine own_st (fun t_ k_ => XS.iload X64.here hx rfl (hb hby at_213) rfl k_) ?_
      refine own_st (fun t_ k_ => XS.ifYes X64.here hx rfl (pc0 := 215) (pc' := 222) rfl (hb hby at_215) rfl (by decide) (by decide) (by decide) k_) ?_
      refine own_st (fun t_ k_ => XS.iload X64.here hx rfl (hb hby at_222) rfl k_) ?_
      refine own_st (fun t_ k_ => XS.istore X64.here hx rfl (hb hby at_224) rfl (l' := (own_A p0 p1 p2 (2 : Int32) dd b1 (.val (.ref x_59)) (.val (.ref y_64)) (.val (.int (0 : Int32))) (.val (.int (0 : Int32))))) rfl k_) ?_
      refine own_st (fun t_ k_ => XS.aload X64.here hx rfl (hb hby at_226) rfl rfl k_) ?_
      refine own_st (fun t_ k_ => XS.ifnullNo X64.here hx rfl (hb hby at_228) rfl k_) ?_
      show own_Go p e below T64 (mkF m 231 (own_A p0 p1 p2 (2 : Int32) dd b1 (.val (.ref x_59)) (.val (.ref y_64)) (.val (.int (0 : Int32))) (.val (.int (0 : Int32)))) []) _
      refine own_st (fun t_ k_ => XS.aload X64.here hx rfl (hb hby at_231) rfl rfl k_) ?_
      show own_Go p e below T64 (mkF m 233 (own_A p0 p1 p2 (2 : Int32) dd b1 (.val (.ref x_59)) (.val (.ref y_64)) (.val (.int (0 : Int32))) (.val (.int (0 : Int32)))) [(.ref y_64)]) _
      have hcd78 : StrChars.Road.CodA ([] : List Int32) 0 (0 : Int32) ((([] : List Int32).map (fun c : Int32 => c.toInt8.toInt32)).map Value.int) := StrChars.Road.codOf rfl (fun x hx => (hpe x hx).2)
      have hbd78 : ∀ x ∈ ([] : List Int32), ¬ x < 0 ∧ ¬ (65535 : Int32) < x := own_up _ hpe
      have f79 := (f63.keep Kq64 all0)
      obtain ⟨cq80, kq80, qa80, qb80, qc80⟩ := isOf hZ rfl q64_0
      obtain ⟨_, _, ⟨T80, L80, k80, n80⟩, -, X80, ⟨Lc80, hQ80, l80, y80, z80⟩, st80⟩ := X64.virtualBack hx (y := (⟨"java/lang/String", "length", "()I"⟩ : MethodName)) (z := (⟨"java/lang/String", "length", "()I"⟩ : MethodName)) hown (mvT hZ (hw _ (List.mem_of_getElem? (i := 112) rfl))) (mvT hZ (hw _ (List.mem_of_getElem? (i := 47) rfl))) (notFace_of_selects (args := #[]) (mvT hZ (hw _ (List.mem_of_getElem? (i := 49) rfl)))) (mvT hZ (hw _ (List.mem_of_getElem? (i := 49) rfl))) (mvT hZ (hw _ (List.mem_of_getElem? (i := 48) rfl))) (by decide) (StrChars.Road.lenW (W := 0) hZ hln (kI := 4) (hw _ (List.mem_of_getElem? (i := 9) rfl)) q64_0 q64_1 q64_2 q64_3 hcd78 hbd78 (pS_COMPACT_STRINGS.ext f79.2) pP5 (Nat.le_of_ble_eq_true rfl) (by decide) (by decide)) qa80 qc80 (g := (mkF m 233 (own_A p0 p1 p2 (2 : Int32) dd b1 (.val (.ref x_59)) (.val (.ref y_64)) (.val (.int (0 : Int32))) (.val (.int (0 : Int32)))) [(.ref y_64)])) rfl (by rw [hml]; rfl) (Steps.refl _) (argsL := []) (rest := []) (lenOf pd___I rfl) rfl (by show 2 * 0 + _ ≤ _; exact Nat.le_of_eq rfl) (hb hby at_233) (fun _ _ => ⟨rfl, rfl, (by decide : 6 + 0 ≤ _), (by decide : 21 + 0 ≤ _)⟩)
      dsimp only [Pt.U, Pt.locs, Pt.cells, Pt.slots] at X80 l80 y80 z80 st80 hQ80
      try dsimp only [Nat.reduceAdd] at y80 z80
      rw [l80, y80, z80] at X80
      obtain ⟨rfl, rfl, eH80⟩ := hQ80
      have N80 := Fr.app N64 (Fr.nil n0)
      refine own_tr st80 ?_
      show own_Go p e below T80 (mkF m 236 (own_A p0 p1 p2 (2 : Int32) dd b1 (.val (.ref x_59)) (.val (.ref y_64)) (.val (.int (0 : Int32))) (.val (.int (0 : Int32)))) [(.int (0 : Int32))]) _
      refine own_st (fun t_ k_ => XS.iload X80.here hx rfl (hb hby at_236) rfl k_) ?_
      refine own_st (fun t_ k_ => XS.icmpNo X80.here hx rfl (hb hby at_238) rfl (by decide) k_) ?_
      refine own_st (fun t_ k_ => XS.iload X80.here hx rfl (hb hby at_241) rfl k_) ?_
      refine own_st (fun t_ k_ => XS.iconst X80.here hx rfl (hb hby at_243) k_) ?_
      refine own_st (fun t_ k_ => XS.icmpYes X80.here hx rfl (pc0 := 244) (pc' := 260) rfl (hb hby at_244) rfl (by decide) (by decide) (by decide) k_) ?_
      show own_Go p e below T80 (mkF m 260 (own_A p0 p1 p2 (2 : Int32) dd b1 (.val (.ref x_59)) (.val (.ref y_64)) (.val (.int (0 : Int32))) (.val (.int (0 : Int32)))) []) _
      refine own_st (fun t_ k_ => XS.iload X80.here hx rfl (hb hby at_260) rfl k_) ?_
      refine own_st (fun t_ k_ => XS.iconst X80.here hx rfl (hb hby at_262) k_) ?_
      refine own_st (fun t_ k_ => XS.icmpYes X80.here hx rfl (pc0 := 263) (pc' := 279) rfl (hb hby at_263) rfl (by decide) (by decide) (by decide) k_) ?_
      refine own_st (fun t_ k_ => XS.iload X80.here hx rfl (hb hby at_279) rfl k_) ?_
      refine own_st (fun t_ k_ => XS.iconst X80.here hx rfl (hb hby at_281) k_) ?_
      refine own_st (fun t_ k_ => XS.icmpYes X80.here hx rfl (pc0 := 282) (pc' := 298) rfl (hb hby at_282) rfl (by decide) (by decide) (by decide) k_) ?_
      show own_Go p e below T80 (mkF m 298 (own_A p0 p1 p2 (2 : Int32) dd b1 (.val (.ref x_59)) (.val (.ref y_64)) (.val (.int (0 : Int32))) (.val (.int (0 : Int32)))) []) _
      refine own_st (fun t_ k_ => XS.iload X80.here hx rfl (hb hby at_298) rfl k_) ?_
      refine own_st (fun t_ k_ => XS.iconst X80.here hx rfl (hb hby at_300) k_) ?_
      refine own_st (fun t_ k_ => XS.icmpYes X80.here hx rfl (pc0 := 301) (pc' := 317) rfl (hb hby at_301) rfl (by decide) (by decide) (by decide) k_) ?_
      refine own_st (fun t_ k_ => XS.iconst X80.here hx rfl (hb hby at_317) k_) ?_
      refine own_st (fun t_ k_ => XS.goto X80.here hx rfl (pc0 := 318) (pc' := 322) rfl (hb hby at_318) (by decide) (by decide) k_) ?_
      show own_Go p e below T80 (mkF m 322 (own_A p0 p1 p2 (2 : Int32) dd b1 (.val (.ref x_59)) (.val (.ref y_64)) (.val (.int (0 : Int32))) (.val (.int (0 : Int32)))) [(.int (1 : Int32))]) _
      obtain ⟨fs, hr, hrun, hended, hRW⟩ := X80.leaveW hS (by rw [eH80]; exact hK64) (v := some (.int (1 : Int32))) (fun h => by rw [Bd.returns] at h; cases h)
      have hCend : CHr Z own_EL s.vm s.heap T80.vm T80.heap := by
        rw [hh, eH80]
        exact CHr.trans CR66 (CHv.at X80 hZ hEL CH66)
      refine own_fin (retN X80 hx (t := .boolean) Bd.returns (by simp) (hb hby at_322) hr) ⟨hrun, hended, _, _, rfl, ?_, hCend, hRW.1, hRW.2.1, hRW.2.2.1, hRW.2.2.2.mono (by decide) (by decide)⟩
      show Q_rmLaw Z p0 p1 p2 zc fm h0 n0 _ T80.heap _
      rw [eH80]
      exact ⟨rfl, N80, K67⟩
    · skip
      have hpe : ∀ c ∈ ([r_5] : List Int32), ¬ c < 0 ∧ ¬ (255 : Int32) < c := by
        intro c hc
        simp only [List.mem_cons, List.not_mem_nil, or_false] at hc
        subst hc
        exact own_ch255 q5_0
      obtain ⟨d1, d0⟩ := hj
      refine own_st (fun t_ k_ => XS.astore X64.here hx rfl (hb hby at_116) rfl rfl (l' := (own_A p0 p1 p2 (2 : Int32) dd b1 (.val (.ref x_59)) (.val (.ref y_64)) .unset .unset)) rfl k_) ?_
      refine own_st (fun t_ k_ => XS.iconst X64.here hx rfl (hb hby at_118) k_) ?_
      refine own_st (fun t_ k_ => XS.istore X64.here hx rfl (hb hby at_119) rfl (l' := (own_A p0 p1 p2 (2 : Int32) dd b1 (.val (.ref x_59)) (.val (.ref y_64)) (.val (.int (-1 : Int32))) .unset)) rfl k_) ?_
      refine own_st (fun t_ k_ => XS.iloadN X64.here hx rfl (hb hby at_121) rfl k_) ?_
      refine own_st (fun t_ k_ => XS.iconst X64.here hx rfl (hb hby at_122) k_) ?_
      show own_Go p e below T64 (mkF m 123 (own_A p0 p1 p2 (2 : Int32) dd b1 (.val (.ref x_59)) (.val (.ref y_64)) (.val (.int (-1 : Int32))) .unset) [(.int (4 : Int32)), (.int (2 : Int32))]) _
      refine own_st (fun t_ k_ => XS.icmpYes X64.here hx rfl (pc0 := 123) (pc' := 141) rfl (hb hby at_123) rfl (by decide) (by decide) (by decide) k_) ?_
      refine own_st (fun t_ k_ => XS.iloadN X64.here hx rfl (hb hby at_141) rfl k_) ?_
      refine own_st (fun t_ k_ => XS.iconst X64.here hx rfl (hb hby at_142) k_) ?_
      refine own_st (fun t_ k_ => XS.icmpYes X64.here hx rfl (pc0 := 143) (pc' := 161) rfl (hb hby at_143) rfl (by decide) (by decide) (by decide) k_) ?_
      refine own_st (fun t_ k_ => XS.iloadN X64.here hx rfl (hb hby at_161) rfl k_) ?_
      refine own_st (fun t_ k_ => XS.iconst X64.here hx rfl (hb hby at_162) k_) ?_
      show own_Go p e below T64 (mkF m 163 (own_A p0 p1 p2 (2 : Int32) dd b1 (.val (.ref x_59)) (.val (.ref y_64)) (.val (.int (-1 : Int32))) .unset) [(.int (2 : Int32)), (.int (2 : Int32))]) _
      refine own_st (fun t_ k_ => XS.icmpYes X64.here hx rfl (pc0 := 163) (pc' := 181) rfl (hb hby at_163) rfl (by decide) (by decide) (by decide) k_) ?_
      refine own_st (fun t_ k_ => XS.iloadN X64.here hx rfl (hb hby at_181) rfl k_) ?_
      refine own_st (fun t_ k_ => XS.iconst X64.here hx rfl (hb hby at_182) k_) ?_
      refine own_st (fun t_ k_ => XS.icmpNo X64.here hx rfl (hb hby at_183) rfl (by decide) k_) ?_
      refine own_st (fun t_ k_ => XS.aload X64.here hx rfl (hb hby at_186) rfl rfl k_) ?_
      refine own_st (fun t_ k_ => XS.iconst X64.here hx rfl (hb hby at_188) k_) ?_
      show own_Go p e below T64 (mkF m 189 (own_A p0 p1 p2 (2 : Int32) dd b1 (.val (.ref x_59)) (.val (.ref y_64)) (.val (.int (-1 : Int32))) .unset) [(.int (1 : Int32)), (.ref b1)]) _
      have f81 := ((V31.keep Kq59 nin0).keep Kq64 nin0)
      obtain ⟨cl82, Ar82, q82, Sz82, Nn82, Hh82, Gg82⟩ := id f81
      have hin82 : ¬ ((1 : Int32) < 0 ∨ cl82.slots.size ≤ ((1 : Int32)).toNatClampNeg) := inb_of Sz82 ⟨by decide, by decide⟩
      have hat82 : cl82.slots[((1 : Int32)).toNatClampNeg]? = some (.int r_11) := Has.at Hh82 hin82 rfl
      refine own_st (fun t_ k_ => X64.caload hx (j := (1 : Int32)) (v := (.int r_11)) (by exact Ar82.1) (State.isArrayOf_alike hZ.alike Ar82.2.1) Ar82.2.2 hin82 hat82 (g := (mkF m 189 (own_A p0 p1 p2 (2 : Int32) dd b1 (.val (.ref x_59)) (.val (.ref y_64)) (.val (.int (-1 : Int32))) .unset) [(.int (1 : Int32)), (.ref b1)])) rfl rfl (hb hby at_189) _ k_) ?_
      refine own_st (fun t_ k_ => XS.bipush X64.here hx rfl (hb hby at_190) k_) ?_
      refine own_st (fun t_ k_ => XS.icmpYes X64.here hx rfl (pc0 := 192) (pc' := 201) rfl (hb hby at_192) rfl (feq d1).2 (by decide) (by decide) k_) ?_
      refine own_st (fun t_ k_ => XS.aload X64.here hx rfl (hb hby at_201) rfl rfl k_) ?_
      refine own_st (fun t_ k_ => XS.iconst X64.here hx rfl (hb hby at_203) k_) ?_
      show own_Go p e below T64 (mkF m 204 (own_A p0 p1 p2 (2 : Int32) dd b1 (.val (.ref x_59)) (.val (.ref y_64)) (.val (.int (-1 : Int32))) .unset) [(.int (0 : Int32)), (.ref b1)]) _
      obtain ⟨cl83, Ar83, q83, Sz83, Nn83, Hh83, Gg83⟩ := id f81
      have hin83 : ¬ ((0 : Int32) < 0 ∨ cl83.slots.size ≤ ((0 : Int32)).toNatClampNeg) := inb_of Sz83 ⟨by decide, by decide⟩
      have hat83 : cl83.slots[((0 : Int32)).toNatClampNeg]? = some (.int r_5) := Has.at Hh83 hin83 rfl
      refine own_st (fun t_ k_ => X64.caload hx (j := (0 : Int32)) (v := (.int r_5)) (by exact Ar83.1) (State.isArrayOf_alike hZ.alike Ar83.2.1) Ar83.2.2 hin83 hat83 (g := (mkF m 204 (own_A p0 p1 p2 (2 : Int32) dd b1 (.val (.ref x_59)) (.val (.ref y_64)) (.val (.int (-1 : Int32))) .unset) [(.int (0 : Int32)), (.ref b1)])) rfl rfl (hb hby at_204) _ k_) ?_
      refine own_st (fun t_ k_ => XS.bipush X64.here hx rfl (hb hby at_205) k_) ?_
      refine own_st (fun t_ k_ => XS.icmpYes X64.here hx rfl (pc0 := 207) (pc' := 213) rfl (hb hby at_207) rfl (feq d0).2 (by decide) (by decide) k_) ?_
      refine own_st (fun t_ k_ => XS.iload X64.here hx rfl (hb hby at_213) rfl k_) ?_
      refine own_st (fun t_ k_ => XS.ifNo X64.here hx rfl (hb hby at_215) rfl (by decide) k_) ?_
      show own_Go p e below T64 (mkF m 218 (own_A p0 p1 p2 (2 : Int32) dd b1 (.val (.ref x_59)) (.val (.ref y_64)) (.val (.int (-1 : Int32))) .unset) []) _
      refine own_st (fun t_ k_ => XS.iconst X64.here hx rfl (hb hby at_218) k_) ?_
      refine own_st (fun t_ k_ => XS.goto X64.here hx rfl (pc0 := 219) (pc' := 224) rfl (hb hby at_219) (by decide) (by decide) k_) ?_
      refine own_st (fun t_ k_ => XS.istore X64.here hx rfl (hb hby at_224) rfl (l' := (own_A p0 p1 p2 (2 : Int32) dd b1 (.val (.ref x_59)) (.val (.ref y_64)) (.val (.int (-1 : Int32))) (.val (.int (1 : Int32))))) rfl k_) ?_
      refine own_st (fun t_ k_ => XS.aload X64.here hx rfl (hb hby at_226) rfl rfl k_) ?_
      refine own_st (fun t_ k_ => XS.ifnullNo X64.here hx rfl (hb hby at_228) rfl k_) ?_
      refine own_st (fun t_ k_ => XS.aload X64.here hx rfl (hb hby at_231) rfl rfl k_) ?_
      show own_Go p e below T64 (mkF m 233 (own_A p0 p1 p2 (2 : Int32) dd b1 (.val (.ref x_59)) (.val (.ref y_64)) (.val (.int (-1 : Int32))) (.val (.int (1 : Int32)))) [(.ref y_64)]) _
      have hcd84 : StrChars.Road.CodA ([r_5] : List Int32) 0 (1 : Int32) ((([r_5] : List Int32).map (fun c : Int32 => c.toInt8.toInt32)).map Value.int) := StrChars.Road.codOf rfl (fun x hx => (hpe x hx).2)
      have hbd84 : ∀ x ∈ ([r_5] : List Int32), ¬ x < 0 ∧ ¬ (65535 : Int32) < x := own_up _ hpe
      have f85 := (f63.keep Kq64 all0)
      obtain ⟨cq86, kq86, qa86, qb86, qc86⟩ := isOf hZ rfl q64_0
      obtain ⟨_, _, ⟨T86, L86, k86, n86⟩, -, X86, ⟨Lc86, hQ86, l86, y86, z86⟩, st86⟩ := X64.virtualBack hx (y := (⟨"java/lang/String", "length", "()I"⟩ : MethodName)) (z := (⟨"java/lang/String", "length", "()I"⟩ : MethodName)) hown (mvT hZ (hw _ (List.mem_of_getElem? (i := 112) rfl))) (mvT hZ (hw _ (List.mem_of_getElem? (i := 47) rfl))) (notFace_of_selects (args := #[]) (mvT hZ (hw _ (List.mem_of_getElem? (i := 49) rfl)))) (mvT hZ (hw _ (List.mem_of_getElem? (i := 49) rfl))) (mvT hZ (hw _ (List.mem_of_getElem? (i := 48) rfl))) (by decide) (StrChars.Road.lenW (W := 0) hZ hln (kI := 4) (hw _ (List.mem_of_getElem? (i := 9) rfl)) q64_0 q64_1 q64_2 q64_3 hcd84 hbd84 (pS_COMPACT_STRINGS.ext f85.2) pP5 (Nat.le_of_ble_eq_true rfl) (by decide) (by decide)) qa86 qc86 (g := (mkF m 233 (own_A p0 p1 p2 (2 : Int32) dd b1 (.val (.ref x_59)) (.val (.ref y_64)) (.val (.int (-1 : Int32))) (.val (.int (1 : Int32)))) [(.ref y_64)])) rfl (by rw [hml]; rfl) (Steps.refl _) (argsL := []) (rest := []) (lenOf pd___I rfl) rfl (by show 2 * 0 + _ ≤ _; exact Nat.le_of_eq rfl) (hb hby at_233) (fun _ _ => ⟨rfl, rfl, (by decide : 6 + 0 ≤ _), (by decide : 21 + 0 ≤ _)⟩)
      dsimp only [Pt.U, Pt.locs, Pt.cells, Pt.slots] at X86 l86 y86 z86 st86 hQ86
      try dsimp only [Nat.reduceAdd] at y86 z86
      rw [l86, y86, z86] at X86
      obtain ⟨rfl, rfl, eH86⟩ := hQ86
      have N86 := Fr.app N64 (Fr.nil n0)
      refine own_tr st86 ?_
      show own_Go p e below T86 (mkF m 236 (own_A p0 p1 p2 (2 : Int32) dd b1 (.val (.ref x_59)) (.val (.ref y_64)) (.val (.int (-1 : Int32))) (.val (.int (1 : Int32)))) [(.int (1 : Int32))]) _
      refine own_st (fun t_ k_ => XS.iload X86.here hx rfl (hb hby at_236) rfl k_) ?_
      refine own_st (fun t_ k_ => XS.icmpNo X86.here hx rfl (hb hby at_238) rfl (by decide) k_) ?_
      refine own_st (fun t_ k_ => XS.iload X86.here hx rfl (hb hby at_241) rfl k_) ?_
      refine own_st (fun t_ k_ => XS.iconst X86.here hx rfl (hb hby at_243) k_) ?_
      refine own_st (fun t_ k_ => XS.icmpNo X86.here hx rfl (hb hby at_244) rfl (by decide) k_) ?_
      show own_Go p e below T86 (mkF m 247 (own_A p0 p1 p2 (2 : Int32) dd b1 (.val (.ref x_59)) (.val (.ref y_64)) (.val (.int (-1 : Int32))) (.val (.int (1 : Int32)))) []) _
      refine own_st (fun t_ k_ => XS.aload X86.here hx rfl (hb hby at_247) rfl rfl k_) ?_
      refine own_st (fun t_ k_ => XS.iconst X86.here hx rfl (hb hby at_249) k_) ?_
      show own_Go p e below T86 (mkF m 250 (own_A p0 p1 p2 (2 : Int32) dd b1 (.val (.ref x_59)) (.val (.ref y_64)) (.val (.int (-1 : Int32))) (.val (.int (1 : Int32)))) [(.int (0 : Int32)), (.ref y_64)]) _
      obtain ⟨cq87, kq87, qa87, qb87, qc87⟩ := isOf hZ eH86 q64_0
      obtain ⟨_, _, ⟨T87, L87, k87, n87⟩, -, X87, ⟨Lc87, hQ87, l87, y87, z87⟩, st87⟩ := X86.virtualBack hx (y := (⟨"java/lang/String", "charAt", "(I)C"⟩ : MethodName)) (z := (⟨"java/lang/String", "charAt", "(I)C"⟩ : MethodName)) hown (mvT hZ (hw _ (List.mem_of_getElem? (i := 113) rfl))) (mvT hZ (hw _ (List.mem_of_getElem? (i := 114) rfl))) (notFace_of_selects (args := #[]) (mvT hZ (hw _ (List.mem_of_getElem? (i := 116) rfl)))) (mvT hZ (hw _ (List.mem_of_getElem? (i := 116) rfl))) (mvT hZ (hw _ (List.mem_of_getElem? (i := 115) rfl))) (by decide) (StrChars.Road.chN (W := 0) hZ hch (kI := 4) (hw _ (List.mem_of_getElem? (i := 9) rfl)) q64_0 q64_1 q64_2 q64_3 hcd84 hbd84 (pS_COMPACT_STRINGS.ext f85.2) pP5 (pS_SIOOBE_FORMATTER.ext f85.2) rfm (Nat.le_of_ble_eq_true rfl) (i := 0) (Nat.le_of_ble_eq_true rfl) (j := (0 : Int32)) rfl (by decide) (by decide)) qa87 qc87 (g := (mkF m 250 (own_A p0 p1 p2 (2 : Int32) dd b1 (.val (.ref x_59)) (.val (.ref y_64)) (.val (.int (-1 : Int32))) (.val (.int (1 : Int32)))) [(.int (0 : Int32)), (.ref y_64)])) rfl (by rw [hml]; rfl) (Steps.refl _) (argsL := [(.int (0 : Int32))]) (rest := []) (lenOf pd__I_C rfl) rfl (by show 2 * 0 + _ ≤ _; exact Nat.le_of_eq rfl) (hb hby at_250) (fun _ _ => ⟨rfl, eH86, (by decide : 6 + 0 ≤ _), (by decide : 21 + 0 ≤ _)⟩)
      dsimp only [Pt.U, Pt.locs, Pt.cells, Pt.slots] at X87 l87 y87 z87 st87 hQ87
      try dsimp only [Nat.reduceAdd] at y87 z87
      rw [l87, y87, z87] at X87
      obtain ⟨rfl, rfl, eH87⟩ := hQ87
      have N87 := Fr.app N86 (Fr.nil n0)
      refine own_tr st87 ?_
      show own_Go p e below T87 (mkF m 253 (own_A p0 p1 p2 (2 : Int32) dd b1 (.val (.ref x_59)) (.val (.ref y_64)) (.val (.int (-1 : Int32))) (.val (.int (1 : Int32)))) [(.int r_5)]) _
      refine own_st (fun t_ k_ => XS.aload X87.here hx rfl (hb hby at_253) rfl rfl k_) ?_
      refine own_st (fun t_ k_ => XS.iconst X87.here hx rfl (hb hby at_255) k_) ?_
      show own_Go p e below T87 (mkF m 256 (own_A p0 p1 p2 (2 : Int32) dd b1 (.val (.ref x_59)) (.val (.ref y_64)) (.val (.int (-1 : Int32))) (.val (.int (1 : Int32)))) [(.int (0 : Int32)), (.ref b1), (.int r_5)]) _
      obtain ⟨cl88, Ar88, q88, Sz88, Nn88, Hh88, Gg88⟩ := id f81
      have hin88 : ¬ ((0 : Int32) < 0 ∨ cl88.slots.size ≤ ((0 : Int32)).toNatClampNeg) := inb_of Sz88 ⟨by decide, by decide⟩
      have hat88 : cl88.slots[((0 : Int32)).toNatClampNeg]? = some (.int r_5) := Has.at Hh88 hin88 rfl
      refine own_st (fun t_ k_ => X87.caload hx (j := (0 : Int32)) (v := (.int r_5)) (by rw [eH87]; exact Ar88.1) (State.isArrayOf_alike hZ.alike Ar88.2.1) Ar88.2.2 hin88 hat88 (g := (mkF m 256 (own_A p0 p1 p2 (2 : Int32) dd b1 (.val (.ref x_59)) (.val (.ref y_64)) (.val (.int (-1 : Int32))) (.val (.int (1 : Int32)))) [(.int (0 : Int32)), (.ref b1), (.int r_5)])) rfl rfl (hb hby at_256) _ k_) ?_
      refine own_st (fun t_ k_ => XS.icmpNo X87.here hx rfl (hb hby at_257) rfl (teq rfl).2 k_) ?_
      refine own_st (fun t_ k_ => XS.iload X87.here hx rfl (hb hby at_260) rfl k_) ?_
      refine own_st (fun t_ k_ => XS.iconst X87.here hx rfl (hb hby at_262) k_) ?_
      refine own_st (fun t_ k_ => XS.icmpYes X87.here hx rfl (pc0 := 263) (pc' := 279) rfl (hb hby at_263) rfl (by decide) (by decide) (by decide) k_) ?_
      show own_Go p e below T87 (mkF m 279 (own_A p0 p1 p2 (2 : Int32) dd b1 (.val (.ref x_59)) (.val (.ref y_64)) (.val (.int (-1 : Int32))) (.val (.int (1 : Int32)))) []) _
      refine own_st (fun t_ k_ => XS.iload X87.here hx rfl (hb hby at_279) rfl k_) ?_
      refine own_st (fun t_ k_ => XS.iconst X87.here hx rfl (hb hby at_281) k_) ?_
      refine own_st (fun t_ k_ => XS.icmpYes X87.here hx rfl (pc0 := 282) (pc' := 298) rfl (hb hby at_282) rfl (by decide) (by decide) (by decide) k_) ?_
      refine own_st (fun t_ k_ => XS.iload X87.here hx rfl (hb hby at_298) rfl k_) ?_
      refine own_st (fun t_ k_ => XS.iconst X87.here hx rfl (hb hby at_300) k_) ?_
      refine own_st (fun t_ k_ => XS.icmpYes X87.here hx rfl (pc0 := 301) (pc' := 317) rfl (hb hby at_301) rfl (by decide) (by decide) (by decide) k_) ?_
      show own_Go p e below T87 (mkF m 317 (own_A p0 p1 p2 (2 : Int32) dd b1 (.val (.ref x_59)) (.val (.ref y_64)) (.val (.int (-1 : Int32))) (.val (.int (1 : Int32)))) []) _
      refine own_st (fun t_ k_ => XS.iconst X87.here hx rfl (hb hby at_317) k_) ?_
      refine own_st (fun t_ k_ => XS.goto X87.here hx rfl (pc0 := 318) (pc' := 322) rfl (hb hby at_318) (by decide) (by decide) k_) ?_
      show own_Go p e below T87 (mkF m 322 (own_A p0 p1 p2 (2 : Int32) dd b1 (.val (.ref x_59)) (.val (.ref y_64)) (.val (.int (-1 : Int32))) (.val (.int (1 : Int32)))) [(.int (1 : Int32))]) _
      obtain ⟨fs, hr, hrun, hended, hRW⟩ := X87.leaveW hS (by rw [eH87]; exact hK64) (v := some (.int (1 : Int32))) (fun h => by rw [Bd.returns] at h; cases h)
      have hCend : CHr Z own_EL s.vm s.heap T87.vm T87.heap := by
        rw [hh, eH87]
        exact CHr.trans CR66 (CHv.at X87 hZ hEL CH66)
      refine own_fin (retN X87 hx (t := .boolean) Bd.returns (by simp) (hb hby at_322) hr) ⟨hrun, hended, _, _, rfl, ?_, hCend, hRW.1, hRW.2.1, hRW.2.2.1, hRW.2.2.2.mono (by decide) (by decide)⟩
      show Q_rmLaw Z p0 p1 p2 zc fm h0 n0 _ T87.heap _
      rw [eH87]
      exact ⟨rfl, N87, K67⟩
  · skip
    show own_Go p e below T31 (mkF m 106 (own_A p0 p1 p2 (3 : Int32) dd b1 .unset .unset .unset .unset) [(.ref b1), (.int (3 : Int32))]) _
    have f89 := (Nat.le_trans f28 (Keep.of_wr W31).1)
    have f90 := ((((((pO.ext E1).wr W7 G1).wr W13 G1).wr W19 G1).wr W25 G1).wr W31 G1)
    obtain ⟨_, _, ⟨T91, L91, k91, n91⟩, -, X91, ⟨Lc91, hQ91, l91, y91, z91⟩, st91⟩ := Jvm.LawKit.callS X31 hx (y := (⟨"com/example/descriptor/descriptor/vocabulary/HierarchyParentPinLaw", "make", "(I[C)Ljava/lang/String;"⟩ : MethodName)) hown (mvT hZ (hw _ (List.mem_of_getElem? (i := 5) rfl))) (mvT hZ (hw _ (List.mem_of_getElem? (i := 6) rfl))) (mvT hZ (hw _ (List.mem_of_getElem? (i := 3) rfl))) (mvT hZ (hw _ (List.mem_of_getElem? (i := 7) rfl))) (by decide) (backOf (W := 0) (rmMk3 l Z a0 hw [] b1 k1 r_5 r_11 r_17 r_23 r_29 zc h31 n0 f89 V31 q5_0 q11_0 q17_0 q23_0 q29_0 pS_COMPACT_STRINGS pP5 f90) hZ (hw _ (List.mem_of_getElem? (i := 7) rfl)) (hw _ (List.mem_of_getElem? (i := 3) rfl)) (by decide) (by decide)) (g := (mkF m 106 (own_A p0 p1 p2 (3 : Int32) dd b1 .unset .unset .unset .unset) [(.ref b1), (.int (3 : Int32))])) rfl (by rw [hml]; rfl) (argsL := [(.int (3 : Int32)), (.ref b1)]) (rest := []) (lenOf pd__I_C_Ljava_lang_String_ rfl) rfl (by show 2 * 0 + _ ≤ _; exact Nat.le_of_eq rfl) (hb hby at_106) (fun _ _ => ⟨rfl, e31, (by decide : 1 + 3 ≤ _), (by decide : 5 + 10 ≤ _)⟩)
    dsimp only [Pt.U, Pt.locs, Pt.cells, Pt.slots] at X91 l91 y91 z91 st91 hQ91
    try dsimp only [Nat.reduceAdd] at y91 z91
    rw [l91, y91, z91] at X91
    obtain ⟨x_91, t_91, kb_91, rfl, Nq91, Kq91, q91_0, q91_1, q91_2, q91_3⟩ := hQ91
    have N91 := Fr.app N31 Nq91
    have CH92 := CH32.keep Kq91 sf0
    have CR92 := CHr.trans CR32 (CHr.keep Kq91 sf0 CH32)
    have K93 : Keep h0 T91.heap [] := K33.trans Kq91 all0
    refine own_st st91 ?_
    show own_Go p e below T91 (mkF m 109 (own_A p0 p1 p2 (3 : Int32) dd b1 .unset .unset .unset .unset) [(.ref x_91)]) _
    refine own_st (fun t_ k_ => XS.astore X91.here hx rfl (hb hby at_109) rfl rfl (l' := (own_A p0 p1 p2 (3 : Int32) dd b1 (.val (.ref x_91)) .unset .unset .unset)) rfl k_) ?_
    refine own_st (fun t_ k_ => XS.aload X91.here hx rfl (hb hby at_111) rfl rfl k_) ?_
    show own_Go p e below T91 (mkF m 113 (own_A p0 p1 p2 (3 : Int32) dd b1 (.val (.ref x_91)) .unset .unset .unset) [(.ref x_91)]) _
    have hch3 : ∀ c ∈ ([r_5, r_11, r_17] : List Int32), own_ch c := by
      intro c hc
      simp only [List.mem_cons, List.not_mem_nil, or_false] at hc
      rcases hc with rfl | rfl | rfl
      · exact q5_0
      · exact q11_0
      · exact q17_0
    have f94 := (Nat.le_trans f89 Kq91.1)
    have f95 := (f90.keep Kq91 all0)
    have f97 := (Nat.le_trans (Nat.le_trans (Nat.le_trans (Nat.le_trans (Nat.le_trans (Nat.le_trans (Nat.le_trans hK0 E1.1) (Keep.of_wr W7).1) (Keep.of_wr W13).1) (Keep.of_wr W19).1) (Keep.of_wr W25).1) (Keep.of_wr W31).1) Kq91.1)
    obtain ⟨_, _, ⟨T96, L96, k96, n96⟩, -, Xa96, hSa96, hGa96, ⟨Lc96, hQ96, l96, y96, z96, A96⟩, st96⟩ := Jvm.RoadKit.callSS X91 hx (y := (⟨"com/example/descriptor/descriptor/vocabulary/Hierarchy", "parent", "(Ljava/lang/String;)Ljava/lang/String;"⟩ : MethodName)) hown (mvT hZ (hw _ (List.mem_of_getElem? (i := 37) rfl))) (mvT hZ (hw _ (List.mem_of_getElem? (i := 38) rfl))) (mvT hZ (hw _ (List.mem_of_getElem? (i := 39) rfl))) (mvT hZ (hw _ (List.mem_of_getElem? (i := 40) rfl))) (by decide) (backOfSH (W := 0) (rmPa l Z a0 hw [] x_91 t_91 kb_91 ((3 : Int32)) ([r_5, r_11, r_17]) zc fm T91.heap n0 f94 q91_0 q91_1 q91_2 q91_3 rfl (Nat.le_of_ble_eq_true rfl) hch3 (Nat.le_of_ble_eq_true rfl) pS_COMPACT_STRINGS pP5 pS_SIOOBE_FORMATTER rfm f95) hZ (hw _ (List.mem_of_getElem? (i := 40) rfl)) (hw _ (List.mem_of_getElem? (i := 39) rfl)) (by decide) (by decide) hEL CH92) (g := (mkF m 113 (own_A p0 p1 p2 (3 : Int32) dd b1 (.val (.ref x_91)) .unset .unset .unset) [(.ref x_91)])) rfl (by rw [hml]; rfl) (argsL := [(.ref x_91)]) (rest := []) (lenOf pd__Ljava_lang_String__Ljava_lang_String_ rfl) rfl (by show 2 * 0 + _ ≤ _; exact Nat.le_of_eq rfl) (hb hby at_113) (fun _ _ => ⟨rfl, rfl, (by decide : 4 + 2 ≤ _), (by decide : 15 + 8 ≤ _)⟩)
    dsimp only [Pt.U, Pt.locs, Pt.cells, Pt.slots] at Xa96 hSa96 hGa96 l96 y96 z96 A96 st96 hQ96
    try dsimp only [Nat.reduceAdd] at y96 z96
    rw [l96, y96, z96] at Xa96
    obtain ⟨X96, hS, hZ, hown⟩ := rebS hS f97 Xa96 hSa96 hGa96 hZ hown
    obtain ⟨y_96, b_96, kb_96, el_96, us_96, rfl, Nq96, Kq96, q96_0, q96_1, q96_2, q96_3, q96_4⟩ := hQ96
    have N96 := Fr.app N91 Nq96
    have CH98 := A96.1
    have CR98 := CHr.trans CR92 (A96)
    have K99 : Keep h0 T96.heap [] := K93.trans Kq96 all0
    have hK96 : T96.heap.size ≤ T96.heap.size := Nat.le_refl _
    refine own_tr st96 ?_
    show own_Go p e below T96 (mkF m 116 (own_A p0 p1 p2 (3 : Int32) dd b1 (.val (.ref x_91)) .unset .unset .unset) [(.ref y_96)]) _
    rcases own_pa3 q96_4 with ⟨rfl, rfl, hj⟩ | ⟨rfl, rfl, hj⟩ | ⟨rfl, rfl, hj⟩ | ⟨rfl, rfl, hj⟩
    · skip
      have hpe : ∀ c ∈ ([r_5, r_11] : List Int32), ¬ c < 0 ∧ ¬ (255 : Int32) < c := by
        intro c hc
        simp only [List.mem_cons, List.not_mem_nil, or_false] at hc
        rcases hc with rfl | rfl
        · exact own_ch255 q5_0
        · exact own_ch255 q11_0
      have d2 := hj
      refine own_st (fun t_ k_ => XS.astore X96.here hx rfl (hb hby at_116) rfl rfl (l' := (own_A p0 p1 p2 (3 : Int32) dd b1 (.val (.ref x_91)) (.val (.ref y_96)) .unset .unset)) rfl k_) ?_
      refine own_st (fun t_ k_ => XS.iconst X96.here hx rfl (hb hby at_118) k_) ?_
      refine own_st (fun t_ k_ => XS.istore X96.here hx rfl (hb hby at_119) rfl (l' := (own_A p0 p1 p2 (3 : Int32) dd b1 (.val (.ref x_91)) (.val (.ref y_96)) (.val (.int (-1 : Int32))) .unset)) rfl k_) ?_
      refine own_st (fun t_ k_ => XS.iloadN X96.here hx rfl (hb hby at_121) rfl k_) ?_
      refine own_st (fun t_ k_ => XS.iconst X96.here hx rfl (hb hby at_122) k_) ?_
      show own_Go p e below T96 (mkF m 123 (own_A p0 p1 p2 (3 : Int32) dd b1 (.val (.ref x_91)) (.val (.ref y_96)) (.val (.int (-1 : Int32))) .unset) [(.int (4 : Int32)), (.int (3 : Int32))]) _
      refine own_st (fun t_ k_ => XS.icmpYes X96.here hx rfl (pc0 := 123) (pc' := 141) rfl (hb hby at_123) rfl (by decide) (by decide) (by decide) k_) ?_
      refine own_st (fun t_ k_ => XS.iloadN X96.here hx rfl (hb hby at_141) rfl k_) ?_
      refine own_st (fun t_ k_ => XS.iconst X96.here hx rfl (hb hby at_142) k_) ?_
      refine own_st (fun t_ k_ => XS.icmpYes X96.here hx rfl (pc0 := 143) (pc' := 161) rfl (hb hby at_143) rfl (by decide) (by decide) (by decide) k_) ?_
      refine own_st (fun t_ k_ => XS.iloadN X96.here hx rfl (hb hby at_161) rfl k_) ?_
      refine own_st (fun t_ k_ => XS.iconst X96.here hx rfl (hb hby at_162) k_) ?_
      show own_Go p e below T96 (mkF m 163 (own_A p0 p1 p2 (3 : Int32) dd b1 (.val (.ref x_91)) (.val (.ref y_96)) (.val (.int (-1 : Int32))) .unset) [(.int (2 : Int32)), (.int (3 : Int32))]) _
      refine own_st (fun t_ k_ => XS.icmpNo X96.here hx rfl (hb hby at_163) rfl (by decide) k_) ?_
      refine own_st (fun t_ k_ => XS.aload X96.here hx rfl (hb hby at_166) rfl rfl k_) ?_
      refine own_st (fun t_ k_ => XS.iconst X96.here hx rfl (hb hby at_168) k_) ?_
      show own_Go p e below T96 (mkF m 169 (own_A p0 p1 p2 (3 : Int32) dd b1 (.val (.ref x_91)) (.val (.ref y_96)) (.val (.int (-1 : Int32))) .unset) [(.int (2 : Int32)), (.ref b1)]) _
      have f100 := ((V31.keep Kq91 nin0).keep Kq96 nin0)
      obtain ⟨cl101, Ar101, q101, Sz101, Nn101, Hh101, Gg101⟩ := id f100
      have hin101 : ¬ ((2 : Int32) < 0 ∨ cl101.slots.size ≤ ((2 : Int32)).toNatClampNeg) := inb_of Sz101 ⟨by decide, by decide⟩
      have hat101 : cl101.slots[((2 : Int32)).toNatClampNeg]? = some (.int r_17) := Has.at Hh101 hin101 rfl
      refine own_st (fun t_ k_ => X96.caload hx (j := (2 : Int32)) (v := (.int r_17)) (by exact Ar101.1) (State.isArrayOf_alike hZ.alike Ar101.2.1) Ar101.2.2 hin101 hat101 (g := (mkF m 169 (own_A p0 p1 p2 (3 : Int32) dd b1 (.val (.ref x_91)) (.val (.ref y_96)) (.val (.int (-1 : Int32))) .unset) [(.int (2 : Int32)), (.ref b1)])) rfl rfl (hb hby at_169) _ k_) ?_
      refine own_st (fun t_ k_ => XS.bipush X96.here hx rfl (hb hby at_170) k_) ?_
      refine own_st (fun t_ k_ => XS.icmpNo X96.here hx rfl (hb hby at_172) rfl (teq d2).2 k_) ?_
      refine own_st (fun t_ k_ => XS.iconst X96.here hx rfl (hb hby at_175) k_) ?_
      refine own_st (fun t_ k_ => XS.istore X96.here hx rfl (hb hby at_176) rfl (l' := (own_A p0 p1 p2 (3 : Int32) dd b1 (.val (.ref x_91)) (.val (.ref y_96)) (.val (.int (2 : Int32))) .unset)) rfl k_) ?_
      show own_Go p e below T96 (mkF m 178 (own_A p0 p1 p2 (3 : Int32) dd b1 (.val (.ref x_91)) (.val (.ref y_96)) (.val (.int (2 : Int32))) .unset) []) _
      refine own_st (fun t_ k_ => XS.goto X96.here hx rfl (pc0 := 178) (pc' := 213) rfl (hb hby at_178) (by decide) (by decide) k_) ?_
      refine own_st (fun t_ k_ => XS.iload X96.here hx rfl (hb hby at_213) rfl k_) ?_
      refine own_st (fun t_ k_ => XS.ifYes X96.here hx rfl (pc0 := 215) (pc' := 222) rfl (hb hby at_215) rfl (by decide) (by decide) (by decide) k_) ?_
      refine own_st (fun t_ k_ => XS.iload X96.here hx rfl (hb hby at_222) rfl k_) ?_
      refine own_st (fun t_ k_ => XS.istore X96.here hx rfl (hb hby at_224) rfl (l' := (own_A p0 p1 p2 (3 : Int32) dd b1 (.val (.ref x_91)) (.val (.ref y_96)) (.val (.int (2 : Int32))) (.val (.int (2 : Int32))))) rfl k_) ?_
      refine own_st (fun t_ k_ => XS.aload X96.here hx rfl (hb hby at_226) rfl rfl k_) ?_
      show own_Go p e below T96 (mkF m 228 (own_A p0 p1 p2 (3 : Int32) dd b1 (.val (.ref x_91)) (.val (.ref y_96)) (.val (.int (2 : Int32))) (.val (.int (2 : Int32)))) [(.ref y_96)]) _
      refine own_st (fun t_ k_ => XS.ifnullNo X96.here hx rfl (hb hby at_228) rfl k_) ?_
      refine own_st (fun t_ k_ => XS.aload X96.here hx rfl (hb hby at_231) rfl rfl k_) ?_
      show own_Go p e below T96 (mkF m 233 (own_A p0 p1 p2 (3 : Int32) dd b1 (.val (.ref x_91)) (.val (.ref y_96)) (.val (.int (2 : Int32))) (.val (.int (2 : Int32)))) [(.ref y_96)]) _
      have hcd102 : StrChars.Road.CodA ([r_5, r_11] : List Int32) 0 (2 : Int32) ((([r_5, r_11] : List Int32).map (fun c : Int32 => c.toInt8.toInt32)).map Value.int) := StrChars.Road.codOf rfl (fun x hx => (hpe x hx).2)
      have hbd102 : ∀ x ∈ ([r_5, r_11] : List Int32), ¬ x < 0 ∧ ¬ (65535 : Int32) < x := own_up _ hpe
      have f103 := (f95.keep Kq96 all0)
      obtain ⟨cq104, kq104, qa104, qb104, qc104⟩ := isOf hZ rfl q96_0
      obtain ⟨_, _, ⟨T104, L104, k104, n104⟩, -, X104, ⟨Lc104, hQ104, l104, y104, z104⟩, st104⟩ := X96.virtualBack hx (y := (⟨"java/lang/String", "length", "()I"⟩ : MethodName)) (z := (⟨"java/lang/String", "length", "()I"⟩ : MethodName)) hown (mvT hZ (hw _ (List.mem_of_getElem? (i := 112) rfl))) (mvT hZ (hw _ (List.mem_of_getElem? (i := 47) rfl))) (notFace_of_selects (args := #[]) (mvT hZ (hw _ (List.mem_of_getElem? (i := 49) rfl)))) (mvT hZ (hw _ (List.mem_of_getElem? (i := 49) rfl))) (mvT hZ (hw _ (List.mem_of_getElem? (i := 48) rfl))) (by decide) (StrChars.Road.lenW (W := 0) hZ hln (kI := 4) (hw _ (List.mem_of_getElem? (i := 9) rfl)) q96_0 q96_1 q96_2 q96_3 hcd102 hbd102 (pS_COMPACT_STRINGS.ext f103.2) pP5 (Nat.le_of_ble_eq_true rfl) (by decide) (by decide)) qa104 qc104 (g := (mkF m 233 (own_A p0 p1 p2 (3 : Int32) dd b1 (.val (.ref x_91)) (.val (.ref y_96)) (.val (.int (2 : Int32))) (.val (.int (2 : Int32)))) [(.ref y_96)])) rfl (by rw [hml]; rfl) (Steps.refl _) (argsL := []) (rest := []) (lenOf pd___I rfl) rfl (by show 2 * 0 + _ ≤ _; exact Nat.le_of_eq rfl) (hb hby at_233) (fun _ _ => ⟨rfl, rfl, (by decide : 6 + 0 ≤ _), (by decide : 23 + 0 ≤ _)⟩)
      dsimp only [Pt.U, Pt.locs, Pt.cells, Pt.slots] at X104 l104 y104 z104 st104 hQ104
      try dsimp only [Nat.reduceAdd] at y104 z104
      rw [l104, y104, z104] at X104
      obtain ⟨rfl, rfl, eH104⟩ := hQ104
      have N104 := Fr.app N96 (Fr.nil n0)
      refine own_tr st104 ?_
      show own_Go p e below T104 (mkF m 236 (own_A p0 p1 p2 (3 : Int32) dd b1 (.val (.ref x_91)) (.val (.ref y_96)) (.val (.int (2 : Int32))) (.val (.int (2 : Int32)))) [(.int (2 : Int32))]) _
      refine own_st (fun t_ k_ => XS.iload X104.here hx rfl (hb hby at_236) rfl k_) ?_
      refine own_st (fun t_ k_ => XS.icmpNo X104.here hx rfl (hb hby at_238) rfl (by decide) k_) ?_
      refine own_st (fun t_ k_ => XS.iload X104.here hx rfl (hb hby at_241) rfl k_) ?_
      refine own_st (fun t_ k_ => XS.iconst X104.here hx rfl (hb hby at_243) k_) ?_
      refine own_st (fun t_ k_ => XS.icmpNo X104.here hx rfl (hb hby at_244) rfl (by decide) k_) ?_
      show own_Go p e below T104 (mkF m 247 (own_A p0 p1 p2 (3 : Int32) dd b1 (.val (.ref x_91)) (.val (.ref y_96)) (.val (.int (2 : Int32))) (.val (.int (2 : Int32)))) []) _
      refine own_st (fun t_ k_ => XS.aload X104.here hx rfl (hb hby at_247) rfl rfl k_) ?_
      refine own_st (fun t_ k_ => XS.iconst X104.here hx rfl (hb hby at_249) k_) ?_
      show own_Go p e below T104 (mkF m 250 (own_A p0 p1 p2 (3 : Int32) dd b1 (.val (.ref x_91)) (.val (.ref y_96)) (.val (.int (2 : Int32))) (.val (.int (2 : Int32)))) [(.int (0 : Int32)), (.ref y_96)]) _
      obtain ⟨cq105, kq105, qa105, qb105, qc105⟩ := isOf hZ eH104 q96_0
      obtain ⟨_, _, ⟨T105, L105, k105, n105⟩, -, X105, ⟨Lc105, hQ105, l105, y105, z105⟩, st105⟩ := X104.virtualBack hx (y := (⟨"java/lang/String", "charAt", "(I)C"⟩ : MethodName)) (z := (⟨"java/lang/String", "charAt", "(I)C"⟩ : MethodName)) hown (mvT hZ (hw _ (List.mem_of_getElem? (i := 113) rfl))) (mvT hZ (hw _ (List.mem_of_getElem? (i := 114) rfl))) (notFace_of_selects (args := #[]) (mvT hZ (hw _ (List.mem_of_getElem? (i := 116) rfl)))) (mvT hZ (hw _ (List.mem_of_getElem? (i := 116) rfl))) (mvT hZ (hw _ (List.mem_of_getElem? (i := 115) rfl))) (by decide) (StrChars.Road.chN (W := 0) hZ hch (kI := 4) (hw _ (List.mem_of_getElem? (i := 9) rfl)) q96_0 q96_1 q96_2 q96_3 hcd102 hbd102 (pS_COMPACT_STRINGS.ext f103.2) pP5 (pS_SIOOBE_FORMATTER.ext f103.2) rfm (Nat.le_of_ble_eq_true rfl) (i := 0) (Nat.le_of_ble_eq_true rfl) (j := (0 : Int32)) rfl (by decide) (by decide)) qa105 qc105 (g := (mkF m 250 (own_A p0 p1 p2 (3 : Int32) dd b1 (.val (.ref x_91)) (.val (.ref y_96)) (.val (.int (2 : Int32))) (.val (.int (2 : Int32)))) [(.int (0 : Int32)), (.ref y_96)])) rfl (by rw [hml]; rfl) (Steps.refl _) (argsL := [(.int (0 : Int32))]) (rest := []) (lenOf pd__I_C rfl) rfl (by show 2 * 0 + _ ≤ _; exact Nat.le_of_eq rfl) (hb hby at_250) (fun _ _ => ⟨rfl, eH104, (by decide : 6 + 0 ≤ _), (by decide : 23 + 0 ≤ _)⟩)
      dsimp only [Pt.U, Pt.locs, Pt.cells, Pt.slots] at X105 l105 y105 z105 st105 hQ105
      try dsimp only [Nat.reduceAdd] at y105 z105
      rw [l105, y105, z105] at X105
      obtain ⟨rfl, rfl, eH105⟩ := hQ105
      have N105 := Fr.app N104 (Fr.nil n0)
      refine own_tr st105 ?_
      show own_Go p e below T105 (mkF m 253 (own_A p0 p1 p2 (3 : Int32) dd b1 (.val (.ref x_91)) (.val (.ref y_96)) (.val (.int (2 : Int32))) (.val (.int (2 : Int32)))) [(.int r_5)]) _
      refine own_st (fun t_ k_ => XS.aload X105.here hx rfl (hb hby at_253) rfl rfl k_) ?_
      refine own_st (fun t_ k_ => XS.iconst X105.here hx rfl (hb hby at_255) k_) ?_
      show own_Go p e below T105 (mkF m 256 (own_A p0 p1 p2 (3 : Int32) dd b1 (.val (.ref x_91)) (.val (.ref y_96)) (.val (.int (2 : Int32))) (.val (.int (2 : Int32)))) [(.int (0 : Int32)), (.ref b1), (.int r_5)]) _
      obtain ⟨cl106, Ar106, q106, Sz106, Nn106, Hh106, Gg106⟩ := id f100
      have hin106 : ¬ ((0 : Int32) < 0 ∨ cl106.slots.size ≤ ((0 : Int32)).toNatClampNeg) := inb_of Sz106 ⟨by decide, by decide⟩
      have hat106 : cl106.slots[((0 : Int32)).toNatClampNeg]? = some (.int r_5) := Has.at Hh106 hin106 rfl
      refine own_st (fun t_ k_ => X105.caload hx (j := (0 : Int32)) (v := (.int r_5)) (by rw [eH105]; exact Ar106.1) (State.isArrayOf_alike hZ.alike Ar106.2.1) Ar106.2.2 hin106 hat106 (g := (mkF m 256 (own_A p0 p1 p2 (3 : Int32) dd b1 (.val (.ref x_91)) (.val (.ref y_96)) (.val (.int (2 : Int32))) (.val (.int (2 : Int32)))) [(.int (0 : Int32)), (.ref b1), (.int r_5)])) rfl rfl (hb hby at_256) _ k_) ?_
      refine own_st (fun t_ k_ => XS.icmpNo X105.here hx rfl (hb hby at_257) rfl (teq rfl).2 k_) ?_
      refine own_st (fun t_ k_ => XS.iload X105.here hx rfl (hb hby at_260) rfl k_) ?_
      refine own_st (fun t_ k_ => XS.iconst X105.here hx rfl (hb hby at_262) k_) ?_
      refine own_st (fun t_ k_ => XS.icmpNo X105.here hx rfl (hb hby at_263) rfl (by decide) k_) ?_
      show own_Go p e below T105 (mkF m 266 (own_A p0 p1 p2 (3 : Int32) dd b1 (.val (.ref x_91)) (.val (.ref y_96)) (.val (.int (2 : Int32))) (.val (.int (2 : Int32)))) []) _
      refine own_st (fun t_ k_ => XS.aload X105.here hx rfl (hb hby at_266) rfl rfl k_) ?_
      refine own_st (fun t_ k_ => XS.iconst X105.here hx rfl (hb hby at_268) k_) ?_
      show own_Go p e below T105 (mkF m 269 (own_A p0 p1 p2 (3 : Int32) dd b1 (.val (.ref x_91)) (.val (.ref y_96)) (.val (.int (2 : Int32))) (.val (.int (2 : Int32)))) [(.int (1 : Int32)), (.ref y_96)]) _
      obtain ⟨cq107, kq107, qa107, qb107, qc107⟩ := isOf hZ eH105 q96_0
      obtain ⟨_, _, ⟨T107, L107, k107, n107⟩, -, X107, ⟨Lc107, hQ107, l107, y107, z107⟩, st107⟩ := X105.virtualBack hx (y := (⟨"java/lang/String", "charAt", "(I)C"⟩ : MethodName)) (z := (⟨"java/lang/String", "charAt", "(I)C"⟩ : MethodName)) hown (mvT hZ (hw _ (List.mem_of_getElem? (i := 113) rfl))) (mvT hZ (hw _ (List.mem_of_getElem? (i := 114) rfl))) (notFace_of_selects (args := #[]) (mvT hZ (hw _ (List.mem_of_getElem? (i := 116) rfl)))) (mvT hZ (hw _ (List.mem_of_getElem? (i := 116) rfl))) (mvT hZ (hw _ (List.mem_of_getElem? (i := 115) rfl))) (by decide) (StrChars.Road.chN (W := 0) hZ hch (kI := 4) (hw _ (List.mem_of_getElem? (i := 9) rfl)) q96_0 q96_1 q96_2 q96_3 hcd102 hbd102 (pS_COMPACT_STRINGS.ext f103.2) pP5 (pS_SIOOBE_FORMATTER.ext f103.2) rfm (Nat.le_of_ble_eq_true rfl) (i := 1) (Nat.le_of_ble_eq_true rfl) (j := (1 : Int32)) rfl (by decide) (by decide)) qa107 qc107 (g := (mkF m 269 (own_A p0 p1 p2 (3 : Int32) dd b1 (.val (.ref x_91)) (.val (.ref y_96)) (.val (.int (2 : Int32))) (.val (.int (2 : Int32)))) [(.int (1 : Int32)), (.ref y_96)])) rfl (by rw [hml]; rfl) (Steps.refl _) (argsL := [(.int (1 : Int32))]) (rest := []) (lenOf pd__I_C rfl) rfl (by show 2 * 0 + _ ≤ _; exact Nat.le_of_eq rfl) (hb hby at_269) (fun _ _ => ⟨rfl, eH105, (by decide : 6 + 0 ≤ _), (by decide : 23 + 0 ≤ _)⟩)
      dsimp only [Pt.U, Pt.locs, Pt.cells, Pt.slots] at X107 l107 y107 z107 st107 hQ107
      try dsimp only [Nat.reduceAdd] at y107 z107
      rw [l107, y107, z107] at X107
      obtain ⟨rfl, rfl, eH107⟩ := hQ107
      have N107 := Fr.app N105 (Fr.nil n0)
      refine own_tr st107 ?_
      show own_Go p e below T107 (mkF m 272 (own_A p0 p1 p2 (3 : Int32) dd b1 (.val (.ref x_91)) (.val (.ref y_96)) (.val (.int (2 : Int32))) (.val (.int (2 : Int32)))) [(.int r_11)]) _
      refine own_st (fun t_ k_ => XS.aload X107.here hx rfl (hb hby at_272) rfl rfl k_) ?_
      refine own_st (fun t_ k_ => XS.iconst X107.here hx rfl (hb hby at_274) k_) ?_
      show own_Go p e below T107 (mkF m 275 (own_A p0 p1 p2 (3 : Int32) dd b1 (.val (.ref x_91)) (.val (.ref y_96)) (.val (.int (2 : Int32))) (.val (.int (2 : Int32)))) [(.int (1 : Int32)), (.ref b1), (.int r_11)]) _
      obtain ⟨cl108, Ar108, q108, Sz108, Nn108, Hh108, Gg108⟩ := id f100
      have hin108 : ¬ ((1 : Int32) < 0 ∨ cl108.slots.size ≤ ((1 : Int32)).toNatClampNeg) := inb_of Sz108 ⟨by decide, by decide⟩
      have hat108 : cl108.slots[((1 : Int32)).toNatClampNeg]? = some (.int r_11) := Has.at Hh108 hin108 rfl
      refine own_st (fun t_ k_ => X107.caload hx (j := (1 : Int32)) (v := (.int r_11)) (by rw [eH107]; exact Ar108.1) (State.isArrayOf_alike hZ.alike Ar108.2.1) Ar108.2.2 hin108 hat108 (g := (mkF m 275 (own_A p0 p1 p2 (3 : Int32) dd b1 (.val (.ref x_91)) (.val (.ref y_96)) (.val (.int (2 : Int32))) (.val (.int (2 : Int32)))) [(.int (1 : Int32)), (.ref b1), (.int r_11)])) rfl rfl (hb hby at_275) _ k_) ?_
      refine own_st (fun t_ k_ => XS.icmpNo X107.here hx rfl (hb hby at_276) rfl (teq rfl).2 k_) ?_
      refine own_st (fun t_ k_ => XS.iload X107.here hx rfl (hb hby at_279) rfl k_) ?_
      refine own_st (fun t_ k_ => XS.iconst X107.here hx rfl (hb hby at_281) k_) ?_
      refine own_st (fun t_ k_ => XS.icmpYes X107.here hx rfl (pc0 := 282) (pc' := 298) rfl (hb hby at_282) rfl (by decide) (by decide) (by decide) k_) ?_
      show own_Go p e below T107 (mkF m 298 (own_A p0 p1 p2 (3 : Int32) dd b1 (.val (.ref x_91)) (.val (.ref y_96)) (.val (.int (2 : Int32))) (.val (.int (2 : Int32)))) []) _
      refine own_st (fun t_ k_ => XS.iload X107.here hx rfl (hb hby at_298) rfl k_) ?_
      refine own_st (fun t_ k_ => XS.iconst X107.here hx rfl (hb hby at_300) k_) ?_
      refine own_st (fun t_ k_ => XS.icmpYes X107.here hx rfl (pc0 := 301) (pc' := 317) rfl (hb hby at_301) rfl (by decide) (by decide) (by decide) k_) ?_
      refine own_st (fun t_ k_ => XS.iconst X107.here hx rfl (hb hby at_317) k_) ?_
      refine own_st (fun t_ k_ => XS.goto X107.here hx rfl (pc0 := 318) (pc' := 322) rfl (hb hby at_318) (by decide) (by decide) k_) ?_
      show own_Go p e below T107 (mkF m 322 (own_A p0 p1 p2 (3 : Int32) dd b1 (.val (.ref x_91)) (.val (.ref y_96)) (.val (.int (2 : Int32))) (.val (.int (2 : Int32)))) [(.int (1 : Int32))]) _
      obtain ⟨fs, hr, hrun, hended, hRW⟩ := X107.leaveW hS (by rw [eH107]; exact hK96) (v := some (.int (1 : Int32))) (fun h => by rw [Bd.returns] at h; cases h)
      have hCend : CHr Z own_EL s.vm s.heap T107.vm T107.heap := by
        rw [hh, eH107]
        exact CHr.trans CR98 (CHv.at X107 hZ hEL CH98)
      refine own_fin (retN X107 hx (t := .boolean) Bd.returns (by simp) (hb hby at_322) hr) ⟨hrun, hended, _, _, rfl, ?_, hCend, hRW.1, hRW.2.1, hRW.2.2.1, hRW.2.2.2.mono (by decide) (by decide)⟩
      show Q_rmLaw Z p0 p1 p2 zc fm h0 n0 _ T107.heap _
      rw [eH107]
      exact ⟨rfl, N107, K99⟩
    · skip
      have hpe : ∀ c ∈ ([r_5] : List Int32), ¬ c < 0 ∧ ¬ (255 : Int32) < c := by
        intro c hc
        simp only [List.mem_cons, List.not_mem_nil, or_false] at hc
        subst hc
        exact own_ch255 q5_0
      obtain ⟨d1, d2⟩ := hj
      refine own_st (fun t_ k_ => XS.astore X96.here hx rfl (hb hby at_116) rfl rfl (l' := (own_A p0 p1 p2 (3 : Int32) dd b1 (.val (.ref x_91)) (.val (.ref y_96)) .unset .unset)) rfl k_) ?_
      refine own_st (fun t_ k_ => XS.iconst X96.here hx rfl (hb hby at_118) k_) ?_
      refine own_st (fun t_ k_ => XS.istore X96.here hx rfl (hb hby at_119) rfl (l' := (own_A p0 p1 p2 (3 : Int32) dd b1 (.val (.ref x_91)) (.val (.ref y_96)) (.val (.int (-1 : Int32))) .unset)) rfl k_) ?_
      refine own_st (fun t_ k_ => XS.iloadN X96.here hx rfl (hb hby at_121) rfl k_) ?_
      refine own_st (fun t_ k_ => XS.iconst X96.here hx rfl (hb hby at_122) k_) ?_
      show own_Go p e below T96 (mkF m 123 (own_A p0 p1 p2 (3 : Int32) dd b1 (.val (.ref x_91)) (.val (.ref y_96)) (.val (.int (-1 : Int32))) .unset) [(.int (4 : Int32)), (.int (3 : Int32))]) _
      refine own_st (fun t_ k_ => XS.icmpYes X96.here hx rfl (pc0 := 123) (pc' := 141) rfl (hb hby at_123) rfl (by decide) (by decide) (by decide) k_) ?_
      refine own_st (fun t_ k_ => XS.iloadN X96.here hx rfl (hb hby at_141) rfl k_) ?_
      refine own_st (fun t_ k_ => XS.iconst X96.here hx rfl (hb hby at_142) k_) ?_
      refine own_st (fun t_ k_ => XS.icmpYes X96.here hx rfl (pc0 := 143) (pc' := 161) rfl (hb hby at_143) rfl (by decide) (by decide) (by decide) k_) ?_
      refine own_st (fun t_ k_ => XS.iloadN X96.here hx rfl (hb hby at_161) rfl k_) ?_
      refine own_st (fun t_ k_ => XS.iconst X96.here hx rfl (hb hby at_162) k_) ?_
      show own_Go p e below T96 (mkF m 163 (own_A p0 p1 p2 (3 : Int32) dd b1 (.val (.ref x_91)) (.val (.ref y_96)) (.val (.int (-1 : Int32))) .unset) [(.int (2 : Int32)), (.int (3 : Int32))]) _
      refine own_st (fun t_ k_ => XS.icmpNo X96.here hx rfl (hb hby at_163) rfl (by decide) k_) ?_
      refine own_st (fun t_ k_ => XS.aload X96.here hx rfl (hb hby at_166) rfl rfl k_) ?_
      refine own_st (fun t_ k_ => XS.iconst X96.here hx rfl (hb hby at_168) k_) ?_
      show own_Go p e below T96 (mkF m 169 (own_A p0 p1 p2 (3 : Int32) dd b1 (.val (.ref x_91)) (.val (.ref y_96)) (.val (.int (-1 : Int32))) .unset) [(.int (2 : Int32)), (.ref b1)]) _
      have f109 := ((V31.keep Kq91 nin0).keep Kq96 nin0)
      obtain ⟨cl110, Ar110, q110, Sz110, Nn110, Hh110, Gg110⟩ := id f109
      have hin110 : ¬ ((2 : Int32) < 0 ∨ cl110.slots.size ≤ ((2 : Int32)).toNatClampNeg) := inb_of Sz110 ⟨by decide, by decide⟩
      have hat110 : cl110.slots[((2 : Int32)).toNatClampNeg]? = some (.int r_17) := Has.at Hh110 hin110 rfl
      refine own_st (fun t_ k_ => X96.caload hx (j := (2 : Int32)) (v := (.int r_17)) (by exact Ar110.1) (State.isArrayOf_alike hZ.alike Ar110.2.1) Ar110.2.2 hin110 hat110 (g := (mkF m 169 (own_A p0 p1 p2 (3 : Int32) dd b1 (.val (.ref x_91)) (.val (.ref y_96)) (.val (.int (-1 : Int32))) .unset) [(.int (2 : Int32)), (.ref b1)])) rfl rfl (hb hby at_169) _ k_) ?_
      refine own_st (fun t_ k_ => XS.bipush X96.here hx rfl (hb hby at_170) k_) ?_
      refine own_st (fun t_ k_ => XS.icmpYes X96.here hx rfl (pc0 := 172) (pc' := 181) rfl (hb hby at_172) rfl (feq d2).2 (by decide) (by decide) k_) ?_
      refine own_st (fun t_ k_ => XS.iloadN X96.here hx rfl (hb hby at_181) rfl k_) ?_
      refine own_st (fun t_ k_ => XS.iconst X96.here hx rfl (hb hby at_182) k_) ?_
      show own_Go p e below T96 (mkF m 183 (own_A p0 p1 p2 (3 : Int32) dd b1 (.val (.ref x_91)) (.val (.ref y_96)) (.val (.int (-1 : Int32))) .unset) [(.int (1 : Int32)), (.int (3 : Int32))]) _
      refine own_st (fun t_ k_ => XS.icmpNo X96.here hx rfl (hb hby at_183) rfl (by decide) k_) ?_
      refine own_st (fun t_ k_ => XS.aload X96.here hx rfl (hb hby at_186) rfl rfl k_) ?_
      refine own_st (fun t_ k_ => XS.iconst X96.here hx rfl (hb hby at_188) k_) ?_
      show own_Go p e below T96 (mkF m 189 (own_A p0 p1 p2 (3 : Int32) dd b1 (.val (.ref x_91)) (.val (.ref y_96)) (.val (.int (-1 : Int32))) .unset) [(.int (1 : Int32)), (.ref b1)]) _
      obtain ⟨cl111, Ar111, q111, Sz111, Nn111, Hh111, Gg111⟩ := id f109
      have hin111 : ¬ ((1 : Int32) < 0 ∨ cl111.slots.size ≤ ((1 : Int32)).toNatClampNeg) := inb_of Sz111 ⟨by decide, by decide⟩
      have hat111 : cl111.slots[((1 : Int32)).toNatClampNeg]? = some (.int r_11) := Has.at Hh111 hin111 rfl
      refine own_st (fun t_ k_ => X96.caload hx (j := (1 : Int32)) (v := (.int r_11)) (by exact Ar111.1) (State.isArrayOf_alike hZ.alike Ar111.2.1) Ar111.2.2 hin111 hat111 (g := (mkF m 189 (own_A p0 p1 p2 (3 : Int32) dd b1 (.val (.ref x_91)) (.val (.ref y_96)) (.val (.int (-1 : Int32))) .unset) [(.int (1 : Int32)), (.ref b1)])) rfl rfl (hb hby at_189) _ k_) ?_
      refine own_st (fun t_ k_ => XS.bipush X96.here hx rfl (hb hby at_190) k_) ?_
      refine own_st (fun t_ k_ => XS.icmpNo X96.here hx rfl (hb hby at_192) rfl (teq d1).2 k_) ?_
      refine own_st (fun t_ k_ => XS.iconst X96.here hx rfl (hb hby at_195) k_) ?_
      refine own_st (fun t_ k_ => XS.istore X96.here hx rfl (hb hby at_196) rfl (l' := (own_A p0 p1 p2 (3 : Int32) dd b1 (.val (.ref x_91)) (.val (.ref y_96)) (.val (.int (1 : Int32))) .unset)) rfl k_) ?_
      show own_Go p e below T96 (mkF m 198 (own_A p0 p1 p2 (3 : Int32) dd b1 (.val (.ref x_91)) (.val (.ref y_96)) (.val (.int (1 : Int32))) .unset) []) _
      refine own_st (fun t_ k_ => XS.goto X96.here hx rfl (pc0 := 198) (pc' := 213) rfl (hb hby at_198) (by decide) (by decide) k_) ?_
      refine own_st (fun t_ k_ => XS.iload X96.here hx rfl (hb hby at_213) rfl k_) ?_
      refine own_st (fun t_ k_ => XS.ifYes X96.here hx rfl (pc0 := 215) (pc' := 222) rfl (hb hby at_215) rfl (by decide) (by decide) (by decide) k_) ?_
      refine own_st (fun t_ k_ => XS.iload X96.here hx rfl (hb hby at_222) rfl k_) ?_
      refine own_st (fun t_ k_ => XS.istore X96.here hx rfl (hb hby at_224) rfl (l' := (own_A p0 p1 p2 (3 : Int32) dd b1 (.val (.ref x_91)) (.val (.ref y_96)) (.val (.int (1 : Int32))) (.val (.int (1 : Int32))))) rfl k_) ?_
      refine own_st (fun t_ k_ => XS.aload X96.here hx rfl (hb hby at_226) rfl rfl k_) ?_
      show own_Go p e below T96 (mkF m 228 (own_A p0 p1 p2 (3 : Int32) dd b1 (.val (.ref x_91)) (.val (.ref y_96)) (.val (.int (1 : Int32))) (.val (.int (1 : Int32)))) [(.ref y_96)]) _
      refine own_st (fun t_ k_ => XS.ifnullNo X96.here hx rfl (hb hby at_228) rfl k_) ?_
      refine own_st (fun t_ k_ => XS.aload X96.here hx rfl (hb hby at_231) rfl rfl k_) ?_
      show own_Go p e below T96 (mkF m 233 (own_A p0 p1 p2 (3 : Int32) dd b1 (.val (.ref x_91)) (.val (.ref y_96)) (.val (.int (1 : Int32))) (.val (.int (1 : Int32)))) [(.ref y_96)]) _
      have hcd112 : StrChars.Road.CodA ([r_5] : List Int32) 0 (1 : Int32) ((([r_5] : List Int32).map (fun c : Int32 => c.toInt8.toInt32)).map Value.int) := StrChars.Road.codOf rfl (fun x hx => (hpe x hx).2)
      have hbd112 : ∀ x ∈ ([r_5] : List Int32), ¬ x < 0 ∧ ¬ (65535 : Int32) < x := own_up _ hpe
      have f113 := (f95.keep Kq96 all0)
      obtain ⟨cq114, kq114, qa114, qb114, qc114⟩ := isOf hZ rfl q96_0
      obtain ⟨_, _, ⟨T114, L114, k114, n114⟩, -, X114, ⟨Lc114, hQ114, l114, y114, z114⟩, st114⟩ := X96.virtualBack hx (y := (⟨"java/lang/String", "length", "()I"⟩ : MethodName)) (z := (⟨"java/lang/String", "length", "()I"⟩ : MethodName)) hown (mvT hZ (hw _ (List.mem_of_getElem? (i := 112) rfl))) (mvT hZ (hw _ (List.mem_of_getElem? (i := 47) rfl))) (notFace_of_selects (args := #[]) (mvT hZ (hw _ (List.mem_of_getElem? (i := 49) rfl)))) (mvT hZ (hw _ (List.mem_of_getElem? (i := 49) rfl))) (mvT hZ (hw _ (List.mem_of_getElem? (i := 48) rfl))) (by decide) (StrChars.Road.lenW (W := 0) hZ hln (kI := 4) (hw _ (List.mem_of_getElem? (i := 9) rfl)) q96_0 q96_1 q96_2 q96_3 hcd112 hbd112 (pS_COMPACT_STRINGS.ext f113.2) pP5 (Nat.le_of_ble_eq_true rfl) (by decide) (by decide)) qa114 qc114 (g := (mkF m 233 (own_A p0 p1 p2 (3 : Int32) dd b1 (.val (.ref x_91)) (.val (.ref y_96)) (.val (.int (1 : Int32))) (.val (.int (1 : Int32)))) [(.ref y_96)])) rfl (by rw [hml]; rfl) (Steps.refl _) (argsL := []) (rest := []) (lenOf pd___I rfl) rfl (by show 2 * 0 + _ ≤ _; exact Nat.le_of_eq rfl) (hb hby at_233) (fun _ _ => ⟨rfl, rfl, (by decide : 6 + 0 ≤ _), (by decide : 23 + 0 ≤ _)⟩)
      dsimp only [Pt.U, Pt.locs, Pt.cells, Pt.slots] at X114 l114 y114 z114 st114 hQ114
      try dsimp only [Nat.reduceAdd] at y114 z114
      rw [l114, y114, z114] at X114
      obtain ⟨rfl, rfl, eH114⟩ := hQ114
      have N114 := Fr.app N96 (Fr.nil n0)
      refine own_tr st114 ?_
      show own_Go p e below T114 (mkF m 236 (own_A p0 p1 p2 (3 : Int32) dd b1 (.val (.ref x_91)) (.val (.ref y_96)) (.val (.int (1 : Int32))) (.val (.int (1 : Int32)))) [(.int (1 : Int32))]) _
      refine own_st (fun t_ k_ => XS.iload X114.here hx rfl (hb hby at_236) rfl k_) ?_
      refine own_st (fun t_ k_ => XS.icmpNo X114.here hx rfl (hb hby at_238) rfl (by decide) k_) ?_
      refine own_st (fun t_ k_ => XS.iload X114.here hx rfl (hb hby at_241) rfl k_) ?_
      refine own_st (fun t_ k_ => XS.iconst X114.here hx rfl (hb hby at_243) k_) ?_
      refine own_st (fun t_ k_ => XS.icmpNo X114.here hx rfl (hb hby at_244) rfl (by decide) k_) ?_
      show own_Go p e below T114 (mkF m 247 (own_A p0 p1 p2 (3 : Int32) dd b1 (.val (.ref x_91)) (.val (.ref y_96)) (.val (.int (1 : Int32))) (.val (.int (1 : Int32)))) []) _
      refine own_st (fun t_ k_ => XS.aload X114.here hx rfl (hb hby at_247) rfl rfl k_) ?_
      refine own_st (fun t_ k_ => XS.iconst X114.here hx rfl (hb hby at_249) k_) ?_
      show own_Go p e below T114 (mkF m 250 (own_A p0 p1 p2 (3 : Int32) dd b1 (.val (.ref x_91)) (.val (.ref y_96)) (.val (.int (1 : Int32))) (.val (.int (1 : Int32)))) [(.int (0 : Int32)), (.ref y_96)]) _
      obtain ⟨cq115, kq115, qa115, qb115, qc115⟩ := isOf hZ eH114 q96_0
      obtain ⟨_, _, ⟨T115, L115, k115, n115⟩, -, X115, ⟨Lc115, hQ115, l115, y115, z115⟩, st115⟩ := X114.virtualBack hx (y := (⟨"java/lang/String", "charAt", "(I)C"⟩ : MethodName)) (z := (⟨"java/lang/String", "charAt", "(I)C"⟩ : MethodName)) hown (mvT hZ (hw _ (List.mem_of_getElem? (i := 113) rfl))) (mvT hZ (hw _ (List.mem_of_getElem? (i := 114) rfl))) (notFace_of_selects (args := #[]) (mvT hZ (hw _ (List.mem_of_getElem? (i := 116) rfl)))) (mvT hZ (hw _ (List.mem_of_getElem? (i := 116) rfl))) (mvT hZ (hw _ (List.mem_of_getElem? (i := 115) rfl))) (by decide) (StrChars.Road.chN (W := 0) hZ hch (kI := 4) (hw _ (List.mem_of_getElem? (i := 9) rfl)) q96_0 q96_1 q96_2 q96_3 hcd112 hbd112 (pS_COMPACT_STRINGS.ext f113.2) pP5 (pS_SIOOBE_FORMATTER.ext f113.2) rfm (Nat.le_of_ble_eq_true rfl) (i := 0) (Nat.le_of_ble_eq_true rfl) (j := (0 : Int32)) rfl (by decide) (by decide)) qa115 qc115 (g := (mkF m 250 (own_A p0 p1 p2 (3 : Int32) dd b1 (.val (.ref x_91)) (.val (.ref y_96)) (.val (.int (1 : Int32))) (.val (.int (1 : Int32)))) [(.int (0 : Int32)), (.ref y_96)])) rfl (by rw [hml]; rfl) (Steps.refl _) (argsL := [(.int (0 : Int32))]) (rest := []) (lenOf pd__I_C rfl) rfl (by show 2 * 0 + _ ≤ _; exact Nat.le_of_eq rfl) (hb hby at_250) (fun _ _ => ⟨rfl, eH114, (by decide : 6 + 0 ≤ _), (by decide : 23 + 0 ≤ _)⟩)
      dsimp only [Pt.U, Pt.locs, Pt.cells, Pt.slots] at X115 l115 y115 z115 st115 hQ115
      try dsimp only [Nat.reduceAdd] at y115 z115
      rw [l115, y115, z115] at X115
      obtain ⟨rfl, rfl, eH115⟩ := hQ115
      have N115 := Fr.app N114 (Fr.nil n0)
      refine own_tr st115 ?_
      show own_Go p e below T115 (mkF m 253 (own_A p0 p1 p2 (3 : Int32) dd b1 (.val (.ref x_91)) (.val (.ref y_96)) (.val (.int (1 : Int32))) (.val (.int (1 : Int32)))) [(.int r_5)]) _
      refine own_st (fun t_ k_ => XS.aload X115.here hx rfl (hb hby at_253) rfl rfl k_) ?_
      refine own_st (fun t_ k_ => XS.iconst X115.here hx rfl (hb hby at_255) k_) ?_
      show own_Go p e below T115 (mkF m 256 (own_A p0 p1 p2 (3 : Int32) dd b1 (.val (.ref x_91)) (.val (.ref y_96)) (.val (.int (1 : Int32))) (.val (.int (1 : Int32)))) [(.int (0 : Int32)), (.ref b1), (.int r_5)]) _
      obtain ⟨cl116, Ar116, q116, Sz116, Nn116, Hh116, Gg116⟩ := id f109
      have hin116 : ¬ ((0 : Int32) < 0 ∨ cl116.slots.size ≤ ((0 : Int32)).toNatClampNeg) := inb_of Sz116 ⟨by decide, by decide⟩
      have hat116 : cl116.slots[((0 : Int32)).toNatClampNeg]? = some (.int r_5) := Has.at Hh116 hin116 rfl
      refine own_st (fun t_ k_ => X115.caload hx (j := (0 : Int32)) (v := (.int r_5)) (by rw [eH115]; exact Ar116.1) (State.isArrayOf_alike hZ.alike Ar116.2.1) Ar116.2.2 hin116 hat116 (g := (mkF m 256 (own_A p0 p1 p2 (3 : Int32) dd b1 (.val (.ref x_91)) (.val (.ref y_96)) (.val (.int (1 : Int32))) (.val (.int (1 : Int32)))) [(.int (0 : Int32)), (.ref b1), (.int r_5)])) rfl rfl (hb hby at_256) _ k_) ?_
      refine own_st (fun t_ k_ => XS.icmpNo X115.here hx rfl (hb hby at_257) rfl (teq rfl).2 k_) ?_
      refine own_st (fun t_ k_ => XS.iload X115.here hx rfl (hb hby at_260) rfl k_) ?_
      refine own_st (fun t_ k_ => XS.iconst X115.here hx rfl (hb hby at_262) k_) ?_
      refine own_st (fun t_ k_ => XS.icmpYes X115.here hx rfl (pc0 := 263) (pc' := 279) rfl (hb hby at_263) rfl (by decide) (by decide) (by decide) k_) ?_
      show own_Go p e below T115 (mkF m 279 (own_A p0 p1 p2 (3 : Int32) dd b1 (.val (.ref x_91)) (.val (.ref y_96)) (.val (.int (1 : Int32))) (.val (.int (1 : Int32)))) []) _
      refine own_st (fun t_ k_ => XS.iload X115.here hx rfl (hb hby at_279) rfl k_) ?_
      refine own_st (fun t_ k_ => XS.iconst X115.here hx rfl (hb hby at_281) k_) ?_
      refine own_st (fun t_ k_ => XS.icmpYes X115.here hx rfl (pc0 := 282) (pc' := 298) rfl (hb hby at_282) rfl (by decide) (by decide) (by decide) k_) ?_
      refine own_st (fun t_ k_ => XS.iload X115.here hx rfl (hb hby at_298) rfl k_) ?_
      refine own_st (fun t_ k_ => XS.iconst X115.here hx rfl (hb hby at_300) k_) ?_
      refine own_st (fun t_ k_ => XS.icmpYes X115.here hx rfl (pc0 := 301) (pc' := 317) rfl (hb hby at_301) rfl (by decide) (by decide) (by decide) k_) ?_
      show own_Go p e below T115 (mkF m 317 (own_A p0 p1 p2 (3 : Int32) dd b1 (.val (.ref x_91)) (.val (.ref y_96)) (.val (.int (1 : Int32))) (.val (.int (1 : Int32)))) []) _
      refine own_st (fun t_ k_ => XS.iconst X115.here hx rfl (hb hby at_317) k_) ?_
      refine own_st (fun t_ k_ => XS.goto X115.here hx rfl (pc0 := 318) (pc' := 322) rfl (hb hby at_318) (by decide) (by decide) k_) ?_
      show own_Go p e below T115 (mkF m 322 (own_A p0 p1 p2 (3 : Int32) dd b1 (.val (.ref x_91)) (.val (.ref y_96)) (.val (.int (1 : Int32))) (.val (.int (1 : Int32)))) [(.int (1 : Int32))]) _
      obtain ⟨fs, hr, hrun, hended, hRW⟩ := X115.leaveW hS (by rw [eH115]; exact hK96) (v := some (.int (1 : Int32))) (fun h => by rw [Bd.returns] at h; cases h)
      have hCend : CHr Z own_EL s.vm s.heap T115.vm T115.heap := by
        rw [hh, eH115]
        exact CHr.trans CR98 (CHv.at X115 hZ hEL CH98)
      refine own_fin (retN X115 hx (t := .boolean) Bd.returns (by simp) (hb hby at_322) hr) ⟨hrun, hended, _, _, rfl, ?_, hCend, hRW.1, hRW.2.1, hRW.2.2.1, hRW.2.2.2.mono (by decide) (by decide)⟩
      show Q_rmLaw Z p0 p1 p2 zc fm h0 n0 _ T115.heap _
      rw [eH115]
      exact ⟨rfl, N115, K99⟩
    · skip
      have hpe : ∀ c ∈ ([] : List Int32), ¬ c < 0 ∧ ¬ (255 : Int32) < c := by
        intro c hc
        simp only [List.mem_cons, List.not_mem_nil, or_false] at hc
      obtain ⟨d0, d2, d1⟩ := hj
      refine own_st (fun t_ k_ => XS.astore X96.here hx rfl (hb hby at_116) rfl rfl (l' := (own_A p0 p1 p2 (3 : Int32) dd b1 (.val (.ref x_91)) (.val (.ref y_96)) .unset .unset)) rfl k_) ?_
      refine own_st (fun t_ k_ => XS.iconst X96.here hx rfl (hb hby at_118) k_) ?_
      refine own_st (fun t_ k_ => XS.istore X96.here hx rfl (hb hby at_119) rfl (l' := (own_A p0 p1 p2 (3 : Int32) dd b1 (.val (.ref x_91)) (.val (.ref y_96)) (.val (.int (-1 : Int32))) .unset)) rfl k_) ?_
      refine own_st (fun t_ k_ => XS.iloadN X96.here hx rfl (hb hby at_121) rfl k_) ?_
      refine own_st (fun t_ k_ => XS.iconst X96.here hx rfl (hb hby at_122) k_) ?_
      show own_Go p e below T96 (mkF m 123 (own_A p0 p1 p2 (3 : Int32) dd b1 (.val (.ref x_91)) (.val (.ref y_96)) (.val (.int (-1 : Int32))) .unset) [(.int (4 : Int32)), (.int (3 : Int32))]) _
      refine own_st (fun t_ k_ => XS.icmpYes X96.here hx rfl (pc0 := 123) (pc' := 141) rfl (hb hby at_123) rfl (by decide) (by decide) (by decide) k_) ?_
      refine own_st (fun t_ k_ => XS.iloadN X96.here hx rfl (hb hby at_141) rfl k_) ?_
      refine own_st (fun t_ k_ => XS.iconst X96.here hx rfl (hb hby at_142) k_) ?_
      refine own_st (fun t_ k_ => XS.icmpYes X96.here hx rfl (pc0 := 143) (pc' := 161) rfl (hb hby at_143) rfl (by decide) (by decide) (by decide) k_) ?_
      refine own_st (fun t_ k_ => XS.iloadN X96.here hx rfl (hb hby at_161) rfl k_) ?_
      refine own_st (fun t_ k_ => XS.iconst X96.here hx rfl (hb hby at_162) k_) ?_
      show own_Go p e below T96 (mkF m 163 (own_A p0 p1 p2 (3 : Int32) dd b1 (.val (.ref x_91)) (.val (.ref y_96)) (.val (.int (-1 : Int32))) .unset) [(.int (2 : Int32)), (.int (3 : Int32))]) _
      refine own_st (fun t_ k_ => XS.icmpNo X96.here hx rfl (hb hby at_163) rfl (by decide) k_) ?_
      refine own_st (fun t_ k_ => XS.aload X96.here hx rfl (hb hby at_166) rfl rfl k_) ?_
      refine own_st (fun t_ k_ => XS.iconst X96.here hx rfl (hb hby at_168) k_) ?_
      show own_Go p e below T96 (mkF m 169 (own_A p0 p1 p2 (3 : Int32) dd b1 (.val (.ref x_91)) (.val (.ref y_96)) (.val (.int (-1 : Int32))) .unset) [(.int (2 : Int32)), (.ref b1)]) _
      have f117 := ((V31.keep Kq91 nin0).keep Kq96 nin0)
      obtain ⟨cl118, Ar118, q118, Sz118, Nn118, Hh118, Gg118⟩ := id f117
      have hin118 : ¬ ((2 : Int32) < 0 ∨ cl118.slots.size ≤ ((2 : Int32)).toNatClampNeg) := inb_of Sz118 ⟨by decide, by decide⟩
      have hat118 : cl118.slots[((2 : Int32)).toNatClampNeg]? = some (.int r_17) := Has.at Hh118 hin118 rfl
      refine own_st (fun t_ k_ => X96.caload hx (j := (2 : Int32)) (v := (.int r_17)) (by exact Ar118.1) (State.isArrayOf_alike hZ.alike Ar118.2.1) Ar118.2.2 hin118 hat118 (g := (mkF m 169 (own_A p0 p1 p2 (3 : Int32) dd b1 (.val (.ref x_91)) (.val (.ref y_96)) (.val (.int (-1 : Int32))) .unset) [(.int (2 : Int32)), (.ref b1)])) rfl rfl (hb hby at_169) _ k_) ?_
      refine own_st (fun t_ k_ => XS.bipush X96.here hx rfl (hb hby at_170) k_) ?_
      refine own_st (fun t_ k_ => XS.icmpYes X96.here hx rfl (pc0 := 172) (pc' := 181) rfl (hb hby at_172) rfl (feq d2).2 (by decide) (by decide) k_) ?_
      refine own_st (fun t_ k_ => XS.iloadN X96.here hx rfl (hb hby at_181) rfl k_) ?_
      refine own_st (fun t_ k_ => XS.iconst X96.here hx rfl (hb hby at_182) k_) ?_
      show own_Go p e below T96 (mkF m 183 (own_A p0 p1 p2 (3 : Int32) dd b1 (.val (.ref x_91)) (.val (.ref y_96)) (.val (.int (-1 : Int32))) .unset) [(.int (1 : Int32)), (.int (3 : Int32))]) _
      refine own_st (fun t_ k_ => XS.icmpNo X96.here hx rfl (hb hby at_183) rfl (by decide) k_) ?_
      refine own_st (fun t_ k_ => XS.aload X96.here hx rfl (hb hby at_186) rfl rfl k_) ?_
      refine own_st (fun t_ k_ => XS.iconst X96.here hx rfl (hb hby at_188) k_) ?_
      show own_Go p e below T96 (mkF m 189 (own_A p0 p1 p2 (3 : Int32) dd b1 (.val (.ref x_91)) (.val (.ref y_96)) (.val (.int (-1 : Int32))) .unset) [(.int (1 : Int32)), (.ref b1)]) _
      obtain ⟨cl119, Ar119, q119, Sz119, Nn119, Hh119, Gg119⟩ := id f117
      have hin119 : ¬ ((1 : Int32) < 0 ∨ cl119.slots.size ≤ ((1 : Int32)).toNatClampNeg) := inb_of Sz119 ⟨by decide, by decide⟩
      have hat119 : cl119.slots[((1 : Int32)).toNatClampNeg]? = some (.int r_11) := Has.at Hh119 hin119 rfl
      refine own_st (fun t_ k_ => X96.caload hx (j := (1 : Int32)) (v := (.int r_11)) (by exact Ar119.1) (State.isArrayOf_alike hZ.alike Ar119.2.1) Ar119.2.2 hin119 hat119 (g := (mkF m 189 (own_A p0 p1 p2 (3 : Int32) dd b1 (.val (.ref x_91)) (.val (.ref y_96)) (.val (.int (-1 : Int32))) .unset) [(.int (1 : Int32)), (.ref b1)])) rfl rfl (hb hby at_189) _ k_) ?_
      refine own_st (fun t_ k_ => XS.bipush X96.here hx rfl (hb hby at_190) k_) ?_
      refine own_st (fun t_ k_ => XS.icmpYes X96.here hx rfl (pc0 := 192) (pc' := 201) rfl (hb hby at_192) rfl (feq d1).2 (by decide) (by decide) k_) ?_
      refine own_st (fun t_ k_ => XS.aload X96.here hx rfl (hb hby at_201) rfl rfl k_) ?_
      refine own_st (fun t_ k_ => XS.iconst X96.here hx rfl (hb hby at_203) k_) ?_
      show own_Go p e below T96 (mkF m 204 (own_A p0 p1 p2 (3 : Int32) dd b1 (.val (.ref x_91)) (.val (.ref y_96)) (.val (.int (-1 : Int32))) .unset) [(.int (0 : Int32)), (.ref b1)]) _
      obtain ⟨cl120, Ar120, q120, Sz120, Nn120, Hh120, Gg120⟩ := id f117
      have hin120 : ¬ ((0 : Int32) < 0 ∨ cl120.slots.size ≤ ((0 : Int32)).toNatClampNeg) := inb_of Sz120 ⟨by decide, by decide⟩
      have hat120 : cl120.slots[((0 : Int32)).toNatClampNeg]? = some (.int r_5) := Has.at Hh120 hin120 rfl
      refine own_st (fun t_ k_ => X96.caload hx (j := (0 : Int32)) (v := (.int r_5)) (by exact Ar120.1) (State.isArrayOf_alike hZ.alike Ar120.2.1) Ar120.2.2 hin120 hat120 (g := (mkF m 204 (own_A p0 p1 p2 (3 : Int32) dd b1 (.val (.ref x_91)) (.val (.ref y_96)) (.val (.int (-1 : Int32))) .unset) [(.int (0 : Int32)), (.ref b1)])) rfl rfl (hb hby at_204) _ k_) ?_
      refine own_st (fun t_ k_ => XS.bipush X96.here hx rfl (hb hby at_205) k_) ?_
      refine own_st (fun t_ k_ => XS.icmpNo X96.here hx rfl (hb hby at_207) rfl (teq d0).2 k_) ?_
      refine own_st (fun t_ k_ => XS.iconst X96.here hx rfl (hb hby at_210) k_) ?_
      refine own_st (fun t_ k_ => XS.istore X96.here hx rfl (hb hby at_211) rfl (l' := (own_A p0 p1 p2 (3 : Int32) dd b1 (.val (.ref x_91)) (.val (.ref y_96)) (.val (.int (0 : Int32))) .unset)) rfl k_) ?_
      show own_Go p e below T96 (mkF m 213 (own_A p0 p1 p2 (3 : Int32) dd b1 (.val (.ref x_91)) (.val (.ref y_96)) (.val (.int (0 : Int32))) .unset) []) _
      refine own_st (fun t_ k_ => XS.iload X96.here hx rfl (hb hby at_213) rfl k_) ?_
      refine own_st (fun t_ k_ => XS.ifYes X96.here hx rfl (pc0 := 215) (pc' := 222) rfl (hb hby at_215) rfl (by decide) (by decide) (by decide) k_) ?_
      refine own_st (fun t_ k_ => XS.iload X96.here hx rfl (hb hby at_222) rfl k_) ?_
      refine own_st (fun t_ k_ => XS.istore X96.here hx rfl (hb hby at_224) rfl (l' := (own_A p0 p1 p2 (3 : Int32) dd b1 (.val (.ref x_91)) (.val (.ref y_96)) (.val (.int (0 : Int32))) (.val (.int (0 : Int32))))) rfl k_) ?_
      refine own_st (fun t_ k_ => XS.aload X96.here hx rfl (hb hby at_226) rfl rfl k_) ?_
      refine own_st (fun t_ k_ => XS.ifnullNo X96.here hx rfl (hb hby at_228) rfl k_) ?_
      show own_Go p e below T96 (mkF m 231 (own_A p0 p1 p2 (3 : Int32) dd b1 (.val (.ref x_91)) (.val (.ref y_96)) (.val (.int (0 : Int32))) (.val (.int (0 : Int32)))) []) _
      refine own_st (fun t_ k_ => XS.aload X96.here hx rfl (hb hby at_231) rfl rfl k_) ?_
      show own_Go p e below T96 (mkF m 233 (own_A p0 p1 p2 (3 : Int32) dd b1 (.val (.ref x_91)) (.val (.ref y_96)) (.val (.int (0 : Int32))) (.val (.int (0 : Int32)))) [(.ref y_96)]) _
      have hcd121 : StrChars.Road.CodA ([] : List Int32) 0 (0 : Int32) ((([] : List Int32).map (fun c : Int32 => c.toInt8.toInt32)).map Value.int) := StrChars.Road.codOf rfl (fun x hx => (hpe x hx).2)
      have hbd121 : ∀ x ∈ ([] : List Int32), ¬ x < 0 ∧ ¬ (65535 : Int32) < x := own_up _ hpe
      have f122 := (f95.keep Kq96 all0)
      obtain ⟨cq123, kq123, qa123, qb123, qc123⟩ := isOf hZ rfl q96_0
      obtain ⟨_, _, ⟨T123, L123, k123, n123⟩, -, X123, ⟨Lc123, hQ123, l123, y123, z123⟩, st123⟩ := X96.virtualBack hx (y := (⟨"java/lang/String", "length", "()I"⟩ : MethodName)) (z := (⟨"java/lang/String", "length", "()I"⟩ : MethodName)) hown (mvT hZ (hw _ (List.mem_of_getElem? (i := 112) rfl))) (mvT hZ (hw _ (List.mem_of_getElem? (i := 47) rfl))) (notFace_of_selects (args := #[]) (mvT hZ (hw _ (List.mem_of_getElem? (i := 49) rfl)))) (mvT hZ (hw _ (List.mem_of_getElem? (i := 49) rfl))) (mvT hZ (hw _ (List.mem_of_getElem? (i := 48) rfl))) (by decide) (StrChars.Road.lenW (W := 0) hZ hln (kI := 4) (hw _ (List.mem_of_getElem? (i := 9) rfl)) q96_0 q96_1 q96_2 q96_3 hcd121 hbd121 (pS_COMPACT_STRINGS.ext f122.2) pP5 (Nat.le_of_ble_eq_true rfl) (by decide) (by decide)) qa123 qc123 (g := (mkF m 233 (own_A p0 p1 p2 (3 : Int32) dd b1 (.val (.ref x_91)) (.val (.ref y_96)) (.val (.int (0 : Int32))) (.val (.int (0 : Int32)))) [(.ref y_96)])) rfl (by rw [hml]; rfl) (Steps.refl _) (argsL := []) (rest := []) (lenOf pd___I rfl) rfl (by show 2 * 0 + _ ≤ _; exact Nat.le_of_eq rfl) (hb hby at_233) (fun _ _ => ⟨rfl, rfl, (by decide : 6 + 0 ≤ _), (by decide : 23 + 0 ≤ _)⟩)
      dsimp only [Pt.U, Pt.locs, Pt.cells, Pt.slots] at X123 l123 y123 z123 st123 hQ123
      try dsimp only [Nat.reduceAdd] at y123 z123
      rw [l123, y123, z123] at X123
      obtain ⟨rfl, rfl, eH123⟩ := hQ123
      have N123 := Fr.app N96 (Fr.nil n0)
      refine own_tr st123 ?_
      show own_Go p e below T123 (mkF m 236 (own_A p0 p1 p2 (3 : Int32) dd b1 (.val (.ref x_91)) (.val (.ref y_96)) (.val (.int (0 : Int32))) (.val (.int (0 : Int32)))) [(.int (0 : Int32))]) _
      refine own_st (fun t_ k_ => XS.iload X123.here hx rfl (hb hby at_236) rfl k_) ?_
      refine own_st (fun t_ k_ => XS.icmpNo X123.here hx rfl (hb hby at_238) rfl (by decide) k_) ?_
      refine own_st (fun t_ k_ => XS.iload X123.here hx rfl (hb hby at_241) rfl k_) ?_
      refine own_st (fun t_ k_ => XS.iconst X123.here hx rfl (hb hby at_243) k_) ?_
      refine own_st (fun t_ k_ => XS.icmpYes X123.here hx rfl (pc0 := 244) (pc' := 260) rfl (hb hby at_244) rfl (by decide) (by decide) (by decide) k_) ?_
      show own_Go p e below T123 (mkF m 260 (own_A p0 p1 p2 (3 : Int32) dd b1 (.val (.ref x_91)) (.val (.ref y_96)) (.val (.int (0 : Int32))) (.val (.int (0 : Int32)))) []) _
      refine own_st (fun t_ k_ => XS.iload X123.here hx rfl (hb hby at_260) rfl k_) ?_
      refine own_st (fun t_ k_ => XS.iconst X123.here hx rfl (hb hby at_262) k_) ?_
      refine own_st (fun t_ k_ => XS.icmpYes X123.here hx rfl (pc0 := 263) (pc' := 279) rfl (hb hby at_263) rfl (by decide) (by decide) (by decide) k_) ?_
      refine own_st (fun t_ k_ => XS.iload X123.here hx rfl (hb hby at_279) rfl k_) ?_
      refine own_st (fun t_ k_ => XS.iconst X123.here hx rfl (hb hby at_281) k_) ?_
      refine own_st (fun t_ k_ => XS.icmpYes X123.here hx rfl (pc0 := 282) (pc' := 298) rfl (hb hby at_282) rfl (by decide) (by decide) (by decide) k_) ?_
      show own_Go p e below T123 (mkF m 298 (own_A p0 p1 p2 (3 : Int32) dd b1 (.val (.ref x_91)) (.val (.ref y_96)) (.val (.int (0 : Int32))) (.val (.int (0 : Int32)))) []) _
      refine own_st (fun t_ k_ => XS.iload X123.here hx rfl (hb hby at_298) rfl k_) ?_
      refine own_st (fun t_ k_ => XS.iconst X123.here hx rfl (hb hby at_300) k_) ?_
      refine own_st (fun t_ k_ => XS.icmpYes X123.here hx rfl (pc0 := 301) (pc' := 317) rfl (hb hby at_301) rfl (by decide) (by decide) (by decide) k_) ?_
      refine own_st (fun t_ k_ => XS.iconst X123.here hx rfl (hb hby at_317) k_) ?_
      refine own_st (fun t_ k_ => XS.goto X123.here hx rfl (pc0 := 318) (pc' := 322) rfl (hb hby at_318) (by decide) (by decide) k_) ?_
      show own_Go p e below T123 (mkF m 322 (own_A p0 p1 p2 (3 : Int32) dd b1 (.val (.ref x_91)) (.val (.ref y_96)) (.val (.int (0 : Int32))) (.val (.int (0 : Int32)))) [(.int (1 : Int32))]) _
      obtain ⟨fs, hr, hrun, hended, hRW⟩ := X123.leaveW hS (by rw [eH123]; exact hK96) (v := some (.int (1 : Int32))) (fun h => by rw [Bd.returns] at h; cases h)
      have hCend : CHr Z own_EL s.vm s.heap T123.vm T123.heap := by
        rw [hh, eH123]
        exact CHr.trans CR98 (CHv.at X123 hZ hEL CH98)
      refine own_fin (retN X123 hx (t := .boolean) Bd.returns (by simp) (hb hby at_322) hr) ⟨hrun, hended, _, _, rfl, ?_, hCend, hRW.1, hRW.2.1, hRW.2.2.1, hRW.2.2.2.mono (by decide) (by decide)⟩
      show Q_rmLaw Z p0 p1 p2 zc fm h0 n0 _ T123.heap _
      rw [eH123]
      exact ⟨rfl, N123, K99⟩
    · skip
      have hpe : ∀ c ∈ ([r_5] : List Int32), ¬ c < 0 ∧ ¬ (255 : Int32) < c := by
        intro c hc
        simp only [List.mem_cons, List.not_mem_nil, or_false] at hc
        subst hc
        exact own_ch255 q5_0
      obtain ⟨d2, d1, d0⟩ := hj
      refine own_st (fun t_ k_ => XS.astore X96.here hx rfl (hb hby at_116) rfl rfl (l' := (own_A p0 p1 p2 (3 : Int32) dd b1 (.val (.ref x_91)) (.val (.ref y_96)) .unset .unset)) rfl k_) ?_
      refine own_st (fun t_ k_ => XS.iconst X96.here hx rfl (hb hby at_118) k_) ?_
      refine own_st (fun t_ k_ => XS.istore X96.here hx rfl (hb hby at_119) rfl (l' := (own_A p0 p1 p2 (3 : Int32) dd b1 (.val (.ref x_91)) (.val (.ref y_96)) (.val (.int (-1 : Int32))) .unset)) rfl k_) ?_
      refine own_st (fun t_ k_ => XS.iloadN X96.here hx rfl (hb hby at_121) rfl k_) ?_
      refine own_st (fun t_ k_ => XS.iconst X96.here hx rfl (hb hby at_122) k_) ?_
      show own_Go p e below T96 (mkF m 123 (own_A p0 p1 p2 (3 : Int32) dd b1 (.val (.ref x_91)) (.val (.ref y_96)) (.val (.int (-1 : Int32))) .unset) [(.int (4 : Int32)), (.int (3 : Int32))]) _
      refine own_st (fun t_ k_ => XS.icmpYes X96.here hx rfl (pc0 := 123) (pc' := 141) rfl (hb hby at_123) rfl (by decide) (by decide) (by decide) k_) ?_
      refine own_st (fun t_ k_ => XS.iloadN X96.here hx rfl (hb hby at_141) rfl k_) ?_
      refine own_st (fun t_ k_ => XS.iconst X96.here hx rfl (hb hby at_142) k_) ?_
      refine own_st (fun t_ k_ => XS.icmpYes X96.here hx rfl (pc0 := 143) (pc' := 161) rfl (hb hby at_143) rfl (by decide) (by decide) (by decide) k_) ?_
      refine own_st (fun t_ k_ => XS.iloadN X96.here hx rfl (hb hby at_161) rfl k_) ?_
      refine own_st (fun t_ k_ => XS.iconst X96.here hx rfl (hb hby at_162) k_) ?_
      show own_Go p e below T96 (mkF m 163 (own_A p0 p1 p2 (3 : Int32) dd b1 (.val (.ref x_91)) (.val (.ref y_96)) (.val (.int (-1 : Int32))) .unset) [(.int (2 : Int32)), (.int (3 : Int32))]) _
      refine own_st (fun t_ k_ => XS.icmpNo X96.here hx rfl (hb hby at_163) rfl (by decide) k_) ?_
      refine own_st (fun t_ k_ => XS.aload X96.here hx rfl (hb hby at_166) rfl rfl k_) ?_
      refine own_st (fun t_ k_ => XS.iconst X96.here hx rfl (hb hby at_168) k_) ?_
      show own_Go p e below T96 (mkF m 169 (own_A p0 p1 p2 (3 : Int32) dd b1 (.val (.ref x_91)) (.val (.ref y_96)) (.val (.int (-1 : Int32))) .unset) [(.int (2 : Int32)), (.ref b1)]) _
      have f124 := ((V31.keep Kq91 nin0).keep Kq96 nin0)
      obtain ⟨cl125, Ar125, q125, Sz125, Nn125, Hh125, Gg125⟩ := id f124
      have hin125 : ¬ ((2 : Int32) < 0 ∨ cl125.slots.size ≤ ((2 : Int32)).toNatClampNeg) := inb_of Sz125 ⟨by decide, by decide⟩
      have hat125 : cl125.slots[((2 : Int32)).toNatClampNeg]? = some (.int r_17) := Has.at Hh125 hin125 rfl
      refine own_st (fun t_ k_ => X96.caload hx (j := (2 : Int32)) (v := (.int r_17)) (by exact Ar125.1) (State.isArrayOf_alike hZ.alike Ar125.2.1) Ar125.2.2 hin125 hat125 (g := (mkF m 169 (own_A p0 p1 p2 (3 : Int32) dd b1 (.val (.ref x_91)) (.val (.ref y_96)) (.val (.int (-1 : Int32))) .unset) [(.int (2 : Int32)), (.ref b1)])) rfl rfl (hb hby at_169) _ k_) ?_
      refine own_st (fun t_ k_ => XS.bipush X96.here hx rfl (hb hby at_170) k_) ?_
      refine own_st (fun t_ k_ => XS.icmpYes X96.here hx rfl (pc0 := 172) (pc' := 181) rfl (hb hby at_172) rfl (feq d2).2 (by decide) (by decide) k_) ?_
      refine own_st (fun t_ k_ => XS.iloadN X96.here hx rfl (hb hby at_181) rfl k_) ?_
      refine own_st (fun t_ k_ => XS.iconst X96.here hx rfl (hb hby at_182) k_) ?_
      show own_Go p e below T96 (mkF m 183 (own_A p0 p1 p2 (3 : Int32) dd b1 (.val (.ref x_91)) (.val (.ref y_96)) (.val (.int (-1 : Int32))) .unset) [(.int (1 : Int32)), (.int (3 : Int32))]) _
      refine own_st (fun t_ k_ => XS.icmpNo X96.here hx rfl (hb hby at_183) rfl (by decide) k_) ?_
      refine own_st (fun t_ k_ => XS.aload X96.here hx rfl (hb hby at_186) rfl rfl k_) ?_
      refine own_st (fun t_ k_ => XS.iconst X96.here hx rfl (hb hby at_188) k_) ?_
      show own_Go p e below T96 (mkF m 189 (own_A p0 p1 p2 (3 : Int32) dd b1 (.val (.ref x_91)) (.val (.ref y_96)) (.val (.int (-1 : Int32))) .unset) [(.int (1 : Int32)), (.ref b1)]) _
      obtain ⟨cl126, Ar126, q126, Sz126, Nn126, Hh126, Gg126⟩ := id f124
      have hin126 : ¬ ((1 : Int32) < 0 ∨ cl126.slots.size ≤ ((1 : Int32)).toNatClampNeg) := inb_of Sz126 ⟨by decide, by decide⟩
      have hat126 : cl126.slots[((1 : Int32)).toNatClampNeg]? = some (.int r_11) := Has.at Hh126 hin126 rfl
      refine own_st (fun t_ k_ => X96.caload hx (j := (1 : Int32)) (v := (.int r_11)) (by exact Ar126.1) (State.isArrayOf_alike hZ.alike Ar126.2.1) Ar126.2.2 hin126 hat126 (g := (mkF m 189 (own_A p0 p1 p2 (3 : Int32) dd b1 (.val (.ref x_91)) (.val (.ref y_96)) (.val (.int (-1 : Int32))) .unset) [(.int (1 : Int32)), (.ref b1)])) rfl rfl (hb hby at_189) _ k_) ?_
      refine own_st (fun t_ k_ => XS.bipush X96.here hx rfl (hb hby at_190) k_) ?_
      refine own_st (fun t_ k_ => XS.icmpYes X96.here hx rfl (pc0 := 192) (pc' := 201) rfl (hb hby at_192) rfl (feq d1).2 (by decide) (by decide) k_) ?_
      refine own_st (fun t_ k_ => XS.aload X96.here hx rfl (hb hby at_201) rfl rfl k_) ?_
      refine own_st (fun t_ k_ => XS.iconst X96.here hx rfl (hb hby at_203) k_) ?_
      show own_Go p e below T96 (mkF m 204 (own_A p0 p1 p2 (3 : Int32) dd b1 (.val (.ref x_91)) (.val (.ref y_96)) (.val (.int (-1 : Int32))) .unset) [(.int (0 : Int32)), (.ref b1)]) _
      obtain ⟨cl127, Ar127, q127, Sz127, Nn127, Hh127, Gg127⟩ := id f124
      have hin127 : ¬ ((0 : Int32) < 0 ∨ cl127.slots.size ≤ ((0 : Int32)).toNatClampNeg) := inb_of Sz127 ⟨by decide, by decide⟩
      have hat127 : cl127.slots[((0 : Int32)).toNatClampNeg]? = some (.int r_5) := Has.at Hh127 hin127 rfl
      refine own_st (fun t_ k_ => X96.caload hx (j := (0 : Int32)) (v := (.int r_5)) (by exact Ar127.1) (State.isArrayOf_alike hZ.alike Ar127.2.1) Ar127.2.2 hin127 hat127 (g := (mkF m 204 (own_A p0 p1 p2 (3 : Int32) dd b1 (.val (.ref x_91)) (.val (.ref y_96)) (.val (.int (-1 : Int32))) .unset) [(.int (0 : Int32)), (.ref b1)])) rfl rfl (hb hby at_204) _ k_) ?_
      refine own_st (fun t_ k_ => XS.bipush X96.here hx rfl (hb hby at_205) k_) ?_
      refine own_st (fun t_ k_ => XS.icmpYes X96.here hx rfl (pc0 := 207) (pc' := 213) rfl (hb hby at_207) rfl (feq d0).2 (by decide) (by decide) k_) ?_
      refine own_st (fun t_ k_ => XS.iload X96.here hx rfl (hb hby at_213) rfl k_) ?_
      refine own_st (fun t_ k_ => XS.ifNo X96.here hx rfl (hb hby at_215) rfl (by decide) k_) ?_
      show own_Go p e below T96 (mkF m 218 (own_A p0 p1 p2 (3 : Int32) dd b1 (.val (.ref x_91)) (.val (.ref y_96)) (.val (.int (-1 : Int32))) .unset) []) _
      refine own_st (fun t_ k_ => XS.iconst X96.here hx rfl (hb hby at_218) k_) ?_
      refine own_st (fun t_ k_ => XS.goto X96.here hx rfl (pc0 := 219) (pc' := 224) rfl (hb hby at_219) (by decide) (by decide) k_) ?_
      refine own_st (fun t_ k_ => XS.istore X96.here hx rfl (hb hby at_224) rfl (l' := (own_A p0 p1 p2 (3 : Int32) dd b1 (.val (.ref x_91)) (.val (.ref y_96)) (.val (.int (-1 : Int32))) (.val (.int (1 : Int32))))) rfl k_) ?_
      refine own_st (fun t_ k_ => XS.aload X96.here hx rfl (hb hby at_226) rfl rfl k_) ?_
      refine own_st (fun t_ k_ => XS.ifnullNo X96.here hx rfl (hb hby at_228) rfl k_) ?_
      refine own_st (fun t_ k_ => XS.aload X96.here hx rfl (hb hby at_231) rfl rfl k_) ?_
      show own_Go p e below T96 (mkF m 233 (own_A p0 p1 p2 (3 : Int32) dd b1 (.val (.ref x_91)) (.val (.ref y_96)) (.val (.int (-1 : Int32))) (.val (.int (1 : Int32)))) [(.ref y_96)]) _
      have hcd128 : StrChars.Road.CodA ([r_5] : List Int32) 0 (1 : Int32) ((([r_5] : List Int32).map (fun c : Int32 => c.toInt8.toInt32)).map Value.int) := StrChars.Road.codOf rfl (fun x hx => (hpe x hx).2)
      have hbd128 : ∀ x ∈ ([r_5] : List Int32), ¬ x < 0 ∧ ¬ (65535 : Int32) < x := own_up _ hpe
      have f129 := (f95.keep Kq96 all0)
      obtain ⟨cq130, kq130, qa130, qb130, qc130⟩ := isOf hZ rfl q96_0
      obtain ⟨_, _, ⟨T130, L130, k130, n130⟩, -, X130, ⟨Lc130, hQ130, l130, y130, z130⟩, st130⟩ := X96.virtualBack hx (y := (⟨"java/lang/String", "length", "()I"⟩ : MethodName)) (z := (⟨"java/lang/String", "length", "()I"⟩ : MethodName)) hown (mvT hZ (hw _ (List.mem_of_getElem? (i := 112) rfl))) (mvT hZ (hw _ (List.mem_of_getElem? (i := 47) rfl))) (notFace_of_selects (args := #[]) (mvT hZ (hw _ (List.mem_of_getElem? (i := 49) rfl)))) (mvT hZ (hw _ (List.mem_of_getElem? (i := 49) rfl))) (mvT hZ (hw _ (List.mem_of_getElem? (i := 48) rfl))) (by decide) (StrChars.Road.lenW (W := 0) hZ hln (kI := 4) (hw _ (List.mem_of_getElem? (i := 9) rfl)) q96_0 q96_1 q96_2 q96_3 hcd128 hbd128 (pS_COMPACT_STRINGS.ext f129.2) pP5 (Nat.le_of_ble_eq_true rfl) (by decide) (by decide)) qa130 qc130 (g := (mkF m 233 (own_A p0 p1 p2 (3 : Int32) dd b1 (.val (.ref x_91)) (.val (.ref y_96)) (.val (.int (-1 : Int32))) (.val (.int (1 : Int32)))) [(.ref y_96)])) rfl (by rw [hml]; rfl) (Steps.refl _) (argsL := []) (rest := []) (lenOf pd___I rfl) rfl (by show 2 * 0 + _ ≤ _; exact Nat.le_of_eq rfl) (hb hby at_233) (fun _ _ => ⟨rfl, rfl, (by decide : 6 + 0 ≤ _), (by decide : 23 + 0 ≤ _)⟩)
      dsimp only [Pt.U, Pt.locs, Pt.cells, Pt.slots] at X130 l130 y130 z130 st130 hQ130
      try dsimp only [Nat.reduceAdd] at y130 z130
      rw [l130, y130, z130] at X130
      obtain ⟨rfl, rfl, eH130⟩ := hQ130
      have N130 := Fr.app N96 (Fr.nil n0)
      refine own_tr st130 ?_
      show own_Go p e below T130 (mkF m 236 (own_A p0 p1 p2 (3 : Int32) dd b1 (.val (.ref x_91)) (.val (.ref y_96)) (.val (.int (-1 : Int32))) (.val (.int (1 : Int32)))) [(.int (1 : Int32))]) _
      refine own_st (fun t_ k_ => XS.iload X130.here hx rfl (hb hby at_236) rfl k_) ?_
      refine own_st (fun t_ k_ => XS.icmpNo X130.here hx rfl (hb hby at_238) rfl (by decide) k_) ?_
      refine own_st (fun t_ k_ => XS.iload X130.here hx rfl (hb hby at_241) rfl k_) ?_
      refine own_st (fun t_ k_ => XS.iconst X130.here hx rfl (hb hby at_243) k_) ?_
      refine own_st (fun t_ k_ => XS.icmpNo X130.here hx rfl (hb hby at_244) rfl (by decide) k_) ?_
      show own_Go p e below T130 (mkF m 247 (own_A p0 p1 p2 (3 : Int32) dd b1 (.val (.ref x_91)) (.val (.ref y_96)) (.val (.int (-1 : Int32))) (.val (.int (1 : Int32)))) []) _
      refine own_st (fun t_ k_ => XS.aload X130.here hx rfl (hb hby at_247) rfl rfl k_) ?_
      refine own_st (fun t_ k_ => XS.iconst X130.here hx rfl (hb hby at_249) k_) ?_
      show own_Go p e below T130 (mkF m 250 (own_A p0 p1 p2 (3 : Int32) dd b1 (.val (.ref x_91)) (.val (.ref y_96)) (.val (.int (-1 : Int32))) (.val (.int (1 : Int32)))) [(.int (0 : Int32)), (.ref y_96)]) _
      obtain ⟨cq131, kq131, qa131, qb131, qc131⟩ := isOf hZ eH130 q96_0
      obtain ⟨_, _, ⟨T131, L131, k131, n131⟩, -, X131, ⟨Lc131, hQ131, l131, y131, z131⟩, st131⟩ := X130.virtualBack hx (y := (⟨"java/lang/String", "charAt", "(I)C"⟩ : MethodName)) (z := (⟨"java/lang/String", "charAt", "(I)C"⟩ : MethodName)) hown (mvT hZ (hw _ (List.mem_of_getElem? (i := 113) rfl))) (mvT hZ (hw _ (List.mem_of_getElem? (i := 114) rfl))) (notFace_of_selects (args := #[]) (mvT hZ (hw _ (List.mem_of_getElem? (i := 116) rfl)))) (mvT hZ (hw _ (List.mem_of_getElem? (i := 116) rfl))) (mvT hZ (hw _ (List.mem_of_getElem? (i := 115) rfl))) (by decide) (StrChars.Road.chN (W := 0) hZ hch (kI := 4) (hw _ (List.mem_of_getElem? (i := 9) rfl)) q96_0 q96_1 q96_2 q96_3 hcd128 hbd128 (pS_COMPACT_STRINGS.ext f129.2) pP5 (pS_SIOOBE_FORMATTER.ext f129.2) rfm (Nat.le_of_ble_eq_true rfl) (i := 0) (Nat.le_of_ble_eq_true rfl) (j := (0 : Int32)) rfl (by decide) (by decide)) qa131 qc131 (g := (mkF m 250 (own_A p0 p1 p2 (3 : Int32) dd b1 (.val (.ref x_91)) (.val (.ref y_96)) (.val (.int (-1 : Int32))) (.val (.int (1 : Int32)))) [(.int (0 : Int32)), (.ref y_96)])) rfl (by rw [hml]; rfl) (Steps.refl _) (argsL := [(.int (0 : Int32))]) (rest := []) (lenOf pd__I_C rfl) rfl (by show 2 * 0 + _ ≤ _; exact Nat.le_of_eq rfl) (hb hby at_250) (fun _ _ => ⟨rfl, eH130, (by decide : 6 + 0 ≤ _), (by decide : 23 + 0 ≤ _)⟩)
      dsimp only [Pt.U, Pt.locs, Pt.cells, Pt.slots] at X131 l131 y131 z131 st131 hQ131
      try dsimp only [Nat.reduceAdd] at y131 z131
      rw [l131, y131, z131] at X131
      obtain ⟨rfl, rfl, eH131⟩ := hQ131
      have N131 := Fr.app N130 (Fr.nil n0)
      refine own_tr st131 ?_
      show own_Go p e below T131 (mkF m 253 (own_A p0 p1 p2 (3 : Int32) dd b1 (.val (.ref x_91)) (.val (.ref y_96)) (.val (.int (-1 : Int32))) (.val (.int (1 : Int32)))) [(.int r_5)]) _
      refine own_st (fun t_ k_ => XS.aload X131.here hx rfl (hb hby at_253) rfl rfl k_) ?_
      refine own_st (fun t_ k_ => XS.iconst X131.here hx rfl (hb hby at_255) k_) ?_
      show own_Go p e below T131 (mkF m 256 (own_A p0 p1 p2 (3 : Int32) dd b1 (.val (.ref x_91)) (.val (.ref y_96)) (.val (.int (-1 : Int32))) (.val (.int (1 : Int32)))) [(.int (0 : Int32)), (.ref b1), (.int r_5)]) _
      obtain ⟨cl132, Ar132, q132, Sz132, Nn132, Hh132, Gg132⟩ := id f124
      have hin132 : ¬ ((0 : Int32) < 0 ∨ cl132.slots.size ≤ ((0 : Int32)).toNatClampNeg) := inb_of Sz132 ⟨by decide, by decide⟩
      have hat132 : cl132.slots[((0 : Int32)).toNatClampNeg]? = some (.int r_5) := Has.at Hh132 hin132 rfl
      refine own_st (fun t_ k_ => X131.caload hx (j := (0 : Int32)) (v := (.int r_5)) (by rw [eH131]; exact Ar132.1) (State.isArrayOf_alike hZ.alike Ar132.2.1) Ar132.2.2 hin132 hat132 (g := (mkF m 256 (own_A p0 p1 p2 (3 : Int32) dd b1 (.val (.ref x_91)) (.val (.ref y_96)) (.val (.int (-1 : Int32))) (.val (.int (1 : Int32)))) [(.int (0 : Int32)), (.ref b1), (.int r_5)])) rfl rfl (hb hby at_256) _ k_) ?_
      refine own_st (fun t_ k_ => XS.icmpNo X131.here hx rfl (hb hby at_257) rfl (teq rfl).2 k_) ?_
      refine own_st (fun t_ k_ => XS.iload X131.here hx rfl (hb hby at_260) rfl k_) ?_
      refine own_st (fun t_ k_ => XS.iconst X131.here hx rfl (hb hby at_262) k_) ?_
      refine own_st (fun t_ k_ => XS.icmpYes X131.here hx rfl (pc0 := 263) (pc' := 279) rfl (hb hby at_263) rfl (by decide) (by decide) (by decide) k_) ?_
      show own_Go p e below T131 (mkF m 279 (own_A p0 p1 p2 (3 : Int32) dd b1 (.val (.ref x_91)) (.val (.ref y_96)) (.val (.int (-1 : Int32))) (.val (.int (1 : Int32)))) []) _
      refine own_st (fun t_ k_ => XS.iload X131.here hx rfl (hb hby at_279) rfl k_) ?_
      refine own_st (fun t_ k_ => XS.iconst X131.here hx rfl (hb hby at_281) k_) ?_
      refine own_st (fun t_ k_ => XS.icmpYes X131.here hx rfl (pc0 := 282) (pc' := 298) rfl (hb hby at_282) rfl (by decide) (by decide) (by decide) k_) ?_
      refine own_st (fun t_ k_ => XS.iload X131.here hx rfl (hb hby at_298) rfl k_) ?_
      refine own_st (fun t_ k_ => XS.iconst X131.here hx rfl (hb hby at_300) k_) ?_
      refine own_st (fun t_ k_ => XS.icmpYes X131.here hx rfl (pc0 := 301) (pc' := 317) rfl (hb hby at_301) rfl (by decide) (by decide) (by decide) k_) ?_
      show own_Go p e below T131 (mkF m 317 (own_A p0 p1 p2 (3 : Int32) dd b1 (.val (.ref x_91)) (.val (.ref y_96)) (.val (.int (-1 : Int32))) (.val (.int (1 : Int32)))) []) _
      refine own_st (fun t_ k_ => XS.iconst X131.here hx rfl (hb hby at_317) k_) ?_
      refine own_st (fun t_ k_ => XS.goto X131.here hx rfl (pc0 := 318) (pc' := 322) rfl (hb hby at_318) (by decide) (by decide) k_) ?_
      show own_Go p e below T131 (mkF m 322 (own_A p0 p1 p2 (3 : Int32) dd b1 (.val (.ref x_91)) (.val (.ref y_96)) (.val (.int (-1 : Int32))) (.val (.int (1 : Int32)))) [(.int (1 : Int32))]) _
      obtain ⟨fs, hr, hrun, hended, hRW⟩ := X131.leaveW hS (by rw [eH131]; exact hK96) (v := some (.int (1 : Int32))) (fun h => by rw [Bd.returns] at h; cases h)
      have hCend : CHr Z own_EL s.vm s.heap T131.vm T131.heap := by
        rw [hh, eH131]
        exact CHr.trans CR98 (CHv.at X131 hZ hEL CH98)
      refine own_fin (retN X131 hx (t := .boolean) Bd.returns (by simp) (hb hby at_322) hr) ⟨hrun, hended, _, _, rfl, ?_, hCend, hRW.1, hRW.2.1, hRW.2.2.1, hRW.2.2.2.mono (by decide) (by decide)⟩
      show Q_rmLaw Z p0 p1 p2 zc fm h0 n0 _ T131.heap _
      rw [eH131]
      exact ⟨rfl, N131, K99⟩
  · skip
    show own_Go p e below T31 (mkF m 106 (own_A p0 p1 p2 (4 : Int32) dd b1 .unset .unset .unset .unset) [(.ref b1), (.int (4 : Int32))]) _
    have f133 := (Nat.le_trans f28 (Keep.of_wr W31).1)
    have f134 := ((((((pO.ext E1).wr W7 G1).wr W13 G1).wr W19 G1).wr W25 G1).wr W31 G1)
    obtain ⟨_, _, ⟨T135, L135, k135, n135⟩, -, X135, ⟨Lc135, hQ135, l135, y135, z135⟩, st135⟩ := Jvm.LawKit.callS X31 hx (y := (⟨"com/example/descriptor/descriptor/vocabulary/HierarchyParentPinLaw", "make", "(I[C)Ljava/lang/String;"⟩ : MethodName)) hown (mvT hZ (hw _ (List.mem_of_getElem? (i := 5) rfl))) (mvT hZ (hw _ (List.mem_of_getElem? (i := 6) rfl))) (mvT hZ (hw _ (List.mem_of_getElem? (i := 3) rfl))) (mvT hZ (hw _ (List.mem_of_getElem? (i := 7) rfl))) (by decide) (backOf (W := 0) (rmMk4 l Z a0 hw [] b1 k1 r_5 r_11 r_17 r_23 r_29 zc h31 n0 f133 V31 q5_0 q11_0 q17_0 q23_0 q29_0 pS_COMPACT_STRINGS pP5 f134) hZ (hw _ (List.mem_of_getElem? (i := 7) rfl)) (hw _ (List.mem_of_getElem? (i := 3) rfl)) (by decide) (by decide)) (g := (mkF m 106 (own_A p0 p1 p2 (4 : Int32) dd b1 .unset .unset .unset .unset) [(.ref b1), (.int (4 : Int32))])) rfl (by rw [hml]; rfl) (argsL := [(.int (4 : Int32)), (.ref b1)]) (rest := []) (lenOf pd__I_C_Ljava_lang_String_ rfl) rfl (by show 2 * 0 + _ ≤ _; exact Nat.le_of_eq rfl) (hb hby at_106) (fun _ _ => ⟨rfl, e31, (by decide : 1 + 3 ≤ _), (by decide : 5 + 12 ≤ _)⟩)
    dsimp only [Pt.U, Pt.locs, Pt.cells, Pt.slots] at X135 l135 y135 z135 st135 hQ135
    try dsimp only [Nat.reduceAdd] at y135 z135
    rw [l135, y135, z135] at X135
    obtain ⟨x_135, t_135, kb_135, rfl, Nq135, Kq135, q135_0, q135_1, q135_2, q135_3⟩ := hQ135
    have N135 := Fr.app N31 Nq135
    have CH136 := CH32.keep Kq135 sf0
    have CR136 := CHr.trans CR32 (CHr.keep Kq135 sf0 CH32)
    have K137 : Keep h0 T135.heap [] := K33.trans Kq135 all0
    refine own_st st135 ?_
    show own_Go p e below T135 (mkF m 109 (own_A p0 p1 p2 (4 : Int32) dd b1 .unset .unset .unset .unset) [(.ref x_135)]) _
    refine own_st (fun t_ k_ => XS.astore X135.here hx rfl (hb hby at_109) rfl rfl (l' := (own_A p0 p1 p2 (4 : Int32) dd b1 (.val (.ref x_135)) .unset .unset .unset)) rfl k_) ?_
    refine own_st (fun t_ k_ => XS.aload X135.here hx rfl (hb hby at_111) rfl rfl k_) ?_
    show own_Go p e below T135 (mkF m 113 (own_A p0 p1 p2 (4 : Int32) dd b1 (.val (.ref x_135)) .unset .unset .unset) [(.ref x_135)]) _
    have hch4 : ∀ c ∈ ([r_5, r_11, r_17, r_23] : List Int32), own_ch c := by
      intro c hc
      simp only [List.mem_cons, List.not_mem_nil, or_false] at hc
      rcases hc with rfl | rfl | rfl | rfl
      · exact q5_0
      · exact q11_0
      · exact q17_0
      · exact q23_0
    have f138 := (Nat.le_trans f133 Kq135.1)
    have f139 := (f134.keep Kq135 all0)
    have f141 := (Nat.le_trans (Nat.le_trans (Nat.le_trans (Nat.le_trans (Nat.le_trans (Nat.le_trans (Nat.le_trans hK0 E1.1) (Keep.of_wr W7).1) (Keep.of_wr W13).1) (Keep.of_wr W19).1) (Keep.of_wr W25).1) (Keep.of_wr W31).1) Kq135.1)
    obtain ⟨_, _, ⟨T140, L140, k140, n140⟩, -, Xa140, hSa140, hGa140, ⟨Lc140, hQ140, l140, y140, z140, A140⟩, st140⟩ := Jvm.RoadKit.callSS X135 hx (y := (⟨"com/example/descriptor/descriptor/vocabulary/Hierarchy", "parent", "(Ljava/lang/String;)Ljava/lang/String;"⟩ : MethodName)) hown (mvT hZ (hw _ (List.mem_of_getElem? (i := 37) rfl))) (mvT hZ (hw _ (List.mem_of_getElem? (i := 38) rfl))) (mvT hZ (hw _ (List.mem_of_getElem? (i := 39) rfl))) (mvT hZ (hw _ (List.mem_of_getElem? (i := 40) rfl))) (by decide) (backOfSH (W := 0) (rmPa l Z a0 hw [] x_135 t_135 kb_135 ((4 : Int32)) ([r_5, r_11, r_17, r_23]) zc fm T135.heap n0 f138 q135_0 q135_1 q135_2 q135_3 rfl (Nat.le_of_ble_eq_true rfl) hch4 (Nat.le_of_ble_eq_true rfl) pS_COMPACT_STRINGS pP5 pS_SIOOBE_FORMATTER rfm f139) hZ (hw _ (List.mem_of_getElem? (i := 40) rfl)) (hw _ (List.mem_of_getElem? (i := 39) rfl)) (by decide) (by decide) hEL CH136) (g := (mkF m 113 (own_A p0 p1 p2 (4 : Int32) dd b1 (.val (.ref x_135)) .unset .unset .unset) [(.ref x_135)])) rfl (by rw [hml]; rfl) (argsL := [(.ref x_135)]) (rest := []) (lenOf pd__Ljava_lang_String__Ljava_lang_String_ rfl) rfl (by show 2 * 0 + _ ≤ _; exact Nat.le_of_eq rfl) (hb hby at_113) (fun _ _ => ⟨rfl, rfl, (by decide : 4 + 2 ≤ _), (by decide : 17 + 8 ≤ _)⟩)
    dsimp only [Pt.U, Pt.locs, Pt.cells, Pt.slots] at Xa140 hSa140 hGa140 l140 y140 z140 A140 st140 hQ140
    try dsimp only [Nat.reduceAdd] at y140 z140
    rw [l140, y140, z140] at Xa140
    obtain ⟨X140, hS, hZ, hown⟩ := rebS hS f141 Xa140 hSa140 hGa140 hZ hown
    obtain ⟨y_140, b_140, kb_140, el_140, us_140, rfl, Nq140, Kq140, q140_0, q140_1, q140_2, q140_3, q140_4⟩ := hQ140
    have N140 := Fr.app N135 Nq140
    have CH142 := A140.1
    have CR142 := CHr.trans CR136 (A140)
    have K143 : Keep h0 T140.heap [] := K137.trans Kq140 all0
    have hK140 : T140.heap.size ≤ T140.heap.size := Nat.le_refl _
    refine own_tr st140 ?_
    show own_Go p e below T140 (mkF m 116 (own_A p0 p1 p2 (4 : Int32) dd b1 (.val (.ref x_135)) .unset .unset .unset) [(.ref y_140)]) _
    rcases own_pa4 q140_4 with ⟨rfl, rfl, hj⟩ | ⟨rfl, rfl, hj⟩ | ⟨rfl, rfl, hj⟩ | ⟨rfl, rfl, hj⟩ | ⟨rfl, rfl, hj⟩
    · skip
      have hpe : ∀ c ∈ ([r_5, r_11, r_17] : List Int32), ¬ c < 0 ∧ ¬ (255 : Int32) < c := by
        intro c hc
        simp only [List.mem_cons, List.not_mem_nil, or_false] at hc
        rcases hc with rfl | rfl | rfl
        · exact own_ch255 q5_0
        · exact own_ch255 q11_0
        · exact own_ch255 q17_0
      have d3 := hj
      refine own_st (fun t_ k_ => XS.astore X140.here hx rfl (hb hby at_116) rfl rfl (l' := (own_A p0 p1 p2 (4 : Int32) dd b1 (.val (.ref x_135)) (.val (.ref y_140)) .unset .unset)) rfl k_) ?_
      refine own_st (fun t_ k_ => XS.iconst X140.here hx rfl (hb hby at_118) k_) ?_
      refine own_st (fun t_ k_ => XS.istore X140.here hx rfl (hb hby at_119) rfl (l' := (own_A p0 p1 p2 (4 : Int32) dd b1 (.val (.ref x_135)) (.val (.ref y_140)) (.val (.int (-1 : Int32))) .unset)) rfl k_) ?_
      refine own_st (fun t_ k_ => XS.iloadN X140.here hx rfl (hb hby at_121) rfl k_) ?_
      refine own_st (fun t_ k_ => XS.iconst X140.here hx rfl (hb hby at_122) k_) ?_
      show own_Go p e below T140 (mkF m 123 (own_A p0 p1 p2 (4 : Int32) dd b1 (.val (.ref x_135)) (.val (.ref y_140)) (.val (.int (-1 : Int32))) .unset) [(.int (4 : Int32)), (.int (4 : Int32))]) _
      refine own_st (fun t_ k_ => XS.icmpYes X140.here hx rfl (pc0 := 123) (pc' := 141) rfl (hb hby at_123) rfl (by decide) (by decide) (by decide) k_) ?_
      refine own_st (fun t_ k_ => XS.iloadN X140.here hx rfl (hb hby at_141) rfl k_) ?_
      refine own_st (fun t_ k_ => XS.iconst X140.here hx rfl (hb hby at_142) k_) ?_
      refine own_st (fun t_ k_ => XS.icmpNo X140.here hx rfl (hb hby at_143) rfl (by decide) k_) ?_
      refine own_st (fun t_ k_ => XS.aload X140.here hx rfl (hb hby at_146) rfl rfl k_) ?_
      refine own_st (fun t_ k_ => XS.iconst X140.here hx rfl (hb hby at_148) k_) ?_
      show own_Go p e below T140 (mkF m 149 (own_A p0 p1 p2 (4 : Int32) dd b1 (.val (.ref x_135)) (.val (.ref y_140)) (.val (.int (-1 : Int32))) .unset) [(.int (3 : Int32)), (.ref b1)]) _
      have f144 := ((V31.keep Kq135 nin0).keep Kq140 nin0)
      obtain ⟨cl145, Ar145, q145, Sz145, Nn145, Hh145, Gg145⟩ := id f144
      have hin145 : ¬ ((3 : Int32) < 0 ∨ cl145.slots.size ≤ ((3 : Int32)).toNatClampNeg) := inb_of Sz145 ⟨by decide, by decide⟩
      have hat145 : cl145.slots[((3 : Int32)).toNatClampNeg]? = some (.int r_23) := Has.at Hh145 hin145 rfl
      refine own_st (fun t_ k_ => X140.caload hx (j := (3 : Int32)) (v := (.int r_23)) (by exact Ar145.1) (State.isArrayOf_alike hZ.alike Ar145.2.1) Ar145.2.2 hin145 hat145 (g := (mkF m 149 (own_A p0 p1 p2 (4 : Int32) dd b1 (.val (.ref x_135)) (.val (.ref y_140)) (.val (.int (-1 : Int32))) .unset) [(.int (3 : Int32)), (.ref b1)])) rfl rfl (hb hby at_149) _ k_) ?_
      refine own_st (fun t_ k_ => XS.bipush X140.here hx rfl (hb hby at_150) k_) ?_
      refine own_st (fun t_ k_ => XS.icmpNo X140.here hx rfl (hb hby at_152) rfl (teq d3).2 k_) ?_
      refine own_st (fun t_ k_ => XS.iconst X140.here hx rfl (hb hby at_155) k_) ?_
      refine own_st (fun t_ k_ => XS.istore X140.here hx rfl (hb hby at_156) rfl (l' := (own_A p0 p1 p2 (4 : Int32) dd b1 (.val (.ref x_135)) (.val (.ref y_140)) (.val (.int (3 : Int32))) .unset)) rfl k_) ?_
      show own_Go p e below T140 (mkF m 158 (own_A p0 p1 p2 (4 : Int32) dd b1 (.val (.ref x_135)) (.val (.ref y_140)) (.val (.int (3 : Int32))) .unset) []) _
      refine own_st (fun t_ k_ => XS.goto X140.here hx rfl (pc0 := 158) (pc' := 213) rfl (hb hby at_158) (by decide) (by decide) k_) ?_
      refine own_st (fun t_ k_ => XS.iload X140.here hx rfl (hb hby at_213) rfl k_) ?_
      refine own_st (fun t_ k_ => XS.ifYes X140.here hx rfl (pc0 := 215) (pc' := 222) rfl (hb hby at_215) rfl (by decide) (by decide) (by decide) k_) ?_
      refine own_st (fun t_ k_ => XS.iload X140.here hx rfl (hb hby at_222) rfl k_) ?_
      refine own_st (fun t_ k_ => XS.istore X140.here hx rfl (hb hby at_224) rfl (l' := (own_A p0 p1 p2 (4 : Int32) dd b1 (.val (.ref x_135)) (.val (.ref y_140)) (.val (.int (3 : Int32))) (.val (.int (3 : Int32))))) rfl k_) ?_
      refine own_st (fun t_ k_ => XS.aload X140.here hx rfl (hb hby at_226) rfl rfl k_) ?_
      show own_Go p e below T140 (mkF m 228 (own_A p0 p1 p2 (4 : Int32) dd b1 (.val (.ref x_135)) (.val (.ref y_140)) (.val (.int (3 : Int32))) (.val (.int (3 : Int32)))) [(.ref y_140)]) _
      refine own_st (fun t_ k_ => XS.ifnullNo X140.here hx rfl (hb hby at_228) rfl k_) ?_
      refine own_st (fun t_ k_ => XS.aload X140.here hx rfl (hb hby at_231) rfl rfl k_) ?_
      show own_Go p e below T140 (mkF m 233 (own_A p0 p1 p2 (4 : Int32) dd b1 (.val (.ref x_135)) (.val (.ref y_140)) (.val (.int (3 : Int32))) (.val (.int (3 : Int32)))) [(.ref y_140)]) _
      have hcd146 : StrChars.Road.CodA ([r_5, r_11, r_17] : List Int32) 0 (3 : Int32) ((([r_5, r_11, r_17] : List Int32).map (fun c : Int32 => c.toInt8.toInt32)).map Value.int) := StrChars.Road.codOf rfl (fun x hx => (hpe x hx).2)
      have hbd146 : ∀ x ∈ ([r_5, r_11, r_17] : List Int32), ¬ x < 0 ∧ ¬ (65535 : Int32) < x := own_up _ hpe
      have f147 := (f139.keep Kq140 all0)
      obtain ⟨cq148, kq148, qa148, qb148, qc148⟩ := isOf hZ rfl q140_0
      obtain ⟨_, _, ⟨T148, L148, k148, n148⟩, -, X148, ⟨Lc148, hQ148, l148, y148, z148⟩, st148⟩ := X140.virtualBack hx (y := (⟨"java/lang/String", "length", "()I"⟩ : MethodName)) (z := (⟨"java/lang/String", "length", "()I"⟩ : MethodName)) hown (mvT hZ (hw _ (List.mem_of_getElem? (i := 112) rfl))) (mvT hZ (hw _ (List.mem_of_getElem? (i := 47) rfl))) (notFace_of_selects (args := #[]) (mvT hZ (hw _ (List.mem_of_getElem? (i := 49) rfl)))) (mvT hZ (hw _ (List.mem_of_getElem? (i := 49) rfl))) (mvT hZ (hw _ (List.mem_of_getElem? (i := 48) rfl))) (by decide) (StrChars.Road.lenW (W := 0) hZ hln (kI := 4) (hw _ (List.mem_of_getElem? (i := 9) rfl)) q140_0 q140_1 q140_2 q140_3 hcd146 hbd146 (pS_COMPACT_STRINGS.ext f147.2) pP5 (Nat.le_of_ble_eq_true rfl) (by decide) (by decide)) qa148 qc148 (g := (mkF m 233 (own_A p0 p1 p2 (4 : Int32) dd b1 (.val (.ref x_135)) (.val (.ref y_140)) (.val (.int (3 : Int32))) (.val (.int (3 : Int32)))) [(.ref y_140)])) rfl (by rw [hml]; rfl) (Steps.refl _) (argsL := []) (rest := []) (lenOf pd___I rfl) rfl (by show 2 * 0 + _ ≤ _; exact Nat.le_of_eq rfl) (hb hby at_233) (fun _ _ => ⟨rfl, rfl, (by decide : 6 + 0 ≤ _), (by decide : 25 + 0 ≤ _)⟩)
      dsimp only [Pt.U, Pt.locs, Pt.cells, Pt.slots] at X148 l148 y148 z148 st148 hQ148
      try dsimp only [Nat.reduceAdd] at y148 z148
      rw [l148, y148, z148] at X148
      obtain ⟨rfl, rfl, eH148⟩ := hQ148
      have N148 := Fr.app N140 (Fr.nil n0)
      refine own_tr st148 ?_
      show own_Go p e below T148 (mkF m 236 (own_A p0 p1 p2 (4 : Int32) dd b1 (.val (.ref x_135)) (.val (.ref y_140)) (.val (.int (3 : Int32))) (.val (.int (3 : Int32)))) [(.int (3 : Int32))]) _
      refine own_st (fun t_ k_ => XS.iload X148.here hx rfl (hb hby at_236) rfl k_) ?_
      refine own_st (fun t_ k_ => XS.icmpNo X148.here hx rfl (hb hby at_238) rfl (by decide) k_) ?_
      refine own_st (fun t_ k_ => XS.iload X148.here hx rfl (hb hby at_241) rfl k_) ?_
      refine own_st (fun t_ k_ => XS.iconst X148.here hx rfl (hb hby at_243) k_) ?_
      refine own_st (fun t_ k_ => XS.icmpNo X148.here hx rfl (hb hby at_244) rfl (by decide) k_) ?_
      show own_Go p e below T148 (mkF m 247 (own_A p0 p1 p2 (4 : Int32) dd b1 (.val (.ref x_135)) (.val (.ref y_140)) (.val (.int (3 : Int32))) (.val (.int (3 : Int32)))) []) _
      refine own_st (fun t_ k_ => XS.aload X148.here hx rfl (hb hby at_247) rfl rfl k_) ?_
      refine own_st (fun t_ k_ => XS.iconst X148.here hx rfl (hb hby at_249) k_) ?_
      show own_Go p e below T148 (mkF m 250 (own_A p0 p1 p2 (4 : Int32) dd b1 (.val (.ref x_135)) (.val (.ref y_140)) (.val (.int (3 : Int32))) (.val (.int (3 : Int32)))) [(.int (0 : Int32)), (.ref y_140)]) _
      obtain ⟨cq149, kq149, qa149, qb149, qc149⟩ := isOf hZ eH148 q140_0
      obtain ⟨_, _, ⟨T149, L149, k149, n149⟩, -, X149, ⟨Lc149, hQ149, l149, y149, z149⟩, st149⟩ := X148.virtualBack hx (y := (⟨"java/lang/String", "charAt", "(I)C"⟩ : MethodName)) (z := (⟨"java/lang/String", "charAt", "(I)C"⟩ : MethodName)) hown (mvT hZ (hw _ (List.mem_of_getElem? (i := 113) rfl))) (mvT hZ (hw _ (List.mem_of_getElem? (i := 114) rfl))) (notFace_of_selects (args := #[]) (mvT hZ (hw _ (List.mem_of_getElem? (i := 116) rfl)))) (mvT hZ (hw _ (List.mem_of_getElem? (i := 116) rfl))) (mvT hZ (hw _ (List.mem_of_getElem? (i := 115) rfl))) (by decide) (StrChars.Road.chN (W := 0) hZ hch (kI := 4) (hw _ (List.mem_of_getElem? (i := 9) rfl)) q140_0 q140_1 q140_2 q140_3 hcd146 hbd146 (pS_COMPACT_STRINGS.ext f147.2) pP5 (pS_SIOOBE_FORMATTER.ext f147.2) rfm (Nat.le_of_ble_eq_true rfl) (i := 0) (Nat.le_of_ble_eq_true rfl) (j := (0 : Int32)) rfl (by decide) (by decide)) qa149 qc149 (g := (mkF m 250 (own_A p0 p1 p2 (4 : Int32) dd b1 (.val (.ref x_135)) (.val (.ref y_140)) (.val (.int (3 : Int32))) (.val (.int (3 : Int32)))) [(.int (0 : Int32)), (.ref y_140)])) rfl (by rw [hml]; rfl) (Steps.refl _) (argsL := [(.int (0 : Int32))]) (rest := []) (lenOf pd__I_C rfl) rfl (by show 2 * 0 + _ ≤ _; exact Nat.le_of_eq rfl) (hb hby at_250) (fun _ _ => ⟨rfl, eH148, (by decide : 6 + 0 ≤ _), (by decide : 25 + 0 ≤ _)⟩)
      dsimp only [Pt.U, Pt.locs, Pt.cells, Pt.slots] at X149 l149 y149 z149 st149 hQ149
      try dsimp only [Nat.reduceAdd] at y149 z149
      rw [l149, y149, z149] at X149
      obtain ⟨rfl, rfl, eH149⟩ := hQ149
      have N149 := Fr.app N148 (Fr.nil n0)
      refine own_tr st149 ?_
      show own_Go p e below T149 (mkF m 253 (own_A p0 p1 p2 (4 : Int32) dd b1 (.val (.ref x_135)) (.val (.ref y_140)) (.val (.int (3 : Int32))) (.val (.int (3 : Int32)))) [(.int r_5)]) _
      refine own_st (fun t_ k_ => XS.aload X149.here hx rfl (hb hby at_253) rfl rfl k_) ?_
      refine own_st (fun t_ k_ => XS.iconst X149.here hx rfl (hb hby at_255) k_) ?_
      show own_Go p e below T149 (mkF m 256 (own_A p0 p1 p2 (4 : Int32) dd b1 (.val (.ref x_135)) (.val (.ref y_140)) (.val (.int (3 : Int32))) (.val (.int (3 : Int32)))) [(.int (0 : Int32)), (.ref b1), (.int r_5)]) _
      obtain ⟨cl150, Ar150, q150, Sz150, Nn150, Hh150, Gg150⟩ := id f144
      have hin150 : ¬ ((0 : Int32) < 0 ∨ cl150.slots.size ≤ ((0 : Int32)).toNatClampNeg) := inb_of Sz150 ⟨by decide, by decide⟩
      have hat150 : cl150.slots[((0 : Int32)).toNatClampNeg]? = some (.int r_5) := Has.at Hh150 hin150 rfl
      refine own_st (fun t_ k_ => X149.caload hx (j := (0 : Int32)) (v := (.int r_5)) (by rw [eH149]; exact Ar150.1) (State.isArrayOf_alike hZ.alike Ar150.2.1) Ar150.2.2 hin150 hat150 (g := (mkF m 256 (own_A p0 p1 p2 (4 : Int32) dd b1 (.val (.ref x_135)) (.val (.ref y_140)) (.val (.int (3 : Int32))) (.val (.int (3 : Int32)))) [(.int (0 : Int32)), (.ref b1), (.int r_5)])) rfl rfl (hb hby at_256) _ k_) ?_
      refine own_st (fun t_ k_ => XS.icmpNo X149.here hx rfl (hb hby at_257) rfl (teq rfl).2 k_) ?_
      refine own_st (fun t_ k_ => XS.iload X149.here hx rfl (hb hby at_260) rfl k_) ?_
      refine own_st (fun t_ k_ => XS.iconst X149.here hx rfl (hb hby at_262) k_) ?_
      refine own_st (fun t_ k_ => XS.icmpNo X149.here hx rfl (hb hby at_263) rfl (by decide) k_) ?_
      show own_Go p e below T149 (mkF m 266 (own_A p0 p1 p2 (4 : Int32) dd b1 (.val (.ref x_135)) (.val (.ref y_140)) (.val (.int (3 : Int32))) (.val (.int (3 : Int32)))) []) _
      refine own_st (fun t_ k_ => XS.aload X149.here hx rfl (hb hby at_266) rfl rfl k_) ?_
      refine own_st (fun t_ k_ => XS.iconst X149.here hx rfl (hb hby at_268) k_) ?_
      show own_Go p e below T149 (mkF m 269 (own_A p0 p1 p2 (4 : Int32) dd b1 (.val (.ref x_135)) (.val (.ref y_140)) (.val (.int (3 : Int32))) (.val (.int (3 : Int32)))) [(.int (1 : Int32)), (.ref y_140)]) _
      obtain ⟨cq151, kq151, qa151, qb151, qc151⟩ := isOf hZ eH149 q140_0
      obtain ⟨_, _, ⟨T151, L151, k151, n151⟩, -, X151, ⟨Lc151, hQ151, l151, y151, z151⟩, st151⟩ := X149.virtualBack hx (y := (⟨"java/lang/String", "charAt", "(I)C"⟩ : MethodName)) (z := (⟨"java/lang/String", "charAt", "(I)C"⟩ : MethodName)) hown (mvT hZ (hw _ (List.mem_of_getElem? (i := 113) rfl))) (mvT hZ (hw _ (List.mem_of_getElem? (i := 114) rfl))) (notFace_of_selects (args := #[]) (mvT hZ (hw _ (List.mem_of_getElem? (i := 116) rfl)))) (mvT hZ (hw _ (List.mem_of_getElem? (i := 116) rfl))) (mvT hZ (hw _ (List.mem_of_getElem? (i := 115) rfl))) (by decide) (StrChars.Road.chN (W := 0) hZ hch (kI := 4) (hw _ (List.mem_of_getElem? (i := 9) rfl)) q140_0 q140_1 q140_2 q140_3 hcd146 hbd146 (pS_COMPACT_STRINGS.ext f147.2) pP5 (pS_SIOOBE_FORMATTER.ext f147.2) rfm (Nat.le_of_ble_eq_true rfl) (i := 1) (Nat.le_of_ble_eq_true rfl) (j := (1 : Int32)) rfl (by decide) (by decide)) qa151 qc151 (g := (mkF m 269 (own_A p0 p1 p2 (4 : Int32) dd b1 (.val (.ref x_135)) (.val (.ref y_140)) (.val (.int (3 : Int32))) (.val (.int (3 : Int32)))) [(.int (1 : Int32)), (.ref y_140)])) rfl (by rw [hml]; rfl) (Steps.refl _) (argsL := [(.int (1 : Int32))]) (rest := []) (lenOf pd__I_C rfl) rfl (by show 2 * 0 + _ ≤ _; exact Nat.le_of_eq rfl) (hb hby at_269) (fun _ _ => ⟨rfl, eH149, (by decide : 6 + 0 ≤ _), (by decide : 25 + 0 ≤ _)⟩)
      dsimp only [Pt.U, Pt.locs, Pt.cells, Pt.slots] at X151 l151 y151 z151 st151 hQ151
      try dsimp only [Nat.reduceAdd] at y151 z151
      rw [l151, y151, z151] at X151
      obtain ⟨rfl, rfl, eH151⟩ := hQ151
      have N151 := Fr.app N149 (Fr.nil n0)
      refine own_tr st151 ?_
      show own_Go p e below T151 (mkF m 272 (own_A p0 p1 p2 (4 : Int32) dd b1 (.val (.ref x_135)) (.val (.ref y_140)) (.val (.int (3 : Int32))) (.val (.int (3 : Int32)))) [(.int r_11)]) _
      refine own_st (fun t_ k_ => XS.aload X151.here hx rfl (hb hby at_272) rfl rfl k_) ?_
      refine own_st (fun t_ k_ => XS.iconst X151.here hx rfl (hb hby at_274) k_) ?_
      show own_Go p e below T151 (mkF m 275 (own_A p0 p1 p2 (4 : Int32) dd b1 (.val (.ref x_135)) (.val (.ref y_140)) (.val (.int (3 : Int32))) (.val (.int (3 : Int32)))) [(.int (1 : Int32)), (.ref b1), (.int r_11)]) _
      obtain ⟨cl152, Ar152, q152, Sz152, Nn152, Hh152, Gg152⟩ := id f144
      have hin152 : ¬ ((1 : Int32) < 0 ∨ cl152.slots.size ≤ ((1 : Int32)).toNatClampNeg) := inb_of Sz152 ⟨by decide, by decide⟩
      have hat152 : cl152.slots[((1 : Int32)).toNatClampNeg]? = some (.int r_11) := Has.at Hh152 hin152 rfl
      refine own_st (fun t_ k_ => X151.caload hx (j := (1 : Int32)) (v := (.int r_11)) (by rw [eH151]; exact Ar152.1) (State.isArrayOf_alike hZ.alike Ar152.2.1) Ar152.2.2 hin152 hat152 (g := (mkF m 275 (own_A p0 p1 p2 (4 : Int32) dd b1 (.val (.ref x_135)) (.val (.ref y_140)) (.val (.int (3 : Int32))) (.val (.int (3 : Int32)))) [(.int (1 : Int32)), (.ref b1), (.int r_11)])) rfl rfl (hb hby at_275) _ k_) ?_
      refine own_st (fun t_ k_ => XS.icmpNo X151.here hx rfl (hb hby at_276) rfl (teq rfl).2 k_) ?_
      refine own_st (fun t_ k_ => XS.iload X151.here hx rfl (hb hby at_279) rfl k_) ?_
      refine own_st (fun t_ k_ => XS.iconst X151.here hx rfl (hb hby at_281) k_) ?_
      refine own_st (fun t_ k_ => XS.icmpNo X151.here hx rfl (hb hby at_282) rfl (by decide) k_) ?_
      show own_Go p e below T151 (mkF m 285 (own_A p0 p1 p2 (4 : Int32) dd b1 (.val (.ref x_135)) (.val (.ref y_140)) (.val (.int (3 : Int32))) (.val (.int (3 : Int32)))) []) _
      refine own_st (fun t_ k_ => XS.aload X151.here hx rfl (hb hby at_285) rfl rfl k_) ?_
      refine own_st (fun t_ k_ => XS.iconst X151.here hx rfl (hb hby at_287) k_) ?_
      show own_Go p e below T151 (mkF m 288 (own_A p0 p1 p2 (4 : Int32) dd b1 (.val (.ref x_135)) (.val (.ref y_140)) (.val (.int (3 : Int32))) (.val (.int (3 : Int32)))) [(.int (2 : Int32)), (.ref y_140)]) _
      obtain ⟨cq153, kq153, qa153, qb153, qc153⟩ := isOf hZ eH151 q140_0
      obtain ⟨_, _, ⟨T153, L153, k153, n153⟩, -, X153, ⟨Lc153, hQ153, l153, y153, z153⟩, st153⟩ := X151.virtualBack hx (y := (⟨"java/lang/String", "charAt", "(I)C"⟩ : MethodName)) (z := (⟨"java/lang/String", "charAt", "(I)C"⟩ : MethodName)) hown (mvT hZ (hw _ (List.mem_of_getElem? (i := 113) rfl))) (mvT hZ (hw _ (List.mem_of_getElem? (i := 114) rfl))) (notFace_of_selects (args := #[]) (mvT hZ (hw _ (List.mem_of_getElem? (i := 116) rfl)))) (mvT hZ (hw _ (List.mem_of_getElem? (i := 116) rfl))) (mvT hZ (hw _ (List.mem_of_getElem? (i := 115) rfl))) (by decide) (StrChars.Road.chN (W := 0) hZ hch (kI := 4) (hw _ (List.mem_of_getElem? (i := 9) rfl)) q140_0 q140_1 q140_2 q140_3 hcd146 hbd146 (pS_COMPACT_STRINGS.ext f147.2) pP5 (pS_SIOOBE_FORMATTER.ext f147.2) rfm (Nat.le_of_ble_eq_true rfl) (i := 2) (Nat.le_of_ble_eq_true rfl) (j := (2 : Int32)) rfl (by decide) (by decide)) qa153 qc153 (g := (mkF m 288 (own_A p0 p1 p2 (4 : Int32) dd b1 (.val (.ref x_135)) (.val (.ref y_140)) (.val (.int (3 : Int32))) (.val (.int (3 : Int32)))) [(.int (2 : Int32)), (.ref y_140)])) rfl (by rw [hml]; rfl) (Steps.refl _) (argsL := [(.int (2 : Int32))]) (rest := []) (lenOf pd__I_C rfl) rfl (by show 2 * 0 + _ ≤ _; exact Nat.le_of_eq rfl) (hb hby at_288) (fun _ _ => ⟨rfl, eH151, (by decide : 6 + 0 ≤ _), (by decide : 25 + 0 ≤ _)⟩)
      dsimp only [Pt.U, Pt.locs, Pt.cells, Pt.slots] at X153 l153 y153 z153 st153 hQ153
      try dsimp only [Nat.reduceAdd] at y153 z153
      rw [l153, y153, z153] at X153
      obtain ⟨rfl, rfl, eH153⟩ := hQ153
      have N153 := Fr.app N151 (Fr.nil n0)
      refine own_tr st153 ?_
      show own_Go p e below T153 (mkF m 291 (own_A p0 p1 p2 (4 : Int32) dd b1 (.val (.ref x_135)) (.val (.ref y_140)) (.val (.int (3 : Int32))) (.val (.int (3 : Int32)))) [(.int r_17)]) _
      refine own_st (fun t_ k_ => XS.aload X153.here hx rfl (hb hby at_291) rfl rfl k_) ?_
      refine own_st (fun t_ k_ => XS.iconst X153.here hx rfl (hb hby at_293) k_) ?_
      show own_Go p e below T153 (mkF m 294 (own_A p0 p1 p2 (4 : Int32) dd b1 (.val (.ref x_135)) (.val (.ref y_140)) (.val (.int (3 : Int32))) (.val (.int (3 : Int32)))) [(.int (2 : Int32)), (.ref b1), (.int r_17)]) _
      obtain ⟨cl154, Ar154, q154, Sz154, Nn154, Hh154, Gg154⟩ := id f144
      have hin154 : ¬ ((2 : Int32) < 0 ∨ cl154.slots.size ≤ ((2 : Int32)).toNatClampNeg) := inb_of Sz154 ⟨by decide, by decide⟩
      have hat154 : cl154.slots[((2 : Int32)).toNatClampNeg]? = some (.int r_17) := Has.at Hh154 hin154 rfl
      refine own_st (fun t_ k_ => X153.caload hx (j := (2 : Int32)) (v := (.int r_17)) (by rw [eH153]; exact Ar154.1) (State.isArrayOf_alike hZ.alike Ar154.2.1) Ar154.2.2 hin154 hat154 (g := (mkF m 294 (own_A p0 p1 p2 (4 : Int32) dd b1 (.val (.ref x_135)) (.val (.ref y_140)) (.val (.int (3 : Int32))) (.val (.int (3 : Int32)))) [(.int (2 : Int32)), (.ref b1), (.int r_17)])) rfl rfl (hb hby at_294) _ k_) ?_
      refine own_st (fun t_ k_ => XS.icmpNo X153.here hx rfl (hb hby at_295) rfl (teq rfl).2 k_) ?_
      refine own_st (fun t_ k_ => XS.iload X153.here hx rfl (hb hby at_298) rfl k_) ?_
      refine own_st (fun t_ k_ => XS.iconst X153.here hx rfl (hb hby at_300) k_) ?_
      refine own_st (fun t_ k_ => XS.icmpYes X153.here hx rfl (pc0 := 301) (pc' := 317) rfl (hb hby at_301) rfl (by decide) (by decide) (by decide) k_) ?_
      show own_Go p e below T153 (mkF m 317 (own_A p0 p1 p2 (4 : Int32) dd b1 (.val (.ref x_135)) (.val (.ref y_140)) (.val (.int (3 : Int32))) (.val (.int (3 : Int32)))) []) _
      refine own_st (fun t_ k_ => XS.iconst X153.here hx rfl (hb hby at_317) k_) ?_
      refine own_st (fun t_ k_ => XS.goto X153.here hx rfl (pc0 := 318) (pc' := 322) rfl (hb hby at_318) (by decide) (by decide) k_) ?_
      show own_Go p e below T153 (mkF m 322 (own_A p0 p1 p2 (4 : Int32) dd b1 (.val (.ref x_135)) (.val (.ref y_140)) (.val (.int (3 : Int32))) (.val (.int (3 : Int32)))) [(.int (1 : Int32))]) _
      obtain ⟨fs, hr, hrun, hended, hRW⟩ := X153.leaveW hS (by rw [eH153]; exact hK140) (v := some (.int (1 : Int32))) (fun h => by rw [Bd.returns] at h; cases h)
      have hCend : CHr Z own_EL s.vm s.heap T153.vm T153.heap := by
        rw [hh, eH153]
        exact CHr.trans CR142 (CHv.at X153 hZ hEL CH142)
      refine own_fin (retN X153 hx (t := .boolean) Bd.returns (by simp) (hb hby at_322) hr) ⟨hrun, hended, _, _, rfl, ?_, hCend, hRW.1, hRW.2.1, hRW.2.2.1, hRW.2.2.2.mono (by decide) (by decide)⟩
      show Q_rmLaw Z p0 p1 p2 zc fm h0 n0 _ T153.heap _
      rw [eH153]
      exact ⟨rfl, N153, K143⟩
    · skip
      have hpe : ∀ c ∈ ([r_5, r_11] : List Int32), ¬ c < 0 ∧ ¬ (255 : Int32) < c := by
        intro c hc
        simp only [List.mem_cons, List.not_mem_nil, or_false] at hc
        rcases hc with rfl | rfl
        · exact own_ch255 q5_0
        · exact own_ch255 q11_0
      obtain ⟨d2, d3⟩ := hj
      refine own_st (fun t_ k_ => XS.astore X140.here hx rfl (hb hby at_116) rfl rfl (l' := (own_A p0 p1 p2 (4 : Int32) dd b1 (.val (.ref x_135)) (.val (.ref y_140)) .unset .unset)) rfl k_) ?_
      refine own_st (fun t_ k_ => XS.iconst X140.here hx rfl (hb hby at_118) k_) ?_
      refine own_st (fun t_ k_ => XS.istore X140.here hx rfl (hb hby at_119) rfl (l' := (own_A p0 p1 p2 (4 : Int32) dd b1 (.val (.ref x_135)) (.val (.ref y_140)) (.val (.int (-1 : Int32))) .unset)) rfl k_) ?_
      refine own_st (fun t_ k_ => XS.iloadN X140.here hx rfl (hb hby at_121) rfl k_) ?_
      refine own_st (fun t_ k_ => XS.iconst X140.here hx rfl (hb hby at_122) k_) ?_
      show own_Go p e below T140 (mkF m 123 (own_A p0 p1 p2 (4 : Int32) dd b1 (.val (.ref x_135)) (.val (.ref y_140)) (.val (.int (-1 : Int32))) .unset) [(.int (4 : Int32)), (.int (4 : Int32))]) _
      refine own_st (fun t_ k_ => XS.icmpYes X140.here hx rfl (pc0 := 123) (pc' := 141) rfl (hb hby at_123) rfl (by decide) (by decide) (by decide) k_) ?_
      refine own_st (fun t_ k_ => XS.iloadN X140.here hx rfl (hb hby at_141) rfl k_) ?_
      refine own_st (fun t_ k_ => XS.iconst X140.here hx rfl (hb hby at_142) k_) ?_
      refine own_st (fun t_ k_ => XS.icmpNo X140.here hx rfl (hb hby at_143) rfl (by decide) k_) ?_
      refine own_st (fun t_ k_ => XS.aload X140.here hx rfl (hb hby at_146) rfl rfl k_) ?_
      refine own_st (fun t_ k_ => XS.iconst X140.here hx rfl (hb hby at_148) k_) ?_
      show own_Go p e below T140 (mkF m 149 (own_A p0 p1 p2 (4 : Int32) dd b1 (.val (.ref x_135)) (.val (.ref y_140)) (.val (.int (-1 : Int32))) .unset) [(.int (3 : Int32)), (.ref b1)]) _
      have f155 := ((V31.keep Kq135 nin0).keep Kq140 nin0)
      obtain ⟨cl156, Ar156, q156, Sz156, Nn156, Hh156, Gg156⟩ := id f155
      have hin156 : ¬ ((3 : Int32) < 0 ∨ cl156.slots.size ≤ ((3 : Int32)).toNatClampNeg) := inb_of Sz156 ⟨by decide, by decide⟩
      have hat156 : cl156.slots[((3 : Int32)).toNatClampNeg]? = some (.int r_23) := Has.at Hh156 hin156 rfl
      refine own_st (fun t_ k_ => X140.caload hx (j := (3 : Int32)) (v := (.int r_23)) (by exact Ar156.1) (State.isArrayOf_alike hZ.alike Ar156.2.1) Ar156.2.2 hin156 hat156 (g := (mkF m 149 (own_A p0 p1 p2 (4 : Int32) dd b1 (.val (.ref x_135)) (.val (.ref y_140)) (.val (.int (-1 : Int32))) .unset) [(.int (3 : Int32)), (.ref b1)])) rfl rfl (hb hby at_149) _ k_) ?_
      refine own_st (fun t_ k_ => XS.bipush X140.here hx rfl (hb hby at_150) k_) ?_
      refine own_st (fun t_ k_ => XS.icmpYes X140.here hx rfl (pc0 := 152) (pc' := 161) rfl (hb hby at_152) rfl (feq d3).2 (by decide) (by decide) k_) ?_
      refine own_st (fun t_ k_ => XS.iloadN X140.here hx rfl (hb hby at_161) rfl k_) ?_
      refine own_st (fun t_ k_ => XS.iconst X140.here hx rfl (hb hby at_162) k_) ?_
      show own_Go p e below T140 (mkF m 163 (own_A p0 p1 p2 (4 : Int32) dd b1 (.val (.ref x_135)) (.val (.ref y_140)) (.val (.int (-1 : Int32))) .unset) [(.int (2 : Int32)), (.int (4 : Int32))]) _
      refine own_st (fun t_ k_ => XS.icmpNo X140.here hx rfl (hb hby at_163) rfl (by decide) k_) ?_
      refine own_st (fun t_ k_ => XS.aload X140.here hx rfl (hb hby at_166) rfl rfl k_) ?_
      refine own_st (fun t_ k_ => XS.iconst X140.here hx rfl (hb hby at_168) k_) ?_
      show own_Go p e below T140 (mkF m 169 (own_A p0 p1 p2 (4 : Int32) dd b1 (.val (.ref x_135)) (.val (.ref y_140)) (.val (.int (-1 : Int32))) .unset) [(.int (2 : Int32)), (.ref b1)]) _
      obtain ⟨cl157, Ar157, q157, Sz157, Nn157, Hh157, Gg157⟩ := id f155
      have hin157 : ¬ ((2 : Int32) < 0 ∨ cl157.slots.size ≤ ((2 : Int32)).toNatClampNeg) := inb_of Sz157 ⟨by decide, by decide⟩
      have hat157 : cl157.slots[((2 : Int32)).toNatClampNeg]? = some (.int r_17) := Has.at Hh157 hin157 rfl
      refine own_st (fun t_ k_ => X140.caload hx (j := (2 : Int32)) (v := (.int r_17)) (by exact Ar157.1) (State.isArrayOf_alike hZ.alike Ar157.2.1) Ar157.2.2 hin157 hat157 (g := (mkF m 169 (own_A p0 p1 p2 (4 : Int32) dd b1 (.val (.ref x_135)) (.val (.ref y_140)) (.val (.int (-1 : Int32))) .unset) [(.int (2 : Int32)), (.ref b1)])) rfl rfl (hb hby at_169) _ k_) ?_
      refine own_st (fun t_ k_ => XS.bipush X140.here hx rfl (hb hby at_170) k_) ?_
      refine own_st (fun t_ k_ => XS.icmpNo X140.here hx rfl (hb hby at_172) rfl (teq d2).2 k_) ?_
      refine own_st (fun t_ k_ => XS.iconst X140.here hx rfl (hb hby at_175) k_) ?_
      refine own_st (fun t_ k_ => XS.istore X140.here hx rfl (hb hby at_176) rfl (l' := (own_A p0 p1 p2 (4 : Int32) dd b1 (.val (.ref x_135)) (.val (.ref y_140)) (.val (.int (2 : Int32))) .unset)) rfl k_) ?_
      show own_Go p e below T140 (mkF m 178 (own_A p0 p1 p2 (4 : Int32) dd b1 (.val (.ref x_135)) (.val (.ref y_140)) (.val (.int (2 : Int32))) .unset) []) _
      refine own_st (fun t_ k_ => XS.goto X140.here hx rfl (pc0 := 178) (pc' := 213) rfl (hb hby at_178) (by decide) (by decide) k_) ?_
      refine own_st (fun t_ k_ => XS.iload X140.here hx rfl (hb hby at_213) rfl k_) ?_
      refine own_st (fun t_ k_ => XS.ifYes X140.here hx rfl (pc0 := 215) (pc' := 222) rfl (hb hby at_215) rfl (by decide) (by decide) (by decide) k_) ?_
      refine own_st (fun t_ k_ => XS.iload X140.here hx rfl (hb hby at_222) rfl k_) ?_
      refine own_st (fun t_ k_ => XS.istore X140.here hx rfl (hb hby at_224) rfl (l' := (own_A p0 p1 p2 (4 : Int32) dd b1 (.val (.ref x_135)) (.val (.ref y_140)) (.val (.int (2 : Int32))) (.val (.int (2 : Int32))))) rfl k_) ?_
      refine own_st (fun t_ k_ => XS.aload X140.here hx rfl (hb hby at_226) rfl rfl k_) ?_
      show own_Go p e below T140 (mkF m 228 (own_A p0 p1 p2 (4 : Int32) dd b1 (.val (.ref x_135)) (.val (.ref y_140)) (.val (.int (2 : Int32))) (.val (.int (2 : Int32)))) [(.ref y_140)]) _
      refine own_st (fun t_ k_ => XS.ifnullNo X140.here hx rfl (hb hby at_228) rfl k_) ?_
      refine own_st (fun t_ k_ => XS.aload X140.here hx rfl (hb hby at_231) rfl rfl k_) ?_
      show own_Go p e below T140 (mkF m 233 (own_A p0 p1 p2 (4 : Int32) dd b1 (.val (.ref x_135)) (.val (.ref y_140)) (.val (.int (2 : Int32))) (.val (.int (2 : Int32)))) [(.ref y_140)]) _
      have hcd158 : StrChars.Road.CodA ([r_5, r_11] : List Int32) 0 (2 : Int32) ((([r_5, r_11] : List Int32).map (fun c : Int32 => c.toInt8.toInt32)).map Value.int) := StrChars.Road.codOf rfl (fun x hx => (hpe x hx).2)
      have hbd158 : ∀ x ∈ ([r_5, r_11] : List Int32), ¬ x < 0 ∧ ¬ (65535 : Int32) < x := own_up _ hpe
      have f159 := (f139.keep Kq140 all0)
      obtain ⟨cq160, kq160, qa160, qb160, qc160⟩ := isOf hZ rfl q140_0
      obtain ⟨_, _, ⟨T160, L160, k160, n160⟩, -, X160, ⟨Lc160, hQ160, l160, y160, z160⟩, st160⟩ := X140.virtualBack hx (y := (⟨"java/lang/String", "length", "()I"⟩ : MethodName)) (z := (⟨"java/lang/String", "length", "()I"⟩ : MethodName)) hown (mvT hZ (hw _ (List.mem_of_getElem? (i := 112) rfl))) (mvT hZ (hw _ (List.mem_of_getElem? (i := 47) rfl))) (notFace_of_selects (args := #[]) (mvT hZ (hw _ (List.mem_of_getElem? (i := 49) rfl)))) (mvT hZ (hw _ (List.mem_of_getElem? (i := 49) rfl))) (mvT hZ (hw _ (List.mem_of_getElem? (i := 48) rfl))) (by decide) (StrChars.Road.lenW (W := 0) hZ hln (kI := 4) (hw _ (List.mem_of_getElem? (i := 9) rfl)) q140_0 q140_1 q140_2 q140_3 hcd158 hbd158 (pS_COMPACT_STRINGS.ext f159.2) pP5 (Nat.le_of_ble_eq_true rfl) (by decide) (by decide)) qa160 qc160 (g := (mkF m 233 (own_A p0 p1 p2 (4 : Int32) dd b1 (.val (.ref x_135)) (.val (.ref y_140)) (.val (.int (2 : Int32))) (.val (.int (2 : Int32)))) [(.ref y_140)])) rfl (by rw [hml]; rfl) (Steps.refl _) (argsL := []) (rest := []) (lenOf pd___I rfl) rfl (by show 2 * 0 + _ ≤ _; exact Nat.le_of_eq rfl) (hb hby at_233) (fun _ _ => ⟨rfl, rfl, (by decide : 6 + 0 ≤ _), (by decide : 25 + 0 ≤ _)⟩)
      dsimp only [Pt.U, Pt.locs, Pt.cells, Pt.slots] at X160 l160 y160 z160 st160 hQ160
      try dsimp only [Nat.reduceAdd] at y160 z160
      rw [l160, y160, z160] at X160
      obtain ⟨rfl, rfl, eH160⟩ := hQ160
      have N160 := Fr.app N140 (Fr.nil n0)
      refine own_tr st160 ?_
      show own_Go p e below T160 (mkF m 236 (own_A p0 p1 p2 (4 : Int32) dd b1 (.val (.ref x_135)) (.val (.ref y_140)) (.val (.int (2 : Int32))) (.val (.int (2 : Int32)))) [(.int (2 : Int32))]) _
      refine own_st (fun t_ k_ => XS.iload X160.here hx rfl (hb hby at_236) rfl k_) ?_
      refine own_st (fun t_ k_ => XS.icmpNo X160.here hx rfl (hb hby at_238) rfl (by decide) k_) ?_
      refine own_st (fun t_ k_ => XS.iload X160.here hx rfl (hb hby at_241) rfl k_) ?_
      refine own_st (fun t_ k_ => XS.iconst X160.here hx rfl (hb hby at_243) k_) ?_
      refine own_st (fun t_ k_ => XS.icmpNo X160.here hx rfl (hb hby at_244) rfl (by decide) k_) ?_
      show own_Go p e below T160 (mkF m 247 (own_A p0 p1 p2 (4 : Int32) dd b1 (.val (.ref x_135)) (.val (.ref y_140)) (.val (.int (2 : Int32))) (.val (.int (2 : Int32)))) []) _
      refine own_st (fun t_ k_ => XS.aload X160.here hx rfl (hb hby at_247) rfl rfl k_) ?_
      refine own_st (fun t_ k_ => XS.iconst X160.here hx rfl (hb hby at_249) k_) ?_
      show own_Go p e below T160 (mkF m 250 (own_A p0 p1 p2 (4 : Int32) dd b1 (.val (.ref x_135)) (.val (.ref y_140)) (.val (.int (2 : Int32))) (.val (.int (2 : Int32)))) [(.int (0 : Int32)), (.ref y_140)]) _
      obtain ⟨cq161, kq161, qa161, qb161, qc161⟩ := isOf hZ eH160 q140_0
      obtain ⟨_, _, ⟨T161, L161, k161, n161⟩, -, X161, ⟨Lc161, hQ161, l161, y161, z161⟩, st161⟩ := X160.virtualBack hx (y := (⟨"java/lang/String", "charAt", "(I)C"⟩ : MethodName)) (z := (⟨"java/lang/String", "charAt", "(I)C"⟩ : MethodName)) hown (mvT hZ (hw _ (List.mem_of_getElem? (i := 113) rfl))) (mvT hZ (hw _ (List.mem_of_getElem? (i := 114) rfl))) (notFace_of_selects (args := #[]) (mvT hZ (hw _ (List.mem_of_getElem? (i := 116) rfl)))) (mvT hZ (hw _ (List.mem_of_getElem? (i := 116) rfl))) (mvT hZ (hw _ (List.mem_of_getElem? (i := 115) rfl))) (by decide) (StrChars.Road.chN (W := 0) hZ hch (kI := 4) (hw _ (List.mem_of_getElem? (i := 9) rfl)) q140_0 q140_1 q140_2 q140_3 hcd158 hbd158 (pS_COMPACT_STRINGS.ext f159.2) pP5 (pS_SIOOBE_FORMATTER.ext f159.2) rfm (Nat.le_of_ble_eq_true rfl) (i := 0) (Nat.le_of_ble_eq_true rfl) (j := (0 : Int32)) rfl (by decide) (by decide)) qa161 qc161 (g := (mkF m 250 (own_A p0 p1 p2 (4 : Int32) dd b1 (.val (.ref x_135)) (.val (.ref y_140)) (.val (.int (2 : Int32))) (.val (.int (2 : Int32)))) [(.int (0 : Int32)), (.ref y_140)])) rfl (by rw [hml]; rfl) (Steps.refl _) (argsL := [(.int (0 : Int32))]) (rest := []) (lenOf pd__I_C rfl) rfl (by show 2 * 0 + _ ≤ _; exact Nat.le_of_eq rfl) (hb hby at_250) (fun _ _ => ⟨rfl, eH160, (by decide : 6 + 0 ≤ _), (by decide : 25 + 0 ≤ _)⟩)
      dsimp only [Pt.U, Pt.locs, Pt.cells, Pt.slots] at X161 l161 y161 z161 st161 hQ161
      try dsimp only [Nat.reduceAdd] at y161 z161
      rw [l161, y161, z161] at X161
      obtain ⟨rfl, rfl, eH161⟩ := hQ161
      have N161 := Fr.app N160 (Fr.nil n0)
      refine own_tr st161 ?_
      show own_Go p e below T161 (mkF m 253 (own_A p0 p1 p2 (4 : Int32) dd b1 (.val (.ref x_135)) (.val (.ref y_140)) (.val (.int (2 : Int32))) (.val (.int (2 : Int32)))) [(.int r_5)]) _
      refine own_st (fun t_ k_ => XS.aload X161.here hx rfl (hb hby at_253) rfl rfl k_) ?_
      refine own_st (fun t_ k_ => XS.iconst X161.here hx rfl (hb hby at_255) k_) ?_
      show own_Go p e below T161 (mkF m 256 (own_A p0 p1 p2 (4 : Int32) dd b1 (.val (.ref x_135)) (.val (.ref y_140)) (.val (.int (2 : Int32))) (.val (.int (2 : Int32)))) [(.int (0 : Int32)), (.ref b1), (.int r_5)]) _
      obtain ⟨cl162, Ar162, q162, Sz162, Nn162, Hh162, Gg162⟩ := id f155
      have hin162 : ¬ ((0 : Int32) < 0 ∨ cl162.slots.size ≤ ((0 : Int32)).toNatClampNeg) := inb_of Sz162 ⟨by decide, by decide⟩
      have hat162 : cl162.slots[((0 : Int32)).toNatClampNeg]? = some (.int r_5) := Has.at Hh162 hin162 rfl
      refine own_st (fun t_ k_ => X161.caload hx (j := (0 : Int32)) (v := (.int r_5)) (by rw [eH161]; exact Ar162.1) (State.isArrayOf_alike hZ.alike Ar162.2.1) Ar162.2.2 hin162 hat162 (g := (mkF m 256 (own_A p0 p1 p2 (4 : Int32) dd b1 (.val (.ref x_135)) (.val (.ref y_140)) (.val (.int (2 : Int32))) (.val (.int (2 : Int32)))) [(.int (0 : Int32)), (.ref b1), (.int r_5)])) rfl rfl (hb hby at_256) _ k_) ?_
      refine own_st (fun t_ k_ => XS.icmpNo X161.here hx rfl (hb hby at_257) rfl (teq rfl).2 k_) ?_
      refine own_st (fun t_ k_ => XS.iload X161.here hx rfl (hb hby at_260) rfl k_) ?_
      refine own_st (fun t_ k_ => XS.iconst X161.here hx rfl (hb hby at_262) k_) ?_
      refine own_st (fun t_ k_ => XS.icmpNo X161.here hx rfl (hb hby at_263) rfl (by decide) k_) ?_
      show own_Go p e below T161 (mkF m 266 (own_A p0 p1 p2 (4 : Int32) dd b1 (.val (.ref x_135)) (.val (.ref y_140)) (.val (.int (2 : Int32))) (.val (.int (2 : Int32)))) []) _
      refine own_st (fun t_ k_ => XS.aload X161.here hx rfl (hb hby at_266) rfl rfl k_) ?_
      refine own_st (fun t_ k_ => XS.iconst X161.here hx rfl (hb hby at_268) k_) ?_
      show own_Go p e below T161 (mkF m 269 (own_A p0 p1 p2 (4 : Int32) dd b1 (.val (.ref x_135)) (.val (.ref y_140)) (.val (.int (2 : Int32))) (.val (.int (2 : Int32)))) [(.int (1 : Int32)), (.ref y_140)]) _
      obtain ⟨cq163, kq163, qa163, qb163, qc163⟩ := isOf hZ eH161 q140_0
      obtain ⟨_, _, ⟨T163, L163, k163, n163⟩, -, X163, ⟨Lc163, hQ163, l163, y163, z163⟩, st163⟩ := X161.virtualBack hx (y := (⟨"java/lang/String", "charAt", "(I)C"⟩ : MethodName)) (z := (⟨"java/lang/String", "charAt", "(I)C"⟩ : MethodName)) hown (mvT hZ (hw _ (List.mem_of_getElem? (i := 113) rfl))) (mvT hZ (hw _ (List.mem_of_getElem? (i := 114) rfl))) (notFace_of_selects (args := #[]) (mvT hZ (hw _ (List.mem_of_getElem? (i := 116) rfl)))) (mvT hZ (hw _ (List.mem_of_getElem? (i := 116) rfl))) (mvT hZ (hw _ (List.mem_of_getElem? (i := 115) rfl))) (by decide) (StrChars.Road.chN (W := 0) hZ hch (kI := 4) (hw _ (List.mem_of_getElem? (i := 9) rfl)) q140_0 q140_1 q140_2 q140_3 hcd158 hbd158 (pS_COMPACT_STRINGS.ext f159.2) pP5 (pS_SIOOBE_FORMATTER.ext f159.2) rfm (Nat.le_of_ble_eq_true rfl) (i := 1) (Nat.le_of_ble_eq_true rfl) (j := (1 : Int32)) rfl (by decide) (by decide)) qa163 qc163 (g := (mkF m 269 (own_A p0 p1 p2 (4 : Int32) dd b1 (.val (.ref x_135)) (.val (.ref y_140)) (.val (.int (2 : Int32))) (.val (.int (2 : Int32)))) [(.int (1 : Int32)), (.ref y_140)])) rfl (by rw [hml]; rfl) (Steps.refl _) (argsL := [(.int (1 : Int32))]) (rest := []) (lenOf pd__I_C rfl) rfl (by show 2 * 0 + _ ≤ _; exact Nat.le_of_eq rfl) (hb hby at_269) (fun _ _ => ⟨rfl, eH161, (by decide : 6 + 0 ≤ _), (by decide : 25 + 0 ≤ _)⟩)
      dsimp only [Pt.U, Pt.locs, Pt.cells, Pt.slots] at X163 l163 y163 z163 st163 hQ163
      try dsimp only [Nat.reduceAdd] at y163 z163
      rw [l163, y163, z163] at X163
      obtain ⟨rfl, rfl, eH163⟩ := hQ163
      have N163 := Fr.app N161 (Fr.nil n0)
      refine own_tr st163 ?_
      show own_Go p e below T163 (mkF m 272 (own_A p0 p1 p2 (4 : Int32) dd b1 (.val (.ref x_135)) (.val (.ref y_140)) (.val (.int (2 : Int32))) (.val (.int (2 : Int32)))) [(.int r_11)]) _
      refine own_st (fun t_ k_ => XS.aload X163.here hx rfl (hb hby at_272) rfl rfl k_) ?_
      refine own_st (fun t_ k_ => XS.iconst X163.here hx rfl (hb hby at_274) k_) ?_
      show own_Go p e below T163 (mkF m 275 (own_A p0 p1 p2 (4 : Int32) dd b1 (.val (.ref x_135)) (.val (.ref y_140)) (.val (.int (2 : Int32))) (.val (.int (2 : Int32)))) [(.int (1 : Int32)), (.ref b1), (.int r_11)]) _
      obtain ⟨cl164, Ar164, q164, Sz164, Nn164, Hh164, Gg164⟩ := id f155
      have hin164 : ¬ ((1 : Int32) < 0 ∨ cl164.slots.size ≤ ((1 : Int32)).toNatClampNeg) := inb_of Sz164 ⟨by decide, by decide⟩
      have hat164 : cl164.slots[((1 : Int32)).toNatClampNeg]? = some (.int r_11) := Has.at Hh164 hin164 rfl
      refine own_st (fun t_ k_ => X163.caload hx (j := (1 : Int32)) (v := (.int r_11)) (by rw [eH163]; exact Ar164.1) (State.isArrayOf_alike hZ.alike Ar164.2.1) Ar164.2.2 hin164 hat164 (g := (mkF m 275 (own_A p0 p1 p2 (4 : Int32) dd b1 (.val (.ref x_135)) (.val (.ref y_140)) (.val (.int (2 : Int32))) (.val (.int (2 : Int32)))) [(.int (1 : Int32)), (.ref b1), (.int r_11)])) rfl rfl (hb hby at_275) _ k_) ?_
      refine own_st (fun t_ k_ => XS.icmpNo X163.here hx rfl (hb hby at_276) rfl (teq rfl).2 k_) ?_
      refine own_st (fun t_ k_ => XS.iload X163.here hx rfl (hb hby at_279) rfl k_) ?_
      refine own_st (fun t_ k_ => XS.iconst X163.here hx rfl (hb hby at_281) k_) ?_
      refine own_st (fun t_ k_ => XS.icmpYes X163.here hx rfl (pc0 := 282) (pc' := 298) rfl (hb hby at_282) rfl (by decide) (by decide) (by decide) k_) ?_
      show own_Go p e below T163 (mkF m 298 (own_A p0 p1 p2 (4 : Int32) dd b1 (.val (.ref x_135)) (.val (.ref y_140)) (.val (.int (2 : Int32))) (.val (.int (2 : Int32)))) []) _
      refine own_st (fun t_ k_ => XS.iload X163.here hx rfl (hb hby at_298) rfl k_) ?_
      refine own_st (fun t_ k_ => XS.iconst X163.here hx rfl (hb hby at_300) k_) ?_
      refine own_st (fun t_ k_ => XS.icmpYes X163.here hx rfl (pc0 := 301) (pc' := 317) rfl (hb hby at_301) rfl (by decide) (by decide) (by decide) k_) ?_
      refine own_st (fun t_ k_ => XS.iconst X163.here hx rfl (hb hby at_317) k_) ?_
      refine own_st (fun t_ k_ => XS.goto X163.here hx rfl (pc0 := 318) (pc' := 322) rfl (hb hby at_318) (by decide) (by decide) k_) ?_
      show own_Go p e below T163 (mkF m 322 (own_A p0 p1 p2 (4 : Int32) dd b1 (.val (.ref x_135)) (.val (.ref y_140)) (.val (.int (2 : Int32))) (.val (.int (2 : Int32)))) [(.int (1 : Int32))]) _
      obtain ⟨fs, hr, hrun, hended, hRW⟩ := X163.leaveW hS (by rw [eH163]; exact hK140) (v := some (.int (1 : Int32))) (fun h => by rw [Bd.returns] at h; cases h)
      have hCend : CHr Z own_EL s.vm s.heap T163.vm T163.heap := by
        rw [hh, eH163]
        exact CHr.trans CR142 (CHv.at X163 hZ hEL CH142)
      refine own_fin (retN X163 hx (t := .boolean) Bd.returns (by simp) (hb hby at_322) hr) ⟨hrun, hended, _, _, rfl, ?_, hCend, hRW.1, hRW.2.1, hRW.2.2.1, hRW.2.2.2.mono (by decide) (by decide)⟩
      show Q_rmLaw Z p0 p1 p2 zc fm h0 n0 _ T163.heap _
      rw [eH163]
      exact ⟨rfl, N163, K143⟩
    · skip
      have hpe : ∀ c ∈ ([r_5] : List Int32), ¬ c < 0 ∧ ¬ (255 : Int32) < c := by
        intro c hc
        simp only [List.mem_cons, List.not_mem_nil, or_false] at hc
        subst hc
        exact own_ch255 q5_0
      obtain ⟨d1, d3, d2⟩ := hj
      refine own_st (fun t_ k_ => XS.astore X140.here hx rfl (hb hby at_116) rfl rfl (l' := (own_A p0 p1 p2 (4 : Int32) dd b1 (.val (.ref x_135)) (.val (.ref y_140)) .unset .unset)) rfl k_) ?_
      refine own_st (fun t_ k_ => XS.iconst X140.here hx rfl (hb hby at_118) k_) ?_
      refine own_st (fun t_ k_ => XS.istore X140.here hx rfl (hb hby at_119) rfl (l' := (own_A p0 p1 p2 (4 : Int32) dd b1 (.val (.ref x_135)) (.val (.ref y_140)) (.val (.int (-1 : Int32))) .unset)) rfl k_) ?_
      refine own_st (fun t_ k_ => XS.iloadN X140.here hx rfl (hb hby at_121) rfl k_) ?_
      refine own_st (fun t_ k_ => XS.iconst X140.here hx rfl (hb hby at_122) k_) ?_
      show own_Go p e below T140 (mkF m 123 (own_A p0 p1 p2 (4 : Int32) dd b1 (.val (.ref x_135)) (.val (.ref y_140)) (.val (.int (-1 : Int32))) .unset) [(.int (4 : Int32)), (.int (4 : Int32))]) _
      refine own_st (fun t_ k_ => XS.icmpYes X140.here hx rfl (pc0 := 123) (pc' := 141) rfl (hb hby at_123) rfl (by decide) (by decide) (by decide) k_) ?_
      refine own_st (fun t_ k_ => XS.iloadN X140.here hx rfl (hb hby at_141) rfl k_) ?_
      refine own_st (fun t_ k_ => XS.iconst X140.here hx rfl (hb hby at_142) k_) ?_
      refine own_st (fun t_ k_ => XS.icmpNo X140.here hx rfl (hb hby at_143) rfl (by decide) k_) ?_
      refine own_st (fun t_ k_ => XS.aload X140.here hx rfl (hb hby at_146) rfl rfl k_) ?_
      refine own_st (fun t_ k_ => XS.iconst X140.here hx rfl (hb hby at_148) k_) ?_
      show own_Go p e below T140 (mkF m 149 (own_A p0 p1 p2 (4 : Int32) dd b1 (.val (.ref x_135)) (.val (.ref y_140)) (.val (.int (-1 : Int32))) .unset) [(.int (3 : Int32)), (.ref b1)]) _
      have f165 := ((V31.keep Kq135 nin0).keep Kq140 nin0)
      obtain ⟨cl166, Ar166, q166, Sz166, Nn166, Hh166, Gg166⟩ := id f165
      have hin166 : ¬ ((3 : Int32) < 0 ∨ cl166.slots.size ≤ ((3 : Int32)).toNatClampNeg) := inb_of Sz166 ⟨by decide, by decide⟩
      have hat166 : cl166.slots[((3 : Int32)).toNatClampNeg]? = some (.int r_23) := Has.at Hh166 hin166 rfl
      refine own_st (fun t_ k_ => X140.caload hx (j := (3 : Int32)) (v := (.int r_23)) (by exact Ar166.1) (State.isArrayOf_alike hZ.alike Ar166.2.1) Ar166.2.2 hin166 hat166 (g := (mkF m 149 (own_A p0 p1 p2 (4 : Int32) dd b1 (.val (.ref x_135)) (.val (.ref y_140)) (.val (.int (-1 : Int32))) .unset) [(.int (3 : Int32)), (.ref b1)])) rfl rfl (hb hby at_149) _ k_) ?_
      refine own_st (fun t_ k_ => XS.bipush X140.here hx rfl (hb hby at_150) k_) ?_
      refine own_st (fun t_ k_ => XS.icmpYes X140.here hx rfl (pc0 := 152) (pc' := 161) rfl (hb hby at_152) rfl (feq d3).2 (by decide) (by decide) k_) ?_
      refine own_st (fun t_ k_ => XS.iloadN X140.here hx rfl (hb hby at_161) rfl k_) ?_
      refine own_st (fun t_ k_ => XS.iconst X140.here hx rfl (hb hby at_162) k_) ?_
      show own_Go p e below T140 (mkF m 163 (own_A p0 p1 p2 (4 : Int32) dd b1 (.val (.ref x_135)) (.val (.ref y_140)) (.val (.int (-1 : Int32))) .unset) [(.int (2 : Int32)), (.int (4 : Int32))]) _
      refine own_st (fun t_ k_ => XS.icmpNo X140.here hx rfl (hb hby at_163) rfl (by decide) k_) ?_
      refine own_st (fun t_ k_ => XS.aload X140.here hx rfl (hb hby at_166) rfl rfl k_) ?_
      refine own_st (fun t_ k_ => XS.iconst X140.here hx rfl (hb hby at_168) k_) ?_
      show own_Go p e below T140 (mkF m 169 (own_A p0 p1 p2 (4 : Int32) dd b1 (.val (.ref x_135)) (.val (.ref y_140)) (.val (.int (-1 : Int32))) .unset) [(.int (2 : Int32)), (.ref b1)]) _
      obtain ⟨cl167, Ar167, q167, Sz167, Nn167, Hh167, Gg167⟩ := id f165
      have hin167 : ¬ ((2 : Int32) < 0 ∨ cl167.slots.size ≤ ((2 : Int32)).toNatClampNeg) := inb_of Sz167 ⟨by decide, by decide⟩
      have hat167 : cl167.slots[((2 : Int32)).toNatClampNeg]? = some (.int r_17) := Has.at Hh167 hin167 rfl
      refine own_st (fun t_ k_ => X140.caload hx (j := (2 : Int32)) (v := (.int r_17)) (by exact Ar167.1) (State.isArrayOf_alike hZ.alike Ar167.2.1) Ar167.2.2 hin167 hat167 (g := (mkF m 169 (own_A p0 p1 p2 (4 : Int32) dd b1 (.val (.ref x_135)) (.val (.ref y_140)) (.val (.int (-1 : Int32))) .unset) [(.int (2 : Int32)), (.ref b1)])) rfl rfl (hb hby at_169) _ k_) ?_
      refine own_st (fun t_ k_ => XS.bipush X140.here hx rfl (hb hby at_170) k_) ?_
      refine own_st (fun t_ k_ => XS.icmpYes X140.here hx rfl (pc0 := 172) (pc' := 181) rfl (hb hby at_172) rfl (feq d2).2 (by decide) (by decide) k_) ?_
      refine own_st (fun t_ k_ => XS.iloadN X140.here hx rfl (hb hby at_181) rfl k_) ?_
      refine own_st (fun t_ k_ => XS.iconst X140.here hx rfl (hb hby at_182) k_) ?_
      show own_Go p e below T140 (mkF m 183 (own_A p0 p1 p2 (4 : Int32) dd b1 (.val (.ref x_135)) (.val (.ref y_140)) (.val (.int (-1 : Int32))) .unset) [(.int (1 : Int32)), (.int (4 : Int32))]) _
      refine own_st (fun t_ k_ => XS.icmpNo X140.here hx rfl (hb hby at_183) rfl (by decide) k_) ?_
      refine own_st (fun t_ k_ => XS.aload X140.here hx rfl (hb hby at_186) rfl rfl k_) ?_
      refine own_st (fun t_ k_ => XS.iconst X140.here hx rfl (hb hby at_188) k_) ?_
      show own_Go p e below T140 (mkF m 189 (own_A p0 p1 p2 (4 : Int32) dd b1 (.val (.ref x_135)) (.val (.ref y_140)) (.val (.int (-1 : Int32))) .unset) [(.int (1 : Int32)), (.ref b1)]) _
      obtain ⟨cl168, Ar168, q168, Sz168, Nn168, Hh168, Gg168⟩ := id f165
      have hin168 : ¬ ((1 : Int32) < 0 ∨ cl168.slots.size ≤ ((1 : Int32)).toNatClampNeg) := inb_of Sz168 ⟨by decide, by decide⟩
      have hat168 : cl168.slots[((1 : Int32)).toNatClampNeg]? = some (.int r_11) := Has.at Hh168 hin168 rfl
      refine own_st (fun t_ k_ => X140.caload hx (j := (1 : Int32)) (v := (.int r_11)) (by exact Ar168.1) (State.isArrayOf_alike hZ.alike Ar168.2.1) Ar168.2.2 hin168 hat168 (g := (mkF m 189 (own_A p0 p1 p2 (4 : Int32) dd b1 (.val (.ref x_135)) (.val (.ref y_140)) (.val (.int (-1 : Int32))) .unset) [(.int (1 : Int32)), (.ref b1)])) rfl rfl (hb hby at_189) _ k_) ?_
      refine own_st (fun t_ k_ => XS.bipush X140.here hx rfl (hb hby at_190) k_) ?_
      refine own_st (fun t_ k_ => XS.icmpNo X140.here hx rfl (hb hby at_192) rfl (teq d1).2 k_) ?_
      refine own_st (fun t_ k_ => XS.iconst X140.here hx rfl (hb hby at_195) k_) ?_
      refine own_st (fun t_ k_ => XS.istore X140.here hx rfl (hb hby at_196) rfl (l' := (own_A p0 p1 p2 (4 : Int32) dd b1 (.val (.ref x_135)) (.val (.ref y_140)) (.val (.int (1 : Int32))) .unset)) rfl k_) ?_
      show own_Go p e below T140 (mkF m 198 (own_A p0 p1 p2 (4 : Int32) dd b1 (.val (.ref x_135)) (.val (.ref y_140)) (.val (.int (1 : Int32))) .unset) []) _
      refine own_st (fun t_ k_ => XS.goto X140.here hx rfl (pc0 := 198) (pc' := 213) rfl (hb hby at_198) (by decide) (by decide) k_) ?_
      refine own_st (fun t_ k_ => XS.iload X140.here hx rfl (hb hby at_213) rfl k_) ?_
      refine own_st (fun t_ k_ => XS.ifYes X140.here hx rfl (pc0 := 215) (pc' := 222) rfl (hb hby at_215) rfl (by decide) (by decide) (by decide) k_) ?_
      refine own_st (fun t_ k_ => XS.iload X140.here hx rfl (hb hby at_222) rfl k_) ?_
      refine own_st (fun t_ k_ => XS.istore X140.here hx rfl (hb hby at_224) rfl (l' := (own_A p0 p1 p2 (4 : Int32) dd b1 (.val (.ref x_135)) (.val (.ref y_140)) (.val (.int (1 : Int32))) (.val (.int (1 : Int32))))) rfl k_) ?_
      refine own_st (fun t_ k_ => XS.aload X140.here hx rfl (hb hby at_226) rfl rfl k_) ?_
      show own_Go p e below T140 (mkF m 228 (own_A p0 p1 p2 (4 : Int32) dd b1 (.val (.ref x_135)) (.val (.ref y_140)) (.val (.int (1 : Int32))) (.val (.int (1 : Int32)))) [(.ref y_140)]) _
      refine own_st (fun t_ k_ => XS.ifnullNo X140.here hx rfl (hb hby at_228) rfl k_) ?_
      refine own_st (fun t_ k_ => XS.aload X140.here hx rfl (hb hby at_231) rfl rfl k_) ?_
      show own_Go p e below T140 (mkF m 233 (own_A p0 p1 p2 (4 : Int32) dd b1 (.val (.ref x_135)) (.val (.ref y_140)) (.val (.int (1 : Int32))) (.val (.int (1 : Int32)))) [(.ref y_140)]) _
      have hcd169 : StrChars.Road.CodA ([r_5] : List Int32) 0 (1 : Int32) ((([r_5] : List Int32).map (fun c : Int32 => c.toInt8.toInt32)).map Value.int) := StrChars.Road.codOf rfl (fun x hx => (hpe x hx).2)
      have hbd169 : ∀ x ∈ ([r_5] : List Int32), ¬ x < 0 ∧ ¬ (65535 : Int32) < x := own_up _ hpe
      have f170 := (f139.keep Kq140 all0)
      obtain ⟨cq171, kq171, qa171, qb171, qc171⟩ := isOf hZ rfl q140_0
      obtain ⟨_, _, ⟨T171, L171, k171, n171⟩, -, X171, ⟨Lc171, hQ171, l171, y171, z171⟩, st171⟩ := X140.virtualBack hx (y := (⟨"java/lang/String", "length", "()I"⟩ : MethodName)) (z := (⟨"java/lang/String", "length", "()I"⟩ : MethodName)) hown (mvT hZ (hw _ (List.mem_of_getElem? (i := 112) rfl))) (mvT hZ (hw _ (List.mem_of_getElem? (i := 47) rfl))) (notFace_of_selects (args := #[]) (mvT hZ (hw _ (List.mem_of_getElem? (i := 49) rfl)))) (mvT hZ (hw _ (List.mem_of_getElem? (i := 49) rfl))) (mvT hZ (hw _ (List.mem_of_getElem? (i := 48) rfl))) (by decide) (StrChars.Road.lenW (W := 0) hZ hln (kI := 4) (hw _ (List.mem_of_getElem? (i := 9) rfl)) q140_0 q140_1 q140_2 q140_3 hcd169 hbd169 (pS_COMPACT_STRINGS.ext f170.2) pP5 (Nat.le_of_ble_eq_true rfl) (by decide) (by decide)) qa171 qc171 (g := (mkF m 233 (own_A p0 p1 p2 (4 : Int32) dd b1 (.val (.ref x_135)) (.val (.ref y_140)) (.val (.int (1 : Int32))) (.val (.int (1 : Int32)))) [(.ref y_140)])) rfl (by rw [hml]; rfl) (Steps.refl _) (argsL := []) (rest := []) (lenOf pd___I rfl) rfl (by show 2 * 0 + _ ≤ _; exact Nat.le_of_eq rfl) (hb hby at_233) (fun _ _ => ⟨rfl, rfl, (by decide : 6 + 0 ≤ _), (by decide : 25 + 0 ≤ _)⟩)
      dsimp only [Pt.U, Pt.locs, Pt.cells, Pt.slots] at X171 l171 y171 z171 st171 hQ171
      try dsimp only [Nat.reduceAdd] at y171 z171
      rw [l171, y171, z171] at X171
      obtain ⟨rfl, rfl, eH171⟩ := hQ171
      have N171 := Fr.app N140 (Fr.nil n0)
      refine own_tr st171 ?_
      show own_Go p e below T171 (mkF m 236 (own_A p0 p1 p2 (4 : Int32) dd b1 (.val (.ref x_135)) (.val (.ref y_140)) (.val (.int (1 : Int32))) (.val (.int (1 : Int32)))) [(.int (1 : Int32))]) _
      refine own_st (fun t_ k_ => XS.iload X171.here hx rfl (hb hby at_236) rfl k_) ?_
      refine own_st (fun t_ k_ => XS.icmpNo X171.here hx rfl (hb hby at_238) rfl (by decide) k_) ?_
      refine own_st (fun t_ k_ => XS.iload X171.here hx rfl (hb hby at_241) rfl k_) ?_
      refine own_st (fun t_ k_ => XS.iconst X171.here hx rfl (hb hby at_243) k_) ?_
      refine own_st (fun t_ k_ => XS.icmpNo X171.here hx rfl (hb hby at_244) rfl (by decide) k_) ?_
      show own_Go p e below T171 (mkF m 247 (own_A p0 p1 p2 (4 : Int32) dd b1 (.val (.ref x_135)) (.val (.ref y_140)) (.val (.int (1 : Int32))) (.val (.int (1 : Int32)))) []) _
      refine own_st (fun t_ k_ => XS.aload X171.here hx rfl (hb hby at_247) rfl rfl k_) ?_
      refine own_st (fun t_ k_ => XS.iconst X171.here hx rfl (hb hby at_249) k_) ?_
      show own_Go p e below T171 (mkF m 250 (own_A p0 p1 p2 (4 : Int32) dd b1 (.val (.ref x_135)) (.val (.ref y_140)) (.val (.int (1 : Int32))) (.val (.int (1 : Int32)))) [(.int (0 : Int32)), (.ref y_140)]) _
      obtain ⟨cq172, kq172, qa172, qb172, qc172⟩ := isOf hZ eH171 q140_0
      obtain ⟨_, _, ⟨T172, L172, k172, n172⟩, -, X172, ⟨Lc172, hQ172, l172, y172, z172⟩, st172⟩ := X171.virtualBack hx (y := (⟨"java/lang/String", "charAt", "(I)C"⟩ : MethodName)) (z := (⟨"java/lang/String", "charAt", "(I)C"⟩ : MethodName)) hown (mvT hZ (hw _ (List.mem_of_getElem? (i := 113) rfl))) (mvT hZ (hw _ (List.mem_of_getElem? (i := 114) rfl))) (notFace_of_selects (args := #[]) (mvT hZ (hw _ (List.mem_of_getElem? (i := 116) rfl)))) (mvT hZ (hw _ (List.mem_of_getElem? (i := 116) rfl))) (mvT hZ (hw _ (List.mem_of_getElem? (i := 115) rfl))) (by decide) (StrChars.Road.chN (W := 0) hZ hch (kI := 4) (hw _ (List.mem_of_getElem? (i := 9) rfl)) q140_0 q140_1 q140_2 q140_3 hcd169 hbd169 (pS_COMPACT_STRINGS.ext f170.2) pP5 (pS_SIOOBE_FORMATTER.ext f170.2) rfm (Nat.le_of_ble_eq_true rfl) (i := 0) (Nat.le_of_ble_eq_true rfl) (j := (0 : Int32)) rfl (by decide) (by decide)) qa172 qc172 (g := (mkF m 250 (own_A p0 p1 p2 (4 : Int32) dd b1 (.val (.ref x_135)) (.val (.ref y_140)) (.val (.int (1 : Int32))) (.val (.int (1 : Int32)))) [(.int (0 : Int32)), (.ref y_140)])) rfl (by rw [hml]; rfl) (Steps.refl _) (argsL := [(.int (0 : Int32))]) (rest := []) (lenOf pd__I_C rfl) rfl (by show 2 * 0 + _ ≤ _; exact Nat.le_of_eq rfl) (hb hby at_250) (fun _ _ => ⟨rfl, eH171, (by decide : 6 + 0 ≤ _), (by decide : 25 + 0 ≤ _)⟩)
      dsimp only [Pt.U, Pt.locs, Pt.cells, Pt.slots] at X172 l172 y172 z172 st172 hQ172
      try dsimp only [Nat.reduceAdd] at y172 z172
      rw [l172, y172, z172] at X172
      obtain ⟨rfl, rfl, eH172⟩ := hQ172
      have N172 := Fr.app N171 (Fr.nil n0)
      refine own_tr st172 ?_
      show own_Go p e below T172 (mkF m 253 (own_A p0 p1 p2 (4 : Int32) dd b1 (.val (.ref x_135)) (.val (.ref y_140)) (.val (.int (1 : Int32))) (.val (.int (1 : Int32)))) [(.int r_5)]) _
      refine own_st (fun t_ k_ => XS.aload X172.here hx rfl (hb hby at_253) rfl rfl k_) ?_
      refine own_st (fun t_ k_ => XS.iconst X172.here hx rfl (hb hby at_255) k_) ?_
      show own_Go p e below T172 (mkF m 256 (own_A p0 p1 p2 (4 : Int32) dd b1 (.val (.ref x_135)) (.val (.ref y_140)) (.val (.int (1 : Int32))) (.val (.int (1 : Int32)))) [(.int (0 : Int32)), (.ref b1), (.int r_5)]) _
      obtain ⟨cl173, Ar173, q173, Sz173, Nn173, Hh173, Gg173⟩ := id f165
      have hin173 : ¬ ((0 : Int32) < 0 ∨ cl173.slots.size ≤ ((0 : Int32)).toNatClampNeg) := inb_of Sz173 ⟨by decide, by decide⟩
      have hat173 : cl173.slots[((0 : Int32)).toNatClampNeg]? = some (.int r_5) := Has.at Hh173 hin173 rfl
      refine own_st (fun t_ k_ => X172.caload hx (j := (0 : Int32)) (v := (.int r_5)) (by rw [eH172]; exact Ar173.1) (State.isArrayOf_alike hZ.alike Ar173.2.1) Ar173.2.2 hin173 hat173 (g := (mkF m 256 (own_A p0 p1 p2 (4 : Int32) dd b1 (.val (.ref x_135)) (.val (.ref y_140)) (.val (.int (1 : Int32))) (.val (.int (1 : Int32)))) [(.int (0 : Int32)), (.ref b1), (.int r_5)])) rfl rfl (hb hby at_256) _ k_) ?_
      refine own_st (fun t_ k_ => XS.icmpNo X172.here hx rfl (hb hby at_257) rfl (teq rfl).2 k_) ?_
      refine own_st (fun t_ k_ => XS.iload X172.here hx rfl (hb hby at_260) rfl k_) ?_
      refine own_st (fun t_ k_ => XS.iconst X172.here hx rfl (hb hby at_262) k_) ?_
      refine own_st (fun t_ k_ => XS.icmpYes X172.here hx rfl (pc0 := 263) (pc' := 279) rfl (hb hby at_263) rfl (by decide) (by decide) (by decide) k_) ?_
      show own_Go p e below T172 (mkF m 279 (own_A p0 p1 p2 (4 : Int32) dd b1 (.val (.ref x_135)) (.val (.ref y_140)) (.val (.int (1 : Int32))) (.val (.int (1 : Int32)))) []) _
      refine own_st (fun t_ k_ => XS.iload X172.here hx rfl (hb hby at_279) rfl k_) ?_
      refine own_st (fun t_ k_ => XS.iconst X172.here hx rfl (hb hby at_281) k_) ?_
      refine own_st (fun t_ k_ => XS.icmpYes X172.here hx rfl (pc0 := 282) (pc' := 298) rfl (hb hby at_282) rfl (by decide) (by decide) (by decide) k_) ?_
      refine own_st (fun t_ k_ => XS.iload X172.here hx rfl (hb hby at_298) rfl k_) ?_
      refine own_st (fun t_ k_ => XS.iconst X172.here hx rfl (hb hby at_300) k_) ?_
      refine own_st (fun t_ k_ => XS.icmpYes X172.here hx rfl (pc0 := 301) (pc' := 317) rfl (hb hby at_301) rfl (by decide) (by decide) (by decide) k_) ?_
      show own_Go p e below T172 (mkF m 317 (own_A p0 p1 p2 (4 : Int32) dd b1 (.val (.ref x_135)) (.val (.ref y_140)) (.val (.int (1 : Int32))) (.val (.int (1 : Int32)))) []) _
      refine own_st (fun t_ k_ => XS.iconst X172.here hx rfl (hb hby at_317) k_) ?_
      refine own_st (fun t_ k_ => XS.goto X172.here hx rfl (pc0 := 318) (pc' := 322) rfl (hb hby at_318) (by decide) (by decide) k_) ?_
      show own_Go p e below T172 (mkF m 322 (own_A p0 p1 p2 (4 : Int32) dd b1 (.val (.ref x_135)) (.val (.ref y_140)) (.val (.int (1 : Int32))) (.val (.int (1 : Int32)))) [(.int (1 : Int32))]) _
      obtain ⟨fs, hr, hrun, hended, hRW⟩ := X172.leaveW hS (by rw [eH172]; exact hK140) (v := some (.int (1 : Int32))) (fun h => by rw [Bd.returns] at h; cases h)
      have hCend : CHr Z own_EL s.vm s.heap T172.vm T172.heap := by
        rw [hh, eH172]
        exact CHr.trans CR142 (CHv.at X172 hZ hEL CH142)
      refine own_fin (retN X172 hx (t := .boolean) Bd.returns (by simp) (hb hby at_322) hr) ⟨hrun, hended, _, _, rfl, ?_, hCend, hRW.1, hRW.2.1, hRW.2.2.1, hRW.2.2.2.mono (by decide) (by decide)⟩
      show Q_rmLaw Z p0 p1 p2 zc fm h0 n0 _ T172.heap _
      rw [eH172]
      exact ⟨rfl, N172, K143⟩
    · skip
      have hpe : ∀ c ∈ ([] : List Int32), ¬ c < 0 ∧ ¬ (255 : Int32) < c := by
        intro c hc
        simp only [List.mem_cons, List.not_mem_nil, or_false] at hc
      obtain ⟨d0, d3, d2, d1⟩ := hj
      refine own_st (fun t_ k_ => XS.astore X140.here hx rfl (hb hby at_116) rfl rfl (l' := (own_A p0 p1 p2 (4 : Int32) dd b1 (.val (.ref x_135)) (.val (.ref y_140)) .unset .unset)) rfl k_) ?_
      refine own_st (fun t_ k_ => XS.iconst X140.here hx rfl (hb hby at_118) k_) ?_
      refine own_st (fun t_ k_ => XS.istore X140.here hx rfl (hb hby at_119) rfl (l' := (own_A p0 p1 p2 (4 : Int32) dd b1 (.val (.ref x_135)) (.val (.ref y_140)) (.val (.int (-1 : Int32))) .unset)) rfl k_) ?_
      refine own_st (fun t_ k_ => XS.iloadN X140.here hx rfl (hb hby at_121) rfl k_) ?_
      refine own_st (fun t_ k_ => XS.iconst X140.here hx rfl (hb hby at_122) k_) ?_
      show own_Go p e below T140 (mkF m 123 (own_A p0 p1 p2 (4 : Int32) dd b1 (.val (.ref x_135)) (.val (.ref y_140)) (.val (.int (-1 : Int32))) .unset) [(.int (4 : Int32)), (.int (4 : Int32))]) _
      refine own_st (fun t_ k_ => XS.icmpYes X140.here hx rfl (pc0 := 123) (pc' := 141) rfl (hb hby at_123) rfl (by decide) (by decide) (by decide) k_) ?_
      refine own_st (fun t_ k_ => XS.iloadN X140.here hx rfl (hb hby at_141) rfl k_) ?_
      refine own_st (fun t_ k_ => XS.iconst X140.here hx rfl (hb hby at_142) k_) ?_
      refine own_st (fun t_ k_ => XS.icmpNo X140.here hx rfl (hb hby at_143) rfl (by decide) k_) ?_
      refine own_st (fun t_ k_ => XS.aload X140.here hx rfl (hb hby at_146) rfl rfl k_) ?_
      refine own_st (fun t_ k_ => XS.iconst X140.here hx rfl (hb hby at_148) k_) ?_
      show own_Go p e below T140 (mkF m 149 (own_A p0 p1 p2 (4 : Int32) dd b1 (.val (.ref x_135)) (.val (.ref y_140)) (.val (.int (-1 : Int32))) .unset) [(.int (3 : Int32)), (.ref b1)]) _
      have f174 := ((V31.keep Kq135 nin0).keep Kq140 nin0)
      obtain ⟨cl175, Ar175, q175, Sz175, Nn175, Hh175, Gg175⟩ := id f174
      have hin175 : ¬ ((3 : Int32) < 0 ∨ cl175.slots.size ≤ ((3 : Int32)).toNatClampNeg) := inb_of Sz175 ⟨by decide, by decide⟩
      have hat175 : cl175.slots[((3 : Int32)).toNatClampNeg]? = some (.int r_23) := Has.at Hh175 hin175 rfl
      refine own_st (fun t_ k_ => X140.caload hx (j := (3 : Int32)) (v := (.int r_23)) (by exact Ar175.1) (State.isArrayOf_alike hZ.alike Ar175.2.1) Ar175.2.2 hin175 hat175 (g := (mkF m 149 (own_A p0 p1 p2 (4 : Int32) dd b1 (.val (.ref x_135)) (.val (.ref y_140)) (.val (.int (-1 : Int32))) .unset) [(.int (3 : Int32)), (.ref b1)])) rfl rfl (hb hby at_149) _ k_) ?_
      refine own_st (fun t_ k_ => XS.bipush X140.here hx rfl (hb hby at_150) k_) ?_
      refine own_st (fun t_ k_ => XS.icmpYes X140.here hx rfl (pc0 := 152) (pc' := 161) rfl (hb hby at_152) rfl (feq d3).2 (by decide) (by decide) k_) ?_
      refine own_st (fun t_ k_ => XS.iloadN X140.here hx rfl (hb hby at_161) rfl k_) ?_
      refine own_st (fun t_ k_ => XS.iconst X140.here hx rfl (hb hby at_162) k_) ?_
      show own_Go p e below T140 (mkF m 163 (own_A p0 p1 p2 (4 : Int32) dd b1 (.val (.ref x_135)) (.val (.ref y_140)) (.val (.int (-1 : Int32))) .unset) [(.int (2 : Int32)), (.int (4 : Int32))]) _
      refine own_st (fun t_ k_ => XS.icmpNo X140.here hx rfl (hb hby at_163) rfl (by decide) k_) ?_
      refine own_st (fun t_ k_ => XS.aload X140.here hx rfl (hb hby at_166) rfl rfl k_) ?_
      refine own_st (fun t_ k_ => XS.iconst X140.here hx rfl (hb hby at_168) k_) ?_
      show own_Go p e below T140 (mkF m 169 (own_A p0 p1 p2 (4 : Int32) dd b1 (.val (.ref x_135)) (.val (.ref y_140)) (.val (.int (-1 : Int32))) .unset) [(.int (2 : Int32)), (.ref b1)]) _
      obtain ⟨cl176, Ar176, q176, Sz176, Nn176, Hh176, Gg176⟩ := id f174
      have hin176 : ¬ ((2 : Int32) < 0 ∨ cl176.slots.size ≤ ((2 : Int32)).toNatClampNeg) := inb_of Sz176 ⟨by decide, by decide⟩
      have hat176 : cl176.slots[((2 : Int32)).toNatClampNeg]? = some (.int r_17) := Has.at Hh176 hin176 rfl
      refine own_st (fun t_ k_ => X140.caload hx (j := (2 : Int32)) (v := (.int r_17)) (by exact Ar176.1) (State.isArrayOf_alike hZ.alike Ar176.2.1) Ar176.2.2 hin176 hat176 (g := (mkF m 169 (own_A p0 p1 p2 (4 : Int32) dd b1 (.val (.ref x_135)) (.val (.ref y_140)) (.val (.int (-1 : Int32))) .unset) [(.int (2 : Int32)), (.ref b1)])) rfl rfl (hb hby at_169) _ k_) ?_
      refine own_st (fun t_ k_ => XS.bipush X140.here hx rfl (hb hby at_170) k_) ?_
      refine own_st (fun t_ k_ => XS.icmpYes X140.here hx rfl (pc0 := 172) (pc' := 181) rfl (hb hby at_172) rfl (feq d2).2 (by decide) (by decide) k_) ?_
      refine own_st (fun t_ k_ => XS.iloadN X140.here hx rfl (hb hby at_181) rfl k_) ?_
      refine own_st (fun t_ k_ => XS.iconst X140.here hx rfl (hb hby at_182) k_) ?_
      show own_Go p e below T140 (mkF m 183 (own_A p0 p1 p2 (4 : Int32) dd b1 (.val (.ref x_135)) (.val (.ref y_140)) (.val (.int (-1 : Int32))) .unset) [(.int (1 : Int32)), (.int (4 : Int32))]) _
      refine own_st (fun t_ k_ => XS.icmpNo X140.here hx rfl (hb hby at_183) rfl (by decide) k_) ?_
      refine own_st (fun t_ k_ => XS.aload X140.here hx rfl (hb hby at_186) rfl rfl k_) ?_
      refine own_st (fun t_ k_ => XS.iconst X140.here hx rfl (hb hby at_188) k_) ?_
      show own_Go p e below T140 (mkF m 189 (own_A p0 p1 p2 (4 : Int32) dd b1 (.val (.ref x_135)) (.val (.ref y_140)) (.val (.int (-1 : Int32))) .unset) [(.int (1 : Int32)), (.ref b1)]) _
      obtain ⟨cl177, Ar177, q177, Sz177, Nn177, Hh177, Gg177⟩ := id f174
      have hin177 : ¬ ((1 : Int32) < 0 ∨ cl177.slots.size ≤ ((1 : Int32)).toNatClampNeg) := inb_of Sz177 ⟨by decide, by decide⟩
      have hat177 : cl177.slots[((1 : Int32)).toNatClampNeg]? = some (.int r_11) := Has.at Hh177 hin177 rfl
      refine own_st (fun t_ k_ => X140.caload hx (j := (1 : Int32)) (v := (.int r_11)) (by exact Ar177.1) (State.isArrayOf_alike hZ.alike Ar177.2.1) Ar177.2.2 hin177 hat177 (g := (mkF m 189 (own_A p0 p1 p2 (4 : Int32) dd b1 (.val (.ref x_135)) (.val (.ref y_140)) (.val (.int (-1 : Int32))) .unset) [(.int (1 : Int32)), (.ref b1)])) rfl rfl (hb hby at_189) _ k_) ?_
      refine own_st (fun t_ k_ => XS.bipush X140.here hx rfl (hb hby at_190) k_) ?_
      refine own_st (fun t_ k_ => XS.icmpYes X140.here hx rfl (pc0 := 192) (pc' := 201) rfl (hb hby at_192) rfl (feq d1).2 (by decide) (by decide) k_) ?_
      refine own_st (fun t_ k_ => XS.aload X140.here hx rfl (hb hby at_201) rfl rfl k_) ?_
      refine own_st (fun t_ k_ => XS.iconst X140.here hx rfl (hb hby at_203) k_) ?_
      show own_Go p e below T140 (mkF m 204 (own_A p0 p1 p2 (4 : Int32) dd b1 (.val (.ref x_135)) (.val (.ref y_140)) (.val (.int (-1 : Int32))) .unset) [(.int (0 : Int32)), (.ref b1)]) _
      obtain ⟨cl178, Ar178, q178, Sz178, Nn178, Hh178, Gg178⟩ := id f174
      have hin178 : ¬ ((0 : Int32) < 0 ∨ cl178.slots.size ≤ ((0 : Int32)).toNatClampNeg) := inb_of Sz178 ⟨by decide, by decide⟩
      have hat178 : cl178.slots[((0 : Int32)).toNatClampNeg]? = some (.int r_5) := Has.at Hh178 hin178 rfl
      refine own_st (fun t_ k_ => X140.caload hx (j := (0 : Int32)) (v := (.int r_5)) (by exact Ar178.1) (State.isArrayOf_alike hZ.alike Ar178.2.1) Ar178.2.2 hin178 hat178 (g := (mkF m 204 (own_A p0 p1 p2 (4 : Int32) dd b1 (.val (.ref x_135)) (.val (.ref y_140)) (.val (.int (-1 : Int32))) .unset) [(.int (0 : Int32)), (.ref b1)])) rfl rfl (hb hby at_204) _ k_) ?_
      refine own_st (fun t_ k_ => XS.bipush X140.here hx rfl (hb hby at_205) k_) ?_
      refine own_st (fun t_ k_ => XS.icmpNo X140.here hx rfl (hb hby at_207) rfl (teq d0).2 k_) ?_
      refine own_st (fun t_ k_ => XS.iconst X140.here hx rfl (hb hby at_210) k_) ?_
      refine own_st (fun t_ k_ => XS.istore X140.here hx rfl (hb hby at_211) rfl (l' := (own_A p0 p1 p2 (4 : Int32) dd b1 (.val (.ref x_135)) (.val (.ref y_140)) (.val (.int (0 : Int32))) .unset)) rfl k_) ?_
      show own_Go p e below T140 (mkF m 213 (own_A p0 p1 p2 (4 : Int32) dd b1 (.val (.ref x_135)) (.val (.ref y_140)) (.val (.int (0 : Int32))) .unset) []) _
      refine own_st (fun t_ k_ => XS.iload X140.here hx rfl (hb hby at_213) rfl k_) ?_
      refine own_st (fun t_ k_ => XS.ifYes X140.here hx rfl (pc0 := 215) (pc' := 222) rfl (hb hby at_215) rfl (by decide) (by decide) (by decide) k_) ?_
      refine own_st (fun t_ k_ => XS.iload X140.here hx rfl (hb hby at_222) rfl k_) ?_
      refine own_st (fun t_ k_ => XS.istore X140.here hx rfl (hb hby at_224) rfl (l' := (own_A p0 p1 p2 (4 : Int32) dd b1 (.val (.ref x_135)) (.val (.ref y_140)) (.val (.int (0 : Int32))) (.val (.int (0 : Int32))))) rfl k_) ?_
      refine own_st (fun t_ k_ => XS.aload X140.here hx rfl (hb hby at_226) rfl rfl k_) ?_
      refine own_st (fun t_ k_ => XS.ifnullNo X140.here hx rfl (hb hby at_228) rfl k_) ?_
      show own_Go p e below T140 (mkF m 231 (own_A p0 p1 p2 (4 : Int32) dd b1 (.val (.ref x_135)) (.val (.ref y_140)) (.val (.int (0 : Int32))) (.val (.int (0 : Int32)))) []) _
      refine own_st (fun t_ k_ => XS.aload X140.here hx rfl (hb hby at_231) rfl rfl k_) ?_
      show own_Go p e below T140 (mkF m 233 (own_A p0 p1 p2 (4 : Int32) dd b1 (.val (.ref x_135)) (.val (.ref y_140)) (.val (.int (0 : Int32))) (.val (.int (0 : Int32)))) [(.ref y_140)]) _
      have hcd179 : StrChars.Road.CodA ([] : List Int32) 0 (0 : Int32) ((([] : List Int32).map (fun c : Int32 => c.toInt8.toInt32)).map Value.int) := StrChars.Road.codOf rfl (fun x hx => (hpe x hx).2)
      have hbd179 : ∀ x ∈ ([] : List Int32), ¬ x < 0 ∧ ¬ (65535 : Int32) < x := own_up _ hpe
      have f180 := (f139.keep Kq140 all0)
      obtain ⟨cq181, kq181, qa181, qb181, qc181⟩ := isOf hZ rfl q140_0
      obtain ⟨_, _, ⟨T181, L181, k181, n181⟩, -, X181, ⟨Lc181, hQ181, l181, y181, z181⟩, st181⟩ := X140.virtualBack hx (y := (⟨"java/lang/String", "length", "()I"⟩ : MethodName)) (z := (⟨"java/lang/String", "length", "()I"⟩ : MethodName)) hown (mvT hZ (hw _ (List.mem_of_getElem? (i := 112) rfl))) (mvT hZ (hw _ (List.mem_of_getElem? (i := 47) rfl))) (notFace_of_selects (args := #[]) (mvT hZ (hw _ (List.mem_of_getElem? (i := 49) rfl)))) (mvT hZ (hw _ (List.mem_of_getElem? (i := 49) rfl))) (mvT hZ (hw _ (List.mem_of_getElem? (i := 48) rfl))) (by decide) (StrChars.Road.lenW (W := 0) hZ hln (kI := 4) (hw _ (List.mem_of_getElem? (i := 9) rfl)) q140_0 q140_1 q140_2 q140_3 hcd179 hbd179 (pS_COMPACT_STRINGS.ext f180.2) pP5 (Nat.le_of_ble_eq_true rfl) (by decide) (by decide)) qa181 qc181 (g := (mkF m 233 (own_A p0 p1 p2 (4 : Int32) dd b1 (.val (.ref x_135)) (.val (.ref y_140)) (.val (.int (0 : Int32))) (.val (.int (0 : Int32)))) [(.ref y_140)])) rfl (by rw [hml]; rfl) (Steps.refl _) (argsL := []) (rest := []) (lenOf pd___I rfl) rfl (by show 2 * 0 + _ ≤ _; exact Nat.le_of_eq rfl) (hb hby at_233) (fun _ _ => ⟨rfl, rfl, (by decide : 6 + 0 ≤ _), (by decide : 25 + 0 ≤ _)⟩)
      dsimp only [Pt.U, Pt.locs, Pt.cells, Pt.slots] at X181 l181 y181 z181 st181 hQ181
      try dsimp only [Nat.reduceAdd] at y181 z181
      rw [l181, y181, z181] at X181
      obtain ⟨rfl, rfl, eH181⟩ := hQ181
      have N181 := Fr.app N140 (Fr.nil n0)
      refine own_tr st181 ?_
      show own_Go p e below T181 (mkF m 236 (own_A p0 p1 p2 (4 : Int32) dd b1 (.val (.ref x_135)) (.val (.ref y_140)) (.val (.int (0 : Int32))) (.val (.int (0 : Int32)))) [(.int (0 : Int32))]) _
      refine own_st (fun t_ k_ => XS.iload X181.here hx rfl (hb hby at_236) rfl k_) ?_
      refine own_st (fun t_ k_ => XS.icmpNo X181.here hx rfl (hb hby at_238) rfl (by decide) k_) ?_
      refine own_st (fun t_ k_ => XS.iload X181.here hx rfl (hb hby at_241) rfl k_) ?_
      refine own_st (fun t_ k_ => XS.iconst X181.here hx rfl (hb hby at_243) k_) ?_
      refine own_st (fun t_ k_ => XS.icmpYes X181.here hx rfl (pc0 := 244) (pc' := 260) rfl (hb hby at_244) rfl (by decide) (by decide) (by decide) k_) ?_
      show own_Go p e below T181 (mkF m 260 (own_A p0 p1 p2 (4 : Int32) dd b1 (.val (.ref x_135)) (.val (.ref y_140)) (.val (.int (0 : Int32))) (.val (.int (0 : Int32)))) []) _
      refine own_st (fun t_ k_ => XS.iload X181.here hx rfl (hb hby at_260) rfl k_) ?_
      refine own_st (fun t_ k_ => XS.iconst X181.here hx rfl (hb hby at_262) k_) ?_
      refine own_st (fun t_ k_ => XS.icmpYes X181.here hx rfl (pc0 := 263) (pc' := 279) rfl (hb hby at_263) rfl (by decide) (by decide) (by decide) k_) ?_
      refine own_st (fun t_ k_ => XS.iload X181.here hx rfl (hb hby at_279) rfl k_) ?_
      refine own_st (fun t_ k_ => XS.iconst X181.here hx rfl (hb hby at_281) k_) ?_
      refine own_st (fun t_ k_ => XS.icmpYes X181.here hx rfl (pc0 := 282) (pc' := 298) rfl (hb hby at_282) rfl (by decide) (by decide) (by decide) k_) ?_
      show own_Go p e below T181 (mkF m 298 (own_A p0 p1 p2 (4 : Int32) dd b1 (.val (.ref x_135)) (.val (.ref y_140)) (.val (.int (0 : Int32))) (.val (.int (0 : Int32)))) []) _
      refine own_st (fun t_ k_ => XS.iload X181.here hx rfl (hb hby at_298) rfl k_) ?_
      refine own_st (fun t_ k_ => XS.iconst X181.here hx rfl (hb hby at_300) k_) ?_
      refine own_st (fun t_ k_ => XS.icmpYes X181.here hx rfl (pc0 := 301) (pc' := 317) rfl (hb hby at_301) rfl (by decide) (by decide) (by decide) k_) ?_
      refine own_st (fun t_ k_ => XS.iconst X181.here hx rfl (hb hby at_317) k_) ?_
      refine own_st (fun t_ k_ => XS.goto X181.here hx rfl (pc0 := 318) (pc' := 322) rfl (hb hby at_318) (by decide) (by decide) k_) ?_
      show own_Go p e below T181 (mkF m 322 (own_A p0 p1 p2 (4 : Int32) dd b1 (.val (.ref x_135)) (.val (.ref y_140)) (.val (.int (0 : Int32))) (.val (.int (0 : Int32)))) [(.int (1 : Int32))]) _
      obtain ⟨fs, hr, hrun, hended, hRW⟩ := X181.leaveW hS (by rw [eH181]; exact hK140) (v := some (.int (1 : Int32))) (fun h => by rw [Bd.returns] at h; cases h)
      have hCend : CHr Z own_EL s.vm s.heap T181.vm T181.heap := by
        rw [hh, eH181]
        exact CHr.trans CR142 (CHv.at X181 hZ hEL CH142)
      refine own_fin (retN X181 hx (t := .boolean) Bd.returns (by simp) (hb hby at_322) hr) ⟨hrun, hended, _, _, rfl, ?_, hCend, hRW.1, hRW.2.1, hRW.2.2.1, hRW.2.2.2.mono (by decide) (by decide)⟩
      show Q_rmLaw Z p0 p1 p2 zc fm h0 n0 _ T181.heap _
      rw [eH181]
      exact ⟨rfl, N181, K143⟩
    · skip
      have hpe : ∀ c ∈ ([r_5] : List Int32), ¬ c < 0 ∧ ¬ (255 : Int32) < c := by
        intro c hc
        simp only [List.mem_cons, List.not_mem_nil, or_false] at hc
        subst hc
        exact own_ch255 q5_0
      obtain ⟨d3, d2, d1, d0⟩ := hj
      refine own_st (fun t_ k_ => XS.astore X140.here hx rfl (hb hby at_116) rfl rfl (l' := (own_A p0 p1 p2 (4 : Int32) dd b1 (.val (.ref x_135)) (.val (.ref y_140)) .unset .unset)) rfl k_) ?_
      refine own_st (fun t_ k_ => XS.iconst X140.here hx rfl (hb hby at_118) k_) ?_
      refine own_st (fun t_ k_ => XS.istore X140.here hx rfl (hb hby at_119) rfl (l' := (own_A p0 p1 p2 (4 : Int32) dd b1 (.val (.ref x_135)) (.val (.ref y_140)) (.val (.int (-1 : Int32))) .unset)) rfl k_) ?_
      refine own_st (fun t_ k_ => XS.iloadN X140.here hx rfl (hb hby at_121) rfl k_) ?_
      refine own_st (fun t_ k_ => XS.iconst X140.here hx rfl (hb hby at_122) k_) ?_
      show own_Go p e below T140 (mkF m 123 (own_A p0 p1 p2 (4 : Int32) dd b1 (.val (.ref x_135)) (.val (.ref y_140)) (.val (.int (-1 : Int32))) .unset) [(.int (4 : Int32)), (.int (4 : Int32))]) _
      refine own_st (fun t_ k_ => XS.icmpYes X140.here hx rfl (pc0 := 123) (pc' := 141) rfl (hb hby at_123) rfl (by decide) (by decide) (by decide) k_) ?_
      refine own_st (fun t_ k_ => XS.iloadN X140.here hx rfl (hb hby at_141) rfl k_) ?_
      refine own_st (fun t_ k_ => XS.iconst X140.here hx rfl (hb hby at_142) k_) ?_
      refine own_st (fun t_ k_ => XS.icmpNo X140.here hx rfl (hb hby at_143) rfl (by decide) k_) ?_
      refine own_st (fun t_ k_ => XS.aload X140.here hx rfl (hb hby at_146) rfl rfl k_) ?_
      refine own_st (fun t_ k_ => XS.iconst X140.here hx rfl (hb hby at_148) k_) ?_
      show own_Go p e below T140 (mkF m 149 (own_A p0 p1 p2 (4 : Int32) dd b1 (.val (.ref x_135)) (.val (.ref y_140)) (.val (.int (-1 : Int32))) .unset) [(.int (3 : Int32)), (.ref b1)]) _
      have f182 := ((V31.keep Kq135 nin0).keep Kq140 nin0)
      obtain ⟨cl183, Ar183, q183, Sz183, Nn183, Hh183, Gg183⟩ := id f182
      have hin183 : ¬ ((3 : Int32) < 0 ∨ cl183.slots.size ≤ ((3 : Int32)).toNatClampNeg) := inb_of Sz183 ⟨by decide, by decide⟩
      have hat183 : cl183.slots[((3 : Int32)).toNatClampNeg]? = some (.int r_23) := Has.at Hh183 hin183 rfl
      refine own_st (fun t_ k_ => X140.caload hx (j := (3 : Int32)) (v := (.int r_23)) (by exact Ar183.1) (State.isArrayOf_alike hZ.alike Ar183.2.1) Ar183.2.2 hin183 hat183 (g := (mkF m 149 (own_A p0 p1 p2 (4 : Int32) dd b1 (.val (.ref x_135)) (.val (.ref y_140)) (.val (.int (-1 : Int32))) .unset) [(.int (3 : Int32)), (.ref b1)])) rfl rfl (hb hby at_149) _ k_) ?_
      refine own_st (fun t_ k_ => XS.bipush X140.here hx rfl (hb hby at_150) k_) ?_
      refine own_st (fun t_ k_ => XS.icmpYes X140.here hx rfl (pc0 := 152) (pc' := 161) rfl (hb hby at_152) rfl (feq d3).2 (by decide) (by decide) k_) ?_
      refine own_st (fun t_ k_ => XS.iloadN X140.here hx rfl (hb hby at_161) rfl k_) ?_
      refine own_st (fun t_ k_ => XS.iconst X140.here hx rfl (hb hby at_162) k_) ?_
      show own_Go p e below T140 (mkF m 163 (own_A p0 p1 p2 (4 : Int32) dd b1 (.val (.ref x_135)) (.val (.ref y_140)) (.val (.int (-1 : Int32))) .unset) [(.int (2 : Int32)), (.int (4 : Int32))]) _
      refine own_st (fun t_ k_ => XS.icmpNo X140.here hx rfl (hb hby at_163) rfl (by decide) k_) ?_
      refine own_st (fun t_ k_ => XS.aload X140.here hx rfl (hb hby at_166) rfl rfl k_) ?_
      refine own_st (fun t_ k_ => XS.iconst X140.here hx rfl (hb hby at_168) k_) ?_
      show own_Go p e below T140 (mkF m 169 (own_A p0 p1 p2 (4 : Int32) dd b1 (.val (.ref x_135)) (.val (.ref y_140)) (.val (.int (-1 : Int32))) .unset) [(.int (2 : Int32)), (.ref b1)]) _
      obtain ⟨cl184, Ar184, q184, Sz184, Nn184, Hh184, Gg184⟩ := id f182
      have hin184 : ¬ ((2 : Int32) < 0 ∨ cl184.slots.size ≤ ((2 : Int32)).toNatClampNeg) := inb_of Sz184 ⟨by decide, by decide⟩
      have hat184 : cl184.slots[((2 : Int32)).toNatClampNeg]? = some (.int r_17) := Has.at Hh184 hin184 rfl
      refine own_st (fun t_ k_ => X140.caload hx (j := (2 : Int32)) (v := (.int r_17)) (by exact Ar184.1) (State.isArrayOf_alike hZ.alike Ar184.2.1) Ar184.2.2 hin184 hat184 (g := (mkF m 169 (own_A p0 p1 p2 (4 : Int32) dd b1 (.val (.ref x_135)) (.val (.ref y_140)) (.val (.int (-1 : Int32))) .unset) [(.int (2 : Int32)), (.ref b1)])) rfl rfl (hb hby at_169) _ k_) ?_
      refine own_st (fun t_ k_ => XS.bipush X140.here hx rfl (hb hby at_170) k_) ?_
      refine own_st (fun t_ k_ => XS.icmpYes X140.here hx rfl (pc0 := 172) (pc' := 181) rfl (hb hby at_172) rfl (feq d2).2 (by decide) (by decide) k_) ?_
      refine own_st (fun t_ k_ => XS.iloadN X140.here hx rfl (hb hby at_181) rfl k_) ?_
      refine own_st (fun t_ k_ => XS.iconst X140.here hx rfl (hb hby at_182) k_) ?_
      show own_Go p e below T140 (mkF m 183 (own_A p0 p1 p2 (4 : Int32) dd b1 (.val (.ref x_135)) (.val (.ref y_140)) (.val (.int (-1 : Int32))) .unset) [(.int (1 : Int32)), (.int (4 : Int32))]) _
      refine own_st (fun t_ k_ => XS.icmpNo X140.here hx rfl (hb hby at_183) rfl (by decide) k_) ?_
      refine own_st (fun t_ k_ => XS.aload X140.here hx rfl (hb hby at_186) rfl rfl k_) ?_
      refine own_st (fun t_ k_ => XS.iconst X140.here hx rfl (hb hby at_188) k_) ?_
      show own_Go p e below T140 (mkF m 189 (own_A p0 p1 p2 (4 : Int32) dd b1 (.val (.ref x_135)) (.val (.ref y_140)) (.val (.int (-1 : Int32))) .unset) [(.int (1 : Int32)), (.ref b1)]) _
      obtain ⟨cl185, Ar185, q185, Sz185, Nn185, Hh185, Gg185⟩ := id f182
      have hin185 : ¬ ((1 : Int32) < 0 ∨ cl185.slots.size ≤ ((1 : Int32)).toNatClampNeg) := inb_of Sz185 ⟨by decide, by decide⟩
      have hat185 : cl185.slots[((1 : Int32)).toNatClampNeg]? = some (.int r_11) := Has.at Hh185 hin185 rfl
      refine own_st (fun t_ k_ => X140.caload hx (j := (1 : Int32)) (v := (.int r_11)) (by exact Ar185.1) (State.isArrayOf_alike hZ.alike Ar185.2.1) Ar185.2.2 hin185 hat185 (g := (mkF m 189 (own_A p0 p1 p2 (4 : Int32) dd b1 (.val (.ref x_135)) (.val (.ref y_140)) (.val (.int (-1 : Int32))) .unset) [(.int (1 : Int32)), (.ref b1)])) rfl rfl (hb hby at_189) _ k_) ?_
      refine own_st (fun t_ k_ => XS.bipush X140.here hx rfl (hb hby at_190) k_) ?_
      refine own_st (fun t_ k_ => XS.icmpYes X140.here hx rfl (pc0 := 192) (pc' := 201) rfl (hb hby at_192) rfl (feq d1).2 (by decide) (by decide) k_) ?_
      refine own_st (fun t_ k_ => XS.aload X140.here hx rfl (hb hby at_201) rfl rfl k_) ?_
      refine own_st (fun t_ k_ => XS.iconst X140.here hx rfl (hb hby at_203) k_) ?_
      show own_Go p e below T140 (mkF m 204 (own_A p0 p1 p2 (4 : Int32) dd b1 (.val (.ref x_135)) (.val (.ref y_140)) (.val (.int (-1 : Int32))) .unset) [(.int (0 : Int32)), (.ref b1)]) _
      obtain ⟨cl186, Ar186, q186, Sz186, Nn186, Hh186, Gg186⟩ := id f182
      have hin186 : ¬ ((0 : Int32) < 0 ∨ cl186.slots.size ≤ ((0 : Int32)).toNatClampNeg) := inb_of Sz186 ⟨by decide, by decide⟩
      have hat186 : cl186.slots[((0 : Int32)).toNatClampNeg]? = some (.int r_5) := Has.at Hh186 hin186 rfl
      refine own_st (fun t_ k_ => X140.caload hx (j := (0 : Int32)) (v := (.int r_5)) (by exact Ar186.1) (State.isArrayOf_alike hZ.alike Ar186.2.1) Ar186.2.2 hin186 hat186 (g := (mkF m 204 (own_A p0 p1 p2 (4 : Int32) dd b1 (.val (.ref x_135)) (.val (.ref y_140)) (.val (.int (-1 : Int32))) .unset) [(.int (0 : Int32)), (.ref b1)])) rfl rfl (hb hby at_204) _ k_) ?_
      refine own_st (fun t_ k_ => XS.bipush X140.here hx rfl (hb hby at_205) k_) ?_
      refine own_st (fun t_ k_ => XS.icmpYes X140.here hx rfl (pc0 := 207) (pc' := 213) rfl (hb hby at_207) rfl (feq d0).2 (by decide) (by decide) k_) ?_
      refine own_st (fun t_ k_ => XS.iload X140.here hx rfl (hb hby at_213) rfl k_) ?_
      refine own_st (fun t_ k_ => XS.ifNo X140.here hx rfl (hb hby at_215) rfl (by decide) k_) ?_
      show own_Go p e below T140 (mkF m 218 (own_A p0 p1 p2 (4 : Int32) dd b1 (.val (.ref x_135)) (.val (.ref y_140)) (.val (.int (-1 : Int32))) .unset) []) _
      refine own_st (fun t_ k_ => XS.iconst X140.here hx rfl (hb hby at_218) k_) ?_
      refine own_st (fun t_ k_ => XS.goto X140.here hx rfl (pc0 := 219) (pc' := 224) rfl (hb hby at_219) (by decide) (by decide) k_) ?_
      refine own_st (fun t_ k_ => XS.istore X140.here hx rfl (hb hby at_224) rfl (l' := (own_A p0 p1 p2 (4 : Int32) dd b1 (.val (.ref x_135)) (.val (.ref y_140)) (.val (.int (-1 : Int32))) (.val (.int (1 : Int32))))) rfl k_) ?_
      refine own_st (fun t_ k_ => XS.aload X140.here hx rfl (hb hby at_226) rfl rfl k_) ?_
      refine own_st (fun t_ k_ => XS.ifnullNo X140.here hx rfl (hb hby at_228) rfl k_) ?_
      refine own_st (fun t_ k_ => XS.aload X140.here hx rfl (hb hby at_231) rfl rfl k_) ?_
      show own_Go p e below T140 (mkF m 233 (own_A p0 p1 p2 (4 : Int32) dd b1 (.val (.ref x_135)) (.val (.ref y_140)) (.val (.int (-1 : Int32))) (.val (.int (1 : Int32)))) [(.ref y_140)]) _
      have hcd187 : StrChars.Road.CodA ([r_5] : List Int32) 0 (1 : Int32) ((([r_5] : List Int32).map (fun c : Int32 => c.toInt8.toInt32)).map Value.int) := StrChars.Road.codOf rfl (fun x hx => (hpe x hx).2)
      have hbd187 : ∀ x ∈ ([r_5] : List Int32), ¬ x < 0 ∧ ¬ (65535 : Int32) < x := own_up _ hpe
      have f188 := (f139.keep Kq140 all0)
      obtain ⟨cq189, kq189, qa189, qb189, qc189⟩ := isOf hZ rfl q140_0
      obtain ⟨_, _, ⟨T189, L189, k189, n189⟩, -, X189, ⟨Lc189, hQ189, l189, y189, z189⟩, st189⟩ := X140.virtualBack hx (y := (⟨"java/lang/String", "length", "()I"⟩ : MethodName)) (z := (⟨"java/lang/String", "length", "()I"⟩ : MethodName)) hown (mvT hZ (hw _ (List.mem_of_getElem? (i := 112) rfl))) (mvT hZ (hw _ (List.mem_of_getElem? (i := 47) rfl))) (notFace_of_selects (args := #[]) (mvT hZ (hw _ (List.mem_of_getElem? (i := 49) rfl)))) (mvT hZ (hw _ (List.mem_of_getElem? (i := 49) rfl))) (mvT hZ (hw _ (List.mem_of_getElem? (i := 48) rfl))) (by decide) (StrChars.Road.lenW (W := 0) hZ hln (kI := 4) (hw _ (List.mem_of_getElem? (i := 9) rfl)) q140_0 q140_1 q140_2 q140_3 hcd187 hbd187 (pS_COMPACT_STRINGS.ext f188.2) pP5 (Nat.le_of_ble_eq_true rfl) (by decide) (by decide)) qa189 qc189 (g := (mkF m 233 (own_A p0 p1 p2 (4 : Int32) dd b1 (.val (.ref x_135)) (.val (.ref y_140)) (.val (.int (-1 : Int32))) (.val (.int (1 : Int32)))) [(.ref y_140)])) rfl (by rw [hml]; rfl) (Steps.refl _) (argsL := []) (rest := []) (lenOf pd___I rfl) rfl (by show 2 * 0 + _ ≤ _; exact Nat.le_of_eq rfl) (hb hby at_233) (fun _ _ => ⟨rfl, rfl, (by decide : 6 + 0 ≤ _), (by decide : 25 + 0 ≤ _)⟩)
      dsimp only [Pt.U, Pt.locs, Pt.cells, Pt.slots] at X189 l189 y189 z189 st189 hQ189
      try dsimp only [Nat.reduceAdd] at y189 z189
      rw [l189, y189, z189] at X189
      obtain ⟨rfl, rfl, eH189⟩ := hQ189
      have N189 := Fr.app N140 (Fr.nil n0)
      refine own_tr st189 ?_
      show own_Go p e below T189 (mkF m 236 (own_A p0 p1 p2 (4 : Int32) dd b1 (.val (.ref x_135)) (.val (.ref y_140)) (.val (.int (-1 : Int32))) (.val (.int (1 : Int32)))) [(.int (1 : Int32))]) _
      refine own_st (fun t_ k_ => XS.iload X189.here hx rfl (hb hby at_236) rfl k_) ?_
      refine own_st (fun t_ k_ => XS.icmpNo X189.here hx rfl (hb hby at_238) rfl (by decide) k_) ?_
      refine own_st (fun t_ k_ => XS.iload X189.here hx rfl (hb hby at_241) rfl k_) ?_
      refine own_st (fun t_ k_ => XS.iconst X189.here hx rfl (hb hby at_243) k_) ?_
      refine own_st (fun t_ k_ => XS.icmpNo X189.here hx rfl (hb hby at_244) rfl (by decide) k_) ?_
      show own_Go p e below T189 (mkF m 247 (own_A p0 p1 p2 (4 : Int32) dd b1 (.val (.ref x_135)) (.val (.ref y_140)) (.val (.int (-1 : Int32))) (.val (.int (1 : Int32)))) []) _
      refine own_st (fun t_ k_ => XS.aload X189.here hx rfl (hb hby at_247) rfl rfl k_) ?_
      refine own_st (fun t_ k_ => XS.iconst X189.here hx rfl (hb hby at_249) k_) ?_
      show own_Go p e below T189 (mkF m 250 (own_A p0 p1 p2 (4 : Int32) dd b1 (.val (.ref x_135)) (.val (.ref y_140)) (.val (.int (-1 : Int32))) (.val (.int (1 : Int32)))) [(.int (0 : Int32)), (.ref y_140)]) _
      obtain ⟨cq190, kq190, qa190, qb190, qc190⟩ := isOf hZ eH189 q140_0
      obtain ⟨_, _, ⟨T190, L190, k190, n190⟩, -, X190, ⟨Lc190, hQ190, l190, y190, z190⟩, st190⟩ := X189.virtualBack hx (y := (⟨"java/lang/String", "charAt", "(I)C"⟩ : MethodName)) (z := (⟨"java/lang/String", "charAt", "(I)C"⟩ : MethodName)) hown (mvT hZ (hw _ (List.mem_of_getElem? (i := 113) rfl))) (mvT hZ (hw _ (List.mem_of_getElem? (i := 114) rfl))) (notFace_of_selects (args := #[]) (mvT hZ (hw _ (List.mem_of_getElem? (i := 116) rfl)))) (mvT hZ (hw _ (List.mem_of_getElem? (i := 116) rfl))) (mvT hZ (hw _ (List.mem_of_getElem? (i := 115) rfl))) (by decide) (StrChars.Road.chN (W := 0) hZ hch (kI := 4) (hw _ (List.mem_of_getElem? (i := 9) rfl)) q140_0 q140_1 q140_2 q140_3 hcd187 hbd187 (pS_COMPACT_STRINGS.ext f188.2) pP5 (pS_SIOOBE_FORMATTER.ext f188.2) rfm (Nat.le_of_ble_eq_true rfl) (i := 0) (Nat.le_of_ble_eq_true rfl) (j := (0 : Int32)) rfl (by decide) (by decide)) qa190 qc190 (g := (mkF m 250 (own_A p0 p1 p2 (4 : Int32) dd b1 (.val (.ref x_135)) (.val (.ref y_140)) (.val (.int (-1 : Int32))) (.val (.int (1 : Int32)))) [(.int (0 : Int32)), (.ref y_140)])) rfl (by rw [hml]; rfl) (Steps.refl _) (argsL := [(.int (0 : Int32))]) (rest := []) (lenOf pd__I_C rfl) rfl (by show 2 * 0 + _ ≤ _; exact Nat.le_of_eq rfl) (hb hby at_250) (fun _ _ => ⟨rfl, eH189, (by decide : 6 + 0 ≤ _), (by decide : 25 + 0 ≤ _)⟩)
      dsimp only [Pt.U, Pt.locs, Pt.cells, Pt.slots] at X190 l190 y190 z190 st190 hQ190
      try dsimp only [Nat.reduceAdd] at y190 z190
      rw [l190, y190, z190] at X190
      obtain ⟨rfl, rfl, eH190⟩ := hQ190
      have N190 := Fr.app N189 (Fr.nil n0)
      refine own_tr st190 ?_
      show own_Go p e below T190 (mkF m 253 (own_A p0 p1 p2 (4 : Int32) dd b1 (.val (.ref x_135)) (.val (.ref y_140)) (.val (.int (-1 : Int32))) (.val (.int (1 : Int32)))) [(.int r_5)]) _
      refine own_st (fun t_ k_ => XS.aload X190.here hx rfl (hb hby at_253) rfl rfl k_) ?_
      refine own_st (fun t_ k_ => XS.iconst X190.here hx rfl (hb hby at_255) k_) ?_
      show own_Go p e below T190 (mkF m 256 (own_A p0 p1 p2 (4 : Int32) dd b1 (.val (.ref x_135)) (.val (.ref y_140)) (.val (.int (-1 : Int32))) (.val (.int (1 : Int32)))) [(.int (0 : Int32)), (.ref b1), (.int r_5)]) _
      obtain ⟨cl191, Ar191, q191, Sz191, Nn191, Hh191, Gg191⟩ := id f182
      have hin191 : ¬ ((0 : Int32) < 0 ∨ cl191.slots.size ≤ ((0 : Int32)).toNatClampNeg) := inb_of Sz191 ⟨by decide, by decide⟩
      have hat191 : cl191.slots[((0 : Int32)).toNatClampNeg]? = some (.int r_5) := Has.at Hh191 hin191 rfl
      refine own_st (fun t_ k_ => X190.caload hx (j := (0 : Int32)) (v := (.int r_5)) (by rw [eH190]; exact Ar191.1) (State.isArrayOf_alike hZ.alike Ar191.2.1) Ar191.2.2 hin191 hat191 (g := (mkF m 256 (own_A p0 p1 p2 (4 : Int32) dd b1 (.val (.ref x_135)) (.val (.ref y_140)) (.val (.int (-1 : Int32))) (.val (.int (1 : Int32)))) [(.int (0 : Int32)), (.ref b1), (.int r_5)])) rfl rfl (hb hby at_256) _ k_) ?_
      refine own_st (fun t_ k_ => XS.icmpNo X190.here hx rfl (hb hby at_257) rfl (teq rfl).2 k_) ?_
      refine own_st (fun t_ k_ => XS.iload X190.here hx rfl (hb hby at_260) rfl k_) ?_
      refine own_st (fun t_ k_ => XS.iconst X190.here hx rfl (hb hby at_262) k_) ?_
      refine own_st (fun t_ k_ => XS.icmpYes X190.here hx rfl (pc0 := 263) (pc' := 279) rfl (hb hby at_263) rfl (by decide) (by decide) (by decide) k_) ?_
      show own_Go p e below T190 (mkF m 279 (own_A p0 p1 p2 (4 : Int32) dd b1 (.val (.ref x_135)) (.val (.ref y_140)) (.val (.int (-1 : Int32))) (.val (.int (1 : Int32)))) []) _
      refine own_st (fun t_ k_ => XS.iload X190.here hx rfl (hb hby at_279) rfl k_) ?_
      refine own_st (fun t_ k_ => XS.iconst X190.here hx rfl (hb hby at_281) k_) ?_
      refine own_st (fun t_ k_ => XS.icmpYes X190.here hx rfl (pc0 := 282) (pc' := 298) rfl (hb hby at_282) rfl (by decide) (by decide) (by decide) k_) ?_
      refine own_st (fun t_ k_ => XS.iload X190.here hx rfl (hb hby at_298) rfl k_) ?_
      refine own_st (fun t_ k_ => XS.iconst X190.here hx rfl (hb hby at_300) k_) ?_
      refine own_st (fun t_ k_ => XS.icmpYes X190.here hx rfl (pc0 := 301) (pc' := 317) rfl (hb hby at_301) rfl (by decide) (by decide) (by decide) k_) ?_
      show own_Go p e below T190 (mkF m 317 (own_A p0 p1 p2 (4 : Int32) dd b1 (.val (.ref x_135)) (.val (.ref y_140)) (.val (.int (-1 : Int32))) (.val (.int (1 : Int32)))) []) _
      refine own_st (fun t_ k_ => XS.iconst X190.here hx rfl (hb hby at_317) k_) ?_
      refine own_st (fun t_ k_ => XS.goto X190.here hx rfl (pc0 := 318) (pc' := 322) rfl (hb hby at_318) (by decide) (by decide) k_) ?_
      show own_Go p e below T190 (mkF m 322 (own_A p0 p1 p2 (4 : Int32) dd b1 (.val (.ref x_135)) (.val (.ref y_140)) (.val (.int (-1 : Int32))) (.val (.int (1 : Int32)))) [(.int (1 : Int32))]) _
      obtain ⟨fs, hr, hrun, hended, hRW⟩ := X190.leaveW hS (by rw [eH190]; exact hK140) (v := some (.int (1 : Int32))) (fun h => by rw [Bd.returns] at h; cases h)
      have hCend : CHr Z own_EL s.vm s.heap T190.vm T190.heap := by
        rw [hh, eH190]
        exact CHr.trans CR142 (CHv.at X190 hZ hEL CH142)
      refine own_fin (retN X190 hx (t := .boolean) Bd.returns (by simp) (hb hby at_322) hr) ⟨hrun, hended, _, _, rfl, ?_, hCend, hRW.1, hRW.2.1, hRW.2.2.1, hRW.2.2.2.mono (by decide) (by decide)⟩
      show Q_rmLaw Z p0 p1 p2 zc fm h0 n0 _ T190.heap _
      rw [eH190]
      exact ⟨rfl, N190, K143⟩
  · skip
    show own_Go p e below T31 (mkF m 106 (own_A p0 p1 p2 (5 : Int32) dd b1 .unset .unset .unset .unset) [(.ref b1), (.int (5 : Int32))]) _
    have f192 := (Nat.le_trans f28 (Keep.of_wr W31).1)
    have f193 := ((((((pO.ext E1).wr W7 G1).wr W13 G1).wr W19 G1).wr W25 G1).wr W31 G1)
    obtain ⟨_, _, ⟨T194, L194, k194, n194⟩, -, X194, ⟨Lc194, hQ194, l194, y194, z194⟩, st194⟩ := Jvm.LawKit.callS X31 hx (y := (⟨"com/example/descriptor/descriptor/vocabulary/HierarchyParentPinLaw", "make", "(I[C)Ljava/lang/String;"⟩ : MethodName)) hown (mvT hZ (hw _ (List.mem_of_getElem? (i := 5) rfl))) (mvT hZ (hw _ (List.mem_of_getElem? (i := 6) rfl))) (mvT hZ (hw _ (List.mem_of_getElem? (i := 3) rfl))) (mvT hZ (hw _ (List.mem_of_getElem? (i := 7) rfl))) (by decide) (backOf (W := 0) (rmMk5 l Z a0 hw [] b1 k1 r_5 r_11 r_17 r_23 r_29 zc h31 n0 f192 V31 q5_0 q11_0 q17_0 q23_0 q29_0 pS_COMPACT_STRINGS pP5 f193) hZ (hw _ (List.mem_of_getElem? (i := 7) rfl)) (hw _ (List.mem_of_getElem? (i := 3) rfl)) (by decide) (by decide)) (g := (mkF m 106 (own_A p0 p1 p2 (5 : Int32) dd b1 .unset .unset .unset .unset) [(.ref b1), (.int (5 : Int32))])) rfl (by rw [hml]; rfl) (argsL := [(.int (5 : Int32)), (.ref b1)]) (rest := []) (lenOf pd__I_C_Ljava_lang_String_ rfl) rfl (by show 2 * 0 + _ ≤ _; exact Nat.le_of_eq rfl) (hb hby at_106) (fun _ _ => ⟨rfl, e31, (by decide : 1 + 3 ≤ _), (by decide : 5 + 14 ≤ _)⟩)
    dsimp only [Pt.U, Pt.locs, Pt.cells, Pt.slots] at X194 l194 y194 z194 st194 hQ194
    try dsimp only [Nat.reduceAdd] at y194 z194
    rw [l194, y194, z194] at X194
    obtain ⟨x_194, t_194, kb_194, rfl, Nq194, Kq194, q194_0, q194_1, q194_2, q194_3⟩ := hQ194
    have N194 := Fr.app N31 Nq194
    have CH195 := CH32.keep Kq194 sf0
    have CR195 := CHr.trans CR32 (CHr.keep Kq194 sf0 CH32)
    have K196 : Keep h0 T194.heap [] := K33.trans Kq194 all0
    refine own_st st194 ?_
    show own_Go p e below T194 (mkF m 109 (own_A p0 p1 p2 (5 : Int32) dd b1 .unset .unset .unset .unset) [(.ref x_194)]) _
    refine own_st (fun t_ k_ => XS.astore X194.here hx rfl (hb hby at_109) rfl rfl (l' := (own_A p0 p1 p2 (5 : Int32) dd b1 (.val (.ref x_194)) .unset .unset .unset)) rfl k_) ?_
    refine own_st (fun t_ k_ => XS.aload X194.here hx rfl (hb hby at_111) rfl rfl k_) ?_
    show own_Go p e below T194 (mkF m 113 (own_A p0 p1 p2 (5 : Int32) dd b1 (.val (.ref x_194)) .unset .unset .unset) [(.ref x_194)]) _
    have hch5 : ∀ c ∈ ([r_5, r_11, r_17, r_23, r_29] : List Int32), own_ch c := by
      intro c hc
      simp only [List.mem_cons, List.not_mem_nil, or_false] at hc
      rcases hc with rfl | rfl | rfl | rfl | rfl
      · exact q5_0
      · exact q11_0
      · exact q17_0
      · exact q23_0
      · exact q29_0
    have f197 := (Nat.le_trans f192 Kq194.1)
    have f198 := (f193.keep Kq194 all0)
    have f200 := (Nat.le_trans (Nat.le_trans (Nat.le_trans (Nat.le_trans (Nat.le_trans (Nat.le_trans (Nat.le_trans hK0 E1.1) (Keep.of_wr W7).1) (Keep.of_wr W13).1) (Keep.of_wr W19).1) (Keep.of_wr W25).1) (Keep.of_wr W31).1) Kq194.1)
    obtain ⟨_, _, ⟨T199, L199, k199, n199⟩, -, Xa199, hSa199, hGa199, ⟨Lc199, hQ199, l199, y199, z199, A199⟩, st199⟩ := Jvm.RoadKit.callSS X194 hx (y := (⟨"com/example/descriptor/descriptor/vocabulary/Hierarchy", "parent", "(Ljava/lang/String;)Ljava/lang/String;"⟩ : MethodName)) hown (mvT hZ (hw _ (List.mem_of_getElem? (i := 37) rfl))) (mvT hZ (hw _ (List.mem_of_getElem? (i := 38) rfl))) (mvT hZ (hw _ (List.mem_of_getElem? (i := 39) rfl))) (mvT hZ (hw _ (List.mem_of_getElem? (i := 40) rfl))) (by decide) (backOfSH (W := 0) (rmPa l Z a0 hw [] x_194 t_194 kb_194 ((5 : Int32)) ([r_5, r_11, r_17, r_23, r_29]) zc fm T194.heap n0 f197 q194_0 q194_1 q194_2 q194_3 rfl (Nat.le_of_ble_eq_true rfl) hch5 (Nat.le_of_ble_eq_true rfl) pS_COMPACT_STRINGS pP5 pS_SIOOBE_FORMATTER rfm f198) hZ (hw _ (List.mem_of_getElem? (i := 40) rfl)) (hw _ (List.mem_of_getElem? (i := 39) rfl)) (by decide) (by decide) hEL CH195) (g := (mkF m 113 (own_A p0 p1 p2 (5 : Int32) dd b1 (.val (.ref x_194)) .unset .unset .unset) [(.ref x_194)])) rfl (by rw [hml]; rfl) (argsL := [(.ref x_194)]) (rest := []) (lenOf pd__Ljava_lang_String__Ljava_lang_String_ rfl) rfl (by show 2 * 0 + _ ≤ _; exact Nat.le_of_eq rfl) (hb hby at_113) (fun _ _ => ⟨rfl, rfl, (by decide : 4 + 2 ≤ _), (by decide : 19 + 8 ≤ _)⟩)
    dsimp only [Pt.U, Pt.locs, Pt.cells, Pt.slots] at Xa199 hSa199 hGa199 l199 y199 z199 A199 st199 hQ199
    try dsimp only [Nat.reduceAdd] at y199 z199
    rw [l199, y199, z199] at Xa199
    obtain ⟨X199, hS, hZ, hown⟩ := rebS hS f200 Xa199 hSa199 hGa199 hZ hown
    obtain ⟨y_199, b_199, kb_199, el_199, us_199, rfl, Nq199, Kq199, q199_0, q199_1, q199_2, q199_3, q199_4⟩ := hQ199
    have N199 := Fr.app N194 Nq199
    have CH201 := A199.1
    have CR201 := CHr.trans CR195 (A199)
    have K202 : Keep h0 T199.heap [] := K196.trans Kq199 all0
    have hK199 : T199.heap.size ≤ T199.heap.size := Nat.le_refl _
    refine own_tr st199 ?_
    show own_Go p e below T199 (mkF m 116 (own_A p0 p1 p2 (5 : Int32) dd b1 (.val (.ref x_194)) .unset .unset .unset) [(.ref y_199)]) _
    rcases own_pa5 q199_4 with ⟨rfl, rfl, hj⟩ | ⟨rfl, rfl, hj⟩ | ⟨rfl, rfl, hj⟩ | ⟨rfl, rfl, hj⟩ | ⟨rfl, rfl, hj⟩ | ⟨rfl, rfl, hj⟩
    · skip
      have hpe : ∀ c ∈ ([r_5, r_11, r_17, r_23] : List Int32), ¬ c < 0 ∧ ¬ (255 : Int32) < c := by
        intro c hc
        simp only [List.mem_cons, List.not_mem_nil, or_false] at hc
        rcases hc with rfl | rfl | rfl | rfl
        · exact own_ch255 q5_0
        · exact own_ch255 q11_0
        · exact own_ch255 q17_0
        · exact own_ch255 q23_0
      have d4 := hj
      refine own_st (fun t_ k_ => XS.astore X199.here hx rfl (hb hby at_116) rfl rfl (l' := (own_A p0 p1 p2 (5 : Int32) dd b1 (.val (.ref x_194)) (.val (.ref y_199)) .unset .unset)) rfl k_) ?_
      refine own_st (fun t_ k_ => XS.iconst X199.here hx rfl (hb hby at_118) k_) ?_
      refine own_st (fun t_ k_ => XS.istore X199.here hx rfl (hb hby at_119) rfl (l' := (own_A p0 p1 p2 (5 : Int32) dd b1 (.val (.ref x_194)) (.val (.ref y_199)) (.val (.int (-1 : Int32))) .unset)) rfl k_) ?_
      refine own_st (fun t_ k_ => XS.iloadN X199.here hx rfl (hb hby at_121) rfl k_) ?_
      refine own_st (fun t_ k_ => XS.iconst X199.here hx rfl (hb hby at_122) k_) ?_
      show own_Go p e below T199 (mkF m 123 (own_A p0 p1 p2 (5 : Int32) dd b1 (.val (.ref x_194)) (.val (.ref y_199)) (.val (.int (-1 : Int32))) .unset) [(.int (4 : Int32)), (.int (5 : Int32))]) _
      refine own_st (fun t_ k_ => XS.icmpNo X199.here hx rfl (hb hby at_123) rfl (by decide) k_) ?_
      refine own_st (fun t_ k_ => XS.aload X199.here hx rfl (hb hby at_126) rfl rfl k_) ?_
      refine own_st (fun t_ k_ => XS.iconst X199.here hx rfl (hb hby at_128) k_) ?_
      show own_Go p e below T199 (mkF m 129 (own_A p0 p1 p2 (5 : Int32) dd b1 (.val (.ref x_194)) (.val (.ref y_199)) (.val (.int (-1 : Int32))) .unset) [(.int (4 : Int32)), (.ref b1)]) _
      have f203 := ((V31.keep Kq194 nin0).keep Kq199 nin0)
      obtain ⟨cl204, Ar204, q204, Sz204, Nn204, Hh204, Gg204⟩ := id f203
      have hin204 : ¬ ((4 : Int32) < 0 ∨ cl204.slots.size ≤ ((4 : Int32)).toNatClampNeg) := inb_of Sz204 ⟨by decide, by decide⟩
      have hat204 : cl204.slots[((4 : Int32)).toNatClampNeg]? = some (.int r_29) := Has.at Hh204 hin204 rfl
      refine own_st (fun t_ k_ => X199.caload hx (j := (4 : Int32)) (v := (.int r_29)) (by exact Ar204.1) (State.isArrayOf_alike hZ.alike Ar204.2.1) Ar204.2.2 hin204 hat204 (g := (mkF m 129 (own_A p0 p1 p2 (5 : Int32) dd b1 (.val (.ref x_194)) (.val (.ref y_199)) (.val (.int (-1 : Int32))) .unset) [(.int (4 : Int32)), (.ref b1)])) rfl rfl (hb hby at_129) _ k_) ?_
      refine own_st (fun t_ k_ => XS.bipush X199.here hx rfl (hb hby at_130) k_) ?_
      refine own_st (fun t_ k_ => XS.icmpNo X199.here hx rfl (hb hby at_132) rfl (teq d4).2 k_) ?_
      refine own_st (fun t_ k_ => XS.iconst X199.here hx rfl (hb hby at_135) k_) ?_
      refine own_st (fun t_ k_ => XS.istore X199.here hx rfl (hb hby at_136) rfl (l' := (own_A p0 p1 p2 (5 : Int32) dd b1 (.val (.ref x_194)) (.val (.ref y_199)) (.val (.int (4 : Int32))) .unset)) rfl k_) ?_
      show own_Go p e below T199 (mkF m 138 (own_A p0 p1 p2 (5 : Int32) dd b1 (.val (.ref x_194)) (.val (.ref y_199)) (.val (.int (4 : Int32))) .unset) []) _
      refine own_st (fun t_ k_ => XS.goto X199.here hx rfl (pc0 := 138) (pc' := 213) rfl (hb hby at_138) (by decide) (by decide) k_) ?_
      refine own_st (fun t_ k_ => XS.iload X199.here hx rfl (hb hby at_213) rfl k_) ?_
      refine own_st (fun t_ k_ => XS.ifYes X199.here hx rfl (pc0 := 215) (pc' := 222) rfl (hb hby at_215) rfl (by decide) (by decide) (by decide) k_) ?_
      refine own_st (fun t_ k_ => XS.iload X199.here hx rfl (hb hby at_222) rfl k_) ?_
      refine own_st (fun t_ k_ => XS.istore X199.here hx rfl (hb hby at_224) rfl (l' := (own_A p0 p1 p2 (5 : Int32) dd b1 (.val (.ref x_194)) (.val (.ref y_199)) (.val (.int (4 : Int32))) (.val (.int (4 : Int32))))) rfl k_) ?_
      refine own_st (fun t_ k_ => XS.aload X199.here hx rfl (hb hby at_226) rfl rfl k_) ?_
      show own_Go p e below T199 (mkF m 228 (own_A p0 p1 p2 (5 : Int32) dd b1 (.val (.ref x_194)) (.val (.ref y_199)) (.val (.int (4 : Int32))) (.val (.int (4 : Int32)))) [(.ref y_199)]) _
      refine own_st (fun t_ k_ => XS.ifnullNo X199.here hx rfl (hb hby at_228) rfl k_) ?_
      refine own_st (fun t_ k_ => XS.aload X199.here hx rfl (hb hby at_231) rfl rfl k_) ?_
      show own_Go p e below T199 (mkF m 233 (own_A p0 p1 p2 (5 : Int32) dd b1 (.val (.ref x_194)) (.val (.ref y_199)) (.val (.int (4 : Int32))) (.val (.int (4 : Int32)))) [(.ref y_199)]) _
      have hcd205 : StrChars.Road.CodA ([r_5, r_11, r_17, r_23] : List Int32) 0 (4 : Int32) ((([r_5, r_11, r_17, r_23] : List Int32).map (fun c : Int32 => c.toInt8.toInt32)).map Value.int) := StrChars.Road.codOf rfl (fun x hx => (hpe x hx).2)
      have hbd205 : ∀ x ∈ ([r_5, r_11, r_17, r_23] : List Int32), ¬ x < 0 ∧ ¬ (65535 : Int32) < x := own_up _ hpe
      have f206 := (f198.keep Kq199 all0)
      obtain ⟨cq207, kq207, qa207, qb207, qc207⟩ := isOf hZ rfl q199_0
      obtain ⟨_, _, ⟨T207, L207, k207, n207⟩, -, X207, ⟨Lc207, hQ207, l207, y207, z207⟩, st207⟩ := X199.virtualBack hx (y := (⟨"java/lang/String", "length", "()I"⟩ : MethodName)) (z := (⟨"java/lang/String", "length", "()I"⟩ : MethodName)) hown (mvT hZ (hw _ (List.mem_of_getElem? (i := 112) rfl))) (mvT hZ (hw _ (List.mem_of_getElem? (i := 47) rfl))) (notFace_of_selects (args := #[]) (mvT hZ (hw _ (List.mem_of_getElem? (i := 49) rfl)))) (mvT hZ (hw _ (List.mem_of_getElem? (i := 49) rfl))) (mvT hZ (hw _ (List.mem_of_getElem? (i := 48) rfl))) (by decide) (StrChars.Road.lenW (W := 0) hZ hln (kI := 4) (hw _ (List.mem_of_getElem? (i := 9) rfl)) q199_0 q199_1 q199_2 q199_3 hcd205 hbd205 (pS_COMPACT_STRINGS.ext f206.2) pP5 (Nat.le_of_ble_eq_true rfl) (by decide) (by decide)) qa207 qc207 (g := (mkF m 233 (own_A p0 p1 p2 (5 : Int32) dd b1 (.val (.ref x_194)) (.val (.ref y_199)) (.val (.int (4 : Int32))) (.val (.int (4 : Int32)))) [(.ref y_199)])) rfl (by rw [hml]; rfl) (Steps.refl _) (argsL := []) (rest := []) (lenOf pd___I rfl) rfl (by show 2 * 0 + _ ≤ _; exact Nat.le_of_eq rfl) (hb hby at_233) (fun _ _ => ⟨rfl, rfl, (by decide : 6 + 0 ≤ _), (by decide : 27 + 0 ≤ _)⟩)
      dsimp only [Pt.U, Pt.locs, Pt.cells, Pt.slots] at X207 l207 y207 z207 st207 hQ207
      try dsimp only [Nat.reduceAdd] at y207 z207
      rw [l207, y207, z207] at X207
      obtain ⟨rfl, rfl, eH207⟩ := hQ207
      have N207 := Fr.app N199 (Fr.nil n0)
      refine own_tr st207 ?_
      show own_Go p e below T207 (mkF m 236 (own_A p0 p1 p2 (5 : Int32) dd b1 (.val (.ref x_194)) (.val (.ref y_199)) (.val (.int (4 : Int32))) (.val (.int (4 : Int32)))) [(.int (4 : Int32))]) _
      refine own_st (fun t_ k_ => XS.iload X207.here hx rfl (hb hby at_236) rfl k_) ?_
      refine own_st (fun t_ k_ => XS.icmpNo X207.here hx rfl (hb hby at_238) rfl (by decide) k_) ?_
      refine own_st (fun t_ k_ => XS.iload X207.here hx rfl (hb hby at_241) rfl k_) ?_
      refine own_st (fun t_ k_ => XS.iconst X207.here hx rfl (hb hby at_243) k_) ?_
      refine own_st (fun t_ k_ => XS.icmpNo X207.here hx rfl (hb hby at_244) rfl (by decide) k_) ?_
      show own_Go p e below T207 (mkF m 247 (own_A p0 p1 p2 (5 : Int32) dd b1 (.val (.ref x_194)) (.val (.ref y_199)) (.val (.int (4 : Int32))) (.val (.int (4 : Int32)))) []) _
      refine own_st (fun t_ k_ => XS.aload X207.here hx rfl (hb hby at_247) rfl rfl k_) ?_
      refine own_st (fun t_ k_ => XS.iconst X207.here hx rfl (hb hby at_249) k_) ?_
      show own_Go p e below T207 (mkF m 250 (own_A p0 p1 p2 (5 : Int32) dd b1 (.val (.ref x_194)) (.val (.ref y_199)) (.val (.int (4 : Int32))) (.val (.int (4 : Int32)))) [(.int (0 : Int32)), (.ref y_199)]) _
      obtain ⟨cq208, kq208, qa208, qb208, qc208⟩ := isOf hZ eH207 q199_0
      obtain ⟨_, _, ⟨T208, L208, k208, n208⟩, -, X208, ⟨Lc208, hQ208, l208, y208, z208⟩, st208⟩ := X207.virtualBack hx (y := (⟨"java/lang/String", "charAt", "(I)C"⟩ : MethodName)) (z := (⟨"java/lang/String", "charAt", "(I)C"⟩ : MethodName)) hown (mvT hZ (hw _ (List.mem_of_getElem? (i := 113) rfl))) (mvT hZ (hw _ (List.mem_of_getElem? (i := 114) rfl))) (notFace_of_selects (args := #[]) (mvT hZ (hw _ (List.mem_of_getElem? (i := 116) rfl)))) (mvT hZ (hw _ (List.mem_of_getElem? (i := 116) rfl))) (mvT hZ (hw _ (List.mem_of_getElem? (i := 115) rfl))) (by decide) (StrChars.Road.chN (W := 0) hZ hch (kI := 4) (hw _ (List.mem_of_getElem? (i := 9) rfl)) q199_0 q199_1 q199_2 q199_3 hcd205 hbd205 (pS_COMPACT_STRINGS.ext f206.2) pP5 (pS_SIOOBE_FORMATTER.ext f206.2) rfm (Nat.le_of_ble_eq_true rfl) (i := 0) (Nat.le_of_ble_eq_true rfl) (j := (0 : Int32)) rfl (by decide) (by decide)) qa208 qc208 (g := (mkF m 250 (own_A p0 p1 p2 (5 : Int32) dd b1 (.val (.ref x_194)) (.val (.ref y_199)) (.val (.int (4 : Int32))) (.val (.int (4 : Int32)))) [(.int (0 : Int32)), (.ref y_199)])) rfl (by rw [hml]; rfl) (Steps.refl _) (argsL := [(.int (0 : Int32))]) (rest := []) (lenOf pd__I_C rfl) rfl (by show 2 * 0 + _ ≤ _; exact Nat.le_of_eq rfl) (hb hby at_250) (fun _ _ => ⟨rfl, eH207, (by decide : 6 + 0 ≤ _), (by decide : 27 + 0 ≤ _)⟩)
      dsimp only [Pt.U, Pt.locs, Pt.cells, Pt.slots] at X208 l208 y208 z208 st208 hQ208
      try dsimp only [Nat.reduceAdd] at y208 z208
      rw [l208, y208, z208] at X208
      obtain ⟨rfl, rfl, eH208⟩ := hQ208
      have N208 := Fr.app N207 (Fr.nil n0)
      refine own_tr st208 ?_
      show own_Go p e below T208 (mkF m 253 (own_A p0 p1 p2 (5 : Int32) dd b1 (.val (.ref x_194)) (.val (.ref y_199)) (.val (.int (4 : Int32))) (.val (.int (4 : Int32)))) [(.int r_5)]) _
      refine own_st (fun t_ k_ => XS.aload X208.here hx rfl (hb hby at_253) rfl rfl k_) ?_
      refine own_st (fun t_ k_ => XS.iconst X208.here hx rfl (hb hby at_255) k_) ?_
      show own_Go p e below T208 (mkF m 256 (own_A p0 p1 p2 (5 : Int32) dd b1 (.val (.ref x_194)) (.val (.ref y_199)) (.val (.int (4 : Int32))) (.val (.int (4 : Int32)))) [(.int (0 : Int32)), (.ref b1), (.int r_5)]) _
      obtain ⟨cl209, Ar209, q209, Sz209, Nn209, Hh209, Gg209⟩ := id f203
      have hin209 : ¬ ((0 : Int32) < 0 ∨ cl209.slots.size ≤ ((0 : Int32)).toNatClampNeg) := inb_of Sz209 ⟨by decide, by decide⟩
      have hat209 : cl209.slots[((0 : Int32)).toNatClampNeg]? = some (.int r_5) := Has.at Hh209 hin209 rfl
      refine own_st (fun t_ k_ => X208.caload hx (j := (0 : Int32)) (v := (.int r_5)) (by rw [eH208]; exact Ar209.1) (State.isArrayOf_alike hZ.alike Ar209.2.1) Ar209.2.2 hin209 hat209 (g := (mkF m 256 (own_A p0 p1 p2 (5 : Int32) dd b1 (.val (.ref x_194)) (.val (.ref y_199)) (.val (.int (4 : Int32))) (.val (.int (4 : Int32)))) [(.int (0 : Int32)), (.ref b1), (.int r_5)])) rfl rfl (hb hby at_256) _ k_) ?_
      refine own_st (fun t_ k_ => XS.icmpNo X208.here hx rfl (hb hby at_257) rfl (teq rfl).2 k_) ?_
      refine own_st (fun t_ k_ => XS.iload X208.here hx rfl (hb hby at_260) rfl k_) ?_
      refine own_st (fun t_ k_ => XS.iconst X208.here hx rfl (hb hby at_262) k_) ?_
      refine own_st (fun t_ k_ => XS.icmpNo X208.here hx rfl (hb hby at_263) rfl (by decide) k_) ?_
      show own_Go p e below T208 (mkF m 266 (own_A p0 p1 p2 (5 : Int32) dd b1 (.val (.ref x_194)) (.val (.ref y_199)) (.val (.int (4 : Int32))) (.val (.int (4 : Int32)))) []) _
      refine own_st (fun t_ k_ => XS.aload X208.here hx rfl (hb hby at_266) rfl rfl k_) ?_
      refine own_st (fun t_ k_ => XS.iconst X208.here hx rfl (hb hby at_268) k_) ?_
      show own_Go p e below T208 (mkF m 269 (own_A p0 p1 p2 (5 : Int32) dd b1 (.val (.ref x_194)) (.val (.ref y_199)) (.val (.int (4 : Int32))) (.val (.int (4 : Int32)))) [(.int (1 : Int32)), (.ref y_199)]) _
      obtain ⟨cq210, kq210, qa210, qb210, qc210⟩ := isOf hZ eH208 q199_0
      obtain ⟨_, _, ⟨T210, L210, k210, n210⟩, -, X210, ⟨Lc210, hQ210, l210, y210, z210⟩, st210⟩ := X208.virtualBack hx (y := (⟨"java/lang/String", "charAt", "(I)C"⟩ : MethodName)) (z := (⟨"java/lang/String", "charAt", "(I)C"⟩ : MethodName)) hown (mvT hZ (hw _ (List.mem_of_getElem? (i := 113) rfl))) (mvT hZ (hw _ (List.mem_of_getElem? (i := 114) rfl))) (notFace_of_selects (args := #[]) (mvT hZ (hw _ (List.mem_of_getElem? (i := 116) rfl)))) (mvT hZ (hw _ (List.mem_of_getElem? (i := 116) rfl))) (mvT hZ (hw _ (List.mem_of_getElem? (i := 115) rfl))) (by decide) (StrChars.Road.chN (W := 0) hZ hch (kI := 4) (hw _ (List.mem_of_getElem? (i := 9) rfl)) q199_0 q199_1 q199_2 q199_3 hcd205 hbd205 (pS_COMPACT_STRINGS.ext f206.2) pP5 (pS_SIOOBE_FORMATTER.ext f206.2) rfm (Nat.le_of_ble_eq_true rfl) (i := 1) (Nat.le_of_ble_eq_true rfl) (j := (1 : Int32)) rfl (by decide) (by decide)) qa210 qc210 (g := (mkF m 269 (own_A p0 p1 p2 (5 : Int32) dd b1 (.val (.ref x_194)) (.val (.ref y_199)) (.val (.int (4 : Int32))) (.val (.int (4 : Int32)))) [(.int (1 : Int32)), (.ref y_199)])) rfl (by rw [hml]; rfl) (Steps.refl _) (argsL := [(.int (1 : Int32))]) (rest := []) (lenOf pd__I_C rfl) rfl (by show 2 * 0 + _ ≤ _; exact Nat.le_of_eq rfl) (hb hby at_269) (fun _ _ => ⟨rfl, eH208, (by decide : 6 + 0 ≤ _), (by decide : 27 + 0 ≤ _)⟩)
      dsimp only [Pt.U, Pt.locs, Pt.cells, Pt.slots] at X210 l210 y210 z210 st210 hQ210
      try dsimp only [Nat.reduceAdd] at y210 z210
      rw [l210, y210, z210] at X210
      obtain ⟨rfl, rfl, eH210⟩ := hQ210
      have N210 := Fr.app N208 (Fr.nil n0)
      refine own_tr st210 ?_
      show own_Go p e below T210 (mkF m 272 (own_A p0 p1 p2 (5 : Int32) dd b1 (.val (.ref x_194)) (.val (.ref y_199)) (.val (.int (4 : Int32))) (.val (.int (4 : Int32)))) [(.int r_11)]) _
      refine own_st (fun t_ k_ => XS.aload X210.here hx rfl (hb hby at_272) rfl rfl k_) ?_
      refine own_st (fun t_ k_ => XS.iconst X210.here hx rfl (hb hby at_274) k_) ?_
      show own_Go p e below T210 (mkF m 275 (own_A p0 p1 p2 (5 : Int32) dd b1 (.val (.ref x_194)) (.val (.ref y_199)) (.val (.int (4 : Int32))) (.val (.int (4 : Int32)))) [(.int (1 : Int32)), (.ref b1), (.int r_11)]) _
      obtain ⟨cl211, Ar211, q211, Sz211, Nn211, Hh211, Gg211⟩ := id f203
      have hin211 : ¬ ((1 : Int32) < 0 ∨ cl211.slots.size ≤ ((1 : Int32)).toNatClampNeg) := inb_of Sz211 ⟨by decide, by decide⟩
      have hat211 : cl211.slots[((1 : Int32)).toNatClampNeg]? = some (.int r_11) := Has.at Hh211 hin211 rfl
      refine own_st (fun t_ k_ => X210.caload hx (j := (1 : Int32)) (v := (.int r_11)) (by rw [eH210]; exact Ar211.1) (State.isArrayOf_alike hZ.alike Ar211.2.1) Ar211.2.2 hin211 hat211 (g := (mkF m 275 (own_A p0 p1 p2 (5 : Int32) dd b1 (.val (.ref x_194)) (.val (.ref y_199)) (.val (.int (4 : Int32))) (.val (.int (4 : Int32)))) [(.int (1 : Int32)), (.ref b1), (.int r_11)])) rfl rfl (hb hby at_275) _ k_) ?_
      refine own_st (fun t_ k_ => XS.icmpNo X210.here hx rfl (hb hby at_276) rfl (teq rfl).2 k_) ?_
      refine own_st (fun t_ k_ => XS.iload X210.here hx rfl (hb hby at_279) rfl k_) ?_
      refine own_st (fun t_ k_ => XS.iconst X210.here hx rfl (hb hby at_281) k_) ?_
      refine own_st (fun t_ k_ => XS.icmpNo X210.here hx rfl (hb hby at_282) rfl (by decide) k_) ?_
      show own_Go p e below T210 (mkF m 285 (own_A p0 p1 p2 (5 : Int32) dd b1 (.val (.ref x_194)) (.val (.ref y_199)) (.val (.int (4 : Int32))) (.val (.int (4 : Int32)))) []) _
      refine own_st (fun t_ k_ => XS.aload X210.here hx rfl (hb hby at_285) rfl rfl k_) ?_
      refine own_st (fun t_ k_ => XS.iconst X210.here hx rfl (hb hby at_287) k_) ?_
      show own_Go p e below T210 (mkF m 288 (own_A p0 p1 p2 (5 : Int32) dd b1 (.val (.ref x_194)) (.val (.ref y_199)) (.val (.int (4 : Int32))) (.val (.int (4 : Int32)))) [(.int (2 : Int32)), (.ref y_199)]) _
      obtain ⟨cq212, kq212, qa212, qb212, qc212⟩ := isOf hZ eH210 q199_0
      obtain ⟨_, _, ⟨T212, L212, k212, n212⟩, -, X212, ⟨Lc212, hQ212, l212, y212, z212⟩, st212⟩ := X210.virtualBack hx (y := (⟨"java/lang/String", "charAt", "(I)C"⟩ : MethodName)) (z := (⟨"java/lang/String", "charAt", "(I)C"⟩ : MethodName)) hown (mvT hZ (hw _ (List.mem_of_getElem? (i := 113) rfl))) (mvT hZ (hw _ (List.mem_of_getElem? (i := 114) rfl))) (notFace_of_selects (args := #[]) (mvT hZ (hw _ (List.mem_of_getElem? (i := 116) rfl)))) (mvT hZ (hw _ (List.mem_of_getElem? (i := 116) rfl))) (mvT hZ (hw _ (List.mem_of_getElem? (i := 115) rfl))) (by decide) (StrChars.Road.chN (W := 0) hZ hch (kI := 4) (hw _ (List.mem_of_getElem? (i := 9) rfl)) q199_0 q199_1 q199_2 q199_3 hcd205 hbd205 (pS_COMPACT_STRINGS.ext f206.2) pP5 (pS_SIOOBE_FORMATTER.ext f206.2) rfm (Nat.le_of_ble_eq_true rfl) (i := 2) (Nat.le_of_ble_eq_true rfl) (j := (2 : Int32)) rfl (by decide) (by decide)) qa212 qc212 (g := (mkF m 288 (own_A p0 p1 p2 (5 : Int32) dd b1 (.val (.ref x_194)) (.val (.ref y_199)) (.val (.int (4 : Int32))) (.val (.int (4 : Int32)))) [(.int (2 : Int32)), (.ref y_199)])) rfl (by rw [hml]; rfl) (Steps.refl _) (argsL := [(.int (2 : Int32))]) (rest := []) (lenOf pd__I_C rfl) rfl (by show 2 * 0 + _ ≤ _; exact Nat.le_of_eq rfl) (hb hby at_288) (fun _ _ => ⟨rfl, eH210, (by decide : 6 + 0 ≤ _), (by decide : 27 + 0 ≤ _)⟩)
      dsimp only [Pt.U, Pt.locs, Pt.cells, Pt.slots] at X212 l212 y212 z212 st212 hQ212
      try dsimp only [Nat.reduceAdd] at y212 z212
      rw [l212, y212, z212] at X212
      obtain ⟨rfl, rfl, eH212⟩ := hQ212
      have N212 := Fr.app N210 (Fr.nil n0)
      refine own_tr st212 ?_
      show own_Go p e below T212 (mkF m 291 (own_A p0 p1 p2 (5 : Int32) dd b1 (.val (.ref x_194)) (.val (.ref y_199)) (.val (.int (4 : Int32))) (.val (.int (4 : Int32)))) [(.int r_17)]) _
      refine own_st (fun t_ k_ => XS.aload X212.here hx rfl (hb hby at_291) rfl rfl k_) ?_
      refine own_st (fun t_ k_ => XS.iconst X212.here hx rfl (hb hby at_293) k_) ?_
      show own_Go p e below T212 (mkF m 294 (own_A p0 p1 p2 (5 : Int32) dd b1 (.val (.ref x_194)) (.val (.ref y_199)) (.val (.int (4 : Int32))) (.val (.int (4 : Int32)))) [(.int (2 : Int32)), (.ref b1), (.int r_17)]) _
      obtain ⟨cl213, Ar213, q213, Sz213, Nn213, Hh213, Gg213⟩ := id f203
      have hin213 : ¬ ((2 : Int32) < 0 ∨ cl213.slots.size ≤ ((2 : Int32)).toNatClampNeg) := inb_of Sz213 ⟨by decide, by decide⟩
      have hat213 : cl213.slots[((2 : Int32)).toNatClampNeg]? = some (.int r_17) := Has.at Hh213 hin213 rfl
      refine own_st (fun t_ k_ => X212.caload hx (j := (2 : Int32)) (v := (.int r_17)) (by rw [eH212]; exact Ar213.1) (State.isArrayOf_alike hZ.alike Ar213.2.1) Ar213.2.2 hin213 hat213 (g := (mkF m 294 (own_A p0 p1 p2 (5 : Int32) dd b1 (.val (.ref x_194)) (.val (.ref y_199)) (.val (.int (4 : Int32))) (.val (.int (4 : Int32)))) [(.int (2 : Int32)), (.ref b1), (.int r_17)])) rfl rfl (hb hby at_294) _ k_) ?_
      refine own_st (fun t_ k_ => XS.icmpNo X212.here hx rfl (hb hby at_295) rfl (teq rfl).2 k_) ?_
      refine own_st (fun t_ k_ => XS.iload X212.here hx rfl (hb hby at_298) rfl k_) ?_
      refine own_st (fun t_ k_ => XS.iconst X212.here hx rfl (hb hby at_300) k_) ?_
      refine own_st (fun t_ k_ => XS.icmpNo X212.here hx rfl (hb hby at_301) rfl (by decide) k_) ?_
      show own_Go p e below T212 (mkF m 304 (own_A p0 p1 p2 (5 : Int32) dd b1 (.val (.ref x_194)) (.val (.ref y_199)) (.val (.int (4 : Int32))) (.val (.int (4 : Int32)))) []) _
      refine own_st (fun t_ k_ => XS.aload X212.here hx rfl (hb hby at_304) rfl rfl k_) ?_
      refine own_st (fun t_ k_ => XS.iconst X212.here hx rfl (hb hby at_306) k_) ?_
      show own_Go p e below T212 (mkF m 307 (own_A p0 p1 p2 (5 : Int32) dd b1 (.val (.ref x_194)) (.val (.ref y_199)) (.val (.int (4 : Int32))) (.val (.int (4 : Int32)))) [(.int (3 : Int32)), (.ref y_199)]) _
      obtain ⟨cq214, kq214, qa214, qb214, qc214⟩ := isOf hZ eH212 q199_0
      obtain ⟨_, _, ⟨T214, L214, k214, n214⟩, -, X214, ⟨Lc214, hQ214, l214, y214, z214⟩, st214⟩ := X212.virtualBack hx (y := (⟨"java/lang/String", "charAt", "(I)C"⟩ : MethodName)) (z := (⟨"java/lang/String", "charAt", "(I)C"⟩ : MethodName)) hown (mvT hZ (hw _ (List.mem_of_getElem? (i := 113) rfl))) (mvT hZ (hw _ (List.mem_of_getElem? (i := 114) rfl))) (notFace_of_selects (args := #[]) (mvT hZ (hw _ (List.mem_of_getElem? (i := 116) rfl)))) (mvT hZ (hw _ (List.mem_of_getElem? (i := 116) rfl))) (mvT hZ (hw _ (List.mem_of_getElem? (i := 115) rfl))) (by decide) (StrChars.Road.chN (W := 0) hZ hch (kI := 4) (hw _ (List.mem_of_getElem? (i := 9) rfl)) q199_0 q199_1 q199_2 q199_3 hcd205 hbd205 (pS_COMPACT_STRINGS.ext f206.2) pP5 (pS_SIOOBE_FORMATTER.ext f206.2) rfm (Nat.le_of_ble_eq_true rfl) (i := 3) (Nat.le_of_ble_eq_true rfl) (j := (3 : Int32)) rfl (by decide) (by decide)) qa214 qc214 (g := (mkF m 307 (own_A p0 p1 p2 (5 : Int32) dd b1 (.val (.ref x_194)) (.val (.ref y_199)) (.val (.int (4 : Int32))) (.val (.int (4 : Int32)))) [(.int (3 : Int32)), (.ref y_199)])) rfl (by rw [hml]; rfl) (Steps.refl _) (argsL := [(.int (3 : Int32))]) (rest := []) (lenOf pd__I_C rfl) rfl (by show 2 * 0 + _ ≤ _; exact Nat.le_of_eq rfl) (hb hby at_307) (fun _ _ => ⟨rfl, eH212, (by decide : 6 + 0 ≤ _), (by decide : 27 + 0 ≤ _)⟩)
      dsimp only [Pt.U, Pt.locs, Pt.cells, Pt.slots] at X214 l214 y214 z214 st214 hQ214
      try dsimp only [Nat.reduceAdd] at y214 z214
      rw [l214, y214, z214] at X214
      obtain ⟨rfl, rfl, eH214⟩ := hQ214
      have N214 := Fr.app N212 (Fr.nil n0)
      refine own_tr st214 ?_
      show own_Go p e below T214 (mkF m 310 (own_A p0 p1 p2 (5 : Int32) dd b1 (.val (.ref x_194)) (.val (.ref y_199)) (.val (.int (4 : Int32))) (.val (.int (4 : Int32)))) [(.int r_23)]) _
      refine own_st (fun t_ k_ => XS.aload X214.here hx rfl (hb hby at_310) rfl rfl k_) ?_
      refine own_st (fun t_ k_ => XS.iconst X214.here hx rfl (hb hby at_312) k_) ?_
      show own_Go p e below T214 (mkF m 313 (own_A p0 p1 p2 (5 : Int32) dd b1 (.val (.ref x_194)) (.val (.ref y_199)) (.val (.int (4 : Int32))) (.val (.int (4 : Int32)))) [(.int (3 : Int32)), (.ref b1), (.int r_23)]) _
      obtain ⟨cl215, Ar215, q215, Sz215, Nn215, Hh215, Gg215⟩ := id f203
      have hin215 : ¬ ((3 : Int32) < 0 ∨ cl215.slots.size ≤ ((3 : Int32)).toNatClampNeg) := inb_of Sz215 ⟨by decide, by decide⟩
      have hat215 : cl215.slots[((3 : Int32)).toNatClampNeg]? = some (.int r_23) := Has.at Hh215 hin215 rfl
      refine own_st (fun t_ k_ => X214.caload hx (j := (3 : Int32)) (v := (.int r_23)) (by rw [eH214]; exact Ar215.1) (State.isArrayOf_alike hZ.alike Ar215.2.1) Ar215.2.2 hin215 hat215 (g := (mkF m 313 (own_A p0 p1 p2 (5 : Int32) dd b1 (.val (.ref x_194)) (.val (.ref y_199)) (.val (.int (4 : Int32))) (.val (.int (4 : Int32)))) [(.int (3 : Int32)), (.ref b1), (.int r_23)])) rfl rfl (hb hby at_313) _ k_) ?_
      refine own_st (fun t_ k_ => XS.icmpNo X214.here hx rfl (hb hby at_314) rfl (teq rfl).2 k_) ?_
      refine own_st (fun t_ k_ => XS.iconst X214.here hx rfl (hb hby at_317) k_) ?_
      refine own_st (fun t_ k_ => XS.goto X214.here hx rfl (pc0 := 318) (pc' := 322) rfl (hb hby at_318) (by decide) (by decide) k_) ?_
      show own_Go p e below T214 (mkF m 322 (own_A p0 p1 p2 (5 : Int32) dd b1 (.val (.ref x_194)) (.val (.ref y_199)) (.val (.int (4 : Int32))) (.val (.int (4 : Int32)))) [(.int (1 : Int32))]) _
      obtain ⟨fs, hr, hrun, hended, hRW⟩ := X214.leaveW hS (by rw [eH214]; exact hK199) (v := some (.int (1 : Int32))) (fun h => by rw [Bd.returns] at h; cases h)
      have hCend : CHr Z own_EL s.vm s.heap T214.vm T214.heap := by
        rw [hh, eH214]
        exact CHr.trans CR201 (CHv.at X214 hZ hEL CH201)
      refine own_fin (retN X214 hx (t := .boolean) Bd.returns (by simp) (hb hby at_322) hr) ⟨hrun, hended, _, _, rfl, ?_, hCend, hRW.1, hRW.2.1, hRW.2.2.1, hRW.2.2.2.mono (by decide) (by decide)⟩
      show Q_rmLaw Z p0 p1 p2 zc fm h0 n0 _ T214.heap _
      rw [eH214]
      exact ⟨rfl, N214, K202⟩
    · skip
      have hpe : ∀ c ∈ ([r_5, r_11, r_17] : List Int32), ¬ c < 0 ∧ ¬ (255 : Int32) < c := by
        intro c hc
        simp only [List.mem_cons, List.not_mem_nil, or_false] at hc
        rcases hc with rfl | rfl | rfl
        · exact own_ch255 q5_0
        · exact own_ch255 q11_0
        · exact own_ch255 q17_0
      obtain ⟨d3, d4⟩ := hj
      refine own_st (fun t_ k_ => XS.astore X199.here hx rfl (hb hby at_116) rfl rfl (l' := (own_A p0 p1 p2 (5 : Int32) dd b1 (.val (.ref x_194)) (.val (.ref y_199)) .unset .unset)) rfl k_) ?_
      refine own_st (fun t_ k_ => XS.iconst X199.here hx rfl (hb hby at_118) k_) ?_
      refine own_st (fun t_ k_ => XS.istore X199.here hx rfl (hb hby at_119) rfl (l' := (own_A p0 p1 p2 (5 : Int32) dd b1 (.val (.ref x_194)) (.val (.ref y_199)) (.val (.int (-1 : Int32))) .unset)) rfl k_) ?_
      refine own_st (fun t_ k_ => XS.iloadN X199.here hx rfl (hb hby at_121) rfl k_) ?_
      refine own_st (fun t_ k_ => XS.iconst X199.here hx rfl (hb hby at_122) k_) ?_
      show own_Go p e below T199 (mkF m 123 (own_A p0 p1 p2 (5 : Int32) dd b1 (.val (.ref x_194)) (.val (.ref y_199)) (.val (.int (-1 : Int32))) .unset) [(.int (4 : Int32)), (.int (5 : Int32))]) _
      refine own_st (fun t_ k_ => XS.icmpNo X199.here hx rfl (hb hby at_123) rfl (by decide) k_) ?_
      refine own_st (fun t_ k_ => XS.aload X199.here hx rfl (hb hby at_126) rfl rfl k_) ?_
      refine own_st (fun t_ k_ => XS.iconst X199.here hx rfl (hb hby at_128) k_) ?_
      show own_Go p e below T199 (mkF m 129 (own_A p0 p1 p2 (5 : Int32) dd b1 (.val (.ref x_194)) (.val (.ref y_199)) (.val (.int (-1 : Int32))) .unset) [(.int (4 : Int32)), (.ref b1)]) _
      have f216 := ((V31.keep Kq194 nin0).keep Kq199 nin0)
      obtain ⟨cl217, Ar217, q217, Sz217, Nn217, Hh217, Gg217⟩ := id f216
      have hin217 : ¬ ((4 : Int32) < 0 ∨ cl217.slots.size ≤ ((4 : Int32)).toNatClampNeg) := inb_of Sz217 ⟨by decide, by decide⟩
      have hat217 : cl217.slots[((4 : Int32)).toNatClampNeg]? = some (.int r_29) := Has.at Hh217 hin217 rfl
      refine own_st (fun t_ k_ => X199.caload hx (j := (4 : Int32)) (v := (.int r_29)) (by exact Ar217.1) (State.isArrayOf_alike hZ.alike Ar217.2.1) Ar217.2.2 hin217 hat217 (g := (mkF m 129 (own_A p0 p1 p2 (5 : Int32) dd b1 (.val (.ref x_194)) (.val (.ref y_199)) (.val (.int (-1 : Int32))) .unset) [(.int (4 : Int32)), (.ref b1)])) rfl rfl (hb hby at_129) _ k_) ?_
      refine own_st (fun t_ k_ => XS.bipush X199.here hx rfl (hb hby at_130) k_) ?_
      refine own_st (fun t_ k_ => XS.icmpYes X199.here hx rfl (pc0 := 132) (pc' := 141) rfl (hb hby at_132) rfl (feq d4).2 (by decide) (by decide) k_) ?_
      refine own_st (fun t_ k_ => XS.iloadN X199.here hx rfl (hb hby at_141) rfl k_) ?_
      refine own_st (fun t_ k_ => XS.iconst X199.here hx rfl (hb hby at_142) k_) ?_
      show own_Go p e below T199 (mkF m 143 (own_A p0 p1 p2 (5 : Int32) dd b1 (.val (.ref x_194)) (.val (.ref y_199)) (.val (.int (-1 : Int32))) .unset) [(.int (3 : Int32)), (.int (5 : Int32))]) _
      refine own_st (fun t_ k_ => XS.icmpNo X199.here hx rfl (hb hby at_143) rfl (by decide) k_) ?_
      refine own_st (fun t_ k_ => XS.aload X199.here hx rfl (hb hby at_146) rfl rfl k_) ?_
      refine own_st (fun t_ k_ => XS.iconst X199.here hx rfl (hb hby at_148) k_) ?_
      show own_Go p e below T199 (mkF m 149 (own_A p0 p1 p2 (5 : Int32) dd b1 (.val (.ref x_194)) (.val (.ref y_199)) (.val (.int (-1 : Int32))) .unset) [(.int (3 : Int32)), (.ref b1)]) _
      obtain ⟨cl218, Ar218, q218, Sz218, Nn218, Hh218, Gg218⟩ := id f216
      have hin218 : ¬ ((3 : Int32) < 0 ∨ cl218.slots.size ≤ ((3 : Int32)).toNatClampNeg) := inb_of Sz218 ⟨by decide, by decide⟩
      have hat218 : cl218.slots[((3 : Int32)).toNatClampNeg]? = some (.int r_23) := Has.at Hh218 hin218 rfl
      refine own_st (fun t_ k_ => X199.caload hx (j := (3 : Int32)) (v := (.int r_23)) (by exact Ar218.1) (State.isArrayOf_alike hZ.alike Ar218.2.1) Ar218.2.2 hin218 hat218 (g := (mkF m 149 (own_A p0 p1 p2 (5 : Int32) dd b1 (.val (.ref x_194)) (.val (.ref y_199)) (.val (.int (-1 : Int32))) .unset) [(.int (3 : Int32)), (.ref b1)])) rfl rfl (hb hby at_149) _ k_) ?_
      refine own_st (fun t_ k_ => XS.bipush X199.here hx rfl (hb hby at_150) k_) ?_
      refine own_st (fun t_ k_ => XS.icmpNo X199.here hx rfl (hb hby at_152) rfl (teq d3).2 k_) ?_
      refine own_st (fun t_ k_ => XS.iconst X199.here hx rfl (hb hby at_155) k_) ?_
      refine own_st (fun t_ k_ => XS.istore X199.here hx rfl (hb hby at_156) rfl (l' := (own_A p0 p1 p2 (5 : Int32) dd b1 (.val (.ref x_194)) (.val (.ref y_199)) (.val (.int (3 : Int32))) .unset)) rfl k_) ?_
      show own_Go p e below T199 (mkF m 158 (own_A p0 p1 p2 (5 : Int32) dd b1 (.val (.ref x_194)) (.val (.ref y_199)) (.val (.int (3 : Int32))) .unset) []) _
      refine own_st (fun t_ k_ => XS.goto X199.here hx rfl (pc0 := 158) (pc' := 213) rfl (hb hby at_158) (by decide) (by decide) k_) ?_
      refine own_st (fun t_ k_ => XS.iload X199.here hx rfl (hb hby at_213) rfl k_) ?_
      refine own_st (fun t_ k_ => XS.ifYes X199.here hx rfl (pc0 := 215) (pc' := 222) rfl (hb hby at_215) rfl (by decide) (by decide) (by decide) k_) ?_
      refine own_st (fun t_ k_ => XS.iload X199.here hx rfl (hb hby at_222) rfl k_) ?_
      refine own_st (fun t_ k_ => XS.istore X199.here hx rfl (hb hby at_224) rfl (l' := (own_A p0 p1 p2 (5 : Int32) dd b1 (.val (.ref x_194)) (.val (.ref y_199)) (.val (.int (3 : Int32))) (.val (.int (3 : Int32))))) rfl k_) ?_
      refine own_st (fun t_ k_ => XS.aload X199.here hx rfl (hb hby at_226) rfl rfl k_) ?_
      show own_Go p e below T199 (mkF m 228 (own_A p0 p1 p2 (5 : Int32) dd b1 (.val (.ref x_194)) (.val (.ref y_199)) (.val (.int (3 : Int32))) (.val (.int (3 : Int32)))) [(.ref y_199)]) _
      refine own_st (fun t_ k_ => XS.ifnullNo X199.here hx rfl (hb hby at_228) rfl k_) ?_
      refine own_st (fun t_ k_ => XS.aload X199.here hx rfl (hb hby at_231) rfl rfl k_) ?_
      show own_Go p e below T199 (mkF m 233 (own_A p0 p1 p2 (5 : Int32) dd b1 (.val (.ref x_194)) (.val (.ref y_199)) (.val (.int (3 : Int32))) (.val (.int (3 : Int32)))) [(.ref y_199)]) _
      have hcd219 : StrChars.Road.CodA ([r_5, r_11, r_17] : List Int32) 0 (3 : Int32) ((([r_5, r_11, r_17] : List Int32).map (fun c : Int32 => c.toInt8.toInt32)).map Value.int) := StrChars.Road.codOf rfl (fun x hx => (hpe x hx).2)
      have hbd219 : ∀ x ∈ ([r_5, r_11, r_17] : List Int32), ¬ x < 0 ∧ ¬ (65535 : Int32) < x := own_up _ hpe
      have f220 := (f198.keep Kq199 all0)
      obtain ⟨cq221, kq221, qa221, qb221, qc221⟩ := isOf hZ rfl q199_0
      obtain ⟨_, _, ⟨T221, L221, k221, n221⟩, -, X221, ⟨Lc221, hQ221, l221, y221, z221⟩, st221⟩ := X199.virtualBack hx (y := (⟨"java/lang/String", "length", "()I"⟩ : MethodName)) (z := (⟨"java/lang/String", "length", "()I"⟩ : MethodName)) hown (mvT hZ (hw _ (List.mem_of_getElem? (i := 112) rfl))) (mvT hZ (hw _ (List.mem_of_getElem? (i := 47) rfl))) (notFace_of_selects (args := #[]) (mvT hZ (hw _ (List.mem_of_getElem? (i := 49) rfl)))) (mvT hZ (hw _ (List.mem_of_getElem? (i := 49) rfl))) (mvT hZ (hw _ (List.mem_of_getElem? (i := 48) rfl))) (by decide) (StrChars.Road.lenW (W := 0) hZ hln (kI := 4) (hw _ (List.mem_of_getElem? (i := 9) rfl)) q199_0 q199_1 q199_2 q199_3 hcd219 hbd219 (pS_COMPACT_STRINGS.ext f220.2) pP5 (Nat.le_of_ble_eq_true rfl) (by decide) (by decide)) qa221 qc221 (g := (mkF m 233 (own_A p0 p1 p2 (5 : Int32) dd b1 (.val (.ref x_194)) (.val (.ref y_199)) (.val (.int (3 : Int32))) (.val (.int (3 : Int32)))) [(.ref y_199)])) rfl (by rw [hml]; rfl) (Steps.refl _) (argsL := []) (rest := []) (lenOf pd___I rfl) rfl (by show 2 * 0 + _ ≤ _; exact Nat.le_of_eq rfl) (hb hby at_233) (fun _ _ => ⟨rfl, rfl, (by decide : 6 + 0 ≤ _), (by decide : 27 + 0 ≤ _)⟩)
      dsimp only [Pt.U, Pt.locs, Pt.cells, Pt.slots] at X221 l221 y221 z221 st221 hQ221
      try dsimp only [Nat.reduceAdd] at y221 z221
      rw [l221, y221, z221] at X221
      obtain ⟨rfl, rfl, eH221⟩ := hQ221
      have N221 := Fr.app N199 (Fr.nil n0)
      refine own_tr st221 ?_
      show own_Go p e below T221 (mkF m 236 (own_A p0 p1 p2 (5 : Int32) dd b1 (.val (.ref x_194)) (.val (.ref y_199)) (.val (.int (3 : Int32))) (.val (.int (3 : Int32)))) [(.int (3 : Int32))]) _
      refine own_st (fun t_ k_ => XS.iload X221.here hx rfl (hb hby at_236) rfl k_) ?_
      refine own_st (fun t_ k_ => XS.icmpNo X221.here hx rfl (hb hby at_238) rfl (by decide) k_) ?_
      refine own_st (fun t_ k_ => XS.iload X221.here hx rfl (hb hby at_241) rfl k_) ?_
      refine own_st (fun t_ k_ => XS.iconst X221.here hx rfl (hb hby at_243) k_) ?_
      refine own_st (fun t_ k_ => XS.icmpNo X221.here hx rfl (hb hby at_244) rfl (by decide) k_) ?_
      show own_Go p e below T221 (mkF m 247 (own_A p0 p1 p2 (5 : Int32) dd b1 (.val (.ref x_194)) (.val (.ref y_199)) (.val (.int (3 : Int32))) (.val (.int (3 : Int32)))) []) _
      refine own_st (fun t_ k_ => XS.aload X221.here hx rfl (hb hby at_247) rfl rfl k_) ?_
      refine own_st (fun t_ k_ => XS.iconst X221.here hx rfl (hb hby at_249) k_) ?_
      show own_Go p e below T221 (mkF m 250 (own_A p0 p1 p2 (5 : Int32) dd b1 (.val (.ref x_194)) (.val (.ref y_199)) (.val (.int (3 : Int32))) (.val (.int (3 : Int32)))) [(.int (0 : Int32)), (.ref y_199)]) _
      obtain ⟨cq222, kq222, qa222, qb222, qc222⟩ := isOf hZ eH221 q199_0
      obtain ⟨_, _, ⟨T222, L222, k222, n222⟩, -, X222, ⟨Lc222, hQ222, l222, y222, z222⟩, st222⟩ := X221.virtualBack hx (y := (⟨"java/lang/String", "charAt", "(I)C"⟩ : MethodName)) (z := (⟨"java/lang/String", "charAt", "(I)C"⟩ : MethodName)) hown (mvT hZ (hw _ (List.mem_of_getElem? (i := 113) rfl))) (mvT hZ (hw _ (List.mem_of_getElem? (i := 114) rfl))) (notFace_of_selects (args := #[]) (mvT hZ (hw _ (List.mem_of_getElem? (i := 116) rfl)))) (mvT hZ (hw _ (List.mem_of_getElem? (i := 116) rfl))) (mvT hZ (hw _ (List.mem_of_getElem? (i := 115) rfl))) (by decide) (StrChars.Road.chN (W := 0) hZ hch (kI := 4) (hw _ (List.mem_of_getElem? (i := 9) rfl)) q199_0 q199_1 q199_2 q199_3 hcd219 hbd219 (pS_COMPACT_STRINGS.ext f220.2) pP5 (pS_SIOOBE_FORMATTER.ext f220.2) rfm (Nat.le_of_ble_eq_true rfl) (i := 0) (Nat.le_of_ble_eq_true rfl) (j := (0 : Int32)) rfl (by decide) (by decide)) qa222 qc222 (g := (mkF m 250 (own_A p0 p1 p2 (5 : Int32) dd b1 (.val (.ref x_194)) (.val (.ref y_199)) (.val (.int (3 : Int32))) (.val (.int (3 : Int32)))) [(.int (0 : Int32)), (.ref y_199)])) rfl (by rw [hml]; rfl) (Steps.refl _) (argsL := [(.int (0 : Int32))]) (rest := []) (lenOf pd__I_C rfl) rfl (by show 2 * 0 + _ ≤ _; exact Nat.le_of_eq rfl) (hb hby at_250) (fun _ _ => ⟨rfl, eH221, (by decide : 6 + 0 ≤ _), (by decide : 27 + 0 ≤ _)⟩)
      dsimp only [Pt.U, Pt.locs, Pt.cells, Pt.slots] at X222 l222 y222 z222 st222 hQ222
      try dsimp only [Nat.reduceAdd] at y222 z222
      rw [l222, y222, z222] at X222
      obtain ⟨rfl, rfl, eH222⟩ := hQ222
      have N222 := Fr.app N221 (Fr.nil n0)
      refine own_tr st222 ?_
      show own_Go p e below T222 (mkF m 253 (own_A p0 p1 p2 (5 : Int32) dd b1 (.val (.ref x_194)) (.val (.ref y_199)) (.val (.int (3 : Int32))) (.val (.int (3 : Int32)))) [(.int r_5)]) _
      refine own_st (fun t_ k_ => XS.aload X222.here hx rfl (hb hby at_253) rfl rfl k_) ?_
      refine own_st (fun t_ k_ => XS.iconst X222.here hx rfl (hb hby at_255) k_) ?_
      show own_Go p e below T222 (mkF m 256 (own_A p0 p1 p2 (5 : Int32) dd b1 (.val (.ref x_194)) (.val (.ref y_199)) (.val (.int (3 : Int32))) (.val (.int (3 : Int32)))) [(.int (0 : Int32)), (.ref b1), (.int r_5)]) _
      obtain ⟨cl223, Ar223, q223, Sz223, Nn223, Hh223, Gg223⟩ := id f216
      have hin223 : ¬ ((0 : Int32) < 0 ∨ cl223.slots.size ≤ ((0 : Int32)).toNatClampNeg) := inb_of Sz223 ⟨by decide, by decide⟩
      have hat223 : cl223.slots[((0 : Int32)).toNatClampNeg]? = some (.int r_5) := Has.at Hh223 hin223 rfl
      refine own_st (fun t_ k_ => X222.caload hx (j := (0 : Int32)) (v := (.int r_5)) (by rw [eH222]; exact Ar223.1) (State.isArrayOf_alike hZ.alike Ar223.2.1) Ar223.2.2 hin223 hat223 (g := (mkF m 256 (own_A p0 p1 p2 (5 : Int32) dd b1 (.val (.ref x_194)) (.val (.ref y_199)) (.val (.int (3 : Int32))) (.val (.int (3 : Int32)))) [(.int (0 : Int32)), (.ref b1), (.int r_5)])) rfl rfl (hb hby at_256) _ k_) ?_
      refine own_st (fun t_ k_ => XS.icmpNo X222.here hx rfl (hb hby at_257) rfl (teq rfl).2 k_) ?_
      refine own_st (fun t_ k_ => XS.iload X222.here hx rfl (hb hby at_260) rfl k_) ?_
      refine own_st (fun t_ k_ => XS.iconst X222.here hx rfl (hb hby at_262) k_) ?_
      refine own_st (fun t_ k_ => XS.icmpNo X222.here hx rfl (hb hby at_263) rfl (by decide) k_) ?_
      show own_Go p e below T222 (mkF m 266 (own_A p0 p1 p2 (5 : Int32) dd b1 (.val (.ref x_194)) (.val (.ref y_199)) (.val (.int (3 : Int32))) (.val (.int (3 : Int32)))) []) _
      refine own_st (fun t_ k_ => XS.aload X222.here hx rfl (hb hby at_266) rfl rfl k_) ?_
      refine own_st (fun t_ k_ => XS.iconst X222.here hx rfl (hb hby at_268) k_) ?_
      show own_Go p e below T222 (mkF m 269 (own_A p0 p1 p2 (5 : Int32) dd b1 (.val (.ref x_194)) (.val (.ref y_199)) (.val (.int (3 : Int32))) (.val (.int (3 : Int32)))) [(.int (1 : Int32)), (.ref y_199)]) _
      obtain ⟨cq224, kq224, qa224, qb224, qc224⟩ := isOf hZ eH222 q199_0
      obtain ⟨_, _, ⟨T224, L224, k224, n224⟩, -, X224, ⟨Lc224, hQ224, l224, y224, z224⟩, st224⟩ := X222.virtualBack hx (y := (⟨"java/lang/String", "charAt", "(I)C"⟩ : MethodName)) (z := (⟨"java/lang/String", "charAt", "(I)C"⟩ : MethodName)) hown (mvT hZ (hw _ (List.mem_of_getElem? (i := 113) rfl))) (mvT hZ (hw _ (List.mem_of_getElem? (i := 114) rfl))) (notFace_of_selects (args := #[]) (mvT hZ (hw _ (List.mem_of_getElem? (i := 116) rfl)))) (mvT hZ (hw _ (List.mem_of_getElem? (i := 116) rfl))) (mvT hZ (hw _ (List.mem_of_getElem? (i := 115) rfl))) (by decide) (StrChars.Road.chN (W := 0) hZ hch (kI := 4) (hw _ (List.mem_of_getElem? (i := 9) rfl)) q199_0 q199_1 q199_2 q199_3 hcd219 hbd219 (pS_COMPACT_STRINGS.ext f220.2) pP5 (pS_SIOOBE_FORMATTER.ext f220.2) rfm (Nat.le_of_ble_eq_true rfl) (i := 1) (Nat.le_of_ble_eq_true rfl) (j := (1 : Int32)) rfl (by decide) (by decide)) qa224 qc224 (g := (mkF m 269 (own_A p0 p1 p2 (5 : Int32) dd b1 (.val (.ref x_194)) (.val (.ref y_199)) (.val (.int (3 : Int32))) (.val (.int (3 : Int32)))) [(.int (1 : Int32)), (.ref y_199)])) rfl (by rw [hml]; rfl) (Steps.refl _) (argsL := [(.int (1 : Int32))]) (rest := []) (lenOf pd__I_C rfl) rfl (by show 2 * 0 + _ ≤ _; exact Nat.le_of_eq rfl) (hb hby at_269) (fun _ _ => ⟨rfl, eH222, (by decide : 6 + 0 ≤ _), (by decide : 27 + 0 ≤ _)⟩)
      dsimp only [Pt.U, Pt.locs, Pt.cells, Pt.slots] at X224 l224 y224 z224 st224 hQ224
      try dsimp only [Nat.reduceAdd] at y224 z224
      rw [l224, y224, z224] at X224
      obtain ⟨rfl, rfl, eH224⟩ := hQ224
      have N224 := Fr.app N222 (Fr.nil n0)
      refine own_tr st224 ?_
      show own_Go p e below T224 (mkF m 272 (own_A p0 p1 p2 (5 : Int32) dd b1 (.val (.ref x_194)) (.val (.ref y_199)) (.val (.int (3 : Int32))) (.val (.int (3 : Int32)))) [(.int r_11)]) _
      refine own_st (fun t_ k_ => XS.aload X224.here hx rfl (hb hby at_272) rfl rfl k_) ?_
      refine own_st (fun t_ k_ => XS.iconst X224.here hx rfl (hb hby at_274) k_) ?_
      show own_Go p e below T224 (mkF m 275 (own_A p0 p1 p2 (5 : Int32) dd b1 (.val (.ref x_194)) (.val (.ref y_199)) (.val (.int (3 : Int32))) (.val (.int (3 : Int32)))) [(.int (1 : Int32)), (.ref b1), (.int r_11)]) _
      obtain ⟨cl225, Ar225, q225, Sz225, Nn225, Hh225, Gg225⟩ := id f216
      have hin225 : ¬ ((1 : Int32) < 0 ∨ cl225.slots.size ≤ ((1 : Int32)).toNatClampNeg) := inb_of Sz225 ⟨by decide, by decide⟩
      have hat225 : cl225.slots[((1 : Int32)).toNatClampNeg]? = some (.int r_11) := Has.at Hh225 hin225 rfl
      refine own_st (fun t_ k_ => X224.caload hx (j := (1 : Int32)) (v := (.int r_11)) (by rw [eH224]; exact Ar225.1) (State.isArrayOf_alike hZ.alike Ar225.2.1) Ar225.2.2 hin225 hat225 (g := (mkF m 275 (own_A p0 p1 p2 (5 : Int32) dd b1 (.val (.ref x_194)) (.val (.ref y_199)) (.val (.int (3 : Int32))) (.val (.int (3 : Int32)))) [(.int (1 : Int32)), (.ref b1), (.int r_11)])) rfl rfl (hb hby at_275) _ k_) ?_
      refine own_st (fun t_ k_ => XS.icmpNo X224.here hx rfl (hb hby at_276) rfl (teq rfl).2 k_) ?_
      refine own_st (fun t_ k_ => XS.iload X224.here hx rfl (hb hby at_279) rfl k_) ?_
      refine own_st (fun t_ k_ => XS.iconst X224.here hx rfl (hb hby at_281) k_) ?_
      refine own_st (fun t_ k_ => XS.icmpNo X224.here hx rfl (hb hby at_282) rfl (by decide) k_) ?_
      show own_Go p e below T224 (mkF m 285 (own_A p0 p1 p2 (5 : Int32) dd b1 (.val (.ref x_194)) (.val (.ref y_199)) (.val (.int (3 : Int32))) (.val (.int (3 : Int32)))) []) _
      refine own_st (fun t_ k_ => XS.aload X224.here hx rfl (hb hby at_285) rfl rfl k_) ?_
      refine own_st (fun t_ k_ => XS.iconst X224.here hx rfl (hb hby at_287) k_) ?_
      show own_Go p e below T224 (mkF m 288 (own_A p0 p1 p2 (5 : Int32) dd b1 (.val (.ref x_194)) (.val (.ref y_199)) (.val (.int (3 : Int32))) (.val (.int (3 : Int32)))) [(.int (2 : Int32)), (.ref y_199)]) _
      obtain ⟨cq226, kq226, qa226, qb226, qc226⟩ := isOf hZ eH224 q199_0
      obtain ⟨_, _, ⟨T226, L226, k226, n226⟩, -, X226, ⟨Lc226, hQ226, l226, y226, z226⟩, st226⟩ := X224.virtualBack hx (y := (⟨"java/lang/String", "charAt", "(I)C"⟩ : MethodName)) (z := (⟨"java/lang/String", "charAt", "(I)C"⟩ : MethodName)) hown (mvT hZ (hw _ (List.mem_of_getElem? (i := 113) rfl))) (mvT hZ (hw _ (List.mem_of_getElem? (i := 114) rfl))) (notFace_of_selects (args := #[]) (mvT hZ (hw _ (List.mem_of_getElem? (i := 116) rfl)))) (mvT hZ (hw _ (List.mem_of_getElem? (i := 116) rfl))) (mvT hZ (hw _ (List.mem_of_getElem? (i := 115) rfl))) (by decide) (StrChars.Road.chN (W := 0) hZ hch (kI := 4) (hw _ (List.mem_of_getElem? (i := 9) rfl)) q199_0 q199_1 q199_2 q199_3 hcd219 hbd219 (pS_COMPACT_STRINGS.ext f220.2) pP5 (pS_SIOOBE_FORMATTER.ext f220.2) rfm (Nat.le_of_ble_eq_true rfl) (i := 2) (Nat.le_of_ble_eq_true rfl) (j := (2 : Int32)) rfl (by decide) (by decide)) qa226 qc226 (g := (mkF m 288 (own_A p0 p1 p2 (5 : Int32) dd b1 (.val (.ref x_194)) (.val (.ref y_199)) (.val (.int (3 : Int32))) (.val (.int (3 : Int32)))) [(.int (2 : Int32)), (.ref y_199)])) rfl (by rw [hml]; rfl) (Steps.refl _) (argsL := [(.int (2 : Int32))]) (rest := []) (lenOf pd__I_C rfl) rfl (by show 2 * 0 + _ ≤ _; exact Nat.le_of_eq rfl) (hb hby at_288) (fun _ _ => ⟨rfl, eH224, (by decide : 6 + 0 ≤ _), (by decide : 27 + 0 ≤ _)⟩)
      dsimp only [Pt.U, Pt.locs, Pt.cells, Pt.slots] at X226 l226 y226 z226 st226 hQ226
      try dsimp only [Nat.reduceAdd] at y226 z226
      rw [l226, y226, z226] at X226
      obtain ⟨rfl, rfl, eH226⟩ := hQ226
      have N226 := Fr.app N224 (Fr.nil n0)
      refine own_tr st226 ?_
      show own_Go p e below T226 (mkF m 291 (own_A p0 p1 p2 (5 : Int32) dd b1 (.val (.ref x_194)) (.val (.ref y_199)) (.val (.int (3 : Int32))) (.val (.int (3 : Int32)))) [(.int r_17)]) _
      refine own_st (fun t_ k_ => XS.aload X226.here hx rfl (hb hby at_291) rfl rfl k_) ?_
      refine own_st (fun t_ k_ => XS.iconst X226.here hx rfl (hb hby at_293) k_) ?_
      show own_Go p e below T226 (mkF m 294 (own_A p0 p1 p2 (5 : Int32) dd b1 (.val (.ref x_194)) (.val (.ref y_199)) (.val (.int (3 : Int32))) (.val (.int (3 : Int32)))) [(.int (2 : Int32)), (.ref b1), (.int r_17)]) _
      obtain ⟨cl227, Ar227, q227, Sz227, Nn227, Hh227, Gg227⟩ := id f216
      have hin227 : ¬ ((2 : Int32) < 0 ∨ cl227.slots.size ≤ ((2 : Int32)).toNatClampNeg) := inb_of Sz227 ⟨by decide, by decide⟩
      have hat227 : cl227.slots[((2 : Int32)).toNatClampNeg]? = some (.int r_17) := Has.at Hh227 hin227 rfl
      refine own_st (fun t_ k_ => X226.caload hx (j := (2 : Int32)) (v := (.int r_17)) (by rw [eH226]; exact Ar227.1) (State.isArrayOf_alike hZ.alike Ar227.2.1) Ar227.2.2 hin227 hat227 (g := (mkF m 294 (own_A p0 p1 p2 (5 : Int32) dd b1 (.val (.ref x_194)) (.val (.ref y_199)) (.val (.int (3 : Int32))) (.val (.int (3 : Int32)))) [(.int (2 : Int32)), (.ref b1), (.int r_17)])) rfl rfl (hb hby at_294) _ k_) ?_
      refine own_st (fun t_ k_ => XS.icmpNo X226.here hx rfl (hb hby at_295) rfl (teq rfl).2 k_) ?_
      refine own_st (fun t_ k_ => XS.iload X226.here hx rfl (hb hby at_298) rfl k_) ?_
      refine own_st (fun t_ k_ => XS.iconst X226.here hx rfl (hb hby at_300) k_) ?_
      refine own_st (fun t_ k_ => XS.icmpYes X226.here hx rfl (pc0 := 301) (pc' := 317) rfl (hb hby at_301) rfl (by decide) (by decide) (by decide) k_) ?_
      show own_Go p e below T226 (mkF m 317 (own_A p0 p1 p2 (5 : Int32) dd b1 (.val (.ref x_194)) (.val (.ref y_199)) (.val (.int (3 : Int32))) (.val (.int (3 : Int32)))) []) _
      refine own_st (fun t_ k_ => XS.iconst X226.here hx rfl (hb hby at_317) k_) ?_
      refine own_st (fun t_ k_ => XS.goto X226.here hx rfl (pc0 := 318) (pc' := 322) rfl (hb hby at_318) (by decide) (by decide) k_) ?_
      show own_Go p e below T226 (mkF m 322 (own_A p0 p1 p2 (5 : Int32) dd b1 (.val (.ref x_194)) (.val (.ref y_199)) (.val (.int (3 : Int32))) (.val (.int (3 : Int32)))) [(.int (1 : Int32))]) _
      obtain ⟨fs, hr, hrun, hended, hRW⟩ := X226.leaveW hS (by rw [eH226]; exact hK199) (v := some (.int (1 : Int32))) (fun h => by rw [Bd.returns] at h; cases h)
      have hCend : CHr Z own_EL s.vm s.heap T226.vm T226.heap := by
        rw [hh, eH226]
        exact CHr.trans CR201 (CHv.at X226 hZ hEL CH201)
      refine own_fin (retN X226 hx (t := .boolean) Bd.returns (by simp) (hb hby at_322) hr) ⟨hrun, hended, _, _, rfl, ?_, hCend, hRW.1, hRW.2.1, hRW.2.2.1, hRW.2.2.2.mono (by decide) (by decide)⟩
      show Q_rmLaw Z p0 p1 p2 zc fm h0 n0 _ T226.heap _
      rw [eH226]
      exact ⟨rfl, N226, K202⟩
    · skip
      have hpe : ∀ c ∈ ([r_5, r_11] : List Int32), ¬ c < 0 ∧ ¬ (255 : Int32) < c := by
        intro c hc
        simp only [List.mem_cons, List.not_mem_nil, or_false] at hc
        rcases hc with rfl | rfl
        · exact own_ch255 q5_0
        · exact own_ch255 q11_0
      obtain ⟨d2, d4, d3⟩ := hj
      refine own_st (fun t_ k_ => XS.astore X199.here hx rfl (hb hby at_116) rfl rfl (l' := (own_A p0 p1 p2 (5 : Int32) dd b1 (.val (.ref x_194)) (.val (.ref y_199)) .unset .unset)) rfl k_) ?_
      refine own_st (fun t_ k_ => XS.iconst X199.here hx rfl (hb hby at_118) k_) ?_
      refine own_st (fun t_ k_ => XS.istore X199.here hx rfl (hb hby at_119) rfl (l' := (own_A p0 p1 p2 (5 : Int32) dd b1 (.val (.ref x_194)) (.val (.ref y_199)) (.val (.int (-1 : Int32))) .unset)) rfl k_) ?_
      refine own_st (fun t_ k_ => XS.iloadN X199.here hx rfl (hb hby at_121) rfl k_) ?_
      refine own_st (fun t_ k_ => XS.iconst X199.here hx rfl (hb hby at_122) k_) ?_
      show own_Go p e below T199 (mkF m 123 (own_A p0 p1 p2 (5 : Int32) dd b1 (.val (.ref x_194)) (.val (.ref y_199)) (.val (.int (-1 : Int32))) .unset) [(.int (4 : Int32)), (.int (5 : Int32))]) _
      refine own_st (fun t_ k_ => XS.icmpNo X199.here hx rfl (hb hby at_123) rfl (by decide) k_) ?_
      refine own_st (fun t_ k_ => XS.aload X199.here hx rfl (hb hby at_126) rfl rfl k_) ?_
      refine own_st (fun t_ k_ => XS.iconst X199.here hx rfl (hb hby at_128) k_) ?_
      show own_Go p e below T199 (mkF m 129 (own_A p0 p1 p2 (5 : Int32) dd b1 (.val (.ref x_194)) (.val (.ref y_199)) (.val (.int (-1 : Int32))) .unset) [(.int (4 : Int32)), (.ref b1)]) _
      have f228 := ((V31.keep Kq194 nin0).keep Kq199 nin0)
      obtain ⟨cl229, Ar229, q229, Sz229, Nn229, Hh229, Gg229⟩ := id f228
      have hin229 : ¬ ((4 : Int32) < 0 ∨ cl229.slots.size ≤ ((4 : Int32)).toNatClampNeg) := inb_of Sz229 ⟨by decide, by decide⟩
      have hat229 : cl229.slots[((4 : Int32)).toNatClampNeg]? = some (.int r_29) := Has.at Hh229 hin229 rfl
      refine own_st (fun t_ k_ => X199.caload hx (j := (4 : Int32)) (v := (.int r_29)) (by exact Ar229.1) (State.isArrayOf_alike hZ.alike Ar229.2.1) Ar229.2.2 hin229 hat229 (g := (mkF m 129 (own_A p0 p1 p2 (5 : Int32) dd b1 (.val (.ref x_194)) (.val (.ref y_199)) (.val (.int (-1 : Int32))) .unset) [(.int (4 : Int32)), (.ref b1)])) rfl rfl (hb hby at_129) _ k_) ?_
      refine own_st (fun t_ k_ => XS.bipush X199.here hx rfl (hb hby at_130) k_) ?_
      refine own_st (fun t_ k_ => XS.icmpYes X199.here hx rfl (pc0 := 132) (pc' := 141) rfl (hb hby at_132) rfl (feq d4).2 (by decide) (by decide) k_) ?_
      refine own_st (fun t_ k_ => XS.iloadN X199.here hx rfl (hb hby at_141) rfl k_) ?_
      refine own_st (fun t_ k_ => XS.iconst X199.here hx rfl (hb hby at_142) k_) ?_
      show own_Go p e below T199 (mkF m 143 (own_A p0 p1 p2 (5 : Int32) dd b1 (.val (.ref x_194)) (.val (.ref y_199)) (.val (.int (-1 : Int32))) .unset) [(.int (3 : Int32)), (.int (5 : Int32))]) _
      refine own_st (fun t_ k_ => XS.icmpNo X199.here hx rfl (hb hby at_143) rfl (by decide) k_) ?_
      refine own_st (fun t_ k_ => XS.aload X199.here hx rfl (hb hby at_146) rfl rfl k_) ?_
      refine own_st (fun t_ k_ => XS.iconst X199.here hx rfl (hb hby at_148) k_) ?_
      show own_Go p e below T199 (mkF m 149 (own_A p0 p1 p2 (5 : Int32) dd b1 (.val (.ref x_194)) (.val (.ref y_199)) (.val (.int (-1 : Int32))) .unset) [(.int (3 : Int32)), (.ref b1)]) _
      obtain ⟨cl230, Ar230, q230, Sz230, Nn230, Hh230, Gg230⟩ := id f228
      have hin230 : ¬ ((3 : Int32) < 0 ∨ cl230.slots.size ≤ ((3 : Int32)).toNatClampNeg) := inb_of Sz230 ⟨by decide, by decide⟩
      have hat230 : cl230.slots[((3 : Int32)).toNatClampNeg]? = some (.int r_23) := Has.at Hh230 hin230 rfl
      refine own_st (fun t_ k_ => X199.caload hx (j := (3 : Int32)) (v := (.int r_23)) (by exact Ar230.1) (State.isArrayOf_alike hZ.alike Ar230.2.1) Ar230.2.2 hin230 hat230 (g := (mkF m 149 (own_A p0 p1 p2 (5 : Int32) dd b1 (.val (.ref x_194)) (.val (.ref y_199)) (.val (.int (-1 : Int32))) .unset) [(.int (3 : Int32)), (.ref b1)])) rfl rfl (hb hby at_149) _ k_) ?_
      refine own_st (fun t_ k_ => XS.bipush X199.here hx rfl (hb hby at_150) k_) ?_
      refine own_st (fun t_ k_ => XS.icmpYes X199.here hx rfl (pc0 := 152) (pc' := 161) rfl (hb hby at_152) rfl (feq d3).2 (by decide) (by decide) k_) ?_
      refine own_st (fun t_ k_ => XS.iloadN X199.here hx rfl (hb hby at_161) rfl k_) ?_
      refine own_st (fun t_ k_ => XS.iconst X199.here hx rfl (hb hby at_162) k_) ?_
      show own_Go p e below T199 (mkF m 163 (own_A p0 p1 p2 (5 : Int32) dd b1 (.val (.ref x_194)) (.val (.ref y_199)) (.val (.int (-1 : Int32))) .unset) [(.int (2 : Int32)), (.int (5 : Int32))]) _
      refine own_st (fun t_ k_ => XS.icmpNo X199.here hx rfl (hb hby at_163) rfl (by decide) k_) ?_
      refine own_st (fun t_ k_ => XS.aload X199.here hx rfl (hb hby at_166) rfl rfl k_) ?_
      refine own_st (fun t_ k_ => XS.iconst X199.here hx rfl (hb hby at_168) k_) ?_
      show own_Go p e below T199 (mkF m 169 (own_A p0 p1 p2 (5 : Int32) dd b1 (.val (.ref x_194)) (.val (.ref y_199)) (.val (.int (-1 : Int32))) .unset) [(.int (2 : Int32)), (.ref b1)]) _
      obtain ⟨cl231, Ar231, q231, Sz231, Nn231, Hh231, Gg231⟩ := id f228
      have hin231 : ¬ ((2 : Int32) < 0 ∨ cl231.slots.size ≤ ((2 : Int32)).toNatClampNeg) := inb_of Sz231 ⟨by decide, by decide⟩
      have hat231 : cl231.slots[((2 : Int32)).toNatClampNeg]? = some (.int r_17) := Has.at Hh231 hin231 rfl
      refine own_st (fun t_ k_ => X199.caload hx (j := (2 : Int32)) (v := (.int r_17)) (by exact Ar231.1) (State.isArrayOf_alike hZ.alike Ar231.2.1) Ar231.2.2 hin231 hat231 (g := (mkF m 169 (own_A p0 p1 p2 (5 : Int32) dd b1 (.val (.ref x_194)) (.val (.ref y_199)) (.val (.int (-1 : Int32))) .unset) [(.int (2 : Int32)), (.ref b1)])) rfl rfl (hb hby at_169) _ k_) ?_
      refine own_st (fun t_ k_ => XS.bipush X199.here hx rfl (hb hby at_170) k_) ?_
      refine own_st (fun t_ k_ => XS.icmpNo X199.here hx rfl (hb hby at_172) rfl (teq d2).2 k_) ?_
      refine own_st (fun t_ k_ => XS.iconst X199.here hx rfl (hb hby at_175) k_) ?_
      refine own_st (fun t_ k_ => XS.istore X199.here hx rfl (hb hby at_176) rfl (l' := (own_A p0 p1 p2 (5 : Int32) dd b1 (.val (.ref x_194)) (.val (.ref y_199)) (.val (.int (2 : Int32))) .unset)) rfl k_) ?_
      show own_Go p e below T199 (mkF m 178 (own_A p0 p1 p2 (5 : Int32) dd b1 (.val (.ref x_194)) (.val (.ref y_199)) (.val (.int (2 : Int32))) .unset) []) _
      refine own_st (fun t_ k_ => XS.goto X199.here hx rfl (pc0 := 178) (pc' := 213) rfl (hb hby at_178) (by decide) (by decide) k_) ?_
      refine own_st (fun t_ k_ => XS.iload X199.here hx rfl (hb hby at_213) rfl k_) ?_
      refine own_st (fun t_ k_ => XS.ifYes X199.here hx rfl (pc0 := 215) (pc' := 222) rfl (hb hby at_215) rfl (by decide) (by decide) (by decide) k_) ?_
      refine own_st (fun t_ k_ => XS.iload X199.here hx rfl (hb hby at_222) rfl k_) ?_
      refine own_st (fun t_ k_ => XS.istore X199.here hx rfl (hb hby at_224) rfl (l' := (own_A p0 p1 p2 (5 : Int32) dd b1 (.val (.ref x_194)) (.val (.ref y_199)) (.val (.int (2 : Int32))) (.val (.int (2 : Int32))))) rfl k_) ?_
      refine own_st (fun t_ k_ => XS.aload X199.here hx rfl (hb hby at_226) rfl rfl k_) ?_
      show own_Go p e below T199 (mkF m 228 (own_A p0 p1 p2 (5 : Int32) dd b1 (.val (.ref x_194)) (.val (.ref y_199)) (.val (.int (2 : Int32))) (.val (.int (2 : Int32)))) [(.ref y_199)]) _
      refine own_st (fun t_ k_ => XS.ifnullNo X199.here hx rfl (hb hby at_228) rfl k_) ?_
      refine own_st (fun t_ k_ => XS.aload X199.here hx rfl (hb hby at_231) rfl rfl k_) ?_
      show own_Go p e below T199 (mkF m 233 (own_A p0 p1 p2 (5 : Int32) dd b1 (.val (.ref x_194)) (.val (.ref y_199)) (.val (.int (2 : Int32))) (.val (.int (2 : Int32)))) [(.ref y_199)]) _
      have hcd232 : StrChars.Road.CodA ([r_5, r_11] : List Int32) 0 (2 : Int32) ((([r_5, r_11] : List Int32).map (fun c : Int32 => c.toInt8.toInt32)).map Value.int) := StrChars.Road.codOf rfl (fun x hx => (hpe x hx).2)
      have hbd232 : ∀ x ∈ ([r_5, r_11] : List Int32), ¬ x < 0 ∧ ¬ (65535 : Int32) < x := own_up _ hpe
      have f233 := (f198.keep Kq199 all0)
      obtain ⟨cq234, kq234, qa234, qb234, qc234⟩ := isOf hZ rfl q199_0
      obtain ⟨_, _, ⟨T234, L234, k234, n234⟩, -, X234, ⟨Lc234, hQ234, l234, y234, z234⟩, st234⟩ := X199.virtualBack hx (y := (⟨"java/lang/String", "length", "()I"⟩ : MethodName)) (z := (⟨"java/lang/String", "length", "()I"⟩ : MethodName)) hown (mvT hZ (hw _ (List.mem_of_getElem? (i := 112) rfl))) (mvT hZ (hw _ (List.mem_of_getElem? (i := 47) rfl))) (notFace_of_selects (args := #[]) (mvT hZ (hw _ (List.mem_of_getElem? (i := 49) rfl)))) (mvT hZ (hw _ (List.mem_of_getElem? (i := 49) rfl))) (mvT hZ (hw _ (List.mem_of_getElem? (i := 48) rfl))) (by decide) (StrChars.Road.lenW (W := 0) hZ hln (kI := 4) (hw _ (List.mem_of_getElem? (i := 9) rfl)) q199_0 q199_1 q199_2 q199_3 hcd232 hbd232 (pS_COMPACT_STRINGS.ext f233.2) pP5 (Nat.le_of_ble_eq_true rfl) (by decide) (by decide)) qa234 qc234 (g := (mkF m 233 (own_A p0 p1 p2 (5 : Int32) dd b1 (.val (.ref x_194)) (.val (.ref y_199)) (.val (.int (2 : Int32))) (.val (.int (2 : Int32)))) [(.ref y_199)])) rfl (by rw [hml]; rfl) (Steps.refl _) (argsL := []) (rest := []) (lenOf pd___I rfl) rfl (by show 2 * 0 + _ ≤ _; exact Nat.le_of_eq rfl) (hb hby at_233) (fun _ _ => ⟨rfl, rfl, (by decide : 6 + 0 ≤ _), (by decide : 27 + 0 ≤ _)⟩)
      dsimp only [Pt.U, Pt.locs, Pt.cells, Pt.slots] at X234 l234 y234 z234 st234 hQ234
      try dsimp only [Nat.reduceAdd] at y234 z234
      rw [l234, y234, z234] at X234
      obtain ⟨rfl, rfl, eH234⟩ := hQ234
      have N234 := Fr.app N199 (Fr.nil n0)
      refine own_tr st234 ?_
      show own_Go p e below T234 (mkF m 236 (own_A p0 p1 p2 (5 : Int32) dd b1 (.val (.ref x_194)) (.val (.ref y_199)) (.val (.int (2 : Int32))) (.val (.int (2 : Int32)))) [(.int (2 : Int32))]) _
      refine own_st (fun t_ k_ => XS.iload X234.here hx rfl (hb hby at_236) rfl k_) ?_
      refine own_st (fun t_ k_ => XS.icmpNo X234.here hx rfl (hb hby at_238) rfl (by decide) k_) ?_
      refine own_st (fun t_ k_ => XS.iload X234.here hx rfl (hb hby at_241) rfl k_) ?_
      refine own_st (fun t_ k_ => XS.iconst X234.here hx rfl (hb hby at_243) k_) ?_
      refine own_st (fun t_ k_ => XS.icmpNo X234.here hx rfl (hb hby at_244) rfl (by decide) k_) ?_
      show own_Go p e below T234 (mkF m 247 (own_A p0 p1 p2 (5 : Int32) dd b1 (.val (.ref x_194)) (.val (.ref y_199)) (.val (.int (2 : Int32))) (.val (.int (2 : Int32)))) []) _
      refine own_st (fun t_ k_ => XS.aload X234.here hx rfl (hb hby at_247) rfl rfl k_) ?_
      refine own_st (fun t_ k_ => XS.iconst X234.here hx rfl (hb hby at_249) k_) ?_
      show own_Go p e below T234 (mkF m 250 (own_A p0 p1 p2 (5 : Int32) dd b1 (.val (.ref x_194)) (.val (.ref y_199)) (.val (.int (2 : Int32))) (.val (.int (2 : Int32)))) [(.int (0 : Int32)), (.ref y_199)]) _
      obtain ⟨cq235, kq235, qa235, qb235, qc235⟩ := isOf hZ eH234 q199_0
      obtain ⟨_, _, ⟨T235, L235, k235, n235⟩, -, X235, ⟨Lc235, hQ235, l235, y235, z235⟩, st235⟩ := X234.virtualBack hx (y := (⟨"java/lang/String", "charAt", "(I)C"⟩ : MethodName)) (z := (⟨"java/lang/String", "charAt", "(I)C"⟩ : MethodName)) hown (mvT hZ (hw _ (List.mem_of_getElem? (i := 113) rfl))) (mvT hZ (hw _ (List.mem_of_getElem? (i := 114) rfl))) (notFace_of_selects (args := #[]) (mvT hZ (hw _ (List.mem_of_getElem? (i := 116) rfl)))) (mvT hZ (hw _ (List.mem_of_getElem? (i := 116) rfl))) (mvT hZ (hw _ (List.mem_of_getElem? (i := 115) rfl))) (by decide) (StrChars.Road.chN (W := 0) hZ hch (kI := 4) (hw _ (List.mem_of_getElem? (i := 9) rfl)) q199_0 q199_1 q199_2 q199_3 hcd232 hbd232 (pS_COMPACT_STRINGS.ext f233.2) pP5 (pS_SIOOBE_FORMATTER.ext f233.2) rfm (Nat.le_of_ble_eq_true rfl) (i := 0) (Nat.le_of_ble_eq_true rfl) (j := (0 : Int32)) rfl (by decide) (by decide)) qa235 qc235 (g := (mkF m 250 (own_A p0 p1 p2 (5 : Int32) dd b1 (.val (.ref x_194)) (.val (.ref y_199)) (.val (.int (2 : Int32))) (.val (.int (2 : Int32)))) [(.int (0 : Int32)), (.ref y_199)])) rfl (by rw [hml]; rfl) (Steps.refl _) (argsL := [(.int (0 : Int32))]) (rest := []) (lenOf pd__I_C rfl) rfl (by show 2 * 0 + _ ≤ _; exact Nat.le_of_eq rfl) (hb hby at_250) (fun _ _ => ⟨rfl, eH234, (by decide : 6 + 0 ≤ _), (by decide : 27 + 0 ≤ _)⟩)
      dsimp only [Pt.U, Pt.locs, Pt.cells, Pt.slots] at X235 l235 y235 z235 st235 hQ235
      try dsimp only [Nat.reduceAdd] at y235 z235
      rw [l235, y235, z235] at X235
      obtain ⟨rfl, rfl, eH235⟩ := hQ235
      have N235 := Fr.app N234 (Fr.nil n0)
      refine own_tr st235 ?_
      show own_Go p e below T235 (mkF m 253 (own_A p0 p1 p2 (5 : Int32) dd b1 (.val (.ref x_194)) (.val (.ref y_199)) (.val (.int (2 : Int32))) (.val (.int (2 : Int32)))) [(.int r_5)]) _
      refine own_st (fun t_ k_ => XS.aload X235.here hx rfl (hb hby at_253) rfl rfl k_) ?_
      refine own_st (fun t_ k_ => XS.iconst X235.here hx rfl (hb hby at_255) k_) ?_
      show own_Go p e below T235 (mkF m 256 (own_A p0 p1 p2 (5 : Int32) dd b1 (.val (.ref x_194)) (.val (.ref y_199)) (.val (.int (2 : Int32))) (.val (.int (2 : Int32)))) [(.int (0 : Int32)), (.ref b1), (.int r_5)]) _
      obtain ⟨cl236, Ar236, q236, Sz236, Nn236, Hh236, Gg236⟩ := id f228
      have hin236 : ¬ ((0 : Int32) < 0 ∨ cl236.slots.size ≤ ((0 : Int32)).toNatClampNeg) := inb_of Sz236 ⟨by decide, by decide⟩
      have hat236 : cl236.slots[((0 : Int32)).toNatClampNeg]? = some (.int r_5) := Has.at Hh236 hin236 rfl
      refine own_st (fun t_ k_ => X235.caload hx (j := (0 : Int32)) (v := (.int r_5)) (by rw [eH235]; exact Ar236.1) (State.isArrayOf_alike hZ.alike Ar236.2.1) Ar236.2.2 hin236 hat236 (g := (mkF m 256 (own_A p0 p1 p2 (5 : Int32) dd b1 (.val (.ref x_194)) (.val (.ref y_199)) (.val (.int (2 : Int32))) (.val (.int (2 : Int32)))) [(.int (0 : Int32)), (.ref b1), (.int r_5)])) rfl rfl (hb hby at_256) _ k_) ?_
      refine own_st (fun t_ k_ => XS.icmpNo X235.here hx rfl (hb hby at_257) rfl (teq rfl).2 k_) ?_
      refine own_st (fun t_ k_ => XS.iload X235.here hx rfl (hb hby at_260) rfl k_) ?_
      refine own_st (fun t_ k_ => XS.iconst X235.here hx rfl (hb hby at_262) k_) ?_
      refine own_st (fun t_ k_ => XS.icmpNo X235.here hx rfl (hb hby at_263) rfl (by decide) k_) ?_
      show own_Go p e below T235 (mkF m 266 (own_A p0 p1 p2 (5 : Int32) dd b1 (.val (.ref x_194)) (.val (.ref y_199)) (.val (.int (2 : Int32))) (.val (.int (2 : Int32)))) []) _
      refine own_st (fun t_ k_ => XS.aload X235.here hx rfl (hb hby at_266) rfl rfl k_) ?_
      refine own_st (fun t_ k_ => XS.iconst X235.here hx rfl (hb hby at_268) k_) ?_
      show own_Go p e below T235 (mkF m 269 (own_A p0 p1 p2 (5 : Int32) dd b1 (.val (.ref x_194)) (.val (.ref y_199)) (.val (.int (2 : Int32))) (.val (.int (2 : Int32)))) [(.int (1 : Int32)), (.ref y_199)]) _
      obtain ⟨cq237, kq237, qa237, qb237, qc237⟩ := isOf hZ eH235 q199_0
      obtain ⟨_, _, ⟨T237, L237, k237, n237⟩, -, X237, ⟨Lc237, hQ237, l237, y237, z237⟩, st237⟩ := X235.virtualBack hx (y := (⟨"java/lang/String", "charAt", "(I)C"⟩ : MethodName)) (z := (⟨"java/lang/String", "charAt", "(I)C"⟩ : MethodName)) hown (mvT hZ (hw _ (List.mem_of_getElem? (i := 113) rfl))) (mvT hZ (hw _ (List.mem_of_getElem? (i := 114) rfl))) (notFace_of_selects (args := #[]) (mvT hZ (hw _ (List.mem_of_getElem? (i := 116) rfl)))) (mvT hZ (hw _ (List.mem_of_getElem? (i := 116) rfl))) (mvT hZ (hw _ (List.mem_of_getElem? (i := 115) rfl))) (by decide) (StrChars.Road.chN (W := 0) hZ hch (kI := 4) (hw _ (List.mem_of_getElem? (i := 9) rfl)) q199_0 q199_1 q199_2 q199_3 hcd232 hbd232 (pS_COMPACT_STRINGS.ext f233.2) pP5 (pS_SIOOBE_FORMATTER.ext f233.2) rfm (Nat.le_of_ble_eq_true rfl) (i := 1) (Nat.le_of_ble_eq_true rfl) (j := (1 : Int32)) rfl (by decide) (by decide)) qa237 qc237 (g := (mkF m 269 (own_A p0 p1 p2 (5 : Int32) dd b1 (.val (.ref x_194)) (.val (.ref y_199)) (.val (.int (2 : Int32))) (.val (.int (2 : Int32)))) [(.int (1 : Int32)), (.ref y_199)])) rfl (by rw [hml]; rfl) (Steps.refl _) (argsL := [(.int (1 : Int32))]) (rest := []) (lenOf pd__I_C rfl) rfl (by show 2 * 0 + _ ≤ _; exact Nat.le_of_eq rfl) (hb hby at_269) (fun _ _ => ⟨rfl, eH235, (by decide : 6 + 0 ≤ _), (by decide : 27 + 0 ≤ _)⟩)
      dsimp only [Pt.U, Pt.locs, Pt.cells, Pt.slots] at X237 l237 y237 z237 st237 hQ237
      try dsimp only [Nat.reduceAdd] at y237 z237
      rw [l237, y237, z237] at X237
      obtain ⟨rfl, rfl, eH237⟩ := hQ237
      have N237 := Fr.app N235 (Fr.nil n0)
      refine own_tr st237 ?_
      show own_Go p e below T237 (mkF m 272 (own_A p0 p1 p2 (5 : Int32) dd b1 (.val (.ref x_194)) (.val (.ref y_199)) (.val (.int (2 : Int32))) (.val (.int (2 : Int32)))) [(.int r_11)]) _
      refine own_st (fun t_ k_ => XS.aload X237.here hx rfl (hb hby at_272) rfl rfl k_) ?_
      refine own_st (fun t_ k_ => XS.iconst X237.here hx rfl (hb hby at_274) k_) ?_
      show own_Go p e below T237 (mkF m 275 (own_A p0 p1 p2 (5 : Int32) dd b1 (.val (.ref x_194)) (.val (.ref y_199)) (.val (.int (2 : Int32))) (.val (.int (2 : Int32)))) [(.int (1 : Int32)), (.ref b1), (.int r_11)]) _
      obtain ⟨cl238, Ar238, q238, Sz238, Nn238, Hh238, Gg238⟩ := id f228
      have hin238 : ¬ ((1 : Int32) < 0 ∨ cl238.slots.size ≤ ((1 : Int32)).toNatClampNeg) := inb_of Sz238 ⟨by decide, by decide⟩
      have hat238 : cl238.slots[((1 : Int32)).toNatClampNeg]? = some (.int r_11) := Has.at Hh238 hin238 rfl
      refine own_st (fun t_ k_ => X237.caload hx (j := (1 : Int32)) (v := (.int r_11)) (by rw [eH237]; exact Ar238.1) (State.isArrayOf_alike hZ.alike Ar238.2.1) Ar238.2.2 hin238 hat238 (g := (mkF m 275 (own_A p0 p1 p2 (5 : Int32) dd b1 (.val (.ref x_194)) (.val (.ref y_199)) (.val (.int (2 : Int32))) (.val (.int (2 : Int32)))) [(.int (1 : Int32)), (.ref b1), (.int r_11)])) rfl rfl (hb hby at_275) _ k_) ?_
      refine own_st (fun t_ k_ => XS.icmpNo X237.here hx rfl (hb hby at_276) rfl (teq rfl).2 k_) ?_
      refine own_st (fun t_ k_ => XS.iload X237.here hx rfl (hb hby at_279) rfl k_) ?_
      refine own_st (fun t_ k_ => XS.iconst X237.here hx rfl (hb hby at_281) k_) ?_
      refine own_st (fun t_ k_ => XS.icmpYes X237.here hx rfl (pc0 := 282) (pc' := 298) rfl (hb hby at_282) rfl (by decide) (by decide) (by decide) k_) ?_
      show own_Go p e below T237 (mkF m 298 (own_A p0 p1 p2 (5 : Int32) dd b1 (.val (.ref x_194)) (.val (.ref y_199)) (.val (.int (2 : Int32))) (.val (.int (2 : Int32)))) []) _
      refine own_st (fun t_ k_ => XS.iload X237.here hx rfl (hb hby at_298) rfl k_) ?_
      refine own_st (fun t_ k_ => XS.iconst X237.here hx rfl (hb hby at_300) k_) ?_
      refine own_st (fun t_ k_ => XS.icmpYes X237.here hx rfl (pc0 := 301) (pc' := 317) rfl (hb hby at_301) rfl (by decide) (by decide) (by decide) k_) ?_
      refine own_st (fun t_ k_ => XS.iconst X237.here hx rfl (hb hby at_317) k_) ?_
      refine own_st (fun t_ k_ => XS.goto X237.here hx rfl (pc0 := 318) (pc' := 322) rfl (hb hby at_318) (by decide) (by decide) k_) ?_
      show own_Go p e below T237 (mkF m 322 (own_A p0 p1 p2 (5 : Int32) dd b1 (.val (.ref x_194)) (.val (.ref y_199)) (.val (.int (2 : Int32))) (.val (.int (2 : Int32)))) [(.int (1 : Int32))]) _
      obtain ⟨fs, hr, hrun, hended, hRW⟩ := X237.leaveW hS (by rw [eH237]; exact hK199) (v := some (.int (1 : Int32))) (fun h => by rw [Bd.returns] at h; cases h)
      have hCend : CHr Z own_EL s.vm s.heap T237.vm T237.heap := by
        rw [hh, eH237]
        exact CHr.trans CR201 (CHv.at X237 hZ hEL CH201)
      refine own_fin (retN X237 hx (t := .boolean) Bd.returns (by simp) (hb hby at_322) hr) ⟨hrun, hended, _, _, rfl, ?_, hCend, hRW.1, hRW.2.1, hRW.2.2.1, hRW.2.2.2.mono (by decide) (by decide)⟩
      show Q_rmLaw Z p0 p1 p2 zc fm h0 n0 _ T237.heap _
      rw [eH237]
      exact ⟨rfl, N237, K202⟩
    · skip
      have hpe : ∀ c ∈ ([r_5] : List Int32), ¬ c < 0 ∧ ¬ (255 : Int32) < c := by
        intro c hc
        simp only [List.mem_cons, List.not_mem_nil, or_false] at hc
        subst hc
        exact own_ch255 q5_0
      obtain ⟨d1, d4, d3, d2⟩ := hj
      refine own_st (fun t_ k_ => XS.astore X199.here hx rfl (hb hby at_116) rfl rfl (l' := (own_A p0 p1 p2 (5 : Int32) dd b1 (.val (.ref x_194)) (.val (.ref y_199)) .unset .unset)) rfl k_) ?_
      refine own_st (fun t_ k_ => XS.iconst X199.here hx rfl (hb hby at_118) k_) ?_
      refine own_st (fun t_ k_ => XS.istore X199.here hx rfl (hb hby at_119) rfl (l' := (own_A p0 p1 p2 (5 : Int32) dd b1 (.val (.ref x_194)) (.val (.ref y_199)) (.val (.int (-1 : Int32))) .unset)) rfl k_) ?_
      refine own_st (fun t_ k_ => XS.iloadN X199.here hx rfl (hb hby at_121) rfl k_) ?_
      refine own_st (fun t_ k_ => XS.iconst X199.here hx rfl (hb hby at_122) k_) ?_
      show own_Go p e below T199 (mkF m 123 (own_A p0 p1 p2 (5 : Int32) dd b1 (.val (.ref x_194)) (.val (.ref y_199)) (.val (.int (-1 : Int32))) .unset) [(.int (4 : Int32)), (.int (5 : Int32))]) _
      refine own_st (fun t_ k_ => XS.icmpNo X199.here hx rfl (hb hby at_123) rfl (by decide) k_) ?_
      refine own_st (fun t_ k_ => XS.aload X199.here hx rfl (hb hby at_126) rfl rfl k_) ?_
      refine own_st (fun t_ k_ => XS.iconst X199.here hx rfl (hb hby at_128) k_) ?_
      show own_Go p e below T199 (mkF m 129 (own_A p0 p1 p2 (5 : Int32) dd b1 (.val (.ref x_194)) (.val (.ref y_199)) (.val (.int (-1 : Int32))) .unset) [(.int (4 : Int32)), (.ref b1)]) _
      have f239 := ((V31.keep Kq194 nin0).keep Kq199 nin0)
      obtain ⟨cl240, Ar240, q240, Sz240, Nn240, Hh240, Gg240⟩ := id f239
      have hin240 : ¬ ((4 : Int32) < 0 ∨ cl240.slots.size ≤ ((4 : Int32)).toNatClampNeg) := inb_of Sz240 ⟨by decide, by decide⟩
      have hat240 : cl240.slots[((4 : Int32)).toNatClampNeg]? = some (.int r_29) := Has.at Hh240 hin240 rfl
      refine own_st (fun t_ k_ => X199.caload hx (j := (4 : Int32)) (v := (.int r_29)) (by exact Ar240.1) (State.isArrayOf_alike hZ.alike Ar240.2.1) Ar240.2.2 hin240 hat240 (g := (mkF m 129 (own_A p0 p1 p2 (5 : Int32) dd b1 (.val (.ref x_194)) (.val (.ref y_199)) (.val (.int (-1 : Int32))) .unset) [(.int (4 : Int32)), (.ref b1)])) rfl rfl (hb hby at_129) _ k_) ?_
      refine own_st (fun t_ k_ => XS.bipush X199.here hx rfl (hb hby at_130) k_) ?_
      refine own_st (fun t_ k_ => XS.icmpYes X199.here hx rfl (pc0 := 132) (pc' := 141) rfl (hb hby at_132) rfl (feq d4).2 (by decide) (by decide) k_) ?_
      refine own_st (fun t_ k_ => XS.iloadN X199.here hx rfl (hb hby at_141) rfl k_) ?_
      refine own_st (fun t_ k_ => XS.iconst X199.here hx rfl (hb hby at_142) k_) ?_
      show own_Go p e below T199 (mkF m 143 (own_A p0 p1 p2 (5 : Int32) dd b1 (.val (.ref x_194)) (.val (.ref y_199)) (.val (.int (-1 : Int32))) .unset) [(.int (3 : Int32)), (.int (5 : Int32))]) _
      refine own_st (fun t_ k_ => XS.icmpNo X199.here hx rfl (hb hby at_143) rfl (by decide) k_) ?_
      refine own_st (fun t_ k_ => XS.aload X199.here hx rfl (hb hby at_146) rfl rfl k_) ?_
      refine own_st (fun t_ k_ => XS.iconst X199.here hx rfl (hb hby at_148) k_) ?_
      show own_Go p e below T199 (mkF m 149 (own_A p0 p1 p2 (5 : Int32) dd b1 (.val (.ref x_194)) (.val (.ref y_199)) (.val (.int (-1 : Int32))) .unset) [(.int (3 : Int32)), (.ref b1)]) _
      obtain ⟨cl241, Ar241, q241, Sz241, Nn241, Hh241, Gg241⟩ := id f239
      have hin241 : ¬ ((3 : Int32) < 0 ∨ cl241.slots.size ≤ ((3 : Int32)).toNatClampNeg) := inb_of Sz241 ⟨by decide, by decide⟩
      have hat241 : cl241.slots[((3 : Int32)).toNatClampNeg]? = some (.int r_23) := Has.at Hh241 hin241 rfl
      refine own_st (fun t_ k_ => X199.caload hx (j := (3 : Int32)) (v := (.int r_23)) (by exact Ar241.1) (State.isArrayOf_alike hZ.alike Ar241.2.1) Ar241.2.2 hin241 hat241 (g := (mkF m 149 (own_A p0 p1 p2 (5 : Int32) dd b1 (.val (.ref x_194)) (.val (.ref y_199)) (.val (.int (-1 : Int32))) .unset) [(.int (3 : Int32)), (.ref b1)])) rfl rfl (hb hby at_149) _ k_) ?_
      refine own_st (fun t_ k_ => XS.bipush X199.here hx rfl (hb hby at_150) k_) ?_
      refine own_st (fun t_ k_ => XS.icmpYes X199.here hx rfl (pc0 := 152) (pc' := 161) rfl (hb hby at_152) rfl (feq d3).2 (by decide) (by decide) k_) ?_
      refine own_st (fun t_ k_ => XS.iloadN X199.here hx rfl (hb hby at_161) rfl k_) ?_
      refine own_st (fun t_ k_ => XS.iconst X199.here hx rfl (hb hby at_162) k_) ?_
      show own_Go p e below T199 (mkF m 163 (own_A p0 p1 p2 (5 : Int32) dd b1 (.val (.ref x_194)) (.val (.ref y_199)) (.val (.int (-1 : Int32))) .unset) [(.int (2 : Int32)), (.int (5 : Int32))]) _
      refine own_st (fun t_ k_ => XS.icmpNo X199.here hx rfl (hb hby at_163) rfl (by decide) k_) ?_
      refine own_st (fun t_ k_ => XS.aload X199.here hx rfl (hb hby at_166) rfl rfl k_) ?_
      refine own_st (fun t_ k_ => XS.iconst X199.here hx rfl (hb hby at_168) k_) ?_
      show own_Go p e below T199 (mkF m 169 (own_A p0 p1 p2 (5 : Int32) dd b1 (.val (.ref x_194)) (.val (.ref y_199)) (.val (.int (-1 : Int32))) .unset) [(.int (2 : Int32)), (.ref b1)]) _
      obtain ⟨cl242, Ar242, q242, Sz242, Nn242, Hh242, Gg242⟩ := id f239
      have hin242 : ¬ ((2 : Int32) < 0 ∨ cl242.slots.size ≤ ((2 : Int32)).toNatClampNeg) := inb_of Sz242 ⟨by decide, by decide⟩
      have hat242 : cl242.slots[((2 : Int32)).toNatClampNeg]? = some (.int r_17) := Has.at Hh242 hin242 rfl
      refine own_st (fun t_ k_ => X199.caload hx (j := (2 : Int32)) (v := (.int r_17)) (by exact Ar242.1) (State.isArrayOf_alike hZ.alike Ar242.2.1) Ar242.2.2 hin242 hat242 (g := (mkF m 169 (own_A p0 p1 p2 (5 : Int32) dd b1 (.val (.ref x_194)) (.val (.ref y_199)) (.val (.int (-1 : Int32))) .unset) [(.int (2 : Int32)), (.ref b1)])) rfl rfl (hb hby at_169) _ k_) ?_
      refine own_st (fun t_ k_ => XS.bipush X199.here hx rfl (hb hby at_170) k_) ?_
      refine own_st (fun t_ k_ => XS.icmpYes X199.here hx rfl (pc0 := 172) (pc' := 181) rfl (hb hby at_172) rfl (feq d2).2 (by decide) (by decide) k_) ?_
      refine own_st (fun t_ k_ => XS.iloadN X199.here hx rfl (hb hby at_181) rfl k_) ?_
      refine own_st (fun t_ k_ => XS.iconst X199.here hx rfl (hb hby at_182) k_) ?_
      show own_Go p e below T199 (mkF m 183 (own_A p0 p1 p2 (5 : Int32) dd b1 (.val (.ref x_194)) (.val (.ref y_199)) (.val (.int (-1 : Int32))) .unset) [(.int (1 : Int32)), (.int (5 : Int32))]) _
      refine own_st (fun t_ k_ => XS.icmpNo X199.here hx rfl (hb hby at_183) rfl (by decide) k_) ?_
      refine own_st (fun t_ k_ => XS.aload X199.here hx rfl (hb hby at_186) rfl rfl k_) ?_
      refine own_st (fun t_ k_ => XS.iconst X199.here hx rfl (hb hby at_188) k_) ?_
      show own_Go p e below T199 (mkF m 189 (own_A p0 p1 p2 (5 : Int32) dd b1 (.val (.ref x_194)) (.val (.ref y_199)) (.val (.int (-1 : Int32))) .unset) [(.int (1 : Int32)), (.ref b1)]) _
      obtain ⟨cl243, Ar243, q243, Sz243, Nn243, Hh243, Gg243⟩ := id f239
      have hin243 : ¬ ((1 : Int32) < 0 ∨ cl243.slots.size ≤ ((1 : Int32)).toNatClampNeg) := inb_of Sz243 ⟨by decide, by decide⟩
      have hat243 : cl243.slots[((1 : Int32)).toNatClampNeg]? = some (.int r_11) := Has.at Hh243 hin243 rfl
      refine own_st (fun t_ k_ => X199.caload hx (j := (1 : Int32)) (v := (.int r_11)) (by exact Ar243.1) (State.isArrayOf_alike hZ.alike Ar243.2.1) Ar243.2.2 hin243 hat243 (g := (mkF m 189 (own_A p0 p1 p2 (5 : Int32) dd b1 (.val (.ref x_194)) (.val (.ref y_199)) (.val (.int (-1 : Int32))) .unset) [(.int (1 : Int32)), (.ref b1)])) rfl rfl (hb hby at_189) _ k_) ?_
      refine own_st (fun t_ k_ => XS.bipush X199.here hx rfl (hb hby at_190) k_) ?_
      refine own_st (fun t_ k_ => XS.icmpNo X199.here hx rfl (hb hby at_192) rfl (teq d1).2 k_) ?_
      refine own_st (fun t_ k_ => XS.iconst X199.here hx rfl (hb hby at_195) k_) ?_
      refine own_st (fun t_ k_ => XS.istore X199.here hx rfl (hb hby at_196) rfl (l' := (own_A p0 p1 p2 (5 : Int32) dd b1 (.val (.ref x_194)) (.val (.ref y_199)) (.val (.int (1 : Int32))) .unset)) rfl k_) ?_
      show own_Go p e below T199 (mkF m 198 (own_A p0 p1 p2 (5 : Int32) dd b1 (.val (.ref x_194)) (.val (.ref y_199)) (.val (.int (1 : Int32))) .unset) []) _
      refine own_st (fun t_ k_ => XS.goto X199.here hx rfl (pc0 := 198) (pc' := 213) rfl (hb hby at_198) (by decide) (by decide) k_) ?_
      refine own_st (fun t_ k_ => XS.iload X199.here hx rfl (hb hby at_213) rfl k_) ?_
      refine own_st (fun t_ k_ => XS.ifYes X199.here hx rfl (pc0 := 215) (pc' := 222) rfl (hb hby at_215) rfl (by decide) (by decide) (by decide) k_) ?_
      refine own_st (fun t_ k_ => XS.iload X199.here hx rfl (hb hby at_222) rfl k_) ?_
      refine own_st (fun t_ k_ => XS.istore X199.here hx rfl (hb hby at_224) rfl (l' := (own_A p0 p1 p2 (5 : Int32) dd b1 (.val (.ref x_194)) (.val (.ref y_199)) (.val (.int (1 : Int32))) (.val (.int (1 : Int32))))) rfl k_) ?_
      refine own_st (fun t_ k_ => XS.aload X199.here hx rfl (hb hby at_226) rfl rfl k_) ?_
      show own_Go p e below T199 (mkF m 228 (own_A p0 p1 p2 (5 : Int32) dd b1 (.val (.ref x_194)) (.val (.ref y_199)) (.val (.int (1 : Int32))) (.val (.int (1 : Int32)))) [(.ref y_199)]) _
      refine own_st (fun t_ k_ => XS.ifnullNo X199.here hx rfl (hb hby at_228) rfl k_) ?_
      refine own_st (fun t_ k_ => XS.aload X199.here hx rfl (hb hby at_231) rfl rfl k_) ?_
      show own_Go p e below T199 (mkF m 233 (own_A p0 p1 p2 (5 : Int32) dd b1 (.val (.ref x_194)) (.val (.ref y_199)) (.val (.int (1 : Int32))) (.val (.int (1 : Int32)))) [(.ref y_199)]) _
      have hcd244 : StrChars.Road.CodA ([r_5] : List Int32) 0 (1 : Int32) ((([r_5] : List Int32).map (fun c : Int32 => c.toInt8.toInt32)).map Value.int) := StrChars.Road.codOf rfl (fun x hx => (hpe x hx).2)
      have hbd244 : ∀ x ∈ ([r_5] : List Int32), ¬ x < 0 ∧ ¬ (65535 : Int32) < x := own_up _ hpe
      have f245 := (f198.keep Kq199 all0)
      obtain ⟨cq246, kq246, qa246, qb246, qc246⟩ := isOf hZ rfl q199_0
      obtain ⟨_, _, ⟨T246, L246, k246, n246⟩, -, X246, ⟨Lc246, hQ246, l246, y246, z246⟩, st246⟩ := X199.virtualBack hx (y := (⟨"java/lang/String", "length", "()I"⟩ : MethodName)) (z := (⟨"java/lang/String", "length", "()I"⟩ : MethodName)) hown (mvT hZ (hw _ (List.mem_of_getElem? (i := 112) rfl))) (mvT hZ (hw _ (List.mem_of_getElem? (i := 47) rfl))) (notFace_of_selects (args := #[]) (mvT hZ (hw _ (List.mem_of_getElem? (i := 49) rfl)))) (mvT hZ (hw _ (List.mem_of_getElem? (i := 49) rfl))) (mvT hZ (hw _ (List.mem_of_getElem? (i := 48) rfl))) (by decide) (StrChars.Road.lenW (W := 0) hZ hln (kI := 4) (hw _ (List.mem_of_getElem? (i := 9) rfl)) q199_0 q199_1 q199_2 q199_3 hcd244 hbd244 (pS_COMPACT_STRINGS.ext f245.2) pP5 (Nat.le_of_ble_eq_true rfl) (by decide) (by decide)) qa246 qc246 (g := (mkF m 233 (own_A p0 p1 p2 (5 : Int32) dd b1 (.val (.ref x_194)) (.val (.ref y_199)) (.val (.int (1 : Int32))) (.val (.int (1 : Int32)))) [(.ref y_199)])) rfl (by rw [hml]; rfl) (Steps.refl _) (argsL := []) (rest := []) (lenOf pd___I rfl) rfl (by show 2 * 0 + _ ≤ _; exact Nat.le_of_eq rfl) (hb hby at_233) (fun _ _ => ⟨rfl, rfl, (by decide : 6 + 0 ≤ _), (by decide : 27 + 0 ≤ _)⟩)
      dsimp only [Pt.U, Pt.locs, Pt.cells, Pt.slots] at X246 l246 y246 z246 st246 hQ246
      try dsimp only [Nat.reduceAdd] at y246 z246
      rw [l246, y246, z246] at X246
      obtain ⟨rfl, rfl, eH246⟩ := hQ246
      have N246 := Fr.app N199 (Fr.nil n0)
      refine own_tr st246 ?_
      show own_Go p e below T246 (mkF m 236 (own_A p0 p1 p2 (5 : Int32) dd b1 (.val (.ref x_194)) (.val (.ref y_199)) (.val (.int (1 : Int32))) (.val (.int (1 : Int32)))) [(.int (1 : Int32))]) _
      refine own_st (fun t_ k_ => XS.iload X246.here hx rfl (hb hby at_236) rfl k_) ?_
      refine own_st (fun t_ k_ => XS.icmpNo X246.here hx rfl (hb hby at_238) rfl (by decide) k_) ?_
      refine own_st (fun t_ k_ => XS.iload X246.here hx rfl (hb hby at_241) rfl k_) ?_
      refine own_st (fun t_ k_ => XS.iconst X246.here hx rfl (hb hby at_243) k_) ?_
      refine own_st (fun t_ k_ => XS.icmpNo X246.here hx rfl (hb hby at_244) rfl (by decide) k_) ?_
      show own_Go p e below T246 (mkF m 247 (own_A p0 p1 p2 (5 : Int32) dd b1 (.val (.ref x_194)) (.val (.ref y_199)) (.val (.int (1 : Int32))) (.val (.int (1 : Int32)))) []) _
      refine own_st (fun t_ k_ => XS.aload X246.here hx rfl (hb hby at_247) rfl rfl k_) ?_
      refine own_st (fun t_ k_ => XS.iconst X246.here hx rfl (hb hby at_249) k_) ?_
      show own_Go p e below T246 (mkF m 250 (own_A p0 p1 p2 (5 : Int32) dd b1 (.val (.ref x_194)) (.val (.ref y_199)) (.val (.int (1 : Int32))) (.val (.int (1 : Int32)))) [(.int (0 : Int32)), (.ref y_199)]) _
      obtain ⟨cq247, kq247, qa247, qb247, qc247⟩ := isOf hZ eH246 q199_0
      obtain ⟨_, _, ⟨T247, L247, k247, n247⟩, -, X247, ⟨Lc247, hQ247, l247, y247, z247⟩, st247⟩ := X246.virtualBack hx (y := (⟨"java/lang/String", "charAt", "(I)C"⟩ : MethodName)) (z := (⟨"java/lang/String", "charAt", "(I)C"⟩ : MethodName)) hown (mvT hZ (hw _ (List.mem_of_getElem? (i := 113) rfl))) (mvT hZ (hw _ (List.mem_of_getElem? (i := 114) rfl))) (notFace_of_selects (args := #[]) (mvT hZ (hw _ (List.mem_of_getElem? (i := 116) rfl)))) (mvT hZ (hw _ (List.mem_of_getElem? (i := 116) rfl))) (mvT hZ (hw _ (List.mem_of_getElem? (i := 115) rfl))) (by decide) (StrChars.Road.chN (W := 0) hZ hch (kI := 4) (hw _ (List.mem_of_getElem? (i := 9) rfl)) q199_0 q199_1 q199_2 q199_3 hcd244 hbd244 (pS_COMPACT_STRINGS.ext f245.2) pP5 (pS_SIOOBE_FORMATTER.ext f245.2) rfm (Nat.le_of_ble_eq_true rfl) (i := 0) (Nat.le_of_ble_eq_true rfl) (j := (0 : Int32)) rfl (by decide) (by decide)) qa247 qc247 (g := (mkF m 250 (own_A p0 p1 p2 (5 : Int32) dd b1 (.val (.ref x_194)) (.val (.ref y_199)) (.val (.int (1 : Int32))) (.val (.int (1 : Int32)))) [(.int (0 : Int32)), (.ref y_199)])) rfl (by rw [hml]; rfl) (Steps.refl _) (argsL := [(.int (0 : Int32))]) (rest := []) (lenOf pd__I_C rfl) rfl (by show 2 * 0 + _ ≤ _; exact Nat.le_of_eq rfl) (hb hby at_250) (fun _ _ => ⟨rfl, eH246, (by decide : 6 + 0 ≤ _), (by decide : 27 + 0 ≤ _)⟩)
      dsimp only [Pt.U, Pt.locs, Pt.cells, Pt.slots] at X247 l247 y247 z247 st247 hQ247
      try dsimp only [Nat.reduceAdd] at y247 z247
      rw [l247, y247, z247] at X247
      obtain ⟨rfl, rfl, eH247⟩ := hQ247
      have N247 := Fr.app N246 (Fr.nil n0)
      refine own_tr st247 ?_
      show own_Go p e below T247 (mkF m 253 (own_A p0 p1 p2 (5 : Int32) dd b1 (.val (.ref x_194)) (.val (.ref y_199)) (.val (.int (1 : Int32))) (.val (.int (1 : Int32)))) [(.int r_5)]) _
      refine own_st (fun t_ k_ => XS.aload X247.here hx rfl (hb hby at_253) rfl rfl k_) ?_
      refine own_st (fun t_ k_ => XS.iconst X247.here hx rfl (hb hby at_255) k_) ?_
      show own_Go p e below T247 (mkF m 256 (own_A p0 p1 p2 (5 : Int32) dd b1 (.val (.ref x_194)) (.val (.ref y_199)) (.val (.int (1 : Int32))) (.val (.int (1 : Int32)))) [(.int (0 : Int32)), (.ref b1), (.int r_5)]) _
      obtain ⟨cl248, Ar248, q248, Sz248, Nn248, Hh248, Gg248⟩ := id f239
      have hin248 : ¬ ((0 : Int32) < 0 ∨ cl248.slots.size ≤ ((0 : Int32)).toNatClampNeg) := inb_of Sz248 ⟨by decide, by decide⟩
      have hat248 : cl248.slots[((0 : Int32)).toNatClampNeg]? = some (.int r_5) := Has.at Hh248 hin248 rfl
      refine own_st (fun t_ k_ => X247.caload hx (j := (0 : Int32)) (v := (.int r_5)) (by rw [eH247]; exact Ar248.1) (State.isArrayOf_alike hZ.alike Ar248.2.1) Ar248.2.2 hin248 hat248 (g := (mkF m 256 (own_A p0 p1 p2 (5 : Int32) dd b1 (.val (.ref x_194)) (.val (.ref y_199)) (.val (.int (1 : Int32))) (.val (.int (1 : Int32)))) [(.int (0 : Int32)), (.ref b1), (.int r_5)])) rfl rfl (hb hby at_256) _ k_) ?_
      refine own_st (fun t_ k_ => XS.icmpNo X247.here hx rfl (hb hby at_257) rfl (teq rfl).2 k_) ?_
      refine own_st (fun t_ k_ => XS.iload X247.here hx rfl (hb hby at_260) rfl k_) ?_
      refine own_st (fun t_ k_ => XS.iconst X247.here hx rfl (hb hby at_262) k_) ?_
      refine own_st (fun t_ k_ => XS.icmpYes X247.here hx rfl (pc0 := 263) (pc' := 279) rfl (hb hby at_263) rfl (by decide) (by decide) (by decide) k_) ?_
      show own_Go p e below T247 (mkF m 279 (own_A p0 p1 p2 (5 : Int32) dd b1 (.val (.ref x_194)) (.val (.ref y_199)) (.val (.int (1 : Int32))) (.val (.int (1 : Int32)))) []) _
      refine own_st (fun t_ k_ => XS.iload X247.here hx rfl (hb hby at_279) rfl k_) ?_
      refine own_st (fun t_ k_ => XS.iconst X247.here hx rfl (hb hby at_281) k_) ?_
      refine own_st (fun t_ k_ => XS.icmpYes X247.here hx rfl (pc0 := 282) (pc' := 298) rfl (hb hby at_282) rfl (by decide) (by decide) (by decide) k_) ?_
      refine own_st (fun t_ k_ => XS.iload X247.here hx rfl (hb hby at_298) rfl k_) ?_
      refine own_st (fun t_ k_ => XS.iconst X247.here hx rfl (hb hby at_300) k_) ?_
      refine own_st (fun t_ k_ => XS.icmpYes X247.here hx rfl (pc0 := 301) (pc' := 317) rfl (hb hby at_301) rfl (by decide) (by decide) (by decide) k_) ?_
      show own_Go p e below T247 (mkF m 317 (own_A p0 p1 p2 (5 : Int32) dd b1 (.val (.ref x_194)) (.val (.ref y_199)) (.val (.int (1 : Int32))) (.val (.int (1 : Int32)))) []) _
      refine own_st (fun t_ k_ => XS.iconst X247.here hx rfl (hb hby at_317) k_) ?_
      refine own_st (fun t_ k_ => XS.goto X247.here hx rfl (pc0 := 318) (pc' := 322) rfl (hb hby at_318) (by decide) (by decide) k_) ?_
      show own_Go p e below T247 (mkF m 322 (own_A p0 p1 p2 (5 : Int32) dd b1 (.val (.ref x_194)) (.val (.ref y_199)) (.val (.int (1 : Int32))) (.val (.int (1 : Int32)))) [(.int (1 : Int32))]) _
      obtain ⟨fs, hr, hrun, hended, hRW⟩ := X247.leaveW hS (by rw [eH247]; exact hK199) (v := some (.int (1 : Int32))) (fun h => by rw [Bd.returns] at h; cases h)
      have hCend : CHr Z own_EL s.vm s.heap T247.vm T247.heap := by
        rw [hh, eH247]
        exact CHr.trans CR201 (CHv.at X247 hZ hEL CH201)
      refine own_fin (retN X247 hx (t := .boolean) Bd.returns (by simp) (hb hby at_322) hr) ⟨hrun, hended, _, _, rfl, ?_, hCend, hRW.1, hRW.2.1, hRW.2.2.1, hRW.2.2.2.mono (by decide) (by decide)⟩
      show Q_rmLaw Z p0 p1 p2 zc fm h0 n0 _ T247.heap _
      rw [eH247]
      exact ⟨rfl, N247, K202⟩
    · skip
      have hpe : ∀ c ∈ ([] : List Int32), ¬ c < 0 ∧ ¬ (255 : Int32) < c := by
        intro c hc
        simp only [List.mem_cons, List.not_mem_nil, or_false] at hc
      obtain ⟨d0, d4, d3, d2, d1⟩ := hj
      refine own_st (fun t_ k_ => XS.astore X199.here hx rfl (hb hby at_116) rfl rfl (l' := (own_A p0 p1 p2 (5 : Int32) dd b1 (.val (.ref x_194)) (.val (.ref y_199)) .unset .unset)) rfl k_) ?_
      refine own_st (fun t_ k_ => XS.iconst X199.here hx rfl (hb hby at_118) k_) ?_
      refine own_st (fun t_ k_ => XS.istore X199.here hx rfl (hb hby at_119) rfl (l' := (own_A p0 p1 p2 (5 : Int32) dd b1 (.val (.ref x_194)) (.val (.ref y_199)) (.val (.int (-1 : Int32))) .unset)) rfl k_) ?_
      refine own_st (fun t_ k_ => XS.iloadN X199.here hx rfl (hb hby at_121) rfl k_) ?_
      refine own_st (fun t_ k_ => XS.iconst X199.here hx rfl (hb hby at_122) k_) ?_
      show own_Go p e below T199 (mkF m 123 (own_A p0 p1 p2 (5 : Int32) dd b1 (.val (.ref x_194)) (.val (.ref y_199)) (.val (.int (-1 : Int32))) .unset) [(.int (4 : Int32)), (.int (5 : Int32))]) _
      refine own_st (fun t_ k_ => XS.icmpNo X199.here hx rfl (hb hby at_123) rfl (by decide) k_) ?_
      refine own_st (fun t_ k_ => XS.aload X199.here hx rfl (hb hby at_126) rfl rfl k_) ?_
      refine own_st (fun t_ k_ => XS.iconst X199.here hx rfl (hb hby at_128) k_) ?_
      show own_Go p e below T199 (mkF m 129 (own_A p0 p1 p2 (5 : Int32) dd b1 (.val (.ref x_194)) (.val (.ref y_199)) (.val (.int (-1 : Int32))) .unset) [(.int (4 : Int32)), (.ref b1)]) _
      have f249 := ((V31.keep Kq194 nin0).keep Kq199 nin0)
      obtain ⟨cl250, Ar250, q250, Sz250, Nn250, Hh250, Gg250⟩ := id f249
      have hin250 : ¬ ((4 : Int32) < 0 ∨ cl250.slots.size ≤ ((4 : Int32)).toNatClampNeg) := inb_of Sz250 ⟨by decide, by decide⟩
      have hat250 : cl250.slots[((4 : Int32)).toNatClampNeg]? = some (.int r_29) := Has.at Hh250 hin250 rfl
      refine own_st (fun t_ k_ => X199.caload hx (j := (4 : Int32)) (v := (.int r_29)) (by exact Ar250.1) (State.isArrayOf_alike hZ.alike Ar250.2.1) Ar250.2.2 hin250 hat250 (g := (mkF m 129 (own_A p0 p1 p2 (5 : Int32) dd b1 (.val (.ref x_194)) (.val (.ref y_199)) (.val (.int (-1 : Int32))) .unset) [(.int (4 : Int32)), (.ref b1)])) rfl rfl (hb hby at_129) _ k_) ?_
      refine own_st (fun t_ k_ => XS.bipush X199.here hx rfl (hb hby at_130) k_) ?_
      refine own_st (fun t_ k_ => XS.icmpYes X199.here hx rfl (pc0 := 132) (pc' := 141) rfl (hb hby at_132) rfl (feq d4).2 (by decide) (by decide) k_) ?_
      refine own_st (fun t_ k_ => XS.iloadN X199.here hx rfl (hb hby at_141) rfl k_) ?_
      refine own_st (fun t_ k_ => XS.iconst X199.here hx rfl (hb hby at_142) k_) ?_
      show own_Go p e below T199 (mkF m 143 (own_A p0 p1 p2 (5 : Int32) dd b1 (.val (.ref x_194)) (.val (.ref y_199)) (.val (.int (-1 : Int32))) .unset) [(.int (3 : Int32)), (.int (5 : Int32))]) _
      refine own_st (fun t_ k_ => XS.icmpNo X199.here hx rfl (hb hby at_143) rfl (by decide) k_) ?_
      refine own_st (fun t_ k_ => XS.aload X199.here hx rfl (hb hby at_146) rfl rfl k_) ?_
      refine own_st (fun t_ k_ => XS.iconst X199.here hx rfl (hb hby at_148) k_) ?_
      show own_Go p e below T199 (mkF m 149 (own_A p0 p1 p2 (5 : Int32) dd b1 (.val (.ref x_194)) (.val (.ref y_199)) (.val (.int (-1 : Int32))) .unset) [(.int (3 : Int32)), (.ref b1)]) _
      obtain ⟨cl251, Ar251, q251, Sz251, Nn251, Hh251, Gg251⟩ := id f249
      have hin251 : ¬ ((3 : Int32) < 0 ∨ cl251.slots.size ≤ ((3 : Int32)).toNatClampNeg) := inb_of Sz251 ⟨by decide, by decide⟩
      have hat251 : cl251.slots[((3 : Int32)).toNatClampNeg]? = some (.int r_23) := Has.at Hh251 hin251 rfl
      refine own_st (fun t_ k_ => X199.caload hx (j := (3 : Int32)) (v := (.int r_23)) (by exact Ar251.1) (State.isArrayOf_alike hZ.alike Ar251.2.1) Ar251.2.2 hin251 hat251 (g := (mkF m 149 (own_A p0 p1 p2 (5 : Int32) dd b1 (.val (.ref x_194)) (.val (.ref y_199)) (.val (.int (-1 : Int32))) .unset) [(.int (3 : Int32)), (.ref b1)])) rfl rfl (hb hby at_149) _ k_) ?_
      refine own_st (fun t_ k_ => XS.bipush X199.here hx rfl (hb hby at_150) k_) ?_
      refine own_st (fun t_ k_ => XS.icmpYes X199.here hx rfl (pc0 := 152) (pc' := 161) rfl (hb hby at_152) rfl (feq d3).2 (by decide) (by decide) k_) ?_
      refine own_st (fun t_ k_ => XS.iloadN X199.here hx rfl (hb hby at_161) rfl k_) ?_
      refine own_st (fun t_ k_ => XS.iconst X199.here hx rfl (hb hby at_162) k_) ?_
      show own_Go p e below T199 (mkF m 163 (own_A p0 p1 p2 (5 : Int32) dd b1 (.val (.ref x_194)) (.val (.ref y_199)) (.val (.int (-1 : Int32))) .unset) [(.int (2 : Int32)), (.int (5 : Int32))]) _
      refine own_st (fun t_ k_ => XS.icmpNo X199.here hx rfl (hb hby at_163) rfl (by decide) k_) ?_
      refine own_st (fun t_ k_ => XS.aload X199.here hx rfl (hb hby at_166) rfl rfl k_) ?_
      refine own_st (fun t_ k_ => XS.iconst X199.here hx rfl (hb hby at_168) k_) ?_
      show own_Go p e below T199 (mkF m 169 (own_A p0 p1 p2 (5 : Int32) dd b1 (.val (.ref x_194)) (.val (.ref y_199)) (.val (.int (-1 : Int32))) .unset) [(.int (2 : Int32)), (.ref b1)]) _
      obtain ⟨cl252, Ar252, q252, Sz252, Nn252, Hh252, Gg252⟩ := id f249
      have hin252 : ¬ ((2 : Int32) < 0 ∨ cl252.slots.size ≤ ((2 : Int32)).toNatClampNeg) := inb_of Sz252 ⟨by decide, by decide⟩
      have hat252 : cl252.slots[((2 : Int32)).toNatClampNeg]? = some (.int r_17) := Has.at Hh252 hin252 rfl
      refine own_st (fun t_ k_ => X199.caload hx (j := (2 : Int32)) (v := (.int r_17)) (by exact Ar252.1) (State.isArrayOf_alike hZ.alike Ar252.2.1) Ar252.2.2 hin252 hat252 (g := (mkF m 169 (own_A p0 p1 p2 (5 : Int32) dd b1 (.val (.ref x_194)) (.val (.ref y_199)) (.val (.int (-1 : Int32))) .unset) [(.int (2 : Int32)), (.ref b1)])) rfl rfl (hb hby at_169) _ k_) ?_
      refine own_st (fun t_ k_ => XS.bipush X199.here hx rfl (hb hby at_170) k_) ?_
      refine own_st (fun t_ k_ => XS.icmpYes X199.here hx rfl (pc0 := 172) (pc' := 181) rfl (hb hby at_172) rfl (feq d2).2 (by decide) (by decide) k_) ?_
      refine own_st (fun t_ k_ => XS.iloadN X199.here hx rfl (hb hby at_181) rfl k_) ?_
      refine own_st (fun t_ k_ => XS.iconst X199.here hx rfl (hb hby at_182) k_) ?_
      show own_Go p e below T199 (mkF m 183 (own_A p0 p1 p2 (5 : Int32) dd b1 (.val (.ref x_194)) (.val (.ref y_199)) (.val (.int (-1 : Int32))) .unset) [(.int (1 : Int32)), (.int (5 : Int32))]) _
      refine own_st (fun t_ k_ => XS.icmpNo X199.here hx rfl (hb hby at_183) rfl (by decide) k_) ?_
      refine own_st (fun t_ k_ => XS.aload X199.here hx rfl (hb hby at_186) rfl rfl k_) ?_
      refine own_st (fun t_ k_ => XS.iconst X199.here hx rfl (hb hby at_188) k_) ?_
      show own_Go p e below T199 (mkF m 189 (own_A p0 p1 p2 (5 : Int32) dd b1 (.val (.ref x_194)) (.val (.ref y_199)) (.val (.int (-1 : Int32))) .unset) [(.int (1 : Int32)), (.ref b1)]) _
      obtain ⟨cl253, Ar253, q253, Sz253, Nn253, Hh253, Gg253⟩ := id f249
      have hin253 : ¬ ((1 : Int32) < 0 ∨ cl253.slots.size ≤ ((1 : Int32)).toNatClampNeg) := inb_of Sz253 ⟨by decide, by decide⟩
      have hat253 : cl253.slots[((1 : Int32)).toNatClampNeg]? = some (.int r_11) := Has.at Hh253 hin253 rfl
      refine own_st (fun t_ k_ => X199.caload hx (j := (1 : Int32)) (v := (.int r_11)) (by exact Ar253.1) (State.isArrayOf_alike hZ.alike Ar253.2.1) Ar253.2.2 hin253 hat253 (g := (mkF m 189 (own_A p0 p1 p2 (5 : Int32) dd b1 (.val (.ref x_194)) (.val (.ref y_199)) (.val (.int (-1 : Int32))) .unset) [(.int (1 : Int32)), (.ref b1)])) rfl rfl (hb hby at_189) _ k_) ?_
      refine own_st (fun t_ k_ => XS.bipush X199.here hx rfl (hb hby at_190) k_) ?_
      refine own_st (fun t_ k_ => XS.icmpYes X199.here hx rfl (pc0 := 192) (pc' := 201) rfl (hb hby at_192) rfl (feq d1).2 (by decide) (by decide) k_) ?_
      refine own_st (fun t_ k_ => XS.aload X199.here hx rfl (hb hby at_201) rfl rfl k_) ?_
      refine own_st (fun t_ k_ => XS.iconst X199.here hx rfl (hb hby at_203) k_) ?_
      show own_Go p e below T199 (mkF m 204 (own_A p0 p1 p2 (5 : Int32) dd b1 (.val (.ref x_194)) (.val (.ref y_199)) (.val (.int (-1 : Int32))) .unset) [(.int (0 : Int32)), (.ref b1)]) _
      obtain ⟨cl254, Ar254, q254, Sz254, Nn254, Hh254, Gg254⟩ := id f249
      have hin254 : ¬ ((0 : Int32) < 0 ∨ cl254.slots.size ≤ ((0 : Int32)).toNatClampNeg) := inb_of Sz254 ⟨by decide, by decide⟩
      have hat254 : cl254.slots[((0 : Int32)).toNatClampNeg]? = some (.int r_5) := Has.at Hh254 hin254 rfl
      refine own_st (fun t_ k_ => X199.caload hx (j := (0 : Int32)) (v := (.int r_5)) (by exact Ar254.1) (State.isArrayOf_alike hZ.alike Ar254.2.1) Ar254.2.2 hin254 hat254 (g := (mkF m 204 (own_A p0 p1 p2 (5 : Int32) dd b1 (.val (.ref x_194)) (.val (.ref y_199)) (.val (.int (-1 : Int32))) .unset) [(.int (0 : Int32)), (.ref b1)])) rfl rfl (hb hby at_204) _ k_) ?_
      refine own_st (fun t_ k_ => XS.bipush X199.here hx rfl (hb hby at_205) k_) ?_
      refine own_st (fun t_ k_ => XS.icmpNo X199.here hx rfl (hb hby at_207) rfl (teq d0).2 k_) ?_
      refine own_st (fun t_ k_ => XS.iconst X199.here hx rfl (hb hby at_210) k_) ?_
      refine own_st (fun t_ k_ => XS.istore X199.here hx rfl (hb hby at_211) rfl (l' := (own_A p0 p1 p2 (5 : Int32) dd b1 (.val (.ref x_194)) (.val (.ref y_199)) (.val (.int (0 : Int32))) .unset)) rfl k_) ?_
      show own_Go p e below T199 (mkF m 213 (own_A p0 p1 p2 (5 : Int32) dd b1 (.val (.ref x_194)) (.val (.ref y_199)) (.val (.int (0 : Int32))) .unset) []) _
      refine own_st (fun t_ k_ => XS.iload X199.here hx rfl (hb hby at_213) rfl k_) ?_
      refine own_st (fun t_ k_ => XS.ifYes X199.here hx rfl (pc0 := 215) (pc' := 222) rfl (hb hby at_215) rfl (by decide) (by decide) (by decide) k_) ?_
      refine own_st (fun t_ k_ => XS.iload X199.here hx rfl (hb hby at_222) rfl k_) ?_
      refine own_st (fun t_ k_ => XS.istore X199.here hx rfl (hb hby at_224) rfl (l' := (own_A p0 p1 p2 (5 : Int32) dd b1 (.val (.ref x_194)) (.val (.ref y_199)) (.val (.int (0 : Int32))) (.val (.int (0 : Int32))))) rfl k_) ?_
      refine own_st (fun t_ k_ => XS.aload X199.here hx rfl (hb hby at_226) rfl rfl k_) ?_
      refine own_st (fun t_ k_ => XS.ifnullNo X199.here hx rfl (hb hby at_228) rfl k_) ?_
      show own_Go p e below T199 (mkF m 231 (own_A p0 p1 p2 (5 : Int32) dd b1 (.val (.ref x_194)) (.val (.ref y_199)) (.val (.int (0 : Int32))) (.val (.int (0 : Int32)))) []) _
      refine own_st (fun t_ k_ => XS.aload X199.here hx rfl (hb hby at_231) rfl rfl k_) ?_
      show own_Go p e below T199 (mkF m 233 (own_A p0 p1 p2 (5 : Int32) dd b1 (.val (.ref x_194)) (.val (.ref y_199)) (.val (.int (0 : Int32))) (.val (.int (0 : Int32)))) [(.ref y_199)]) _
      have hcd255 : StrChars.Road.CodA ([] : List Int32) 0 (0 : Int32) ((([] : List Int32).map (fun c : Int32 => c.toInt8.toInt32)).map Value.int) := StrChars.Road.codOf rfl (fun x hx => (hpe x hx).2)
      have hbd255 : ∀ x ∈ ([] : List Int32), ¬ x < 0 ∧ ¬ (65535 : Int32) < x := own_up _ hpe
      have f256 := (f198.keep Kq199 all0)
      obtain ⟨cq257, kq257, qa257, qb257, qc257⟩ := isOf hZ rfl q199_0
      obtain ⟨_, _, ⟨T257, L257, k257, n257⟩, -, X257, ⟨Lc257, hQ257, l257, y257, z257⟩, st257⟩ := X199.virtualBack hx (y := (⟨"java/lang/String", "length", "()I"⟩ : MethodName)) (z := (⟨"java/lang/String", "length", "()I"⟩ : MethodName)) hown (mvT hZ (hw _ (List.mem_of_getElem? (i := 112) rfl))) (mvT hZ (hw _ (List.mem_of_getElem? (i := 47) rfl))) (notFace_of_selects (args := #[]) (mvT hZ (hw _ (List.mem_of_getElem? (i := 49) rfl)))) (mvT hZ (hw _ (List.mem_of_getElem? (i := 49) rfl))) (mvT hZ (hw _ (List.mem_of_getElem? (i := 48) rfl))) (by decide) (StrChars.Road.lenW (W := 0) hZ hln (kI := 4) (hw _ (List.mem_of_getElem? (i := 9) rfl)) q199_0 q199_1 q199_2 q199_3 hcd255 hbd255 (pS_COMPACT_STRINGS.ext f256.2) pP5 (Nat.le_of_ble_eq_true rfl) (by decide) (by decide)) qa257 qc257 (g := (mkF m 233 (own_A p0 p1 p2 (5 : Int32) dd b1 (.val (.ref x_194)) (.val (.ref y_199)) (.val (.int (0 : Int32))) (.val (.int (0 : Int32)))) [(.ref y_199)])) rfl (by rw [hml]; rfl) (Steps.refl _) (argsL := []) (rest := []) (lenOf pd___I rfl) rfl (by show 2 * 0 + _ ≤ _; exact Nat.le_of_eq rfl) (hb hby at_233) (fun _ _ => ⟨rfl, rfl, (by decide : 6 + 0 ≤ _), (by decide : 27 + 0 ≤ _)⟩)
      dsimp only [Pt.U, Pt.locs, Pt.cells, Pt.slots] at X257 l257 y257 z257 st257 hQ257
      try dsimp only [Nat.reduceAdd] at y257 z257
      rw [l257, y257, z257] at X257
      obtain ⟨rfl, rfl, eH257⟩ := hQ257
      have N257 := Fr.app N199 (Fr.nil n0)
      refine own_tr st257 ?_
      show own_Go p e below T257 (mkF m 236 (own_A p0 p1 p2 (5 : Int32) dd b1 (.val (.ref x_194)) (.val (.ref y_199)) (.val (.int (0 : Int32))) (.val (.int (0 : Int32)))) [(.int (0 : Int32))]) _
      refine own_st (fun t_ k_ => XS.iload X257.here hx rfl (hb hby at_236) rfl k_) ?_
      refine own_st (fun t_ k_ => XS.icmpNo X257.here hx rfl (hb hby at_238) rfl (by decide) k_) ?_
      refine own_st (fun t_ k_ => XS.iload X257.here hx rfl (hb hby at_241) rfl k_) ?_
      refine own_st (fun t_ k_ => XS.iconst X257.here hx rfl (hb hby at_243) k_) ?_
      refine own_st (fun t_ k_ => XS.icmpYes X257.here hx rfl (pc0 := 244) (pc' := 260) rfl (hb hby at_244) rfl (by decide) (by decide) (by decide) k_) ?_
      show own_Go p e below T257 (mkF m 260 (own_A p0 p1 p2 (5 : Int32) dd b1 (.val (.ref x_194)) (.val (.ref y_199)) (.val (.int (0 : Int32))) (.val (.int (0 : Int32)))) []) _
      refine own_st (fun t_ k_ => XS.iload X257.here hx rfl (hb hby at_260) rfl k_) ?_
      refine own_st (fun t_ k_ => XS.iconst X257.here hx rfl (hb hby at_262) k_) ?_
      refine own_st (fun t_ k_ => XS.icmpYes X257.here hx rfl (pc0 := 263) (pc' := 279) rfl (hb hby at_263) rfl (by decide) (by decide) (by decide) k_) ?_
      refine own_st (fun t_ k_ => XS.iload X257.here hx rfl (hb hby at_279) rfl k_) ?_
      refine own_st (fun t_ k_ => XS.iconst X257.here hx rfl (hb hby at_281) k_) ?_
      refine own_st (fun t_ k_ => XS.icmpYes X257.here hx rfl (pc0 := 282) (pc' := 298) rfl (hb hby at_282) rfl (by decide) (by decide) (by decide) k_) ?_
      show own_Go p e below T257 (mkF m 298 (own_A p0 p1 p2 (5 : Int32) dd b1 (.val (.ref x_194)) (.val (.ref y_199)) (.val (.int (0 : Int32))) (.val (.int (0 : Int32)))) []) _
      refine own_st (fun t_ k_ => XS.iload X257.here hx rfl (hb hby at_298) rfl k_) ?_
      refine own_st (fun t_ k_ => XS.iconst X257.here hx rfl (hb hby at_300) k_) ?_
      refine own_st (fun t_ k_ => XS.icmpYes X257.here hx rfl (pc0 := 301) (pc' := 317) rfl (hb hby at_301) rfl (by decide) (by decide) (by decide) k_) ?_
      refine own_st (fun t_ k_ => XS.iconst X257.here hx rfl (hb hby at_317) k_) ?_
      refine own_st (fun t_ k_ => XS.goto X257.here hx rfl (pc0 := 318) (pc' := 322) rfl (hb hby at_318) (by decide) (by decide) k_) ?_
      show own_Go p e below T257 (mkF m 322 (own_A p0 p1 p2 (5 : Int32) dd b1 (.val (.ref x_194)) (.val (.ref y_199)) (.val (.int (0 : Int32))) (.val (.int (0 : Int32)))) [(.int (1 : Int32))]) _
      obtain ⟨fs, hr, hrun, hended, hRW⟩ := X257.leaveW hS (by rw [eH257]; exact hK199) (v := some (.int (1 : Int32))) (fun h => by rw [Bd.returns] at h; cases h)
      have hCend : CHr Z own_EL s.vm s.heap T257.vm T257.heap := by
        rw [hh, eH257]
        exact CHr.trans CR201 (CHv.at X257 hZ hEL CH201)
      refine own_fin (retN X257 hx (t := .boolean) Bd.returns (by simp) (hb hby at_322) hr) ⟨hrun, hended, _, _, rfl, ?_, hCend, hRW.1, hRW.2.1, hRW.2.2.1, hRW.2.2.2.mono (by decide) (by decide)⟩
      show Q_rmLaw Z p0 p1 p2 zc fm h0 n0 _ T257.heap _
      rw [eH257]
      exact ⟨rfl, N257, K202⟩
    · skip
      have hpe : ∀ c ∈ ([r_5] : List Int32), ¬ c < 0 ∧ ¬ (255 : Int32) < c := by
        intro c hc
        simp only [List.mem_cons, List.not_mem_nil, or_false] at hc
        subst hc
        exact own_ch255 q5_0
      obtain ⟨d4, d3, d2, d1, d0⟩ := hj
      refine own_st (fun t_ k_ => XS.astore X199.here hx rfl (hb hby at_116) rfl rfl (l' := (own_A p0 p1 p2 (5 : Int32) dd b1 (.val (.ref x_194)) (.val (.ref y_199)) .unset .unset)) rfl k_) ?_
      refine own_st (fun t_ k_ => XS.iconst X199.here hx rfl (hb hby at_118) k_) ?_
      refine own_st (fun t_ k_ => XS.istore X199.here hx rfl (hb hby at_119) rfl (l' := (own_A p0 p1 p2 (5 : Int32) dd b1 (.val (.ref x_194)) (.val (.ref y_199)) (.val (.int (-1 : Int32))) .unset)) rfl k_) ?_
      refine own_st (fun t_ k_ => XS.iloadN X199.here hx rfl (hb hby at_121) rfl k_) ?_
      refine own_st (fun t_ k_ => XS.iconst X199.here hx rfl (hb hby at_122) k_) ?_
      show own_Go p e below T199 (mkF m 123 (own_A p0 p1 p2 (5 : Int32) dd b1 (.val (.ref x_194)) (.val (.ref y_199)) (.val (.int (-1 : Int32))) .unset) [(.int (4 : Int32)), (.int (5 : Int32))]) _
      refine own_st (fun t_ k_ => XS.icmpNo X199.here hx rfl (hb hby at_123) rfl (by decide) k_) ?_
      refine own_st (fun t_ k_ => XS.aload X199.here hx rfl (hb hby at_126) rfl rfl k_) ?_
      refine own_st (fun t_ k_ => XS.iconst X199.here hx rfl (hb hby at_128) k_) ?_
      show own_Go p e below T199 (mkF m 129 (own_A p0 p1 p2 (5 : Int32) dd b1 (.val (.ref x_194)) (.val (.ref y_199)) (.val (.int (-1 : Int32))) .unset) [(.int (4 : Int32)), (.ref b1)]) _
      have f258 := ((V31.keep Kq194 nin0).keep Kq199 nin0)
      obtain ⟨cl259, Ar259, q259, Sz259, Nn259, Hh259, Gg259⟩ := id f258
      have hin259 : ¬ ((4 : Int32) < 0 ∨ cl259.slots.size ≤ ((4 : Int32)).toNatClampNeg) := inb_of Sz259 ⟨by decide, by decide⟩
      have hat259 : cl259.slots[((4 : Int32)).toNatClampNeg]? = some (.int r_29) := Has.at Hh259 hin259 rfl
      refine own_st (fun t_ k_ => X199.caload hx (j := (4 : Int32)) (v := (.int r_29)) (by exact Ar259.1) (State.isArrayOf_alike hZ.alike Ar259.2.1) Ar259.2.2 hin259 hat259 (g := (mkF m 129 (own_A p0 p1 p2 (5 : Int32) dd b1 (.val (.ref x_194)) (.val (.ref y_199)) (.val (.int (-1 : Int32))) .unset) [(.int (4 : Int32)), (.ref b1)])) rfl rfl (hb hby at_129) _ k_) ?_
      refine own_st (fun t_ k_ => XS.bipush X199.here hx rfl (hb hby at_130) k_) ?_
      refine own_st (fun t_ k_ => XS.icmpYes X199.here hx rfl (pc0 := 132) (pc' := 141) rfl (hb hby at_132) rfl (feq d4).2 (by decide) (by decide) k_) ?_
      refine own_st (fun t_ k_ => XS.iloadN X199.here hx rfl (hb hby at_141) rfl k_) ?_
      refine own_st (fun t_ k_ => XS.iconst X199.here hx rfl (hb hby at_142) k_) ?_
      show own_Go p e below T199 (mkF m 143 (own_A p0 p1 p2 (5 : Int32) dd b1 (.val (.ref x_194)) (.val (.ref y_199)) (.val (.int (-1 : Int32))) .unset) [(.int (3 : Int32)), (.int (5 : Int32))]) _
      refine own_st (fun t_ k_ => XS.icmpNo X199.here hx rfl (hb hby at_143) rfl (by decide) k_) ?_
      refine own_st (fun t_ k_ => XS.aload X199.here hx rfl (hb hby at_146) rfl rfl k_) ?_
      refine own_st (fun t_ k_ => XS.iconst X199.here hx rfl (hb hby at_148) k_) ?_
      show own_Go p e below T199 (mkF m 149 (own_A p0 p1 p2 (5 : Int32) dd b1 (.val (.ref x_194)) (.val (.ref y_199)) (.val (.int (-1 : Int32))) .unset) [(.int (3 : Int32)), (.ref b1)]) _
      obtain ⟨cl260, Ar260, q260, Sz260, Nn260, Hh260, Gg260⟩ := id f258
      have hin260 : ¬ ((3 : Int32) < 0 ∨ cl260.slots.size ≤ ((3 : Int32)).toNatClampNeg) := inb_of Sz260 ⟨by decide, by decide⟩
      have hat260 : cl260.slots[((3 : Int32)).toNatClampNeg]? = some (.int r_23) := Has.at Hh260 hin260 rfl
      refine own_st (fun t_ k_ => X199.caload hx (j := (3 : Int32)) (v := (.int r_23)) (by exact Ar260.1) (State.isArrayOf_alike hZ.alike Ar260.2.1) Ar260.2.2 hin260 hat260 (g := (mkF m 149 (own_A p0 p1 p2 (5 : Int32) dd b1 (.val (.ref x_194)) (.val (.ref y_199)) (.val (.int (-1 : Int32))) .unset) [(.int (3 : Int32)), (.ref b1)])) rfl rfl (hb hby at_149) _ k_) ?_
      refine own_st (fun t_ k_ => XS.bipush X199.here hx rfl (hb hby at_150) k_) ?_
      refine own_st (fun t_ k_ => XS.icmpYes X199.here hx rfl (pc0 := 152) (pc' := 161) rfl (hb hby at_152) rfl (feq d3).2 (by decide) (by decide) k_) ?_
      refine own_st (fun t_ k_ => XS.iloadN X199.here hx rfl (hb hby at_161) rfl k_) ?_
      refine own_st (fun t_ k_ => XS.iconst X199.here hx rfl (hb hby at_162) k_) ?_
      show own_Go p e below T199 (mkF m 163 (own_A p0 p1 p2 (5 : Int32) dd b1 (.val (.ref x_194)) (.val (.ref y_199)) (.val (.int (-1 : Int32))) .unset) [(.int (2 : Int32)), (.int (5 : Int32))]) _
      refine own_st (fun t_ k_ => XS.icmpNo X199.here hx rfl (hb hby at_163) rfl (by decide) k_) ?_
      refine own_st (fun t_ k_ => XS.aload X199.here hx rfl (hb hby at_166) rfl rfl k_) ?_
      refine own_st (fun t_ k_ => XS.iconst X199.here hx rfl (hb hby at_168) k_) ?_
      show own_Go p e below T199 (mkF m 169 (own_A p0 p1 p2 (5 : Int32) dd b1 (.val (.ref x_194)) (.val (.ref y_199)) (.val (.int (-1 : Int32))) .unset) [(.int (2 : Int32)), (.ref b1)]) _
      obtain ⟨cl261, Ar261, q261, Sz261, Nn261, Hh261, Gg261⟩ := id f258
      have hin261 : ¬ ((2 : Int32) < 0 ∨ cl261.slots.size ≤ ((2 : Int32)).toNatClampNeg) := inb_of Sz261 ⟨by decide, by decide⟩
      have hat261 : cl261.slots[((2 : Int32)).toNatClampNeg]? = some (.int r_17) := Has.at Hh261 hin261 rfl
      refine own_st (fun t_ k_ => X199.caload hx (j := (2 : Int32)) (v := (.int r_17)) (by exact Ar261.1) (State.isArrayOf_alike hZ.alike Ar261.2.1) Ar261.2.2 hin261 hat261 (g := (mkF m 169 (own_A p0 p1 p2 (5 : Int32) dd b1 (.val (.ref x_194)) (.val (.ref y_199)) (.val (.int (-1 : Int32))) .unset) [(.int (2 : Int32)), (.ref b1)])) rfl rfl (hb hby at_169) _ k_) ?_
      refine own_st (fun t_ k_ => XS.bipush X199.here hx rfl (hb hby at_170) k_) ?_
      refine own_st (fun t_ k_ => XS.icmpYes X199.here hx rfl (pc0 := 172) (pc' := 181) rfl (hb hby at_172) rfl (feq d2).2 (by decide) (by decide) k_) ?_
      refine own_st (fun t_ k_ => XS.iloadN X199.here hx rfl (hb hby at_181) rfl k_) ?_
      refine own_st (fun t_ k_ => XS.iconst X199.here hx rfl (hb hby at_182) k_) ?_
      show own_Go p e below T199 (mkF m 183 (own_A p0 p1 p2 (5 : Int32) dd b1 (.val (.ref x_194)) (.val (.ref y_199)) (.val (.int (-1 : Int32))) .unset) [(.int (1 : Int32)), (.int (5 : Int32))]) _
      refine own_st (fun t_ k_ => XS.icmpNo X199.here hx rfl (hb hby at_183) rfl (by decide) k_) ?_
      refine own_st (fun t_ k_ => XS.aload X199.here hx rfl (hb hby at_186) rfl rfl k_) ?_
      refine own_st (fun t_ k_ => XS.iconst X199.here hx rfl (hb hby at_188) k_) ?_
      show own_Go p e below T199 (mkF m 189 (own_A p0 p1 p2 (5 : Int32) dd b1 (.val (.ref x_194)) (.val (.ref y_199)) (.val (.int (-1 : Int32))) .unset) [(.int (1 : Int32)), (.ref b1)]) _
      obtain ⟨cl262, Ar262, q262, Sz262, Nn262, Hh262, Gg262⟩ := id f258
      have hin262 : ¬ ((1 : Int32) < 0 ∨ cl262.slots.size ≤ ((1 : Int32)).toNatClampNeg) := inb_of Sz262 ⟨by decide, by decide⟩
      have hat262 : cl262.slots[((1 : Int32)).toNatClampNeg]? = some (.int r_11) := Has.at Hh262 hin262 rfl
      refine own_st (fun t_ k_ => X199.caload hx (j := (1 : Int32)) (v := (.int r_11)) (by exact Ar262.1) (State.isArrayOf_alike hZ.alike Ar262.2.1) Ar262.2.2 hin262 hat262 (g := (mkF m 189 (own_A p0 p1 p2 (5 : Int32) dd b1 (.val (.ref x_194)) (.val (.ref y_199)) (.val (.int (-1 : Int32))) .unset) [(.int (1 : Int32)), (.ref b1)])) rfl rfl (hb hby at_189) _ k_) ?_
      refine own_st (fun t_ k_ => XS.bipush X199.here hx rfl (hb hby at_190) k_) ?_
      refine own_st (fun t_ k_ => XS.icmpYes X199.here hx rfl (pc0 := 192) (pc' := 201) rfl (hb hby at_192) rfl (feq d1).2 (by decide) (by decide) k_) ?_
      refine own_st (fun t_ k_ => XS.aload X199.here hx rfl (hb hby at_201) rfl rfl k_) ?_
      refine own_st (fun t_ k_ => XS.iconst X199.here hx rfl (hb hby at_203) k_) ?_
      show own_Go p e below T199 (mkF m 204 (own_A p0 p1 p2 (5 : Int32) dd b1 (.val (.ref x_194)) (.val (.ref y_199)) (.val (.int (-1 : Int32))) .unset) [(.int (0 : Int32)), (.ref b1)]) _
      obtain ⟨cl263, Ar263, q263, Sz263, Nn263, Hh263, Gg263⟩ := id f258
      have hin263 : ¬ ((0 : Int32) < 0 ∨ cl263.slots.size ≤ ((0 : Int32)).toNatClampNeg) := inb_of Sz263 ⟨by decide, by decide⟩
      have hat263 : cl263.slots[((0 : Int32)).toNatClampNeg]? = some (.int r_5) := Has.at Hh263 hin263 rfl
      refine own_st (fun t_ k_ => X199.caload hx (j := (0 : Int32)) (v := (.int r_5)) (by exact Ar263.1) (State.isArrayOf_alike hZ.alike Ar263.2.1) Ar263.2.2 hin263 hat263 (g := (mkF m 204 (own_A p0 p1 p2 (5 : Int32) dd b1 (.val (.ref x_194)) (.val (.ref y_199)) (.val (.int (-1 : Int32))) .unset) [(.int (0 : Int32)), (.ref b1)])) rfl rfl (hb hby at_204) _ k_) ?_
      refine own_st (fun t_ k_ => XS.bipush X199.here hx rfl (hb hby at_205) k_) ?_
      refine own_st (fun t_ k_ => XS.icmpYes X199.here hx rfl (pc0 := 207) (pc' := 213) rfl (hb hby at_207) rfl (feq d0).2 (by decide) (by decide) k_) ?_
      refine own_st (fun t_ k_ => XS.iload X199.here hx rfl (hb hby at_213) rfl k_) ?_
      refine own_st (fun t_ k_ => XS.ifNo X199.here hx rfl (hb hby at_215) rfl (by decide) k_) ?_
      show own_Go p e below T199 (mkF m 218 (own_A p0 p1 p2 (5 : Int32) dd b1 (.val (.ref x_194)) (.val (.ref y_199)) (.val (.int (-1 : Int32))) .unset) []) _
      refine own_st (fun t_ k_ => XS.iconst X199.here hx rfl (hb hby at_218) k_) ?_
      refine own_st (fun t_ k_ => XS.goto X199.here hx rfl (pc0 := 219) (pc' := 224) rfl (hb hby at_219) (by decide) (by decide) k_) ?_
      refine own_st (fun t_ k_ => XS.istore X199.here hx rfl (hb hby at_224) rfl (l' := (own_A p0 p1 p2 (5 : Int32) dd b1 (.val (.ref x_194)) (.val (.ref y_199)) (.val (.int (-1 : Int32))) (.val (.int (1 : Int32))))) rfl k_) ?_
      refine own_st (fun t_ k_ => XS.aload X199.here hx rfl (hb hby at_226) rfl rfl k_) ?_
      refine own_st (fun t_ k_ => XS.ifnullNo X199.here hx rfl (hb hby at_228) rfl k_) ?_
      refine own_st (fun t_ k_ => XS.aload X199.here hx rfl (hb hby at_231) rfl rfl k_) ?_
      show own_Go p e below T199 (mkF m 233 (own_A p0 p1 p2 (5 : Int32) dd b1 (.val (.ref x_194)) (.val (.ref y_199)) (.val (.int (-1 : Int32))) (.val (.int (1 : Int32)))) [(.ref y_199)]) _
      have hcd264 : StrChars.Road.CodA ([r_5] : List Int32) 0 (1 : Int32) ((([r_5] : List Int32).map (fun c : Int32 => c.toInt8.toInt32)).map Value.int) := StrChars.Road.codOf rfl (fun x hx => (hpe x hx).2)
      have hbd264 : ∀ x ∈ ([r_5] : List Int32), ¬ x < 0 ∧ ¬ (65535 : Int32) < x := own_up _ hpe
      have f265 := (f198.keep Kq199 all0)
      obtain ⟨cq266, kq266, qa266, qb266, qc266⟩ := isOf hZ rfl q199_0
      obtain ⟨_, _, ⟨T266, L266, k266, n266⟩, -, X266, ⟨Lc266, hQ266, l266, y266, z266⟩, st266⟩ := X199.virtualBack hx (y := (⟨"java/lang/String", "length", "()I"⟩ : MethodName)) (z := (⟨"java/lang/String", "length", "()I"⟩ : MethodName)) hown (mvT hZ (hw _ (List.mem_of_getElem? (i := 112) rfl))) (mvT hZ (hw _ (List.mem_of_getElem? (i := 47) rfl))) (notFace_of_selects (args := #[]) (mvT hZ (hw _ (List.mem_of_getElem? (i := 49) rfl)))) (mvT hZ (hw _ (List.mem_of_getElem? (i := 49) rfl))) (mvT hZ (hw _ (List.mem_of_getElem? (i := 48) rfl))) (by decide) (StrChars.Road.lenW (W := 0) hZ hln (kI := 4) (hw _ (List.mem_of_getElem? (i := 9) rfl)) q199_0 q199_1 q199_2 q199_3 hcd264 hbd264 (pS_COMPACT_STRINGS.ext f265.2) pP5 (Nat.le_of_ble_eq_true rfl) (by decide) (by decide)) qa266 qc266 (g := (mkF m 233 (own_A p0 p1 p2 (5 : Int32) dd b1 (.val (.ref x_194)) (.val (.ref y_199)) (.val (.int (-1 : Int32))) (.val (.int (1 : Int32)))) [(.ref y_199)])) rfl (by rw [hml]; rfl) (Steps.refl _) (argsL := []) (rest := []) (lenOf pd___I rfl) rfl (by show 2 * 0 + _ ≤ _; exact Nat.le_of_eq rfl) (hb hby at_233) (fun _ _ => ⟨rfl, rfl, (by decide : 6 + 0 ≤ _), (by decide : 27 + 0 ≤ _)⟩)
      dsimp only [Pt.U, Pt.locs, Pt.cells, Pt.slots] at X266 l266 y266 z266 st266 hQ266
      try dsimp only [Nat.reduceAdd] at y266 z266
      rw [l266, y266, z266] at X266
      obtain ⟨rfl, rfl, eH266⟩ := hQ266
      have N266 := Fr.app N199 (Fr.nil n0)
      refine own_tr st266 ?_
      show own_Go p e below T266 (mkF m 236 (own_A p0 p1 p2 (5 : Int32) dd b1 (.val (.ref x_194)) (.val (.ref y_199)) (.val (.int (-1 : Int32))) (.val (.int (1 : Int32)))) [(.int (1 : Int32))]) _
      refine own_st (fun t_ k_ => XS.iload X266.here hx rfl (hb hby at_236) rfl k_) ?_
      refine own_st (fun t_ k_ => XS.icmpNo X266.here hx rfl (hb hby at_238) rfl (by decide) k_) ?_
      refine own_st (fun t_ k_ => XS.iload X266.here hx rfl (hb hby at_241) rfl k_) ?_
      refine own_st (fun t_ k_ => XS.iconst X266.here hx rfl (hb hby at_243) k_) ?_
      refine own_st (fun t_ k_ => XS.icmpNo X266.here hx rfl (hb hby at_244) rfl (by decide) k_) ?_
      show own_Go p e below T266 (mkF m 247 (own_A p0 p1 p2 (5 : Int32) dd b1 (.val (.ref x_194)) (.val (.ref y_199)) (.val (.int (-1 : Int32))) (.val (.int (1 : Int32)))) []) _
      refine own_st (fun t_ k_ => XS.aload X266.here hx rfl (hb hby at_247) rfl rfl k_) ?_
      refine own_st (fun t_ k_ => XS.iconst X266.here hx rfl (hb hby at_249) k_) ?_
      show own_Go p e below T266 (mkF m 250 (own_A p0 p1 p2 (5 : Int32) dd b1 (.val (.ref x_194)) (.val (.ref y_199)) (.val (.int (-1 : Int32))) (.val (.int (1 : Int32)))) [(.int (0 : Int32)), (.ref y_199)]) _
      obtain ⟨cq267, kq267, qa267, qb267, qc267⟩ := isOf hZ eH266 q199_0
      obtain ⟨_, _, ⟨T267, L267, k267, n267⟩, -, X267, ⟨Lc267, hQ267, l267, y267, z267⟩, st267⟩ := X266.virtualBack hx (y := (⟨"java/lang/String", "charAt", "(I)C"⟩ : MethodName)) (z := (⟨"java/lang/String", "charAt", "(I)C"⟩ : MethodName)) hown (mvT hZ (hw _ (List.mem_of_getElem? (i := 113) rfl))) (mvT hZ (hw _ (List.mem_of_getElem? (i := 114) rfl))) (notFace_of_selects (args := #[]) (mvT hZ (hw _ (List.mem_of_getElem? (i := 116) rfl)))) (mvT hZ (hw _ (List.mem_of_getElem? (i := 116) rfl))) (mvT hZ (hw _ (List.mem_of_getElem? (i := 115) rfl))) (by decide) (StrChars.Road.chN (W := 0) hZ hch (kI := 4) (hw _ (List.mem_of_getElem? (i := 9) rfl)) q199_0 q199_1 q199_2 q199_3 hcd264 hbd264 (pS_COMPACT_STRINGS.ext f265.2) pP5 (pS_SIOOBE_FORMATTER.ext f265.2) rfm (Nat.le_of_ble_eq_true rfl) (i := 0) (Nat.le_of_ble_eq_true rfl) (j := (0 : Int32)) rfl (by decide) (by decide)) qa267 qc267 (g := (mkF m 250 (own_A p0 p1 p2 (5 : Int32) dd b1 (.val (.ref x_194)) (.val (.ref y_199)) (.val (.int (-1 : Int32))) (.val (.int (1 : Int32)))) [(.int (0 : Int32)), (.ref y_199)])) rfl (by rw [hml]; rfl) (Steps.refl _) (argsL := [(.int (0 : Int32))]) (rest := []) (lenOf pd__I_C rfl) rfl (by show 2 * 0 + _ ≤ _; exact Nat.le_of_eq rfl) (hb hby at_250) (fun _ _ => ⟨rfl, eH266, (by decide : 6 + 0 ≤ _), (by decide : 27 + 0 ≤ _)⟩)
      dsimp only [Pt.U, Pt.locs, Pt.cells, Pt.slots] at X267 l267 y267 z267 st267 hQ267
      try dsimp only [Nat.reduceAdd] at y267 z267
      rw [l267, y267, z267] at X267
      obtain ⟨rfl, rfl, eH267⟩ := hQ267
      have N267 := Fr.app N266 (Fr.nil n0)
      refine own_tr st267 ?_
      show own_Go p e below T267 (mkF m 253 (own_A p0 p1 p2 (5 : Int32) dd b1 (.val (.ref x_194)) (.val (.ref y_199)) (.val (.int (-1 : Int32))) (.val (.int (1 : Int32)))) [(.int r_5)]) _
      refine own_st (fun t_ k_ => XS.aload X267.here hx rfl (hb hby at_253) rfl rfl k_) ?_
      refine own_st (fun t_ k_ => XS.iconst X267.here hx rfl (hb hby at_255) k_) ?_
      show own_Go p e below T267 (mkF m 256 (own_A p0 p1 p2 (5 : Int32) dd b1 (.val (.ref x_194)) (.val (.ref y_199)) (.val (.int (-1 : Int32))) (.val (.int (1 : Int32)))) [(.int (0 : Int32)), (.ref b1), (.int r_5)]) _
      obtain ⟨cl268, Ar268, q268, Sz268, Nn268, Hh268, Gg268⟩ := id f258
      have hin268 : ¬ ((0 : Int32) < 0 ∨ cl268.slots.size ≤ ((0 : Int32)).toNatClampNeg) := inb_of Sz268 ⟨by decide, by decide⟩
      have hat268 : cl268.slots[((0 : Int32)).toNatClampNeg]? = some (.int r_5) := Has.at Hh268 hin268 rfl
      refine own_st (fun t_ k_ => X267.caload hx (j := (0 : Int32)) (v := (.int r_5)) (by rw [eH267]; exact Ar268.1) (State.isArrayOf_alike hZ.alike Ar268.2.1) Ar268.2.2 hin268 hat268 (g := (mkF m 256 (own_A p0 p1 p2 (5 : Int32) dd b1 (.val (.ref x_194)) (.val (.ref y_199)) (.val (.int (-1 : Int32))) (.val (.int (1 : Int32)))) [(.int (0 : Int32)), (.ref b1), (.int r_5)])) rfl rfl (hb hby at_256) _ k_) ?_
      refine own_st (fun t_ k_ => XS.icmpNo X267.here hx rfl (hb hby at_257) rfl (teq rfl).2 k_) ?_
      refine own_st (fun t_ k_ => XS.iload X267.here hx rfl (hb hby at_260) rfl k_) ?_
      refine own_st (fun t_ k_ => XS.iconst X267.here hx rfl (hb hby at_262) k_) ?_
      refine own_st (fun t_ k_ => XS.icmpYes X267.here hx rfl (pc0 := 263) (pc' := 279) rfl (hb hby at_263) rfl (by decide) (by decide) (by decide) k_) ?_
      show own_Go p e below T267 (mkF m 279 (own_A p0 p1 p2 (5 : Int32) dd b1 (.val (.ref x_194)) (.val (.ref y_199)) (.val (.int (-1 : Int32))) (.val (.int (1 : Int32)))) []) _
      refine own_st (fun t_ k_ => XS.iload X267.here hx rfl (hb hby at_279) rfl k_) ?_
      refine own_st (fun t_ k_ => XS.iconst X267.here hx rfl (hb hby at_281) k_) ?_
      refine own_st (fun t_ k_ => XS.icmpYes X267.here hx rfl (pc0 := 282) (pc' := 298) rfl (hb hby at_282) rfl (by decide) (by decide) (by decide) k_) ?_
      refine own_st (fun t_ k_ => XS.iload X267.here hx rfl (hb hby at_298) rfl k_) ?_
      refine own_st (fun t_ k_ => XS.iconst X267.here hx rfl (hb hby at_300) k_) ?_
      refine own_st (fun t_ k_ => XS.icmpYes X267.here hx rfl (pc0 := 301) (pc' := 317) rfl (hb hby at_301) rfl (by decide) (by decide) (by decide) k_) ?_
      show own_Go p e below T267 (mkF m 317 (own_A p0 p1 p2 (5 : Int32) dd b1 (.val (.ref x_194)) (.val (.ref y_199)) (.val (.int (-1 : Int32))) (.val (.int (1 : Int32)))) []) _
      refine own_st (fun t_ k_ => XS.iconst X267.here hx rfl (hb hby at_317) k_) ?_
      refine own_st (fun t_ k_ => XS.goto X267.here hx rfl (pc0 := 318) (pc' := 322) rfl (hb hby at_318) (by decide) (by decide) k_) ?_
      show own_Go p e below T267 (mkF m 322 (own_A p0 p1 p2 (5 : Int32) dd b1 (.val (.ref x_194)) (.val (.ref y_199)) (.val (.int (-1 : Int32))) (.val (.int (1 : Int32)))) [(.int (1 : Int32))]) _
      obtain ⟨fs, hr, hrun, hended, hRW⟩ := X267.leaveW hS (by rw [eH267]; exact hK199) (v := some (.int (1 : Int32))) (fun h => by rw [Bd.returns] at h; cases h)
      have hCend : CHr Z own_EL s.vm s.heap T267.vm T267.heap := by
        rw [hh, eH267]
        exact CHr.trans CR201 (CHv.at X267 hZ hEL CH201)
      refine own_fin (retN X267 hx (t := .boolean) Bd.returns (by simp) (hb hby at_322) hr) ⟨hrun, hended, _, _, rfl, ?_, hCend, hRW.1, hRW.2.1, hRW.2.2.1, hRW.2.2.2.mono (by decide) (by decide)⟩
      show Q_rmLaw Z p0 p1 p2 zc fm h0 n0 _ T267.heap _
      rw [eH267]
      exact ⟨rfl, N267, K202⟩
set_option maxRecDepth 65536 in
set_option maxHeartbeats 40000000 in
theorem comes_1 {Post : Tables → Env → Array Value → State → Outcome → State → Prop} (hpost : ∀ tb e args s v u, (limb_1_1.after args s (.returned v) u = true ∧ limb_1_2.after args s (.returned v) u = true ∧ True) → ReturnedEndW s (.returned v) u (Jvm.fieldLocs frame_1_writes args s ++ Jvm.arrayLocs frame_1_arrays args s ++ Jvm.staticLocs frame_1_statics s) 24 1152 → Post tb e args s (.returned v) u) :
    ArmFor flags0 classFile x code maxLocals ret World_1 tables_1 room_1 Calls_1 rest_1 Pre_1 Post := by
  intro l hfl _ _ p e ha hc hk s m args below hf hA hF happ hP
  obtain ⟨hcalls, hrest, hpre⟩ := hP
  obtain ⟨-, -, -, hnamed, -, -, -, hat⟩ := (Spec.applies_iff hf).mp happ
  obtain ⟨hg, hn⟩ := and_e (Cond.before_iff.mp (show (Jvm.Cond.and given_1 narrow_1).before args s = true from hpre))
  obtain ⟨hc0, hg0⟩ := and_e hg
  obtain ⟨ga0, hg1⟩ := and_e hg0
  obtain ⟨ga1, hg2⟩ := and_e hg1
  have ga2 := hg2
  obtain ⟨w0, w1, w2, rfl⟩ : ∃ w0 w1 w2 : Value, args = #[w0, w1, w2] := by
    have hs : args.size = 3 := by simpa [Cond.value, given_1] using hc0
    obtain ⟨L⟩ := args
    match L, hs with
    | [w0, w1, w2], _ => exact ⟨w0, w1, w2, rfl⟩
  have hw := fun d (hd : d ∈ tables_1) => atoms_spec (ws := Jvm.Cond.code x code maxLocals ret :: tables_1) hat d (List.mem_cons_of_mem _ hd)
  have hfit : Fit s := fun {y c} hc i hi => by
    obtain ⟨ha, rfl⟩ := Array.getElem?_eq_some_iff.mp hc
    have q := List.all_eq_true.mp ((Array.all_eq_true_iff_forall_mem.mp hF) _ (Array.getElem_mem ha)) i (List.mem_range.mpr hi)
    simpa [Array.getElem?_eq_getElem hi] using q
  obtain ⟨hsets, hown0⟩ := atoms_of _ (rest_1_c_eq ▸ (show rest_1_c.before _ s = true from hrest))
  obtain ⟨i0, ei0⟩ := is_v ga0
  obtain rfl : w0 = (.int i0) := Option.some.inj ei0
  obtain ⟨i1, ei1⟩ := is_v ga1
  obtain rfl : w1 = (.int i1) := Option.some.inj ei1
  obtain ⟨i2, ei2⟩ := is_v ga2
  obtain rfl : w2 = (.int i2) := Option.some.inj ei2
  have n5 := not_v (Cond.before_iff.mp (hsets _ (List.mem_of_getElem? (i := 2) rfl)))
  obtain ⟨j1, e1⟩ := is_v (Cond.before_iff.mp (hsets _ (List.mem_of_getElem? (i := 1) rfl)))
  have S1 : Sta s s.heap "java/lang/String" "COMPACT_STRINGS" "Z" (.int j1) := Sta.start e1 (Or.inl (hsets _ (List.mem_of_getElem? (i := 0) rfl)))
  have c5 : ¬ (j1 = (0 : Int32)) := gotF (Cond.eq_ints e1 (Term.int_eval (0))) n5
  obtain ⟨v8, e8, r8⟩ := isR_v (Cond.before_iff.mp (hsets _ (List.mem_of_getElem? (i := 8) rfl)))
  have S2 : Sta s s.heap "jdk/internal/util/Preconditions" "SIOOBE_FORMATTER" "Ljava/util/function/BiFunction;" v8 := Sta.start e8 (Or.inl (hsets _ (List.mem_of_getElem? (i := 7) rfl)))
  have hCH0 : CHv s own_EL s.vm s.heap := CHv.start (own_EW hw) (fun p hp => hcalls.1 p hp) (hsets _ (List.mem_of_getElem? (i := 2) rfl)) (hw _ (List.mem_of_getElem? (i := 26) rfl)) (hw _ (List.mem_of_getElem? (i := 9) rfl))
  obtain ⟨n, o, h1, h2, h3, _, L, rfl, ⟨rfl, N, -⟩, -, hq⟩ := rmLaw l s _ hw tables_1 i0 i1 i2 j1 v8 s.heap s.heap.size (Nat.le_refl _) S1 c5 S2 r8 (Old.start s) p e ha hc hk s m _ below hf ((Spec.applies_iff_loose hf).mp happ).1 ⟨rfl, State.Warmed39.refl s, rfl, hCH0⟩ trivial
  refine ⟨n, _, h1, h2, h3, hpost _ _ _ _ _ _ ⟨Cond.after_iff.mpr rfl, Cond.after_iff.mpr (eq_i res_at (Term.int_eval (1)) rfl), trivial⟩ ⟨hq.1, hq.2.1, hq.2.2.1, (hq.2.2.2.sift fun y hy => Or.inr (N y hy)).mono (by decide) (by decide)⟩⟩
theorem main_1_1 : Claimed_1_1 := comes_1 fun _ _ _ _ _ _ h hF => ⟨h.1, hF⟩
theorem main_1_2 : Claimed_1_2 := comes_1 fun _ _ _ _ _ _ h hF => ⟨h.2.1, hF⟩
end Jvm.Pilot.@@N@@
namespace Jvm.Pilot.@@N@@
open Jvm Jvm.ClassFile Sem Op Lib Jvm.Free Jvm.Stand Jvm.Pilot.@@N@@.Jvm.D
/-! MADE BY PROGRAM (witnessworld.py) out of the Statement's table words and the real class files: 23 classes; the members and pool entries that the words name. The judged class is class 1, her method 1. -/
namespace start1
open Jvm.ClassFile
def u (s : String) : CpInfo := .utf8 (stringToUtf16 s)
/-- a pool by its gaps: so many unusable entries, then the entry; so many at the end -/
def gap : Nat → List CpInfo → List CpInfo
  | 0, r => r
  | n + 1, r => .unusable :: gap n r
def poolList (es : List (Nat × CpInfo)) (last : Nat) : List CpInfo := es.foldr (fun e r => gap e.1 (e.2 :: r)) (gap last [])
def pool (es : List (Nat × CpInfo)) (last : Nat) : Array CpInfo := ⟨poolList es last⟩
def fileOf (pool : Array CpInfo) (this : Nat) (attrs : Array Attribute := #[]) (ms : Array MethodInfo := #[]) (fl : Nat := 33) (sup : Nat := 0) (ifs : Array Nat := #[]) (fds : Array FieldInfo := #[]) : ClassFile where
  minorVersion := 0
  majorVersion := 65
  constantPool := pool
  accessFlags := fl
  thisClass := this
  superClass := sup
  interfaces := ifs
  fields := fds
  methods := ms
  attributes := attrs
def plain (name : String) (sup : Option ClassId) : Class where
  name := name
  kind := .ordinary
  loader := none
  accessFlags := 33
  super := sup
  interfaces := #[]
  cf := none
  fields := #[]
  methods := #[]
  instanceTypes := #[]
  staticTypes := #[]
  resolved := #[]
  callSites := []
  init := .initialized
  statics := none
  mirror := none

def pool0 : Array CpInfo := pool [(5, u "<init>"), (0, u "()V"), (1, .class_ 10), (1, u "java/lang/Object")] 113

def k0c0 : Code := { maxStack := 0, maxLocals := 1, code := object_method_1_code, exceptionTable := #[], attributes := #[] }
def k0m0 : Method := { name := "<init>", desc := "()V", sig := { parameters := [], returnType := none }, accessFlags := 1, code := some k0c0 }
/-- java/lang/Object -/
def k0 : Class := { plain "java/lang/Object" none with
  accessFlags := 33
  interfaces := #[]
  cf := some (fileOf pool0 8 #[] #[{ accessFlags := 1, nameIndex := 5, descriptorIndex := 6, attributes := #[] }] 33 0 #[] #[])
  fields := #[]
  methods := #[k0m0]
  instanceTypes := #[]
  staticTypes := #[]
  resolved := Array.replicate 124 none
  statics := none }

def pool1 : Array CpInfo := pool [(2, .class_ 4), (1, u "java/lang/Object"), (0, u "<init>"), (0, u "()V"), (0, .methodref 8 9), (0, .class_ 10), (0, .nameAndType 11 12), (0, u "com/example/descriptor/descriptor/vocabulary/HierarchyParentPinLaw"), (0, u "pick"), (0, u "(III)C"), (0, .methodref 8 14), (0, .nameAndType 15 16), (0, u "make"), (0, u "(I[C)Ljava/lang/String;"), (0, .methodref 18 19), (0, .class_ 20), (0, .nameAndType 21 22), (0, u "com/example/descriptor/descriptor/vocabulary/Hierarchy"), (0, u "parent"), (0, u "(Ljava/lang/String;)Ljava/lang/String;"), (0, .methodref 24 25), (0, .class_ 26), (0, .nameAndType 27 28), (0, u "java/lang/String"), (0, u "length"), (0, u "()I"), (0, .methodref 24 30), (0, .nameAndType 31 32), (0, u "charAt"), (0, u "(I)C"), (0, .methodref 24 34), (0, .nameAndType 5 35), (0, u "([C)V"), (2, u "law"), (0, u "(III)Z")] 5

def k1m0 : Method := { name := "<init>", desc := "()V", sig := { parameters := [], returnType := none }, accessFlags := 1, code := none }
def k1c1 : Code := { maxStack := 6, maxLocals := 10, code := code, exceptionTable := #[], attributes := #[] }
def k1m1 : Method := { name := "law", desc := "(III)Z", sig := { parameters := [.int, .int, .int], returnType := some .boolean }, accessFlags := 9, code := some k1c1 }
def k1c2 : Code := { maxStack := 2, maxLocals := 3, code := method_3_code, exceptionTable := #[], attributes := #[] }
def k1m2 : Method := { name := "pick", desc := "(III)C", sig := { parameters := [.int, .int, .int], returnType := some .char }, accessFlags := 10, code := some k1c2 }
def k1c3 : Code := { maxStack := 7, maxLocals := 2, code := method_4_code, exceptionTable := #[], attributes := #[] }
def k1m3 : Method := { name := "make", desc := "(I[C)Ljava/lang/String;", sig := { parameters := [.int, (.array .char)], returnType := some (.object "java/lang/String") }, accessFlags := 10, code := some k1c3 }
/-- com/example/descriptor/descriptor/vocabulary/HierarchyParentPinLaw -/
def k1 : Class := { plain "com/example/descriptor/descriptor/vocabulary/HierarchyParentPinLaw" (some 0) with
  accessFlags := 49
  interfaces := #[]
  cf := some (fileOf pool1 8 #[] #[{ accessFlags := 1, nameIndex := 5, descriptorIndex := 6, attributes := #[] }, { accessFlags := 9, nameIndex := 38, descriptorIndex := 39, attributes := #[] }, { accessFlags := 10, nameIndex := 11, descriptorIndex := 12, attributes := #[] }, { accessFlags := 10, nameIndex := 15, descriptorIndex := 16, attributes := #[] }] 49 2 #[] #[])
  fields := #[]
  methods := #[k1m0, k1m1, k1m2, k1m3]
  instanceTypes := #[]
  staticTypes := #[]
  resolved := Array.replicate 45 none
  statics := none }

def pool2 : Array CpInfo := pool [(1, .class_ 2), (0, u "java/io/Serializable"), (0, .class_ 4), (0, u "java/lang/Object")] 2

/-- java/io/Serializable -/
def k2 : Class := { plain "java/io/Serializable" (some 0) with
  accessFlags := 1537
  interfaces := #[]
  cf := some (fileOf pool2 1 #[] #[] 1537 3 #[] #[])
  fields := #[]
  methods := #[]
  instanceTypes := #[]
  staticTypes := #[]
  resolved := Array.replicate 7 none
  statics := none }

def pool3 : Array CpInfo := pool [(1, .class_ 2), (0, u "java/lang/Comparable"), (0, .class_ 4), (0, u "java/lang/Object")] 7

/-- java/lang/Comparable -/
def k3 : Class := { plain "java/lang/Comparable" (some 0) with
  accessFlags := 1537
  interfaces := #[]
  cf := some (fileOf pool3 1 #[] #[] 1537 3 #[] #[])
  fields := #[]
  methods := #[]
  instanceTypes := #[]
  staticTypes := #[]
  resolved := Array.replicate 12 none
  statics := none }

def pool4 : Array CpInfo := pool [(2, .class_ 4), (1, u "java/lang/CharSequence"), (42, .class_ 48), (0, u "java/lang/CharSequence$1CodePointIterator"), (10, .class_ 60), (0, u "java/lang/CharSequence$1CharIterator"), (5, .class_ 67), (0, u "java/lang/Object")] 63

/-- java/lang/CharSequence -/
def k4 : Class := { plain "java/lang/CharSequence" (some 0) with
  accessFlags := 1537
  interfaces := #[]
  cf := some (fileOf pool4 2 #[.nestMembers #[47, 59]] #[] 1537 66 #[] #[])
  fields := #[]
  methods := #[]
  instanceTypes := #[]
  staticTypes := #[]
  resolved := Array.replicate 131 none
  statics := none }

def pool5 : Array CpInfo := pool [(1, .class_ 2), (0, u "java/lang/constant/Constable"), (0, .class_ 4), (0, u "java/lang/Object")] 6

/-- java/lang/constant/Constable -/
def k5 : Class := { plain "java/lang/constant/Constable" (some 0) with
  accessFlags := 1537
  interfaces := #[]
  cf := some (fileOf pool5 1 #[] #[] 1537 3 #[] #[])
  fields := #[]
  methods := #[]
  instanceTypes := #[]
  staticTypes := #[]
  resolved := Array.replicate 11 none
  statics := none }

def pool6 : Array CpInfo := pool [(1, .class_ 2), (0, u "java/lang/constant/ConstantDesc"), (0, .class_ 4), (0, u "java/lang/Object")] 32

/-- java/lang/constant/ConstantDesc -/
def k6 : Class := { plain "java/lang/constant/ConstantDesc" (some 0) with
  accessFlags := 1537
  interfaces := #[]
  cf := some (fileOf pool6 1 #[] #[] 1537 3 #[] #[])
  fields := #[]
  methods := #[]
  instanceTypes := #[]
  staticTypes := #[]
  resolved := Array.replicate 37 none
  statics := none }

def pool7 : Array CpInfo := pool [(1, .methodref 2 3), (0, .class_ 4), (0, .nameAndType 5 6), (0, u "java/lang/Object"), (0, u "<init>"), (0, u "()V"), (2, .fieldref 10 11), (0, .class_ 12), (0, .nameAndType 13 14), (0, u "java/lang/String"), (0, u "value"), (0, u "[B"), (0, .fieldref 10 16), (0, .nameAndType 17 18), (0, u "coder"), (0, u "B"), (2, u "hash"), (0, u "I"), (2, u "hashIsZero"), (0, u "Z"), (0, .methodref 10 28), (0, .nameAndType 5 29), (0, u "([CIILjava/lang/Void;)V"), (8, .fieldref 10 39), (0, .nameAndType 40 26), (0, u "COMPACT_STRINGS"), (1, .class_ 44), (1, u "java/lang/StringUTF16"), (0, u "compress"), (1, .methodref 42 48), (0, .nameAndType 49 50), (0, u "coderFromArrayLen"), (0, u "([BI)B"), (46, u "([BII)I"), (9, .class_ 109), (1, u "java/lang/StringLatin1"), (32, u "()Z"), (34, .methodref 42 178), (0, .nameAndType 45 179), (0, u "([CII)[B"), (31, u "([BB)V"), (122, u "()I"), (0, .methodref 10 336), (0, .nameAndType 17 337), (0, u "()B"), (25, u "([BI)C"), (27, u "(II)V"), (35, u "(I)C"), (64, .methodref 10 493), (0, .nameAndType 494 142), (0, u "isLatin1"), (0, .methodref 107 496), (0, .nameAndType 497 363), (0, u "charAt"), (3, u "checkIndex"), (3, .methodref 10 506), (0, .nameAndType 507 334), (0, u "length"), (5, u "checkFromToIndex"), (7, .methodref 10 522), (0, .nameAndType 523 524), (0, u "checkBoundsBeginEnd"), (0, u "(III)V"), (50, .class_ 576), (0, u "java/lang/CharSequence"), (22, u "CASE_INSENSITIVE_ORDER"), (0, u "Ljava/util/Comparator;"), (35, u "(II)I"), (4, .methodref 10 642), (0, .nameAndType 643 636), (0, u "lastIndexOf"), (0, .methodref 107 645), (0, .nameAndType 643 97), (37, u "substring"), (0, u "(II)Ljava/lang/String;"), (0, .methodref 107 686), (0, .nameAndType 687 688), (0, u "newString"), (0, u "([BII)Ljava/lang/String;"), (76, u "(I)I"), (244, u "([C)V"), (42, .fieldref 1054 1055), (0, .class_ 1056), (0, .nameAndType 1057 1058), (0, u "jdk/internal/util/Preconditions"), (0, u "SIOOBE_FORMATTER"), (0, u "Ljava/util/function/BiFunction;"), (0, .methodref 1054 1060), (0, .nameAndType 501 1061), (0, u "(IILjava/util/function/BiFunction;)I"), (0, .methodref 1054 1063), (0, .nameAndType 513 1064), (0, u "(IIILjava/util/function/BiFunction;)I"), (36, u "serialPersistentFields"), (0, u "[Ljava/io/ObjectStreamField;"), (0, .class_ 1104), (0, u "java/lang/String$CaseInsensitiveComparator"), (1, .class_ 1107), (0, u "java/io/Serializable"), (0, .class_ 1109), (0, u "java/lang/Comparable"), (0, .class_ 1111), (0, u "java/lang/constant/Constable"), (0, .class_ 1113), (0, u "java/lang/constant/ConstantDesc"), (2, u "serialVersionUID"), (0, u "J"), (3, u "REPL"), (0, u "C"), (2, u "LATIN1"), (1, u "UTF16")] 323

def k7m0 : Method := { name := "<init>", desc := "()V", sig := { parameters := [], returnType := none }, accessFlags := 1, code := none }
def k7c1 : Code := { maxStack := 5, maxLocals := 2, code := jdk_42_method_3_code, exceptionTable := #[], attributes := #[] }
def k7m1 : Method := { name := "<init>", desc := "([C)V", sig := { parameters := [(.array .char)], returnType := none }, accessFlags := 1, code := some k7c1 }
def k7c2 : Code := { maxStack := 2, maxLocals := 1, code := jdk_42_method_54_code, exceptionTable := #[], attributes := #[] }
def k7m2 : Method := { name := "length", desc := "()I", sig := { parameters := [], returnType := some .int }, accessFlags := 1, code := some k7c2 }
def k7c3 : Code := { maxStack := 2, maxLocals := 2, code := jdk_42_method_56_code, exceptionTable := #[], attributes := #[] }
def k7m3 : Method := { name := "charAt", desc := "(I)C", sig := { parameters := [.int], returnType := some .char }, accessFlags := 1, code := some k7c3 }
def k7c4 : Code := { maxStack := 4, maxLocals := 2, code := jdk_42_method_82_code, exceptionTable := #[], attributes := #[] }
def k7m4 : Method := { name := "lastIndexOf", desc := "(I)I", sig := { parameters := [.int], returnType := some .int }, accessFlags := 1, code := some k7c4 }
def k7c5 : Code := { maxStack := 3, maxLocals := 3, code := jdk_42_method_83_code, exceptionTable := #[], attributes := #[] }
def k7m5 : Method := { name := "lastIndexOf", desc := "(II)I", sig := { parameters := [.int, .int], returnType := some .int }, accessFlags := 1, code := some k7c5 }
def k7c6 : Code := { maxStack := 3, maxLocals := 5, code := jdk_42_method_92_code, exceptionTable := #[], attributes := #[] }
def k7m6 : Method := { name := "substring", desc := "(II)Ljava/lang/String;", sig := { parameters := [.int, .int], returnType := some (.object "java/lang/String") }, accessFlags := 1, code := some k7c6 }
def k7c7 : Code := { maxStack := 4, maxLocals := 6, code := jdk_42_method_149_code, exceptionTable := #[], attributes := #[] }
def k7m7 : Method := { name := "<init>", desc := "([CIILjava/lang/Void;)V", sig := { parameters := [(.array .char), .int, .int, (.object "java/lang/Void")], returnType := none }, accessFlags := 2, code := some k7c7 }
def k7c8 : Code := { maxStack := 2, maxLocals := 3, code := jdk_42_method_151_code, exceptionTable := #[], attributes := #[] }
def k7m8 : Method := { name := "<init>", desc := "([BB)V", sig := { parameters := [(.array .byte), .byte], returnType := none }, accessFlags := 0, code := some k7c8 }
def k7c9 : Code := { maxStack := 1, maxLocals := 1, code := jdk_42_method_152_code, exceptionTable := #[], attributes := #[] }
def k7m9 : Method := { name := "coder", desc := "()B", sig := { parameters := [], returnType := some .byte }, accessFlags := 0, code := some k7c9 }
def k7c10 : Code := { maxStack := 1, maxLocals := 1, code := jdk_42_method_154_code, exceptionTable := #[], attributes := #[] }
def k7m10 : Method := { name := "isLatin1", desc := "()Z", sig := { parameters := [], returnType := some .boolean }, accessFlags := 0, code := some k7c10 }
def k7c11 : Code := { maxStack := 3, maxLocals := 2, code := jdk_42_method_155_code, exceptionTable := #[], attributes := #[] }
def k7m11 : Method := { name := "checkIndex", desc := "(II)V", sig := { parameters := [.int, .int], returnType := none }, accessFlags := 8, code := some k7c11 }
def k7c12 : Code := { maxStack := 4, maxLocals := 3, code := jdk_42_method_158_code, exceptionTable := #[], attributes := #[] }
def k7m12 : Method := { name := "checkBoundsBeginEnd", desc := "(III)V", sig := { parameters := [.int, .int, .int], returnType := none }, accessFlags := 8, code := some k7c12 }
/-- java/lang/String -/
def k7 : Class := { plain "java/lang/String" (some 0) with
  accessFlags := 49
  interfaces := #[2, 3, 4, 5, 6]
  cf := some (fileOf pool7 10 #[.nestMembers #[1103]] #[{ accessFlags := 1, nameIndex := 5, descriptorIndex := 6, attributes := #[] }, { accessFlags := 1, nameIndex := 5, descriptorIndex := 1010, attributes := #[] }, { accessFlags := 1, nameIndex := 507, descriptorIndex := 334, attributes := #[] }, { accessFlags := 1, nameIndex := 497, descriptorIndex := 427, attributes := #[] }, { accessFlags := 1, nameIndex := 643, descriptorIndex := 765, attributes := #[] }, { accessFlags := 1, nameIndex := 643, descriptorIndex := 636, attributes := #[] }, { accessFlags := 1, nameIndex := 683, descriptorIndex := 684, attributes := #[] }, { accessFlags := 2, nameIndex := 5, descriptorIndex := 29, attributes := #[] }, { accessFlags := 0, nameIndex := 5, descriptorIndex := 211, attributes := #[] }, { accessFlags := 0, nameIndex := 17, descriptorIndex := 337, attributes := #[] }, { accessFlags := 0, nameIndex := 494, descriptorIndex := 142, attributes := #[] }, { accessFlags := 8, nameIndex := 501, descriptorIndex := 391, attributes := #[] }, { accessFlags := 8, nameIndex := 523, descriptorIndex := 524, attributes := #[] }] 49 2 #[1106, 1108, 575, 1110, 1112] #[{ accessFlags := 18, nameIndex := 13, descriptorIndex := 14, attributes := #[] }, { accessFlags := 18, nameIndex := 17, descriptorIndex := 18, attributes := #[] }, { accessFlags := 2, nameIndex := 21, descriptorIndex := 22, attributes := #[] }, { accessFlags := 2, nameIndex := 25, descriptorIndex := 26, attributes := #[] }, { accessFlags := 26, nameIndex := 1116, descriptorIndex := 1117, attributes := #[] }, { accessFlags := 24, nameIndex := 40, descriptorIndex := 26, attributes := #[] }, { accessFlags := 26, nameIndex := 1101, descriptorIndex := 1102, attributes := #[] }, { accessFlags := 26, nameIndex := 1121, descriptorIndex := 1122, attributes := #[] }, { accessFlags := 25, nameIndex := 599, descriptorIndex := 600, attributes := #[] }, { accessFlags := 24, nameIndex := 1125, descriptorIndex := 18, attributes := #[] }, { accessFlags := 24, nameIndex := 1127, descriptorIndex := 18, attributes := #[] }])
  fields := #[{ name := "value", type := (.array .byte), accessFlags := 18, slot := 0, constantValue := 0 }, { name := "coder", type := .byte, accessFlags := 18, slot := 1, constantValue := 0 }, { name := "hash", type := .int, accessFlags := 2, slot := 2, constantValue := 0 }, { name := "hashIsZero", type := .boolean, accessFlags := 2, slot := 3, constantValue := 0 }, { name := "serialVersionUID", type := .long, accessFlags := 26, slot := 0, constantValue := 0 }, { name := "COMPACT_STRINGS", type := .boolean, accessFlags := 24, slot := 1, constantValue := 0 }, { name := "serialPersistentFields", type := (.array (.object "java/io/ObjectStreamField")), accessFlags := 26, slot := 2, constantValue := 0 }, { name := "REPL", type := .char, accessFlags := 26, slot := 3, constantValue := 0 }, { name := "CASE_INSENSITIVE_ORDER", type := (.object "java/util/Comparator"), accessFlags := 25, slot := 4, constantValue := 0 }, { name := "LATIN1", type := .byte, accessFlags := 24, slot := 5, constantValue := 0 }, { name := "UTF16", type := .byte, accessFlags := 24, slot := 6, constantValue := 0 }]
  methods := #[k7m0, k7m1, k7m2, k7m3, k7m4, k7m5, k7m6, k7m7, k7m8, k7m9, k7m10, k7m11, k7m12]
  instanceTypes := #[(.array .byte), .byte, .int, .boolean]
  staticTypes := #[.long, .boolean, (.array (.object "java/io/ObjectStreamField")), .char, (.object "java/util/Comparator"), .byte, .byte]
  resolved := Array.replicate 1451 none
  statics := some 0 }

def pool8 : Array CpInfo := pool [(6, .class_ 8), (1, u "java/lang/Object"), (0, u "<init>"), (0, u "()V"), (1, .class_ 14), (1, u "java/lang/StringUTF16"), (31, u "$assertionsDisabled"), (0, u "Z"), (13, u "HI_BYTE_SHIFT"), (0, u "I"), (2, u "LO_BYTE_SHIFT"), (49, .methodref 12 116), (0, .nameAndType 117 118), (0, u "compress"), (0, u "([CI[BII)I"), (3, u "([CII)[B"), (138, u "coderFromArrayLen"), (0, u "([BI)B"), (106, .class_ 371), (1, u "java/lang/StringUTF16$LinesSpliterator"), (58, u "MAX_LENGTH"), (196, .class_ 628), (0, u "java/lang/StringUTF16$CodePointsSpliterator"), (0, .class_ 630), (0, u "java/lang/StringUTF16$CharsSpliterator")] 4

def k8m0 : Method := { name := "<init>", desc := "()V", sig := { parameters := [], returnType := none }, accessFlags := 0, code := none }
def k8c1 : Code := { maxStack := 2, maxLocals := 2, code := jdk_52_method_15_code, exceptionTable := #[], attributes := #[] }
def k8m1 : Method := { name := "coderFromArrayLen", desc := "([BI)B", sig := { parameters := [(.array .byte), .int], returnType := some .byte }, accessFlags := 8, code := some k8c1 }
def k8c2 : Code := { maxStack := 5, maxLocals := 6, code := jdk_52_method_16_code, exceptionTable := #[], attributes := #[] }
def k8m2 : Method := { name := "compress", desc := "([CII)[B", sig := { parameters := [(.array .char), .int, .int], returnType := some (.array .byte) }, accessFlags := 9, code := some k8c2 }
def k8c3 : Code := { maxStack := 3, maxLocals := 7, code := jdk_52_method_21_code, exceptionTable := #[], attributes := #[] }
def k8m3 : Method := { name := "compress", desc := "([CI[BII)I", sig := { parameters := [(.array .char), .int, (.array .byte), .int, .int], returnType := some .int }, accessFlags := 9, code := some k8c3 }
/-- java/lang/StringUTF16 -/
def k8 : Class := { plain "java/lang/StringUTF16" (some 0) with
  accessFlags := 48
  interfaces := #[]
  cf := some (fileOf pool8 12 #[.nestMembers #[627, 629, 369]] #[{ accessFlags := 0, nameIndex := 9, descriptorIndex := 10, attributes := #[] }, { accessFlags := 8, nameIndex := 261, descriptorIndex := 262, attributes := #[] }, { accessFlags := 9, nameIndex := 117, descriptorIndex := 122, attributes := #[] }, { accessFlags := 9, nameIndex := 117, descriptorIndex := 118, attributes := #[] }] 48 6 #[] #[{ accessFlags := 26, nameIndex := 61, descriptorIndex := 62, attributes := #[] }, { accessFlags := 26, nameIndex := 65, descriptorIndex := 62, attributes := #[] }, { accessFlags := 24, nameIndex := 430, descriptorIndex := 62, attributes := #[] }, { accessFlags := 4120, nameIndex := 46, descriptorIndex := 47, attributes := #[] }])
  fields := #[{ name := "HI_BYTE_SHIFT", type := .int, accessFlags := 26, slot := 0, constantValue := 0 }, { name := "LO_BYTE_SHIFT", type := .int, accessFlags := 26, slot := 1, constantValue := 0 }, { name := "MAX_LENGTH", type := .int, accessFlags := 24, slot := 2, constantValue := 0 }, { name := "$assertionsDisabled", type := .boolean, accessFlags := 4120, slot := 3, constantValue := 0 }]
  methods := #[k8m0, k8m1, k8m2, k8m3]
  instanceTypes := #[]
  staticTypes := #[.int, .int, .int, .boolean]
  resolved := Array.replicate 635 none
  statics := none }

def pool9 : Array CpInfo := pool [(2, .class_ 4), (1, u "java/lang/Object"), (6, .class_ 13), (1, u "com/example/descriptor/descriptor/vocabulary/Hierarchy"), (0, u "children"), (0, u "Ljava/util/Map;"), (27, .class_ 44), (0, u "java/lang/String"), (5, u "parent"), (0, u "(Ljava/lang/String;)Ljava/lang/String;"), (14, .methodref 43 67), (0, .nameAndType 68 69), (0, u "lastIndexOf"), (0, u "(I)I"), (0, .methodref 43 71), (0, .nameAndType 72 73), (0, u "substring"), (0, u "(II)Ljava/lang/String;")] 99

def k9c0 : Code := { maxStack := 3, maxLocals := 2, code := prog_49_method_2_code, exceptionTable := #[], attributes := #[] }
def k9m0 : Method := { name := "parent", desc := "(Ljava/lang/String;)Ljava/lang/String;", sig := { parameters := [(.object "java/lang/String")], returnType := some (.object "java/lang/String") }, accessFlags := 9, code := some k9c0 }
/-- com/example/descriptor/descriptor/vocabulary/Hierarchy -/
def k9 : Class := { plain "com/example/descriptor/descriptor/vocabulary/Hierarchy" (some 0) with
  accessFlags := 33
  interfaces := #[]
  cf := some (fileOf pool9 11 #[] #[{ accessFlags := 9, nameIndex := 50, descriptorIndex := 51, attributes := #[] }] 33 2 #[] #[{ accessFlags := 18, nameIndex := 14, descriptorIndex := 15, attributes := #[] }])
  fields := #[{ name := "children", type := (.object "java/util/Map"), accessFlags := 18, slot := 0, constantValue := 0 }]
  methods := #[k9m0]
  instanceTypes := #[(.object "java/util/Map")]
  staticTypes := #[]
  resolved := Array.replicate 173 none
  statics := none }

def pool10 : Array CpInfo := pool [(1, .class_ 2), (0, u "java/lang/String"), (1, .class_ 6), (1, u "java/lang/Object"), (0, u "<init>"), (0, u "()V"), (0, .methodref 1 10), (0, .nameAndType 11 12), (0, u "checkIndex"), (0, u "(II)V"), (1, .class_ 16), (1, u "java/lang/StringLatin1"), (21, .methodref 39 40), (0, .class_ 41), (0, .nameAndType 42 43), (0, u "java/lang/Math"), (0, u "min"), (0, u "(II)I"), (9, u "([BI)C"), (34, .methodref 14 89), (0, .nameAndType 90 91), (0, u "canEncode"), (0, u "(I)Z"), (20, .methodref 1 113), (0, .nameAndType 7 114), (0, u "([BB)V"), (6, u "$assertionsDisabled"), (0, u "Z"), (8, .class_ 133), (1, u "java/util/Arrays"), (17, .string 152), (0, u ""), (43, u "newString"), (0, u "([BII)Ljava/lang/String;"), (23, .class_ 223), (1, u "java/lang/StringLatin1$LinesSpliterator"), (8, .methodref 131 233), (0, .nameAndType 234 235), (0, u "copyOfRange"), (0, u "([BII)[B"), (16, u "charAt"), (8, u "([BII)I"), (47, u "lastIndexOf"), (80, .class_ 391), (0, u "java/lang/StringLatin1$CharsSpliterator")] 3

def k10m0 : Method := { name := "<init>", desc := "()V", sig := { parameters := [], returnType := none }, accessFlags := 0, code := none }
def k10c1 : Code := { maxStack := 2, maxLocals := 2, code := jdk_43_method_2_code, exceptionTable := #[], attributes := #[] }
def k10m1 : Method := { name := "charAt", desc := "([BI)C", sig := { parameters := [(.array .byte), .int], returnType := some .char }, accessFlags := 9, code := some k10c1 }
def k10c2 : Code := { maxStack := 2, maxLocals := 1, code := jdk_43_method_4_code, exceptionTable := #[], attributes := #[] }
def k10m2 : Method := { name := "canEncode", desc := "(I)Z", sig := { parameters := [.int], returnType := some .boolean }, accessFlags := 9, code := some k10c2 }
def k10c3 : Code := { maxStack := 3, maxLocals := 4, code := jdk_43_method_27_code, exceptionTable := #[], attributes := #[] }
def k10m3 : Method := { name := "lastIndexOf", desc := "([BII)I", sig := { parameters := [(.array .byte), .int, .int], returnType := some .int }, accessFlags := 9, code := some k10c3 }
def k10c4 : Code := { maxStack := 6, maxLocals := 3, code := jdk_43_method_47_code, exceptionTable := #[], attributes := #[] }
def k10m4 : Method := { name := "newString", desc := "([BII)Ljava/lang/String;", sig := { parameters := [(.array .byte), .int, .int], returnType := some (.object "java/lang/String") }, accessFlags := 9, code := some k10c4 }
/-- java/lang/StringLatin1 -/
def k10 : Class := { plain "java/lang/StringLatin1" (some 0) with
  accessFlags := 48
  interfaces := #[]
  cf := some (fileOf pool10 14 #[.nestMembers #[390, 221]] #[{ accessFlags := 0, nameIndex := 7, descriptorIndex := 8, attributes := #[] }, { accessFlags := 9, nameIndex := 252, descriptorIndex := 53, attributes := #[] }, { accessFlags := 9, nameIndex := 90, descriptorIndex := 91, attributes := #[] }, { accessFlags := 9, nameIndex := 309, descriptorIndex := 261, attributes := #[] }, { accessFlags := 9, nameIndex := 196, descriptorIndex := 197, attributes := #[] }] 48 4 #[] #[{ accessFlags := 4120, nameIndex := 121, descriptorIndex := 122, attributes := #[] }])
  fields := #[{ name := "$assertionsDisabled", type := .boolean, accessFlags := 4120, slot := 0, constantValue := 0 }]
  methods := #[k10m0, k10m1, k10m2, k10m3, k10m4]
  instanceTypes := #[]
  staticTypes := #[.boolean]
  resolved := Array.replicate 395 none
  statics := none }

def pool11 : Array CpInfo := pool [(1, .class_ 2), (0, u "java/lang/Math"), (1, .class_ 6), (1, u "java/lang/Object"), (0, u "<init>"), (0, u "()V"), (89, .class_ 100), (1, u "java/lang/Math$RandomNumberGeneratorHolder"), (71, u "negativeZeroFloatBits"), (0, u "J"), (2, u "negativeZeroDoubleBits"), (24, u "min"), (43, u "$assertionsDisabled"), (0, u "Z"), (88, u "(II)I"), (2, u "twoToTheDoubleScaleDown"), (0, u "D"), (4, u "twoToTheDoubleScaleUp"), (9, u "E"), (3, u "PI"), (2, u "TAU"), (2, u "DEGREES_TO_RADIANS"), (0, u "RADIANS_TO_DEGREES")] 94

def k11m0 : Method := { name := "<init>", desc := "()V", sig := { parameters := [], returnType := none }, accessFlags := 2, code := none }
def k11c1 : Code := { maxStack := 2, maxLocals := 2, code := jdk_29_method_69_code, exceptionTable := #[], attributes := #[] }
def k11m1 : Method := { name := "min", desc := "(II)I", sig := { parameters := [.int, .int], returnType := some .int }, accessFlags := 9, code := some k11c1 }
/-- java/lang/Math -/
def k11 : Class := { plain "java/lang/Math" (some 0) with
  accessFlags := 49
  interfaces := #[]
  cf := some (fileOf pool11 1 #[.nestMembers #[98]] #[{ accessFlags := 2, nameIndex := 7, descriptorIndex := 8, attributes := #[] }, { accessFlags := 9, nameIndex := 201, descriptorIndex := 335, attributes := #[] }] 49 4 #[] #[{ accessFlags := 25, nameIndex := 354, descriptorIndex := 339, attributes := #[] }, { accessFlags := 25, nameIndex := 358, descriptorIndex := 339, attributes := #[] }, { accessFlags := 25, nameIndex := 361, descriptorIndex := 339, attributes := #[] }, { accessFlags := 26, nameIndex := 364, descriptorIndex := 339, attributes := #[] }, { accessFlags := 26, nameIndex := 365, descriptorIndex := 339, attributes := #[] }, { accessFlags := 26, nameIndex := 172, descriptorIndex := 173, attributes := #[] }, { accessFlags := 26, nameIndex := 176, descriptorIndex := 173, attributes := #[] }, { accessFlags := 8, nameIndex := 344, descriptorIndex := 339, attributes := #[] }, { accessFlags := 8, nameIndex := 338, descriptorIndex := 339, attributes := #[] }, { accessFlags := 4120, nameIndex := 245, descriptorIndex := 246, attributes := #[] }])
  fields := #[{ name := "E", type := .double, accessFlags := 25, slot := 0, constantValue := 0 }, { name := "PI", type := .double, accessFlags := 25, slot := 1, constantValue := 0 }, { name := "TAU", type := .double, accessFlags := 25, slot := 2, constantValue := 0 }, { name := "DEGREES_TO_RADIANS", type := .double, accessFlags := 26, slot := 3, constantValue := 0 }, { name := "RADIANS_TO_DEGREES", type := .double, accessFlags := 26, slot := 4, constantValue := 0 }, { name := "negativeZeroFloatBits", type := .long, accessFlags := 26, slot := 5, constantValue := 0 }, { name := "negativeZeroDoubleBits", type := .long, accessFlags := 26, slot := 6, constantValue := 0 }, { name := "twoToTheDoubleScaleUp", type := .double, accessFlags := 8, slot := 7, constantValue := 0 }, { name := "twoToTheDoubleScaleDown", type := .double, accessFlags := 8, slot := 8, constantValue := 0 }, { name := "$assertionsDisabled", type := .boolean, accessFlags := 4120, slot := 9, constantValue := 0 }]
  methods := #[k11m0, k11m1]
  instanceTypes := #[]
  staticTypes := #[.double, .double, .double, .double, .double, .long, .long, .double, .double, .boolean]
  resolved := Array.replicate 460 none
  statics := none }

def pool12 : Array CpInfo := pool [(2, .class_ 4), (1, u "java/lang/Object"), (0, u "<init>"), (0, u "()V"), (17, .class_ 26), (1, u "jdk/internal/util/Preconditions"), (6, u "checkIndex"), (13, u "checkFromToIndex"), (7, .class_ 56), (0, u "jdk/internal/util/Preconditions$4"), (57, .class_ 115), (0, u "jdk/internal/util/Preconditions$1"), (7, u "SIOOBE_FORMATTER"), (0, u "Ljava/util/function/BiFunction;"), (0, .class_ 126), (0, u "jdk/internal/util/Preconditions$2"), (3, u "AIOOBE_FORMATTER"), (0, .class_ 132), (0, u "jdk/internal/util/Preconditions$3"), (3, u "IOOBE_FORMATTER"), (41, u "(IILjava/util/function/BiFunction;)I"), (4, u "(IIILjava/util/function/BiFunction;)I")] 10

def k12m0 : Method := { name := "<init>", desc := "()V", sig := { parameters := [], returnType := none }, accessFlags := 1, code := none }
def k12c1 : Code := { maxStack := 3, maxLocals := 3, code := jdk_41_method_11_code, exceptionTable := #[], attributes := #[] }
def k12m1 : Method := { name := "checkIndex", desc := "(IILjava/util/function/BiFunction;)I", sig := { parameters := [.int, .int, (.object "java/util/function/BiFunction")], returnType := some .int }, accessFlags := 9, code := some k12c1 }
def k12c2 : Code := { maxStack := 4, maxLocals := 4, code := jdk_41_method_12_code, exceptionTable := #[], attributes := #[] }
def k12m2 : Method := { name := "checkFromToIndex", desc := "(IIILjava/util/function/BiFunction;)I", sig := { parameters := [.int, .int, .int, (.object "java/util/function/BiFunction")], returnType := some .int }, accessFlags := 9, code := some k12c2 }
/-- jdk/internal/util/Preconditions -/
def k12 : Class := { plain "jdk/internal/util/Preconditions" (some 0) with
  accessFlags := 33
  interfaces := #[]
  cf := some (fileOf pool12 24 #[.nestMembers #[55, 131, 125, 114]] #[{ accessFlags := 1, nameIndex := 5, descriptorIndex := 6, attributes := #[] }, { accessFlags := 9, nameIndex := 33, descriptorIndex := 178, attributes := #[] }, { accessFlags := 9, nameIndex := 47, descriptorIndex := 183, attributes := #[] }] 33 2 #[] #[{ accessFlags := 25, nameIndex := 123, descriptorIndex := 124, attributes := #[] }, { accessFlags := 25, nameIndex := 130, descriptorIndex := 124, attributes := #[] }, { accessFlags := 25, nameIndex := 136, descriptorIndex := 124, attributes := #[] }])
  fields := #[{ name := "SIOOBE_FORMATTER", type := (.object "java/util/function/BiFunction"), accessFlags := 25, slot := 0, constantValue := 0 }, { name := "AIOOBE_FORMATTER", type := (.object "java/util/function/BiFunction"), accessFlags := 25, slot := 1, constantValue := 0 }, { name := "IOOBE_FORMATTER", type := (.object "java/util/function/BiFunction"), accessFlags := 25, slot := 2, constantValue := 0 }]
  methods := #[k12m0, k12m1, k12m2]
  instanceTypes := #[]
  staticTypes := #[(.object "java/util/function/BiFunction"), (.object "java/util/function/BiFunction"), (.object "java/util/function/BiFunction")]
  resolved := Array.replicate 194 none
  statics := some 1 }

def pool13 : Array CpInfo := pool [(2, .class_ 4), (1, u "java/lang/Object"), (0, u "<init>"), (0, u "()V"), (7, .class_ 16), (1, u "java/util/Arrays"), (57, .class_ 76), (1, u "java/util/Arrays$NaturalOrder"), (36, .class_ 115), (1, u "java/util/Arrays$LegacyMergeSort"), (1, u "Z"), (21, u "copyOfRange"), (10, .methodref 151 152), (0, .class_ 153), (0, .nameAndType 154 155), (0, u "java/lang/System"), (0, u "arraycopy"), (0, u "(Ljava/lang/Object;ILjava/lang/Object;II)V"), (148, .methodref 305 306), (0, .class_ 307), (0, .nameAndType 308 309), (0, u "java/lang/Math"), (0, u "min"), (0, u "(II)I"), (29, .methodref 14 340), (0, .nameAndType 341 342), (0, u "copyOfRangeByte"), (0, u "([BII)[B"), (0, .methodref 14 344), (0, .nameAndType 345 346), (0, u "checkLength"), (0, u "(II)V"), (28, .class_ 376), (0, u "java/util/Arrays$ArrayList"), (68, u "$assertionsDisabled"), (269, u "MIN_ARRAY_SORT_GRAN"), (0, u "I"), (2, u "INSERTIONSORT_THRESHOLD"), (255, .class_ 976), (0, u "java/util/Arrays$ArrayItr")] 52

def k13m0 : Method := { name := "<init>", desc := "()V", sig := { parameters := [], returnType := none }, accessFlags := 2, code := none }
def k13c1 : Code := { maxStack := 4, maxLocals := 2, code := jdk_65_method_131_code, exceptionTable := #[], attributes := #[] }
def k13m1 : Method := { name := "checkLength", desc := "(II)V", sig := { parameters := [.int, .int], returnType := none }, accessFlags := 10, code := some k13c1 }
def k13c2 : Code := { maxStack := 3, maxLocals := 3, code := jdk_65_method_132_code, exceptionTable := #[], attributes := #[] }
def k13m2 : Method := { name := "copyOfRange", desc := "([BII)[B", sig := { parameters := [(.array .byte), .int, .int], returnType := some (.array .byte) }, accessFlags := 9, code := some k13c2 }
def k13c3 : Code := { maxStack := 6, maxLocals := 5, code := jdk_65_method_133_code, exceptionTable := #[], attributes := #[] }
def k13m3 : Method := { name := "copyOfRangeByte", desc := "([BII)[B", sig := { parameters := [(.array .byte), .int, .int], returnType := some (.array .byte) }, accessFlags := 10, code := some k13c3 }
/-- java/util/Arrays -/
def k13 : Class := { plain "java/util/Arrays" (some 0) with
  accessFlags := 49
  interfaces := #[]
  cf := some (fileOf pool13 14 #[.nestMembers #[975, 375, 113, 74]] #[{ accessFlags := 2, nameIndex := 5, descriptorIndex := 6, attributes := #[] }, { accessFlags := 10, nameIndex := 345, descriptorIndex := 346, attributes := #[] }, { accessFlags := 9, nameIndex := 139, descriptorIndex := 342, attributes := #[] }, { accessFlags := 10, nameIndex := 341, descriptorIndex := 342, attributes := #[] }] 49 2 #[] #[{ accessFlags := 26, nameIndex := 715, descriptorIndex := 716, attributes := #[] }, { accessFlags := 26, nameIndex := 719, descriptorIndex := 716, attributes := #[] }, { accessFlags := 4120, nameIndex := 445, descriptorIndex := 117, attributes := #[] }])
  fields := #[{ name := "MIN_ARRAY_SORT_GRAN", type := .int, accessFlags := 26, slot := 0, constantValue := 0 }, { name := "INSERTIONSORT_THRESHOLD", type := .int, accessFlags := 26, slot := 1, constantValue := 0 }, { name := "$assertionsDisabled", type := .boolean, accessFlags := 4120, slot := 2, constantValue := 0 }]
  methods := #[k13m0, k13m1, k13m2, k13m3]
  instanceTypes := #[]
  staticTypes := #[.int, .int, .boolean]
  resolved := Array.replicate 1029 none
  statics := none }

def pool14 : Array CpInfo := pool [(2, .class_ 4), (1, u "java/lang/Object"), (0, u "<init>"), (0, u "()V"), (1, .class_ 10), (1, u "java/lang/System"), (0, u "allowSecurityManager"), (0, u "I"), (16, u "cons"), (0, u "Ljava/io/Console;"), (77, .class_ 110), (1, u "java/lang/System$CallersHolder"), (43, u "initialErrStream"), (0, u "Ljava/io/PrintStream;"), (19, u "security"), (0, u "Ljava/lang/SecurityManager;"), (31, .class_ 209), (0, u "java/lang/System$1"), (7, u "props"), (0, u "Ljava/util/Properties;"), (2, u "lineSeparator"), (0, u "Ljava/lang/String;"), (96, .class_ 321), (1, u "java/lang/System$LoggerFinder"), (5, .class_ 328), (0, u "java/lang/System$Logger"), (67, u "err"), (2, u "out"), (91, u "notSupportedJnuEncoding"), (15, u "in"), (17, u "initialIn"), (0, u "Ljava/io/InputStream;"), (35, u "bootLayer"), (0, u "Ljava/lang/ModuleLayer;"), (99, .class_ 664), (0, u "java/lang/System$2"), (9, u "NEVER"), (2, u "MAYBE"), (49, u "arraycopy"), (0, u "(Ljava/lang/Object;ILjava/lang/Object;II)V"), (72, .class_ 802), (0, u "java/lang/System$Logger$Level")] 31

def k14m0 : Method := { name := "<init>", desc := "()V", sig := { parameters := [], returnType := none }, accessFlags := 2, code := none }
def k14m1 : Method := { name := "arraycopy", desc := "(Ljava/lang/Object;ILjava/lang/Object;II)V", sig := { parameters := [(.object "java/lang/Object"), .int, (.object "java/lang/Object"), .int, .int], returnType := none }, accessFlags := 265, code := none }
/-- java/lang/System -/
def k14 : Class := { plain "java/lang/System" (some 0) with
  accessFlags := 49
  interfaces := #[]
  cf := some (fileOf pool14 8 #[.nestMembers #[319, 327, 801, 108, 663, 208]] #[{ accessFlags := 2, nameIndex := 5, descriptorIndex := 6, attributes := #[] }, { accessFlags := 265, nameIndex := 727, descriptorIndex := 728, attributes := #[] }] 49 2 #[] #[{ accessFlags := 25, nameIndex := 507, descriptorIndex := 526, attributes := #[] }, { accessFlags := 25, nameIndex := 399, descriptorIndex := 155, attributes := #[] }, { accessFlags := 25, nameIndex := 396, descriptorIndex := 155, attributes := #[] }, { accessFlags := 10, nameIndex := 525, descriptorIndex := 526, attributes := #[] }, { accessFlags := 26, nameIndex := 674, descriptorIndex := 12, attributes := #[] }, { accessFlags := 26, nameIndex := 677, descriptorIndex := 12, attributes := #[] }, { accessFlags := 10, nameIndex := 11, descriptorIndex := 12, attributes := #[] }, { accessFlags := 74, nameIndex := 175, descriptorIndex := 176, attributes := #[] }, { accessFlags := 10, nameIndex := 491, descriptorIndex := 222, attributes := #[] }, { accessFlags := 74, nameIndex := 29, descriptorIndex := 30, attributes := #[] }, { accessFlags := 74, nameIndex := 154, descriptorIndex := 155, attributes := #[] }, { accessFlags := 10, nameIndex := 217, descriptorIndex := 218, attributes := #[] }, { accessFlags := 10, nameIndex := 221, descriptorIndex := 222, attributes := #[] }, { accessFlags := 8, nameIndex := 562, descriptorIndex := 563, attributes := #[] }])
  fields := #[{ name := "in", type := (.object "java/io/InputStream"), accessFlags := 25, slot := 0, constantValue := 0 }, { name := "out", type := (.object "java/io/PrintStream"), accessFlags := 25, slot := 1, constantValue := 0 }, { name := "err", type := (.object "java/io/PrintStream"), accessFlags := 25, slot := 2, constantValue := 0 }, { name := "initialIn", type := (.object "java/io/InputStream"), accessFlags := 10, slot := 3, constantValue := 0 }, { name := "NEVER", type := .int, accessFlags := 26, slot := 4, constantValue := 0 }, { name := "MAYBE", type := .int, accessFlags := 26, slot := 5, constantValue := 0 }, { name := "allowSecurityManager", type := .int, accessFlags := 10, slot := 6, constantValue := 0 }, { name := "security", type := (.object "java/lang/SecurityManager"), accessFlags := 74, slot := 7, constantValue := 0 }, { name := "notSupportedJnuEncoding", type := (.object "java/lang/String"), accessFlags := 10, slot := 8, constantValue := 0 }, { name := "cons", type := (.object "java/io/Console"), accessFlags := 74, slot := 9, constantValue := 0 }, { name := "initialErrStream", type := (.object "java/io/PrintStream"), accessFlags := 74, slot := 10, constantValue := 0 }, { name := "props", type := (.object "java/util/Properties"), accessFlags := 10, slot := 11, constantValue := 0 }, { name := "lineSeparator", type := (.object "java/lang/String"), accessFlags := 10, slot := 12, constantValue := 0 }, { name := "bootLayer", type := (.object "java/lang/ModuleLayer"), accessFlags := 8, slot := 13, constantValue := 0 }]
  methods := #[k14m0, k14m1]
  instanceTypes := #[]
  staticTypes := #[(.object "java/io/InputStream"), (.object "java/io/PrintStream"), (.object "java/io/PrintStream"), (.object "java/io/InputStream"), .int, .int, .int, (.object "java/lang/SecurityManager"), (.object "java/lang/String"), (.object "java/io/Console"), (.object "java/io/PrintStream"), (.object "java/util/Properties"), (.object "java/lang/String"), (.object "java/lang/ModuleLayer")]
  resolved := Array.replicate 834 none
  statics := none }

def pool15 : Array CpInfo := pool [(9, u "<init>"), (6, .class_ 18), (1, u "java/lang/Object"), (0, u "()V"), (1, .class_ 23), (1, u "jdk/internal/util/ArraysSupport"), (0, u "LOG2_ARRAY_LONG_INDEX_SCALE"), (0, u "I"), (2, u "U"), (0, u "Ljdk/internal/misc/Unsafe;"), (8, u "BIG_ENDIAN"), (0, u "Z"), (8, u "LOG2_BYTE_BIT_SIZE"), (4, u "LOG2_ARRAY_INT_INDEX_SCALE"), (54, u "JLA"), (0, u "Ljdk/internal/access/JavaLangAccess;"), (11, u "LOG2_ARRAY_BOOLEAN_INDEX_SCALE"), (9, u "LOG2_ARRAY_BYTE_INDEX_SCALE"), (5, u "LOG2_ARRAY_CHAR_INDEX_SCALE"), (5, u "LOG2_ARRAY_SHORT_INDEX_SCALE"), (18, u "LOG2_ARRAY_FLOAT_INDEX_SCALE"), (24, u "LOG2_ARRAY_DOUBLE_INDEX_SCALE"), (89, u "T_BOOLEAN"), (2, u "T_CHAR"), (1, u "T_FLOAT"), (1, u "T_DOUBLE"), (1, u "T_BYTE"), (1, u "T_SHORT"), (1, u "T_INT"), (1, u "T_LONG"), (1, u "SOFT_MAX_ARRAY_LENGTH")] 83

def k15m0 : Method := { name := "<init>", desc := "()V", sig := { parameters := [], returnType := none }, accessFlags := 2, code := none }
/-- jdk/internal/util/ArraysSupport -/
def k15 : Class := { plain "jdk/internal/util/ArraysSupport" (some 0) with
  accessFlags := 33
  interfaces := #[]
  cf := some (fileOf pool15 21 #[] #[{ accessFlags := 2, nameIndex := 9, descriptorIndex := 19, attributes := #[] }] 33 16 #[] #[{ accessFlags := 24, nameIndex := 28, descriptorIndex := 29, attributes := #[] }, { accessFlags := 26, nameIndex := 38, descriptorIndex := 39, attributes := #[] }, { accessFlags := 25, nameIndex := 121, descriptorIndex := 25, attributes := #[] }, { accessFlags := 25, nameIndex := 131, descriptorIndex := 25, attributes := #[] }, { accessFlags := 25, nameIndex := 137, descriptorIndex := 25, attributes := #[] }, { accessFlags := 25, nameIndex := 143, descriptorIndex := 25, attributes := #[] }, { accessFlags := 25, nameIndex := 53, descriptorIndex := 25, attributes := #[] }, { accessFlags := 25, nameIndex := 24, descriptorIndex := 25, attributes := #[] }, { accessFlags := 25, nameIndex := 162, descriptorIndex := 25, attributes := #[] }, { accessFlags := 25, nameIndex := 187, descriptorIndex := 25, attributes := #[] }, { accessFlags := 26, nameIndex := 48, descriptorIndex := 25, attributes := #[] }, { accessFlags := 25, nameIndex := 277, descriptorIndex := 25, attributes := #[] }, { accessFlags := 25, nameIndex := 280, descriptorIndex := 25, attributes := #[] }, { accessFlags := 25, nameIndex := 282, descriptorIndex := 25, attributes := #[] }, { accessFlags := 25, nameIndex := 284, descriptorIndex := 25, attributes := #[] }, { accessFlags := 25, nameIndex := 286, descriptorIndex := 25, attributes := #[] }, { accessFlags := 25, nameIndex := 288, descriptorIndex := 25, attributes := #[] }, { accessFlags := 25, nameIndex := 290, descriptorIndex := 25, attributes := #[] }, { accessFlags := 25, nameIndex := 292, descriptorIndex := 25, attributes := #[] }, { accessFlags := 26, nameIndex := 108, descriptorIndex := 109, attributes := #[] }, { accessFlags := 25, nameIndex := 294, descriptorIndex := 25, attributes := #[] }])
  fields := #[{ name := "U", type := (.object "jdk/internal/misc/Unsafe"), accessFlags := 24, slot := 0, constantValue := 0 }, { name := "BIG_ENDIAN", type := .boolean, accessFlags := 26, slot := 1, constantValue := 0 }, { name := "LOG2_ARRAY_BOOLEAN_INDEX_SCALE", type := .int, accessFlags := 25, slot := 2, constantValue := 0 }, { name := "LOG2_ARRAY_BYTE_INDEX_SCALE", type := .int, accessFlags := 25, slot := 3, constantValue := 0 }, { name := "LOG2_ARRAY_CHAR_INDEX_SCALE", type := .int, accessFlags := 25, slot := 4, constantValue := 0 }, { name := "LOG2_ARRAY_SHORT_INDEX_SCALE", type := .int, accessFlags := 25, slot := 5, constantValue := 0 }, { name := "LOG2_ARRAY_INT_INDEX_SCALE", type := .int, accessFlags := 25, slot := 6, constantValue := 0 }, { name := "LOG2_ARRAY_LONG_INDEX_SCALE", type := .int, accessFlags := 25, slot := 7, constantValue := 0 }, { name := "LOG2_ARRAY_FLOAT_INDEX_SCALE", type := .int, accessFlags := 25, slot := 8, constantValue := 0 }, { name := "LOG2_ARRAY_DOUBLE_INDEX_SCALE", type := .int, accessFlags := 25, slot := 9, constantValue := 0 }, { name := "LOG2_BYTE_BIT_SIZE", type := .int, accessFlags := 26, slot := 10, constantValue := 0 }, { name := "T_BOOLEAN", type := .int, accessFlags := 25, slot := 11, constantValue := 0 }, { name := "T_CHAR", type := .int, accessFlags := 25, slot := 12, constantValue := 0 }, { name := "T_FLOAT", type := .int, accessFlags := 25, slot := 13, constantValue := 0 }, { name := "T_DOUBLE", type := .int, accessFlags := 25, slot := 14, constantValue := 0 }, { name := "T_BYTE", type := .int, accessFlags := 25, slot := 15, constantValue := 0 }, { name := "T_SHORT", type := .int, accessFlags := 25, slot := 16, constantValue := 0 }, { name := "T_INT", type := .int, accessFlags := 25, slot := 17, constantValue := 0 }, { name := "T_LONG", type := .int, accessFlags := 25, slot := 18, constantValue := 0 }, { name := "JLA", type := (.object "jdk/internal/access/JavaLangAccess"), accessFlags := 26, slot := 19, constantValue := 0 }, { name := "SOFT_MAX_ARRAY_LENGTH", type := .int, accessFlags := 25, slot := 20, constantValue := 0 }]
  methods := #[k15m0]
  instanceTypes := #[]
  staticTypes := #[(.object "jdk/internal/misc/Unsafe"), .boolean, .int, .int, .int, .int, .int, .int, .int, .int, .int, .int, .int, .int, .int, .int, .int, .int, .int, (.object "jdk/internal/access/JavaLangAccess"), .int]
  resolved := Array.replicate 378 none
  statics := none }

def pool16 : Array CpInfo := pool [(1, u "java/lang/Cloneable"), (0, .class_ 1), (0, u "java/lang/Object"), (0, .class_ 3)] 3

/-- java/lang/Cloneable -/
def k16 : Class := { plain "java/lang/Cloneable" (some 0) with
  accessFlags := 1537
  interfaces := #[]
  cf := some (fileOf pool16 2 #[] #[] 1537 4 #[] #[])
  fields := #[]
  methods := #[]
  instanceTypes := #[]
  staticTypes := #[]
  resolved := Array.replicate 8 none
  statics := none }

/-- the primitive byte -/
def k17 : Class := { plain "byte" none with kind := .primitive 'B', accessFlags := 0x411 }
/-- [B -/
def k18 : Class := { plain "[B" (some 0) with kind := .array 17 .byte, interfaces := #[16, 2], accessFlags := 1041 }

/-- the primitive char -/
def k19 : Class := { plain "char" none with kind := .primitive 'C', accessFlags := 0x411 }
/-- [C -/
def k20 : Class := { plain "[C" (some 0) with kind := .array 19 .char, interfaces := #[16, 2], accessFlags := 1041 }

/-- the primitive int -/
def k21 : Class := { plain "int" none with kind := .primitive 'I', accessFlags := 0x411 }
/-- [I -/
def k22 : Class := { plain "[I" (some 0) with kind := .array 21 .int, interfaces := #[16, 2], accessFlags := 1041 }

def heap : Heap := #[{ cls := 7, slots := #[.long 0, .int 1, .null, .int 0, .null, .int 0, .int 0], vm := .statics 7 },
  { cls := 12, slots := #[.null, .null, .null], vm := .statics 12 }]
def classes : Array Class := #[k0, k1, k2, k3, k4, k5, k6, k7, k8, k9, k10, k11, k12, k13, k14, k15, k16, k17, k18, k19, k20, k21, k22]
def interned : List (Array UInt16 × Addr) := []
def slotsUsed : Nat := 10
def theMethod : MethodId := ⟨1, 1⟩
def args0 : Array Value := #[.int 5, .int 6, .int 7]
def aboutOver (below : List Frame) : State where
  vm := { classes := classes, interned := interned.toArray }
  heap := heap
  slotsUsed := slotsUsed
  threads := #[{ frames := .invoking theMethod args0 :: below }]
def below0 : List Frame := [.native { method := ⟨0, 0⟩, args := #[] }]
def about1 : State := aboutOver below0
def p0 : Program := .bare "" "" ""
def e0 : Env := launch0.env 0 0 0
theorem w_frames : about1.frames = Frame.invoking theMethod args0 :: below0 := rfl
set_option maxRecDepth 65536 in
theorem w_args : argsFit about1.vm theMethod args0 = true := by decide +kernel
set_option maxRecDepth 65536 in
theorem w_heap : heapFits about1 = true := by decide +kernel
set_option maxRecDepth 65536 in
theorem w_runnable : about1.curStatus? = some .runnable := by decide +kernel
set_option maxRecDepth 65536 in
theorem w_alone : about1.alone = true := by decide +kernel
set_option maxRecDepth 65536 in
theorem w_named : about1.methodNamed? x = some theMethod := by decide +kernel
set_option maxRecDepth 65536 in
theorem w_hears : about1.hears theMethod below0 = true := by decide +kernel
set_option maxRecDepth 65536 in
theorem w_ripe : about1.ripe theMethod args0 below0 = true := by decide +kernel
theorem w_running : about1.status = .running := rfl
set_option maxRecDepth 65536 in
theorem w_room : about1.hasRoom e0.platform room_1 = true :=
  launch0.hasRoom_least _ room_1 (by decide +kernel) (by decide +kernel) (by decide +kernel) (by decide +kernel) (by decide +kernel) (by decide +kernel)
theorem allAtoms_all (ts : List Jvm.Cond) (a : Array Jvm.Value) (st : Jvm.State) : (allAtoms ts).before a st = ts.all (fun c => c.before a st) := by
  induction ts with
  | nil => rfl
  | cons c t ih =>
    show (Jvm.Cond.and c (allAtoms t)).before a st = _
    rw [Jvm.Cond.before_and, ih, List.all_cons]
def words1 : List Jvm.Cond := Jvm.Cond.code x code maxLocals ret :: tables_1
/-- a 'code' word, met by the world's own term for the bytes: nothing is compared byte by byte -/
theorem code_word {y : MethodName} {bytes : ByteArray} {mx : Nat} {rt : Option FieldType} {a : Array Value} {s : State} {m : MethodId} {meth : Method} {c : Code} (h1 : s.methodNamed? y = some m) (h2 : s.vm.method? m = some meth) (h3 : meth.code = some c) (h4 : c.code = bytes)
    (h5 : (c.maxLocals == mx && c.exceptionTable.isEmpty && decide (c.maxStack ≤ mostOperands) && decide (meth.sig.returnType = rt) && !meth.locks && decide (parseMethodDescriptor y.desc = some meth.sig)) = true) : (Jvm.Cond.code y bytes mx rt).before a s = true := by
  simp only [Bool.and_eq_true, beq_iff_eq, Bool.not_eq_true', decide_eq_true_eq] at h5
  obtain ⟨⟨⟨⟨⟨g1, g2⟩, g3⟩, g4⟩, g5⟩, g6⟩ := h5
  simp [Cond.before, Cond.holds, Cond.value, h1, h2, h3, h4, g1, g2, g3, g4, g5, g6]
def isCode : Jvm.Cond → Bool
  | .code _ _ _ _ => true
  | _ => false
theorem all_split {L : List Jvm.Cond} {P : Jvm.Cond → Bool} (h1 : L.all (fun c => isCode c || P c) = true) (h2 : ∀ c ∈ L.filter isCode, P c = true) : L.all P = true := by
  refine List.all_eq_true.mpr fun c hc => ?_
  have h := List.all_eq_true.mp h1 c hc
  rcases Bool.eq_false_or_eq_true (isCode c) with hi | hi
  · exact h2 c (List.mem_filter.mpr ⟨hc, hi⟩)
  · simpa [hi] using h
set_option maxRecDepth 65536 in
theorem w_c0 : (Jvm.Cond.code x code maxLocals ret).before args0 about1 = true := code_word (m := ⟨1, 1⟩) (meth := k1m1) (c := k1c1) (by decide +kernel) rfl rfl rfl (by decide +kernel)
set_option maxRecDepth 65536 in
theorem w_c1 : (Jvm.Cond.code ({ cls := "com/example/descriptor/descriptor/vocabulary/HierarchyParentPinLaw", name := "pick", desc := "(III)C" } : Jvm.MethodName) method_3_code (3 : Nat) (Option.some Jvm.ClassFile.FieldType.char)).before args0 about1 = true := code_word (m := ⟨1, 2⟩) (meth := k1m2) (c := k1c2) (by decide +kernel) rfl rfl rfl (by decide +kernel)
set_option maxRecDepth 65536 in
theorem w_c2 : (Jvm.Cond.code ({ cls := "com/example/descriptor/descriptor/vocabulary/HierarchyParentPinLaw", name := "make", desc := "(I[C)Ljava/lang/String;" } : Jvm.MethodName) method_4_code (2 : Nat) (Option.some (Jvm.ClassFile.FieldType.object "java/lang/String"))).before args0 about1 = true := code_word (m := ⟨1, 3⟩) (meth := k1m3) (c := k1c3) (by decide +kernel) rfl rfl rfl (by decide +kernel)
set_option maxRecDepth 65536 in
theorem w_c3 : (Jvm.Cond.code ({ cls := "java/lang/String", name := "<init>", desc := "([C)V" } : Jvm.MethodName) jdk_42_method_3_code (2 : Nat) (Option.none : Option Jvm.ClassFile.FieldType)).before args0 about1 = true := code_word (m := ⟨7, 1⟩) (meth := k7m1) (c := k7c1) (by decide +kernel) rfl rfl rfl (by decide +kernel)
set_option maxRecDepth 65536 in
theorem w_c4 : (Jvm.Cond.code ({ cls := "java/lang/String", name := "<init>", desc := "([CIILjava/lang/Void;)V" } : Jvm.MethodName) jdk_42_method_149_code (6 : Nat) (Option.none : Option Jvm.ClassFile.FieldType)).before args0 about1 = true := code_word (m := ⟨7, 7⟩) (meth := k7m7) (c := k7c7) (by decide +kernel) rfl rfl rfl (by decide +kernel)
set_option maxRecDepth 65536 in
theorem w_c5 : (Jvm.Cond.code ({ cls := "java/lang/Object", name := "<init>", desc := "()V" } : Jvm.MethodName) object_method_1_code (1 : Nat) (Option.none : Option Jvm.ClassFile.FieldType)).before args0 about1 = true := code_word (m := ⟨0, 0⟩) (meth := k0m0) (c := k0c0) (by decide +kernel) rfl rfl rfl (by decide +kernel)
set_option maxRecDepth 65536 in
theorem w_c6 : (Jvm.Cond.code ({ cls := "java/lang/StringUTF16", name := "compress", desc := "([CII)[B" } : Jvm.MethodName) jdk_52_method_16_code (6 : Nat) (Option.some (Jvm.ClassFile.FieldType.array Jvm.ClassFile.FieldType.byte))).before args0 about1 = true := code_word (m := ⟨8, 2⟩) (meth := k8m2) (c := k8c2) (by decide +kernel) rfl rfl rfl (by decide +kernel)
set_option maxRecDepth 65536 in
theorem w_c7 : (Jvm.Cond.code ({ cls := "java/lang/StringUTF16", name := "compress", desc := "([CI[BII)I" } : Jvm.MethodName) jdk_52_method_21_code (7 : Nat) (Option.some Jvm.ClassFile.FieldType.int)).before args0 about1 = true := code_word (m := ⟨8, 3⟩) (meth := k8m3) (c := k8c3) (by decide +kernel) rfl rfl rfl (by decide +kernel)
set_option maxRecDepth 65536 in
theorem w_c8 : (Jvm.Cond.code ({ cls := "java/lang/StringUTF16", name := "coderFromArrayLen", desc := "([BI)B" } : Jvm.MethodName) jdk_52_method_15_code (2 : Nat) (Option.some Jvm.ClassFile.FieldType.byte)).before args0 about1 = true := code_word (m := ⟨8, 1⟩) (meth := k8m1) (c := k8c1) (by decide +kernel) rfl rfl rfl (by decide +kernel)
set_option maxRecDepth 65536 in
theorem w_c9 : (Jvm.Cond.code ({ cls := "com/example/descriptor/descriptor/vocabulary/Hierarchy", name := "parent", desc := "(Ljava/lang/String;)Ljava/lang/String;" } : Jvm.MethodName) prog_49_method_2_code (2 : Nat) (Option.some (Jvm.ClassFile.FieldType.object "java/lang/String"))).before args0 about1 = true := code_word (m := ⟨9, 0⟩) (meth := k9m0) (c := k9c0) (by decide +kernel) rfl rfl rfl (by decide +kernel)
set_option maxRecDepth 65536 in
theorem w_c10 : (Jvm.Cond.code ({ cls := "java/lang/String", name := "lastIndexOf", desc := "(I)I" } : Jvm.MethodName) jdk_42_method_82_code (2 : Nat) (Option.some Jvm.ClassFile.FieldType.int)).before args0 about1 = true := code_word (m := ⟨7, 4⟩) (meth := k7m4) (c := k7c4) (by decide +kernel) rfl rfl rfl (by decide +kernel)
set_option maxRecDepth 65536 in
theorem w_c11 : (Jvm.Cond.code ({ cls := "java/lang/String", name := "length", desc := "()I" } : Jvm.MethodName) jdk_42_method_54_code (1 : Nat) (Option.some Jvm.ClassFile.FieldType.int)).before args0 about1 = true := code_word (m := ⟨7, 2⟩) (meth := k7m2) (c := k7c2) (by decide +kernel) rfl rfl rfl (by decide +kernel)
set_option maxRecDepth 65536 in
theorem w_c12 : (Jvm.Cond.code ({ cls := "java/lang/String", name := "coder", desc := "()B" } : Jvm.MethodName) jdk_42_method_152_code (1 : Nat) (Option.some Jvm.ClassFile.FieldType.byte)).before args0 about1 = true := code_word (m := ⟨7, 9⟩) (meth := k7m9) (c := k7c9) (by decide +kernel) rfl rfl rfl (by decide +kernel)
set_option maxRecDepth 65536 in
theorem w_c13 : (Jvm.Cond.code ({ cls := "java/lang/String", name := "lastIndexOf", desc := "(II)I" } : Jvm.MethodName) jdk_42_method_83_code (3 : Nat) (Option.some Jvm.ClassFile.FieldType.int)).before args0 about1 = true := code_word (m := ⟨7, 5⟩) (meth := k7m5) (c := k7c5) (by decide +kernel) rfl rfl rfl (by decide +kernel)
set_option maxRecDepth 65536 in
theorem w_c14 : (Jvm.Cond.code ({ cls := "java/lang/String", name := "isLatin1", desc := "()Z" } : Jvm.MethodName) jdk_42_method_154_code (1 : Nat) (Option.some Jvm.ClassFile.FieldType.boolean)).before args0 about1 = true := code_word (m := ⟨7, 10⟩) (meth := k7m10) (c := k7c10) (by decide +kernel) rfl rfl rfl (by decide +kernel)
set_option maxRecDepth 65536 in
theorem w_c15 : (Jvm.Cond.code ({ cls := "java/lang/StringLatin1", name := "lastIndexOf", desc := "([BII)I" } : Jvm.MethodName) jdk_43_method_27_code (4 : Nat) (Option.some Jvm.ClassFile.FieldType.int)).before args0 about1 = true := code_word (m := ⟨10, 3⟩) (meth := k10m3) (c := k10c3) (by decide +kernel) rfl rfl rfl (by decide +kernel)
set_option maxRecDepth 65536 in
theorem w_c16 : (Jvm.Cond.code ({ cls := "java/lang/StringLatin1", name := "canEncode", desc := "(I)Z" } : Jvm.MethodName) jdk_43_method_4_code (1 : Nat) (Option.some Jvm.ClassFile.FieldType.boolean)).before args0 about1 = true := code_word (m := ⟨10, 2⟩) (meth := k10m2) (c := k10c2) (by decide +kernel) rfl rfl rfl (by decide +kernel)
set_option maxRecDepth 65536 in
theorem w_c17 : (Jvm.Cond.code ({ cls := "java/lang/Math", name := "min", desc := "(II)I" } : Jvm.MethodName) jdk_29_method_69_code (2 : Nat) (Option.some Jvm.ClassFile.FieldType.int)).before args0 about1 = true := code_word (m := ⟨11, 1⟩) (meth := k11m1) (c := k11c1) (by decide +kernel) rfl rfl rfl (by decide +kernel)
set_option maxRecDepth 65536 in
theorem w_c18 : (Jvm.Cond.code ({ cls := "java/lang/String", name := "substring", desc := "(II)Ljava/lang/String;" } : Jvm.MethodName) jdk_42_method_92_code (5 : Nat) (Option.some (Jvm.ClassFile.FieldType.object "java/lang/String"))).before args0 about1 = true := code_word (m := ⟨7, 6⟩) (meth := k7m6) (c := k7c6) (by decide +kernel) rfl rfl rfl (by decide +kernel)
set_option maxRecDepth 65536 in
theorem w_c19 : (Jvm.Cond.code ({ cls := "java/lang/String", name := "checkBoundsBeginEnd", desc := "(III)V" } : Jvm.MethodName) jdk_42_method_158_code (3 : Nat) (Option.none : Option Jvm.ClassFile.FieldType)).before args0 about1 = true := code_word (m := ⟨7, 12⟩) (meth := k7m12) (c := k7c12) (by decide +kernel) rfl rfl rfl (by decide +kernel)
set_option maxRecDepth 65536 in
theorem w_c20 : (Jvm.Cond.code ({ cls := "jdk/internal/util/Preconditions", name := "checkFromToIndex", desc := "(IIILjava/util/function/BiFunction;)I" } : Jvm.MethodName) jdk_41_method_12_code (4 : Nat) (Option.some Jvm.ClassFile.FieldType.int)).before args0 about1 = true := code_word (m := ⟨12, 2⟩) (meth := k12m2) (c := k12c2) (by decide +kernel) rfl rfl rfl (by decide +kernel)
set_option maxRecDepth 65536 in
theorem w_c21 : (Jvm.Cond.code ({ cls := "java/lang/StringLatin1", name := "newString", desc := "([BII)Ljava/lang/String;" } : Jvm.MethodName) jdk_43_method_47_code (3 : Nat) (Option.some (Jvm.ClassFile.FieldType.object "java/lang/String"))).before args0 about1 = true := code_word (m := ⟨10, 4⟩) (meth := k10m4) (c := k10c4) (by decide +kernel) rfl rfl rfl (by decide +kernel)
set_option maxRecDepth 65536 in
theorem w_c22 : (Jvm.Cond.code ({ cls := "java/util/Arrays", name := "copyOfRange", desc := "([BII)[B" } : Jvm.MethodName) jdk_65_method_132_code (3 : Nat) (Option.some (Jvm.ClassFile.FieldType.array Jvm.ClassFile.FieldType.byte))).before args0 about1 = true := code_word (m := ⟨13, 2⟩) (meth := k13m2) (c := k13c2) (by decide +kernel) rfl rfl rfl (by decide +kernel)
set_option maxRecDepth 65536 in
theorem w_c23 : (Jvm.Cond.code ({ cls := "java/util/Arrays", name := "copyOfRangeByte", desc := "([BII)[B" } : Jvm.MethodName) jdk_65_method_133_code (5 : Nat) (Option.some (Jvm.ClassFile.FieldType.array Jvm.ClassFile.FieldType.byte))).before args0 about1 = true := code_word (m := ⟨13, 3⟩) (meth := k13m3) (c := k13c3) (by decide +kernel) rfl rfl rfl (by decide +kernel)
set_option maxRecDepth 65536 in
theorem w_c24 : (Jvm.Cond.code ({ cls := "java/util/Arrays", name := "checkLength", desc := "(II)V" } : Jvm.MethodName) jdk_65_method_131_code (2 : Nat) (Option.none : Option Jvm.ClassFile.FieldType)).before args0 about1 = true := code_word (m := ⟨13, 1⟩) (meth := k13m1) (c := k13c1) (by decide +kernel) rfl rfl rfl (by decide +kernel)
set_option maxRecDepth 65536 in
theorem w_c25 : (Jvm.Cond.code ({ cls := "java/lang/String", name := "<init>", desc := "([BB)V" } : Jvm.MethodName) jdk_42_method_151_code (3 : Nat) (Option.none : Option Jvm.ClassFile.FieldType)).before args0 about1 = true := code_word (m := ⟨7, 8⟩) (meth := k7m8) (c := k7c8) (by decide +kernel) rfl rfl rfl (by decide +kernel)
set_option maxRecDepth 65536 in
theorem w_c26 : (Jvm.Cond.code ({ cls := "java/lang/String", name := "charAt", desc := "(I)C" } : Jvm.MethodName) jdk_42_method_56_code (2 : Nat) (Option.some Jvm.ClassFile.FieldType.char)).before args0 about1 = true := code_word (m := ⟨7, 3⟩) (meth := k7m3) (c := k7c3) (by decide +kernel) rfl rfl rfl (by decide +kernel)
set_option maxRecDepth 65536 in
theorem w_c27 : (Jvm.Cond.code ({ cls := "java/lang/StringLatin1", name := "charAt", desc := "([BI)C" } : Jvm.MethodName) jdk_43_method_2_code (2 : Nat) (Option.some Jvm.ClassFile.FieldType.char)).before args0 about1 = true := code_word (m := ⟨10, 1⟩) (meth := k10m1) (c := k10c1) (by decide +kernel) rfl rfl rfl (by decide +kernel)
set_option maxRecDepth 65536 in
theorem w_c28 : (Jvm.Cond.code ({ cls := "java/lang/String", name := "checkIndex", desc := "(II)V" } : Jvm.MethodName) jdk_42_method_155_code (2 : Nat) (Option.none : Option Jvm.ClassFile.FieldType)).before args0 about1 = true := code_word (m := ⟨7, 11⟩) (meth := k7m11) (c := k7c11) (by decide +kernel) rfl rfl rfl (by decide +kernel)
set_option maxRecDepth 65536 in
theorem w_c29 : (Jvm.Cond.code ({ cls := "jdk/internal/util/Preconditions", name := "checkIndex", desc := "(IILjava/util/function/BiFunction;)I" } : Jvm.MethodName) jdk_41_method_11_code (3 : Nat) (Option.some Jvm.ClassFile.FieldType.int)).before args0 about1 = true := code_word (m := ⟨12, 1⟩) (meth := k12m1) (c := k12c1) (by decide +kernel) rfl rfl rfl (by decide +kernel)
def codes1 : List Jvm.Cond := [Jvm.Cond.code x code maxLocals ret, Jvm.Cond.code ({ cls := "com/example/descriptor/descriptor/vocabulary/HierarchyParentPinLaw", name := "pick", desc := "(III)C" } : Jvm.MethodName) method_3_code (3 : Nat) (Option.some Jvm.ClassFile.FieldType.char), Jvm.Cond.code ({ cls := "com/example/descriptor/descriptor/vocabulary/HierarchyParentPinLaw", name := "make", desc := "(I[C)Ljava/lang/String;" } : Jvm.MethodName) method_4_code (2 : Nat) (Option.some (Jvm.ClassFile.FieldType.object "java/lang/String")), Jvm.Cond.code ({ cls := "java/lang/String", name := "<init>", desc := "([C)V" } : Jvm.MethodName) jdk_42_method_3_code (2 : Nat) (Option.none : Option Jvm.ClassFile.FieldType), Jvm.Cond.code ({ cls := "java/lang/String", name := "<init>", desc := "([CIILjava/lang/Void;)V" } : Jvm.MethodName) jdk_42_method_149_code (6 : Nat) (Option.none : Option Jvm.ClassFile.FieldType), Jvm.Cond.code ({ cls := "java/lang/Object", name := "<init>", desc := "()V" } : Jvm.MethodName) object_method_1_code (1 : Nat) (Option.none : Option Jvm.ClassFile.FieldType), Jvm.Cond.code ({ cls := "java/lang/StringUTF16", name := "compress", desc := "([CII)[B" } : Jvm.MethodName) jdk_52_method_16_code (6 : Nat) (Option.some (Jvm.ClassFile.FieldType.array Jvm.ClassFile.FieldType.byte)), Jvm.Cond.code ({ cls := "java/lang/StringUTF16", name := "compress", desc := "([CI[BII)I" } : Jvm.MethodName) jdk_52_method_21_code (7 : Nat) (Option.some Jvm.ClassFile.FieldType.int), Jvm.Cond.code ({ cls := "java/lang/StringUTF16", name := "coderFromArrayLen", desc := "([BI)B" } : Jvm.MethodName) jdk_52_method_15_code (2 : Nat) (Option.some Jvm.ClassFile.FieldType.byte), Jvm.Cond.code ({ cls := "com/example/descriptor/descriptor/vocabulary/Hierarchy", name := "parent", desc := "(Ljava/lang/String;)Ljava/lang/String;" } : Jvm.MethodName) prog_49_method_2_code (2 : Nat) (Option.some (Jvm.ClassFile.FieldType.object "java/lang/String")), Jvm.Cond.code ({ cls := "java/lang/String", name := "lastIndexOf", desc := "(I)I" } : Jvm.MethodName) jdk_42_method_82_code (2 : Nat) (Option.some Jvm.ClassFile.FieldType.int), Jvm.Cond.code ({ cls := "java/lang/String", name := "length", desc := "()I" } : Jvm.MethodName) jdk_42_method_54_code (1 : Nat) (Option.some Jvm.ClassFile.FieldType.int), Jvm.Cond.code ({ cls := "java/lang/String", name := "coder", desc := "()B" } : Jvm.MethodName) jdk_42_method_152_code (1 : Nat) (Option.some Jvm.ClassFile.FieldType.byte), Jvm.Cond.code ({ cls := "java/lang/String", name := "lastIndexOf", desc := "(II)I" } : Jvm.MethodName) jdk_42_method_83_code (3 : Nat) (Option.some Jvm.ClassFile.FieldType.int), Jvm.Cond.code ({ cls := "java/lang/String", name := "isLatin1", desc := "()Z" } : Jvm.MethodName) jdk_42_method_154_code (1 : Nat) (Option.some Jvm.ClassFile.FieldType.boolean), Jvm.Cond.code ({ cls := "java/lang/StringLatin1", name := "lastIndexOf", desc := "([BII)I" } : Jvm.MethodName) jdk_43_method_27_code (4 : Nat) (Option.some Jvm.ClassFile.FieldType.int), Jvm.Cond.code ({ cls := "java/lang/StringLatin1", name := "canEncode", desc := "(I)Z" } : Jvm.MethodName) jdk_43_method_4_code (1 : Nat) (Option.some Jvm.ClassFile.FieldType.boolean), Jvm.Cond.code ({ cls := "java/lang/Math", name := "min", desc := "(II)I" } : Jvm.MethodName) jdk_29_method_69_code (2 : Nat) (Option.some Jvm.ClassFile.FieldType.int), Jvm.Cond.code ({ cls := "java/lang/String", name := "substring", desc := "(II)Ljava/lang/String;" } : Jvm.MethodName) jdk_42_method_92_code (5 : Nat) (Option.some (Jvm.ClassFile.FieldType.object "java/lang/String")), Jvm.Cond.code ({ cls := "java/lang/String", name := "checkBoundsBeginEnd", desc := "(III)V" } : Jvm.MethodName) jdk_42_method_158_code (3 : Nat) (Option.none : Option Jvm.ClassFile.FieldType), Jvm.Cond.code ({ cls := "jdk/internal/util/Preconditions", name := "checkFromToIndex", desc := "(IIILjava/util/function/BiFunction;)I" } : Jvm.MethodName) jdk_41_method_12_code (4 : Nat) (Option.some Jvm.ClassFile.FieldType.int), Jvm.Cond.code ({ cls := "java/lang/StringLatin1", name := "newString", desc := "([BII)Ljava/lang/String;" } : Jvm.MethodName) jdk_43_method_47_code (3 : Nat) (Option.some (Jvm.ClassFile.FieldType.object "java/lang/String")), Jvm.Cond.code ({ cls := "java/util/Arrays", name := "copyOfRange", desc := "([BII)[B" } : Jvm.MethodName) jdk_65_method_132_code (3 : Nat) (Option.some (Jvm.ClassFile.FieldType.array Jvm.ClassFile.FieldType.byte)), Jvm.Cond.code ({ cls := "java/util/Arrays", name := "copyOfRangeByte", desc := "([BII)[B" } : Jvm.MethodName) jdk_65_method_133_code (5 : Nat) (Option.some (Jvm.ClassFile.FieldType.array Jvm.ClassFile.FieldType.byte)), Jvm.Cond.code ({ cls := "java/util/Arrays", name := "checkLength", desc := "(II)V" } : Jvm.MethodName) jdk_65_method_131_code (2 : Nat) (Option.none : Option Jvm.ClassFile.FieldType), Jvm.Cond.code ({ cls := "java/lang/String", name := "<init>", desc := "([BB)V" } : Jvm.MethodName) jdk_42_method_151_code (3 : Nat) (Option.none : Option Jvm.ClassFile.FieldType), Jvm.Cond.code ({ cls := "java/lang/String", name := "charAt", desc := "(I)C" } : Jvm.MethodName) jdk_42_method_56_code (2 : Nat) (Option.some Jvm.ClassFile.FieldType.char), Jvm.Cond.code ({ cls := "java/lang/StringLatin1", name := "charAt", desc := "([BI)C" } : Jvm.MethodName) jdk_43_method_2_code (2 : Nat) (Option.some Jvm.ClassFile.FieldType.char), Jvm.Cond.code ({ cls := "java/lang/String", name := "checkIndex", desc := "(II)V" } : Jvm.MethodName) jdk_42_method_155_code (2 : Nat) (Option.none : Option Jvm.ClassFile.FieldType), Jvm.Cond.code ({ cls := "jdk/internal/util/Preconditions", name := "checkIndex", desc := "(IILjava/util/function/BiFunction;)I" } : Jvm.MethodName) jdk_41_method_11_code (3 : Nat) (Option.some Jvm.ClassFile.FieldType.int)]
set_option maxRecDepth 65536 in
theorem codes_eq : words1.filter isCode = codes1 := rfl
theorem w_codes : ∀ c ∈ words1.filter isCode, c.before args0 about1 = true := by
  rw [codes_eq]
  intro c hc
  simp only [codes1, List.mem_cons, List.not_mem_nil, or_false] at hc
  rcases hc with rfl | rfl | rfl | rfl | rfl | rfl | rfl | rfl | rfl | rfl | rfl | rfl | rfl | rfl | rfl | rfl | rfl | rfl | rfl | rfl | rfl | rfl | rfl | rfl | rfl | rfl | rfl | rfl | rfl | rfl
  · exact w_c0
  · exact w_c1
  · exact w_c2
  · exact w_c3
  · exact w_c4
  · exact w_c5
  · exact w_c6
  · exact w_c7
  · exact w_c8
  · exact w_c9
  · exact w_c10
  · exact w_c11
  · exact w_c12
  · exact w_c13
  · exact w_c14
  · exact w_c15
  · exact w_c16
  · exact w_c17
  · exact w_c18
  · exact w_c19
  · exact w_c20
  · exact w_c21
  · exact w_c22
  · exact w_c23
  · exact w_c24
  · exact w_c25
  · exact w_c26
  · exact w_c27
  · exact w_c28
  · exact w_c29
set_option maxRecDepth 65536 in
theorem w_t1 : (words1.take 24).all (fun c => isCode c || c.before args0 about1) = true := by decide +kernel
set_option maxRecDepth 65536 in
theorem w_t2 : ((words1.drop 24).take 24).all (fun c => isCode c || c.before args0 about1) = true := by decide +kernel
set_option maxRecDepth 65536 in
theorem w_t3 : (((words1.drop 24).drop 24).take 24).all (fun c => isCode c || c.before args0 about1) = true := by decide +kernel
set_option maxRecDepth 65536 in
theorem w_t4 : ((((words1.drop 24).drop 24).drop 24).take 24).all (fun c => isCode c || c.before args0 about1) = true := by decide +kernel
set_option maxRecDepth 65536 in
theorem w_t5 : (((((words1.drop 24).drop 24).drop 24).drop 24).take 24).all (fun c => isCode c || c.before args0 about1) = true := by decide +kernel
set_option maxRecDepth 65536 in
theorem w_t6 : (((((words1.drop 24).drop 24).drop 24).drop 24).drop 24).all (fun c => isCode c || c.before args0 about1) = true := by decide +kernel
theorem w_tables : (allAtoms (Jvm.Cond.code x code maxLocals ret :: tables_1)).before args0 about1 = true := by
  rw [allAtoms_all]
  show words1.all (fun c => c.before args0 about1) = true
  refine all_split ?_ w_codes
  rw [← List.take_append_drop 24 words1, List.all_append, w_t1, ← List.take_append_drop 24 (words1.drop 24), List.all_append, w_t2, ← List.take_append_drop 24 ((words1.drop 24).drop 24), List.all_append, w_t3, ← List.take_append_drop 24 (((words1.drop 24).drop 24).drop 24), List.all_append, w_t4, ← List.take_append_drop 24 ((((words1.drop 24).drop 24).drop 24).drop 24), List.all_append, w_t5, w_t6]
  rfl
set_option maxRecDepth 65536 in
theorem w_rest : rest_1_c.before args0 about1 = true := by decide +kernel
set_option maxRecDepth 65536 in
theorem w_case : (Jvm.Cond.and given_1 narrow_1).before args0 about1 = true := by decide +kernel
set_option maxRecDepth 65536 in
theorem w_consts : constsHeld consts_1 about1 := Jvm.Lit.constsHeldB_iff.mp (by decide +kernel)
theorem w_applies : (headSpec (Jvm.Cond.code x code maxLocals ret :: tables_1) room_1).applies x e0.platform about1 = true :=
  (Spec.applies_iff w_frames).mpr ⟨w_running, w_runnable, w_alone, w_named, w_hears, w_ripe, w_room, w_tables⟩
theorem atStart : AtStart classFile x code maxLocals ret World_1 tables_1 room_1 Calls_1 rest_1 Pre_1 launch0 p0 e0 about1 theMethod args0 below0 :=
  ⟨lists_1, trivial, launch0.admits_env _ _ _, launch0.least_env, fairChoices_fair.cas, fairChoices_fair.clock, w_frames, w_args, w_heap, w_applies, ⟨w_consts, trivial⟩, w_rest, w_case⟩
end start1
theorem witness_1 : WitnessClaimed_1 := ⟨start1.p0, start1.e0, start1.about1, start1.theMethod, start1.args0, start1.below0, start1.atStart⟩
end Jvm.Pilot.@@N@@
