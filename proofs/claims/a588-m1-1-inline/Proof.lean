import JvmDerived
import JvmDerived.Pilot.@@N@@Statement
import JvmDerived.Pilot.@@N@@Code
set_option linter.unusedVariables false
set_option linter.unusedSimpArgs false
@@BLOCK:SetKit.lean.txt@@
/- laws to paste: Road.backV, Road.eqW, Road.codOf (cut by pick.py; bodies as the Statement names them) -/
namespace Jvm.Pilot.@@N@@
namespace StrChars
open Jvm Sem ClassFile Op Lib Jvm.Stand Jvm.Free.XT Jvm.Free.ALB Jvm.Free.JM Jvm.Free
open Jvm.Lib.Cold (StaticIs)
/-- a char array whose places are chars -/
def Ch (a : Addr) (A : Cell) (U : State) : Prop := Arr .char a A U ∧ Typed .char A
theorem Ch.mv {a : Addr} {A : Cell} {U U' : State} (h : Ch a A U) (hal : U.vm.Alike U'.vm) (hh : U'.heap = U.heap) : Ch a A U' := ⟨h.1.mv hal hh, h.2⟩
theorem Ch.keep {a : Addr} {A : Cell} {U U' : State} (h : Ch a A U) (hal : U.vm.Alike U'.vm) (hk : U'.heap[a]? = some A) : Ch a A U' := ⟨h.1.keep hal hk, h.2⟩
/-- what place i of a char[]'s cell holds -/
def cv (A : Cell) (i : Nat) : Int32 := match A.slots[i]? with | some (.int x) => x | _ => 0
theorem Ch.get {a : Addr} {A : Cell} {U : State} (h : Ch a A U) {i : Nat} (hi : i < A.slots.size) : A.slots[i]? = some (.int (cv A i)) := by
  have e := Array.getElem?_eq_getElem hi
  have f := h.2 i _ e
  unfold cv; rw [e]
  generalize A.slots[i] = v at f
  cases v <;> simp [fits] at f ⊢
/-- the byte that i2b leaves of a char -/
def lo8 (x : Int32) : Int32 := x.toInt8.toInt32
theorem fits_lo8 (y : Int32) : fits .byte (.int (lo8 y)) = true := by
  have h1 := y.toInt8.le_toInt
  have h2 := y.toInt8.toInt_lt
  simp only [lo8, fits, Bool.and_eq_true, decide_eq_true_eq, Int32.le_iff_toInt_le, Int8.toInt_toInt32, show (-128 : Int32).toInt = -128 from by decide, show (127 : Int32).toInt = 127 from by decide]
  omega
/-- A' is A but that each place j of lo .. hi - 1 holds f j -/
def Laid (A A' : Cell) (lo hi : Nat) (f : Nat → Value) : Prop := A'.cls = A.cls ∧ A'.vm = A.vm ∧ A'.slots.size = A.slots.size ∧ ∀ i, A'.slots[i]? = if lo ≤ i ∧ i < hi then some (f i) else A.slots[i]?
theorem Laid.zero (A : Cell) (lo : Nat) (f : Nat → Value) : Laid A A lo (lo + 0) f := ⟨rfl, rfl, rfl, fun i => by rw [if_neg (by omega)]⟩
theorem Laid.step {A Ak : Cell} {lo k : Nat} {f : Nat → Value} {v : Value} (h : Laid A Ak lo k f) (hlo : lo ≤ k) (hk : k < Ak.slots.size) (hv : v = f k) : Laid A (Ak.setSlot k v) lo (k + 1) f := by
  refine ⟨h.1, h.2.1, by simpa [Cell.setSlot] using h.2.2.1, fun i => ?_⟩
  by_cases e : k = i
  · subst e; rw [Cell.slots_setSlot_self v hk, if_pos (by omega), hv]
  · rw [Cell.slots_setSlot_ne v e, h.2.2.2 i]
    by_cases q : lo ≤ i ∧ i < k
    · rw [if_pos q, if_pos (by omega)]
    · rw [if_neg q, if_neg (by omega)]
def U16 : String := "java/lang/StringUTF16"
namespace Cmp5
def yN : MethodName := ⟨"java/lang/StringUTF16", "compress", "([CI[BII)I"⟩
abbrev yB : ByteArray := jdk_52_method_21_code
theorem d0 : decode yB 0 = .ok (.iconst 0, 1) := by decide +kernel
theorem d1 : decode yB 1 = .ok (.istore 5, 2) := by decide +kernel
theorem d3 : decode yB 3 = .ok (.iload 5, 2) := by decide +kernel
theorem d5 : decode yB 5 = .ok (.iload 4, 2) := by decide +kernel
theorem d7 : decode yB 7 = .ok (.if_icmp (.ge) 37, 3) := by decide +kernel
theorem d10 : decode yB 10 = .ok (.aload_n 0, 1) := by decide +kernel
theorem d11 : decode yB 11 = .ok (.iload_n 1, 1) := by decide +kernel
theorem d12 : decode yB 12 = .ok (.caload, 1) := by decide +kernel
theorem d13 : decode yB 13 = .ok (.istore 6, 2) := by decide +kernel
theorem d15 : decode yB 15 = .ok (.iload 6, 2) := by decide +kernel
theorem d17 : decode yB 17 = .ok (.sipush 255, 3) := by decide +kernel
theorem d20 : decode yB 20 = .ok (.if_icmp (.le) 6, 3) := by decide +kernel
theorem d26 : decode yB 26 = .ok (.aload_n 2, 1) := by decide +kernel
theorem d27 : decode yB 27 = .ok (.iload_n 3, 1) := by decide +kernel
theorem d28 : decode yB 28 = .ok (.iload 6, 2) := by decide +kernel
theorem d30 : decode yB 30 = .ok (.i2b, 1) := by decide +kernel
theorem d31 : decode yB 31 = .ok (.bastore, 1) := by decide +kernel
theorem d32 : decode yB 32 = .ok (.iinc 1 1, 3) := by decide +kernel
theorem d35 : decode yB 35 = .ok (.iinc 3 1, 3) := by decide +kernel
theorem d38 : decode yB 38 = .ok (.iinc 5 1, 3) := by decide +kernel
theorem d41 : decode yB 41 = .ok (.goto (-38), 3) := by decide +kernel
theorem d44 : decode yB 44 = .ok (.iload 4, 2) := by decide +kernel
theorem d46 : decode yB 46 = .ok (.ireturn, 1) := by decide +kernel
def site : List Cond := []
def tab : Cond := tabOf yN yB 7 (some .int) site
def P (b : Addr) (A : Cell) (d : Addr) (B : Cell) (o q len : Nat) (args : Array Value) (s : State) : Prop := args = #[.ref b, .int (Int32.ofNat o), .ref d, .int (Int32.ofNat q), .int (Int32.ofNat len)] ∧ Ch b A s ∧ Arr .byte d B s ∧ b ≠ d ∧ o + len ≤ A.slots.size ∧ q + len ≤ B.slots.size ∧ ∀ i, i < len → ¬ 255 < cv A (o + i)
def E (b : Addr) (A : Cell) (d : Addr) (B : Cell) (o q len : Nat) (r : Option Value) (s u : State) : Prop := r = some (.int (Int32.ofNat len)) ∧ ∃ B', Put d B' s u ∧ Laid B B' q (q + len) (fun j => Value.int (lo8 (cv A (o + (j - q)))))
/-- no char of the range above 255: len; the places written hold each char's low byte -/
theorem law (l : Launch) (b : Addr) (A : Cell) (d : Addr) (B : Cell) (o q len : Nat) : Law l yN 5 5 0 0 yB 7 (some .int) site (P b A d B o q len) (E b A d B o q len) (copyLocs d q len) 0 0 := by
  refine Law.of_walk (plainFor_of_name (by decide +kernel)) (by decide +kernel) (by decide +kernel) (by decide) (fun _ _ h => by rw [h.1]; rfl) (fun _ U U' hal hh h => ⟨h.1, h.2.1.mv hal hh, h.2.2.1.mv hal hh, h.2.2.2⟩) (fun r U U' V V' h1 hal h2 h => ⟨h.1, h.2.elim fun B' q => ⟨B', q.1.mv h1 h2, q.2⟩⟩) ?_
  intro p e s m args below meth c s₁ X0 hexec hbytes hml hret hlk hnm hown hh0 W hP
  obtain ⟨rfl, hA, hB, hne, l1, l2, hp⟩ := hP
  have c1 : Steps p.tables e below (s₁.setTop (entryFrame m #[.ref b, .int (Int32.ofNat o), .ref d, .int (Int32.ofNat q), .int (Int32.ofNat len)] 7)) (s₁.setTop (mkF m 0 #[.val (.ref b), .val (.int (Int32.ofNat o)), .val (.ref d), .val (.int (Int32.ofNat q)), .val (.int (Int32.ofNat len)), .unset, .unset] [])) := entry rfl
  have hA0 := hA.1.mv X0.warmed.alike hh0
  have hB0 := hB.mv X0.warmed.alike hh0
  have a31 := hA.1.2.2.2
  have c2 : Steps p.tables e below (s₁.setTop (entryFrame m #[.ref b, .int (Int32.ofNat o), .ref d, .int (Int32.ofNat q), .int (Int32.ofNat len)] 7)) (s₁.setTop (mkF m 3 #[.val (.ref b), .val (.int (Int32.ofNat o)), .val (.ref d), .val (.int (Int32.ofNat q)), .val (.int (Int32.ofNat len)), .val (.int 0), .unset] [])) := c1.trans (by
    refine iconstV X0.here hexec rfl 0 (hb hbytes d0) (by decide) ?_
    refine XS.istore X0.here hexec rfl (hb hbytes d1) rfl rfl ?_
    exact Steps.refl _)
  have loop : ∀ (r i : Nat), i + r = len → ∀ (z : Slot), (z = .unset ∨ ∃ w, z = .val w ∧ w.category = 1) → ∀ (Tl : State) (Bk : Cell), Stand p l e { frames := 0, locals := 0, cells := 0, slots := 0 } s m #[.ref b, .int (Int32.ofNat o), .ref d, .int (Int32.ofNat q), .int (Int32.ofNat len)] below meth c Tl ([] ++ copyLocs d q i) 0 0 → Put d Bk s₁ Tl → Laid B Bk q (q + i) (fun j => Value.int (lo8 (cv A (o + (j - q))))) →
      Steps p.tables e below (s₁.setTop (entryFrame m #[.ref b, .int (Int32.ofNat o), .ref d, .int (Int32.ofNat q), .int (Int32.ofNat len)] 7)) (Tl.setTop (mkF m 3 #[.val (.ref b), .val (.int (Int32.ofNat (o + i))), .val (.ref d), .val (.int (Int32.ofNat (q + i))), .val (.int (Int32.ofNat len)), .val (.int (Int32.ofNat i)), z] [])) → ∃ (T' : State) (B' : Cell) (z' : Slot), Stand p l e { frames := 0, locals := 0, cells := 0, slots := 0 } s m #[.ref b, .int (Int32.ofNat o), .ref d, .int (Int32.ofNat q), .int (Int32.ofNat len)] below meth c T' ([] ++ copyLocs d q len) 0 0 ∧ Put d B' s₁ T' ∧ Laid B B' q (q + len) (fun j => Value.int (lo8 (cv A (o + (j - q))))) ∧
      Steps p.tables e below (s₁.setTop (entryFrame m #[.ref b, .int (Int32.ofNat o), .ref d, .int (Int32.ofNat q), .int (Int32.ofNat len)] 7)) (T'.setTop (mkF m 3 #[.val (.ref b), .val (.int (Int32.ofNat (o + len))), .val (.ref d), .val (.int (Int32.ofNat (q + len))), .val (.int (Int32.ofNat len)), .val (.int (Int32.ofNat len)), z'] [])) := by
    intro r
    induction r with
    | zero =>
      intro i hi z hz Tl Bk Xl pl fl cl
      have hil : i = len := by omega
      rw [hil] at Xl fl cl
      exact ⟨Tl, Bk, z, Xl, pl, fl, cl⟩
    | succ r ih =>
      intro i hi z hz Tl Bk Xl pl fl cl
      have all := X0.warmed.alike.symm.trans Xl.warmed.alike
      have hAl := hA0.keep all (pl.other hne hA0.1)
      have hBk := hB0.like all pl.1 fl.1 fl.2.1 fl.2.2.1
      have hlt : q + i < Bk.slots.size := by rw [fl.2.2.1]; omega
      have c3 : Steps p.tables e below (s₁.setTop (entryFrame m #[.ref b, .int (Int32.ofNat o), .ref d, .int (Int32.ofNat q), .int (Int32.ofNat len)] 7)) (Tl.setTop (mkF m 12 #[.val (.ref b), .val (.int (Int32.ofNat (o + i))), .val (.ref d), .val (.int (Int32.ofNat (q + i))), .val (.int (Int32.ofNat len)), .val (.int (Int32.ofNat i)), z] [.int (Int32.ofNat (o + i)), .ref b])) := cl.trans (by
        refine XS.iload Xl.here hexec rfl (hb hbytes d3) rfl ?_
        refine XS.iload Xl.here hexec rfl (hb hbytes d5) rfl ?_
        refine XS.icmpNo Xl.here hexec rfl (hb hbytes d7) rfl (ii_ge_f (lt32 (by omega) (by omega))) ?_
        refine XS.aloadN Xl.here hexec rfl (hb hbytes d10) rfl rfl ?_
        refine XS.iloadN Xl.here hexec rfl (hb hbytes d11) rfl ?_
        exact Steps.refl _)
      have c4 : Steps p.tables e below (s₁.setTop (entryFrame m #[.ref b, .int (Int32.ofNat o), .ref d, .int (Int32.ofNat q), .int (Int32.ofNat len)] 7)) (Tl.setTop (mkF m 13 #[.val (.ref b), .val (.int (Int32.ofNat (o + i))), .val (.ref d), .val (.int (Int32.ofNat (q + i))), .val (.int (Int32.ofNat len)), .val (.int (Int32.ofNat i)), z] [.int (cv A (o + i))])) := c3.trans (by
        refine Xl.aget hexec hAl rfl (hA.get (i := o + i) (by omega)) rfl rfl (hb hbytes d12) ?_
        exact Steps.refl _)
      have c5 : Steps p.tables e below (s₁.setTop (entryFrame m #[.ref b, .int (Int32.ofNat o), .ref d, .int (Int32.ofNat q), .int (Int32.ofNat len)] 7)) (Tl.setTop (mkF m 15 #[.val (.ref b), .val (.int (Int32.ofNat (o + i))), .val (.ref d), .val (.int (Int32.ofNat (q + i))), .val (.int (Int32.ofNat len)), .val (.int (Int32.ofNat i)), .val (.int (cv A (o + i)))] [])) := c4.trans (by
        refine XS.istoreS Xl.here hexec rfl (hb hbytes d13) rfl rfl hz ?_
        exact Steps.refl _)
      have c6 : Steps p.tables e below (s₁.setTop (entryFrame m #[.ref b, .int (Int32.ofNat o), .ref d, .int (Int32.ofNat q), .int (Int32.ofNat len)] 7)) (Tl.setTop (mkF m 31 #[.val (.ref b), .val (.int (Int32.ofNat (o + i))), .val (.ref d), .val (.int (Int32.ofNat (q + i))), .val (.int (Int32.ofNat len)), .val (.int (Int32.ofNat i)), .val (.int (cv A (o + i)))] [.int (lo8 (cv A (o + i))), .int (Int32.ofNat (q + i)), .ref d])) := c5.trans (by
        refine XS.iload Xl.here hexec rfl (hb hbytes d15) rfl ?_
        refine sipushV Xl.here hexec rfl 255 (hb hbytes d17) (by decide) ?_
        refine XS.icmpYes Xl.here hexec rfl (pc0 := 20) rfl (hb hbytes d20) rfl (ii_le_t (hp i (by omega))) (by decide) rfl ?_
        refine XS.aloadN Xl.here hexec rfl (hb hbytes d26) rfl rfl ?_
        refine XS.iloadN Xl.here hexec rfl (hb hbytes d27) rfl ?_
        refine XS.iload Xl.here hexec rfl (hb hbytes d28) rfl ?_
        refine i2b Xl.here hexec rfl (hb hbytes d30) rfl ?_
        exact Steps.refl _)
      obtain ⟨T7, X7, p7, st7⟩ := Xl.aput hexec hBk rfl hlt rfl (fits_lo8 (cv A (o + i))) (g := (mkF m 31 #[.val (.ref b), .val (.int (Int32.ofNat (o + i))), .val (.ref d), .val (.int (Int32.ofNat (q + i))), .val (.int (Int32.ofNat len)), .val (.int (Int32.ofNat i)), .val (.int (cv A (o + i)))] [.int (lo8 (cv A (o + i))), .int (Int32.ofNat (q + i)), .ref d])) rfl (rest := []) rfl (hb hbytes d31)
      have c8 : Steps p.tables e below (s₁.setTop (entryFrame m #[.ref b, .int (Int32.ofNat o), .ref d, .int (Int32.ofNat q), .int (Int32.ofNat len)] 7)) (T7.setTop (mkF m 32 #[.val (.ref b), .val (.int (Int32.ofNat (o + i))), .val (.ref d), .val (.int (Int32.ofNat (q + i))), .val (.int (Int32.ofNat len)), .val (.int (Int32.ofNat i)), .val (.int (cv A (o + i)))] [])) := c6.trans (st7 _ (Steps.refl _))
      have c9 : Steps p.tables e below (s₁.setTop (entryFrame m #[.ref b, .int (Int32.ofNat o), .ref d, .int (Int32.ofNat q), .int (Int32.ofNat len)] 7)) (T7.setTop (mkF m 3 #[.val (.ref b), .val (.int (Int32.ofNat (o + i) + 1)), .val (.ref d), .val (.int (Int32.ofNat (q + i) + 1)), .val (.int (Int32.ofNat len)), .val (.int (Int32.ofNat i + 1)), .val (.int (cv A (o + i)))] [])) := c8.trans (by
        refine iincV X7.here hexec rfl 1 (hb hbytes d32) (by decide) rfl rfl ?_
        refine iincV X7.here hexec rfl 1 (hb hbytes d35) (by decide) rfl rfl ?_
        refine iincV X7.here hexec rfl 1 (hb hbytes d38) (by decide) rfl rfl ?_
        refine XS.goto X7.here hexec rfl (pc0 := 41) rfl (hb hbytes d41) (by decide) rfl ?_
        exact Steps.refl _)
      have c10 : Steps p.tables e below (s₁.setTop (entryFrame m #[.ref b, .int (Int32.ofNat o), .ref d, .int (Int32.ofNat q), .int (Int32.ofNat len)] 7)) (T7.setTop (mkF m 3 #[.val (.ref b), .val (.int (Int32.ofNat (o + (i + 1)))), .val (.ref d), .val (.int (Int32.ofNat (q + (i + 1)))), .val (.int (Int32.ofNat len)), .val (.int (Int32.ofNat (i + 1))), .val (.int (cv A (o + i)))] [])) := by
        have := c9
        rw [succ32, succ32, succ32] at this
        exact this
      exact ih (i + 1) (by omega) _ (Or.inr ⟨_, rfl, rfl⟩) T7 _ (by rw [copyLocs_step, ← List.append_assoc]; exact X7) (pl.trans p7) (fl.step (by omega) hlt (by simp)) c10
  obtain ⟨T9, B9, z9, X9, p9, f9, g9⟩ := loop len 0 (by omega) .unset (Or.inl rfl) s₁ B (by simpa [copyLocs] using X0) ⟨hB0.1, fun _ _ => rfl, rfl⟩ (Laid.zero _ _ _) c2
  have c11 : Steps p.tables e below (s₁.setTop (entryFrame m #[.ref b, .int (Int32.ofNat o), .ref d, .int (Int32.ofNat q), .int (Int32.ofNat len)] 7)) (T9.setTop (mkF m 46 #[.val (.ref b), .val (.int (Int32.ofNat (o + len))), .val (.ref d), .val (.int (Int32.ofNat (q + len))), .val (.int (Int32.ofNat len)), .val (.int (Int32.ofNat len)), z9] [.int (Int32.ofNat len)])) := g9.trans (by
    refine XS.iload X9.here hexec rfl (hb hbytes d3) rfl ?_
    refine XS.iload X9.here hexec rfl (hb hbytes d5) rfl ?_
    refine XS.icmpYes X9.here hexec rfl (pc0 := 7) rfl (hb hbytes d7) rfl (ii_ge_t (nlt32 (by omega) (Nat.le_refl _))) (by decide) rfl ?_
    refine XS.iload X9.here hexec rfl (hb hbytes d44) rfl ?_
    exact Steps.refl _)
  exact ⟨T9, some (.int (Int32.ofNat len)), _, _, _, X9, by simp, rfl, rfl, (fun h => by cases h), ⟨rfl, B9, p9.from hh0, f9⟩, fun fs hl => c11.trans (X9.ireturnOut hexec hret rfl (Or.inl rfl) (hb hbytes d46) hl)⟩
end Cmp5
namespace Cmp3
def yN : MethodName := ⟨"java/lang/StringUTF16", "compress", "([CII)[B"⟩
abbrev yB : ByteArray := jdk_52_method_16_code
theorem d0 : decode yB 0 = .ok (.iload_n 2, 1) := by decide +kernel
theorem d1 : decode yB 1 = .ok (.newarray .byte, 2) := by decide +kernel
theorem d3 : decode yB 3 = .ok (.astore_n 3, 1) := by decide +kernel
theorem d4 : decode yB 4 = .ok (.aload_n 0, 1) := by decide +kernel
theorem d5 : decode yB 5 = .ok (.iload_n 1, 1) := by decide +kernel
theorem d6 : decode yB 6 = .ok (.aload_n 3, 1) := by decide +kernel
theorem d7 : decode yB 7 = .ok (.iconst 0, 1) := by decide +kernel
theorem d8 : decode yB 8 = .ok (.iload_n 2, 1) := by decide +kernel
theorem d9 : decode yB 9 = .ok (.invokestatic 115, 3) := by decide +kernel
theorem d12 : decode yB 12 = .ok (.istore 4, 2) := by decide +kernel
theorem d14 : decode yB 14 = .ok (.iload 4, 2) := by decide +kernel
theorem d16 : decode yB 16 = .ok (.iload_n 2, 1) := by decide +kernel
theorem d17 : decode yB 17 = .ok (.if_icmp (.eq) 40, 3) := by decide +kernel
theorem d57 : decode yB 57 = .ok (.aload_n 3, 1) := by decide +kernel
theorem d58 : decode yB 58 = .ok (.areturn, 1) := by decide +kernel
def site : List Cond := [.arrayClass .byte, Cmp5.tab] ++ staticW U16 115 Cmp5.yN
def tab : Cond := tabOf yN yB 6 (some (.array .byte)) site
def P (b : Addr) (A : Cell) (o len : Nat) (args : Array Value) (s : State) : Prop := args = #[.ref b, .int (Int32.ofNat o), .int (Int32.ofNat len)] ∧ Ch b A s ∧ o + len ≤ A.slots.size ∧ len ≤ 536870912 ∧ ∀ i, i < len → ¬ 255 < cv A (o + i)
def E (b : Addr) (A : Cell) (o len : Nat) (r : Option Value) (s u : State) : Prop := NewArr .byte "[B" len (fun j => .int (lo8 (cv A (o + j)))) r s u ∧ u.heap.size = s.heap.size + 1
/-- no char of the range above 255: a new byte[] of their low bytes -/
theorem law (l : Launch) (b : Addr) (A : Cell) (o len : Nat) : Law l yN 3 3 1 18 yB 6 (some (.array .byte)) site (P b A o len) (E b A o len) [] 1 len := by
  refine Law.of_walk (plainFor_of_name (by decide +kernel)) (by decide +kernel) (by decide +kernel) (by decide) (fun _ _ h => by rw [h.1]; rfl) (fun _ U U' hal hh h => ⟨h.1, h.2.1.mv hal hh, h.2.2⟩) (fun r U U' V V' h1 hal h2 h => ⟨NewArr.mv r U U' V V' h1 hal h2 h.1, by rw [h1, h2]; exact h.2⟩) ?_
  intro p e s m args below meth c s₁ X0 hexec hbytes hml hret hlk hnm hown hh0 W hP
  obtain ⟨rfl, hA, l1, l2, hp⟩ := hP
  have a31 := hA.1.2.2.2
  have c1 : Steps p.tables e below (s₁.setTop (entryFrame m #[.ref b, .int (Int32.ofNat o), .int (Int32.ofNat len)] 6)) (s₁.setTop (mkF m 0 #[.val (.ref b), .val (.int (Int32.ofNat o)), .val (.int (Int32.ofNat len)), .unset, .unset, .unset] [])) := entry rfl
  have c2 : Steps p.tables e below (s₁.setTop (entryFrame m #[.ref b, .int (Int32.ofNat o), .int (Int32.ofNat len)] 6)) (s₁.setTop (mkF m 1 #[.val (.ref b), .val (.int (Int32.ofNat o)), .val (.int (Int32.ofNat len)), .unset, .unset, .unset] [.int (Int32.ofNat len)])) := c1.trans (by
    refine XS.iloadN X0.here hexec rfl (hb hbytes d0) rfl ?_
    exact Steps.refl _)
  obtain ⟨T3, B3, X3, ba3, bs3, bv3, bh3, bf3, st3⟩ := X0.anew hexec (atype := .byte) (wk W (.arrayClass .byte)) rfl (by show len * 1 ≤ _; omega) (by omega) (g := (mkF m 1 #[.val (.ref b), .val (.int (Int32.ofNat o)), .val (.int (Int32.ofNat len)), .unset, .unset, .unset] [.int (Int32.ofNat len)])) rfl (hb hbytes d1) (rest := []) rfl (Nat.le_refl _) (by show 0 + len ≤ len; omega)
  rw [hh0] at ba3 st3
  have kp3 : XT.Kept s T3 := (XT.Kept.of_eq hh0).push bh3
  have hA3 := hA.keep X3.warmed.alike (kp3 _ _ hA.1.1)
  have hne : b ≠ s.heap.size := hA.1.ne
  have c4 : Steps p.tables e below (s₁.setTop (entryFrame m #[.ref b, .int (Int32.ofNat o), .int (Int32.ofNat len)] 6)) (T3.setTop (mkF m 3 #[.val (.ref b), .val (.int (Int32.ofNat o)), .val (.int (Int32.ofNat len)), .unset, .unset, .unset] [.ref s.heap.size])) := c2.trans (st3 _ (Steps.refl _))
  have c5 : Steps p.tables e below (s₁.setTop (entryFrame m #[.ref b, .int (Int32.ofNat o), .int (Int32.ofNat len)] 6)) (T3.setTop (mkF m 9 #[.val (.ref b), .val (.int (Int32.ofNat o)), .val (.int (Int32.ofNat len)), .val (.ref s.heap.size), .unset, .unset] [.int (Int32.ofNat len), .int 0, .ref s.heap.size, .int (Int32.ofNat o), .ref b])) := c4.trans (by
    refine XS.astoreN X3.here hexec rfl (hb hbytes d3) rfl rfl rfl ?_
    refine XS.aloadN X3.here hexec rfl (hb hbytes d4) rfl rfl ?_
    refine XS.iloadN X3.here hexec rfl (hb hbytes d5) rfl ?_
    refine XS.aloadN X3.here hexec rfl (hb hbytes d6) rfl rfl ?_
    refine iconstV X3.here hexec rfl 0 (hb hbytes d7) (by decide) ?_
    refine XS.iloadN X3.here hexec rfl (hb hbytes d8) rfl ?_
    exact Steps.refl _)
  obtain ⟨v6, T6, X6, E6, g6⟩ := X3.callS hexec (Cmp5.law l b A s.heap.size B3 o 0 len) hown (wks W (staticW U16 115 Cmp5.yN)) (wk W Cmp5.tab) (W := 0) (Nat.le_of_ble_eq_true rfl) (Nat.le_of_ble_eq_true rfl) (Nat.le_refl _) (by show 0 + len + 0 ≤ len; omega) (g := (mkF m 9 #[.val (.ref b), .val (.int (Int32.ofNat o)), .val (.int (Int32.ofNat len)), .val (.ref s.heap.size), .unset, .unset] [.int (Int32.ofNat len), .int (Int32.ofNat 0), .ref s.heap.size, .int (Int32.ofNat o), .ref b])) rfl (by rw [hml]; rfl) c5 (argsL := [.ref b, .int (Int32.ofNat o), .ref s.heap.size, .int (Int32.ofNat 0), .int (Int32.ofNat len)]) (rest := []) rfl rfl (by show 2 * 0 + 0 ≤ _; decide) (hb hbytes d9) (⟨rfl, hA3, ba3, hne, l1, by rw [bs3]; simp, hp⟩)
  obtain ⟨rfl, B6, p6, f6⟩ := E6
  have c7 : Steps p.tables e below (s₁.setTop (entryFrame m #[.ref b, .int (Int32.ofNat o), .int (Int32.ofNat len)] 6)) (T6.setTop (mkF m 12 #[.val (.ref b), .val (.int (Int32.ofNat o)), .val (.int (Int32.ofNat len)), .val (.ref s.heap.size), .unset, .unset] [.int (Int32.ofNat len)])) := g6
  have c8 : Steps p.tables e below (s₁.setTop (entryFrame m #[.ref b, .int (Int32.ofNat o), .int (Int32.ofNat len)] 6)) (T6.setTop (mkF m 58 #[.val (.ref b), .val (.int (Int32.ofNat o)), .val (.int (Int32.ofNat len)), .val (.ref s.heap.size), .val (.int (Int32.ofNat len)), .unset] [.ref s.heap.size])) := c7.trans (by
    refine XS.istore X6.here hexec rfl (hb hbytes d12) rfl rfl ?_
    refine XS.iload X6.here hexec rfl (hb hbytes d14) rfl ?_
    refine XS.iloadN X6.here hexec rfl (hb hbytes d16) rfl ?_
    refine XS.icmpYes X6.here hexec rfl (pc0 := 17) rfl (hb hbytes d17) rfl (ii_eq_t rfl) (by decide) rfl ?_
    refine XS.aloadN X6.here hexec rfl (hb hbytes d57) rfl rfl ?_
    exact Steps.refl _)
  have X8 := X6.wide (L' := []) (cells' := 1) (slots' := len) (fun x hx hlt => by
    simp only [List.nil_append, copyLocs, List.mem_map, List.mem_range] at hx
    obtain ⟨i, -, rfl⟩ := hx
    exact absurd hlt (Nat.lt_irrefl _)) (Nat.le_refl _) (by omega)
  exact ⟨T6, some (.ref s.heap.size), _, _, _, X8, rfl, rfl, rfl, (fun h => by cases h), ⟨⟨rfl, B6, ba3.like (X3.warmed.alike.symm.trans X6.warmed.alike) p6.1 f6.1 f6.2.1 f6.2.2.1, f6.2.1.trans bv3, by rw [X6.warmed.alike.findClass, f6.1]; exact bf3, by rw [f6.2.2.1, bs3]; simp, fun j hj => by rw [f6.2.2.2 j, if_pos (by omega)]; rfl, kp3.put p6 (Nat.le_refl _)⟩, by rw [p6.2.2, bh3, hh0]; simp⟩, fun fs hl => c8.trans (X8.areturnOut hexec rfl hret rfl (hb hbytes d58) hl)⟩
end Cmp3
namespace CodL
def yN : MethodName := ⟨"java/lang/StringUTF16", "coderFromArrayLen", "([BI)B"⟩
abbrev yB : ByteArray := jdk_52_method_15_code
theorem d0 : decode yB 0 = .ok (.iload_n 1, 1) := by decide +kernel
theorem d1 : decode yB 1 = .ok (.aload_n 0, 1) := by decide +kernel
theorem d2 : decode yB 2 = .ok (.arraylength, 1) := by decide +kernel
theorem d3 : decode yB 3 = .ok (.isub, 1) := by decide +kernel
theorem d4 : decode yB 4 = .ok (.bipush 31, 2) := by decide +kernel
theorem d6 : decode yB 6 = .ok (.iushr, 1) := by decide +kernel
theorem d7 : decode yB 7 = .ok (.i2b, 1) := by decide +kernel
theorem d8 : decode yB 8 = .ok (.ireturn, 1) := by decide +kernel
def site : List Cond := []
def tab : Cond := tabOf yN yB 2 (some .byte) site
def P (d : Addr) (B : Cell) (args : Array Value) (s : State) : Prop := args = #[.ref d, .int (Int32.ofNat B.slots.size)] ∧ Arr .byte d B s
def E (r : Option Value) (s u : State) : Prop := XT.PureE (some (.int 0)) r s u
/-- an array as long as the number of chars: LATIN1 -/
theorem law (l : Launch) (d : Addr) (B : Cell) : Law l yN 2 2 0 0 yB 2 (some .byte) site (P d B) E [] 0 0 := by
  refine Law.of_walk (plainFor_of_name (by decide +kernel)) (by decide +kernel) (by decide +kernel) (by decide) (fun _ _ h => by rw [h.1]; rfl) (fun _ U U' hal hh h => ⟨h.1, h.2.mv hal hh⟩) (fun r U U' V V' h1 hal h2 h => XT.PureE.mv r U U' V V' h1 hal h2 h) ?_
  intro p e s m args below meth c s₁ X0 hexec hbytes hml hret hlk hnm hown hh0 W hP
  obtain ⟨rfl, hB⟩ := hP
  have hB0 := hB.mv X0.warmed.alike hh0
  have c1 : Steps p.tables e below (s₁.setTop (entryFrame m #[.ref d, .int (Int32.ofNat B.slots.size)] 2)) (s₁.setTop (mkF m 0 #[.val (.ref d), .val (.int (Int32.ofNat B.slots.size))] [])) := entry rfl
  have c2 : Steps p.tables e below (s₁.setTop (entryFrame m #[.ref d, .int (Int32.ofNat B.slots.size)] 2)) (s₁.setTop (mkF m 2 #[.val (.ref d), .val (.int (Int32.ofNat B.slots.size))] [.ref d, .int (Int32.ofNat B.slots.size)])) := c1.trans (by
    refine XS.iloadN X0.here hexec rfl (hb hbytes d0) rfl ?_
    refine XS.aloadN X0.here hexec rfl (hb hbytes d1) rfl rfl ?_
    exact Steps.refl _)
  have c3 : Steps p.tables e below (s₁.setTop (entryFrame m #[.ref d, .int (Int32.ofNat B.slots.size)] 2)) (s₁.setTop (mkF m 8 #[.val (.ref d), .val (.int (Int32.ofNat B.slots.size))] [.int (lo8 (ushr (Int32.ofNat B.slots.size - Int32.ofNat B.slots.size) 31))])) := c2.trans (by
    refine X0.alen hexec hB0 rfl rfl (hb hbytes d2) ?_
    refine XS.isub X0.here hexec rfl (hb hbytes d3) rfl ?_
    refine bipushV X0.here hexec rfl 31 (hb hbytes d4) (by decide) ?_
    refine iushr X0.here hexec rfl (hb hbytes d6) rfl ?_
    refine i2b X0.here hexec rfl (hb hbytes d7) rfl ?_
    exact Steps.refl _)
  have e0 : lo8 (ushr (Int32.ofNat B.slots.size - Int32.ofNat B.slots.size) 31) = 0 := by rw [Int32.sub_self]; decide
  rw [e0] at c3
  exact ⟨s₁, some (.int 0), _, _, _, X0, rfl, rfl, rfl, (fun h => by cases h), ⟨rfl, hh0⟩, fun fs hl => c3.trans (X0.ireturnOut hexec hret rfl (Or.inr (Or.inr (Or.inl rfl))) (hb hbytes d8) hl)⟩
end CodL
/-- the String at a is Latin-1 over a new byte[] (the heap's one new cell): the low bytes of the len chars of A from o on; every cell but a is kept -/
def Got (a : Addr) (D : Cell) (fV fC : Field) (A : Cell) (o len : Nat) (r : Option Value) (s u : State) : Prop := r = none ∧ ∃ D' V : Cell, Blank "java/lang/String" a D' u ∧ Same D D' [fV.slot, fC.slot] ∧ D'.slots[fV.slot]? = some (.ref s.heap.size) ∧ D'.slots[fC.slot]? = some (.int 0) ∧ Arr .byte s.heap.size V u ∧ V.vm = .none ∧ u.vm.findClass "[B" = some V.cls ∧ V.slots.size = len ∧ (∀ j, j < len → V.slots[j]? = some (.int (lo8 (cv A (o + j))))) ∧ (∀ (y : Addr) (c : Cell), y ≠ a → s.heap[y]? = some c → u.heap[y]? = some c) ∧ u.heap.size = s.heap.size + 1
theorem Got.mv {a : Addr} {D A : Cell} {fV fC : Field} {o len : Nat} : ∀ r (U U' V V' : State), U'.heap = U.heap → V.vm.Alike V'.vm → V'.heap = V.heap → Got a D fV fC A o len r U V → Got a D fV fC A o len r U' V' :=
  fun r U U' V V' h1 hal h2 ⟨e0, D', X, a1, a2, a3, a4, a5, a6, a7, a8, a9, a10, a11⟩ => ⟨e0, D', X, a1.mv hal h2, a2, by rw [h1]; exact a3, a4, by rw [h1]; exact a5.mv hal h2, a6, by rw [hal.findClass]; exact a7, a8, a9, by rw [h1, h2]; exact a10, by rw [h1, h2]; exact a11⟩
namespace New4
def yN : MethodName := ⟨"java/lang/String", "<init>", "([CIILjava/lang/Void;)V"⟩
abbrev yB : ByteArray := jdk_42_method_149_code
theorem d0 : decode yB 0 = .ok (.aload_n 0, 1) := by decide +kernel
theorem d1 : decode yB 1 = .ok (.invokespecial 1, 3) := by decide +kernel
theorem d4 : decode yB 4 = .ok (.iload_n 3, 1) := by decide +kernel
theorem d5 : decode yB 5 = .ok (.ifCond (.ne) 22, 3) := by decide +kernel
theorem d27 : decode yB 27 = .ok (.getstatic 38, 3) := by decide +kernel
theorem d30 : decode yB 30 = .ok (.ifCond (.eq) 28, 3) := by decide +kernel
theorem d33 : decode yB 33 = .ok (.aload_n 1, 1) := by decide +kernel
theorem d34 : decode yB 34 = .ok (.iload_n 2, 1) := by decide +kernel
theorem d35 : decode yB 35 = .ok (.iload_n 3, 1) := by decide +kernel
theorem d36 : decode yB 36 = .ok (.invokestatic 177, 3) := by decide +kernel
theorem d39 : decode yB 39 = .ok (.astore 5, 2) := by decide +kernel
theorem d41 : decode yB 41 = .ok (.aload_n 0, 1) := by decide +kernel
theorem d42 : decode yB 42 = .ok (.aload 5, 2) := by decide +kernel
theorem d44 : decode yB 44 = .ok (.iload_n 3, 1) := by decide +kernel
theorem d45 : decode yB 45 = .ok (.invokestatic 47, 3) := by decide +kernel
theorem d48 : decode yB 48 = .ok (.putfield 15, 3) := by decide +kernel
theorem d51 : decode yB 51 = .ok (.aload_n 0, 1) := by decide +kernel
theorem d52 : decode yB 52 = .ok (.aload 5, 2) := by decide +kernel
theorem d54 : decode yB 54 = .ok (.putfield 9, 3) := by decide +kernel
theorem d57 : decode yB 57 = .ok (.return_, 1) := by decide +kernel
def site : List Cond := [.fieldLink "java/lang/String" 38 "java/lang/String" "COMPACT_STRINGS" "Z", Cmp3.tab, CodL.tab, .laysFinal "java/lang/String" "java/lang/String" "value" "[B", .fieldLink "java/lang/String" 9 "java/lang/String" "value" "[B", .laysFinal "java/lang/String" "java/lang/String" "coder" "B", .fieldLink "java/lang/String" 15 "java/lang/String" "coder" "B"] ++ objW "java/lang/String" 1 ++ staticW "java/lang/String" 177 Cmp3.yN ++ staticW "java/lang/String" 47 CodL.yN
def tab : Cond := tabOf yN yB 6 none site
def P (a : Addr) (D : Cell) (fV fC : Field) (b : Addr) (A : Cell) (z : Int32) (o len : Nat) (args : Array Value) (s : State) : Prop := args = #[.ref a, .ref b, .int (Int32.ofNat o), .int (Int32.ofNat len), .null] ∧ Blank "java/lang/String" a D s ∧ Found "java/lang/String" "value" "[B" fV s ∧ Found "java/lang/String" "coder" "B" fC s ∧ Ch b A s ∧ StaticIs s "java/lang/String" "COMPACT_STRINGS" "Z" (.int z) ∧ ¬ z = 0 ∧ 0 < len ∧ o + len ≤ A.slots.size ∧ len ≤ 536870912 ∧ ∀ i, i < len → ¬ 255 < cv A (o + i)
def E (a : Addr) (D : Cell) (fV fC : Field) (A : Cell) (o len : Nat) (r : Option Value) (s u : State) : Prop := Got a D fV fC A o len r s u
/-- len > 0, no char of the range above 255: a Latin-1 String of their low bytes -/
theorem law (l : Launch) (a : Addr) (D : Cell) (fV fC : Field) (b : Addr) (A : Cell) (z : Int32) (o len : Nat) : Law l yN 5 4 2 35 yB 6 none site (P a D fV fC b A z o len) (E a D fV fC A o len) [⟨a, fC.slot⟩, ⟨a, fV.slot⟩] 1 len := by
  refine Law.of_walk (plainFor_of_name (by decide +kernel)) (by decide +kernel) (by decide +kernel) (by decide) (fun _ _ h => by rw [h.1]; rfl) (fun _ U U' hal hh h => ⟨h.1, h.2.1.mv hal hh, h.2.2.1.al hal, h.2.2.2.1.al hal, h.2.2.2.2.1.mv hal hh, h.2.2.2.2.2.1.there hal hh, h.2.2.2.2.2.2⟩) (fun r U U' V V' h1 hal h2 h => Got.mv r U U' V V' h1 hal h2 h) ?_
  intro p e s m args below meth c s₁ X0 hexec hbytes hml hret hlk hnm hown hh0 W hP
  obtain ⟨rfl, hB, f1, f2, hA, s1, hz, l0, l1, l2, hp⟩ := hP
  have a31 := hA.1.2.2.2
  have c1 : Steps p.tables e below (s₁.setTop (entryFrame m #[.ref a, .ref b, .int (Int32.ofNat o), .int (Int32.ofNat len), .null] 6)) (s₁.setTop (mkF m 0 #[.val (.ref a), .val (.ref b), .val (.int (Int32.ofNat o)), .val (.int (Int32.ofNat len)), .val .null, .unset] [])) := entry rfl
  have c2 : Steps p.tables e below (s₁.setTop (entryFrame m #[.ref a, .ref b, .int (Int32.ofNat o), .int (Int32.ofNat len), .null] 6)) (s₁.setTop (mkF m 1 #[.val (.ref a), .val (.ref b), .val (.int (Int32.ofNat o)), .val (.int (Int32.ofNat len)), .val .null, .unset] [.ref a])) := c1.trans (by
    refine XS.aloadN X0.here hexec rfl (hb hbytes d0) rfl rfl ?_
    exact Steps.refl _)
  obtain ⟨T3, X3, q3, st3⟩ := X0.oinit hexec hown (wks W (objW "java/lang/String" 1)) (g := (mkF m 1 #[.val (.ref a), .val (.ref b), .val (.int (Int32.ofNat o)), .val (.int (Int32.ofNat len)), .val .null, .unset] [.ref a])) rfl (by rw [hml]; rfl) (rest := []) rfl (hb hbytes d1) (W := 0) (by show 2 * 0 + 0 ≤ _; decide) (Nat.le_of_ble_eq_true rfl) (Nat.le_of_ble_eq_true rfl)
  have hh3 := q3.trans hh0
  have c4 : Steps p.tables e below (s₁.setTop (entryFrame m #[.ref a, .ref b, .int (Int32.ofNat o), .int (Int32.ofNat len), .null] 6)) (T3.setTop (mkF m 27 #[.val (.ref a), .val (.ref b), .val (.int (Int32.ofNat o)), .val (.int (Int32.ofNat len)), .val .null, .unset] [])) := (c2.trans (st3 _ (Steps.refl _))).trans (by
    refine XS.iloadN X3.here hexec rfl (hb hbytes d4) rfl ?_
    refine XS.ifYes X3.here hexec rfl (pc0 := 5) rfl (hb hbytes d5) rfl (i0_ne_t (nz32 (by omega) l0)) (by decide) rfl ?_
    exact Steps.refl _)
  obtain ⟨T5, X5, q5, st5⟩ := X3.sget hexec hown (wk W (.fieldLink "java/lang/String" 38 "java/lang/String" "COMPACT_STRINGS" "Z")) s1 (fun _ _ h => by rw [hh3]; exact h) (g := (mkF m 27 #[.val (.ref a), .val (.ref b), .val (.int (Int32.ofNat o)), .val (.int (Int32.ofNat len)), .val .null, .unset] [])) rfl (hb hbytes d27)
  have hh5 := q5.trans hh3
  have c6 : Steps p.tables e below (s₁.setTop (entryFrame m #[.ref a, .ref b, .int (Int32.ofNat o), .int (Int32.ofNat len), .null] 6)) (T5.setTop (mkF m 30 #[.val (.ref a), .val (.ref b), .val (.int (Int32.ofNat o)), .val (.int (Int32.ofNat len)), .val .null, .unset] [.int z])) := c4.trans (st5 _ (Steps.refl _))
  have c7 : Steps p.tables e below (s₁.setTop (entryFrame m #[.ref a, .ref b, .int (Int32.ofNat o), .int (Int32.ofNat len), .null] 6)) (T5.setTop (mkF m 36 #[.val (.ref a), .val (.ref b), .val (.int (Int32.ofNat o)), .val (.int (Int32.ofNat len)), .val .null, .unset] [.int (Int32.ofNat len), .int (Int32.ofNat o), .ref b])) := c6.trans (by
    refine XS.ifNo X5.here hexec rfl (hb hbytes d30) rfl (i0_eq_f hz) ?_
    refine XS.aloadN X5.here hexec rfl (hb hbytes d33) rfl rfl ?_
    refine XS.iloadN X5.here hexec rfl (hb hbytes d34) rfl ?_
    refine XS.iloadN X5.here hexec rfl (hb hbytes d35) rfl ?_
    exact Steps.refl _)
  obtain ⟨v8, T8, X8, E8, g8⟩ := X5.callS hexec (Cmp3.law l b A o len) hown (wks W (staticW "java/lang/String" 177 Cmp3.yN)) (wk W Cmp3.tab) (W := 0) (Nat.le_of_ble_eq_true rfl) (Nat.le_of_ble_eq_true rfl) (Nat.le_refl _) (by show 0 + len ≤ len; omega) (g := (mkF m 36 #[.val (.ref a), .val (.ref b), .val (.int (Int32.ofNat o)), .val (.int (Int32.ofNat len)), .val .null, .unset] [.int (Int32.ofNat len), .int (Int32.ofNat o), .ref b])) rfl (by rw [hml]; rfl) c7 (argsL := [.ref b, .int (Int32.ofNat o), .int (Int32.ofNat len)]) (rest := []) rfl rfl (by show 2 * 0 + 0 ≤ _; decide) (hb hbytes d36) (⟨rfl, hA.mv X5.warmed.alike hh5, l1, l2, hp⟩)
  obtain ⟨e8, z8⟩ := E8
  obtain ⟨rfl, N, n1, n2, n3, n4, n5, n6⟩ := NewArr.mv _ T5 s _ _ hh5.symm (Vm.Alike.refl _) rfl e8
  rw [hh5] at z8
  have hB1 := hB.keep X8.warmed.alike (n6 _ _ hB.1)
  have hne : s.heap.size ≠ a := (Nat.ne_of_lt (Array.getElem?_eq_some_iff.mp hB.1).1).symm
  have c9 : Steps p.tables e below (s₁.setTop (entryFrame m #[.ref a, .ref b, .int (Int32.ofNat o), .int (Int32.ofNat len), .null] 6)) (T8.setTop (mkF m 39 #[.val (.ref a), .val (.ref b), .val (.int (Int32.ofNat o)), .val (.int (Int32.ofNat len)), .val .null, .unset] [.ref s.heap.size])) := g8
  have c10 : Steps p.tables e below (s₁.setTop (entryFrame m #[.ref a, .ref b, .int (Int32.ofNat o), .int (Int32.ofNat len), .null] 6)) (T8.setTop (mkF m 45 #[.val (.ref a), .val (.ref b), .val (.int (Int32.ofNat o)), .val (.int (Int32.ofNat len)), .val .null, .val (.ref s.heap.size)] [.int (Int32.ofNat N.slots.size), .ref s.heap.size, .ref a])) := by
    have hc : Steps p.tables e below (s₁.setTop (entryFrame m #[.ref a, .ref b, .int (Int32.ofNat o), .int (Int32.ofNat len), .null] 6)) (T8.setTop (mkF m 45 #[.val (.ref a), .val (.ref b), .val (.int (Int32.ofNat o)), .val (.int (Int32.ofNat len)), .val .null, .val (.ref s.heap.size)] [.int (Int32.ofNat len), .ref s.heap.size, .ref a])) := c9.trans (by
      refine XS.astore X8.here hexec rfl (hb hbytes d39) rfl rfl rfl ?_
      refine XS.aloadN X8.here hexec rfl (hb hbytes d41) rfl rfl ?_
      refine XS.aload X8.here hexec rfl (hb hbytes d42) rfl rfl ?_
      refine XS.iloadN X8.here hexec rfl (hb hbytes d44) rfl ?_
      exact Steps.refl _)
    rw [n4]; exact hc
  obtain ⟨v11, T11, X11, E11, g11⟩ := X8.callS hexec (CodL.law l s.heap.size N) hown (wks W (staticW "java/lang/String" 47 CodL.yN)) (wk W CodL.tab) (W := 1) (Nat.le_of_ble_eq_true rfl) (Nat.le_of_ble_eq_true rfl) (Nat.le_refl _) (by show 0 + len + 0 ≤ len; omega) (g := (mkF m 45 #[.val (.ref a), .val (.ref b), .val (.int (Int32.ofNat o)), .val (.int (Int32.ofNat len)), .val .null, .val (.ref s.heap.size)] [.int (Int32.ofNat N.slots.size), .ref s.heap.size, .ref a])) rfl (by rw [hml]; rfl) c10 (argsL := [.ref s.heap.size, .int (Int32.ofNat N.slots.size)]) (rest := [.ref a]) rfl rfl (by show 2 * 0 + (1 + 0) ≤ _; decide) (hb hbytes d45) (⟨rfl, n1⟩)
  obtain ⟨rfl, q11⟩ := E11
  have hB11 := hB1.mv (X8.warmed.alike.symm.trans X11.warmed.alike) q11
  have c12 : Steps p.tables e below (s₁.setTop (entryFrame m #[.ref a, .ref b, .int (Int32.ofNat o), .int (Int32.ofNat len), .null] 6)) (T11.setTop (mkF m 48 #[.val (.ref a), .val (.ref b), .val (.int (Int32.ofNat o)), .val (.int (Int32.ofNat len)), .val .null, .val (.ref s.heap.size)] [.int 0, .ref a])) := g11
  obtain ⟨T13, X13, p13, bl13, sl13, st13⟩ := X11.finit hexec hown (wk W (.fieldLink "java/lang/String" 15 "java/lang/String" "coder" "B")) (Or.inr ⟨_, (wk W (.laysFinal "java/lang/String" "java/lang/String" "coder" "B"))⟩) (Or.inl ⟨rfl, hnm⟩) f2 (Or.inl rfl) hB11 (t := .byte) (by decide +kernel) rfl (g := (mkF m 48 #[.val (.ref a), .val (.ref b), .val (.int (Int32.ofNat o)), .val (.int (Int32.ofNat len)), .val .null, .val (.ref s.heap.size)] [.int 0, .ref a])) rfl (rest := []) rfl (hb hbytes d48)
  have c14 : Steps p.tables e below (s₁.setTop (entryFrame m #[.ref a, .ref b, .int (Int32.ofNat o), .int (Int32.ofNat len), .null] 6)) (T13.setTop (mkF m 54 #[.val (.ref a), .val (.ref b), .val (.int (Int32.ofNat o)), .val (.int (Int32.ofNat len)), .val .null, .val (.ref s.heap.size)] [.ref s.heap.size, .ref a])) := (c12.trans (st13 _ (Steps.refl _))).trans (by
    refine XS.aloadN X13.here hexec rfl (hb hbytes d51) rfl rfl ?_
    refine XS.aload X13.here hexec rfl (hb hbytes d52) rfl rfl ?_
    exact Steps.refl _)
  obtain ⟨T15, X15, p15, bl15, sl15, st15⟩ := X13.finit hexec hown (wk W (.fieldLink "java/lang/String" 9 "java/lang/String" "value" "[B")) (Or.inr ⟨_, (wk W (.laysFinal "java/lang/String" "java/lang/String" "value" "[B"))⟩) (Or.inl ⟨rfl, hnm⟩) f1 (Or.inl rfl) bl13 (t := (.array .byte)) (by decide +kernel) rfl (g := (mkF m 54 #[.val (.ref a), .val (.ref b), .val (.int (Int32.ofNat o)), .val (.int (Int32.ofNat len)), .val .null, .val (.ref s.heap.size)] [.ref s.heap.size, .ref a])) rfl (rest := []) rfl (hb hbytes d54)
  have c16 : Steps p.tables e below (s₁.setTop (entryFrame m #[.ref a, .ref b, .int (Int32.ofNat o), .int (Int32.ofNat len), .null] 6)) (T15.setTop (mkF m 57 #[.val (.ref a), .val (.ref b), .val (.int (Int32.ofNat o)), .val (.int (Int32.ofNat len)), .val .null, .val (.ref s.heap.size)] [])) := c14.trans (st15 _ (Steps.refl _))
  have ap := apart (Or.inr ⟨_, (wk W (.laysFinal "java/lang/String" "java/lang/String" "value" "[B"))⟩) (Or.inr ⟨_, (wk W (.laysFinal "java/lang/String" "java/lang/String" "coder" "B"))⟩) f1 f2 (t₁ := .array .byte) (t₂ := .byte) (by decide +kernel) (by decide +kernel) (by decide)
  have al := X8.warmed.alike.symm.trans X15.warmed.alike
  have n7 : T11.heap[s.heap.size]? = some N := by rw [q11]; exact n1.1
  exact ⟨T15, none, _, _, _, X15, by simp, rfl, by omega, (fun _ => rfl), ⟨rfl, _, N, bl15, ((Same.refl D _).set _ (by simp)).set _ (by simp), sl15, (Cell.slots_setSlot_ne _ ap).trans sl13, n1.keep al (p15.other hne (p13.other hne n7)), n2, by rw [al.findClass]; exact n3, n4, n5, fun y c h1 h2 => p15.other h1 (p13.other h1 (by rw [q11]; exact n6 y c h2)), by rw [p15.2.2, p13.2.2, q11]; exact z8⟩, fun fs hl => c16.trans (X15.returnOut hexec hret (hb hbytes d57) hl)⟩
end New4
namespace New1
def yN : MethodName := ⟨"java/lang/String", "<init>", "([C)V"⟩
abbrev yB : ByteArray := jdk_42_method_3_code
theorem d0 : decode yB 0 = .ok (.aload_n 0, 1) := by decide +kernel
theorem d1 : decode yB 1 = .ok (.aload_n 1, 1) := by decide +kernel
theorem d2 : decode yB 2 = .ok (.iconst 0, 1) := by decide +kernel
theorem d3 : decode yB 3 = .ok (.aload_n 1, 1) := by decide +kernel
theorem d4 : decode yB 4 = .ok (.arraylength, 1) := by decide +kernel
theorem d5 : decode yB 5 = .ok (.aconst_null, 1) := by decide +kernel
theorem d6 : decode yB 6 = .ok (.invokespecial 27, 3) := by decide +kernel
theorem d9 : decode yB 9 = .ok (.return_, 1) := by decide +kernel
def site : List Cond := [New4.tab] ++ initW "java/lang/String" 27 New4.yN
def tab : Cond := tabOf yN yB 2 none site
def P (a : Addr) (D : Cell) (fV fC : Field) (b : Addr) (A : Cell) (z : Int32) (args : Array Value) (s : State) : Prop := args = #[.ref a, .ref b] ∧ Blank "java/lang/String" a D s ∧ Found "java/lang/String" "value" "[B" fV s ∧ Found "java/lang/String" "coder" "B" fC s ∧ Ch b A s ∧ StaticIs s "java/lang/String" "COMPACT_STRINGS" "Z" (.int z) ∧ ¬ z = 0 ∧ 0 < A.slots.size ∧ A.slots.size ≤ 536870912 ∧ ∀ i, i < A.slots.size → ¬ 255 < cv A i
def E (a : Addr) (D : Cell) (fV fC : Field) (A : Cell) (r : Option Value) (s u : State) : Prop := Got a D fV fC A 0 A.slots.size r s u
/-- new String(chars), not empty, no char above 255: a Latin-1 String of their low bytes -/
theorem law (l : Launch) (a : Addr) (D : Cell) (fV fC : Field) (b : Addr) (A : Cell) (z : Int32) : Law l yN 2 1 3 52 yB 2 none site (P a D fV fC b A z) (E a D fV fC A) [⟨a, fC.slot⟩, ⟨a, fV.slot⟩] 1 A.slots.size := by
  refine Law.of_walk (plainFor_of_name (by decide +kernel)) (by decide +kernel) (by decide +kernel) (by decide) (fun _ _ h => by rw [h.1]; rfl) (fun _ U U' hal hh h => ⟨h.1, h.2.1.mv hal hh, h.2.2.1.al hal, h.2.2.2.1.al hal, h.2.2.2.2.1.mv hal hh, h.2.2.2.2.2.1.there hal hh, h.2.2.2.2.2.2⟩) (fun r U U' V V' h1 hal h2 h => Got.mv r U U' V V' h1 hal h2 h) ?_
  intro p e s m args below meth c s₁ X0 hexec hbytes hml hret hlk hnm hown hh0 W hP
  obtain ⟨rfl, hB, f1, f2, hA, s1, hz, l0, l2, hp⟩ := hP
  have c1 : Steps p.tables e below (s₁.setTop (entryFrame m #[.ref a, .ref b] 2)) (s₁.setTop (mkF m 0 #[.val (.ref a), .val (.ref b)] [])) := entry rfl
  have c2 : Steps p.tables e below (s₁.setTop (entryFrame m #[.ref a, .ref b] 2)) (s₁.setTop (mkF m 6 #[.val (.ref a), .val (.ref b)] [.null, .int (Int32.ofNat A.slots.size), .int 0, .ref b, .ref a])) := c1.trans (by
    refine XS.aloadN X0.here hexec rfl (hb hbytes d0) rfl rfl ?_
    refine XS.aloadN X0.here hexec rfl (hb hbytes d1) rfl rfl ?_
    refine iconstV X0.here hexec rfl 0 (hb hbytes d2) (by decide) ?_
    refine XS.aloadN X0.here hexec rfl (hb hbytes d3) rfl rfl ?_
    refine X0.alen hexec (hA.1.mv X0.warmed.alike hh0) rfl rfl (hb hbytes d4) ?_
    refine XS.aconstNull X0.here hexec rfl (hb hbytes d5) ?_
    exact Steps.refl _)
  obtain ⟨v3, T3, X3, E3, g3⟩ := X0.callN hexec (New4.law l a D fV fC b A z 0 A.slots.size) rfl hown (wks W (initW "java/lang/String" 27 New4.yN)) (W New4.tab (by simp only [site, List.mem_cons, List.mem_append, true_or, or_true])) (W := 0) (Nat.le_of_ble_eq_true rfl) (Nat.le_of_ble_eq_true rfl) (Nat.le_refl _) (by show 0 + A.slots.size ≤ A.slots.size; omega) (g := (mkF m 6 #[.val (.ref a), .val (.ref b)] [.null, .int (Int32.ofNat A.slots.size), .int (Int32.ofNat 0), .ref b, .ref a])) rfl (by rw [hml]; rfl) c2 (argsL := [.ref b, .int (Int32.ofNat 0), .int (Int32.ofNat A.slots.size), .null]) (rest := []) rfl rfl (by show 2 * 0 + 0 ≤ _; decide) (hb hbytes d6) (⟨rfl, hB.mv X0.warmed.alike hh0, f1.al X0.warmed.alike, f2.al X0.warmed.alike, hA.mv X0.warmed.alike hh0, s1.there X0.warmed.alike hh0, hz, l0, by omega, l2, fun i hi => by rw [Nat.zero_add]; exact hp i hi⟩)
  have e0 := Got.mv _ s₁ s _ _ hh0.symm (Vm.Alike.refl _) rfl E3
  obtain rfl := e0.1
  have c4 : Steps p.tables e below (s₁.setTop (entryFrame m #[.ref a, .ref b] 2)) (T3.setTop (mkF m 9 #[.val (.ref a), .val (.ref b)] [])) := g3
  exact ⟨T3, none, _, _, _, X3, by simp, rfl, by omega, (fun _ => rfl), e0, fun fs hl => c4.trans (X3.returnOut hexec hret (hb hbytes d9) hl)⟩
theorem pays {l : Launch} {R : Room} {p : Program} {e : Env} {below : List Frame} {s : State} {sargs : Array Value} {len W : Nat} (a : Addr) (D : Cell) (fV fC : Field) (b : Addr) (A : Cell) (z : Int32) (htab : tab.before sargs s = true) (hfr : 4 ≤ R.frames) (hlo : W + 65 ≤ R.locals) :
    Back l R p e below s sargs yN len W (fun A₁ a₁ => A₁.cells + 1 ≤ R.cells ∧ A₁.slots + A.slots.size ≤ R.slots ∧ P a D fV fC b A z a₁ A₁.U) (fun A₁ _ v₁ B₁ => E a D fV fC A v₁ A₁.U B₁.U ∧ B₁.locs = A₁.locs ++ [⟨a, fC.slot⟩, ⟨a, fV.slot⟩] ∧ B₁.cells = A₁.cells + 1 ∧ B₁.slots = A₁.slots + A.slots.size) :=
  (law l a D fV fC b A z).pays htab hfr (by omega)
end New1
/-- the byte, read back as charAt reads it, is the char -/
theorem lo8_mask {x : Int32} (h0 : ¬ x < 0) (h1 : ¬ 255 < x) : lo8 x &&& 255 = x := by
  have t : ∀ k : Fin 256, lo8 (Int32.ofNat k.val) &&& 255 = Int32.ofNat k.val := by decide +kernel
  rw [Int32.lt_iff_toInt_lt] at h0 h1
  have e0 : (0 : Int32).toInt = 0 := rfl
  have e1 : (255 : Int32).toInt = 255 := rfl
  obtain ⟨k, hk⟩ : ∃ k : Nat, x.toInt = k := ⟨x.toInt.toNat, by omega⟩
  have hx : x = Int32.ofNat k := Int32.toInt_inj.mp (by rw [hk, Int32.toInt_ofNat_small (by omega)])
  rw [hx]
  exact t ⟨k, by omega⟩
end StrChars
namespace StrChars.Road
open Jvm Sem ClassFile Op Lib Jvm.Stand Jvm.Free Jvm.Free.XT
open Jvm.Lib.Cold (StaticIs)
abbrev ST : String := "java/lang/String"
/-- every table word that New1's law asks, flat -/
abbrev words : List Jvm.Cond := [.code New1.yN New1.yB 2 none, .initialized ST, .methodLink ST 27 New4.yN, .instanceMethod New4.yN,
  .code New4.yN New4.yB 6 none, .fieldLink ST 38 ST "COMPACT_STRINGS" "Z", .laysFinal ST ST "value" "[B", .fieldLink ST 9 ST "value" "[B", .laysFinal ST ST "coder" "B", .fieldLink ST 15 ST "coder" "B",
  .methodLink ST 1 Lib.objectInit, .instanceMethod Lib.objectInit, .code Lib.objectInit ⟨#[0xb1]⟩ 1 none, .methodLink ST 177 Cmp3.yN, .static Cmp3.yN, .methodLink ST 47 CodL.yN, .static CodL.yN,
  .code Cmp3.yN Cmp3.yB 6 (some (.array .byte)), .initialized U16, .arrayClass .byte, .methodLink U16 115 Cmp5.yN, .static Cmp5.yN, .code Cmp5.yN Cmp5.yB 7 (some .int), .code CodL.yN CodL.yB 2 (some .byte)]
theorem tab_of {a : Array Value} {s : State} (h : ∀ w ∈ words, w.before a s = true) : New1.tab.before a s = true := by
  have h5 : Cmp5.tab.before a s = true := unparts (wk h (.code Cmp5.yN Cmp5.yB 7 (some .int))) (wks h (.initialized Cmp5.yN.cls :: Cmp5.site))
  have hc : CodL.tab.before a s = true := unparts (wk h (.code CodL.yN CodL.yB 2 (some .byte))) (wks h (.initialized CodL.yN.cls :: CodL.site))
  have q5 : ∀ w ∈ Cmp5.tab :: words, w.before a s = true := fun w hw => (List.mem_cons.mp hw).elim (fun e => e ▸ h5) (h w)
  have h3 : Cmp3.tab.before a s = true := unparts (wk q5 (.code Cmp3.yN Cmp3.yB 6 (some (.array .byte)))) (wks q5 (.initialized Cmp3.yN.cls :: Cmp3.site))
  have q3 : ∀ w ∈ Cmp3.tab :: CodL.tab :: words, w.before a s = true := fun w hw => (List.mem_cons.mp hw).elim (fun e => e ▸ h3) fun hw => (List.mem_cons.mp hw).elim (fun e => e ▸ hc) (h w)
  have h4 : New4.tab.before a s = true := unparts (wk q3 (.code New4.yN New4.yB 6 none)) (wks q3 (.initialized New4.yN.cls :: New4.site))
  have q4 : ∀ w ∈ New4.tab :: words, w.before a s = true := fun w hw => (List.mem_cons.mp hw).elim (fun e => e ▸ h4) (h w)
  exact unparts (wk q4 (.code New1.yN New1.yB 2 none)) (wks q4 (.initialized New1.yN.cls :: New1.site))
/-- the words ride from the start Z to the walk's own state -/
theorem moved {Z s : State} {a0 args : Array Value} (hZ : Z.Warmed39 s.vm) (hw : ∀ d ∈ words, d.before a0 Z = true) : ∀ d ∈ words, d.before args s = true := fun d hd => by
  have q := hw d hd
  have t : ∀ d ∈ words, d = .arrayClass .byte ∨ (d.onTables && d.keepsFace) = true := by decide +kernel
  rcases t d hd with rfl | t
  · exact RoadKit.mvA hZ q
  · exact RoadKit.mv hZ q t
/-- WHAT COMES BACK, over the tables of the start Z: h the heap at the call, h' behind it -/
def Q (Z : State) (x : Addr) (A : Cell) (h : Heap) (v : Option Value) (h' : Heap) (L : List Loc) : Prop := v = none ∧ (∀ y ∈ L, y.base = x) ∧ RoadKit.Keep h h' [x] ∧ h'.size = h.size + 1 ∧ RoadKit.Exa Z h' x ST ∧ RoadKit.Fld Z h' x ST "value" "[B" (.ref h.size) ∧ RoadKit.Fld Z h' x ST "coder" "B" (.int 0) ∧
  (∃ V : Cell, RoadKit.Arr Z h' h.size V .byte ∧ V.vm = .none ∧ Z.vm.findClass "[B" = some V.cls ∧ V.slots.size = A.slots.size ∧ ∀ j, j < A.slots.size → V.slots[j]? = some (.int (lo8 (cv A j)))) ∧
  ∀ (O n d : String) (w : Value), RoadKit.Fld Z h x O n d w → RoadKit.slotOf Z O n d ≠ RoadKit.slotOf Z ST "value" "[B" → RoadKit.slotOf Z O n d ≠ RoadKit.slotOf Z ST "coder" "B" → RoadKit.Fld Z h' x O n d w
/-- **new String(chars) AT A CALL, IN THE ROAD'S FORM**: for specialBack behind newO: x the fresh String, b the char[] with the cell A -/
theorem back {p : Program} {l : Launch} {e : Env} {R : Room} {s : State} {args : Array Value} {below : List Frame} {len W : Nat} {Z : State} {a0 : Array Value} {h : Heap} (hZ : Z.Warmed39 s.vm) (hw : ∀ d ∈ words, d.before a0 Z = true) {kI : Nat} (wi : (Jvm.Cond.instantiable ST kI).before a0 Z = true)
    {x b : Addr} {A : Cell} {z : Int32} {v0 c0 : Value} (E : RoadKit.Exa Z h x ST) (V : RoadKit.Fld Z h x ST "value" "[B" v0) (C : RoadKit.Fld Z h x ST "coder" "B" c0) (K : RoadKit.Arr Z h b A .char) (hty : Typed .char A) (S : RoadKit.Sta Z h ST "COMPACT_STRINGS" "Z" (.int z)) (hz : ¬ z = 0)
    (l0 : 0 < A.slots.size) (l2 : A.slots.size ≤ 536870912) (hp : ∀ i, i < A.slots.size → ¬ 255 < cv A i) (hfr : 4 ≤ R.frames) (hlo : W + 65 ≤ R.locals) :
    Back l R p e below s args New1.yN len W (fun P a => a = #[.ref x, .ref b] ∧ P.U.heap = h ∧ P.cells + 1 ≤ R.cells ∧ P.slots + A.slots.size ≤ R.slots)
      (fun P _ v B => ∃ L, Q Z x A h v B.U.heap L ∧ B.locs = P.locs ++ L ∧ B.cells = P.cells + 1 ∧ B.slots = P.slots + A.slots.size) := by
  intro m meth c P g ig mk a X hg hsize hdg hW hn hp'
  obtain ⟨rfl, rfl, r1, r2⟩ := hp'
  have al : Z.vm.Alike P.U.vm := hZ.alike.trans X.warmed.alike
  obtain ⟨D, cfV, kV, iV, fV, hD, gV, stV, knV, obV, asV, slV⟩ := id V
  obtain ⟨D', cfC, kC, iC, fC, hD', gC, stC, -, -, asC, slC⟩ := id C
  cases hD.symm.trans hD'
  obtain ⟨D2, kD, e1, e2, e3, e4, e5⟩ := id E
  cases hD.symm.trans e1
  obtain ⟨c2, k2, i1, i2, i3, -⟩ := Cond.instantiable_spec wi
  cases e2.symm.trans i1
  cases e3.symm.trans i2
  obtain ⟨kU, u1, u2⟩ := al.2.2 _ _ e3
  have hB : Blank ST x D P.U := ⟨hD, ⟨knV, fun q hq => by rw [hq] at obV; cases obV⟩, by rw [al.findClass]; exact e2, kU, u1, by rw [u2]; exact i3, by rw [u2]; exact e5 i3⟩
  have F1 : Found ST "value" "[B" fV P.U := ⟨SBG.found_only al ⟨cfV, kV, iV, gV⟩, stV⟩
  have F2 : Found ST "coder" "B" fC P.U := ⟨SBG.found_only al ⟨cfC, kC, iC, gC⟩, stC⟩
  have hA : Ch b A P.U := ⟨⟨K.1, State.isArrayOf_alike al K.2.1, K.2.2, by omega⟩, hty⟩
  have hS : StaticIs P.U ST "COMPACT_STRINGS" "Z" (.int z) := by
    obtain ⟨cfS, iS, kS, fS, st, cS, t1, t2, t3, t4, t5, t6, t7⟩ := S
    exact StaticIs.there (s := { Z with heap := P.U.heap }) ⟨cfS, iS, kS, fS, st, cS, t1, t2, t3, t4, t5, (fun q => by rw [q] at t6; cases t6), t7⟩ al rfl
  obtain ⟨v, B, X', ⟨⟨hv, E', V', q1, q2, q3, q4, q5, q6, q7, q8, q9, q10, q11⟩, hl, hc, hs⟩, st⟩ := New1.pays x D fV fC b A z (tab_of (moved hZ hw)) hfr hlo m meth c P g ig mk _ X hg hsize hdg hW hn ⟨r1, r2, rfl, hB, F1, F2, hA, hS, hz, l0, l2, hp⟩
  have al' : Z.vm.Alike B.U.vm := hZ.alike.trans X'.warmed.alike
  have hsz : E'.slots.size = D.slots.size := by
    obtain ⟨-, -, -, kB, w1, w2, w3⟩ := q1
    obtain ⟨kB', y1, y2⟩ := al'.2.2 _ _ e3
    rw [q2.2.1] at w1
    cases w1.symm.trans y1
    rw [w3, e5 i3, y2]
  refine ⟨v, B, X', ⟨_, ⟨hv, ?_, ⟨by omega, fun y cy hy hn' => q10 y cy (by simpa using hn') hy, fun y cy hy => ?_⟩, q11, ⟨E', _, q1.1, by rw [q2.2.1]; exact e2, by rw [q2.2.1]; exact e3, by rw [q2.1]; exact obV, fun _ => by rw [hsz]; exact e5 i3⟩,
    ⟨E', cfV, kV, iV, fV, q1.1, gV, stV, by rw [q2.1]; exact knV, by rw [q2.1]; exact obV, by rw [q2.2.1]; exact asV, q3⟩, ⟨E', cfC, kC, iC, fC, q1.1, gC, stC, by rw [q2.1]; exact knV, by rw [q2.1]; exact obV, by rw [q2.2.1]; exact asC, q4⟩,
    ⟨V', ⟨q5.1, State.isArrayOf_alike al'.symm q5.2.1, q5.2.2.1⟩, q6, by rw [← al'.findClass]; exact q7, q8, fun j hj => by have := q9 j hj; rwa [Nat.zero_add] at this⟩, fun O n d w F n1 n2 => ?_⟩, hl, hc, hs⟩, st⟩
  · intro y hy
    simp only [List.mem_cons, List.not_mem_nil, or_false] at hy
    rcases hy with rfl | rfl <;> rfl
  · by_cases q : y = x
    · subst q
      cases hD.symm.trans hy
      exact ⟨E', q1.1, q2.2.1, q2.1, hsz⟩
    · exact ⟨cy, q10 y cy q hy, rfl, rfl, rfl⟩
  · obtain ⟨D3, cf, k, i, f, g1, g2, g3, g4, g5, g6, g7⟩ := F
    cases hD.symm.trans g1
    simp only [RoadKit.slotOf, g2, gV, gC, Option.map_some, Option.getD_some] at n1 n2
    exact ⟨E', cf, k, i, f, q1.1, g2, g3, by rw [q2.1]; exact g4, by rw [q2.1]; exact g5, by rw [q2.2.1]; exact g6, by rw [q2.2.2 f.slot (by simp [n1, n2])]; exact g7⟩
end StrChars.Road
namespace StrChars.Road
open Jvm Sem ClassFile Op Lib Jvm.Stand Jvm.Free Jvm.Free.XT
/-- WHAT COMES BACK, the byte[] as a list of values -/
def QA (Z : State) (x : Addr) (zn : Int32) (cs : List Int32) (h : Heap) (v : Option Value) (h' : Heap) (L : List Loc) : Prop := v = none ∧ (∀ y ∈ L, y.base = x) ∧ RoadKit.Keep h h' [x] ∧ h'.size = h.size + 1 ∧ RoadKit.Exa Z h' x ST ∧ RoadKit.Fld Z h' x ST "value" "[B" (.ref h.size) ∧ RoadKit.Fld Z h' x ST "coder" "B" (.int 0) ∧
  (∃ kb, Z.vm.findClass "[B" = some kb ∧ RoadKit.Arv Z h' h.size kb .byte zn (cs.map fun c => .int (lo8 c)) (.int 0)) ∧
  ∀ (O n d : String) (w : Value), RoadKit.Fld Z h x O n d w → RoadKit.slotOf Z O n d ≠ RoadKit.slotOf Z ST "value" "[B" → RoadKit.slotOf Z O n d ≠ RoadKit.slotOf Z ST "coder" "B" → RoadKit.Fld Z h' x O n d w
/-- **new String(chars) AT A CALL, THE ARRAYS AS LISTS**: the char[] at b holds cs, not empty, no char above 255 -/
theorem backArv {p : Program} {l : Launch} {e : Env} {R : Room} {s : State} {args : Array Value} {below : List Frame} {len W : Nat} {Z : State} {a0 : Array Value} {h : Heap} (hZ : Z.Warmed39 s.vm) (hw : ∀ d ∈ words, d.before a0 Z = true) {kI : Nat} (wi : (Jvm.Cond.instantiable ST kI).before a0 Z = true)
    {x b : Addr} {k : ClassId} {zn z : Int32} {cs : List Int32} {dv v0 c0 : Value} (E : RoadKit.Exa Z h x ST) (V : RoadKit.Fld Z h x ST "value" "[B" v0) (C : RoadKit.Fld Z h x ST "coder" "B" c0) (K : RoadKit.Arv Z h b k .char zn (cs.map Value.int) dv) (S : RoadKit.Sta Z h ST "COMPACT_STRINGS" "Z" (.int z)) (hz : ¬ z = 0)
    (hlen : zn.toNatClampNeg = cs.length) (h0 : 0 < cs.length) (hbig : cs.length ≤ 536870912) (hall : ∀ c ∈ cs, ¬ 255 < c) (hfr : 4 ≤ R.frames) (hlo : W + 65 ≤ R.locals) :
    Back l R p e below s args New1.yN len W (fun P a => a = #[.ref x, .ref b] ∧ P.U.heap = h ∧ P.cells + 1 ≤ R.cells ∧ P.slots + cs.length ≤ R.slots)
      (fun P _ v B => ∃ L, QA Z x zn cs h v B.U.heap L ∧ B.locs = P.locs ++ L ∧ B.cells = P.cells + 1 ∧ B.slots = P.slots + cs.length) := by
  obtain ⟨A, K1, K2, K3, K4, K5, K6⟩ := K
  have e : A.slots.size = cs.length := K3.trans hlen
  have hat : ∀ (i : Nat) (hi : i < cs.length), A.slots[i]? = some (.int cs[i]) := fun i hi => by rw [K5 i (by omega)]; simp [List.getD_eq_getElem?_getD, hi]
  have hcv : ∀ (i : Nat) (hi : i < cs.length), cv A i = cs[i] := fun i hi => by unfold cv; rw [hat i hi]
  have hty : Typed .char A := fun i v hv => by
    have hi : i < A.slots.size := (Array.getElem?_eq_some_iff.mp hv).1
    have q := K5 i hi
    rw [hv] at q
    rw [Option.some.inj q]
    exact K6 i hi
  refine Back.mono (back hZ hw wi E V C K1 hty S hz (by omega) (by omega) (fun i hi => by rw [hcv i (by omega)]; exact hall _ (List.getElem_mem _)) hfr hlo) (fun P a hp => ⟨hp.1, hp.2.1, hp.2.2.1, by rw [e]; exact hp.2.2.2⟩) (fun P a v B hp hq => ?_)
  obtain ⟨L, ⟨q1, q2, q3, q4, q5, q6, q7, ⟨V', v1, v2, v3, v4, v5⟩, q9⟩, hl, hc, hs⟩ := hq
  refine ⟨L, ⟨q1, q2, q3, q4, q5, q6, q7, ⟨V'.cls, v3, V', v1, rfl, by rw [v4, e, hlen], K4, fun i hi => ?_, fun i hi => ?_⟩, q9⟩, hl, hc, by rw [hs, e]⟩
  · have hi' : i < cs.length := by omega
    rw [v5 i (by omega), hcv i hi']; simp [List.getD_eq_getElem?_getD, hi']
  · have hi' : i < cs.length := by omega
    simp only [List.getD_eq_getElem?_getD, List.getElem?_map, List.getElem?_eq_getElem hi', Option.map_some, Option.getD_some]
    exact fits_lo8 _
end StrChars.Road
namespace StrChars.Road
open Jvm Sem ClassFile Op Lib Jvm.Stand Jvm.Free Jvm.Free.XT
/-- WHAT COMES BACK, in the writer's own shape -/
def QV (Z : State) (x : Addr) (N : Int32) (bs : List Int32) (h : Heap) (n0 : Nat) (v : Option Value) (h' : Heap) (L : List Loc) : Prop := v = none ∧ RoadKit.Fr n0 L ∧ RoadKit.Keep h h' [x] ∧ RoadKit.Exa Z h' x ST ∧ RoadKit.Fld Z h' x ST "coder" "B" (.int 0) ∧
  ∃ (t : Addr) (kb : ClassId), n0 ≤ t ∧ h.size ≤ t ∧ ¬ t = x ∧ RoadKit.Fld Z h' x ST "value" "[B" (.ref t) ∧ RoadKit.Arv Z h' t kb .byte N (bs.map Value.int) (.int 0)
/-- **new String(chars) AT A CALL, FOR THE WRITER**: a char[] of n known ints, each 0 to 255 -/
theorem backV {p : Program} {l : Launch} {e : Env} {R : Room} {s : State} {args : Array Value} {below : List Frame} {len W : Nat} {Z : State} {a0 : Array Value} {h : Heap} (hZ : Z.Warmed39 s.vm) (hw : ∀ d ∈ words, d.before a0 Z = true) {kI : Nat} (wi : (Jvm.Cond.instantiable ST kI).before a0 Z = true)
    {x b : Addr} {kC : ClassId} {cs bs : List Int32} {d v0 c0 : Value} {z N : Int32} {n n0 : Nat} (hx0 : n0 ≤ x) (hh0 : n0 ≤ h.size) (E : RoadKit.Exa Z h x ST) (V : RoadKit.Fld Z h x ST "value" "[B" v0) (C : RoadKit.Fld Z h x ST "coder" "B" c0) (K : RoadKit.Arv Z h b kC .char N (cs.map Value.int) d) (S : RoadKit.Sta Z h ST "COMPACT_STRINGS" "Z" (.int z)) (hz : ¬ z = 0)
    (hn : cs.length = n) (hN : N = Int32.ofNat n) (l0 : 0 < n) (l2 : n ≤ 4000) (hp : ∀ c ∈ cs, ¬ c < 0 ∧ ¬ (255 : Int32) < c) (hb : bs = cs.map (fun c => c.toInt8.toInt32)) (hfr : 4 ≤ R.frames) (hlo : W + 65 ≤ R.locals) :
    Back l R p e below s args (⟨"java/lang/String", "<init>", "([C)V"⟩ : MethodName) len W (fun P a => a = #[.ref x, .ref b] ∧ P.U.heap = h ∧ P.cells + 1 ≤ R.cells ∧ P.slots + n ≤ R.slots)
      (fun P _ v B => ∃ L, QV Z x N bs h n0 v B.U.heap L ∧ B.locs = P.locs ++ L ∧ B.cells = P.cells + 1 ∧ B.slots = P.slots + n) := by
  subst hn hN hb
  refine Back.mono (backArv hZ hw wi E V C K S hz (n32 (by omega)) l0 (by omega) (fun c hc => (hp c hc).2) hfr hlo) (fun P a hp => hp) (fun P a v B hp hq => ?_)
  obtain ⟨L, ⟨q1, q2, q3, q4, q5, q6, q7, ⟨kb, v1, v2⟩, q9⟩, hl, hc, hs⟩ := hq
  exact ⟨L, ⟨q1, fun y hy => by rw [q2 y hy]; exact hx0, q3, q5, q7, h.size, kb, hh0, Nat.le_refl _, Nat.ne_of_gt E.lt, q6, by rw [List.map_map]; exact v2⟩, hl, hc, hs⟩
end StrChars.Road
namespace StrChars
open Jvm Sem ClassFile Op Lib Jvm.Stand Jvm.Free.XT Jvm.Free.ALB Jvm.Free.JM Jvm.Free
open Jvm.Lib.Cold (StaticIs)
def hi8 (x : Int32) : Int32 := lo8 (x >>> ((8 : Int32) &&& 31))
/-- what StringUTF16.getChar makes of two bytes -/
def pairCh (u v : Int32) : Int32 := (((u &&& 255) <<< ((0 : Int32) &&& 31)) ||| ((v &&& 255) <<< ((8 : Int32) &&& 31))).toUInt32.toUInt16.toUInt32.toInt32
theorem lo8_and (x : Int32) : (lo8 x &&& 255).toBitVec.toNat = x.toBitVec.toNat % 256 := by
  have h : (lo8 x).toBitVec = (x.toBitVec.signExtend 8).signExtend 32 := by rw [lo8, Int8.toBitVec_toInt32, Int32.toBitVec_toInt8]
  rw [Int32.toBitVec_and, BitVec.toNat_and, h]
  have e : ((x.toBitVec.signExtend 8).signExtend 32).toNat % 256 = x.toBitVec.toNat % 256 := by
    rw [BitVec.toNat_signExtend]
    have hlt := x.toBitVec.isLt
    simp only [BitVec.toNat_setWidth, BitVec.toNat_signExtend]
    split <;> split <;> omega
  rw [← e]
  exact Nat.and_two_pow_sub_one_eq_mod _ 8
theorem pair_says {c : Int32} (h0 : ¬ c < 0) (h1 : ¬ 65535 < c) : pairCh (lo8 c) (hi8 c) = c := by
  rw [Int32.lt_iff_toInt_lt] at h0 h1
  have e0 : (0 : Int32).toInt = 0 := rfl
  have e1 : (65535 : Int32).toInt = 65535 := rfl
  have hc : c.toInt = c.toBitVec.toNat := by
    have := c.toBitVec.isLt
    have e : c.toInt = c.toBitVec.toInt := rfl
    rw [e] at h0 h1
    rw [e]
    rw [BitVec.toInt_eq_toNat_cond] at h0 h1 ⊢
    split at h0 <;> split <;> omega
  have hn : c.toBitVec.toNat < 65536 := by omega
  have a1 := lo8_and c
  have a2 : (hi8 c &&& 255).toBitVec.toNat = c.toBitVec.toNat / 256 := by
    rw [hi8, lo8_and]
    have e : ((8 : Int32) &&& 31) = 8 := by decide
    rw [e, Int32.toBitVec_shiftRight]
    have e2 : ((8 : Int32).toBitVec.smod 32) = 8#32 := by decide
    rw [e2, BitVec.sshiftRight_eq', BitVec.toNat_sshiftRight_of_msb_false (by rw [BitVec.msb_eq_false_iff_two_mul_lt]; omega)]
    show c.toBitVec.toNat >>> 8 % 256 = _
    rw [Nat.shiftRight_eq_div_pow]
    omega
  unfold pairCh
  apply Int32.toBitVec_inj.mp
  apply BitVec.eq_of_toNat_eq
  have f0 : ((0 : Int32) &&& 31) = 0 := by decide
  have f8 : ((8 : Int32) &&& 31) = 8 := by decide
  rw [f0, f8]
  have g : (((lo8 c &&& 255) <<< (0 : Int32)) ||| ((hi8 c &&& 255) <<< (8 : Int32))).toBitVec.toNat = c.toBitVec.toNat := by
    rw [Int32.toBitVec_or, Int32.toBitVec_shiftLeft, Int32.toBitVec_shiftLeft]
    have s0 : ((0 : Int32).toBitVec.smod 32) = 0#32 := by decide
    have s8 : ((8 : Int32).toBitVec.smod 32) = 8#32 := by decide
    rw [s0, s8, BitVec.toNat_or]
    simp only [BitVec.shiftLeft_eq', BitVec.toNat_shiftLeft, a1, a2]
    show (c.toBitVec.toNat % 256) <<< 0 % 2 ^ 32 ||| (c.toBitVec.toNat / 256) <<< 8 % 2 ^ 32 = _
    rw [Nat.shiftLeft_zero, Nat.mod_eq_of_lt (show c.toBitVec.toNat % 256 < 2 ^ 32 by omega), Nat.mod_eq_of_lt (show (c.toBitVec.toNat / 256) <<< 8 < 2 ^ 32 by rw [Nat.shiftLeft_eq]; omega), Nat.or_comm, ← Nat.shiftLeft_add_eq_or_of_lt (by omega), Nat.shiftLeft_eq]
    omega
  show BitVec.toNat (((((lo8 c &&& 255) <<< (0 : Int32)) ||| ((hi8 c &&& 255) <<< (8 : Int32))).toBitVec.setWidth 16).setWidth 32) = _
  rw [BitVec.toNat_setWidth, BitVec.toNat_setWidth, g]
  omega
end StrChars
namespace StrChars
open Jvm Sem ClassFile Op Lib Jvm.Stand Jvm.Free.XT Jvm.Free.ALB Jvm.Free.JM Jvm.Free
open Jvm.Lib.Cold (StaticIs)
/-- the array's cell V codes the n chars f 0 .. f (n - 1) by the coder cd, as the JDK does: coder 1 just where some char is above 255 -/
def Cod (cd : Int32) (n : Nat) (f : Nat → Int32) (V : Cell) : Prop := (cd = 0 ∧ V.slots.size = n ∧ ∀ j, j < n → V.slots[j]? = some (.int (lo8 (f j))) ∧ ¬ 255 < f j) ∨ (cd = 1 ∧ V.slots.size = 2 * n ∧ (∀ j, j < n → V.slots[2 * j]? = some (.int (lo8 (f j))) ∧ V.slots[2 * j + 1]? = some (.int (hi8 (f j)))) ∧ ∃ j, j < n ∧ 255 < f j)
/-- **x is a String of the n chars f 0 .. f (n - 1)**, Latin-1 or UTF-16; its array at t has the cell V -/
def Txt (x t : Addr) (V : Cell) (cd : Int32) (n : Nat) (f : Nat → Int32) (U : State) : Prop := Exact "java/lang/String" x U ∧ Has x "java/lang/String" "value" "[B" (.ref t) U ∧ Has x "java/lang/String" "coder" "B" (.int cd) U ∧ XT.Arr .byte t V U ∧ Cod cd n f V ∧ ∀ j, j < n → ¬ f j < 0 ∧ ¬ 65535 < f j
theorem Txt.mv {x t : Addr} {V : Cell} {cd : Int32} {n : Nat} {f : Nat → Int32} {U U' : State} (h : Txt x t V cd n f U) (hal : U.vm.Alike U'.vm) (hh : U'.heap = U.heap) : Txt x t V cd n f U' := ⟨h.1.mv hal hh, h.2.1.mv hal hh, h.2.2.1.mv hal hh, h.2.2.2.1.mv hal hh, h.2.2.2.2⟩
end StrChars
namespace StrChars.Road
open Jvm Sem ClassFile Op Lib Jvm.Stand Jvm.Free Jvm.Free.XT
open Jvm.Lib.Cold (StaticIs)
theorem consq {a : Array Value} {s : State} {c : Jvm.Cond} {L : List Jvm.Cond} (h0 : c.before a s = true) (h : ∀ w ∈ L, w.before a s = true) : ∀ w ∈ c :: L, w.before a s = true := fun w hw => (List.mem_cons.mp hw).elim (fun e => e ▸ h0) (h w)
/-- the bytes of the chars cs, low before high -/
def wideBytes : List Int32 → List Value
  | [] => []
  | c :: cs => .int (lo8 c) :: .int (hi8 c) :: wideBytes cs
theorem wide_lo (d : Value) : ∀ (cs : List Int32) (j : Nat), j < cs.length → (wideBytes cs).getD (2 * j) d = .int (lo8 (cs.getD j 0))
  | [], j, h => absurd h (Nat.not_lt_zero j)
  | c :: cs, 0, _ => rfl
  | c :: cs, j + 1, h => by
    have q := wide_lo d cs j (by simpa using h)
    rw [show 2 * (j + 1) = 2 * j + 1 + 1 from by omega]
    simpa [wideBytes] using q
theorem wide_hi (d : Value) : ∀ (cs : List Int32) (j : Nat), j < cs.length → (wideBytes cs).getD (2 * j + 1) d = .int (hi8 (cs.getD j 0))
  | [], j, h => absurd h (Nat.not_lt_zero j)
  | c :: cs, 0, _ => rfl
  | c :: cs, j + 1, h => by
    have q := wide_hi d cs j (by simpa using h)
    rw [show 2 * (j + 1) + 1 = 2 * j + 1 + 1 + 1 from by omega]
    simpa [wideBytes] using q
theorem low_at (d : Value) (cs : List Int32) (j : Nat) (h : j < cs.length) : (cs.map fun c => Value.int (lo8 c)).getD j d = .int (lo8 (cs.getD j 0)) := by
  simp [List.getD_eq_getElem?_getD, h]
/-- an array of N2 bytes vs codes the chars cs by the coder cd -/
def CodA (cs : List Int32) (cd N2 : Int32) (vs : List Value) : Prop := (cd = 0 ∧ N2 = Int32.ofNat cs.length ∧ vs = (cs.map fun c => Value.int (lo8 c)) ∧ ∀ c ∈ cs, ¬ 255 < c) ∨ (cd = 1 ∧ N2 = Int32.ofNat (2 * cs.length) ∧ vs = wideBytes cs ∧ ∃ c ∈ cs, 255 < c)
theorem CodA.cod {cs : List Int32} {cd N2 : Int32} {vs : List Value} {V : Cell} (h : CodA cs cd N2 vs) (hn : 2 * cs.length < 2 ^ 31) (hs : V.slots.size = N2.toNatClampNeg) (hv : RoadKit.Has V vs (.int 0)) : Cod cd cs.length (fun j => cs.getD j 0) V := by
  rcases h with ⟨rfl, rfl, rfl, h⟩ | ⟨rfl, rfl, rfl, c, hc, hw⟩
  · rw [n32 (by omega)] at hs
    exact Or.inl ⟨rfl, hs, fun j hj => ⟨by rw [hv j (by omega), low_at _ _ _ hj], by
      have e : cs.getD j 0 = cs[j] := by simp [List.getD_eq_getElem?_getD, hj]
      show ¬ 255 < cs.getD j 0
      rw [e]; exact h _ (List.getElem_mem _)⟩⟩
  · rw [n32 (by omega)] at hs
    obtain ⟨j, hj, rfl⟩ := List.getElem_of_mem hc
    exact Or.inr ⟨rfl, hs, fun j hj => ⟨by rw [hv _ (by omega), wide_lo _ _ _ hj], by rw [hv _ (by omega), wide_hi _ _ _ hj]⟩, j, hj, by
      have e : cs.getD j 0 = cs[j] := by simp [List.getD_eq_getElem?_getD, hj]
      show 255 < cs.getD j 0
      rw [e]; exact hw⟩
/-- an object of exactly java/lang/String, its two fields found: as the laws ask it -/
theorem strObj {Z U : State} {a0 : Array Value} {kI : Nat} (wi : (Jvm.Cond.instantiable ST kI).before a0 Z = true) (al : Z.vm.Alike U.vm) {x : Addr} {v0 c0 : Value} (E : RoadKit.Exa Z U.heap x ST) (V : RoadKit.Fld Z U.heap x ST "value" "[B" v0) (C : RoadKit.Fld Z U.heap x ST "coder" "B" c0) :
    ∃ (D : Cell) (fV fC : Field), Blank ST x D U ∧ Found ST "value" "[B" fV U ∧ Found ST "coder" "B" fC U ∧ D.slots[fV.slot]? = some v0 ∧ D.slots[fC.slot]? = some c0 ∧ RoadKit.slotOf Z ST "value" "[B" = fV.slot ∧ RoadKit.slotOf Z ST "coder" "B" = fC.slot := by
  obtain ⟨D, cfV, kV, iV, fV, hD, gV, stV, knV, obV, asV, slV⟩ := V
  obtain ⟨D', cfC, kC, iC, fC, hD', gC, stC, -, -, asC, slC⟩ := C
  cases hD.symm.trans hD'
  obtain ⟨D2, kD, e1, e2, e3, e4, e5⟩ := E
  cases hD.symm.trans e1
  obtain ⟨c2, k2, i1, i2, i3, -⟩ := Cond.instantiable_spec wi
  cases e2.symm.trans i1
  cases e3.symm.trans i2
  obtain ⟨kU, u1, u2⟩ := al.2.2 _ _ e3
  exact ⟨D, fV, fC, ⟨hD, ⟨knV, fun q hq => by rw [hq] at obV; cases obV⟩, by rw [al.findClass]; exact e2, kU, u1, by rw [u2]; exact i3, by rw [u2]; exact e5 i3⟩, ⟨SBG.found_only al ⟨cfV, kV, iV, gV⟩, stV⟩, ⟨SBG.found_only al ⟨cfC, kC, iC, gC⟩, stC⟩, slV, slC, by simp [RoadKit.slotOf, gV], by simp [RoadKit.slotOf, gC]⟩
theorem sta_is {Z U : State} (al : Z.vm.Alike U.vm) {C n d : String} {v : Value} (S : RoadKit.Sta Z U.heap C n d v) : StaticIs U C n d v := by
  obtain ⟨cfS, iS, kS, fS, st, cS, t1, t2, t3, t4, t5, t6, t7⟩ := S
  exact StaticIs.there (s := { Z with heap := U.heap }) ⟨cfS, iS, kS, fS, st, cS, t1, t2, t3, t4, t5, (fun q => by rw [q] at t6; cases t6), t7⟩ al rfl
end StrChars.Road
namespace StrChars
open Jvm Sem ClassFile Op Lib Jvm.Stand Jvm.Free.XT Jvm.Free.ALB Jvm.Free.JM Jvm.Free
open Jvm.Lib.Cold (StaticIs)
/-- what place i of a byte[]'s cell holds -/
def yv (A : Cell) (i : Nat) : Int32 := match A.slots[i]? with | some (.int x) => x | _ => 0
theorem yv_get {a : Addr} {A : Cell} {U : State} (h : XT.Arr .byte a A U) (ht : Typed .byte A) {i : Nat} (hi : i < A.slots.size) : A.slots[i]? = some (.int (yv A i)) := by
  have e := Array.getElem?_eq_getElem hi
  have f := ht i _ e
  unfold yv; rw [e]
  generalize A.slots[i] = v at f
  cases v <;> simp [fits] at f ⊢
/-- the two arrays are equal, place for place -/
def EqC (A B : Cell) : Prop := A.slots.size = B.slots.size ∧ ∀ i, i < A.slots.size → yv A i = yv B i
/-- a boolean that says whether p -/
def Says01 (q : Prop) (r : Option Value) (s u : State) : Prop := ∃ v : Int32, r = some (.int v) ∧ u.heap = s.heap ∧ ((v = 1 ∧ q) ∨ (v = 0 ∧ ¬ q))
theorem Says01.mv {q : Prop} : ∀ r (U U' V V' : State), U'.heap = U.heap → V.vm.Alike V'.vm → V'.heap = V.heap → Says01 q r U V → Says01 q r U' V' :=
  fun r U U' V V' h1 _ h2 ⟨v, a, b, c⟩ => ⟨v, a, by rw [h1, h2]; exact b, c⟩
namespace LEq
def yN : MethodName := ⟨"java/lang/StringLatin1", "equals", "([B[B)Z"⟩
abbrev yB : ByteArray := jdk_43_method_13_code
theorem d0 : decode yB 0 = .ok (.aload_n 0, 1) := by decide +kernel
theorem d1 : decode yB 1 = .ok (.arraylength, 1) := by decide +kernel
theorem d2 : decode yB 2 = .ok (.aload_n 1, 1) := by decide +kernel
theorem d3 : decode yB 3 = .ok (.arraylength, 1) := by decide +kernel
theorem d4 : decode yB 4 = .ok (.if_icmp (.ne) 30, 3) := by decide +kernel
theorem d7 : decode yB 7 = .ok (.iconst 0, 1) := by decide +kernel
theorem d8 : decode yB 8 = .ok (.istore_n 2, 1) := by decide +kernel
theorem d9 : decode yB 9 = .ok (.iload_n 2, 1) := by decide +kernel
theorem d10 : decode yB 10 = .ok (.aload_n 0, 1) := by decide +kernel
theorem d11 : decode yB 11 = .ok (.arraylength, 1) := by decide +kernel
theorem d12 : decode yB 12 = .ok (.if_icmp (.ge) 20, 3) := by decide +kernel
theorem d15 : decode yB 15 = .ok (.aload_n 0, 1) := by decide +kernel
theorem d16 : decode yB 16 = .ok (.iload_n 2, 1) := by decide +kernel
theorem d17 : decode yB 17 = .ok (.baload, 1) := by decide +kernel
theorem d18 : decode yB 18 = .ok (.aload_n 1, 1) := by decide +kernel
theorem d19 : decode yB 19 = .ok (.iload_n 2, 1) := by decide +kernel
theorem d20 : decode yB 20 = .ok (.baload, 1) := by decide +kernel
theorem d21 : decode yB 21 = .ok (.if_icmp (.eq) 5, 3) := by decide +kernel
theorem d24 : decode yB 24 = .ok (.iconst 0, 1) := by decide +kernel
theorem d25 : decode yB 25 = .ok (.ireturn, 1) := by decide +kernel
theorem d26 : decode yB 26 = .ok (.iinc 2 1, 3) := by decide +kernel
theorem d29 : decode yB 29 = .ok (.goto (-20), 3) := by decide +kernel
theorem d32 : decode yB 32 = .ok (.iconst 1, 1) := by decide +kernel
theorem d33 : decode yB 33 = .ok (.ireturn, 1) := by decide +kernel
theorem d34 : decode yB 34 = .ok (.iconst 0, 1) := by decide +kernel
theorem d35 : decode yB 35 = .ok (.ireturn, 1) := by decide +kernel
def site : List Cond := []
def tab : Cond := tabOf yN yB 3 (some .boolean) site
def P (a : Addr) (A : Cell) (b : Addr) (B : Cell) (args : Array Value) (s : State) : Prop := args = #[.ref a, .ref b] ∧ XT.Arr .byte a A s ∧ Typed .byte A ∧ XT.Arr .byte b B s ∧ Typed .byte B
/-- whether two byte[] are equal, place for place -/
theorem law (l : Launch) (a : Addr) (A : Cell) (b : Addr) (B : Cell) : Law l yN 2 2 0 0 yB 3 (some .boolean) site (P a A b B) (Says01 (EqC A B)) [] 0 0 := by
  refine Law.of_walk (plainFor_of_name (by decide +kernel)) (by decide +kernel) (by decide +kernel) (by decide) (fun _ _ h => by rw [h.1]; rfl) (fun _ U U' hal hh h => ⟨h.1, h.2.1.mv hal hh, h.2.2.1, h.2.2.2.1.mv hal hh, h.2.2.2.2⟩) (fun r U U' V V' h1 hal h2 h => Says01.mv r U U' V V' h1 hal h2 h) ?_
  intro p e s m args below meth c s₁ X0 hexec hbytes hml hret hlk hnm hown hh0 W hP
  obtain ⟨rfl, hA, tA, hB, tB⟩ := hP
  have a31 := hA.2.2.2
  have b31 := hB.2.2.2
  have hA0 := hA.mv X0.warmed.alike hh0
  have hB0 := hB.mv X0.warmed.alike hh0
  have c1 : Steps p.tables e below (s₁.setTop (entryFrame m #[.ref a, .ref b] 3)) (s₁.setTop (mkF m 0 #[.val (.ref a), .val (.ref b), .unset] [])) := entry rfl
  have c2 : Steps p.tables e below (s₁.setTop (entryFrame m #[.ref a, .ref b] 3)) (s₁.setTop (mkF m 4 #[.val (.ref a), .val (.ref b), .unset] [.int (Int32.ofNat B.slots.size), .int (Int32.ofNat A.slots.size)])) := c1.trans (by
    refine XS.aloadN X0.here hexec rfl (hb hbytes d0) rfl rfl ?_
    refine X0.alen hexec hA0 rfl rfl (hb hbytes d1) ?_
    refine XS.aloadN X0.here hexec rfl (hb hbytes d2) rfl rfl ?_
    refine X0.alen hexec hB0 rfl rfl (hb hbytes d3) ?_
    exact Steps.refl _)
  by_cases hs : A.slots.size = B.slots.size
  · have c3 : Steps p.tables e below (s₁.setTop (entryFrame m #[.ref a, .ref b] 3)) (s₁.setTop (mkF m 9 #[.val (.ref a), .val (.ref b), .val (.int 0)] [])) := c2.trans (by
      refine XS.icmpNo X0.here hexec rfl (hb hbytes d4) rfl (ii_ne_f (by rw [hs])) ?_
      refine iconstV X0.here hexec rfl 0 (hb hbytes d7) (by decide) ?_
      refine XS.istoreN X0.here hexec rfl (hb hbytes d8) rfl rfl ?_
      exact Steps.refl _)
    have loop : ∀ (r i : Nat), i + r = A.slots.size → (∀ j, j < i → yv A j = yv B j) → Steps p.tables e below (s₁.setTop (entryFrame m #[.ref a, .ref b] 3)) (s₁.setTop (mkF m 9 #[.val (.ref a), .val (.ref b), .val (.int (Int32.ofNat i))] [])) → ∃ (pc : Nat) (Ls : Array Slot) (v : Int32), (pc = 25 ∨ pc = 33) ∧ ((v = 1 ∧ EqC A B) ∨ (v = 0 ∧ ¬ EqC A B)) ∧ Steps p.tables e below (s₁.setTop (entryFrame m #[.ref a, .ref b] 3)) (s₁.setTop (mkF m pc Ls [.int v])) := by
      intro r
      induction r with
      | zero =>
        intro i hi he cl
        exact ⟨33, _, 1, Or.inr rfl, Or.inl ⟨rfl, hs, fun j hj => he j (by omega)⟩, cl.trans (by
          refine XS.iloadN X0.here hexec rfl (hb hbytes d9) rfl ?_
          refine XS.aloadN X0.here hexec rfl (hb hbytes d10) rfl rfl ?_
          refine X0.alen hexec hA0 rfl rfl (hb hbytes d11) ?_
          refine XS.icmpYes X0.here hexec rfl (pc0 := 12) rfl (hb hbytes d12) rfl (ii_ge_t (nlt32 (by omega) (by omega))) (by decide) rfl ?_
          refine iconstV X0.here hexec rfl 1 (hb hbytes d32) (by decide) ?_
          exact Steps.refl _)⟩
      | succ r ih =>
        intro i hi he cl
        have c4 : Steps p.tables e below (s₁.setTop (entryFrame m #[.ref a, .ref b] 3)) (s₁.setTop (mkF m 21 #[.val (.ref a), .val (.ref b), .val (.int (Int32.ofNat i))] [.int (yv B i), .int (yv A i)])) := cl.trans (by
          refine XS.iloadN X0.here hexec rfl (hb hbytes d9) rfl ?_
          refine XS.aloadN X0.here hexec rfl (hb hbytes d10) rfl rfl ?_
          refine X0.alen hexec hA0 rfl rfl (hb hbytes d11) ?_
          refine XS.icmpNo X0.here hexec rfl (hb hbytes d12) rfl (ii_ge_f (lt32 (by omega) (by omega))) ?_
          refine XS.aloadN X0.here hexec rfl (hb hbytes d15) rfl rfl ?_
          refine XS.iloadN X0.here hexec rfl (hb hbytes d16) rfl ?_
          refine X0.aget hexec hA0 rfl (yv_get hA tA (i := i) (by omega)) rfl rfl (hb hbytes d17) ?_
          refine XS.aloadN X0.here hexec rfl (hb hbytes d18) rfl rfl ?_
          refine XS.iloadN X0.here hexec rfl (hb hbytes d19) rfl ?_
          refine X0.aget hexec hB0 rfl (yv_get hB tB (i := i) (by omega)) rfl rfl (hb hbytes d20) ?_
          exact Steps.refl _)
        by_cases hv : yv A i = yv B i
        · have c5 : Steps p.tables e below (s₁.setTop (entryFrame m #[.ref a, .ref b] 3)) (s₁.setTop (mkF m 9 #[.val (.ref a), .val (.ref b), .val (.int (Int32.ofNat i + 1))] [])) := c4.trans (by
            refine XS.icmpYes X0.here hexec rfl (pc0 := 21) rfl (hb hbytes d21) rfl (ii_eq_t hv) (by decide) rfl ?_
            refine iincV X0.here hexec rfl 1 (hb hbytes d26) (by decide) rfl rfl ?_
            refine XS.goto X0.here hexec rfl (pc0 := 29) rfl (hb hbytes d29) (by decide) rfl ?_
            exact Steps.refl _)
          rw [succ32] at c5
          exact ih (i + 1) (by omega) (fun j hj => by
            by_cases e : j = i
            · rw [e]; exact hv
            · exact he j (by omega)) c5
        · exact ⟨25, _, 0, Or.inl rfl, Or.inr ⟨rfl, fun q => hv (q.2 i (by omega))⟩, c4.trans (by
            refine XS.icmpNo X0.here hexec rfl (hb hbytes d21) rfl (ii_eq_f hv) ?_
            refine iconstV X0.here hexec rfl 0 (hb hbytes d24) (by decide) ?_
            exact Steps.refl _)⟩
    obtain ⟨pc, Ls, v, hpc, hv, cz⟩ := loop A.slots.size 0 (by omega) (fun j hj => absurd hj (Nat.not_lt_zero j)) c3
    have nv : narrow .boolean (.int v) = .int v := by rcases hv with ⟨rfl, -⟩ | ⟨rfl, -⟩ <;> rfl
    rcases hpc with rfl | rfl
    · exact ⟨s₁, some (.int v), _, _, _, X0, rfl, rfl, rfl, (fun h => by cases h), ⟨v, rfl, hh0, hv⟩, fun fs hl => cz.trans (X0.ireturnOut hexec hret nv (Or.inr (Or.inl rfl)) (hb hbytes d25) hl)⟩
    · exact ⟨s₁, some (.int v), _, _, _, X0, rfl, rfl, rfl, (fun h => by cases h), ⟨v, rfl, hh0, hv⟩, fun fs hl => cz.trans (X0.ireturnOut hexec hret nv (Or.inr (Or.inl rfl)) (hb hbytes d33) hl)⟩
  · have c3 : Steps p.tables e below (s₁.setTop (entryFrame m #[.ref a, .ref b] 3)) (s₁.setTop (mkF m 35 #[.val (.ref a), .val (.ref b), .unset] [.int 0])) := c2.trans (by
      refine XS.icmpYes X0.here hexec rfl (pc0 := 4) rfl (hb hbytes d4) rfl (ii_ne_t (ne32 a31 b31 hs)) (by decide) rfl ?_
      refine iconstV X0.here hexec rfl 0 (hb hbytes d34) (by decide) ?_
      exact Steps.refl _)
    exact ⟨s₁, some (.int 0), _, _, _, X0, rfl, rfl, rfl, (fun h => by cases h), ⟨0, rfl, hh0, Or.inr ⟨rfl, fun q => hs q.1⟩⟩, fun fs hl => c3.trans (X0.ireturnOut hexec hret rfl (Or.inr (Or.inl rfl)) (hb hbytes d35) hl)⟩
end LEq
theorem Cod.ty {cd : Int32} {n : Nat} {f : Nat → Int32} {V : Cell} (h : Cod cd n f V) : Typed .byte V := fun i v hv => by
  have hi : i < V.slots.size := (Array.getElem?_eq_some_iff.mp hv).1
  rcases h with ⟨-, k1, k2⟩ | ⟨-, k1, k2, -⟩
  · rw [(k2 i (by omega)).1] at hv; cases hv; exact fits_lo8 _
  · rcases Nat.mod_two_eq_zero_or_one i with e | e
    · obtain ⟨j, rfl⟩ : ∃ j, i = 2 * j := ⟨i / 2, by omega⟩
      rw [(k2 j (by omega)).1] at hv; cases hv; exact fits_lo8 _
    · obtain ⟨j, rfl⟩ : ∃ j, i = 2 * j + 1 := ⟨i / 2, by omega⟩
      rw [(k2 j (by omega)).2] at hv; cases hv; exact fits_lo8 _
/-- the same text -/
def SameT (n : Nat) (f : Nat → Int32) (k : Nat) (g : Nat → Int32) : Prop := n = k ∧ ∀ j, j < n → f j = g j
theorem lo8_inj {x y : Int32} (h0 : ¬ x < 0) (h1 : ¬ 255 < x) (k0 : ¬ y < 0) (k1 : ¬ 255 < y) (h : lo8 x = lo8 y) : x = y := by
  rw [← lo8_mask h0 h1, ← lo8_mask k0 k1, h]
/-- arrays coded by one coder are equal just where the texts are -/
theorem Cod.eqv {cd : Int32} {n k : Nat} {f g : Nat → Int32} {V V' : Cell} (h : Cod cd n f V) (h' : Cod cd k g V') (hf : ∀ j, j < n → ¬ f j < 0 ∧ ¬ 65535 < f j) (hg : ∀ j, j < k → ¬ g j < 0 ∧ ¬ 65535 < g j) : EqC V V' ↔ SameT n f k g := by
  have yvv : ∀ {W : Cell} {i : Nat} {x : Int32}, W.slots[i]? = some (.int x) → yv W i = x := fun q => by unfold yv; rw [q]
  rcases h with ⟨rfl, k1, k2⟩ | ⟨rfl, k1, k2, -⟩
  · rcases h' with ⟨-, m1, m2⟩ | ⟨e, -⟩
    · constructor
      · rintro ⟨e1, e2⟩
        refine ⟨by omega, fun j hj => ?_⟩
        have q := e2 j (by omega)
        rw [yvv (k2 j hj).1, yvv (m2 j (by omega)).1] at q
        exact lo8_inj (hf j hj).1 (k2 j hj).2 (hg j (by omega)).1 (m2 j (by omega)).2 q
      · rintro ⟨rfl, e2⟩
        refine ⟨by omega, fun j hj => ?_⟩
        rw [yvv (k2 j (by omega)).1, yvv (m2 j (by omega)).1, e2 j (by omega)]
    · exact absurd e (by decide)
  · rcases h' with ⟨e, -⟩ | ⟨-, m1, m2, -⟩
    · exact absurd e (by decide)
    · constructor
      · rintro ⟨e1, e2⟩
        refine ⟨by omega, fun j hj => ?_⟩
        have q1 := e2 (2 * j) (by omega)
        have q2 := e2 (2 * j + 1) (by omega)
        rw [yvv (k2 j hj).1, yvv (m2 j (by omega)).1] at q1
        rw [yvv (k2 j hj).2, yvv (m2 j (by omega)).2] at q2
        rw [← pair_says (hf j hj).1 (hf j hj).2, ← pair_says (hg j (by omega)).1 (hg j (by omega)).2, q1, q2]
      · rintro ⟨rfl, e2⟩
        refine ⟨by omega, fun i hi => ?_⟩
        rcases Nat.mod_two_eq_zero_or_one i with e | e
        · obtain ⟨j, rfl⟩ : ∃ j, i = 2 * j := ⟨i / 2, by omega⟩
          rw [yvv (k2 j (by omega)).1, yvv (m2 j (by omega)).1, e2 j (by omega)]
        · obtain ⟨j, rfl⟩ : ∃ j, i = 2 * j + 1 := ⟨i / 2, by omega⟩
          rw [yvv (k2 j (by omega)).2, yvv (m2 j (by omega)).2, e2 j (by omega)]
/-- two codings differ: so do the texts -/
theorem Cod.dif {cd cd' : Int32} {n k : Nat} {f g : Nat → Int32} {V V' : Cell} (h : Cod cd n f V) (h' : Cod cd' k g V') (hne : ¬ cd = cd') : ¬ SameT n f k g := by
  rintro ⟨rfl, e⟩
  rcases h with ⟨rfl, -, k2⟩ | ⟨rfl, -, -, j, hj, hw⟩
  · rcases h' with ⟨rfl, -⟩ | ⟨-, -, -, j, hj, hw⟩
    · exact hne rfl
    · exact (k2 j hj).2 (by rw [e j hj]; exact hw)
  · rcases h' with ⟨-, -, m2⟩ | ⟨rfl, -⟩
    · exact (m2 j hj).2 (by rw [← e j hj]; exact hw)
    · exact hne rfl
/-- an object of exactly C is an instance of C -/
theorem cinst {p : Program} {l : Launch} {e : Env} {R : Room} {s : State} {m : MethodId} {args : Array Value} {below : List Frame} {meth : Method} {c : Code} {T : State} {locs : List Loc} {cells slots : Nat} (X : Stand p l e R s m args below meth c T locs cells slots) (hexec : p.tables.exec = Jvm.exec) {own C : String} {index : Nat} (hown : s.vm.findClass own = some m.cls) (hlink : (Cond.classLink own index C).before args s = true) {a : Addr} (hE : Exact C a T)
    {g : JFrame} (hg : g.method = m) {rest : List Value} (hstack : g.stack = .ref a :: rest) (hdg : decode c.code g.pc = .ok (.instanceof index, 3)) :
    ∃ T', Stand p l e R s m args below meth c T' locs cells slots ∧ T'.heap = T.heap ∧ ∀ target, Steps p.tables e below (T'.setTop { g with pc := g.pc + 3, stack := .int 1 :: rest }) target → Steps p.tables e below (T.setTop g) target := by
  obtain ⟨cB, h1, D, h2, h3, h4⟩ := hE
  have h1' : s.vm.findClass C = some cB := by rw [← X.warmed.alike.findClass]; exact h1
  obtain ⟨vm', X', st⟩ := X.instanceofYes hexec hown hlink h2 h4 h1' (by rw [h3]; exact Jvm.Free.SB.assignable_self _ _) hg hstack hdg
  exact ⟨_, X', rfl, st⟩
theorem cself {p : Program} {l : Launch} {e : Env} {R : Room} {s : State} {m : MethodId} {args : Array Value} {below : List Frame} {meth : Method} {c : Code} {T : State} {locs : List Loc} {cells slots : Nat} (X : Stand p l e R s m args below meth c T locs cells slots) (hexec : p.tables.exec = Jvm.exec) {own C : String} {index : Nat} (hown : s.vm.findClass own = some m.cls) (hlink : (Cond.classLink own index C).before args s = true) {a : Addr} (hE : Exact C a T)
    {g : JFrame} (hg : g.method = m) {rest : List Value} (hstack : g.stack = .ref a :: rest) (hdg : decode c.code g.pc = .ok (.checkcast index, 3)) :
    ∃ T', Stand p l e R s m args below meth c T' locs cells slots ∧ T'.heap = T.heap ∧ ∀ target, Steps p.tables e below (T'.setTop { g with pc := g.pc + 3, stack := .ref a :: rest }) target → Steps p.tables e below (T.setTop g) target := by
  obtain ⟨cB, h1, D, h2, h3, h4⟩ := hE
  have h1' : s.vm.findClass C = some cB := by rw [← X.warmed.alike.findClass]; exact h1
  obtain ⟨vm', X', st⟩ := X.checkcastYes hexec hown hlink h2 h4 h1' (by rw [h3]; exact Jvm.Free.SB.assignable_self _ _) hg hstack hdg
  exact ⟨_, X', rfl, fun t h => st t (by rw [← hstack] at h; exact h)⟩
namespace SEq
def yN : MethodName := ⟨"java/lang/String", "equals", "(Ljava/lang/Object;)Z"⟩
abbrev yB : ByteArray := jdk_42_method_66_code
theorem d0 : decode yB 0 = .ok (.aload_n 0, 1) := by decide +kernel
theorem d1 : decode yB 1 = .ok (.aload_n 1, 1) := by decide +kernel
theorem d2 : decode yB 2 = .ok (.if_acmp (.ne) 5, 3) := by decide +kernel
theorem d5 : decode yB 5 = .ok (.iconst 1, 1) := by decide +kernel
theorem d6 : decode yB 6 = .ok (.ireturn, 1) := by decide +kernel
theorem d7 : decode yB 7 = .ok (.aload_n 1, 1) := by decide +kernel
theorem d8 : decode yB 8 = .ok (.instanceof 10, 3) := by decide +kernel
theorem d11 : decode yB 11 = .ok (.ifCond (.eq) 43, 3) := by decide +kernel
theorem d14 : decode yB 14 = .ok (.aload_n 1, 1) := by decide +kernel
theorem d15 : decode yB 15 = .ok (.checkcast 10, 3) := by decide +kernel
theorem d18 : decode yB 18 = .ok (.astore_n 2, 1) := by decide +kernel
theorem d19 : decode yB 19 = .ok (.getstatic 38, 3) := by decide +kernel
theorem d22 : decode yB 22 = .ok (.ifCond (.eq) 14, 3) := by decide +kernel
theorem d25 : decode yB 25 = .ok (.aload_n 0, 1) := by decide +kernel
theorem d26 : decode yB 26 = .ok (.getfield 15, 3) := by decide +kernel
theorem d29 : decode yB 29 = .ok (.aload_n 2, 1) := by decide +kernel
theorem d30 : decode yB 30 = .ok (.getfield 15, 3) := by decide +kernel
theorem d33 : decode yB 33 = .ok (.if_icmp (.ne) 21, 3) := by decide +kernel
theorem d36 : decode yB 36 = .ok (.aload_n 0, 1) := by decide +kernel
theorem d37 : decode yB 37 = .ok (.getfield 9, 3) := by decide +kernel
theorem d40 : decode yB 40 = .ok (.aload_n 2, 1) := by decide +kernel
theorem d41 : decode yB 41 = .ok (.getfield 9, 3) := by decide +kernel
theorem d44 : decode yB 44 = .ok (.invokestatic 541, 3) := by decide +kernel
theorem d47 : decode yB 47 = .ok (.ifCond (.eq) 7, 3) := by decide +kernel
theorem d50 : decode yB 50 = .ok (.iconst 1, 1) := by decide +kernel
theorem d51 : decode yB 51 = .ok (.goto 4, 3) := by decide +kernel
theorem d54 : decode yB 54 = .ok (.iconst 0, 1) := by decide +kernel
theorem d55 : decode yB 55 = .ok (.ireturn, 1) := by decide +kernel
def site : List Cond := [.classLink "java/lang/String" 10 "java/lang/String", .fieldLink "java/lang/String" 38 "java/lang/String" "COMPACT_STRINGS" "Z", .fieldLink "java/lang/String" 15 "java/lang/String" "coder" "B", .fieldLink "java/lang/String" 9 "java/lang/String" "value" "[B", LEq.tab] ++ staticW "java/lang/String" 541 LEq.yN
def tab : Cond := tabOf yN yB 3 (some .boolean) site
def P (x t : Addr) (V : Cell) (cd : Int32) (n : Nat) (f : Nat → Int32) (y t' : Addr) (V' : Cell) (cd' : Int32) (k : Nat) (g : Nat → Int32) (z : Int32) (args : Array Value) (s : State) : Prop := args = #[.ref x, .ref y] ∧ Txt x t V cd n f s ∧ Txt y t' V' cd' k g s ∧ StaticIs s "java/lang/String" "COMPACT_STRINGS" "Z" (.int z) ∧ ¬ z = 0
/-- equals(Object) of two Strings: whether the texts are the same -/
theorem law (l : Launch) (x t : Addr) (V : Cell) (cd : Int32) (n : Nat) (f : Nat → Int32) (y t' : Addr) (V' : Cell) (cd' : Int32) (k : Nat) (g : Nat → Int32) (z : Int32) : Law l yN 2 1 1 14 yB 3 (some .boolean) site (P x t V cd n f y t' V' cd' k g z) (Says01 (SameT n f k g)) [] 0 0 := by
  refine Law.of_walk (plainFor_of_name (by decide +kernel)) (by decide +kernel) (by decide +kernel) (by decide) (fun _ _ h => by rw [h.1]; rfl) (fun _ U U' hal hh h => ⟨h.1, h.2.1.mv hal hh, h.2.2.1.mv hal hh, h.2.2.2.1.there hal hh, h.2.2.2.2⟩) (fun r U U' V V' h1 hal h2 h => Says01.mv r U U' V V' h1 hal h2 h) ?_
  intro p e s m args below meth c s₁ X0 hexec hbytes hml hret hlk hnm hown hh0 W hP
  obtain ⟨rfl, hx, hy, s1, hz⟩ := hP
  have c1 : Steps p.tables e below (s₁.setTop (entryFrame m #[.ref x, .ref y] 3)) (s₁.setTop (mkF m 2 #[.val (.ref x), .val (.ref y), .unset] [.ref y, .ref x])) := Steps.trans (entry rfl) (by
    show Steps p.tables e below (s₁.setTop (mkF m 0 #[.val (.ref x), .val (.ref y), .unset] [])) _
    refine XS.aloadN X0.here hexec rfl (hb hbytes d0) rfl rfl ?_
    refine XS.aloadN X0.here hexec rfl (hb hbytes d1) rfl rfl ?_
    exact Steps.refl _)
  by_cases hxy : x = y
  · have c2 : Steps p.tables e below (s₁.setTop (entryFrame m #[.ref x, .ref y] 3)) (s₁.setTop (mkF m 6 #[.val (.ref x), .val (.ref y), .unset] [.int 1])) := c1.trans (by
      refine acmpNo X0.here hexec rfl (hb hbytes d2) rfl rfl rfl (by simp [acmp, hxy]) ?_
      refine iconstV X0.here hexec rfl 1 (hb hbytes d5) (by decide) ?_
      exact Steps.refl _)
    subst hxy
    have ec : cd = cd' := by
      obtain ⟨D, fd, a1, a2, a3⟩ := hx.2.2.1
      obtain ⟨D', fd', b1, b2, b3⟩ := hy.2.2.1
      cases a1.symm.trans b1
      obtain ⟨q1, q2, q3, q4⟩ := a2.1
      obtain ⟨r1, r2, r3, r4⟩ := b2.1
      cases q4.symm.trans r4
      cases a3.symm.trans b3; rfl
    have et : t = t' := by
      obtain ⟨D, fd, a1, a2, a3⟩ := hx.2.1
      obtain ⟨D', fd', b1, b2, b3⟩ := hy.2.1
      cases a1.symm.trans b1
      obtain ⟨q1, q2, q3, q4⟩ := a2.1
      obtain ⟨r1, r2, r3, r4⟩ := b2.1
      cases q4.symm.trans r4
      cases a3.symm.trans b3; rfl
    subst ec et
    have ev : V = V' := by cases hx.2.2.2.1.1.symm.trans hy.2.2.2.1.1; rfl
    subst ev
    have hs : SameT n f k g := (Cod.eqv hx.2.2.2.2.1 hy.2.2.2.2.1 hx.2.2.2.2.2 hy.2.2.2.2.2).mp ⟨rfl, fun _ _ => rfl⟩
    exact ⟨s₁, some (.int 1), _, _, _, X0, rfl, rfl, rfl, (fun h => by cases h), ⟨1, rfl, hh0, Or.inl ⟨rfl, hs⟩⟩, fun fs hl => c2.trans (X0.ireturnOut hexec hret rfl (Or.inr (Or.inl rfl)) (hb hbytes d6) hl)⟩
  · have c2 : Steps p.tables e below (s₁.setTop (entryFrame m #[.ref x, .ref y] 3)) (s₁.setTop (mkF m 8 #[.val (.ref x), .val (.ref y), .unset] [.ref y])) := c1.trans (by
      refine acmpYes X0.here hexec rfl (pc0 := 2) rfl (hb hbytes d2) rfl rfl rfl (by simp [acmp, hxy]) (by decide) rfl ?_
      refine XS.aloadN X0.here hexec rfl (hb hbytes d7) rfl rfl ?_
      exact Steps.refl _)
    obtain ⟨T3, X3, q3, st3⟩ := cinst X0 hexec hown (wk W (.classLink "java/lang/String" 10 "java/lang/String")) (hy.mv X0.warmed.alike hh0).1 (g := (mkF m 8 #[.val (.ref x), .val (.ref y), .unset] [.ref y])) rfl (rest := []) rfl (hb hbytes d8)
    have hh3 := q3.trans hh0
    have c4 : Steps p.tables e below (s₁.setTop (entryFrame m #[.ref x, .ref y] 3)) (T3.setTop (mkF m 15 #[.val (.ref x), .val (.ref y), .unset] [.ref y])) := (c2.trans (st3 _ (Steps.refl _))).trans (by
      refine XS.ifNo X3.here hexec rfl (hb hbytes d11) rfl (i0_eq_f (by decide)) ?_
      refine XS.aloadN X3.here hexec rfl (hb hbytes d14) rfl rfl ?_
      exact Steps.refl _)
    obtain ⟨T5, X5, q5, st5⟩ := cself X3 hexec hown (wk W (.classLink "java/lang/String" 10 "java/lang/String")) (hy.mv X3.warmed.alike hh3).1 (g := (mkF m 15 #[.val (.ref x), .val (.ref y), .unset] [.ref y])) rfl (rest := []) rfl (hb hbytes d15)
    have hh5 := q5.trans hh3
    have c6 : Steps p.tables e below (s₁.setTop (entryFrame m #[.ref x, .ref y] 3)) (T5.setTop (mkF m 19 #[.val (.ref x), .val (.ref y), .val (.ref y)] [])) := (c4.trans (st5 _ (Steps.refl _))).trans (by
      refine XS.astoreN X5.here hexec rfl (hb hbytes d18) rfl rfl rfl ?_
      exact Steps.refl _)
    obtain ⟨T7, X7, q7, st7⟩ := X5.sget hexec hown (wk W (.fieldLink "java/lang/String" 38 "java/lang/String" "COMPACT_STRINGS" "Z")) s1 (fun _ _ h => by rw [hh5]; exact h) (g := (mkF m 19 #[.val (.ref x), .val (.ref y), .val (.ref y)] [])) rfl (hb hbytes d19)
    have hh7 := q7.trans hh5
    have c8 : Steps p.tables e below (s₁.setTop (entryFrame m #[.ref x, .ref y] 3)) (T7.setTop (mkF m 26 #[.val (.ref x), .val (.ref y), .val (.ref y)] [.ref x])) := (c6.trans (st7 _ (Steps.refl _))).trans (by
      refine XS.ifNo X7.here hexec rfl (hb hbytes d22) rfl (i0_eq_f hz) ?_
      refine XS.aloadN X7.here hexec rfl (hb hbytes d25) rfl rfl ?_
      exact Steps.refl _)
    obtain ⟨T9, X9, q9, st9⟩ := X7.hget hexec hown (wk W (.fieldLink "java/lang/String" 15 "java/lang/String" "coder" "B")) (hx.mv X7.warmed.alike hh7).2.2.1 (g := (mkF m 26 #[.val (.ref x), .val (.ref y), .val (.ref y)] [.ref x])) rfl (rest := []) rfl (hb hbytes d26)
    have hh9 := q9.trans hh7
    have c10 : Steps p.tables e below (s₁.setTop (entryFrame m #[.ref x, .ref y] 3)) (T9.setTop (mkF m 30 #[.val (.ref x), .val (.ref y), .val (.ref y)] [.ref y, .int cd])) := (c8.trans (st9 _ (Steps.refl _))).trans (by
      refine XS.aloadN X9.here hexec rfl (hb hbytes d29) rfl rfl ?_
      exact Steps.refl _)
    obtain ⟨T11, X11, q11, st11⟩ := X9.hget hexec hown (wk W (.fieldLink "java/lang/String" 15 "java/lang/String" "coder" "B")) (hy.mv X9.warmed.alike hh9).2.2.1 (g := (mkF m 30 #[.val (.ref x), .val (.ref y), .val (.ref y)] [.ref y, .int cd])) rfl (rest := [.int cd]) rfl (hb hbytes d30)
    have hh11 := q11.trans hh9
    have c12 : Steps p.tables e below (s₁.setTop (entryFrame m #[.ref x, .ref y] 3)) (T11.setTop (mkF m 33 #[.val (.ref x), .val (.ref y), .val (.ref y)] [.int cd', .int cd])) := c10.trans (st11 _ (Steps.refl _))
    by_cases hcd : cd = cd'
    · subst hcd
      have c13 : Steps p.tables e below (s₁.setTop (entryFrame m #[.ref x, .ref y] 3)) (T11.setTop (mkF m 37 #[.val (.ref x), .val (.ref y), .val (.ref y)] [.ref x])) := c12.trans (by
        refine XS.icmpNo X11.here hexec rfl (hb hbytes d33) rfl (ii_ne_f rfl) ?_
        refine XS.aloadN X11.here hexec rfl (hb hbytes d36) rfl rfl ?_
        exact Steps.refl _)
      obtain ⟨T14, X14, q14, st14⟩ := X11.hget hexec hown (wk W (.fieldLink "java/lang/String" 9 "java/lang/String" "value" "[B")) (hx.mv X11.warmed.alike hh11).2.1 (g := (mkF m 37 #[.val (.ref x), .val (.ref y), .val (.ref y)] [.ref x])) rfl (rest := []) rfl (hb hbytes d37)
      have hh14 := q14.trans hh11
      have c15 : Steps p.tables e below (s₁.setTop (entryFrame m #[.ref x, .ref y] 3)) (T14.setTop (mkF m 41 #[.val (.ref x), .val (.ref y), .val (.ref y)] [.ref y, .ref t])) := (c13.trans (st14 _ (Steps.refl _))).trans (by
        refine XS.aloadN X14.here hexec rfl (hb hbytes d40) rfl rfl ?_
        exact Steps.refl _)
      obtain ⟨T16, X16, q16, st16⟩ := X14.hget hexec hown (wk W (.fieldLink "java/lang/String" 9 "java/lang/String" "value" "[B")) (hy.mv X14.warmed.alike hh14).2.1 (g := (mkF m 41 #[.val (.ref x), .val (.ref y), .val (.ref y)] [.ref y, .ref t])) rfl (rest := [.ref t]) rfl (hb hbytes d41)
      have hh16 := q16.trans hh14
      have c17 : Steps p.tables e below (s₁.setTop (entryFrame m #[.ref x, .ref y] 3)) (T16.setTop (mkF m 44 #[.val (.ref x), .val (.ref y), .val (.ref y)] [.ref t', .ref t])) := c15.trans (st16 _ (Steps.refl _))
      obtain ⟨v18, T18, X18, E18, g18⟩ := X16.callS hexec (LEq.law l t V t' V') hown (wks W (staticW "java/lang/String" 541 LEq.yN)) (wk W LEq.tab) (W := 0) (Nat.le_of_ble_eq_true rfl) (Nat.le_of_ble_eq_true rfl) (Nat.le_refl _) (Nat.le_refl _) (g := (mkF m 44 #[.val (.ref x), .val (.ref y), .val (.ref y)] [.ref t', .ref t])) rfl (by rw [hml]; rfl) c17 (argsL := [.ref t, .ref t']) (rest := []) rfl rfl (by show 2 * 0 + 0 ≤ _; decide) (hb hbytes d44) (⟨rfl, hx.2.2.2.1.mv X16.warmed.alike hh16, hx.2.2.2.2.1.ty, hy.2.2.2.1.mv X16.warmed.alike hh16, hy.2.2.2.2.1.ty⟩)
      obtain ⟨v, rfl, q18, hv⟩ := E18
      have iff := Cod.eqv hx.2.2.2.2.1 hy.2.2.2.2.1 hx.2.2.2.2.2 hy.2.2.2.2.2
      rcases hv with ⟨rfl, he⟩ | ⟨rfl, he⟩
      · have c19 : Steps p.tables e below (s₁.setTop (entryFrame m #[.ref x, .ref y] 3)) (T18.setTop (mkF m 55 #[.val (.ref x), .val (.ref y), .val (.ref y)] [.int 1])) := Steps.trans g18 (by
          refine XS.ifNo X18.here hexec rfl (hb hbytes d47) rfl (i0_eq_f (by decide)) ?_
          refine iconstV X18.here hexec rfl 1 (hb hbytes d50) (by decide) ?_
          refine XS.goto X18.here hexec rfl (pc0 := 51) rfl (hb hbytes d51) (by decide) rfl ?_
          exact Steps.refl _)
        exact ⟨T18, some (.int 1), _, _, _, X18, rfl, rfl, rfl, (fun h => by cases h), ⟨1, rfl, q18.trans hh16, Or.inl ⟨rfl, iff.mp he⟩⟩, fun fs hl => c19.trans (X18.ireturnOut hexec hret rfl (Or.inr (Or.inl rfl)) (hb hbytes d55) hl)⟩
      · have c19 : Steps p.tables e below (s₁.setTop (entryFrame m #[.ref x, .ref y] 3)) (T18.setTop (mkF m 55 #[.val (.ref x), .val (.ref y), .val (.ref y)] [.int 0])) := Steps.trans g18 (by
          refine XS.ifYes X18.here hexec rfl (pc0 := 47) rfl (hb hbytes d47) rfl (i0_eq_t rfl) (by decide) rfl ?_
          refine iconstV X18.here hexec rfl 0 (hb hbytes d54) (by decide) ?_
          exact Steps.refl _)
        exact ⟨T18, some (.int 0), _, _, _, X18, rfl, rfl, rfl, (fun h => by cases h), ⟨0, rfl, q18.trans hh16, Or.inr ⟨rfl, fun q => he (iff.mpr q)⟩⟩, fun fs hl => c19.trans (X18.ireturnOut hexec hret rfl (Or.inr (Or.inl rfl)) (hb hbytes d55) hl)⟩
    · have c13 : Steps p.tables e below (s₁.setTop (entryFrame m #[.ref x, .ref y] 3)) (T11.setTop (mkF m 55 #[.val (.ref x), .val (.ref y), .val (.ref y)] [.int 0])) := c12.trans (by
        refine XS.icmpYes X11.here hexec rfl (pc0 := 33) rfl (hb hbytes d33) rfl (ii_ne_t hcd) (by decide) rfl ?_
        refine iconstV X11.here hexec rfl 0 (hb hbytes d54) (by decide) ?_
        exact Steps.refl _)
      exact ⟨T11, some (.int 0), _, _, _, X11, rfl, rfl, rfl, (fun h => by cases h), ⟨0, rfl, hh11, Or.inr ⟨rfl, Cod.dif hx.2.2.2.2.1 hy.2.2.2.2.1 hcd⟩⟩, fun fs hl => c13.trans (X11.ireturnOut hexec hret rfl (Or.inr (Or.inl rfl)) (hb hbytes d55) hl)⟩
theorem pays {l : Launch} {R : Room} {p : Program} {e : Env} {below : List Frame} {s : State} {sargs : Array Value} {len W : Nat} (x t : Addr) (V : Cell) (cd : Int32) (n : Nat) (f : Nat → Int32) (y t' : Addr) (V' : Cell) (cd' : Int32) (k : Nat) (g : Nat → Int32) (z : Int32) (htab : tab.before sargs s = true) (hfr : 2 ≤ R.frames) (hlo : W + 28 ≤ R.locals) :
    Back l R p e below s sargs yN len W (fun A₁ a₁ => A₁.cells + 0 ≤ R.cells ∧ A₁.slots + 0 ≤ R.slots ∧ P x t V cd n f y t' V' cd' k g z a₁ A₁.U) (fun A₁ _ v₁ B₁ => Says01 (SameT n f k g) v₁ A₁.U B₁.U ∧ B₁.locs = A₁.locs ++ [] ∧ B₁.cells = A₁.cells + 0 ∧ B₁.slots = A₁.slots + 0) :=
  (law l x t V cd n f y t' V' cd' k g z).pays htab hfr (by omega)
end SEq
end StrChars
namespace StrChars.Road
open Jvm Sem ClassFile Op Lib Jvm.Stand Jvm.Free Jvm.Free.XT
open Jvm.Lib.Cold (StaticIs)
/-- the words of String.equals(Object) -/
abbrev wordsEq : List Jvm.Cond := [.code SEq.yN SEq.yB 3 (some .boolean), .initialized ST, .classLink ST 10 ST, .fieldLink ST 38 ST "COMPACT_STRINGS" "Z", .fieldLink ST 15 ST "coder" "B", .fieldLink ST 9 ST "value" "[B", .methodLink ST 541 LEq.yN, .static LEq.yN, .code LEq.yN LEq.yB 3 (some .boolean), .initialized "java/lang/StringLatin1"]
theorem tabEq_of {a : Array Value} {s : State} (h : ∀ w ∈ wordsEq, w.before a s = true) : SEq.tab.before a s = true := by
  have hl : LEq.tab.before a s = true := unparts (wk h (.code LEq.yN LEq.yB 3 (some .boolean))) (wks h (.initialized LEq.yN.cls :: LEq.site))
  have q := consq hl h
  exact unparts (wk q (.code SEq.yN SEq.yB 3 (some .boolean))) (wks q (.initialized SEq.yN.cls :: SEq.site))
theorem movedEq {Z s : State} {a0 args : Array Value} (hZ : Z.Warmed39 s.vm) (hw : ∀ d ∈ wordsEq, d.before a0 Z = true) : ∀ d ∈ wordsEq, d.before args s = true := fun d hd => by
  have t : ∀ d ∈ wordsEq, (d.onTables && d.keepsFace) = true := by decide +kernel
  exact RoadKit.mv hZ (hw d hd) (t d hd)
/-- the road's facts of a String, as the laws ask it -/
theorem txt_of {Z U : State} {a0 : Array Value} {kI : Nat} (wi : (Jvm.Cond.instantiable ST kI).before a0 Z = true) (al : Z.vm.Alike U.vm) {x t : Addr} {kb : ClassId} {cs : List Int32} {cd N2 : Int32} {vs : List Value} (E : RoadKit.Exa Z U.heap x ST) (V : RoadKit.Fld Z U.heap x ST "value" "[B" (.ref t)) (C : RoadKit.Fld Z U.heap x ST "coder" "B" (.int cd)) (K : RoadKit.Arv Z U.heap t kb .byte N2 vs (.int 0)) (hc : CodA cs cd N2 vs) (hb : ∀ c ∈ cs, ¬ c < 0 ∧ ¬ (65535 : Int32) < c) (l2 : cs.length ≤ 4000) :
    ∃ A, Txt x t A cd cs.length (fun j => cs.getD j 0) U := by
  obtain ⟨A, K1, K2, K3, K4, K5, K6⟩ := K
  have hcod := hc.cod (by omega) K3 K5
  obtain ⟨D, fV, fC, hB, F1, F2, g1, g2, -, -⟩ := strObj wi al E V C
  exact ⟨A, ⟨_, hB.2.2.1, D, hB.1, rfl, by cases q : D.vm <;> first | rfl | exact absurd q (hB.2.1.2 _)⟩, Has.of hB F1 g1, Has.of hB F2 g2, ⟨K1.1, State.isArrayOf_alike al K1.2.1, K1.2.2, by rcases hcod with ⟨-, q, -⟩ | ⟨-, q, -⟩ <;> omega⟩, hcod, fun j hj => by
    have e : cs.getD j 0 = cs[j] := by simp [List.getD_eq_getElem?_getD, hj]
    show ¬ cs.getD j 0 < 0 ∧ ¬ 65535 < cs.getD j 0
    rw [e]; exact hb _ (List.getElem_mem _)⟩
theorem same_list (cs ds : List Int32) : SameT cs.length (fun j => cs.getD j 0) ds.length (fun j => ds.getD j 0) ↔ cs = ds := by
  constructor
  · rintro ⟨e, q⟩
    refine List.ext_getElem e fun j h1 h2 => ?_
    have := q j h1
    simpa [List.getD_eq_getElem?_getD, h1, h2] using this
  · rintro rfl
    exact ⟨rfl, fun _ _ => rfl⟩
/-- **equals(Object) OF TWO SUCH STRINGS**: 1 just where the chars are the same -/
theorem eqW {p : Program} {l : Launch} {e : Env} {R : Room} {s : State} {args : Array Value} {below : List Frame} {len W : Nat} {Z : State} {a0 : Array Value} {h : Heap} (hZ : Z.Warmed39 s.vm) (hw : ∀ d ∈ wordsEq, d.before a0 Z = true) {kI : Nat} (wi : (Jvm.Cond.instantiable ST kI).before a0 Z = true)
    {x t : Addr} {kb : ClassId} {cs : List Int32} {cd N2 : Int32} {vs : List Value} (E : RoadKit.Exa Z h x ST) (V : RoadKit.Fld Z h x ST "value" "[B" (.ref t)) (C : RoadKit.Fld Z h x ST "coder" "B" (.int cd)) (K : RoadKit.Arv Z h t kb .byte N2 vs (.int 0)) (hc : CodA cs cd N2 vs) (hb : ∀ c ∈ cs, ¬ c < 0 ∧ ¬ (65535 : Int32) < c) (l2 : cs.length ≤ 4000)
    {y t' : Addr} {kb' : ClassId} {ds : List Int32} {cd' N2' : Int32} {vs' : List Value} (E' : RoadKit.Exa Z h y ST) (V' : RoadKit.Fld Z h y ST "value" "[B" (.ref t')) (C' : RoadKit.Fld Z h y ST "coder" "B" (.int cd')) (K' : RoadKit.Arv Z h t' kb' .byte N2' vs' (.int 0)) (hc' : CodA ds cd' N2' vs') (hb' : ∀ c ∈ ds, ¬ c < 0 ∧ ¬ (65535 : Int32) < c) (l2' : ds.length ≤ 4000)
    {z : Int32} (S : RoadKit.Sta Z h ST "COMPACT_STRINGS" "Z" (.int z)) (hz : ¬ z = 0) (hfr : 2 ≤ R.frames) (hlo : W + 28 ≤ R.locals) :
    Back l R p e below s args (⟨"java/lang/String", "equals", "(Ljava/lang/Object;)Z"⟩ : MethodName) len W (fun P a => a = #[.ref x, .ref y] ∧ P.U.heap = h ∧ P.cells + 0 ≤ R.cells ∧ P.slots + 0 ≤ R.slots)
      (fun P _ v B => ∃ L, (((v = some (.int 1) ∧ cs = ds) ∨ (v = some (.int 0) ∧ ¬ cs = ds)) ∧ L = [] ∧ B.U.heap = h) ∧ B.locs = P.locs ++ L ∧ B.cells = P.cells + 0 ∧ B.slots = P.slots + 0) := by
  intro m meth c P g ig mk a X hg hsize hdg hW hn hp'
  obtain ⟨rfl, rfl, r1, r2⟩ := hp'
  have al : Z.vm.Alike P.U.vm := hZ.alike.trans X.warmed.alike
  obtain ⟨A, hx⟩ := txt_of wi al E V C K hc hb l2
  obtain ⟨A', hy⟩ := txt_of wi al E' V' C' K' hc' hb' l2'
  obtain ⟨v, B, X', ⟨⟨w, hv, hh, hq⟩, hl, hk, hs⟩, st⟩ := SEq.pays x t A cd cs.length (fun j => cs.getD j 0) y t' A' cd' ds.length (fun j => ds.getD j 0) z (tabEq_of (movedEq hZ hw)) hfr hlo m meth c P g ig mk _ X hg hsize hdg hW hn ⟨r1, r2, rfl, hx, hy, sta_is al S, hz⟩
  refine ⟨v, B, X', ⟨[], ⟨?_, rfl, hh⟩, hl, hk, hs⟩, st⟩
  rcases hq with ⟨rfl, q⟩ | ⟨rfl, q⟩
  · exact Or.inl ⟨hv, (same_list cs ds).mp q⟩
  · exact Or.inr ⟨hv, fun e => q ((same_list cs ds).mpr e)⟩
end StrChars.Road
namespace StrChars.Road
open Jvm Sem ClassFile Op Lib Jvm.Stand Jvm.Free Jvm.Free.XT
open Jvm.Lib.Cold (StaticIs)
/-- what backV says of its String, as the contracts of this text ask it: cs's low bytes, coder 0 -/
theorem codOf {cs : List Int32} {n : Nat} (hn : cs.length = n) (hb : ∀ c ∈ cs, ¬ 255 < c) : CodA cs 0 (Int32.ofNat n) ((cs.map lo8).map Value.int) := Or.inl ⟨rfl, by rw [hn], by simp [List.map_map, Function.comp_def], hb⟩
end StrChars.Road
end Jvm.Pilot.@@N@@
namespace Jvm.Pilot.@@N@@
open Jvm Jvm.ClassFile Sem Op Lib Jvm.Free Jvm.Stand Jvm.LawKit Jvm.RoadKit Bundle Jvm.Pilot.@@N@@.Jvm.D
theorem own_w {Z : State} {a0 : Array Value} (hw : ∀ d ∈ tables_1, d.before a0 Z = true) (i : Nat) {d : Jvm.Cond} (h : tables_1[i]? = some d) : d.before a0 Z = true := hw d (List.mem_of_getElem? h)
/-- the run goes on from here to an end at which K holds -/
def own_Go (p : Program) (e : Env) (below : List Frame) (T : State) (g : JFrame) (K : State → Outcome → Prop) : Prop := ∃ s₂ o, Steps p.tables e below (T.setTop g) s₂ ∧ K s₂ o
section OwnGo
variable {p : Program} {l : Launch} {e : Env} {R : Room} {s : State} {m : MethodId} {args : Array Value} {below : List Frame} {meth : Method} {c : Code} {T T' s₂ : State} {o : Outcome} {locs : List Loc} {cells slots : Nat} {g g' : JFrame} {K : State → Outcome → Prop}
theorem own_loop {F : Int32 → JFrame} {I : Nat → Int32 → Prop} {k0 : Nat} {i0 : Int32} (h0 : I k0 i0) (step : ∀ k i, I k i → (∀ k' i', k' < k → I k' i' → own_Go p e below T (F i') K) → own_Go p e below T (F i) K) : own_Go p e below T (F i0) K := by
  induction k0 using Nat.strongRecOn generalizing i0 with
  | ind k ih => exact step k i0 h0 fun k' i' hk' h' => ih k' hk' h'
theorem own_hold (h : ∀ KK : State → Outcome → Prop, (∀ a b, K a b → KK a b) → own_Go p e below T g KK) : own_Go p e below T g K := h K fun _ _ q => q
theorem own_enter (q : g = g') (k : own_Go p e below T g' K) : ∃ s₂ o, Steps p.tables e below (T.setTop g) s₂ ∧ K s₂ o := by subst q; exact k
theorem own_st (h : ∀ t, Steps p.tables e below (T'.setTop g') t → Steps p.tables e below (T.setTop g) t) (k : own_Go p e below T' g' K) : own_Go p e below T g K := by
  obtain ⟨s2, o, h1, h2⟩ := k
  exact ⟨s2, o, h _ h1, h2⟩
theorem own_tr (h : Steps p.tables e below (T.setTop g) (T'.setTop g')) (k : own_Go p e below T' g' K) : own_Go p e below T g K := own_st (fun _ q => h.trans q) k
theorem own_fin (h : Steps p.tables e below (T.setTop g) s₂) (k : K s₂ o) : own_Go p e below T g K := ⟨s₂, o, h, k⟩
theorem own_setA {A B : List Value} {d v : Value} : (A ++ d :: B).set A.length v = (A ++ [v]) ++ B := by simp
theorem own_cst {Z : State} {h hA : Heap} {n0 : Nat} {b : Addr} {kk : ClassId} {z : Int32} {ps : List Int32} {dv : Value} {r i : Nat} {j w : Int32} (X : Stand p l e R s m args below meth c T locs cells slots) (hx : p.tables.exec = Jvm.exec) (hZ : Z.Warmed39 s.vm) (eT : T.heap = h) (V : Arv Z h b kk .char z (ps.reverse.map Value.int ++ List.replicate (r + 1) dv) dv) (hl : ps.length = i) (hj : j.toNatClampNeg = i) (hin : ¬ j < 0 ∧ j < z) (hv : nar .char w = w) (N : Fr n0 locs) (Kb : Keep hA h [b]) (G : n0 ≤ b) {pc : Nat} {Ls : Array Slot} {rest : List Value} (hd : decode c.code pc = .ok (.castore, 1))
    (k : ∀ (T' : State) (h' : Heap) (L' : List Loc) (ps' : List Int32), Stand p l e R s m args below meth c T' L' cells slots → T'.heap = h' → ps' = w :: ps → ps'.length = i + 1 → Arv Z h' b kk .char z (ps'.reverse.map Value.int ++ List.replicate r dv) dv → Fr n0 L' → Keep hA h' [b] → own_Go p e below T' (mkF m (pc + 1) Ls rest) K) : own_Go p e below T (mkF m pc Ls (.int w :: .int j :: .ref b :: rest)) K := by
  obtain ⟨cl, Ar, q, Sz, Nn, Hh, Gg⟩ := id V
  obtain ⟨T', h', X', e', W', st'⟩ := stC X hx hZ eT Ar (j := j) (inb_of Sz hin) (g := mkF m pc Ls (.int w :: .int j :: .ref b :: rest)) rfl rfl hd
  have hlen : (ps.reverse.map Value.int).length = i := by rw [List.length_map, List.length_reverse]; exact hl
  have V' := Arv.set Ar q Sz Nn Hh Gg (fits_nar_char _) W' i hj (by rw [List.length_append, hlen, List.length_replicate]; omega)
  rw [hv, List.replicate_succ, ← hlen, own_setA] at V'
  have V2 : Arv Z h' b kk .char z ((w :: ps).reverse.map Value.int ++ List.replicate r dv) dv := by rw [List.reverse_cons, List.map_append]; exact V'
  exact own_st st' (k T' h' _ _ X' e' rfl (by rw [List.length_cons, hl]) V2 (Fr.snoc X' N G) (Kb.wr W' (Or.inl (List.mem_of_getElem? (i := 0) rfl))))
theorem own_retI (X : Stand p l e R s m args below meth c T locs cells slots) (hx : p.tables.exec = Jvm.exec) {pc : Nat} {Ls : Array Slot} {z : Int32} {rest : List Value} (hret : meth.sig.returnType = some .int) (hd : decode c.code pc = .ok (.ireturn, 1)) {fs : List Frame}
    (hl : ∀ (f : JFrame) (acts : List Action), f.method = m → f.locked = none → f.entered = [] → (doReturn e (T.setTop f) acts (some (.int z))).1 = T.setFrames fs) : Steps p.tables e below (T.setTop (mkF m pc Ls (.int z :: rest))) (T.setFrames fs) := by
  have hm' : T.vm.method? m = some meth := X.method'
  have hn : narrow .int (.int z) = .int z := rfl
  show Steps p.tables e below (T.setTop { method := m, pc := pc, locals := Ls, stack := _ :: rest, locked := none }) _
  jvm_step X.here [X.here.top, hx, hd, hm', hret, hn]
  first | (intro acts; rw [hl _ acts rfl rfl rfl]) | rw [hl _ _ rfl rfl rfl]
  exact Steps.refl _
theorem own_retD (X : Stand p l e R s m args below meth c T locs cells slots) (hx : p.tables.exec = Jvm.exec) {pc : Nat} {Ls : Array Slot} {z : UInt64} {rest : List Value} (hret : meth.sig.returnType = some .double) (hd : decode c.code pc = .ok (.dreturn, 1)) {fs : List Frame}
    (hl : ∀ (f : JFrame) (acts : List Action), f.method = m → f.locked = none → f.entered = [] → (doReturn e (T.setTop f) acts (some (.double z))).1 = T.setFrames fs) : Steps p.tables e below (T.setTop (mkF m pc Ls (.double z :: rest))) (T.setFrames fs) := by
  have hm' : T.vm.method? m = some meth := X.method'
  have hn : narrow .double (.double z) = .double z := rfl
  show Steps p.tables e below (T.setTop { method := m, pc := pc, locals := Ls, stack := _ :: rest, locked := none }) _
  jvm_step X.here [X.here.top, hx, hd, hm', hret, hn]
  first | (intro acts; rw [hl _ acts rfl rfl rfl]) | rw [hl _ _ rfl rfl rfl]
  exact Steps.refl _
theorem own_retL (X : Stand p l e R s m args below meth c T locs cells slots) (hx : p.tables.exec = Jvm.exec) {pc : Nat} {Ls : Array Slot} {z : Int64} {rest : List Value} (hret : meth.sig.returnType = some .long) (hd : decode c.code pc = .ok (.lreturn, 1)) {fs : List Frame}
    (hl : ∀ (f : JFrame) (acts : List Action), f.method = m → f.locked = none → f.entered = [] → (doReturn e (T.setTop f) acts (some (.long z))).1 = T.setFrames fs) : Steps p.tables e below (T.setTop (mkF m pc Ls (.long z :: rest))) (T.setFrames fs) := by
  have hm' : T.vm.method? m = some meth := X.method'
  have hn : narrow .long (.long z) = .long z := rfl
  show Steps p.tables e below (T.setTop { method := m, pc := pc, locals := Ls, stack := _ :: rest, locked := none }) _
  jvm_step X.here [X.here.top, hx, hd, hm', hret, hn]
  first | (intro acts; rw [hl _ acts rfl rfl rfl]) | rw [hl _ _ rfl rfl rfl]
  exact Steps.refl _
theorem own_retR (X : Stand p l e R s m args below meth c T locs cells slots) (hx : p.tables.exec = Jvm.exec) {pc : Nat} {Ls : Array Slot} {z : Value} {t : FieldType} {rest : List Value} (hz : z.isRef = true) (hret : meth.sig.returnType = some t) (ht : t.isReference = true) (hd : decode c.code pc = .ok (.areturn, 1)) {fs : List Frame}
    (hl : ∀ (f : JFrame) (acts : List Action), f.method = m → f.locked = none → f.entered = [] → (doReturn e (T.setTop f) acts (some z)).1 = T.setFrames fs) : Steps p.tables e below (T.setTop (mkF m pc Ls (z :: rest))) (T.setFrames fs) := by
  have hm' : T.vm.method? m = some meth := X.method'
  show Steps p.tables e below (T.setTop { method := m, pc := pc, locals := Ls, stack := _ :: rest, locked := none }) _
  jvm_step X.here [X.here.top, hx, hd, hm', hret, hz, ht]
  first | (intro acts; rw [hl _ acts rfl rfl rfl]) | rw [hl _ _ rfl rfl rfl]
  exact Steps.refl _
end OwnGo
theorem own_up (cs : List Int32) (h : ∀ c ∈ cs, ¬ c < 0 ∧ ¬ (255 : Int32) < c) : ∀ c ∈ cs, ¬ c < 0 ∧ ¬ (65535 : Int32) < c := fun c hc => ⟨(h c hc).1, fun q => (h c hc).2 (by rw [Int32.lt_iff_toInt_lt] at q ⊢; have e1 : (65535 : Int32).toInt = 65535 := rfl; have e2 : (255 : Int32).toInt = 255 := rfl; omega)⟩
theorem own_c255 (x : Int32) (h0 : 0 ≤ x.toInt) (h1 : x.toInt ≤ 255) : nar .char (x.toUInt32.toUInt16.toUInt32.toInt32) = x := by
  have e : x.toUInt32.toUInt16.toUInt32.toInt32 = x := by
    have h := c_i2c x
    apply Int32.toInt_inj.mp
    omega
  show (x.toUInt32.toUInt16.toUInt32.toInt32).toUInt32.toUInt16.toUInt32.toInt32 = x
  rw [e, e]
theorem own_in255 (x : Int32) (h0 : 0 ≤ x.toInt) (h1 : x.toInt ≤ 255) : ¬ x < 0 ∧ ¬ (255 : Int32) < x := by
  constructor
  · rw [Int32.lt_iff_toInt_lt]; have : (0 : Int32).toInt = 0 := rfl; omega
  · rw [Int32.lt_iff_toInt_lt]; have : (255 : Int32).toInt = 255 := rfl; omega
theorem own_m255 (x : Int32) : 0 ≤ (x &&& (255 : Int32)).toInt ∧ (x &&& (255 : Int32)).toInt ≤ 255 := by
  have h := c_and x 255 (by decide)
  exact h
theorem own_narc (x : Int32) : nar .char ((x &&& (255 : Int32)).toUInt32.toUInt16.toUInt32.toInt32) = x &&& (255 : Int32) := own_c255 _ (own_m255 x).1 (own_m255 x).2
theorem own_decl {Z : State} {a0 : Array Value} {y : MethodName} {bytes : ByteArray} {maxL : Nat} {ret : Option FieldType} (hi : (Cond.instanceMethod y).before a0 Z = true) (hc : (Cond.code y bytes maxL ret).before a0 Z = true) : (Cond.declares y).before a0 Z = true := by
  obtain ⟨mk, methM, hnamed, hmethM, hstM, habM⟩ := Cond.instanceMethod_spec hi
  obtain ⟨m2, cM, q1, -, -, -, -, -, -, hsig⟩ := Cond.code_spec hnamed hc
  cases hmethM.symm.trans q1
  simp [Cond.before, Cond.holds, Cond.value, hnamed, hmethM, hstM, hsig]
theorem own_same {Z : State} {a0 : Array Value} {C : String} {y y' : MethodName} (hd : (Cond.declares y).before a0 Z = true) (hs : (Cond.selects C y' y').before a0 Z = true) (hc : y'.cls = y.cls) (hx : y.cls ≠ "java/lang/invoke/MethodHandle" ∧ y.cls ≠ "java/lang/invoke/VarHandle") : (Cond.sameMethod y.cls y.cls y.name y.desc).before a0 Z = true := by
  obtain ⟨r0, r, hn, -⟩ := Cond.declares_spec hd
  obtain ⟨c2, r2, m2, q1, q2, q3, q4, kP, hkP, hkPi⟩ := Cond.selects_spec hs
  have hf := State.methodFound?_of_named hn hx
  have h1 := findClass_of_methodNamed hn
  have h2 := findClass_of_methodNamed q3
  rw [hc, h1] at h2
  have h3 : r0.cls = m2.cls := Option.some.inj h2
  rw [← h3] at hkP
  have hn' : Z.methodNamed? ⟨y.cls, y.name, y.desc⟩ = some r0 := hn
  simp [Cond.before, Cond.holds, Cond.value, h1, hf, hn', hkP, hkPi]
theorem own_nf {s : State} {a0 : Array Value} {C : String} {y y' : MethodName} (hs : (Cond.selects C y' y').before a0 s = true) (hc : y'.cls = y.cls) : NotFace s y := fun r0 h0 => by
  obtain ⟨c2, r2, m2, q1, q2, q3, q4, kP, hkP, hkPi⟩ := Cond.selects_spec hs
  have h1 := findClass_of_methodNamed h0
  have h2 := findClass_of_methodNamed q3
  rw [hc, h1] at h2
  have h3 : r0.cls = m2.cls := Option.some.inj h2
  exact ⟨kP, by rw [h3]; exact hkP, hkPi⟩
theorem own_shr0 (z : Int32) : z >>> ((0 : Int32) &&& 31) = z := by
  have h := c_ishr z 0 0 (by decide)
  apply Int32.toInt_inj.mp
  rw [h]
  show z.toInt / (1 : Int) = _
  omega
theorem own_shl0 (z : Int32) : z <<< ((0 : Int32) &&& 31) = z := by
  have h := c_ishl z 0 0 (by decide)
  have h1 := rng32 (z <<< ((0 : Int32) &&& 31))
  have h2 := rng32 z
  apply Int32.toInt_inj.mp
  rw [show ((2 ^ 0 : Nat) : Int) = 1 from rfl] at h
  omega
theorem own_sub0 (z : Int32) : z - (0 : Int32) = z := by
  have h := c_isub z 0
  have h1 := rng32 (z - 0)
  have h2 := rng32 z
  rw [show (0 : Int32).toInt = 0 from rfl] at h
  apply Int32.toInt_inj.mp
  omega
theorem own_clamp {z : Int32} {n : Nat} (h : z.toInt = (n : Int)) : z.toNatClampNeg = n := by simp only [Int32.toNatClampNeg]; omega
theorem own_nonneg {z : Int32} {n : Nat} (h : z.toInt = (n : Int)) : ¬ z < 0 := by rw [Int32.lt_iff_toInt_lt, show (0 : Int32).toInt = 0 from rfl]; omega
theorem own_range {us tl : List Value} {d : Value} {n : Int32} (h : n.toInt = (us.length : Int)) : us = (List.range n.toNatClampNeg).map fun i => (us ++ tl).getD ((0 : Int32).toNatClampNeg + i) d := by
  rw [own_clamp h]
  apply List.ext_getElem
  · simp
  · intro i h1 h2
    simp only [List.getElem_map, List.getElem_range]
    rw [show (0 : Int32).toNatClampNeg + i = i from Nat.zero_add i, List.getD_eq_getElem?_getD, List.getElem?_append_left h1, List.getElem?_eq_getElem h1]
    rfl
theorem own_cp {bs rest us : List Value} {k n : Int32} (hk : k.toInt = (bs.length : Int)) (hn : n.toInt = (us.length : Int)) : (bs ++ rest).take k.toNatClampNeg ++ us ++ (bs ++ rest).drop (k.toNatClampNeg + n.toNatClampNeg) = (bs ++ us) ++ rest.drop us.length := by
  rw [own_clamp hk, own_clamp hn, List.take_left, ← List.drop_drop, List.drop_left]
theorem own_cp0 {us zs : List Value} {n : Int32} (hn : n.toInt = (us.length : Int)) (hz : zs.length = us.length) : zs.take (0 : Int32).toNatClampNeg ++ us ++ zs.drop ((0 : Int32).toNatClampNeg + n.toNatClampNeg) = us := by
  rw [own_clamp hn, show (0 : Int32).toNatClampNeg = 0 from rfl, Nat.zero_add, ← hz, List.drop_length]
  simp
theorem own_addI {a b : Int32} {x y : Nat} (ha : a.toInt = (x : Int)) (hb : b.toInt = (y : Int)) (h : x + y ≤ 1000000) : (a + b).toInt = ((x + y : Nat) : Int) := by
  have h1 := c_iadd a b
  have h2 := rng32 (a + b)
  omega
theorem own_subNP {a b : Int32} (h0 : 0 ≤ a.toInt) (h1 : 0 ≤ b.toInt) (h : a.toInt ≤ b.toInt) : ¬ ((0 : Int32) < a - b) := by
  have h2 := c_isub a b
  have h3 := rng32 (a - b)
  have h4 := rng32 a
  have h5 := rng32 b
  rw [Int32.lt_iff_toInt_lt, show (0 : Int32).toInt = 0 from rfl]
  omega
def own_EL : List (String × Nat) := [("com/example/goldweave/goldweave/server/cli/LoadSummary", 60), ("com/example/goldweave/goldweave/server/cli/LoadSummary", 69), ("com/example/goldweave/goldweave/server/cli/LoadSummary", 71), ("com/example/goldweave/goldweave/server/cli/LoadSummary", 73), ("com/example/goldweave/goldweave/server/cli/LoadSummary", 75), ("com/example/goldweave/goldweave/server/cli/LoadSummary", 77), ("com/example/goldweave/goldweave/server/cli/LoadSummary", 79), ("com/example/goldweave/goldweave/server/cli/LoadSummary", 81), ("com/example/goldweave/goldweave/server/cli/LoadSummaryRejectPinLaw", 37)]
theorem own_EW {Z : State} {a0 : Array Value} (hw : ∀ d ∈ tables_1, d.before a0 Z = true) : EW Z a0 own_EL := EW.cons (text := "records=") (hw _ (List.mem_of_getElem? (i := 101) rfl)) (by decide) (EW.cons (text := " new=") (hw _ (List.mem_of_getElem? (i := 177) rfl)) (by decide) (EW.cons (text := " updated=") (hw _ (List.mem_of_getElem? (i := 178) rfl)) (by decide) (EW.cons (text := " unchanged=") (hw _ (List.mem_of_getElem? (i := 201) rfl)) (by decide) (EW.cons (text := " rejected=") (hw _ (List.mem_of_getElem? (i := 204) rfl)) (by decide) (EW.cons (text := " linked=") (hw _ (List.mem_of_getElem? (i := 207) rfl)) (by decide) (EW.cons (text := " new_masters=") (hw _ (List.mem_of_getElem? (i := 208) rfl)) (by decide) (EW.cons (text := " candidates=") (hw _ (List.mem_of_getElem? (i := 211) rfl)) (by decide) (EW.cons (text := "id") (hw _ (List.mem_of_getElem? (i := 24) rfl)) (by decide) (EW.nil)))))))))
theorem own_wS {Z : State} {a0 : Array Value} (hw : ∀ d ∈ tables_1, d.before a0 Z = true) : ∀ a ∈ Bundle.stringAtoms, a.before a0 Z = true := fun d hd => hw d ((by decide +kernel : ∀ d ∈ Bundle.stringAtoms, d ∈ tables_1) d hd)
def own_P (cs : List Int32) : Prop := ∀ c ∈ cs, ¬ c < 0 ∧ ¬ (255 : Int32) < c
theorem own_i255 {x : Int32} (h0 : 0 ≤ x.toInt) (h1 : x.toInt ≤ 255) : x.toUInt32.toUInt16.toUInt32.toInt32 = x := by
  have h := c_i2c x
  apply Int32.toInt_inj.mp
  omega
theorem own_nar {x : Int32} (h : ¬ x < 0 ∧ ¬ (255 : Int32) < x) : nar .char x = x := by
  rw [Int32.lt_iff_toInt_lt, Int32.lt_iff_toInt_lt, show (0 : Int32).toInt = 0 from rfl, show (255 : Int32).toInt = 255 from rfl] at h
  exact own_i255 (by omega) (by omega)
theorem own_ofNat {n : Nat} (h : n ≤ 1000000) : (Int32.ofNat n).toInt = (n : Int) := Int32.toInt_ofNat_of_lt (by omega)
theorem own_eqOf {j : Int32} {n : Nat} (h : j.toInt = (n : Int)) (hn : n ≤ 1000000) : j = Int32.ofNat n := Int32.toInt_inj.mp (by rw [own_ofNat hn]; exact h)
theorem own_mem {a : List Int32} {i : Nat} (h : i < a.length) (hp : own_P a) : ¬ (a.getD i 0) < 0 ∧ ¬ (255 : Int32) < a.getD i 0 := by
  rw [List.getD_eq_getElem?_getD, List.getElem?_eq_getElem h]
  exact hp _ (List.getElem_mem h)
def own_all (c0 c1 c2 c3 c4 c5 c6 c7 : Int32) : List Int32 := ([114, 101, 99, 111, 114, 100, 115, 61] : List Int32) ++ ([c0] ++ (([32, 110, 101, 119, 61] : List Int32) ++ ([c1] ++ (([32, 117, 112, 100, 97, 116, 101, 100, 61] : List Int32) ++ ([c2] ++ (([32, 117, 110, 99, 104, 97, 110, 103, 101, 100, 61] : List Int32) ++ ([c3] ++ (([32, 114, 101, 106, 101, 99, 116, 101, 100, 61] : List Int32) ++ ([c4] ++ (([32, 108, 105, 110, 107, 101, 100, 61] : List Int32) ++ ([c5] ++ (([32, 110, 101, 119, 95, 109, 97, 115, 116, 101, 114, 115, 61] : List Int32) ++ ([c6] ++ (([32, 99, 97, 110, 100, 105, 100, 97, 116, 101, 115, 61] : List Int32) ++ ([c7])))))))))))))))
theorem own_lenA (c0 c1 c2 c3 c4 c5 c6 c7 : Int32) : (own_all c0 c1 c2 c3 c4 c5 c6 c7).length = 84 := rfl
theorem own_d255 {d : Nat} (h : d ≤ 9) : ¬ (Int32.ofNat (48 + d)) < 0 ∧ ¬ (255 : Int32) < (Int32.ofNat (48 + d)) := by
  have e : (Int32.ofNat (48 + d)).toInt = ((48 + d : Nat) : Int) := own_ofNat (by omega)
  exact own_in255 _ (by omega) (by omega)
theorem own_allP {c0 c1 c2 c3 c4 c5 c6 c7 : Int32} (h0 : own_P [c0]) (h1 : own_P [c1]) (h2 : own_P [c2]) (h3 : own_P [c3]) (h4 : own_P [c4]) (h5 : own_P [c5]) (h6 : own_P [c6]) (h7 : own_P [c7]) : own_P (own_all c0 c1 c2 c3 c4 c5 c6 c7) := by
  unfold own_all
  have lit : ∀ {l : List Int32}, (l.all fun c => decide (¬ c < 0 ∧ ¬ (255 : Int32) < c)) = true → own_P l := fun h c hc => of_decide_eq_true (List.all_eq_true.mp h c hc)
  have app : ∀ {a b : List Int32}, own_P a → own_P b → own_P (a ++ b) := fun ha hb c hc => (List.mem_append.mp hc).elim (ha c) (hb c)
  exact app (lit (by decide)) (app h0 (app (lit (by decide)) (app h1 (app (lit (by decide)) (app h2 (app (lit (by decide)) (app h3 (app (lit (by decide)) (app h4 (app (lit (by decide)) (app h5 (app (lit (by decide)) (app h6 (app (lit (by decide)) h7))))))))))))))
theorem own_one {c : Int32} (h : ¬ c < 0 ∧ ¬ (255 : Int32) < c) : own_P [c] := fun x hx => by
  simp only [List.mem_cons, List.not_mem_nil, or_false] at hx
  subst hx
  exact h
abbrev own_y0 : MethodName := ⟨"java/lang/String", "coder", "()B"⟩
abbrev own_c17 : ByteArray := jdk_42_method_152_code
theorem d17_0 : decode own_c17 0 = .ok (.getstatic 38, 3) := by decide +kernel
theorem d17_3 : decode own_c17 3 = .ok (.ifCond .eq 10, 3) := by decide +kernel
theorem d17_6 : decode own_c17 6 = .ok (.aload_n 0, 1) := by decide +kernel
theorem d17_7 : decode own_c17 7 = .ok (.getfield 15, 3) := by decide +kernel
theorem d17_10 : decode own_c17 10 = .ok (.goto 4, 3) := by decide +kernel
theorem d17_14 : decode own_c17 14 = .ok (.ireturn, 1) := by decide +kernel
theorem pn_17 : plainName "java/lang/String" = true := by first | (simp [plainName, overriddenIn]; done) | decide +kernel
theorem ef_rmCo (m : MethodId) (x0 : Addr) : entryFrame m #[(.ref x0)] 1 = mkF m 0 #[.val (.ref x0)] [] := by first | (simp [entryFrame, mkF, argsToLocals, Value.category]; done) | rfl
def Q_rmCo (Z : State) (x : Addr) (zc : Int32) (h0 : Heap) (n0 : Nat) (v : Option Value) (h : Heap) (L : List Loc) : Prop := v = some (.int (0 : Int32)) ∧ Fr n0 L ∧ h = h0
set_option maxRecDepth 65536 in
set_option maxHeartbeats 40000000 in
theorem rmCo (l : Launch) (Z : State) (a0 : Array Value) (hw : ∀ d ∈ tables_1, d.before a0 Z = true) (ws : List Jvm.Cond) (x : Addr) (zc : Int32) (h0 : Heap) (n0 : Nat) (Z0 : n0 ≤ h0.size) (pE_x : Exa Z h0 x "java/lang/String") (pF_coder_x : Fld Z h0 x "java/lang/String" "coder" "B" (.int (0 : Int32))) (pS_COMPACT_STRINGS : Sta Z Z.heap "java/lang/String" "COMPACT_STRINGS" "Z" (.int zc)) (pP5 : (¬ (zc = (0 : Int32)))) (pO : Old Z n0 h0) :
    MetFree l own_y0 (head1 (Jvm.Cond.code own_y0 jdk_42_method_152_code 1 (some .byte) :: ws) ({ frames := 0, cells := 0, slots := 0, locals := 0 } : Room)) (fun a U => a = #[(.ref x)] ∧ Z.Warmed39 U.vm ∧ U.heap = h0) (fun _ _ _ _ _ => True) (fun _ U o U' => ∃ v L, o = .returned v ∧ Q_rmCo Z x zc h0 n0 v U'.heap L ∧ FrameEnd U o U' L ({ frames := 0, cells := 0, slots := 0, locals := 0 } : Room).cells ({ frames := 0, cells := 0, slots := 0, locals := 0 } : Room).slots) := by
  refine MetFree.of_bodySF (plainFor_of_name pn_17) hisR ?_
  intro p e s m args below meth c s₁ Bd hml0 hP hK
  obtain ⟨rfl, hZ, hh⟩ := hP
  have hx := Bd.exec
  have hby := Bd.bytes
  have hml : c.maxLocals = 1 := hml0
  have hown : s.vm.findClass "java/lang/String" = some m.cls := findClass_of_methodNamed Bd.named
  have hnm := (name_of_methodNamed Bd.named Bd.method).1
  have X0 : Stand p l e ({ frames := 0, cells := 0, slots := 0, locals := 0 } : Room) s m #[(.ref x)] below meth c s₁ [] 0 0 := Stand.of_body Bd
  have e0 : s₁.heap = h0 := by rw [← hh, Bd.state]; rfl
  have N0 := Fr.nil n0
  refine own_enter (ef_rmCo m x) ?_
  obtain ⟨T1, X1, e1, st1⟩ := getS2 X0 hx hZ hown (host := "") (Or.inl (own_w hw 123 rfl)) Via.refl e0 (pS_COMPACT_STRINGS.ext pO.2) (g := (mkF m 0 #[.val (.ref x)] [])) rfl (hb hby d17_0)
  refine own_st st1 ?_
  refine own_st (fun t_ k_ => XS.ifNo X1.here hx rfl (hb hby d17_3) rfl ((if0 _ _).trans (feq pP5).1) (XS.aloadN X1.here hx rfl (hb hby d17_6) rfl rfl k_)) ?_
  obtain ⟨T2, X2, e2, st2⟩ := getF X1 hx hZ hown (host := "") (Or.inl (own_w hw 124 rfl)) Via.refl e1 pF_coder_x (g := (mkF m 7 #[.val (.ref x)] [(.ref x)])) rfl rfl (hb hby d17_7)
  refine own_st st2 ?_
  refine own_st (fun t_ k_ => XS.goto X2.here hx rfl (pc0 := 10) (pc' := 14) rfl (hb hby d17_10) (by decide) (by decide) k_) ?_
  obtain ⟨fs, hr, hrun, hended, hW, hsame⟩ := X2.leave (v := some (.int (0 : Int32))) (fun h => by rw [Bd.returns] at h; cases h)
  refine own_fin (retN X2 hx (t := .byte) Bd.returns (by simp) (hb hby d17_14) hr) ⟨hrun, hended, _, _, rfl, ?_, ⟨_, rfl⟩, hW, hsame.mono (by decide) (by decide)⟩
  show Q_rmCo Z x zc h0 n0 _ T2.heap _
  rw [e2]
  exact ⟨rfl, N0, rfl⟩
abbrev own_y1 : MethodName := ⟨"java/lang/String", "length", "()I"⟩
abbrev own_c16 : ByteArray := jdk_42_method_54_code
theorem d16_0 : decode own_c16 0 = .ok (.aload_n 0, 1) := by decide +kernel
theorem d16_1 : decode own_c16 1 = .ok (.getfield 9, 3) := by decide +kernel
theorem d16_4 : decode own_c16 4 = .ok (.arraylength, 1) := by decide +kernel
theorem d16_5 : decode own_c16 5 = .ok (.aload_n 0, 1) := by decide +kernel
theorem d16_6 : decode own_c16 6 = .ok (.invokevirtual 335, 3) := by decide +kernel
theorem d16_9 : decode own_c16 9 = .ok (.ishr, 1) := by decide +kernel
theorem d16_10 : decode own_c16 10 = .ok (.ireturn, 1) := by decide +kernel
theorem pn_16 : plainName "java/lang/String" = true := by first | (simp [plainName, overriddenIn]; done) | decide +kernel
theorem pd___B : parseMethodDescriptor "()B" = some ⟨[], some .byte⟩ := by decide +kernel
theorem ef_rmLe (m : MethodId) (x0 : Addr) : entryFrame m #[(.ref x0)] 1 = mkF m 0 #[.val (.ref x0)] [] := by first | (simp [entryFrame, mkF, argsToLocals, Value.category]; done) | rfl
def Q_rmLe (Z : State) (x : Addr) (tx : Addr) (kx : ClassId) (n : Int32) (us : List Value) (zc : Int32) (h0 : Heap) (n0 : Nat) (v : Option Value) (h : Heap) (L : List Loc) : Prop := v = some (.int n) ∧ Fr n0 L ∧ h = h0
set_option maxRecDepth 65536 in
set_option maxHeartbeats 40000000 in
theorem rmLe (l : Launch) (Z : State) (a0 : Array Value) (hw : ∀ d ∈ tables_1, d.before a0 Z = true) (ws : List Jvm.Cond) (x : Addr) (tx : Addr) (kx : ClassId) (n : Int32) (us : List Value) (zc : Int32) (h0 : Heap) (n0 : Nat) (Z0 : n0 ≤ h0.size) (pE_x : Exa Z h0 x "java/lang/String") (pF_value_x : Fld Z h0 x "java/lang/String" "value" "[B" (.ref tx)) (pF_coder_x : Fld Z h0 x "java/lang/String" "coder" "B" (.int (0 : Int32))) (pV_tx : Arv Z h0 tx kx .byte n us (.int 0)) (pS_COMPACT_STRINGS : Sta Z Z.heap "java/lang/String" "COMPACT_STRINGS" "Z" (.int zc)) (pP5 : (¬ (zc = (0 : Int32)))) (pO : Old Z n0 h0) :
    MetFree l own_y1 (head1 (Jvm.Cond.code own_y1 jdk_42_method_54_code 1 (some .int) :: ws) ({ frames := 1, cells := 0, slots := 0, locals := 13 } : Room)) (fun a U => a = #[(.ref x)] ∧ Z.Warmed39 U.vm ∧ U.heap = h0) (fun _ _ _ _ _ => True) (fun _ U o U' => ∃ v L, o = .returned v ∧ Q_rmLe Z x tx kx n us zc h0 n0 v U'.heap L ∧ FrameEnd U o U' L ({ frames := 1, cells := 0, slots := 0, locals := 13 } : Room).cells ({ frames := 1, cells := 0, slots := 0, locals := 13 } : Room).slots) := by
  refine MetFree.of_bodySF (plainFor_of_name pn_16) hisR ?_
  intro p e s m args below meth c s₁ Bd hml0 hP hK
  obtain ⟨rfl, hZ, hh⟩ := hP
  have hx := Bd.exec
  have hby := Bd.bytes
  have hml : c.maxLocals = 1 := hml0
  have hown : s.vm.findClass "java/lang/String" = some m.cls := findClass_of_methodNamed Bd.named
  have hnm := (name_of_methodNamed Bd.named Bd.method).1
  have X0 : Stand p l e ({ frames := 1, cells := 0, slots := 0, locals := 13 } : Room) s m #[(.ref x)] below meth c s₁ [] 0 0 := Stand.of_body Bd
  have e0 : s₁.heap = h0 := by rw [← hh, Bd.state]; rfl
  have N0 := Fr.nil n0
  refine own_enter (ef_rmLe m x) ?_
  refine own_st (fun t_ k_ => XS.aloadN X0.here hx rfl (hb hby d16_0) rfl rfl k_) ?_
  obtain ⟨T1, X1, e1, st1⟩ := getF X0 hx hZ hown (host := "") (Or.inl (own_w hw 117 rfl)) Via.refl e0 pF_value_x (g := (mkF m 1 #[.val (.ref x)] [(.ref x)])) rfl rfl (hb hby d16_1)
  refine own_st st1 ?_
  obtain ⟨cl2, Ar2, q2, Sz2, Nn2, Hh2, Gg2⟩ := id pV_tx
  refine own_st (fun t_ k_ => X1.arraylength hx (by rw [e1]; exact Ar2.1) (State.isArrayOf_alike hZ.alike Ar2.2.1) (g := (mkF m 4 #[.val (.ref x)] [(.ref tx)])) rfl rfl (hb hby d16_4) _ k_) ?_
  rw [len_of Sz2 Nn2]
  show own_Go p e below T1 (mkF m 5 #[.val (.ref x)] [(.int n)]) _
  refine own_st (fun t_ k_ => XS.aloadN X1.here hx rfl (hb hby d16_5) rfl rfl k_) ?_
  obtain ⟨cq3, kq3, qa3, qb3, qc3⟩ := isOf hZ e1 pE_x
  obtain ⟨_, _, ⟨T3, L3, k3, n3⟩, -, X3, ⟨Lc3, hQ3, l3, y3, z3⟩, st3⟩ := X1.virtualBack hx (y := own_y0) (z := own_y0) hown (mvT hZ (own_w hw 118 rfl)) (mvT hZ (own_w hw 119 rfl)) (notFace_of_selects (args := #[]) (mvT hZ (own_w hw 121 rfl))) (mvT hZ (own_w hw 121 rfl)) (mvT hZ (own_w hw 120 rfl)) (by decide) (backOf (W := 1) (rmCo l Z a0 hw [] x zc h0 n0 Z0 pE_x pF_coder_x pS_COMPACT_STRINGS pP5 pO) hZ (own_w hw 122 rfl) (own_w hw 25 rfl) (by decide) (by decide)) qa3 qc3 (g := (mkF m 6 #[.val (.ref x)] [(.ref x), (.int n)])) rfl (by rw [hml]; rfl) (Steps.refl _) (argsL := []) (rest := [(.int n)]) (lenOf pd___B rfl) rfl (by show 2 * 0 + _ ≤ _; exact Nat.le_of_eq rfl) (hb hby d16_6) (fun _ _ => ⟨rfl, e1, (by decide : 0 + 0 ≤ _), (by decide : 0 + 0 ≤ _)⟩)
  dsimp only [Pt.U, Pt.locs, Pt.cells, Pt.slots] at X3 l3 y3 z3 st3 hQ3
  try dsimp only [Nat.reduceAdd] at y3 z3
  rw [l3, y3, z3] at X3
  obtain ⟨rfl, Nq3, eH3⟩ := hQ3
  have N3 := Fr.app N0 Nq3
  refine own_tr st3 ?_
  refine own_st (fun t_ k_ => XS.ishr X3.here hx rfl (hb hby d16_9) rfl k_) ?_
  show own_Go p e below T3 (mkF m 10 #[.val (.ref x)] [(.int (n >>> ((0 : Int32) &&& 31)))]) _
  rw [own_shr0 n]
  show own_Go p e below T3 (mkF m 10 #[.val (.ref x)] [(.int n)]) _
  obtain ⟨fs, hr, hrun, hended, hW, hsame⟩ := X3.leave (v := some (.int n)) (fun h => by rw [Bd.returns] at h; cases h)
  refine own_fin (own_retI X3 hx Bd.returns (hb hby d16_10) hr) ⟨hrun, hended, _, _, rfl, ?_, ⟨_, rfl⟩, hW, hsame.mono (by decide) (by decide)⟩
  show Q_rmLe Z x tx kx n us zc h0 n0 _ T3.heap _
  rw [eH3]
  exact ⟨rfl, N3, rfl⟩
abbrev own_y2 : MethodName := ⟨"java/lang/AbstractStringBuilder", "<init>", "(I)V"⟩
abbrev own_c13 : ByteArray := jdk_68_method_2_code
theorem d13_0 : decode own_c13 0 = .ok (.aload_n 0, 1) := by decide +kernel
theorem d13_1 : decode own_c13 1 = .ok (.invokespecial 3, 3) := by decide +kernel
theorem d13_4 : decode own_c13 4 = .ok (.getstatic 18, 3) := by decide +kernel
theorem d13_7 : decode own_c13 7 = .ok (.ifCond .eq 18, 3) := by decide +kernel
theorem d13_10 : decode own_c13 10 = .ok (.aload_n 0, 1) := by decide +kernel
theorem d13_11 : decode own_c13 11 = .ok (.iload_n 1, 1) := by decide +kernel
theorem d13_12 : decode own_c13 12 = .ok (.newarray .byte, 2) := by decide +kernel
theorem d13_14 : decode own_c13 14 = .ok (.putfield 15, 3) := by decide +kernel
theorem d13_17 : decode own_c13 17 = .ok (.aload_n 0, 1) := by decide +kernel
theorem d13_18 : decode own_c13 18 = .ok (.iconst 0, 1) := by decide +kernel
theorem d13_19 : decode own_c13 19 = .ok (.putfield 22, 3) := by decide +kernel
theorem d13_22 : decode own_c13 22 = .ok (.goto 16, 3) := by decide +kernel
theorem d13_38 : decode own_c13 38 = .ok (.return_, 1) := by decide +kernel
theorem pn_13 : plainName "java/lang/AbstractStringBuilder" = true := by first | (simp [plainName, overriddenIn]; done) | decide +kernel
theorem ef_rmAbI (m : MethodId) (x0 : Addr) (x1 : Int32) : entryFrame m #[(.ref x0), (.int x1)] 2 = mkF m 0 #[.val (.ref x0), .val (.int x1)] [] := by first | (simp [entryFrame, mkF, argsToLocals, Value.category]; done) | rfl
def Q_rmAbI (Z : State) (a1 : Addr) (u1 : Value) (u2 : Value) (zc : Int32) (h0 : Heap) (n0 : Nat) (v : Option Value) (h : Heap) (L : List Loc) : Prop := ∃ va : Addr, ∃ kva : ClassId, v = none ∧ Fr n0 L ∧ Keep h0 h [a1] ∧ Exa Z h a1 "java/lang/StringBuilder" ∧ Fld Z h a1 "java/lang/AbstractStringBuilder" "value" "[B" (.ref va) ∧ Fld Z h a1 "java/lang/AbstractStringBuilder" "coder" "B" (.int (0 : Int32)) ∧ Fld Z h a1 "java/lang/AbstractStringBuilder" "count" "I" (.int (0 : Int32)) ∧ Arv Z h va kva .byte (16 : Int32) [(.int 0), (.int 0), (.int 0), (.int 0), (.int 0), (.int 0), (.int 0), (.int 0), (.int 0), (.int 0), (.int 0), (.int 0), (.int 0), (.int 0), (.int 0), (.int 0)] (.int 0) ∧ h0.size ≤ va ∧ n0 ≤ va
set_option maxRecDepth 65536 in
set_option maxHeartbeats 40000000 in
theorem rmAbI (l : Launch) (Z : State) (a0 : Array Value) (hw : ∀ d ∈ tables_1, d.before a0 Z = true) (ws : List Jvm.Cond) (a1 : Addr) (u1 : Value) (u2 : Value) (zc : Int32) (h0 : Heap) (n0 : Nat) (Z0 : n0 ≤ h0.size) (pE_a1 : Exa Z h0 a1 "java/lang/StringBuilder") (pF_value_a1 : Fld Z h0 a1 "java/lang/AbstractStringBuilder" "value" "[B" u1) (pF_coder_a1 : Fld Z h0 a1 "java/lang/AbstractStringBuilder" "coder" "B" u2) (pF_count_a1 : Fld Z h0 a1 "java/lang/AbstractStringBuilder" "count" "I" (.int (0 : Int32))) (pG_a1 : n0 ≤ a1) (pS_COMPACT_STRINGS : Sta Z Z.heap "java/lang/String" "COMPACT_STRINGS" "Z" (.int zc)) (pP5 : (¬ (zc = (0 : Int32)))) (pO : Old Z n0 h0) :
    MetFree l own_y2 (head1 (Jvm.Cond.code own_y2 jdk_68_method_2_code 2 none :: ws) ({ frames := 1, cells := 1, slots := 16, locals := 12 } : Room)) (fun a U => a = #[(.ref a1), (.int (16 : Int32))] ∧ Z.Warmed39 U.vm ∧ U.heap = h0) (fun _ _ _ _ _ => True) (fun _ U o U' => ∃ v L, o = .returned v ∧ Q_rmAbI Z a1 u1 u2 zc h0 n0 v U'.heap L ∧ FrameEnd U o U' L ({ frames := 1, cells := 1, slots := 16, locals := 12 } : Room).cells ({ frames := 1, cells := 1, slots := 16, locals := 12 } : Room).slots) := by
  refine MetFree.of_bodySF (plainFor_of_name pn_13) hisR ?_
  intro p e s m args below meth c s₁ Bd hml0 hP hK
  obtain ⟨rfl, hZ, hh⟩ := hP
  have hx := Bd.exec
  have hby := Bd.bytes
  have hml : c.maxLocals = 2 := hml0
  have hown : s.vm.findClass "java/lang/AbstractStringBuilder" = some m.cls := findClass_of_methodNamed Bd.named
  have hnm := (name_of_methodNamed Bd.named Bd.method).1
  have X0 : Stand p l e ({ frames := 1, cells := 1, slots := 16, locals := 12 } : Room) s m #[(.ref a1), (.int (16 : Int32))] below meth c s₁ [] 0 0 := Stand.of_body Bd
  have e0 : s₁.heap = h0 := by rw [← hh, Bd.state]; rfl
  have N0 := Fr.nil n0
  refine own_enter (ef_rmAbI m a1 ((16 : Int32))) ?_
  refine own_st (fun t_ k_ => XS.aloadN X0.here hx rfl (hb hby d13_0) rfl rfl k_) ?_
  obtain ⟨T1, X1, e1, st1⟩ := initO X0 hx hZ hown (own_w hw 95 rfl) (own_w hw 12 rfl) (own_w hw 13 rfl) e0 (g := (mkF m 1 #[.val (.ref a1), .val (.int (16 : Int32))] [(.ref a1)])) rfl (by rw [hml]; rfl) rfl (hb hby d13_1) (by decide) (W := 0) (by show 2 * 0 + _ ≤ _; exact Nat.le_of_eq rfl) (by decide)
  refine own_st st1 ?_
  obtain ⟨T2, X2, e2, st2⟩ := getS2 X1 hx hZ hown (host := "") (Or.inl (own_w hw 96 rfl)) Via.refl e1 (pS_COMPACT_STRINGS.ext pO.2) (g := (mkF m 4 #[.val (.ref a1), .val (.int (16 : Int32))] [])) rfl (hb hby d13_4)
  refine own_st st2 ?_
  refine own_st (fun t_ k_ => XS.ifNo X2.here hx rfl (hb hby d13_7) rfl ((if0 _ _).trans (feq pP5).1) (XS.aloadN X2.here hx rfl (hb hby d13_10) rfl rfl (XS.iloadN X2.here hx rfl (hb hby d13_11) rfl k_))) ?_
  obtain ⟨T3, h3, k3, X3, e3, E3, A3, st3⟩ := newP X2 hx hZ (own_w hw 27 rfl) e2 (g := (mkF m 12 #[.val (.ref a1), .val (.int (16 : Int32))] [(.int (16 : Int32)), (.ref a1)])) rfl (hb hby d13_12) rfl (by decide) (cap := 16) (by decide) (by decide) (by decide) (by decide)
  obtain ⟨b3, g3⟩ : ∃ z, z = h0.size := ⟨_, rfl⟩
  rw [← g3] at A3 st3
  have G3 : n0 ≤ b3 := Nat.le_trans Z0 (Nat.le_of_eq g3.symm)
  have B3 : h0.size ≤ b3 := Nat.le_trans (Keep.refl h0 [a1]).1 (Nat.le_of_eq g3.symm)
  have K4 : Keep h0 h3 [a1] := (Keep.refl h0 [a1]).ext E3
  have V3 : Arv Z h3 b3 k3 .byte (16 : Int32) [(.int (0 : Int32)), (.int (0 : Int32)), (.int (0 : Int32)), (.int (0 : Int32)), (.int (0 : Int32)), (.int (0 : Int32)), (.int (0 : Int32)), (.int (0 : Int32)), (.int (0 : Int32)), (.int (0 : Int32)), (.int (0 : Int32)), (.int (0 : Int32)), (.int (0 : Int32)), (.int (0 : Int32)), (.int (0 : Int32)), (.int (0 : Int32))] (.int (0 : Int32)) := (Arv.new A3 (by decide)).pad (pad_rep [] (.int (0 : Int32)) 16)
  refine own_st st3 ?_
  have f5 := (pE_a1.ext E3)
  have f6 := (pF_value_a1.ext E3)
  obtain ⟨T7, h7, X7, e7, W7, st7⟩ := putF X3 hx hZ hown (host := "") (Or.inl (own_w hw 97 rfl)) Via.refl e3 f6 f5 (Or.inl (own_w hw 98 rfl)) (own_w hw 84 rfl) (ty := (.array .byte)) (by decide) rfl rfl (g := (mkF m 14 #[.val (.ref a1), .val (.int (16 : Int32))] [(.ref b3), (.ref a1)])) rfl rfl (hb hby d13_14)
  have F7 := f6.same W7
  have K8 : Keep h0 h7 [a1] := K4.wr W7 (Or.inl (List.mem_of_getElem? (i := 0) rfl))
  have N7 := Fr.snoc X7 N0 pG_a1
  refine own_st st7 ?_
  refine own_st (fun t_ k_ => XS.aloadN X7.here hx rfl (hb hby d13_17) rfl rfl (XS.iconst X7.here hx rfl (hb hby d13_18) k_)) ?_
  have f9 := (f5.wr W7)
  have f10 := ((pF_coder_a1.ext E3).other W7 (Or.inr (slot_ne (Or.inl (own_w hw 100 rfl)) (Or.inl (own_w hw 98 rfl)) (by decide) (t := .byte) (t' := (.array .byte)) (by decide) (by decide))))
  obtain ⟨T11, h11, X11, e11, W11, st11⟩ := putFN X7 hx hZ hown (own_w hw 99 rfl) Via.refl e7 f10 f9 (Or.inl (own_w hw 100 rfl)) (own_w hw 84 rfl) (ty := .byte) (v' := (.int (0 : Int32))) (by decide) rfl (by decide) (g := (mkF m 19 #[.val (.ref a1), .val (.int (16 : Int32))] [(.int (0 : Int32)), (.ref a1)])) rfl rfl (hb hby d13_19)
  have F11 := f10.same W11
  have K12 : Keep h0 h11 [a1] := K8.wr W11 (Or.inl (List.mem_of_getElem? (i := 0) rfl))
  have N11 := Fr.snoc X11 N7 pG_a1
  refine own_st st11 ?_
  refine own_st (fun t_ k_ => XS.goto X11.here hx rfl (pc0 := 22) (pc' := 38) rfl (hb hby d13_22) (by decide) (by decide) k_) ?_
  have f13 := (f9.wr W11)
  have f14 := (F7.other W11 (Or.inr (slot_ne (Or.inl (own_w hw 98 rfl)) (Or.inl (own_w hw 100 rfl)) (by decide) (t := (.array .byte)) (t' := .byte) (by decide) (by decide))))
  have f15 := (((pF_count_a1.ext E3).other W7 (Or.inr (slot_ne (Or.inl (own_w hw 126 rfl)) (Or.inl (own_w hw 98 rfl)) (by decide) (t := .int) (t' := (.array .byte)) (by decide) (by decide)))).other W11 (Or.inr (slot_ne (Or.inl (own_w hw 126 rfl)) (Or.inl (own_w hw 100 rfl)) (by decide) (t := .int) (t' := .byte) (by decide) (by decide))))
  have f16 := ((V3.other W7 (Ne.symm (Nat.ne_of_lt (Nat.lt_of_lt_of_le pE_a1.lt (Nat.le_of_eq g3.symm))))).other W11 (Ne.symm (Nat.ne_of_lt (Nat.lt_of_lt_of_le pE_a1.lt (Nat.le_of_eq g3.symm)))))
  obtain ⟨fs, hr, hrun, hended, hW, hsame⟩ := X11.leave (v := none) (fun _ => rfl)
  refine own_fin (X11.returnOut hx Bd.returns (hb hby d13_38) hr) ⟨hrun, hended, _, _, rfl, ?_, ⟨_, rfl⟩, hW, hsame.mono (by decide) (by decide)⟩
  show Q_rmAbI Z a1 u1 u2 zc h0 n0 _ T11.heap _
  rw [e11]
  exact ⟨b3, k3, rfl, N11, K12, f13, f14, F11, f15, f16, B3, G3⟩
abbrev own_y3 : MethodName := ⟨"java/lang/StringBuilder", "<init>", "()V"⟩
abbrev own_c12 : ByteArray := jdk_67_method_1_code
theorem d12_0 : decode own_c12 0 = .ok (.aload_n 0, 1) := by decide +kernel
theorem d12_1 : decode own_c12 1 = .ok (.bipush 16, 2) := by decide +kernel
theorem d12_3 : decode own_c12 3 = .ok (.invokespecial 1, 3) := by decide +kernel
theorem d12_6 : decode own_c12 6 = .ok (.return_, 1) := by decide +kernel
theorem pn_12 : plainName "java/lang/StringBuilder" = true := by first | (simp [plainName, overriddenIn]; done) | decide +kernel
theorem pd__I_V : parseMethodDescriptor "(I)V" = some ⟨[.int], none⟩ := by decide +kernel
theorem ef_rmSbI (m : MethodId) (x0 : Addr) : entryFrame m #[(.ref x0)] 1 = mkF m 0 #[.val (.ref x0)] [] := by first | (simp [entryFrame, mkF, argsToLocals, Value.category]; done) | rfl
def Q_rmSbI (Z : State) (a1 : Addr) (u1 : Value) (u2 : Value) (zc : Int32) (h0 : Heap) (n0 : Nat) (v : Option Value) (h : Heap) (L : List Loc) : Prop := ∃ va : Addr, ∃ kva : ClassId, v = none ∧ Fr n0 L ∧ Keep h0 h [a1] ∧ Exa Z h a1 "java/lang/StringBuilder" ∧ Fld Z h a1 "java/lang/AbstractStringBuilder" "value" "[B" (.ref va) ∧ Fld Z h a1 "java/lang/AbstractStringBuilder" "coder" "B" (.int (0 : Int32)) ∧ Fld Z h a1 "java/lang/AbstractStringBuilder" "count" "I" (.int (0 : Int32)) ∧ Arv Z h va kva .byte (16 : Int32) [(.int 0), (.int 0), (.int 0), (.int 0), (.int 0), (.int 0), (.int 0), (.int 0), (.int 0), (.int 0), (.int 0), (.int 0), (.int 0), (.int 0), (.int 0), (.int 0)] (.int 0) ∧ h0.size ≤ va ∧ n0 ≤ va
set_option maxRecDepth 65536 in
set_option maxHeartbeats 40000000 in
theorem rmSbI (l : Launch) (Z : State) (a0 : Array Value) (hw : ∀ d ∈ tables_1, d.before a0 Z = true) (ws : List Jvm.Cond) (a1 : Addr) (u1 : Value) (u2 : Value) (zc : Int32) (h0 : Heap) (n0 : Nat) (Z0 : n0 ≤ h0.size) (pE_a1 : Exa Z h0 a1 "java/lang/StringBuilder") (pF_value_a1 : Fld Z h0 a1 "java/lang/AbstractStringBuilder" "value" "[B" u1) (pF_coder_a1 : Fld Z h0 a1 "java/lang/AbstractStringBuilder" "coder" "B" u2) (pF_count_a1 : Fld Z h0 a1 "java/lang/AbstractStringBuilder" "count" "I" (.int (0 : Int32))) (pG_a1 : n0 ≤ a1) (pS_COMPACT_STRINGS : Sta Z Z.heap "java/lang/String" "COMPACT_STRINGS" "Z" (.int zc)) (pP5 : (¬ (zc = (0 : Int32)))) (pO : Old Z n0 h0) :
    MetFree l own_y3 (head1 (Jvm.Cond.code own_y3 jdk_67_method_1_code 1 none :: ws) ({ frames := 2, cells := 1, slots := 16, locals := 25 } : Room)) (fun a U => a = #[(.ref a1)] ∧ Z.Warmed39 U.vm ∧ U.heap = h0) (fun _ _ _ _ _ => True) (fun _ U o U' => ∃ v L, o = .returned v ∧ Q_rmSbI Z a1 u1 u2 zc h0 n0 v U'.heap L ∧ FrameEnd U o U' L ({ frames := 2, cells := 1, slots := 16, locals := 25 } : Room).cells ({ frames := 2, cells := 1, slots := 16, locals := 25 } : Room).slots) := by
  refine MetFree.of_bodySF (plainFor_of_name pn_12) hisR ?_
  intro p e s m args below meth c s₁ Bd hml0 hP hK
  obtain ⟨rfl, hZ, hh⟩ := hP
  have hx := Bd.exec
  have hby := Bd.bytes
  have hml : c.maxLocals = 1 := hml0
  have hown : s.vm.findClass "java/lang/StringBuilder" = some m.cls := findClass_of_methodNamed Bd.named
  have hnm := (name_of_methodNamed Bd.named Bd.method).1
  have X0 : Stand p l e ({ frames := 2, cells := 1, slots := 16, locals := 25 } : Room) s m #[(.ref a1)] below meth c s₁ [] 0 0 := Stand.of_body Bd
  have e0 : s₁.heap = h0 := by rw [← hh, Bd.state]; rfl
  have N0 := Fr.nil n0
  refine own_enter (ef_rmSbI m a1) ?_
  refine own_st (fun t_ k_ => XS.aloadN X0.here hx rfl (hb hby d12_0) rfl rfl (XS.bipush X0.here hx rfl (hb hby d12_1) k_)) ?_
  obtain ⟨_, _, ⟨T1, L1, k1, n1⟩, -, X1, ⟨Lc1, hQ1, l1, y1, z1⟩, st1⟩ := X0.specialBack hx (y := own_y2) rfl hown (mvT hZ (own_w hw 89 rfl)) (mvT hZ (own_w hw 90 rfl)) (mvT hZ (own_w hw 94 rfl)) (by decide) (backOf (W := 0) (rmAbI l Z a0 hw [] a1 u1 u2 zc h0 n0 Z0 pE_a1 pF_value_a1 pF_coder_a1 pF_count_a1 pG_a1 pS_COMPACT_STRINGS pP5 pO) hZ (own_w hw 94 rfl) (own_w hw 93 rfl) (by decide) (by decide)) (g := (mkF m 3 #[.val (.ref a1)] [(.int (16 : Int32)), (.ref a1)])) rfl (by rw [hml]; rfl) (Steps.refl _) (a := a1) (argsL := [(.int (16 : Int32))]) (rest := []) (lenOf pd__I_V rfl) rfl (by show 2 * 0 + _ ≤ _; exact Nat.le_of_eq rfl) (hb hby d12_3) (fun _ _ => ⟨rfl, e0, (by decide : 0 + 1 ≤ _), (by decide : 0 + 16 ≤ _)⟩)
  dsimp only [Pt.U, Pt.locs, Pt.cells, Pt.slots] at X1 l1 y1 z1 st1 hQ1
  try dsimp only [Nat.reduceAdd] at y1 z1
  rw [l1, y1, z1] at X1
  obtain ⟨va_1, kva_1, rfl, Nq1, Kq1, q1_0, q1_1, q1_2, q1_3, q1_4, q1_5, q1_6⟩ := hQ1
  have N1 := Fr.app N0 Nq1
  have K2 : Keep h0 T1.heap [a1] := (Keep.refl h0 [a1]).trans Kq1 (allS (Or.inl (List.mem_of_getElem? (i := 0) rfl)) all0)
  have Bf3 : h0.size ≤ va_1 := Nat.le_trans (Keep.refl h0 [a1]).1 q1_5
  refine own_tr st1 ?_
  obtain ⟨fs, hr, hrun, hended, hW, hsame⟩ := X1.leave (v := none) (fun _ => rfl)
  refine own_fin (X1.returnOut hx Bd.returns (hb hby d12_6) hr) ⟨hrun, hended, _, _, rfl, ?_, ⟨_, rfl⟩, hW, hsame.mono (by decide) (by decide)⟩
  show Q_rmSbI Z a1 u1 u2 zc h0 n0 _ T1.heap _
  exact ⟨va_1, kva_1, rfl, N1, K2, q1_0, q1_1, q1_2, q1_3, q1_4, Bf3, q1_6⟩
abbrev own_y4 : MethodName := ⟨"java/lang/AbstractStringBuilder", "ensureCapacityInternal", "(I)V"⟩
abbrev own_c18 : ByteArray := jdk_68_method_9_code
theorem d18_0 : decode own_c18 0 = .ok (.aload_n 0, 1) := by decide +kernel
theorem d18_1 : decode own_c18 1 = .ok (.getfield 15, 3) := by decide +kernel
theorem d18_4 : decode own_c18 4 = .ok (.arraylength, 1) := by decide +kernel
theorem d18_5 : decode own_c18 5 = .ok (.aload_n 0, 1) := by decide +kernel
theorem d18_6 : decode own_c18 6 = .ok (.getfield 22, 3) := by decide +kernel
theorem d18_9 : decode own_c18 9 = .ok (.ishr, 1) := by decide +kernel
theorem d18_10 : decode own_c18 10 = .ok (.istore_n 2, 1) := by decide +kernel
theorem d18_11 : decode own_c18 11 = .ok (.iload_n 1, 1) := by decide +kernel
theorem d18_12 : decode own_c18 12 = .ok (.iload_n 2, 1) := by decide +kernel
theorem d18_13 : decode own_c18 13 = .ok (.isub, 1) := by decide +kernel
theorem d18_14 : decode own_c18 14 = .ok (.ifCond .le 24, 3) := by decide +kernel
theorem d18_38 : decode own_c18 38 = .ok (.return_, 1) := by decide +kernel
theorem pn_18 : plainName "java/lang/AbstractStringBuilder" = true := by first | (simp [plainName, overriddenIn]; done) | decide +kernel
theorem ef_rmEc (m : MethodId) (x0 : Addr) (x1 : Int32) : entryFrame m #[(.ref x0), (.int x1)] 3 = mkF m 0 #[.val (.ref x0), .val (.int x1), .unset] [] := by first | (simp [entryFrame, mkF, argsToLocals, Value.category]; done) | rfl
def Q_rmEc (Z : State) (a1 : Addr) (va : Addr) (kva : ClassId) (cap : Int32) (vs : List Value) (mm : Int32) (h0 : Heap) (n0 : Nat) (v : Option Value) (h : Heap) (L : List Loc) : Prop := v = none ∧ Fr n0 L ∧ h = h0
set_option maxRecDepth 65536 in
set_option maxHeartbeats 40000000 in
theorem rmEc (l : Launch) (Z : State) (a0 : Array Value) (hw : ∀ d ∈ tables_1, d.before a0 Z = true) (ws : List Jvm.Cond) (a1 : Addr) (va : Addr) (kva : ClassId) (cap : Int32) (vs : List Value) (mm : Int32) (h0 : Heap) (n0 : Nat) (Z0 : n0 ≤ h0.size) (pE_a1 : Exa Z h0 a1 "java/lang/StringBuilder") (pF_value_a1 : Fld Z h0 a1 "java/lang/AbstractStringBuilder" "value" "[B" (.ref va)) (pF_coder_a1 : Fld Z h0 a1 "java/lang/AbstractStringBuilder" "coder" "B" (.int (0 : Int32))) (pV_va : Arv Z h0 va kva .byte cap vs (.int 0)) (hmm : (¬ ((0 : Int32) < mm - cap))) :
    MetFree l own_y4 (head1 (Jvm.Cond.code own_y4 jdk_68_method_9_code 3 none :: ws) ({ frames := 0, cells := 0, slots := 0, locals := 0 } : Room)) (fun a U => a = #[(.ref a1), (.int mm)] ∧ Z.Warmed39 U.vm ∧ U.heap = h0) (fun _ _ _ _ _ => True) (fun _ U o U' => ∃ v L, o = .returned v ∧ Q_rmEc Z a1 va kva cap vs mm h0 n0 v U'.heap L ∧ FrameEnd U o U' L ({ frames := 0, cells := 0, slots := 0, locals := 0 } : Room).cells ({ frames := 0, cells := 0, slots := 0, locals := 0 } : Room).slots) := by
  refine MetFree.of_bodySF (plainFor_of_name pn_18) hisR ?_
  intro p e s m args below meth c s₁ Bd hml0 hP hK
  obtain ⟨rfl, hZ, hh⟩ := hP
  have hx := Bd.exec
  have hby := Bd.bytes
  have hml : c.maxLocals = 3 := hml0
  have hown : s.vm.findClass "java/lang/AbstractStringBuilder" = some m.cls := findClass_of_methodNamed Bd.named
  have hnm := (name_of_methodNamed Bd.named Bd.method).1
  have X0 : Stand p l e ({ frames := 0, cells := 0, slots := 0, locals := 0 } : Room) s m #[(.ref a1), (.int mm)] below meth c s₁ [] 0 0 := Stand.of_body Bd
  have e0 : s₁.heap = h0 := by rw [← hh, Bd.state]; rfl
  have N0 := Fr.nil n0
  refine own_enter (ef_rmEc m a1 mm) ?_
  refine own_st (fun t_ k_ => XS.aloadN X0.here hx rfl (hb hby d18_0) rfl rfl k_) ?_
  obtain ⟨T1, X1, e1, st1⟩ := getF X0 hx hZ hown (host := "") (Or.inl (own_w hw 97 rfl)) Via.refl e0 pF_value_a1 (g := (mkF m 1 #[.val (.ref a1), .val (.int mm), .unset] [(.ref a1)])) rfl rfl (hb hby d18_1)
  refine own_st st1 ?_
  obtain ⟨cl2, Ar2, q2, Sz2, Nn2, Hh2, Gg2⟩ := id pV_va
  refine own_st (fun t_ k_ => X1.arraylength hx (by rw [e1]; exact Ar2.1) (State.isArrayOf_alike hZ.alike Ar2.2.1) (g := (mkF m 4 #[.val (.ref a1), .val (.int mm), .unset] [(.ref va)])) rfl rfl (hb hby d18_4) _ k_) ?_
  rw [len_of Sz2 Nn2]
  show own_Go p e below T1 (mkF m 5 #[.val (.ref a1), .val (.int mm), .unset] [(.int cap)]) _
  refine own_st (fun t_ k_ => XS.aloadN X1.here hx rfl (hb hby d18_5) rfl rfl k_) ?_
  obtain ⟨T3, X3, e3, st3⟩ := getF X1 hx hZ hown (host := "") (Or.inl (own_w hw 99 rfl)) Via.refl e1 pF_coder_a1 (g := (mkF m 6 #[.val (.ref a1), .val (.int mm), .unset] [(.ref a1), (.int cap)])) rfl rfl (hb hby d18_6)
  refine own_st st3 ?_
  refine own_st (fun t_ k_ => XS.ishr X3.here hx rfl (hb hby d18_9) rfl k_) ?_
  show own_Go p e below T3 (mkF m 10 #[.val (.ref a1), .val (.int mm), .unset] [(.int (cap >>> ((0 : Int32) &&& 31)))]) _
  rw [own_shr0 cap]
  show own_Go p e below T3 (mkF m 10 #[.val (.ref a1), .val (.int mm), .unset] [(.int cap)]) _
  refine own_st (fun t_ k_ => XS.istoreN X3.here hx rfl (hb hby d18_10) rfl (l' := #[.val (.ref a1), .val (.int mm), .val (.int cap)]) rfl (XS.iloadN X3.here hx rfl (hb hby d18_11) rfl (XS.iloadN X3.here hx rfl (hb hby d18_12) rfl (XS.isub X3.here hx rfl (hb hby d18_13) rfl (XS.ifYes X3.here hx rfl (pc0 := 14) (pc' := 38) rfl (hb hby d18_14) rfl ((if0 _ _).trans (flt hmm).2.2.2) (by decide) (by decide) k_))))) ?_
  show own_Go p e below T3 (mkF m 38 #[.val (.ref a1), .val (.int mm), .val (.int cap)] []) _
  obtain ⟨fs, hr, hrun, hended, hW, hsame⟩ := X3.leave (v := none) (fun _ => rfl)
  refine own_fin (X3.returnOut hx Bd.returns (hb hby d18_38) hr) ⟨hrun, hended, _, _, rfl, ?_, ⟨_, rfl⟩, hW, hsame.mono (by decide) (by decide)⟩
  show Q_rmEc Z a1 va kva cap vs mm h0 n0 _ T3.heap _
  rw [e3]
  exact ⟨rfl, N0, rfl⟩
abbrev own_y5 : MethodName := ⟨"java/lang/AbstractStringBuilder", "inflateIfNeededFor", "(Ljava/lang/String;)V"⟩
abbrev own_c20 : ByteArray := jdk_68_method_71_code
theorem d20_0 : decode own_c20 0 = .ok (.getstatic 18, 3) := by decide +kernel
theorem d20_3 : decode own_c20 3 = .ok (.ifCond .eq 18, 3) := by decide +kernel
theorem d20_6 : decode own_c20 6 = .ok (.aload_n 0, 1) := by decide +kernel
theorem d20_7 : decode own_c20 7 = .ok (.getfield 22, 3) := by decide +kernel
theorem d20_10 : decode own_c20 10 = .ok (.aload_n 1, 1) := by decide +kernel
theorem d20_11 : decode own_c20 11 = .ok (.invokevirtual 40, 3) := by decide +kernel
theorem d20_14 : decode own_c20 14 = .ok (.if_icmp .eq 7, 3) := by decide +kernel
theorem d20_21 : decode own_c20 21 = .ok (.return_, 1) := by decide +kernel
theorem pn_20 : plainName "java/lang/AbstractStringBuilder" = true := by first | (simp [plainName, overriddenIn]; done) | decide +kernel
theorem ef_rmInf (m : MethodId) (x0 : Addr) (x1 : Addr) : entryFrame m #[(.ref x0), (.ref x1)] 2 = mkF m 0 #[.val (.ref x0), .val (.ref x1)] [] := by first | (simp [entryFrame, mkF, argsToLocals, Value.category]; done) | rfl
def Q_rmInf (Z : State) (a1 : Addr) (x : Addr) (zc : Int32) (h0 : Heap) (n0 : Nat) (v : Option Value) (h : Heap) (L : List Loc) : Prop := v = none ∧ Fr n0 L ∧ h = h0
set_option maxRecDepth 65536 in
set_option maxHeartbeats 40000000 in
theorem rmInf (l : Launch) (Z : State) (a0 : Array Value) (hw : ∀ d ∈ tables_1, d.before a0 Z = true) (ws : List Jvm.Cond) (a1 : Addr) (x : Addr) (zc : Int32) (h0 : Heap) (n0 : Nat) (Z0 : n0 ≤ h0.size) (pE_a1 : Exa Z h0 a1 "java/lang/StringBuilder") (pF_coder_a1 : Fld Z h0 a1 "java/lang/AbstractStringBuilder" "coder" "B" (.int (0 : Int32))) (pE_x : Exa Z h0 x "java/lang/String") (pF_coder_x : Fld Z h0 x "java/lang/String" "coder" "B" (.int (0 : Int32))) (pS_COMPACT_STRINGS : Sta Z Z.heap "java/lang/String" "COMPACT_STRINGS" "Z" (.int zc)) (pP5 : (¬ (zc = (0 : Int32)))) (pO : Old Z n0 h0) :
    MetFree l own_y5 (head1 (Jvm.Cond.code own_y5 jdk_68_method_71_code 2 none :: ws) ({ frames := 1, cells := 0, slots := 0, locals := 13 } : Room)) (fun a U => a = #[(.ref a1), (.ref x)] ∧ Z.Warmed39 U.vm ∧ U.heap = h0) (fun _ _ _ _ _ => True) (fun _ U o U' => ∃ v L, o = .returned v ∧ Q_rmInf Z a1 x zc h0 n0 v U'.heap L ∧ FrameEnd U o U' L ({ frames := 1, cells := 0, slots := 0, locals := 13 } : Room).cells ({ frames := 1, cells := 0, slots := 0, locals := 13 } : Room).slots) := by
  refine MetFree.of_bodySF (plainFor_of_name pn_20) hisR ?_
  intro p e s m args below meth c s₁ Bd hml0 hP hK
  obtain ⟨rfl, hZ, hh⟩ := hP
  have hx := Bd.exec
  have hby := Bd.bytes
  have hml : c.maxLocals = 2 := hml0
  have hown : s.vm.findClass "java/lang/AbstractStringBuilder" = some m.cls := findClass_of_methodNamed Bd.named
  have hnm := (name_of_methodNamed Bd.named Bd.method).1
  have X0 : Stand p l e ({ frames := 1, cells := 0, slots := 0, locals := 13 } : Room) s m #[(.ref a1), (.ref x)] below meth c s₁ [] 0 0 := Stand.of_body Bd
  have e0 : s₁.heap = h0 := by rw [← hh, Bd.state]; rfl
  have N0 := Fr.nil n0
  refine own_enter (ef_rmInf m a1 x) ?_
  obtain ⟨T1, X1, e1, st1⟩ := getS2 X0 hx hZ hown (host := "") (Or.inl (own_w hw 96 rfl)) Via.refl e0 (pS_COMPACT_STRINGS.ext pO.2) (g := (mkF m 0 #[.val (.ref a1), .val (.ref x)] [])) rfl (hb hby d20_0)
  refine own_st st1 ?_
  refine own_st (fun t_ k_ => XS.ifNo X1.here hx rfl (hb hby d20_3) rfl ((if0 _ _).trans (feq pP5).1) (XS.aloadN X1.here hx rfl (hb hby d20_6) rfl rfl k_)) ?_
  obtain ⟨T2, X2, e2, st2⟩ := getF X1 hx hZ hown (host := "") (Or.inl (own_w hw 99 rfl)) Via.refl e1 pF_coder_a1 (g := (mkF m 7 #[.val (.ref a1), .val (.ref x)] [(.ref a1)])) rfl rfl (hb hby d20_7)
  refine own_st st2 ?_
  refine own_st (fun t_ k_ => XS.aloadN X2.here hx rfl (hb hby d20_10) rfl rfl k_) ?_
  obtain ⟨cq3, kq3, qa3, qb3, qc3⟩ := isOf hZ e2 pE_x
  obtain ⟨_, _, ⟨T3, L3, k3, n3⟩, -, X3, ⟨Lc3, hQ3, l3, y3, z3⟩, st3⟩ := X2.virtualBack hx (y := own_y0) (z := own_y0) hown (mvT hZ (own_w hw 142 rfl)) (mvT hZ (own_w hw 119 rfl)) (notFace_of_selects (args := #[]) (mvT hZ (own_w hw 121 rfl))) (mvT hZ (own_w hw 121 rfl)) (mvT hZ (own_w hw 120 rfl)) (by decide) (backOf (W := 1) (rmCo l Z a0 hw [] x zc h0 n0 Z0 pE_x pF_coder_x pS_COMPACT_STRINGS pP5 pO) hZ (own_w hw 122 rfl) (own_w hw 25 rfl) (by decide) (by decide)) qa3 qc3 (g := (mkF m 11 #[.val (.ref a1), .val (.ref x)] [(.ref x), (.int (0 : Int32))])) rfl (by rw [hml]; rfl) (Steps.refl _) (argsL := []) (rest := [(.int (0 : Int32))]) (lenOf pd___B rfl) rfl (by show 2 * 0 + _ ≤ _; exact Nat.le_of_eq rfl) (hb hby d20_11) (fun _ _ => ⟨rfl, e2, (by decide : 0 + 0 ≤ _), (by decide : 0 + 0 ≤ _)⟩)
  dsimp only [Pt.U, Pt.locs, Pt.cells, Pt.slots] at X3 l3 y3 z3 st3 hQ3
  try dsimp only [Nat.reduceAdd] at y3 z3
  rw [l3, y3, z3] at X3
  obtain ⟨rfl, Nq3, eH3⟩ := hQ3
  have N3 := Fr.app N0 Nq3
  refine own_tr st3 ?_
  refine own_st (fun t_ k_ => XS.icmpYes X3.here hx rfl (pc0 := 14) (pc' := 21) rfl (hb hby d20_14) rfl (by decide) (by decide) (by decide) k_) ?_
  obtain ⟨fs, hr, hrun, hended, hW, hsame⟩ := X3.leave (v := none) (fun _ => rfl)
  refine own_fin (X3.returnOut hx Bd.returns (hb hby d20_21) hr) ⟨hrun, hended, _, _, rfl, ?_, ⟨_, rfl⟩, hW, hsame.mono (by decide) (by decide)⟩
  show Q_rmInf Z a1 x zc h0 n0 _ T3.heap _
  rw [eH3]
  exact ⟨rfl, N3, rfl⟩
abbrev own_y6 : MethodName := ⟨"java/lang/String", "getBytes", "([BIB)V"⟩
abbrev own_c21 : ByteArray := jdk_42_method_147_code
theorem d21_0 : decode own_c21 0 = .ok (.aload_n 0, 1) := by decide +kernel
theorem d21_1 : decode own_c21 1 = .ok (.invokevirtual 335, 3) := by decide +kernel
theorem d21_4 : decode own_c21 4 = .ok (.iload_n 3, 1) := by decide +kernel
theorem d21_5 : decode own_c21 5 = .ok (.if_icmp .ne 23, 3) := by decide +kernel
theorem d21_8 : decode own_c21 8 = .ok (.aload_n 0, 1) := by decide +kernel
theorem d21_9 : decode own_c21 9 = .ok (.getfield 9, 3) := by decide +kernel
theorem d21_12 : decode own_c21 12 = .ok (.iconst 0, 1) := by decide +kernel
theorem d21_13 : decode own_c21 13 = .ok (.aload_n 1, 1) := by decide +kernel
theorem d21_14 : decode own_c21 14 = .ok (.iload_n 2, 1) := by decide +kernel
theorem d21_15 : decode own_c21 15 = .ok (.iload_n 3, 1) := by decide +kernel
theorem d21_16 : decode own_c21 16 = .ok (.ishl, 1) := by decide +kernel
theorem d21_17 : decode own_c21 17 = .ok (.aload_n 0, 1) := by decide +kernel
theorem d21_18 : decode own_c21 18 = .ok (.getfield 9, 3) := by decide +kernel
theorem d21_21 : decode own_c21 21 = .ok (.arraylength, 1) := by decide +kernel
theorem d21_22 : decode own_c21 22 = .ok (.invokestatic 212, 3) := by decide +kernel
theorem d21_25 : decode own_c21 25 = .ok (.goto 18, 3) := by decide +kernel
theorem d21_43 : decode own_c21 43 = .ok (.return_, 1) := by decide +kernel
theorem pn_21 : plainName "java/lang/String" = true := by first | (simp [plainName, overriddenIn]; done) | decide +kernel
theorem ef_rmGb (m : MethodId) (x0 : Addr) (x1 : Addr) (x2 : Int32) (x3 : Int32) : entryFrame m #[(.ref x0), (.ref x1), (.int x2), (.int x3)] 4 = mkF m 0 #[.val (.ref x0), .val (.ref x1), .val (.int x2), .val (.int x3)] [] := by first | (simp [entryFrame, mkF, argsToLocals, Value.category]; done) | rfl
def Q_rmGb (Z : State) (x : Addr) (tx : Addr) (kx : ClassId) (n : Int32) (us : List Value) (zc : Int32) (va : Addr) (kva : ClassId) (cap : Int32) (k : Int32) (bs : List Value) (rest : List Value) (h0 : Heap) (n0 : Nat) (v : Option Value) (h : Heap) (L : List Loc) : Prop := v = none ∧ Fr n0 L ∧ Keep h0 h [va] ∧ Arv Z h va kva .byte cap ((bs ++ us) ++ rest.drop us.length) (.int 0)
set_option maxRecDepth 65536 in
set_option maxHeartbeats 40000000 in
theorem rmGb (l : Launch) (Z : State) (a0 : Array Value) (hw : ∀ d ∈ tables_1, d.before a0 Z = true) (ws : List Jvm.Cond) (x : Addr) (tx : Addr) (kx : ClassId) (n : Int32) (us : List Value) (zc : Int32) (va : Addr) (kva : ClassId) (cap : Int32) (k : Int32) (bs : List Value) (rest : List Value) (h0 : Heap) (n0 : Nat) (Z0 : n0 ≤ h0.size) (pE_x : Exa Z h0 x "java/lang/String") (pF_value_x : Fld Z h0 x "java/lang/String" "value" "[B" (.ref tx)) (pF_coder_x : Fld Z h0 x "java/lang/String" "coder" "B" (.int (0 : Int32))) (pV_tx : Arv Z h0 tx kx .byte n us (.int 0)) (pV_va : Arv Z h0 va kva .byte cap (bs ++ rest) (.int 0)) (hk : (k.toInt = (bs.length : Int))) (hcap : (cap.toInt = ((bs.length + rest.length : Nat) : Int))) (hn : (n.toInt = (us.length : Int))) (hfit : (us.length ≤ rest.length)) (hbig : (bs.length + rest.length ≤ 1000000)) (pG_va : n0 ≤ va) (pS_COMPACT_STRINGS : Sta Z Z.heap "java/lang/String" "COMPACT_STRINGS" "Z" (.int zc)) (pP5 : (¬ (zc = (0 : Int32)))) (pO : Old Z n0 h0) :
    MetFree l own_y6 (head1 (Jvm.Cond.code own_y6 jdk_42_method_147_code 4 none :: ws) ({ frames := 1, cells := 0, slots := 0, locals := 120 } : Room)) (fun a U => a = #[(.ref x), (.ref va), (.int k), (.int (0 : Int32))] ∧ Z.Warmed39 U.vm ∧ U.heap = h0) (fun _ _ _ _ _ => True) (fun _ U o U' => ∃ v L, o = .returned v ∧ Q_rmGb Z x tx kx n us zc va kva cap k bs rest h0 n0 v U'.heap L ∧ FrameEnd U o U' L ({ frames := 1, cells := 0, slots := 0, locals := 120 } : Room).cells ({ frames := 1, cells := 0, slots := 0, locals := 120 } : Room).slots) := by
  refine MetFree.of_bodySF (plainFor_of_name pn_21) hisR ?_
  intro p e s m args below meth c s₁ Bd hml0 hP hK
  obtain ⟨rfl, hZ, hh⟩ := hP
  have hx := Bd.exec
  have hby := Bd.bytes
  have hml : c.maxLocals = 4 := hml0
  have hown : s.vm.findClass "java/lang/String" = some m.cls := findClass_of_methodNamed Bd.named
  have hnm := (name_of_methodNamed Bd.named Bd.method).1
  have X0 : Stand p l e ({ frames := 1, cells := 0, slots := 0, locals := 120 } : Room) s m #[(.ref x), (.ref va), (.int k), (.int (0 : Int32))] below meth c s₁ [] 0 0 := Stand.of_body Bd
  have e0 : s₁.heap = h0 := by rw [← hh, Bd.state]; rfl
  have N0 := Fr.nil n0
  refine own_enter (ef_rmGb m x va k ((0 : Int32))) ?_
  refine own_st (fun t_ k_ => XS.aloadN X0.here hx rfl (hb hby d21_0) rfl rfl k_) ?_
  obtain ⟨cq1, kq1, qa1, qb1, qc1⟩ := isOf hZ e0 pE_x
  obtain ⟨_, _, ⟨T1, L1, k1, n1⟩, -, X1, ⟨Lc1, hQ1, l1, y1, z1⟩, st1⟩ := X0.virtualBack hx (y := own_y0) (z := own_y0) hown (mvT hZ (own_w hw 118 rfl)) (mvT hZ (own_w hw 119 rfl)) (notFace_of_selects (args := #[]) (mvT hZ (own_w hw 121 rfl))) (mvT hZ (own_w hw 121 rfl)) (mvT hZ (own_w hw 120 rfl)) (by decide) (backOf (W := 0) (rmCo l Z a0 hw [] x zc h0 n0 Z0 pE_x pF_coder_x pS_COMPACT_STRINGS pP5 pO) hZ (own_w hw 122 rfl) (own_w hw 25 rfl) (by decide) (by decide)) qa1 qc1 (g := (mkF m 1 #[.val (.ref x), .val (.ref va), .val (.int k), .val (.int (0 : Int32))] [(.ref x)])) rfl (by rw [hml]; rfl) (Steps.refl _) (argsL := []) (rest := []) (lenOf pd___B rfl) rfl (by show 2 * 0 + _ ≤ _; exact Nat.le_of_eq rfl) (hb hby d21_1) (fun _ _ => ⟨rfl, e0, (by decide : 0 + 0 ≤ _), (by decide : 0 + 0 ≤ _)⟩)
  dsimp only [Pt.U, Pt.locs, Pt.cells, Pt.slots] at X1 l1 y1 z1 st1 hQ1
  try dsimp only [Nat.reduceAdd] at y1 z1
  rw [l1, y1, z1] at X1
  obtain ⟨rfl, Nq1, eH1⟩ := hQ1
  have N1 := Fr.app N0 Nq1
  refine own_tr st1 ?_
  refine own_st (fun t_ k_ => XS.iloadN X1.here hx rfl (hb hby d21_4) rfl (XS.icmpNo X1.here hx rfl (hb hby d21_5) rfl (by decide) (XS.aloadN X1.here hx rfl (hb hby d21_8) rfl rfl k_))) ?_
  obtain ⟨T2, X2, e2, st2⟩ := getF X1 hx hZ hown (host := "") (Or.inl (own_w hw 117 rfl)) Via.refl eH1 pF_value_x (g := (mkF m 9 #[.val (.ref x), .val (.ref va), .val (.int k), .val (.int (0 : Int32))] [(.ref x)])) rfl rfl (hb hby d21_9)
  refine own_st st2 ?_
  refine own_st (fun t_ k_ => XS.iconst X2.here hx rfl (hb hby d21_12) (XS.aloadN X2.here hx rfl (hb hby d21_13) rfl rfl (XS.iloadN X2.here hx rfl (hb hby d21_14) rfl (XS.iloadN X2.here hx rfl (hb hby d21_15) rfl (XS.ishl X2.here hx rfl (hb hby d21_16) rfl k_))))) ?_
  show own_Go p e below T2 (mkF m 17 #[.val (.ref x), .val (.ref va), .val (.int k), .val (.int (0 : Int32))] [(.int (k <<< ((0 : Int32) &&& 31))), (.ref va), (.int (0 : Int32)), (.ref tx)]) _
  rw [own_shl0 k]
  show own_Go p e below T2 (mkF m 17 #[.val (.ref x), .val (.ref va), .val (.int k), .val (.int (0 : Int32))] [(.int k), (.ref va), (.int (0 : Int32)), (.ref tx)]) _
  refine own_st (fun t_ k_ => XS.aloadN X2.here hx rfl (hb hby d21_17) rfl rfl k_) ?_
  obtain ⟨T3, X3, e3, st3⟩ := getF X2 hx hZ hown (host := "") (Or.inl (own_w hw 117 rfl)) Via.refl e2 pF_value_x (g := (mkF m 18 #[.val (.ref x), .val (.ref va), .val (.int k), .val (.int (0 : Int32))] [(.ref x), (.int k), (.ref va), (.int (0 : Int32)), (.ref tx)])) rfl rfl (hb hby d21_18)
  refine own_st st3 ?_
  obtain ⟨cl4, Ar4, q4, Sz4, Nn4, Hh4, Gg4⟩ := id pV_tx
  refine own_st (fun t_ k_ => X3.arraylength hx (by rw [e3]; exact Ar4.1) (State.isArrayOf_alike hZ.alike Ar4.2.1) (g := (mkF m 21 #[.val (.ref x), .val (.ref va), .val (.int k), .val (.int (0 : Int32))] [(.ref tx), (.int k), (.ref va), (.int (0 : Int32)), (.ref tx)])) rfl rfl (hb hby d21_21) _ k_) ?_
  rw [len_of Sz4 Nn4]
  show own_Go p e below T3 (mkF m 22 #[.val (.ref x), .val (.ref va), .val (.int k), .val (.int (0 : Int32))] [(.int n), (.int k), (.ref va), (.int (0 : Int32)), (.ref tx)]) _
  obtain ⟨T5, h5, L5, X5, e5, N5, Kq5, Va5, st5⟩ := cpA X3 hx hZ hown (own_w hw 148 rfl) (own_w hw 151 rfl) (own_w hw 149 rfl) (own_w hw 150 rfl) e3 pV_tx pV_va (Or.inl ⟨rfl, rfl⟩) (sp := (0 : Int32)) (dp := k) (nn := n) (by decide) (own_nonneg hk) (own_nonneg hn) (by rw [own_clamp hn]; exact Nat.le_of_eq (Nat.zero_add _)) (by rw [own_clamp hk, own_clamp hn, own_clamp hcap]; omega) (us := us) (by have q := own_range (tl := []) (d := (.int 0)) hn; rw [List.append_nil] at q; exact q) (by rw [own_clamp hk, own_clamp hn, List.length_append]; omega) N1 pG_va (g := (mkF m 22 #[.val (.ref x), .val (.ref va), .val (.int k), .val (.int (0 : Int32))] [(.int n), (.int k), (.ref va), (.int (0 : Int32)), (.ref tx)])) rfl (by rw [hml]; rfl) (rest := []) rfl (hb hby d21_22) (by decide) (W := 0) (by show 2 * 0 + _ ≤ _; exact Nat.le_of_eq rfl) (by decide +kernel)
  rw [own_cp hk hn] at Va5
  have K6 : Keep h0 h5 [va] := (Keep.refl h0 [va]).trans Kq5 (allS (Or.inl (List.mem_of_getElem? (i := 0) rfl)) all0)
  refine own_st st5 ?_
  refine own_st (fun t_ k_ => XS.goto X5.here hx rfl (pc0 := 25) (pc' := 43) rfl (hb hby d21_25) (by decide) (by decide) k_) ?_
  obtain ⟨fs, hr, hrun, hended, hW, hsame⟩ := X5.leave (v := none) (fun _ => rfl)
  refine own_fin (X5.returnOut hx Bd.returns (hb hby d21_43) hr) ⟨hrun, hended, _, _, rfl, ?_, ⟨_, rfl⟩, hW, hsame.mono (by decide) (by decide)⟩
  show Q_rmGb Z x tx kx n us zc va kva cap k bs rest h0 n0 _ T5.heap _
  rw [e5]
  exact ⟨rfl, N5, K6, Va5⟩
abbrev own_y7 : MethodName := ⟨"java/lang/AbstractStringBuilder", "putStringAt", "(ILjava/lang/String;)V"⟩
abbrev own_c19 : ByteArray := jdk_68_method_73_code
theorem d19_0 : decode own_c19 0 = .ok (.aload_n 0, 1) := by decide +kernel
theorem d19_1 : decode own_c19 1 = .ok (.aload_n 2, 1) := by decide +kernel
theorem d19_2 : decode own_c19 2 = .ok (.invokevirtual 397, 3) := by decide +kernel
theorem d19_5 : decode own_c19 5 = .ok (.aload_n 2, 1) := by decide +kernel
theorem d19_6 : decode own_c19 6 = .ok (.aload_n 0, 1) := by decide +kernel
theorem d19_7 : decode own_c19 7 = .ok (.getfield 15, 3) := by decide +kernel
theorem d19_10 : decode own_c19 10 = .ok (.iload_n 1, 1) := by decide +kernel
theorem d19_11 : decode own_c19 11 = .ok (.aload_n 0, 1) := by decide +kernel
theorem d19_12 : decode own_c19 12 = .ok (.getfield 22, 3) := by decide +kernel
theorem d19_15 : decode own_c19 15 = .ok (.invokevirtual 399, 3) := by decide +kernel
theorem d19_18 : decode own_c19 18 = .ok (.return_, 1) := by decide +kernel
theorem pn_19 : plainName "java/lang/AbstractStringBuilder" = true := by first | (simp [plainName, overriddenIn]; done) | decide +kernel
theorem pd__Ljava_lang_String__V : parseMethodDescriptor "(Ljava/lang/String;)V" = some ⟨[(.object "java/lang/String")], none⟩ := by decide +kernel
theorem pd___BIB_V : parseMethodDescriptor "([BIB)V" = some ⟨[(.array .byte), .int, .byte], none⟩ := by decide +kernel
theorem ef_rmPs (m : MethodId) (x0 : Addr) (x1 : Int32) (x2 : Addr) : entryFrame m #[(.ref x0), (.int x1), (.ref x2)] 3 = mkF m 0 #[.val (.ref x0), .val (.int x1), .val (.ref x2)] [] := by first | (simp [entryFrame, mkF, argsToLocals, Value.category]; done) | rfl
def Q_rmPs (Z : State) (a1 : Addr) (va : Addr) (kva : ClassId) (cap : Int32) (k : Int32) (bs : List Value) (rest : List Value) (x : Addr) (tx : Addr) (kx : ClassId) (n : Int32) (us : List Value) (zc : Int32) (h0 : Heap) (n0 : Nat) (v : Option Value) (h : Heap) (L : List Loc) : Prop := v = none ∧ Fr n0 L ∧ Keep h0 h [va] ∧ Arv Z h va kva .byte cap ((bs ++ us) ++ rest.drop us.length) (.int 0)
set_option maxRecDepth 65536 in
set_option maxHeartbeats 40000000 in
theorem rmPs (l : Launch) (Z : State) (a0 : Array Value) (hw : ∀ d ∈ tables_1, d.before a0 Z = true) (ws : List Jvm.Cond) (a1 : Addr) (va : Addr) (kva : ClassId) (cap : Int32) (k : Int32) (bs : List Value) (rest : List Value) (x : Addr) (tx : Addr) (kx : ClassId) (n : Int32) (us : List Value) (zc : Int32) (h0 : Heap) (n0 : Nat) (Z0 : n0 ≤ h0.size) (pE_a1 : Exa Z h0 a1 "java/lang/StringBuilder") (pF_value_a1 : Fld Z h0 a1 "java/lang/AbstractStringBuilder" "value" "[B" (.ref va)) (pF_coder_a1 : Fld Z h0 a1 "java/lang/AbstractStringBuilder" "coder" "B" (.int (0 : Int32))) (pE_x : Exa Z h0 x "java/lang/String") (pF_value_x : Fld Z h0 x "java/lang/String" "value" "[B" (.ref tx)) (pF_coder_x : Fld Z h0 x "java/lang/String" "coder" "B" (.int (0 : Int32))) (pV_tx : Arv Z h0 tx kx .byte n us (.int 0)) (pV_va : Arv Z h0 va kva .byte cap (bs ++ rest) (.int 0)) (hk : (k.toInt = (bs.length : Int))) (hcap : (cap.toInt = ((bs.length + rest.length : Nat) : Int))) (hn : (n.toInt = (us.length : Int))) (hfit : (us.length ≤ rest.length)) (hbig : (bs.length + rest.length ≤ 1000000)) (pG_va : n0 ≤ va) (pS_COMPACT_STRINGS : Sta Z Z.heap "java/lang/String" "COMPACT_STRINGS" "Z" (.int zc)) (pP5 : (¬ (zc = (0 : Int32)))) (pO : Old Z n0 h0) :
    MetFree l own_y7 (head1 (Jvm.Cond.code own_y7 jdk_68_method_73_code 3 none :: ws) ({ frames := 2, cells := 0, slots := 0, locals := 135 } : Room)) (fun a U => a = #[(.ref a1), (.int k), (.ref x)] ∧ Z.Warmed39 U.vm ∧ U.heap = h0) (fun _ _ _ _ _ => True) (fun _ U o U' => ∃ v L, o = .returned v ∧ Q_rmPs Z a1 va kva cap k bs rest x tx kx n us zc h0 n0 v U'.heap L ∧ FrameEnd U o U' L ({ frames := 2, cells := 0, slots := 0, locals := 135 } : Room).cells ({ frames := 2, cells := 0, slots := 0, locals := 135 } : Room).slots) := by
  refine MetFree.of_bodySF (plainFor_of_name pn_19) hisR ?_
  intro p e s m args below meth c s₁ Bd hml0 hP hK
  obtain ⟨rfl, hZ, hh⟩ := hP
  have hx := Bd.exec
  have hby := Bd.bytes
  have hml : c.maxLocals = 3 := hml0
  have hown : s.vm.findClass "java/lang/AbstractStringBuilder" = some m.cls := findClass_of_methodNamed Bd.named
  have hnm := (name_of_methodNamed Bd.named Bd.method).1
  have X0 : Stand p l e ({ frames := 2, cells := 0, slots := 0, locals := 135 } : Room) s m #[(.ref a1), (.int k), (.ref x)] below meth c s₁ [] 0 0 := Stand.of_body Bd
  have e0 : s₁.heap = h0 := by rw [← hh, Bd.state]; rfl
  have N0 := Fr.nil n0
  refine own_enter (ef_rmPs m a1 k x) ?_
  refine own_st (fun t_ k_ => XS.aloadN X0.here hx rfl (hb hby d19_0) rfl rfl (XS.aloadN X0.here hx rfl (hb hby d19_1) rfl rfl k_)) ?_
  obtain ⟨cq1, kq1, qa1, qb1, qc1⟩ := isOf hZ e0 pE_a1
  obtain ⟨_, _, ⟨T1, L1, k1, n1⟩, -, X1, ⟨Lc1, hQ1, l1, y1, z1⟩, st1⟩ := X0.virtualBack hx (y := own_y5) (z := own_y5) hown (mvT hZ (own_w hw 137 rfl)) (mvT hZ (own_decl (own_w hw 138 rfl) (own_w hw 141 rfl))) (notFace_of_selects (args := #[]) (mvT hZ (own_w hw 140 rfl))) (mvT hZ (own_w hw 140 rfl)) (mvT hZ (own_w hw 138 rfl)) (by decide) (backOf (W := 0) (rmInf l Z a0 hw [] a1 x zc h0 n0 Z0 pE_a1 pF_coder_a1 pE_x pF_coder_x pS_COMPACT_STRINGS pP5 pO) hZ (own_w hw 141 rfl) (own_w hw 93 rfl) (by decide) (by decide)) qa1 qc1 (g := (mkF m 2 #[.val (.ref a1), .val (.int k), .val (.ref x)] [(.ref x), (.ref a1)])) rfl (by rw [hml]; rfl) (Steps.refl _) (argsL := [(.ref x)]) (rest := []) (lenOf pd__Ljava_lang_String__V rfl) rfl (by show 2 * 0 + _ ≤ _; exact Nat.le_of_eq rfl) (hb hby d19_2) (fun _ _ => ⟨rfl, e0, (by decide : 0 + 0 ≤ _), (by decide : 0 + 0 ≤ _)⟩)
  dsimp only [Pt.U, Pt.locs, Pt.cells, Pt.slots] at X1 l1 y1 z1 st1 hQ1
  try dsimp only [Nat.reduceAdd] at y1 z1
  rw [l1, y1, z1] at X1
  obtain ⟨rfl, Nq1, eH1⟩ := hQ1
  have N1 := Fr.app N0 Nq1
  refine own_tr st1 ?_
  refine own_st (fun t_ k_ => XS.aloadN X1.here hx rfl (hb hby d19_5) rfl rfl (XS.aloadN X1.here hx rfl (hb hby d19_6) rfl rfl k_)) ?_
  obtain ⟨T2, X2, e2, st2⟩ := getF X1 hx hZ hown (host := "") (Or.inl (own_w hw 97 rfl)) Via.refl eH1 pF_value_a1 (g := (mkF m 7 #[.val (.ref a1), .val (.int k), .val (.ref x)] [(.ref a1), (.ref x)])) rfl rfl (hb hby d19_7)
  refine own_st st2 ?_
  refine own_st (fun t_ k_ => XS.iloadN X2.here hx rfl (hb hby d19_10) rfl (XS.aloadN X2.here hx rfl (hb hby d19_11) rfl rfl k_)) ?_
  obtain ⟨T3, X3, e3, st3⟩ := getF X2 hx hZ hown (host := "") (Or.inl (own_w hw 99 rfl)) Via.refl e2 pF_coder_a1 (g := (mkF m 12 #[.val (.ref a1), .val (.int k), .val (.ref x)] [(.ref a1), (.int k), (.ref va), (.ref x)])) rfl rfl (hb hby d19_12)
  refine own_st st3 ?_
  obtain ⟨cq4, kq4, qa4, qb4, qc4⟩ := isOf hZ e3 pE_x
  obtain ⟨_, _, ⟨T4, L4, k4, n4⟩, -, X4, ⟨Lc4, hQ4, l4, y4, z4⟩, st4⟩ := X3.virtualBack hx (y := own_y6) (z := own_y6) hown (mvT hZ (own_w hw 143 rfl)) (mvT hZ (own_w hw 144 rfl)) (notFace_of_selects (args := #[]) (mvT hZ (own_w hw 146 rfl))) (mvT hZ (own_w hw 146 rfl)) (mvT hZ (own_w hw 145 rfl)) (by decide) (backOf (W := 0) (rmGb l Z a0 hw [] x tx kx n us zc va kva cap k bs rest h0 n0 Z0 pE_x pF_value_x pF_coder_x pV_tx pV_va hk hcap hn hfit hbig pG_va pS_COMPACT_STRINGS pP5 pO) hZ (own_w hw 147 rfl) (own_w hw 25 rfl) (by decide) (by decide)) qa4 qc4 (g := (mkF m 15 #[.val (.ref a1), .val (.int k), .val (.ref x)] [(.int (0 : Int32)), (.int k), (.ref va), (.ref x)])) rfl (by rw [hml]; rfl) (Steps.refl _) (argsL := [(.ref va), (.int k), (.int (0 : Int32))]) (rest := []) (lenOf pd___BIB_V rfl) rfl (by show 2 * 0 + _ ≤ _; exact Nat.le_of_eq rfl) (hb hby d19_15) (fun _ _ => ⟨rfl, e3, (by decide : 0 + 0 ≤ _), (by decide : 0 + 0 ≤ _)⟩)
  dsimp only [Pt.U, Pt.locs, Pt.cells, Pt.slots] at X4 l4 y4 z4 st4 hQ4
  try dsimp only [Nat.reduceAdd] at y4 z4
  rw [l4, y4, z4] at X4
  obtain ⟨rfl, Nq4, Kq4, q4_0⟩ := hQ4
  have N4 := Fr.app N1 Nq4
  have K5 : Keep h0 T4.heap [va] := (Keep.refl h0 [va]).trans Kq4 (allS (Or.inl (List.mem_of_getElem? (i := 0) rfl)) all0)
  refine own_tr st4 ?_
  obtain ⟨fs, hr, hrun, hended, hW, hsame⟩ := X4.leave (v := none) (fun _ => rfl)
  refine own_fin (X4.returnOut hx Bd.returns (hb hby d19_18) hr) ⟨hrun, hended, _, _, rfl, ?_, ⟨_, rfl⟩, hW, hsame.mono (by decide) (by decide)⟩
  show Q_rmPs Z a1 va kva cap k bs rest x tx kx n us zc h0 n0 _ T4.heap _
  exact ⟨rfl, N4, K5, q4_0⟩
abbrev own_y8 : MethodName := ⟨"java/lang/AbstractStringBuilder", "append", "(Ljava/lang/String;)Ljava/lang/AbstractStringBuilder;"⟩
abbrev own_c15 : ByteArray := jdk_68_method_22_code
theorem d15_0 : decode own_c15 0 = .ok (.aload_n 1, 1) := by decide +kernel
theorem d15_1 : decode own_c15 1 = .ok (.ifnonnull 8, 3) := by decide +kernel
theorem d15_9 : decode own_c15 9 = .ok (.aload_n 1, 1) := by decide +kernel
theorem d15_10 : decode own_c15 10 = .ok (.invokevirtual 32, 3) := by decide +kernel
theorem d15_13 : decode own_c15 13 = .ok (.istore_n 2, 1) := by decide +kernel
theorem d15_14 : decode own_c15 14 = .ok (.aload_n 0, 1) := by decide +kernel
theorem d15_15 : decode own_c15 15 = .ok (.aload_n 0, 1) := by decide +kernel
theorem d15_16 : decode own_c15 16 = .ok (.getfield 79, 3) := by decide +kernel
theorem d15_19 : decode own_c15 19 = .ok (.iload_n 2, 1) := by decide +kernel
theorem d15_20 : decode own_c15 20 = .ok (.iadd, 1) := by decide +kernel
theorem d15_21 : decode own_c15 21 = .ok (.invokevirtual 100, 3) := by decide +kernel
theorem d15_24 : decode own_c15 24 = .ok (.aload_n 0, 1) := by decide +kernel
theorem d15_25 : decode own_c15 25 = .ok (.aload_n 0, 1) := by decide +kernel
theorem d15_26 : decode own_c15 26 = .ok (.getfield 79, 3) := by decide +kernel
theorem d15_29 : decode own_c15 29 = .ok (.aload_n 1, 1) := by decide +kernel
theorem d15_30 : decode own_c15 30 = .ok (.invokevirtual 208, 3) := by decide +kernel
theorem d15_33 : decode own_c15 33 = .ok (.aload_n 0, 1) := by decide +kernel
theorem d15_34 : decode own_c15 34 = .ok (.dup, 1) := by decide +kernel
theorem d15_35 : decode own_c15 35 = .ok (.getfield 79, 3) := by decide +kernel
theorem d15_38 : decode own_c15 38 = .ok (.iload_n 2, 1) := by decide +kernel
theorem d15_39 : decode own_c15 39 = .ok (.iadd, 1) := by decide +kernel
theorem d15_40 : decode own_c15 40 = .ok (.putfield 79, 3) := by decide +kernel
theorem d15_43 : decode own_c15 43 = .ok (.aload_n 0, 1) := by decide +kernel
theorem d15_44 : decode own_c15 44 = .ok (.areturn, 1) := by decide +kernel
theorem pn_15 : plainName "java/lang/AbstractStringBuilder" = true := by first | (simp [plainName, overriddenIn]; done) | decide +kernel
theorem pd___I : parseMethodDescriptor "()I" = some ⟨[], some .int⟩ := by decide +kernel
theorem pd__ILjava_lang_String__V : parseMethodDescriptor "(ILjava/lang/String;)V" = some ⟨[.int, (.object "java/lang/String")], none⟩ := by decide +kernel
theorem ef_rmAbA (m : MethodId) (x0 : Addr) (x1 : Addr) : entryFrame m #[(.ref x0), (.ref x1)] 3 = mkF m 0 #[.val (.ref x0), .val (.ref x1), .unset] [] := by first | (simp [entryFrame, mkF, argsToLocals, Value.category]; done) | rfl
def Q_rmAbA (Z : State) (a1 : Addr) (va : Addr) (kva : ClassId) (cap : Int32) (k : Int32) (bs : List Value) (rest : List Value) (x : Addr) (tx : Addr) (kx : ClassId) (n : Int32) (us : List Value) (zc : Int32) (h0 : Heap) (n0 : Nat) (v : Option Value) (h : Heap) (L : List Loc) : Prop := v = some (.ref a1) ∧ Fr n0 L ∧ Keep h0 h [a1, va] ∧ Exa Z h a1 "java/lang/StringBuilder" ∧ Fld Z h a1 "java/lang/AbstractStringBuilder" "value" "[B" (.ref va) ∧ Fld Z h a1 "java/lang/AbstractStringBuilder" "coder" "B" (.int (0 : Int32)) ∧ Fld Z h a1 "java/lang/AbstractStringBuilder" "count" "I" (.int (k + n)) ∧ Arv Z h va kva .byte cap ((bs ++ us) ++ rest.drop us.length) (.int 0)
set_option maxRecDepth 65536 in
set_option maxHeartbeats 40000000 in
theorem rmAbA (l : Launch) (Z : State) (a0 : Array Value) (hw : ∀ d ∈ tables_1, d.before a0 Z = true) (ws : List Jvm.Cond) (a1 : Addr) (va : Addr) (kva : ClassId) (cap : Int32) (k : Int32) (bs : List Value) (rest : List Value) (x : Addr) (tx : Addr) (kx : ClassId) (n : Int32) (us : List Value) (zc : Int32) (h0 : Heap) (n0 : Nat) (Z0 : n0 ≤ h0.size) (pE_a1 : Exa Z h0 a1 "java/lang/StringBuilder") (pF_value_a1 : Fld Z h0 a1 "java/lang/AbstractStringBuilder" "value" "[B" (.ref va)) (pF_coder_a1 : Fld Z h0 a1 "java/lang/AbstractStringBuilder" "coder" "B" (.int (0 : Int32))) (pF_count_a1 : Fld Z h0 a1 "java/lang/AbstractStringBuilder" "count" "I" (.int k)) (pV_va : Arv Z h0 va kva .byte cap (bs ++ rest) (.int 0)) (pE_x : Exa Z h0 x "java/lang/String") (pF_value_x : Fld Z h0 x "java/lang/String" "value" "[B" (.ref tx)) (pF_coder_x : Fld Z h0 x "java/lang/String" "coder" "B" (.int (0 : Int32))) (pV_tx : Arv Z h0 tx kx .byte n us (.int 0)) (hk : (k.toInt = (bs.length : Int))) (hcap : (cap.toInt = ((bs.length + rest.length : Nat) : Int))) (hn : (n.toInt = (us.length : Int))) (hfit : (us.length ≤ rest.length)) (hbig : (bs.length + rest.length ≤ 1000000)) (pG_a1 : n0 ≤ a1) (pG_va : n0 ≤ va) (pS_COMPACT_STRINGS : Sta Z Z.heap "java/lang/String" "COMPACT_STRINGS" "Z" (.int zc)) (pP5 : (¬ (zc = (0 : Int32)))) (pO : Old Z n0 h0) :
    MetFree l own_y8 (head1 (Jvm.Cond.code own_y8 jdk_68_method_22_code 3 (some (.object "java/lang/AbstractStringBuilder")) :: ws) ({ frames := 3, cells := 0, slots := 0, locals := 149 } : Room)) (fun a U => a = #[(.ref a1), (.ref x)] ∧ Z.Warmed39 U.vm ∧ U.heap = h0) (fun _ _ _ _ _ => True) (fun _ U o U' => ∃ v L, o = .returned v ∧ Q_rmAbA Z a1 va kva cap k bs rest x tx kx n us zc h0 n0 v U'.heap L ∧ FrameEnd U o U' L ({ frames := 3, cells := 0, slots := 0, locals := 149 } : Room).cells ({ frames := 3, cells := 0, slots := 0, locals := 149 } : Room).slots) := by
  refine MetFree.of_bodySF (plainFor_of_name pn_15) hisR ?_
  intro p e s m args below meth c s₁ Bd hml0 hP hK
  obtain ⟨rfl, hZ, hh⟩ := hP
  have hx := Bd.exec
  have hby := Bd.bytes
  have hml : c.maxLocals = 3 := hml0
  have hown : s.vm.findClass "java/lang/AbstractStringBuilder" = some m.cls := findClass_of_methodNamed Bd.named
  have hnm := (name_of_methodNamed Bd.named Bd.method).1
  have X0 : Stand p l e ({ frames := 3, cells := 0, slots := 0, locals := 149 } : Room) s m #[(.ref a1), (.ref x)] below meth c s₁ [] 0 0 := Stand.of_body Bd
  have e0 : s₁.heap = h0 := by rw [← hh, Bd.state]; rfl
  have N0 := Fr.nil n0
  refine own_enter (ef_rmAbA m a1 x) ?_
  have hkn := own_addI hk hn (by omega)
  refine own_st (fun t_ k_ => XS.aloadN X0.here hx rfl (hb hby d15_0) rfl rfl (XS.ifnonnullYes X0.here hx rfl (pc0 := 1) (pc' := 9) rfl (hb hby d15_1) rfl (by decide) (by decide) (XS.aloadN X0.here hx rfl (hb hby d15_9) rfl rfl k_))) ?_
  obtain ⟨cq1, kq1, qa1, qb1, qc1⟩ := isOf hZ e0 pE_x
  obtain ⟨_, _, ⟨T1, L1, k1, n1⟩, -, X1, ⟨Lc1, hQ1, l1, y1, z1⟩, st1⟩ := X0.virtualBack hx (y := own_y1) (z := own_y1) hown (mvT hZ (own_w hw 112 rfl)) (mvT hZ (own_w hw 113 rfl)) (notFace_of_selects (args := #[]) (mvT hZ (own_w hw 115 rfl))) (mvT hZ (own_w hw 115 rfl)) (mvT hZ (own_w hw 114 rfl)) (by decide) (backOf (W := 0) (rmLe l Z a0 hw [] x tx kx n us zc h0 n0 Z0 pE_x pF_value_x pF_coder_x pV_tx pS_COMPACT_STRINGS pP5 pO) hZ (own_w hw 116 rfl) (own_w hw 25 rfl) (by decide) (by decide)) qa1 qc1 (g := (mkF m 10 #[.val (.ref a1), .val (.ref x), .unset] [(.ref x)])) rfl (by rw [hml]; rfl) (Steps.refl _) (argsL := []) (rest := []) (lenOf pd___I rfl) rfl (by show 2 * 0 + _ ≤ _; exact Nat.le_of_eq rfl) (hb hby d15_10) (fun _ _ => ⟨rfl, e0, (by decide : 0 + 0 ≤ _), (by decide : 0 + 0 ≤ _)⟩)
  dsimp only [Pt.U, Pt.locs, Pt.cells, Pt.slots] at X1 l1 y1 z1 st1 hQ1
  try dsimp only [Nat.reduceAdd] at y1 z1
  rw [l1, y1, z1] at X1
  obtain ⟨rfl, Nq1, eH1⟩ := hQ1
  have N1 := Fr.app N0 Nq1
  refine own_tr st1 ?_
  refine own_st (fun t_ k_ => XS.istoreN X1.here hx rfl (hb hby d15_13) rfl (l' := #[.val (.ref a1), .val (.ref x), .val (.int n)]) rfl (XS.aloadN X1.here hx rfl (hb hby d15_14) rfl rfl (XS.aloadN X1.here hx rfl (hb hby d15_15) rfl rfl k_))) ?_
  obtain ⟨T2, X2, e2, st2⟩ := getF X1 hx hZ hown (host := "") (Or.inl (own_w hw 125 rfl)) Via.refl eH1 pF_count_a1 (g := (mkF m 16 #[.val (.ref a1), .val (.ref x), .val (.int n)] [(.ref a1), (.ref a1)])) rfl rfl (hb hby d15_16)
  refine own_st st2 ?_
  refine own_st (fun t_ k_ => XS.iloadN X2.here hx rfl (hb hby d15_19) rfl (XS.iadd X2.here hx rfl (hb hby d15_20) rfl k_)) ?_
  obtain ⟨cq3, kq3, qa3, qb3, qc3⟩ := isOf hZ e2 pE_a1
  obtain ⟨_, _, ⟨T3, L3, k3, n3⟩, -, X3, ⟨Lc3, hQ3, l3, y3, z3⟩, st3⟩ := X2.virtualBack hx (y := own_y4) (z := own_y4) hown (mvT hZ (own_w hw 127 rfl)) (mvT hZ (own_decl (own_w hw 128 rfl) (own_w hw 131 rfl))) (notFace_of_selects (args := #[]) (mvT hZ (own_w hw 130 rfl))) (mvT hZ (own_w hw 130 rfl)) (mvT hZ (own_w hw 128 rfl)) (by decide) (backOf (W := 0) (rmEc l Z a0 hw [] a1 va kva cap ((bs ++ rest)) ((k + n)) h0 n0 Z0 pE_a1 pF_value_a1 pF_coder_a1 pV_va (own_subNP (by omega) (by omega) (by omega))) hZ (own_w hw 131 rfl) (own_w hw 93 rfl) (by decide) (by decide)) qa3 qc3 (g := (mkF m 21 #[.val (.ref a1), .val (.ref x), .val (.int n)] [(.int (k + n)), (.ref a1)])) rfl (by rw [hml]; rfl) (Steps.refl _) (argsL := [(.int (k + n))]) (rest := []) (lenOf pd__I_V rfl) rfl (by show 2 * 0 + _ ≤ _; exact Nat.le_of_eq rfl) (hb hby d15_21) (fun _ _ => ⟨rfl, e2, (by decide : 0 + 0 ≤ _), (by decide : 0 + 0 ≤ _)⟩)
  dsimp only [Pt.U, Pt.locs, Pt.cells, Pt.slots] at X3 l3 y3 z3 st3 hQ3
  try dsimp only [Nat.reduceAdd] at y3 z3
  rw [l3, y3, z3] at X3
  obtain ⟨rfl, Nq3, eH3⟩ := hQ3
  have N3 := Fr.app N1 Nq3
  refine own_tr st3 ?_
  refine own_st (fun t_ k_ => XS.aloadN X3.here hx rfl (hb hby d15_24) rfl rfl (XS.aloadN X3.here hx rfl (hb hby d15_25) rfl rfl k_)) ?_
  obtain ⟨T4, X4, e4, st4⟩ := getF X3 hx hZ hown (host := "") (Or.inl (own_w hw 125 rfl)) Via.refl eH3 pF_count_a1 (g := (mkF m 26 #[.val (.ref a1), .val (.ref x), .val (.int n)] [(.ref a1), (.ref a1)])) rfl rfl (hb hby d15_26)
  refine own_st st4 ?_
  refine own_st (fun t_ k_ => XS.aloadN X4.here hx rfl (hb hby d15_29) rfl rfl k_) ?_
  obtain ⟨cq5, kq5, qa5, qb5, qc5⟩ := isOf hZ e4 pE_a1
  obtain ⟨_, _, ⟨T5, L5, k5, n5⟩, -, X5, ⟨Lc5, hQ5, l5, y5, z5⟩, st5⟩ := X4.virtualBack hx (y := own_y7) (z := own_y7) hown (mvT hZ (own_w hw 132 rfl)) (mvT hZ (own_decl (own_w hw 133 rfl) (own_w hw 136 rfl))) (notFace_of_selects (args := #[]) (mvT hZ (own_w hw 135 rfl))) (mvT hZ (own_w hw 135 rfl)) (mvT hZ (own_w hw 133 rfl)) (by decide) (backOf (W := 0) (rmPs l Z a0 hw [] a1 va kva cap k bs rest x tx kx n us zc h0 n0 Z0 pE_a1 pF_value_a1 pF_coder_a1 pE_x pF_value_x pF_coder_x pV_tx pV_va hk hcap hn hfit hbig pG_va pS_COMPACT_STRINGS pP5 pO) hZ (own_w hw 136 rfl) (own_w hw 93 rfl) (by decide) (by decide)) qa5 qc5 (g := (mkF m 30 #[.val (.ref a1), .val (.ref x), .val (.int n)] [(.ref x), (.int k), (.ref a1)])) rfl (by rw [hml]; rfl) (Steps.refl _) (argsL := [(.int k), (.ref x)]) (rest := []) (lenOf pd__ILjava_lang_String__V rfl) rfl (by show 2 * 0 + _ ≤ _; exact Nat.le_of_eq rfl) (hb hby d15_30) (fun _ _ => ⟨rfl, e4, (by decide : 0 + 0 ≤ _), (by decide : 0 + 0 ≤ _)⟩)
  dsimp only [Pt.U, Pt.locs, Pt.cells, Pt.slots] at X5 l5 y5 z5 st5 hQ5
  try dsimp only [Nat.reduceAdd] at y5 z5
  rw [l5, y5, z5] at X5
  obtain ⟨rfl, Nq5, Kq5, q5_0⟩ := hQ5
  have N5 := Fr.app N3 Nq5
  have K6 : Keep h0 T5.heap [a1, va] := (Keep.refl h0 [a1, va]).trans Kq5 (allS (Or.inl (List.mem_of_getElem? (i := 1) rfl)) all0)
  refine own_tr st5 ?_
  refine own_st (fun t_ k_ => XS.aloadN X5.here hx rfl (hb hby d15_33) rfl rfl (XS.dup X5.here hx rfl (hb hby d15_34) rfl rfl k_)) ?_
  have f7 := (pF_count_a1.keep Kq5 (ninS (Exa.neArv (pE_a1.keep Kq5) q5_0 (own_w hw 84 rfl)) nin0))
  obtain ⟨T8, X8, e8, st8⟩ := getF X5 hx hZ hown (host := "") (Or.inl (own_w hw 125 rfl)) Via.refl rfl f7 (g := (mkF m 35 #[.val (.ref a1), .val (.ref x), .val (.int n)] [(.ref a1), (.ref a1)])) rfl rfl (hb hby d15_35)
  refine own_st st8 ?_
  refine own_st (fun t_ k_ => XS.iloadN X8.here hx rfl (hb hby d15_38) rfl (XS.iadd X8.here hx rfl (hb hby d15_39) rfl k_)) ?_
  have f9 := (pE_a1.keep Kq5)
  obtain ⟨T10, h10, X10, e10, W10, st10⟩ := putF X8 hx hZ hown (host := "") (Or.inl (own_w hw 125 rfl)) Via.refl e8 f7 f9 (Or.inl (own_w hw 126 rfl)) (own_w hw 84 rfl) (ty := .int) (by decide) rfl rfl (g := (mkF m 40 #[.val (.ref a1), .val (.ref x), .val (.int n)] [(.int (k + n)), (.ref a1)])) rfl rfl (hb hby d15_40)
  have F10 := f7.same W10
  have K11 : Keep h0 h10 [a1, va] := K6.wr W10 (Or.inl (List.mem_of_getElem? (i := 0) rfl))
  have N10 := Fr.snoc X10 N5 pG_a1
  refine own_st st10 ?_
  refine own_st (fun t_ k_ => XS.aloadN X10.here hx rfl (hb hby d15_43) rfl rfl k_) ?_
  have f12 := (f9.wr W10)
  have f13 := ((pF_value_a1.keep Kq5 (ninS (Exa.neArv f9 q5_0 (own_w hw 84 rfl)) nin0)).other W10 (Or.inr (slot_ne (Or.inl (own_w hw 98 rfl)) (Or.inl (own_w hw 126 rfl)) (by decide) (t := (.array .byte)) (t' := .int) (by decide) (by decide))))
  have f14 := ((pF_coder_a1.keep Kq5 (ninS (Exa.neArv f9 q5_0 (own_w hw 84 rfl)) nin0)).other W10 (Or.inr (slot_ne (Or.inl (own_w hw 100 rfl)) (Or.inl (own_w hw 126 rfl)) (by decide) (t := .byte) (t' := .int) (by decide) (by decide))))
  have f15 := (q5_0.other W10 (Ne.symm (Exa.neArv f9 q5_0 (own_w hw 84 rfl))))
  obtain ⟨fs, hr, hrun, hended, hW, hsame⟩ := X10.leave (v := some (.ref a1)) (fun h => by rw [Bd.returns] at h; cases h)
  refine own_fin (own_retR X10 hx rfl Bd.returns rfl (hb hby d15_44) hr) ⟨hrun, hended, _, _, rfl, ?_, ⟨_, rfl⟩, hW, hsame.mono (by decide) (by decide)⟩
  show Q_rmAbA Z a1 va kva cap k bs rest x tx kx n us zc h0 n0 _ T10.heap _
  rw [e10]
  exact ⟨rfl, N10, K11, f12, f13, f14, F10, f15⟩
abbrev own_y9 : MethodName := ⟨"java/lang/AbstractStringBuilder", "getValue", "()[B"⟩
abbrev own_y10 : MethodName := ⟨"java/lang/StringBuilder", "append", "(Ljava/lang/String;)Ljava/lang/StringBuilder;"⟩
abbrev own_c14 : ByteArray := jdk_67_method_7_code
theorem d14_0 : decode own_c14 0 = .ok (.aload_n 0, 1) := by decide +kernel
theorem d14_1 : decode own_c14 1 = .ok (.aload_n 1, 1) := by decide +kernel
theorem d14_2 : decode own_c14 2 = .ok (.invokespecial 29, 3) := by decide +kernel
theorem d14_5 : decode own_c14 5 = .ok (.pop, 1) := by decide +kernel
theorem d14_6 : decode own_c14 6 = .ok (.aload_n 0, 1) := by decide +kernel
theorem d14_7 : decode own_c14 7 = .ok (.areturn, 1) := by decide +kernel
theorem pn_14 : plainName "java/lang/StringBuilder" = true := by first | (simp [plainName, overriddenIn]; done) | decide +kernel
theorem pd__Ljava_lang_String__Ljava_lang_AbstractStringBuilder_ : parseMethodDescriptor "(Ljava/lang/String;)Ljava/lang/AbstractStringBuilder;" = some ⟨[(.object "java/lang/String")], some (.object "java/lang/AbstractStringBuilder")⟩ := by decide +kernel
theorem ef_rmSbA (m : MethodId) (x0 : Addr) (x1 : Addr) : entryFrame m #[(.ref x0), (.ref x1)] 2 = mkF m 0 #[.val (.ref x0), .val (.ref x1)] [] := by first | (simp [entryFrame, mkF, argsToLocals, Value.category]; done) | rfl
def Q_rmSbA (Z : State) (a1 : Addr) (va : Addr) (kva : ClassId) (cap : Int32) (k : Int32) (bs : List Value) (rest : List Value) (x : Addr) (tx : Addr) (kx : ClassId) (n : Int32) (us : List Value) (zc : Int32) (h0 : Heap) (n0 : Nat) (v : Option Value) (h : Heap) (L : List Loc) : Prop := v = some (.ref a1) ∧ Fr n0 L ∧ Keep h0 h [a1, va] ∧ Exa Z h a1 "java/lang/StringBuilder" ∧ Fld Z h a1 "java/lang/AbstractStringBuilder" "value" "[B" (.ref va) ∧ Fld Z h a1 "java/lang/AbstractStringBuilder" "coder" "B" (.int (0 : Int32)) ∧ Fld Z h a1 "java/lang/AbstractStringBuilder" "count" "I" (.int (k + n)) ∧ Arv Z h va kva .byte cap ((bs ++ us) ++ rest.drop us.length) (.int 0)
set_option maxRecDepth 65536 in
set_option maxHeartbeats 40000000 in
theorem rmSbA (l : Launch) (Z : State) (a0 : Array Value) (hw : ∀ d ∈ tables_1, d.before a0 Z = true) (ws : List Jvm.Cond) (a1 : Addr) (va : Addr) (kva : ClassId) (cap : Int32) (k : Int32) (bs : List Value) (rest : List Value) (x : Addr) (tx : Addr) (kx : ClassId) (n : Int32) (us : List Value) (zc : Int32) (h0 : Heap) (n0 : Nat) (Z0 : n0 ≤ h0.size) (pE_a1 : Exa Z h0 a1 "java/lang/StringBuilder") (pF_value_a1 : Fld Z h0 a1 "java/lang/AbstractStringBuilder" "value" "[B" (.ref va)) (pF_coder_a1 : Fld Z h0 a1 "java/lang/AbstractStringBuilder" "coder" "B" (.int (0 : Int32))) (pF_count_a1 : Fld Z h0 a1 "java/lang/AbstractStringBuilder" "count" "I" (.int k)) (pV_va : Arv Z h0 va kva .byte cap (bs ++ rest) (.int 0)) (pE_x : Exa Z h0 x "java/lang/String") (pF_value_x : Fld Z h0 x "java/lang/String" "value" "[B" (.ref tx)) (pF_coder_x : Fld Z h0 x "java/lang/String" "coder" "B" (.int (0 : Int32))) (pV_tx : Arv Z h0 tx kx .byte n us (.int 0)) (hk : (k.toInt = (bs.length : Int))) (hcap : (cap.toInt = ((bs.length + rest.length : Nat) : Int))) (hn : (n.toInt = (us.length : Int))) (hfit : (us.length ≤ rest.length)) (hbig : (bs.length + rest.length ≤ 1000000)) (pG_a1 : n0 ≤ a1) (pG_va : n0 ≤ va) (pS_COMPACT_STRINGS : Sta Z Z.heap "java/lang/String" "COMPACT_STRINGS" "Z" (.int zc)) (pP5 : (¬ (zc = (0 : Int32)))) (pO : Old Z n0 h0) :
    MetFree l own_y10 (head1 (Jvm.Cond.code own_y10 jdk_67_method_7_code 2 (some (.object "java/lang/StringBuilder")) :: ws) ({ frames := 4, cells := 0, slots := 0, locals := 163 } : Room)) (fun a U => a = #[(.ref a1), (.ref x)] ∧ Z.Warmed39 U.vm ∧ U.heap = h0) (fun _ _ _ _ _ => True) (fun _ U o U' => ∃ v L, o = .returned v ∧ Q_rmSbA Z a1 va kva cap k bs rest x tx kx n us zc h0 n0 v U'.heap L ∧ FrameEnd U o U' L ({ frames := 4, cells := 0, slots := 0, locals := 163 } : Room).cells ({ frames := 4, cells := 0, slots := 0, locals := 163 } : Room).slots) := by
  refine MetFree.of_bodySF (plainFor_of_name pn_14) hisR ?_
  intro p e s m args below meth c s₁ Bd hml0 hP hK
  obtain ⟨rfl, hZ, hh⟩ := hP
  have hx := Bd.exec
  have hby := Bd.bytes
  have hml : c.maxLocals = 2 := hml0
  have hown : s.vm.findClass "java/lang/StringBuilder" = some m.cls := findClass_of_methodNamed Bd.named
  have hnm := (name_of_methodNamed Bd.named Bd.method).1
  have X0 : Stand p l e ({ frames := 4, cells := 0, slots := 0, locals := 163 } : Room) s m #[(.ref a1), (.ref x)] below meth c s₁ [] 0 0 := Stand.of_body Bd
  have e0 : s₁.heap = h0 := by rw [← hh, Bd.state]; rfl
  have N0 := Fr.nil n0
  refine own_enter (ef_rmSbA m a1 x) ?_
  refine own_st (fun t_ k_ => XS.aloadN X0.here hx rfl (hb hby d14_0) rfl rfl (XS.aloadN X0.here hx rfl (hb hby d14_1) rfl rfl k_)) ?_
  obtain ⟨_, _, ⟨T1, L1, k1, n1⟩, -, X1, ⟨Lc1, hQ1, l1, y1, z1⟩, st1⟩ := superBack X0 hx hZ (y := own_y8) hown (own_w hw 107 rfl) (own_same (y := own_y8) (y' := own_y9) (own_w hw 110 rfl) (own_w hw 229 rfl) rfl (by decide)) (own_w hw 108 rfl) (own_w hw 109 rfl) (by decide) (backOf (W := 0) (rmAbA l Z a0 hw [] a1 va kva cap k bs rest x tx kx n us zc h0 n0 Z0 pE_a1 pF_value_a1 pF_coder_a1 pF_count_a1 pV_va pE_x pF_value_x pF_coder_x pV_tx hk hcap hn hfit hbig pG_a1 pG_va pS_COMPACT_STRINGS pP5 pO) hZ (own_w hw 111 rfl) (own_w hw 93 rfl) (by decide) (by decide)) e0 (Ins.self pE_a1) (g := (mkF m 2 #[.val (.ref a1), .val (.ref x)] [(.ref x), (.ref a1)])) rfl (by rw [hml]; rfl) (own_w hw 111 rfl) (argsL := [(.ref x)]) (rest := []) (lenOf pd__Ljava_lang_String__Ljava_lang_AbstractStringBuilder_ rfl) rfl (by show 2 * 0 + _ ≤ _; exact Nat.le_of_eq rfl) (hb hby d14_2) (fun _ _ => ⟨rfl, e0, (by decide : 0 + 0 ≤ _), (by decide : 0 + 0 ≤ _)⟩)
  dsimp only [Pt.U, Pt.locs, Pt.cells, Pt.slots] at X1 l1 y1 z1 st1 hQ1
  try dsimp only [Nat.reduceAdd] at y1 z1
  rw [l1, y1, z1] at X1
  obtain ⟨rfl, Nq1, Kq1, q1_0, q1_1, q1_2, q1_3, q1_4⟩ := hQ1
  have N1 := Fr.app N0 Nq1
  have K2 : Keep h0 T1.heap [a1, va] := (Keep.refl h0 [a1, va]).trans Kq1 (allS (Or.inl (List.mem_of_getElem? (i := 0) rfl)) (allS (Or.inl (List.mem_of_getElem? (i := 1) rfl)) all0))
  refine own_tr st1 ?_
  refine own_st (fun t_ k_ => XS.pop X1.here hx rfl (hb hby d14_5) rfl rfl (XS.aloadN X1.here hx rfl (hb hby d14_6) rfl rfl k_)) ?_
  obtain ⟨fs, hr, hrun, hended, hW, hsame⟩ := X1.leave (v := some (.ref a1)) (fun h => by rw [Bd.returns] at h; cases h)
  refine own_fin (own_retR X1 hx rfl Bd.returns rfl (hb hby d14_7) hr) ⟨hrun, hended, _, _, rfl, ?_, ⟨_, rfl⟩, hW, hsame.mono (by decide) (by decide)⟩
  show Q_rmSbA Z a1 va kva cap k bs rest x tx kx n us zc h0 n0 _ T1.heap _
  exact ⟨rfl, N1, K2, q1_0, q1_1, q1_2, q1_3, q1_4⟩
abbrev own_y11 : MethodName := ⟨"java/lang/Math", "min", "(II)I"⟩
abbrev own_c1 : ByteArray := jdk_29_method_69_code
theorem d1_0 : decode own_c1 0 = .ok (.iload_n 0, 1) := by decide +kernel
theorem d1_1 : decode own_c1 1 = .ok (.iload_n 1, 1) := by decide +kernel
theorem d1_2 : decode own_c1 2 = .ok (.if_icmp .gt 7, 3) := by decide +kernel
theorem d1_9 : decode own_c1 9 = .ok (.iload_n 1, 1) := by decide +kernel
theorem d1_10 : decode own_c1 10 = .ok (.ireturn, 1) := by decide +kernel
theorem ef_rmMb (m : MethodId) (x0 : Int32) (x1 : Int32) : entryFrame m #[(.int x0), (.int x1)] 2 = mkF m 0 #[.val (.int x0), .val (.int x1)] [] := by first | (simp [entryFrame, mkF, argsToLocals, Value.category]; done) | rfl
def Q_rmMb (Z : State) (a_ : Int32) (b_ : Int32) (h0 : Heap) (n0 : Nat) (v : Option Value) (h : Heap) (L : List Loc) : Prop := v = some (.int b_) ∧ Fr n0 L ∧ h = h0
set_option maxRecDepth 65536 in
set_option maxHeartbeats 40000000 in
theorem rmMb (l : Launch) (Z : State) (a0 : Array Value) (hw : ∀ d ∈ tables_1, d.before a0 Z = true) (ws : List Jvm.Cond) (a_ : Int32) (b_ : Int32) (h0 : Heap) (n0 : Nat) (Z0 : n0 ≤ h0.size) (h : (b_ < a_)) :
    MetFree l own_y11 (head1 (Jvm.Cond.code own_y11 jdk_29_method_69_code 2 (some .int) :: ws) ({ frames := 0, cells := 0, slots := 0, locals := 0 } : Room)) (fun a U => a = #[(.int a_), (.int b_)] ∧ Z.Warmed39 U.vm ∧ U.heap = h0) (fun _ _ _ _ _ => True) (fun _ U o U' => ∃ v L, o = .returned v ∧ Q_rmMb Z a_ b_ h0 n0 v U'.heap L ∧ FrameEnd U o U' L ({ frames := 0, cells := 0, slots := 0, locals := 0 } : Room).cells ({ frames := 0, cells := 0, slots := 0, locals := 0 } : Room).slots) := by
  refine MetFree.of_bodySF (Jvm.Free.JP.mathPlain rfl (by decide +kernel)) hisR ?_
  intro p e s m args below meth c s₁ Bd hml0 hP hK
  obtain ⟨rfl, hZ, hh⟩ := hP
  have hx := Bd.exec
  have hby := Bd.bytes
  have hml : c.maxLocals = 2 := hml0
  have hown : s.vm.findClass "java/lang/Math" = some m.cls := findClass_of_methodNamed Bd.named
  have hnm := (name_of_methodNamed Bd.named Bd.method).1
  have X0 : Stand p l e ({ frames := 0, cells := 0, slots := 0, locals := 0 } : Room) s m #[(.int a_), (.int b_)] below meth c s₁ [] 0 0 := Stand.of_body Bd
  have e0 : s₁.heap = h0 := by rw [← hh, Bd.state]; rfl
  have N0 := Fr.nil n0
  refine own_enter (ef_rmMb m a_ b_) ?_
  refine own_st (fun t_ k_ => XS.iloadN X0.here hx rfl (hb hby d1_0) rfl (XS.iloadN X0.here hx rfl (hb hby d1_1) rfl (XS.icmpYes X0.here hx rfl (pc0 := 2) (pc' := 9) rfl (hb hby d1_2) rfl (tlt h).2.2.1 (by decide) (by decide) (XS.iloadN X0.here hx rfl (hb hby d1_9) rfl k_)))) ?_
  show own_Go p e below s₁ (mkF m 10 #[.val (.int a_), .val (.int b_)] [(.int b_)]) _
  obtain ⟨fs, hr, hrun, hended, hW, hsame⟩ := X0.leave (v := some (.int b_)) (fun h => by rw [Bd.returns] at h; cases h)
  refine own_fin (own_retI X0 hx Bd.returns (hb hby d1_10) hr) ⟨hrun, hended, _, _, rfl, ?_, ⟨_, rfl⟩, hW, hsame.mono (by decide) (by decide)⟩
  show Q_rmMb Z a_ b_ h0 n0 _ s₁.heap _
  rw [e0]
  exact ⟨rfl, N0, rfl⟩
abbrev own_y12 : MethodName := ⟨"java/util/Arrays", "checkLength", "(II)V"⟩
abbrev own_c39 : ByteArray := jdk_65_method_131_code
theorem d39_0 : decode own_c39 0 = .ok (.iload_n 1, 1) := by decide +kernel
theorem d39_1 : decode own_c39 1 = .ok (.iload_n 0, 1) := by decide +kernel
theorem d39_2 : decode own_c39 2 = .ok (.if_icmp .ge 35, 3) := by decide +kernel
theorem d39_37 : decode own_c39 37 = .ok (.return_, 1) := by decide +kernel
theorem pn_39 : plainName "java/util/Arrays" = true := by first | (simp [plainName, overriddenIn]; done) | decide +kernel
theorem ef_rmCl (m : MethodId) (x0 : Int32) (x1 : Int32) : entryFrame m #[(.int x0), (.int x1)] 2 = mkF m 0 #[.val (.int x0), .val (.int x1)] [] := by first | (simp [entryFrame, mkF, argsToLocals, Value.category]; done) | rfl
def Q_rmCl (Z : State) (a_ : Int32) (e_ : Int32) (h0 : Heap) (n0 : Nat) (v : Option Value) (h : Heap) (L : List Loc) : Prop := v = none ∧ Fr n0 L ∧ h = h0
set_option maxRecDepth 65536 in
set_option maxHeartbeats 40000000 in
theorem rmCl (l : Launch) (Z : State) (a0 : Array Value) (hw : ∀ d ∈ tables_1, d.before a0 Z = true) (ws : List Jvm.Cond) (a_ : Int32) (e_ : Int32) (h0 : Heap) (n0 : Nat) (Z0 : n0 ≤ h0.size) (hea : (¬ (e_ < a_))) :
    MetFree l own_y12 (head1 (Jvm.Cond.code own_y12 jdk_65_method_131_code 2 none :: ws) ({ frames := 0, cells := 0, slots := 0, locals := 0 } : Room)) (fun a U => a = #[(.int a_), (.int e_)] ∧ Z.Warmed39 U.vm ∧ U.heap = h0) (fun _ _ _ _ _ => True) (fun _ U o U' => ∃ v L, o = .returned v ∧ Q_rmCl Z a_ e_ h0 n0 v U'.heap L ∧ FrameEnd U o U' L ({ frames := 0, cells := 0, slots := 0, locals := 0 } : Room).cells ({ frames := 0, cells := 0, slots := 0, locals := 0 } : Room).slots) := by
  refine MetFree.of_bodySF (plainFor_of_name pn_39) hisR ?_
  intro p e s m args below meth c s₁ Bd hml0 hP hK
  obtain ⟨rfl, hZ, hh⟩ := hP
  have hx := Bd.exec
  have hby := Bd.bytes
  have hml : c.maxLocals = 2 := hml0
  have hown : s.vm.findClass "java/util/Arrays" = some m.cls := findClass_of_methodNamed Bd.named
  have hnm := (name_of_methodNamed Bd.named Bd.method).1
  have X0 : Stand p l e ({ frames := 0, cells := 0, slots := 0, locals := 0 } : Room) s m #[(.int a_), (.int e_)] below meth c s₁ [] 0 0 := Stand.of_body Bd
  have e0 : s₁.heap = h0 := by rw [← hh, Bd.state]; rfl
  have N0 := Fr.nil n0
  refine own_enter (ef_rmCl m a_ e_) ?_
  refine own_st (fun t_ k_ => XS.iloadN X0.here hx rfl (hb hby d39_0) rfl (XS.iloadN X0.here hx rfl (hb hby d39_1) rfl (XS.icmpYes X0.here hx rfl (pc0 := 2) (pc' := 37) rfl (hb hby d39_2) rfl (flt hea).2.1 (by decide) (by decide) k_))) ?_
  obtain ⟨fs, hr, hrun, hended, hW, hsame⟩ := X0.leave (v := none) (fun _ => rfl)
  refine own_fin (X0.returnOut hx Bd.returns (hb hby d39_37) hr) ⟨hrun, hended, _, _, rfl, ?_, ⟨_, rfl⟩, hW, hsame.mono (by decide) (by decide)⟩
  show Q_rmCl Z a_ e_ h0 n0 _ s₁.heap _
  rw [e0]
  exact ⟨rfl, N0, rfl⟩
abbrev own_y13 : MethodName := ⟨"java/util/Arrays", "copyOfRangeByte", "([BII)[B"⟩
abbrev own_c38 : ByteArray := jdk_65_method_133_code
theorem d38_0 : decode own_c38 0 = .ok (.iload_n 1, 1) := by decide +kernel
theorem d38_1 : decode own_c38 1 = .ok (.iload_n 2, 1) := by decide +kernel
theorem d38_2 : decode own_c38 2 = .ok (.invokestatic 343, 3) := by decide +kernel
theorem d38_5 : decode own_c38 5 = .ok (.iload_n 2, 1) := by decide +kernel
theorem d38_6 : decode own_c38 6 = .ok (.iload_n 1, 1) := by decide +kernel
theorem d38_7 : decode own_c38 7 = .ok (.isub, 1) := by decide +kernel
theorem d38_8 : decode own_c38 8 = .ok (.istore_n 3, 1) := by decide +kernel
theorem d38_9 : decode own_c38 9 = .ok (.iload_n 3, 1) := by decide +kernel
theorem d38_10 : decode own_c38 10 = .ok (.newarray .byte, 2) := by decide +kernel
theorem d38_12 : decode own_c38 12 = .ok (.astore 4, 2) := by decide +kernel
theorem d38_14 : decode own_c38 14 = .ok (.aload_n 0, 1) := by decide +kernel
theorem d38_15 : decode own_c38 15 = .ok (.iload_n 1, 1) := by decide +kernel
theorem d38_16 : decode own_c38 16 = .ok (.aload 4, 2) := by decide +kernel
theorem d38_18 : decode own_c38 18 = .ok (.iconst 0, 1) := by decide +kernel
theorem d38_19 : decode own_c38 19 = .ok (.aload_n 0, 1) := by decide +kernel
theorem d38_20 : decode own_c38 20 = .ok (.arraylength, 1) := by decide +kernel
theorem d38_21 : decode own_c38 21 = .ok (.iload_n 1, 1) := by decide +kernel
theorem d38_22 : decode own_c38 22 = .ok (.isub, 1) := by decide +kernel
theorem d38_23 : decode own_c38 23 = .ok (.iload_n 3, 1) := by decide +kernel
theorem d38_24 : decode own_c38 24 = .ok (.invokestatic 304, 3) := by decide +kernel
theorem d38_27 : decode own_c38 27 = .ok (.invokestatic 150, 3) := by decide +kernel
theorem d38_30 : decode own_c38 30 = .ok (.aload 4, 2) := by decide +kernel
theorem d38_32 : decode own_c38 32 = .ok (.areturn, 1) := by decide +kernel
theorem pn_38 : plainName "java/util/Arrays" = true := by first | (simp [plainName, overriddenIn]; done) | decide +kernel
theorem pd__II_V : parseMethodDescriptor "(II)V" = some ⟨[.int, .int], none⟩ := by decide +kernel
theorem pd__II_I : parseMethodDescriptor "(II)I" = some ⟨[.int, .int], some .int⟩ := by decide +kernel
theorem ef_rmCr (m : MethodId) (x0 : Addr) (x1 : Int32) (x2 : Int32) : entryFrame m #[(.ref x0), (.int x1), (.int x2)] 5 = mkF m 0 #[.val (.ref x0), .val (.int x1), .val (.int x2), .unset, .unset] [] := by first | (simp [entryFrame, mkF, argsToLocals, Value.category]; done) | rfl
def Q_rmCr (Z : State) (va : Addr) (kva : ClassId) (cap : Int32) (k : Int32) (bs : List Value) (rest : List Value) (h0 : Heap) (n0 : Nat) (v : Option Value) (h : Heap) (L : List Loc) : Prop := ∃ b : Addr, ∃ kb : ClassId, v = some (.ref b) ∧ Fr n0 L ∧ Keep h0 h [] ∧ Arv Z h b kb .byte k bs (.int 0) ∧ h0.size ≤ b ∧ n0 ≤ b
set_option maxRecDepth 65536 in
set_option maxHeartbeats 40000000 in
theorem rmCr (l : Launch) (Z : State) (a0 : Array Value) (hw : ∀ d ∈ tables_1, d.before a0 Z = true) (ws : List Jvm.Cond) (va : Addr) (kva : ClassId) (cap : Int32) (k : Int32) (bs : List Value) (rest : List Value) (h0 : Heap) (n0 : Nat) (Z0 : n0 ≤ h0.size) (pV_va : Arv Z h0 va kva .byte cap (bs ++ rest) (.int 0)) (hk : (k.toInt = (bs.length : Int))) (hcap : (cap.toInt = ((bs.length + rest.length : Nat) : Int))) (hlt : (0 < rest.length)) (hbig : (bs.length ≤ 84)) :
    MetFree l own_y13 (head1 (Jvm.Cond.code own_y13 jdk_65_method_133_code 5 (some (.array .byte)) :: ws) ({ frames := 1, cells := 1, slots := 84, locals := 120 } : Room)) (fun a U => a = #[(.ref va), (.int (0 : Int32)), (.int k)] ∧ Z.Warmed39 U.vm ∧ U.heap = h0) (fun _ _ _ _ _ => True) (fun _ U o U' => ∃ v L, o = .returned v ∧ Q_rmCr Z va kva cap k bs rest h0 n0 v U'.heap L ∧ FrameEnd U o U' L ({ frames := 1, cells := 1, slots := 84, locals := 120 } : Room).cells ({ frames := 1, cells := 1, slots := 84, locals := 120 } : Room).slots) := by
  refine MetFree.of_bodySF (plainFor_of_name pn_38) hisR ?_
  intro p e s m args below meth c s₁ Bd hml0 hP hK
  obtain ⟨rfl, hZ, hh⟩ := hP
  have hx := Bd.exec
  have hby := Bd.bytes
  have hml : c.maxLocals = 5 := hml0
  have hown : s.vm.findClass "java/util/Arrays" = some m.cls := findClass_of_methodNamed Bd.named
  have hnm := (name_of_methodNamed Bd.named Bd.method).1
  have X0 : Stand p l e ({ frames := 1, cells := 1, slots := 84, locals := 120 } : Room) s m #[(.ref va), (.int (0 : Int32)), (.int k)] below meth c s₁ [] 0 0 := Stand.of_body Bd
  have e0 : s₁.heap = h0 := by rw [← hh, Bd.state]; rfl
  have N0 := Fr.nil n0
  refine own_enter (ef_rmCr m va ((0 : Int32)) k) ?_
  have hkz : k < cap := by rw [Int32.lt_iff_toInt_lt]; omega
  refine own_st (fun t_ k_ => XS.iloadN X0.here hx rfl (hb hby d38_0) rfl (XS.iloadN X0.here hx rfl (hb hby d38_1) rfl k_)) ?_
  obtain ⟨_, _, ⟨T1, L1, k1, n1⟩, -, X1, ⟨Lc1, hQ1, l1, y1, z1⟩, st1⟩ := Jvm.LawKit.callS X0 hx (y := own_y12) hown (mvT hZ (own_w hw 246 rfl)) (mvT hZ (own_w hw 247 rfl)) (mvT hZ (own_w hw 195 rfl)) (mvT hZ (own_w hw 248 rfl)) (by decide) (backOf (W := 0) (rmCl l Z a0 hw [] ((0 : Int32)) k h0 n0 Z0 (own_nonneg hk)) hZ (own_w hw 248 rfl) (own_w hw 195 rfl) (by decide) (by decide)) (g := (mkF m 2 #[.val (.ref va), .val (.int (0 : Int32)), .val (.int k), .unset, .unset] [(.int k), (.int (0 : Int32))])) rfl (by rw [hml]; rfl) (argsL := [(.int (0 : Int32)), (.int k)]) (rest := []) (lenOf pd__II_V rfl) rfl (by show 2 * 0 + _ ≤ _; exact Nat.le_of_eq rfl) (hb hby d38_2) (fun _ _ => ⟨rfl, e0, (by decide : 0 + 0 ≤ _), (by decide : 0 + 0 ≤ _)⟩)
  dsimp only [Pt.U, Pt.locs, Pt.cells, Pt.slots] at X1 l1 y1 z1 st1 hQ1
  try dsimp only [Nat.reduceAdd] at y1 z1
  rw [l1, y1, z1] at X1
  obtain ⟨rfl, Nq1, eH1⟩ := hQ1
  have N1 := Fr.app N0 Nq1
  refine own_st st1 ?_
  refine own_st (fun t_ k_ => XS.iloadN X1.here hx rfl (hb hby d38_5) rfl (XS.iloadN X1.here hx rfl (hb hby d38_6) rfl (XS.isub X1.here hx rfl (hb hby d38_7) rfl k_))) ?_
  show own_Go p e below T1 (mkF m 8 #[.val (.ref va), .val (.int (0 : Int32)), .val (.int k), .unset, .unset] [(.int (k - (0 : Int32)))]) _
  rw [own_sub0 k]
  show own_Go p e below T1 (mkF m 8 #[.val (.ref va), .val (.int (0 : Int32)), .val (.int k), .unset, .unset] [(.int k)]) _
  refine own_st (fun t_ k_ => XS.istoreN X1.here hx rfl (hb hby d38_8) rfl (l' := #[.val (.ref va), .val (.int (0 : Int32)), .val (.int k), .val (.int k), .unset]) rfl (XS.iloadN X1.here hx rfl (hb hby d38_9) rfl k_)) ?_
  obtain ⟨T2, h2, k2, X2, e2, E2, A2, st2⟩ := newP X1 hx hZ (own_w hw 27 rfl) eH1 (g := (mkF m 10 #[.val (.ref va), .val (.int (0 : Int32)), .val (.int k), .val (.int k), .unset] [(.int k)])) rfl (hb hby d38_10) rfl (own_nonneg hk) (cap := 84) (by rw [own_clamp hk]; exact hbig) (by decide) (by decide) (by decide)
  obtain ⟨b2, g2⟩ : ∃ z, z = h0.size := ⟨_, rfl⟩
  rw [← g2] at A2 st2
  have G2 : n0 ≤ b2 := Nat.le_trans Z0 (Nat.le_of_eq g2.symm)
  have B2 : h0.size ≤ b2 := Nat.le_trans (Keep.refl h0 []).1 (Nat.le_of_eq g2.symm)
  have K3 : Keep h0 h2 [] := (Keep.refl h0 []).ext E2
  have V2 : Arv Z h2 b2 k2 .byte k [] (.int (0 : Int32)) := Arv.new A2 (own_nonneg hk)
  refine own_st st2 ?_
  have Vp : Arv Z h2 b2 k2 .byte k (List.replicate bs.length (.int (0 : Int32))) (.int (0 : Int32)) := V2.pad (pad_rep [] (.int (0 : Int32)) bs.length)
  refine own_st (fun t_ k_ => XS.astore X2.here hx rfl (hb hby d38_12) rfl rfl (l' := #[.val (.ref va), .val (.int (0 : Int32)), .val (.int k), .val (.int k), .val (.ref b2)]) rfl (XS.aloadN X2.here hx rfl (hb hby d38_14) rfl rfl (XS.iloadN X2.here hx rfl (hb hby d38_15) rfl (XS.aload X2.here hx rfl (hb hby d38_16) rfl rfl (XS.iconst X2.here hx rfl (hb hby d38_18) (XS.aloadN X2.here hx rfl (hb hby d38_19) rfl rfl k_)))))) ?_
  show own_Go p e below T2 (mkF m 20 #[.val (.ref va), .val (.int (0 : Int32)), .val (.int k), .val (.int k), .val (.ref b2)] [(.ref va), (.int (0 : Int32)), (.ref b2), (.int (0 : Int32)), (.ref va)]) _
  have f4 := (pV_va.ext E2)
  obtain ⟨cl5, Ar5, q5, Sz5, Nn5, Hh5, Gg5⟩ := id f4
  refine own_st (fun t_ k_ => X2.arraylength hx (by rw [e2]; exact Ar5.1) (State.isArrayOf_alike hZ.alike Ar5.2.1) (g := (mkF m 20 #[.val (.ref va), .val (.int (0 : Int32)), .val (.int k), .val (.int k), .val (.ref b2)] [(.ref va), (.int (0 : Int32)), (.ref b2), (.int (0 : Int32)), (.ref va)])) rfl rfl (hb hby d38_20) _ k_) ?_
  rw [len_of Sz5 Nn5]
  show own_Go p e below T2 (mkF m 21 #[.val (.ref va), .val (.int (0 : Int32)), .val (.int k), .val (.int k), .val (.ref b2)] [(.int cap), (.int (0 : Int32)), (.ref b2), (.int (0 : Int32)), (.ref va)]) _
  refine own_st (fun t_ k_ => XS.iloadN X2.here hx rfl (hb hby d38_21) rfl (XS.isub X2.here hx rfl (hb hby d38_22) rfl k_)) ?_
  show own_Go p e below T2 (mkF m 23 #[.val (.ref va), .val (.int (0 : Int32)), .val (.int k), .val (.int k), .val (.ref b2)] [(.int (cap - (0 : Int32))), (.int (0 : Int32)), (.ref b2), (.int (0 : Int32)), (.ref va)]) _
  rw [own_sub0 cap]
  show own_Go p e below T2 (mkF m 23 #[.val (.ref va), .val (.int (0 : Int32)), .val (.int k), .val (.int k), .val (.ref b2)] [(.int cap), (.int (0 : Int32)), (.ref b2), (.int (0 : Int32)), (.ref va)]) _
  refine own_st (fun t_ k_ => XS.iloadN X2.here hx rfl (hb hby d38_23) rfl k_) ?_
  have f6 := (Nat.le_trans Z0 E2.1)
  obtain ⟨_, _, ⟨T7, L7, k7, n7⟩, -, X7, ⟨Lc7, hQ7, l7, y7, z7⟩, st7⟩ := Jvm.LawKit.callS X2 hx (y := own_y11) hown (mvT hZ (own_w hw 197 rfl)) (mvT hZ (own_w hw 1 rfl)) (mvT hZ (own_w hw 2 rfl)) (mvT hZ (own_w hw 3 rfl)) (by decide) (backOf (W := 4) (rmMb l Z a0 hw [] cap k h2 n0 f6 hkz) hZ (own_w hw 3 rfl) (own_w hw 2 rfl) (by decide) (by decide)) (g := (mkF m 24 #[.val (.ref va), .val (.int (0 : Int32)), .val (.int k), .val (.int k), .val (.ref b2)] [(.int k), (.int cap), (.int (0 : Int32)), (.ref b2), (.int (0 : Int32)), (.ref va)])) rfl (by rw [hml]; rfl) (argsL := [(.int cap), (.int k)]) (rest := [(.int (0 : Int32)), (.ref b2), (.int (0 : Int32)), (.ref va)]) (lenOf pd__II_I rfl) rfl (by show 2 * 0 + _ ≤ _; exact Nat.le_of_eq rfl) (hb hby d38_24) (fun _ _ => ⟨rfl, e2, (by decide : 1 + 0 ≤ _), (by decide : 84 + 0 ≤ _)⟩)
  dsimp only [Pt.U, Pt.locs, Pt.cells, Pt.slots] at X7 l7 y7 z7 st7 hQ7
  try dsimp only [Nat.reduceAdd] at y7 z7
  rw [l7, y7, z7] at X7
  obtain ⟨rfl, Nq7, eH7⟩ := hQ7
  have N7 := Fr.app N1 Nq7
  refine own_st st7 ?_
  obtain ⟨T8, h8, L8, X8, e8, N8, Kq8, Va8, st8⟩ := cpA X7 hx hZ hown (own_w hw 198 rfl) (own_w hw 151 rfl) (own_w hw 149 rfl) (own_w hw 150 rfl) eH7 f4 Vp (Or.inl ⟨rfl, rfl⟩) (sp := (0 : Int32)) (dp := (0 : Int32)) (nn := k) (by decide) (by decide) (own_nonneg hk) (by rw [own_clamp hk, own_clamp hcap]; exact Nat.le_trans (Nat.le_of_eq (Nat.zero_add _)) (Nat.le_add_right _ _)) (by rw [own_clamp hk]; exact Nat.le_of_eq (Nat.zero_add _)) (us := bs) (own_range hk) (by rw [own_clamp hk, List.length_replicate]; exact Nat.le_of_eq (Nat.zero_add _)) N7 G2 (g := (mkF m 27 #[.val (.ref va), .val (.int (0 : Int32)), .val (.int k), .val (.int k), .val (.ref b2)] [(.int k), (.int (0 : Int32)), (.ref b2), (.int (0 : Int32)), (.ref va)])) rfl (by rw [hml]; rfl) (rest := []) rfl (hb hby d38_27) (by decide) (W := 0) (by show 2 * 0 + _ ≤ _; exact Nat.le_of_eq rfl) (by decide +kernel)
  rw [own_cp0 hk (List.length_replicate ..)] at Va8
  have K9 : Keep h0 h8 [] := K3.trans Kq8 (allS (Or.inr B2) all0)
  refine own_st st8 ?_
  refine own_st (fun t_ k_ => XS.aload X8.here hx rfl (hb hby d38_30) rfl rfl k_) ?_
  obtain ⟨fs, hr, hrun, hended, hW, hsame⟩ := X8.leave (v := some (.ref b2)) (fun h => by rw [Bd.returns] at h; cases h)
  refine own_fin (own_retR X8 hx rfl Bd.returns rfl (hb hby d38_32) hr) ⟨hrun, hended, _, _, rfl, ?_, ⟨_, rfl⟩, hW, hsame.mono (by decide) (by decide)⟩
  show Q_rmCr Z va kva cap k bs rest h0 n0 _ T8.heap _
  rw [e8]
  exact ⟨b2, k2, rfl, N8, K9, Va8, B2, G2⟩
abbrev own_y14 : MethodName := ⟨"java/util/Arrays", "copyOfRange", "([BII)[B"⟩
abbrev own_c37 : ByteArray := jdk_65_method_132_code
theorem d37_0 : decode own_c37 0 = .ok (.iload_n 1, 1) := by decide +kernel
theorem d37_1 : decode own_c37 1 = .ok (.ifCond .ne 9, 3) := by decide +kernel
theorem d37_4 : decode own_c37 4 = .ok (.iload_n 2, 1) := by decide +kernel
theorem d37_5 : decode own_c37 5 = .ok (.aload_n 0, 1) := by decide +kernel
theorem d37_6 : decode own_c37 6 = .ok (.arraylength, 1) := by decide +kernel
theorem d37_7 : decode own_c37 7 = .ok (.if_icmp .eq 10, 3) := by decide +kernel
theorem d37_10 : decode own_c37 10 = .ok (.aload_n 0, 1) := by decide +kernel
theorem d37_11 : decode own_c37 11 = .ok (.iload_n 1, 1) := by decide +kernel
theorem d37_12 : decode own_c37 12 = .ok (.iload_n 2, 1) := by decide +kernel
theorem d37_13 : decode own_c37 13 = .ok (.invokestatic 339, 3) := by decide +kernel
theorem d37_16 : decode own_c37 16 = .ok (.areturn, 1) := by decide +kernel
theorem pn_37 : plainName "java/util/Arrays" = true := by first | (simp [plainName, overriddenIn]; done) | decide +kernel
theorem pd___BII__B : parseMethodDescriptor "([BII)[B" = some ⟨[(.array .byte), .int, .int], some (.array .byte)⟩ := by decide +kernel
theorem ef_rmCp (m : MethodId) (x0 : Addr) (x1 : Int32) (x2 : Int32) : entryFrame m #[(.ref x0), (.int x1), (.int x2)] 3 = mkF m 0 #[.val (.ref x0), .val (.int x1), .val (.int x2)] [] := by first | (simp [entryFrame, mkF, argsToLocals, Value.category]; done) | rfl
def Q_rmCp (Z : State) (va : Addr) (kva : ClassId) (cap : Int32) (k : Int32) (bs : List Value) (rest : List Value) (h0 : Heap) (n0 : Nat) (v : Option Value) (h : Heap) (L : List Loc) : Prop := ∃ b : Addr, ∃ kb : ClassId, v = some (.ref b) ∧ Fr n0 L ∧ Keep h0 h [] ∧ Arv Z h b kb .byte k bs (.int 0) ∧ h0.size ≤ b ∧ n0 ≤ b
set_option maxRecDepth 65536 in
set_option maxHeartbeats 40000000 in
theorem rmCp (l : Launch) (Z : State) (a0 : Array Value) (hw : ∀ d ∈ tables_1, d.before a0 Z = true) (ws : List Jvm.Cond) (va : Addr) (kva : ClassId) (cap : Int32) (k : Int32) (bs : List Value) (rest : List Value) (h0 : Heap) (n0 : Nat) (Z0 : n0 ≤ h0.size) (pV_va : Arv Z h0 va kva .byte cap (bs ++ rest) (.int 0)) (hk : (k.toInt = (bs.length : Int))) (hcap : (cap.toInt = ((bs.length + rest.length : Nat) : Int))) (hlt : (0 < rest.length)) (hbig : (bs.length ≤ 84)) :
    MetFree l own_y14 (head1 (Jvm.Cond.code own_y14 jdk_65_method_132_code 3 (some (.array .byte)) :: ws) ({ frames := 2, cells := 1, slots := 84, locals := 136 } : Room)) (fun a U => a = #[(.ref va), (.int (0 : Int32)), (.int k)] ∧ Z.Warmed39 U.vm ∧ U.heap = h0) (fun _ _ _ _ _ => True) (fun _ U o U' => ∃ v L, o = .returned v ∧ Q_rmCp Z va kva cap k bs rest h0 n0 v U'.heap L ∧ FrameEnd U o U' L ({ frames := 2, cells := 1, slots := 84, locals := 136 } : Room).cells ({ frames := 2, cells := 1, slots := 84, locals := 136 } : Room).slots) := by
  refine MetFree.of_bodySF (plainFor_of_name pn_37) hisR ?_
  intro p e s m args below meth c s₁ Bd hml0 hP hK
  obtain ⟨rfl, hZ, hh⟩ := hP
  have hx := Bd.exec
  have hby := Bd.bytes
  have hml : c.maxLocals = 3 := hml0
  have hown : s.vm.findClass "java/util/Arrays" = some m.cls := findClass_of_methodNamed Bd.named
  have hnm := (name_of_methodNamed Bd.named Bd.method).1
  have X0 : Stand p l e ({ frames := 2, cells := 1, slots := 84, locals := 136 } : Room) s m #[(.ref va), (.int (0 : Int32)), (.int k)] below meth c s₁ [] 0 0 := Stand.of_body Bd
  have e0 : s₁.heap = h0 := by rw [← hh, Bd.state]; rfl
  have N0 := Fr.nil n0
  refine own_enter (ef_rmCp m va ((0 : Int32)) k) ?_
  have hkz : k < cap := by rw [Int32.lt_iff_toInt_lt]; omega
  have hne : ¬ (k = cap) := fun q => by rw [q, Int32.lt_iff_toInt_lt] at hkz; omega
  refine own_st (fun t_ k_ => XS.iloadN X0.here hx rfl (hb hby d37_0) rfl (XS.ifNo X0.here hx rfl (hb hby d37_1) rfl (by decide) (XS.iloadN X0.here hx rfl (hb hby d37_4) rfl (XS.aloadN X0.here hx rfl (hb hby d37_5) rfl rfl k_)))) ?_
  show own_Go p e below s₁ (mkF m 6 #[.val (.ref va), .val (.int (0 : Int32)), .val (.int k)] [(.ref va), (.int k)]) _
  obtain ⟨cl1, Ar1, q1, Sz1, Nn1, Hh1, Gg1⟩ := id pV_va
  refine own_st (fun t_ k_ => X0.arraylength hx (by rw [e0]; exact Ar1.1) (State.isArrayOf_alike hZ.alike Ar1.2.1) (g := (mkF m 6 #[.val (.ref va), .val (.int (0 : Int32)), .val (.int k)] [(.ref va), (.int k)])) rfl rfl (hb hby d37_6) _ k_) ?_
  rw [len_of Sz1 Nn1]
  show own_Go p e below s₁ (mkF m 7 #[.val (.ref va), .val (.int (0 : Int32)), .val (.int k)] [(.int cap), (.int k)]) _
  refine own_st (fun t_ k_ => XS.icmpNo X0.here hx rfl (hb hby d37_7) rfl (feq hne).1 (XS.aloadN X0.here hx rfl (hb hby d37_10) rfl rfl (XS.iloadN X0.here hx rfl (hb hby d37_11) rfl (XS.iloadN X0.here hx rfl (hb hby d37_12) rfl k_)))) ?_
  show own_Go p e below s₁ (mkF m 13 #[.val (.ref va), .val (.int (0 : Int32)), .val (.int k)] [(.int k), (.int (0 : Int32)), (.ref va)]) _
  obtain ⟨_, _, ⟨T2, L2, k2, n2⟩, -, X2, ⟨Lc2, hQ2, l2, y2, z2⟩, st2⟩ := Jvm.LawKit.callS X0 hx (y := own_y13) hown (mvT hZ (own_w hw 243 rfl)) (mvT hZ (own_w hw 244 rfl)) (mvT hZ (own_w hw 195 rfl)) (mvT hZ (own_w hw 245 rfl)) (by decide) (backOf (W := 0) (rmCr l Z a0 hw [] va kva cap k bs rest h0 n0 Z0 pV_va hk hcap hlt hbig) hZ (own_w hw 245 rfl) (own_w hw 195 rfl) (by decide) (by decide)) (g := (mkF m 13 #[.val (.ref va), .val (.int (0 : Int32)), .val (.int k)] [(.int k), (.int (0 : Int32)), (.ref va)])) rfl (by rw [hml]; rfl) (argsL := [(.ref va), (.int (0 : Int32)), (.int k)]) (rest := []) (lenOf pd___BII__B rfl) rfl (by show 2 * 0 + _ ≤ _; exact Nat.le_of_eq rfl) (hb hby d37_13) (fun _ _ => ⟨rfl, e0, (by decide : 0 + 1 ≤ _), (by decide : 0 + 84 ≤ _)⟩)
  dsimp only [Pt.U, Pt.locs, Pt.cells, Pt.slots] at X2 l2 y2 z2 st2 hQ2
  try dsimp only [Nat.reduceAdd] at y2 z2
  rw [l2, y2, z2] at X2
  obtain ⟨b_2, kb_2, rfl, Nq2, Kq2, q2_0, q2_1, q2_2⟩ := hQ2
  have N2 := Fr.app N0 Nq2
  have K3 : Keep h0 T2.heap [] := (Keep.refl h0 []).trans Kq2 all0
  have Bf4 : h0.size ≤ b_2 := Nat.le_trans (Keep.refl h0 []).1 q2_1
  refine own_st st2 ?_
  obtain ⟨fs, hr, hrun, hended, hW, hsame⟩ := X2.leave (v := some (.ref b_2)) (fun h => by rw [Bd.returns] at h; cases h)
  refine own_fin (own_retR X2 hx rfl Bd.returns rfl (hb hby d37_16) hr) ⟨hrun, hended, _, _, rfl, ?_, ⟨_, rfl⟩, hW, hsame.mono (by decide) (by decide)⟩
  show Q_rmCp Z va kva cap k bs rest h0 n0 _ T2.heap _
  exact ⟨b_2, kb_2, rfl, N2, K3, q2_0, Bf4, q2_2⟩
abbrev own_c34 : ByteArray := jdk_68_method_64_code
theorem d34_0 : decode own_c34 0 = .ok (.aload_n 0, 1) := by decide +kernel
theorem d34_1 : decode own_c34 1 = .ok (.getfield 15, 3) := by decide +kernel
theorem d34_4 : decode own_c34 4 = .ok (.areturn, 1) := by decide +kernel
theorem pn_34 : plainName "java/lang/AbstractStringBuilder" = true := by first | (simp [plainName, overriddenIn]; done) | decide +kernel
theorem ef_rmGv (m : MethodId) (x0 : Addr) : entryFrame m #[(.ref x0)] 1 = mkF m 0 #[.val (.ref x0)] [] := by first | (simp [entryFrame, mkF, argsToLocals, Value.category]; done) | rfl
def Q_rmGv (Z : State) (a1 : Addr) (va : Addr) (h0 : Heap) (n0 : Nat) (v : Option Value) (h : Heap) (L : List Loc) : Prop := v = some (.ref va) ∧ Fr n0 L ∧ h = h0
set_option maxRecDepth 65536 in
set_option maxHeartbeats 40000000 in
theorem rmGv (l : Launch) (Z : State) (a0 : Array Value) (hw : ∀ d ∈ tables_1, d.before a0 Z = true) (ws : List Jvm.Cond) (a1 : Addr) (va : Addr) (h0 : Heap) (n0 : Nat) (Z0 : n0 ≤ h0.size) (pE_a1 : Exa Z h0 a1 "java/lang/StringBuilder") (pF_value_a1 : Fld Z h0 a1 "java/lang/AbstractStringBuilder" "value" "[B" (.ref va)) :
    MetFree l own_y9 (head1 (Jvm.Cond.code own_y9 jdk_68_method_64_code 1 (some (.array .byte)) :: ws) ({ frames := 0, cells := 0, slots := 0, locals := 0 } : Room)) (fun a U => a = #[(.ref a1)] ∧ Z.Warmed39 U.vm ∧ U.heap = h0) (fun _ _ _ _ _ => True) (fun _ U o U' => ∃ v L, o = .returned v ∧ Q_rmGv Z a1 va h0 n0 v U'.heap L ∧ FrameEnd U o U' L ({ frames := 0, cells := 0, slots := 0, locals := 0 } : Room).cells ({ frames := 0, cells := 0, slots := 0, locals := 0 } : Room).slots) := by
  refine MetFree.of_bodySF (plainFor_of_name pn_34) hisR ?_
  intro p e s m args below meth c s₁ Bd hml0 hP hK
  obtain ⟨rfl, hZ, hh⟩ := hP
  have hx := Bd.exec
  have hby := Bd.bytes
  have hml : c.maxLocals = 1 := hml0
  have hown : s.vm.findClass "java/lang/AbstractStringBuilder" = some m.cls := findClass_of_methodNamed Bd.named
  have hnm := (name_of_methodNamed Bd.named Bd.method).1
  have X0 : Stand p l e ({ frames := 0, cells := 0, slots := 0, locals := 0 } : Room) s m #[(.ref a1)] below meth c s₁ [] 0 0 := Stand.of_body Bd
  have e0 : s₁.heap = h0 := by rw [← hh, Bd.state]; rfl
  have N0 := Fr.nil n0
  refine own_enter (ef_rmGv m a1) ?_
  refine own_st (fun t_ k_ => XS.aloadN X0.here hx rfl (hb hby d34_0) rfl rfl k_) ?_
  obtain ⟨T1, X1, e1, st1⟩ := getF X0 hx hZ hown (host := "") (Or.inl (own_w hw 97 rfl)) Via.refl e0 pF_value_a1 (g := (mkF m 1 #[.val (.ref a1)] [(.ref a1)])) rfl rfl (hb hby d34_1)
  refine own_st st1 ?_
  obtain ⟨fs, hr, hrun, hended, hW, hsame⟩ := X1.leave (v := some (.ref va)) (fun h => by rw [Bd.returns] at h; cases h)
  refine own_fin (own_retR X1 hx rfl Bd.returns rfl (hb hby d34_4) hr) ⟨hrun, hended, _, _, rfl, ?_, ⟨_, rfl⟩, hW, hsame.mono (by decide) (by decide)⟩
  show Q_rmGv Z a1 va h0 n0 _ T1.heap _
  rw [e1]
  exact ⟨rfl, N0, rfl⟩
abbrev own_y15 : MethodName := ⟨"java/lang/AbstractStringBuilder", "length", "()I"⟩
abbrev own_c36 : ByteArray := jdk_68_method_6_code
theorem d36_0 : decode own_c36 0 = .ok (.aload_n 0, 1) := by decide +kernel
theorem d36_1 : decode own_c36 1 = .ok (.getfield 79, 3) := by decide +kernel
theorem d36_4 : decode own_c36 4 = .ok (.ireturn, 1) := by decide +kernel
theorem pn_36 : plainName "java/lang/AbstractStringBuilder" = true := by first | (simp [plainName, overriddenIn]; done) | decide +kernel
theorem ef_rmAl (m : MethodId) (x0 : Addr) : entryFrame m #[(.ref x0)] 1 = mkF m 0 #[.val (.ref x0)] [] := by first | (simp [entryFrame, mkF, argsToLocals, Value.category]; done) | rfl
def Q_rmAl (Z : State) (a1 : Addr) (k : Int32) (h0 : Heap) (n0 : Nat) (v : Option Value) (h : Heap) (L : List Loc) : Prop := v = some (.int k) ∧ Fr n0 L ∧ h = h0
set_option maxRecDepth 65536 in
set_option maxHeartbeats 40000000 in
theorem rmAl (l : Launch) (Z : State) (a0 : Array Value) (hw : ∀ d ∈ tables_1, d.before a0 Z = true) (ws : List Jvm.Cond) (a1 : Addr) (k : Int32) (h0 : Heap) (n0 : Nat) (Z0 : n0 ≤ h0.size) (pE_a1 : Exa Z h0 a1 "java/lang/StringBuilder") (pF_count_a1 : Fld Z h0 a1 "java/lang/AbstractStringBuilder" "count" "I" (.int k)) :
    MetFree l own_y15 (head1 (Jvm.Cond.code own_y15 jdk_68_method_6_code 1 (some .int) :: ws) ({ frames := 0, cells := 0, slots := 0, locals := 0 } : Room)) (fun a U => a = #[(.ref a1)] ∧ Z.Warmed39 U.vm ∧ U.heap = h0) (fun _ _ _ _ _ => True) (fun _ U o U' => ∃ v L, o = .returned v ∧ Q_rmAl Z a1 k h0 n0 v U'.heap L ∧ FrameEnd U o U' L ({ frames := 0, cells := 0, slots := 0, locals := 0 } : Room).cells ({ frames := 0, cells := 0, slots := 0, locals := 0 } : Room).slots) := by
  refine MetFree.of_bodySF (plainFor_of_name pn_36) hisR ?_
  intro p e s m args below meth c s₁ Bd hml0 hP hK
  obtain ⟨rfl, hZ, hh⟩ := hP
  have hx := Bd.exec
  have hby := Bd.bytes
  have hml : c.maxLocals = 1 := hml0
  have hown : s.vm.findClass "java/lang/AbstractStringBuilder" = some m.cls := findClass_of_methodNamed Bd.named
  have hnm := (name_of_methodNamed Bd.named Bd.method).1
  have X0 : Stand p l e ({ frames := 0, cells := 0, slots := 0, locals := 0 } : Room) s m #[(.ref a1)] below meth c s₁ [] 0 0 := Stand.of_body Bd
  have e0 : s₁.heap = h0 := by rw [← hh, Bd.state]; rfl
  have N0 := Fr.nil n0
  refine own_enter (ef_rmAl m a1) ?_
  refine own_st (fun t_ k_ => XS.aloadN X0.here hx rfl (hb hby d36_0) rfl rfl k_) ?_
  obtain ⟨T1, X1, e1, st1⟩ := getF X0 hx hZ hown (host := "") (Or.inl (own_w hw 125 rfl)) Via.refl e0 pF_count_a1 (g := (mkF m 1 #[.val (.ref a1)] [(.ref a1)])) rfl rfl (hb hby d36_1)
  refine own_st st1 ?_
  obtain ⟨fs, hr, hrun, hended, hW, hsame⟩ := X1.leave (v := some (.int k)) (fun h => by rw [Bd.returns] at h; cases h)
  refine own_fin (own_retI X1 hx Bd.returns (hb hby d36_4) hr) ⟨hrun, hended, _, _, rfl, ?_, ⟨_, rfl⟩, hW, hsame.mono (by decide) (by decide)⟩
  show Q_rmAl Z a1 k h0 n0 _ T1.heap _
  rw [e1]
  exact ⟨rfl, N0, rfl⟩
abbrev own_y16 : MethodName := ⟨"java/lang/StringBuilder", "length", "()I"⟩
abbrev own_c35 : ByteArray := jdk_67_method_93_code
theorem d35_0 : decode own_c35 0 = .ok (.aload_n 0, 1) := by decide +kernel
theorem d35_1 : decode own_c35 1 = .ok (.invokespecial 343, 3) := by decide +kernel
theorem d35_4 : decode own_c35 4 = .ok (.ireturn, 1) := by decide +kernel
theorem pn_35 : plainName "java/lang/StringBuilder" = true := by first | (simp [plainName, overriddenIn]; done) | decide +kernel
theorem ef_rmSl (m : MethodId) (x0 : Addr) : entryFrame m #[(.ref x0)] 1 = mkF m 0 #[.val (.ref x0)] [] := by first | (simp [entryFrame, mkF, argsToLocals, Value.category]; done) | rfl
def Q_rmSl (Z : State) (a1 : Addr) (k : Int32) (h0 : Heap) (n0 : Nat) (v : Option Value) (h : Heap) (L : List Loc) : Prop := v = some (.int k) ∧ Fr n0 L ∧ h = h0
set_option maxRecDepth 65536 in
set_option maxHeartbeats 40000000 in
theorem rmSl (l : Launch) (Z : State) (a0 : Array Value) (hw : ∀ d ∈ tables_1, d.before a0 Z = true) (ws : List Jvm.Cond) (a1 : Addr) (k : Int32) (h0 : Heap) (n0 : Nat) (Z0 : n0 ≤ h0.size) (pE_a1 : Exa Z h0 a1 "java/lang/StringBuilder") (pF_count_a1 : Fld Z h0 a1 "java/lang/AbstractStringBuilder" "count" "I" (.int k)) :
    MetFree l own_y16 (head1 (Jvm.Cond.code own_y16 jdk_67_method_93_code 1 (some .int) :: ws) ({ frames := 1, cells := 0, slots := 0, locals := 12 } : Room)) (fun a U => a = #[(.ref a1)] ∧ Z.Warmed39 U.vm ∧ U.heap = h0) (fun _ _ _ _ _ => True) (fun _ U o U' => ∃ v L, o = .returned v ∧ Q_rmSl Z a1 k h0 n0 v U'.heap L ∧ FrameEnd U o U' L ({ frames := 1, cells := 0, slots := 0, locals := 12 } : Room).cells ({ frames := 1, cells := 0, slots := 0, locals := 12 } : Room).slots) := by
  refine MetFree.of_bodySF (plainFor_of_name pn_35) hisR ?_
  intro p e s m args below meth c s₁ Bd hml0 hP hK
  obtain ⟨rfl, hZ, hh⟩ := hP
  have hx := Bd.exec
  have hby := Bd.bytes
  have hml : c.maxLocals = 1 := hml0
  have hown : s.vm.findClass "java/lang/StringBuilder" = some m.cls := findClass_of_methodNamed Bd.named
  have hnm := (name_of_methodNamed Bd.named Bd.method).1
  have X0 : Stand p l e ({ frames := 1, cells := 0, slots := 0, locals := 12 } : Room) s m #[(.ref a1)] below meth c s₁ [] 0 0 := Stand.of_body Bd
  have e0 : s₁.heap = h0 := by rw [← hh, Bd.state]; rfl
  have N0 := Fr.nil n0
  refine own_enter (ef_rmSl m a1) ?_
  refine own_st (fun t_ k_ => XS.aloadN X0.here hx rfl (hb hby d35_0) rfl rfl k_) ?_
  obtain ⟨_, _, ⟨T1, L1, k1, n1⟩, -, X1, ⟨Lc1, hQ1, l1, y1, z1⟩, st1⟩ := superBack X0 hx hZ (y := own_y15) hown (own_w hw 237 rfl) (own_same (y := own_y15) (y' := own_y9) (own_w hw 232 rfl) (own_w hw 229 rfl) rfl (by decide)) (own_w hw 233 rfl) (own_w hw 109 rfl) (by decide) (backOf (W := 0) (rmAl l Z a0 hw [] a1 k h0 n0 Z0 pE_a1 pF_count_a1) hZ (own_w hw 238 rfl) (own_w hw 93 rfl) (by decide) (by decide)) e0 (Ins.self pE_a1) (g := (mkF m 1 #[.val (.ref a1)] [(.ref a1)])) rfl (by rw [hml]; rfl) (own_w hw 238 rfl) (argsL := []) (rest := []) (lenOf pd___I rfl) rfl (by show 2 * 0 + _ ≤ _; exact Nat.le_of_eq rfl) (hb hby d35_1) (fun _ _ => ⟨rfl, e0, (by decide : 0 + 0 ≤ _), (by decide : 0 + 0 ≤ _)⟩)
  dsimp only [Pt.U, Pt.locs, Pt.cells, Pt.slots] at X1 l1 y1 z1 st1 hQ1
  try dsimp only [Nat.reduceAdd] at y1 z1
  rw [l1, y1, z1] at X1
  obtain ⟨rfl, Nq1, eH1⟩ := hQ1
  have N1 := Fr.app N0 Nq1
  refine own_tr st1 ?_
  obtain ⟨fs, hr, hrun, hended, hW, hsame⟩ := X1.leave (v := some (.int k)) (fun h => by rw [Bd.returns] at h; cases h)
  refine own_fin (own_retI X1 hx Bd.returns (hb hby d35_4) hr) ⟨hrun, hended, _, _, rfl, ?_, ⟨_, rfl⟩, hW, hsame.mono (by decide) (by decide)⟩
  show Q_rmSl Z a1 k h0 n0 _ T1.heap _
  rw [eH1]
  exact ⟨rfl, N1, rfl⟩
abbrev own_y17 : MethodName := ⟨"java/lang/AbstractStringBuilder", "isLatin1", "()Z"⟩
abbrev own_c25 : ByteArray := jdk_68_method_68_code
theorem d25_0 : decode own_c25 0 = .ok (.getstatic 18, 3) := by decide +kernel
theorem d25_3 : decode own_c25 3 = .ok (.ifCond .eq 14, 3) := by decide +kernel
theorem d25_6 : decode own_c25 6 = .ok (.aload_n 0, 1) := by decide +kernel
theorem d25_7 : decode own_c25 7 = .ok (.getfield 22, 3) := by decide +kernel
theorem d25_10 : decode own_c25 10 = .ok (.ifCond .ne 7, 3) := by decide +kernel
theorem d25_13 : decode own_c25 13 = .ok (.iconst 1, 1) := by decide +kernel
theorem d25_14 : decode own_c25 14 = .ok (.goto 4, 3) := by decide +kernel
theorem d25_18 : decode own_c25 18 = .ok (.ireturn, 1) := by decide +kernel
theorem pn_25 : plainName "java/lang/AbstractStringBuilder" = true := by first | (simp [plainName, overriddenIn]; done) | decide +kernel
theorem ef_rmAil (m : MethodId) (x0 : Addr) : entryFrame m #[(.ref x0)] 1 = mkF m 0 #[.val (.ref x0)] [] := by first | (simp [entryFrame, mkF, argsToLocals, Value.category]; done) | rfl
def Q_rmAil (Z : State) (a1 : Addr) (zc : Int32) (h0 : Heap) (n0 : Nat) (v : Option Value) (h : Heap) (L : List Loc) : Prop := v = some (.int (1 : Int32)) ∧ Fr n0 L ∧ h = h0
set_option maxRecDepth 65536 in
set_option maxHeartbeats 40000000 in
theorem rmAil (l : Launch) (Z : State) (a0 : Array Value) (hw : ∀ d ∈ tables_1, d.before a0 Z = true) (ws : List Jvm.Cond) (a1 : Addr) (zc : Int32) (h0 : Heap) (n0 : Nat) (Z0 : n0 ≤ h0.size) (pE_a1 : Exa Z h0 a1 "java/lang/StringBuilder") (pF_coder_a1 : Fld Z h0 a1 "java/lang/AbstractStringBuilder" "coder" "B" (.int (0 : Int32))) (pS_COMPACT_STRINGS : Sta Z Z.heap "java/lang/String" "COMPACT_STRINGS" "Z" (.int zc)) (pP5 : (¬ (zc = (0 : Int32)))) (pO : Old Z n0 h0) :
    MetFree l own_y17 (head1 (Jvm.Cond.code own_y17 jdk_68_method_68_code 1 (some .boolean) :: ws) ({ frames := 0, cells := 0, slots := 0, locals := 0 } : Room)) (fun a U => a = #[(.ref a1)] ∧ Z.Warmed39 U.vm ∧ U.heap = h0) (fun _ _ _ _ _ => True) (fun _ U o U' => ∃ v L, o = .returned v ∧ Q_rmAil Z a1 zc h0 n0 v U'.heap L ∧ FrameEnd U o U' L ({ frames := 0, cells := 0, slots := 0, locals := 0 } : Room).cells ({ frames := 0, cells := 0, slots := 0, locals := 0 } : Room).slots) := by
  refine MetFree.of_bodySF (plainFor_of_name pn_25) hisR ?_
  intro p e s m args below meth c s₁ Bd hml0 hP hK
  obtain ⟨rfl, hZ, hh⟩ := hP
  have hx := Bd.exec
  have hby := Bd.bytes
  have hml : c.maxLocals = 1 := hml0
  have hown : s.vm.findClass "java/lang/AbstractStringBuilder" = some m.cls := findClass_of_methodNamed Bd.named
  have hnm := (name_of_methodNamed Bd.named Bd.method).1
  have X0 : Stand p l e ({ frames := 0, cells := 0, slots := 0, locals := 0 } : Room) s m #[(.ref a1)] below meth c s₁ [] 0 0 := Stand.of_body Bd
  have e0 : s₁.heap = h0 := by rw [← hh, Bd.state]; rfl
  have N0 := Fr.nil n0
  refine own_enter (ef_rmAil m a1) ?_
  obtain ⟨T1, X1, e1, st1⟩ := getS2 X0 hx hZ hown (host := "") (Or.inl (own_w hw 96 rfl)) Via.refl e0 (pS_COMPACT_STRINGS.ext pO.2) (g := (mkF m 0 #[.val (.ref a1)] [])) rfl (hb hby d25_0)
  refine own_st st1 ?_
  refine own_st (fun t_ k_ => XS.ifNo X1.here hx rfl (hb hby d25_3) rfl ((if0 _ _).trans (feq pP5).1) (XS.aloadN X1.here hx rfl (hb hby d25_6) rfl rfl k_)) ?_
  obtain ⟨T2, X2, e2, st2⟩ := getF X1 hx hZ hown (host := "") (Or.inl (own_w hw 99 rfl)) Via.refl e1 pF_coder_a1 (g := (mkF m 7 #[.val (.ref a1)] [(.ref a1)])) rfl rfl (hb hby d25_7)
  refine own_st st2 ?_
  refine own_st (fun t_ k_ => XS.ifNo X2.here hx rfl (hb hby d25_10) rfl (by decide) (XS.iconst X2.here hx rfl (hb hby d25_13) (XS.goto X2.here hx rfl (pc0 := 14) (pc' := 18) rfl (hb hby d25_14) (by decide) (by decide) k_))) ?_
  obtain ⟨fs, hr, hrun, hended, hW, hsame⟩ := X2.leave (v := some (.int (1 : Int32))) (fun h => by rw [Bd.returns] at h; cases h)
  refine own_fin (retN X2 hx (t := .boolean) Bd.returns (by simp) (hb hby d25_18) hr) ⟨hrun, hended, _, _, rfl, ?_, ⟨_, rfl⟩, hW, hsame.mono (by decide) (by decide)⟩
  show Q_rmAil Z a1 zc h0 n0 _ T2.heap _
  rw [e2]
  exact ⟨rfl, N0, rfl⟩
abbrev own_y18 : MethodName := ⟨"java/lang/String", "<init>", "(Ljava/lang/AbstractStringBuilder;Ljava/lang/Void;)V"⟩
abbrev own_c33 : ByteArray := jdk_42_method_150_code
theorem d33_0 : decode own_c33 0 = .ok (.aload_n 0, 1) := by decide +kernel
theorem d33_1 : decode own_c33 1 = .ok (.invokespecial 1, 3) := by decide +kernel
theorem d33_4 : decode own_c33 4 = .ok (.aload_n 1, 1) := by decide +kernel
theorem d33_5 : decode own_c33 5 = .ok (.invokevirtual 552, 3) := by decide +kernel
theorem d33_8 : decode own_c33 8 = .ok (.astore_n 3, 1) := by decide +kernel
theorem d33_9 : decode own_c33 9 = .ok (.aload_n 1, 1) := by decide +kernel
theorem d33_10 : decode own_c33 10 = .ok (.invokevirtual 549, 3) := by decide +kernel
theorem d33_13 : decode own_c33 13 = .ok (.istore 4, 2) := by decide +kernel
theorem d33_15 : decode own_c33 15 = .ok (.aload_n 1, 1) := by decide +kernel
theorem d33_16 : decode own_c33 16 = .ok (.invokevirtual 1047, 3) := by decide +kernel
theorem d33_19 : decode own_c33 19 = .ok (.ifCond .eq 22, 3) := by decide +kernel
theorem d33_22 : decode own_c33 22 = .ok (.aload_n 0, 1) := by decide +kernel
theorem d33_23 : decode own_c33 23 = .ok (.iconst 0, 1) := by decide +kernel
theorem d33_24 : decode own_c33 24 = .ok (.putfield 15, 3) := by decide +kernel
theorem d33_27 : decode own_c33 27 = .ok (.aload_n 0, 1) := by decide +kernel
theorem d33_28 : decode own_c33 28 = .ok (.aload_n 3, 1) := by decide +kernel
theorem d33_29 : decode own_c33 29 = .ok (.iconst 0, 1) := by decide +kernel
theorem d33_30 : decode own_c33 30 = .ok (.iload 4, 2) := by decide +kernel
theorem d33_32 : decode own_c33 32 = .ok (.invokestatic 54, 3) := by decide +kernel
theorem d33_35 : decode own_c33 35 = .ok (.putfield 9, 3) := by decide +kernel
theorem d33_38 : decode own_c33 38 = .ok (.goto 59, 3) := by decide +kernel
theorem d33_97 : decode own_c33 97 = .ok (.return_, 1) := by decide +kernel
theorem pn_33 : plainName "java/lang/String" = true := by first | (simp [plainName, overriddenIn]; done) | decide +kernel
theorem pd____B : parseMethodDescriptor "()[B" = some ⟨[], some (.array .byte)⟩ := by decide +kernel
theorem pd___Z : parseMethodDescriptor "()Z" = some ⟨[], some .boolean⟩ := by decide +kernel
theorem ef_rmSiA (m : MethodId) (x0 : Addr) (x1 : Addr) : entryFrame m #[(.ref x0), (.ref x1), .null] 5 = mkF m 0 #[.val (.ref x0), .val (.ref x1), .val .null, .unset, .unset] [] := by first | (simp [entryFrame, mkF, argsToLocals, Value.category]; done) | rfl
def Q_rmSiA (Z : State) (s1 : Addr) (u1 : Value) (u2 : Value) (a1 : Addr) (va : Addr) (kva : ClassId) (cap : Int32) (k : Int32) (bs : List Value) (rest : List Value) (zc : Int32) (h0 : Heap) (n0 : Nat) (v : Option Value) (h : Heap) (L : List Loc) : Prop := ∃ b : Addr, ∃ kb : ClassId, v = none ∧ Fr n0 L ∧ Keep h0 h [s1] ∧ Exa Z h s1 "java/lang/String" ∧ Fld Z h s1 "java/lang/String" "value" "[B" (.ref b) ∧ Fld Z h s1 "java/lang/String" "coder" "B" (.int (0 : Int32)) ∧ Arv Z h b kb .byte k bs (.int 0) ∧ h0.size ≤ b ∧ n0 ≤ b
set_option maxRecDepth 65536 in
set_option maxHeartbeats 40000000 in
theorem rmSiA (l : Launch) (Z : State) (a0 : Array Value) (hw : ∀ d ∈ tables_1, d.before a0 Z = true) (ws : List Jvm.Cond) (s1 : Addr) (u1 : Value) (u2 : Value) (a1 : Addr) (va : Addr) (kva : ClassId) (cap : Int32) (k : Int32) (bs : List Value) (rest : List Value) (zc : Int32) (h0 : Heap) (n0 : Nat) (Z0 : n0 ≤ h0.size) (pE_s1 : Exa Z h0 s1 "java/lang/String") (pF_value_s1 : Fld Z h0 s1 "java/lang/String" "value" "[B" u1) (pF_coder_s1 : Fld Z h0 s1 "java/lang/String" "coder" "B" u2) (pG_s1 : n0 ≤ s1) (pE_a1 : Exa Z h0 a1 "java/lang/StringBuilder") (pF_value_a1 : Fld Z h0 a1 "java/lang/AbstractStringBuilder" "value" "[B" (.ref va)) (pF_coder_a1 : Fld Z h0 a1 "java/lang/AbstractStringBuilder" "coder" "B" (.int (0 : Int32))) (pF_count_a1 : Fld Z h0 a1 "java/lang/AbstractStringBuilder" "count" "I" (.int k)) (pV_va : Arv Z h0 va kva .byte cap (bs ++ rest) (.int 0)) (hk : (k.toInt = (bs.length : Int))) (hcap : (cap.toInt = ((bs.length + rest.length : Nat) : Int))) (hlt : (0 < rest.length)) (hbig : (bs.length ≤ 84)) (pS_COMPACT_STRINGS : Sta Z Z.heap "java/lang/String" "COMPACT_STRINGS" "Z" (.int zc)) (pP5 : (¬ (zc = (0 : Int32)))) (pO : Old Z n0 h0) :
    MetFree l own_y18 (head1 (Jvm.Cond.code own_y18 jdk_42_method_150_code 5 none :: ws) ({ frames := 3, cells := 1, slots := 84, locals := 151 } : Room)) (fun a U => a = #[(.ref s1), (.ref a1), .null] ∧ Z.Warmed39 U.vm ∧ U.heap = h0) (fun _ _ _ _ _ => True) (fun _ U o U' => ∃ v L, o = .returned v ∧ Q_rmSiA Z s1 u1 u2 a1 va kva cap k bs rest zc h0 n0 v U'.heap L ∧ FrameEnd U o U' L ({ frames := 3, cells := 1, slots := 84, locals := 151 } : Room).cells ({ frames := 3, cells := 1, slots := 84, locals := 151 } : Room).slots) := by
  refine MetFree.of_bodySF (plainFor_of_name pn_33) hisR ?_
  intro p e s m args below meth c s₁ Bd hml0 hP hK
  obtain ⟨rfl, hZ, hh⟩ := hP
  have hx := Bd.exec
  have hby := Bd.bytes
  have hml : c.maxLocals = 5 := hml0
  have hown : s.vm.findClass "java/lang/String" = some m.cls := findClass_of_methodNamed Bd.named
  have hnm := (name_of_methodNamed Bd.named Bd.method).1
  have X0 : Stand p l e ({ frames := 3, cells := 1, slots := 84, locals := 151 } : Room) s m #[(.ref s1), (.ref a1), .null] below meth c s₁ [] 0 0 := Stand.of_body Bd
  have e0 : s₁.heap = h0 := by rw [← hh, Bd.state]; rfl
  have N0 := Fr.nil n0
  refine own_enter (ef_rmSiA m s1 a1) ?_
  refine own_st (fun t_ k_ => XS.aloadN X0.here hx rfl (hb hby d33_0) rfl rfl k_) ?_
  obtain ⟨T1, X1, e1, st1⟩ := initO X0 hx hZ hown (own_w hw 225 rfl) (own_w hw 12 rfl) (own_w hw 13 rfl) e0 (g := (mkF m 1 #[.val (.ref s1), .val (.ref a1), .val .null, .unset, .unset] [(.ref s1)])) rfl (by rw [hml]; rfl) rfl (hb hby d33_1) (by decide) (W := 0) (by show 2 * 0 + _ ≤ _; exact Nat.le_of_eq rfl) (by decide)
  refine own_st st1 ?_
  refine own_st (fun t_ k_ => XS.aloadN X1.here hx rfl (hb hby d33_4) rfl rfl k_) ?_
  obtain ⟨cq2, kq2, qa2, qb2, qc2⟩ := isOf hZ e1 pE_a1
  obtain ⟨_, _, ⟨T2, L2, k2, n2⟩, -, X2, ⟨Lc2, hQ2, l2, y2, z2⟩, st2⟩ := X1.virtualBack hx (y := own_y9) (z := own_y9) hown (mvT hZ (own_w hw 226 rfl)) (mvT hZ (own_w hw 227 rfl)) (notFace_of_selects (args := #[]) (mvT hZ (own_w hw 229 rfl))) (mvT hZ (own_w hw 229 rfl)) (mvT hZ (own_w hw 228 rfl)) (by decide) (backOf (W := 0) (rmGv l Z a0 hw [] a1 va h0 n0 Z0 pE_a1 pF_value_a1) hZ (own_w hw 230 rfl) (own_w hw 93 rfl) (by decide) (by decide)) qa2 qc2 (g := (mkF m 5 #[.val (.ref s1), .val (.ref a1), .val .null, .unset, .unset] [(.ref a1)])) rfl (by rw [hml]; rfl) (Steps.refl _) (argsL := []) (rest := []) (lenOf pd____B rfl) rfl (by show 2 * 0 + _ ≤ _; exact Nat.le_of_eq rfl) (hb hby d33_5) (fun _ _ => ⟨rfl, e1, (by decide : 0 + 0 ≤ _), (by decide : 0 + 0 ≤ _)⟩)
  dsimp only [Pt.U, Pt.locs, Pt.cells, Pt.slots] at X2 l2 y2 z2 st2 hQ2
  try dsimp only [Nat.reduceAdd] at y2 z2
  rw [l2, y2, z2] at X2
  obtain ⟨rfl, Nq2, eH2⟩ := hQ2
  have N2 := Fr.app N0 Nq2
  refine own_tr st2 ?_
  refine own_st (fun t_ k_ => XS.astoreN X2.here hx rfl (hb hby d33_8) rfl rfl (l' := #[.val (.ref s1), .val (.ref a1), .val .null, .val (.ref va), .unset]) rfl (XS.aloadN X2.here hx rfl (hb hby d33_9) rfl rfl k_)) ?_
  obtain ⟨cq3, kq3, qa3, qb3, qc3⟩ := isOf hZ eH2 pE_a1
  obtain ⟨_, _, ⟨T3, L3, k3, n3⟩, -, X3, ⟨Lc3, hQ3, l3, y3, z3⟩, st3⟩ := X2.virtualBack hx (y := own_y15) (z := own_y16) hown (mvT hZ (own_w hw 231 rfl)) (mvT hZ (own_w hw 232 rfl)) (own_nf (a0 := #[]) (y' := own_y9) (mvT hZ (own_w hw 229 rfl)) rfl) (mvT hZ (own_w hw 234 rfl)) (mvT hZ (own_w hw 235 rfl)) (by decide) (backOf (W := 0) (rmSl l Z a0 hw [] a1 k h0 n0 Z0 pE_a1 pF_count_a1) hZ (own_w hw 236 rfl) (own_w hw 85 rfl) (by decide) (by decide)) qa3 qc3 (g := (mkF m 10 #[.val (.ref s1), .val (.ref a1), .val .null, .val (.ref va), .unset] [(.ref a1)])) rfl (by rw [hml]; rfl) (Steps.refl _) (argsL := []) (rest := []) (lenOf pd___I rfl) rfl (by show 2 * 0 + _ ≤ _; exact Nat.le_of_eq rfl) (hb hby d33_10) (fun _ _ => ⟨rfl, eH2, (by decide : 0 + 0 ≤ _), (by decide : 0 + 0 ≤ _)⟩)
  dsimp only [Pt.U, Pt.locs, Pt.cells, Pt.slots] at X3 l3 y3 z3 st3 hQ3
  try dsimp only [Nat.reduceAdd] at y3 z3
  rw [l3, y3, z3] at X3
  obtain ⟨rfl, Nq3, eH3⟩ := hQ3
  have N3 := Fr.app N2 Nq3
  refine own_tr st3 ?_
  refine own_st (fun t_ k_ => XS.istore X3.here hx rfl (hb hby d33_13) rfl (l' := #[.val (.ref s1), .val (.ref a1), .val .null, .val (.ref va), .val (.int k)]) rfl (XS.aloadN X3.here hx rfl (hb hby d33_15) rfl rfl k_)) ?_
  obtain ⟨cq4, kq4, qa4, qb4, qc4⟩ := isOf hZ eH3 pE_a1
  obtain ⟨_, _, ⟨T4, L4, k4, n4⟩, -, X4, ⟨Lc4, hQ4, l4, y4, z4⟩, st4⟩ := X3.virtualBack hx (y := own_y17) (z := own_y17) hown (mvT hZ (own_w hw 239 rfl)) (mvT hZ (own_w hw 167 rfl)) (notFace_of_selects (args := #[]) (mvT hZ (own_w hw 169 rfl))) (mvT hZ (own_w hw 169 rfl)) (mvT hZ (own_w hw 168 rfl)) (by decide) (backOf (W := 0) (rmAil l Z a0 hw [] a1 zc h0 n0 Z0 pE_a1 pF_coder_a1 pS_COMPACT_STRINGS pP5 pO) hZ (own_w hw 170 rfl) (own_w hw 93 rfl) (by decide) (by decide)) qa4 qc4 (g := (mkF m 16 #[.val (.ref s1), .val (.ref a1), .val .null, .val (.ref va), .val (.int k)] [(.ref a1)])) rfl (by rw [hml]; rfl) (Steps.refl _) (argsL := []) (rest := []) (lenOf pd___Z rfl) rfl (by show 2 * 0 + _ ≤ _; exact Nat.le_of_eq rfl) (hb hby d33_16) (fun _ _ => ⟨rfl, eH3, (by decide : 0 + 0 ≤ _), (by decide : 0 + 0 ≤ _)⟩)
  dsimp only [Pt.U, Pt.locs, Pt.cells, Pt.slots] at X4 l4 y4 z4 st4 hQ4
  try dsimp only [Nat.reduceAdd] at y4 z4
  rw [l4, y4, z4] at X4
  obtain ⟨rfl, Nq4, eH4⟩ := hQ4
  have N4 := Fr.app N3 Nq4
  refine own_tr st4 ?_
  refine own_st (fun t_ k_ => XS.ifNo X4.here hx rfl (hb hby d33_19) rfl (by decide) (XS.aloadN X4.here hx rfl (hb hby d33_22) rfl rfl (XS.iconst X4.here hx rfl (hb hby d33_23) k_))) ?_
  obtain ⟨T5, h5, X5, e5, W5, st5⟩ := putFN X4 hx hZ hown (own_w hw 124 rfl) Via.refl eH4 pF_coder_s1 pE_s1 (Or.inr ⟨(own_w hw 29 rfl), rfl, hnm⟩) (own_w hw 26 rfl) (ty := .byte) (v' := (.int (0 : Int32))) (by decide) rfl (by decide) (g := (mkF m 24 #[.val (.ref s1), .val (.ref a1), .val .null, .val (.ref va), .val (.int k)] [(.int (0 : Int32)), (.ref s1)])) rfl rfl (hb hby d33_24)
  have F5 := pF_coder_s1.same W5
  have K6 : Keep h0 h5 [s1] := (Keep.refl h0 [s1]).wr W5 (Or.inl (List.mem_of_getElem? (i := 0) rfl))
  have N5 := Fr.snoc X5 N4 pG_s1
  refine own_st st5 ?_
  refine own_st (fun t_ k_ => XS.aloadN X5.here hx rfl (hb hby d33_27) rfl rfl (XS.aloadN X5.here hx rfl (hb hby d33_28) rfl rfl (XS.iconst X5.here hx rfl (hb hby d33_29) (XS.iload X5.here hx rfl (hb hby d33_30) rfl k_)))) ?_
  show own_Go p e below T5 (mkF m 32 #[.val (.ref s1), .val (.ref a1), .val .null, .val (.ref va), .val (.int k)] [(.int k), (.int (0 : Int32)), (.ref va), (.ref s1)]) _
  have f7 := (Nat.le_trans Z0 (Keep.of_wr W5).1)
  have f8 := (pV_va.other W5 (Ne.symm (Exa.neArv pE_s1 pV_va (own_w hw 26 rfl))))
  obtain ⟨_, _, ⟨T9, L9, k9, n9⟩, -, X9, ⟨Lc9, hQ9, l9, y9, z9⟩, st9⟩ := Jvm.LawKit.callS X5 hx (y := own_y14) hown (mvT hZ (own_w hw 240 rfl)) (mvT hZ (own_w hw 241 rfl)) (mvT hZ (own_w hw 195 rfl)) (mvT hZ (own_w hw 242 rfl)) (by decide) (backOf (W := 1) (rmCp l Z a0 hw [] va kva cap k bs rest h5 n0 f7 f8 hk hcap hlt hbig) hZ (own_w hw 242 rfl) (own_w hw 195 rfl) (by decide) (by decide)) (g := (mkF m 32 #[.val (.ref s1), .val (.ref a1), .val .null, .val (.ref va), .val (.int k)] [(.int k), (.int (0 : Int32)), (.ref va), (.ref s1)])) rfl (by rw [hml]; rfl) (argsL := [(.ref va), (.int (0 : Int32)), (.int k)]) (rest := [(.ref s1)]) (lenOf pd___BII__B rfl) rfl (by show 2 * 0 + _ ≤ _; exact Nat.le_of_eq rfl) (hb hby d33_32) (fun _ _ => ⟨rfl, e5, (by decide : 0 + 1 ≤ _), (by decide : 0 + 84 ≤ _)⟩)
  dsimp only [Pt.U, Pt.locs, Pt.cells, Pt.slots] at X9 l9 y9 z9 st9 hQ9
  try dsimp only [Nat.reduceAdd] at y9 z9
  rw [l9, y9, z9] at X9
  obtain ⟨b_9, kb_9, rfl, Nq9, Kq9, q9_0, q9_1, q9_2⟩ := hQ9
  have N9 := Fr.app N5 Nq9
  have K10 : Keep h0 T9.heap [s1] := K6.trans Kq9 all0
  have Bf11 : h0.size ≤ b_9 := Nat.le_trans K6.1 q9_1
  refine own_st st9 ?_
  have f12 := ((pE_s1.wr W5).keep Kq9)
  have f13 := ((pF_value_s1.other W5 (Or.inr (slot_ne (Or.inr (own_w hw 28 rfl)) (Or.inr (own_w hw 29 rfl)) (by decide) (t := (.array .byte)) (t' := .byte) (by decide) (by decide)))).keep Kq9 nin0)
  obtain ⟨T14, h14, X14, e14, W14, st14⟩ := putF X9 hx hZ hown (host := "") (Or.inl (own_w hw 117 rfl)) Via.refl rfl f13 f12 (Or.inr ⟨(own_w hw 28 rfl), rfl, hnm⟩) (own_w hw 26 rfl) (ty := (.array .byte)) (by decide) rfl rfl (g := (mkF m 35 #[.val (.ref s1), .val (.ref a1), .val .null, .val (.ref va), .val (.int k)] [(.ref b_9), (.ref s1)])) rfl rfl (hb hby d33_35)
  have F14 := f13.same W14
  have K15 : Keep h0 h14 [s1] := K10.wr W14 (Or.inl (List.mem_of_getElem? (i := 0) rfl))
  have N14 := Fr.snoc X14 N9 pG_s1
  refine own_st st14 ?_
  refine own_st (fun t_ k_ => XS.goto X14.here hx rfl (pc0 := 38) (pc' := 97) rfl (hb hby d33_38) (by decide) (by decide) k_) ?_
  have f16 := (f12.wr W14)
  have f17 := ((F5.keep Kq9 nin0).other W14 (Or.inr (slot_ne (Or.inr (own_w hw 29 rfl)) (Or.inr (own_w hw 28 rfl)) (by decide) (t := .byte) (t' := (.array .byte)) (by decide) (by decide))))
  have f18 := (q9_0.other W14 (Ne.symm (Nat.ne_of_lt (Nat.lt_of_lt_of_le (pE_s1.wr W5).lt q9_1))))
  obtain ⟨fs, hr, hrun, hended, hW, hsame⟩ := X14.leave (v := none) (fun _ => rfl)
  refine own_fin (X14.returnOut hx Bd.returns (hb hby d33_97) hr) ⟨hrun, hended, _, _, rfl, ?_, ⟨_, rfl⟩, hW, hsame.mono (by decide) (by decide)⟩
  show Q_rmSiA Z s1 u1 u2 a1 va kva cap k bs rest zc h0 n0 _ T14.heap _
  rw [e14]
  exact ⟨b_9, kb_9, rfl, N14, K15, f16, F14, f17, f18, Bf11, q9_2⟩
abbrev own_y19 : MethodName := ⟨"java/lang/String", "<init>", "(Ljava/lang/StringBuilder;)V"⟩
abbrev own_c32 : ByteArray := jdk_42_method_53_code
theorem d32_0 : decode own_c32 0 = .ok (.aload_n 0, 1) := by decide +kernel
theorem d32_1 : decode own_c32 1 = .ok (.aload_n 1, 1) := by decide +kernel
theorem d32_2 : decode own_c32 2 = .ok (.aconst_null, 1) := by decide +kernel
theorem d32_3 : decode own_c32 3 = .ok (.invokespecial 489, 3) := by decide +kernel
theorem d32_6 : decode own_c32 6 = .ok (.return_, 1) := by decide +kernel
theorem pn_32 : plainName "java/lang/String" = true := by first | (simp [plainName, overriddenIn]; done) | decide +kernel
theorem pd__Ljava_lang_AbstractStringBuilder_Ljava_lang_Void__V : parseMethodDescriptor "(Ljava/lang/AbstractStringBuilder;Ljava/lang/Void;)V" = some ⟨[(.object "java/lang/AbstractStringBuilder"), (.object "java/lang/Void")], none⟩ := by decide +kernel
theorem ef_rmSiS (m : MethodId) (x0 : Addr) (x1 : Addr) : entryFrame m #[(.ref x0), (.ref x1)] 2 = mkF m 0 #[.val (.ref x0), .val (.ref x1)] [] := by first | (simp [entryFrame, mkF, argsToLocals, Value.category]; done) | rfl
def Q_rmSiS (Z : State) (s1 : Addr) (u1 : Value) (u2 : Value) (a1 : Addr) (va : Addr) (kva : ClassId) (cap : Int32) (k : Int32) (bs : List Value) (rest : List Value) (zc : Int32) (h0 : Heap) (n0 : Nat) (v : Option Value) (h : Heap) (L : List Loc) : Prop := ∃ b : Addr, ∃ kb : ClassId, v = none ∧ Fr n0 L ∧ Keep h0 h [s1] ∧ Exa Z h s1 "java/lang/String" ∧ Fld Z h s1 "java/lang/String" "value" "[B" (.ref b) ∧ Fld Z h s1 "java/lang/String" "coder" "B" (.int (0 : Int32)) ∧ Arv Z h b kb .byte k bs (.int 0) ∧ h0.size ≤ b ∧ n0 ≤ b
set_option maxRecDepth 65536 in
set_option maxHeartbeats 40000000 in
theorem rmSiS (l : Launch) (Z : State) (a0 : Array Value) (hw : ∀ d ∈ tables_1, d.before a0 Z = true) (ws : List Jvm.Cond) (s1 : Addr) (u1 : Value) (u2 : Value) (a1 : Addr) (va : Addr) (kva : ClassId) (cap : Int32) (k : Int32) (bs : List Value) (rest : List Value) (zc : Int32) (h0 : Heap) (n0 : Nat) (Z0 : n0 ≤ h0.size) (pE_s1 : Exa Z h0 s1 "java/lang/String") (pF_value_s1 : Fld Z h0 s1 "java/lang/String" "value" "[B" u1) (pF_coder_s1 : Fld Z h0 s1 "java/lang/String" "coder" "B" u2) (pG_s1 : n0 ≤ s1) (pE_a1 : Exa Z h0 a1 "java/lang/StringBuilder") (pF_value_a1 : Fld Z h0 a1 "java/lang/AbstractStringBuilder" "value" "[B" (.ref va)) (pF_coder_a1 : Fld Z h0 a1 "java/lang/AbstractStringBuilder" "coder" "B" (.int (0 : Int32))) (pF_count_a1 : Fld Z h0 a1 "java/lang/AbstractStringBuilder" "count" "I" (.int k)) (pV_va : Arv Z h0 va kva .byte cap (bs ++ rest) (.int 0)) (hk : (k.toInt = (bs.length : Int))) (hcap : (cap.toInt = ((bs.length + rest.length : Nat) : Int))) (hlt : (0 < rest.length)) (hbig : (bs.length ≤ 84)) (pS_COMPACT_STRINGS : Sta Z Z.heap "java/lang/String" "COMPACT_STRINGS" "Z" (.int zc)) (pP5 : (¬ (zc = (0 : Int32)))) (pO : Old Z n0 h0) :
    MetFree l own_y19 (head1 (Jvm.Cond.code own_y19 jdk_42_method_53_code 2 none :: ws) ({ frames := 4, cells := 1, slots := 84, locals := 167 } : Room)) (fun a U => a = #[(.ref s1), (.ref a1)] ∧ Z.Warmed39 U.vm ∧ U.heap = h0) (fun _ _ _ _ _ => True) (fun _ U o U' => ∃ v L, o = .returned v ∧ Q_rmSiS Z s1 u1 u2 a1 va kva cap k bs rest zc h0 n0 v U'.heap L ∧ FrameEnd U o U' L ({ frames := 4, cells := 1, slots := 84, locals := 167 } : Room).cells ({ frames := 4, cells := 1, slots := 84, locals := 167 } : Room).slots) := by
  refine MetFree.of_bodySF (plainFor_of_name pn_32) hisR ?_
  intro p e s m args below meth c s₁ Bd hml0 hP hK
  obtain ⟨rfl, hZ, hh⟩ := hP
  have hx := Bd.exec
  have hby := Bd.bytes
  have hml : c.maxLocals = 2 := hml0
  have hown : s.vm.findClass "java/lang/String" = some m.cls := findClass_of_methodNamed Bd.named
  have hnm := (name_of_methodNamed Bd.named Bd.method).1
  have X0 : Stand p l e ({ frames := 4, cells := 1, slots := 84, locals := 167 } : Room) s m #[(.ref s1), (.ref a1)] below meth c s₁ [] 0 0 := Stand.of_body Bd
  have e0 : s₁.heap = h0 := by rw [← hh, Bd.state]; rfl
  have N0 := Fr.nil n0
  refine own_enter (ef_rmSiS m s1 a1) ?_
  refine own_st (fun t_ k_ => XS.aloadN X0.here hx rfl (hb hby d32_0) rfl rfl (XS.aloadN X0.here hx rfl (hb hby d32_1) rfl rfl (XS.aconstNull X0.here hx rfl (hb hby d32_2) k_))) ?_
  obtain ⟨_, _, ⟨T1, L1, k1, n1⟩, -, X1, ⟨Lc1, hQ1, l1, y1, z1⟩, st1⟩ := X0.specialBack hx (y := own_y18) rfl hown (mvT hZ (own_w hw 222 rfl)) (mvT hZ (own_w hw 223 rfl)) (mvT hZ (own_w hw 224 rfl)) (by decide) (backOf (W := 0) (rmSiA l Z a0 hw [] s1 u1 u2 a1 va kva cap k bs rest zc h0 n0 Z0 pE_s1 pF_value_s1 pF_coder_s1 pG_s1 pE_a1 pF_value_a1 pF_coder_a1 pF_count_a1 pV_va hk hcap hlt hbig pS_COMPACT_STRINGS pP5 pO) hZ (own_w hw 224 rfl) (own_w hw 25 rfl) (by decide) (by decide)) (g := (mkF m 3 #[.val (.ref s1), .val (.ref a1)] [.null, (.ref a1), (.ref s1)])) rfl (by rw [hml]; rfl) (Steps.refl _) (a := s1) (argsL := [(.ref a1), .null]) (rest := []) (lenOf pd__Ljava_lang_AbstractStringBuilder_Ljava_lang_Void__V rfl) rfl (by show 2 * 0 + _ ≤ _; exact Nat.le_of_eq rfl) (hb hby d32_3) (fun _ _ => ⟨rfl, e0, (by decide : 0 + 1 ≤ _), (by decide : 0 + 84 ≤ _)⟩)
  dsimp only [Pt.U, Pt.locs, Pt.cells, Pt.slots] at X1 l1 y1 z1 st1 hQ1
  try dsimp only [Nat.reduceAdd] at y1 z1
  rw [l1, y1, z1] at X1
  obtain ⟨b_1, kb_1, rfl, Nq1, Kq1, q1_0, q1_1, q1_2, q1_3, q1_4, q1_5⟩ := hQ1
  have N1 := Fr.app N0 Nq1
  have K2 : Keep h0 T1.heap [s1] := (Keep.refl h0 [s1]).trans Kq1 (allS (Or.inl (List.mem_of_getElem? (i := 0) rfl)) all0)
  have Bf3 : h0.size ≤ b_1 := Nat.le_trans (Keep.refl h0 [s1]).1 q1_4
  refine own_tr st1 ?_
  obtain ⟨fs, hr, hrun, hended, hW, hsame⟩ := X1.leave (v := none) (fun _ => rfl)
  refine own_fin (X1.returnOut hx Bd.returns (hb hby d32_6) hr) ⟨hrun, hended, _, _, rfl, ?_, ⟨_, rfl⟩, hW, hsame.mono (by decide) (by decide)⟩
  show Q_rmSiS Z s1 u1 u2 a1 va kva cap k bs rest zc h0 n0 _ T1.heap _
  exact ⟨b_1, kb_1, rfl, N1, K2, q1_0, q1_1, q1_2, q1_3, Bf3, q1_5⟩
abbrev own_y20 : MethodName := ⟨"java/lang/StringBuilder", "toString", "()Ljava/lang/String;"⟩
abbrev own_c31 : ByteArray := jdk_67_method_42_code
theorem d31_0 : decode own_c31 0 = .ok (.new 18, 3) := by decide +kernel
theorem d31_3 : decode own_c31 3 = .ok (.dup, 1) := by decide +kernel
theorem d31_4 : decode own_c31 4 = .ok (.aload_n 0, 1) := by decide +kernel
theorem d31_5 : decode own_c31 5 = .ok (.invokespecial 137, 3) := by decide +kernel
theorem d31_8 : decode own_c31 8 = .ok (.areturn, 1) := by decide +kernel
theorem pn_31 : plainName "java/lang/StringBuilder" = true := by first | (simp [plainName, overriddenIn]; done) | decide +kernel
theorem pd__Ljava_lang_StringBuilder__V : parseMethodDescriptor "(Ljava/lang/StringBuilder;)V" = some ⟨[(.object "java/lang/StringBuilder")], none⟩ := by decide +kernel
theorem ef_rmTs (m : MethodId) (x0 : Addr) : entryFrame m #[(.ref x0)] 1 = mkF m 0 #[.val (.ref x0)] [] := by first | (simp [entryFrame, mkF, argsToLocals, Value.category]; done) | rfl
def Q_rmTs (Z : State) (a1 : Addr) (va : Addr) (kva : ClassId) (cap : Int32) (k : Int32) (bs : List Value) (rest : List Value) (zc : Int32) (h0 : Heap) (n0 : Nat) (v : Option Value) (h : Heap) (L : List Loc) : Prop := ∃ y : Addr, ∃ b : Addr, ∃ kb : ClassId, v = some (.ref y) ∧ Fr n0 L ∧ Keep h0 h [] ∧ Exa Z h y "java/lang/String" ∧ Fld Z h y "java/lang/String" "value" "[B" (.ref b) ∧ Fld Z h y "java/lang/String" "coder" "B" (.int (0 : Int32)) ∧ Arv Z h b kb .byte k bs (.int 0) ∧ h0.size ≤ b ∧ n0 ≤ b
set_option maxRecDepth 65536 in
set_option maxHeartbeats 40000000 in
theorem rmTs (l : Launch) (Z : State) (a0 : Array Value) (hw : ∀ d ∈ tables_1, d.before a0 Z = true) (ws : List Jvm.Cond) (a1 : Addr) (va : Addr) (kva : ClassId) (cap : Int32) (k : Int32) (bs : List Value) (rest : List Value) (zc : Int32) (h0 : Heap) (n0 : Nat) (Z0 : n0 ≤ h0.size) (pE_a1 : Exa Z h0 a1 "java/lang/StringBuilder") (pF_value_a1 : Fld Z h0 a1 "java/lang/AbstractStringBuilder" "value" "[B" (.ref va)) (pF_coder_a1 : Fld Z h0 a1 "java/lang/AbstractStringBuilder" "coder" "B" (.int (0 : Int32))) (pF_count_a1 : Fld Z h0 a1 "java/lang/AbstractStringBuilder" "count" "I" (.int k)) (pV_va : Arv Z h0 va kva .byte cap (bs ++ rest) (.int 0)) (hk : (k.toInt = (bs.length : Int))) (hcap : (cap.toInt = ((bs.length + rest.length : Nat) : Int))) (hlt : (0 < rest.length)) (hbig : (bs.length ≤ 84)) (pS_COMPACT_STRINGS : Sta Z Z.heap "java/lang/String" "COMPACT_STRINGS" "Z" (.int zc)) (pP5 : (¬ (zc = (0 : Int32)))) (pO : Old Z n0 h0) :
    MetFree l own_y20 (head1 (Jvm.Cond.code own_y20 jdk_67_method_42_code 1 (some (.object "java/lang/String")) :: ws) ({ frames := 5, cells := 2, slots := 88, locals := 181 } : Room)) (fun a U => a = #[(.ref a1)] ∧ Z.Warmed39 U.vm ∧ U.heap = h0) (fun _ _ _ _ _ => True) (fun _ U o U' => ∃ v L, o = .returned v ∧ Q_rmTs Z a1 va kva cap k bs rest zc h0 n0 v U'.heap L ∧ FrameEnd U o U' L ({ frames := 5, cells := 2, slots := 88, locals := 181 } : Room).cells ({ frames := 5, cells := 2, slots := 88, locals := 181 } : Room).slots) := by
  refine MetFree.of_bodySF (plainFor_of_name pn_31) hisR ?_
  intro p e s m args below meth c s₁ Bd hml0 hP hK
  obtain ⟨rfl, hZ, hh⟩ := hP
  have hx := Bd.exec
  have hby := Bd.bytes
  have hml : c.maxLocals = 1 := hml0
  have hown : s.vm.findClass "java/lang/StringBuilder" = some m.cls := findClass_of_methodNamed Bd.named
  have hnm := (name_of_methodNamed Bd.named Bd.method).1
  have X0 : Stand p l e ({ frames := 5, cells := 2, slots := 88, locals := 181 } : Room) s m #[(.ref a1)] below meth c s₁ [] 0 0 := Stand.of_body Bd
  have e0 : s₁.heap = h0 := by rw [← hh, Bd.state]; rfl
  have N0 := Fr.nil n0
  refine own_enter (ef_rmTs m a1) ?_
  obtain ⟨T1, h1, X1, e1, E1, A1, D1, -, st1⟩ := newO X0 hx hZ hown (own_w hw 217 rfl) (own_w hw 26 rfl) (own_w hw 25 rfl) e0 (g := (mkF m 0 #[.val (.ref a1)] [])) rfl (hb hby d31_0) (by decide) (by decide)
  obtain ⟨b1, g1⟩ : ∃ z, z = h0.size := ⟨_, rfl⟩
  rw [← g1] at A1 D1 st1
  have G1 : n0 ≤ b1 := Nat.le_trans Z0 (Nat.le_of_eq g1.symm)
  have B1 : h0.size ≤ b1 := Nat.le_trans (Keep.refl h0 []).1 (Nat.le_of_eq g1.symm)
  have K2 : Keep h0 h1 [] := (Keep.refl h0 []).ext E1
  have D1_value : Fld Z h1 b1 "java/lang/String" "value" "[B" .null := D1 (Or.inr (own_w hw 28 rfl)) (ty := (.array .byte)) (by decide)
  have D1_coder : Fld Z h1 b1 "java/lang/String" "coder" "B" (.int (0 : Int32)) := D1 (Or.inr (own_w hw 29 rfl)) (ty := .byte) (by decide)
  refine own_st st1 ?_
  refine own_st (fun t_ k_ => XS.dup X1.here hx rfl (hb hby d31_3) rfl rfl (XS.aloadN X1.here hx rfl (hb hby d31_4) rfl rfl k_)) ?_
  have f3 := (Nat.le_trans Z0 E1.1)
  have f4 := (pE_a1.ext E1)
  have f5 := (pF_value_a1.ext E1)
  have f6 := (pF_coder_a1.ext E1)
  have f7 := (pF_count_a1.ext E1)
  have f8 := (pV_va.ext E1)
  have f9 := (pO.ext E1)
  obtain ⟨_, _, ⟨T10, L10, k10, n10⟩, -, X10, ⟨Lc10, hQ10, l10, y10, z10⟩, st10⟩ := X1.specialBack hx (y := own_y19) rfl hown (mvT hZ (own_w hw 218 rfl)) (mvT hZ (own_w hw 219 rfl)) (mvT hZ (own_w hw 221 rfl)) (by decide) (backOf (W := 1) (rmSiS l Z a0 hw [] b1 .null ((.int (0 : Int32))) a1 va kva cap k bs rest zc h1 n0 f3 A1 D1_value D1_coder G1 f4 f5 f6 f7 f8 hk hcap hlt hbig pS_COMPACT_STRINGS pP5 f9) hZ (own_w hw 221 rfl) (own_w hw 25 rfl) (by decide) (by decide)) (g := (mkF m 5 #[.val (.ref a1)] [(.ref a1), (.ref b1), (.ref b1)])) rfl (by rw [hml]; rfl) (Steps.refl _) (a := b1) (argsL := [(.ref a1)]) (rest := [(.ref b1)]) (lenOf pd__Ljava_lang_StringBuilder__V rfl) rfl (by show 2 * 0 + _ ≤ _; exact Nat.le_of_eq rfl) (hb hby d31_5) (fun _ _ => ⟨rfl, e1, (by decide : 1 + 1 ≤ _), (by decide : 4 + 84 ≤ _)⟩)
  dsimp only [Pt.U, Pt.locs, Pt.cells, Pt.slots] at X10 l10 y10 z10 st10 hQ10
  try dsimp only [Nat.reduceAdd] at y10 z10
  rw [l10, y10, z10] at X10
  obtain ⟨b_10, kb_10, rfl, Nq10, Kq10, q10_0, q10_1, q10_2, q10_3, q10_4, q10_5⟩ := hQ10
  have N10 := Fr.app N0 Nq10
  have K11 : Keep h0 T10.heap [] := K2.trans Kq10 (allS (Or.inr B1) all0)
  have Bf12 : h0.size ≤ b_10 := Nat.le_trans K2.1 q10_4
  refine own_tr st10 ?_
  obtain ⟨fs, hr, hrun, hended, hW, hsame⟩ := X10.leave (v := some (.ref b1)) (fun h => by rw [Bd.returns] at h; cases h)
  refine own_fin (own_retR X10 hx rfl Bd.returns rfl (hb hby d31_8) hr) ⟨hrun, hended, _, _, rfl, ?_, ⟨_, rfl⟩, hW, hsame.mono (by decide) (by decide)⟩
  show Q_rmTs Z a1 va kva cap k bs rest zc h0 n0 _ T10.heap _
  exact ⟨b1, b_10, kb_10, rfl, N10, K11, q10_0, q10_1, q10_2, q10_3, Bf12, q10_5⟩
theorem own_cpD {us zs : List Value} {n : Int32} (hn : n.toInt = (us.length : Int)) : zs.take (0 : Int32).toNatClampNeg ++ us ++ zs.drop ((0 : Int32).toNatClampNeg + n.toNatClampNeg) = us ++ zs.drop us.length := by
  rw [own_clamp hn, show (0 : Int32).toNatClampNeg = 0 from rfl, Nat.zero_add]
  simp
def own_gr (old need new : Int32) : Prop := need.toInt ≤ new.toInt ∧ 2 * old.toInt + 2 ≤ new.toInt ∧ (new.toInt = need.toInt ∨ new.toInt = 2 * old.toInt + 2)
theorem own_subI {a b : Int32} (h0 : 0 ≤ a.toInt) (h1 : 0 ≤ b.toInt) : (a - b).toInt = a.toInt - b.toInt := by
  have h2 := c_isub a b
  have h3 := rng32 (a - b)
  have h4 := rng32 a
  have h5 := rng32 b
  omega
theorem own_add2 {a b : Int32} (h0 : 0 ≤ a.toInt) (h1 : 0 ≤ b.toInt) (h : a.toInt + b.toInt ≤ 1000000) : (a + b).toInt = a.toInt + b.toInt := by
  have h2 := c_iadd a b
  have h3 := rng32 (a + b)
  omega
theorem own_subP {a b : Int32} (h0 : 0 ≤ a.toInt) (h1 : 0 ≤ b.toInt) (h : b.toInt < a.toInt) : (0 : Int32) < a - b := by
  rw [Int32.lt_iff_toInt_lt, own_subI h0 h1, show (0 : Int32).toInt = 0 from rfl]
  omega
abbrev own_y21 : MethodName := ⟨"java/lang/Math", "max", "(II)I"⟩
abbrev own_c29 : ByteArray := jdk_29_method_65_code
theorem d29_0 : decode own_c29 0 = .ok (.iload_n 0, 1) := by decide +kernel
theorem d29_1 : decode own_c29 1 = .ok (.iload_n 1, 1) := by decide +kernel
theorem d29_2 : decode own_c29 2 = .ok (.if_icmp .lt 7, 3) := by decide +kernel
theorem d29_5 : decode own_c29 5 = .ok (.iload_n 0, 1) := by decide +kernel
theorem d29_6 : decode own_c29 6 = .ok (.goto 4, 3) := by decide +kernel
theorem d29_9 : decode own_c29 9 = .ok (.iload_n 1, 1) := by decide +kernel
theorem d29_10 : decode own_c29 10 = .ok (.ireturn, 1) := by decide +kernel
theorem ef_rmMx (m : MethodId) (x0 : Int32) (x1 : Int32) : entryFrame m #[(.int x0), (.int x1)] 2 = mkF m 0 #[.val (.int x0), .val (.int x1)] [] := by first | (simp [entryFrame, mkF, argsToLocals, Value.category]; done) | rfl
def Q_rmMx (Z : State) (a_ : Int32) (b_ : Int32) (h0 : Heap) (n0 : Nat) (v : Option Value) (h : Heap) (L : List Loc) : Prop := ∃ r : Int32, v = some (.int r) ∧ Fr n0 L ∧ h = h0 ∧ (a_.toInt ≤ r.toInt ∧ b_.toInt ≤ r.toInt ∧ (r.toInt = a_.toInt ∨ r.toInt = b_.toInt))
set_option maxRecDepth 65536 in
set_option maxHeartbeats 40000000 in
theorem rmMx (l : Launch) (Z : State) (a0 : Array Value) (hw : ∀ d ∈ tables_1, d.before a0 Z = true) (ws : List Jvm.Cond) (a_ : Int32) (b_ : Int32) (h0 : Heap) (n0 : Nat) (Z0 : n0 ≤ h0.size) :
    MetFree l own_y21 (head1 (Jvm.Cond.code own_y21 jdk_29_method_65_code 2 (some .int) :: ws) ({ frames := 0, cells := 0, slots := 0, locals := 0 } : Room)) (fun a U => a = #[(.int a_), (.int b_)] ∧ Z.Warmed39 U.vm ∧ U.heap = h0) (fun _ _ _ _ _ => True) (fun _ U o U' => ∃ v L, o = .returned v ∧ Q_rmMx Z a_ b_ h0 n0 v U'.heap L ∧ FrameEnd U o U' L ({ frames := 0, cells := 0, slots := 0, locals := 0 } : Room).cells ({ frames := 0, cells := 0, slots := 0, locals := 0 } : Room).slots) := by
  refine MetFree.of_bodySF (Jvm.Free.JP.mathPlain rfl (by decide +kernel)) hisR ?_
  intro p e s m args below meth c s₁ Bd hml0 hP hK
  obtain ⟨rfl, hZ, hh⟩ := hP
  have hx := Bd.exec
  have hby := Bd.bytes
  have hml : c.maxLocals = 2 := hml0
  have hown : s.vm.findClass "java/lang/Math" = some m.cls := findClass_of_methodNamed Bd.named
  have hnm := (name_of_methodNamed Bd.named Bd.method).1
  have X0 : Stand p l e ({ frames := 0, cells := 0, slots := 0, locals := 0 } : Room) s m #[(.int a_), (.int b_)] below meth c s₁ [] 0 0 := Stand.of_body Bd
  have e0 : s₁.heap = h0 := by rw [← hh, Bd.state]; rfl
  have N0 := Fr.nil n0
  refine own_enter (ef_rmMx m a_ b_) ?_
  refine own_st (fun t_ k_ => XS.iloadN X0.here hx rfl (hb hby d29_0) rfl (XS.iloadN X0.here hx rfl (hb hby d29_1) rfl k_)) ?_
  show own_Go p e below s₁ (mkF m 2 #[.val (.int a_), .val (.int b_)] [(.int b_), (.int a_)]) _
  by_cases c2 : a_ < b_
  · skip
    refine own_st (fun t_ k_ => XS.icmpYes X0.here hx rfl (pc0 := 2) (pc' := 9) rfl (hb hby d29_2) rfl (tlt c2).1 (by decide) (by decide) (XS.iloadN X0.here hx rfl (hb hby d29_9) rfl k_)) ?_
    obtain ⟨fs, hr, hrun, hended, hW, hsame⟩ := X0.leave (v := some (.int b_)) (fun h => by rw [Bd.returns] at h; cases h)
    refine own_fin (own_retI X0 hx Bd.returns (hb hby d29_10) hr) ⟨hrun, hended, _, _, rfl, ?_, ⟨_, rfl⟩, hW, hsame.mono (by decide) (by decide)⟩
    show Q_rmMx Z a_ b_ h0 n0 _ s₁.heap _
    rw [e0]
    exact ⟨b_, rfl, N0, rfl, (by rw [Int32.lt_iff_toInt_lt] at c2; omega)⟩
  · skip
    refine own_st (fun t_ k_ => XS.icmpNo X0.here hx rfl (hb hby d29_2) rfl (flt c2).1 (XS.iloadN X0.here hx rfl (hb hby d29_5) rfl (XS.goto X0.here hx rfl (pc0 := 6) (pc' := 10) rfl (hb hby d29_6) (by decide) (by decide) k_))) ?_
    obtain ⟨fs, hr, hrun, hended, hW, hsame⟩ := X0.leave (v := some (.int a_)) (fun h => by rw [Bd.returns] at h; cases h)
    refine own_fin (own_retI X0 hx Bd.returns (hb hby d29_10) hr) ⟨hrun, hended, _, _, rfl, ?_, ⟨_, rfl⟩, hW, hsame.mono (by decide) (by decide)⟩
    show Q_rmMx Z a_ b_ h0 n0 _ s₁.heap _
    rw [e0]
    exact ⟨a_, rfl, N0, rfl, (by rw [Int32.lt_iff_toInt_lt] at c2; omega)⟩
theorem d1_5 : decode own_c1 5 = .ok (.iload_n 0, 1) := by decide +kernel
theorem d1_6 : decode own_c1 6 = .ok (.goto 4, 3) := by decide +kernel
theorem ef_rmMa (m : MethodId) (x0 : Int32) (x1 : Int32) : entryFrame m #[(.int x0), (.int x1)] 2 = mkF m 0 #[.val (.int x0), .val (.int x1)] [] := by first | (simp [entryFrame, mkF, argsToLocals, Value.category]; done) | rfl
def Q_rmMa (Z : State) (a_ : Int32) (b_ : Int32) (h0 : Heap) (n0 : Nat) (v : Option Value) (h : Heap) (L : List Loc) : Prop := v = some (.int a_) ∧ Fr n0 L ∧ h = h0
set_option maxRecDepth 65536 in
set_option maxHeartbeats 40000000 in
theorem rmMa (l : Launch) (Z : State) (a0 : Array Value) (hw : ∀ d ∈ tables_1, d.before a0 Z = true) (ws : List Jvm.Cond) (a_ : Int32) (b_ : Int32) (h0 : Heap) (n0 : Nat) (Z0 : n0 ≤ h0.size) (h : (¬ (b_ < a_))) :
    MetFree l own_y11 (head1 (Jvm.Cond.code own_y11 jdk_29_method_69_code 2 (some .int) :: ws) ({ frames := 0, cells := 0, slots := 0, locals := 0 } : Room)) (fun a U => a = #[(.int a_), (.int b_)] ∧ Z.Warmed39 U.vm ∧ U.heap = h0) (fun _ _ _ _ _ => True) (fun _ U o U' => ∃ v L, o = .returned v ∧ Q_rmMa Z a_ b_ h0 n0 v U'.heap L ∧ FrameEnd U o U' L ({ frames := 0, cells := 0, slots := 0, locals := 0 } : Room).cells ({ frames := 0, cells := 0, slots := 0, locals := 0 } : Room).slots) := by
  refine MetFree.of_bodySF (Jvm.Free.JP.mathPlain rfl (by decide +kernel)) hisR ?_
  intro p e s m args below meth c s₁ Bd hml0 hP hK
  obtain ⟨rfl, hZ, hh⟩ := hP
  have hx := Bd.exec
  have hby := Bd.bytes
  have hml : c.maxLocals = 2 := hml0
  have hown : s.vm.findClass "java/lang/Math" = some m.cls := findClass_of_methodNamed Bd.named
  have hnm := (name_of_methodNamed Bd.named Bd.method).1
  have X0 : Stand p l e ({ frames := 0, cells := 0, slots := 0, locals := 0 } : Room) s m #[(.int a_), (.int b_)] below meth c s₁ [] 0 0 := Stand.of_body Bd
  have e0 : s₁.heap = h0 := by rw [← hh, Bd.state]; rfl
  have N0 := Fr.nil n0
  refine own_enter (ef_rmMa m a_ b_) ?_
  refine own_st (fun t_ k_ => XS.iloadN X0.here hx rfl (hb hby d1_0) rfl (XS.iloadN X0.here hx rfl (hb hby d1_1) rfl (XS.icmpNo X0.here hx rfl (hb hby d1_2) rfl (flt h).2.2.1 (XS.iloadN X0.here hx rfl (hb hby d1_5) rfl (XS.goto X0.here hx rfl (pc0 := 6) (pc' := 10) rfl (hb hby d1_6) (by decide) (by decide) k_))))) ?_
  show own_Go p e below s₁ (mkF m 10 #[.val (.int a_), .val (.int b_)] [(.int a_)]) _
  obtain ⟨fs, hr, hrun, hended, hW, hsame⟩ := X0.leave (v := some (.int a_)) (fun h => by rw [Bd.returns] at h; cases h)
  refine own_fin (own_retI X0 hx Bd.returns (hb hby d1_10) hr) ⟨hrun, hended, _, _, rfl, ?_, ⟨_, rfl⟩, hW, hsame.mono (by decide) (by decide)⟩
  show Q_rmMa Z a_ b_ h0 n0 _ s₁.heap _
  rw [e0]
  exact ⟨rfl, N0, rfl⟩
abbrev own_y22 : MethodName := ⟨"jdk/internal/util/ArraysSupport", "newLength", "(III)I"⟩
abbrev own_c28 : ByteArray := jdk_48_method_27_code
theorem d28_0 : decode own_c28 0 = .ok (.iload_n 0, 1) := by decide +kernel
theorem d28_1 : decode own_c28 1 = .ok (.iload_n 1, 1) := by decide +kernel
theorem d28_2 : decode own_c28 2 = .ok (.iload_n 2, 1) := by decide +kernel
theorem d28_3 : decode own_c28 3 = .ok (.invokestatic 194, 3) := by decide +kernel
theorem d28_6 : decode own_c28 6 = .ok (.iadd, 1) := by decide +kernel
theorem d28_7 : decode own_c28 7 = .ok (.istore_n 3, 1) := by decide +kernel
theorem d28_8 : decode own_c28 8 = .ok (.iconst 0, 1) := by decide +kernel
theorem d28_9 : decode own_c28 9 = .ok (.iload_n 3, 1) := by decide +kernel
theorem d28_10 : decode own_c28 10 = .ok (.if_icmp .ge 11, 3) := by decide +kernel
theorem d28_13 : decode own_c28 13 = .ok (.iload_n 3, 1) := by decide +kernel
theorem d28_14 : decode own_c28 14 = .ok (.ldc 200, 2) := by decide +kernel
theorem d28_16 : decode own_c28 16 = .ok (.if_icmp .gt 5, 3) := by decide +kernel
theorem d28_19 : decode own_c28 19 = .ok (.iload_n 3, 1) := by decide +kernel
theorem d28_20 : decode own_c28 20 = .ok (.ireturn, 1) := by decide +kernel
theorem pn_28 : plainName "jdk/internal/util/ArraysSupport" = true := by first | (simp [plainName, overriddenIn]; done) | decide +kernel
theorem ef_rmNl (m : MethodId) (x0 : Int32) (x1 : Int32) (x2 : Int32) : entryFrame m #[(.int x0), (.int x1), (.int x2)] 4 = mkF m 0 #[.val (.int x0), .val (.int x1), .val (.int x2), .unset] [] := by first | (simp [entryFrame, mkF, argsToLocals, Value.category]; done) | rfl
def Q_rmNl (Z : State) (o_ : Int32) (g_ : Int32) (p_ : Int32) (h0 : Heap) (n0 : Nat) (v : Option Value) (h : Heap) (L : List Loc) : Prop := ∃ r : Int32, v = some (.int r) ∧ Fr n0 L ∧ h = h0 ∧ (o_.toInt + g_.toInt ≤ r.toInt ∧ o_.toInt + p_.toInt ≤ r.toInt ∧ (r.toInt = o_.toInt + g_.toInt ∨ r.toInt = o_.toInt + p_.toInt))
set_option maxRecDepth 65536 in
set_option maxHeartbeats 40000000 in
theorem rmNl (l : Launch) (Z : State) (a0 : Array Value) (hw : ∀ d ∈ tables_1, d.before a0 Z = true) (ws : List Jvm.Cond) (o_ : Int32) (g_ : Int32) (p_ : Int32) (h0 : Heap) (n0 : Nat) (Z0 : n0 ≤ h0.size) (hA : (0 ≤ o_.toInt ∧ o_.toInt ≤ 100000)) (hB : (0 < g_.toInt ∧ g_.toInt ≤ 100000)) (hC : (0 ≤ p_.toInt ∧ p_.toInt ≤ 100000)) :
    MetFree l own_y22 (head1 (Jvm.Cond.code own_y22 jdk_48_method_27_code 4 (some .int) :: ws) ({ frames := 1, cells := 0, slots := 0, locals := 14 } : Room)) (fun a U => a = #[(.int o_), (.int g_), (.int p_)] ∧ Z.Warmed39 U.vm ∧ U.heap = h0) (fun _ _ _ _ _ => True) (fun _ U o U' => ∃ v L, o = .returned v ∧ Q_rmNl Z o_ g_ p_ h0 n0 v U'.heap L ∧ FrameEnd U o U' L ({ frames := 1, cells := 0, slots := 0, locals := 14 } : Room).cells ({ frames := 1, cells := 0, slots := 0, locals := 14 } : Room).slots) := by
  refine MetFree.of_bodySF (plainFor_of_name pn_28) hisR ?_
  intro p e s m args below meth c s₁ Bd hml0 hP hK
  obtain ⟨rfl, hZ, hh⟩ := hP
  have hx := Bd.exec
  have hby := Bd.bytes
  have hml : c.maxLocals = 4 := hml0
  have hown : s.vm.findClass "jdk/internal/util/ArraysSupport" = some m.cls := findClass_of_methodNamed Bd.named
  have hnm := (name_of_methodNamed Bd.named Bd.method).1
  have X0 : Stand p l e ({ frames := 1, cells := 0, slots := 0, locals := 14 } : Room) s m #[(.int o_), (.int g_), (.int p_)] below meth c s₁ [] 0 0 := Stand.of_body Bd
  have e0 : s₁.heap = h0 := by rw [← hh, Bd.state]; rfl
  have N0 := Fr.nil n0
  refine own_enter (ef_rmNl m o_ g_ p_) ?_
  refine own_st (fun t_ k_ => XS.iloadN X0.here hx rfl (hb hby d28_0) rfl (XS.iloadN X0.here hx rfl (hb hby d28_1) rfl (XS.iloadN X0.here hx rfl (hb hby d28_2) rfl k_))) ?_
  obtain ⟨_, _, ⟨T1, L1, k1, n1⟩, -, X1, ⟨Lc1, hQ1, l1, y1, z1⟩, st1⟩ := Jvm.LawKit.callS X0 hx (y := own_y21) hown (mvT hZ (own_w hw 188 rfl)) (mvT hZ (own_w hw 189 rfl)) (mvT hZ (own_w hw 2 rfl)) (mvT hZ (own_w hw 190 rfl)) (by decide) (backOf (W := 1) (rmMx l Z a0 hw [] g_ p_ h0 n0 Z0 ) hZ (own_w hw 190 rfl) (own_w hw 2 rfl) (by decide) (by decide)) (g := (mkF m 3 #[.val (.int o_), .val (.int g_), .val (.int p_), .unset] [(.int p_), (.int g_), (.int o_)])) rfl (by rw [hml]; rfl) (argsL := [(.int g_), (.int p_)]) (rest := [(.int o_)]) (lenOf pd__II_I rfl) rfl (by show 2 * 0 + _ ≤ _; exact Nat.le_of_eq rfl) (hb hby d28_3) (fun _ _ => ⟨rfl, e0, (by decide : 0 + 0 ≤ _), (by decide : 0 + 0 ≤ _)⟩)
  dsimp only [Pt.U, Pt.locs, Pt.cells, Pt.slots] at X1 l1 y1 z1 st1 hQ1
  try dsimp only [Nat.reduceAdd] at y1 z1
  rw [l1, y1, z1] at X1
  obtain ⟨r_1, rfl, Nq1, eH1, q1_0⟩ := hQ1
  have N1 := Fr.app N0 Nq1
  refine own_st st1 ?_
  refine own_st (fun t_ k_ => XS.iadd X1.here hx rfl (hb hby d28_6) rfl k_) ?_
  have hs : ((o_ + r_1)).toInt = o_.toInt + r_1.toInt := own_add2 hA.1 (by omega) (by omega)
  have hq := q1_0
  show own_Go p e below T1 (mkF m 7 #[.val (.int o_), .val (.int g_), .val (.int p_), .unset] [(.int (o_ + r_1))]) _
  generalize (o_ + r_1) = rr at hs ⊢
  show own_Go p e below T1 (mkF m 7 #[.val (.int o_), .val (.int g_), .val (.int p_), .unset] [(.int rr)]) _
  refine own_st (fun t_ k_ => XS.istoreN X1.here hx rfl (hb hby d28_7) rfl (l' := #[.val (.int o_), .val (.int g_), .val (.int p_), .val (.int rr)]) rfl (XS.iconst X1.here hx rfl (hb hby d28_8) (XS.iloadN X1.here hx rfl (hb hby d28_9) rfl (XS.icmpNo X1.here hx rfl (hb hby d28_10) rfl (tlt (show (0 : Int32) < rr from (by rw [Int32.lt_iff_toInt_lt, show (0 : Int32).toInt = 0 from rfl]; omega))).2.1 (XS.iloadN X1.here hx rfl (hb hby d28_13) rfl (X1.ldcInt hx hown (mvT hZ (own_w hw 191 rfl)) (g := (mkF m 14 #[.val (.int o_), .val (.int g_), .val (.int p_), .val (.int rr)] [(.int rr)])) rfl (hb hby d28_14) _ (XS.icmpNo X1.here hx rfl (hb hby d28_16) rfl (flt (show ¬ ((2147483639 : Int32) < rr) from (by rw [Int32.lt_iff_toInt_lt, show (2147483639 : Int32).toInt = 2147483639 from rfl]; omega))).2.2.1 (XS.iloadN X1.here hx rfl (hb hby d28_19) rfl k_)))))))) ?_
  show own_Go p e below T1 (mkF m 20 #[.val (.int o_), .val (.int g_), .val (.int p_), .val (.int rr)] [(.int rr)]) _
  obtain ⟨fs, hr, hrun, hended, hW, hsame⟩ := X1.leave (v := some (.int rr)) (fun h => by rw [Bd.returns] at h; cases h)
  refine own_fin (own_retI X1 hx Bd.returns (hb hby d28_20) hr) ⟨hrun, hended, _, _, rfl, ?_, ⟨_, rfl⟩, hW, hsame.mono (by decide) (by decide)⟩
  show Q_rmNl Z o_ g_ p_ h0 n0 _ T1.heap _
  rw [eH1]
  exact ⟨rr, rfl, N1, rfl, (by omega)⟩
abbrev own_y23 : MethodName := ⟨"java/lang/AbstractStringBuilder", "newCapacity", "(I)I"⟩
abbrev own_c27 : ByteArray := jdk_68_method_10_code
theorem d27_0 : decode own_c27 0 = .ok (.aload_n 0, 1) := by decide +kernel
theorem d27_1 : decode own_c27 1 = .ok (.getfield 15, 3) := by decide +kernel
theorem d27_4 : decode own_c27 4 = .ok (.arraylength, 1) := by decide +kernel
theorem d27_5 : decode own_c27 5 = .ok (.istore_n 2, 1) := by decide +kernel
theorem d27_6 : decode own_c27 6 = .ok (.iload_n 1, 1) := by decide +kernel
theorem d27_7 : decode own_c27 7 = .ok (.aload_n 0, 1) := by decide +kernel
theorem d27_8 : decode own_c27 8 = .ok (.getfield 22, 3) := by decide +kernel
theorem d27_11 : decode own_c27 11 = .ok (.ishl, 1) := by decide +kernel
theorem d27_12 : decode own_c27 12 = .ok (.istore_n 3, 1) := by decide +kernel
theorem d27_13 : decode own_c27 13 = .ok (.iload_n 3, 1) := by decide +kernel
theorem d27_14 : decode own_c27 14 = .ok (.iload_n 2, 1) := by decide +kernel
theorem d27_15 : decode own_c27 15 = .ok (.isub, 1) := by decide +kernel
theorem d27_16 : decode own_c27 16 = .ok (.istore 4, 2) := by decide +kernel
theorem d27_18 : decode own_c27 18 = .ok (.iload_n 2, 1) := by decide +kernel
theorem d27_19 : decode own_c27 19 = .ok (.iload 4, 2) := by decide +kernel
theorem d27_21 : decode own_c27 21 = .ok (.iload_n 2, 1) := by decide +kernel
theorem d27_22 : decode own_c27 22 = .ok (.iconst 2, 1) := by decide +kernel
theorem d27_23 : decode own_c27 23 = .ok (.aload_n 0, 1) := by decide +kernel
theorem d27_24 : decode own_c27 24 = .ok (.getfield 22, 3) := by decide +kernel
theorem d27_27 : decode own_c27 27 = .ok (.ishl, 1) := by decide +kernel
theorem d27_28 : decode own_c27 28 = .ok (.iadd, 1) := by decide +kernel
theorem d27_29 : decode own_c27 29 = .ok (.invokestatic 114, 3) := by decide +kernel
theorem d27_32 : decode own_c27 32 = .ok (.istore 5, 2) := by decide +kernel
theorem d27_34 : decode own_c27 34 = .ok (.iload 5, 2) := by decide +kernel
theorem d27_36 : decode own_c27 36 = .ok (.ldc 39, 2) := by decide +kernel
theorem d27_38 : decode own_c27 38 = .ok (.if_icmp .ne 13, 3) := by decide +kernel
theorem d27_51 : decode own_c27 51 = .ok (.iload 5, 2) := by decide +kernel
theorem d27_53 : decode own_c27 53 = .ok (.aload_n 0, 1) := by decide +kernel
theorem d27_54 : decode own_c27 54 = .ok (.getfield 22, 3) := by decide +kernel
theorem d27_57 : decode own_c27 57 = .ok (.ishr, 1) := by decide +kernel
theorem d27_58 : decode own_c27 58 = .ok (.ireturn, 1) := by decide +kernel
theorem pn_27 : plainName "java/lang/AbstractStringBuilder" = true := by first | (simp [plainName, overriddenIn]; done) | decide +kernel
theorem pd__III_I : parseMethodDescriptor "(III)I" = some ⟨[.int, .int, .int], some .int⟩ := by decide +kernel
theorem ef_rmNc (m : MethodId) (x0 : Addr) (x1 : Int32) : entryFrame m #[(.ref x0), (.int x1)] 6 = mkF m 0 #[.val (.ref x0), .val (.int x1), .unset, .unset, .unset, .unset] [] := by first | (simp [entryFrame, mkF, argsToLocals, Value.category]; done) | rfl
def Q_rmNc (Z : State) (a1 : Addr) (va : Addr) (kva : ClassId) (cap : Int32) (vs : List Value) (mm : Int32) (h0 : Heap) (n0 : Nat) (v : Option Value) (h : Heap) (L : List Loc) : Prop := ∃ r : Int32, v = some (.int r) ∧ Fr n0 L ∧ h = h0 ∧ (own_gr cap mm r)
set_option maxRecDepth 65536 in
set_option maxHeartbeats 40000000 in
theorem rmNc (l : Launch) (Z : State) (a0 : Array Value) (hw : ∀ d ∈ tables_1, d.before a0 Z = true) (ws : List Jvm.Cond) (a1 : Addr) (va : Addr) (kva : ClassId) (cap : Int32) (vs : List Value) (mm : Int32) (h0 : Heap) (n0 : Nat) (Z0 : n0 ≤ h0.size) (pE_a1 : Exa Z h0 a1 "java/lang/StringBuilder") (pF_value_a1 : Fld Z h0 a1 "java/lang/AbstractStringBuilder" "value" "[B" (.ref va)) (pF_coder_a1 : Fld Z h0 a1 "java/lang/AbstractStringBuilder" "coder" "B" (.int (0 : Int32))) (pV_va : Arv Z h0 va kva .byte cap vs (.int 0)) (hc : (0 ≤ cap.toInt ∧ cap.toInt < mm.toInt ∧ mm.toInt ≤ 40000)) :
    MetFree l own_y23 (head1 (Jvm.Cond.code own_y23 jdk_68_method_10_code 6 (some .int) :: ws) ({ frames := 2, cells := 0, slots := 0, locals := 29 } : Room)) (fun a U => a = #[(.ref a1), (.int mm)] ∧ Z.Warmed39 U.vm ∧ U.heap = h0) (fun _ _ _ _ _ => True) (fun _ U o U' => ∃ v L, o = .returned v ∧ Q_rmNc Z a1 va kva cap vs mm h0 n0 v U'.heap L ∧ FrameEnd U o U' L ({ frames := 2, cells := 0, slots := 0, locals := 29 } : Room).cells ({ frames := 2, cells := 0, slots := 0, locals := 29 } : Room).slots) := by
  refine MetFree.of_bodySF (plainFor_of_name pn_27) hisR ?_
  intro p e s m args below meth c s₁ Bd hml0 hP hK
  obtain ⟨rfl, hZ, hh⟩ := hP
  have hx := Bd.exec
  have hby := Bd.bytes
  have hml : c.maxLocals = 6 := hml0
  have hown : s.vm.findClass "java/lang/AbstractStringBuilder" = some m.cls := findClass_of_methodNamed Bd.named
  have hnm := (name_of_methodNamed Bd.named Bd.method).1
  have X0 : Stand p l e ({ frames := 2, cells := 0, slots := 0, locals := 29 } : Room) s m #[(.ref a1), (.int mm)] below meth c s₁ [] 0 0 := Stand.of_body Bd
  have e0 : s₁.heap = h0 := by rw [← hh, Bd.state]; rfl
  have N0 := Fr.nil n0
  refine own_enter (ef_rmNc m a1 mm) ?_
  refine own_st (fun t_ k_ => XS.aloadN X0.here hx rfl (hb hby d27_0) rfl rfl k_) ?_
  obtain ⟨T1, X1, e1, st1⟩ := getF X0 hx hZ hown (host := "") (Or.inl (own_w hw 97 rfl)) Via.refl e0 pF_value_a1 (g := (mkF m 1 #[.val (.ref a1), .val (.int mm), .unset, .unset, .unset, .unset] [(.ref a1)])) rfl rfl (hb hby d27_1)
  refine own_st st1 ?_
  obtain ⟨cl2, Ar2, q2, Sz2, Nn2, Hh2, Gg2⟩ := id pV_va
  refine own_st (fun t_ k_ => X1.arraylength hx (by rw [e1]; exact Ar2.1) (State.isArrayOf_alike hZ.alike Ar2.2.1) (g := (mkF m 4 #[.val (.ref a1), .val (.int mm), .unset, .unset, .unset, .unset] [(.ref va)])) rfl rfl (hb hby d27_4) _ k_) ?_
  rw [len_of Sz2 Nn2]
  show own_Go p e below T1 (mkF m 5 #[.val (.ref a1), .val (.int mm), .unset, .unset, .unset, .unset] [(.int cap)]) _
  refine own_st (fun t_ k_ => XS.istoreN X1.here hx rfl (hb hby d27_5) rfl (l' := #[.val (.ref a1), .val (.int mm), .val (.int cap), .unset, .unset, .unset]) rfl (XS.iloadN X1.here hx rfl (hb hby d27_6) rfl (XS.aloadN X1.here hx rfl (hb hby d27_7) rfl rfl k_))) ?_
  obtain ⟨T3, X3, e3, st3⟩ := getF X1 hx hZ hown (host := "") (Or.inl (own_w hw 99 rfl)) Via.refl e1 pF_coder_a1 (g := (mkF m 8 #[.val (.ref a1), .val (.int mm), .val (.int cap), .unset, .unset, .unset] [(.ref a1), (.int mm)])) rfl rfl (hb hby d27_8)
  refine own_st st3 ?_
  refine own_st (fun t_ k_ => XS.ishl X3.here hx rfl (hb hby d27_11) rfl k_) ?_
  show own_Go p e below T3 (mkF m 12 #[.val (.ref a1), .val (.int mm), .val (.int cap), .unset, .unset, .unset] [(.int (mm <<< ((0 : Int32) &&& 31)))]) _
  rw [own_shl0 mm]
  show own_Go p e below T3 (mkF m 12 #[.val (.ref a1), .val (.int mm), .val (.int cap), .unset, .unset, .unset] [(.int mm)]) _
  refine own_st (fun t_ k_ => XS.istoreN X3.here hx rfl (hb hby d27_12) rfl (l' := #[.val (.ref a1), .val (.int mm), .val (.int cap), .val (.int mm), .unset, .unset]) rfl (XS.iloadN X3.here hx rfl (hb hby d27_13) rfl (XS.iloadN X3.here hx rfl (hb hby d27_14) rfl (XS.isub X3.here hx rfl (hb hby d27_15) rfl (XS.istore X3.here hx rfl (hb hby d27_16) rfl (l' := #[.val (.ref a1), .val (.int mm), .val (.int cap), .val (.int mm), .val (.int (mm - cap)), .unset]) rfl (XS.iloadN X3.here hx rfl (hb hby d27_18) rfl (XS.iload X3.here hx rfl (hb hby d27_19) rfl (XS.iloadN X3.here hx rfl (hb hby d27_21) rfl (XS.iconst X3.here hx rfl (hb hby d27_22) (XS.aloadN X3.here hx rfl (hb hby d27_23) rfl rfl k_)))))))))) ?_
  show own_Go p e below T3 (mkF m 24 #[.val (.ref a1), .val (.int mm), .val (.int cap), .val (.int mm), .val (.int (mm - cap)), .unset] [(.ref a1), (.int (2 : Int32)), (.int cap), (.int (mm - cap)), (.int cap)]) _
  obtain ⟨T4, X4, e4, st4⟩ := getF X3 hx hZ hown (host := "") (Or.inl (own_w hw 99 rfl)) Via.refl e3 pF_coder_a1 (g := (mkF m 24 #[.val (.ref a1), .val (.int mm), .val (.int cap), .val (.int mm), .val (.int (mm - cap)), .unset] [(.ref a1), (.int (2 : Int32)), (.int cap), (.int (mm - cap)), (.int cap)])) rfl rfl (hb hby d27_24)
  refine own_st st4 ?_
  refine own_st (fun t_ k_ => XS.ishl X4.here hx rfl (hb hby d27_27) rfl k_) ?_
  show own_Go p e below T4 (mkF m 28 #[.val (.ref a1), .val (.int mm), .val (.int cap), .val (.int mm), .val (.int (mm - cap)), .unset] [(.int ((2 : Int32) <<< ((0 : Int32) &&& 31))), (.int cap), (.int (mm - cap)), (.int cap)]) _
  rw [own_shl0 (2 : Int32)]
  show own_Go p e below T4 (mkF m 28 #[.val (.ref a1), .val (.int mm), .val (.int cap), .val (.int mm), .val (.int (mm - cap)), .unset] [(.int (2 : Int32)), (.int cap), (.int (mm - cap)), (.int cap)]) _
  refine own_st (fun t_ k_ => XS.iadd X4.here hx rfl (hb hby d27_28) rfl k_) ?_
  have e1 : (mm - cap).toInt = mm.toInt - cap.toInt := own_subI (by omega) (by omega)
  have e2 : (cap + (2 : Int32)).toInt = cap.toInt + 2 := own_add2 (by omega) (by decide) (by rw [show (2 : Int32).toInt = 2 from rfl]; omega)
  obtain ⟨_, _, ⟨T5, L5, k5, n5⟩, -, X5, ⟨Lc5, hQ5, l5, y5, z5⟩, st5⟩ := Jvm.LawKit.callS X4 hx (y := own_y22) hown (mvT hZ (own_w hw 184 rfl)) (mvT hZ (own_w hw 185 rfl)) (mvT hZ (own_w hw 186 rfl)) (mvT hZ (own_w hw 187 rfl)) (by decide) (backOf (W := 0) (rmNl l Z a0 hw [] cap ((mm - cap)) ((cap + (2 : Int32))) h0 n0 Z0 (by omega) (by omega) (by omega)) hZ (own_w hw 187 rfl) (own_w hw 186 rfl) (by decide) (by decide)) (g := (mkF m 29 #[.val (.ref a1), .val (.int mm), .val (.int cap), .val (.int mm), .val (.int (mm - cap)), .unset] [(.int (cap + (2 : Int32))), (.int (mm - cap)), (.int cap)])) rfl (by rw [hml]; rfl) (argsL := [(.int cap), (.int (mm - cap)), (.int (cap + (2 : Int32)))]) (rest := []) (lenOf pd__III_I rfl) rfl (by show 2 * 0 + _ ≤ _; exact Nat.le_of_eq rfl) (hb hby d27_29) (fun _ _ => ⟨rfl, e4, (by decide : 0 + 0 ≤ _), (by decide : 0 + 0 ≤ _)⟩)
  dsimp only [Pt.U, Pt.locs, Pt.cells, Pt.slots] at X5 l5 y5 z5 st5 hQ5
  try dsimp only [Nat.reduceAdd] at y5 z5
  rw [l5, y5, z5] at X5
  obtain ⟨r_5, rfl, Nq5, eH5, q5_0⟩ := hQ5
  have N5 := Fr.app N0 Nq5
  refine own_st st5 ?_
  have hq := q5_0
  rw [e1, e2] at hq
  refine own_st (fun t_ k_ => XS.istore X5.here hx rfl (hb hby d27_32) rfl (l' := #[.val (.ref a1), .val (.int mm), .val (.int cap), .val (.int mm), .val (.int (mm - cap)), .val (.int r_5)]) rfl (XS.iload X5.here hx rfl (hb hby d27_34) rfl (X5.ldcInt hx hown (mvT hZ (own_w hw 192 rfl)) (g := (mkF m 36 #[.val (.ref a1), .val (.int mm), .val (.int cap), .val (.int mm), .val (.int (mm - cap)), .val (.int r_5)] [(.int r_5)])) rfl (hb hby d27_36) _ (XS.icmpYes X5.here hx rfl (pc0 := 38) (pc' := 51) rfl (hb hby d27_38) rfl (feq (fun q => by rw [q, show (2147483647 : Int32).toInt = 2147483647 from rfl] at hq; omega)).2 (by decide) (by decide) (XS.iload X5.here hx rfl (hb hby d27_51) rfl (XS.aloadN X5.here hx rfl (hb hby d27_53) rfl rfl k_)))))) ?_
  show own_Go p e below T5 (mkF m 54 #[.val (.ref a1), .val (.int mm), .val (.int cap), .val (.int mm), .val (.int (mm - cap)), .val (.int r_5)] [(.ref a1), (.int r_5)]) _
  obtain ⟨T6, X6, e6, st6⟩ := getF X5 hx hZ hown (host := "") (Or.inl (own_w hw 99 rfl)) Via.refl eH5 pF_coder_a1 (g := (mkF m 54 #[.val (.ref a1), .val (.int mm), .val (.int cap), .val (.int mm), .val (.int (mm - cap)), .val (.int r_5)] [(.ref a1), (.int r_5)])) rfl rfl (hb hby d27_54)
  refine own_st st6 ?_
  refine own_st (fun t_ k_ => XS.ishr X6.here hx rfl (hb hby d27_57) rfl k_) ?_
  show own_Go p e below T6 (mkF m 58 #[.val (.ref a1), .val (.int mm), .val (.int cap), .val (.int mm), .val (.int (mm - cap)), .val (.int r_5)] [(.int (r_5 >>> ((0 : Int32) &&& 31)))]) _
  rw [own_shr0 r_5]
  show own_Go p e below T6 (mkF m 58 #[.val (.ref a1), .val (.int mm), .val (.int cap), .val (.int mm), .val (.int (mm - cap)), .val (.int r_5)] [(.int r_5)]) _
  obtain ⟨fs, hr, hrun, hended, hW, hsame⟩ := X6.leave (v := some (.int r_5)) (fun h => by rw [Bd.returns] at h; cases h)
  refine own_fin (own_retI X6 hx Bd.returns (hb hby d27_58) hr) ⟨hrun, hended, _, _, rfl, ?_, ⟨_, rfl⟩, hW, hsame.mono (by decide) (by decide)⟩
  show Q_rmNc Z a1 va kva cap vs mm h0 n0 _ T6.heap _
  rw [e6]
  exact ⟨r_5, rfl, N5, rfl, (by unfold own_gr; omega)⟩
abbrev own_y24 : MethodName := ⟨"java/util/Arrays", "copyOf", "([BI)[B"⟩
abbrev own_c30 : ByteArray := jdk_65_method_121_code
theorem d30_0 : decode own_c30 0 = .ok (.iload_n 1, 1) := by decide +kernel
theorem d30_1 : decode own_c30 1 = .ok (.aload_n 0, 1) := by decide +kernel
theorem d30_2 : decode own_c30 2 = .ok (.arraylength, 1) := by decide +kernel
theorem d30_3 : decode own_c30 3 = .ok (.if_icmp .ne 11, 3) := by decide +kernel
theorem d30_14 : decode own_c30 14 = .ok (.iload_n 1, 1) := by decide +kernel
theorem d30_15 : decode own_c30 15 = .ok (.newarray .byte, 2) := by decide +kernel
theorem d30_17 : decode own_c30 17 = .ok (.astore_n 2, 1) := by decide +kernel
theorem d30_18 : decode own_c30 18 = .ok (.aload_n 0, 1) := by decide +kernel
theorem d30_19 : decode own_c30 19 = .ok (.iconst 0, 1) := by decide +kernel
theorem d30_20 : decode own_c30 20 = .ok (.aload_n 2, 1) := by decide +kernel
theorem d30_21 : decode own_c30 21 = .ok (.iconst 0, 1) := by decide +kernel
theorem d30_22 : decode own_c30 22 = .ok (.aload_n 0, 1) := by decide +kernel
theorem d30_23 : decode own_c30 23 = .ok (.arraylength, 1) := by decide +kernel
theorem d30_24 : decode own_c30 24 = .ok (.iload_n 1, 1) := by decide +kernel
theorem d30_25 : decode own_c30 25 = .ok (.invokestatic 304, 3) := by decide +kernel
theorem d30_28 : decode own_c30 28 = .ok (.invokestatic 150, 3) := by decide +kernel
theorem d30_31 : decode own_c30 31 = .ok (.aload_n 2, 1) := by decide +kernel
theorem d30_32 : decode own_c30 32 = .ok (.areturn, 1) := by decide +kernel
theorem pn_30 : plainName "java/util/Arrays" = true := by first | (simp [plainName, overriddenIn]; done) | decide +kernel
theorem ef_rmCy (m : MethodId) (x0 : Addr) (x1 : Int32) : entryFrame m #[(.ref x0), (.int x1)] 3 = mkF m 0 #[.val (.ref x0), .val (.int x1), .unset] [] := by first | (simp [entryFrame, mkF, argsToLocals, Value.category]; done) | rfl
def Q_rmCy (Z : State) (va : Addr) (kva : ClassId) (cap : Int32) (vs : List Value) (nc : Int32) (nN : Nat) (h0 : Heap) (n0 : Nat) (v : Option Value) (h : Heap) (L : List Loc) : Prop := ∃ b : Addr, ∃ kb : ClassId, v = some (.ref b) ∧ Fr n0 L ∧ Keep h0 h [] ∧ Arv Z h b kb .byte nc (vs ++ (List.replicate nN (.int (0 : Int32))).drop vs.length) (.int 0) ∧ h0.size ≤ b ∧ n0 ≤ b
set_option maxRecDepth 65536 in
set_option maxHeartbeats 40000000 in
theorem rmCy (l : Launch) (Z : State) (a0 : Array Value) (hw : ∀ d ∈ tables_1, d.before a0 Z = true) (ws : List Jvm.Cond) (va : Addr) (kva : ClassId) (cap : Int32) (vs : List Value) (nc : Int32) (nN : Nat) (h0 : Heap) (n0 : Nat) (Z0 : n0 ≤ h0.size) (pV_va : Arv Z h0 va kva .byte cap vs (.int 0)) (hcv : (cap.toInt = (vs.length : Int))) (hnc : (nc.toInt = (nN : Int))) (hlt : (vs.length < nN)) (hbd : (nN ≤ 142)) :
    MetFree l own_y24 (head1 (Jvm.Cond.code own_y24 jdk_65_method_121_code 3 (some (.array .byte)) :: ws) ({ frames := 1, cells := 1, slots := 142, locals := 120 } : Room)) (fun a U => a = #[(.ref va), (.int nc)] ∧ Z.Warmed39 U.vm ∧ U.heap = h0) (fun _ _ _ _ _ => True) (fun _ U o U' => ∃ v L, o = .returned v ∧ Q_rmCy Z va kva cap vs nc nN h0 n0 v U'.heap L ∧ FrameEnd U o U' L ({ frames := 1, cells := 1, slots := 142, locals := 120 } : Room).cells ({ frames := 1, cells := 1, slots := 142, locals := 120 } : Room).slots) := by
  refine MetFree.of_bodySF (plainFor_of_name pn_30) hisR ?_
  intro p e s m args below meth c s₁ Bd hml0 hP hK
  obtain ⟨rfl, hZ, hh⟩ := hP
  have hx := Bd.exec
  have hby := Bd.bytes
  have hml : c.maxLocals = 3 := hml0
  have hown : s.vm.findClass "java/util/Arrays" = some m.cls := findClass_of_methodNamed Bd.named
  have hnm := (name_of_methodNamed Bd.named Bd.method).1
  have X0 : Stand p l e ({ frames := 1, cells := 1, slots := 142, locals := 120 } : Room) s m #[(.ref va), (.int nc)] below meth c s₁ [] 0 0 := Stand.of_body Bd
  have e0 : s₁.heap = h0 := by rw [← hh, Bd.state]; rfl
  have N0 := Fr.nil n0
  refine own_enter (ef_rmCy m va nc) ?_
  have hne : ¬ (nc = cap) := fun q => by rw [q] at hnc; omega
  have hnl : ¬ (nc < cap) := by rw [Int32.lt_iff_toInt_lt]; omega
  refine own_st (fun t_ k_ => XS.iloadN X0.here hx rfl (hb hby d30_0) rfl (XS.aloadN X0.here hx rfl (hb hby d30_1) rfl rfl k_)) ?_
  obtain ⟨cl1, Ar1, q1, Sz1, Nn1, Hh1, Gg1⟩ := id pV_va
  refine own_st (fun t_ k_ => X0.arraylength hx (by rw [e0]; exact Ar1.1) (State.isArrayOf_alike hZ.alike Ar1.2.1) (g := (mkF m 2 #[.val (.ref va), .val (.int nc), .unset] [(.ref va), (.int nc)])) rfl rfl (hb hby d30_2) _ k_) ?_
  rw [len_of Sz1 Nn1]
  show own_Go p e below s₁ (mkF m 3 #[.val (.ref va), .val (.int nc), .unset] [(.int cap), (.int nc)]) _
  refine own_st (fun t_ k_ => XS.icmpYes X0.here hx rfl (pc0 := 3) (pc' := 14) rfl (hb hby d30_3) rfl (feq hne).2 (by decide) (by decide) (XS.iloadN X0.here hx rfl (hb hby d30_14) rfl k_)) ?_
  obtain ⟨T2, h2, k2, X2, e2, E2, A2, st2⟩ := newP X0 hx hZ (own_w hw 27 rfl) e0 (g := (mkF m 15 #[.val (.ref va), .val (.int nc), .unset] [(.int nc)])) rfl (hb hby d30_15) rfl (own_nonneg hnc) (cap := 142) (by rw [own_clamp hnc]; exact hbd) (by decide) (by decide) (by decide)
  obtain ⟨b2, g2⟩ : ∃ z, z = h0.size := ⟨_, rfl⟩
  rw [← g2] at A2 st2
  have G2 : n0 ≤ b2 := Nat.le_trans Z0 (Nat.le_of_eq g2.symm)
  have B2 : h0.size ≤ b2 := Nat.le_trans (Keep.refl h0 []).1 (Nat.le_of_eq g2.symm)
  have K3 : Keep h0 h2 [] := (Keep.refl h0 []).ext E2
  have V2 : Arv Z h2 b2 k2 .byte nc [] (.int (0 : Int32)) := Arv.new A2 (own_nonneg hnc)
  refine own_st st2 ?_
  have Vp : Arv Z h2 b2 k2 .byte nc (List.replicate nN (.int (0 : Int32))) (.int (0 : Int32)) := V2.pad (pad_rep [] (.int (0 : Int32)) nN)
  refine own_st (fun t_ k_ => XS.astoreN X2.here hx rfl (hb hby d30_17) rfl rfl (l' := #[.val (.ref va), .val (.int nc), .val (.ref b2)]) rfl (XS.aloadN X2.here hx rfl (hb hby d30_18) rfl rfl (XS.iconst X2.here hx rfl (hb hby d30_19) (XS.aloadN X2.here hx rfl (hb hby d30_20) rfl rfl (XS.iconst X2.here hx rfl (hb hby d30_21) (XS.aloadN X2.here hx rfl (hb hby d30_22) rfl rfl k_)))))) ?_
  show own_Go p e below T2 (mkF m 23 #[.val (.ref va), .val (.int nc), .val (.ref b2)] [(.ref va), (.int (0 : Int32)), (.ref b2), (.int (0 : Int32)), (.ref va)]) _
  have f4 := (pV_va.ext E2)
  obtain ⟨cl5, Ar5, q5, Sz5, Nn5, Hh5, Gg5⟩ := id f4
  refine own_st (fun t_ k_ => X2.arraylength hx (by rw [e2]; exact Ar5.1) (State.isArrayOf_alike hZ.alike Ar5.2.1) (g := (mkF m 23 #[.val (.ref va), .val (.int nc), .val (.ref b2)] [(.ref va), (.int (0 : Int32)), (.ref b2), (.int (0 : Int32)), (.ref va)])) rfl rfl (hb hby d30_23) _ k_) ?_
  rw [len_of Sz5 Nn5]
  show own_Go p e below T2 (mkF m 24 #[.val (.ref va), .val (.int nc), .val (.ref b2)] [(.int cap), (.int (0 : Int32)), (.ref b2), (.int (0 : Int32)), (.ref va)]) _
  refine own_st (fun t_ k_ => XS.iloadN X2.here hx rfl (hb hby d30_24) rfl k_) ?_
  have f6 := (Nat.le_trans Z0 E2.1)
  obtain ⟨_, _, ⟨T7, L7, k7, n7⟩, -, X7, ⟨Lc7, hQ7, l7, y7, z7⟩, st7⟩ := Jvm.LawKit.callS X2 hx (y := own_y11) hown (mvT hZ (own_w hw 197 rfl)) (mvT hZ (own_w hw 1 rfl)) (mvT hZ (own_w hw 2 rfl)) (mvT hZ (own_w hw 3 rfl)) (by decide) (backOf (W := 4) (rmMa l Z a0 hw [] cap nc h2 n0 f6 hnl) hZ (own_w hw 3 rfl) (own_w hw 2 rfl) (by decide) (by decide)) (g := (mkF m 25 #[.val (.ref va), .val (.int nc), .val (.ref b2)] [(.int nc), (.int cap), (.int (0 : Int32)), (.ref b2), (.int (0 : Int32)), (.ref va)])) rfl (by rw [hml]; rfl) (argsL := [(.int cap), (.int nc)]) (rest := [(.int (0 : Int32)), (.ref b2), (.int (0 : Int32)), (.ref va)]) (lenOf pd__II_I rfl) rfl (by show 2 * 0 + _ ≤ _; exact Nat.le_of_eq rfl) (hb hby d30_25) (fun _ _ => ⟨rfl, e2, (by decide : 1 + 0 ≤ _), (by decide : 142 + 0 ≤ _)⟩)
  dsimp only [Pt.U, Pt.locs, Pt.cells, Pt.slots] at X7 l7 y7 z7 st7 hQ7
  try dsimp only [Nat.reduceAdd] at y7 z7
  rw [l7, y7, z7] at X7
  obtain ⟨rfl, Nq7, eH7⟩ := hQ7
  have N7 := Fr.app N0 Nq7
  refine own_st st7 ?_
  obtain ⟨T8, h8, L8, X8, e8, N8, Kq8, Va8, st8⟩ := cpA X7 hx hZ hown (own_w hw 198 rfl) (own_w hw 151 rfl) (own_w hw 149 rfl) (own_w hw 150 rfl) eH7 f4 Vp (Or.inl ⟨rfl, rfl⟩) (sp := (0 : Int32)) (dp := (0 : Int32)) (nn := cap) (by decide) (by decide) (own_nonneg hcv) (Nat.le_of_eq (Nat.zero_add _)) (by rw [own_clamp hcv, own_clamp hnc]; exact Nat.le_trans (Nat.le_of_eq (Nat.zero_add _)) (Nat.le_of_lt hlt)) (us := vs) (by have q := own_range (tl := []) (d := (.int 0)) hcv; rw [List.append_nil] at q; exact q) (by rw [own_clamp hcv, List.length_replicate]; exact Nat.le_trans (Nat.le_of_eq (Nat.zero_add _)) (Nat.le_of_lt hlt)) N7 G2 (g := (mkF m 28 #[.val (.ref va), .val (.int nc), .val (.ref b2)] [(.int cap), (.int (0 : Int32)), (.ref b2), (.int (0 : Int32)), (.ref va)])) rfl (by rw [hml]; rfl) (rest := []) rfl (hb hby d30_28) (by decide) (W := 0) (by show 2 * 0 + _ ≤ _; exact Nat.le_of_eq rfl) (by decide +kernel)
  rw [own_cpD hcv] at Va8
  have K9 : Keep h0 h8 [] := K3.trans Kq8 (allS (Or.inr B2) all0)
  refine own_st st8 ?_
  refine own_st (fun t_ k_ => XS.aloadN X8.here hx rfl (hb hby d30_31) rfl rfl k_) ?_
  obtain ⟨fs, hr, hrun, hended, hW, hsame⟩ := X8.leave (v := some (.ref b2)) (fun h => by rw [Bd.returns] at h; cases h)
  refine own_fin (own_retR X8 hx rfl Bd.returns rfl (hb hby d30_32) hr) ⟨hrun, hended, _, _, rfl, ?_, ⟨_, rfl⟩, hW, hsame.mono (by decide) (by decide)⟩
  show Q_rmCy Z va kva cap vs nc nN h0 n0 _ T8.heap _
  rw [e8]
  exact ⟨b2, k2, rfl, N8, K9, Va8, B2, G2⟩
theorem d18_17 : decode own_c18 17 = .ok (.aload_n 0, 1) := by decide +kernel
theorem d18_18 : decode own_c18 18 = .ok (.aload_n 0, 1) := by decide +kernel
theorem d18_19 : decode own_c18 19 = .ok (.getfield 15, 3) := by decide +kernel
theorem d18_22 : decode own_c18 22 = .ok (.aload_n 0, 1) := by decide +kernel
theorem d18_23 : decode own_c18 23 = .ok (.iload_n 1, 1) := by decide +kernel
theorem d18_24 : decode own_c18 24 = .ok (.invokevirtual 104, 3) := by decide +kernel
theorem d18_27 : decode own_c18 27 = .ok (.aload_n 0, 1) := by decide +kernel
theorem d18_28 : decode own_c18 28 = .ok (.getfield 22, 3) := by decide +kernel
theorem d18_31 : decode own_c18 31 = .ok (.ishl, 1) := by decide +kernel
theorem d18_32 : decode own_c18 32 = .ok (.invokestatic 108, 3) := by decide +kernel
theorem d18_35 : decode own_c18 35 = .ok (.putfield 15, 3) := by decide +kernel
theorem pd__I_I : parseMethodDescriptor "(I)I" = some ⟨[.int], some .int⟩ := by decide +kernel
theorem pd___BI__B : parseMethodDescriptor "([BI)[B" = some ⟨[(.array .byte), .int], some (.array .byte)⟩ := by decide +kernel
theorem ef_rmEg (m : MethodId) (x0 : Addr) (x1 : Int32) : entryFrame m #[(.ref x0), (.int x1)] 3 = mkF m 0 #[.val (.ref x0), .val (.int x1), .unset] [] := by first | (simp [entryFrame, mkF, argsToLocals, Value.category]; done) | rfl
def Q_rmEg (Z : State) (a1 : Addr) (va : Addr) (kva : ClassId) (cap : Int32) (vs : List Value) (mm : Int32) (k : Int32) (h0 : Heap) (n0 : Nat) (v : Option Value) (h : Heap) (L : List Loc) : Prop := ∃ vb : Addr, ∃ kvb : ClassId, ∃ cap2 : Int32, ∃ r2 : List Value, v = none ∧ Fr n0 L ∧ Keep h0 h [a1] ∧ Exa Z h a1 "java/lang/StringBuilder" ∧ Fld Z h a1 "java/lang/AbstractStringBuilder" "value" "[B" (.ref vb) ∧ Fld Z h a1 "java/lang/AbstractStringBuilder" "coder" "B" (.int (0 : Int32)) ∧ Arv Z h vb kvb .byte cap2 (vs ++ r2) (.int 0) ∧ h0.size ≤ vb ∧ n0 ≤ vb ∧ (own_gr cap mm cap2 ∧ cap2.toInt = ((vs.length + r2.length : Nat) : Int)) ∧ Fld Z h a1 "java/lang/AbstractStringBuilder" "count" "I" (.int k)
set_option maxRecDepth 65536 in
set_option maxHeartbeats 40000000 in
theorem rmEg (l : Launch) (Z : State) (a0 : Array Value) (hw : ∀ d ∈ tables_1, d.before a0 Z = true) (ws : List Jvm.Cond) (a1 : Addr) (va : Addr) (kva : ClassId) (cap : Int32) (vs : List Value) (mm : Int32) (k : Int32) (h0 : Heap) (n0 : Nat) (Z0 : n0 ≤ h0.size) (pE_a1 : Exa Z h0 a1 "java/lang/StringBuilder") (pF_value_a1 : Fld Z h0 a1 "java/lang/AbstractStringBuilder" "value" "[B" (.ref va)) (pF_coder_a1 : Fld Z h0 a1 "java/lang/AbstractStringBuilder" "coder" "B" (.int (0 : Int32))) (pV_va : Arv Z h0 va kva .byte cap vs (.int 0)) (pF_count_a1 : Fld Z h0 a1 "java/lang/AbstractStringBuilder" "count" "I" (.int k)) (hc : (0 ≤ cap.toInt ∧ cap.toInt < mm.toInt ∧ mm.toInt ≤ 40000)) (hcv : (cap.toInt = (vs.length : Int))) (hbd : (mm.toInt ≤ 142 ∧ 2 * cap.toInt + 2 ≤ 142)) (pG_a1 : n0 ≤ a1) :
    MetFree l own_y4 (head1 (Jvm.Cond.code own_y4 jdk_68_method_9_code 3 none :: ws) ({ frames := 3, cells := 1, slots := 142, locals := 135 } : Room)) (fun a U => a = #[(.ref a1), (.int mm)] ∧ Z.Warmed39 U.vm ∧ U.heap = h0) (fun _ _ _ _ _ => True) (fun _ U o U' => ∃ v L, o = .returned v ∧ Q_rmEg Z a1 va kva cap vs mm k h0 n0 v U'.heap L ∧ FrameEnd U o U' L ({ frames := 3, cells := 1, slots := 142, locals := 135 } : Room).cells ({ frames := 3, cells := 1, slots := 142, locals := 135 } : Room).slots) := by
  refine MetFree.of_bodySF (plainFor_of_name pn_18) hisR ?_
  intro p e s m args below meth c s₁ Bd hml0 hP hK
  obtain ⟨rfl, hZ, hh⟩ := hP
  have hx := Bd.exec
  have hby := Bd.bytes
  have hml : c.maxLocals = 3 := hml0
  have hown : s.vm.findClass "java/lang/AbstractStringBuilder" = some m.cls := findClass_of_methodNamed Bd.named
  have hnm := (name_of_methodNamed Bd.named Bd.method).1
  have X0 : Stand p l e ({ frames := 3, cells := 1, slots := 142, locals := 135 } : Room) s m #[(.ref a1), (.int mm)] below meth c s₁ [] 0 0 := Stand.of_body Bd
  have e0 : s₁.heap = h0 := by rw [← hh, Bd.state]; rfl
  have N0 := Fr.nil n0
  refine own_enter (ef_rmEg m a1 mm) ?_
  refine own_st (fun t_ k_ => XS.aloadN X0.here hx rfl (hb hby d18_0) rfl rfl k_) ?_
  obtain ⟨T1, X1, e1, st1⟩ := getF X0 hx hZ hown (host := "") (Or.inl (own_w hw 97 rfl)) Via.refl e0 pF_value_a1 (g := (mkF m 1 #[.val (.ref a1), .val (.int mm), .unset] [(.ref a1)])) rfl rfl (hb hby d18_1)
  refine own_st st1 ?_
  obtain ⟨cl2, Ar2, q2, Sz2, Nn2, Hh2, Gg2⟩ := id pV_va
  refine own_st (fun t_ k_ => X1.arraylength hx (by rw [e1]; exact Ar2.1) (State.isArrayOf_alike hZ.alike Ar2.2.1) (g := (mkF m 4 #[.val (.ref a1), .val (.int mm), .unset] [(.ref va)])) rfl rfl (hb hby d18_4) _ k_) ?_
  rw [len_of Sz2 Nn2]
  show own_Go p e below T1 (mkF m 5 #[.val (.ref a1), .val (.int mm), .unset] [(.int cap)]) _
  refine own_st (fun t_ k_ => XS.aloadN X1.here hx rfl (hb hby d18_5) rfl rfl k_) ?_
  obtain ⟨T3, X3, e3, st3⟩ := getF X1 hx hZ hown (host := "") (Or.inl (own_w hw 99 rfl)) Via.refl e1 pF_coder_a1 (g := (mkF m 6 #[.val (.ref a1), .val (.int mm), .unset] [(.ref a1), (.int cap)])) rfl rfl (hb hby d18_6)
  refine own_st st3 ?_
  refine own_st (fun t_ k_ => XS.ishr X3.here hx rfl (hb hby d18_9) rfl k_) ?_
  show own_Go p e below T3 (mkF m 10 #[.val (.ref a1), .val (.int mm), .unset] [(.int (cap >>> ((0 : Int32) &&& 31)))]) _
  rw [own_shr0 cap]
  show own_Go p e below T3 (mkF m 10 #[.val (.ref a1), .val (.int mm), .unset] [(.int cap)]) _
  refine own_st (fun t_ k_ => XS.istoreN X3.here hx rfl (hb hby d18_10) rfl (l' := #[.val (.ref a1), .val (.int mm), .val (.int cap)]) rfl (XS.iloadN X3.here hx rfl (hb hby d18_11) rfl (XS.iloadN X3.here hx rfl (hb hby d18_12) rfl (XS.isub X3.here hx rfl (hb hby d18_13) rfl (XS.ifNo X3.here hx rfl (hb hby d18_14) rfl ((if0 _ _).trans (tlt (own_subP (by omega) (by omega) (by omega))).2.2.2) (XS.aloadN X3.here hx rfl (hb hby d18_17) rfl rfl (XS.aloadN X3.here hx rfl (hb hby d18_18) rfl rfl k_))))))) ?_
  show own_Go p e below T3 (mkF m 19 #[.val (.ref a1), .val (.int mm), .val (.int cap)] [(.ref a1), (.ref a1)]) _
  obtain ⟨T4, X4, e4, st4⟩ := getF X3 hx hZ hown (host := "") (Or.inl (own_w hw 97 rfl)) Via.refl e3 pF_value_a1 (g := (mkF m 19 #[.val (.ref a1), .val (.int mm), .val (.int cap)] [(.ref a1), (.ref a1)])) rfl rfl (hb hby d18_19)
  refine own_st st4 ?_
  refine own_st (fun t_ k_ => XS.aloadN X4.here hx rfl (hb hby d18_22) rfl rfl (XS.iloadN X4.here hx rfl (hb hby d18_23) rfl k_)) ?_
  obtain ⟨cq5, kq5, qa5, qb5, qc5⟩ := isOf hZ e4 pE_a1
  obtain ⟨_, _, ⟨T5, L5, k5, n5⟩, -, X5, ⟨Lc5, hQ5, l5, y5, z5⟩, st5⟩ := X4.virtualBack hx (y := own_y23) (z := own_y23) hown (mvT hZ (own_w hw 179 rfl)) (mvT hZ (own_decl (own_w hw 180 rfl) (own_w hw 183 rfl))) (notFace_of_selects (args := #[]) (mvT hZ (own_w hw 182 rfl))) (mvT hZ (own_w hw 182 rfl)) (mvT hZ (own_w hw 180 rfl)) (by decide) (backOf (W := 2) (rmNc l Z a0 hw [] a1 va kva cap vs mm h0 n0 Z0 pE_a1 pF_value_a1 pF_coder_a1 pV_va hc) hZ (own_w hw 183 rfl) (own_w hw 93 rfl) (by decide) (by decide)) qa5 qc5 (g := (mkF m 24 #[.val (.ref a1), .val (.int mm), .val (.int cap)] [(.int mm), (.ref a1), (.ref va), (.ref a1)])) rfl (by rw [hml]; rfl) (Steps.refl _) (argsL := [(.int mm)]) (rest := [(.ref va), (.ref a1)]) (lenOf pd__I_I rfl) rfl (by show 2 * 0 + _ ≤ _; exact Nat.le_of_eq rfl) (hb hby d18_24) (fun _ _ => ⟨rfl, e4, (by decide : 0 + 0 ≤ _), (by decide : 0 + 0 ≤ _)⟩)
  dsimp only [Pt.U, Pt.locs, Pt.cells, Pt.slots] at X5 l5 y5 z5 st5 hQ5
  try dsimp only [Nat.reduceAdd] at y5 z5
  rw [l5, y5, z5] at X5
  obtain ⟨r_5, rfl, Nq5, eH5, q5_0⟩ := hQ5
  have N5 := Fr.app N0 Nq5
  refine own_tr st5 ?_
  have hq := q5_0
  have hq2 := hq
  unfold own_gr at hq2
  obtain ⟨nN, hN⟩ : ∃ n : Nat, r_5.toInt = (n : Int) := ⟨r_5.toInt.toNat, by omega⟩
  refine own_st (fun t_ k_ => XS.aloadN X5.here hx rfl (hb hby d18_27) rfl rfl k_) ?_
  obtain ⟨T6, X6, e6, st6⟩ := getF X5 hx hZ hown (host := "") (Or.inl (own_w hw 99 rfl)) Via.refl eH5 pF_coder_a1 (g := (mkF m 28 #[.val (.ref a1), .val (.int mm), .val (.int cap)] [(.ref a1), (.int r_5), (.ref va), (.ref a1)])) rfl rfl (hb hby d18_28)
  refine own_st st6 ?_
  refine own_st (fun t_ k_ => XS.ishl X6.here hx rfl (hb hby d18_31) rfl k_) ?_
  show own_Go p e below T6 (mkF m 32 #[.val (.ref a1), .val (.int mm), .val (.int cap)] [(.int (r_5 <<< ((0 : Int32) &&& 31))), (.ref va), (.ref a1)]) _
  rw [own_shl0 r_5]
  show own_Go p e below T6 (mkF m 32 #[.val (.ref a1), .val (.int mm), .val (.int cap)] [(.int r_5), (.ref va), (.ref a1)]) _
  obtain ⟨_, _, ⟨T7, L7, k7, n7⟩, -, X7, ⟨Lc7, hQ7, l7, y7, z7⟩, st7⟩ := Jvm.LawKit.callS X6 hx (y := own_y24) hown (mvT hZ (own_w hw 193 rfl)) (mvT hZ (own_w hw 194 rfl)) (mvT hZ (own_w hw 195 rfl)) (mvT hZ (own_w hw 196 rfl)) (by decide) (backOf (W := 1) (rmCy l Z a0 hw [] va kva cap vs r_5 nN h0 n0 Z0 pV_va hcv hN (by omega) (by omega)) hZ (own_w hw 196 rfl) (own_w hw 195 rfl) (by decide) (by decide)) (g := (mkF m 32 #[.val (.ref a1), .val (.int mm), .val (.int cap)] [(.int r_5), (.ref va), (.ref a1)])) rfl (by rw [hml]; rfl) (argsL := [(.ref va), (.int r_5)]) (rest := [(.ref a1)]) (lenOf pd___BI__B rfl) rfl (by show 2 * 0 + _ ≤ _; exact Nat.le_of_eq rfl) (hb hby d18_32) (fun _ _ => ⟨rfl, e6, (by decide : 0 + 1 ≤ _), (by decide : 0 + 142 ≤ _)⟩)
  dsimp only [Pt.U, Pt.locs, Pt.cells, Pt.slots] at X7 l7 y7 z7 st7 hQ7
  try dsimp only [Nat.reduceAdd] at y7 z7
  rw [l7, y7, z7] at X7
  obtain ⟨b_7, kb_7, rfl, Nq7, Kq7, q7_0, q7_1, q7_2⟩ := hQ7
  have N7 := Fr.app N5 Nq7
  have K8 : Keep h0 T7.heap [a1] := (Keep.refl h0 [a1]).trans Kq7 all0
  have Bf9 : h0.size ≤ b_7 := Nat.le_trans (Keep.refl h0 [a1]).1 q7_1
  refine own_st st7 ?_
  have f10 := (pE_a1.keep Kq7)
  have f11 := (pF_value_a1.keep Kq7 nin0)
  obtain ⟨T12, h12, X12, e12, W12, st12⟩ := putF X7 hx hZ hown (host := "") (Or.inl (own_w hw 97 rfl)) Via.refl rfl f11 f10 (Or.inl (own_w hw 98 rfl)) (own_w hw 84 rfl) (ty := (.array .byte)) (by decide) rfl rfl (g := (mkF m 35 #[.val (.ref a1), .val (.int mm), .val (.int cap)] [(.ref b_7), (.ref a1)])) rfl rfl (hb hby d18_35)
  have F12 := f11.same W12
  have K13 : Keep h0 h12 [a1] := K8.wr W12 (Or.inl (List.mem_of_getElem? (i := 0) rfl))
  have N12 := Fr.snoc X12 N7 pG_a1
  refine own_st st12 ?_
  have f14 := (f10.wr W12)
  have f15 := ((pF_coder_a1.keep Kq7 nin0).other W12 (Or.inr (slot_ne (Or.inl (own_w hw 100 rfl)) (Or.inl (own_w hw 98 rfl)) (by decide) (t := .byte) (t' := (.array .byte)) (by decide) (by decide))))
  have f16 := (q7_0.other W12 (Ne.symm (Nat.ne_of_lt (Nat.lt_of_lt_of_le pE_a1.lt q7_1))))
  have f17 := ((pF_count_a1.keep Kq7 nin0).other W12 (Or.inr (slot_ne (Or.inl (own_w hw 126 rfl)) (Or.inl (own_w hw 98 rfl)) (by decide) (t := .int) (t' := (.array .byte)) (by decide) (by decide))))
  obtain ⟨fs, hr, hrun, hended, hW, hsame⟩ := X12.leave (v := none) (fun _ => rfl)
  refine own_fin (X12.returnOut hx Bd.returns (hb hby d18_38) hr) ⟨hrun, hended, _, _, rfl, ?_, ⟨_, rfl⟩, hW, hsame.mono (by decide) (by decide)⟩
  show Q_rmEg Z a1 va kva cap vs mm k h0 n0 _ T12.heap _
  rw [e12]
  exact ⟨b_7, kb_7, r_5, ((List.replicate nN (.int (0 : Int32))).drop vs.length), rfl, N12, K13, f14, F12, f15, f16, Bf9, q7_2, ⟨hq, by rw [List.length_drop, List.length_replicate]; omega⟩, f17⟩
theorem ef_rmAgA (m : MethodId) (x0 : Addr) (x1 : Addr) : entryFrame m #[(.ref x0), (.ref x1)] 3 = mkF m 0 #[.val (.ref x0), .val (.ref x1), .unset] [] := by first | (simp [entryFrame, mkF, argsToLocals, Value.category]; done) | rfl
def Q_rmAgA (Z : State) (a1 : Addr) (va : Addr) (kva : ClassId) (cap : Int32) (k : Int32) (bs : List Value) (rest : List Value) (x : Addr) (tx : Addr) (kx : ClassId) (n : Int32) (us : List Value) (zc : Int32) (h0 : Heap) (n0 : Nat) (v : Option Value) (h : Heap) (L : List Loc) : Prop := ∃ vb : Addr, ∃ kvb : ClassId, ∃ cap2 : Int32, ∃ r2 : List Value, v = some (.ref a1) ∧ Fr n0 L ∧ Keep h0 h [a1] ∧ Exa Z h a1 "java/lang/StringBuilder" ∧ Fld Z h a1 "java/lang/AbstractStringBuilder" "value" "[B" (.ref vb) ∧ Fld Z h a1 "java/lang/AbstractStringBuilder" "coder" "B" (.int (0 : Int32)) ∧ Fld Z h a1 "java/lang/AbstractStringBuilder" "count" "I" (.int (k + n)) ∧ Arv Z h vb kvb .byte cap2 ((bs ++ us) ++ r2) (.int 0) ∧ h0.size ≤ vb ∧ n0 ≤ vb ∧ (own_gr cap (k + n) cap2 ∧ cap2.toInt = ((bs.length + (us : List Value).length + r2.length : Nat) : Int))
set_option maxRecDepth 65536 in
set_option maxHeartbeats 40000000 in
theorem rmAgA (l : Launch) (Z : State) (a0 : Array Value) (hw : ∀ d ∈ tables_1, d.before a0 Z = true) (ws : List Jvm.Cond) (a1 : Addr) (va : Addr) (kva : ClassId) (cap : Int32) (k : Int32) (bs : List Value) (rest : List Value) (x : Addr) (tx : Addr) (kx : ClassId) (n : Int32) (us : List Value) (zc : Int32) (h0 : Heap) (n0 : Nat) (Z0 : n0 ≤ h0.size) (pE_a1 : Exa Z h0 a1 "java/lang/StringBuilder") (pF_value_a1 : Fld Z h0 a1 "java/lang/AbstractStringBuilder" "value" "[B" (.ref va)) (pF_coder_a1 : Fld Z h0 a1 "java/lang/AbstractStringBuilder" "coder" "B" (.int (0 : Int32))) (pF_count_a1 : Fld Z h0 a1 "java/lang/AbstractStringBuilder" "count" "I" (.int k)) (pV_va : Arv Z h0 va kva .byte cap (bs ++ rest) (.int 0)) (pE_x : Exa Z h0 x "java/lang/String") (pF_value_x : Fld Z h0 x "java/lang/String" "value" "[B" (.ref tx)) (pF_coder_x : Fld Z h0 x "java/lang/String" "coder" "B" (.int (0 : Int32))) (pV_tx : Arv Z h0 tx kx .byte n us (.int 0)) (hk : (k.toInt = (bs.length : Int))) (hcap : (cap.toInt = ((bs.length + rest.length : Nat) : Int))) (hn : (n.toInt = (us.length : Int))) (hgt : (rest.length < us.length)) (hbd : (bs.length + us.length ≤ 142 ∧ 2 * (bs.length + rest.length) + 2 ≤ 142)) (pG_a1 : n0 ≤ a1) (pG_va : n0 ≤ va) (pS_COMPACT_STRINGS : Sta Z Z.heap "java/lang/String" "COMPACT_STRINGS" "Z" (.int zc)) (pP5 : (¬ (zc = (0 : Int32)))) (pO : Old Z n0 h0) :
    MetFree l own_y8 (head1 (Jvm.Cond.code own_y8 jdk_68_method_22_code 3 (some (.object "java/lang/AbstractStringBuilder")) :: ws) ({ frames := 4, cells := 1, slots := 142, locals := 149 } : Room)) (fun a U => a = #[(.ref a1), (.ref x)] ∧ Z.Warmed39 U.vm ∧ U.heap = h0) (fun _ _ _ _ _ => True) (fun _ U o U' => ∃ v L, o = .returned v ∧ Q_rmAgA Z a1 va kva cap k bs rest x tx kx n us zc h0 n0 v U'.heap L ∧ FrameEnd U o U' L ({ frames := 4, cells := 1, slots := 142, locals := 149 } : Room).cells ({ frames := 4, cells := 1, slots := 142, locals := 149 } : Room).slots) := by
  refine MetFree.of_bodySF (plainFor_of_name pn_15) hisR ?_
  intro p e s m args below meth c s₁ Bd hml0 hP hK
  obtain ⟨rfl, hZ, hh⟩ := hP
  have hx := Bd.exec
  have hby := Bd.bytes
  have hml : c.maxLocals = 3 := hml0
  have hown : s.vm.findClass "java/lang/AbstractStringBuilder" = some m.cls := findClass_of_methodNamed Bd.named
  have hnm := (name_of_methodNamed Bd.named Bd.method).1
  have X0 : Stand p l e ({ frames := 4, cells := 1, slots := 142, locals := 149 } : Room) s m #[(.ref a1), (.ref x)] below meth c s₁ [] 0 0 := Stand.of_body Bd
  have e0 : s₁.heap = h0 := by rw [← hh, Bd.state]; rfl
  have N0 := Fr.nil n0
  refine own_enter (ef_rmAgA m a1 x) ?_
  have hkn := own_addI hk hn (by omega)
  refine own_st (fun t_ k_ => XS.aloadN X0.here hx rfl (hb hby d15_0) rfl rfl (XS.ifnonnullYes X0.here hx rfl (pc0 := 1) (pc' := 9) rfl (hb hby d15_1) rfl (by decide) (by decide) (XS.aloadN X0.here hx rfl (hb hby d15_9) rfl rfl k_))) ?_
  obtain ⟨cq1, kq1, qa1, qb1, qc1⟩ := isOf hZ e0 pE_x
  obtain ⟨_, _, ⟨T1, L1, k1, n1⟩, -, X1, ⟨Lc1, hQ1, l1, y1, z1⟩, st1⟩ := X0.virtualBack hx (y := own_y1) (z := own_y1) hown (mvT hZ (own_w hw 112 rfl)) (mvT hZ (own_w hw 113 rfl)) (notFace_of_selects (args := #[]) (mvT hZ (own_w hw 115 rfl))) (mvT hZ (own_w hw 115 rfl)) (mvT hZ (own_w hw 114 rfl)) (by decide) (backOf (W := 0) (rmLe l Z a0 hw [] x tx kx n us zc h0 n0 Z0 pE_x pF_value_x pF_coder_x pV_tx pS_COMPACT_STRINGS pP5 pO) hZ (own_w hw 116 rfl) (own_w hw 25 rfl) (by decide) (by decide)) qa1 qc1 (g := (mkF m 10 #[.val (.ref a1), .val (.ref x), .unset] [(.ref x)])) rfl (by rw [hml]; rfl) (Steps.refl _) (argsL := []) (rest := []) (lenOf pd___I rfl) rfl (by show 2 * 0 + _ ≤ _; exact Nat.le_of_eq rfl) (hb hby d15_10) (fun _ _ => ⟨rfl, e0, (by decide : 0 + 0 ≤ _), (by decide : 0 + 0 ≤ _)⟩)
  dsimp only [Pt.U, Pt.locs, Pt.cells, Pt.slots] at X1 l1 y1 z1 st1 hQ1
  try dsimp only [Nat.reduceAdd] at y1 z1
  rw [l1, y1, z1] at X1
  obtain ⟨rfl, Nq1, eH1⟩ := hQ1
  have N1 := Fr.app N0 Nq1
  refine own_tr st1 ?_
  refine own_st (fun t_ k_ => XS.istoreN X1.here hx rfl (hb hby d15_13) rfl (l' := #[.val (.ref a1), .val (.ref x), .val (.int n)]) rfl (XS.aloadN X1.here hx rfl (hb hby d15_14) rfl rfl (XS.aloadN X1.here hx rfl (hb hby d15_15) rfl rfl k_))) ?_
  obtain ⟨T2, X2, e2, st2⟩ := getF X1 hx hZ hown (host := "") (Or.inl (own_w hw 125 rfl)) Via.refl eH1 pF_count_a1 (g := (mkF m 16 #[.val (.ref a1), .val (.ref x), .val (.int n)] [(.ref a1), (.ref a1)])) rfl rfl (hb hby d15_16)
  refine own_st st2 ?_
  refine own_st (fun t_ k_ => XS.iloadN X2.here hx rfl (hb hby d15_19) rfl (XS.iadd X2.here hx rfl (hb hby d15_20) rfl k_)) ?_
  obtain ⟨cq3, kq3, qa3, qb3, qc3⟩ := isOf hZ e2 pE_a1
  obtain ⟨_, _, ⟨T3, L3, k3, n3⟩, -, X3, ⟨Lc3, hQ3, l3, y3, z3⟩, st3⟩ := X2.virtualBack hx (y := own_y4) (z := own_y4) hown (mvT hZ (own_w hw 127 rfl)) (mvT hZ (own_decl (own_w hw 128 rfl) (own_w hw 131 rfl))) (notFace_of_selects (args := #[]) (mvT hZ (own_w hw 130 rfl))) (mvT hZ (own_w hw 130 rfl)) (mvT hZ (own_w hw 128 rfl)) (by decide) (backOf (W := 0) (rmEg l Z a0 hw [] a1 va kva cap ((bs ++ rest)) ((k + n)) k h0 n0 Z0 pE_a1 pF_value_a1 pF_coder_a1 pV_va pF_count_a1 (by omega) (by rw [List.length_append]; exact hcap) (by omega) pG_a1) hZ (own_w hw 131 rfl) (own_w hw 93 rfl) (by decide) (by decide)) qa3 qc3 (g := (mkF m 21 #[.val (.ref a1), .val (.ref x), .val (.int n)] [(.int (k + n)), (.ref a1)])) rfl (by rw [hml]; rfl) (Steps.refl _) (argsL := [(.int (k + n))]) (rest := []) (lenOf pd__I_V rfl) rfl (by show 2 * 0 + _ ≤ _; exact Nat.le_of_eq rfl) (hb hby d15_21) (fun _ _ => ⟨rfl, e2, (by decide : 0 + 1 ≤ _), (by decide : 0 + 142 ≤ _)⟩)
  dsimp only [Pt.U, Pt.locs, Pt.cells, Pt.slots] at X3 l3 y3 z3 st3 hQ3
  try dsimp only [Nat.reduceAdd] at y3 z3
  rw [l3, y3, z3] at X3
  obtain ⟨vb_3, kvb_3, cap2_3, r2_3, rfl, Nq3, Kq3, q3_0, q3_1, q3_2, q3_3, q3_4, q3_5, q3_6, q3_7⟩ := hQ3
  have N3 := Fr.app N1 Nq3
  have K4 : Keep h0 T3.heap [a1] := (Keep.refl h0 [a1]).trans Kq3 (allS (Or.inl (List.mem_of_getElem? (i := 0) rfl)) all0)
  have Bf5 : h0.size ≤ vb_3 := Nat.le_trans (Keep.refl h0 [a1]).1 q3_4
  refine own_tr st3 ?_
  have hgq := q3_6
  have hgz := hgq.1
  unfold own_gr at hgz
  have hgl := hgq.2
  rw [List.length_append] at hgl
  have Vg := q3_3
  rw [List.append_assoc] at Vg
  have hgc : cap2_3.toInt = ((bs.length + (rest ++ r2_3).length : Nat) : Int) := by rw [List.length_append]; omega
  refine own_st (fun t_ k_ => XS.aloadN X3.here hx rfl (hb hby d15_24) rfl rfl (XS.aloadN X3.here hx rfl (hb hby d15_25) rfl rfl k_)) ?_
  obtain ⟨T6, X6, e6, st6⟩ := getF X3 hx hZ hown (host := "") (Or.inl (own_w hw 125 rfl)) Via.refl rfl q3_7 (g := (mkF m 26 #[.val (.ref a1), .val (.ref x), .val (.int n)] [(.ref a1), (.ref a1)])) rfl rfl (hb hby d15_26)
  refine own_st st6 ?_
  refine own_st (fun t_ k_ => XS.aloadN X6.here hx rfl (hb hby d15_29) rfl rfl k_) ?_
  have f7 := (Nat.le_trans Z0 Kq3.1)
  have f8 := (pE_x.keep Kq3)
  have f9 := (pF_value_x.keep Kq3 (ninS (Exa.ne f8 q3_0 (by decide)) nin0))
  have f10 := (pF_coder_x.keep Kq3 (ninS (Exa.ne f8 q3_0 (by decide)) nin0))
  have f11 := (pV_tx.keep Kq3 (ninS (Ne.symm (Exa.neArv pE_a1 pV_tx (own_w hw 84 rfl))) nin0))
  have f12 := (pO.keep Kq3 (allS pG_a1 all0))
  obtain ⟨cq13, kq13, qa13, qb13, qc13⟩ := isOf hZ e6 q3_0
  obtain ⟨_, _, ⟨T13, L13, k13, n13⟩, -, X13, ⟨Lc13, hQ13, l13, y13, z13⟩, st13⟩ := X6.virtualBack hx (y := own_y7) (z := own_y7) hown (mvT hZ (own_w hw 132 rfl)) (mvT hZ (own_decl (own_w hw 133 rfl) (own_w hw 136 rfl))) (notFace_of_selects (args := #[]) (mvT hZ (own_w hw 135 rfl))) (mvT hZ (own_w hw 135 rfl)) (mvT hZ (own_w hw 133 rfl)) (by decide) (backOf (W := 0) (rmPs l Z a0 hw [] a1 vb_3 kvb_3 cap2_3 k bs ((rest ++ r2_3)) x tx kx n us zc T3.heap n0 f7 q3_0 q3_1 q3_2 f8 f9 f10 f11 Vg hk hgc hn (by rw [List.length_append]; omega) (by omega) q3_5 pS_COMPACT_STRINGS pP5 f12) hZ (own_w hw 136 rfl) (own_w hw 93 rfl) (by decide) (by decide)) qa13 qc13 (g := (mkF m 30 #[.val (.ref a1), .val (.ref x), .val (.int n)] [(.ref x), (.int k), (.ref a1)])) rfl (by rw [hml]; rfl) (Steps.refl _) (argsL := [(.int k), (.ref x)]) (rest := []) (lenOf pd__ILjava_lang_String__V rfl) rfl (by show 2 * 0 + _ ≤ _; exact Nat.le_of_eq rfl) (hb hby d15_30) (fun _ _ => ⟨rfl, e6, (by decide : 1 + 0 ≤ _), (by decide : 142 + 0 ≤ _)⟩)
  dsimp only [Pt.U, Pt.locs, Pt.cells, Pt.slots] at X13 l13 y13 z13 st13 hQ13
  try dsimp only [Nat.reduceAdd] at y13 z13
  rw [l13, y13, z13] at X13
  obtain ⟨rfl, Nq13, Kq13, q13_0⟩ := hQ13
  have N13 := Fr.app N3 Nq13
  have K14 : Keep h0 T13.heap [a1] := K4.trans Kq13 (allS (Or.inr Bf5) all0)
  refine own_tr st13 ?_
  refine own_st (fun t_ k_ => XS.aloadN X13.here hx rfl (hb hby d15_33) rfl rfl (XS.dup X13.here hx rfl (hb hby d15_34) rfl rfl k_)) ?_
  have f15 := (q3_7.keep Kq13 (ninS (Nat.ne_of_lt (Nat.lt_of_lt_of_le pE_a1.lt q3_4)) nin0))
  obtain ⟨T16, X16, e16, st16⟩ := getF X13 hx hZ hown (host := "") (Or.inl (own_w hw 125 rfl)) Via.refl rfl f15 (g := (mkF m 35 #[.val (.ref a1), .val (.ref x), .val (.int n)] [(.ref a1), (.ref a1)])) rfl rfl (hb hby d15_35)
  refine own_st st16 ?_
  refine own_st (fun t_ k_ => XS.iloadN X16.here hx rfl (hb hby d15_38) rfl (XS.iadd X16.here hx rfl (hb hby d15_39) rfl k_)) ?_
  have f17 := (q3_0.keep Kq13)
  obtain ⟨T18, h18, X18, e18, W18, st18⟩ := putF X16 hx hZ hown (host := "") (Or.inl (own_w hw 125 rfl)) Via.refl e16 f15 f17 (Or.inl (own_w hw 126 rfl)) (own_w hw 84 rfl) (ty := .int) (by decide) rfl rfl (g := (mkF m 40 #[.val (.ref a1), .val (.ref x), .val (.int n)] [(.int (k + n)), (.ref a1)])) rfl rfl (hb hby d15_40)
  have F18 := f15.same W18
  have K19 : Keep h0 h18 [a1] := K14.wr W18 (Or.inl (List.mem_of_getElem? (i := 0) rfl))
  have N18 := Fr.snoc X18 N13 pG_a1
  refine own_st st18 ?_
  refine own_st (fun t_ k_ => XS.aloadN X18.here hx rfl (hb hby d15_43) rfl rfl k_) ?_
  have f20 := (f17.wr W18)
  have f21 := ((q3_1.keep Kq13 (ninS (Nat.ne_of_lt (Nat.lt_of_lt_of_le pE_a1.lt q3_4)) nin0)).other W18 (Or.inr (slot_ne (Or.inl (own_w hw 98 rfl)) (Or.inl (own_w hw 126 rfl)) (by decide) (t := (.array .byte)) (t' := .int) (by decide) (by decide))))
  have f22 := ((q3_2.keep Kq13 (ninS (Nat.ne_of_lt (Nat.lt_of_lt_of_le pE_a1.lt q3_4)) nin0)).other W18 (Or.inr (slot_ne (Or.inl (own_w hw 100 rfl)) (Or.inl (own_w hw 126 rfl)) (by decide) (t := .byte) (t' := .int) (by decide) (by decide))))
  have f23 := (q13_0.other W18 (Ne.symm (Nat.ne_of_lt (Nat.lt_of_lt_of_le pE_a1.lt q3_4))))
  obtain ⟨fs, hr, hrun, hended, hW, hsame⟩ := X18.leave (v := some (.ref a1)) (fun h => by rw [Bd.returns] at h; cases h)
  refine own_fin (own_retR X18 hx rfl Bd.returns rfl (hb hby d15_44) hr) ⟨hrun, hended, _, _, rfl, ?_, ⟨_, rfl⟩, hW, hsame.mono (by decide) (by decide)⟩
  show Q_rmAgA Z a1 va kva cap k bs rest x tx kx n us zc h0 n0 _ T18.heap _
  rw [e18]
  exact ⟨vb_3, kvb_3, cap2_3, ((rest ++ r2_3).drop us.length), rfl, N18, K19, f20, f21, f22, F18, f23, Bf5, q3_5, ⟨hgq.1, by rw [List.length_drop, List.length_append]; omega⟩⟩
theorem ef_rmSgA (m : MethodId) (x0 : Addr) (x1 : Addr) : entryFrame m #[(.ref x0), (.ref x1)] 2 = mkF m 0 #[.val (.ref x0), .val (.ref x1)] [] := by first | (simp [entryFrame, mkF, argsToLocals, Value.category]; done) | rfl
def Q_rmSgA (Z : State) (a1 : Addr) (va : Addr) (kva : ClassId) (cap : Int32) (k : Int32) (bs : List Value) (rest : List Value) (x : Addr) (tx : Addr) (kx : ClassId) (n : Int32) (us : List Value) (zc : Int32) (h0 : Heap) (n0 : Nat) (v : Option Value) (h : Heap) (L : List Loc) : Prop := ∃ vb : Addr, ∃ kvb : ClassId, ∃ cap2 : Int32, ∃ r2 : List Value, v = some (.ref a1) ∧ Fr n0 L ∧ Keep h0 h [a1] ∧ Exa Z h a1 "java/lang/StringBuilder" ∧ Fld Z h a1 "java/lang/AbstractStringBuilder" "value" "[B" (.ref vb) ∧ Fld Z h a1 "java/lang/AbstractStringBuilder" "coder" "B" (.int (0 : Int32)) ∧ Fld Z h a1 "java/lang/AbstractStringBuilder" "count" "I" (.int (k + n)) ∧ Arv Z h vb kvb .byte cap2 ((bs ++ us) ++ r2) (.int 0) ∧ h0.size ≤ vb ∧ n0 ≤ vb ∧ (own_gr cap (k + n) cap2 ∧ cap2.toInt = ((bs.length + (us : List Value).length + r2.length : Nat) : Int))
set_option maxRecDepth 65536 in
set_option maxHeartbeats 40000000 in
theorem rmSgA (l : Launch) (Z : State) (a0 : Array Value) (hw : ∀ d ∈ tables_1, d.before a0 Z = true) (ws : List Jvm.Cond) (a1 : Addr) (va : Addr) (kva : ClassId) (cap : Int32) (k : Int32) (bs : List Value) (rest : List Value) (x : Addr) (tx : Addr) (kx : ClassId) (n : Int32) (us : List Value) (zc : Int32) (h0 : Heap) (n0 : Nat) (Z0 : n0 ≤ h0.size) (pE_a1 : Exa Z h0 a1 "java/lang/StringBuilder") (pF_value_a1 : Fld Z h0 a1 "java/lang/AbstractStringBuilder" "value" "[B" (.ref va)) (pF_coder_a1 : Fld Z h0 a1 "java/lang/AbstractStringBuilder" "coder" "B" (.int (0 : Int32))) (pF_count_a1 : Fld Z h0 a1 "java/lang/AbstractStringBuilder" "count" "I" (.int k)) (pV_va : Arv Z h0 va kva .byte cap (bs ++ rest) (.int 0)) (pE_x : Exa Z h0 x "java/lang/String") (pF_value_x : Fld Z h0 x "java/lang/String" "value" "[B" (.ref tx)) (pF_coder_x : Fld Z h0 x "java/lang/String" "coder" "B" (.int (0 : Int32))) (pV_tx : Arv Z h0 tx kx .byte n us (.int 0)) (hk : (k.toInt = (bs.length : Int))) (hcap : (cap.toInt = ((bs.length + rest.length : Nat) : Int))) (hn : (n.toInt = (us.length : Int))) (hgt : (rest.length < us.length)) (hbd : (bs.length + us.length ≤ 142 ∧ 2 * (bs.length + rest.length) + 2 ≤ 142)) (pG_a1 : n0 ≤ a1) (pG_va : n0 ≤ va) (pS_COMPACT_STRINGS : Sta Z Z.heap "java/lang/String" "COMPACT_STRINGS" "Z" (.int zc)) (pP5 : (¬ (zc = (0 : Int32)))) (pO : Old Z n0 h0) :
    MetFree l own_y10 (head1 (Jvm.Cond.code own_y10 jdk_67_method_7_code 2 (some (.object "java/lang/StringBuilder")) :: ws) ({ frames := 5, cells := 1, slots := 142, locals := 163 } : Room)) (fun a U => a = #[(.ref a1), (.ref x)] ∧ Z.Warmed39 U.vm ∧ U.heap = h0) (fun _ _ _ _ _ => True) (fun _ U o U' => ∃ v L, o = .returned v ∧ Q_rmSgA Z a1 va kva cap k bs rest x tx kx n us zc h0 n0 v U'.heap L ∧ FrameEnd U o U' L ({ frames := 5, cells := 1, slots := 142, locals := 163 } : Room).cells ({ frames := 5, cells := 1, slots := 142, locals := 163 } : Room).slots) := by
  refine MetFree.of_bodySF (plainFor_of_name pn_14) hisR ?_
  intro p e s m args below meth c s₁ Bd hml0 hP hK
  obtain ⟨rfl, hZ, hh⟩ := hP
  have hx := Bd.exec
  have hby := Bd.bytes
  have hml : c.maxLocals = 2 := hml0
  have hown : s.vm.findClass "java/lang/StringBuilder" = some m.cls := findClass_of_methodNamed Bd.named
  have hnm := (name_of_methodNamed Bd.named Bd.method).1
  have X0 : Stand p l e ({ frames := 5, cells := 1, slots := 142, locals := 163 } : Room) s m #[(.ref a1), (.ref x)] below meth c s₁ [] 0 0 := Stand.of_body Bd
  have e0 : s₁.heap = h0 := by rw [← hh, Bd.state]; rfl
  have N0 := Fr.nil n0
  refine own_enter (ef_rmSgA m a1 x) ?_
  refine own_st (fun t_ k_ => XS.aloadN X0.here hx rfl (hb hby d14_0) rfl rfl (XS.aloadN X0.here hx rfl (hb hby d14_1) rfl rfl k_)) ?_
  obtain ⟨_, _, ⟨T1, L1, k1, n1⟩, -, X1, ⟨Lc1, hQ1, l1, y1, z1⟩, st1⟩ := superBack X0 hx hZ (y := own_y8) hown (own_w hw 107 rfl) (own_same (y := own_y8) (y' := own_y9) (own_w hw 110 rfl) (own_w hw 229 rfl) rfl (by decide)) (own_w hw 108 rfl) (own_w hw 109 rfl) (by decide) (backOf (W := 0) (rmAgA l Z a0 hw [] a1 va kva cap k bs rest x tx kx n us zc h0 n0 Z0 pE_a1 pF_value_a1 pF_coder_a1 pF_count_a1 pV_va pE_x pF_value_x pF_coder_x pV_tx hk hcap hn hgt hbd pG_a1 pG_va pS_COMPACT_STRINGS pP5 pO) hZ (own_w hw 111 rfl) (own_w hw 93 rfl) (by decide) (by decide)) e0 (Ins.self pE_a1) (g := (mkF m 2 #[.val (.ref a1), .val (.ref x)] [(.ref x), (.ref a1)])) rfl (by rw [hml]; rfl) (own_w hw 111 rfl) (argsL := [(.ref x)]) (rest := []) (lenOf pd__Ljava_lang_String__Ljava_lang_AbstractStringBuilder_ rfl) rfl (by show 2 * 0 + _ ≤ _; exact Nat.le_of_eq rfl) (hb hby d14_2) (fun _ _ => ⟨rfl, e0, (by decide : 0 + 1 ≤ _), (by decide : 0 + 142 ≤ _)⟩)
  dsimp only [Pt.U, Pt.locs, Pt.cells, Pt.slots] at X1 l1 y1 z1 st1 hQ1
  try dsimp only [Nat.reduceAdd] at y1 z1
  rw [l1, y1, z1] at X1
  obtain ⟨vb_1, kvb_1, cap2_1, r2_1, rfl, Nq1, Kq1, q1_0, q1_1, q1_2, q1_3, q1_4, q1_5, q1_6, q1_7⟩ := hQ1
  have N1 := Fr.app N0 Nq1
  have K2 : Keep h0 T1.heap [a1] := (Keep.refl h0 [a1]).trans Kq1 (allS (Or.inl (List.mem_of_getElem? (i := 0) rfl)) all0)
  have Bf3 : h0.size ≤ vb_1 := Nat.le_trans (Keep.refl h0 [a1]).1 q1_5
  refine own_tr st1 ?_
  refine own_st (fun t_ k_ => XS.pop X1.here hx rfl (hb hby d14_5) rfl rfl (XS.aloadN X1.here hx rfl (hb hby d14_6) rfl rfl k_)) ?_
  obtain ⟨fs, hr, hrun, hended, hW, hsame⟩ := X1.leave (v := some (.ref a1)) (fun h => by rw [Bd.returns] at h; cases h)
  refine own_fin (own_retR X1 hx rfl Bd.returns rfl (hb hby d14_7) hr) ⟨hrun, hended, _, _, rfl, ?_, ⟨_, rfl⟩, hW, hsame.mono (by decide) (by decide)⟩
  show Q_rmSgA Z a1 va kva cap k bs rest x tx kx n us zc h0 n0 _ T1.heap _
  exact ⟨vb_1, kvb_1, cap2_1, r2_1, rfl, N1, K2, q1_0, q1_1, q1_2, q1_3, q1_4, Bf3, q1_6, q1_7⟩
def own_ones : List Value := (List.range 100).map fun i => Value.int (Int32.ofNat (48 + i % 10))
theorem own_ten {d : Nat} (h : d ≤ 9) : d = 0 ∨ d = 1 ∨ d = 2 ∨ d = 3 ∨ d = 4 ∨ d = 5 ∨ d = 6 ∨ d = 7 ∨ d = 8 ∨ d = 9 := by omega
theorem own_onesAt {d : Nat} (h : d ≤ 9) : own_ones.getD d (.int 0) = .int (Int32.ofNat (48 + d)) := by
  rcases own_ten h with rfl | rfl | rfl | rfl | rfl | rfl | rfl | rfl | rfl | rfl <;> rfl
theorem own_onesG {j : Nat} (h : j < 100) : own_ones.getD j (.int 0) = .int (Int32.ofNat (48 + j % 10)) := by
  rw [own_ones, List.getD_eq_getElem?_getD, List.getElem?_map, List.getElem?_range h]
  rfl
theorem own_narD {d : Nat} (h : d ≤ 9) : nar .byte (Int32.ofNat (48 + d)) = Int32.ofNat (48 + d) := by
  rcases own_ten h with rfl | rfl | rfl | rfl | rfl | rfl | rfl | rfl | rfl | rfl <;> rfl
theorem own_toB {d : Nat} (h : d ≤ 9) : (Int32.ofNat (48 + d)).toInt8.toInt32 = Int32.ofNat (48 + d) := own_narD h
theorem own_setB {bs rest : List Value} {v : Value} (h : 0 < rest.length) : (bs ++ rest).set bs.length v = (bs ++ [v]) ++ rest.drop 1 := by
  cases rest with
  | nil => cases h
  | cons y ys => simp
theorem own_dec {i : Int32} {n : Nat} (h : i.toInt = ((n + 1 : Nat) : Int)) (hn : n ≤ 1000000) : (i + (-1 : Int32)).toInt = (n : Int) := by
  have u1 := c_iadd i (-1 : Int32)
  have u2 := rng32 (i + (-1 : Int32))
  rw [show (-1 : Int32).toInt = -1 from rfl] at u1
  omega
theorem own_negI {y : Int32} {d : Nat} (h : y.toInt = -(d : Int)) (hd : d ≤ 9) : (-y).toInt = (d : Int) := by
  have u1 := c_ineg y
  have u2 := rng32 (-y)
  omega
theorem own_lc0 {x : Int64} (h : 0 ≤ x.toInt) : ¬ (lcmpW x (0 : Int64) < (0 : Int32)) := fun q => by have := (lw_lt _ _).mp q; rw [Int64.lt_iff_toInt_lt] at this; have e : (0 : Int64).toInt = 0 := rfl; omega
theorem own_lneg {x : Int64} {d : Nat} (h : x.toInt = (d : Int)) (hd : d ≤ 9) : (-x).toInt = -(d : Int) := by
  have u1 := c_lneg x
  have u2 := rng64 (-x)
  omega
theorem own_lgt {x y : Int64} (h : y.toInt < x.toInt) : (0 : Int32) < lcmpW x y := (lw_gt _ _).mpr (by rw [Int64.lt_iff_toInt_lt]; exact h)
theorem own_l2i {x : Int64} {d : Nat} (h : x.toInt = -(d : Int)) (hd : d ≤ 9) : x.toInt32.toInt = -(d : Int) := by
  have u1 := c_l2i x
  have u2 := rng32 x.toInt32
  omega
abbrev own_y25 : MethodName := ⟨"java/lang/Long", "stringSize", "(J)I"⟩
abbrev own_c24 : ByteArray := jdk_35_method_15_code
theorem d24_0 : decode own_c24 0 = .ok (.iconst 1, 1) := by decide +kernel
theorem d24_1 : decode own_c24 1 = .ok (.istore_n 2, 1) := by decide +kernel
theorem d24_2 : decode own_c24 2 = .ok (.lload_n 0, 1) := by decide +kernel
theorem d24_3 : decode own_c24 3 = .ok (.lconst 0, 1) := by decide +kernel
theorem d24_4 : decode own_c24 4 = .ok (.lcmp, 1) := by decide +kernel
theorem d24_5 : decode own_c24 5 = .ok (.ifCond .lt 8, 3) := by decide +kernel
theorem d24_8 : decode own_c24 8 = .ok (.iconst 0, 1) := by decide +kernel
theorem d24_9 : decode own_c24 9 = .ok (.istore_n 2, 1) := by decide +kernel
theorem d24_10 : decode own_c24 10 = .ok (.lload_n 0, 1) := by decide +kernel
theorem d24_11 : decode own_c24 11 = .ok (.lneg, 1) := by decide +kernel
theorem d24_12 : decode own_c24 12 = .ok (.lstore_n 0, 1) := by decide +kernel
theorem d24_13 : decode own_c24 13 = .ok (.ldc2_w 140, 3) := by decide +kernel
theorem d24_16 : decode own_c24 16 = .ok (.lstore_n 3, 1) := by decide +kernel
theorem d24_17 : decode own_c24 17 = .ok (.iconst 1, 1) := by decide +kernel
theorem d24_18 : decode own_c24 18 = .ok (.istore 5, 2) := by decide +kernel
theorem d24_20 : decode own_c24 20 = .ok (.iload 5, 2) := by decide +kernel
theorem d24_22 : decode own_c24 22 = .ok (.bipush 19, 2) := by decide +kernel
theorem d24_24 : decode own_c24 24 = .ok (.if_icmp .ge 26, 3) := by decide +kernel
theorem d24_27 : decode own_c24 27 = .ok (.lload_n 0, 1) := by decide +kernel
theorem d24_28 : decode own_c24 28 = .ok (.lload_n 3, 1) := by decide +kernel
theorem d24_29 : decode own_c24 29 = .ok (.lcmp, 1) := by decide +kernel
theorem d24_30 : decode own_c24 30 = .ok (.ifCond .le 8, 3) := by decide +kernel
theorem d24_33 : decode own_c24 33 = .ok (.iload 5, 2) := by decide +kernel
theorem d24_35 : decode own_c24 35 = .ok (.iload_n 2, 1) := by decide +kernel
theorem d24_36 : decode own_c24 36 = .ok (.iadd, 1) := by decide +kernel
theorem d24_37 : decode own_c24 37 = .ok (.ireturn, 1) := by decide +kernel
theorem pn_24 : plainName "java/lang/Long" = true := by first | (simp [plainName, overriddenIn]; done) | decide +kernel
theorem ef_rmZs (m : MethodId) (x0 : Int64) : entryFrame m #[(.long x0)] 6 = mkF m 0 #[.val (.long x0), .second, .unset, .unset, .unset, .unset] [] := by first | (simp [entryFrame, mkF, argsToLocals, Value.category]; done) | rfl
def Q_rmZs (Z : State) (xl : Int64) (dd : Nat) (h0 : Heap) (n0 : Nat) (v : Option Value) (h : Heap) (L : List Loc) : Prop := v = some (.int (1 : Int32)) ∧ Fr n0 L ∧ h = h0
set_option maxRecDepth 65536 in
set_option maxHeartbeats 40000000 in
theorem rmZs (l : Launch) (Z : State) (a0 : Array Value) (hw : ∀ d ∈ tables_1, d.before a0 Z = true) (ws : List Jvm.Cond) (xl : Int64) (dd : Nat) (h0 : Heap) (n0 : Nat) (Z0 : n0 ≤ h0.size) (hd : (xl.toInt = (dd : Int))) (h9 : (dd ≤ 9)) :
    MetFree l own_y25 (head1 (Jvm.Cond.code own_y25 jdk_35_method_15_code 6 (some .int) :: ws) ({ frames := 0, cells := 0, slots := 0, locals := 0 } : Room)) (fun a U => a = #[(.long xl)] ∧ Z.Warmed39 U.vm ∧ U.heap = h0) (fun _ _ _ _ _ => True) (fun _ U o U' => ∃ v L, o = .returned v ∧ Q_rmZs Z xl dd h0 n0 v U'.heap L ∧ FrameEnd U o U' L ({ frames := 0, cells := 0, slots := 0, locals := 0 } : Room).cells ({ frames := 0, cells := 0, slots := 0, locals := 0 } : Room).slots) := by
  refine MetFree.of_bodySF (plainFor_of_name pn_24) hisR ?_
  intro p e s m args below meth c s₁ Bd hml0 hP hK
  obtain ⟨rfl, hZ, hh⟩ := hP
  have hx := Bd.exec
  have hby := Bd.bytes
  have hml : c.maxLocals = 6 := hml0
  have hown : s.vm.findClass "java/lang/Long" = some m.cls := findClass_of_methodNamed Bd.named
  have hnm := (name_of_methodNamed Bd.named Bd.method).1
  have X0 : Stand p l e ({ frames := 0, cells := 0, slots := 0, locals := 0 } : Room) s m #[(.long xl)] below meth c s₁ [] 0 0 := Stand.of_body Bd
  have e0 : s₁.heap = h0 := by rw [← hh, Bd.state]; rfl
  have N0 := Fr.nil n0
  refine own_enter (ef_rmZs m xl) ?_
  refine own_st (fun t_ k_ => XS.iconst X0.here hx rfl (hb hby d24_0) (XS.istoreN X0.here hx rfl (hb hby d24_1) rfl (l' := #[.val (.long xl), .second, .val (.int (1 : Int32)), .unset, .unset, .unset]) rfl (XS.lloadN X0.here hx rfl (hb hby d24_2) rfl (XS.lconst X0.here hx rfl (hb hby d24_3) (XS.lcmp X0.here hx rfl (hb hby d24_4) rfl (XS.ifNo X0.here hx rfl (hb hby d24_5) rfl ((if0 _ _).trans (flt (own_lc0 (by omega))).1) (XS.iconst X0.here hx rfl (hb hby d24_8) (XS.istoreN X0.here hx rfl (hb hby d24_9) rfl (l' := #[.val (.long xl), .second, .val (.int (0 : Int32)), .unset, .unset, .unset]) rfl (XS.lloadN X0.here hx rfl (hb hby d24_10) rfl (XS.lneg X0.here hx rfl (hb hby d24_11) rfl k_)))))))))) ?_
  show own_Go p e below s₁ (mkF m 12 #[.val (.long xl), .second, .val (.int (0 : Int32)), .unset, .unset, .unset] [(.long (-xl))]) _
  refine own_st (fun t_ k_ => XS.lstoreN X0.here hx rfl (hb hby d24_12) rfl (l' := #[.val (.long (-xl)), .second, .val (.int (0 : Int32)), .unset, .unset, .unset]) rfl (X0.ldc2Long hx hown (mvT hZ (own_w hw 165 rfl)) (g := (mkF m 13 #[.val (.long (-xl)), .second, .val (.int (0 : Int32)), .unset, .unset, .unset] [])) rfl (hb hby d24_13) _ (XS.lstoreN X0.here hx rfl (hb hby d24_16) rfl (l' := #[.val (.long (-xl)), .second, .val (.int (0 : Int32)), .val (.long (-10 : Int64)), .second, .unset]) rfl (XS.iconst X0.here hx rfl (hb hby d24_17) (XS.istore X0.here hx rfl (hb hby d24_18) rfl (l' := #[.val (.long (-xl)), .second, .val (.int (0 : Int32)), .val (.long (-10 : Int64)), .second, .val (.int (1 : Int32))]) rfl (XS.iload X0.here hx rfl (hb hby d24_20) rfl (XS.bipush X0.here hx rfl (hb hby d24_22) (XS.icmpNo X0.here hx rfl (hb hby d24_24) rfl (by decide) (XS.lloadN X0.here hx rfl (hb hby d24_27) rfl (XS.lloadN X0.here hx rfl (hb hby d24_28) rfl k_)))))))))) ?_
  show own_Go p e below s₁ (mkF m 29 #[.val (.long (-xl)), .second, .val (.int (0 : Int32)), .val (.long (-10 : Int64)), .second, .val (.int (1 : Int32))] [(.long (-10 : Int64)), (.long (-xl))]) _
  refine own_st (fun t_ k_ => XS.lcmp X0.here hx rfl (hb hby d24_29) rfl (XS.ifNo X0.here hx rfl (hb hby d24_30) rfl ((if0 _ _).trans (tlt (own_lgt (by rw [own_lneg hd h9, show (-10 : Int64).toInt = -10 from rfl]; omega))).2.2.2) (XS.iload X0.here hx rfl (hb hby d24_33) rfl (XS.iloadN X0.here hx rfl (hb hby d24_35) rfl (XS.iadd X0.here hx rfl (hb hby d24_36) rfl k_))))) ?_
  show own_Go p e below s₁ (mkF m 37 #[.val (.long (-xl)), .second, .val (.int (0 : Int32)), .val (.long (-10 : Int64)), .second, .val (.int (1 : Int32))] [(.int (1 : Int32))]) _
  obtain ⟨fs, hr, hrun, hended, hW, hsame⟩ := X0.leave (v := some (.int (1 : Int32))) (fun h => by rw [Bd.returns] at h; cases h)
  refine own_fin (own_retI X0 hx Bd.returns (hb hby d24_37) hr) ⟨hrun, hended, _, _, rfl, ?_, ⟨_, rfl⟩, hW, hsame.mono (by decide) (by decide)⟩
  show Q_rmZs Z xl dd h0 n0 _ s₁.heap _
  rw [e0]
  exact ⟨rfl, N0, rfl⟩
abbrev own_y26 : MethodName := ⟨"java/lang/Long", "getChars", "(JI[B)I"⟩
abbrev own_c26 : ByteArray := jdk_35_method_14_code
theorem d26_0 : decode own_c26 0 = .ok (.iload_n 2, 1) := by decide +kernel
theorem d26_1 : decode own_c26 1 = .ok (.istore 7, 2) := by decide +kernel
theorem d26_3 : decode own_c26 3 = .ok (.lload_n 0, 1) := by decide +kernel
theorem d26_4 : decode own_c26 4 = .ok (.lconst 0, 1) := by decide +kernel
theorem d26_5 : decode own_c26 5 = .ok (.lcmp, 1) := by decide +kernel
theorem d26_6 : decode own_c26 6 = .ok (.ifCond .ge 7, 3) := by decide +kernel
theorem d26_13 : decode own_c26 13 = .ok (.iconst 0, 1) := by decide +kernel
theorem d26_14 : decode own_c26 14 = .ok (.istore 8, 2) := by decide +kernel
theorem d26_16 : decode own_c26 16 = .ok (.iload 8, 2) := by decide +kernel
theorem d26_18 : decode own_c26 18 = .ok (.ifCond .ne 6, 3) := by decide +kernel
theorem d26_21 : decode own_c26 21 = .ok (.lload_n 0, 1) := by decide +kernel
theorem d26_22 : decode own_c26 22 = .ok (.lneg, 1) := by decide +kernel
theorem d26_23 : decode own_c26 23 = .ok (.lstore_n 0, 1) := by decide +kernel
theorem d26_24 : decode own_c26 24 = .ok (.lload_n 0, 1) := by decide +kernel
theorem d26_25 : decode own_c26 25 = .ok (.ldc2_w 129, 3) := by decide +kernel
theorem d26_28 : decode own_c26 28 = .ok (.lcmp, 1) := by decide +kernel
theorem d26_29 : decode own_c26 29 = .ok (.ifCond .gt 53, 3) := by decide +kernel
theorem d26_82 : decode own_c26 82 = .ok (.lload_n 0, 1) := by decide +kernel
theorem d26_83 : decode own_c26 83 = .ok (.l2i, 1) := by decide +kernel
theorem d26_84 : decode own_c26 84 = .ok (.istore 10, 2) := by decide +kernel
theorem d26_86 : decode own_c26 86 = .ok (.iload 10, 2) := by decide +kernel
theorem d26_88 : decode own_c26 88 = .ok (.bipush (-100), 2) := by decide +kernel
theorem d26_90 : decode own_c26 90 = .ok (.if_icmp .gt 53, 3) := by decide +kernel
theorem d26_143 : decode own_c26 143 = .ok (.aload_n 3, 1) := by decide +kernel
theorem d26_144 : decode own_c26 144 = .ok (.iinc 7 (-1), 3) := by decide +kernel
theorem d26_147 : decode own_c26 147 = .ok (.iload 7, 2) := by decide +kernel
theorem d26_149 : decode own_c26 149 = .ok (.getstatic 133, 3) := by decide +kernel
theorem d26_152 : decode own_c26 152 = .ok (.iload 10, 2) := by decide +kernel
theorem d26_154 : decode own_c26 154 = .ok (.ineg, 1) := by decide +kernel
theorem d26_155 : decode own_c26 155 = .ok (.baload, 1) := by decide +kernel
theorem d26_156 : decode own_c26 156 = .ok (.bastore, 1) := by decide +kernel
theorem d26_157 : decode own_c26 157 = .ok (.iload 10, 2) := by decide +kernel
theorem d26_159 : decode own_c26 159 = .ok (.bipush (-9), 2) := by decide +kernel
theorem d26_161 : decode own_c26 161 = .ok (.if_icmp .ge 17, 3) := by decide +kernel
theorem d26_178 : decode own_c26 178 = .ok (.iload 8, 2) := by decide +kernel
theorem d26_180 : decode own_c26 180 = .ok (.ifCond .eq 12, 3) := by decide +kernel
theorem d26_192 : decode own_c26 192 = .ok (.iload 7, 2) := by decide +kernel
theorem d26_194 : decode own_c26 194 = .ok (.ireturn, 1) := by decide +kernel
theorem pn_26 : plainName "java/lang/Long" = true := by first | (simp [plainName, overriddenIn]; done) | decide +kernel
theorem ef_rmZg (m : MethodId) (x0 : Int64) (x1 : Int32) (x2 : Addr) : entryFrame m #[(.long x0), (.int x1), (.ref x2)] 11 = mkF m 0 #[.val (.long x0), .second, .val (.int x1), .val (.ref x2), .unset, .unset, .unset, .unset, .unset, .unset, .unset] [] := by first | (simp [entryFrame, mkF, argsToLocals, Value.category]; done) | rfl
def Q_rmZg (Z : State) (xl : Int64) (dd : Nat) (ix : Int32) (va : Addr) (kva : ClassId) (cap : Int32) (bs : List Value) (rest : List Value) (dg : Addr) (kd : ClassId) (h0 : Heap) (n0 : Nat) (v : Option Value) (h : Heap) (L : List Loc) : Prop := ∃ r : Int32, v = some (.int r) ∧ Fr n0 L ∧ Keep h0 h [va] ∧ Arv Z h va kva .byte cap ((bs ++ [(.int (Int32.ofNat (48 + dd)))]) ++ rest.drop 1) (.int 0)
set_option maxRecDepth 65536 in
set_option maxHeartbeats 40000000 in
theorem rmZg (l : Launch) (Z : State) (a0 : Array Value) (hw : ∀ d ∈ tables_1, d.before a0 Z = true) (ws : List Jvm.Cond) (xl : Int64) (dd : Nat) (ix : Int32) (va : Addr) (kva : ClassId) (cap : Int32) (bs : List Value) (rest : List Value) (dg : Addr) (kd : ClassId) (h0 : Heap) (n0 : Nat) (Z0 : n0 ≤ h0.size) (pV_va : Arv Z h0 va kva .byte cap (bs ++ rest) (.int 0)) (hd : (xl.toInt = (dd : Int))) (h9 : (dd ≤ 9)) (hix : (ix.toInt = ((bs.length + 1 : Nat) : Int))) (hcap : (cap.toInt = ((bs.length + rest.length : Nat) : Int))) (hfit : (1 ≤ rest.length)) (hbig : (bs.length + rest.length ≤ 1000000)) (pG_va : n0 ≤ va) (pS_DigitOnes : Sta Z Z.heap "java/lang/Integer" "DigitOnes" "[B" (.ref dg)) (pD : (Arv Z Z.heap dg kd .byte (100 : Int32) own_ones (.int 0))) (pO : Old Z n0 h0) :
    MetFree l own_y26 (head1 (Jvm.Cond.code own_y26 jdk_35_method_14_code 11 (some .int) :: ws) ({ frames := 0, cells := 0, slots := 0, locals := 0 } : Room)) (fun a U => a = #[(.long xl), (.int ix), (.ref va)] ∧ Z.Warmed39 U.vm ∧ U.heap = h0) (fun _ _ _ _ _ => True) (fun _ U o U' => ∃ v L, o = .returned v ∧ Q_rmZg Z xl dd ix va kva cap bs rest dg kd h0 n0 v U'.heap L ∧ FrameEnd U o U' L ({ frames := 0, cells := 0, slots := 0, locals := 0 } : Room).cells ({ frames := 0, cells := 0, slots := 0, locals := 0 } : Room).slots) := by
  refine MetFree.of_bodySF (plainFor_of_name pn_26) hisR ?_
  intro p e s m args below meth c s₁ Bd hml0 hP hK
  obtain ⟨rfl, hZ, hh⟩ := hP
  have hx := Bd.exec
  have hby := Bd.bytes
  have hml : c.maxLocals = 11 := hml0
  have hown : s.vm.findClass "java/lang/Long" = some m.cls := findClass_of_methodNamed Bd.named
  have hnm := (name_of_methodNamed Bd.named Bd.method).1
  have X0 : Stand p l e ({ frames := 0, cells := 0, slots := 0, locals := 0 } : Room) s m #[(.long xl), (.int ix), (.ref va)] below meth c s₁ [] 0 0 := Stand.of_body Bd
  have e0 : s₁.heap = h0 := by rw [← hh, Bd.state]; rfl
  have N0 := Fr.nil n0
  refine own_enter (ef_rmZg m xl ix va) ?_
  have hng := own_lneg hd h9
  refine own_st (fun t_ k_ => XS.iloadN X0.here hx rfl (hb hby d26_0) rfl (XS.istore X0.here hx rfl (hb hby d26_1) rfl (l' := #[.val (.long xl), .second, .val (.int ix), .val (.ref va), .unset, .unset, .unset, .val (.int ix), .unset, .unset, .unset]) rfl (XS.lloadN X0.here hx rfl (hb hby d26_3) rfl (XS.lconst X0.here hx rfl (hb hby d26_4) (XS.lcmp X0.here hx rfl (hb hby d26_5) rfl (XS.ifYes X0.here hx rfl (pc0 := 6) (pc' := 13) rfl (hb hby d26_6) rfl ((if0 _ _).trans (flt (own_lc0 (by omega))).2.1) (by decide) (by decide) (XS.iconst X0.here hx rfl (hb hby d26_13) (XS.istore X0.here hx rfl (hb hby d26_14) rfl (l' := #[.val (.long xl), .second, .val (.int ix), .val (.ref va), .unset, .unset, .unset, .val (.int ix), .val (.int (0 : Int32)), .unset, .unset]) rfl (XS.iload X0.here hx rfl (hb hby d26_16) rfl (XS.ifNo X0.here hx rfl (hb hby d26_18) rfl (by decide) k_)))))))))) ?_
  show own_Go p e below s₁ (mkF m 21 #[.val (.long xl), .second, .val (.int ix), .val (.ref va), .unset, .unset, .unset, .val (.int ix), .val (.int (0 : Int32)), .unset, .unset] []) _
  refine own_st (fun t_ k_ => XS.lloadN X0.here hx rfl (hb hby d26_21) rfl (XS.lneg X0.here hx rfl (hb hby d26_22) rfl (XS.lstoreN X0.here hx rfl (hb hby d26_23) rfl (l' := #[.val (.long (-xl)), .second, .val (.int ix), .val (.ref va), .unset, .unset, .unset, .val (.int ix), .val (.int (0 : Int32)), .unset, .unset]) rfl (XS.lloadN X0.here hx rfl (hb hby d26_24) rfl (X0.ldc2Long hx hown (mvT hZ (own_w hw 174 rfl)) (g := (mkF m 25 #[.val (.long (-xl)), .second, .val (.int ix), .val (.ref va), .unset, .unset, .unset, .val (.int ix), .val (.int (0 : Int32)), .unset, .unset] [(.long (-xl))])) rfl (hb hby d26_25) _ (XS.lcmp X0.here hx rfl (hb hby d26_28) rfl (XS.ifYes X0.here hx rfl (pc0 := 29) (pc' := 82) rfl (hb hby d26_29) rfl ((if0 _ _).trans (tlt (own_lgt (by rw [hng, show (-2147483648 : Int64).toInt = -2147483648 from rfl]; omega))).2.2.1) (by decide) (by decide) (XS.lloadN X0.here hx rfl (hb hby d26_82) rfl (XS.l2i X0.here hx rfl (hb hby d26_83) rfl k_))))))))) ?_
  show own_Go p e below s₁ (mkF m 84 #[.val (.long (-xl)), .second, .val (.int ix), .val (.ref va), .unset, .unset, .unset, .val (.int ix), .val (.int (0 : Int32)), .unset, .unset] [(.int ((-xl).toInt32))]) _
  have hy : ((-xl).toInt32).toInt = -(dd : Int) := own_l2i hng h9
  generalize ((-xl).toInt32) = yy at hy ⊢
  show own_Go p e below s₁ (mkF m 84 #[.val (.long (-xl)), .second, .val (.int ix), .val (.ref va), .unset, .unset, .unset, .val (.int ix), .val (.int (0 : Int32)), .unset, .unset] [(.int yy)]) _
  refine own_st (fun t_ k_ => XS.istore X0.here hx rfl (hb hby d26_84) rfl (l' := #[.val (.long (-xl)), .second, .val (.int ix), .val (.ref va), .unset, .unset, .unset, .val (.int ix), .val (.int (0 : Int32)), .unset, .val (.int yy)]) rfl (XS.iload X0.here hx rfl (hb hby d26_86) rfl (XS.bipush X0.here hx rfl (hb hby d26_88) (XS.icmpYes X0.here hx rfl (pc0 := 90) (pc' := 143) rfl (hb hby d26_90) rfl (tlt (show (-100 : Int32) < yy from (by rw [Int32.lt_iff_toInt_lt, hy, show (-100 : Int32).toInt = -100 from rfl]; omega))).2.2.1 (by decide) (by decide) (XS.aloadN X0.here hx rfl (hb hby d26_143) rfl rfl (XS.iinc X0.here hx rfl (hb hby d26_144) rfl (l' := #[.val (.long (-xl)), .second, .val (.int ix), .val (.ref va), .unset, .unset, .unset, .val (.int (ix + (-1 : Int32))), .val (.int (0 : Int32)), .unset, .val (.int yy)]) rfl k_)))))) ?_
  show own_Go p e below s₁ (mkF m 147 #[.val (.long (-xl)), .second, .val (.int ix), .val (.ref va), .unset, .unset, .unset, .val (.int (ix + (-1 : Int32))), .val (.int (0 : Int32)), .unset, .val (.int yy)] [(.ref va)]) _
  have hj : (ix + (-1 : Int32)).toInt = (bs.length : Int) := own_dec hix (by omega)
  generalize (ix + (-1 : Int32)) = jx at hj ⊢
  show own_Go p e below s₁ (mkF m 147 #[.val (.long (-xl)), .second, .val (.int ix), .val (.ref va), .unset, .unset, .unset, .val (.int jx), .val (.int (0 : Int32)), .unset, .val (.int yy)] [(.ref va)]) _
  refine own_st (fun t_ k_ => XS.iload X0.here hx rfl (hb hby d26_147) rfl k_) ?_
  obtain ⟨T1, X1, e1, st1⟩ := getS2 X0 hx hZ hown (host := "") (Or.inl (own_w hw 175 rfl)) Via.refl e0 (pS_DigitOnes.ext pO.2) (g := (mkF m 149 #[.val (.long (-xl)), .second, .val (.int ix), .val (.ref va), .unset, .unset, .unset, .val (.int jx), .val (.int (0 : Int32)), .unset, .val (.int yy)] [(.int jx), (.ref va)])) rfl (hb hby d26_149)
  refine own_st st1 ?_
  have Vd := pD.ext pO.2
  refine own_st (fun t_ k_ => XS.iload X1.here hx rfl (hb hby d26_152) rfl (XS.ineg X1.here hx rfl (hb hby d26_154) rfl k_)) ?_
  have hw9 := own_negI hy h9
  show own_Go p e below T1 (mkF m 155 #[.val (.long (-xl)), .second, .val (.int ix), .val (.ref va), .unset, .unset, .unset, .val (.int jx), .val (.int (0 : Int32)), .unset, .val (.int yy)] [(.int (-yy)), (.ref dg), (.int jx), (.ref va)]) _
  generalize (-yy) = wi at hw9 ⊢
  show own_Go p e below T1 (mkF m 155 #[.val (.long (-xl)), .second, .val (.int ix), .val (.ref va), .unset, .unset, .unset, .val (.int jx), .val (.int (0 : Int32)), .unset, .val (.int yy)] [(.int wi), (.ref dg), (.int jx), (.ref va)]) _
  obtain ⟨cl2, Ar2, q2, Sz2, Nn2, Hh2, Gg2⟩ := id Vd
  have hin2 : ¬ (wi < 0 ∨ cl2.slots.size ≤ (wi).toNatClampNeg) := inb_of Sz2 ⟨own_nonneg hw9, by rw [Int32.lt_iff_toInt_lt, hw9, show (100 : Int32).toInt = 100 from rfl]; omega⟩
  have hat2 : cl2.slots[(wi).toNatClampNeg]? = some (.int (Int32.ofNat (48 + dd))) := Has.at Hh2 hin2 (by rw [own_clamp hw9]; exact own_onesAt h9)
  refine own_st (fun t_ k_ => X1.baloadBytes hx (j := wi) (v := (.int (Int32.ofNat (48 + dd)))) (by rw [e1]; exact Ar2.1) (State.isArrayOf_alike hZ.alike Ar2.2.1) Ar2.2.2 hin2 hat2 (g := (mkF m 155 #[.val (.long (-xl)), .second, .val (.int ix), .val (.ref va), .unset, .unset, .unset, .val (.int jx), .val (.int (0 : Int32)), .unset, .val (.int yy)] [(.int wi), (.ref dg), (.int jx), (.ref va)])) rfl rfl (hb hby d26_155) _ k_) ?_
  obtain ⟨cl3, Ar3, q3, Sz3, Nn3, Hh3, Gg3⟩ := id pV_va
  have hin3 : ¬ (jx < 0 ∨ cl3.slots.size ≤ (jx).toNatClampNeg) := inb_of Sz3 ⟨own_nonneg hj, by rw [Int32.lt_iff_toInt_lt]; omega⟩
  obtain ⟨T4, h4, X4, e4, W4, st4⟩ := stB X1 hx hZ e1 Ar3 (j := jx) hin3 (g := (mkF m 156 #[.val (.long (-xl)), .second, .val (.int ix), .val (.ref va), .unset, .unset, .unset, .val (.int jx), .val (.int (0 : Int32)), .unset, .val (.int yy)] [(.int (Int32.ofNat (48 + dd))), (.int jx), (.ref va)])) rfl rfl (hb hby d26_156)
  have V4 := Arv.set Ar3 q3 Sz3 Nn3 Hh3 Gg3 (fits_nar_byte _) W4 bs.length (own_clamp hj) (by rw [List.length_append]; omega)
  rw [own_toB h9] at V4
  rw [own_setB (show 0 < rest.length by omega)] at V4
  have K5 : Keep h0 h4 [va] := (Keep.refl h0 [va]).wr W4 (Or.inl (List.mem_of_getElem? (i := 0) rfl))
  have N4 := Fr.snoc X4 N0 pG_va
  refine own_st st4 ?_
  refine own_st (fun t_ k_ => XS.iload X4.here hx rfl (hb hby d26_157) rfl (XS.bipush X4.here hx rfl (hb hby d26_159) (XS.icmpYes X4.here hx rfl (pc0 := 161) (pc' := 178) rfl (hb hby d26_161) rfl (flt (show ¬ (yy < (-9 : Int32)) from (by rw [Int32.lt_iff_toInt_lt, hy, show (-9 : Int32).toInt = -9 from rfl]; omega))).2.1 (by decide) (by decide) (XS.iload X4.here hx rfl (hb hby d26_178) rfl (XS.ifYes X4.here hx rfl (pc0 := 180) (pc' := 192) rfl (hb hby d26_180) rfl (by decide) (by decide) (by decide) (XS.iload X4.here hx rfl (hb hby d26_192) rfl k_)))))) ?_
  show own_Go p e below T4 (mkF m 194 #[.val (.long (-xl)), .second, .val (.int ix), .val (.ref va), .unset, .unset, .unset, .val (.int jx), .val (.int (0 : Int32)), .unset, .val (.int yy)] [(.int jx)]) _
  obtain ⟨fs, hr, hrun, hended, hW, hsame⟩ := X4.leave (v := some (.int jx)) (fun h => by rw [Bd.returns] at h; cases h)
  refine own_fin (own_retI X4 hx Bd.returns (hb hby d26_194) hr) ⟨hrun, hended, _, _, rfl, ?_, ⟨_, rfl⟩, hW, hsame.mono (by decide) (by decide)⟩
  show Q_rmZg Z xl dd ix va kva cap bs rest dg kd h0 n0 _ T4.heap _
  rw [e4]
  exact ⟨jx, rfl, N4, K5, V4⟩
abbrev own_y27 : MethodName := ⟨"java/lang/AbstractStringBuilder", "append", "(J)Ljava/lang/AbstractStringBuilder;"⟩
abbrev own_c23 : ByteArray := jdk_68_method_33_code
theorem d23_0 : decode own_c23 0 = .ok (.aload_n 0, 1) := by decide +kernel
theorem d23_1 : decode own_c23 1 = .ok (.getfield 79, 3) := by decide +kernel
theorem d23_4 : decode own_c23 4 = .ok (.istore_n 3, 1) := by decide +kernel
theorem d23_5 : decode own_c23 5 = .ok (.iload_n 3, 1) := by decide +kernel
theorem d23_6 : decode own_c23 6 = .ok (.lload_n 1, 1) := by decide +kernel
theorem d23_7 : decode own_c23 7 = .ok (.invokestatic 254, 3) := by decide +kernel
theorem d23_10 : decode own_c23 10 = .ok (.iadd, 1) := by decide +kernel
theorem d23_11 : decode own_c23 11 = .ok (.istore 4, 2) := by decide +kernel
theorem d23_13 : decode own_c23 13 = .ok (.aload_n 0, 1) := by decide +kernel
theorem d23_14 : decode own_c23 14 = .ok (.iload 4, 2) := by decide +kernel
theorem d23_16 : decode own_c23 16 = .ok (.invokevirtual 100, 3) := by decide +kernel
theorem d23_19 : decode own_c23 19 = .ok (.aload_n 0, 1) := by decide +kernel
theorem d23_20 : decode own_c23 20 = .ok (.invokevirtual 83, 3) := by decide +kernel
theorem d23_23 : decode own_c23 23 = .ok (.ifCond .eq 17, 3) := by decide +kernel
theorem d23_26 : decode own_c23 26 = .ok (.lload_n 1, 1) := by decide +kernel
theorem d23_27 : decode own_c23 27 = .ok (.iload 4, 2) := by decide +kernel
theorem d23_29 : decode own_c23 29 = .ok (.aload_n 0, 1) := by decide +kernel
theorem d23_30 : decode own_c23 30 = .ok (.getfield 15, 3) := by decide +kernel
theorem d23_33 : decode own_c23 33 = .ok (.invokestatic 259, 3) := by decide +kernel
theorem d23_36 : decode own_c23 36 = .ok (.pop, 1) := by decide +kernel
theorem d23_37 : decode own_c23 37 = .ok (.goto 15, 3) := by decide +kernel
theorem d23_52 : decode own_c23 52 = .ok (.aload_n 0, 1) := by decide +kernel
theorem d23_53 : decode own_c23 53 = .ok (.iload 4, 2) := by decide +kernel
theorem d23_55 : decode own_c23 55 = .ok (.putfield 79, 3) := by decide +kernel
theorem d23_58 : decode own_c23 58 = .ok (.aload_n 0, 1) := by decide +kernel
theorem d23_59 : decode own_c23 59 = .ok (.areturn, 1) := by decide +kernel
theorem pn_23 : plainName "java/lang/AbstractStringBuilder" = true := by first | (simp [plainName, overriddenIn]; done) | decide +kernel
theorem pd__J_I : parseMethodDescriptor "(J)I" = some ⟨[.long], some .int⟩ := by decide +kernel
theorem pd__JI_B_I : parseMethodDescriptor "(JI[B)I" = some ⟨[.long, .int, (.array .byte)], some .int⟩ := by decide +kernel
theorem ef_rmAj (m : MethodId) (x0 : Addr) (x1 : Int64) : entryFrame m #[(.ref x0), (.long x1)] 5 = mkF m 0 #[.val (.ref x0), .val (.long x1), .second, .unset, .unset] [] := by first | (simp [entryFrame, mkF, argsToLocals, Value.category]; done) | rfl
def Q_rmAj (Z : State) (a1 : Addr) (va : Addr) (kva : ClassId) (cap : Int32) (k : Int32) (bs : List Value) (rest : List Value) (xl : Int64) (dd : Nat) (zc : Int32) (dg : Addr) (kd : ClassId) (h0 : Heap) (n0 : Nat) (v : Option Value) (h : Heap) (L : List Loc) : Prop := v = some (.ref a1) ∧ Fr n0 L ∧ Keep h0 h [a1, va] ∧ Exa Z h a1 "java/lang/StringBuilder" ∧ Fld Z h a1 "java/lang/AbstractStringBuilder" "value" "[B" (.ref va) ∧ Fld Z h a1 "java/lang/AbstractStringBuilder" "coder" "B" (.int (0 : Int32)) ∧ Fld Z h a1 "java/lang/AbstractStringBuilder" "count" "I" (.int (k + (1 : Int32))) ∧ Arv Z h va kva .byte cap ((bs ++ [(.int (Int32.ofNat (48 + dd)))]) ++ rest.drop 1) (.int 0)
set_option maxRecDepth 65536 in
set_option maxHeartbeats 40000000 in
theorem rmAj (l : Launch) (Z : State) (a0 : Array Value) (hw : ∀ d ∈ tables_1, d.before a0 Z = true) (ws : List Jvm.Cond) (a1 : Addr) (va : Addr) (kva : ClassId) (cap : Int32) (k : Int32) (bs : List Value) (rest : List Value) (xl : Int64) (dd : Nat) (zc : Int32) (dg : Addr) (kd : ClassId) (h0 : Heap) (n0 : Nat) (Z0 : n0 ≤ h0.size) (pE_a1 : Exa Z h0 a1 "java/lang/StringBuilder") (pF_value_a1 : Fld Z h0 a1 "java/lang/AbstractStringBuilder" "value" "[B" (.ref va)) (pF_coder_a1 : Fld Z h0 a1 "java/lang/AbstractStringBuilder" "coder" "B" (.int (0 : Int32))) (pF_count_a1 : Fld Z h0 a1 "java/lang/AbstractStringBuilder" "count" "I" (.int k)) (pV_va : Arv Z h0 va kva .byte cap (bs ++ rest) (.int 0)) (hd : (xl.toInt = (dd : Int))) (h9 : (dd ≤ 9)) (hk : (k.toInt = (bs.length : Int))) (hcap : (cap.toInt = ((bs.length + rest.length : Nat) : Int))) (hfit : (1 ≤ rest.length)) (hbig : (bs.length + rest.length ≤ 1000000)) (pS_DigitOnes : Sta Z Z.heap "java/lang/Integer" "DigitOnes" "[B" (.ref dg)) (pD : (Arv Z Z.heap dg kd .byte (100 : Int32) own_ones (.int 0))) (pG_a1 : n0 ≤ a1) (pG_va : n0 ≤ va) (pS_COMPACT_STRINGS : Sta Z Z.heap "java/lang/String" "COMPACT_STRINGS" "Z" (.int zc)) (pP5 : (¬ (zc = (0 : Int32)))) (pO : Old Z n0 h0) :
    MetFree l own_y27 (head1 (Jvm.Cond.code own_y27 jdk_68_method_33_code 5 (some (.object "java/lang/AbstractStringBuilder")) :: ws) ({ frames := 1, cells := 0, slots := 0, locals := 22 } : Room)) (fun a U => a = #[(.ref a1), (.long xl)] ∧ Z.Warmed39 U.vm ∧ U.heap = h0) (fun _ _ _ _ _ => True) (fun _ U o U' => ∃ v L, o = .returned v ∧ Q_rmAj Z a1 va kva cap k bs rest xl dd zc dg kd h0 n0 v U'.heap L ∧ FrameEnd U o U' L ({ frames := 1, cells := 0, slots := 0, locals := 22 } : Room).cells ({ frames := 1, cells := 0, slots := 0, locals := 22 } : Room).slots) := by
  refine MetFree.of_bodySF (plainFor_of_name pn_23) hisR ?_
  intro p e s m args below meth c s₁ Bd hml0 hP hK
  obtain ⟨rfl, hZ, hh⟩ := hP
  have hx := Bd.exec
  have hby := Bd.bytes
  have hml : c.maxLocals = 5 := hml0
  have hown : s.vm.findClass "java/lang/AbstractStringBuilder" = some m.cls := findClass_of_methodNamed Bd.named
  have hnm := (name_of_methodNamed Bd.named Bd.method).1
  have X0 : Stand p l e ({ frames := 1, cells := 0, slots := 0, locals := 22 } : Room) s m #[(.ref a1), (.long xl)] below meth c s₁ [] 0 0 := Stand.of_body Bd
  have e0 : s₁.heap = h0 := by rw [← hh, Bd.state]; rfl
  have N0 := Fr.nil n0
  refine own_enter (ef_rmAj m a1 xl) ?_
  have hkn := own_addI hk (show (1 : Int32).toInt = ((1 : Nat) : Int) from rfl) (by omega)
  refine own_st (fun t_ k_ => XS.aloadN X0.here hx rfl (hb hby d23_0) rfl rfl k_) ?_
  obtain ⟨T1, X1, e1, st1⟩ := getF X0 hx hZ hown (host := "") (Or.inl (own_w hw 125 rfl)) Via.refl e0 pF_count_a1 (g := (mkF m 1 #[.val (.ref a1), .val (.long xl), .second, .unset, .unset] [(.ref a1)])) rfl rfl (hb hby d23_1)
  refine own_st st1 ?_
  refine own_st (fun t_ k_ => XS.istoreN X1.here hx rfl (hb hby d23_4) rfl (l' := #[.val (.ref a1), .val (.long xl), .second, .val (.int k), .unset]) rfl (XS.iloadN X1.here hx rfl (hb hby d23_5) rfl (XS.lloadN X1.here hx rfl (hb hby d23_6) rfl k_))) ?_
  obtain ⟨_, _, ⟨T2, L2, k2, n2⟩, -, X2, ⟨Lc2, hQ2, l2, y2, z2⟩, st2⟩ := Jvm.LawKit.callS X1 hx (y := own_y25) hown (mvT hZ (own_w hw 161 rfl)) (mvT hZ (own_w hw 162 rfl)) (mvT hZ (own_w hw 163 rfl)) (mvT hZ (own_w hw 164 rfl)) (by decide) (backOf (W := 1) (rmZs l Z a0 hw [] xl dd h0 n0 Z0 hd h9) hZ (own_w hw 164 rfl) (own_w hw 163 rfl) (by decide) (by decide)) (g := (mkF m 7 #[.val (.ref a1), .val (.long xl), .second, .val (.int k), .unset] [(.long xl), (.int k)])) rfl (by rw [hml]; rfl) (argsL := [(.long xl)]) (rest := [(.int k)]) (lenOf pd__J_I rfl) rfl (by show 2 * 0 + _ ≤ _; exact Nat.le_of_eq rfl) (hb hby d23_7) (fun _ _ => ⟨rfl, e1, (by decide : 0 + 0 ≤ _), (by decide : 0 + 0 ≤ _)⟩)
  dsimp only [Pt.U, Pt.locs, Pt.cells, Pt.slots] at X2 l2 y2 z2 st2 hQ2
  try dsimp only [Nat.reduceAdd] at y2 z2
  rw [l2, y2, z2] at X2
  obtain ⟨rfl, Nq2, eH2⟩ := hQ2
  have N2 := Fr.app N0 Nq2
  refine own_st st2 ?_
  refine own_st (fun t_ k_ => XS.iadd X2.here hx rfl (hb hby d23_10) rfl (XS.istore X2.here hx rfl (hb hby d23_11) rfl (l' := #[.val (.ref a1), .val (.long xl), .second, .val (.int k), .val (.int (k + (1 : Int32)))]) rfl (XS.aloadN X2.here hx rfl (hb hby d23_13) rfl rfl (XS.iload X2.here hx rfl (hb hby d23_14) rfl k_)))) ?_
  show own_Go p e below T2 (mkF m 16 #[.val (.ref a1), .val (.long xl), .second, .val (.int k), .val (.int (k + (1 : Int32)))] [(.int (k + (1 : Int32))), (.ref a1)]) _
  obtain ⟨cq3, kq3, qa3, qb3, qc3⟩ := isOf hZ eH2 pE_a1
  obtain ⟨_, _, ⟨T3, L3, k3, n3⟩, -, X3, ⟨Lc3, hQ3, l3, y3, z3⟩, st3⟩ := X2.virtualBack hx (y := own_y4) (z := own_y4) hown (mvT hZ (own_w hw 127 rfl)) (mvT hZ (own_decl (own_w hw 128 rfl) (own_w hw 131 rfl))) (notFace_of_selects (args := #[]) (mvT hZ (own_w hw 130 rfl))) (mvT hZ (own_w hw 130 rfl)) (mvT hZ (own_w hw 128 rfl)) (by decide) (backOf (W := 0) (rmEc l Z a0 hw [] a1 va kva cap ((bs ++ rest)) ((k + (1 : Int32))) h0 n0 Z0 pE_a1 pF_value_a1 pF_coder_a1 pV_va (own_subNP (by omega) (by omega) (by omega))) hZ (own_w hw 131 rfl) (own_w hw 93 rfl) (by decide) (by decide)) qa3 qc3 (g := (mkF m 16 #[.val (.ref a1), .val (.long xl), .second, .val (.int k), .val (.int (k + (1 : Int32)))] [(.int (k + (1 : Int32))), (.ref a1)])) rfl (by rw [hml]; rfl) (Steps.refl _) (argsL := [(.int (k + (1 : Int32)))]) (rest := []) (lenOf pd__I_V rfl) rfl (by show 2 * 0 + _ ≤ _; exact Nat.le_of_eq rfl) (hb hby d23_16) (fun _ _ => ⟨rfl, eH2, (by decide : 0 + 0 ≤ _), (by decide : 0 + 0 ≤ _)⟩)
  dsimp only [Pt.U, Pt.locs, Pt.cells, Pt.slots] at X3 l3 y3 z3 st3 hQ3
  try dsimp only [Nat.reduceAdd] at y3 z3
  rw [l3, y3, z3] at X3
  obtain ⟨rfl, Nq3, eH3⟩ := hQ3
  have N3 := Fr.app N2 Nq3
  refine own_tr st3 ?_
  refine own_st (fun t_ k_ => XS.aloadN X3.here hx rfl (hb hby d23_19) rfl rfl k_) ?_
  obtain ⟨cq4, kq4, qa4, qb4, qc4⟩ := isOf hZ eH3 pE_a1
  obtain ⟨_, _, ⟨T4, L4, k4, n4⟩, -, X4, ⟨Lc4, hQ4, l4, y4, z4⟩, st4⟩ := X3.virtualBack hx (y := own_y17) (z := own_y17) hown (mvT hZ (own_w hw 166 rfl)) (mvT hZ (own_w hw 167 rfl)) (notFace_of_selects (args := #[]) (mvT hZ (own_w hw 169 rfl))) (mvT hZ (own_w hw 169 rfl)) (mvT hZ (own_w hw 168 rfl)) (by decide) (backOf (W := 0) (rmAil l Z a0 hw [] a1 zc h0 n0 Z0 pE_a1 pF_coder_a1 pS_COMPACT_STRINGS pP5 pO) hZ (own_w hw 170 rfl) (own_w hw 93 rfl) (by decide) (by decide)) qa4 qc4 (g := (mkF m 20 #[.val (.ref a1), .val (.long xl), .second, .val (.int k), .val (.int (k + (1 : Int32)))] [(.ref a1)])) rfl (by rw [hml]; rfl) (Steps.refl _) (argsL := []) (rest := []) (lenOf pd___Z rfl) rfl (by show 2 * 0 + _ ≤ _; exact Nat.le_of_eq rfl) (hb hby d23_20) (fun _ _ => ⟨rfl, eH3, (by decide : 0 + 0 ≤ _), (by decide : 0 + 0 ≤ _)⟩)
  dsimp only [Pt.U, Pt.locs, Pt.cells, Pt.slots] at X4 l4 y4 z4 st4 hQ4
  try dsimp only [Nat.reduceAdd] at y4 z4
  rw [l4, y4, z4] at X4
  obtain ⟨rfl, Nq4, eH4⟩ := hQ4
  have N4 := Fr.app N3 Nq4
  refine own_tr st4 ?_
  refine own_st (fun t_ k_ => XS.ifNo X4.here hx rfl (hb hby d23_23) rfl (by decide) (XS.lloadN X4.here hx rfl (hb hby d23_26) rfl (XS.iload X4.here hx rfl (hb hby d23_27) rfl (XS.aloadN X4.here hx rfl (hb hby d23_29) rfl rfl k_)))) ?_
  show own_Go p e below T4 (mkF m 30 #[.val (.ref a1), .val (.long xl), .second, .val (.int k), .val (.int (k + (1 : Int32)))] [(.ref a1), (.int (k + (1 : Int32))), (.long xl)]) _
  obtain ⟨T5, X5, e5, st5⟩ := getF X4 hx hZ hown (host := "") (Or.inl (own_w hw 97 rfl)) Via.refl eH4 pF_value_a1 (g := (mkF m 30 #[.val (.ref a1), .val (.long xl), .second, .val (.int k), .val (.int (k + (1 : Int32)))] [(.ref a1), (.int (k + (1 : Int32))), (.long xl)])) rfl rfl (hb hby d23_30)
  refine own_st st5 ?_
  obtain ⟨_, _, ⟨T6, L6, k6, n6⟩, -, X6, ⟨Lc6, hQ6, l6, y6, z6⟩, st6⟩ := Jvm.LawKit.callS X5 hx (y := own_y26) hown (mvT hZ (own_w hw 171 rfl)) (mvT hZ (own_w hw 172 rfl)) (mvT hZ (own_w hw 163 rfl)) (mvT hZ (own_w hw 173 rfl)) (by decide) (backOf (W := 0) (rmZg l Z a0 hw [] xl dd ((k + (1 : Int32))) va kva cap bs rest dg _ h0 n0 Z0 pV_va hd h9 hkn hcap hfit hbig pG_va pS_DigitOnes pD pO) hZ (own_w hw 173 rfl) (own_w hw 163 rfl) (by decide) (by decide)) (g := (mkF m 33 #[.val (.ref a1), .val (.long xl), .second, .val (.int k), .val (.int (k + (1 : Int32)))] [(.ref va), (.int (k + (1 : Int32))), (.long xl)])) rfl (by rw [hml]; rfl) (argsL := [(.long xl), (.int (k + (1 : Int32))), (.ref va)]) (rest := []) (lenOf pd__JI_B_I rfl) rfl (by show 2 * 0 + _ ≤ _; exact Nat.le_of_eq rfl) (hb hby d23_33) (fun _ _ => ⟨rfl, e5, (by decide : 0 + 0 ≤ _), (by decide : 0 + 0 ≤ _)⟩)
  dsimp only [Pt.U, Pt.locs, Pt.cells, Pt.slots] at X6 l6 y6 z6 st6 hQ6
  try dsimp only [Nat.reduceAdd] at y6 z6
  rw [l6, y6, z6] at X6
  obtain ⟨r_6, rfl, Nq6, Kq6, q6_0⟩ := hQ6
  have N6 := Fr.app N4 Nq6
  have K7 : Keep h0 T6.heap [a1, va] := (Keep.refl h0 [a1, va]).trans Kq6 (allS (Or.inl (List.mem_of_getElem? (i := 1) rfl)) all0)
  refine own_st st6 ?_
  refine own_st (fun t_ k_ => XS.pop X6.here hx rfl (hb hby d23_36) rfl rfl (XS.goto X6.here hx rfl (pc0 := 37) (pc' := 52) rfl (hb hby d23_37) (by decide) (by decide) (XS.aloadN X6.here hx rfl (hb hby d23_52) rfl rfl (XS.iload X6.here hx rfl (hb hby d23_53) rfl k_)))) ?_
  show own_Go p e below T6 (mkF m 55 #[.val (.ref a1), .val (.long xl), .second, .val (.int k), .val (.int (k + (1 : Int32)))] [(.int (k + (1 : Int32))), (.ref a1)]) _
  have f8 := (pE_a1.keep Kq6)
  have f9 := (pF_count_a1.keep Kq6 (ninS (Exa.neArv f8 q6_0 (own_w hw 84 rfl)) nin0))
  obtain ⟨T10, h10, X10, e10, W10, st10⟩ := putF X6 hx hZ hown (host := "") (Or.inl (own_w hw 125 rfl)) Via.refl rfl f9 f8 (Or.inl (own_w hw 126 rfl)) (own_w hw 84 rfl) (ty := .int) (by decide) rfl rfl (g := (mkF m 55 #[.val (.ref a1), .val (.long xl), .second, .val (.int k), .val (.int (k + (1 : Int32)))] [(.int (k + (1 : Int32))), (.ref a1)])) rfl rfl (hb hby d23_55)
  have F10 := f9.same W10
  have K11 : Keep h0 h10 [a1, va] := K7.wr W10 (Or.inl (List.mem_of_getElem? (i := 0) rfl))
  have N10 := Fr.snoc X10 N6 pG_a1
  refine own_st st10 ?_
  refine own_st (fun t_ k_ => XS.aloadN X10.here hx rfl (hb hby d23_58) rfl rfl k_) ?_
  have f12 := (f8.wr W10)
  have f13 := ((pF_value_a1.keep Kq6 (ninS (Exa.neArv f8 q6_0 (own_w hw 84 rfl)) nin0)).other W10 (Or.inr (slot_ne (Or.inl (own_w hw 98 rfl)) (Or.inl (own_w hw 126 rfl)) (by decide) (t := (.array .byte)) (t' := .int) (by decide) (by decide))))
  have f14 := ((pF_coder_a1.keep Kq6 (ninS (Exa.neArv f8 q6_0 (own_w hw 84 rfl)) nin0)).other W10 (Or.inr (slot_ne (Or.inl (own_w hw 100 rfl)) (Or.inl (own_w hw 126 rfl)) (by decide) (t := .byte) (t' := .int) (by decide) (by decide))))
  have f15 := (q6_0.other W10 (Ne.symm (Exa.neArv f8 q6_0 (own_w hw 84 rfl))))
  obtain ⟨fs, hr, hrun, hended, hW, hsame⟩ := X10.leave (v := some (.ref a1)) (fun h => by rw [Bd.returns] at h; cases h)
  refine own_fin (own_retR X10 hx rfl Bd.returns rfl (hb hby d23_59) hr) ⟨hrun, hended, _, _, rfl, ?_, ⟨_, rfl⟩, hW, hsame.mono (by decide) (by decide)⟩
  show Q_rmAj Z a1 va kva cap k bs rest xl dd zc dg kd h0 n0 _ T10.heap _
  rw [e10]
  exact ⟨rfl, N10, K11, f12, f13, f14, F10, f15⟩
abbrev own_y28 : MethodName := ⟨"java/lang/StringBuilder", "append", "(J)Ljava/lang/StringBuilder;"⟩
abbrev own_c22 : ByteArray := jdk_67_method_16_code
theorem d22_0 : decode own_c22 0 = .ok (.aload_n 0, 1) := by decide +kernel
theorem d22_1 : decode own_c22 1 = .ok (.lload_n 1, 1) := by decide +kernel
theorem d22_2 : decode own_c22 2 = .ok (.invokespecial 56, 3) := by decide +kernel
theorem d22_5 : decode own_c22 5 = .ok (.pop, 1) := by decide +kernel
theorem d22_6 : decode own_c22 6 = .ok (.aload_n 0, 1) := by decide +kernel
theorem d22_7 : decode own_c22 7 = .ok (.areturn, 1) := by decide +kernel
theorem pn_22 : plainName "java/lang/StringBuilder" = true := by first | (simp [plainName, overriddenIn]; done) | decide +kernel
theorem pd__J_Ljava_lang_AbstractStringBuilder_ : parseMethodDescriptor "(J)Ljava/lang/AbstractStringBuilder;" = some ⟨[.long], some (.object "java/lang/AbstractStringBuilder")⟩ := by decide +kernel
theorem ef_rmSj (m : MethodId) (x0 : Addr) (x1 : Int64) : entryFrame m #[(.ref x0), (.long x1)] 3 = mkF m 0 #[.val (.ref x0), .val (.long x1), .second] [] := by first | (simp [entryFrame, mkF, argsToLocals, Value.category]; done) | rfl
def Q_rmSj (Z : State) (a1 : Addr) (va : Addr) (kva : ClassId) (cap : Int32) (k : Int32) (bs : List Value) (rest : List Value) (xl : Int64) (dd : Nat) (zc : Int32) (dg : Addr) (kd : ClassId) (h0 : Heap) (n0 : Nat) (v : Option Value) (h : Heap) (L : List Loc) : Prop := v = some (.ref a1) ∧ Fr n0 L ∧ Keep h0 h [a1, va] ∧ Exa Z h a1 "java/lang/StringBuilder" ∧ Fld Z h a1 "java/lang/AbstractStringBuilder" "value" "[B" (.ref va) ∧ Fld Z h a1 "java/lang/AbstractStringBuilder" "coder" "B" (.int (0 : Int32)) ∧ Fld Z h a1 "java/lang/AbstractStringBuilder" "count" "I" (.int (k + (1 : Int32))) ∧ Arv Z h va kva .byte cap ((bs ++ [(.int (Int32.ofNat (48 + dd)))]) ++ rest.drop 1) (.int 0)
set_option maxRecDepth 65536 in
set_option maxHeartbeats 40000000 in
theorem rmSj (l : Launch) (Z : State) (a0 : Array Value) (hw : ∀ d ∈ tables_1, d.before a0 Z = true) (ws : List Jvm.Cond) (a1 : Addr) (va : Addr) (kva : ClassId) (cap : Int32) (k : Int32) (bs : List Value) (rest : List Value) (xl : Int64) (dd : Nat) (zc : Int32) (dg : Addr) (kd : ClassId) (h0 : Heap) (n0 : Nat) (Z0 : n0 ≤ h0.size) (pE_a1 : Exa Z h0 a1 "java/lang/StringBuilder") (pF_value_a1 : Fld Z h0 a1 "java/lang/AbstractStringBuilder" "value" "[B" (.ref va)) (pF_coder_a1 : Fld Z h0 a1 "java/lang/AbstractStringBuilder" "coder" "B" (.int (0 : Int32))) (pF_count_a1 : Fld Z h0 a1 "java/lang/AbstractStringBuilder" "count" "I" (.int k)) (pV_va : Arv Z h0 va kva .byte cap (bs ++ rest) (.int 0)) (hd : (xl.toInt = (dd : Int))) (h9 : (dd ≤ 9)) (hk : (k.toInt = (bs.length : Int))) (hcap : (cap.toInt = ((bs.length + rest.length : Nat) : Int))) (hfit : (1 ≤ rest.length)) (hbig : (bs.length + rest.length ≤ 1000000)) (pS_DigitOnes : Sta Z Z.heap "java/lang/Integer" "DigitOnes" "[B" (.ref dg)) (pD : (Arv Z Z.heap dg kd .byte (100 : Int32) own_ones (.int 0))) (pG_a1 : n0 ≤ a1) (pG_va : n0 ≤ va) (pS_COMPACT_STRINGS : Sta Z Z.heap "java/lang/String" "COMPACT_STRINGS" "Z" (.int zc)) (pP5 : (¬ (zc = (0 : Int32)))) (pO : Old Z n0 h0) :
    MetFree l own_y28 (head1 (Jvm.Cond.code own_y28 jdk_67_method_16_code 3 (some (.object "java/lang/StringBuilder")) :: ws) ({ frames := 2, cells := 0, slots := 0, locals := 38 } : Room)) (fun a U => a = #[(.ref a1), (.long xl)] ∧ Z.Warmed39 U.vm ∧ U.heap = h0) (fun _ _ _ _ _ => True) (fun _ U o U' => ∃ v L, o = .returned v ∧ Q_rmSj Z a1 va kva cap k bs rest xl dd zc dg kd h0 n0 v U'.heap L ∧ FrameEnd U o U' L ({ frames := 2, cells := 0, slots := 0, locals := 38 } : Room).cells ({ frames := 2, cells := 0, slots := 0, locals := 38 } : Room).slots) := by
  refine MetFree.of_bodySF (plainFor_of_name pn_22) hisR ?_
  intro p e s m args below meth c s₁ Bd hml0 hP hK
  obtain ⟨rfl, hZ, hh⟩ := hP
  have hx := Bd.exec
  have hby := Bd.bytes
  have hml : c.maxLocals = 3 := hml0
  have hown : s.vm.findClass "java/lang/StringBuilder" = some m.cls := findClass_of_methodNamed Bd.named
  have hnm := (name_of_methodNamed Bd.named Bd.method).1
  have X0 : Stand p l e ({ frames := 2, cells := 0, slots := 0, locals := 38 } : Room) s m #[(.ref a1), (.long xl)] below meth c s₁ [] 0 0 := Stand.of_body Bd
  have e0 : s₁.heap = h0 := by rw [← hh, Bd.state]; rfl
  have N0 := Fr.nil n0
  refine own_enter (ef_rmSj m a1 xl) ?_
  refine own_st (fun t_ k_ => XS.aloadN X0.here hx rfl (hb hby d22_0) rfl rfl (XS.lloadN X0.here hx rfl (hb hby d22_1) rfl k_)) ?_
  obtain ⟨_, _, ⟨T1, L1, k1, n1⟩, -, X1, ⟨Lc1, hQ1, l1, y1, z1⟩, st1⟩ := superBack X0 hx hZ (y := own_y27) hown (own_w hw 157 rfl) (own_same (y := own_y27) (y' := own_y9) (own_w hw 159 rfl) (own_w hw 229 rfl) rfl (by decide)) (own_w hw 158 rfl) (own_w hw 109 rfl) (by decide) (backOf (W := 0) (rmAj l Z a0 hw [] a1 va kva cap k bs rest xl dd zc dg _ h0 n0 Z0 pE_a1 pF_value_a1 pF_coder_a1 pF_count_a1 pV_va hd h9 hk hcap hfit hbig pS_DigitOnes pD pG_a1 pG_va pS_COMPACT_STRINGS pP5 pO) hZ (own_w hw 160 rfl) (own_w hw 93 rfl) (by decide) (by decide)) e0 (Ins.self pE_a1) (g := (mkF m 2 #[.val (.ref a1), .val (.long xl), .second] [(.long xl), (.ref a1)])) rfl (by rw [hml]; rfl) (own_w hw 160 rfl) (argsL := [(.long xl)]) (rest := []) (lenOf pd__J_Ljava_lang_AbstractStringBuilder_ rfl) rfl (by show 2 * 0 + _ ≤ _; exact Nat.le_of_eq rfl) (hb hby d22_2) (fun _ _ => ⟨rfl, e0, (by decide : 0 + 0 ≤ _), (by decide : 0 + 0 ≤ _)⟩)
  dsimp only [Pt.U, Pt.locs, Pt.cells, Pt.slots] at X1 l1 y1 z1 st1 hQ1
  try dsimp only [Nat.reduceAdd] at y1 z1
  rw [l1, y1, z1] at X1
  obtain ⟨rfl, Nq1, Kq1, q1_0, q1_1, q1_2, q1_3, q1_4⟩ := hQ1
  have N1 := Fr.app N0 Nq1
  have K2 : Keep h0 T1.heap [a1, va] := (Keep.refl h0 [a1, va]).trans Kq1 (allS (Or.inl (List.mem_of_getElem? (i := 0) rfl)) (allS (Or.inl (List.mem_of_getElem? (i := 1) rfl)) all0))
  refine own_tr st1 ?_
  refine own_st (fun t_ k_ => XS.pop X1.here hx rfl (hb hby d22_5) rfl rfl (XS.aloadN X1.here hx rfl (hb hby d22_6) rfl rfl k_)) ?_
  obtain ⟨fs, hr, hrun, hended, hW, hsame⟩ := X1.leave (v := some (.ref a1)) (fun h => by rw [Bd.returns] at h; cases h)
  refine own_fin (own_retR X1 hx rfl Bd.returns rfl (hb hby d22_7) hr) ⟨hrun, hended, _, _, rfl, ?_, ⟨_, rfl⟩, hW, hsame.mono (by decide) (by decide)⟩
  show Q_rmSj Z a1 va kva cap k bs rest xl dd zc dg kd h0 n0 _ T1.heap _
  exact ⟨rfl, N1, K2, q1_0, q1_1, q1_2, q1_3, q1_4⟩
theorem ef_rmAjG (m : MethodId) (x0 : Addr) (x1 : Int64) : entryFrame m #[(.ref x0), (.long x1)] 5 = mkF m 0 #[.val (.ref x0), .val (.long x1), .second, .unset, .unset] [] := by first | (simp [entryFrame, mkF, argsToLocals, Value.category]; done) | rfl
def Q_rmAjG (Z : State) (a1 : Addr) (va : Addr) (kva : ClassId) (cap : Int32) (k : Int32) (bs : List Value) (rest : List Value) (xl : Int64) (dd : Nat) (zc : Int32) (dg : Addr) (kd : ClassId) (h0 : Heap) (n0 : Nat) (v : Option Value) (h : Heap) (L : List Loc) : Prop := ∃ vb : Addr, ∃ kvb : ClassId, ∃ cap2 : Int32, ∃ r2 : List Value, v = some (.ref a1) ∧ Fr n0 L ∧ Keep h0 h [a1] ∧ Exa Z h a1 "java/lang/StringBuilder" ∧ Fld Z h a1 "java/lang/AbstractStringBuilder" "value" "[B" (.ref vb) ∧ Fld Z h a1 "java/lang/AbstractStringBuilder" "coder" "B" (.int (0 : Int32)) ∧ Fld Z h a1 "java/lang/AbstractStringBuilder" "count" "I" (.int (k + (1 : Int32))) ∧ Arv Z h vb kvb .byte cap2 ((bs ++ [(.int (Int32.ofNat (48 + dd)))]) ++ r2) (.int 0) ∧ h0.size ≤ vb ∧ n0 ≤ vb ∧ (own_gr cap (k + (1 : Int32)) cap2 ∧ cap2.toInt = ((bs.length + ([(.int (Int32.ofNat (48 + dd)))] : List Value).length + r2.length : Nat) : Int))
set_option maxRecDepth 65536 in
set_option maxHeartbeats 40000000 in
theorem rmAjG (l : Launch) (Z : State) (a0 : Array Value) (hw : ∀ d ∈ tables_1, d.before a0 Z = true) (ws : List Jvm.Cond) (a1 : Addr) (va : Addr) (kva : ClassId) (cap : Int32) (k : Int32) (bs : List Value) (rest : List Value) (xl : Int64) (dd : Nat) (zc : Int32) (dg : Addr) (kd : ClassId) (h0 : Heap) (n0 : Nat) (Z0 : n0 ≤ h0.size) (pE_a1 : Exa Z h0 a1 "java/lang/StringBuilder") (pF_value_a1 : Fld Z h0 a1 "java/lang/AbstractStringBuilder" "value" "[B" (.ref va)) (pF_coder_a1 : Fld Z h0 a1 "java/lang/AbstractStringBuilder" "coder" "B" (.int (0 : Int32))) (pF_count_a1 : Fld Z h0 a1 "java/lang/AbstractStringBuilder" "count" "I" (.int k)) (pV_va : Arv Z h0 va kva .byte cap (bs ++ rest) (.int 0)) (hd : (xl.toInt = (dd : Int))) (h9 : (dd ≤ 9)) (hk : (k.toInt = (bs.length : Int))) (hcap : (cap.toInt = ((bs.length + rest.length : Nat) : Int))) (hgt : (rest.length < 1)) (hbd : (bs.length + 1 ≤ 142 ∧ 2 * (bs.length + rest.length) + 2 ≤ 142)) (pS_DigitOnes : Sta Z Z.heap "java/lang/Integer" "DigitOnes" "[B" (.ref dg)) (pD : (Arv Z Z.heap dg kd .byte (100 : Int32) own_ones (.int 0))) (pG_a1 : n0 ≤ a1) (pG_va : n0 ≤ va) (pS_COMPACT_STRINGS : Sta Z Z.heap "java/lang/String" "COMPACT_STRINGS" "Z" (.int zc)) (pP5 : (¬ (zc = (0 : Int32)))) (pO : Old Z n0 h0) :
    MetFree l own_y27 (head1 (Jvm.Cond.code own_y27 jdk_68_method_33_code 5 (some (.object "java/lang/AbstractStringBuilder")) :: ws) ({ frames := 4, cells := 1, slots := 142, locals := 149 } : Room)) (fun a U => a = #[(.ref a1), (.long xl)] ∧ Z.Warmed39 U.vm ∧ U.heap = h0) (fun _ _ _ _ _ => True) (fun _ U o U' => ∃ v L, o = .returned v ∧ Q_rmAjG Z a1 va kva cap k bs rest xl dd zc dg kd h0 n0 v U'.heap L ∧ FrameEnd U o U' L ({ frames := 4, cells := 1, slots := 142, locals := 149 } : Room).cells ({ frames := 4, cells := 1, slots := 142, locals := 149 } : Room).slots) := by
  refine MetFree.of_bodySF (plainFor_of_name pn_23) hisR ?_
  intro p e s m args below meth c s₁ Bd hml0 hP hK
  obtain ⟨rfl, hZ, hh⟩ := hP
  have hx := Bd.exec
  have hby := Bd.bytes
  have hml : c.maxLocals = 5 := hml0
  have hown : s.vm.findClass "java/lang/AbstractStringBuilder" = some m.cls := findClass_of_methodNamed Bd.named
  have hnm := (name_of_methodNamed Bd.named Bd.method).1
  have X0 : Stand p l e ({ frames := 4, cells := 1, slots := 142, locals := 149 } : Room) s m #[(.ref a1), (.long xl)] below meth c s₁ [] 0 0 := Stand.of_body Bd
  have e0 : s₁.heap = h0 := by rw [← hh, Bd.state]; rfl
  have N0 := Fr.nil n0
  refine own_enter (ef_rmAjG m a1 xl) ?_
  have hkn := own_addI hk (show (1 : Int32).toInt = ((1 : Nat) : Int) from rfl) (by omega)
  refine own_st (fun t_ k_ => XS.aloadN X0.here hx rfl (hb hby d23_0) rfl rfl k_) ?_
  obtain ⟨T1, X1, e1, st1⟩ := getF X0 hx hZ hown (host := "") (Or.inl (own_w hw 125 rfl)) Via.refl e0 pF_count_a1 (g := (mkF m 1 #[.val (.ref a1), .val (.long xl), .second, .unset, .unset] [(.ref a1)])) rfl rfl (hb hby d23_1)
  refine own_st st1 ?_
  refine own_st (fun t_ k_ => XS.istoreN X1.here hx rfl (hb hby d23_4) rfl (l' := #[.val (.ref a1), .val (.long xl), .second, .val (.int k), .unset]) rfl (XS.iloadN X1.here hx rfl (hb hby d23_5) rfl (XS.lloadN X1.here hx rfl (hb hby d23_6) rfl k_))) ?_
  obtain ⟨_, _, ⟨T2, L2, k2, n2⟩, -, X2, ⟨Lc2, hQ2, l2, y2, z2⟩, st2⟩ := Jvm.LawKit.callS X1 hx (y := own_y25) hown (mvT hZ (own_w hw 161 rfl)) (mvT hZ (own_w hw 162 rfl)) (mvT hZ (own_w hw 163 rfl)) (mvT hZ (own_w hw 164 rfl)) (by decide) (backOf (W := 1) (rmZs l Z a0 hw [] xl dd h0 n0 Z0 hd h9) hZ (own_w hw 164 rfl) (own_w hw 163 rfl) (by decide) (by decide)) (g := (mkF m 7 #[.val (.ref a1), .val (.long xl), .second, .val (.int k), .unset] [(.long xl), (.int k)])) rfl (by rw [hml]; rfl) (argsL := [(.long xl)]) (rest := [(.int k)]) (lenOf pd__J_I rfl) rfl (by show 2 * 0 + _ ≤ _; exact Nat.le_of_eq rfl) (hb hby d23_7) (fun _ _ => ⟨rfl, e1, (by decide : 0 + 0 ≤ _), (by decide : 0 + 0 ≤ _)⟩)
  dsimp only [Pt.U, Pt.locs, Pt.cells, Pt.slots] at X2 l2 y2 z2 st2 hQ2
  try dsimp only [Nat.reduceAdd] at y2 z2
  rw [l2, y2, z2] at X2
  obtain ⟨rfl, Nq2, eH2⟩ := hQ2
  have N2 := Fr.app N0 Nq2
  refine own_st st2 ?_
  refine own_st (fun t_ k_ => XS.iadd X2.here hx rfl (hb hby d23_10) rfl (XS.istore X2.here hx rfl (hb hby d23_11) rfl (l' := #[.val (.ref a1), .val (.long xl), .second, .val (.int k), .val (.int (k + (1 : Int32)))]) rfl (XS.aloadN X2.here hx rfl (hb hby d23_13) rfl rfl (XS.iload X2.here hx rfl (hb hby d23_14) rfl k_)))) ?_
  show own_Go p e below T2 (mkF m 16 #[.val (.ref a1), .val (.long xl), .second, .val (.int k), .val (.int (k + (1 : Int32)))] [(.int (k + (1 : Int32))), (.ref a1)]) _
  obtain ⟨cq3, kq3, qa3, qb3, qc3⟩ := isOf hZ eH2 pE_a1
  obtain ⟨_, _, ⟨T3, L3, k3, n3⟩, -, X3, ⟨Lc3, hQ3, l3, y3, z3⟩, st3⟩ := X2.virtualBack hx (y := own_y4) (z := own_y4) hown (mvT hZ (own_w hw 127 rfl)) (mvT hZ (own_decl (own_w hw 128 rfl) (own_w hw 131 rfl))) (notFace_of_selects (args := #[]) (mvT hZ (own_w hw 130 rfl))) (mvT hZ (own_w hw 130 rfl)) (mvT hZ (own_w hw 128 rfl)) (by decide) (backOf (W := 0) (rmEg l Z a0 hw [] a1 va kva cap ((bs ++ rest)) ((k + (1 : Int32))) k h0 n0 Z0 pE_a1 pF_value_a1 pF_coder_a1 pV_va pF_count_a1 (by omega) (by rw [List.length_append]; exact hcap) (by omega) pG_a1) hZ (own_w hw 131 rfl) (own_w hw 93 rfl) (by decide) (by decide)) qa3 qc3 (g := (mkF m 16 #[.val (.ref a1), .val (.long xl), .second, .val (.int k), .val (.int (k + (1 : Int32)))] [(.int (k + (1 : Int32))), (.ref a1)])) rfl (by rw [hml]; rfl) (Steps.refl _) (argsL := [(.int (k + (1 : Int32)))]) (rest := []) (lenOf pd__I_V rfl) rfl (by show 2 * 0 + _ ≤ _; exact Nat.le_of_eq rfl) (hb hby d23_16) (fun _ _ => ⟨rfl, eH2, (by decide : 0 + 1 ≤ _), (by decide : 0 + 142 ≤ _)⟩)
  dsimp only [Pt.U, Pt.locs, Pt.cells, Pt.slots] at X3 l3 y3 z3 st3 hQ3
  try dsimp only [Nat.reduceAdd] at y3 z3
  rw [l3, y3, z3] at X3
  obtain ⟨vb_3, kvb_3, cap2_3, r2_3, rfl, Nq3, Kq3, q3_0, q3_1, q3_2, q3_3, q3_4, q3_5, q3_6, q3_7⟩ := hQ3
  have N3 := Fr.app N2 Nq3
  have K4 : Keep h0 T3.heap [a1] := (Keep.refl h0 [a1]).trans Kq3 (allS (Or.inl (List.mem_of_getElem? (i := 0) rfl)) all0)
  have Bf5 : h0.size ≤ vb_3 := Nat.le_trans (Keep.refl h0 [a1]).1 q3_4
  refine own_tr st3 ?_
  have hgq := q3_6
  have hgz := hgq.1
  unfold own_gr at hgz
  have hgl := hgq.2
  rw [List.length_append] at hgl
  have Vg := q3_3
  rw [List.append_assoc] at Vg
  have hgc : cap2_3.toInt = ((bs.length + (rest ++ r2_3).length : Nat) : Int) := by rw [List.length_append]; omega
  refine own_st (fun t_ k_ => XS.aloadN X3.here hx rfl (hb hby d23_19) rfl rfl k_) ?_
  have f6 := (Nat.le_trans Z0 Kq3.1)
  have f7 := (pO.keep Kq3 (allS pG_a1 all0))
  obtain ⟨cq8, kq8, qa8, qb8, qc8⟩ := isOf hZ rfl q3_0
  obtain ⟨_, _, ⟨T8, L8, k8, n8⟩, -, X8, ⟨Lc8, hQ8, l8, y8, z8⟩, st8⟩ := X3.virtualBack hx (y := own_y17) (z := own_y17) hown (mvT hZ (own_w hw 166 rfl)) (mvT hZ (own_w hw 167 rfl)) (notFace_of_selects (args := #[]) (mvT hZ (own_w hw 169 rfl))) (mvT hZ (own_w hw 169 rfl)) (mvT hZ (own_w hw 168 rfl)) (by decide) (backOf (W := 0) (rmAil l Z a0 hw [] a1 zc T3.heap n0 f6 q3_0 q3_2 pS_COMPACT_STRINGS pP5 f7) hZ (own_w hw 170 rfl) (own_w hw 93 rfl) (by decide) (by decide)) qa8 qc8 (g := (mkF m 20 #[.val (.ref a1), .val (.long xl), .second, .val (.int k), .val (.int (k + (1 : Int32)))] [(.ref a1)])) rfl (by rw [hml]; rfl) (Steps.refl _) (argsL := []) (rest := []) (lenOf pd___Z rfl) rfl (by show 2 * 0 + _ ≤ _; exact Nat.le_of_eq rfl) (hb hby d23_20) (fun _ _ => ⟨rfl, rfl, (by decide : 1 + 0 ≤ _), (by decide : 142 + 0 ≤ _)⟩)
  dsimp only [Pt.U, Pt.locs, Pt.cells, Pt.slots] at X8 l8 y8 z8 st8 hQ8
  try dsimp only [Nat.reduceAdd] at y8 z8
  rw [l8, y8, z8] at X8
  obtain ⟨rfl, Nq8, eH8⟩ := hQ8
  have N8 := Fr.app N3 Nq8
  refine own_tr st8 ?_
  refine own_st (fun t_ k_ => XS.ifNo X8.here hx rfl (hb hby d23_23) rfl (by decide) (XS.lloadN X8.here hx rfl (hb hby d23_26) rfl (XS.iload X8.here hx rfl (hb hby d23_27) rfl (XS.aloadN X8.here hx rfl (hb hby d23_29) rfl rfl k_)))) ?_
  show own_Go p e below T8 (mkF m 30 #[.val (.ref a1), .val (.long xl), .second, .val (.int k), .val (.int (k + (1 : Int32)))] [(.ref a1), (.int (k + (1 : Int32))), (.long xl)]) _
  obtain ⟨T9, X9, e9, st9⟩ := getF X8 hx hZ hown (host := "") (Or.inl (own_w hw 97 rfl)) Via.refl eH8 q3_1 (g := (mkF m 30 #[.val (.ref a1), .val (.long xl), .second, .val (.int k), .val (.int (k + (1 : Int32)))] [(.ref a1), (.int (k + (1 : Int32))), (.long xl)])) rfl rfl (hb hby d23_30)
  refine own_st st9 ?_
  obtain ⟨_, _, ⟨T10, L10, k10, n10⟩, -, X10, ⟨Lc10, hQ10, l10, y10, z10⟩, st10⟩ := Jvm.LawKit.callS X9 hx (y := own_y26) hown (mvT hZ (own_w hw 171 rfl)) (mvT hZ (own_w hw 172 rfl)) (mvT hZ (own_w hw 163 rfl)) (mvT hZ (own_w hw 173 rfl)) (by decide) (backOf (W := 0) (rmZg l Z a0 hw [] xl dd ((k + (1 : Int32))) vb_3 kvb_3 cap2_3 bs ((rest ++ r2_3)) dg _ T3.heap n0 f6 Vg hd h9 hkn hgc (by rw [List.length_append]; omega) (by omega) q3_5 pS_DigitOnes pD f7) hZ (own_w hw 173 rfl) (own_w hw 163 rfl) (by decide) (by decide)) (g := (mkF m 33 #[.val (.ref a1), .val (.long xl), .second, .val (.int k), .val (.int (k + (1 : Int32)))] [(.ref vb_3), (.int (k + (1 : Int32))), (.long xl)])) rfl (by rw [hml]; rfl) (argsL := [(.long xl), (.int (k + (1 : Int32))), (.ref vb_3)]) (rest := []) (lenOf pd__JI_B_I rfl) rfl (by show 2 * 0 + _ ≤ _; exact Nat.le_of_eq rfl) (hb hby d23_33) (fun _ _ => ⟨rfl, e9, (by decide : 1 + 0 ≤ _), (by decide : 142 + 0 ≤ _)⟩)
  dsimp only [Pt.U, Pt.locs, Pt.cells, Pt.slots] at X10 l10 y10 z10 st10 hQ10
  try dsimp only [Nat.reduceAdd] at y10 z10
  rw [l10, y10, z10] at X10
  obtain ⟨r_10, rfl, Nq10, Kq10, q10_0⟩ := hQ10
  have N10 := Fr.app N8 Nq10
  have K11 : Keep h0 T10.heap [a1] := K4.trans Kq10 (allS (Or.inr Bf5) all0)
  refine own_st st10 ?_
  refine own_st (fun t_ k_ => XS.pop X10.here hx rfl (hb hby d23_36) rfl rfl (XS.goto X10.here hx rfl (pc0 := 37) (pc' := 52) rfl (hb hby d23_37) (by decide) (by decide) (XS.aloadN X10.here hx rfl (hb hby d23_52) rfl rfl (XS.iload X10.here hx rfl (hb hby d23_53) rfl k_)))) ?_
  show own_Go p e below T10 (mkF m 55 #[.val (.ref a1), .val (.long xl), .second, .val (.int k), .val (.int (k + (1 : Int32)))] [(.int (k + (1 : Int32))), (.ref a1)]) _
  have f12 := (q3_0.keep Kq10)
  have f13 := (q3_7.keep Kq10 (ninS (Nat.ne_of_lt (Nat.lt_of_lt_of_le pE_a1.lt q3_4)) nin0))
  obtain ⟨T14, h14, X14, e14, W14, st14⟩ := putF X10 hx hZ hown (host := "") (Or.inl (own_w hw 125 rfl)) Via.refl rfl f13 f12 (Or.inl (own_w hw 126 rfl)) (own_w hw 84 rfl) (ty := .int) (by decide) rfl rfl (g := (mkF m 55 #[.val (.ref a1), .val (.long xl), .second, .val (.int k), .val (.int (k + (1 : Int32)))] [(.int (k + (1 : Int32))), (.ref a1)])) rfl rfl (hb hby d23_55)
  have F14 := f13.same W14
  have K15 : Keep h0 h14 [a1] := K11.wr W14 (Or.inl (List.mem_of_getElem? (i := 0) rfl))
  have N14 := Fr.snoc X14 N10 pG_a1
  refine own_st st14 ?_
  refine own_st (fun t_ k_ => XS.aloadN X14.here hx rfl (hb hby d23_58) rfl rfl k_) ?_
  have f16 := (f12.wr W14)
  have f17 := ((q3_1.keep Kq10 (ninS (Nat.ne_of_lt (Nat.lt_of_lt_of_le pE_a1.lt q3_4)) nin0)).other W14 (Or.inr (slot_ne (Or.inl (own_w hw 98 rfl)) (Or.inl (own_w hw 126 rfl)) (by decide) (t := (.array .byte)) (t' := .int) (by decide) (by decide))))
  have f18 := ((q3_2.keep Kq10 (ninS (Nat.ne_of_lt (Nat.lt_of_lt_of_le pE_a1.lt q3_4)) nin0)).other W14 (Or.inr (slot_ne (Or.inl (own_w hw 100 rfl)) (Or.inl (own_w hw 126 rfl)) (by decide) (t := .byte) (t' := .int) (by decide) (by decide))))
  have f19 := (q10_0.other W14 (Ne.symm (Nat.ne_of_lt (Nat.lt_of_lt_of_le pE_a1.lt q3_4))))
  obtain ⟨fs, hr, hrun, hended, hW, hsame⟩ := X14.leave (v := some (.ref a1)) (fun h => by rw [Bd.returns] at h; cases h)
  refine own_fin (own_retR X14 hx rfl Bd.returns rfl (hb hby d23_59) hr) ⟨hrun, hended, _, _, rfl, ?_, ⟨_, rfl⟩, hW, hsame.mono (by decide) (by decide)⟩
  show Q_rmAjG Z a1 va kva cap k bs rest xl dd zc dg kd h0 n0 _ T14.heap _
  rw [e14]
  exact ⟨vb_3, kvb_3, cap2_3, ((rest ++ r2_3).drop 1), rfl, N14, K15, f16, f17, f18, F14, f19, Bf5, q3_5, ⟨hgq.1, by rw [List.length_drop, List.length_append]; simp only [List.length_cons, List.length_nil]; omega⟩⟩
theorem ef_rmSjG (m : MethodId) (x0 : Addr) (x1 : Int64) : entryFrame m #[(.ref x0), (.long x1)] 3 = mkF m 0 #[.val (.ref x0), .val (.long x1), .second] [] := by first | (simp [entryFrame, mkF, argsToLocals, Value.category]; done) | rfl
def Q_rmSjG (Z : State) (a1 : Addr) (va : Addr) (kva : ClassId) (cap : Int32) (k : Int32) (bs : List Value) (rest : List Value) (xl : Int64) (dd : Nat) (zc : Int32) (dg : Addr) (kd : ClassId) (h0 : Heap) (n0 : Nat) (v : Option Value) (h : Heap) (L : List Loc) : Prop := ∃ vb : Addr, ∃ kvb : ClassId, ∃ cap2 : Int32, ∃ r2 : List Value, v = some (.ref a1) ∧ Fr n0 L ∧ Keep h0 h [a1] ∧ Exa Z h a1 "java/lang/StringBuilder" ∧ Fld Z h a1 "java/lang/AbstractStringBuilder" "value" "[B" (.ref vb) ∧ Fld Z h a1 "java/lang/AbstractStringBuilder" "coder" "B" (.int (0 : Int32)) ∧ Fld Z h a1 "java/lang/AbstractStringBuilder" "count" "I" (.int (k + (1 : Int32))) ∧ Arv Z h vb kvb .byte cap2 ((bs ++ [(.int (Int32.ofNat (48 + dd)))]) ++ r2) (.int 0) ∧ h0.size ≤ vb ∧ n0 ≤ vb ∧ (own_gr cap (k + (1 : Int32)) cap2 ∧ cap2.toInt = ((bs.length + ([(.int (Int32.ofNat (48 + dd)))] : List Value).length + r2.length : Nat) : Int))
set_option maxRecDepth 65536 in
set_option maxHeartbeats 40000000 in
theorem rmSjG (l : Launch) (Z : State) (a0 : Array Value) (hw : ∀ d ∈ tables_1, d.before a0 Z = true) (ws : List Jvm.Cond) (a1 : Addr) (va : Addr) (kva : ClassId) (cap : Int32) (k : Int32) (bs : List Value) (rest : List Value) (xl : Int64) (dd : Nat) (zc : Int32) (dg : Addr) (kd : ClassId) (h0 : Heap) (n0 : Nat) (Z0 : n0 ≤ h0.size) (pE_a1 : Exa Z h0 a1 "java/lang/StringBuilder") (pF_value_a1 : Fld Z h0 a1 "java/lang/AbstractStringBuilder" "value" "[B" (.ref va)) (pF_coder_a1 : Fld Z h0 a1 "java/lang/AbstractStringBuilder" "coder" "B" (.int (0 : Int32))) (pF_count_a1 : Fld Z h0 a1 "java/lang/AbstractStringBuilder" "count" "I" (.int k)) (pV_va : Arv Z h0 va kva .byte cap (bs ++ rest) (.int 0)) (hd : (xl.toInt = (dd : Int))) (h9 : (dd ≤ 9)) (hk : (k.toInt = (bs.length : Int))) (hcap : (cap.toInt = ((bs.length + rest.length : Nat) : Int))) (hgt : (rest.length < 1)) (hbd : (bs.length + 1 ≤ 142 ∧ 2 * (bs.length + rest.length) + 2 ≤ 142)) (pS_DigitOnes : Sta Z Z.heap "java/lang/Integer" "DigitOnes" "[B" (.ref dg)) (pD : (Arv Z Z.heap dg kd .byte (100 : Int32) own_ones (.int 0))) (pG_a1 : n0 ≤ a1) (pG_va : n0 ≤ va) (pS_COMPACT_STRINGS : Sta Z Z.heap "java/lang/String" "COMPACT_STRINGS" "Z" (.int zc)) (pP5 : (¬ (zc = (0 : Int32)))) (pO : Old Z n0 h0) :
    MetFree l own_y28 (head1 (Jvm.Cond.code own_y28 jdk_67_method_16_code 3 (some (.object "java/lang/StringBuilder")) :: ws) ({ frames := 5, cells := 1, slots := 142, locals := 165 } : Room)) (fun a U => a = #[(.ref a1), (.long xl)] ∧ Z.Warmed39 U.vm ∧ U.heap = h0) (fun _ _ _ _ _ => True) (fun _ U o U' => ∃ v L, o = .returned v ∧ Q_rmSjG Z a1 va kva cap k bs rest xl dd zc dg kd h0 n0 v U'.heap L ∧ FrameEnd U o U' L ({ frames := 5, cells := 1, slots := 142, locals := 165 } : Room).cells ({ frames := 5, cells := 1, slots := 142, locals := 165 } : Room).slots) := by
  refine MetFree.of_bodySF (plainFor_of_name pn_22) hisR ?_
  intro p e s m args below meth c s₁ Bd hml0 hP hK
  obtain ⟨rfl, hZ, hh⟩ := hP
  have hx := Bd.exec
  have hby := Bd.bytes
  have hml : c.maxLocals = 3 := hml0
  have hown : s.vm.findClass "java/lang/StringBuilder" = some m.cls := findClass_of_methodNamed Bd.named
  have hnm := (name_of_methodNamed Bd.named Bd.method).1
  have X0 : Stand p l e ({ frames := 5, cells := 1, slots := 142, locals := 165 } : Room) s m #[(.ref a1), (.long xl)] below meth c s₁ [] 0 0 := Stand.of_body Bd
  have e0 : s₁.heap = h0 := by rw [← hh, Bd.state]; rfl
  have N0 := Fr.nil n0
  refine own_enter (ef_rmSjG m a1 xl) ?_
  refine own_st (fun t_ k_ => XS.aloadN X0.here hx rfl (hb hby d22_0) rfl rfl (XS.lloadN X0.here hx rfl (hb hby d22_1) rfl k_)) ?_
  obtain ⟨_, _, ⟨T1, L1, k1, n1⟩, -, X1, ⟨Lc1, hQ1, l1, y1, z1⟩, st1⟩ := superBack X0 hx hZ (y := own_y27) hown (own_w hw 157 rfl) (own_same (y := own_y27) (y' := own_y9) (own_w hw 159 rfl) (own_w hw 229 rfl) rfl (by decide)) (own_w hw 158 rfl) (own_w hw 109 rfl) (by decide) (backOf (W := 0) (rmAjG l Z a0 hw [] a1 va kva cap k bs rest xl dd zc dg _ h0 n0 Z0 pE_a1 pF_value_a1 pF_coder_a1 pF_count_a1 pV_va hd h9 hk hcap hgt hbd pS_DigitOnes pD pG_a1 pG_va pS_COMPACT_STRINGS pP5 pO) hZ (own_w hw 160 rfl) (own_w hw 93 rfl) (by decide) (by decide)) e0 (Ins.self pE_a1) (g := (mkF m 2 #[.val (.ref a1), .val (.long xl), .second] [(.long xl), (.ref a1)])) rfl (by rw [hml]; rfl) (own_w hw 160 rfl) (argsL := [(.long xl)]) (rest := []) (lenOf pd__J_Ljava_lang_AbstractStringBuilder_ rfl) rfl (by show 2 * 0 + _ ≤ _; exact Nat.le_of_eq rfl) (hb hby d22_2) (fun _ _ => ⟨rfl, e0, (by decide : 0 + 1 ≤ _), (by decide : 0 + 142 ≤ _)⟩)
  dsimp only [Pt.U, Pt.locs, Pt.cells, Pt.slots] at X1 l1 y1 z1 st1 hQ1
  try dsimp only [Nat.reduceAdd] at y1 z1
  rw [l1, y1, z1] at X1
  obtain ⟨vb_1, kvb_1, cap2_1, r2_1, rfl, Nq1, Kq1, q1_0, q1_1, q1_2, q1_3, q1_4, q1_5, q1_6, q1_7⟩ := hQ1
  have N1 := Fr.app N0 Nq1
  have K2 : Keep h0 T1.heap [a1] := (Keep.refl h0 [a1]).trans Kq1 (allS (Or.inl (List.mem_of_getElem? (i := 0) rfl)) all0)
  have Bf3 : h0.size ≤ vb_1 := Nat.le_trans (Keep.refl h0 [a1]).1 q1_5
  refine own_tr st1 ?_
  refine own_st (fun t_ k_ => XS.pop X1.here hx rfl (hb hby d22_5) rfl rfl (XS.aloadN X1.here hx rfl (hb hby d22_6) rfl rfl k_)) ?_
  obtain ⟨fs, hr, hrun, hended, hW, hsame⟩ := X1.leave (v := some (.ref a1)) (fun h => by rw [Bd.returns] at h; cases h)
  refine own_fin (own_retR X1 hx rfl Bd.returns rfl (hb hby d22_7) hr) ⟨hrun, hended, _, _, rfl, ?_, ⟨_, rfl⟩, hW, hsame.mono (by decide) (by decide)⟩
  show Q_rmSjG Z a1 va kva cap k bs rest xl dd zc dg kd h0 n0 _ T1.heap _
  exact ⟨vb_1, kvb_1, cap2_1, r2_1, rfl, N1, K2, q1_0, q1_1, q1_2, q1_3, q1_4, Bf3, q1_6, q1_7⟩
theorem own_tbl {s : State} {a : Array Value} {st d : Addr} {D : Cell} (T : Jvm.Free.SBG.Tbl s "DigitOnes" st d D) (O : Jvm.Free.SBG.Ones D) (hi : (Cond.initialized "java/lang/Integer").before a s = true) (hl : (Cond.laysStatic "java/lang/Integer" "DigitOnes" "[B").before a s = true) (he : (Cond.exactly (Term.static "java/lang/Integer" "DigitOnes" "[B") "[B").before a s = true) : Sta s s.heap "java/lang/Integer" "DigitOnes" "[B" (.ref d) ∧ Arv s s.heap d D.cls .byte (100 : Int32) own_ones (.int 0) := by
  obtain ⟨x, ex⟩ := exa_v (Cond.before_iff.mp he)
  have S0 := Sta.start ex (Or.inr ⟨hi, hl⟩)
  obtain ⟨cf, i, k, f, cellS, t1, t2, t3, t4, t5, t6, t7, t8, t9, t10, t11, t12⟩ := T
  have S1 := S0
  obtain ⟨cf', i', k', f', st', cell', u1, u2, u3, u4, u5, u6, u7⟩ := S1
  cases (show s.fieldFound? "java/lang/Integer" "DigitOnes" "[B" = _ from t1).symm.trans u1
  cases t4.symm.trans u4
  cases t5.symm.trans u5
  cases t7.symm.trans u7
  refine ⟨S0, D, ⟨t8, t9, t10⟩, rfl, t11, by decide, fun j hj => ?_, fun j hj => ?_⟩
  · rw [t11] at hj
    rw [t12 j hj, O j hj, own_onesG hj]
  · rw [t11] at hj
    rw [own_onesG hj]
    have h9 : j % 10 ≤ 9 := by omega
    rcases own_ten h9 with q | q | q | q | q | q | q | q | q | q <;> rw [q] <;> decide
theorem own_by9 {d : Nat} (h : d ≤ 9) : [Value.int (Int32.ofNat (48 + d))] = (([Int32.ofNat (48 + d)] : List Int32).map (fun c : Int32 => c.toInt8.toInt32)).map Value.int := by
  show _ = [Value.int ((Int32.ofNat (48 + d)).toInt8.toInt32)]
  rw [show (Int32.ofNat (48 + d)).toInt8.toInt32 = Int32.ofNat (48 + d) from own_narD h]
theorem own_narC {d : Nat} (h : d ≤ 9) : nar .char (Int32.ofNat (48 + d)) = Int32.ofNat (48 + d) := by
  rcases own_ten h with rfl | rfl | rfl | rfl | rfl | rfl | rfl | rfl | rfl | rfl <;> rfl
theorem own_dN {x : Int32} {d : Nat} (hx : x.toInt = (d : Int)) (h : d ≤ 9) : nar .char (((48 : Int32) + x).toUInt32.toUInt16.toUInt32.toInt32) = Int32.ofNat (48 + d) := by
  rw [own_eqOf hx (by omega)]
  rcases own_ten h with rfl | rfl | rfl | rfl | rfl | rfl | rfl | rfl | rfl | rfl <;> rfl
theorem own_inc {x : Int64} {n : Nat} (h : x.toInt = (n : Int)) (hn : n ≤ 1000) : (x + (1 : Int64)).toInt = ((n + 1 : Nat) : Int) := by
  have u1 := c_ladd x 1
  have u2 := rng64 (x + 1)
  rw [show (1 : Int64).toInt = 1 from rfl] at u1
  omega
theorem own_addJ {x : Int64} {y : Int32} {n d : Nat} (h : x.toInt = (n : Int)) (hy : y.toInt = (d : Int)) (hn : n ≤ 1000) (hd : d ≤ 1000) : (x + y.toInt64).toInt = ((n + d : Nat) : Int) := by
  have u1 := c_ladd x y.toInt64
  have u2 := rng64 (x + y.toInt64)
  have u3 := c_i2l y
  omega
theorem own_four {x : Int32} {n : Nat} (h : x.toInt = (n : Int)) (hn : n ≤ 3) : (x = 0 ∧ n = 0) ∨ (x = 1 ∧ n = 1) ∨ (x = 2 ∧ n = 2) ∨ (x = 3 ∧ n = 3) := by
  have h5 : n = 0 ∨ n = 1 ∨ n = 2 ∨ n = 3 := by omega
  rcases h5 with rfl | rfl | rfl | rfl
  · exact Or.inl ⟨Int32.toInt_inj.mp h, rfl⟩
  · exact Or.inr (Or.inl ⟨Int32.toInt_inj.mp h, rfl⟩)
  · exact Or.inr (Or.inr (Or.inl ⟨Int32.toInt_inj.mp h, rfl⟩))
  · exact Or.inr (Or.inr (Or.inr ⟨Int32.toInt_inj.mp h, rfl⟩))
theorem own_five (x : Int32) : (x &&& (2147483647 : Int32)) % (5 : Int32) = 0 ∨ (x &&& (2147483647 : Int32)) % (5 : Int32) = 1 ∨ (x &&& (2147483647 : Int32)) % (5 : Int32) = 2 ∨ (x &&& (2147483647 : Int32)) % (5 : Int32) = 3 ∨ (x &&& (2147483647 : Int32)) % (5 : Int32) = 4 := by
  have h := c_and x 2147483647 (by decide)
  have hr := (c_irem (x &&& (2147483647 : Int32)) 5 5 rfl).1 h.1
  generalize (x &&& (2147483647 : Int32)) % (5 : Int32) = k at hr ⊢
  have h5 : k.toInt = 0 ∨ k.toInt = 1 ∨ k.toInt = 2 ∨ k.toInt = 3 ∨ k.toInt = 4 := by omega
  rcases h5 with q | q | q | q | q
  · exact Or.inl (Int32.toInt_inj.mp q)
  · exact Or.inr (Or.inl (Int32.toInt_inj.mp q))
  · exact Or.inr (Or.inr (Or.inl (Int32.toInt_inj.mp q)))
  · exact Or.inr (Or.inr (Or.inr (Or.inl (Int32.toInt_inj.mp q))))
  · exact Or.inr (Or.inr (Or.inr (Or.inr (Int32.toInt_inj.mp q))))
theorem own_nat {x : Int32} {b : Nat} (h0 : 0 ≤ x.toInt) (h1 : x.toInt ≤ (b : Int)) : ∃ n : Nat, x.toInt = (n : Int) ∧ n ≤ b := ⟨x.toInt.toNat, by omega, by omega⟩
theorem ef_rmMn (m : MethodId) (x0 : Int32) (x1 : Int32) : entryFrame m #[(.int x0), (.int x1)] 2 = mkF m 0 #[.val (.int x0), .val (.int x1)] [] := by first | (simp [entryFrame, mkF, argsToLocals, Value.category]; done) | rfl
def Q_rmMn (Z : State) (a_ : Int32) (b_ : Int32) (h0 : Heap) (n0 : Nat) (v : Option Value) (h : Heap) (L : List Loc) : Prop := ∃ r : Int32, v = some (.int r) ∧ Fr n0 L ∧ h = h0 ∧ (r.toInt ≤ a_.toInt ∧ r.toInt ≤ b_.toInt ∧ (r.toInt = a_.toInt ∨ r.toInt = b_.toInt))
set_option maxRecDepth 65536 in
set_option maxHeartbeats 40000000 in
theorem rmMn (l : Launch) (Z : State) (a0 : Array Value) (hw : ∀ d ∈ tables_1, d.before a0 Z = true) (ws : List Jvm.Cond) (a_ : Int32) (b_ : Int32) (h0 : Heap) (n0 : Nat) (Z0 : n0 ≤ h0.size) :
    MetFree l own_y11 (head1 (Jvm.Cond.code own_y11 jdk_29_method_69_code 2 (some .int) :: ws) ({ frames := 0, cells := 0, slots := 0, locals := 0 } : Room)) (fun a U => a = #[(.int a_), (.int b_)] ∧ Z.Warmed39 U.vm ∧ U.heap = h0) (fun _ _ _ _ _ => True) (fun _ U o U' => ∃ v L, o = .returned v ∧ Q_rmMn Z a_ b_ h0 n0 v U'.heap L ∧ FrameEnd U o U' L ({ frames := 0, cells := 0, slots := 0, locals := 0 } : Room).cells ({ frames := 0, cells := 0, slots := 0, locals := 0 } : Room).slots) := by
  refine MetFree.of_bodySF (Jvm.Free.JP.mathPlain rfl (by decide +kernel)) hisR ?_
  intro p e s m args below meth c s₁ Bd hml0 hP hK
  obtain ⟨rfl, hZ, hh⟩ := hP
  have hx := Bd.exec
  have hby := Bd.bytes
  have hml : c.maxLocals = 2 := hml0
  have hown : s.vm.findClass "java/lang/Math" = some m.cls := findClass_of_methodNamed Bd.named
  have hnm := (name_of_methodNamed Bd.named Bd.method).1
  have X0 : Stand p l e ({ frames := 0, cells := 0, slots := 0, locals := 0 } : Room) s m #[(.int a_), (.int b_)] below meth c s₁ [] 0 0 := Stand.of_body Bd
  have e0 : s₁.heap = h0 := by rw [← hh, Bd.state]; rfl
  have N0 := Fr.nil n0
  refine own_enter (ef_rmMn m a_ b_) ?_
  refine own_st (fun t_ k_ => XS.iloadN X0.here hx rfl (hb hby d1_0) rfl (XS.iloadN X0.here hx rfl (hb hby d1_1) rfl k_)) ?_
  show own_Go p e below s₁ (mkF m 2 #[.val (.int a_), .val (.int b_)] [(.int b_), (.int a_)]) _
  by_cases c2 : b_ < a_
  · skip
    refine own_st (fun t_ k_ => XS.icmpYes X0.here hx rfl (pc0 := 2) (pc' := 9) rfl (hb hby d1_2) rfl (tlt c2).2.2.1 (by decide) (by decide) (XS.iloadN X0.here hx rfl (hb hby d1_9) rfl k_)) ?_
    obtain ⟨fs, hr, hrun, hended, hW, hsame⟩ := X0.leave (v := some (.int b_)) (fun h => by rw [Bd.returns] at h; cases h)
    refine own_fin (own_retI X0 hx Bd.returns (hb hby d1_10) hr) ⟨hrun, hended, _, _, rfl, ?_, ⟨_, rfl⟩, hW, hsame.mono (by decide) (by decide)⟩
    show Q_rmMn Z a_ b_ h0 n0 _ s₁.heap _
    rw [e0]
    exact ⟨b_, rfl, N0, rfl, (by rw [Int32.lt_iff_toInt_lt] at c2; omega)⟩
  · skip
    refine own_st (fun t_ k_ => XS.icmpNo X0.here hx rfl (hb hby d1_2) rfl (flt c2).2.2.1 (XS.iloadN X0.here hx rfl (hb hby d1_5) rfl (XS.goto X0.here hx rfl (pc0 := 6) (pc' := 10) rfl (hb hby d1_6) (by decide) (by decide) k_))) ?_
    obtain ⟨fs, hr, hrun, hended, hW, hsame⟩ := X0.leave (v := some (.int a_)) (fun h => by rw [Bd.returns] at h; cases h)
    refine own_fin (own_retI X0 hx Bd.returns (hb hby d1_10) hr) ⟨hrun, hended, _, _, rfl, ?_, ⟨_, rfl⟩, hW, hsame.mono (by decide) (by decide)⟩
    show Q_rmMn Z a_ b_ h0 n0 _ s₁.heap _
    rw [e0]
    exact ⟨a_, rfl, N0, rfl, (by rw [Int32.lt_iff_toInt_lt] at c2; omega)⟩
abbrev own_y29 : MethodName := ⟨"com/example/goldweave/goldweave/server/cli/LoadSummary", "<init>", "()V"⟩
abbrev own_c2 : ByteArray := prog_62_method_1_code
theorem d2_0 : decode own_c2 0 = .ok (.aload_n 0, 1) := by decide +kernel
theorem d2_1 : decode own_c2 1 = .ok (.invokespecial 1, 3) := by decide +kernel
theorem d2_4 : decode own_c2 4 = .ok (.return_, 1) := by decide +kernel
theorem pn_2 : plainName "com/example/goldweave/goldweave/server/cli/LoadSummary" = true := by first | (simp [plainName, overriddenIn]; done) | decide +kernel
theorem ef_rmLs (m : MethodId) (x0 : Addr) : entryFrame m #[(.ref x0)] 1 = mkF m 0 #[.val (.ref x0)] [] := by first | (simp [entryFrame, mkF, argsToLocals, Value.category]; done) | rfl
def Q_rmLs (Z : State) (a1 : Addr) (h0 : Heap) (n0 : Nat) (v : Option Value) (h : Heap) (L : List Loc) : Prop := v = none ∧ Fr n0 L ∧ h = h0
set_option maxRecDepth 65536 in
set_option maxHeartbeats 40000000 in
theorem rmLs (l : Launch) (Z : State) (a0 : Array Value) (hw : ∀ d ∈ tables_1, d.before a0 Z = true) (ws : List Jvm.Cond) (a1 : Addr) (h0 : Heap) (n0 : Nat) (Z0 : n0 ≤ h0.size) :
    MetFree l own_y29 (head1 (Jvm.Cond.code own_y29 prog_62_method_1_code 1 none :: ws) ({ frames := 1, cells := 0, slots := 0, locals := 12 } : Room)) (fun a U => a = #[(.ref a1)] ∧ Z.Warmed39 U.vm ∧ U.heap = h0) (fun _ _ _ _ _ => True) (fun _ U o U' => ∃ v L, o = .returned v ∧ Q_rmLs Z a1 h0 n0 v U'.heap L ∧ FrameEnd U o U' L ({ frames := 1, cells := 0, slots := 0, locals := 12 } : Room).cells ({ frames := 1, cells := 0, slots := 0, locals := 12 } : Room).slots) := by
  refine MetFree.of_bodySF (plainFor_of_name pn_2) hisR ?_
  intro p e s m args below meth c s₁ Bd hml0 hP hK
  obtain ⟨rfl, hZ, hh⟩ := hP
  have hx := Bd.exec
  have hby := Bd.bytes
  have hml : c.maxLocals = 1 := hml0
  have hown : s.vm.findClass "com/example/goldweave/goldweave/server/cli/LoadSummary" = some m.cls := findClass_of_methodNamed Bd.named
  have hnm := (name_of_methodNamed Bd.named Bd.method).1
  have X0 : Stand p l e ({ frames := 1, cells := 0, slots := 0, locals := 12 } : Room) s m #[(.ref a1)] below meth c s₁ [] 0 0 := Stand.of_body Bd
  have e0 : s₁.heap = h0 := by rw [← hh, Bd.state]; rfl
  have N0 := Fr.nil n0
  refine own_enter (ef_rmLs m a1) ?_
  refine own_st (fun t_ k_ => XS.aloadN X0.here hx rfl (hb hby d2_0) rfl rfl k_) ?_
  obtain ⟨T1, X1, e1, st1⟩ := initO X0 hx hZ hown (own_w hw 11 rfl) (own_w hw 12 rfl) (own_w hw 13 rfl) e0 (g := (mkF m 1 #[.val (.ref a1)] [(.ref a1)])) rfl (by rw [hml]; rfl) rfl (hb hby d2_1) (by decide) (W := 0) (by show 2 * 0 + _ ≤ _; exact Nat.le_of_eq rfl) (by decide)
  refine own_st st1 ?_
  obtain ⟨fs, hr, hrun, hended, hW, hsame⟩ := X1.leave (v := none) (fun _ => rfl)
  refine own_fin (X1.returnOut hx Bd.returns (hb hby d2_4) hr) ⟨hrun, hended, _, _, rfl, ?_, ⟨_, rfl⟩, hW, hsame.mono (by decide) (by decide)⟩
  show Q_rmLs Z a1 h0 n0 _ T1.heap _
  rw [e1]
  exact ⟨rfl, N0, rfl⟩
abbrev own_y30 : MethodName := ⟨"com/example/goldweave/goldweave/server/cli/LoadSummary", "reject", "()V"⟩
abbrev own_c49 : ByteArray := prog_62_method_3_code
theorem d49_0 : decode own_c49 0 = .ok (.aload_n 0, 1) := by decide +kernel
theorem d49_1 : decode own_c49 1 = .ok (.dup, 1) := by decide +kernel
theorem d49_2 : decode own_c49 2 = .ok (.getfield 7, 3) := by decide +kernel
theorem d49_5 : decode own_c49 5 = .ok (.lconst 1, 1) := by decide +kernel
theorem d49_6 : decode own_c49 6 = .ok (.ladd, 1) := by decide +kernel
theorem d49_7 : decode own_c49 7 = .ok (.putfield 7, 3) := by decide +kernel
theorem d49_10 : decode own_c49 10 = .ok (.aload_n 0, 1) := by decide +kernel
theorem d49_11 : decode own_c49 11 = .ok (.dup, 1) := by decide +kernel
theorem d49_12 : decode own_c49 12 = .ok (.getfield 54, 3) := by decide +kernel
theorem d49_15 : decode own_c49 15 = .ok (.lconst 1, 1) := by decide +kernel
theorem d49_16 : decode own_c49 16 = .ok (.ladd, 1) := by decide +kernel
theorem d49_17 : decode own_c49 17 = .ok (.putfield 54, 3) := by decide +kernel
theorem d49_20 : decode own_c49 20 = .ok (.return_, 1) := by decide +kernel
theorem pn_49 : plainName "com/example/goldweave/goldweave/server/cli/LoadSummary" = true := by first | (simp [plainName, overriddenIn]; done) | decide +kernel
theorem ef_rmRj (m : MethodId) (x0 : Addr) : entryFrame m #[(.ref x0)] 1 = mkF m 0 #[.val (.ref x0)] [] := by first | (simp [entryFrame, mkF, argsToLocals, Value.category]; done) | rfl
def Q_rmRj (Z : State) (ob : Addr) (r0 : Int64) (j0 : Int64) (rN : Nat) (jN : Nat) (o0_ : Int64) (o1_ : Int64) (o2_ : Int64) (o3_ : Int64) (o4_ : Int64) (o5_ : Int64) (h0 : Heap) (n0 : Nat) (v : Option Value) (h : Heap) (L : List Loc) : Prop := ∃ r1 : Int64, ∃ j1 : Int64, v = none ∧ Fr n0 L ∧ Keep h0 h [ob] ∧ Exa Z h ob "com/example/goldweave/goldweave/server/cli/LoadSummary" ∧ Fld Z h ob "com/example/goldweave/goldweave/server/cli/LoadSummary" "records" "J" (.long r1) ∧ Fld Z h ob "com/example/goldweave/goldweave/server/cli/LoadSummary" "rejected" "J" (.long j1) ∧ Fld Z h ob "com/example/goldweave/goldweave/server/cli/LoadSummary" "created" "J" (.long o0_) ∧ Fld Z h ob "com/example/goldweave/goldweave/server/cli/LoadSummary" "updated" "J" (.long o1_) ∧ Fld Z h ob "com/example/goldweave/goldweave/server/cli/LoadSummary" "unchanged" "J" (.long o2_) ∧ Fld Z h ob "com/example/goldweave/goldweave/server/cli/LoadSummary" "linked" "J" (.long o3_) ∧ Fld Z h ob "com/example/goldweave/goldweave/server/cli/LoadSummary" "newMasters" "J" (.long o4_) ∧ Fld Z h ob "com/example/goldweave/goldweave/server/cli/LoadSummary" "candidates" "J" (.long o5_) ∧ (r1.toInt = ((rN + 1 : Nat) : Int)) ∧ (j1.toInt = ((jN + 1 : Nat) : Int))
set_option maxRecDepth 65536 in
set_option maxHeartbeats 40000000 in
theorem rmRj (l : Launch) (Z : State) (a0 : Array Value) (hw : ∀ d ∈ tables_1, d.before a0 Z = true) (ws : List Jvm.Cond) (ob : Addr) (r0 : Int64) (j0 : Int64) (rN : Nat) (jN : Nat) (o0_ : Int64) (o1_ : Int64) (o2_ : Int64) (o3_ : Int64) (o4_ : Int64) (o5_ : Int64) (h0 : Heap) (n0 : Nat) (Z0 : n0 ≤ h0.size) (pE_ob : Exa Z h0 ob "com/example/goldweave/goldweave/server/cli/LoadSummary") (pF_records_ob : Fld Z h0 ob "com/example/goldweave/goldweave/server/cli/LoadSummary" "records" "J" (.long r0)) (pF_rejected_ob : Fld Z h0 ob "com/example/goldweave/goldweave/server/cli/LoadSummary" "rejected" "J" (.long j0)) (pF_created_ob : Fld Z h0 ob "com/example/goldweave/goldweave/server/cli/LoadSummary" "created" "J" (.long o0_)) (pF_updated_ob : Fld Z h0 ob "com/example/goldweave/goldweave/server/cli/LoadSummary" "updated" "J" (.long o1_)) (pF_unchanged_ob : Fld Z h0 ob "com/example/goldweave/goldweave/server/cli/LoadSummary" "unchanged" "J" (.long o2_)) (pF_linked_ob : Fld Z h0 ob "com/example/goldweave/goldweave/server/cli/LoadSummary" "linked" "J" (.long o3_)) (pF_newMasters_ob : Fld Z h0 ob "com/example/goldweave/goldweave/server/cli/LoadSummary" "newMasters" "J" (.long o4_)) (pF_candidates_ob : Fld Z h0 ob "com/example/goldweave/goldweave/server/cli/LoadSummary" "candidates" "J" (.long o5_)) (pG_ob : n0 ≤ ob) (hrr : (r0.toInt = (rN : Int))) (hjj : (j0.toInt = (jN : Int))) (hrb : (rN ≤ 500)) (hjb : (jN ≤ 500)) :
    MetFree l own_y30 (head1 (Jvm.Cond.code own_y30 prog_62_method_3_code 1 none :: ws) ({ frames := 0, cells := 0, slots := 0, locals := 0 } : Room)) (fun a U => a = #[(.ref ob)] ∧ Z.Warmed39 U.vm ∧ U.heap = h0) (fun _ _ _ _ _ => True) (fun _ U o U' => ∃ v L, o = .returned v ∧ Q_rmRj Z ob r0 j0 rN jN o0_ o1_ o2_ o3_ o4_ o5_ h0 n0 v U'.heap L ∧ FrameEnd U o U' L ({ frames := 0, cells := 0, slots := 0, locals := 0 } : Room).cells ({ frames := 0, cells := 0, slots := 0, locals := 0 } : Room).slots) := by
  refine MetFree.of_bodySF (plainFor_of_name pn_49) hisR ?_
  intro p e s m args below meth c s₁ Bd hml0 hP hK
  obtain ⟨rfl, hZ, hh⟩ := hP
  have hx := Bd.exec
  have hby := Bd.bytes
  have hml : c.maxLocals = 1 := hml0
  have hown : s.vm.findClass "com/example/goldweave/goldweave/server/cli/LoadSummary" = some m.cls := findClass_of_methodNamed Bd.named
  have hnm := (name_of_methodNamed Bd.named Bd.method).1
  have X0 : Stand p l e ({ frames := 0, cells := 0, slots := 0, locals := 0 } : Room) s m #[(.ref ob)] below meth c s₁ [] 0 0 := Stand.of_body Bd
  have e0 : s₁.heap = h0 := by rw [← hh, Bd.state]; rfl
  have N0 := Fr.nil n0
  refine own_enter (ef_rmRj m ob) ?_
  refine own_st (fun t_ k_ => XS.aloadN X0.here hx rfl (hb hby d49_0) rfl rfl (XS.dup X0.here hx rfl (hb hby d49_1) rfl rfl k_)) ?_
  obtain ⟨T1, X1, e1, st1⟩ := getF X0 hx hZ hown (host := "") (Or.inl (own_w hw 54 rfl)) Via.refl e0 pF_records_ob (g := (mkF m 2 #[.val (.ref ob)] [(.ref ob), (.ref ob)])) rfl rfl (hb hby d49_2)
  refine own_st st1 ?_
  refine own_st (fun t_ k_ => XS.lconst X1.here hx rfl (hb hby d49_5) (XS.ladd X1.here hx rfl (hb hby d49_6) rfl k_)) ?_
  obtain ⟨T2, h2, X2, e2, W2, st2⟩ := putF X1 hx hZ hown (host := "") (Or.inl (own_w hw 54 rfl)) Via.refl e1 pF_records_ob pE_ob (Or.inl (own_w hw 55 rfl)) (own_w hw 6 rfl) (ty := .long) (by decide) rfl rfl (g := (mkF m 7 #[.val (.ref ob)] [(.long (r0 + (1 : Int64))), (.ref ob)])) rfl rfl (hb hby d49_7)
  have F2 := pF_records_ob.same W2
  have K3 : Keep h0 h2 [ob] := (Keep.refl h0 [ob]).wr W2 (Or.inl (List.mem_of_getElem? (i := 0) rfl))
  have N2 := Fr.snoc X2 N0 pG_ob
  refine own_st st2 ?_
  refine own_st (fun t_ k_ => XS.aloadN X2.here hx rfl (hb hby d49_10) rfl rfl (XS.dup X2.here hx rfl (hb hby d49_11) rfl rfl k_)) ?_
  have f4 := (pF_rejected_ob.other W2 (Or.inr (slot_ne (Or.inl (own_w hw 206 rfl)) (Or.inl (own_w hw 55 rfl)) (by decide) (t := .long) (t' := .long) (by decide) (by decide))))
  obtain ⟨T5, X5, e5, st5⟩ := getF X2 hx hZ hown (host := "") (Or.inl (own_w hw 205 rfl)) Via.refl e2 f4 (g := (mkF m 12 #[.val (.ref ob)] [(.ref ob), (.ref ob)])) rfl rfl (hb hby d49_12)
  refine own_st st5 ?_
  refine own_st (fun t_ k_ => XS.lconst X5.here hx rfl (hb hby d49_15) (XS.ladd X5.here hx rfl (hb hby d49_16) rfl k_)) ?_
  have f6 := (pE_ob.wr W2)
  obtain ⟨T7, h7, X7, e7, W7, st7⟩ := putF X5 hx hZ hown (host := "") (Or.inl (own_w hw 205 rfl)) Via.refl e5 f4 f6 (Or.inl (own_w hw 206 rfl)) (own_w hw 6 rfl) (ty := .long) (by decide) rfl rfl (g := (mkF m 17 #[.val (.ref ob)] [(.long (j0 + (1 : Int64))), (.ref ob)])) rfl rfl (hb hby d49_17)
  have F7 := f4.same W7
  have K8 : Keep h0 h7 [ob] := K3.wr W7 (Or.inl (List.mem_of_getElem? (i := 0) rfl))
  have N7 := Fr.snoc X7 N2 pG_ob
  refine own_st st7 ?_
  have f9 := (f6.wr W7)
  have f10 := (F2.other W7 (Or.inr (slot_ne (Or.inl (own_w hw 55 rfl)) (Or.inl (own_w hw 206 rfl)) (by decide) (t := .long) (t' := .long) (by decide) (by decide))))
  have f11 := ((pF_created_ob.other W2 (Or.inr (slot_ne (Or.inl (own_w hw 70 rfl)) (Or.inl (own_w hw 55 rfl)) (by decide) (t := .long) (t' := .long) (by decide) (by decide)))).other W7 (Or.inr (slot_ne (Or.inl (own_w hw 70 rfl)) (Or.inl (own_w hw 206 rfl)) (by decide) (t := .long) (t' := .long) (by decide) (by decide))))
  have f12 := ((pF_updated_ob.other W2 (Or.inr (slot_ne (Or.inl (own_w hw 200 rfl)) (Or.inl (own_w hw 55 rfl)) (by decide) (t := .long) (t' := .long) (by decide) (by decide)))).other W7 (Or.inr (slot_ne (Or.inl (own_w hw 200 rfl)) (Or.inl (own_w hw 206 rfl)) (by decide) (t := .long) (t' := .long) (by decide) (by decide))))
  have f13 := ((pF_unchanged_ob.other W2 (Or.inr (slot_ne (Or.inl (own_w hw 203 rfl)) (Or.inl (own_w hw 55 rfl)) (by decide) (t := .long) (t' := .long) (by decide) (by decide)))).other W7 (Or.inr (slot_ne (Or.inl (own_w hw 203 rfl)) (Or.inl (own_w hw 206 rfl)) (by decide) (t := .long) (t' := .long) (by decide) (by decide))))
  have f14 := ((pF_linked_ob.other W2 (Or.inr (slot_ne (Or.inl (own_w hw 77 rfl)) (Or.inl (own_w hw 55 rfl)) (by decide) (t := .long) (t' := .long) (by decide) (by decide)))).other W7 (Or.inr (slot_ne (Or.inl (own_w hw 77 rfl)) (Or.inl (own_w hw 206 rfl)) (by decide) (t := .long) (t' := .long) (by decide) (by decide))))
  have f15 := ((pF_newMasters_ob.other W2 (Or.inr (slot_ne (Or.inl (own_w hw 210 rfl)) (Or.inl (own_w hw 55 rfl)) (by decide) (t := .long) (t' := .long) (by decide) (by decide)))).other W7 (Or.inr (slot_ne (Or.inl (own_w hw 210 rfl)) (Or.inl (own_w hw 206 rfl)) (by decide) (t := .long) (t' := .long) (by decide) (by decide))))
  have f16 := ((pF_candidates_ob.other W2 (Or.inr (slot_ne (Or.inl (own_w hw 57 rfl)) (Or.inl (own_w hw 55 rfl)) (by decide) (t := .long) (t' := .long) (by decide) (by decide)))).other W7 (Or.inr (slot_ne (Or.inl (own_w hw 57 rfl)) (Or.inl (own_w hw 206 rfl)) (by decide) (t := .long) (t' := .long) (by decide) (by decide))))
  obtain ⟨fs, hr, hrun, hended, hW, hsame⟩ := X7.leave (v := none) (fun _ => rfl)
  refine own_fin (X7.returnOut hx Bd.returns (hb hby d49_20) hr) ⟨hrun, hended, _, _, rfl, ?_, ⟨_, rfl⟩, hW, hsame.mono (by decide) (by decide)⟩
  show Q_rmRj Z ob r0 j0 rN jN o0_ o1_ o2_ o3_ o4_ o5_ h0 n0 _ T7.heap _
  rw [e7]
  exact ⟨(r0 + (1 : Int64)), (j0 + (1 : Int64)), rfl, N7, K8, f9, f10, F7, f11, f12, f13, f14, f15, f16, (own_inc hrr (by omega)), (own_inc hjj (by omega))⟩
abbrev own_y31 : MethodName := ⟨"com/example/goldweave/goldweave/server/cli/LoadSummaryRejectPinLaw", "rejectTimes", "(Lcom/example/goldweave/goldweave/server/cli/LoadSummary;I)V"⟩
abbrev own_c4 : ByteArray := method_3_code
theorem d4_0 : decode own_c4 0 = .ok (.iload_n 1, 1) := by decide +kernel
theorem d4_1 : decode own_c4 1 = .ok (.iconst 1, 1) := by decide +kernel
theorem d4_2 : decode own_c4 2 = .ok (.if_icmp .lt 7, 3) := by decide +kernel
theorem d4_5 : decode own_c4 5 = .ok (.aload_n 0, 1) := by decide +kernel
theorem d4_6 : decode own_c4 6 = .ok (.invokevirtual 60, 3) := by decide +kernel
theorem d4_9 : decode own_c4 9 = .ok (.iload_n 1, 1) := by decide +kernel
theorem d4_10 : decode own_c4 10 = .ok (.iconst 2, 1) := by decide +kernel
theorem d4_11 : decode own_c4 11 = .ok (.if_icmp .lt 7, 3) := by decide +kernel
theorem d4_14 : decode own_c4 14 = .ok (.aload_n 0, 1) := by decide +kernel
theorem d4_15 : decode own_c4 15 = .ok (.invokevirtual 60, 3) := by decide +kernel
theorem d4_18 : decode own_c4 18 = .ok (.iload_n 1, 1) := by decide +kernel
theorem d4_19 : decode own_c4 19 = .ok (.iconst 3, 1) := by decide +kernel
theorem d4_20 : decode own_c4 20 = .ok (.if_icmp .lt 7, 3) := by decide +kernel
theorem d4_23 : decode own_c4 23 = .ok (.aload_n 0, 1) := by decide +kernel
theorem d4_24 : decode own_c4 24 = .ok (.invokevirtual 60, 3) := by decide +kernel
theorem d4_27 : decode own_c4 27 = .ok (.return_, 1) := by decide +kernel
theorem pn_4 : plainName "com/example/goldweave/goldweave/server/cli/LoadSummaryRejectPinLaw" = true := by first | (simp [plainName, overriddenIn]; done) | decide +kernel
theorem pd___V : parseMethodDescriptor "()V" = some ⟨[], none⟩ := by decide +kernel
theorem ef_rmRt (m : MethodId) (x0 : Addr) (x1 : Int32) : entryFrame m #[(.ref x0), (.int x1)] 2 = mkF m 0 #[.val (.ref x0), .val (.int x1)] [] := by first | (simp [entryFrame, mkF, argsToLocals, Value.category]; done) | rfl
def Q_rmRt (Z : State) (ob : Addr) (nn : Int32) (nN : Nat) (r0 : Int64) (j0 : Int64) (rN : Nat) (jN : Nat) (o0_ : Int64) (o1_ : Int64) (o2_ : Int64) (o3_ : Int64) (o4_ : Int64) (o5_ : Int64) (h0 : Heap) (n0 : Nat) (v : Option Value) (h : Heap) (L : List Loc) : Prop := ∃ r1 : Int64, ∃ j1 : Int64, v = none ∧ Fr n0 L ∧ Keep h0 h [ob] ∧ Exa Z h ob "com/example/goldweave/goldweave/server/cli/LoadSummary" ∧ Fld Z h ob "com/example/goldweave/goldweave/server/cli/LoadSummary" "records" "J" (.long r1) ∧ Fld Z h ob "com/example/goldweave/goldweave/server/cli/LoadSummary" "rejected" "J" (.long j1) ∧ (r1.toInt = ((rN + nN : Nat) : Int)) ∧ (j1.toInt = ((jN + nN : Nat) : Int)) ∧ Fld Z h ob "com/example/goldweave/goldweave/server/cli/LoadSummary" "created" "J" (.long o0_) ∧ Fld Z h ob "com/example/goldweave/goldweave/server/cli/LoadSummary" "updated" "J" (.long o1_) ∧ Fld Z h ob "com/example/goldweave/goldweave/server/cli/LoadSummary" "unchanged" "J" (.long o2_) ∧ Fld Z h ob "com/example/goldweave/goldweave/server/cli/LoadSummary" "linked" "J" (.long o3_) ∧ Fld Z h ob "com/example/goldweave/goldweave/server/cli/LoadSummary" "newMasters" "J" (.long o4_) ∧ Fld Z h ob "com/example/goldweave/goldweave/server/cli/LoadSummary" "candidates" "J" (.long o5_)
set_option maxRecDepth 65536 in
set_option maxHeartbeats 40000000 in
theorem rmRt (l : Launch) (Z : State) (a0 : Array Value) (hw : ∀ d ∈ tables_1, d.before a0 Z = true) (ws : List Jvm.Cond) (ob : Addr) (nn : Int32) (nN : Nat) (r0 : Int64) (j0 : Int64) (rN : Nat) (jN : Nat) (o0_ : Int64) (o1_ : Int64) (o2_ : Int64) (o3_ : Int64) (o4_ : Int64) (o5_ : Int64) (h0 : Heap) (n0 : Nat) (Z0 : n0 ≤ h0.size) (pE_ob : Exa Z h0 ob "com/example/goldweave/goldweave/server/cli/LoadSummary") (pF_records_ob : Fld Z h0 ob "com/example/goldweave/goldweave/server/cli/LoadSummary" "records" "J" (.long r0)) (pF_rejected_ob : Fld Z h0 ob "com/example/goldweave/goldweave/server/cli/LoadSummary" "rejected" "J" (.long j0)) (pF_created_ob : Fld Z h0 ob "com/example/goldweave/goldweave/server/cli/LoadSummary" "created" "J" (.long o0_)) (pF_updated_ob : Fld Z h0 ob "com/example/goldweave/goldweave/server/cli/LoadSummary" "updated" "J" (.long o1_)) (pF_unchanged_ob : Fld Z h0 ob "com/example/goldweave/goldweave/server/cli/LoadSummary" "unchanged" "J" (.long o2_)) (pF_linked_ob : Fld Z h0 ob "com/example/goldweave/goldweave/server/cli/LoadSummary" "linked" "J" (.long o3_)) (pF_newMasters_ob : Fld Z h0 ob "com/example/goldweave/goldweave/server/cli/LoadSummary" "newMasters" "J" (.long o4_)) (pF_candidates_ob : Fld Z h0 ob "com/example/goldweave/goldweave/server/cli/LoadSummary" "candidates" "J" (.long o5_)) (pG_ob : n0 ≤ ob) (hn : (nn.toInt = (nN : Int))) (hn3 : (nN ≤ 3)) (hrr : (r0.toInt = (rN : Int))) (hjj : (j0.toInt = (jN : Int))) (hrb : (rN ≤ 100)) (hjb : (jN ≤ 100)) :
    MetFree l own_y31 (head1 (Jvm.Cond.code own_y31 method_3_code 2 none :: ws) ({ frames := 1, cells := 0, slots := 0, locals := 12 } : Room)) (fun a U => a = #[(.ref ob), (.int nn)] ∧ Z.Warmed39 U.vm ∧ U.heap = h0) (fun _ _ _ _ _ => True) (fun _ U o U' => ∃ v L, o = .returned v ∧ Q_rmRt Z ob nn nN r0 j0 rN jN o0_ o1_ o2_ o3_ o4_ o5_ h0 n0 v U'.heap L ∧ FrameEnd U o U' L ({ frames := 1, cells := 0, slots := 0, locals := 12 } : Room).cells ({ frames := 1, cells := 0, slots := 0, locals := 12 } : Room).slots) := by
  refine MetFree.of_bodySF (plainFor_of_name pn_4) hisR ?_
  intro p e s m args below meth c s₁ Bd hml0 hP hK
  obtain ⟨rfl, hZ, hh⟩ := hP
  have hx := Bd.exec
  have hby := Bd.bytes
  have hml : c.maxLocals = 2 := hml0
  have hown : s.vm.findClass "com/example/goldweave/goldweave/server/cli/LoadSummaryRejectPinLaw" = some m.cls := findClass_of_methodNamed Bd.named
  have hnm := (name_of_methodNamed Bd.named Bd.method).1
  have X0 : Stand p l e ({ frames := 1, cells := 0, slots := 0, locals := 12 } : Room) s m #[(.ref ob), (.int nn)] below meth c s₁ [] 0 0 := Stand.of_body Bd
  have e0 : s₁.heap = h0 := by rw [← hh, Bd.state]; rfl
  have N0 := Fr.nil n0
  refine own_enter (ef_rmRt m ob nn) ?_
  rcases own_four hn hn3 with hA | hA | hA | hA
  · skip
    refine own_st (fun t_ k_ => XS.iloadN X0.here hx rfl (hb hby d4_0) rfl (XS.iconst X0.here hx rfl (hb hby d4_1) (XS.icmpYes X0.here hx rfl (pc0 := 2) (pc' := 9) rfl (hb hby d4_2) rfl (tlt (show nn < (1 : Int32) from (by rw [hA.1] <;> decide))).1 (by decide) (by decide) (XS.iloadN X0.here hx rfl (hb hby d4_9) rfl (XS.iconst X0.here hx rfl (hb hby d4_10) (XS.icmpYes X0.here hx rfl (pc0 := 11) (pc' := 18) rfl (hb hby d4_11) rfl (tlt (show nn < (2 : Int32) from (by rw [hA.1] <;> decide))).1 (by decide) (by decide) (XS.iloadN X0.here hx rfl (hb hby d4_18) rfl (XS.iconst X0.here hx rfl (hb hby d4_19) (XS.icmpYes X0.here hx rfl (pc0 := 20) (pc' := 27) rfl (hb hby d4_20) rfl (tlt (show nn < (3 : Int32) from (by rw [hA.1] <;> decide))).1 (by decide) (by decide) k_))))))))) ?_
    show own_Go p e below s₁ (mkF m 27 #[.val (.ref ob), .val (.int nn)] []) _
    obtain ⟨fs, hr, hrun, hended, hW, hsame⟩ := X0.leave (v := none) (fun _ => rfl)
    refine own_fin (X0.returnOut hx Bd.returns (hb hby d4_27) hr) ⟨hrun, hended, _, _, rfl, ?_, ⟨_, rfl⟩, hW, hsame.mono (by decide) (by decide)⟩
    show Q_rmRt Z ob nn nN r0 j0 rN jN o0_ o1_ o2_ o3_ o4_ o5_ h0 n0 _ s₁.heap _
    rw [e0]
    exact ⟨r0, j0, rfl, N0, (Keep.refl h0 [ob]), pE_ob, pF_records_ob, pF_rejected_ob, (by rw [hA.2]; exact hrr), (by rw [hA.2]; exact hjj), pF_created_ob, pF_updated_ob, pF_unchanged_ob, pF_linked_ob, pF_newMasters_ob, pF_candidates_ob⟩
  · skip
    refine own_st (fun t_ k_ => XS.iloadN X0.here hx rfl (hb hby d4_0) rfl (XS.iconst X0.here hx rfl (hb hby d4_1) (XS.icmpNo X0.here hx rfl (hb hby d4_2) rfl (flt (show ¬ (nn < (1 : Int32)) from (by rw [hA.1] <;> decide))).1 (XS.aloadN X0.here hx rfl (hb hby d4_5) rfl rfl k_)))) ?_
    show own_Go p e below s₁ (mkF m 6 #[.val (.ref ob), .val (.int nn)] [(.ref ob)]) _
    obtain ⟨cq1, kq1, qa1, qb1, qc1⟩ := isOf hZ e0 pE_ob
    obtain ⟨_, _, ⟨T1, L1, k1, n1⟩, -, X1, ⟨Lc1, hQ1, l1, y1, z1⟩, st1⟩ := X0.virtualBack hx (y := own_y30) (z := own_y30) hown (mvT hZ (own_w hw 287 rfl)) (mvT hZ (own_w hw 288 rfl)) (notFace_of_selects (args := #[]) (mvT hZ (own_w hw 290 rfl))) (mvT hZ (own_w hw 290 rfl)) (mvT hZ (own_w hw 289 rfl)) (by decide) (backOf (W := 0) (rmRj l Z a0 hw [] ob r0 j0 rN jN o0_ o1_ o2_ o3_ o4_ o5_ h0 n0 Z0 pE_ob pF_records_ob pF_rejected_ob pF_created_ob pF_updated_ob pF_unchanged_ob pF_linked_ob pF_newMasters_ob pF_candidates_ob pG_ob hrr hjj (by omega) (by omega)) hZ (own_w hw 291 rfl) (own_w hw 7 rfl) (by decide) (by decide)) qa1 qc1 (g := (mkF m 6 #[.val (.ref ob), .val (.int nn)] [(.ref ob)])) rfl (by rw [hml]; rfl) (Steps.refl _) (argsL := []) (rest := []) (lenOf pd___V rfl) rfl (by show 2 * 0 + _ ≤ _; exact Nat.le_of_eq rfl) (hb hby d4_6) (fun _ _ => ⟨rfl, e0, (by decide : 0 + 0 ≤ _), (by decide : 0 + 0 ≤ _)⟩)
    dsimp only [Pt.U, Pt.locs, Pt.cells, Pt.slots] at X1 l1 y1 z1 st1 hQ1
    try dsimp only [Nat.reduceAdd] at y1 z1
    rw [l1, y1, z1] at X1
    obtain ⟨r1_1, j1_1, rfl, Nq1, Kq1, q1_0, q1_1, q1_2, q1_3, q1_4, q1_5, q1_6, q1_7, q1_8, q1_9, q1_10⟩ := hQ1
    have N1 := Fr.app N0 Nq1
    have K2 : Keep h0 T1.heap [ob] := (Keep.refl h0 [ob]).trans Kq1 (allS (Or.inl (List.mem_of_getElem? (i := 0) rfl)) all0)
    refine own_tr st1 ?_
    refine own_st (fun t_ k_ => XS.iloadN X1.here hx rfl (hb hby d4_9) rfl (XS.iconst X1.here hx rfl (hb hby d4_10) (XS.icmpYes X1.here hx rfl (pc0 := 11) (pc' := 18) rfl (hb hby d4_11) rfl (tlt (show nn < (2 : Int32) from (by rw [hA.1] <;> decide))).1 (by decide) (by decide) (XS.iloadN X1.here hx rfl (hb hby d4_18) rfl (XS.iconst X1.here hx rfl (hb hby d4_19) (XS.icmpYes X1.here hx rfl (pc0 := 20) (pc' := 27) rfl (hb hby d4_20) rfl (tlt (show nn < (3 : Int32) from (by rw [hA.1] <;> decide))).1 (by decide) (by decide) k_)))))) ?_
    show own_Go p e below T1 (mkF m 27 #[.val (.ref ob), .val (.int nn)] []) _
    obtain ⟨fs, hr, hrun, hended, hW, hsame⟩ := X1.leave (v := none) (fun _ => rfl)
    refine own_fin (X1.returnOut hx Bd.returns (hb hby d4_27) hr) ⟨hrun, hended, _, _, rfl, ?_, ⟨_, rfl⟩, hW, hsame.mono (by decide) (by decide)⟩
    show Q_rmRt Z ob nn nN r0 j0 rN jN o0_ o1_ o2_ o3_ o4_ o5_ h0 n0 _ T1.heap _
    exact ⟨r1_1, j1_1, rfl, N1, K2, q1_0, q1_1, q1_2, (by rw [hA.2]; exact q1_9), (by rw [hA.2]; exact q1_10), q1_3, q1_4, q1_5, q1_6, q1_7, q1_8⟩
  · skip
    refine own_st (fun t_ k_ => XS.iloadN X0.here hx rfl (hb hby d4_0) rfl (XS.iconst X0.here hx rfl (hb hby d4_1) (XS.icmpNo X0.here hx rfl (hb hby d4_2) rfl (flt (show ¬ (nn < (1 : Int32)) from (by rw [hA.1] <;> decide))).1 (XS.aloadN X0.here hx rfl (hb hby d4_5) rfl rfl k_)))) ?_
    show own_Go p e below s₁ (mkF m 6 #[.val (.ref ob), .val (.int nn)] [(.ref ob)]) _
    obtain ⟨cq3, kq3, qa3, qb3, qc3⟩ := isOf hZ e0 pE_ob
    obtain ⟨_, _, ⟨T3, L3, k3, n3⟩, -, X3, ⟨Lc3, hQ3, l3, y3, z3⟩, st3⟩ := X0.virtualBack hx (y := own_y30) (z := own_y30) hown (mvT hZ (own_w hw 287 rfl)) (mvT hZ (own_w hw 288 rfl)) (notFace_of_selects (args := #[]) (mvT hZ (own_w hw 290 rfl))) (mvT hZ (own_w hw 290 rfl)) (mvT hZ (own_w hw 289 rfl)) (by decide) (backOf (W := 0) (rmRj l Z a0 hw [] ob r0 j0 rN jN o0_ o1_ o2_ o3_ o4_ o5_ h0 n0 Z0 pE_ob pF_records_ob pF_rejected_ob pF_created_ob pF_updated_ob pF_unchanged_ob pF_linked_ob pF_newMasters_ob pF_candidates_ob pG_ob hrr hjj (by omega) (by omega)) hZ (own_w hw 291 rfl) (own_w hw 7 rfl) (by decide) (by decide)) qa3 qc3 (g := (mkF m 6 #[.val (.ref ob), .val (.int nn)] [(.ref ob)])) rfl (by rw [hml]; rfl) (Steps.refl _) (argsL := []) (rest := []) (lenOf pd___V rfl) rfl (by show 2 * 0 + _ ≤ _; exact Nat.le_of_eq rfl) (hb hby d4_6) (fun _ _ => ⟨rfl, e0, (by decide : 0 + 0 ≤ _), (by decide : 0 + 0 ≤ _)⟩)
    dsimp only [Pt.U, Pt.locs, Pt.cells, Pt.slots] at X3 l3 y3 z3 st3 hQ3
    try dsimp only [Nat.reduceAdd] at y3 z3
    rw [l3, y3, z3] at X3
    obtain ⟨r1_3, j1_3, rfl, Nq3, Kq3, q3_0, q3_1, q3_2, q3_3, q3_4, q3_5, q3_6, q3_7, q3_8, q3_9, q3_10⟩ := hQ3
    have N3 := Fr.app N0 Nq3
    have K4 : Keep h0 T3.heap [ob] := (Keep.refl h0 [ob]).trans Kq3 (allS (Or.inl (List.mem_of_getElem? (i := 0) rfl)) all0)
    refine own_tr st3 ?_
    refine own_st (fun t_ k_ => XS.iloadN X3.here hx rfl (hb hby d4_9) rfl (XS.iconst X3.here hx rfl (hb hby d4_10) (XS.icmpNo X3.here hx rfl (hb hby d4_11) rfl (flt (show ¬ (nn < (2 : Int32)) from (by rw [hA.1] <;> decide))).1 (XS.aloadN X3.here hx rfl (hb hby d4_14) rfl rfl k_)))) ?_
    show own_Go p e below T3 (mkF m 15 #[.val (.ref ob), .val (.int nn)] [(.ref ob)]) _
    have f5 := (Nat.le_trans Z0 Kq3.1)
    obtain ⟨cq6, kq6, qa6, qb6, qc6⟩ := isOf hZ rfl q3_0
    obtain ⟨_, _, ⟨T6, L6, k6, n6⟩, -, X6, ⟨Lc6, hQ6, l6, y6, z6⟩, st6⟩ := X3.virtualBack hx (y := own_y30) (z := own_y30) hown (mvT hZ (own_w hw 287 rfl)) (mvT hZ (own_w hw 288 rfl)) (notFace_of_selects (args := #[]) (mvT hZ (own_w hw 290 rfl))) (mvT hZ (own_w hw 290 rfl)) (mvT hZ (own_w hw 289 rfl)) (by decide) (backOf (W := 0) (rmRj l Z a0 hw [] ob r1_3 j1_3 ((rN + 1)) ((jN + 1)) o0_ o1_ o2_ o3_ o4_ o5_ T3.heap n0 f5 q3_0 q3_1 q3_2 q3_3 q3_4 q3_5 q3_6 q3_7 q3_8 pG_ob q3_9 q3_10 (by omega) (by omega)) hZ (own_w hw 291 rfl) (own_w hw 7 rfl) (by decide) (by decide)) qa6 qc6 (g := (mkF m 15 #[.val (.ref ob), .val (.int nn)] [(.ref ob)])) rfl (by rw [hml]; rfl) (Steps.refl _) (argsL := []) (rest := []) (lenOf pd___V rfl) rfl (by show 2 * 0 + _ ≤ _; exact Nat.le_of_eq rfl) (hb hby d4_15) (fun _ _ => ⟨rfl, rfl, (by decide : 0 + 0 ≤ _), (by decide : 0 + 0 ≤ _)⟩)
    dsimp only [Pt.U, Pt.locs, Pt.cells, Pt.slots] at X6 l6 y6 z6 st6 hQ6
    try dsimp only [Nat.reduceAdd] at y6 z6
    rw [l6, y6, z6] at X6
    obtain ⟨r1_6, j1_6, rfl, Nq6, Kq6, q6_0, q6_1, q6_2, q6_3, q6_4, q6_5, q6_6, q6_7, q6_8, q6_9, q6_10⟩ := hQ6
    have N6 := Fr.app N3 Nq6
    have K7 : Keep h0 T6.heap [ob] := K4.trans Kq6 (allS (Or.inl (List.mem_of_getElem? (i := 0) rfl)) all0)
    refine own_tr st6 ?_
    refine own_st (fun t_ k_ => XS.iloadN X6.here hx rfl (hb hby d4_18) rfl (XS.iconst X6.here hx rfl (hb hby d4_19) (XS.icmpYes X6.here hx rfl (pc0 := 20) (pc' := 27) rfl (hb hby d4_20) rfl (tlt (show nn < (3 : Int32) from (by rw [hA.1] <;> decide))).1 (by decide) (by decide) k_))) ?_
    obtain ⟨fs, hr, hrun, hended, hW, hsame⟩ := X6.leave (v := none) (fun _ => rfl)
    refine own_fin (X6.returnOut hx Bd.returns (hb hby d4_27) hr) ⟨hrun, hended, _, _, rfl, ?_, ⟨_, rfl⟩, hW, hsame.mono (by decide) (by decide)⟩
    show Q_rmRt Z ob nn nN r0 j0 rN jN o0_ o1_ o2_ o3_ o4_ o5_ h0 n0 _ T6.heap _
    exact ⟨r1_6, j1_6, rfl, N6, K7, q6_0, q6_1, q6_2, (by rw [hA.2]; exact q6_9), (by rw [hA.2]; exact q6_10), q6_3, q6_4, q6_5, q6_6, q6_7, q6_8⟩
  · skip
    refine own_st (fun t_ k_ => XS.iloadN X0.here hx rfl (hb hby d4_0) rfl (XS.iconst X0.here hx rfl (hb hby d4_1) (XS.icmpNo X0.here hx rfl (hb hby d4_2) rfl (flt (show ¬ (nn < (1 : Int32)) from (by rw [hA.1] <;> decide))).1 (XS.aloadN X0.here hx rfl (hb hby d4_5) rfl rfl k_)))) ?_
    show own_Go p e below s₁ (mkF m 6 #[.val (.ref ob), .val (.int nn)] [(.ref ob)]) _
    obtain ⟨cq8, kq8, qa8, qb8, qc8⟩ := isOf hZ e0 pE_ob
    obtain ⟨_, _, ⟨T8, L8, k8, n8⟩, -, X8, ⟨Lc8, hQ8, l8, y8, z8⟩, st8⟩ := X0.virtualBack hx (y := own_y30) (z := own_y30) hown (mvT hZ (own_w hw 287 rfl)) (mvT hZ (own_w hw 288 rfl)) (notFace_of_selects (args := #[]) (mvT hZ (own_w hw 290 rfl))) (mvT hZ (own_w hw 290 rfl)) (mvT hZ (own_w hw 289 rfl)) (by decide) (backOf (W := 0) (rmRj l Z a0 hw [] ob r0 j0 rN jN o0_ o1_ o2_ o3_ o4_ o5_ h0 n0 Z0 pE_ob pF_records_ob pF_rejected_ob pF_created_ob pF_updated_ob pF_unchanged_ob pF_linked_ob pF_newMasters_ob pF_candidates_ob pG_ob hrr hjj (by omega) (by omega)) hZ (own_w hw 291 rfl) (own_w hw 7 rfl) (by decide) (by decide)) qa8 qc8 (g := (mkF m 6 #[.val (.ref ob), .val (.int nn)] [(.ref ob)])) rfl (by rw [hml]; rfl) (Steps.refl _) (argsL := []) (rest := []) (lenOf pd___V rfl) rfl (by show 2 * 0 + _ ≤ _; exact Nat.le_of_eq rfl) (hb hby d4_6) (fun _ _ => ⟨rfl, e0, (by decide : 0 + 0 ≤ _), (by decide : 0 + 0 ≤ _)⟩)
    dsimp only [Pt.U, Pt.locs, Pt.cells, Pt.slots] at X8 l8 y8 z8 st8 hQ8
    try dsimp only [Nat.reduceAdd] at y8 z8
    rw [l8, y8, z8] at X8
    obtain ⟨r1_8, j1_8, rfl, Nq8, Kq8, q8_0, q8_1, q8_2, q8_3, q8_4, q8_5, q8_6, q8_7, q8_8, q8_9, q8_10⟩ := hQ8
    have N8 := Fr.app N0 Nq8
    have K9 : Keep h0 T8.heap [ob] := (Keep.refl h0 [ob]).trans Kq8 (allS (Or.inl (List.mem_of_getElem? (i := 0) rfl)) all0)
    refine own_tr st8 ?_
    refine own_st (fun t_ k_ => XS.iloadN X8.here hx rfl (hb hby d4_9) rfl (XS.iconst X8.here hx rfl (hb hby d4_10) (XS.icmpNo X8.here hx rfl (hb hby d4_11) rfl (flt (show ¬ (nn < (2 : Int32)) from (by rw [hA.1] <;> decide))).1 (XS.aloadN X8.here hx rfl (hb hby d4_14) rfl rfl k_)))) ?_
    show own_Go p e below T8 (mkF m 15 #[.val (.ref ob), .val (.int nn)] [(.ref ob)]) _
    have f10 := (Nat.le_trans Z0 Kq8.1)
    obtain ⟨cq11, kq11, qa11, qb11, qc11⟩ := isOf hZ rfl q8_0
    obtain ⟨_, _, ⟨T11, L11, k11, n11⟩, -, X11, ⟨Lc11, hQ11, l11, y11, z11⟩, st11⟩ := X8.virtualBack hx (y := own_y30) (z := own_y30) hown (mvT hZ (own_w hw 287 rfl)) (mvT hZ (own_w hw 288 rfl)) (notFace_of_selects (args := #[]) (mvT hZ (own_w hw 290 rfl))) (mvT hZ (own_w hw 290 rfl)) (mvT hZ (own_w hw 289 rfl)) (by decide) (backOf (W := 0) (rmRj l Z a0 hw [] ob r1_8 j1_8 ((rN + 1)) ((jN + 1)) o0_ o1_ o2_ o3_ o4_ o5_ T8.heap n0 f10 q8_0 q8_1 q8_2 q8_3 q8_4 q8_5 q8_6 q8_7 q8_8 pG_ob q8_9 q8_10 (by omega) (by omega)) hZ (own_w hw 291 rfl) (own_w hw 7 rfl) (by decide) (by decide)) qa11 qc11 (g := (mkF m 15 #[.val (.ref ob), .val (.int nn)] [(.ref ob)])) rfl (by rw [hml]; rfl) (Steps.refl _) (argsL := []) (rest := []) (lenOf pd___V rfl) rfl (by show 2 * 0 + _ ≤ _; exact Nat.le_of_eq rfl) (hb hby d4_15) (fun _ _ => ⟨rfl, rfl, (by decide : 0 + 0 ≤ _), (by decide : 0 + 0 ≤ _)⟩)
    dsimp only [Pt.U, Pt.locs, Pt.cells, Pt.slots] at X11 l11 y11 z11 st11 hQ11
    try dsimp only [Nat.reduceAdd] at y11 z11
    rw [l11, y11, z11] at X11
    obtain ⟨r1_11, j1_11, rfl, Nq11, Kq11, q11_0, q11_1, q11_2, q11_3, q11_4, q11_5, q11_6, q11_7, q11_8, q11_9, q11_10⟩ := hQ11
    have N11 := Fr.app N8 Nq11
    have K12 : Keep h0 T11.heap [ob] := K9.trans Kq11 (allS (Or.inl (List.mem_of_getElem? (i := 0) rfl)) all0)
    refine own_tr st11 ?_
    refine own_st (fun t_ k_ => XS.iloadN X11.here hx rfl (hb hby d4_18) rfl (XS.iconst X11.here hx rfl (hb hby d4_19) (XS.icmpNo X11.here hx rfl (hb hby d4_20) rfl (flt (show ¬ (nn < (3 : Int32)) from (by rw [hA.1] <;> decide))).1 (XS.aloadN X11.here hx rfl (hb hby d4_23) rfl rfl k_)))) ?_
    show own_Go p e below T11 (mkF m 24 #[.val (.ref ob), .val (.int nn)] [(.ref ob)]) _
    have f13 := (Nat.le_trans f10 Kq11.1)
    obtain ⟨cq14, kq14, qa14, qb14, qc14⟩ := isOf hZ rfl q11_0
    obtain ⟨_, _, ⟨T14, L14, k14, n14⟩, -, X14, ⟨Lc14, hQ14, l14, y14, z14⟩, st14⟩ := X11.virtualBack hx (y := own_y30) (z := own_y30) hown (mvT hZ (own_w hw 287 rfl)) (mvT hZ (own_w hw 288 rfl)) (notFace_of_selects (args := #[]) (mvT hZ (own_w hw 290 rfl))) (mvT hZ (own_w hw 290 rfl)) (mvT hZ (own_w hw 289 rfl)) (by decide) (backOf (W := 0) (rmRj l Z a0 hw [] ob r1_11 j1_11 (((rN + 1) + 1)) (((jN + 1) + 1)) o0_ o1_ o2_ o3_ o4_ o5_ T11.heap n0 f13 q11_0 q11_1 q11_2 q11_3 q11_4 q11_5 q11_6 q11_7 q11_8 pG_ob q11_9 q11_10 (by omega) (by omega)) hZ (own_w hw 291 rfl) (own_w hw 7 rfl) (by decide) (by decide)) qa14 qc14 (g := (mkF m 24 #[.val (.ref ob), .val (.int nn)] [(.ref ob)])) rfl (by rw [hml]; rfl) (Steps.refl _) (argsL := []) (rest := []) (lenOf pd___V rfl) rfl (by show 2 * 0 + _ ≤ _; exact Nat.le_of_eq rfl) (hb hby d4_24) (fun _ _ => ⟨rfl, rfl, (by decide : 0 + 0 ≤ _), (by decide : 0 + 0 ≤ _)⟩)
    dsimp only [Pt.U, Pt.locs, Pt.cells, Pt.slots] at X14 l14 y14 z14 st14 hQ14
    try dsimp only [Nat.reduceAdd] at y14 z14
    rw [l14, y14, z14] at X14
    obtain ⟨r1_14, j1_14, rfl, Nq14, Kq14, q14_0, q14_1, q14_2, q14_3, q14_4, q14_5, q14_6, q14_7, q14_8, q14_9, q14_10⟩ := hQ14
    have N14 := Fr.app N11 Nq14
    have K15 : Keep h0 T14.heap [ob] := K12.trans Kq14 (allS (Or.inl (List.mem_of_getElem? (i := 0) rfl)) all0)
    refine own_tr st14 ?_
    obtain ⟨fs, hr, hrun, hended, hW, hsame⟩ := X14.leave (v := none) (fun _ => rfl)
    refine own_fin (X14.returnOut hx Bd.returns (hb hby d4_27) hr) ⟨hrun, hended, _, _, rfl, ?_, ⟨_, rfl⟩, hW, hsame.mono (by decide) (by decide)⟩
    show Q_rmRt Z ob nn nN r0 j0 rN jN o0_ o1_ o2_ o3_ o4_ o5_ h0 n0 _ T14.heap _
    exact ⟨r1_14, j1_14, rfl, N14, K15, q14_0, q14_1, q14_2, (by rw [hA.2]; exact q14_9), (by rw [hA.2]; exact q14_10), q14_3, q14_4, q14_5, q14_6, q14_7, q14_8⟩
abbrev own_y32 : MethodName := ⟨"java/lang/Record", "<init>", "()V"⟩
abbrev own_c6 : ByteArray := jdk_30_method_1_code
theorem d6_0 : decode own_c6 0 = .ok (.aload_n 0, 1) := by decide +kernel
theorem d6_1 : decode own_c6 1 = .ok (.invokespecial 1, 3) := by decide +kernel
theorem d6_4 : decode own_c6 4 = .ok (.return_, 1) := by decide +kernel
theorem pn_6 : plainName "java/lang/Record" = true := by first | (simp [plainName, overriddenIn]; done) | decide +kernel
theorem ef_rmRc (m : MethodId) (x0 : Addr) : entryFrame m #[(.ref x0)] 1 = mkF m 0 #[.val (.ref x0)] [] := by first | (simp [entryFrame, mkF, argsToLocals, Value.category]; done) | rfl
def Q_rmRc (Z : State) (a1 : Addr) (h0 : Heap) (n0 : Nat) (v : Option Value) (h : Heap) (L : List Loc) : Prop := v = none ∧ Fr n0 L ∧ h = h0
set_option maxRecDepth 65536 in
set_option maxHeartbeats 40000000 in
theorem rmRc (l : Launch) (Z : State) (a0 : Array Value) (hw : ∀ d ∈ tables_1, d.before a0 Z = true) (ws : List Jvm.Cond) (a1 : Addr) (h0 : Heap) (n0 : Nat) (Z0 : n0 ≤ h0.size) :
    MetFree l own_y32 (head1 (Jvm.Cond.code own_y32 jdk_30_method_1_code 1 none :: ws) ({ frames := 1, cells := 0, slots := 0, locals := 12 } : Room)) (fun a U => a = #[(.ref a1)] ∧ Z.Warmed39 U.vm ∧ U.heap = h0) (fun _ _ _ _ _ => True) (fun _ U o U' => ∃ v L, o = .returned v ∧ Q_rmRc Z a1 h0 n0 v U'.heap L ∧ FrameEnd U o U' L ({ frames := 1, cells := 0, slots := 0, locals := 12 } : Room).cells ({ frames := 1, cells := 0, slots := 0, locals := 12 } : Room).slots) := by
  refine MetFree.of_bodySF (plainFor_of_name pn_6) hisR ?_
  intro p e s m args below meth c s₁ Bd hml0 hP hK
  obtain ⟨rfl, hZ, hh⟩ := hP
  have hx := Bd.exec
  have hby := Bd.bytes
  have hml : c.maxLocals = 1 := hml0
  have hown : s.vm.findClass "java/lang/Record" = some m.cls := findClass_of_methodNamed Bd.named
  have hnm := (name_of_methodNamed Bd.named Bd.method).1
  have X0 : Stand p l e ({ frames := 1, cells := 0, slots := 0, locals := 12 } : Room) s m #[(.ref a1)] below meth c s₁ [] 0 0 := Stand.of_body Bd
  have e0 : s₁.heap = h0 := by rw [← hh, Bd.state]; rfl
  have N0 := Fr.nil n0
  refine own_enter (ef_rmRc m a1) ?_
  refine own_st (fun t_ k_ => XS.aloadN X0.here hx rfl (hb hby d6_0) rfl rfl k_) ?_
  obtain ⟨T1, X1, e1, st1⟩ := initO X0 hx hZ hown (own_w hw 40 rfl) (own_w hw 12 rfl) (own_w hw 13 rfl) e0 (g := (mkF m 1 #[.val (.ref a1)] [(.ref a1)])) rfl (by rw [hml]; rfl) rfl (hb hby d6_1) (by decide) (W := 0) (by show 2 * 0 + _ ≤ _; exact Nat.le_of_eq rfl) (by decide)
  refine own_st st1 ?_
  obtain ⟨fs, hr, hrun, hended, hW, hsame⟩ := X1.leave (v := none) (fun _ => rfl)
  refine own_fin (X1.returnOut hx Bd.returns (hb hby d6_4) hr) ⟨hrun, hended, _, _, rfl, ?_, ⟨_, rfl⟩, hW, hsame.mono (by decide) (by decide)⟩
  show Q_rmRc Z a1 h0 n0 _ T1.heap _
  rw [e1]
  exact ⟨rfl, N0, rfl⟩
abbrev own_y33 : MethodName := ⟨"com/example/goldweave/goldweave/engine/linking/Registration", "<init>", "(Ljava/lang/String;Lcom/example/goldweave/goldweave/engine/linking/Registration$Change;ZI)V"⟩
abbrev own_c5 : ByteArray := prog_38_method_1_code
theorem d5_0 : decode own_c5 0 = .ok (.aload_n 0, 1) := by decide +kernel
theorem d5_1 : decode own_c5 1 = .ok (.invokespecial 1, 3) := by decide +kernel
theorem d5_4 : decode own_c5 4 = .ok (.aload_n 0, 1) := by decide +kernel
theorem d5_5 : decode own_c5 5 = .ok (.aload_n 1, 1) := by decide +kernel
theorem d5_6 : decode own_c5 6 = .ok (.putfield 7, 3) := by decide +kernel
theorem d5_9 : decode own_c5 9 = .ok (.aload_n 0, 1) := by decide +kernel
theorem d5_10 : decode own_c5 10 = .ok (.aload_n 2, 1) := by decide +kernel
theorem d5_11 : decode own_c5 11 = .ok (.putfield 13, 3) := by decide +kernel
theorem d5_14 : decode own_c5 14 = .ok (.aload_n 0, 1) := by decide +kernel
theorem d5_15 : decode own_c5 15 = .ok (.iload_n 3, 1) := by decide +kernel
theorem d5_16 : decode own_c5 16 = .ok (.putfield 17, 3) := by decide +kernel
theorem d5_19 : decode own_c5 19 = .ok (.aload_n 0, 1) := by decide +kernel
theorem d5_20 : decode own_c5 20 = .ok (.iload 4, 2) := by decide +kernel
theorem d5_22 : decode own_c5 22 = .ok (.putfield 21, 3) := by decide +kernel
theorem d5_25 : decode own_c5 25 = .ok (.return_, 1) := by decide +kernel
theorem pn_5 : plainName "com/example/goldweave/goldweave/engine/linking/Registration" = true := by first | (simp [plainName, overriddenIn]; done) | decide +kernel
theorem ef_rmRi0 (m : MethodId) (x0 : Addr) (x1 : Addr) (x2 : Addr) (x3 : Int32) (x4 : Int32) : entryFrame m #[(.ref x0), (.ref x1), (.ref x2), (.int x3), (.int x4)] 5 = mkF m 0 #[.val (.ref x0), .val (.ref x1), .val (.ref x2), .val (.int x3), .val (.int x4)] [] := by first | (simp [entryFrame, mkF, argsToLocals, Value.category]; done) | rfl
def Q_rmRi0 (Z : State) (a1 : Addr) (x1 : Addr) (x2 : Addr) (cn : Int32) (u1 : Value) (u2 : Value) (u3 : Value) (u4 : Value) (h0 : Heap) (n0 : Nat) (v : Option Value) (h : Heap) (L : List Loc) : Prop := v = none ∧ Fr n0 L ∧ Keep h0 h [a1] ∧ Exa Z h a1 "com/example/goldweave/goldweave/engine/linking/Registration" ∧ Fld Z h a1 "com/example/goldweave/goldweave/engine/linking/Registration" "localId" "Ljava/lang/String;" (.ref x1) ∧ Fld Z h a1 "com/example/goldweave/goldweave/engine/linking/Registration" "change" "Lcom/example/goldweave/goldweave/engine/linking/Registration$Change;" (.ref x2) ∧ Fld Z h a1 "com/example/goldweave/goldweave/engine/linking/Registration" "newGoldenRecord" "Z" (.int (0 : Int32)) ∧ Fld Z h a1 "com/example/goldweave/goldweave/engine/linking/Registration" "candidateLinks" "I" (.int cn)
set_option maxRecDepth 65536 in
set_option maxHeartbeats 40000000 in
theorem rmRi0 (l : Launch) (Z : State) (a0 : Array Value) (hw : ∀ d ∈ tables_1, d.before a0 Z = true) (ws : List Jvm.Cond) (a1 : Addr) (x1 : Addr) (x2 : Addr) (cn : Int32) (u1 : Value) (u2 : Value) (u3 : Value) (u4 : Value) (h0 : Heap) (n0 : Nat) (Z0 : n0 ≤ h0.size) (pE_a1 : Exa Z h0 a1 "com/example/goldweave/goldweave/engine/linking/Registration") (pF_localId_a1 : Fld Z h0 a1 "com/example/goldweave/goldweave/engine/linking/Registration" "localId" "Ljava/lang/String;" u1) (pF_change_a1 : Fld Z h0 a1 "com/example/goldweave/goldweave/engine/linking/Registration" "change" "Lcom/example/goldweave/goldweave/engine/linking/Registration$Change;" u2) (pF_newGoldenRecord_a1 : Fld Z h0 a1 "com/example/goldweave/goldweave/engine/linking/Registration" "newGoldenRecord" "Z" u3) (pF_candidateLinks_a1 : Fld Z h0 a1 "com/example/goldweave/goldweave/engine/linking/Registration" "candidateLinks" "I" u4) (pG_a1 : n0 ≤ a1) :
    MetFree l own_y33 (head1 (Jvm.Cond.code own_y33 prog_38_method_1_code 5 none :: ws) ({ frames := 2, cells := 0, slots := 0, locals := 24 } : Room)) (fun a U => a = #[(.ref a1), (.ref x1), (.ref x2), (.int (0 : Int32)), (.int cn)] ∧ Z.Warmed39 U.vm ∧ U.heap = h0) (fun _ _ _ _ _ => True) (fun _ U o U' => ∃ v L, o = .returned v ∧ Q_rmRi0 Z a1 x1 x2 cn u1 u2 u3 u4 h0 n0 v U'.heap L ∧ FrameEnd U o U' L ({ frames := 2, cells := 0, slots := 0, locals := 24 } : Room).cells ({ frames := 2, cells := 0, slots := 0, locals := 24 } : Room).slots) := by
  refine MetFree.of_bodySF (plainFor_of_name pn_5) hisR ?_
  intro p e s m args below meth c s₁ Bd hml0 hP hK
  obtain ⟨rfl, hZ, hh⟩ := hP
  have hx := Bd.exec
  have hby := Bd.bytes
  have hml : c.maxLocals = 5 := hml0
  have hown : s.vm.findClass "com/example/goldweave/goldweave/engine/linking/Registration" = some m.cls := findClass_of_methodNamed Bd.named
  have hnm := (name_of_methodNamed Bd.named Bd.method).1
  have X0 : Stand p l e ({ frames := 2, cells := 0, slots := 0, locals := 24 } : Room) s m #[(.ref a1), (.ref x1), (.ref x2), (.int (0 : Int32)), (.int cn)] below meth c s₁ [] 0 0 := Stand.of_body Bd
  have e0 : s₁.heap = h0 := by rw [← hh, Bd.state]; rfl
  have N0 := Fr.nil n0
  refine own_enter (ef_rmRi0 m a1 x1 x2 ((0 : Int32)) cn) ?_
  refine own_st (fun t_ k_ => XS.aloadN X0.here hx rfl (hb hby d5_0) rfl rfl k_) ?_
  obtain ⟨_, _, ⟨T1, L1, k1, n1⟩, -, X1, ⟨Lc1, hQ1, l1, y1, z1⟩, st1⟩ := X0.specialBack hx (y := own_y32) rfl hown (mvT hZ (own_w hw 35 rfl)) (mvT hZ (own_w hw 36 rfl)) (mvT hZ (own_w hw 39 rfl)) (by decide) (backOf (W := 0) (rmRc l Z a0 hw [] a1 h0 n0 Z0 ) hZ (own_w hw 39 rfl) (own_w hw 38 rfl) (by decide) (by decide)) (g := (mkF m 1 #[.val (.ref a1), .val (.ref x1), .val (.ref x2), .val (.int (0 : Int32)), .val (.int cn)] [(.ref a1)])) rfl (by rw [hml]; rfl) (Steps.refl _) (a := a1) (argsL := []) (rest := []) (lenOf pd___V rfl) rfl (by show 2 * 0 + _ ≤ _; exact Nat.le_of_eq rfl) (hb hby d5_1) (fun _ _ => ⟨rfl, e0, (by decide : 0 + 0 ≤ _), (by decide : 0 + 0 ≤ _)⟩)
  dsimp only [Pt.U, Pt.locs, Pt.cells, Pt.slots] at X1 l1 y1 z1 st1 hQ1
  try dsimp only [Nat.reduceAdd] at y1 z1
  rw [l1, y1, z1] at X1
  obtain ⟨rfl, Nq1, eH1⟩ := hQ1
  have N1 := Fr.app N0 Nq1
  refine own_tr st1 ?_
  refine own_st (fun t_ k_ => XS.aloadN X1.here hx rfl (hb hby d5_4) rfl rfl (XS.aloadN X1.here hx rfl (hb hby d5_5) rfl rfl k_)) ?_
  obtain ⟨T2, h2, X2, e2, W2, st2⟩ := putF X1 hx hZ hown (host := "") (Or.inl (own_w hw 41 rfl)) Via.refl eH1 pF_localId_a1 pE_a1 (Or.inr ⟨(own_w hw 42 rfl), rfl, hnm⟩) (own_w hw 22 rfl) (ty := (.object "java/lang/String")) (by decide) rfl rfl (g := (mkF m 6 #[.val (.ref a1), .val (.ref x1), .val (.ref x2), .val (.int (0 : Int32)), .val (.int cn)] [(.ref x1), (.ref a1)])) rfl rfl (hb hby d5_6)
  have F2 := pF_localId_a1.same W2
  have K3 : Keep h0 h2 [a1] := (Keep.refl h0 [a1]).wr W2 (Or.inl (List.mem_of_getElem? (i := 0) rfl))
  have N2 := Fr.snoc X2 N1 pG_a1
  refine own_st st2 ?_
  refine own_st (fun t_ k_ => XS.aloadN X2.here hx rfl (hb hby d5_9) rfl rfl (XS.aloadN X2.here hx rfl (hb hby d5_10) rfl rfl k_)) ?_
  have f4 := (pE_a1.wr W2)
  have f5 := (pF_change_a1.other W2 (Or.inr (slot_ne (Or.inr (own_w hw 44 rfl)) (Or.inr (own_w hw 42 rfl)) (by decide) (t := (.object "com/example/goldweave/goldweave/engine/linking/Registration$Change")) (t' := (.object "java/lang/String")) (by decide) (by decide))))
  obtain ⟨T6, h6, X6, e6, W6, st6⟩ := putF X2 hx hZ hown (host := "") (Or.inl (own_w hw 43 rfl)) Via.refl e2 f5 f4 (Or.inr ⟨(own_w hw 44 rfl), rfl, hnm⟩) (own_w hw 22 rfl) (ty := (.object "com/example/goldweave/goldweave/engine/linking/Registration$Change")) (by decide) rfl rfl (g := (mkF m 11 #[.val (.ref a1), .val (.ref x1), .val (.ref x2), .val (.int (0 : Int32)), .val (.int cn)] [(.ref x2), (.ref a1)])) rfl rfl (hb hby d5_11)
  have F6 := f5.same W6
  have K7 : Keep h0 h6 [a1] := K3.wr W6 (Or.inl (List.mem_of_getElem? (i := 0) rfl))
  have N6 := Fr.snoc X6 N2 pG_a1
  refine own_st st6 ?_
  refine own_st (fun t_ k_ => XS.aloadN X6.here hx rfl (hb hby d5_14) rfl rfl (XS.iloadN X6.here hx rfl (hb hby d5_15) rfl k_)) ?_
  have f8 := (f4.wr W6)
  have f9 := ((pF_newGoldenRecord_a1.other W2 (Or.inr (slot_ne (Or.inr (own_w hw 46 rfl)) (Or.inr (own_w hw 42 rfl)) (by decide) (t := .boolean) (t' := (.object "java/lang/String")) (by decide) (by decide)))).other W6 (Or.inr (slot_ne (Or.inr (own_w hw 46 rfl)) (Or.inr (own_w hw 44 rfl)) (by decide) (t := .boolean) (t' := (.object "com/example/goldweave/goldweave/engine/linking/Registration$Change")) (by decide) (by decide))))
  obtain ⟨T10, h10, X10, e10, W10, st10⟩ := putFN X6 hx hZ hown (own_w hw 45 rfl) Via.refl e6 f9 f8 (Or.inr ⟨(own_w hw 46 rfl), rfl, hnm⟩) (own_w hw 22 rfl) (ty := .boolean) (v' := (.int (0 : Int32))) (by decide) rfl (by decide) (g := (mkF m 16 #[.val (.ref a1), .val (.ref x1), .val (.ref x2), .val (.int (0 : Int32)), .val (.int cn)] [(.int (0 : Int32)), (.ref a1)])) rfl rfl (hb hby d5_16)
  have F10 := f9.same W10
  have K11 : Keep h0 h10 [a1] := K7.wr W10 (Or.inl (List.mem_of_getElem? (i := 0) rfl))
  have N10 := Fr.snoc X10 N6 pG_a1
  refine own_st st10 ?_
  refine own_st (fun t_ k_ => XS.aloadN X10.here hx rfl (hb hby d5_19) rfl rfl (XS.iload X10.here hx rfl (hb hby d5_20) rfl k_)) ?_
  have f12 := (f8.wr W10)
  have f13 := (((pF_candidateLinks_a1.other W2 (Or.inr (slot_ne (Or.inr (own_w hw 48 rfl)) (Or.inr (own_w hw 42 rfl)) (by decide) (t := .int) (t' := (.object "java/lang/String")) (by decide) (by decide)))).other W6 (Or.inr (slot_ne (Or.inr (own_w hw 48 rfl)) (Or.inr (own_w hw 44 rfl)) (by decide) (t := .int) (t' := (.object "com/example/goldweave/goldweave/engine/linking/Registration$Change")) (by decide) (by decide)))).other W10 (Or.inr (slot_ne (Or.inr (own_w hw 48 rfl)) (Or.inr (own_w hw 46 rfl)) (by decide) (t := .int) (t' := .boolean) (by decide) (by decide))))
  obtain ⟨T14, h14, X14, e14, W14, st14⟩ := putF X10 hx hZ hown (host := "") (Or.inl (own_w hw 47 rfl)) Via.refl e10 f13 f12 (Or.inr ⟨(own_w hw 48 rfl), rfl, hnm⟩) (own_w hw 22 rfl) (ty := .int) (by decide) rfl rfl (g := (mkF m 22 #[.val (.ref a1), .val (.ref x1), .val (.ref x2), .val (.int (0 : Int32)), .val (.int cn)] [(.int cn), (.ref a1)])) rfl rfl (hb hby d5_22)
  have F14 := f13.same W14
  have K15 : Keep h0 h14 [a1] := K11.wr W14 (Or.inl (List.mem_of_getElem? (i := 0) rfl))
  have N14 := Fr.snoc X14 N10 pG_a1
  refine own_st st14 ?_
  have f16 := (f12.wr W14)
  have f17 := (((F2.other W6 (Or.inr (slot_ne (Or.inr (own_w hw 42 rfl)) (Or.inr (own_w hw 44 rfl)) (by decide) (t := (.object "java/lang/String")) (t' := (.object "com/example/goldweave/goldweave/engine/linking/Registration$Change")) (by decide) (by decide)))).other W10 (Or.inr (slot_ne (Or.inr (own_w hw 42 rfl)) (Or.inr (own_w hw 46 rfl)) (by decide) (t := (.object "java/lang/String")) (t' := .boolean) (by decide) (by decide)))).other W14 (Or.inr (slot_ne (Or.inr (own_w hw 42 rfl)) (Or.inr (own_w hw 48 rfl)) (by decide) (t := (.object "java/lang/String")) (t' := .int) (by decide) (by decide))))
  have f18 := ((F6.other W10 (Or.inr (slot_ne (Or.inr (own_w hw 44 rfl)) (Or.inr (own_w hw 46 rfl)) (by decide) (t := (.object "com/example/goldweave/goldweave/engine/linking/Registration$Change")) (t' := .boolean) (by decide) (by decide)))).other W14 (Or.inr (slot_ne (Or.inr (own_w hw 44 rfl)) (Or.inr (own_w hw 48 rfl)) (by decide) (t := (.object "com/example/goldweave/goldweave/engine/linking/Registration$Change")) (t' := .int) (by decide) (by decide))))
  have f19 := (F10.other W14 (Or.inr (slot_ne (Or.inr (own_w hw 46 rfl)) (Or.inr (own_w hw 48 rfl)) (by decide) (t := .boolean) (t' := .int) (by decide) (by decide))))
  obtain ⟨fs, hr, hrun, hended, hW, hsame⟩ := X14.leave (v := none) (fun _ => rfl)
  refine own_fin (X14.returnOut hx Bd.returns (hb hby d5_25) hr) ⟨hrun, hended, _, _, rfl, ?_, ⟨_, rfl⟩, hW, hsame.mono (by decide) (by decide)⟩
  show Q_rmRi0 Z a1 x1 x2 cn u1 u2 u3 u4 h0 n0 _ T14.heap _
  rw [e14]
  exact ⟨rfl, N14, K15, f16, f17, f18, f19, F14⟩
theorem ef_rmRi1 (m : MethodId) (x0 : Addr) (x1 : Addr) (x2 : Addr) (x3 : Int32) (x4 : Int32) : entryFrame m #[(.ref x0), (.ref x1), (.ref x2), (.int x3), (.int x4)] 5 = mkF m 0 #[.val (.ref x0), .val (.ref x1), .val (.ref x2), .val (.int x3), .val (.int x4)] [] := by first | (simp [entryFrame, mkF, argsToLocals, Value.category]; done) | rfl
def Q_rmRi1 (Z : State) (a1 : Addr) (x1 : Addr) (x2 : Addr) (cn : Int32) (u1 : Value) (u2 : Value) (u3 : Value) (u4 : Value) (h0 : Heap) (n0 : Nat) (v : Option Value) (h : Heap) (L : List Loc) : Prop := v = none ∧ Fr n0 L ∧ Keep h0 h [a1] ∧ Exa Z h a1 "com/example/goldweave/goldweave/engine/linking/Registration" ∧ Fld Z h a1 "com/example/goldweave/goldweave/engine/linking/Registration" "localId" "Ljava/lang/String;" (.ref x1) ∧ Fld Z h a1 "com/example/goldweave/goldweave/engine/linking/Registration" "change" "Lcom/example/goldweave/goldweave/engine/linking/Registration$Change;" (.ref x2) ∧ Fld Z h a1 "com/example/goldweave/goldweave/engine/linking/Registration" "newGoldenRecord" "Z" (.int (1 : Int32)) ∧ Fld Z h a1 "com/example/goldweave/goldweave/engine/linking/Registration" "candidateLinks" "I" (.int cn)
set_option maxRecDepth 65536 in
set_option maxHeartbeats 40000000 in
theorem rmRi1 (l : Launch) (Z : State) (a0 : Array Value) (hw : ∀ d ∈ tables_1, d.before a0 Z = true) (ws : List Jvm.Cond) (a1 : Addr) (x1 : Addr) (x2 : Addr) (cn : Int32) (u1 : Value) (u2 : Value) (u3 : Value) (u4 : Value) (h0 : Heap) (n0 : Nat) (Z0 : n0 ≤ h0.size) (pE_a1 : Exa Z h0 a1 "com/example/goldweave/goldweave/engine/linking/Registration") (pF_localId_a1 : Fld Z h0 a1 "com/example/goldweave/goldweave/engine/linking/Registration" "localId" "Ljava/lang/String;" u1) (pF_change_a1 : Fld Z h0 a1 "com/example/goldweave/goldweave/engine/linking/Registration" "change" "Lcom/example/goldweave/goldweave/engine/linking/Registration$Change;" u2) (pF_newGoldenRecord_a1 : Fld Z h0 a1 "com/example/goldweave/goldweave/engine/linking/Registration" "newGoldenRecord" "Z" u3) (pF_candidateLinks_a1 : Fld Z h0 a1 "com/example/goldweave/goldweave/engine/linking/Registration" "candidateLinks" "I" u4) (pG_a1 : n0 ≤ a1) :
    MetFree l own_y33 (head1 (Jvm.Cond.code own_y33 prog_38_method_1_code 5 none :: ws) ({ frames := 2, cells := 0, slots := 0, locals := 24 } : Room)) (fun a U => a = #[(.ref a1), (.ref x1), (.ref x2), (.int (1 : Int32)), (.int cn)] ∧ Z.Warmed39 U.vm ∧ U.heap = h0) (fun _ _ _ _ _ => True) (fun _ U o U' => ∃ v L, o = .returned v ∧ Q_rmRi1 Z a1 x1 x2 cn u1 u2 u3 u4 h0 n0 v U'.heap L ∧ FrameEnd U o U' L ({ frames := 2, cells := 0, slots := 0, locals := 24 } : Room).cells ({ frames := 2, cells := 0, slots := 0, locals := 24 } : Room).slots) := by
  refine MetFree.of_bodySF (plainFor_of_name pn_5) hisR ?_
  intro p e s m args below meth c s₁ Bd hml0 hP hK
  obtain ⟨rfl, hZ, hh⟩ := hP
  have hx := Bd.exec
  have hby := Bd.bytes
  have hml : c.maxLocals = 5 := hml0
  have hown : s.vm.findClass "com/example/goldweave/goldweave/engine/linking/Registration" = some m.cls := findClass_of_methodNamed Bd.named
  have hnm := (name_of_methodNamed Bd.named Bd.method).1
  have X0 : Stand p l e ({ frames := 2, cells := 0, slots := 0, locals := 24 } : Room) s m #[(.ref a1), (.ref x1), (.ref x2), (.int (1 : Int32)), (.int cn)] below meth c s₁ [] 0 0 := Stand.of_body Bd
  have e0 : s₁.heap = h0 := by rw [← hh, Bd.state]; rfl
  have N0 := Fr.nil n0
  refine own_enter (ef_rmRi1 m a1 x1 x2 ((1 : Int32)) cn) ?_
  refine own_st (fun t_ k_ => XS.aloadN X0.here hx rfl (hb hby d5_0) rfl rfl k_) ?_
  obtain ⟨_, _, ⟨T1, L1, k1, n1⟩, -, X1, ⟨Lc1, hQ1, l1, y1, z1⟩, st1⟩ := X0.specialBack hx (y := own_y32) rfl hown (mvT hZ (own_w hw 35 rfl)) (mvT hZ (own_w hw 36 rfl)) (mvT hZ (own_w hw 39 rfl)) (by decide) (backOf (W := 0) (rmRc l Z a0 hw [] a1 h0 n0 Z0 ) hZ (own_w hw 39 rfl) (own_w hw 38 rfl) (by decide) (by decide)) (g := (mkF m 1 #[.val (.ref a1), .val (.ref x1), .val (.ref x2), .val (.int (1 : Int32)), .val (.int cn)] [(.ref a1)])) rfl (by rw [hml]; rfl) (Steps.refl _) (a := a1) (argsL := []) (rest := []) (lenOf pd___V rfl) rfl (by show 2 * 0 + _ ≤ _; exact Nat.le_of_eq rfl) (hb hby d5_1) (fun _ _ => ⟨rfl, e0, (by decide : 0 + 0 ≤ _), (by decide : 0 + 0 ≤ _)⟩)
  dsimp only [Pt.U, Pt.locs, Pt.cells, Pt.slots] at X1 l1 y1 z1 st1 hQ1
  try dsimp only [Nat.reduceAdd] at y1 z1
  rw [l1, y1, z1] at X1
  obtain ⟨rfl, Nq1, eH1⟩ := hQ1
  have N1 := Fr.app N0 Nq1
  refine own_tr st1 ?_
  refine own_st (fun t_ k_ => XS.aloadN X1.here hx rfl (hb hby d5_4) rfl rfl (XS.aloadN X1.here hx rfl (hb hby d5_5) rfl rfl k_)) ?_
  obtain ⟨T2, h2, X2, e2, W2, st2⟩ := putF X1 hx hZ hown (host := "") (Or.inl (own_w hw 41 rfl)) Via.refl eH1 pF_localId_a1 pE_a1 (Or.inr ⟨(own_w hw 42 rfl), rfl, hnm⟩) (own_w hw 22 rfl) (ty := (.object "java/lang/String")) (by decide) rfl rfl (g := (mkF m 6 #[.val (.ref a1), .val (.ref x1), .val (.ref x2), .val (.int (1 : Int32)), .val (.int cn)] [(.ref x1), (.ref a1)])) rfl rfl (hb hby d5_6)
  have F2 := pF_localId_a1.same W2
  have K3 : Keep h0 h2 [a1] := (Keep.refl h0 [a1]).wr W2 (Or.inl (List.mem_of_getElem? (i := 0) rfl))
  have N2 := Fr.snoc X2 N1 pG_a1
  refine own_st st2 ?_
  refine own_st (fun t_ k_ => XS.aloadN X2.here hx rfl (hb hby d5_9) rfl rfl (XS.aloadN X2.here hx rfl (hb hby d5_10) rfl rfl k_)) ?_
  have f4 := (pE_a1.wr W2)
  have f5 := (pF_change_a1.other W2 (Or.inr (slot_ne (Or.inr (own_w hw 44 rfl)) (Or.inr (own_w hw 42 rfl)) (by decide) (t := (.object "com/example/goldweave/goldweave/engine/linking/Registration$Change")) (t' := (.object "java/lang/String")) (by decide) (by decide))))
  obtain ⟨T6, h6, X6, e6, W6, st6⟩ := putF X2 hx hZ hown (host := "") (Or.inl (own_w hw 43 rfl)) Via.refl e2 f5 f4 (Or.inr ⟨(own_w hw 44 rfl), rfl, hnm⟩) (own_w hw 22 rfl) (ty := (.object "com/example/goldweave/goldweave/engine/linking/Registration$Change")) (by decide) rfl rfl (g := (mkF m 11 #[.val (.ref a1), .val (.ref x1), .val (.ref x2), .val (.int (1 : Int32)), .val (.int cn)] [(.ref x2), (.ref a1)])) rfl rfl (hb hby d5_11)
  have F6 := f5.same W6
  have K7 : Keep h0 h6 [a1] := K3.wr W6 (Or.inl (List.mem_of_getElem? (i := 0) rfl))
  have N6 := Fr.snoc X6 N2 pG_a1
  refine own_st st6 ?_
  refine own_st (fun t_ k_ => XS.aloadN X6.here hx rfl (hb hby d5_14) rfl rfl (XS.iloadN X6.here hx rfl (hb hby d5_15) rfl k_)) ?_
  have f8 := (f4.wr W6)
  have f9 := ((pF_newGoldenRecord_a1.other W2 (Or.inr (slot_ne (Or.inr (own_w hw 46 rfl)) (Or.inr (own_w hw 42 rfl)) (by decide) (t := .boolean) (t' := (.object "java/lang/String")) (by decide) (by decide)))).other W6 (Or.inr (slot_ne (Or.inr (own_w hw 46 rfl)) (Or.inr (own_w hw 44 rfl)) (by decide) (t := .boolean) (t' := (.object "com/example/goldweave/goldweave/engine/linking/Registration$Change")) (by decide) (by decide))))
  obtain ⟨T10, h10, X10, e10, W10, st10⟩ := putFN X6 hx hZ hown (own_w hw 45 rfl) Via.refl e6 f9 f8 (Or.inr ⟨(own_w hw 46 rfl), rfl, hnm⟩) (own_w hw 22 rfl) (ty := .boolean) (v' := (.int (1 : Int32))) (by decide) rfl (by decide) (g := (mkF m 16 #[.val (.ref a1), .val (.ref x1), .val (.ref x2), .val (.int (1 : Int32)), .val (.int cn)] [(.int (1 : Int32)), (.ref a1)])) rfl rfl (hb hby d5_16)
  have F10 := f9.same W10
  have K11 : Keep h0 h10 [a1] := K7.wr W10 (Or.inl (List.mem_of_getElem? (i := 0) rfl))
  have N10 := Fr.snoc X10 N6 pG_a1
  refine own_st st10 ?_
  refine own_st (fun t_ k_ => XS.aloadN X10.here hx rfl (hb hby d5_19) rfl rfl (XS.iload X10.here hx rfl (hb hby d5_20) rfl k_)) ?_
  have f12 := (f8.wr W10)
  have f13 := (((pF_candidateLinks_a1.other W2 (Or.inr (slot_ne (Or.inr (own_w hw 48 rfl)) (Or.inr (own_w hw 42 rfl)) (by decide) (t := .int) (t' := (.object "java/lang/String")) (by decide) (by decide)))).other W6 (Or.inr (slot_ne (Or.inr (own_w hw 48 rfl)) (Or.inr (own_w hw 44 rfl)) (by decide) (t := .int) (t' := (.object "com/example/goldweave/goldweave/engine/linking/Registration$Change")) (by decide) (by decide)))).other W10 (Or.inr (slot_ne (Or.inr (own_w hw 48 rfl)) (Or.inr (own_w hw 46 rfl)) (by decide) (t := .int) (t' := .boolean) (by decide) (by decide))))
  obtain ⟨T14, h14, X14, e14, W14, st14⟩ := putF X10 hx hZ hown (host := "") (Or.inl (own_w hw 47 rfl)) Via.refl e10 f13 f12 (Or.inr ⟨(own_w hw 48 rfl), rfl, hnm⟩) (own_w hw 22 rfl) (ty := .int) (by decide) rfl rfl (g := (mkF m 22 #[.val (.ref a1), .val (.ref x1), .val (.ref x2), .val (.int (1 : Int32)), .val (.int cn)] [(.int cn), (.ref a1)])) rfl rfl (hb hby d5_22)
  have F14 := f13.same W14
  have K15 : Keep h0 h14 [a1] := K11.wr W14 (Or.inl (List.mem_of_getElem? (i := 0) rfl))
  have N14 := Fr.snoc X14 N10 pG_a1
  refine own_st st14 ?_
  have f16 := (f12.wr W14)
  have f17 := (((F2.other W6 (Or.inr (slot_ne (Or.inr (own_w hw 42 rfl)) (Or.inr (own_w hw 44 rfl)) (by decide) (t := (.object "java/lang/String")) (t' := (.object "com/example/goldweave/goldweave/engine/linking/Registration$Change")) (by decide) (by decide)))).other W10 (Or.inr (slot_ne (Or.inr (own_w hw 42 rfl)) (Or.inr (own_w hw 46 rfl)) (by decide) (t := (.object "java/lang/String")) (t' := .boolean) (by decide) (by decide)))).other W14 (Or.inr (slot_ne (Or.inr (own_w hw 42 rfl)) (Or.inr (own_w hw 48 rfl)) (by decide) (t := (.object "java/lang/String")) (t' := .int) (by decide) (by decide))))
  have f18 := ((F6.other W10 (Or.inr (slot_ne (Or.inr (own_w hw 44 rfl)) (Or.inr (own_w hw 46 rfl)) (by decide) (t := (.object "com/example/goldweave/goldweave/engine/linking/Registration$Change")) (t' := .boolean) (by decide) (by decide)))).other W14 (Or.inr (slot_ne (Or.inr (own_w hw 44 rfl)) (Or.inr (own_w hw 48 rfl)) (by decide) (t := (.object "com/example/goldweave/goldweave/engine/linking/Registration$Change")) (t' := .int) (by decide) (by decide))))
  have f19 := (F10.other W14 (Or.inr (slot_ne (Or.inr (own_w hw 46 rfl)) (Or.inr (own_w hw 48 rfl)) (by decide) (t := .boolean) (t' := .int) (by decide) (by decide))))
  obtain ⟨fs, hr, hrun, hended, hW, hsame⟩ := X14.leave (v := none) (fun _ => rfl)
  refine own_fin (X14.returnOut hx Bd.returns (hb hby d5_25) hr) ⟨hrun, hended, _, _, rfl, ?_, ⟨_, rfl⟩, hW, hsame.mono (by decide) (by decide)⟩
  show Q_rmRi1 Z a1 x1 x2 cn u1 u2 u3 u4 h0 n0 _ T14.heap _
  rw [e14]
  exact ⟨rfl, N14, K15, f16, f17, f18, f19, F14⟩
abbrev own_y34 : MethodName := ⟨"com/example/goldweave/goldweave/engine/linking/Registration", "candidateLinks", "()I"⟩
abbrev own_c8 : ByteArray := prog_38_method_8_code
theorem d8_0 : decode own_c8 0 = .ok (.aload_n 0, 1) := by decide +kernel
theorem d8_1 : decode own_c8 1 = .ok (.getfield 21, 3) := by decide +kernel
theorem d8_4 : decode own_c8 4 = .ok (.ireturn, 1) := by decide +kernel
theorem pn_8 : plainName "com/example/goldweave/goldweave/engine/linking/Registration" = true := by first | (simp [plainName, overriddenIn]; done) | decide +kernel
theorem ef_rmAcc (m : MethodId) (x0 : Addr) : entryFrame m #[(.ref x0)] 1 = mkF m 0 #[.val (.ref x0)] [] := by first | (simp [entryFrame, mkF, argsToLocals, Value.category]; done) | rfl
def Q_rmAcc (Z : State) (o1 : Addr) (cn : Int32) (h0 : Heap) (n0 : Nat) (v : Option Value) (h : Heap) (L : List Loc) : Prop := v = some (.int cn) ∧ Fr n0 L ∧ h = h0
set_option maxRecDepth 65536 in
set_option maxHeartbeats 40000000 in
theorem rmAcc (l : Launch) (Z : State) (a0 : Array Value) (hw : ∀ d ∈ tables_1, d.before a0 Z = true) (ws : List Jvm.Cond) (o1 : Addr) (cn : Int32) (h0 : Heap) (n0 : Nat) (Z0 : n0 ≤ h0.size) (pE_o1 : Exa Z h0 o1 "com/example/goldweave/goldweave/engine/linking/Registration") (pF_candidateLinks_o1 : Fld Z h0 o1 "com/example/goldweave/goldweave/engine/linking/Registration" "candidateLinks" "I" (.int cn)) :
    MetFree l own_y34 (head1 (Jvm.Cond.code own_y34 prog_38_method_8_code 1 (some .int) :: ws) ({ frames := 0, cells := 0, slots := 0, locals := 0 } : Room)) (fun a U => a = #[(.ref o1)] ∧ Z.Warmed39 U.vm ∧ U.heap = h0) (fun _ _ _ _ _ => True) (fun _ U o U' => ∃ v L, o = .returned v ∧ Q_rmAcc Z o1 cn h0 n0 v U'.heap L ∧ FrameEnd U o U' L ({ frames := 0, cells := 0, slots := 0, locals := 0 } : Room).cells ({ frames := 0, cells := 0, slots := 0, locals := 0 } : Room).slots) := by
  refine MetFree.of_bodySF (plainFor_of_name pn_8) hisR ?_
  intro p e s m args below meth c s₁ Bd hml0 hP hK
  obtain ⟨rfl, hZ, hh⟩ := hP
  have hx := Bd.exec
  have hby := Bd.bytes
  have hml : c.maxLocals = 1 := hml0
  have hown : s.vm.findClass "com/example/goldweave/goldweave/engine/linking/Registration" = some m.cls := findClass_of_methodNamed Bd.named
  have hnm := (name_of_methodNamed Bd.named Bd.method).1
  have X0 : Stand p l e ({ frames := 0, cells := 0, slots := 0, locals := 0 } : Room) s m #[(.ref o1)] below meth c s₁ [] 0 0 := Stand.of_body Bd
  have e0 : s₁.heap = h0 := by rw [← hh, Bd.state]; rfl
  have N0 := Fr.nil n0
  refine own_enter (ef_rmAcc m o1) ?_
  refine own_st (fun t_ k_ => XS.aloadN X0.here hx rfl (hb hby d8_0) rfl rfl k_) ?_
  obtain ⟨T1, X1, e1, st1⟩ := getF X0 hx hZ hown (host := "") (Or.inl (own_w hw 47 rfl)) Via.refl e0 pF_candidateLinks_o1 (g := (mkF m 1 #[.val (.ref o1)] [(.ref o1)])) rfl rfl (hb hby d8_1)
  refine own_st st1 ?_
  obtain ⟨fs, hr, hrun, hended, hW, hsame⟩ := X1.leave (v := some (.int cn)) (fun h => by rw [Bd.returns] at h; cases h)
  refine own_fin (own_retI X1 hx Bd.returns (hb hby d8_4) hr) ⟨hrun, hended, _, _, rfl, ?_, ⟨_, rfl⟩, hW, hsame.mono (by decide) (by decide)⟩
  show Q_rmAcc Z o1 cn h0 n0 _ T1.heap _
  rw [e1]
  exact ⟨rfl, N0, rfl⟩
abbrev own_y35 : MethodName := ⟨"com/example/goldweave/goldweave/engine/linking/Registration", "change", "()Lcom/example/goldweave/goldweave/engine/linking/Registration$Change;"⟩
abbrev own_c9 : ByteArray := prog_38_method_6_code
theorem d9_0 : decode own_c9 0 = .ok (.aload_n 0, 1) := by decide +kernel
theorem d9_1 : decode own_c9 1 = .ok (.getfield 13, 3) := by decide +kernel
theorem d9_4 : decode own_c9 4 = .ok (.areturn, 1) := by decide +kernel
theorem pn_9 : plainName "com/example/goldweave/goldweave/engine/linking/Registration" = true := by first | (simp [plainName, overriddenIn]; done) | decide +kernel
theorem ef_rmAch (m : MethodId) (x0 : Addr) : entryFrame m #[(.ref x0)] 1 = mkF m 0 #[.val (.ref x0)] [] := by first | (simp [entryFrame, mkF, argsToLocals, Value.category]; done) | rfl
def Q_rmAch (Z : State) (o1 : Addr) (ch : Addr) (h0 : Heap) (n0 : Nat) (v : Option Value) (h : Heap) (L : List Loc) : Prop := v = some (.ref ch) ∧ Fr n0 L ∧ h = h0
set_option maxRecDepth 65536 in
set_option maxHeartbeats 40000000 in
theorem rmAch (l : Launch) (Z : State) (a0 : Array Value) (hw : ∀ d ∈ tables_1, d.before a0 Z = true) (ws : List Jvm.Cond) (o1 : Addr) (ch : Addr) (h0 : Heap) (n0 : Nat) (Z0 : n0 ≤ h0.size) (pE_o1 : Exa Z h0 o1 "com/example/goldweave/goldweave/engine/linking/Registration") (pF_change_o1 : Fld Z h0 o1 "com/example/goldweave/goldweave/engine/linking/Registration" "change" "Lcom/example/goldweave/goldweave/engine/linking/Registration$Change;" (.ref ch)) :
    MetFree l own_y35 (head1 (Jvm.Cond.code own_y35 prog_38_method_6_code 1 (some (.object "com/example/goldweave/goldweave/engine/linking/Registration$Change")) :: ws) ({ frames := 0, cells := 0, slots := 0, locals := 0 } : Room)) (fun a U => a = #[(.ref o1)] ∧ Z.Warmed39 U.vm ∧ U.heap = h0) (fun _ _ _ _ _ => True) (fun _ U o U' => ∃ v L, o = .returned v ∧ Q_rmAch Z o1 ch h0 n0 v U'.heap L ∧ FrameEnd U o U' L ({ frames := 0, cells := 0, slots := 0, locals := 0 } : Room).cells ({ frames := 0, cells := 0, slots := 0, locals := 0 } : Room).slots) := by
  refine MetFree.of_bodySF (plainFor_of_name pn_9) hisR ?_
  intro p e s m args below meth c s₁ Bd hml0 hP hK
  obtain ⟨rfl, hZ, hh⟩ := hP
  have hx := Bd.exec
  have hby := Bd.bytes
  have hml : c.maxLocals = 1 := hml0
  have hown : s.vm.findClass "com/example/goldweave/goldweave/engine/linking/Registration" = some m.cls := findClass_of_methodNamed Bd.named
  have hnm := (name_of_methodNamed Bd.named Bd.method).1
  have X0 : Stand p l e ({ frames := 0, cells := 0, slots := 0, locals := 0 } : Room) s m #[(.ref o1)] below meth c s₁ [] 0 0 := Stand.of_body Bd
  have e0 : s₁.heap = h0 := by rw [← hh, Bd.state]; rfl
  have N0 := Fr.nil n0
  refine own_enter (ef_rmAch m o1) ?_
  refine own_st (fun t_ k_ => XS.aloadN X0.here hx rfl (hb hby d9_0) rfl rfl k_) ?_
  obtain ⟨T1, X1, e1, st1⟩ := getF X0 hx hZ hown (host := "") (Or.inl (own_w hw 43 rfl)) Via.refl e0 pF_change_o1 (g := (mkF m 1 #[.val (.ref o1)] [(.ref o1)])) rfl rfl (hb hby d9_1)
  refine own_st st1 ?_
  obtain ⟨fs, hr, hrun, hended, hW, hsame⟩ := X1.leave (v := some (.ref ch)) (fun h => by rw [Bd.returns] at h; cases h)
  refine own_fin (own_retR X1 hx rfl Bd.returns rfl (hb hby d9_4) hr) ⟨hrun, hended, _, _, rfl, ?_, ⟨_, rfl⟩, hW, hsame.mono (by decide) (by decide)⟩
  show Q_rmAch Z o1 ch h0 n0 _ T1.heap _
  rw [e1]
  exact ⟨rfl, N0, rfl⟩
abbrev own_y36 : MethodName := ⟨"com/example/goldweave/goldweave/engine/linking/Registration", "newGoldenRecord", "()Z"⟩
abbrev own_c10 : ByteArray := prog_38_method_7_code
theorem d10_0 : decode own_c10 0 = .ok (.aload_n 0, 1) := by decide +kernel
theorem d10_1 : decode own_c10 1 = .ok (.getfield 17, 3) := by decide +kernel
theorem d10_4 : decode own_c10 4 = .ok (.ireturn, 1) := by decide +kernel
theorem pn_10 : plainName "com/example/goldweave/goldweave/engine/linking/Registration" = true := by first | (simp [plainName, overriddenIn]; done) | decide +kernel
theorem ef_rmAg0 (m : MethodId) (x0 : Addr) : entryFrame m #[(.ref x0)] 1 = mkF m 0 #[.val (.ref x0)] [] := by first | (simp [entryFrame, mkF, argsToLocals, Value.category]; done) | rfl
def Q_rmAg0 (Z : State) (o1 : Addr) (h0 : Heap) (n0 : Nat) (v : Option Value) (h : Heap) (L : List Loc) : Prop := v = some (.int (0 : Int32)) ∧ Fr n0 L ∧ h = h0
set_option maxRecDepth 65536 in
set_option maxHeartbeats 40000000 in
theorem rmAg0 (l : Launch) (Z : State) (a0 : Array Value) (hw : ∀ d ∈ tables_1, d.before a0 Z = true) (ws : List Jvm.Cond) (o1 : Addr) (h0 : Heap) (n0 : Nat) (Z0 : n0 ≤ h0.size) (pE_o1 : Exa Z h0 o1 "com/example/goldweave/goldweave/engine/linking/Registration") (pF_newGoldenRecord_o1 : Fld Z h0 o1 "com/example/goldweave/goldweave/engine/linking/Registration" "newGoldenRecord" "Z" (.int (0 : Int32))) :
    MetFree l own_y36 (head1 (Jvm.Cond.code own_y36 prog_38_method_7_code 1 (some .boolean) :: ws) ({ frames := 0, cells := 0, slots := 0, locals := 0 } : Room)) (fun a U => a = #[(.ref o1)] ∧ Z.Warmed39 U.vm ∧ U.heap = h0) (fun _ _ _ _ _ => True) (fun _ U o U' => ∃ v L, o = .returned v ∧ Q_rmAg0 Z o1 h0 n0 v U'.heap L ∧ FrameEnd U o U' L ({ frames := 0, cells := 0, slots := 0, locals := 0 } : Room).cells ({ frames := 0, cells := 0, slots := 0, locals := 0 } : Room).slots) := by
  refine MetFree.of_bodySF (plainFor_of_name pn_10) hisR ?_
  intro p e s m args below meth c s₁ Bd hml0 hP hK
  obtain ⟨rfl, hZ, hh⟩ := hP
  have hx := Bd.exec
  have hby := Bd.bytes
  have hml : c.maxLocals = 1 := hml0
  have hown : s.vm.findClass "com/example/goldweave/goldweave/engine/linking/Registration" = some m.cls := findClass_of_methodNamed Bd.named
  have hnm := (name_of_methodNamed Bd.named Bd.method).1
  have X0 : Stand p l e ({ frames := 0, cells := 0, slots := 0, locals := 0 } : Room) s m #[(.ref o1)] below meth c s₁ [] 0 0 := Stand.of_body Bd
  have e0 : s₁.heap = h0 := by rw [← hh, Bd.state]; rfl
  have N0 := Fr.nil n0
  refine own_enter (ef_rmAg0 m o1) ?_
  refine own_st (fun t_ k_ => XS.aloadN X0.here hx rfl (hb hby d10_0) rfl rfl k_) ?_
  obtain ⟨T1, X1, e1, st1⟩ := getF X0 hx hZ hown (host := "") (Or.inl (own_w hw 45 rfl)) Via.refl e0 pF_newGoldenRecord_o1 (g := (mkF m 1 #[.val (.ref o1)] [(.ref o1)])) rfl rfl (hb hby d10_1)
  refine own_st st1 ?_
  obtain ⟨fs, hr, hrun, hended, hW, hsame⟩ := X1.leave (v := some (.int (0 : Int32))) (fun h => by rw [Bd.returns] at h; cases h)
  refine own_fin (retN X1 hx (t := .boolean) Bd.returns (by simp) (hb hby d10_4) hr) ⟨hrun, hended, _, _, rfl, ?_, ⟨_, rfl⟩, hW, hsame.mono (by decide) (by decide)⟩
  show Q_rmAg0 Z o1 h0 n0 _ T1.heap _
  rw [e1]
  exact ⟨rfl, N0, rfl⟩
theorem ef_rmAg1 (m : MethodId) (x0 : Addr) : entryFrame m #[(.ref x0)] 1 = mkF m 0 #[.val (.ref x0)] [] := by first | (simp [entryFrame, mkF, argsToLocals, Value.category]; done) | rfl
def Q_rmAg1 (Z : State) (o1 : Addr) (h0 : Heap) (n0 : Nat) (v : Option Value) (h : Heap) (L : List Loc) : Prop := v = some (.int (1 : Int32)) ∧ Fr n0 L ∧ h = h0
set_option maxRecDepth 65536 in
set_option maxHeartbeats 40000000 in
theorem rmAg1 (l : Launch) (Z : State) (a0 : Array Value) (hw : ∀ d ∈ tables_1, d.before a0 Z = true) (ws : List Jvm.Cond) (o1 : Addr) (h0 : Heap) (n0 : Nat) (Z0 : n0 ≤ h0.size) (pE_o1 : Exa Z h0 o1 "com/example/goldweave/goldweave/engine/linking/Registration") (pF_newGoldenRecord_o1 : Fld Z h0 o1 "com/example/goldweave/goldweave/engine/linking/Registration" "newGoldenRecord" "Z" (.int (1 : Int32))) :
    MetFree l own_y36 (head1 (Jvm.Cond.code own_y36 prog_38_method_7_code 1 (some .boolean) :: ws) ({ frames := 0, cells := 0, slots := 0, locals := 0 } : Room)) (fun a U => a = #[(.ref o1)] ∧ Z.Warmed39 U.vm ∧ U.heap = h0) (fun _ _ _ _ _ => True) (fun _ U o U' => ∃ v L, o = .returned v ∧ Q_rmAg1 Z o1 h0 n0 v U'.heap L ∧ FrameEnd U o U' L ({ frames := 0, cells := 0, slots := 0, locals := 0 } : Room).cells ({ frames := 0, cells := 0, slots := 0, locals := 0 } : Room).slots) := by
  refine MetFree.of_bodySF (plainFor_of_name pn_10) hisR ?_
  intro p e s m args below meth c s₁ Bd hml0 hP hK
  obtain ⟨rfl, hZ, hh⟩ := hP
  have hx := Bd.exec
  have hby := Bd.bytes
  have hml : c.maxLocals = 1 := hml0
  have hown : s.vm.findClass "com/example/goldweave/goldweave/engine/linking/Registration" = some m.cls := findClass_of_methodNamed Bd.named
  have hnm := (name_of_methodNamed Bd.named Bd.method).1
  have X0 : Stand p l e ({ frames := 0, cells := 0, slots := 0, locals := 0 } : Room) s m #[(.ref o1)] below meth c s₁ [] 0 0 := Stand.of_body Bd
  have e0 : s₁.heap = h0 := by rw [← hh, Bd.state]; rfl
  have N0 := Fr.nil n0
  refine own_enter (ef_rmAg1 m o1) ?_
  refine own_st (fun t_ k_ => XS.aloadN X0.here hx rfl (hb hby d10_0) rfl rfl k_) ?_
  obtain ⟨T1, X1, e1, st1⟩ := getF X0 hx hZ hown (host := "") (Or.inl (own_w hw 45 rfl)) Via.refl e0 pF_newGoldenRecord_o1 (g := (mkF m 1 #[.val (.ref o1)] [(.ref o1)])) rfl rfl (hb hby d10_1)
  refine own_st st1 ?_
  obtain ⟨fs, hr, hrun, hended, hW, hsame⟩ := X1.leave (v := some (.int (1 : Int32))) (fun h => by rw [Bd.returns] at h; cases h)
  refine own_fin (retN X1 hx (t := .boolean) Bd.returns (by simp) (hb hby d10_4) hr) ⟨hrun, hended, _, _, rfl, ?_, ⟨_, rfl⟩, hW, hsame.mono (by decide) (by decide)⟩
  show Q_rmAg1 Z o1 h0 n0 _ T1.heap _
  rw [e1]
  exact ⟨rfl, N0, rfl⟩
abbrev own_y37 : MethodName := ⟨"com/example/goldweave/goldweave/server/cli/LoadSummary", "add", "(Lcom/example/goldweave/goldweave/engine/linking/Registration;)V"⟩
abbrev own_c7 : ByteArray := prog_62_method_2_code
theorem d7_0 : decode own_c7 0 = .ok (.aload_n 0, 1) := by decide +kernel
theorem d7_1 : decode own_c7 1 = .ok (.dup, 1) := by decide +kernel
theorem d7_2 : decode own_c7 2 = .ok (.getfield 7, 3) := by decide +kernel
theorem d7_5 : decode own_c7 5 = .ok (.lconst 1, 1) := by decide +kernel
theorem d7_6 : decode own_c7 6 = .ok (.ladd, 1) := by decide +kernel
theorem d7_7 : decode own_c7 7 = .ok (.putfield 7, 3) := by decide +kernel
theorem d7_10 : decode own_c7 10 = .ok (.aload_n 0, 1) := by decide +kernel
theorem d7_11 : decode own_c7 11 = .ok (.dup, 1) := by decide +kernel
theorem d7_12 : decode own_c7 12 = .ok (.getfield 13, 3) := by decide +kernel
theorem d7_15 : decode own_c7 15 = .ok (.aload_n 1, 1) := by decide +kernel
theorem d7_16 : decode own_c7 16 = .ok (.invokevirtual 16, 3) := by decide +kernel
theorem d7_19 : decode own_c7 19 = .ok (.i2l, 1) := by decide +kernel
theorem d7_20 : decode own_c7 20 = .ok (.ladd, 1) := by decide +kernel
theorem d7_21 : decode own_c7 21 = .ok (.putfield 13, 3) := by decide +kernel
theorem d7_24 : decode own_c7 24 = .ok (.aload_n 1, 1) := by decide +kernel
theorem d7_25 : decode own_c7 25 = .ok (.invokevirtual 22, 3) := by decide +kernel
theorem d7_28 : decode own_c7 28 = .ok (.getstatic 26, 3) := by decide +kernel
theorem d7_31 : decode own_c7 31 = .ok (.if_acmp .ne 46, 3) := by decide +kernel
theorem d7_34 : decode own_c7 34 = .ok (.aload_n 0, 1) := by decide +kernel
theorem d7_35 : decode own_c7 35 = .ok (.dup, 1) := by decide +kernel
theorem d7_36 : decode own_c7 36 = .ok (.getfield 32, 3) := by decide +kernel
theorem d7_39 : decode own_c7 39 = .ok (.lconst 1, 1) := by decide +kernel
theorem d7_40 : decode own_c7 40 = .ok (.ladd, 1) := by decide +kernel
theorem d7_41 : decode own_c7 41 = .ok (.putfield 32, 3) := by decide +kernel
theorem d7_44 : decode own_c7 44 = .ok (.aload_n 1, 1) := by decide +kernel
theorem d7_45 : decode own_c7 45 = .ok (.invokevirtual 35, 3) := by decide +kernel
theorem d7_48 : decode own_c7 48 = .ok (.ifCond .eq 16, 3) := by decide +kernel
theorem d7_51 : decode own_c7 51 = .ok (.aload_n 0, 1) := by decide +kernel
theorem d7_52 : decode own_c7 52 = .ok (.dup, 1) := by decide +kernel
theorem d7_53 : decode own_c7 53 = .ok (.getfield 39, 3) := by decide +kernel
theorem d7_56 : decode own_c7 56 = .ok (.lconst 1, 1) := by decide +kernel
theorem d7_57 : decode own_c7 57 = .ok (.ladd, 1) := by decide +kernel
theorem d7_58 : decode own_c7 58 = .ok (.putfield 39, 3) := by decide +kernel
theorem d7_61 : decode own_c7 61 = .ok (.goto 49, 3) := by decide +kernel
theorem d7_110 : decode own_c7 110 = .ok (.return_, 1) := by decide +kernel
theorem pn_7 : plainName "com/example/goldweave/goldweave/server/cli/LoadSummary" = true := by first | (simp [plainName, overriddenIn]; done) | decide +kernel
theorem pd___Lcom_example_goldweave_goldweave_engine_linking_Registration_Change_ : parseMethodDescriptor "()Lcom/example/goldweave/goldweave/engine/linking/Registration$Change;" = some ⟨[], some (.object "com/example/goldweave/goldweave/engine/linking/Registration$Change")⟩ := by decide +kernel
theorem ef_rmAd1 (m : MethodId) (x0 : Addr) (x1 : Addr) : entryFrame m #[(.ref x0), (.ref x1)] 2 = mkF m 0 #[.val (.ref x0), .val (.ref x1)] [] := by first | (simp [entryFrame, mkF, argsToLocals, Value.category]; done) | rfl
def Q_rmAd1 (Z : State) (ob : Addr) (o1 : Addr) (cn : Int32) (f0_ : Int64) (f1_ : Int64) (f2_ : Int64) (f3_ : Int64) (f4_ : Int64) (f5_ : Int64) (f6_ : Int64) (f7_ : Int64) (nw : Addr) (up : Addr) (un : Addr) (h0 : Heap) (n0 : Nat) (v : Option Value) (h : Heap) (L : List Loc) : Prop := v = none ∧ Fr n0 L ∧ Keep h0 h [ob] ∧ Exa Z h ob "com/example/goldweave/goldweave/server/cli/LoadSummary" ∧ Fld Z h ob "com/example/goldweave/goldweave/server/cli/LoadSummary" "records" "J" (.long (f0_ + (1 : Int64))) ∧ Fld Z h ob "com/example/goldweave/goldweave/server/cli/LoadSummary" "created" "J" (.long (f1_ + (1 : Int64))) ∧ Fld Z h ob "com/example/goldweave/goldweave/server/cli/LoadSummary" "updated" "J" (.long f2_) ∧ Fld Z h ob "com/example/goldweave/goldweave/server/cli/LoadSummary" "unchanged" "J" (.long f3_) ∧ Fld Z h ob "com/example/goldweave/goldweave/server/cli/LoadSummary" "rejected" "J" (.long f4_) ∧ Fld Z h ob "com/example/goldweave/goldweave/server/cli/LoadSummary" "linked" "J" (.long f5_) ∧ Fld Z h ob "com/example/goldweave/goldweave/server/cli/LoadSummary" "newMasters" "J" (.long (f6_ + (1 : Int64))) ∧ Fld Z h ob "com/example/goldweave/goldweave/server/cli/LoadSummary" "candidates" "J" (.long (f7_ + cn.toInt64))
set_option maxRecDepth 65536 in
set_option maxHeartbeats 40000000 in
theorem rmAd1 (l : Launch) (Z : State) (a0 : Array Value) (hw : ∀ d ∈ tables_1, d.before a0 Z = true) (ws : List Jvm.Cond) (ob : Addr) (o1 : Addr) (cn : Int32) (f0_ : Int64) (f1_ : Int64) (f2_ : Int64) (f3_ : Int64) (f4_ : Int64) (f5_ : Int64) (f6_ : Int64) (f7_ : Int64) (nw : Addr) (up : Addr) (un : Addr) (h0 : Heap) (n0 : Nat) (Z0 : n0 ≤ h0.size) (pE_ob : Exa Z h0 ob "com/example/goldweave/goldweave/server/cli/LoadSummary") (pF_records_ob : Fld Z h0 ob "com/example/goldweave/goldweave/server/cli/LoadSummary" "records" "J" (.long f0_)) (pF_created_ob : Fld Z h0 ob "com/example/goldweave/goldweave/server/cli/LoadSummary" "created" "J" (.long f1_)) (pF_updated_ob : Fld Z h0 ob "com/example/goldweave/goldweave/server/cli/LoadSummary" "updated" "J" (.long f2_)) (pF_unchanged_ob : Fld Z h0 ob "com/example/goldweave/goldweave/server/cli/LoadSummary" "unchanged" "J" (.long f3_)) (pF_rejected_ob : Fld Z h0 ob "com/example/goldweave/goldweave/server/cli/LoadSummary" "rejected" "J" (.long f4_)) (pF_linked_ob : Fld Z h0 ob "com/example/goldweave/goldweave/server/cli/LoadSummary" "linked" "J" (.long f5_)) (pF_newMasters_ob : Fld Z h0 ob "com/example/goldweave/goldweave/server/cli/LoadSummary" "newMasters" "J" (.long f6_)) (pF_candidates_ob : Fld Z h0 ob "com/example/goldweave/goldweave/server/cli/LoadSummary" "candidates" "J" (.long f7_)) (pE_o1 : Exa Z h0 o1 "com/example/goldweave/goldweave/engine/linking/Registration") (pF_change_o1 : Fld Z h0 o1 "com/example/goldweave/goldweave/engine/linking/Registration" "change" "Lcom/example/goldweave/goldweave/engine/linking/Registration$Change;" (.ref nw)) (pF_newGoldenRecord_o1 : Fld Z h0 o1 "com/example/goldweave/goldweave/engine/linking/Registration" "newGoldenRecord" "Z" (.int (1 : Int32))) (pF_candidateLinks_o1 : Fld Z h0 o1 "com/example/goldweave/goldweave/engine/linking/Registration" "candidateLinks" "I" (.int cn)) (pG_ob : n0 ≤ ob) (pS_NEW : Sta Z Z.heap "com/example/goldweave/goldweave/engine/linking/Registration$Change" "NEW" "Lcom/example/goldweave/goldweave/engine/linking/Registration$Change;" (.ref nw)) (pS_UPDATED : Sta Z Z.heap "com/example/goldweave/goldweave/engine/linking/Registration$Change" "UPDATED" "Lcom/example/goldweave/goldweave/engine/linking/Registration$Change;" (.ref up)) (pS_UNCHANGED : Sta Z Z.heap "com/example/goldweave/goldweave/engine/linking/Registration$Change" "UNCHANGED" "Lcom/example/goldweave/goldweave/engine/linking/Registration$Change;" (.ref un)) (hun : (up ≠ nw)) (hcn : (un ≠ nw)) (hcu : (un ≠ up)) (pO : Old Z n0 h0) :
    MetFree l own_y37 (head1 (Jvm.Cond.code own_y37 prog_62_method_2_code 2 none :: ws) ({ frames := 1, cells := 0, slots := 0, locals := 15 } : Room)) (fun a U => a = #[(.ref ob), (.ref o1)] ∧ Z.Warmed39 U.vm ∧ U.heap = h0) (fun _ _ _ _ _ => True) (fun _ U o U' => ∃ v L, o = .returned v ∧ Q_rmAd1 Z ob o1 cn f0_ f1_ f2_ f3_ f4_ f5_ f6_ f7_ nw up un h0 n0 v U'.heap L ∧ FrameEnd U o U' L ({ frames := 1, cells := 0, slots := 0, locals := 15 } : Room).cells ({ frames := 1, cells := 0, slots := 0, locals := 15 } : Room).slots) := by
  refine MetFree.of_bodySF (plainFor_of_name pn_7) hisR ?_
  intro p e s m args below meth c s₁ Bd hml0 hP hK
  obtain ⟨rfl, hZ, hh⟩ := hP
  have hx := Bd.exec
  have hby := Bd.bytes
  have hml : c.maxLocals = 2 := hml0
  have hown : s.vm.findClass "com/example/goldweave/goldweave/server/cli/LoadSummary" = some m.cls := findClass_of_methodNamed Bd.named
  have hnm := (name_of_methodNamed Bd.named Bd.method).1
  have X0 : Stand p l e ({ frames := 1, cells := 0, slots := 0, locals := 15 } : Room) s m #[(.ref ob), (.ref o1)] below meth c s₁ [] 0 0 := Stand.of_body Bd
  have e0 : s₁.heap = h0 := by rw [← hh, Bd.state]; rfl
  have N0 := Fr.nil n0
  refine own_enter (ef_rmAd1 m ob o1) ?_
  refine own_st (fun t_ k_ => XS.aloadN X0.here hx rfl (hb hby d7_0) rfl rfl (XS.dup X0.here hx rfl (hb hby d7_1) rfl rfl k_)) ?_
  obtain ⟨T1, X1, e1, st1⟩ := getF X0 hx hZ hown (host := "") (Or.inl (own_w hw 54 rfl)) Via.refl e0 pF_records_ob (g := (mkF m 2 #[.val (.ref ob), .val (.ref o1)] [(.ref ob), (.ref ob)])) rfl rfl (hb hby d7_2)
  refine own_st st1 ?_
  refine own_st (fun t_ k_ => XS.lconst X1.here hx rfl (hb hby d7_5) (XS.ladd X1.here hx rfl (hb hby d7_6) rfl k_)) ?_
  obtain ⟨T2, h2, X2, e2, W2, st2⟩ := putF X1 hx hZ hown (host := "") (Or.inl (own_w hw 54 rfl)) Via.refl e1 pF_records_ob pE_ob (Or.inl (own_w hw 55 rfl)) (own_w hw 6 rfl) (ty := .long) (by decide) rfl rfl (g := (mkF m 7 #[.val (.ref ob), .val (.ref o1)] [(.long (f0_ + (1 : Int64))), (.ref ob)])) rfl rfl (hb hby d7_7)
  have F2 := pF_records_ob.same W2
  have K3 : Keep h0 h2 [ob] := (Keep.refl h0 [ob]).wr W2 (Or.inl (List.mem_of_getElem? (i := 0) rfl))
  have N2 := Fr.snoc X2 N0 pG_ob
  refine own_st st2 ?_
  refine own_st (fun t_ k_ => XS.aloadN X2.here hx rfl (hb hby d7_10) rfl rfl (XS.dup X2.here hx rfl (hb hby d7_11) rfl rfl k_)) ?_
  have f4 := (pF_candidates_ob.other W2 (Or.inr (slot_ne (Or.inl (own_w hw 57 rfl)) (Or.inl (own_w hw 55 rfl)) (by decide) (t := .long) (t' := .long) (by decide) (by decide))))
  obtain ⟨T5, X5, e5, st5⟩ := getF X2 hx hZ hown (host := "") (Or.inl (own_w hw 56 rfl)) Via.refl e2 f4 (g := (mkF m 12 #[.val (.ref ob), .val (.ref o1)] [(.ref ob), (.ref ob)])) rfl rfl (hb hby d7_12)
  refine own_st st5 ?_
  refine own_st (fun t_ k_ => XS.aloadN X5.here hx rfl (hb hby d7_15) rfl rfl k_) ?_
  have f6 := (Nat.le_trans Z0 (Keep.of_wr W2).1)
  have f7 := (pE_o1.wr W2)
  have f8 := (pE_ob.wr W2)
  have f9 := (pF_candidateLinks_o1.other W2 (Or.inl (Exa.ne f7 f8 (by decide))))
  obtain ⟨cq10, kq10, qa10, qb10, qc10⟩ := isOf hZ e5 f7
  obtain ⟨_, _, ⟨T10, L10, k10, n10⟩, -, X10, ⟨Lc10, hQ10, l10, y10, z10⟩, st10⟩ := X5.virtualBack hx (y := own_y34) (z := own_y34) hown (mvT hZ (own_w hw 58 rfl)) (mvT hZ (own_w hw 59 rfl)) (notFace_of_selects (args := #[]) (mvT hZ (own_w hw 61 rfl))) (mvT hZ (own_w hw 61 rfl)) (mvT hZ (own_w hw 60 rfl)) (by decide) (backOf (W := 3) (rmAcc l Z a0 hw [] o1 cn h2 n0 f6 f7 f9) hZ (own_w hw 62 rfl) (own_w hw 23 rfl) (by decide) (by decide)) qa10 qc10 (g := (mkF m 16 #[.val (.ref ob), .val (.ref o1)] [(.ref o1), (.long f7_), (.ref ob)])) rfl (by rw [hml]; rfl) (Steps.refl _) (argsL := []) (rest := [(.long f7_), (.ref ob)]) (lenOf pd___I rfl) rfl (by show 2 * 0 + _ ≤ _; exact Nat.le_of_eq rfl) (hb hby d7_16) (fun _ _ => ⟨rfl, e5, (by decide : 0 + 0 ≤ _), (by decide : 0 + 0 ≤ _)⟩)
  dsimp only [Pt.U, Pt.locs, Pt.cells, Pt.slots] at X10 l10 y10 z10 st10 hQ10
  try dsimp only [Nat.reduceAdd] at y10 z10
  rw [l10, y10, z10] at X10
  obtain ⟨rfl, Nq10, eH10⟩ := hQ10
  have N10 := Fr.app N2 Nq10
  refine own_tr st10 ?_
  refine own_st (fun t_ k_ => XS.i2l X10.here hx rfl (hb hby d7_19) rfl (XS.ladd X10.here hx rfl (hb hby d7_20) rfl k_)) ?_
  obtain ⟨T11, h11, X11, e11, W11, st11⟩ := putF X10 hx hZ hown (host := "") (Or.inl (own_w hw 56 rfl)) Via.refl eH10 f4 f8 (Or.inl (own_w hw 57 rfl)) (own_w hw 6 rfl) (ty := .long) (by decide) rfl rfl (g := (mkF m 21 #[.val (.ref ob), .val (.ref o1)] [(.long (f7_ + (cn.toInt64))), (.ref ob)])) rfl rfl (hb hby d7_21)
  have F11 := f4.same W11
  have K12 : Keep h0 h11 [ob] := K3.wr W11 (Or.inl (List.mem_of_getElem? (i := 0) rfl))
  have N11 := Fr.snoc X11 N10 pG_ob
  refine own_st st11 ?_
  refine own_st (fun t_ k_ => XS.aloadN X11.here hx rfl (hb hby d7_24) rfl rfl k_) ?_
  have f13 := (Nat.le_trans f6 (Keep.of_wr W11).1)
  have f14 := (f7.wr W11)
  have f15 := (f8.wr W11)
  have f16 := ((pF_change_o1.other W2 (Or.inl (Exa.ne f14 f15 (by decide)))).other W11 (Or.inl (Exa.ne f14 f15 (by decide))))
  obtain ⟨cq17, kq17, qa17, qb17, qc17⟩ := isOf hZ e11 f14
  obtain ⟨_, _, ⟨T17, L17, k17, n17⟩, -, X17, ⟨Lc17, hQ17, l17, y17, z17⟩, st17⟩ := X11.virtualBack hx (y := own_y35) (z := own_y35) hown (mvT hZ (own_w hw 63 rfl)) (mvT hZ (own_w hw 64 rfl)) (notFace_of_selects (args := #[]) (mvT hZ (own_w hw 66 rfl))) (mvT hZ (own_w hw 66 rfl)) (mvT hZ (own_w hw 65 rfl)) (by decide) (backOf (W := 0) (rmAch l Z a0 hw [] o1 nw h11 n0 f13 f14 f16) hZ (own_w hw 67 rfl) (own_w hw 23 rfl) (by decide) (by decide)) qa17 qc17 (g := (mkF m 25 #[.val (.ref ob), .val (.ref o1)] [(.ref o1)])) rfl (by rw [hml]; rfl) (Steps.refl _) (argsL := []) (rest := []) (lenOf pd___Lcom_example_goldweave_goldweave_engine_linking_Registration_Change_ rfl) rfl (by show 2 * 0 + _ ≤ _; exact Nat.le_of_eq rfl) (hb hby d7_25) (fun _ _ => ⟨rfl, e11, (by decide : 0 + 0 ≤ _), (by decide : 0 + 0 ≤ _)⟩)
  dsimp only [Pt.U, Pt.locs, Pt.cells, Pt.slots] at X17 l17 y17 z17 st17 hQ17
  try dsimp only [Nat.reduceAdd] at y17 z17
  rw [l17, y17, z17] at X17
  obtain ⟨rfl, Nq17, eH17⟩ := hQ17
  have N17 := Fr.app N11 Nq17
  refine own_tr st17 ?_
  have f18 := ((pO.wr W2 pG_ob).wr W11 pG_ob)
  obtain ⟨T19, X19, e19, st19⟩ := getS2 X17 hx hZ hown (host := "") (Or.inl (own_w hw 68 rfl)) Via.refl eH17 (pS_NEW.ext f18.2) (g := (mkF m 28 #[.val (.ref ob), .val (.ref o1)] [(.ref nw)])) rfl (hb hby d7_28)
  refine own_st st19 ?_
  refine own_st (fun t_ k_ => Jvm.RoadKit.acmp (g := (mkF m 31 #[.val (.ref ob), .val (.ref o1)] [(.ref nw), (.ref nw)])) X19 hx rfl rfl rfl (pc0 := 31) (pc' := 34) (same := true) rfl (hb hby d7_31) rfl (decide_eq_true rfl) (by decide) (by decide) (XS.aloadN X19.here hx rfl (hb hby d7_34) rfl rfl (XS.dup X19.here hx rfl (hb hby d7_35) rfl rfl k_))) ?_
  have f20 := ((pF_created_ob.other W2 (Or.inr (slot_ne (Or.inl (own_w hw 70 rfl)) (Or.inl (own_w hw 55 rfl)) (by decide) (t := .long) (t' := .long) (by decide) (by decide)))).other W11 (Or.inr (slot_ne (Or.inl (own_w hw 70 rfl)) (Or.inl (own_w hw 57 rfl)) (by decide) (t := .long) (t' := .long) (by decide) (by decide))))
  obtain ⟨T21, X21, e21, st21⟩ := getF X19 hx hZ hown (host := "") (Or.inl (own_w hw 69 rfl)) Via.refl e19 f20 (g := (mkF m 36 #[.val (.ref ob), .val (.ref o1)] [(.ref ob), (.ref ob)])) rfl rfl (hb hby d7_36)
  refine own_st st21 ?_
  refine own_st (fun t_ k_ => XS.lconst X21.here hx rfl (hb hby d7_39) (XS.ladd X21.here hx rfl (hb hby d7_40) rfl k_)) ?_
  obtain ⟨T22, h22, X22, e22, W22, st22⟩ := putF X21 hx hZ hown (host := "") (Or.inl (own_w hw 69 rfl)) Via.refl e21 f20 f15 (Or.inl (own_w hw 70 rfl)) (own_w hw 6 rfl) (ty := .long) (by decide) rfl rfl (g := (mkF m 41 #[.val (.ref ob), .val (.ref o1)] [(.long (f1_ + (1 : Int64))), (.ref ob)])) rfl rfl (hb hby d7_41)
  have F22 := f20.same W22
  have K23 : Keep h0 h22 [ob] := K12.wr W22 (Or.inl (List.mem_of_getElem? (i := 0) rfl))
  have N22 := Fr.snoc X22 N17 pG_ob
  refine own_st st22 ?_
  refine own_st (fun t_ k_ => XS.aloadN X22.here hx rfl (hb hby d7_44) rfl rfl k_) ?_
  have f24 := (Nat.le_trans f13 (Keep.of_wr W22).1)
  have f25 := (f14.wr W22)
  have f26 := (f15.wr W22)
  have f27 := (((pF_newGoldenRecord_o1.other W2 (Or.inl (Exa.ne f25 f26 (by decide)))).other W11 (Or.inl (Exa.ne f25 f26 (by decide)))).other W22 (Or.inl (Exa.ne f25 f26 (by decide))))
  obtain ⟨cq28, kq28, qa28, qb28, qc28⟩ := isOf hZ e22 f25
  obtain ⟨_, _, ⟨T28, L28, k28, n28⟩, -, X28, ⟨Lc28, hQ28, l28, y28, z28⟩, st28⟩ := X22.virtualBack hx (y := own_y36) (z := own_y36) hown (mvT hZ (own_w hw 71 rfl)) (mvT hZ (own_w hw 72 rfl)) (notFace_of_selects (args := #[]) (mvT hZ (own_w hw 74 rfl))) (mvT hZ (own_w hw 74 rfl)) (mvT hZ (own_w hw 73 rfl)) (by decide) (backOf (W := 0) (rmAg1 l Z a0 hw [] o1 h22 n0 f24 f25 f27) hZ (own_w hw 75 rfl) (own_w hw 23 rfl) (by decide) (by decide)) qa28 qc28 (g := (mkF m 45 #[.val (.ref ob), .val (.ref o1)] [(.ref o1)])) rfl (by rw [hml]; rfl) (Steps.refl _) (argsL := []) (rest := []) (lenOf pd___Z rfl) rfl (by show 2 * 0 + _ ≤ _; exact Nat.le_of_eq rfl) (hb hby d7_45) (fun _ _ => ⟨rfl, e22, (by decide : 0 + 0 ≤ _), (by decide : 0 + 0 ≤ _)⟩)
  dsimp only [Pt.U, Pt.locs, Pt.cells, Pt.slots] at X28 l28 y28 z28 st28 hQ28
  try dsimp only [Nat.reduceAdd] at y28 z28
  rw [l28, y28, z28] at X28
  obtain ⟨rfl, Nq28, eH28⟩ := hQ28
  have N28 := Fr.app N22 Nq28
  refine own_tr st28 ?_
  refine own_st (fun t_ k_ => XS.ifNo X28.here hx rfl (hb hby d7_48) rfl (by decide) (XS.aloadN X28.here hx rfl (hb hby d7_51) rfl rfl (XS.dup X28.here hx rfl (hb hby d7_52) rfl rfl k_))) ?_
  have f29 := (((pF_newMasters_ob.other W2 (Or.inr (slot_ne (Or.inl (own_w hw 210 rfl)) (Or.inl (own_w hw 55 rfl)) (by decide) (t := .long) (t' := .long) (by decide) (by decide)))).other W11 (Or.inr (slot_ne (Or.inl (own_w hw 210 rfl)) (Or.inl (own_w hw 57 rfl)) (by decide) (t := .long) (t' := .long) (by decide) (by decide)))).other W22 (Or.inr (slot_ne (Or.inl (own_w hw 210 rfl)) (Or.inl (own_w hw 70 rfl)) (by decide) (t := .long) (t' := .long) (by decide) (by decide))))
  obtain ⟨T30, X30, e30, st30⟩ := getF X28 hx hZ hown (host := "") (Or.inl (own_w hw 209 rfl)) Via.refl eH28 f29 (g := (mkF m 53 #[.val (.ref ob), .val (.ref o1)] [(.ref ob), (.ref ob)])) rfl rfl (hb hby d7_53)
  refine own_st st30 ?_
  refine own_st (fun t_ k_ => XS.lconst X30.here hx rfl (hb hby d7_56) (XS.ladd X30.here hx rfl (hb hby d7_57) rfl k_)) ?_
  obtain ⟨T31, h31, X31, e31, W31, st31⟩ := putF X30 hx hZ hown (host := "") (Or.inl (own_w hw 209 rfl)) Via.refl e30 f29 f26 (Or.inl (own_w hw 210 rfl)) (own_w hw 6 rfl) (ty := .long) (by decide) rfl rfl (g := (mkF m 58 #[.val (.ref ob), .val (.ref o1)] [(.long (f6_ + (1 : Int64))), (.ref ob)])) rfl rfl (hb hby d7_58)
  have F31 := f29.same W31
  have K32 : Keep h0 h31 [ob] := K23.wr W31 (Or.inl (List.mem_of_getElem? (i := 0) rfl))
  have N31 := Fr.snoc X31 N28 pG_ob
  refine own_st st31 ?_
  refine own_st (fun t_ k_ => XS.goto X31.here hx rfl (pc0 := 61) (pc' := 110) rfl (hb hby d7_61) (by decide) (by decide) k_) ?_
  have f33 := (f26.wr W31)
  have f34 := (((F2.other W11 (Or.inr (slot_ne (Or.inl (own_w hw 55 rfl)) (Or.inl (own_w hw 57 rfl)) (by decide) (t := .long) (t' := .long) (by decide) (by decide)))).other W22 (Or.inr (slot_ne (Or.inl (own_w hw 55 rfl)) (Or.inl (own_w hw 70 rfl)) (by decide) (t := .long) (t' := .long) (by decide) (by decide)))).other W31 (Or.inr (slot_ne (Or.inl (own_w hw 55 rfl)) (Or.inl (own_w hw 210 rfl)) (by decide) (t := .long) (t' := .long) (by decide) (by decide))))
  have f35 := (F22.other W31 (Or.inr (slot_ne (Or.inl (own_w hw 70 rfl)) (Or.inl (own_w hw 210 rfl)) (by decide) (t := .long) (t' := .long) (by decide) (by decide))))
  have f36 := ((((pF_updated_ob.other W2 (Or.inr (slot_ne (Or.inl (own_w hw 200 rfl)) (Or.inl (own_w hw 55 rfl)) (by decide) (t := .long) (t' := .long) (by decide) (by decide)))).other W11 (Or.inr (slot_ne (Or.inl (own_w hw 200 rfl)) (Or.inl (own_w hw 57 rfl)) (by decide) (t := .long) (t' := .long) (by decide) (by decide)))).other W22 (Or.inr (slot_ne (Or.inl (own_w hw 200 rfl)) (Or.inl (own_w hw 70 rfl)) (by decide) (t := .long) (t' := .long) (by decide) (by decide)))).other W31 (Or.inr (slot_ne (Or.inl (own_w hw 200 rfl)) (Or.inl (own_w hw 210 rfl)) (by decide) (t := .long) (t' := .long) (by decide) (by decide))))
  have f37 := ((((pF_unchanged_ob.other W2 (Or.inr (slot_ne (Or.inl (own_w hw 203 rfl)) (Or.inl (own_w hw 55 rfl)) (by decide) (t := .long) (t' := .long) (by decide) (by decide)))).other W11 (Or.inr (slot_ne (Or.inl (own_w hw 203 rfl)) (Or.inl (own_w hw 57 rfl)) (by decide) (t := .long) (t' := .long) (by decide) (by decide)))).other W22 (Or.inr (slot_ne (Or.inl (own_w hw 203 rfl)) (Or.inl (own_w hw 70 rfl)) (by decide) (t := .long) (t' := .long) (by decide) (by decide)))).other W31 (Or.inr (slot_ne (Or.inl (own_w hw 203 rfl)) (Or.inl (own_w hw 210 rfl)) (by decide) (t := .long) (t' := .long) (by decide) (by decide))))
  have f38 := ((((pF_rejected_ob.other W2 (Or.inr (slot_ne (Or.inl (own_w hw 206 rfl)) (Or.inl (own_w hw 55 rfl)) (by decide) (t := .long) (t' := .long) (by decide) (by decide)))).other W11 (Or.inr (slot_ne (Or.inl (own_w hw 206 rfl)) (Or.inl (own_w hw 57 rfl)) (by decide) (t := .long) (t' := .long) (by decide) (by decide)))).other W22 (Or.inr (slot_ne (Or.inl (own_w hw 206 rfl)) (Or.inl (own_w hw 70 rfl)) (by decide) (t := .long) (t' := .long) (by decide) (by decide)))).other W31 (Or.inr (slot_ne (Or.inl (own_w hw 206 rfl)) (Or.inl (own_w hw 210 rfl)) (by decide) (t := .long) (t' := .long) (by decide) (by decide))))
  have f39 := ((((pF_linked_ob.other W2 (Or.inr (slot_ne (Or.inl (own_w hw 77 rfl)) (Or.inl (own_w hw 55 rfl)) (by decide) (t := .long) (t' := .long) (by decide) (by decide)))).other W11 (Or.inr (slot_ne (Or.inl (own_w hw 77 rfl)) (Or.inl (own_w hw 57 rfl)) (by decide) (t := .long) (t' := .long) (by decide) (by decide)))).other W22 (Or.inr (slot_ne (Or.inl (own_w hw 77 rfl)) (Or.inl (own_w hw 70 rfl)) (by decide) (t := .long) (t' := .long) (by decide) (by decide)))).other W31 (Or.inr (slot_ne (Or.inl (own_w hw 77 rfl)) (Or.inl (own_w hw 210 rfl)) (by decide) (t := .long) (t' := .long) (by decide) (by decide))))
  have f40 := ((F11.other W22 (Or.inr (slot_ne (Or.inl (own_w hw 57 rfl)) (Or.inl (own_w hw 70 rfl)) (by decide) (t := .long) (t' := .long) (by decide) (by decide)))).other W31 (Or.inr (slot_ne (Or.inl (own_w hw 57 rfl)) (Or.inl (own_w hw 210 rfl)) (by decide) (t := .long) (t' := .long) (by decide) (by decide))))
  obtain ⟨fs, hr, hrun, hended, hW, hsame⟩ := X31.leave (v := none) (fun _ => rfl)
  refine own_fin (X31.returnOut hx Bd.returns (hb hby d7_110) hr) ⟨hrun, hended, _, _, rfl, ?_, ⟨_, rfl⟩, hW, hsame.mono (by decide) (by decide)⟩
  show Q_rmAd1 Z ob o1 cn f0_ f1_ f2_ f3_ f4_ f5_ f6_ f7_ nw up un h0 n0 _ T31.heap _
  rw [e31]
  exact ⟨rfl, N31, K32, f33, f34, f35, f36, f37, f38, f39, F31, f40⟩
theorem d7_64 : decode own_c7 64 = .ok (.aload_n 0, 1) := by decide +kernel
theorem d7_65 : decode own_c7 65 = .ok (.dup, 1) := by decide +kernel
theorem d7_66 : decode own_c7 66 = .ok (.getfield 42, 3) := by decide +kernel
theorem d7_69 : decode own_c7 69 = .ok (.lconst 1, 1) := by decide +kernel
theorem d7_70 : decode own_c7 70 = .ok (.ladd, 1) := by decide +kernel
theorem d7_71 : decode own_c7 71 = .ok (.putfield 42, 3) := by decide +kernel
theorem d7_74 : decode own_c7 74 = .ok (.goto 36, 3) := by decide +kernel
theorem ef_rmAd2 (m : MethodId) (x0 : Addr) (x1 : Addr) : entryFrame m #[(.ref x0), (.ref x1)] 2 = mkF m 0 #[.val (.ref x0), .val (.ref x1)] [] := by first | (simp [entryFrame, mkF, argsToLocals, Value.category]; done) | rfl
def Q_rmAd2 (Z : State) (ob : Addr) (o1 : Addr) (cn : Int32) (f0_ : Int64) (f1_ : Int64) (f2_ : Int64) (f3_ : Int64) (f4_ : Int64) (f5_ : Int64) (f6_ : Int64) (f7_ : Int64) (nw : Addr) (up : Addr) (un : Addr) (h0 : Heap) (n0 : Nat) (v : Option Value) (h : Heap) (L : List Loc) : Prop := v = none ∧ Fr n0 L ∧ Keep h0 h [ob] ∧ Exa Z h ob "com/example/goldweave/goldweave/server/cli/LoadSummary" ∧ Fld Z h ob "com/example/goldweave/goldweave/server/cli/LoadSummary" "records" "J" (.long (f0_ + (1 : Int64))) ∧ Fld Z h ob "com/example/goldweave/goldweave/server/cli/LoadSummary" "created" "J" (.long (f1_ + (1 : Int64))) ∧ Fld Z h ob "com/example/goldweave/goldweave/server/cli/LoadSummary" "updated" "J" (.long f2_) ∧ Fld Z h ob "com/example/goldweave/goldweave/server/cli/LoadSummary" "unchanged" "J" (.long f3_) ∧ Fld Z h ob "com/example/goldweave/goldweave/server/cli/LoadSummary" "rejected" "J" (.long f4_) ∧ Fld Z h ob "com/example/goldweave/goldweave/server/cli/LoadSummary" "linked" "J" (.long (f5_ + (1 : Int64))) ∧ Fld Z h ob "com/example/goldweave/goldweave/server/cli/LoadSummary" "newMasters" "J" (.long f6_) ∧ Fld Z h ob "com/example/goldweave/goldweave/server/cli/LoadSummary" "candidates" "J" (.long (f7_ + cn.toInt64))
set_option maxRecDepth 65536 in
set_option maxHeartbeats 40000000 in
theorem rmAd2 (l : Launch) (Z : State) (a0 : Array Value) (hw : ∀ d ∈ tables_1, d.before a0 Z = true) (ws : List Jvm.Cond) (ob : Addr) (o1 : Addr) (cn : Int32) (f0_ : Int64) (f1_ : Int64) (f2_ : Int64) (f3_ : Int64) (f4_ : Int64) (f5_ : Int64) (f6_ : Int64) (f7_ : Int64) (nw : Addr) (up : Addr) (un : Addr) (h0 : Heap) (n0 : Nat) (Z0 : n0 ≤ h0.size) (pE_ob : Exa Z h0 ob "com/example/goldweave/goldweave/server/cli/LoadSummary") (pF_records_ob : Fld Z h0 ob "com/example/goldweave/goldweave/server/cli/LoadSummary" "records" "J" (.long f0_)) (pF_created_ob : Fld Z h0 ob "com/example/goldweave/goldweave/server/cli/LoadSummary" "created" "J" (.long f1_)) (pF_updated_ob : Fld Z h0 ob "com/example/goldweave/goldweave/server/cli/LoadSummary" "updated" "J" (.long f2_)) (pF_unchanged_ob : Fld Z h0 ob "com/example/goldweave/goldweave/server/cli/LoadSummary" "unchanged" "J" (.long f3_)) (pF_rejected_ob : Fld Z h0 ob "com/example/goldweave/goldweave/server/cli/LoadSummary" "rejected" "J" (.long f4_)) (pF_linked_ob : Fld Z h0 ob "com/example/goldweave/goldweave/server/cli/LoadSummary" "linked" "J" (.long f5_)) (pF_newMasters_ob : Fld Z h0 ob "com/example/goldweave/goldweave/server/cli/LoadSummary" "newMasters" "J" (.long f6_)) (pF_candidates_ob : Fld Z h0 ob "com/example/goldweave/goldweave/server/cli/LoadSummary" "candidates" "J" (.long f7_)) (pE_o1 : Exa Z h0 o1 "com/example/goldweave/goldweave/engine/linking/Registration") (pF_change_o1 : Fld Z h0 o1 "com/example/goldweave/goldweave/engine/linking/Registration" "change" "Lcom/example/goldweave/goldweave/engine/linking/Registration$Change;" (.ref nw)) (pF_newGoldenRecord_o1 : Fld Z h0 o1 "com/example/goldweave/goldweave/engine/linking/Registration" "newGoldenRecord" "Z" (.int (0 : Int32))) (pF_candidateLinks_o1 : Fld Z h0 o1 "com/example/goldweave/goldweave/engine/linking/Registration" "candidateLinks" "I" (.int cn)) (pG_ob : n0 ≤ ob) (pS_NEW : Sta Z Z.heap "com/example/goldweave/goldweave/engine/linking/Registration$Change" "NEW" "Lcom/example/goldweave/goldweave/engine/linking/Registration$Change;" (.ref nw)) (pS_UPDATED : Sta Z Z.heap "com/example/goldweave/goldweave/engine/linking/Registration$Change" "UPDATED" "Lcom/example/goldweave/goldweave/engine/linking/Registration$Change;" (.ref up)) (pS_UNCHANGED : Sta Z Z.heap "com/example/goldweave/goldweave/engine/linking/Registration$Change" "UNCHANGED" "Lcom/example/goldweave/goldweave/engine/linking/Registration$Change;" (.ref un)) (hun : (up ≠ nw)) (hcn : (un ≠ nw)) (hcu : (un ≠ up)) (pO : Old Z n0 h0) :
    MetFree l own_y37 (head1 (Jvm.Cond.code own_y37 prog_62_method_2_code 2 none :: ws) ({ frames := 1, cells := 0, slots := 0, locals := 15 } : Room)) (fun a U => a = #[(.ref ob), (.ref o1)] ∧ Z.Warmed39 U.vm ∧ U.heap = h0) (fun _ _ _ _ _ => True) (fun _ U o U' => ∃ v L, o = .returned v ∧ Q_rmAd2 Z ob o1 cn f0_ f1_ f2_ f3_ f4_ f5_ f6_ f7_ nw up un h0 n0 v U'.heap L ∧ FrameEnd U o U' L ({ frames := 1, cells := 0, slots := 0, locals := 15 } : Room).cells ({ frames := 1, cells := 0, slots := 0, locals := 15 } : Room).slots) := by
  refine MetFree.of_bodySF (plainFor_of_name pn_7) hisR ?_
  intro p e s m args below meth c s₁ Bd hml0 hP hK
  obtain ⟨rfl, hZ, hh⟩ := hP
  have hx := Bd.exec
  have hby := Bd.bytes
  have hml : c.maxLocals = 2 := hml0
  have hown : s.vm.findClass "com/example/goldweave/goldweave/server/cli/LoadSummary" = some m.cls := findClass_of_methodNamed Bd.named
  have hnm := (name_of_methodNamed Bd.named Bd.method).1
  have X0 : Stand p l e ({ frames := 1, cells := 0, slots := 0, locals := 15 } : Room) s m #[(.ref ob), (.ref o1)] below meth c s₁ [] 0 0 := Stand.of_body Bd
  have e0 : s₁.heap = h0 := by rw [← hh, Bd.state]; rfl
  have N0 := Fr.nil n0
  refine own_enter (ef_rmAd2 m ob o1) ?_
  refine own_st (fun t_ k_ => XS.aloadN X0.here hx rfl (hb hby d7_0) rfl rfl (XS.dup X0.here hx rfl (hb hby d7_1) rfl rfl k_)) ?_
  obtain ⟨T1, X1, e1, st1⟩ := getF X0 hx hZ hown (host := "") (Or.inl (own_w hw 54 rfl)) Via.refl e0 pF_records_ob (g := (mkF m 2 #[.val (.ref ob), .val (.ref o1)] [(.ref ob), (.ref ob)])) rfl rfl (hb hby d7_2)
  refine own_st st1 ?_
  refine own_st (fun t_ k_ => XS.lconst X1.here hx rfl (hb hby d7_5) (XS.ladd X1.here hx rfl (hb hby d7_6) rfl k_)) ?_
  obtain ⟨T2, h2, X2, e2, W2, st2⟩ := putF X1 hx hZ hown (host := "") (Or.inl (own_w hw 54 rfl)) Via.refl e1 pF_records_ob pE_ob (Or.inl (own_w hw 55 rfl)) (own_w hw 6 rfl) (ty := .long) (by decide) rfl rfl (g := (mkF m 7 #[.val (.ref ob), .val (.ref o1)] [(.long (f0_ + (1 : Int64))), (.ref ob)])) rfl rfl (hb hby d7_7)
  have F2 := pF_records_ob.same W2
  have K3 : Keep h0 h2 [ob] := (Keep.refl h0 [ob]).wr W2 (Or.inl (List.mem_of_getElem? (i := 0) rfl))
  have N2 := Fr.snoc X2 N0 pG_ob
  refine own_st st2 ?_
  refine own_st (fun t_ k_ => XS.aloadN X2.here hx rfl (hb hby d7_10) rfl rfl (XS.dup X2.here hx rfl (hb hby d7_11) rfl rfl k_)) ?_
  have f4 := (pF_candidates_ob.other W2 (Or.inr (slot_ne (Or.inl (own_w hw 57 rfl)) (Or.inl (own_w hw 55 rfl)) (by decide) (t := .long) (t' := .long) (by decide) (by decide))))
  obtain ⟨T5, X5, e5, st5⟩ := getF X2 hx hZ hown (host := "") (Or.inl (own_w hw 56 rfl)) Via.refl e2 f4 (g := (mkF m 12 #[.val (.ref ob), .val (.ref o1)] [(.ref ob), (.ref ob)])) rfl rfl (hb hby d7_12)
  refine own_st st5 ?_
  refine own_st (fun t_ k_ => XS.aloadN X5.here hx rfl (hb hby d7_15) rfl rfl k_) ?_
  have f6 := (Nat.le_trans Z0 (Keep.of_wr W2).1)
  have f7 := (pE_o1.wr W2)
  have f8 := (pE_ob.wr W2)
  have f9 := (pF_candidateLinks_o1.other W2 (Or.inl (Exa.ne f7 f8 (by decide))))
  obtain ⟨cq10, kq10, qa10, qb10, qc10⟩ := isOf hZ e5 f7
  obtain ⟨_, _, ⟨T10, L10, k10, n10⟩, -, X10, ⟨Lc10, hQ10, l10, y10, z10⟩, st10⟩ := X5.virtualBack hx (y := own_y34) (z := own_y34) hown (mvT hZ (own_w hw 58 rfl)) (mvT hZ (own_w hw 59 rfl)) (notFace_of_selects (args := #[]) (mvT hZ (own_w hw 61 rfl))) (mvT hZ (own_w hw 61 rfl)) (mvT hZ (own_w hw 60 rfl)) (by decide) (backOf (W := 3) (rmAcc l Z a0 hw [] o1 cn h2 n0 f6 f7 f9) hZ (own_w hw 62 rfl) (own_w hw 23 rfl) (by decide) (by decide)) qa10 qc10 (g := (mkF m 16 #[.val (.ref ob), .val (.ref o1)] [(.ref o1), (.long f7_), (.ref ob)])) rfl (by rw [hml]; rfl) (Steps.refl _) (argsL := []) (rest := [(.long f7_), (.ref ob)]) (lenOf pd___I rfl) rfl (by show 2 * 0 + _ ≤ _; exact Nat.le_of_eq rfl) (hb hby d7_16) (fun _ _ => ⟨rfl, e5, (by decide : 0 + 0 ≤ _), (by decide : 0 + 0 ≤ _)⟩)
  dsimp only [Pt.U, Pt.locs, Pt.cells, Pt.slots] at X10 l10 y10 z10 st10 hQ10
  try dsimp only [Nat.reduceAdd] at y10 z10
  rw [l10, y10, z10] at X10
  obtain ⟨rfl, Nq10, eH10⟩ := hQ10
  have N10 := Fr.app N2 Nq10
  refine own_tr st10 ?_
  refine own_st (fun t_ k_ => XS.i2l X10.here hx rfl (hb hby d7_19) rfl (XS.ladd X10.here hx rfl (hb hby d7_20) rfl k_)) ?_
  obtain ⟨T11, h11, X11, e11, W11, st11⟩ := putF X10 hx hZ hown (host := "") (Or.inl (own_w hw 56 rfl)) Via.refl eH10 f4 f8 (Or.inl (own_w hw 57 rfl)) (own_w hw 6 rfl) (ty := .long) (by decide) rfl rfl (g := (mkF m 21 #[.val (.ref ob), .val (.ref o1)] [(.long (f7_ + (cn.toInt64))), (.ref ob)])) rfl rfl (hb hby d7_21)
  have F11 := f4.same W11
  have K12 : Keep h0 h11 [ob] := K3.wr W11 (Or.inl (List.mem_of_getElem? (i := 0) rfl))
  have N11 := Fr.snoc X11 N10 pG_ob
  refine own_st st11 ?_
  refine own_st (fun t_ k_ => XS.aloadN X11.here hx rfl (hb hby d7_24) rfl rfl k_) ?_
  have f13 := (Nat.le_trans f6 (Keep.of_wr W11).1)
  have f14 := (f7.wr W11)
  have f15 := (f8.wr W11)
  have f16 := ((pF_change_o1.other W2 (Or.inl (Exa.ne f14 f15 (by decide)))).other W11 (Or.inl (Exa.ne f14 f15 (by decide))))
  obtain ⟨cq17, kq17, qa17, qb17, qc17⟩ := isOf hZ e11 f14
  obtain ⟨_, _, ⟨T17, L17, k17, n17⟩, -, X17, ⟨Lc17, hQ17, l17, y17, z17⟩, st17⟩ := X11.virtualBack hx (y := own_y35) (z := own_y35) hown (mvT hZ (own_w hw 63 rfl)) (mvT hZ (own_w hw 64 rfl)) (notFace_of_selects (args := #[]) (mvT hZ (own_w hw 66 rfl))) (mvT hZ (own_w hw 66 rfl)) (mvT hZ (own_w hw 65 rfl)) (by decide) (backOf (W := 0) (rmAch l Z a0 hw [] o1 nw h11 n0 f13 f14 f16) hZ (own_w hw 67 rfl) (own_w hw 23 rfl) (by decide) (by decide)) qa17 qc17 (g := (mkF m 25 #[.val (.ref ob), .val (.ref o1)] [(.ref o1)])) rfl (by rw [hml]; rfl) (Steps.refl _) (argsL := []) (rest := []) (lenOf pd___Lcom_example_goldweave_goldweave_engine_linking_Registration_Change_ rfl) rfl (by show 2 * 0 + _ ≤ _; exact Nat.le_of_eq rfl) (hb hby d7_25) (fun _ _ => ⟨rfl, e11, (by decide : 0 + 0 ≤ _), (by decide : 0 + 0 ≤ _)⟩)
  dsimp only [Pt.U, Pt.locs, Pt.cells, Pt.slots] at X17 l17 y17 z17 st17 hQ17
  try dsimp only [Nat.reduceAdd] at y17 z17
  rw [l17, y17, z17] at X17
  obtain ⟨rfl, Nq17, eH17⟩ := hQ17
  have N17 := Fr.app N11 Nq17
  refine own_tr st17 ?_
  have f18 := ((pO.wr W2 pG_ob).wr W11 pG_ob)
  obtain ⟨T19, X19, e19, st19⟩ := getS2 X17 hx hZ hown (host := "") (Or.inl (own_w hw 68 rfl)) Via.refl eH17 (pS_NEW.ext f18.2) (g := (mkF m 28 #[.val (.ref ob), .val (.ref o1)] [(.ref nw)])) rfl (hb hby d7_28)
  refine own_st st19 ?_
  refine own_st (fun t_ k_ => Jvm.RoadKit.acmp (g := (mkF m 31 #[.val (.ref ob), .val (.ref o1)] [(.ref nw), (.ref nw)])) X19 hx rfl rfl rfl (pc0 := 31) (pc' := 34) (same := true) rfl (hb hby d7_31) rfl (decide_eq_true rfl) (by decide) (by decide) (XS.aloadN X19.here hx rfl (hb hby d7_34) rfl rfl (XS.dup X19.here hx rfl (hb hby d7_35) rfl rfl k_))) ?_
  have f20 := ((pF_created_ob.other W2 (Or.inr (slot_ne (Or.inl (own_w hw 70 rfl)) (Or.inl (own_w hw 55 rfl)) (by decide) (t := .long) (t' := .long) (by decide) (by decide)))).other W11 (Or.inr (slot_ne (Or.inl (own_w hw 70 rfl)) (Or.inl (own_w hw 57 rfl)) (by decide) (t := .long) (t' := .long) (by decide) (by decide))))
  obtain ⟨T21, X21, e21, st21⟩ := getF X19 hx hZ hown (host := "") (Or.inl (own_w hw 69 rfl)) Via.refl e19 f20 (g := (mkF m 36 #[.val (.ref ob), .val (.ref o1)] [(.ref ob), (.ref ob)])) rfl rfl (hb hby d7_36)
  refine own_st st21 ?_
  refine own_st (fun t_ k_ => XS.lconst X21.here hx rfl (hb hby d7_39) (XS.ladd X21.here hx rfl (hb hby d7_40) rfl k_)) ?_
  obtain ⟨T22, h22, X22, e22, W22, st22⟩ := putF X21 hx hZ hown (host := "") (Or.inl (own_w hw 69 rfl)) Via.refl e21 f20 f15 (Or.inl (own_w hw 70 rfl)) (own_w hw 6 rfl) (ty := .long) (by decide) rfl rfl (g := (mkF m 41 #[.val (.ref ob), .val (.ref o1)] [(.long (f1_ + (1 : Int64))), (.ref ob)])) rfl rfl (hb hby d7_41)
  have F22 := f20.same W22
  have K23 : Keep h0 h22 [ob] := K12.wr W22 (Or.inl (List.mem_of_getElem? (i := 0) rfl))
  have N22 := Fr.snoc X22 N17 pG_ob
  refine own_st st22 ?_
  refine own_st (fun t_ k_ => XS.aloadN X22.here hx rfl (hb hby d7_44) rfl rfl k_) ?_
  have f24 := (Nat.le_trans f13 (Keep.of_wr W22).1)
  have f25 := (f14.wr W22)
  have f26 := (f15.wr W22)
  have f27 := (((pF_newGoldenRecord_o1.other W2 (Or.inl (Exa.ne f25 f26 (by decide)))).other W11 (Or.inl (Exa.ne f25 f26 (by decide)))).other W22 (Or.inl (Exa.ne f25 f26 (by decide))))
  obtain ⟨cq28, kq28, qa28, qb28, qc28⟩ := isOf hZ e22 f25
  obtain ⟨_, _, ⟨T28, L28, k28, n28⟩, -, X28, ⟨Lc28, hQ28, l28, y28, z28⟩, st28⟩ := X22.virtualBack hx (y := own_y36) (z := own_y36) hown (mvT hZ (own_w hw 71 rfl)) (mvT hZ (own_w hw 72 rfl)) (notFace_of_selects (args := #[]) (mvT hZ (own_w hw 74 rfl))) (mvT hZ (own_w hw 74 rfl)) (mvT hZ (own_w hw 73 rfl)) (by decide) (backOf (W := 0) (rmAg0 l Z a0 hw [] o1 h22 n0 f24 f25 f27) hZ (own_w hw 75 rfl) (own_w hw 23 rfl) (by decide) (by decide)) qa28 qc28 (g := (mkF m 45 #[.val (.ref ob), .val (.ref o1)] [(.ref o1)])) rfl (by rw [hml]; rfl) (Steps.refl _) (argsL := []) (rest := []) (lenOf pd___Z rfl) rfl (by show 2 * 0 + _ ≤ _; exact Nat.le_of_eq rfl) (hb hby d7_45) (fun _ _ => ⟨rfl, e22, (by decide : 0 + 0 ≤ _), (by decide : 0 + 0 ≤ _)⟩)
  dsimp only [Pt.U, Pt.locs, Pt.cells, Pt.slots] at X28 l28 y28 z28 st28 hQ28
  try dsimp only [Nat.reduceAdd] at y28 z28
  rw [l28, y28, z28] at X28
  obtain ⟨rfl, Nq28, eH28⟩ := hQ28
  have N28 := Fr.app N22 Nq28
  refine own_tr st28 ?_
  refine own_st (fun t_ k_ => XS.ifYes X28.here hx rfl (pc0 := 48) (pc' := 64) rfl (hb hby d7_48) rfl (by decide) (by decide) (by decide) (XS.aloadN X28.here hx rfl (hb hby d7_64) rfl rfl (XS.dup X28.here hx rfl (hb hby d7_65) rfl rfl k_))) ?_
  have f29 := (((pF_linked_ob.other W2 (Or.inr (slot_ne (Or.inl (own_w hw 77 rfl)) (Or.inl (own_w hw 55 rfl)) (by decide) (t := .long) (t' := .long) (by decide) (by decide)))).other W11 (Or.inr (slot_ne (Or.inl (own_w hw 77 rfl)) (Or.inl (own_w hw 57 rfl)) (by decide) (t := .long) (t' := .long) (by decide) (by decide)))).other W22 (Or.inr (slot_ne (Or.inl (own_w hw 77 rfl)) (Or.inl (own_w hw 70 rfl)) (by decide) (t := .long) (t' := .long) (by decide) (by decide))))
  obtain ⟨T30, X30, e30, st30⟩ := getF X28 hx hZ hown (host := "") (Or.inl (own_w hw 76 rfl)) Via.refl eH28 f29 (g := (mkF m 66 #[.val (.ref ob), .val (.ref o1)] [(.ref ob), (.ref ob)])) rfl rfl (hb hby d7_66)
  refine own_st st30 ?_
  refine own_st (fun t_ k_ => XS.lconst X30.here hx rfl (hb hby d7_69) (XS.ladd X30.here hx rfl (hb hby d7_70) rfl k_)) ?_
  obtain ⟨T31, h31, X31, e31, W31, st31⟩ := putF X30 hx hZ hown (host := "") (Or.inl (own_w hw 76 rfl)) Via.refl e30 f29 f26 (Or.inl (own_w hw 77 rfl)) (own_w hw 6 rfl) (ty := .long) (by decide) rfl rfl (g := (mkF m 71 #[.val (.ref ob), .val (.ref o1)] [(.long (f5_ + (1 : Int64))), (.ref ob)])) rfl rfl (hb hby d7_71)
  have F31 := f29.same W31
  have K32 : Keep h0 h31 [ob] := K23.wr W31 (Or.inl (List.mem_of_getElem? (i := 0) rfl))
  have N31 := Fr.snoc X31 N28 pG_ob
  refine own_st st31 ?_
  refine own_st (fun t_ k_ => XS.goto X31.here hx rfl (pc0 := 74) (pc' := 110) rfl (hb hby d7_74) (by decide) (by decide) k_) ?_
  have f33 := (f26.wr W31)
  have f34 := (((F2.other W11 (Or.inr (slot_ne (Or.inl (own_w hw 55 rfl)) (Or.inl (own_w hw 57 rfl)) (by decide) (t := .long) (t' := .long) (by decide) (by decide)))).other W22 (Or.inr (slot_ne (Or.inl (own_w hw 55 rfl)) (Or.inl (own_w hw 70 rfl)) (by decide) (t := .long) (t' := .long) (by decide) (by decide)))).other W31 (Or.inr (slot_ne (Or.inl (own_w hw 55 rfl)) (Or.inl (own_w hw 77 rfl)) (by decide) (t := .long) (t' := .long) (by decide) (by decide))))
  have f35 := (F22.other W31 (Or.inr (slot_ne (Or.inl (own_w hw 70 rfl)) (Or.inl (own_w hw 77 rfl)) (by decide) (t := .long) (t' := .long) (by decide) (by decide))))
  have f36 := ((((pF_updated_ob.other W2 (Or.inr (slot_ne (Or.inl (own_w hw 200 rfl)) (Or.inl (own_w hw 55 rfl)) (by decide) (t := .long) (t' := .long) (by decide) (by decide)))).other W11 (Or.inr (slot_ne (Or.inl (own_w hw 200 rfl)) (Or.inl (own_w hw 57 rfl)) (by decide) (t := .long) (t' := .long) (by decide) (by decide)))).other W22 (Or.inr (slot_ne (Or.inl (own_w hw 200 rfl)) (Or.inl (own_w hw 70 rfl)) (by decide) (t := .long) (t' := .long) (by decide) (by decide)))).other W31 (Or.inr (slot_ne (Or.inl (own_w hw 200 rfl)) (Or.inl (own_w hw 77 rfl)) (by decide) (t := .long) (t' := .long) (by decide) (by decide))))
  have f37 := ((((pF_unchanged_ob.other W2 (Or.inr (slot_ne (Or.inl (own_w hw 203 rfl)) (Or.inl (own_w hw 55 rfl)) (by decide) (t := .long) (t' := .long) (by decide) (by decide)))).other W11 (Or.inr (slot_ne (Or.inl (own_w hw 203 rfl)) (Or.inl (own_w hw 57 rfl)) (by decide) (t := .long) (t' := .long) (by decide) (by decide)))).other W22 (Or.inr (slot_ne (Or.inl (own_w hw 203 rfl)) (Or.inl (own_w hw 70 rfl)) (by decide) (t := .long) (t' := .long) (by decide) (by decide)))).other W31 (Or.inr (slot_ne (Or.inl (own_w hw 203 rfl)) (Or.inl (own_w hw 77 rfl)) (by decide) (t := .long) (t' := .long) (by decide) (by decide))))
  have f38 := ((((pF_rejected_ob.other W2 (Or.inr (slot_ne (Or.inl (own_w hw 206 rfl)) (Or.inl (own_w hw 55 rfl)) (by decide) (t := .long) (t' := .long) (by decide) (by decide)))).other W11 (Or.inr (slot_ne (Or.inl (own_w hw 206 rfl)) (Or.inl (own_w hw 57 rfl)) (by decide) (t := .long) (t' := .long) (by decide) (by decide)))).other W22 (Or.inr (slot_ne (Or.inl (own_w hw 206 rfl)) (Or.inl (own_w hw 70 rfl)) (by decide) (t := .long) (t' := .long) (by decide) (by decide)))).other W31 (Or.inr (slot_ne (Or.inl (own_w hw 206 rfl)) (Or.inl (own_w hw 77 rfl)) (by decide) (t := .long) (t' := .long) (by decide) (by decide))))
  have f39 := ((((pF_newMasters_ob.other W2 (Or.inr (slot_ne (Or.inl (own_w hw 210 rfl)) (Or.inl (own_w hw 55 rfl)) (by decide) (t := .long) (t' := .long) (by decide) (by decide)))).other W11 (Or.inr (slot_ne (Or.inl (own_w hw 210 rfl)) (Or.inl (own_w hw 57 rfl)) (by decide) (t := .long) (t' := .long) (by decide) (by decide)))).other W22 (Or.inr (slot_ne (Or.inl (own_w hw 210 rfl)) (Or.inl (own_w hw 70 rfl)) (by decide) (t := .long) (t' := .long) (by decide) (by decide)))).other W31 (Or.inr (slot_ne (Or.inl (own_w hw 210 rfl)) (Or.inl (own_w hw 77 rfl)) (by decide) (t := .long) (t' := .long) (by decide) (by decide))))
  have f40 := ((F11.other W22 (Or.inr (slot_ne (Or.inl (own_w hw 57 rfl)) (Or.inl (own_w hw 70 rfl)) (by decide) (t := .long) (t' := .long) (by decide) (by decide)))).other W31 (Or.inr (slot_ne (Or.inl (own_w hw 57 rfl)) (Or.inl (own_w hw 77 rfl)) (by decide) (t := .long) (t' := .long) (by decide) (by decide))))
  obtain ⟨fs, hr, hrun, hended, hW, hsame⟩ := X31.leave (v := none) (fun _ => rfl)
  refine own_fin (X31.returnOut hx Bd.returns (hb hby d7_110) hr) ⟨hrun, hended, _, _, rfl, ?_, ⟨_, rfl⟩, hW, hsame.mono (by decide) (by decide)⟩
  show Q_rmAd2 Z ob o1 cn f0_ f1_ f2_ f3_ f4_ f5_ f6_ f7_ nw up un h0 n0 _ T31.heap _
  rw [e31]
  exact ⟨rfl, N31, K32, f33, f34, f35, f36, f37, f38, F31, f39, f40⟩
theorem d7_77 : decode own_c7 77 = .ok (.aload_n 1, 1) := by decide +kernel
theorem d7_78 : decode own_c7 78 = .ok (.invokevirtual 22, 3) := by decide +kernel
theorem d7_81 : decode own_c7 81 = .ok (.getstatic 45, 3) := by decide +kernel
theorem d7_84 : decode own_c7 84 = .ok (.if_acmp .ne 16, 3) := by decide +kernel
theorem d7_87 : decode own_c7 87 = .ok (.aload_n 0, 1) := by decide +kernel
theorem d7_88 : decode own_c7 88 = .ok (.dup, 1) := by decide +kernel
theorem d7_89 : decode own_c7 89 = .ok (.getfield 48, 3) := by decide +kernel
theorem d7_92 : decode own_c7 92 = .ok (.lconst 1, 1) := by decide +kernel
theorem d7_93 : decode own_c7 93 = .ok (.ladd, 1) := by decide +kernel
theorem d7_94 : decode own_c7 94 = .ok (.putfield 48, 3) := by decide +kernel
theorem d7_97 : decode own_c7 97 = .ok (.goto 13, 3) := by decide +kernel
theorem ef_rmAd3 (m : MethodId) (x0 : Addr) (x1 : Addr) : entryFrame m #[(.ref x0), (.ref x1)] 2 = mkF m 0 #[.val (.ref x0), .val (.ref x1)] [] := by first | (simp [entryFrame, mkF, argsToLocals, Value.category]; done) | rfl
def Q_rmAd3 (Z : State) (ob : Addr) (o1 : Addr) (cn : Int32) (f0_ : Int64) (f1_ : Int64) (f2_ : Int64) (f3_ : Int64) (f4_ : Int64) (f5_ : Int64) (f6_ : Int64) (f7_ : Int64) (nw : Addr) (up : Addr) (un : Addr) (h0 : Heap) (n0 : Nat) (v : Option Value) (h : Heap) (L : List Loc) : Prop := v = none ∧ Fr n0 L ∧ Keep h0 h [ob] ∧ Exa Z h ob "com/example/goldweave/goldweave/server/cli/LoadSummary" ∧ Fld Z h ob "com/example/goldweave/goldweave/server/cli/LoadSummary" "records" "J" (.long (f0_ + (1 : Int64))) ∧ Fld Z h ob "com/example/goldweave/goldweave/server/cli/LoadSummary" "created" "J" (.long f1_) ∧ Fld Z h ob "com/example/goldweave/goldweave/server/cli/LoadSummary" "updated" "J" (.long (f2_ + (1 : Int64))) ∧ Fld Z h ob "com/example/goldweave/goldweave/server/cli/LoadSummary" "unchanged" "J" (.long f3_) ∧ Fld Z h ob "com/example/goldweave/goldweave/server/cli/LoadSummary" "rejected" "J" (.long f4_) ∧ Fld Z h ob "com/example/goldweave/goldweave/server/cli/LoadSummary" "linked" "J" (.long f5_) ∧ Fld Z h ob "com/example/goldweave/goldweave/server/cli/LoadSummary" "newMasters" "J" (.long f6_) ∧ Fld Z h ob "com/example/goldweave/goldweave/server/cli/LoadSummary" "candidates" "J" (.long (f7_ + cn.toInt64))
set_option maxRecDepth 65536 in
set_option maxHeartbeats 40000000 in
theorem rmAd3 (l : Launch) (Z : State) (a0 : Array Value) (hw : ∀ d ∈ tables_1, d.before a0 Z = true) (ws : List Jvm.Cond) (ob : Addr) (o1 : Addr) (cn : Int32) (f0_ : Int64) (f1_ : Int64) (f2_ : Int64) (f3_ : Int64) (f4_ : Int64) (f5_ : Int64) (f6_ : Int64) (f7_ : Int64) (nw : Addr) (up : Addr) (un : Addr) (h0 : Heap) (n0 : Nat) (Z0 : n0 ≤ h0.size) (pE_ob : Exa Z h0 ob "com/example/goldweave/goldweave/server/cli/LoadSummary") (pF_records_ob : Fld Z h0 ob "com/example/goldweave/goldweave/server/cli/LoadSummary" "records" "J" (.long f0_)) (pF_created_ob : Fld Z h0 ob "com/example/goldweave/goldweave/server/cli/LoadSummary" "created" "J" (.long f1_)) (pF_updated_ob : Fld Z h0 ob "com/example/goldweave/goldweave/server/cli/LoadSummary" "updated" "J" (.long f2_)) (pF_unchanged_ob : Fld Z h0 ob "com/example/goldweave/goldweave/server/cli/LoadSummary" "unchanged" "J" (.long f3_)) (pF_rejected_ob : Fld Z h0 ob "com/example/goldweave/goldweave/server/cli/LoadSummary" "rejected" "J" (.long f4_)) (pF_linked_ob : Fld Z h0 ob "com/example/goldweave/goldweave/server/cli/LoadSummary" "linked" "J" (.long f5_)) (pF_newMasters_ob : Fld Z h0 ob "com/example/goldweave/goldweave/server/cli/LoadSummary" "newMasters" "J" (.long f6_)) (pF_candidates_ob : Fld Z h0 ob "com/example/goldweave/goldweave/server/cli/LoadSummary" "candidates" "J" (.long f7_)) (pE_o1 : Exa Z h0 o1 "com/example/goldweave/goldweave/engine/linking/Registration") (pF_change_o1 : Fld Z h0 o1 "com/example/goldweave/goldweave/engine/linking/Registration" "change" "Lcom/example/goldweave/goldweave/engine/linking/Registration$Change;" (.ref up)) (pF_newGoldenRecord_o1 : Fld Z h0 o1 "com/example/goldweave/goldweave/engine/linking/Registration" "newGoldenRecord" "Z" (.int (0 : Int32))) (pF_candidateLinks_o1 : Fld Z h0 o1 "com/example/goldweave/goldweave/engine/linking/Registration" "candidateLinks" "I" (.int cn)) (pG_ob : n0 ≤ ob) (pS_NEW : Sta Z Z.heap "com/example/goldweave/goldweave/engine/linking/Registration$Change" "NEW" "Lcom/example/goldweave/goldweave/engine/linking/Registration$Change;" (.ref nw)) (pS_UPDATED : Sta Z Z.heap "com/example/goldweave/goldweave/engine/linking/Registration$Change" "UPDATED" "Lcom/example/goldweave/goldweave/engine/linking/Registration$Change;" (.ref up)) (pS_UNCHANGED : Sta Z Z.heap "com/example/goldweave/goldweave/engine/linking/Registration$Change" "UNCHANGED" "Lcom/example/goldweave/goldweave/engine/linking/Registration$Change;" (.ref un)) (hun : (up ≠ nw)) (hcn : (un ≠ nw)) (hcu : (un ≠ up)) (pO : Old Z n0 h0) :
    MetFree l own_y37 (head1 (Jvm.Cond.code own_y37 prog_62_method_2_code 2 none :: ws) ({ frames := 1, cells := 0, slots := 0, locals := 15 } : Room)) (fun a U => a = #[(.ref ob), (.ref o1)] ∧ Z.Warmed39 U.vm ∧ U.heap = h0) (fun _ _ _ _ _ => True) (fun _ U o U' => ∃ v L, o = .returned v ∧ Q_rmAd3 Z ob o1 cn f0_ f1_ f2_ f3_ f4_ f5_ f6_ f7_ nw up un h0 n0 v U'.heap L ∧ FrameEnd U o U' L ({ frames := 1, cells := 0, slots := 0, locals := 15 } : Room).cells ({ frames := 1, cells := 0, slots := 0, locals := 15 } : Room).slots) := by
  refine MetFree.of_bodySF (plainFor_of_name pn_7) hisR ?_
  intro p e s m args below meth c s₁ Bd hml0 hP hK
  obtain ⟨rfl, hZ, hh⟩ := hP
  have hx := Bd.exec
  have hby := Bd.bytes
  have hml : c.maxLocals = 2 := hml0
  have hown : s.vm.findClass "com/example/goldweave/goldweave/server/cli/LoadSummary" = some m.cls := findClass_of_methodNamed Bd.named
  have hnm := (name_of_methodNamed Bd.named Bd.method).1
  have X0 : Stand p l e ({ frames := 1, cells := 0, slots := 0, locals := 15 } : Room) s m #[(.ref ob), (.ref o1)] below meth c s₁ [] 0 0 := Stand.of_body Bd
  have e0 : s₁.heap = h0 := by rw [← hh, Bd.state]; rfl
  have N0 := Fr.nil n0
  refine own_enter (ef_rmAd3 m ob o1) ?_
  refine own_st (fun t_ k_ => XS.aloadN X0.here hx rfl (hb hby d7_0) rfl rfl (XS.dup X0.here hx rfl (hb hby d7_1) rfl rfl k_)) ?_
  obtain ⟨T1, X1, e1, st1⟩ := getF X0 hx hZ hown (host := "") (Or.inl (own_w hw 54 rfl)) Via.refl e0 pF_records_ob (g := (mkF m 2 #[.val (.ref ob), .val (.ref o1)] [(.ref ob), (.ref ob)])) rfl rfl (hb hby d7_2)
  refine own_st st1 ?_
  refine own_st (fun t_ k_ => XS.lconst X1.here hx rfl (hb hby d7_5) (XS.ladd X1.here hx rfl (hb hby d7_6) rfl k_)) ?_
  obtain ⟨T2, h2, X2, e2, W2, st2⟩ := putF X1 hx hZ hown (host := "") (Or.inl (own_w hw 54 rfl)) Via.refl e1 pF_records_ob pE_ob (Or.inl (own_w hw 55 rfl)) (own_w hw 6 rfl) (ty := .long) (by decide) rfl rfl (g := (mkF m 7 #[.val (.ref ob), .val (.ref o1)] [(.long (f0_ + (1 : Int64))), (.ref ob)])) rfl rfl (hb hby d7_7)
  have F2 := pF_records_ob.same W2
  have K3 : Keep h0 h2 [ob] := (Keep.refl h0 [ob]).wr W2 (Or.inl (List.mem_of_getElem? (i := 0) rfl))
  have N2 := Fr.snoc X2 N0 pG_ob
  refine own_st st2 ?_
  refine own_st (fun t_ k_ => XS.aloadN X2.here hx rfl (hb hby d7_10) rfl rfl (XS.dup X2.here hx rfl (hb hby d7_11) rfl rfl k_)) ?_
  have f4 := (pF_candidates_ob.other W2 (Or.inr (slot_ne (Or.inl (own_w hw 57 rfl)) (Or.inl (own_w hw 55 rfl)) (by decide) (t := .long) (t' := .long) (by decide) (by decide))))
  obtain ⟨T5, X5, e5, st5⟩ := getF X2 hx hZ hown (host := "") (Or.inl (own_w hw 56 rfl)) Via.refl e2 f4 (g := (mkF m 12 #[.val (.ref ob), .val (.ref o1)] [(.ref ob), (.ref ob)])) rfl rfl (hb hby d7_12)
  refine own_st st5 ?_
  refine own_st (fun t_ k_ => XS.aloadN X5.here hx rfl (hb hby d7_15) rfl rfl k_) ?_
  have f6 := (Nat.le_trans Z0 (Keep.of_wr W2).1)
  have f7 := (pE_o1.wr W2)
  have f8 := (pE_ob.wr W2)
  have f9 := (pF_candidateLinks_o1.other W2 (Or.inl (Exa.ne f7 f8 (by decide))))
  obtain ⟨cq10, kq10, qa10, qb10, qc10⟩ := isOf hZ e5 f7
  obtain ⟨_, _, ⟨T10, L10, k10, n10⟩, -, X10, ⟨Lc10, hQ10, l10, y10, z10⟩, st10⟩ := X5.virtualBack hx (y := own_y34) (z := own_y34) hown (mvT hZ (own_w hw 58 rfl)) (mvT hZ (own_w hw 59 rfl)) (notFace_of_selects (args := #[]) (mvT hZ (own_w hw 61 rfl))) (mvT hZ (own_w hw 61 rfl)) (mvT hZ (own_w hw 60 rfl)) (by decide) (backOf (W := 3) (rmAcc l Z a0 hw [] o1 cn h2 n0 f6 f7 f9) hZ (own_w hw 62 rfl) (own_w hw 23 rfl) (by decide) (by decide)) qa10 qc10 (g := (mkF m 16 #[.val (.ref ob), .val (.ref o1)] [(.ref o1), (.long f7_), (.ref ob)])) rfl (by rw [hml]; rfl) (Steps.refl _) (argsL := []) (rest := [(.long f7_), (.ref ob)]) (lenOf pd___I rfl) rfl (by show 2 * 0 + _ ≤ _; exact Nat.le_of_eq rfl) (hb hby d7_16) (fun _ _ => ⟨rfl, e5, (by decide : 0 + 0 ≤ _), (by decide : 0 + 0 ≤ _)⟩)
  dsimp only [Pt.U, Pt.locs, Pt.cells, Pt.slots] at X10 l10 y10 z10 st10 hQ10
  try dsimp only [Nat.reduceAdd] at y10 z10
  rw [l10, y10, z10] at X10
  obtain ⟨rfl, Nq10, eH10⟩ := hQ10
  have N10 := Fr.app N2 Nq10
  refine own_tr st10 ?_
  refine own_st (fun t_ k_ => XS.i2l X10.here hx rfl (hb hby d7_19) rfl (XS.ladd X10.here hx rfl (hb hby d7_20) rfl k_)) ?_
  obtain ⟨T11, h11, X11, e11, W11, st11⟩ := putF X10 hx hZ hown (host := "") (Or.inl (own_w hw 56 rfl)) Via.refl eH10 f4 f8 (Or.inl (own_w hw 57 rfl)) (own_w hw 6 rfl) (ty := .long) (by decide) rfl rfl (g := (mkF m 21 #[.val (.ref ob), .val (.ref o1)] [(.long (f7_ + (cn.toInt64))), (.ref ob)])) rfl rfl (hb hby d7_21)
  have F11 := f4.same W11
  have K12 : Keep h0 h11 [ob] := K3.wr W11 (Or.inl (List.mem_of_getElem? (i := 0) rfl))
  have N11 := Fr.snoc X11 N10 pG_ob
  refine own_st st11 ?_
  refine own_st (fun t_ k_ => XS.aloadN X11.here hx rfl (hb hby d7_24) rfl rfl k_) ?_
  have f13 := (Nat.le_trans f6 (Keep.of_wr W11).1)
  have f14 := (f7.wr W11)
  have f15 := (f8.wr W11)
  have f16 := ((pF_change_o1.other W2 (Or.inl (Exa.ne f14 f15 (by decide)))).other W11 (Or.inl (Exa.ne f14 f15 (by decide))))
  obtain ⟨cq17, kq17, qa17, qb17, qc17⟩ := isOf hZ e11 f14
  obtain ⟨_, _, ⟨T17, L17, k17, n17⟩, -, X17, ⟨Lc17, hQ17, l17, y17, z17⟩, st17⟩ := X11.virtualBack hx (y := own_y35) (z := own_y35) hown (mvT hZ (own_w hw 63 rfl)) (mvT hZ (own_w hw 64 rfl)) (notFace_of_selects (args := #[]) (mvT hZ (own_w hw 66 rfl))) (mvT hZ (own_w hw 66 rfl)) (mvT hZ (own_w hw 65 rfl)) (by decide) (backOf (W := 0) (rmAch l Z a0 hw [] o1 up h11 n0 f13 f14 f16) hZ (own_w hw 67 rfl) (own_w hw 23 rfl) (by decide) (by decide)) qa17 qc17 (g := (mkF m 25 #[.val (.ref ob), .val (.ref o1)] [(.ref o1)])) rfl (by rw [hml]; rfl) (Steps.refl _) (argsL := []) (rest := []) (lenOf pd___Lcom_example_goldweave_goldweave_engine_linking_Registration_Change_ rfl) rfl (by show 2 * 0 + _ ≤ _; exact Nat.le_of_eq rfl) (hb hby d7_25) (fun _ _ => ⟨rfl, e11, (by decide : 0 + 0 ≤ _), (by decide : 0 + 0 ≤ _)⟩)
  dsimp only [Pt.U, Pt.locs, Pt.cells, Pt.slots] at X17 l17 y17 z17 st17 hQ17
  try dsimp only [Nat.reduceAdd] at y17 z17
  rw [l17, y17, z17] at X17
  obtain ⟨rfl, Nq17, eH17⟩ := hQ17
  have N17 := Fr.app N11 Nq17
  refine own_tr st17 ?_
  have f18 := ((pO.wr W2 pG_ob).wr W11 pG_ob)
  obtain ⟨T19, X19, e19, st19⟩ := getS2 X17 hx hZ hown (host := "") (Or.inl (own_w hw 68 rfl)) Via.refl eH17 (pS_NEW.ext f18.2) (g := (mkF m 28 #[.val (.ref ob), .val (.ref o1)] [(.ref up)])) rfl (hb hby d7_28)
  refine own_st st19 ?_
  refine own_st (fun t_ k_ => Jvm.RoadKit.acmp (g := (mkF m 31 #[.val (.ref ob), .val (.ref o1)] [(.ref nw), (.ref up)])) X19 hx rfl rfl rfl (pc0 := 31) (pc' := 77) (same := false) rfl (hb hby d7_31) rfl (decide_eq_false fun q => hun (Value.ref.inj q)) (by decide) (by decide) (XS.aloadN X19.here hx rfl (hb hby d7_77) rfl rfl k_)) ?_
  obtain ⟨cq20, kq20, qa20, qb20, qc20⟩ := isOf hZ e19 f14
  obtain ⟨_, _, ⟨T20, L20, k20, n20⟩, -, X20, ⟨Lc20, hQ20, l20, y20, z20⟩, st20⟩ := X19.virtualBack hx (y := own_y35) (z := own_y35) hown (mvT hZ (own_w hw 63 rfl)) (mvT hZ (own_w hw 64 rfl)) (notFace_of_selects (args := #[]) (mvT hZ (own_w hw 66 rfl))) (mvT hZ (own_w hw 66 rfl)) (mvT hZ (own_w hw 65 rfl)) (by decide) (backOf (W := 0) (rmAch l Z a0 hw [] o1 up h11 n0 f13 f14 f16) hZ (own_w hw 67 rfl) (own_w hw 23 rfl) (by decide) (by decide)) qa20 qc20 (g := (mkF m 78 #[.val (.ref ob), .val (.ref o1)] [(.ref o1)])) rfl (by rw [hml]; rfl) (Steps.refl _) (argsL := []) (rest := []) (lenOf pd___Lcom_example_goldweave_goldweave_engine_linking_Registration_Change_ rfl) rfl (by show 2 * 0 + _ ≤ _; exact Nat.le_of_eq rfl) (hb hby d7_78) (fun _ _ => ⟨rfl, e19, (by decide : 0 + 0 ≤ _), (by decide : 0 + 0 ≤ _)⟩)
  dsimp only [Pt.U, Pt.locs, Pt.cells, Pt.slots] at X20 l20 y20 z20 st20 hQ20
  try dsimp only [Nat.reduceAdd] at y20 z20
  rw [l20, y20, z20] at X20
  obtain ⟨rfl, Nq20, eH20⟩ := hQ20
  have N20 := Fr.app N17 Nq20
  refine own_tr st20 ?_
  obtain ⟨T21, X21, e21, st21⟩ := getS2 X20 hx hZ hown (host := "") (Or.inl (own_w hw 285 rfl)) Via.refl eH20 (pS_UPDATED.ext f18.2) (g := (mkF m 81 #[.val (.ref ob), .val (.ref o1)] [(.ref up)])) rfl (hb hby d7_81)
  refine own_st st21 ?_
  refine own_st (fun t_ k_ => Jvm.RoadKit.acmp (g := (mkF m 84 #[.val (.ref ob), .val (.ref o1)] [(.ref up), (.ref up)])) X21 hx rfl rfl rfl (pc0 := 84) (pc' := 87) (same := true) rfl (hb hby d7_84) rfl (decide_eq_true rfl) (by decide) (by decide) (XS.aloadN X21.here hx rfl (hb hby d7_87) rfl rfl (XS.dup X21.here hx rfl (hb hby d7_88) rfl rfl k_))) ?_
  have f22 := ((pF_updated_ob.other W2 (Or.inr (slot_ne (Or.inl (own_w hw 200 rfl)) (Or.inl (own_w hw 55 rfl)) (by decide) (t := .long) (t' := .long) (by decide) (by decide)))).other W11 (Or.inr (slot_ne (Or.inl (own_w hw 200 rfl)) (Or.inl (own_w hw 57 rfl)) (by decide) (t := .long) (t' := .long) (by decide) (by decide))))
  obtain ⟨T23, X23, e23, st23⟩ := getF X21 hx hZ hown (host := "") (Or.inl (own_w hw 199 rfl)) Via.refl e21 f22 (g := (mkF m 89 #[.val (.ref ob), .val (.ref o1)] [(.ref ob), (.ref ob)])) rfl rfl (hb hby d7_89)
  refine own_st st23 ?_
  refine own_st (fun t_ k_ => XS.lconst X23.here hx rfl (hb hby d7_92) (XS.ladd X23.here hx rfl (hb hby d7_93) rfl k_)) ?_
  obtain ⟨T24, h24, X24, e24, W24, st24⟩ := putF X23 hx hZ hown (host := "") (Or.inl (own_w hw 199 rfl)) Via.refl e23 f22 f15 (Or.inl (own_w hw 200 rfl)) (own_w hw 6 rfl) (ty := .long) (by decide) rfl rfl (g := (mkF m 94 #[.val (.ref ob), .val (.ref o1)] [(.long (f2_ + (1 : Int64))), (.ref ob)])) rfl rfl (hb hby d7_94)
  have F24 := f22.same W24
  have K25 : Keep h0 h24 [ob] := K12.wr W24 (Or.inl (List.mem_of_getElem? (i := 0) rfl))
  have N24 := Fr.snoc X24 N20 pG_ob
  refine own_st st24 ?_
  refine own_st (fun t_ k_ => XS.goto X24.here hx rfl (pc0 := 97) (pc' := 110) rfl (hb hby d7_97) (by decide) (by decide) k_) ?_
  have f26 := (f15.wr W24)
  have f27 := ((F2.other W11 (Or.inr (slot_ne (Or.inl (own_w hw 55 rfl)) (Or.inl (own_w hw 57 rfl)) (by decide) (t := .long) (t' := .long) (by decide) (by decide)))).other W24 (Or.inr (slot_ne (Or.inl (own_w hw 55 rfl)) (Or.inl (own_w hw 200 rfl)) (by decide) (t := .long) (t' := .long) (by decide) (by decide))))
  have f28 := (((pF_created_ob.other W2 (Or.inr (slot_ne (Or.inl (own_w hw 70 rfl)) (Or.inl (own_w hw 55 rfl)) (by decide) (t := .long) (t' := .long) (by decide) (by decide)))).other W11 (Or.inr (slot_ne (Or.inl (own_w hw 70 rfl)) (Or.inl (own_w hw 57 rfl)) (by decide) (t := .long) (t' := .long) (by decide) (by decide)))).other W24 (Or.inr (slot_ne (Or.inl (own_w hw 70 rfl)) (Or.inl (own_w hw 200 rfl)) (by decide) (t := .long) (t' := .long) (by decide) (by decide))))
  have f29 := (((pF_unchanged_ob.other W2 (Or.inr (slot_ne (Or.inl (own_w hw 203 rfl)) (Or.inl (own_w hw 55 rfl)) (by decide) (t := .long) (t' := .long) (by decide) (by decide)))).other W11 (Or.inr (slot_ne (Or.inl (own_w hw 203 rfl)) (Or.inl (own_w hw 57 rfl)) (by decide) (t := .long) (t' := .long) (by decide) (by decide)))).other W24 (Or.inr (slot_ne (Or.inl (own_w hw 203 rfl)) (Or.inl (own_w hw 200 rfl)) (by decide) (t := .long) (t' := .long) (by decide) (by decide))))
  have f30 := (((pF_rejected_ob.other W2 (Or.inr (slot_ne (Or.inl (own_w hw 206 rfl)) (Or.inl (own_w hw 55 rfl)) (by decide) (t := .long) (t' := .long) (by decide) (by decide)))).other W11 (Or.inr (slot_ne (Or.inl (own_w hw 206 rfl)) (Or.inl (own_w hw 57 rfl)) (by decide) (t := .long) (t' := .long) (by decide) (by decide)))).other W24 (Or.inr (slot_ne (Or.inl (own_w hw 206 rfl)) (Or.inl (own_w hw 200 rfl)) (by decide) (t := .long) (t' := .long) (by decide) (by decide))))
  have f31 := (((pF_linked_ob.other W2 (Or.inr (slot_ne (Or.inl (own_w hw 77 rfl)) (Or.inl (own_w hw 55 rfl)) (by decide) (t := .long) (t' := .long) (by decide) (by decide)))).other W11 (Or.inr (slot_ne (Or.inl (own_w hw 77 rfl)) (Or.inl (own_w hw 57 rfl)) (by decide) (t := .long) (t' := .long) (by decide) (by decide)))).other W24 (Or.inr (slot_ne (Or.inl (own_w hw 77 rfl)) (Or.inl (own_w hw 200 rfl)) (by decide) (t := .long) (t' := .long) (by decide) (by decide))))
  have f32 := (((pF_newMasters_ob.other W2 (Or.inr (slot_ne (Or.inl (own_w hw 210 rfl)) (Or.inl (own_w hw 55 rfl)) (by decide) (t := .long) (t' := .long) (by decide) (by decide)))).other W11 (Or.inr (slot_ne (Or.inl (own_w hw 210 rfl)) (Or.inl (own_w hw 57 rfl)) (by decide) (t := .long) (t' := .long) (by decide) (by decide)))).other W24 (Or.inr (slot_ne (Or.inl (own_w hw 210 rfl)) (Or.inl (own_w hw 200 rfl)) (by decide) (t := .long) (t' := .long) (by decide) (by decide))))
  have f33 := (F11.other W24 (Or.inr (slot_ne (Or.inl (own_w hw 57 rfl)) (Or.inl (own_w hw 200 rfl)) (by decide) (t := .long) (t' := .long) (by decide) (by decide))))
  obtain ⟨fs, hr, hrun, hended, hW, hsame⟩ := X24.leave (v := none) (fun _ => rfl)
  refine own_fin (X24.returnOut hx Bd.returns (hb hby d7_110) hr) ⟨hrun, hended, _, _, rfl, ?_, ⟨_, rfl⟩, hW, hsame.mono (by decide) (by decide)⟩
  show Q_rmAd3 Z ob o1 cn f0_ f1_ f2_ f3_ f4_ f5_ f6_ f7_ nw up un h0 n0 _ T24.heap _
  rw [e24]
  exact ⟨rfl, N24, K25, f26, f27, f28, F24, f29, f30, f31, f32, f33⟩
theorem d7_100 : decode own_c7 100 = .ok (.aload_n 0, 1) := by decide +kernel
theorem d7_101 : decode own_c7 101 = .ok (.dup, 1) := by decide +kernel
theorem d7_102 : decode own_c7 102 = .ok (.getfield 51, 3) := by decide +kernel
theorem d7_105 : decode own_c7 105 = .ok (.lconst 1, 1) := by decide +kernel
theorem d7_106 : decode own_c7 106 = .ok (.ladd, 1) := by decide +kernel
theorem d7_107 : decode own_c7 107 = .ok (.putfield 51, 3) := by decide +kernel
theorem ef_rmAd4 (m : MethodId) (x0 : Addr) (x1 : Addr) : entryFrame m #[(.ref x0), (.ref x1)] 2 = mkF m 0 #[.val (.ref x0), .val (.ref x1)] [] := by first | (simp [entryFrame, mkF, argsToLocals, Value.category]; done) | rfl
def Q_rmAd4 (Z : State) (ob : Addr) (o1 : Addr) (cn : Int32) (f0_ : Int64) (f1_ : Int64) (f2_ : Int64) (f3_ : Int64) (f4_ : Int64) (f5_ : Int64) (f6_ : Int64) (f7_ : Int64) (nw : Addr) (up : Addr) (un : Addr) (h0 : Heap) (n0 : Nat) (v : Option Value) (h : Heap) (L : List Loc) : Prop := v = none ∧ Fr n0 L ∧ Keep h0 h [ob] ∧ Exa Z h ob "com/example/goldweave/goldweave/server/cli/LoadSummary" ∧ Fld Z h ob "com/example/goldweave/goldweave/server/cli/LoadSummary" "records" "J" (.long (f0_ + (1 : Int64))) ∧ Fld Z h ob "com/example/goldweave/goldweave/server/cli/LoadSummary" "created" "J" (.long f1_) ∧ Fld Z h ob "com/example/goldweave/goldweave/server/cli/LoadSummary" "updated" "J" (.long f2_) ∧ Fld Z h ob "com/example/goldweave/goldweave/server/cli/LoadSummary" "unchanged" "J" (.long (f3_ + (1 : Int64))) ∧ Fld Z h ob "com/example/goldweave/goldweave/server/cli/LoadSummary" "rejected" "J" (.long f4_) ∧ Fld Z h ob "com/example/goldweave/goldweave/server/cli/LoadSummary" "linked" "J" (.long f5_) ∧ Fld Z h ob "com/example/goldweave/goldweave/server/cli/LoadSummary" "newMasters" "J" (.long f6_) ∧ Fld Z h ob "com/example/goldweave/goldweave/server/cli/LoadSummary" "candidates" "J" (.long (f7_ + cn.toInt64))
set_option maxRecDepth 65536 in
set_option maxHeartbeats 40000000 in
theorem rmAd4 (l : Launch) (Z : State) (a0 : Array Value) (hw : ∀ d ∈ tables_1, d.before a0 Z = true) (ws : List Jvm.Cond) (ob : Addr) (o1 : Addr) (cn : Int32) (f0_ : Int64) (f1_ : Int64) (f2_ : Int64) (f3_ : Int64) (f4_ : Int64) (f5_ : Int64) (f6_ : Int64) (f7_ : Int64) (nw : Addr) (up : Addr) (un : Addr) (h0 : Heap) (n0 : Nat) (Z0 : n0 ≤ h0.size) (pE_ob : Exa Z h0 ob "com/example/goldweave/goldweave/server/cli/LoadSummary") (pF_records_ob : Fld Z h0 ob "com/example/goldweave/goldweave/server/cli/LoadSummary" "records" "J" (.long f0_)) (pF_created_ob : Fld Z h0 ob "com/example/goldweave/goldweave/server/cli/LoadSummary" "created" "J" (.long f1_)) (pF_updated_ob : Fld Z h0 ob "com/example/goldweave/goldweave/server/cli/LoadSummary" "updated" "J" (.long f2_)) (pF_unchanged_ob : Fld Z h0 ob "com/example/goldweave/goldweave/server/cli/LoadSummary" "unchanged" "J" (.long f3_)) (pF_rejected_ob : Fld Z h0 ob "com/example/goldweave/goldweave/server/cli/LoadSummary" "rejected" "J" (.long f4_)) (pF_linked_ob : Fld Z h0 ob "com/example/goldweave/goldweave/server/cli/LoadSummary" "linked" "J" (.long f5_)) (pF_newMasters_ob : Fld Z h0 ob "com/example/goldweave/goldweave/server/cli/LoadSummary" "newMasters" "J" (.long f6_)) (pF_candidates_ob : Fld Z h0 ob "com/example/goldweave/goldweave/server/cli/LoadSummary" "candidates" "J" (.long f7_)) (pE_o1 : Exa Z h0 o1 "com/example/goldweave/goldweave/engine/linking/Registration") (pF_change_o1 : Fld Z h0 o1 "com/example/goldweave/goldweave/engine/linking/Registration" "change" "Lcom/example/goldweave/goldweave/engine/linking/Registration$Change;" (.ref un)) (pF_newGoldenRecord_o1 : Fld Z h0 o1 "com/example/goldweave/goldweave/engine/linking/Registration" "newGoldenRecord" "Z" (.int (0 : Int32))) (pF_candidateLinks_o1 : Fld Z h0 o1 "com/example/goldweave/goldweave/engine/linking/Registration" "candidateLinks" "I" (.int cn)) (pG_ob : n0 ≤ ob) (pS_NEW : Sta Z Z.heap "com/example/goldweave/goldweave/engine/linking/Registration$Change" "NEW" "Lcom/example/goldweave/goldweave/engine/linking/Registration$Change;" (.ref nw)) (pS_UPDATED : Sta Z Z.heap "com/example/goldweave/goldweave/engine/linking/Registration$Change" "UPDATED" "Lcom/example/goldweave/goldweave/engine/linking/Registration$Change;" (.ref up)) (pS_UNCHANGED : Sta Z Z.heap "com/example/goldweave/goldweave/engine/linking/Registration$Change" "UNCHANGED" "Lcom/example/goldweave/goldweave/engine/linking/Registration$Change;" (.ref un)) (hun : (up ≠ nw)) (hcn : (un ≠ nw)) (hcu : (un ≠ up)) (pO : Old Z n0 h0) :
    MetFree l own_y37 (head1 (Jvm.Cond.code own_y37 prog_62_method_2_code 2 none :: ws) ({ frames := 1, cells := 0, slots := 0, locals := 15 } : Room)) (fun a U => a = #[(.ref ob), (.ref o1)] ∧ Z.Warmed39 U.vm ∧ U.heap = h0) (fun _ _ _ _ _ => True) (fun _ U o U' => ∃ v L, o = .returned v ∧ Q_rmAd4 Z ob o1 cn f0_ f1_ f2_ f3_ f4_ f5_ f6_ f7_ nw up un h0 n0 v U'.heap L ∧ FrameEnd U o U' L ({ frames := 1, cells := 0, slots := 0, locals := 15 } : Room).cells ({ frames := 1, cells := 0, slots := 0, locals := 15 } : Room).slots) := by
  refine MetFree.of_bodySF (plainFor_of_name pn_7) hisR ?_
  intro p e s m args below meth c s₁ Bd hml0 hP hK
  obtain ⟨rfl, hZ, hh⟩ := hP
  have hx := Bd.exec
  have hby := Bd.bytes
  have hml : c.maxLocals = 2 := hml0
  have hown : s.vm.findClass "com/example/goldweave/goldweave/server/cli/LoadSummary" = some m.cls := findClass_of_methodNamed Bd.named
  have hnm := (name_of_methodNamed Bd.named Bd.method).1
  have X0 : Stand p l e ({ frames := 1, cells := 0, slots := 0, locals := 15 } : Room) s m #[(.ref ob), (.ref o1)] below meth c s₁ [] 0 0 := Stand.of_body Bd
  have e0 : s₁.heap = h0 := by rw [← hh, Bd.state]; rfl
  have N0 := Fr.nil n0
  refine own_enter (ef_rmAd4 m ob o1) ?_
  refine own_st (fun t_ k_ => XS.aloadN X0.here hx rfl (hb hby d7_0) rfl rfl (XS.dup X0.here hx rfl (hb hby d7_1) rfl rfl k_)) ?_
  obtain ⟨T1, X1, e1, st1⟩ := getF X0 hx hZ hown (host := "") (Or.inl (own_w hw 54 rfl)) Via.refl e0 pF_records_ob (g := (mkF m 2 #[.val (.ref ob), .val (.ref o1)] [(.ref ob), (.ref ob)])) rfl rfl (hb hby d7_2)
  refine own_st st1 ?_
  refine own_st (fun t_ k_ => XS.lconst X1.here hx rfl (hb hby d7_5) (XS.ladd X1.here hx rfl (hb hby d7_6) rfl k_)) ?_
  obtain ⟨T2, h2, X2, e2, W2, st2⟩ := putF X1 hx hZ hown (host := "") (Or.inl (own_w hw 54 rfl)) Via.refl e1 pF_records_ob pE_ob (Or.inl (own_w hw 55 rfl)) (own_w hw 6 rfl) (ty := .long) (by decide) rfl rfl (g := (mkF m 7 #[.val (.ref ob), .val (.ref o1)] [(.long (f0_ + (1 : Int64))), (.ref ob)])) rfl rfl (hb hby d7_7)
  have F2 := pF_records_ob.same W2
  have K3 : Keep h0 h2 [ob] := (Keep.refl h0 [ob]).wr W2 (Or.inl (List.mem_of_getElem? (i := 0) rfl))
  have N2 := Fr.snoc X2 N0 pG_ob
  refine own_st st2 ?_
  refine own_st (fun t_ k_ => XS.aloadN X2.here hx rfl (hb hby d7_10) rfl rfl (XS.dup X2.here hx rfl (hb hby d7_11) rfl rfl k_)) ?_
  have f4 := (pF_candidates_ob.other W2 (Or.inr (slot_ne (Or.inl (own_w hw 57 rfl)) (Or.inl (own_w hw 55 rfl)) (by decide) (t := .long) (t' := .long) (by decide) (by decide))))
  obtain ⟨T5, X5, e5, st5⟩ := getF X2 hx hZ hown (host := "") (Or.inl (own_w hw 56 rfl)) Via.refl e2 f4 (g := (mkF m 12 #[.val (.ref ob), .val (.ref o1)] [(.ref ob), (.ref ob)])) rfl rfl (hb hby d7_12)
  refine own_st st5 ?_
  refine own_st (fun t_ k_ => XS.aloadN X5.here hx rfl (hb hby d7_15) rfl rfl k_) ?_
  have f6 := (Nat.le_trans Z0 (Keep.of_wr W2).1)
  have f7 := (pE_o1.wr W2)
  have f8 := (pE_ob.wr W2)
  have f9 := (pF_candidateLinks_o1.other W2 (Or.inl (Exa.ne f7 f8 (by decide))))
  obtain ⟨cq10, kq10, qa10, qb10, qc10⟩ := isOf hZ e5 f7
  obtain ⟨_, _, ⟨T10, L10, k10, n10⟩, -, X10, ⟨Lc10, hQ10, l10, y10, z10⟩, st10⟩ := X5.virtualBack hx (y := own_y34) (z := own_y34) hown (mvT hZ (own_w hw 58 rfl)) (mvT hZ (own_w hw 59 rfl)) (notFace_of_selects (args := #[]) (mvT hZ (own_w hw 61 rfl))) (mvT hZ (own_w hw 61 rfl)) (mvT hZ (own_w hw 60 rfl)) (by decide) (backOf (W := 3) (rmAcc l Z a0 hw [] o1 cn h2 n0 f6 f7 f9) hZ (own_w hw 62 rfl) (own_w hw 23 rfl) (by decide) (by decide)) qa10 qc10 (g := (mkF m 16 #[.val (.ref ob), .val (.ref o1)] [(.ref o1), (.long f7_), (.ref ob)])) rfl (by rw [hml]; rfl) (Steps.refl _) (argsL := []) (rest := [(.long f7_), (.ref ob)]) (lenOf pd___I rfl) rfl (by show 2 * 0 + _ ≤ _; exact Nat.le_of_eq rfl) (hb hby d7_16) (fun _ _ => ⟨rfl, e5, (by decide : 0 + 0 ≤ _), (by decide : 0 + 0 ≤ _)⟩)
  dsimp only [Pt.U, Pt.locs, Pt.cells, Pt.slots] at X10 l10 y10 z10 st10 hQ10
  try dsimp only [Nat.reduceAdd] at y10 z10
  rw [l10, y10, z10] at X10
  obtain ⟨rfl, Nq10, eH10⟩ := hQ10
  have N10 := Fr.app N2 Nq10
  refine own_tr st10 ?_
  refine own_st (fun t_ k_ => XS.i2l X10.here hx rfl (hb hby d7_19) rfl (XS.ladd X10.here hx rfl (hb hby d7_20) rfl k_)) ?_
  obtain ⟨T11, h11, X11, e11, W11, st11⟩ := putF X10 hx hZ hown (host := "") (Or.inl (own_w hw 56 rfl)) Via.refl eH10 f4 f8 (Or.inl (own_w hw 57 rfl)) (own_w hw 6 rfl) (ty := .long) (by decide) rfl rfl (g := (mkF m 21 #[.val (.ref ob), .val (.ref o1)] [(.long (f7_ + (cn.toInt64))), (.ref ob)])) rfl rfl (hb hby d7_21)
  have F11 := f4.same W11
  have K12 : Keep h0 h11 [ob] := K3.wr W11 (Or.inl (List.mem_of_getElem? (i := 0) rfl))
  have N11 := Fr.snoc X11 N10 pG_ob
  refine own_st st11 ?_
  refine own_st (fun t_ k_ => XS.aloadN X11.here hx rfl (hb hby d7_24) rfl rfl k_) ?_
  have f13 := (Nat.le_trans f6 (Keep.of_wr W11).1)
  have f14 := (f7.wr W11)
  have f15 := (f8.wr W11)
  have f16 := ((pF_change_o1.other W2 (Or.inl (Exa.ne f14 f15 (by decide)))).other W11 (Or.inl (Exa.ne f14 f15 (by decide))))
  obtain ⟨cq17, kq17, qa17, qb17, qc17⟩ := isOf hZ e11 f14
  obtain ⟨_, _, ⟨T17, L17, k17, n17⟩, -, X17, ⟨Lc17, hQ17, l17, y17, z17⟩, st17⟩ := X11.virtualBack hx (y := own_y35) (z := own_y35) hown (mvT hZ (own_w hw 63 rfl)) (mvT hZ (own_w hw 64 rfl)) (notFace_of_selects (args := #[]) (mvT hZ (own_w hw 66 rfl))) (mvT hZ (own_w hw 66 rfl)) (mvT hZ (own_w hw 65 rfl)) (by decide) (backOf (W := 0) (rmAch l Z a0 hw [] o1 un h11 n0 f13 f14 f16) hZ (own_w hw 67 rfl) (own_w hw 23 rfl) (by decide) (by decide)) qa17 qc17 (g := (mkF m 25 #[.val (.ref ob), .val (.ref o1)] [(.ref o1)])) rfl (by rw [hml]; rfl) (Steps.refl _) (argsL := []) (rest := []) (lenOf pd___Lcom_example_goldweave_goldweave_engine_linking_Registration_Change_ rfl) rfl (by show 2 * 0 + _ ≤ _; exact Nat.le_of_eq rfl) (hb hby d7_25) (fun _ _ => ⟨rfl, e11, (by decide : 0 + 0 ≤ _), (by decide : 0 + 0 ≤ _)⟩)
  dsimp only [Pt.U, Pt.locs, Pt.cells, Pt.slots] at X17 l17 y17 z17 st17 hQ17
  try dsimp only [Nat.reduceAdd] at y17 z17
  rw [l17, y17, z17] at X17
  obtain ⟨rfl, Nq17, eH17⟩ := hQ17
  have N17 := Fr.app N11 Nq17
  refine own_tr st17 ?_
  have f18 := ((pO.wr W2 pG_ob).wr W11 pG_ob)
  obtain ⟨T19, X19, e19, st19⟩ := getS2 X17 hx hZ hown (host := "") (Or.inl (own_w hw 68 rfl)) Via.refl eH17 (pS_NEW.ext f18.2) (g := (mkF m 28 #[.val (.ref ob), .val (.ref o1)] [(.ref un)])) rfl (hb hby d7_28)
  refine own_st st19 ?_
  refine own_st (fun t_ k_ => Jvm.RoadKit.acmp (g := (mkF m 31 #[.val (.ref ob), .val (.ref o1)] [(.ref nw), (.ref un)])) X19 hx rfl rfl rfl (pc0 := 31) (pc' := 77) (same := false) rfl (hb hby d7_31) rfl (decide_eq_false fun q => hcn (Value.ref.inj q)) (by decide) (by decide) (XS.aloadN X19.here hx rfl (hb hby d7_77) rfl rfl k_)) ?_
  obtain ⟨cq20, kq20, qa20, qb20, qc20⟩ := isOf hZ e19 f14
  obtain ⟨_, _, ⟨T20, L20, k20, n20⟩, -, X20, ⟨Lc20, hQ20, l20, y20, z20⟩, st20⟩ := X19.virtualBack hx (y := own_y35) (z := own_y35) hown (mvT hZ (own_w hw 63 rfl)) (mvT hZ (own_w hw 64 rfl)) (notFace_of_selects (args := #[]) (mvT hZ (own_w hw 66 rfl))) (mvT hZ (own_w hw 66 rfl)) (mvT hZ (own_w hw 65 rfl)) (by decide) (backOf (W := 0) (rmAch l Z a0 hw [] o1 un h11 n0 f13 f14 f16) hZ (own_w hw 67 rfl) (own_w hw 23 rfl) (by decide) (by decide)) qa20 qc20 (g := (mkF m 78 #[.val (.ref ob), .val (.ref o1)] [(.ref o1)])) rfl (by rw [hml]; rfl) (Steps.refl _) (argsL := []) (rest := []) (lenOf pd___Lcom_example_goldweave_goldweave_engine_linking_Registration_Change_ rfl) rfl (by show 2 * 0 + _ ≤ _; exact Nat.le_of_eq rfl) (hb hby d7_78) (fun _ _ => ⟨rfl, e19, (by decide : 0 + 0 ≤ _), (by decide : 0 + 0 ≤ _)⟩)
  dsimp only [Pt.U, Pt.locs, Pt.cells, Pt.slots] at X20 l20 y20 z20 st20 hQ20
  try dsimp only [Nat.reduceAdd] at y20 z20
  rw [l20, y20, z20] at X20
  obtain ⟨rfl, Nq20, eH20⟩ := hQ20
  have N20 := Fr.app N17 Nq20
  refine own_tr st20 ?_
  obtain ⟨T21, X21, e21, st21⟩ := getS2 X20 hx hZ hown (host := "") (Or.inl (own_w hw 285 rfl)) Via.refl eH20 (pS_UPDATED.ext f18.2) (g := (mkF m 81 #[.val (.ref ob), .val (.ref o1)] [(.ref un)])) rfl (hb hby d7_81)
  refine own_st st21 ?_
  refine own_st (fun t_ k_ => Jvm.RoadKit.acmp (g := (mkF m 84 #[.val (.ref ob), .val (.ref o1)] [(.ref up), (.ref un)])) X21 hx rfl rfl rfl (pc0 := 84) (pc' := 100) (same := false) rfl (hb hby d7_84) rfl (decide_eq_false fun q => hcu (Value.ref.inj q)) (by decide) (by decide) (XS.aloadN X21.here hx rfl (hb hby d7_100) rfl rfl (XS.dup X21.here hx rfl (hb hby d7_101) rfl rfl k_))) ?_
  have f22 := ((pF_unchanged_ob.other W2 (Or.inr (slot_ne (Or.inl (own_w hw 203 rfl)) (Or.inl (own_w hw 55 rfl)) (by decide) (t := .long) (t' := .long) (by decide) (by decide)))).other W11 (Or.inr (slot_ne (Or.inl (own_w hw 203 rfl)) (Or.inl (own_w hw 57 rfl)) (by decide) (t := .long) (t' := .long) (by decide) (by decide))))
  obtain ⟨T23, X23, e23, st23⟩ := getF X21 hx hZ hown (host := "") (Or.inl (own_w hw 202 rfl)) Via.refl e21 f22 (g := (mkF m 102 #[.val (.ref ob), .val (.ref o1)] [(.ref ob), (.ref ob)])) rfl rfl (hb hby d7_102)
  refine own_st st23 ?_
  refine own_st (fun t_ k_ => XS.lconst X23.here hx rfl (hb hby d7_105) (XS.ladd X23.here hx rfl (hb hby d7_106) rfl k_)) ?_
  obtain ⟨T24, h24, X24, e24, W24, st24⟩ := putF X23 hx hZ hown (host := "") (Or.inl (own_w hw 202 rfl)) Via.refl e23 f22 f15 (Or.inl (own_w hw 203 rfl)) (own_w hw 6 rfl) (ty := .long) (by decide) rfl rfl (g := (mkF m 107 #[.val (.ref ob), .val (.ref o1)] [(.long (f3_ + (1 : Int64))), (.ref ob)])) rfl rfl (hb hby d7_107)
  have F24 := f22.same W24
  have K25 : Keep h0 h24 [ob] := K12.wr W24 (Or.inl (List.mem_of_getElem? (i := 0) rfl))
  have N24 := Fr.snoc X24 N20 pG_ob
  refine own_st st24 ?_
  have f26 := (f15.wr W24)
  have f27 := ((F2.other W11 (Or.inr (slot_ne (Or.inl (own_w hw 55 rfl)) (Or.inl (own_w hw 57 rfl)) (by decide) (t := .long) (t' := .long) (by decide) (by decide)))).other W24 (Or.inr (slot_ne (Or.inl (own_w hw 55 rfl)) (Or.inl (own_w hw 203 rfl)) (by decide) (t := .long) (t' := .long) (by decide) (by decide))))
  have f28 := (((pF_created_ob.other W2 (Or.inr (slot_ne (Or.inl (own_w hw 70 rfl)) (Or.inl (own_w hw 55 rfl)) (by decide) (t := .long) (t' := .long) (by decide) (by decide)))).other W11 (Or.inr (slot_ne (Or.inl (own_w hw 70 rfl)) (Or.inl (own_w hw 57 rfl)) (by decide) (t := .long) (t' := .long) (by decide) (by decide)))).other W24 (Or.inr (slot_ne (Or.inl (own_w hw 70 rfl)) (Or.inl (own_w hw 203 rfl)) (by decide) (t := .long) (t' := .long) (by decide) (by decide))))
  have f29 := (((pF_updated_ob.other W2 (Or.inr (slot_ne (Or.inl (own_w hw 200 rfl)) (Or.inl (own_w hw 55 rfl)) (by decide) (t := .long) (t' := .long) (by decide) (by decide)))).other W11 (Or.inr (slot_ne (Or.inl (own_w hw 200 rfl)) (Or.inl (own_w hw 57 rfl)) (by decide) (t := .long) (t' := .long) (by decide) (by decide)))).other W24 (Or.inr (slot_ne (Or.inl (own_w hw 200 rfl)) (Or.inl (own_w hw 203 rfl)) (by decide) (t := .long) (t' := .long) (by decide) (by decide))))
  have f30 := (((pF_rejected_ob.other W2 (Or.inr (slot_ne (Or.inl (own_w hw 206 rfl)) (Or.inl (own_w hw 55 rfl)) (by decide) (t := .long) (t' := .long) (by decide) (by decide)))).other W11 (Or.inr (slot_ne (Or.inl (own_w hw 206 rfl)) (Or.inl (own_w hw 57 rfl)) (by decide) (t := .long) (t' := .long) (by decide) (by decide)))).other W24 (Or.inr (slot_ne (Or.inl (own_w hw 206 rfl)) (Or.inl (own_w hw 203 rfl)) (by decide) (t := .long) (t' := .long) (by decide) (by decide))))
  have f31 := (((pF_linked_ob.other W2 (Or.inr (slot_ne (Or.inl (own_w hw 77 rfl)) (Or.inl (own_w hw 55 rfl)) (by decide) (t := .long) (t' := .long) (by decide) (by decide)))).other W11 (Or.inr (slot_ne (Or.inl (own_w hw 77 rfl)) (Or.inl (own_w hw 57 rfl)) (by decide) (t := .long) (t' := .long) (by decide) (by decide)))).other W24 (Or.inr (slot_ne (Or.inl (own_w hw 77 rfl)) (Or.inl (own_w hw 203 rfl)) (by decide) (t := .long) (t' := .long) (by decide) (by decide))))
  have f32 := (((pF_newMasters_ob.other W2 (Or.inr (slot_ne (Or.inl (own_w hw 210 rfl)) (Or.inl (own_w hw 55 rfl)) (by decide) (t := .long) (t' := .long) (by decide) (by decide)))).other W11 (Or.inr (slot_ne (Or.inl (own_w hw 210 rfl)) (Or.inl (own_w hw 57 rfl)) (by decide) (t := .long) (t' := .long) (by decide) (by decide)))).other W24 (Or.inr (slot_ne (Or.inl (own_w hw 210 rfl)) (Or.inl (own_w hw 203 rfl)) (by decide) (t := .long) (t' := .long) (by decide) (by decide))))
  have f33 := (F11.other W24 (Or.inr (slot_ne (Or.inl (own_w hw 57 rfl)) (Or.inl (own_w hw 203 rfl)) (by decide) (t := .long) (t' := .long) (by decide) (by decide))))
  obtain ⟨fs, hr, hrun, hended, hW, hsame⟩ := X24.leave (v := none) (fun _ => rfl)
  refine own_fin (X24.returnOut hx Bd.returns (hb hby d7_110) hr) ⟨hrun, hended, _, _, rfl, ?_, ⟨_, rfl⟩, hW, hsame.mono (by decide) (by decide)⟩
  show Q_rmAd4 Z ob o1 cn f0_ f1_ f2_ f3_ f4_ f5_ f6_ f7_ nw up un h0 n0 _ T24.heap _
  rw [e24]
  exact ⟨rfl, N24, K25, f26, f27, f28, f29, F24, f30, f31, f32, f33⟩
def own_k1 : List Value := (([114, 101, 99, 111, 114, 100, 115, 61] : List Int32).map (fun c : Int32 => c.toInt8.toInt32)).map Value.int
def own_k2 : List Value := (([32, 110, 101, 119, 61] : List Int32).map (fun c : Int32 => c.toInt8.toInt32)).map Value.int
def own_k3 : List Value := (([32, 117, 112, 100, 97, 116, 101, 100, 61] : List Int32).map (fun c : Int32 => c.toInt8.toInt32)).map Value.int
def own_k4 : List Value := (([32, 117, 110, 99, 104, 97, 110, 103, 101, 100, 61] : List Int32).map (fun c : Int32 => c.toInt8.toInt32)).map Value.int
def own_k5 : List Value := (([32, 114, 101, 106, 101, 99, 116, 101, 100, 61] : List Int32).map (fun c : Int32 => c.toInt8.toInt32)).map Value.int
def own_k6 : List Value := (([32, 108, 105, 110, 107, 101, 100, 61] : List Int32).map (fun c : Int32 => c.toInt8.toInt32)).map Value.int
def own_k7 : List Value := (([32, 110, 101, 119, 95, 109, 97, 115, 116, 101, 114, 115, 61] : List Int32).map (fun c : Int32 => c.toInt8.toInt32)).map Value.int
def own_k8 : List Value := (([32, 99, 97, 110, 100, 105, 100, 97, 116, 101, 115, 61] : List Int32).map (fun c : Int32 => c.toInt8.toInt32)).map Value.int
abbrev own_y38 : MethodName := ⟨"com/example/goldweave/goldweave/server/cli/LoadSummary", "toString", "()Ljava/lang/String;"⟩
abbrev own_c11 : ByteArray := prog_62_method_4_code
theorem d11_0 : decode own_c11 0 = .ok (.new 57, 3) := by decide +kernel
theorem d11_3 : decode own_c11 3 = .ok (.dup, 1) := by decide +kernel
theorem d11_4 : decode own_c11 4 = .ok (.invokespecial 59, 3) := by decide +kernel
theorem d11_7 : decode own_c11 7 = .ok (.ldc 60, 2) := by decide +kernel
theorem d11_9 : decode own_c11 9 = .ok (.invokevirtual 62, 3) := by decide +kernel
theorem d11_12 : decode own_c11 12 = .ok (.aload_n 0, 1) := by decide +kernel
theorem d11_13 : decode own_c11 13 = .ok (.getfield 7, 3) := by decide +kernel
theorem d11_16 : decode own_c11 16 = .ok (.invokevirtual 66, 3) := by decide +kernel
theorem d11_19 : decode own_c11 19 = .ok (.ldc 69, 2) := by decide +kernel
theorem d11_21 : decode own_c11 21 = .ok (.invokevirtual 62, 3) := by decide +kernel
theorem d11_24 : decode own_c11 24 = .ok (.aload_n 0, 1) := by decide +kernel
theorem d11_25 : decode own_c11 25 = .ok (.getfield 32, 3) := by decide +kernel
theorem d11_28 : decode own_c11 28 = .ok (.invokevirtual 66, 3) := by decide +kernel
theorem d11_31 : decode own_c11 31 = .ok (.ldc 71, 2) := by decide +kernel
theorem d11_33 : decode own_c11 33 = .ok (.invokevirtual 62, 3) := by decide +kernel
theorem d11_36 : decode own_c11 36 = .ok (.aload_n 0, 1) := by decide +kernel
theorem d11_37 : decode own_c11 37 = .ok (.getfield 48, 3) := by decide +kernel
theorem d11_40 : decode own_c11 40 = .ok (.invokevirtual 66, 3) := by decide +kernel
theorem d11_43 : decode own_c11 43 = .ok (.ldc 73, 2) := by decide +kernel
theorem d11_45 : decode own_c11 45 = .ok (.invokevirtual 62, 3) := by decide +kernel
theorem d11_48 : decode own_c11 48 = .ok (.aload_n 0, 1) := by decide +kernel
theorem d11_49 : decode own_c11 49 = .ok (.getfield 51, 3) := by decide +kernel
theorem d11_52 : decode own_c11 52 = .ok (.invokevirtual 66, 3) := by decide +kernel
theorem d11_55 : decode own_c11 55 = .ok (.ldc 75, 2) := by decide +kernel
theorem d11_57 : decode own_c11 57 = .ok (.invokevirtual 62, 3) := by decide +kernel
theorem d11_60 : decode own_c11 60 = .ok (.aload_n 0, 1) := by decide +kernel
theorem d11_61 : decode own_c11 61 = .ok (.getfield 54, 3) := by decide +kernel
theorem d11_64 : decode own_c11 64 = .ok (.invokevirtual 66, 3) := by decide +kernel
theorem d11_67 : decode own_c11 67 = .ok (.ldc 77, 2) := by decide +kernel
theorem d11_69 : decode own_c11 69 = .ok (.invokevirtual 62, 3) := by decide +kernel
theorem d11_72 : decode own_c11 72 = .ok (.aload_n 0, 1) := by decide +kernel
theorem d11_73 : decode own_c11 73 = .ok (.getfield 42, 3) := by decide +kernel
theorem d11_76 : decode own_c11 76 = .ok (.invokevirtual 66, 3) := by decide +kernel
theorem d11_79 : decode own_c11 79 = .ok (.ldc 79, 2) := by decide +kernel
theorem d11_81 : decode own_c11 81 = .ok (.invokevirtual 62, 3) := by decide +kernel
theorem d11_84 : decode own_c11 84 = .ok (.aload_n 0, 1) := by decide +kernel
theorem d11_85 : decode own_c11 85 = .ok (.getfield 39, 3) := by decide +kernel
theorem d11_88 : decode own_c11 88 = .ok (.invokevirtual 66, 3) := by decide +kernel
theorem d11_91 : decode own_c11 91 = .ok (.ldc 81, 2) := by decide +kernel
theorem d11_93 : decode own_c11 93 = .ok (.invokevirtual 62, 3) := by decide +kernel
theorem d11_96 : decode own_c11 96 = .ok (.aload_n 0, 1) := by decide +kernel
theorem d11_97 : decode own_c11 97 = .ok (.getfield 13, 3) := by decide +kernel
theorem d11_100 : decode own_c11 100 = .ok (.invokevirtual 66, 3) := by decide +kernel
theorem d11_103 : decode own_c11 103 = .ok (.invokevirtual 83, 3) := by decide +kernel
theorem d11_106 : decode own_c11 106 = .ok (.areturn, 1) := by decide +kernel
theorem pn_11 : plainName "com/example/goldweave/goldweave/server/cli/LoadSummary" = true := by first | (simp [plainName, overriddenIn]; done) | decide +kernel
theorem pd__Ljava_lang_String__Ljava_lang_StringBuilder_ : parseMethodDescriptor "(Ljava/lang/String;)Ljava/lang/StringBuilder;" = some ⟨[(.object "java/lang/String")], some (.object "java/lang/StringBuilder")⟩ := by decide +kernel
theorem pd__J_Ljava_lang_StringBuilder_ : parseMethodDescriptor "(J)Ljava/lang/StringBuilder;" = some ⟨[.long], some (.object "java/lang/StringBuilder")⟩ := by decide +kernel
theorem pd___Ljava_lang_String_ : parseMethodDescriptor "()Ljava/lang/String;" = some ⟨[], some (.object "java/lang/String")⟩ := by decide +kernel
theorem ef_rmTo (m : MethodId) (x0 : Addr) : entryFrame m #[(.ref x0)] 1 = mkF m 0 #[.val (.ref x0)] [] := by first | (simp [entryFrame, mkF, argsToLocals, Value.category]; done) | rfl
def Q_rmTo (Z : State) (ob : Addr) (z0_ : Int64) (z1_ : Int64) (z2_ : Int64) (z3_ : Int64) (z4_ : Int64) (z5_ : Int64) (z6_ : Int64) (z7_ : Int64) (n0_ : Nat) (n1_ : Nat) (n2_ : Nat) (n3_ : Nat) (n4_ : Nat) (n5_ : Nat) (n6_ : Nat) (n7_ : Nat) (zc : Int32) (dg : Addr) (kd : ClassId) (h0 : Heap) (n0 : Nat) (v : Option Value) (h : Heap) (L : List Loc) : Prop := ∃ y : Addr, ∃ b : Addr, ∃ kb : ClassId, v = some (.ref y) ∧ Fr n0 L ∧ Keep h0 h [] ∧ Exa Z h y "java/lang/String" ∧ Fld Z h y "java/lang/String" "value" "[B" (.ref b) ∧ Fld Z h y "java/lang/String" "coder" "B" (.int (0 : Int32)) ∧ Arv Z h b kb .byte (84 : Int32) ((((own_all (Int32.ofNat (48 + n0_)) (Int32.ofNat (48 + n1_)) (Int32.ofNat (48 + n2_)) (Int32.ofNat (48 + n3_)) (Int32.ofNat (48 + n4_)) (Int32.ofNat (48 + n5_)) (Int32.ofNat (48 + n6_)) (Int32.ofNat (48 + n7_))) : List Int32).map (fun c : Int32 => c.toInt8.toInt32)).map Value.int) (.int 0)
set_option maxRecDepth 65536 in
set_option maxHeartbeats 40000000 in
theorem rmTo (l : Launch) (Z : State) (a0 : Array Value) (hw : ∀ d ∈ tables_1, d.before a0 Z = true) (ws : List Jvm.Cond) (ob : Addr) (z0_ : Int64) (z1_ : Int64) (z2_ : Int64) (z3_ : Int64) (z4_ : Int64) (z5_ : Int64) (z6_ : Int64) (z7_ : Int64) (n0_ : Nat) (n1_ : Nat) (n2_ : Nat) (n3_ : Nat) (n4_ : Nat) (n5_ : Nat) (n6_ : Nat) (n7_ : Nat) (zc : Int32) (dg : Addr) (kd : ClassId) (h0 : Heap) (n0 : Nat) (Z0 : n0 ≤ h0.size) (pE_ob : Exa Z h0 ob "com/example/goldweave/goldweave/server/cli/LoadSummary") (pF_records_ob : Fld Z h0 ob "com/example/goldweave/goldweave/server/cli/LoadSummary" "records" "J" (.long z0_)) (pF_created_ob : Fld Z h0 ob "com/example/goldweave/goldweave/server/cli/LoadSummary" "created" "J" (.long z1_)) (pF_updated_ob : Fld Z h0 ob "com/example/goldweave/goldweave/server/cli/LoadSummary" "updated" "J" (.long z2_)) (pF_unchanged_ob : Fld Z h0 ob "com/example/goldweave/goldweave/server/cli/LoadSummary" "unchanged" "J" (.long z3_)) (pF_rejected_ob : Fld Z h0 ob "com/example/goldweave/goldweave/server/cli/LoadSummary" "rejected" "J" (.long z4_)) (pF_linked_ob : Fld Z h0 ob "com/example/goldweave/goldweave/server/cli/LoadSummary" "linked" "J" (.long z5_)) (pF_newMasters_ob : Fld Z h0 ob "com/example/goldweave/goldweave/server/cli/LoadSummary" "newMasters" "J" (.long z6_)) (pF_candidates_ob : Fld Z h0 ob "com/example/goldweave/goldweave/server/cli/LoadSummary" "candidates" "J" (.long z7_)) (hd0_ : (z0_.toInt = (n0_ : Int))) (h90_ : (n0_ ≤ 9)) (hd1_ : (z1_.toInt = (n1_ : Int))) (h91_ : (n1_ ≤ 9)) (hd2_ : (z2_.toInt = (n2_ : Int))) (h92_ : (n2_ ≤ 9)) (hd3_ : (z3_.toInt = (n3_ : Int))) (h93_ : (n3_ ≤ 9)) (hd4_ : (z4_.toInt = (n4_ : Int))) (h94_ : (n4_ ≤ 9)) (hd5_ : (z5_.toInt = (n5_ : Int))) (h95_ : (n5_ ≤ 9)) (hd6_ : (z6_.toInt = (n6_ : Int))) (h96_ : (n6_ ≤ 9)) (hd7_ : (z7_.toInt = (n7_ : Int))) (h97_ : (n7_ ≤ 9)) (pS_DigitOnes : Sta Z Z.heap "java/lang/Integer" "DigitOnes" "[B" (.ref dg)) (pD : (Arv Z Z.heap dg kd .byte (100 : Int32) own_ones (.int 0))) (pS_COMPACT_STRINGS : Sta Z Z.heap "java/lang/String" "COMPACT_STRINGS" "Z" (.int zc)) (pP5 : (¬ (zc = (0 : Int32)))) (pO : Old Z n0 h0) :
    MetFree l own_y38 (head1 (Jvm.Cond.code own_y38 prog_62_method_4_code 1 (some (.object "java/lang/String")) :: ws) ({ frames := 6, cells := 23, slots := 870, locals := 193 } : Room)) (fun a U => a = #[(.ref ob)] ∧ Z.Warmed39 U.vm ∧ U.heap = h0 ∧ CHv Z own_EL U.vm h0) (fun _ _ _ _ _ => True) (fun _ U o U' => ∃ v L, o = .returned v ∧ Q_rmTo Z ob z0_ z1_ z2_ z3_ z4_ z5_ z6_ z7_ n0_ n1_ n2_ n3_ n4_ n5_ n6_ n7_ zc dg kd h0 n0 v U'.heap L ∧ CHr Z own_EL U.vm U.heap U'.vm U'.heap ∧ ReturnedEndW U o U' L ({ frames := 6, cells := 23, slots := 870, locals := 193 } : Room).cells ({ frames := 6, cells := 23, slots := 870, locals := 193 } : Room).slots) := by
  refine MetFree.of_bodySF (plainFor_of_name pn_11) hisR ?_
  intro p e s m args below meth c s₁ Bd hml0 hP hK
  obtain ⟨rfl, hZ, hh, hCH⟩ := hP
  have hx := Bd.exec
  have hby := Bd.bytes
  have hml : c.maxLocals = 1 := hml0
  have hown : s.vm.findClass "com/example/goldweave/goldweave/server/cli/LoadSummary" = some m.cls := findClass_of_methodNamed Bd.named
  have hnm := (name_of_methodNamed Bd.named Bd.method).1
  have X0 : Stand p l e ({ frames := 6, cells := 23, slots := 870, locals := 193 } : Room) (s.setVm s.vm) m #[(.ref ob)] below meth c s₁ [] 0 0 := Stand.of_body Bd
  have e0 : s₁.heap = h0 := by rw [← hh, Bd.state]; rfl
  have N0 := Fr.nil n0
  have hEL := own_EW hw
  have hCR := CHr.refl hCH
  have hS : s.Since s.vm h0.size := (State.WarmedH.refl s).since _
  have hK0 : h0.size ≤ h0.size := Nat.le_refl _
  refine own_enter (ef_rmTo m ob) ?_
  obtain ⟨T1, h1, X1, e1, E1, A1, D1, -, st1⟩ := newO X0 hx hZ hown (own_w hw 83 rfl) (own_w hw 84 rfl) (own_w hw 85 rfl) e0 (g := (mkF m 0 #[.val (.ref ob)] [])) rfl (hb hby d11_0) (by decide) (by decide)
  obtain ⟨b1, g1⟩ : ∃ z, z = h0.size := ⟨_, rfl⟩
  rw [← g1] at A1 D1 st1
  have G1 : n0 ≤ b1 := Nat.le_trans Z0 (Nat.le_of_eq g1.symm)
  have B1 : h0.size ≤ b1 := Nat.le_trans (Keep.refl h0 []).1 (Nat.le_of_eq g1.symm)
  have CH2 := hCH.ext E1
  have CR2 := CHr.trans hCR (CHr.ext E1 hCH)
  have K3 : Keep h0 h1 [] := (Keep.refl h0 []).ext E1
  have D1_value : Fld Z h1 b1 "java/lang/AbstractStringBuilder" "value" "[B" .null := D1 (Or.inl (own_w hw 98 rfl)) (ty := (.array .byte)) (by decide)
  have D1_coder : Fld Z h1 b1 "java/lang/AbstractStringBuilder" "coder" "B" (.int (0 : Int32)) := D1 (Or.inl (own_w hw 100 rfl)) (ty := .byte) (by decide)
  have D1_count : Fld Z h1 b1 "java/lang/AbstractStringBuilder" "count" "I" (.int (0 : Int32)) := D1 (Or.inl (own_w hw 126 rfl)) (ty := .int) (by decide)
  refine own_st st1 ?_
  refine own_st (fun t_ k_ => XS.dup X1.here hx rfl (hb hby d11_3) rfl rfl k_) ?_
  have f4 := (Nat.le_trans Z0 E1.1)
  have f5 := (pO.ext E1)
  obtain ⟨_, _, ⟨T6, L6, k6, n6⟩, -, X6, ⟨Lc6, hQ6, l6, y6, z6⟩, st6⟩ := X1.specialBack hx (y := own_y3) rfl hown (mvT hZ (own_w hw 86 rfl)) (mvT hZ (own_w hw 87 rfl)) (mvT hZ (own_w hw 88 rfl)) (by decide) (backOf (W := 1) (rmSbI l Z a0 hw [] b1 .null ((.int (0 : Int32))) zc h1 n0 f4 A1 D1_value D1_coder D1_count G1 pS_COMPACT_STRINGS pP5 f5) hZ (own_w hw 88 rfl) (own_w hw 85 rfl) (by decide) (by decide)) (g := (mkF m 4 #[.val (.ref ob)] [(.ref b1), (.ref b1)])) rfl (by rw [hml]; rfl) (Steps.refl _) (a := b1) (argsL := []) (rest := [(.ref b1)]) (lenOf pd___V rfl) rfl (by show 2 * 0 + _ ≤ _; exact Nat.le_of_eq rfl) (hb hby d11_4) (fun _ _ => ⟨rfl, e1, (by decide : 1 + 1 ≤ _), (by decide : 4 + 16 ≤ _)⟩)
  dsimp only [Pt.U, Pt.locs, Pt.cells, Pt.slots] at X6 l6 y6 z6 st6 hQ6
  try dsimp only [Nat.reduceAdd] at y6 z6
  rw [l6, y6, z6] at X6
  obtain ⟨va_6, kva_6, rfl, Nq6, Kq6, q6_0, q6_1, q6_2, q6_3, q6_4, q6_5, q6_6⟩ := hQ6
  have N6 := Fr.app N0 Nq6
  have Sa7 : ∀ y ∈ [b1], Safe Z own_EL s.vm h1 y := (sfS (Safe.exa hZ.alike A1 (by decide) (by decide)) sf0)
  have CH7 := CH2.keep Kq6 Sa7
  have CR7 := CHr.trans CR2 (CHr.keep Kq6 Sa7 CH2)
  have K8 : Keep h0 T6.heap [] := K3.trans Kq6 (allS (Or.inr B1) all0)
  have Bf9 : h0.size ≤ va_6 := Nat.le_trans K3.1 q6_5
  refine own_tr st6 ?_
  obtain ⟨Bz0, hB0_⟩ : ∃ b : List Value, b = [] := ⟨_, rfl⟩
  obtain ⟨Rz0, hR0_⟩ : ∃ b : List Value, b = [(.int 0), (.int 0), (.int 0), (.int 0), (.int 0), (.int 0), (.int 0), (.int 0), (.int 0), (.int 0), (.int 0), (.int 0), (.int 0), (.int 0), (.int 0), (.int 0)] := ⟨_, rfl⟩
  have Vz0 : Arv Z T6.heap va_6 kva_6 .byte (16 : Int32) (Bz0 ++ Rz0) (.int 0) := by rw [hB0_, hR0_]; exact q6_4
  have hb0 : (0 : Int32).toInt = (Bz0.length : Int) := by rw [hB0_]; rfl
  have hL0 : 0 ≤ Bz0.length ∧ Bz0.length ≤ 0 := by rw [hB0_]; decide
  have hv0 : Bz0.length + Rz0.length = 16 := by rw [hB0_, hR0_]; rfl
  have hcp0 : (16 : Int32).toInt = ((Bz0.length + Rz0.length : Nat) : Int) := by rw [hv0]; rfl
  have f11 := (Nat.le_trans (Nat.le_trans hK0 E1.1) Kq6.1)
  obtain ⟨b10, T10, h10, k10, t10, kb10, X10, e10, E10, hS, hk10, hZ, hown, xE10, xC10, xV10, xA10, -, -, A10, -, -, st10⟩ := ldcCH X6 hx hZ hown (own_w hw 101 rfl) (own_wS hw) rfl hS f11 hEL (List.mem_of_getElem? (i := 0) rfl) CH7 (vs := own_k1) (z := (8 : Int32)) (by decide +kernel) (by decide) (by decide) (g := (mkF m 7 #[.val (.ref ob)] [(.ref b1)])) rfl (hb hby d11_7) (n := 32) (by decide) (by decide) (by decide) (by decide)
  have CH12 := A10.1
  have CR12 := CHr.trans CR7 (A10)
  have K13 : Keep h0 h10 [] := K8.ext E10
  refine own_st st10 ?_
  have ul1 : 8 ≤ (own_k1 : List Value).length ∧ (own_k1 : List Value).length ≤ 8 := by decide
  have f14 := (Nat.le_trans (Nat.le_trans f4 Kq6.1) E10.1)
  have f15 := (q6_0.ext E10)
  have f16 := (q6_1.ext E10)
  have f17 := (q6_2.ext E10)
  have f18 := (q6_3.ext E10)
  have f19 := (Vz0.ext E10)
  have f20 := ((f5.keep Kq6 (allS G1 all0)).ext E10)
  obtain ⟨cq21, kq21, qa21, qb21, qc21⟩ := isOf hZ e10 f15
  obtain ⟨_, _, ⟨T21, L21, k21, n21⟩, -, X21, ⟨Lc21, hQ21, l21, y21, z21⟩, st21⟩ := X10.virtualBack hx (y := own_y10) (z := own_y10) hown (mvT hZ (own_w hw 102 rfl)) (mvT hZ (own_w hw 103 rfl)) (notFace_of_selects (args := #[]) (mvT hZ (own_w hw 105 rfl))) (mvT hZ (own_w hw 105 rfl)) (mvT hZ (own_w hw 104 rfl)) (by decide) (backOf (W := 0) (rmSbA l Z a0 hw [] b1 va_6 kva_6 ((16 : Int32)) ((0 : Int32)) Bz0 Rz0 b10 t10 kb10 ((8 : Int32)) own_k1 zc h10 n0 f14 f15 f16 f17 f18 f19 xE10 xV10 xC10 xA10 hb0 hcp0 rfl (by omega) (by omega) G1 q6_6 pS_COMPACT_STRINGS pP5 f20) hZ (own_w hw 106 rfl) (own_w hw 85 rfl) (by decide) (by decide)) qa21 qc21 (g := (mkF m 9 #[.val (.ref ob)] [(.ref b10), (.ref b1)])) rfl (by rw [hml]; rfl) (Steps.refl _) (argsL := [(.ref b10)]) (rest := []) (lenOf pd__Ljava_lang_String__Ljava_lang_StringBuilder_ rfl) rfl (by show 2 * 0 + _ ≤ _; exact Nat.le_of_eq rfl) (hb hby d11_9) (fun _ _ => ⟨rfl, e10, (by decide : 4 + 0 ≤ _), (by decide : 56 + 0 ≤ _)⟩)
  dsimp only [Pt.U, Pt.locs, Pt.cells, Pt.slots] at X21 l21 y21 z21 st21 hQ21
  try dsimp only [Nat.reduceAdd] at y21 z21
  rw [l21, y21, z21] at X21
  obtain ⟨rfl, Nq21, Kq21, q21_0, q21_1, q21_2, q21_3, q21_4⟩ := hQ21
  have N21 := Fr.app N6 Nq21
  have f23 := (CHr.safe A10 Vz0.lt (Safe.keep Kq6 Sa7 CH2 (Safe.new (x := va_6) q6_5)))
  have Sa22 : ∀ y ∈ [b1, va_6], Safe Z own_EL T10.vm h10 y := (sfS (Safe.exa hZ.alike f15 (by decide) (by decide)) (sfS f23 sf0))
  have CH22 := CH12.keep Kq21 Sa22
  have CR22 := CHr.trans CR12 (CHr.keep Kq21 Sa22 CH12)
  have K24 : Keep h0 T21.heap [] := K13.trans Kq21 (allS (Or.inr B1) (allS (Or.inr Bf9) all0))
  refine own_tr st21 ?_
  obtain ⟨Rz1, hR1_⟩ : ∃ b : List Value, b = List.drop (own_k1 : List Value).length Rz0 := ⟨_, rfl⟩
  obtain ⟨Bz1, hB1_⟩ : ∃ b : List Value, b = Bz0 ++ own_k1 := ⟨_, rfl⟩
  obtain ⟨Cz1, hC1_⟩ : ∃ c : Int32, c = (0 : Int32) + (8 : Int32) := ⟨_, rfl⟩
  rw [← hB1_, ← hR1_] at q21_4
  rw [← hC1_] at q21_3
  have lB1 : Bz1.length = Bz0.length + (own_k1 : List Value).length := by rw [hB1_, List.length_append]
  have hb1 : Cz1.toInt = (Bz1.length : Int) := by rw [hC1_, lB1]; exact own_addI hb0 rfl (by omega)
  have hL1 : 8 ≤ Bz1.length ∧ Bz1.length ≤ 8 := by omega
  have hv1 : Bz1.length + Rz1.length = 16 := by rw [hR1_, List.length_drop]; omega
  have hcp1 : (16 : Int32).toInt = ((Bz1.length + Rz1.length : Nat) : Int) := by rw [hcp0, hv0, hv1]
  have ul2 : 1 ≤ ([(.int (Int32.ofNat (48 + n0_)))] : List Value).length ∧ ([(.int (Int32.ofNat (48 + n0_)))] : List Value).length ≤ 1 := ⟨Nat.le_refl _, Nat.le_refl _⟩
  refine own_st (fun t_ k_ => XS.aloadN X21.here hx rfl (hb hby d11_12) rfl rfl k_) ?_
  have f25 := ((((pF_records_ob.ext E1).keep Kq6 (ninS (Nat.ne_of_lt (Nat.lt_of_lt_of_le pE_ob.lt (Nat.le_of_eq g1.symm))) nin0)).ext E10).keep Kq21 (ninS (Nat.ne_of_lt (Nat.lt_of_lt_of_le pE_ob.lt (Nat.le_of_eq g1.symm))) (ninS (Nat.ne_of_lt (Nat.lt_of_lt_of_le (pE_ob.ext E1).lt q6_5)) nin0)))
  obtain ⟨T26, X26, e26, st26⟩ := getF X21 hx hZ hown (host := "") (Or.inl (own_w hw 54 rfl)) Via.refl rfl f25 (g := (mkF m 13 #[.val (.ref ob)] [(.ref ob), (.ref b1)])) rfl rfl (hb hby d11_13)
  refine own_st st26 ?_
  have f27 := (Nat.le_trans f14 Kq21.1)
  have f28 := (f20.keep Kq21 (allS G1 (allS q6_6 all0)))
  obtain ⟨cq29, kq29, qa29, qb29, qc29⟩ := isOf hZ e26 q21_0
  obtain ⟨_, _, ⟨T29, L29, k29, n29⟩, -, X29, ⟨Lc29, hQ29, l29, y29, z29⟩, st29⟩ := X26.virtualBack hx (y := own_y28) (z := own_y28) hown (mvT hZ (own_w hw 152 rfl)) (mvT hZ (own_w hw 153 rfl)) (notFace_of_selects (args := #[]) (mvT hZ (own_w hw 155 rfl))) (mvT hZ (own_w hw 155 rfl)) (mvT hZ (own_w hw 154 rfl)) (by decide) (backOf (W := 0) (rmSj l Z a0 hw [] b1 va_6 kva_6 ((16 : Int32)) Cz1 Bz1 Rz1 z0_ n0_ zc dg _ T21.heap n0 f27 q21_0 q21_1 q21_2 q21_3 q21_4 hd0_ h90_ hb1 hcp1 (by omega) (by omega) pS_DigitOnes pD G1 q6_6 pS_COMPACT_STRINGS pP5 f28) hZ (own_w hw 156 rfl) (own_w hw 85 rfl) (by decide) (by decide)) qa29 qc29 (g := (mkF m 16 #[.val (.ref ob)] [(.long z0_), (.ref b1)])) rfl (by rw [hml]; rfl) (Steps.refl _) (argsL := [(.long z0_)]) (rest := []) (lenOf pd__J_Ljava_lang_StringBuilder_ rfl) rfl (by show 2 * 0 + _ ≤ _; exact Nat.le_of_eq rfl) (hb hby d11_16) (fun _ _ => ⟨rfl, e26, (by decide : 4 + 0 ≤ _), (by decide : 56 + 0 ≤ _)⟩)
  dsimp only [Pt.U, Pt.locs, Pt.cells, Pt.slots] at X29 l29 y29 z29 st29 hQ29
  try dsimp only [Nat.reduceAdd] at y29 z29
  rw [l29, y29, z29] at X29
  obtain ⟨rfl, Nq29, Kq29, q29_0, q29_1, q29_2, q29_3, q29_4⟩ := hQ29
  have N29 := Fr.app N21 Nq29
  have f31 := (Safe.keep Kq21 Sa22 CH12 f23)
  have Sa30 : ∀ y ∈ [b1, va_6], Safe Z own_EL T10.vm T21.heap y := (sfS (Safe.exa hZ.alike q21_0 (by decide) (by decide)) (sfS f31 sf0))
  have CH30 := CH22.keep Kq29 Sa30
  have CR30 := CHr.trans CR22 (CHr.keep Kq29 Sa30 CH22)
  have K32 : Keep h0 T29.heap [] := K24.trans Kq29 (allS (Or.inr B1) (allS (Or.inr Bf9) all0))
  refine own_tr st29 ?_
  obtain ⟨Rz2, hR2_⟩ : ∃ b : List Value, b = List.drop 1 Rz1 := ⟨_, rfl⟩
  obtain ⟨Bz2, hB2_⟩ : ∃ b : List Value, b = Bz1 ++ [(.int (Int32.ofNat (48 + n0_)))] := ⟨_, rfl⟩
  obtain ⟨Cz2, hC2_⟩ : ∃ c : Int32, c = Cz1 + (1 : Int32) := ⟨_, rfl⟩
  rw [← hB2_, ← hR2_] at q29_4
  rw [← hC2_] at q29_3
  have lB2 : Bz2.length = Bz1.length + ([(.int (Int32.ofNat (48 + n0_)))] : List Value).length := by rw [hB2_, List.length_append]
  have hb2 : Cz2.toInt = (Bz2.length : Int) := by rw [hC2_, lB2]; exact own_addI hb1 (show (1 : Int32).toInt = ((1 : Nat) : Int) from rfl) (by omega)
  have hL2 : 9 ≤ Bz2.length ∧ Bz2.length ≤ 9 := by omega
  have hv2 : Bz2.length + Rz2.length = 16 := by rw [hR2_, List.length_drop]; omega
  have hcp2 : (16 : Int32).toInt = ((Bz2.length + Rz2.length : Nat) : Int) := by rw [hcp1, hv1, hv2]
  have f34 := (Nat.le_trans (Nat.le_trans hk10 Kq21.1) Kq29.1)
  obtain ⟨b33, T33, h33, k33, t33, kb33, X33, e33, E33, hS, hk33, hZ, hown, xE33, xC33, xV33, xA33, -, -, A33, -, -, st33⟩ := ldcCH X29 hx hZ hown (own_w hw 177 rfl) (own_wS hw) rfl hS f34 hEL (List.mem_of_getElem? (i := 1) rfl) CH30 (vs := own_k2) (z := (5 : Int32)) (by decide +kernel) (by decide) (by decide) (g := (mkF m 19 #[.val (.ref ob)] [(.ref b1)])) rfl (hb hby d11_19) (n := 20) (by decide) (by decide) (by decide) (by decide)
  have CH35 := A33.1
  have CR35 := CHr.trans CR30 (A33)
  have K36 : Keep h0 h33 [] := K32.ext E33
  refine own_st st33 ?_
  have ul3 : 5 ≤ (own_k2 : List Value).length ∧ (own_k2 : List Value).length ≤ 5 := by decide
  have f37 := (Nat.le_trans (Nat.le_trans f27 Kq29.1) E33.1)
  have f38 := (q29_0.ext E33)
  have f39 := (q29_1.ext E33)
  have f40 := (q29_2.ext E33)
  have f41 := (q29_3.ext E33)
  have f42 := (q29_4.ext E33)
  have f43 := ((f28.keep Kq29 (allS G1 (allS q6_6 all0))).ext E33)
  obtain ⟨cq44, kq44, qa44, qb44, qc44⟩ := isOf hZ e33 f38
  obtain ⟨_, _, ⟨T44, L44, k44, n44⟩, -, X44, ⟨Lc44, hQ44, l44, y44, z44⟩, st44⟩ := X33.virtualBack hx (y := own_y10) (z := own_y10) hown (mvT hZ (own_w hw 102 rfl)) (mvT hZ (own_w hw 103 rfl)) (notFace_of_selects (args := #[]) (mvT hZ (own_w hw 105 rfl))) (mvT hZ (own_w hw 105 rfl)) (mvT hZ (own_w hw 104 rfl)) (by decide) (backOf (W := 0) (rmSbA l Z a0 hw [] b1 va_6 kva_6 ((16 : Int32)) Cz2 Bz2 Rz2 b33 t33 kb33 ((5 : Int32)) own_k2 zc h33 n0 f37 f38 f39 f40 f41 f42 xE33 xV33 xC33 xA33 hb2 hcp2 rfl (by omega) (by omega) G1 q6_6 pS_COMPACT_STRINGS pP5 f43) hZ (own_w hw 106 rfl) (own_w hw 85 rfl) (by decide) (by decide)) qa44 qc44 (g := (mkF m 21 #[.val (.ref ob)] [(.ref b33), (.ref b1)])) rfl (by rw [hml]; rfl) (Steps.refl _) (argsL := [(.ref b33)]) (rest := []) (lenOf pd__Ljava_lang_String__Ljava_lang_StringBuilder_ rfl) rfl (by show 2 * 0 + _ ≤ _; exact Nat.le_of_eq rfl) (hb hby d11_21) (fun _ _ => ⟨rfl, e33, (by decide : 6 + 0 ≤ _), (by decide : 80 + 0 ≤ _)⟩)
  dsimp only [Pt.U, Pt.locs, Pt.cells, Pt.slots] at X44 l44 y44 z44 st44 hQ44
  try dsimp only [Nat.reduceAdd] at y44 z44
  rw [l44, y44, z44] at X44
  obtain ⟨rfl, Nq44, Kq44, q44_0, q44_1, q44_2, q44_3, q44_4⟩ := hQ44
  have N44 := Fr.app N29 Nq44
  have f46 := (CHr.safe A33 q29_4.lt (Safe.keep Kq29 Sa30 CH22 f31))
  have Sa45 : ∀ y ∈ [b1, va_6], Safe Z own_EL T33.vm h33 y := (sfS (Safe.exa hZ.alike f38 (by decide) (by decide)) (sfS f46 sf0))
  have CH45 := CH35.keep Kq44 Sa45
  have CR45 := CHr.trans CR35 (CHr.keep Kq44 Sa45 CH35)
  have K47 : Keep h0 T44.heap [] := K36.trans Kq44 (allS (Or.inr B1) (allS (Or.inr Bf9) all0))
  refine own_tr st44 ?_
  obtain ⟨Rz3, hR3_⟩ : ∃ b : List Value, b = List.drop (own_k2 : List Value).length Rz2 := ⟨_, rfl⟩
  obtain ⟨Bz3, hB3_⟩ : ∃ b : List Value, b = Bz2 ++ own_k2 := ⟨_, rfl⟩
  obtain ⟨Cz3, hC3_⟩ : ∃ c : Int32, c = Cz2 + (5 : Int32) := ⟨_, rfl⟩
  rw [← hB3_, ← hR3_] at q44_4
  rw [← hC3_] at q44_3
  have lB3 : Bz3.length = Bz2.length + (own_k2 : List Value).length := by rw [hB3_, List.length_append]
  have hb3 : Cz3.toInt = (Bz3.length : Int) := by rw [hC3_, lB3]; exact own_addI hb2 rfl (by omega)
  have hL3 : 14 ≤ Bz3.length ∧ Bz3.length ≤ 14 := by omega
  have hv3 : Bz3.length + Rz3.length = 16 := by rw [hR3_, List.length_drop]; omega
  have hcp3 : (16 : Int32).toInt = ((Bz3.length + Rz3.length : Nat) : Int) := by rw [hcp2, hv2, hv3]
  have ul4 : 1 ≤ ([(.int (Int32.ofNat (48 + n1_)))] : List Value).length ∧ ([(.int (Int32.ofNat (48 + n1_)))] : List Value).length ≤ 1 := ⟨Nat.le_refl _, Nat.le_refl _⟩
  refine own_st (fun t_ k_ => XS.aloadN X44.here hx rfl (hb hby d11_24) rfl rfl k_) ?_
  have f48 := (((((((pF_created_ob.ext E1).keep Kq6 (ninS (Nat.ne_of_lt (Nat.lt_of_lt_of_le pE_ob.lt (Nat.le_of_eq g1.symm))) nin0)).ext E10).keep Kq21 (ninS (Nat.ne_of_lt (Nat.lt_of_lt_of_le pE_ob.lt (Nat.le_of_eq g1.symm))) (ninS (Nat.ne_of_lt (Nat.lt_of_lt_of_le (pE_ob.ext E1).lt q6_5)) nin0))).keep Kq29 (ninS (Nat.ne_of_lt (Nat.lt_of_lt_of_le pE_ob.lt (Nat.le_of_eq g1.symm))) (ninS (Nat.ne_of_lt (Nat.lt_of_lt_of_le (pE_ob.ext E1).lt q6_5)) nin0))).ext E33).keep Kq44 (ninS (Nat.ne_of_lt (Nat.lt_of_lt_of_le pE_ob.lt (Nat.le_of_eq g1.symm))) (ninS (Nat.ne_of_lt (Nat.lt_of_lt_of_le (pE_ob.ext E1).lt q6_5)) nin0)))
  obtain ⟨T49, X49, e49, st49⟩ := getF X44 hx hZ hown (host := "") (Or.inl (own_w hw 69 rfl)) Via.refl rfl f48 (g := (mkF m 25 #[.val (.ref ob)] [(.ref ob), (.ref b1)])) rfl rfl (hb hby d11_25)
  refine own_st st49 ?_
  have f50 := (Nat.le_trans f37 Kq44.1)
  have f51 := (f43.keep Kq44 (allS G1 (allS q6_6 all0)))
  obtain ⟨cq52, kq52, qa52, qb52, qc52⟩ := isOf hZ e49 q44_0
  obtain ⟨_, _, ⟨T52, L52, k52, n52⟩, -, X52, ⟨Lc52, hQ52, l52, y52, z52⟩, st52⟩ := X49.virtualBack hx (y := own_y28) (z := own_y28) hown (mvT hZ (own_w hw 152 rfl)) (mvT hZ (own_w hw 153 rfl)) (notFace_of_selects (args := #[]) (mvT hZ (own_w hw 155 rfl))) (mvT hZ (own_w hw 155 rfl)) (mvT hZ (own_w hw 154 rfl)) (by decide) (backOf (W := 0) (rmSj l Z a0 hw [] b1 va_6 kva_6 ((16 : Int32)) Cz3 Bz3 Rz3 z1_ n1_ zc dg _ T44.heap n0 f50 q44_0 q44_1 q44_2 q44_3 q44_4 hd1_ h91_ hb3 hcp3 (by omega) (by omega) pS_DigitOnes pD G1 q6_6 pS_COMPACT_STRINGS pP5 f51) hZ (own_w hw 156 rfl) (own_w hw 85 rfl) (by decide) (by decide)) qa52 qc52 (g := (mkF m 28 #[.val (.ref ob)] [(.long z1_), (.ref b1)])) rfl (by rw [hml]; rfl) (Steps.refl _) (argsL := [(.long z1_)]) (rest := []) (lenOf pd__J_Ljava_lang_StringBuilder_ rfl) rfl (by show 2 * 0 + _ ≤ _; exact Nat.le_of_eq rfl) (hb hby d11_28) (fun _ _ => ⟨rfl, e49, (by decide : 6 + 0 ≤ _), (by decide : 80 + 0 ≤ _)⟩)
  dsimp only [Pt.U, Pt.locs, Pt.cells, Pt.slots] at X52 l52 y52 z52 st52 hQ52
  try dsimp only [Nat.reduceAdd] at y52 z52
  rw [l52, y52, z52] at X52
  obtain ⟨rfl, Nq52, Kq52, q52_0, q52_1, q52_2, q52_3, q52_4⟩ := hQ52
  have N52 := Fr.app N44 Nq52
  have f54 := (Safe.keep Kq44 Sa45 CH35 f46)
  have Sa53 : ∀ y ∈ [b1, va_6], Safe Z own_EL T33.vm T44.heap y := (sfS (Safe.exa hZ.alike q44_0 (by decide) (by decide)) (sfS f54 sf0))
  have CH53 := CH45.keep Kq52 Sa53
  have CR53 := CHr.trans CR45 (CHr.keep Kq52 Sa53 CH45)
  have K55 : Keep h0 T52.heap [] := K47.trans Kq52 (allS (Or.inr B1) (allS (Or.inr Bf9) all0))
  refine own_tr st52 ?_
  obtain ⟨Rz4, hR4_⟩ : ∃ b : List Value, b = List.drop 1 Rz3 := ⟨_, rfl⟩
  obtain ⟨Bz4, hB4_⟩ : ∃ b : List Value, b = Bz3 ++ [(.int (Int32.ofNat (48 + n1_)))] := ⟨_, rfl⟩
  obtain ⟨Cz4, hC4_⟩ : ∃ c : Int32, c = Cz3 + (1 : Int32) := ⟨_, rfl⟩
  rw [← hB4_, ← hR4_] at q52_4
  rw [← hC4_] at q52_3
  have lB4 : Bz4.length = Bz3.length + ([(.int (Int32.ofNat (48 + n1_)))] : List Value).length := by rw [hB4_, List.length_append]
  have hb4 : Cz4.toInt = (Bz4.length : Int) := by rw [hC4_, lB4]; exact own_addI hb3 (show (1 : Int32).toInt = ((1 : Nat) : Int) from rfl) (by omega)
  have hL4 : 15 ≤ Bz4.length ∧ Bz4.length ≤ 15 := by omega
  have hv4 : Bz4.length + Rz4.length = 16 := by rw [hR4_, List.length_drop]; omega
  have hcp4 : (16 : Int32).toInt = ((Bz4.length + Rz4.length : Nat) : Int) := by rw [hcp3, hv3, hv4]
  have f57 := (Nat.le_trans (Nat.le_trans hk33 Kq44.1) Kq52.1)
  obtain ⟨b56, T56, h56, k56, t56, kb56, X56, e56, E56, hS, hk56, hZ, hown, xE56, xC56, xV56, xA56, -, -, A56, -, -, st56⟩ := ldcCH X52 hx hZ hown (own_w hw 178 rfl) (own_wS hw) rfl hS f57 hEL (List.mem_of_getElem? (i := 2) rfl) CH53 (vs := own_k3) (z := (9 : Int32)) (by decide +kernel) (by decide) (by decide) (g := (mkF m 31 #[.val (.ref ob)] [(.ref b1)])) rfl (hb hby d11_31) (n := 36) (by decide) (by decide) (by decide) (by decide)
  have CH58 := A56.1
  have CR58 := CHr.trans CR53 (A56)
  have K59 : Keep h0 h56 [] := K55.ext E56
  refine own_st st56 ?_
  have ul5 : 9 ≤ (own_k3 : List Value).length ∧ (own_k3 : List Value).length ≤ 9 := by decide
  have f60 := (Nat.le_trans (Nat.le_trans f50 Kq52.1) E56.1)
  have f61 := (q52_0.ext E56)
  have f62 := (q52_1.ext E56)
  have f63 := (q52_2.ext E56)
  have f64 := (q52_3.ext E56)
  have f65 := (q52_4.ext E56)
  have f66 := ((f51.keep Kq52 (allS G1 (allS q6_6 all0))).ext E56)
  obtain ⟨cq67, kq67, qa67, qb67, qc67⟩ := isOf hZ e56 f61
  obtain ⟨_, _, ⟨T67, L67, k67, n67⟩, -, X67, ⟨Lc67, hQ67, l67, y67, z67⟩, st67⟩ := X56.virtualBack hx (y := own_y10) (z := own_y10) hown (mvT hZ (own_w hw 102 rfl)) (mvT hZ (own_w hw 103 rfl)) (notFace_of_selects (args := #[]) (mvT hZ (own_w hw 105 rfl))) (mvT hZ (own_w hw 105 rfl)) (mvT hZ (own_w hw 104 rfl)) (by decide) (backOf (W := 0) (rmSgA l Z a0 hw [] b1 va_6 kva_6 ((16 : Int32)) Cz4 Bz4 Rz4 b56 t56 kb56 ((9 : Int32)) own_k3 zc h56 n0 f60 f61 f62 f63 f64 f65 xE56 xV56 xC56 xA56 hb4 hcp4 rfl (by omega) (by omega) G1 q6_6 pS_COMPACT_STRINGS pP5 f66) hZ (own_w hw 106 rfl) (own_w hw 85 rfl) (by decide) (by decide)) qa67 qc67 (g := (mkF m 33 #[.val (.ref ob)] [(.ref b56), (.ref b1)])) rfl (by rw [hml]; rfl) (Steps.refl _) (argsL := [(.ref b56)]) (rest := []) (lenOf pd__Ljava_lang_String__Ljava_lang_StringBuilder_ rfl) rfl (by show 2 * 0 + _ ≤ _; exact Nat.le_of_eq rfl) (hb hby d11_33) (fun _ _ => ⟨rfl, e56, (by decide : 8 + 1 ≤ _), (by decide : 120 + 142 ≤ _)⟩)
  dsimp only [Pt.U, Pt.locs, Pt.cells, Pt.slots] at X67 l67 y67 z67 st67 hQ67
  try dsimp only [Nat.reduceAdd] at y67 z67
  rw [l67, y67, z67] at X67
  obtain ⟨vb_67, kvb_67, cap2_67, r2_67, rfl, Nq67, Kq67, q67_0, q67_1, q67_2, q67_3, q67_4, q67_5, q67_6, q67_7⟩ := hQ67
  have N67 := Fr.app N52 Nq67
  have Sa68 : ∀ y ∈ [b1], Safe Z own_EL T56.vm h56 y := (sfS (Safe.exa hZ.alike f61 (by decide) (by decide)) sf0)
  have CH68 := CH58.keep Kq67 Sa68
  have CR68 := CHr.trans CR58 (CHr.keep Kq67 Sa68 CH58)
  have K69 : Keep h0 T67.heap [] := K59.trans Kq67 (allS (Or.inr B1) all0)
  have Bf70 : h0.size ≤ vb_67 := Nat.le_trans K59.1 q67_5
  refine own_tr st67 ?_
  obtain ⟨Rz5, hR5_⟩ : ∃ b : List Value, b = r2_67 := ⟨_, rfl⟩
  obtain ⟨Bz5, hB5_⟩ : ∃ b : List Value, b = Bz4 ++ own_k3 := ⟨_, rfl⟩
  obtain ⟨Cz5, hC5_⟩ : ∃ c : Int32, c = Cz4 + (9 : Int32) := ⟨_, rfl⟩
  rw [← hB5_, ← hR5_] at q67_4
  rw [← hC5_] at q67_3
  have lB5 : Bz5.length = Bz4.length + (own_k3 : List Value).length := by rw [hB5_, List.length_append]
  have hb5 : Cz5.toInt = (Bz5.length : Int) := by rw [hC5_, lB5]; exact own_addI hb4 rfl (by omega)
  have hL5 : 24 ≤ Bz5.length ∧ Bz5.length ≤ 24 := by omega
  have hg5 := q67_7.1
  unfold own_gr at hg5
  have hs5 := q67_7.2
  rw [← hC5_, hb5, hcp4, hv4] at hg5
  rw [← hR5_] at hs5
  have hv5 : Bz5.length + Rz5.length = 34 := by omega
  have hcp5 : cap2_67.toInt = ((Bz5.length + Rz5.length : Nat) : Int) := by omega
  have ul6 : 1 ≤ ([(.int (Int32.ofNat (48 + n2_)))] : List Value).length ∧ ([(.int (Int32.ofNat (48 + n2_)))] : List Value).length ≤ 1 := ⟨Nat.le_refl _, Nat.le_refl _⟩
  refine own_st (fun t_ k_ => XS.aloadN X67.here hx rfl (hb hby d11_36) rfl rfl k_) ?_
  have f71 := ((((((((((pF_updated_ob.ext E1).keep Kq6 (ninS (Nat.ne_of_lt (Nat.lt_of_lt_of_le pE_ob.lt (Nat.le_of_eq g1.symm))) nin0)).ext E10).keep Kq21 (ninS (Nat.ne_of_lt (Nat.lt_of_lt_of_le pE_ob.lt (Nat.le_of_eq g1.symm))) (ninS (Nat.ne_of_lt (Nat.lt_of_lt_of_le (pE_ob.ext E1).lt q6_5)) nin0))).keep Kq29 (ninS (Nat.ne_of_lt (Nat.lt_of_lt_of_le pE_ob.lt (Nat.le_of_eq g1.symm))) (ninS (Nat.ne_of_lt (Nat.lt_of_lt_of_le (pE_ob.ext E1).lt q6_5)) nin0))).ext E33).keep Kq44 (ninS (Nat.ne_of_lt (Nat.lt_of_lt_of_le pE_ob.lt (Nat.le_of_eq g1.symm))) (ninS (Nat.ne_of_lt (Nat.lt_of_lt_of_le (pE_ob.ext E1).lt q6_5)) nin0))).keep Kq52 (ninS (Nat.ne_of_lt (Nat.lt_of_lt_of_le pE_ob.lt (Nat.le_of_eq g1.symm))) (ninS (Nat.ne_of_lt (Nat.lt_of_lt_of_le (pE_ob.ext E1).lt q6_5)) nin0))).ext E56).keep Kq67 (ninS (Nat.ne_of_lt (Nat.lt_of_lt_of_le pE_ob.lt (Nat.le_of_eq g1.symm))) nin0))
  obtain ⟨T72, X72, e72, st72⟩ := getF X67 hx hZ hown (host := "") (Or.inl (own_w hw 199 rfl)) Via.refl rfl f71 (g := (mkF m 37 #[.val (.ref ob)] [(.ref ob), (.ref b1)])) rfl rfl (hb hby d11_37)
  refine own_st st72 ?_
  have f73 := (Nat.le_trans f60 Kq67.1)
  have f74 := (f66.keep Kq67 (allS G1 all0))
  obtain ⟨cq75, kq75, qa75, qb75, qc75⟩ := isOf hZ e72 q67_0
  obtain ⟨_, _, ⟨T75, L75, k75, n75⟩, -, X75, ⟨Lc75, hQ75, l75, y75, z75⟩, st75⟩ := X72.virtualBack hx (y := own_y28) (z := own_y28) hown (mvT hZ (own_w hw 152 rfl)) (mvT hZ (own_w hw 153 rfl)) (notFace_of_selects (args := #[]) (mvT hZ (own_w hw 155 rfl))) (mvT hZ (own_w hw 155 rfl)) (mvT hZ (own_w hw 154 rfl)) (by decide) (backOf (W := 0) (rmSj l Z a0 hw [] b1 vb_67 kvb_67 cap2_67 Cz5 Bz5 Rz5 z2_ n2_ zc dg _ T67.heap n0 f73 q67_0 q67_1 q67_2 q67_3 q67_4 hd2_ h92_ hb5 hcp5 (by omega) (by omega) pS_DigitOnes pD G1 q67_6 pS_COMPACT_STRINGS pP5 f74) hZ (own_w hw 156 rfl) (own_w hw 85 rfl) (by decide) (by decide)) qa75 qc75 (g := (mkF m 40 #[.val (.ref ob)] [(.long z2_), (.ref b1)])) rfl (by rw [hml]; rfl) (Steps.refl _) (argsL := [(.long z2_)]) (rest := []) (lenOf pd__J_Ljava_lang_StringBuilder_ rfl) rfl (by show 2 * 0 + _ ≤ _; exact Nat.le_of_eq rfl) (hb hby d11_40) (fun _ _ => ⟨rfl, e72, (by decide : 9 + 0 ≤ _), (by decide : 262 + 0 ≤ _)⟩)
  dsimp only [Pt.U, Pt.locs, Pt.cells, Pt.slots] at X75 l75 y75 z75 st75 hQ75
  try dsimp only [Nat.reduceAdd] at y75 z75
  rw [l75, y75, z75] at X75
  obtain ⟨rfl, Nq75, Kq75, q75_0, q75_1, q75_2, q75_3, q75_4⟩ := hQ75
  have N75 := Fr.app N67 Nq75
  have f77 := (Safe.keep Kq67 Sa68 CH58 (Safe.new (x := vb_67) q67_5))
  have Sa76 : ∀ y ∈ [b1, vb_67], Safe Z own_EL T56.vm T67.heap y := (sfS (Safe.exa hZ.alike q67_0 (by decide) (by decide)) (sfS f77 sf0))
  have CH76 := CH68.keep Kq75 Sa76
  have CR76 := CHr.trans CR68 (CHr.keep Kq75 Sa76 CH68)
  have K78 : Keep h0 T75.heap [] := K69.trans Kq75 (allS (Or.inr B1) (allS (Or.inr Bf70) all0))
  refine own_tr st75 ?_
  obtain ⟨Rz6, hR6_⟩ : ∃ b : List Value, b = List.drop 1 Rz5 := ⟨_, rfl⟩
  obtain ⟨Bz6, hB6_⟩ : ∃ b : List Value, b = Bz5 ++ [(.int (Int32.ofNat (48 + n2_)))] := ⟨_, rfl⟩
  obtain ⟨Cz6, hC6_⟩ : ∃ c : Int32, c = Cz5 + (1 : Int32) := ⟨_, rfl⟩
  rw [← hB6_, ← hR6_] at q75_4
  rw [← hC6_] at q75_3
  have lB6 : Bz6.length = Bz5.length + ([(.int (Int32.ofNat (48 + n2_)))] : List Value).length := by rw [hB6_, List.length_append]
  have hb6 : Cz6.toInt = (Bz6.length : Int) := by rw [hC6_, lB6]; exact own_addI hb5 (show (1 : Int32).toInt = ((1 : Nat) : Int) from rfl) (by omega)
  have hL6 : 25 ≤ Bz6.length ∧ Bz6.length ≤ 25 := by omega
  have hv6 : Bz6.length + Rz6.length = 34 := by rw [hR6_, List.length_drop]; omega
  have hcp6 : cap2_67.toInt = ((Bz6.length + Rz6.length : Nat) : Int) := by rw [hcp5, hv5, hv6]
  have f80 := (Nat.le_trans (Nat.le_trans hk56 Kq67.1) Kq75.1)
  obtain ⟨b79, T79, h79, k79, t79, kb79, X79, e79, E79, hS, hk79, hZ, hown, xE79, xC79, xV79, xA79, -, -, A79, -, -, st79⟩ := ldcCH X75 hx hZ hown (own_w hw 201 rfl) (own_wS hw) rfl hS f80 hEL (List.mem_of_getElem? (i := 3) rfl) CH76 (vs := own_k4) (z := (11 : Int32)) (by decide +kernel) (by decide) (by decide) (g := (mkF m 43 #[.val (.ref ob)] [(.ref b1)])) rfl (hb hby d11_43) (n := 44) (by decide) (by decide) (by decide) (by decide)
  have CH81 := A79.1
  have CR81 := CHr.trans CR76 (A79)
  have K82 : Keep h0 h79 [] := K78.ext E79
  refine own_st st79 ?_
  have ul7 : 11 ≤ (own_k4 : List Value).length ∧ (own_k4 : List Value).length ≤ 11 := by decide
  have f83 := (Nat.le_trans (Nat.le_trans f73 Kq75.1) E79.1)
  have f84 := (q75_0.ext E79)
  have f85 := (q75_1.ext E79)
  have f86 := (q75_2.ext E79)
  have f87 := (q75_3.ext E79)
  have f88 := (q75_4.ext E79)
  have f89 := ((f74.keep Kq75 (allS G1 (allS q67_6 all0))).ext E79)
  obtain ⟨cq90, kq90, qa90, qb90, qc90⟩ := isOf hZ e79 f84
  obtain ⟨_, _, ⟨T90, L90, k90, n90⟩, -, X90, ⟨Lc90, hQ90, l90, y90, z90⟩, st90⟩ := X79.virtualBack hx (y := own_y10) (z := own_y10) hown (mvT hZ (own_w hw 102 rfl)) (mvT hZ (own_w hw 103 rfl)) (notFace_of_selects (args := #[]) (mvT hZ (own_w hw 105 rfl))) (mvT hZ (own_w hw 105 rfl)) (mvT hZ (own_w hw 104 rfl)) (by decide) (backOf (W := 0) (rmSgA l Z a0 hw [] b1 vb_67 kvb_67 cap2_67 Cz6 Bz6 Rz6 b79 t79 kb79 ((11 : Int32)) own_k4 zc h79 n0 f83 f84 f85 f86 f87 f88 xE79 xV79 xC79 xA79 hb6 hcp6 rfl (by omega) (by omega) G1 q67_6 pS_COMPACT_STRINGS pP5 f89) hZ (own_w hw 106 rfl) (own_w hw 85 rfl) (by decide) (by decide)) qa90 qc90 (g := (mkF m 45 #[.val (.ref ob)] [(.ref b79), (.ref b1)])) rfl (by rw [hml]; rfl) (Steps.refl _) (argsL := [(.ref b79)]) (rest := []) (lenOf pd__Ljava_lang_String__Ljava_lang_StringBuilder_ rfl) rfl (by show 2 * 0 + _ ≤ _; exact Nat.le_of_eq rfl) (hb hby d11_45) (fun _ _ => ⟨rfl, e79, (by decide : 11 + 1 ≤ _), (by decide : 310 + 142 ≤ _)⟩)
  dsimp only [Pt.U, Pt.locs, Pt.cells, Pt.slots] at X90 l90 y90 z90 st90 hQ90
  try dsimp only [Nat.reduceAdd] at y90 z90
  rw [l90, y90, z90] at X90
  obtain ⟨vb_90, kvb_90, cap2_90, r2_90, rfl, Nq90, Kq90, q90_0, q90_1, q90_2, q90_3, q90_4, q90_5, q90_6, q90_7⟩ := hQ90
  have N90 := Fr.app N75 Nq90
  have Sa91 : ∀ y ∈ [b1], Safe Z own_EL T79.vm h79 y := (sfS (Safe.exa hZ.alike f84 (by decide) (by decide)) sf0)
  have CH91 := CH81.keep Kq90 Sa91
  have CR91 := CHr.trans CR81 (CHr.keep Kq90 Sa91 CH81)
  have K92 : Keep h0 T90.heap [] := K82.trans Kq90 (allS (Or.inr B1) all0)
  have Bf93 : h0.size ≤ vb_90 := Nat.le_trans K82.1 q90_5
  refine own_tr st90 ?_
  obtain ⟨Rz7, hR7_⟩ : ∃ b : List Value, b = r2_90 := ⟨_, rfl⟩
  obtain ⟨Bz7, hB7_⟩ : ∃ b : List Value, b = Bz6 ++ own_k4 := ⟨_, rfl⟩
  obtain ⟨Cz7, hC7_⟩ : ∃ c : Int32, c = Cz6 + (11 : Int32) := ⟨_, rfl⟩
  rw [← hB7_, ← hR7_] at q90_4
  rw [← hC7_] at q90_3
  have lB7 : Bz7.length = Bz6.length + (own_k4 : List Value).length := by rw [hB7_, List.length_append]
  have hb7 : Cz7.toInt = (Bz7.length : Int) := by rw [hC7_, lB7]; exact own_addI hb6 rfl (by omega)
  have hL7 : 36 ≤ Bz7.length ∧ Bz7.length ≤ 36 := by omega
  have hg7 := q90_7.1
  unfold own_gr at hg7
  have hs7 := q90_7.2
  rw [← hC7_, hb7, hcp6, hv6] at hg7
  rw [← hR7_] at hs7
  have hv7 : Bz7.length + Rz7.length = 70 := by omega
  have hcp7 : cap2_90.toInt = ((Bz7.length + Rz7.length : Nat) : Int) := by omega
  have ul8 : 1 ≤ ([(.int (Int32.ofNat (48 + n3_)))] : List Value).length ∧ ([(.int (Int32.ofNat (48 + n3_)))] : List Value).length ≤ 1 := ⟨Nat.le_refl _, Nat.le_refl _⟩
  refine own_st (fun t_ k_ => XS.aloadN X90.here hx rfl (hb hby d11_48) rfl rfl k_) ?_
  have f94 := (((((((((((((pF_unchanged_ob.ext E1).keep Kq6 (ninS (Nat.ne_of_lt (Nat.lt_of_lt_of_le pE_ob.lt (Nat.le_of_eq g1.symm))) nin0)).ext E10).keep Kq21 (ninS (Nat.ne_of_lt (Nat.lt_of_lt_of_le pE_ob.lt (Nat.le_of_eq g1.symm))) (ninS (Nat.ne_of_lt (Nat.lt_of_lt_of_le (pE_ob.ext E1).lt q6_5)) nin0))).keep Kq29 (ninS (Nat.ne_of_lt (Nat.lt_of_lt_of_le pE_ob.lt (Nat.le_of_eq g1.symm))) (ninS (Nat.ne_of_lt (Nat.lt_of_lt_of_le (pE_ob.ext E1).lt q6_5)) nin0))).ext E33).keep Kq44 (ninS (Nat.ne_of_lt (Nat.lt_of_lt_of_le pE_ob.lt (Nat.le_of_eq g1.symm))) (ninS (Nat.ne_of_lt (Nat.lt_of_lt_of_le (pE_ob.ext E1).lt q6_5)) nin0))).keep Kq52 (ninS (Nat.ne_of_lt (Nat.lt_of_lt_of_le pE_ob.lt (Nat.le_of_eq g1.symm))) (ninS (Nat.ne_of_lt (Nat.lt_of_lt_of_le (pE_ob.ext E1).lt q6_5)) nin0))).ext E56).keep Kq67 (ninS (Nat.ne_of_lt (Nat.lt_of_lt_of_le pE_ob.lt (Nat.le_of_eq g1.symm))) nin0)).keep Kq75 (ninS (Nat.ne_of_lt (Nat.lt_of_lt_of_le pE_ob.lt (Nat.le_of_eq g1.symm))) (ninS (Nat.ne_of_lt (Nat.lt_of_lt_of_le (((((((((pE_ob.ext E1).keep Kq6).ext E10).keep Kq21).keep Kq29).ext E33).keep Kq44).keep Kq52).ext E56).lt q67_5)) nin0))).ext E79).keep Kq90 (ninS (Nat.ne_of_lt (Nat.lt_of_lt_of_le pE_ob.lt (Nat.le_of_eq g1.symm))) nin0))
  obtain ⟨T95, X95, e95, st95⟩ := getF X90 hx hZ hown (host := "") (Or.inl (own_w hw 202 rfl)) Via.refl rfl f94 (g := (mkF m 49 #[.val (.ref ob)] [(.ref ob), (.ref b1)])) rfl rfl (hb hby d11_49)
  refine own_st st95 ?_
  have f96 := (Nat.le_trans f83 Kq90.1)
  have f97 := (f89.keep Kq90 (allS G1 all0))
  obtain ⟨cq98, kq98, qa98, qb98, qc98⟩ := isOf hZ e95 q90_0
  obtain ⟨_, _, ⟨T98, L98, k98, n98⟩, -, X98, ⟨Lc98, hQ98, l98, y98, z98⟩, st98⟩ := X95.virtualBack hx (y := own_y28) (z := own_y28) hown (mvT hZ (own_w hw 152 rfl)) (mvT hZ (own_w hw 153 rfl)) (notFace_of_selects (args := #[]) (mvT hZ (own_w hw 155 rfl))) (mvT hZ (own_w hw 155 rfl)) (mvT hZ (own_w hw 154 rfl)) (by decide) (backOf (W := 0) (rmSj l Z a0 hw [] b1 vb_90 kvb_90 cap2_90 Cz7 Bz7 Rz7 z3_ n3_ zc dg _ T90.heap n0 f96 q90_0 q90_1 q90_2 q90_3 q90_4 hd3_ h93_ hb7 hcp7 (by omega) (by omega) pS_DigitOnes pD G1 q90_6 pS_COMPACT_STRINGS pP5 f97) hZ (own_w hw 156 rfl) (own_w hw 85 rfl) (by decide) (by decide)) qa98 qc98 (g := (mkF m 52 #[.val (.ref ob)] [(.long z3_), (.ref b1)])) rfl (by rw [hml]; rfl) (Steps.refl _) (argsL := [(.long z3_)]) (rest := []) (lenOf pd__J_Ljava_lang_StringBuilder_ rfl) rfl (by show 2 * 0 + _ ≤ _; exact Nat.le_of_eq rfl) (hb hby d11_52) (fun _ _ => ⟨rfl, e95, (by decide : 12 + 0 ≤ _), (by decide : 452 + 0 ≤ _)⟩)
  dsimp only [Pt.U, Pt.locs, Pt.cells, Pt.slots] at X98 l98 y98 z98 st98 hQ98
  try dsimp only [Nat.reduceAdd] at y98 z98
  rw [l98, y98, z98] at X98
  obtain ⟨rfl, Nq98, Kq98, q98_0, q98_1, q98_2, q98_3, q98_4⟩ := hQ98
  have N98 := Fr.app N90 Nq98
  have f100 := (Safe.keep Kq90 Sa91 CH81 (Safe.new (x := vb_90) q90_5))
  have Sa99 : ∀ y ∈ [b1, vb_90], Safe Z own_EL T79.vm T90.heap y := (sfS (Safe.exa hZ.alike q90_0 (by decide) (by decide)) (sfS f100 sf0))
  have CH99 := CH91.keep Kq98 Sa99
  have CR99 := CHr.trans CR91 (CHr.keep Kq98 Sa99 CH91)
  have K101 : Keep h0 T98.heap [] := K92.trans Kq98 (allS (Or.inr B1) (allS (Or.inr Bf93) all0))
  refine own_tr st98 ?_
  obtain ⟨Rz8, hR8_⟩ : ∃ b : List Value, b = List.drop 1 Rz7 := ⟨_, rfl⟩
  obtain ⟨Bz8, hB8_⟩ : ∃ b : List Value, b = Bz7 ++ [(.int (Int32.ofNat (48 + n3_)))] := ⟨_, rfl⟩
  obtain ⟨Cz8, hC8_⟩ : ∃ c : Int32, c = Cz7 + (1 : Int32) := ⟨_, rfl⟩
  rw [← hB8_, ← hR8_] at q98_4
  rw [← hC8_] at q98_3
  have lB8 : Bz8.length = Bz7.length + ([(.int (Int32.ofNat (48 + n3_)))] : List Value).length := by rw [hB8_, List.length_append]
  have hb8 : Cz8.toInt = (Bz8.length : Int) := by rw [hC8_, lB8]; exact own_addI hb7 (show (1 : Int32).toInt = ((1 : Nat) : Int) from rfl) (by omega)
  have hL8 : 37 ≤ Bz8.length ∧ Bz8.length ≤ 37 := by omega
  have hv8 : Bz8.length + Rz8.length = 70 := by rw [hR8_, List.length_drop]; omega
  have hcp8 : cap2_90.toInt = ((Bz8.length + Rz8.length : Nat) : Int) := by rw [hcp7, hv7, hv8]
  have f103 := (Nat.le_trans (Nat.le_trans hk79 Kq90.1) Kq98.1)
  obtain ⟨b102, T102, h102, k102, t102, kb102, X102, e102, E102, hS, hk102, hZ, hown, xE102, xC102, xV102, xA102, -, -, A102, -, -, st102⟩ := ldcCH X98 hx hZ hown (own_w hw 204 rfl) (own_wS hw) rfl hS f103 hEL (List.mem_of_getElem? (i := 4) rfl) CH99 (vs := own_k5) (z := (10 : Int32)) (by decide +kernel) (by decide) (by decide) (g := (mkF m 55 #[.val (.ref ob)] [(.ref b1)])) rfl (hb hby d11_55) (n := 40) (by decide) (by decide) (by decide) (by decide)
  have CH104 := A102.1
  have CR104 := CHr.trans CR99 (A102)
  have K105 : Keep h0 h102 [] := K101.ext E102
  refine own_st st102 ?_
  have ul9 : 10 ≤ (own_k5 : List Value).length ∧ (own_k5 : List Value).length ≤ 10 := by decide
  have f106 := (Nat.le_trans (Nat.le_trans f96 Kq98.1) E102.1)
  have f107 := (q98_0.ext E102)
  have f108 := (q98_1.ext E102)
  have f109 := (q98_2.ext E102)
  have f110 := (q98_3.ext E102)
  have f111 := (q98_4.ext E102)
  have f112 := ((f97.keep Kq98 (allS G1 (allS q90_6 all0))).ext E102)
  obtain ⟨cq113, kq113, qa113, qb113, qc113⟩ := isOf hZ e102 f107
  obtain ⟨_, _, ⟨T113, L113, k113, n113⟩, -, X113, ⟨Lc113, hQ113, l113, y113, z113⟩, st113⟩ := X102.virtualBack hx (y := own_y10) (z := own_y10) hown (mvT hZ (own_w hw 102 rfl)) (mvT hZ (own_w hw 103 rfl)) (notFace_of_selects (args := #[]) (mvT hZ (own_w hw 105 rfl))) (mvT hZ (own_w hw 105 rfl)) (mvT hZ (own_w hw 104 rfl)) (by decide) (backOf (W := 0) (rmSbA l Z a0 hw [] b1 vb_90 kvb_90 cap2_90 Cz8 Bz8 Rz8 b102 t102 kb102 ((10 : Int32)) own_k5 zc h102 n0 f106 f107 f108 f109 f110 f111 xE102 xV102 xC102 xA102 hb8 hcp8 rfl (by omega) (by omega) G1 q90_6 pS_COMPACT_STRINGS pP5 f112) hZ (own_w hw 106 rfl) (own_w hw 85 rfl) (by decide) (by decide)) qa113 qc113 (g := (mkF m 57 #[.val (.ref ob)] [(.ref b102), (.ref b1)])) rfl (by rw [hml]; rfl) (Steps.refl _) (argsL := [(.ref b102)]) (rest := []) (lenOf pd__Ljava_lang_String__Ljava_lang_StringBuilder_ rfl) rfl (by show 2 * 0 + _ ≤ _; exact Nat.le_of_eq rfl) (hb hby d11_57) (fun _ _ => ⟨rfl, e102, (by decide : 14 + 0 ≤ _), (by decide : 496 + 0 ≤ _)⟩)
  dsimp only [Pt.U, Pt.locs, Pt.cells, Pt.slots] at X113 l113 y113 z113 st113 hQ113
  try dsimp only [Nat.reduceAdd] at y113 z113
  rw [l113, y113, z113] at X113
  obtain ⟨rfl, Nq113, Kq113, q113_0, q113_1, q113_2, q113_3, q113_4⟩ := hQ113
  have N113 := Fr.app N98 Nq113
  have f115 := (CHr.safe A102 q98_4.lt (Safe.keep Kq98 Sa99 CH91 f100))
  have Sa114 : ∀ y ∈ [b1, vb_90], Safe Z own_EL T102.vm h102 y := (sfS (Safe.exa hZ.alike f107 (by decide) (by decide)) (sfS f115 sf0))
  have CH114 := CH104.keep Kq113 Sa114
  have CR114 := CHr.trans CR104 (CHr.keep Kq113 Sa114 CH104)
  have K116 : Keep h0 T113.heap [] := K105.trans Kq113 (allS (Or.inr B1) (allS (Or.inr Bf93) all0))
  refine own_tr st113 ?_
  obtain ⟨Rz9, hR9_⟩ : ∃ b : List Value, b = List.drop (own_k5 : List Value).length Rz8 := ⟨_, rfl⟩
  obtain ⟨Bz9, hB9_⟩ : ∃ b : List Value, b = Bz8 ++ own_k5 := ⟨_, rfl⟩
  obtain ⟨Cz9, hC9_⟩ : ∃ c : Int32, c = Cz8 + (10 : Int32) := ⟨_, rfl⟩
  rw [← hB9_, ← hR9_] at q113_4
  rw [← hC9_] at q113_3
  have lB9 : Bz9.length = Bz8.length + (own_k5 : List Value).length := by rw [hB9_, List.length_append]
  have hb9 : Cz9.toInt = (Bz9.length : Int) := by rw [hC9_, lB9]; exact own_addI hb8 rfl (by omega)
  have hL9 : 47 ≤ Bz9.length ∧ Bz9.length ≤ 47 := by omega
  have hv9 : Bz9.length + Rz9.length = 70 := by rw [hR9_, List.length_drop]; omega
  have hcp9 : cap2_90.toInt = ((Bz9.length + Rz9.length : Nat) : Int) := by rw [hcp8, hv8, hv9]
  have ul10 : 1 ≤ ([(.int (Int32.ofNat (48 + n4_)))] : List Value).length ∧ ([(.int (Int32.ofNat (48 + n4_)))] : List Value).length ≤ 1 := ⟨Nat.le_refl _, Nat.le_refl _⟩
  refine own_st (fun t_ k_ => XS.aloadN X113.here hx rfl (hb hby d11_60) rfl rfl k_) ?_
  have f117 := ((((((((((((((((pF_rejected_ob.ext E1).keep Kq6 (ninS (Nat.ne_of_lt (Nat.lt_of_lt_of_le pE_ob.lt (Nat.le_of_eq g1.symm))) nin0)).ext E10).keep Kq21 (ninS (Nat.ne_of_lt (Nat.lt_of_lt_of_le pE_ob.lt (Nat.le_of_eq g1.symm))) (ninS (Nat.ne_of_lt (Nat.lt_of_lt_of_le (pE_ob.ext E1).lt q6_5)) nin0))).keep Kq29 (ninS (Nat.ne_of_lt (Nat.lt_of_lt_of_le pE_ob.lt (Nat.le_of_eq g1.symm))) (ninS (Nat.ne_of_lt (Nat.lt_of_lt_of_le (pE_ob.ext E1).lt q6_5)) nin0))).ext E33).keep Kq44 (ninS (Nat.ne_of_lt (Nat.lt_of_lt_of_le pE_ob.lt (Nat.le_of_eq g1.symm))) (ninS (Nat.ne_of_lt (Nat.lt_of_lt_of_le (pE_ob.ext E1).lt q6_5)) nin0))).keep Kq52 (ninS (Nat.ne_of_lt (Nat.lt_of_lt_of_le pE_ob.lt (Nat.le_of_eq g1.symm))) (ninS (Nat.ne_of_lt (Nat.lt_of_lt_of_le (pE_ob.ext E1).lt q6_5)) nin0))).ext E56).keep Kq67 (ninS (Nat.ne_of_lt (Nat.lt_of_lt_of_le pE_ob.lt (Nat.le_of_eq g1.symm))) nin0)).keep Kq75 (ninS (Nat.ne_of_lt (Nat.lt_of_lt_of_le pE_ob.lt (Nat.le_of_eq g1.symm))) (ninS (Nat.ne_of_lt (Nat.lt_of_lt_of_le (((((((((pE_ob.ext E1).keep Kq6).ext E10).keep Kq21).keep Kq29).ext E33).keep Kq44).keep Kq52).ext E56).lt q67_5)) nin0))).ext E79).keep Kq90 (ninS (Nat.ne_of_lt (Nat.lt_of_lt_of_le pE_ob.lt (Nat.le_of_eq g1.symm))) nin0)).keep Kq98 (ninS (Nat.ne_of_lt (Nat.lt_of_lt_of_le pE_ob.lt (Nat.le_of_eq g1.symm))) (ninS (Nat.ne_of_lt (Nat.lt_of_lt_of_le ((((((((((((pE_ob.ext E1).keep Kq6).ext E10).keep Kq21).keep Kq29).ext E33).keep Kq44).keep Kq52).ext E56).keep Kq67).keep Kq75).ext E79).lt q90_5)) nin0))).ext E102).keep Kq113 (ninS (Nat.ne_of_lt (Nat.lt_of_lt_of_le pE_ob.lt (Nat.le_of_eq g1.symm))) (ninS (Nat.ne_of_lt (Nat.lt_of_lt_of_le ((((((((((((pE_ob.ext E1).keep Kq6).ext E10).keep Kq21).keep Kq29).ext E33).keep Kq44).keep Kq52).ext E56).keep Kq67).keep Kq75).ext E79).lt q90_5)) nin0)))
  obtain ⟨T118, X118, e118, st118⟩ := getF X113 hx hZ hown (host := "") (Or.inl (own_w hw 205 rfl)) Via.refl rfl f117 (g := (mkF m 61 #[.val (.ref ob)] [(.ref ob), (.ref b1)])) rfl rfl (hb hby d11_61)
  refine own_st st118 ?_
  have f119 := (Nat.le_trans f106 Kq113.1)
  have f120 := (f112.keep Kq113 (allS G1 (allS q90_6 all0)))
  obtain ⟨cq121, kq121, qa121, qb121, qc121⟩ := isOf hZ e118 q113_0
  obtain ⟨_, _, ⟨T121, L121, k121, n121⟩, -, X121, ⟨Lc121, hQ121, l121, y121, z121⟩, st121⟩ := X118.virtualBack hx (y := own_y28) (z := own_y28) hown (mvT hZ (own_w hw 152 rfl)) (mvT hZ (own_w hw 153 rfl)) (notFace_of_selects (args := #[]) (mvT hZ (own_w hw 155 rfl))) (mvT hZ (own_w hw 155 rfl)) (mvT hZ (own_w hw 154 rfl)) (by decide) (backOf (W := 0) (rmSj l Z a0 hw [] b1 vb_90 kvb_90 cap2_90 Cz9 Bz9 Rz9 z4_ n4_ zc dg _ T113.heap n0 f119 q113_0 q113_1 q113_2 q113_3 q113_4 hd4_ h94_ hb9 hcp9 (by omega) (by omega) pS_DigitOnes pD G1 q90_6 pS_COMPACT_STRINGS pP5 f120) hZ (own_w hw 156 rfl) (own_w hw 85 rfl) (by decide) (by decide)) qa121 qc121 (g := (mkF m 64 #[.val (.ref ob)] [(.long z4_), (.ref b1)])) rfl (by rw [hml]; rfl) (Steps.refl _) (argsL := [(.long z4_)]) (rest := []) (lenOf pd__J_Ljava_lang_StringBuilder_ rfl) rfl (by show 2 * 0 + _ ≤ _; exact Nat.le_of_eq rfl) (hb hby d11_64) (fun _ _ => ⟨rfl, e118, (by decide : 14 + 0 ≤ _), (by decide : 496 + 0 ≤ _)⟩)
  dsimp only [Pt.U, Pt.locs, Pt.cells, Pt.slots] at X121 l121 y121 z121 st121 hQ121
  try dsimp only [Nat.reduceAdd] at y121 z121
  rw [l121, y121, z121] at X121
  obtain ⟨rfl, Nq121, Kq121, q121_0, q121_1, q121_2, q121_3, q121_4⟩ := hQ121
  have N121 := Fr.app N113 Nq121
  have f123 := (Safe.keep Kq113 Sa114 CH104 f115)
  have Sa122 : ∀ y ∈ [b1, vb_90], Safe Z own_EL T102.vm T113.heap y := (sfS (Safe.exa hZ.alike q113_0 (by decide) (by decide)) (sfS f123 sf0))
  have CH122 := CH114.keep Kq121 Sa122
  have CR122 := CHr.trans CR114 (CHr.keep Kq121 Sa122 CH114)
  have K124 : Keep h0 T121.heap [] := K116.trans Kq121 (allS (Or.inr B1) (allS (Or.inr Bf93) all0))
  refine own_tr st121 ?_
  obtain ⟨Rz10, hR10_⟩ : ∃ b : List Value, b = List.drop 1 Rz9 := ⟨_, rfl⟩
  obtain ⟨Bz10, hB10_⟩ : ∃ b : List Value, b = Bz9 ++ [(.int (Int32.ofNat (48 + n4_)))] := ⟨_, rfl⟩
  obtain ⟨Cz10, hC10_⟩ : ∃ c : Int32, c = Cz9 + (1 : Int32) := ⟨_, rfl⟩
  rw [← hB10_, ← hR10_] at q121_4
  rw [← hC10_] at q121_3
  have lB10 : Bz10.length = Bz9.length + ([(.int (Int32.ofNat (48 + n4_)))] : List Value).length := by rw [hB10_, List.length_append]
  have hb10 : Cz10.toInt = (Bz10.length : Int) := by rw [hC10_, lB10]; exact own_addI hb9 (show (1 : Int32).toInt = ((1 : Nat) : Int) from rfl) (by omega)
  have hL10 : 48 ≤ Bz10.length ∧ Bz10.length ≤ 48 := by omega
  have hv10 : Bz10.length + Rz10.length = 70 := by rw [hR10_, List.length_drop]; omega
  have hcp10 : cap2_90.toInt = ((Bz10.length + Rz10.length : Nat) : Int) := by rw [hcp9, hv9, hv10]
  have f126 := (Nat.le_trans (Nat.le_trans hk102 Kq113.1) Kq121.1)
  obtain ⟨b125, T125, h125, k125, t125, kb125, X125, e125, E125, hS, hk125, hZ, hown, xE125, xC125, xV125, xA125, -, -, A125, -, -, st125⟩ := ldcCH X121 hx hZ hown (own_w hw 207 rfl) (own_wS hw) rfl hS f126 hEL (List.mem_of_getElem? (i := 5) rfl) CH122 (vs := own_k6) (z := (8 : Int32)) (by decide +kernel) (by decide) (by decide) (g := (mkF m 67 #[.val (.ref ob)] [(.ref b1)])) rfl (hb hby d11_67) (n := 32) (by decide) (by decide) (by decide) (by decide)
  have CH127 := A125.1
  have CR127 := CHr.trans CR122 (A125)
  have K128 : Keep h0 h125 [] := K124.ext E125
  refine own_st st125 ?_
  have ul11 : 8 ≤ (own_k6 : List Value).length ∧ (own_k6 : List Value).length ≤ 8 := by decide
  have f129 := (Nat.le_trans (Nat.le_trans f119 Kq121.1) E125.1)
  have f130 := (q121_0.ext E125)
  have f131 := (q121_1.ext E125)
  have f132 := (q121_2.ext E125)
  have f133 := (q121_3.ext E125)
  have f134 := (q121_4.ext E125)
  have f135 := ((f120.keep Kq121 (allS G1 (allS q90_6 all0))).ext E125)
  obtain ⟨cq136, kq136, qa136, qb136, qc136⟩ := isOf hZ e125 f130
  obtain ⟨_, _, ⟨T136, L136, k136, n136⟩, -, X136, ⟨Lc136, hQ136, l136, y136, z136⟩, st136⟩ := X125.virtualBack hx (y := own_y10) (z := own_y10) hown (mvT hZ (own_w hw 102 rfl)) (mvT hZ (own_w hw 103 rfl)) (notFace_of_selects (args := #[]) (mvT hZ (own_w hw 105 rfl))) (mvT hZ (own_w hw 105 rfl)) (mvT hZ (own_w hw 104 rfl)) (by decide) (backOf (W := 0) (rmSbA l Z a0 hw [] b1 vb_90 kvb_90 cap2_90 Cz10 Bz10 Rz10 b125 t125 kb125 ((8 : Int32)) own_k6 zc h125 n0 f129 f130 f131 f132 f133 f134 xE125 xV125 xC125 xA125 hb10 hcp10 rfl (by omega) (by omega) G1 q90_6 pS_COMPACT_STRINGS pP5 f135) hZ (own_w hw 106 rfl) (own_w hw 85 rfl) (by decide) (by decide)) qa136 qc136 (g := (mkF m 69 #[.val (.ref ob)] [(.ref b125), (.ref b1)])) rfl (by rw [hml]; rfl) (Steps.refl _) (argsL := [(.ref b125)]) (rest := []) (lenOf pd__Ljava_lang_String__Ljava_lang_StringBuilder_ rfl) rfl (by show 2 * 0 + _ ≤ _; exact Nat.le_of_eq rfl) (hb hby d11_69) (fun _ _ => ⟨rfl, e125, (by decide : 16 + 0 ≤ _), (by decide : 532 + 0 ≤ _)⟩)
  dsimp only [Pt.U, Pt.locs, Pt.cells, Pt.slots] at X136 l136 y136 z136 st136 hQ136
  try dsimp only [Nat.reduceAdd] at y136 z136
  rw [l136, y136, z136] at X136
  obtain ⟨rfl, Nq136, Kq136, q136_0, q136_1, q136_2, q136_3, q136_4⟩ := hQ136
  have N136 := Fr.app N121 Nq136
  have f138 := (CHr.safe A125 q121_4.lt (Safe.keep Kq121 Sa122 CH114 f123))
  have Sa137 : ∀ y ∈ [b1, vb_90], Safe Z own_EL T125.vm h125 y := (sfS (Safe.exa hZ.alike f130 (by decide) (by decide)) (sfS f138 sf0))
  have CH137 := CH127.keep Kq136 Sa137
  have CR137 := CHr.trans CR127 (CHr.keep Kq136 Sa137 CH127)
  have K139 : Keep h0 T136.heap [] := K128.trans Kq136 (allS (Or.inr B1) (allS (Or.inr Bf93) all0))
  refine own_tr st136 ?_
  obtain ⟨Rz11, hR11_⟩ : ∃ b : List Value, b = List.drop (own_k6 : List Value).length Rz10 := ⟨_, rfl⟩
  obtain ⟨Bz11, hB11_⟩ : ∃ b : List Value, b = Bz10 ++ own_k6 := ⟨_, rfl⟩
  obtain ⟨Cz11, hC11_⟩ : ∃ c : Int32, c = Cz10 + (8 : Int32) := ⟨_, rfl⟩
  rw [← hB11_, ← hR11_] at q136_4
  rw [← hC11_] at q136_3
  have lB11 : Bz11.length = Bz10.length + (own_k6 : List Value).length := by rw [hB11_, List.length_append]
  have hb11 : Cz11.toInt = (Bz11.length : Int) := by rw [hC11_, lB11]; exact own_addI hb10 rfl (by omega)
  have hL11 : 56 ≤ Bz11.length ∧ Bz11.length ≤ 56 := by omega
  have hv11 : Bz11.length + Rz11.length = 70 := by rw [hR11_, List.length_drop]; omega
  have hcp11 : cap2_90.toInt = ((Bz11.length + Rz11.length : Nat) : Int) := by rw [hcp10, hv10, hv11]
  have ul12 : 1 ≤ ([(.int (Int32.ofNat (48 + n5_)))] : List Value).length ∧ ([(.int (Int32.ofNat (48 + n5_)))] : List Value).length ≤ 1 := ⟨Nat.le_refl _, Nat.le_refl _⟩
  refine own_st (fun t_ k_ => XS.aloadN X136.here hx rfl (hb hby d11_72) rfl rfl k_) ?_
  have f140 := (((((((((((((((((((pF_linked_ob.ext E1).keep Kq6 (ninS (Nat.ne_of_lt (Nat.lt_of_lt_of_le pE_ob.lt (Nat.le_of_eq g1.symm))) nin0)).ext E10).keep Kq21 (ninS (Nat.ne_of_lt (Nat.lt_of_lt_of_le pE_ob.lt (Nat.le_of_eq g1.symm))) (ninS (Nat.ne_of_lt (Nat.lt_of_lt_of_le (pE_ob.ext E1).lt q6_5)) nin0))).keep Kq29 (ninS (Nat.ne_of_lt (Nat.lt_of_lt_of_le pE_ob.lt (Nat.le_of_eq g1.symm))) (ninS (Nat.ne_of_lt (Nat.lt_of_lt_of_le (pE_ob.ext E1).lt q6_5)) nin0))).ext E33).keep Kq44 (ninS (Nat.ne_of_lt (Nat.lt_of_lt_of_le pE_ob.lt (Nat.le_of_eq g1.symm))) (ninS (Nat.ne_of_lt (Nat.lt_of_lt_of_le (pE_ob.ext E1).lt q6_5)) nin0))).keep Kq52 (ninS (Nat.ne_of_lt (Nat.lt_of_lt_of_le pE_ob.lt (Nat.le_of_eq g1.symm))) (ninS (Nat.ne_of_lt (Nat.lt_of_lt_of_le (pE_ob.ext E1).lt q6_5)) nin0))).ext E56).keep Kq67 (ninS (Nat.ne_of_lt (Nat.lt_of_lt_of_le pE_ob.lt (Nat.le_of_eq g1.symm))) nin0)).keep Kq75 (ninS (Nat.ne_of_lt (Nat.lt_of_lt_of_le pE_ob.lt (Nat.le_of_eq g1.symm))) (ninS (Nat.ne_of_lt (Nat.lt_of_lt_of_le (((((((((pE_ob.ext E1).keep Kq6).ext E10).keep Kq21).keep Kq29).ext E33).keep Kq44).keep Kq52).ext E56).lt q67_5)) nin0))).ext E79).keep Kq90 (ninS (Nat.ne_of_lt (Nat.lt_of_lt_of_le pE_ob.lt (Nat.le_of_eq g1.symm))) nin0)).keep Kq98 (ninS (Nat.ne_of_lt (Nat.lt_of_lt_of_le pE_ob.lt (Nat.le_of_eq g1.symm))) (ninS (Nat.ne_of_lt (Nat.lt_of_lt_of_le ((((((((((((pE_ob.ext E1).keep Kq6).ext E10).keep Kq21).keep Kq29).ext E33).keep Kq44).keep Kq52).ext E56).keep Kq67).keep Kq75).ext E79).lt q90_5)) nin0))).ext E102).keep Kq113 (ninS (Nat.ne_of_lt (Nat.lt_of_lt_of_le pE_ob.lt (Nat.le_of_eq g1.symm))) (ninS (Nat.ne_of_lt (Nat.lt_of_lt_of_le ((((((((((((pE_ob.ext E1).keep Kq6).ext E10).keep Kq21).keep Kq29).ext E33).keep Kq44).keep Kq52).ext E56).keep Kq67).keep Kq75).ext E79).lt q90_5)) nin0))).keep Kq121 (ninS (Nat.ne_of_lt (Nat.lt_of_lt_of_le pE_ob.lt (Nat.le_of_eq g1.symm))) (ninS (Nat.ne_of_lt (Nat.lt_of_lt_of_le ((((((((((((pE_ob.ext E1).keep Kq6).ext E10).keep Kq21).keep Kq29).ext E33).keep Kq44).keep Kq52).ext E56).keep Kq67).keep Kq75).ext E79).lt q90_5)) nin0))).ext E125).keep Kq136 (ninS (Nat.ne_of_lt (Nat.lt_of_lt_of_le pE_ob.lt (Nat.le_of_eq g1.symm))) (ninS (Nat.ne_of_lt (Nat.lt_of_lt_of_le ((((((((((((pE_ob.ext E1).keep Kq6).ext E10).keep Kq21).keep Kq29).ext E33).keep Kq44).keep Kq52).ext E56).keep Kq67).keep Kq75).ext E79).lt q90_5)) nin0)))
  obtain ⟨T141, X141, e141, st141⟩ := getF X136 hx hZ hown (host := "") (Or.inl (own_w hw 76 rfl)) Via.refl rfl f140 (g := (mkF m 73 #[.val (.ref ob)] [(.ref ob), (.ref b1)])) rfl rfl (hb hby d11_73)
  refine own_st st141 ?_
  have f142 := (Nat.le_trans f129 Kq136.1)
  have f143 := (f135.keep Kq136 (allS G1 (allS q90_6 all0)))
  obtain ⟨cq144, kq144, qa144, qb144, qc144⟩ := isOf hZ e141 q136_0
  obtain ⟨_, _, ⟨T144, L144, k144, n144⟩, -, X144, ⟨Lc144, hQ144, l144, y144, z144⟩, st144⟩ := X141.virtualBack hx (y := own_y28) (z := own_y28) hown (mvT hZ (own_w hw 152 rfl)) (mvT hZ (own_w hw 153 rfl)) (notFace_of_selects (args := #[]) (mvT hZ (own_w hw 155 rfl))) (mvT hZ (own_w hw 155 rfl)) (mvT hZ (own_w hw 154 rfl)) (by decide) (backOf (W := 0) (rmSj l Z a0 hw [] b1 vb_90 kvb_90 cap2_90 Cz11 Bz11 Rz11 z5_ n5_ zc dg _ T136.heap n0 f142 q136_0 q136_1 q136_2 q136_3 q136_4 hd5_ h95_ hb11 hcp11 (by omega) (by omega) pS_DigitOnes pD G1 q90_6 pS_COMPACT_STRINGS pP5 f143) hZ (own_w hw 156 rfl) (own_w hw 85 rfl) (by decide) (by decide)) qa144 qc144 (g := (mkF m 76 #[.val (.ref ob)] [(.long z5_), (.ref b1)])) rfl (by rw [hml]; rfl) (Steps.refl _) (argsL := [(.long z5_)]) (rest := []) (lenOf pd__J_Ljava_lang_StringBuilder_ rfl) rfl (by show 2 * 0 + _ ≤ _; exact Nat.le_of_eq rfl) (hb hby d11_76) (fun _ _ => ⟨rfl, e141, (by decide : 16 + 0 ≤ _), (by decide : 532 + 0 ≤ _)⟩)
  dsimp only [Pt.U, Pt.locs, Pt.cells, Pt.slots] at X144 l144 y144 z144 st144 hQ144
  try dsimp only [Nat.reduceAdd] at y144 z144
  rw [l144, y144, z144] at X144
  obtain ⟨rfl, Nq144, Kq144, q144_0, q144_1, q144_2, q144_3, q144_4⟩ := hQ144
  have N144 := Fr.app N136 Nq144
  have f146 := (Safe.keep Kq136 Sa137 CH127 f138)
  have Sa145 : ∀ y ∈ [b1, vb_90], Safe Z own_EL T125.vm T136.heap y := (sfS (Safe.exa hZ.alike q136_0 (by decide) (by decide)) (sfS f146 sf0))
  have CH145 := CH137.keep Kq144 Sa145
  have CR145 := CHr.trans CR137 (CHr.keep Kq144 Sa145 CH137)
  have K147 : Keep h0 T144.heap [] := K139.trans Kq144 (allS (Or.inr B1) (allS (Or.inr Bf93) all0))
  refine own_tr st144 ?_
  obtain ⟨Rz12, hR12_⟩ : ∃ b : List Value, b = List.drop 1 Rz11 := ⟨_, rfl⟩
  obtain ⟨Bz12, hB12_⟩ : ∃ b : List Value, b = Bz11 ++ [(.int (Int32.ofNat (48 + n5_)))] := ⟨_, rfl⟩
  obtain ⟨Cz12, hC12_⟩ : ∃ c : Int32, c = Cz11 + (1 : Int32) := ⟨_, rfl⟩
  rw [← hB12_, ← hR12_] at q144_4
  rw [← hC12_] at q144_3
  have lB12 : Bz12.length = Bz11.length + ([(.int (Int32.ofNat (48 + n5_)))] : List Value).length := by rw [hB12_, List.length_append]
  have hb12 : Cz12.toInt = (Bz12.length : Int) := by rw [hC12_, lB12]; exact own_addI hb11 (show (1 : Int32).toInt = ((1 : Nat) : Int) from rfl) (by omega)
  have hL12 : 57 ≤ Bz12.length ∧ Bz12.length ≤ 57 := by omega
  have hv12 : Bz12.length + Rz12.length = 70 := by rw [hR12_, List.length_drop]; omega
  have hcp12 : cap2_90.toInt = ((Bz12.length + Rz12.length : Nat) : Int) := by rw [hcp11, hv11, hv12]
  have f149 := (Nat.le_trans (Nat.le_trans hk125 Kq136.1) Kq144.1)
  obtain ⟨b148, T148, h148, k148, t148, kb148, X148, e148, E148, hS, hk148, hZ, hown, xE148, xC148, xV148, xA148, -, -, A148, -, -, st148⟩ := ldcCH X144 hx hZ hown (own_w hw 208 rfl) (own_wS hw) rfl hS f149 hEL (List.mem_of_getElem? (i := 6) rfl) CH145 (vs := own_k7) (z := (13 : Int32)) (by decide +kernel) (by decide) (by decide) (g := (mkF m 79 #[.val (.ref ob)] [(.ref b1)])) rfl (hb hby d11_79) (n := 52) (by decide) (by decide) (by decide) (by decide)
  have CH150 := A148.1
  have CR150 := CHr.trans CR145 (A148)
  have K151 : Keep h0 h148 [] := K147.ext E148
  refine own_st st148 ?_
  have ul13 : 13 ≤ (own_k7 : List Value).length ∧ (own_k7 : List Value).length ≤ 13 := by decide
  have f152 := (Nat.le_trans (Nat.le_trans f142 Kq144.1) E148.1)
  have f153 := (q144_0.ext E148)
  have f154 := (q144_1.ext E148)
  have f155 := (q144_2.ext E148)
  have f156 := (q144_3.ext E148)
  have f157 := (q144_4.ext E148)
  have f158 := ((f143.keep Kq144 (allS G1 (allS q90_6 all0))).ext E148)
  obtain ⟨cq159, kq159, qa159, qb159, qc159⟩ := isOf hZ e148 f153
  obtain ⟨_, _, ⟨T159, L159, k159, n159⟩, -, X159, ⟨Lc159, hQ159, l159, y159, z159⟩, st159⟩ := X148.virtualBack hx (y := own_y10) (z := own_y10) hown (mvT hZ (own_w hw 102 rfl)) (mvT hZ (own_w hw 103 rfl)) (notFace_of_selects (args := #[]) (mvT hZ (own_w hw 105 rfl))) (mvT hZ (own_w hw 105 rfl)) (mvT hZ (own_w hw 104 rfl)) (by decide) (backOf (W := 0) (rmSbA l Z a0 hw [] b1 vb_90 kvb_90 cap2_90 Cz12 Bz12 Rz12 b148 t148 kb148 ((13 : Int32)) own_k7 zc h148 n0 f152 f153 f154 f155 f156 f157 xE148 xV148 xC148 xA148 hb12 hcp12 rfl (by omega) (by omega) G1 q90_6 pS_COMPACT_STRINGS pP5 f158) hZ (own_w hw 106 rfl) (own_w hw 85 rfl) (by decide) (by decide)) qa159 qc159 (g := (mkF m 81 #[.val (.ref ob)] [(.ref b148), (.ref b1)])) rfl (by rw [hml]; rfl) (Steps.refl _) (argsL := [(.ref b148)]) (rest := []) (lenOf pd__Ljava_lang_String__Ljava_lang_StringBuilder_ rfl) rfl (by show 2 * 0 + _ ≤ _; exact Nat.le_of_eq rfl) (hb hby d11_81) (fun _ _ => ⟨rfl, e148, (by decide : 18 + 0 ≤ _), (by decide : 588 + 0 ≤ _)⟩)
  dsimp only [Pt.U, Pt.locs, Pt.cells, Pt.slots] at X159 l159 y159 z159 st159 hQ159
  try dsimp only [Nat.reduceAdd] at y159 z159
  rw [l159, y159, z159] at X159
  obtain ⟨rfl, Nq159, Kq159, q159_0, q159_1, q159_2, q159_3, q159_4⟩ := hQ159
  have N159 := Fr.app N144 Nq159
  have f161 := (CHr.safe A148 q144_4.lt (Safe.keep Kq144 Sa145 CH137 f146))
  have Sa160 : ∀ y ∈ [b1, vb_90], Safe Z own_EL T148.vm h148 y := (sfS (Safe.exa hZ.alike f153 (by decide) (by decide)) (sfS f161 sf0))
  have CH160 := CH150.keep Kq159 Sa160
  have CR160 := CHr.trans CR150 (CHr.keep Kq159 Sa160 CH150)
  have K162 : Keep h0 T159.heap [] := K151.trans Kq159 (allS (Or.inr B1) (allS (Or.inr Bf93) all0))
  refine own_tr st159 ?_
  obtain ⟨Rz13, hR13_⟩ : ∃ b : List Value, b = List.drop (own_k7 : List Value).length Rz12 := ⟨_, rfl⟩
  obtain ⟨Bz13, hB13_⟩ : ∃ b : List Value, b = Bz12 ++ own_k7 := ⟨_, rfl⟩
  obtain ⟨Cz13, hC13_⟩ : ∃ c : Int32, c = Cz12 + (13 : Int32) := ⟨_, rfl⟩
  rw [← hB13_, ← hR13_] at q159_4
  rw [← hC13_] at q159_3
  have lB13 : Bz13.length = Bz12.length + (own_k7 : List Value).length := by rw [hB13_, List.length_append]
  have hb13 : Cz13.toInt = (Bz13.length : Int) := by rw [hC13_, lB13]; exact own_addI hb12 rfl (by omega)
  have hL13 : 70 ≤ Bz13.length ∧ Bz13.length ≤ 70 := by omega
  have hv13 : Bz13.length + Rz13.length = 70 := by rw [hR13_, List.length_drop]; omega
  have hcp13 : cap2_90.toInt = ((Bz13.length + Rz13.length : Nat) : Int) := by rw [hcp12, hv12, hv13]
  have ul14 : 1 ≤ ([(.int (Int32.ofNat (48 + n6_)))] : List Value).length ∧ ([(.int (Int32.ofNat (48 + n6_)))] : List Value).length ≤ 1 := ⟨Nat.le_refl _, Nat.le_refl _⟩
  refine own_st (fun t_ k_ => XS.aloadN X159.here hx rfl (hb hby d11_84) rfl rfl k_) ?_
  have f163 := ((((((((((((((((((((((pF_newMasters_ob.ext E1).keep Kq6 (ninS (Nat.ne_of_lt (Nat.lt_of_lt_of_le pE_ob.lt (Nat.le_of_eq g1.symm))) nin0)).ext E10).keep Kq21 (ninS (Nat.ne_of_lt (Nat.lt_of_lt_of_le pE_ob.lt (Nat.le_of_eq g1.symm))) (ninS (Nat.ne_of_lt (Nat.lt_of_lt_of_le (pE_ob.ext E1).lt q6_5)) nin0))).keep Kq29 (ninS (Nat.ne_of_lt (Nat.lt_of_lt_of_le pE_ob.lt (Nat.le_of_eq g1.symm))) (ninS (Nat.ne_of_lt (Nat.lt_of_lt_of_le (pE_ob.ext E1).lt q6_5)) nin0))).ext E33).keep Kq44 (ninS (Nat.ne_of_lt (Nat.lt_of_lt_of_le pE_ob.lt (Nat.le_of_eq g1.symm))) (ninS (Nat.ne_of_lt (Nat.lt_of_lt_of_le (pE_ob.ext E1).lt q6_5)) nin0))).keep Kq52 (ninS (Nat.ne_of_lt (Nat.lt_of_lt_of_le pE_ob.lt (Nat.le_of_eq g1.symm))) (ninS (Nat.ne_of_lt (Nat.lt_of_lt_of_le (pE_ob.ext E1).lt q6_5)) nin0))).ext E56).keep Kq67 (ninS (Nat.ne_of_lt (Nat.lt_of_lt_of_le pE_ob.lt (Nat.le_of_eq g1.symm))) nin0)).keep Kq75 (ninS (Nat.ne_of_lt (Nat.lt_of_lt_of_le pE_ob.lt (Nat.le_of_eq g1.symm))) (ninS (Nat.ne_of_lt (Nat.lt_of_lt_of_le (((((((((pE_ob.ext E1).keep Kq6).ext E10).keep Kq21).keep Kq29).ext E33).keep Kq44).keep Kq52).ext E56).lt q67_5)) nin0))).ext E79).keep Kq90 (ninS (Nat.ne_of_lt (Nat.lt_of_lt_of_le pE_ob.lt (Nat.le_of_eq g1.symm))) nin0)).keep Kq98 (ninS (Nat.ne_of_lt (Nat.lt_of_lt_of_le pE_ob.lt (Nat.le_of_eq g1.symm))) (ninS (Nat.ne_of_lt (Nat.lt_of_lt_of_le ((((((((((((pE_ob.ext E1).keep Kq6).ext E10).keep Kq21).keep Kq29).ext E33).keep Kq44).keep Kq52).ext E56).keep Kq67).keep Kq75).ext E79).lt q90_5)) nin0))).ext E102).keep Kq113 (ninS (Nat.ne_of_lt (Nat.lt_of_lt_of_le pE_ob.lt (Nat.le_of_eq g1.symm))) (ninS (Nat.ne_of_lt (Nat.lt_of_lt_of_le ((((((((((((pE_ob.ext E1).keep Kq6).ext E10).keep Kq21).keep Kq29).ext E33).keep Kq44).keep Kq52).ext E56).keep Kq67).keep Kq75).ext E79).lt q90_5)) nin0))).keep Kq121 (ninS (Nat.ne_of_lt (Nat.lt_of_lt_of_le pE_ob.lt (Nat.le_of_eq g1.symm))) (ninS (Nat.ne_of_lt (Nat.lt_of_lt_of_le ((((((((((((pE_ob.ext E1).keep Kq6).ext E10).keep Kq21).keep Kq29).ext E33).keep Kq44).keep Kq52).ext E56).keep Kq67).keep Kq75).ext E79).lt q90_5)) nin0))).ext E125).keep Kq136 (ninS (Nat.ne_of_lt (Nat.lt_of_lt_of_le pE_ob.lt (Nat.le_of_eq g1.symm))) (ninS (Nat.ne_of_lt (Nat.lt_of_lt_of_le ((((((((((((pE_ob.ext E1).keep Kq6).ext E10).keep Kq21).keep Kq29).ext E33).keep Kq44).keep Kq52).ext E56).keep Kq67).keep Kq75).ext E79).lt q90_5)) nin0))).keep Kq144 (ninS (Nat.ne_of_lt (Nat.lt_of_lt_of_le pE_ob.lt (Nat.le_of_eq g1.symm))) (ninS (Nat.ne_of_lt (Nat.lt_of_lt_of_le ((((((((((((pE_ob.ext E1).keep Kq6).ext E10).keep Kq21).keep Kq29).ext E33).keep Kq44).keep Kq52).ext E56).keep Kq67).keep Kq75).ext E79).lt q90_5)) nin0))).ext E148).keep Kq159 (ninS (Nat.ne_of_lt (Nat.lt_of_lt_of_le pE_ob.lt (Nat.le_of_eq g1.symm))) (ninS (Nat.ne_of_lt (Nat.lt_of_lt_of_le ((((((((((((pE_ob.ext E1).keep Kq6).ext E10).keep Kq21).keep Kq29).ext E33).keep Kq44).keep Kq52).ext E56).keep Kq67).keep Kq75).ext E79).lt q90_5)) nin0)))
  obtain ⟨T164, X164, e164, st164⟩ := getF X159 hx hZ hown (host := "") (Or.inl (own_w hw 209 rfl)) Via.refl rfl f163 (g := (mkF m 85 #[.val (.ref ob)] [(.ref ob), (.ref b1)])) rfl rfl (hb hby d11_85)
  refine own_st st164 ?_
  have f165 := (Nat.le_trans f152 Kq159.1)
  have f166 := (f158.keep Kq159 (allS G1 (allS q90_6 all0)))
  obtain ⟨cq167, kq167, qa167, qb167, qc167⟩ := isOf hZ e164 q159_0
  obtain ⟨_, _, ⟨T167, L167, k167, n167⟩, -, X167, ⟨Lc167, hQ167, l167, y167, z167⟩, st167⟩ := X164.virtualBack hx (y := own_y28) (z := own_y28) hown (mvT hZ (own_w hw 152 rfl)) (mvT hZ (own_w hw 153 rfl)) (notFace_of_selects (args := #[]) (mvT hZ (own_w hw 155 rfl))) (mvT hZ (own_w hw 155 rfl)) (mvT hZ (own_w hw 154 rfl)) (by decide) (backOf (W := 0) (rmSjG l Z a0 hw [] b1 vb_90 kvb_90 cap2_90 Cz13 Bz13 Rz13 z6_ n6_ zc dg _ T159.heap n0 f165 q159_0 q159_1 q159_2 q159_3 q159_4 hd6_ h96_ hb13 hcp13 (by omega) (by omega) pS_DigitOnes pD G1 q90_6 pS_COMPACT_STRINGS pP5 f166) hZ (own_w hw 156 rfl) (own_w hw 85 rfl) (by decide) (by decide)) qa167 qc167 (g := (mkF m 88 #[.val (.ref ob)] [(.long z6_), (.ref b1)])) rfl (by rw [hml]; rfl) (Steps.refl _) (argsL := [(.long z6_)]) (rest := []) (lenOf pd__J_Ljava_lang_StringBuilder_ rfl) rfl (by show 2 * 0 + _ ≤ _; exact Nat.le_of_eq rfl) (hb hby d11_88) (fun _ _ => ⟨rfl, e164, (by decide : 18 + 1 ≤ _), (by decide : 588 + 142 ≤ _)⟩)
  dsimp only [Pt.U, Pt.locs, Pt.cells, Pt.slots] at X167 l167 y167 z167 st167 hQ167
  try dsimp only [Nat.reduceAdd] at y167 z167
  rw [l167, y167, z167] at X167
  obtain ⟨vb_167, kvb_167, cap2_167, r2_167, rfl, Nq167, Kq167, q167_0, q167_1, q167_2, q167_3, q167_4, q167_5, q167_6, q167_7⟩ := hQ167
  have N167 := Fr.app N159 Nq167
  have Sa168 : ∀ y ∈ [b1], Safe Z own_EL T148.vm T159.heap y := (sfS (Safe.exa hZ.alike q159_0 (by decide) (by decide)) sf0)
  have CH168 := CH160.keep Kq167 Sa168
  have CR168 := CHr.trans CR160 (CHr.keep Kq167 Sa168 CH160)
  have K169 : Keep h0 T167.heap [] := K162.trans Kq167 (allS (Or.inr B1) all0)
  have Bf170 : h0.size ≤ vb_167 := Nat.le_trans K162.1 q167_5
  refine own_tr st167 ?_
  obtain ⟨Rz14, hR14_⟩ : ∃ b : List Value, b = r2_167 := ⟨_, rfl⟩
  obtain ⟨Bz14, hB14_⟩ : ∃ b : List Value, b = Bz13 ++ [(.int (Int32.ofNat (48 + n6_)))] := ⟨_, rfl⟩
  obtain ⟨Cz14, hC14_⟩ : ∃ c : Int32, c = Cz13 + (1 : Int32) := ⟨_, rfl⟩
  rw [← hB14_, ← hR14_] at q167_4
  rw [← hC14_] at q167_3
  have lB14 : Bz14.length = Bz13.length + ([(.int (Int32.ofNat (48 + n6_)))] : List Value).length := by rw [hB14_, List.length_append]
  have hb14 : Cz14.toInt = (Bz14.length : Int) := by rw [hC14_, lB14]; exact own_addI hb13 (show (1 : Int32).toInt = ((1 : Nat) : Int) from rfl) (by omega)
  have hL14 : 71 ≤ Bz14.length ∧ Bz14.length ≤ 71 := by omega
  have hg14 := q167_7.1
  unfold own_gr at hg14
  have hs14 := q167_7.2
  rw [← hC14_, hb14, hcp13, hv13] at hg14
  rw [← hR14_] at hs14
  have hv14 : Bz14.length + Rz14.length = 142 := by omega
  have hcp14 : cap2_167.toInt = ((Bz14.length + Rz14.length : Nat) : Int) := by omega
  have f172 := (Nat.le_trans (Nat.le_trans hk148 Kq159.1) Kq167.1)
  obtain ⟨b171, T171, h171, k171, t171, kb171, X171, e171, E171, hS, hk171, hZ, hown, xE171, xC171, xV171, xA171, -, -, A171, -, -, st171⟩ := ldcCH X167 hx hZ hown (own_w hw 211 rfl) (own_wS hw) rfl hS f172 hEL (List.mem_of_getElem? (i := 7) rfl) CH168 (vs := own_k8) (z := (12 : Int32)) (by decide +kernel) (by decide) (by decide) (g := (mkF m 91 #[.val (.ref ob)] [(.ref b1)])) rfl (hb hby d11_91) (n := 48) (by decide) (by decide) (by decide) (by decide)
  have CH173 := A171.1
  have CR173 := CHr.trans CR168 (A171)
  have K174 : Keep h0 h171 [] := K169.ext E171
  refine own_st st171 ?_
  have ul15 : 12 ≤ (own_k8 : List Value).length ∧ (own_k8 : List Value).length ≤ 12 := by decide
  have f175 := (Nat.le_trans (Nat.le_trans f165 Kq167.1) E171.1)
  have f176 := (q167_0.ext E171)
  have f177 := (q167_1.ext E171)
  have f178 := (q167_2.ext E171)
  have f179 := (q167_3.ext E171)
  have f180 := (q167_4.ext E171)
  have f181 := ((f166.keep Kq167 (allS G1 all0)).ext E171)
  obtain ⟨cq182, kq182, qa182, qb182, qc182⟩ := isOf hZ e171 f176
  obtain ⟨_, _, ⟨T182, L182, k182, n182⟩, -, X182, ⟨Lc182, hQ182, l182, y182, z182⟩, st182⟩ := X171.virtualBack hx (y := own_y10) (z := own_y10) hown (mvT hZ (own_w hw 102 rfl)) (mvT hZ (own_w hw 103 rfl)) (notFace_of_selects (args := #[]) (mvT hZ (own_w hw 105 rfl))) (mvT hZ (own_w hw 105 rfl)) (mvT hZ (own_w hw 104 rfl)) (by decide) (backOf (W := 0) (rmSbA l Z a0 hw [] b1 vb_167 kvb_167 cap2_167 Cz14 Bz14 Rz14 b171 t171 kb171 ((12 : Int32)) own_k8 zc h171 n0 f175 f176 f177 f178 f179 f180 xE171 xV171 xC171 xA171 hb14 hcp14 rfl (by omega) (by omega) G1 q167_6 pS_COMPACT_STRINGS pP5 f181) hZ (own_w hw 106 rfl) (own_w hw 85 rfl) (by decide) (by decide)) qa182 qc182 (g := (mkF m 93 #[.val (.ref ob)] [(.ref b171), (.ref b1)])) rfl (by rw [hml]; rfl) (Steps.refl _) (argsL := [(.ref b171)]) (rest := []) (lenOf pd__Ljava_lang_String__Ljava_lang_StringBuilder_ rfl) rfl (by show 2 * 0 + _ ≤ _; exact Nat.le_of_eq rfl) (hb hby d11_93) (fun _ _ => ⟨rfl, e171, (by decide : 21 + 0 ≤ _), (by decide : 782 + 0 ≤ _)⟩)
  dsimp only [Pt.U, Pt.locs, Pt.cells, Pt.slots] at X182 l182 y182 z182 st182 hQ182
  try dsimp only [Nat.reduceAdd] at y182 z182
  rw [l182, y182, z182] at X182
  obtain ⟨rfl, Nq182, Kq182, q182_0, q182_1, q182_2, q182_3, q182_4⟩ := hQ182
  have N182 := Fr.app N167 Nq182
  have f184 := (CHr.safe A171 q167_4.lt (Safe.keep Kq167 Sa168 CH160 (Safe.new (x := vb_167) q167_5)))
  have Sa183 : ∀ y ∈ [b1, vb_167], Safe Z own_EL T171.vm h171 y := (sfS (Safe.exa hZ.alike f176 (by decide) (by decide)) (sfS f184 sf0))
  have CH183 := CH173.keep Kq182 Sa183
  have CR183 := CHr.trans CR173 (CHr.keep Kq182 Sa183 CH173)
  have K185 : Keep h0 T182.heap [] := K174.trans Kq182 (allS (Or.inr B1) (allS (Or.inr Bf170) all0))
  refine own_tr st182 ?_
  obtain ⟨Rz15, hR15_⟩ : ∃ b : List Value, b = List.drop (own_k8 : List Value).length Rz14 := ⟨_, rfl⟩
  obtain ⟨Bz15, hB15_⟩ : ∃ b : List Value, b = Bz14 ++ own_k8 := ⟨_, rfl⟩
  obtain ⟨Cz15, hC15_⟩ : ∃ c : Int32, c = Cz14 + (12 : Int32) := ⟨_, rfl⟩
  rw [← hB15_, ← hR15_] at q182_4
  rw [← hC15_] at q182_3
  have lB15 : Bz15.length = Bz14.length + (own_k8 : List Value).length := by rw [hB15_, List.length_append]
  have hb15 : Cz15.toInt = (Bz15.length : Int) := by rw [hC15_, lB15]; exact own_addI hb14 rfl (by omega)
  have hL15 : 83 ≤ Bz15.length ∧ Bz15.length ≤ 83 := by omega
  have hv15 : Bz15.length + Rz15.length = 142 := by rw [hR15_, List.length_drop]; omega
  have hcp15 : cap2_167.toInt = ((Bz15.length + Rz15.length : Nat) : Int) := by rw [hcp14, hv14, hv15]
  have ul16 : 1 ≤ ([(.int (Int32.ofNat (48 + n7_)))] : List Value).length ∧ ([(.int (Int32.ofNat (48 + n7_)))] : List Value).length ≤ 1 := ⟨Nat.le_refl _, Nat.le_refl _⟩
  refine own_st (fun t_ k_ => XS.aloadN X182.here hx rfl (hb hby d11_96) rfl rfl k_) ?_
  have f186 := (((((((((((((((((((((((((pF_candidates_ob.ext E1).keep Kq6 (ninS (Nat.ne_of_lt (Nat.lt_of_lt_of_le pE_ob.lt (Nat.le_of_eq g1.symm))) nin0)).ext E10).keep Kq21 (ninS (Nat.ne_of_lt (Nat.lt_of_lt_of_le pE_ob.lt (Nat.le_of_eq g1.symm))) (ninS (Nat.ne_of_lt (Nat.lt_of_lt_of_le (pE_ob.ext E1).lt q6_5)) nin0))).keep Kq29 (ninS (Nat.ne_of_lt (Nat.lt_of_lt_of_le pE_ob.lt (Nat.le_of_eq g1.symm))) (ninS (Nat.ne_of_lt (Nat.lt_of_lt_of_le (pE_ob.ext E1).lt q6_5)) nin0))).ext E33).keep Kq44 (ninS (Nat.ne_of_lt (Nat.lt_of_lt_of_le pE_ob.lt (Nat.le_of_eq g1.symm))) (ninS (Nat.ne_of_lt (Nat.lt_of_lt_of_le (pE_ob.ext E1).lt q6_5)) nin0))).keep Kq52 (ninS (Nat.ne_of_lt (Nat.lt_of_lt_of_le pE_ob.lt (Nat.le_of_eq g1.symm))) (ninS (Nat.ne_of_lt (Nat.lt_of_lt_of_le (pE_ob.ext E1).lt q6_5)) nin0))).ext E56).keep Kq67 (ninS (Nat.ne_of_lt (Nat.lt_of_lt_of_le pE_ob.lt (Nat.le_of_eq g1.symm))) nin0)).keep Kq75 (ninS (Nat.ne_of_lt (Nat.lt_of_lt_of_le pE_ob.lt (Nat.le_of_eq g1.symm))) (ninS (Nat.ne_of_lt (Nat.lt_of_lt_of_le (((((((((pE_ob.ext E1).keep Kq6).ext E10).keep Kq21).keep Kq29).ext E33).keep Kq44).keep Kq52).ext E56).lt q67_5)) nin0))).ext E79).keep Kq90 (ninS (Nat.ne_of_lt (Nat.lt_of_lt_of_le pE_ob.lt (Nat.le_of_eq g1.symm))) nin0)).keep Kq98 (ninS (Nat.ne_of_lt (Nat.lt_of_lt_of_le pE_ob.lt (Nat.le_of_eq g1.symm))) (ninS (Nat.ne_of_lt (Nat.lt_of_lt_of_le ((((((((((((pE_ob.ext E1).keep Kq6).ext E10).keep Kq21).keep Kq29).ext E33).keep Kq44).keep Kq52).ext E56).keep Kq67).keep Kq75).ext E79).lt q90_5)) nin0))).ext E102).keep Kq113 (ninS (Nat.ne_of_lt (Nat.lt_of_lt_of_le pE_ob.lt (Nat.le_of_eq g1.symm))) (ninS (Nat.ne_of_lt (Nat.lt_of_lt_of_le ((((((((((((pE_ob.ext E1).keep Kq6).ext E10).keep Kq21).keep Kq29).ext E33).keep Kq44).keep Kq52).ext E56).keep Kq67).keep Kq75).ext E79).lt q90_5)) nin0))).keep Kq121 (ninS (Nat.ne_of_lt (Nat.lt_of_lt_of_le pE_ob.lt (Nat.le_of_eq g1.symm))) (ninS (Nat.ne_of_lt (Nat.lt_of_lt_of_le ((((((((((((pE_ob.ext E1).keep Kq6).ext E10).keep Kq21).keep Kq29).ext E33).keep Kq44).keep Kq52).ext E56).keep Kq67).keep Kq75).ext E79).lt q90_5)) nin0))).ext E125).keep Kq136 (ninS (Nat.ne_of_lt (Nat.lt_of_lt_of_le pE_ob.lt (Nat.le_of_eq g1.symm))) (ninS (Nat.ne_of_lt (Nat.lt_of_lt_of_le ((((((((((((pE_ob.ext E1).keep Kq6).ext E10).keep Kq21).keep Kq29).ext E33).keep Kq44).keep Kq52).ext E56).keep Kq67).keep Kq75).ext E79).lt q90_5)) nin0))).keep Kq144 (ninS (Nat.ne_of_lt (Nat.lt_of_lt_of_le pE_ob.lt (Nat.le_of_eq g1.symm))) (ninS (Nat.ne_of_lt (Nat.lt_of_lt_of_le ((((((((((((pE_ob.ext E1).keep Kq6).ext E10).keep Kq21).keep Kq29).ext E33).keep Kq44).keep Kq52).ext E56).keep Kq67).keep Kq75).ext E79).lt q90_5)) nin0))).ext E148).keep Kq159 (ninS (Nat.ne_of_lt (Nat.lt_of_lt_of_le pE_ob.lt (Nat.le_of_eq g1.symm))) (ninS (Nat.ne_of_lt (Nat.lt_of_lt_of_le ((((((((((((pE_ob.ext E1).keep Kq6).ext E10).keep Kq21).keep Kq29).ext E33).keep Kq44).keep Kq52).ext E56).keep Kq67).keep Kq75).ext E79).lt q90_5)) nin0))).keep Kq167 (ninS (Nat.ne_of_lt (Nat.lt_of_lt_of_le pE_ob.lt (Nat.le_of_eq g1.symm))) nin0)).ext E171).keep Kq182 (ninS (Nat.ne_of_lt (Nat.lt_of_lt_of_le pE_ob.lt (Nat.le_of_eq g1.symm))) (ninS (Nat.ne_of_lt (Nat.lt_of_lt_of_le ((((((((((((((((((((((pE_ob.ext E1).keep Kq6).ext E10).keep Kq21).keep Kq29).ext E33).keep Kq44).keep Kq52).ext E56).keep Kq67).keep Kq75).ext E79).keep Kq90).keep Kq98).ext E102).keep Kq113).keep Kq121).ext E125).keep Kq136).keep Kq144).ext E148).keep Kq159).lt q167_5)) nin0)))
  obtain ⟨T187, X187, e187, st187⟩ := getF X182 hx hZ hown (host := "") (Or.inl (own_w hw 56 rfl)) Via.refl rfl f186 (g := (mkF m 97 #[.val (.ref ob)] [(.ref ob), (.ref b1)])) rfl rfl (hb hby d11_97)
  refine own_st st187 ?_
  have f188 := (Nat.le_trans f175 Kq182.1)
  have f189 := (f181.keep Kq182 (allS G1 (allS q167_6 all0)))
  obtain ⟨cq190, kq190, qa190, qb190, qc190⟩ := isOf hZ e187 q182_0
  obtain ⟨_, _, ⟨T190, L190, k190, n190⟩, -, X190, ⟨Lc190, hQ190, l190, y190, z190⟩, st190⟩ := X187.virtualBack hx (y := own_y28) (z := own_y28) hown (mvT hZ (own_w hw 152 rfl)) (mvT hZ (own_w hw 153 rfl)) (notFace_of_selects (args := #[]) (mvT hZ (own_w hw 155 rfl))) (mvT hZ (own_w hw 155 rfl)) (mvT hZ (own_w hw 154 rfl)) (by decide) (backOf (W := 0) (rmSj l Z a0 hw [] b1 vb_167 kvb_167 cap2_167 Cz15 Bz15 Rz15 z7_ n7_ zc dg _ T182.heap n0 f188 q182_0 q182_1 q182_2 q182_3 q182_4 hd7_ h97_ hb15 hcp15 (by omega) (by omega) pS_DigitOnes pD G1 q167_6 pS_COMPACT_STRINGS pP5 f189) hZ (own_w hw 156 rfl) (own_w hw 85 rfl) (by decide) (by decide)) qa190 qc190 (g := (mkF m 100 #[.val (.ref ob)] [(.long z7_), (.ref b1)])) rfl (by rw [hml]; rfl) (Steps.refl _) (argsL := [(.long z7_)]) (rest := []) (lenOf pd__J_Ljava_lang_StringBuilder_ rfl) rfl (by show 2 * 0 + _ ≤ _; exact Nat.le_of_eq rfl) (hb hby d11_100) (fun _ _ => ⟨rfl, e187, (by decide : 21 + 0 ≤ _), (by decide : 782 + 0 ≤ _)⟩)
  dsimp only [Pt.U, Pt.locs, Pt.cells, Pt.slots] at X190 l190 y190 z190 st190 hQ190
  try dsimp only [Nat.reduceAdd] at y190 z190
  rw [l190, y190, z190] at X190
  obtain ⟨rfl, Nq190, Kq190, q190_0, q190_1, q190_2, q190_3, q190_4⟩ := hQ190
  have N190 := Fr.app N182 Nq190
  have f192 := (Safe.keep Kq182 Sa183 CH173 f184)
  have Sa191 : ∀ y ∈ [b1, vb_167], Safe Z own_EL T171.vm T182.heap y := (sfS (Safe.exa hZ.alike q182_0 (by decide) (by decide)) (sfS f192 sf0))
  have CH191 := CH183.keep Kq190 Sa191
  have CR191 := CHr.trans CR183 (CHr.keep Kq190 Sa191 CH183)
  have K193 : Keep h0 T190.heap [] := K185.trans Kq190 (allS (Or.inr B1) (allS (Or.inr Bf170) all0))
  refine own_tr st190 ?_
  obtain ⟨Rz16, hR16_⟩ : ∃ b : List Value, b = List.drop 1 Rz15 := ⟨_, rfl⟩
  obtain ⟨Bz16, hB16_⟩ : ∃ b : List Value, b = Bz15 ++ [(.int (Int32.ofNat (48 + n7_)))] := ⟨_, rfl⟩
  obtain ⟨Cz16, hC16_⟩ : ∃ c : Int32, c = Cz15 + (1 : Int32) := ⟨_, rfl⟩
  rw [← hB16_, ← hR16_] at q190_4
  rw [← hC16_] at q190_3
  have lB16 : Bz16.length = Bz15.length + ([(.int (Int32.ofNat (48 + n7_)))] : List Value).length := by rw [hB16_, List.length_append]
  have hb16 : Cz16.toInt = (Bz16.length : Int) := by rw [hC16_, lB16]; exact own_addI hb15 (show (1 : Int32).toInt = ((1 : Nat) : Int) from rfl) (by omega)
  have hL16 : 84 ≤ Bz16.length ∧ Bz16.length ≤ 84 := by omega
  have hv16 : Bz16.length + Rz16.length = 142 := by rw [hR16_, List.length_drop]; omega
  have hcp16 : cap2_167.toInt = ((Bz16.length + Rz16.length : Nat) : Int) := by rw [hcp15, hv15, hv16]
  have f194 := (Nat.le_trans f188 Kq190.1)
  have f195 := (f189.keep Kq190 (allS G1 (allS q167_6 all0)))
  obtain ⟨cq196, kq196, qa196, qb196, qc196⟩ := isOf hZ rfl q190_0
  obtain ⟨_, _, ⟨T196, L196, k196, n196⟩, -, X196, ⟨Lc196, hQ196, l196, y196, z196⟩, st196⟩ := X190.virtualBack hx (y := own_y20) (z := own_y20) hown (mvT hZ (own_w hw 212 rfl)) (mvT hZ (own_w hw 213 rfl)) (notFace_of_selects (args := #[]) (mvT hZ (own_w hw 215 rfl))) (mvT hZ (own_w hw 215 rfl)) (mvT hZ (own_w hw 214 rfl)) (by decide) (backOf (W := 0) (rmTs l Z a0 hw [] b1 vb_167 kvb_167 cap2_167 Cz16 Bz16 Rz16 zc T190.heap n0 f194 q190_0 q190_1 q190_2 q190_3 q190_4 hb16 hcp16 (by omega) (by omega) pS_COMPACT_STRINGS pP5 f195) hZ (own_w hw 216 rfl) (own_w hw 85 rfl) (by decide) (by decide)) qa196 qc196 (g := (mkF m 103 #[.val (.ref ob)] [(.ref b1)])) rfl (by rw [hml]; rfl) (Steps.refl _) (argsL := []) (rest := []) (lenOf pd___Ljava_lang_String_ rfl) rfl (by show 2 * 0 + _ ≤ _; exact Nat.le_of_eq rfl) (hb hby d11_103) (fun _ _ => ⟨rfl, rfl, (by decide : 21 + 2 ≤ _), (by decide : 782 + 88 ≤ _)⟩)
  dsimp only [Pt.U, Pt.locs, Pt.cells, Pt.slots] at X196 l196 y196 z196 st196 hQ196
  try dsimp only [Nat.reduceAdd] at y196 z196
  rw [l196, y196, z196] at X196
  obtain ⟨y_196, b_196, kb_196, rfl, Nq196, Kq196, q196_0, q196_1, q196_2, q196_3, q196_4, q196_5⟩ := hQ196
  have N196 := Fr.app N190 Nq196
  have CH197 := CH191.keep Kq196 sf0
  have CR197 := CHr.trans CR191 (CHr.keep Kq196 sf0 CH191)
  have K198 : Keep h0 T196.heap [] := K193.trans Kq196 all0
  have Bf199 : h0.size ≤ b_196 := Nat.le_trans K193.1 q196_4
  refine own_tr st196 ?_
  have eL : Bz16 = (((own_all (Int32.ofNat (48 + n0_)) (Int32.ofNat (48 + n1_)) (Int32.ofNat (48 + n2_)) (Int32.ofNat (48 + n3_)) (Int32.ofNat (48 + n4_)) (Int32.ofNat (48 + n5_)) (Int32.ofNat (48 + n6_)) (Int32.ofNat (48 + n7_))) : List Int32).map (fun c : Int32 => c.toInt8.toInt32)).map Value.int := by rw [hB16_, hB15_, hB14_, hB13_, hB12_, hB11_, hB10_, hB9_, hB8_, hB7_, hB6_, hB5_, hB4_, hB3_, hB2_, hB1_, hB0_, own_by9 h90_, own_by9 h91_, own_by9 h92_, own_by9 h93_, own_by9 h94_, own_by9 h95_, own_by9 h96_, own_by9 h97_]; unfold own_all own_k1 own_k2 own_k3 own_k4 own_k5 own_k6 own_k7 own_k8; simp only [List.map_append, List.nil_append, List.append_assoc]
  have eZ : Cz16 = (84 : Int32) := Int32.toInt_inj.mp (by rw [hb16, show Bz16.length = 84 by omega]; rfl)
  have Vy := q196_3
  rw [eL, eZ] at Vy
  have f200 := (Nat.le_trans (Nat.le_trans (Nat.le_trans hk171 Kq182.1) Kq190.1) Kq196.1)
  obtain ⟨fs, hr, hrun, hended, hRW⟩ := X196.leaveW hS f200 (v := some (.ref y_196)) (fun h => by rw [Bd.returns] at h; cases h)
  have hCend : CHr Z own_EL s.vm s.heap T196.vm T196.heap := by
    rw [hh]
    exact CHr.trans CR197 (CHv.at X196 hZ hEL CH197)
  refine own_fin (own_retR X196 hx rfl Bd.returns rfl (hb hby d11_106) hr) ⟨hrun, hended, _, _, rfl, ?_, hCend, hRW.1, hRW.2.1, hRW.2.2.1, hRW.2.2.2.mono (by decide) (by decide)⟩
  show Q_rmTo Z ob z0_ z1_ z2_ z3_ z4_ z5_ z6_ z7_ n0_ n1_ n2_ n3_ n4_ n5_ n6_ n7_ zc dg kd h0 n0 _ T196.heap _
  exact ⟨y_196, b_196, kb_196, rfl, N196, K198, q196_0, q196_1, q196_2, Vy⟩
abbrev own_y39 : MethodName := ⟨"com/example/goldweave/goldweave/server/cli/LoadSummaryRejectPinLaw", "d", "(I)C"⟩
abbrev own_c41 : ByteArray := method_4_code
theorem d41_0 : decode own_c41 0 = .ok (.bipush 48, 2) := by decide +kernel
theorem d41_2 : decode own_c41 2 = .ok (.iload_n 0, 1) := by decide +kernel
theorem d41_3 : decode own_c41 3 = .ok (.iadd, 1) := by decide +kernel
theorem d41_4 : decode own_c41 4 = .ok (.i2c, 1) := by decide +kernel
theorem d41_5 : decode own_c41 5 = .ok (.ireturn, 1) := by decide +kernel
theorem pn_41 : plainName "com/example/goldweave/goldweave/server/cli/LoadSummaryRejectPinLaw" = true := by first | (simp [plainName, overriddenIn]; done) | decide +kernel
theorem ef_rmD (m : MethodId) (x0 : Int32) : entryFrame m #[(.int x0)] 1 = mkF m 0 #[.val (.int x0)] [] := by first | (simp [entryFrame, mkF, argsToLocals, Value.category]; done) | rfl
def Q_rmD (Z : State) (xi : Int32) (dd : Nat) (h0 : Heap) (n0 : Nat) (v : Option Value) (h : Heap) (L : List Loc) : Prop := v = some (.int (Int32.ofNat (48 + dd))) ∧ Fr n0 L ∧ h = h0
set_option maxRecDepth 65536 in
set_option maxHeartbeats 40000000 in
theorem rmD (l : Launch) (Z : State) (a0 : Array Value) (hw : ∀ d ∈ tables_1, d.before a0 Z = true) (ws : List Jvm.Cond) (xi : Int32) (dd : Nat) (h0 : Heap) (n0 : Nat) (Z0 : n0 ≤ h0.size) (hd : (xi.toInt = (dd : Int))) (h9 : (dd ≤ 9)) :
    MetFree l own_y39 (head1 (Jvm.Cond.code own_y39 method_4_code 1 (some .char) :: ws) ({ frames := 0, cells := 0, slots := 0, locals := 0 } : Room)) (fun a U => a = #[(.int xi)] ∧ Z.Warmed39 U.vm ∧ U.heap = h0) (fun _ _ _ _ _ => True) (fun _ U o U' => ∃ v L, o = .returned v ∧ Q_rmD Z xi dd h0 n0 v U'.heap L ∧ FrameEnd U o U' L ({ frames := 0, cells := 0, slots := 0, locals := 0 } : Room).cells ({ frames := 0, cells := 0, slots := 0, locals := 0 } : Room).slots) := by
  refine MetFree.of_bodySF (plainFor_of_name pn_41) hisR ?_
  intro p e s m args below meth c s₁ Bd hml0 hP hK
  obtain ⟨rfl, hZ, hh⟩ := hP
  have hx := Bd.exec
  have hby := Bd.bytes
  have hml : c.maxLocals = 1 := hml0
  have hown : s.vm.findClass "com/example/goldweave/goldweave/server/cli/LoadSummaryRejectPinLaw" = some m.cls := findClass_of_methodNamed Bd.named
  have hnm := (name_of_methodNamed Bd.named Bd.method).1
  have X0 : Stand p l e ({ frames := 0, cells := 0, slots := 0, locals := 0 } : Room) s m #[(.int xi)] below meth c s₁ [] 0 0 := Stand.of_body Bd
  have e0 : s₁.heap = h0 := by rw [← hh, Bd.state]; rfl
  have N0 := Fr.nil n0
  refine own_enter (ef_rmD m xi) ?_
  refine own_st (fun t_ k_ => XS.bipush X0.here hx rfl (hb hby d41_0) (XS.iloadN X0.here hx rfl (hb hby d41_2) rfl (XS.iadd X0.here hx rfl (hb hby d41_3) rfl (XS.i2c X0.here hx rfl (hb hby d41_4) rfl k_)))) ?_
  show own_Go p e below s₁ (mkF m 5 #[.val (.int xi)] [(.int (((48 : Int32) + xi).toUInt32.toUInt16.toUInt32.toInt32))]) _
  obtain ⟨fs, hr, hrun, hended, hW, hsame⟩ := X0.leave (v := some (.int (Int32.ofNat (48 + dd)))) (fun h => by rw [Bd.returns] at h; cases h)
  refine own_fin (retN X0 hx (t := .char) Bd.returns (by simp) (hb hby d41_5) (by rw [own_dN hd h9]; exact hr)) ⟨hrun, hended, _, _, rfl, ?_, ⟨_, rfl⟩, hW, hsame.mono (by decide) (by decide)⟩
  show Q_rmD Z xi dd h0 n0 _ s₁.heap _
  rw [e0]
  exact ⟨rfl, N0, rfl⟩
abbrev own_A8 (e0 e1 e2 e3 e4 e5 e6 e7 : Int32) : Array Slot := #[.val (.int e0), .val (.int e1), .val (.int e2), .val (.int e3), .val (.int e4), .val (.int e5), .val (.int e6), .val (.int e7), .unset]
abbrev own_y40 : MethodName := ⟨"java/lang/String", "<init>", "([C)V"⟩
abbrev own_y41 : MethodName := ⟨"com/example/goldweave/goldweave/server/cli/LoadSummaryRejectPinLaw", "expected", "(IIIIIIII)Ljava/lang/String;"⟩
abbrev own_c40 : ByteArray := method_5_code
theorem d40_0 : decode own_c40 0 = .ok (.bipush 84, 2) := by decide +kernel
theorem d40_2 : decode own_c40 2 = .ok (.newarray .char, 2) := by decide +kernel
theorem d40_4 : decode own_c40 4 = .ok (.dup, 1) := by decide +kernel
theorem d40_5 : decode own_c40 5 = .ok (.iconst 0, 1) := by decide +kernel
theorem d40_6 : decode own_c40 6 = .ok (.bipush 114, 2) := by decide +kernel
theorem d40_8 : decode own_c40 8 = .ok (.castore, 1) := by decide +kernel
theorem d40_9 : decode own_c40 9 = .ok (.dup, 1) := by decide +kernel
theorem d40_10 : decode own_c40 10 = .ok (.iconst 1, 1) := by decide +kernel
theorem d40_11 : decode own_c40 11 = .ok (.bipush 101, 2) := by decide +kernel
theorem d40_13 : decode own_c40 13 = .ok (.castore, 1) := by decide +kernel
theorem d40_14 : decode own_c40 14 = .ok (.dup, 1) := by decide +kernel
theorem d40_15 : decode own_c40 15 = .ok (.iconst 2, 1) := by decide +kernel
theorem d40_16 : decode own_c40 16 = .ok (.bipush 99, 2) := by decide +kernel
theorem d40_18 : decode own_c40 18 = .ok (.castore, 1) := by decide +kernel
theorem d40_19 : decode own_c40 19 = .ok (.dup, 1) := by decide +kernel
theorem d40_20 : decode own_c40 20 = .ok (.iconst 3, 1) := by decide +kernel
theorem d40_21 : decode own_c40 21 = .ok (.bipush 111, 2) := by decide +kernel
theorem d40_23 : decode own_c40 23 = .ok (.castore, 1) := by decide +kernel
theorem d40_24 : decode own_c40 24 = .ok (.dup, 1) := by decide +kernel
theorem d40_25 : decode own_c40 25 = .ok (.iconst 4, 1) := by decide +kernel
theorem d40_26 : decode own_c40 26 = .ok (.bipush 114, 2) := by decide +kernel
theorem d40_28 : decode own_c40 28 = .ok (.castore, 1) := by decide +kernel
theorem d40_29 : decode own_c40 29 = .ok (.dup, 1) := by decide +kernel
theorem d40_30 : decode own_c40 30 = .ok (.iconst 5, 1) := by decide +kernel
theorem d40_31 : decode own_c40 31 = .ok (.bipush 100, 2) := by decide +kernel
theorem d40_33 : decode own_c40 33 = .ok (.castore, 1) := by decide +kernel
theorem d40_34 : decode own_c40 34 = .ok (.dup, 1) := by decide +kernel
theorem d40_35 : decode own_c40 35 = .ok (.bipush 6, 2) := by decide +kernel
theorem d40_37 : decode own_c40 37 = .ok (.bipush 115, 2) := by decide +kernel
theorem d40_39 : decode own_c40 39 = .ok (.castore, 1) := by decide +kernel
theorem d40_40 : decode own_c40 40 = .ok (.dup, 1) := by decide +kernel
theorem d40_41 : decode own_c40 41 = .ok (.bipush 7, 2) := by decide +kernel
theorem d40_43 : decode own_c40 43 = .ok (.bipush 61, 2) := by decide +kernel
theorem d40_45 : decode own_c40 45 = .ok (.castore, 1) := by decide +kernel
theorem d40_46 : decode own_c40 46 = .ok (.dup, 1) := by decide +kernel
theorem d40_47 : decode own_c40 47 = .ok (.bipush 8, 2) := by decide +kernel
theorem d40_49 : decode own_c40 49 = .ok (.iload_n 0, 1) := by decide +kernel
theorem d40_50 : decode own_c40 50 = .ok (.invokestatic 63, 3) := by decide +kernel
theorem d40_53 : decode own_c40 53 = .ok (.castore, 1) := by decide +kernel
theorem d40_54 : decode own_c40 54 = .ok (.dup, 1) := by decide +kernel
theorem d40_55 : decode own_c40 55 = .ok (.bipush 9, 2) := by decide +kernel
theorem d40_57 : decode own_c40 57 = .ok (.bipush 32, 2) := by decide +kernel
theorem d40_59 : decode own_c40 59 = .ok (.castore, 1) := by decide +kernel
theorem d40_60 : decode own_c40 60 = .ok (.dup, 1) := by decide +kernel
theorem d40_61 : decode own_c40 61 = .ok (.bipush 10, 2) := by decide +kernel
theorem d40_63 : decode own_c40 63 = .ok (.bipush 110, 2) := by decide +kernel
theorem d40_65 : decode own_c40 65 = .ok (.castore, 1) := by decide +kernel
theorem d40_66 : decode own_c40 66 = .ok (.dup, 1) := by decide +kernel
theorem d40_67 : decode own_c40 67 = .ok (.bipush 11, 2) := by decide +kernel
theorem d40_69 : decode own_c40 69 = .ok (.bipush 101, 2) := by decide +kernel
theorem d40_71 : decode own_c40 71 = .ok (.castore, 1) := by decide +kernel
theorem d40_72 : decode own_c40 72 = .ok (.dup, 1) := by decide +kernel
theorem d40_73 : decode own_c40 73 = .ok (.bipush 12, 2) := by decide +kernel
theorem d40_75 : decode own_c40 75 = .ok (.bipush 119, 2) := by decide +kernel
theorem d40_77 : decode own_c40 77 = .ok (.castore, 1) := by decide +kernel
theorem d40_78 : decode own_c40 78 = .ok (.dup, 1) := by decide +kernel
theorem d40_79 : decode own_c40 79 = .ok (.bipush 13, 2) := by decide +kernel
theorem d40_81 : decode own_c40 81 = .ok (.bipush 61, 2) := by decide +kernel
theorem d40_83 : decode own_c40 83 = .ok (.castore, 1) := by decide +kernel
theorem d40_84 : decode own_c40 84 = .ok (.dup, 1) := by decide +kernel
theorem d40_85 : decode own_c40 85 = .ok (.bipush 14, 2) := by decide +kernel
theorem d40_87 : decode own_c40 87 = .ok (.iload_n 1, 1) := by decide +kernel
theorem d40_88 : decode own_c40 88 = .ok (.invokestatic 63, 3) := by decide +kernel
theorem d40_91 : decode own_c40 91 = .ok (.castore, 1) := by decide +kernel
theorem d40_92 : decode own_c40 92 = .ok (.dup, 1) := by decide +kernel
theorem d40_93 : decode own_c40 93 = .ok (.bipush 15, 2) := by decide +kernel
theorem d40_95 : decode own_c40 95 = .ok (.bipush 32, 2) := by decide +kernel
theorem d40_97 : decode own_c40 97 = .ok (.castore, 1) := by decide +kernel
theorem d40_98 : decode own_c40 98 = .ok (.dup, 1) := by decide +kernel
theorem d40_99 : decode own_c40 99 = .ok (.bipush 16, 2) := by decide +kernel
theorem d40_101 : decode own_c40 101 = .ok (.bipush 117, 2) := by decide +kernel
theorem d40_103 : decode own_c40 103 = .ok (.castore, 1) := by decide +kernel
theorem d40_104 : decode own_c40 104 = .ok (.dup, 1) := by decide +kernel
theorem d40_105 : decode own_c40 105 = .ok (.bipush 17, 2) := by decide +kernel
theorem d40_107 : decode own_c40 107 = .ok (.bipush 112, 2) := by decide +kernel
theorem d40_109 : decode own_c40 109 = .ok (.castore, 1) := by decide +kernel
theorem d40_110 : decode own_c40 110 = .ok (.dup, 1) := by decide +kernel
theorem d40_111 : decode own_c40 111 = .ok (.bipush 18, 2) := by decide +kernel
theorem d40_113 : decode own_c40 113 = .ok (.bipush 100, 2) := by decide +kernel
theorem d40_115 : decode own_c40 115 = .ok (.castore, 1) := by decide +kernel
theorem d40_116 : decode own_c40 116 = .ok (.dup, 1) := by decide +kernel
theorem d40_117 : decode own_c40 117 = .ok (.bipush 19, 2) := by decide +kernel
theorem d40_119 : decode own_c40 119 = .ok (.bipush 97, 2) := by decide +kernel
theorem d40_121 : decode own_c40 121 = .ok (.castore, 1) := by decide +kernel
theorem d40_122 : decode own_c40 122 = .ok (.dup, 1) := by decide +kernel
theorem d40_123 : decode own_c40 123 = .ok (.bipush 20, 2) := by decide +kernel
theorem d40_125 : decode own_c40 125 = .ok (.bipush 116, 2) := by decide +kernel
theorem d40_127 : decode own_c40 127 = .ok (.castore, 1) := by decide +kernel
theorem d40_128 : decode own_c40 128 = .ok (.dup, 1) := by decide +kernel
theorem d40_129 : decode own_c40 129 = .ok (.bipush 21, 2) := by decide +kernel
theorem d40_131 : decode own_c40 131 = .ok (.bipush 101, 2) := by decide +kernel
theorem d40_133 : decode own_c40 133 = .ok (.castore, 1) := by decide +kernel
theorem d40_134 : decode own_c40 134 = .ok (.dup, 1) := by decide +kernel
theorem d40_135 : decode own_c40 135 = .ok (.bipush 22, 2) := by decide +kernel
theorem d40_137 : decode own_c40 137 = .ok (.bipush 100, 2) := by decide +kernel
theorem d40_139 : decode own_c40 139 = .ok (.castore, 1) := by decide +kernel
theorem d40_140 : decode own_c40 140 = .ok (.dup, 1) := by decide +kernel
theorem d40_141 : decode own_c40 141 = .ok (.bipush 23, 2) := by decide +kernel
theorem d40_143 : decode own_c40 143 = .ok (.bipush 61, 2) := by decide +kernel
theorem d40_145 : decode own_c40 145 = .ok (.castore, 1) := by decide +kernel
theorem d40_146 : decode own_c40 146 = .ok (.dup, 1) := by decide +kernel
theorem d40_147 : decode own_c40 147 = .ok (.bipush 24, 2) := by decide +kernel
theorem d40_149 : decode own_c40 149 = .ok (.iload_n 2, 1) := by decide +kernel
theorem d40_150 : decode own_c40 150 = .ok (.invokestatic 63, 3) := by decide +kernel
theorem d40_153 : decode own_c40 153 = .ok (.castore, 1) := by decide +kernel
theorem d40_154 : decode own_c40 154 = .ok (.dup, 1) := by decide +kernel
theorem d40_155 : decode own_c40 155 = .ok (.bipush 25, 2) := by decide +kernel
theorem d40_157 : decode own_c40 157 = .ok (.bipush 32, 2) := by decide +kernel
theorem d40_159 : decode own_c40 159 = .ok (.castore, 1) := by decide +kernel
theorem d40_160 : decode own_c40 160 = .ok (.dup, 1) := by decide +kernel
theorem d40_161 : decode own_c40 161 = .ok (.bipush 26, 2) := by decide +kernel
theorem d40_163 : decode own_c40 163 = .ok (.bipush 117, 2) := by decide +kernel
theorem d40_165 : decode own_c40 165 = .ok (.castore, 1) := by decide +kernel
theorem d40_166 : decode own_c40 166 = .ok (.dup, 1) := by decide +kernel
theorem d40_167 : decode own_c40 167 = .ok (.bipush 27, 2) := by decide +kernel
theorem d40_169 : decode own_c40 169 = .ok (.bipush 110, 2) := by decide +kernel
theorem d40_171 : decode own_c40 171 = .ok (.castore, 1) := by decide +kernel
theorem d40_172 : decode own_c40 172 = .ok (.dup, 1) := by decide +kernel
theorem d40_173 : decode own_c40 173 = .ok (.bipush 28, 2) := by decide +kernel
theorem d40_175 : decode own_c40 175 = .ok (.bipush 99, 2) := by decide +kernel
theorem d40_177 : decode own_c40 177 = .ok (.castore, 1) := by decide +kernel
theorem d40_178 : decode own_c40 178 = .ok (.dup, 1) := by decide +kernel
theorem d40_179 : decode own_c40 179 = .ok (.bipush 29, 2) := by decide +kernel
theorem d40_181 : decode own_c40 181 = .ok (.bipush 104, 2) := by decide +kernel
theorem d40_183 : decode own_c40 183 = .ok (.castore, 1) := by decide +kernel
theorem d40_184 : decode own_c40 184 = .ok (.dup, 1) := by decide +kernel
theorem d40_185 : decode own_c40 185 = .ok (.bipush 30, 2) := by decide +kernel
theorem d40_187 : decode own_c40 187 = .ok (.bipush 97, 2) := by decide +kernel
theorem d40_189 : decode own_c40 189 = .ok (.castore, 1) := by decide +kernel
theorem d40_190 : decode own_c40 190 = .ok (.dup, 1) := by decide +kernel
theorem d40_191 : decode own_c40 191 = .ok (.bipush 31, 2) := by decide +kernel
theorem d40_193 : decode own_c40 193 = .ok (.bipush 110, 2) := by decide +kernel
theorem d40_195 : decode own_c40 195 = .ok (.castore, 1) := by decide +kernel
theorem d40_196 : decode own_c40 196 = .ok (.dup, 1) := by decide +kernel
theorem d40_197 : decode own_c40 197 = .ok (.bipush 32, 2) := by decide +kernel
theorem d40_199 : decode own_c40 199 = .ok (.bipush 103, 2) := by decide +kernel
theorem d40_201 : decode own_c40 201 = .ok (.castore, 1) := by decide +kernel
theorem d40_202 : decode own_c40 202 = .ok (.dup, 1) := by decide +kernel
theorem d40_203 : decode own_c40 203 = .ok (.bipush 33, 2) := by decide +kernel
theorem d40_205 : decode own_c40 205 = .ok (.bipush 101, 2) := by decide +kernel
theorem d40_207 : decode own_c40 207 = .ok (.castore, 1) := by decide +kernel
theorem d40_208 : decode own_c40 208 = .ok (.dup, 1) := by decide +kernel
theorem d40_209 : decode own_c40 209 = .ok (.bipush 34, 2) := by decide +kernel
theorem d40_211 : decode own_c40 211 = .ok (.bipush 100, 2) := by decide +kernel
theorem d40_213 : decode own_c40 213 = .ok (.castore, 1) := by decide +kernel
theorem d40_214 : decode own_c40 214 = .ok (.dup, 1) := by decide +kernel
theorem d40_215 : decode own_c40 215 = .ok (.bipush 35, 2) := by decide +kernel
theorem d40_217 : decode own_c40 217 = .ok (.bipush 61, 2) := by decide +kernel
theorem d40_219 : decode own_c40 219 = .ok (.castore, 1) := by decide +kernel
theorem d40_220 : decode own_c40 220 = .ok (.dup, 1) := by decide +kernel
theorem d40_221 : decode own_c40 221 = .ok (.bipush 36, 2) := by decide +kernel
theorem d40_223 : decode own_c40 223 = .ok (.iload_n 3, 1) := by decide +kernel
theorem d40_224 : decode own_c40 224 = .ok (.invokestatic 63, 3) := by decide +kernel
theorem d40_227 : decode own_c40 227 = .ok (.castore, 1) := by decide +kernel
theorem d40_228 : decode own_c40 228 = .ok (.dup, 1) := by decide +kernel
theorem d40_229 : decode own_c40 229 = .ok (.bipush 37, 2) := by decide +kernel
theorem d40_231 : decode own_c40 231 = .ok (.bipush 32, 2) := by decide +kernel
theorem d40_233 : decode own_c40 233 = .ok (.castore, 1) := by decide +kernel
theorem d40_234 : decode own_c40 234 = .ok (.dup, 1) := by decide +kernel
theorem d40_235 : decode own_c40 235 = .ok (.bipush 38, 2) := by decide +kernel
theorem d40_237 : decode own_c40 237 = .ok (.bipush 114, 2) := by decide +kernel
theorem d40_239 : decode own_c40 239 = .ok (.castore, 1) := by decide +kernel
theorem d40_240 : decode own_c40 240 = .ok (.dup, 1) := by decide +kernel
theorem d40_241 : decode own_c40 241 = .ok (.bipush 39, 2) := by decide +kernel
theorem d40_243 : decode own_c40 243 = .ok (.bipush 101, 2) := by decide +kernel
theorem d40_245 : decode own_c40 245 = .ok (.castore, 1) := by decide +kernel
theorem d40_246 : decode own_c40 246 = .ok (.dup, 1) := by decide +kernel
theorem d40_247 : decode own_c40 247 = .ok (.bipush 40, 2) := by decide +kernel
theorem d40_249 : decode own_c40 249 = .ok (.bipush 106, 2) := by decide +kernel
theorem d40_251 : decode own_c40 251 = .ok (.castore, 1) := by decide +kernel
theorem d40_252 : decode own_c40 252 = .ok (.dup, 1) := by decide +kernel
theorem d40_253 : decode own_c40 253 = .ok (.bipush 41, 2) := by decide +kernel
theorem d40_255 : decode own_c40 255 = .ok (.bipush 101, 2) := by decide +kernel
theorem d40_257 : decode own_c40 257 = .ok (.castore, 1) := by decide +kernel
theorem d40_258 : decode own_c40 258 = .ok (.dup, 1) := by decide +kernel
theorem d40_259 : decode own_c40 259 = .ok (.bipush 42, 2) := by decide +kernel
theorem d40_261 : decode own_c40 261 = .ok (.bipush 99, 2) := by decide +kernel
theorem d40_263 : decode own_c40 263 = .ok (.castore, 1) := by decide +kernel
theorem d40_264 : decode own_c40 264 = .ok (.dup, 1) := by decide +kernel
theorem d40_265 : decode own_c40 265 = .ok (.bipush 43, 2) := by decide +kernel
theorem d40_267 : decode own_c40 267 = .ok (.bipush 116, 2) := by decide +kernel
theorem d40_269 : decode own_c40 269 = .ok (.castore, 1) := by decide +kernel
theorem d40_270 : decode own_c40 270 = .ok (.dup, 1) := by decide +kernel
theorem d40_271 : decode own_c40 271 = .ok (.bipush 44, 2) := by decide +kernel
theorem d40_273 : decode own_c40 273 = .ok (.bipush 101, 2) := by decide +kernel
theorem d40_275 : decode own_c40 275 = .ok (.castore, 1) := by decide +kernel
theorem d40_276 : decode own_c40 276 = .ok (.dup, 1) := by decide +kernel
theorem d40_277 : decode own_c40 277 = .ok (.bipush 45, 2) := by decide +kernel
theorem d40_279 : decode own_c40 279 = .ok (.bipush 100, 2) := by decide +kernel
theorem d40_281 : decode own_c40 281 = .ok (.castore, 1) := by decide +kernel
theorem d40_282 : decode own_c40 282 = .ok (.dup, 1) := by decide +kernel
theorem d40_283 : decode own_c40 283 = .ok (.bipush 46, 2) := by decide +kernel
theorem d40_285 : decode own_c40 285 = .ok (.bipush 61, 2) := by decide +kernel
theorem d40_287 : decode own_c40 287 = .ok (.castore, 1) := by decide +kernel
theorem d40_288 : decode own_c40 288 = .ok (.dup, 1) := by decide +kernel
theorem d40_289 : decode own_c40 289 = .ok (.bipush 47, 2) := by decide +kernel
theorem d40_291 : decode own_c40 291 = .ok (.iload 4, 2) := by decide +kernel
theorem d40_293 : decode own_c40 293 = .ok (.invokestatic 63, 3) := by decide +kernel
theorem d40_296 : decode own_c40 296 = .ok (.castore, 1) := by decide +kernel
theorem d40_297 : decode own_c40 297 = .ok (.dup, 1) := by decide +kernel
theorem d40_298 : decode own_c40 298 = .ok (.bipush 48, 2) := by decide +kernel
theorem d40_300 : decode own_c40 300 = .ok (.bipush 32, 2) := by decide +kernel
theorem d40_302 : decode own_c40 302 = .ok (.castore, 1) := by decide +kernel
theorem d40_303 : decode own_c40 303 = .ok (.dup, 1) := by decide +kernel
theorem d40_304 : decode own_c40 304 = .ok (.bipush 49, 2) := by decide +kernel
theorem d40_306 : decode own_c40 306 = .ok (.bipush 108, 2) := by decide +kernel
theorem d40_308 : decode own_c40 308 = .ok (.castore, 1) := by decide +kernel
theorem d40_309 : decode own_c40 309 = .ok (.dup, 1) := by decide +kernel
theorem d40_310 : decode own_c40 310 = .ok (.bipush 50, 2) := by decide +kernel
theorem d40_312 : decode own_c40 312 = .ok (.bipush 105, 2) := by decide +kernel
theorem d40_314 : decode own_c40 314 = .ok (.castore, 1) := by decide +kernel
theorem d40_315 : decode own_c40 315 = .ok (.dup, 1) := by decide +kernel
theorem d40_316 : decode own_c40 316 = .ok (.bipush 51, 2) := by decide +kernel
theorem d40_318 : decode own_c40 318 = .ok (.bipush 110, 2) := by decide +kernel
theorem d40_320 : decode own_c40 320 = .ok (.castore, 1) := by decide +kernel
theorem d40_321 : decode own_c40 321 = .ok (.dup, 1) := by decide +kernel
theorem d40_322 : decode own_c40 322 = .ok (.bipush 52, 2) := by decide +kernel
theorem d40_324 : decode own_c40 324 = .ok (.bipush 107, 2) := by decide +kernel
theorem d40_326 : decode own_c40 326 = .ok (.castore, 1) := by decide +kernel
theorem d40_327 : decode own_c40 327 = .ok (.dup, 1) := by decide +kernel
theorem d40_328 : decode own_c40 328 = .ok (.bipush 53, 2) := by decide +kernel
theorem d40_330 : decode own_c40 330 = .ok (.bipush 101, 2) := by decide +kernel
theorem d40_332 : decode own_c40 332 = .ok (.castore, 1) := by decide +kernel
theorem d40_333 : decode own_c40 333 = .ok (.dup, 1) := by decide +kernel
theorem d40_334 : decode own_c40 334 = .ok (.bipush 54, 2) := by decide +kernel
theorem d40_336 : decode own_c40 336 = .ok (.bipush 100, 2) := by decide +kernel
theorem d40_338 : decode own_c40 338 = .ok (.castore, 1) := by decide +kernel
theorem d40_339 : decode own_c40 339 = .ok (.dup, 1) := by decide +kernel
theorem d40_340 : decode own_c40 340 = .ok (.bipush 55, 2) := by decide +kernel
theorem d40_342 : decode own_c40 342 = .ok (.bipush 61, 2) := by decide +kernel
theorem d40_344 : decode own_c40 344 = .ok (.castore, 1) := by decide +kernel
theorem d40_345 : decode own_c40 345 = .ok (.dup, 1) := by decide +kernel
theorem d40_346 : decode own_c40 346 = .ok (.bipush 56, 2) := by decide +kernel
theorem d40_348 : decode own_c40 348 = .ok (.iload 5, 2) := by decide +kernel
theorem d40_350 : decode own_c40 350 = .ok (.invokestatic 63, 3) := by decide +kernel
theorem d40_353 : decode own_c40 353 = .ok (.castore, 1) := by decide +kernel
theorem d40_354 : decode own_c40 354 = .ok (.dup, 1) := by decide +kernel
theorem d40_355 : decode own_c40 355 = .ok (.bipush 57, 2) := by decide +kernel
theorem d40_357 : decode own_c40 357 = .ok (.bipush 32, 2) := by decide +kernel
theorem d40_359 : decode own_c40 359 = .ok (.castore, 1) := by decide +kernel
theorem d40_360 : decode own_c40 360 = .ok (.dup, 1) := by decide +kernel
theorem d40_361 : decode own_c40 361 = .ok (.bipush 58, 2) := by decide +kernel
theorem d40_363 : decode own_c40 363 = .ok (.bipush 110, 2) := by decide +kernel
theorem d40_365 : decode own_c40 365 = .ok (.castore, 1) := by decide +kernel
theorem d40_366 : decode own_c40 366 = .ok (.dup, 1) := by decide +kernel
theorem d40_367 : decode own_c40 367 = .ok (.bipush 59, 2) := by decide +kernel
theorem d40_369 : decode own_c40 369 = .ok (.bipush 101, 2) := by decide +kernel
theorem d40_371 : decode own_c40 371 = .ok (.castore, 1) := by decide +kernel
theorem d40_372 : decode own_c40 372 = .ok (.dup, 1) := by decide +kernel
theorem d40_373 : decode own_c40 373 = .ok (.bipush 60, 2) := by decide +kernel
theorem d40_375 : decode own_c40 375 = .ok (.bipush 119, 2) := by decide +kernel
theorem d40_377 : decode own_c40 377 = .ok (.castore, 1) := by decide +kernel
theorem d40_378 : decode own_c40 378 = .ok (.dup, 1) := by decide +kernel
theorem d40_379 : decode own_c40 379 = .ok (.bipush 61, 2) := by decide +kernel
theorem d40_381 : decode own_c40 381 = .ok (.bipush 95, 2) := by decide +kernel
theorem d40_383 : decode own_c40 383 = .ok (.castore, 1) := by decide +kernel
theorem d40_384 : decode own_c40 384 = .ok (.dup, 1) := by decide +kernel
theorem d40_385 : decode own_c40 385 = .ok (.bipush 62, 2) := by decide +kernel
theorem d40_387 : decode own_c40 387 = .ok (.bipush 109, 2) := by decide +kernel
theorem d40_389 : decode own_c40 389 = .ok (.castore, 1) := by decide +kernel
theorem d40_390 : decode own_c40 390 = .ok (.dup, 1) := by decide +kernel
theorem d40_391 : decode own_c40 391 = .ok (.bipush 63, 2) := by decide +kernel
theorem d40_393 : decode own_c40 393 = .ok (.bipush 97, 2) := by decide +kernel
theorem d40_395 : decode own_c40 395 = .ok (.castore, 1) := by decide +kernel
theorem d40_396 : decode own_c40 396 = .ok (.dup, 1) := by decide +kernel
theorem d40_397 : decode own_c40 397 = .ok (.bipush 64, 2) := by decide +kernel
theorem d40_399 : decode own_c40 399 = .ok (.bipush 115, 2) := by decide +kernel
theorem d40_401 : decode own_c40 401 = .ok (.castore, 1) := by decide +kernel
theorem d40_402 : decode own_c40 402 = .ok (.dup, 1) := by decide +kernel
theorem d40_403 : decode own_c40 403 = .ok (.bipush 65, 2) := by decide +kernel
theorem d40_405 : decode own_c40 405 = .ok (.bipush 116, 2) := by decide +kernel
theorem d40_407 : decode own_c40 407 = .ok (.castore, 1) := by decide +kernel
theorem d40_408 : decode own_c40 408 = .ok (.dup, 1) := by decide +kernel
theorem d40_409 : decode own_c40 409 = .ok (.bipush 66, 2) := by decide +kernel
theorem d40_411 : decode own_c40 411 = .ok (.bipush 101, 2) := by decide +kernel
theorem d40_413 : decode own_c40 413 = .ok (.castore, 1) := by decide +kernel
theorem d40_414 : decode own_c40 414 = .ok (.dup, 1) := by decide +kernel
theorem d40_415 : decode own_c40 415 = .ok (.bipush 67, 2) := by decide +kernel
theorem d40_417 : decode own_c40 417 = .ok (.bipush 114, 2) := by decide +kernel
theorem d40_419 : decode own_c40 419 = .ok (.castore, 1) := by decide +kernel
theorem d40_420 : decode own_c40 420 = .ok (.dup, 1) := by decide +kernel
theorem d40_421 : decode own_c40 421 = .ok (.bipush 68, 2) := by decide +kernel
theorem d40_423 : decode own_c40 423 = .ok (.bipush 115, 2) := by decide +kernel
theorem d40_425 : decode own_c40 425 = .ok (.castore, 1) := by decide +kernel
theorem d40_426 : decode own_c40 426 = .ok (.dup, 1) := by decide +kernel
theorem d40_427 : decode own_c40 427 = .ok (.bipush 69, 2) := by decide +kernel
theorem d40_429 : decode own_c40 429 = .ok (.bipush 61, 2) := by decide +kernel
theorem d40_431 : decode own_c40 431 = .ok (.castore, 1) := by decide +kernel
theorem d40_432 : decode own_c40 432 = .ok (.dup, 1) := by decide +kernel
theorem d40_433 : decode own_c40 433 = .ok (.bipush 70, 2) := by decide +kernel
theorem d40_435 : decode own_c40 435 = .ok (.iload 6, 2) := by decide +kernel
theorem d40_437 : decode own_c40 437 = .ok (.invokestatic 63, 3) := by decide +kernel
theorem d40_440 : decode own_c40 440 = .ok (.castore, 1) := by decide +kernel
theorem d40_441 : decode own_c40 441 = .ok (.dup, 1) := by decide +kernel
theorem d40_442 : decode own_c40 442 = .ok (.bipush 71, 2) := by decide +kernel
theorem d40_444 : decode own_c40 444 = .ok (.bipush 32, 2) := by decide +kernel
theorem d40_446 : decode own_c40 446 = .ok (.castore, 1) := by decide +kernel
theorem d40_447 : decode own_c40 447 = .ok (.dup, 1) := by decide +kernel
theorem d40_448 : decode own_c40 448 = .ok (.bipush 72, 2) := by decide +kernel
theorem d40_450 : decode own_c40 450 = .ok (.bipush 99, 2) := by decide +kernel
theorem d40_452 : decode own_c40 452 = .ok (.castore, 1) := by decide +kernel
theorem d40_453 : decode own_c40 453 = .ok (.dup, 1) := by decide +kernel
theorem d40_454 : decode own_c40 454 = .ok (.bipush 73, 2) := by decide +kernel
theorem d40_456 : decode own_c40 456 = .ok (.bipush 97, 2) := by decide +kernel
theorem d40_458 : decode own_c40 458 = .ok (.castore, 1) := by decide +kernel
theorem d40_459 : decode own_c40 459 = .ok (.dup, 1) := by decide +kernel
theorem d40_460 : decode own_c40 460 = .ok (.bipush 74, 2) := by decide +kernel
theorem d40_462 : decode own_c40 462 = .ok (.bipush 110, 2) := by decide +kernel
theorem d40_464 : decode own_c40 464 = .ok (.castore, 1) := by decide +kernel
theorem d40_465 : decode own_c40 465 = .ok (.dup, 1) := by decide +kernel
theorem d40_466 : decode own_c40 466 = .ok (.bipush 75, 2) := by decide +kernel
theorem d40_468 : decode own_c40 468 = .ok (.bipush 100, 2) := by decide +kernel
theorem d40_470 : decode own_c40 470 = .ok (.castore, 1) := by decide +kernel
theorem d40_471 : decode own_c40 471 = .ok (.dup, 1) := by decide +kernel
theorem d40_472 : decode own_c40 472 = .ok (.bipush 76, 2) := by decide +kernel
theorem d40_474 : decode own_c40 474 = .ok (.bipush 105, 2) := by decide +kernel
theorem d40_476 : decode own_c40 476 = .ok (.castore, 1) := by decide +kernel
theorem d40_477 : decode own_c40 477 = .ok (.dup, 1) := by decide +kernel
theorem d40_478 : decode own_c40 478 = .ok (.bipush 77, 2) := by decide +kernel
theorem d40_480 : decode own_c40 480 = .ok (.bipush 100, 2) := by decide +kernel
theorem d40_482 : decode own_c40 482 = .ok (.castore, 1) := by decide +kernel
theorem d40_483 : decode own_c40 483 = .ok (.dup, 1) := by decide +kernel
theorem d40_484 : decode own_c40 484 = .ok (.bipush 78, 2) := by decide +kernel
theorem d40_486 : decode own_c40 486 = .ok (.bipush 97, 2) := by decide +kernel
theorem d40_488 : decode own_c40 488 = .ok (.castore, 1) := by decide +kernel
theorem d40_489 : decode own_c40 489 = .ok (.dup, 1) := by decide +kernel
theorem d40_490 : decode own_c40 490 = .ok (.bipush 79, 2) := by decide +kernel
theorem d40_492 : decode own_c40 492 = .ok (.bipush 116, 2) := by decide +kernel
theorem d40_494 : decode own_c40 494 = .ok (.castore, 1) := by decide +kernel
theorem d40_495 : decode own_c40 495 = .ok (.dup, 1) := by decide +kernel
theorem d40_496 : decode own_c40 496 = .ok (.bipush 80, 2) := by decide +kernel
theorem d40_498 : decode own_c40 498 = .ok (.bipush 101, 2) := by decide +kernel
theorem d40_500 : decode own_c40 500 = .ok (.castore, 1) := by decide +kernel
theorem d40_501 : decode own_c40 501 = .ok (.dup, 1) := by decide +kernel
theorem d40_502 : decode own_c40 502 = .ok (.bipush 81, 2) := by decide +kernel
theorem d40_504 : decode own_c40 504 = .ok (.bipush 115, 2) := by decide +kernel
theorem d40_506 : decode own_c40 506 = .ok (.castore, 1) := by decide +kernel
theorem d40_507 : decode own_c40 507 = .ok (.dup, 1) := by decide +kernel
theorem d40_508 : decode own_c40 508 = .ok (.bipush 82, 2) := by decide +kernel
theorem d40_510 : decode own_c40 510 = .ok (.bipush 61, 2) := by decide +kernel
theorem d40_512 : decode own_c40 512 = .ok (.castore, 1) := by decide +kernel
theorem d40_513 : decode own_c40 513 = .ok (.dup, 1) := by decide +kernel
theorem d40_514 : decode own_c40 514 = .ok (.bipush 83, 2) := by decide +kernel
theorem d40_516 : decode own_c40 516 = .ok (.iload 7, 2) := by decide +kernel
theorem d40_518 : decode own_c40 518 = .ok (.invokestatic 63, 3) := by decide +kernel
theorem d40_521 : decode own_c40 521 = .ok (.castore, 1) := by decide +kernel
theorem d40_522 : decode own_c40 522 = .ok (.astore 8, 2) := by decide +kernel
theorem d40_524 : decode own_c40 524 = .ok (.new 55, 3) := by decide +kernel
theorem d40_527 : decode own_c40 527 = .ok (.dup, 1) := by decide +kernel
theorem d40_528 : decode own_c40 528 = .ok (.aload 8, 2) := by decide +kernel
theorem d40_530 : decode own_c40 530 = .ok (.invokespecial 67, 3) := by decide +kernel
theorem d40_533 : decode own_c40 533 = .ok (.areturn, 1) := by decide +kernel
theorem pn_40 : plainName "com/example/goldweave/goldweave/server/cli/LoadSummaryRejectPinLaw" = true := by first | (simp [plainName, overriddenIn]; done) | decide +kernel
theorem pd__I_C : parseMethodDescriptor "(I)C" = some ⟨[.int], some .char⟩ := by decide +kernel
theorem pd___C_V : parseMethodDescriptor "([C)V" = some ⟨[(.array .char)], none⟩ := by decide +kernel
theorem ef_rmEx (m : MethodId) (x0 : Int32) (x1 : Int32) (x2 : Int32) (x3 : Int32) (x4 : Int32) (x5 : Int32) (x6 : Int32) (x7 : Int32) : entryFrame m #[(.int x0), (.int x1), (.int x2), (.int x3), (.int x4), (.int x5), (.int x6), (.int x7)] 9 = mkF m 0 #[.val (.int x0), .val (.int x1), .val (.int x2), .val (.int x3), .val (.int x4), .val (.int x5), .val (.int x6), .val (.int x7), .unset] [] := by first | (simp [entryFrame, mkF, argsToLocals, Value.category]; done) | rfl
def Q_rmEx (Z : State) (e0_ : Int32) (e1_ : Int32) (e2_ : Int32) (e3_ : Int32) (e4_ : Int32) (e5_ : Int32) (e6_ : Int32) (e7_ : Int32) (n0_ : Nat) (n1_ : Nat) (n2_ : Nat) (n3_ : Nat) (n4_ : Nat) (n5_ : Nat) (n6_ : Nat) (n7_ : Nat) (zc : Int32) (h0 : Heap) (n0 : Nat) (v : Option Value) (h : Heap) (L : List Loc) : Prop := ∃ y : Addr, ∃ t : Addr, ∃ kb : ClassId, v = some (.ref y) ∧ Fr n0 L ∧ Keep h0 h [] ∧ Exa Z h y "java/lang/String" ∧ Fld Z h y "java/lang/String" "value" "[B" (.ref t) ∧ Fld Z h y "java/lang/String" "coder" "B" (.int (0 : Int32)) ∧ Arv Z h t kb .byte (84 : Int32) ((((own_all (Int32.ofNat (48 + n0_)) (Int32.ofNat (48 + n1_)) (Int32.ofNat (48 + n2_)) (Int32.ofNat (48 + n3_)) (Int32.ofNat (48 + n4_)) (Int32.ofNat (48 + n5_)) (Int32.ofNat (48 + n6_)) (Int32.ofNat (48 + n7_))) : List Int32).map (fun c : Int32 => c.toInt8.toInt32)).map Value.int) (.int 0)
set_option maxRecDepth 65536 in
set_option maxHeartbeats 40000000 in
theorem rmEx (l : Launch) (Z : State) (a0 : Array Value) (hw : ∀ d ∈ tables_1, d.before a0 Z = true) (ws : List Jvm.Cond) (e0_ : Int32) (e1_ : Int32) (e2_ : Int32) (e3_ : Int32) (e4_ : Int32) (e5_ : Int32) (e6_ : Int32) (e7_ : Int32) (n0_ : Nat) (n1_ : Nat) (n2_ : Nat) (n3_ : Nat) (n4_ : Nat) (n5_ : Nat) (n6_ : Nat) (n7_ : Nat) (zc : Int32) (h0 : Heap) (n0 : Nat) (Z0 : n0 ≤ h0.size) (hd0_ : (e0_.toInt = (n0_ : Int))) (h90_ : (n0_ ≤ 9)) (hd1_ : (e1_.toInt = (n1_ : Int))) (h91_ : (n1_ ≤ 9)) (hd2_ : (e2_.toInt = (n2_ : Int))) (h92_ : (n2_ ≤ 9)) (hd3_ : (e3_.toInt = (n3_ : Int))) (h93_ : (n3_ ≤ 9)) (hd4_ : (e4_.toInt = (n4_ : Int))) (h94_ : (n4_ ≤ 9)) (hd5_ : (e5_.toInt = (n5_ : Int))) (h95_ : (n5_ ≤ 9)) (hd6_ : (e6_.toInt = (n6_ : Int))) (h96_ : (n6_ ≤ 9)) (hd7_ : (e7_.toInt = (n7_ : Int))) (h97_ : (n7_ ≤ 9)) (pS_COMPACT_STRINGS : Sta Z Z.heap "java/lang/String" "COMPACT_STRINGS" "Z" (.int zc)) (pP5 : (¬ (zc = (0 : Int32)))) (pO : Old Z n0 h0) :
    MetFree l own_y41 (head1 (Jvm.Cond.code own_y41 method_5_code 9 (some (.object "java/lang/String")) :: ws) ({ frames := 4, cells := 3, slots := 172, locals := 66 } : Room)) (fun a U => a = #[(.int e0_), (.int e1_), (.int e2_), (.int e3_), (.int e4_), (.int e5_), (.int e6_), (.int e7_)] ∧ Z.Warmed39 U.vm ∧ U.heap = h0) (fun _ _ _ _ _ => True) (fun _ U o U' => ∃ v L, o = .returned v ∧ Q_rmEx Z e0_ e1_ e2_ e3_ e4_ e5_ e6_ e7_ n0_ n1_ n2_ n3_ n4_ n5_ n6_ n7_ zc h0 n0 v U'.heap L ∧ FrameEnd U o U' L ({ frames := 4, cells := 3, slots := 172, locals := 66 } : Room).cells ({ frames := 4, cells := 3, slots := 172, locals := 66 } : Room).slots) := by
  refine MetFree.of_bodySF (plainFor_of_name pn_40) hisR ?_
  intro p e s m args below meth c s₁ Bd hml0 hP hK
  obtain ⟨rfl, hZ, hh⟩ := hP
  have hx := Bd.exec
  have hby := Bd.bytes
  have hml : c.maxLocals = 9 := hml0
  have hown : s.vm.findClass "com/example/goldweave/goldweave/server/cli/LoadSummaryRejectPinLaw" = some m.cls := findClass_of_methodNamed Bd.named
  have hnm := (name_of_methodNamed Bd.named Bd.method).1
  have X0 : Stand p l e ({ frames := 4, cells := 3, slots := 172, locals := 66 } : Room) s m #[(.int e0_), (.int e1_), (.int e2_), (.int e3_), (.int e4_), (.int e5_), (.int e6_), (.int e7_)] below meth c s₁ [] 0 0 := Stand.of_body Bd
  have e0 : s₁.heap = h0 := by rw [← hh, Bd.state]; rfl
  have N0 := Fr.nil n0
  refine own_enter (ef_rmEx m e0_ e1_ e2_ e3_ e4_ e5_ e6_ e7_) ?_
  have hws : ∀ d ∈ StrChars.Road.words, d.before a0 Z = true := fun d hd => hw d ((by decide +kernel : ∀ d ∈ StrChars.Road.words, d ∈ tables_1) d hd)
  refine own_st (fun t_ k_ => XS.bipush X0.here hx rfl (hb hby d40_0) k_) ?_
  obtain ⟨T1, h1, k1, X1, e1, E1, A1, st1⟩ := newP X0 hx hZ (own_w hw 252 rfl) e0 (g := (mkF m 2 (own_A8 e0_ e1_ e2_ e3_ e4_ e5_ e6_ e7_) [(.int (84 : Int32))])) rfl (hb hby d40_2) rfl (by decide) (cap := 84) (by decide) (by decide) (by decide) (by decide)
  obtain ⟨b1, g1⟩ : ∃ z, z = h0.size := ⟨_, rfl⟩
  rw [← g1] at A1 st1
  have G1 : n0 ≤ b1 := Nat.le_trans Z0 (Nat.le_of_eq g1.symm)
  have B1 : h0.size ≤ b1 := Nat.le_trans (Keep.refl h0 []).1 (Nat.le_of_eq g1.symm)
  have K2 : Keep h0 h1 [] := (Keep.refl h0 []).ext E1
  have V1 : Arv Z h1 b1 k1 .char (84 : Int32) [] (.int (0 : Int32)) := Arv.new A1 (by decide)
  refine own_st st1 ?_
  obtain ⟨Ls3, hLs3⟩ : ∃ l : List Int32, l = [] := ⟨_, rfl⟩
  have hl3 : Ls3.length = 0 := by rw [hLs3]; rfl
  have Vp3 : Arv Z h1 b1 k1 .char (84 : Int32) (Ls3.reverse.map Value.int ++ List.replicate 84 (.int (0 : Int32))) (.int (0 : Int32)) := by rw [hLs3]; exact V1.pad (pad_rep [] (.int (0 : Int32)) 84)
  refine own_st (fun t_ k_ => XS.dup X1.here hx rfl (hb hby d40_4) rfl rfl (XS.iconst X1.here hx rfl (hb hby d40_5) (XS.bipush X1.here hx rfl (hb hby d40_6) k_))) ?_
  show own_Go p e below T1 (mkF m 8 (own_A8 e0_ e1_ e2_ e3_ e4_ e5_ e6_ e7_) [(.int (114 : Int32)), (.int (0 : Int32)), (.ref b1), (.ref b1)]) _
  refine own_cst (r := 83) (i := 0) X1 hx hZ e1 Vp3 hl3 rfl ⟨by decide, by decide⟩ rfl N0 (Keep.refl h1 [b1]) G1 (hb hby d40_8) (fun T4 h4 L4 Ls4 X4 e4 hLs4 hl4 V4 N4 K4 => ?_)
  refine own_st (fun t_ k_ => XS.dup X4.here hx rfl (hb hby d40_9) rfl rfl (XS.iconst X4.here hx rfl (hb hby d40_10) (XS.bipush X4.here hx rfl (hb hby d40_11) k_))) ?_
  show own_Go p e below T4 (mkF m 13 (own_A8 e0_ e1_ e2_ e3_ e4_ e5_ e6_ e7_) [(.int (101 : Int32)), (.int (1 : Int32)), (.ref b1), (.ref b1)]) _
  refine own_cst (r := 82) (i := 1) X4 hx hZ e4 V4 hl4 rfl ⟨by decide, by decide⟩ rfl N4 K4 G1 (hb hby d40_13) (fun T5 h5 L5 Ls5 X5 e5 hLs5 hl5 V5 N5 K5 => ?_)
  refine own_st (fun t_ k_ => XS.dup X5.here hx rfl (hb hby d40_14) rfl rfl (XS.iconst X5.here hx rfl (hb hby d40_15) (XS.bipush X5.here hx rfl (hb hby d40_16) k_))) ?_
  show own_Go p e below T5 (mkF m 18 (own_A8 e0_ e1_ e2_ e3_ e4_ e5_ e6_ e7_) [(.int (99 : Int32)), (.int (2 : Int32)), (.ref b1), (.ref b1)]) _
  refine own_cst (r := 81) (i := 2) X5 hx hZ e5 V5 hl5 rfl ⟨by decide, by decide⟩ rfl N5 K5 G1 (hb hby d40_18) (fun T6 h6 L6 Ls6 X6 e6 hLs6 hl6 V6 N6 K6 => ?_)
  refine own_st (fun t_ k_ => XS.dup X6.here hx rfl (hb hby d40_19) rfl rfl (XS.iconst X6.here hx rfl (hb hby d40_20) (XS.bipush X6.here hx rfl (hb hby d40_21) k_))) ?_
  show own_Go p e below T6 (mkF m 23 (own_A8 e0_ e1_ e2_ e3_ e4_ e5_ e6_ e7_) [(.int (111 : Int32)), (.int (3 : Int32)), (.ref b1), (.ref b1)]) _
  refine own_cst (r := 80) (i := 3) X6 hx hZ e6 V6 hl6 rfl ⟨by decide, by decide⟩ rfl N6 K6 G1 (hb hby d40_23) (fun T7 h7 L7 Ls7 X7 e7 hLs7 hl7 V7 N7 K7 => ?_)
  refine own_st (fun t_ k_ => XS.dup X7.here hx rfl (hb hby d40_24) rfl rfl (XS.iconst X7.here hx rfl (hb hby d40_25) (XS.bipush X7.here hx rfl (hb hby d40_26) k_))) ?_
  show own_Go p e below T7 (mkF m 28 (own_A8 e0_ e1_ e2_ e3_ e4_ e5_ e6_ e7_) [(.int (114 : Int32)), (.int (4 : Int32)), (.ref b1), (.ref b1)]) _
  refine own_cst (r := 79) (i := 4) X7 hx hZ e7 V7 hl7 rfl ⟨by decide, by decide⟩ rfl N7 K7 G1 (hb hby d40_28) (fun T8 h8 L8 Ls8 X8 e8 hLs8 hl8 V8 N8 K8 => ?_)
  refine own_st (fun t_ k_ => XS.dup X8.here hx rfl (hb hby d40_29) rfl rfl (XS.iconst X8.here hx rfl (hb hby d40_30) (XS.bipush X8.here hx rfl (hb hby d40_31) k_))) ?_
  show own_Go p e below T8 (mkF m 33 (own_A8 e0_ e1_ e2_ e3_ e4_ e5_ e6_ e7_) [(.int (100 : Int32)), (.int (5 : Int32)), (.ref b1), (.ref b1)]) _
  refine own_cst (r := 78) (i := 5) X8 hx hZ e8 V8 hl8 rfl ⟨by decide, by decide⟩ rfl N8 K8 G1 (hb hby d40_33) (fun T9 h9 L9 Ls9 X9 e9 hLs9 hl9 V9 N9 K9 => ?_)
  refine own_st (fun t_ k_ => XS.dup X9.here hx rfl (hb hby d40_34) rfl rfl (XS.bipush X9.here hx rfl (hb hby d40_35) (XS.bipush X9.here hx rfl (hb hby d40_37) k_))) ?_
  show own_Go p e below T9 (mkF m 39 (own_A8 e0_ e1_ e2_ e3_ e4_ e5_ e6_ e7_) [(.int (115 : Int32)), (.int (6 : Int32)), (.ref b1), (.ref b1)]) _
  refine own_cst (r := 77) (i := 6) X9 hx hZ e9 V9 hl9 rfl ⟨by decide, by decide⟩ rfl N9 K9 G1 (hb hby d40_39) (fun T10 h10 L10 Ls10 X10 e10 hLs10 hl10 V10 N10 K10 => ?_)
  refine own_st (fun t_ k_ => XS.dup X10.here hx rfl (hb hby d40_40) rfl rfl (XS.bipush X10.here hx rfl (hb hby d40_41) (XS.bipush X10.here hx rfl (hb hby d40_43) k_))) ?_
  show own_Go p e below T10 (mkF m 45 (own_A8 e0_ e1_ e2_ e3_ e4_ e5_ e6_ e7_) [(.int (61 : Int32)), (.int (7 : Int32)), (.ref b1), (.ref b1)]) _
  refine own_cst (r := 76) (i := 7) X10 hx hZ e10 V10 hl10 rfl ⟨by decide, by decide⟩ rfl N10 K10 G1 (hb hby d40_45) (fun T11 h11 L11 Ls11 X11 e11 hLs11 hl11 V11 N11 K11 => ?_)
  refine own_st (fun t_ k_ => XS.dup X11.here hx rfl (hb hby d40_46) rfl rfl (XS.bipush X11.here hx rfl (hb hby d40_47) (XS.iloadN X11.here hx rfl (hb hby d40_49) rfl k_))) ?_
  have K12 : Keep h0 h11 [] := K2.trans K11 (allS (Or.inr B1) all0)
  have f13 := (Nat.le_trans (Nat.le_trans Z0 E1.1) K11.1)
  obtain ⟨_, _, ⟨T14, L14, k14, n14⟩, -, X14, ⟨Lc14, hQ14, l14, y14, z14⟩, st14⟩ := Jvm.LawKit.callS X11 hx (y := own_y39) hown (mvT hZ (own_w hw 253 rfl)) (mvT hZ (own_w hw 254 rfl)) (mvT hZ (own_w hw 16 rfl)) (mvT hZ (own_w hw 255 rfl)) (by decide) (backOf (W := 3) (rmD l Z a0 hw [] e0_ n0_ h11 n0 f13 hd0_ h90_) hZ (own_w hw 255 rfl) (own_w hw 16 rfl) (by decide) (by decide)) (g := (mkF m 50 (own_A8 e0_ e1_ e2_ e3_ e4_ e5_ e6_ e7_) [(.int e0_), (.int (8 : Int32)), (.ref b1), (.ref b1)])) rfl (by rw [hml]; rfl) (argsL := [(.int e0_)]) (rest := [(.int (8 : Int32)), (.ref b1), (.ref b1)]) (lenOf pd__I_C rfl) rfl (by show 2 * 0 + _ ≤ _; exact Nat.le_of_eq rfl) (hb hby d40_50) (fun _ _ => ⟨rfl, e11, (by decide : 1 + 0 ≤ _), (by decide : 84 + 0 ≤ _)⟩)
  dsimp only [Pt.U, Pt.locs, Pt.cells, Pt.slots] at X14 l14 y14 z14 st14 hQ14
  try dsimp only [Nat.reduceAdd] at y14 z14
  rw [l14, y14, z14] at X14
  obtain ⟨rfl, Nq14, eH14⟩ := hQ14
  have N14 := Fr.app N11 Nq14
  refine own_st st14 ?_
  show own_Go p e below T14 (mkF m 53 (own_A8 e0_ e1_ e2_ e3_ e4_ e5_ e6_ e7_) [(.int (Int32.ofNat (48 + n0_))), (.int (8 : Int32)), (.ref b1), (.ref b1)]) _
  refine own_cst (r := 75) (i := 8) X14 hx hZ eH14 V11 hl11 rfl ⟨by decide, by decide⟩ (own_narC h90_) N14 (Keep.refl h11 [b1]) G1 (hb hby d40_53) (fun T15 h15 L15 Ls15 X15 e15 hLs15 hl15 V15 N15 K15 => ?_)
  refine own_st (fun t_ k_ => XS.dup X15.here hx rfl (hb hby d40_54) rfl rfl (XS.bipush X15.here hx rfl (hb hby d40_55) (XS.bipush X15.here hx rfl (hb hby d40_57) k_))) ?_
  show own_Go p e below T15 (mkF m 59 (own_A8 e0_ e1_ e2_ e3_ e4_ e5_ e6_ e7_) [(.int (32 : Int32)), (.int (9 : Int32)), (.ref b1), (.ref b1)]) _
  refine own_cst (r := 74) (i := 9) X15 hx hZ e15 V15 hl15 rfl ⟨by decide, by decide⟩ rfl N15 K15 G1 (hb hby d40_59) (fun T16 h16 L16 Ls16 X16 e16 hLs16 hl16 V16 N16 K16 => ?_)
  refine own_st (fun t_ k_ => XS.dup X16.here hx rfl (hb hby d40_60) rfl rfl (XS.bipush X16.here hx rfl (hb hby d40_61) (XS.bipush X16.here hx rfl (hb hby d40_63) k_))) ?_
  show own_Go p e below T16 (mkF m 65 (own_A8 e0_ e1_ e2_ e3_ e4_ e5_ e6_ e7_) [(.int (110 : Int32)), (.int (10 : Int32)), (.ref b1), (.ref b1)]) _
  refine own_cst (r := 73) (i := 10) X16 hx hZ e16 V16 hl16 rfl ⟨by decide, by decide⟩ rfl N16 K16 G1 (hb hby d40_65) (fun T17 h17 L17 Ls17 X17 e17 hLs17 hl17 V17 N17 K17 => ?_)
  refine own_st (fun t_ k_ => XS.dup X17.here hx rfl (hb hby d40_66) rfl rfl (XS.bipush X17.here hx rfl (hb hby d40_67) (XS.bipush X17.here hx rfl (hb hby d40_69) k_))) ?_
  show own_Go p e below T17 (mkF m 71 (own_A8 e0_ e1_ e2_ e3_ e4_ e5_ e6_ e7_) [(.int (101 : Int32)), (.int (11 : Int32)), (.ref b1), (.ref b1)]) _
  refine own_cst (r := 72) (i := 11) X17 hx hZ e17 V17 hl17 rfl ⟨by decide, by decide⟩ rfl N17 K17 G1 (hb hby d40_71) (fun T18 h18 L18 Ls18 X18 e18 hLs18 hl18 V18 N18 K18 => ?_)
  refine own_st (fun t_ k_ => XS.dup X18.here hx rfl (hb hby d40_72) rfl rfl (XS.bipush X18.here hx rfl (hb hby d40_73) (XS.bipush X18.here hx rfl (hb hby d40_75) k_))) ?_
  show own_Go p e below T18 (mkF m 77 (own_A8 e0_ e1_ e2_ e3_ e4_ e5_ e6_ e7_) [(.int (119 : Int32)), (.int (12 : Int32)), (.ref b1), (.ref b1)]) _
  refine own_cst (r := 71) (i := 12) X18 hx hZ e18 V18 hl18 rfl ⟨by decide, by decide⟩ rfl N18 K18 G1 (hb hby d40_77) (fun T19 h19 L19 Ls19 X19 e19 hLs19 hl19 V19 N19 K19 => ?_)
  refine own_st (fun t_ k_ => XS.dup X19.here hx rfl (hb hby d40_78) rfl rfl (XS.bipush X19.here hx rfl (hb hby d40_79) (XS.bipush X19.here hx rfl (hb hby d40_81) k_))) ?_
  show own_Go p e below T19 (mkF m 83 (own_A8 e0_ e1_ e2_ e3_ e4_ e5_ e6_ e7_) [(.int (61 : Int32)), (.int (13 : Int32)), (.ref b1), (.ref b1)]) _
  refine own_cst (r := 70) (i := 13) X19 hx hZ e19 V19 hl19 rfl ⟨by decide, by decide⟩ rfl N19 K19 G1 (hb hby d40_83) (fun T20 h20 L20 Ls20 X20 e20 hLs20 hl20 V20 N20 K20 => ?_)
  refine own_st (fun t_ k_ => XS.dup X20.here hx rfl (hb hby d40_84) rfl rfl (XS.bipush X20.here hx rfl (hb hby d40_85) (XS.iloadN X20.here hx rfl (hb hby d40_87) rfl k_))) ?_
  have K21 : Keep h0 h20 [] := K12.trans K20 (allS (Or.inr B1) all0)
  have f22 := (Nat.le_trans f13 K20.1)
  obtain ⟨_, _, ⟨T23, L23, k23, n23⟩, -, X23, ⟨Lc23, hQ23, l23, y23, z23⟩, st23⟩ := Jvm.LawKit.callS X20 hx (y := own_y39) hown (mvT hZ (own_w hw 253 rfl)) (mvT hZ (own_w hw 254 rfl)) (mvT hZ (own_w hw 16 rfl)) (mvT hZ (own_w hw 255 rfl)) (by decide) (backOf (W := 3) (rmD l Z a0 hw [] e1_ n1_ h20 n0 f22 hd1_ h91_) hZ (own_w hw 255 rfl) (own_w hw 16 rfl) (by decide) (by decide)) (g := (mkF m 88 (own_A8 e0_ e1_ e2_ e3_ e4_ e5_ e6_ e7_) [(.int e1_), (.int (14 : Int32)), (.ref b1), (.ref b1)])) rfl (by rw [hml]; rfl) (argsL := [(.int e1_)]) (rest := [(.int (14 : Int32)), (.ref b1), (.ref b1)]) (lenOf pd__I_C rfl) rfl (by show 2 * 0 + _ ≤ _; exact Nat.le_of_eq rfl) (hb hby d40_88) (fun _ _ => ⟨rfl, e20, (by decide : 1 + 0 ≤ _), (by decide : 84 + 0 ≤ _)⟩)
  dsimp only [Pt.U, Pt.locs, Pt.cells, Pt.slots] at X23 l23 y23 z23 st23 hQ23
  try dsimp only [Nat.reduceAdd] at y23 z23
  rw [l23, y23, z23] at X23
  obtain ⟨rfl, Nq23, eH23⟩ := hQ23
  have N23 := Fr.app N20 Nq23
  refine own_st st23 ?_
  show own_Go p e below T23 (mkF m 91 (own_A8 e0_ e1_ e2_ e3_ e4_ e5_ e6_ e7_) [(.int (Int32.ofNat (48 + n1_))), (.int (14 : Int32)), (.ref b1), (.ref b1)]) _
  refine own_cst (r := 69) (i := 14) X23 hx hZ eH23 V20 hl20 rfl ⟨by decide, by decide⟩ (own_narC h91_) N23 (Keep.refl h20 [b1]) G1 (hb hby d40_91) (fun T24 h24 L24 Ls24 X24 e24 hLs24 hl24 V24 N24 K24 => ?_)
  refine own_st (fun t_ k_ => XS.dup X24.here hx rfl (hb hby d40_92) rfl rfl (XS.bipush X24.here hx rfl (hb hby d40_93) (XS.bipush X24.here hx rfl (hb hby d40_95) k_))) ?_
  show own_Go p e below T24 (mkF m 97 (own_A8 e0_ e1_ e2_ e3_ e4_ e5_ e6_ e7_) [(.int (32 : Int32)), (.int (15 : Int32)), (.ref b1), (.ref b1)]) _
  refine own_cst (r := 68) (i := 15) X24 hx hZ e24 V24 hl24 rfl ⟨by decide, by decide⟩ rfl N24 K24 G1 (hb hby d40_97) (fun T25 h25 L25 Ls25 X25 e25 hLs25 hl25 V25 N25 K25 => ?_)
  refine own_st (fun t_ k_ => XS.dup X25.here hx rfl (hb hby d40_98) rfl rfl (XS.bipush X25.here hx rfl (hb hby d40_99) (XS.bipush X25.here hx rfl (hb hby d40_101) k_))) ?_
  show own_Go p e below T25 (mkF m 103 (own_A8 e0_ e1_ e2_ e3_ e4_ e5_ e6_ e7_) [(.int (117 : Int32)), (.int (16 : Int32)), (.ref b1), (.ref b1)]) _
  refine own_cst (r := 67) (i := 16) X25 hx hZ e25 V25 hl25 rfl ⟨by decide, by decide⟩ rfl N25 K25 G1 (hb hby d40_103) (fun T26 h26 L26 Ls26 X26 e26 hLs26 hl26 V26 N26 K26 => ?_)
  refine own_st (fun t_ k_ => XS.dup X26.here hx rfl (hb hby d40_104) rfl rfl (XS.bipush X26.here hx rfl (hb hby d40_105) (XS.bipush X26.here hx rfl (hb hby d40_107) k_))) ?_
  show own_Go p e below T26 (mkF m 109 (own_A8 e0_ e1_ e2_ e3_ e4_ e5_ e6_ e7_) [(.int (112 : Int32)), (.int (17 : Int32)), (.ref b1), (.ref b1)]) _
  refine own_cst (r := 66) (i := 17) X26 hx hZ e26 V26 hl26 rfl ⟨by decide, by decide⟩ rfl N26 K26 G1 (hb hby d40_109) (fun T27 h27 L27 Ls27 X27 e27 hLs27 hl27 V27 N27 K27 => ?_)
  refine own_st (fun t_ k_ => XS.dup X27.here hx rfl (hb hby d40_110) rfl rfl (XS.bipush X27.here hx rfl (hb hby d40_111) (XS.bipush X27.here hx rfl (hb hby d40_113) k_))) ?_
  show own_Go p e below T27 (mkF m 115 (own_A8 e0_ e1_ e2_ e3_ e4_ e5_ e6_ e7_) [(.int (100 : Int32)), (.int (18 : Int32)), (.ref b1), (.ref b1)]) _
  refine own_cst (r := 65) (i := 18) X27 hx hZ e27 V27 hl27 rfl ⟨by decide, by decide⟩ rfl N27 K27 G1 (hb hby d40_115) (fun T28 h28 L28 Ls28 X28 e28 hLs28 hl28 V28 N28 K28 => ?_)
  refine own_st (fun t_ k_ => XS.dup X28.here hx rfl (hb hby d40_116) rfl rfl (XS.bipush X28.here hx rfl (hb hby d40_117) (XS.bipush X28.here hx rfl (hb hby d40_119) k_))) ?_
  show own_Go p e below T28 (mkF m 121 (own_A8 e0_ e1_ e2_ e3_ e4_ e5_ e6_ e7_) [(.int (97 : Int32)), (.int (19 : Int32)), (.ref b1), (.ref b1)]) _
  refine own_cst (r := 64) (i := 19) X28 hx hZ e28 V28 hl28 rfl ⟨by decide, by decide⟩ rfl N28 K28 G1 (hb hby d40_121) (fun T29 h29 L29 Ls29 X29 e29 hLs29 hl29 V29 N29 K29 => ?_)
  refine own_st (fun t_ k_ => XS.dup X29.here hx rfl (hb hby d40_122) rfl rfl (XS.bipush X29.here hx rfl (hb hby d40_123) (XS.bipush X29.here hx rfl (hb hby d40_125) k_))) ?_
  show own_Go p e below T29 (mkF m 127 (own_A8 e0_ e1_ e2_ e3_ e4_ e5_ e6_ e7_) [(.int (116 : Int32)), (.int (20 : Int32)), (.ref b1), (.ref b1)]) _
  refine own_cst (r := 63) (i := 20) X29 hx hZ e29 V29 hl29 rfl ⟨by decide, by decide⟩ rfl N29 K29 G1 (hb hby d40_127) (fun T30 h30 L30 Ls30 X30 e30 hLs30 hl30 V30 N30 K30 => ?_)
  refine own_st (fun t_ k_ => XS.dup X30.here hx rfl (hb hby d40_128) rfl rfl (XS.bipush X30.here hx rfl (hb hby d40_129) (XS.bipush X30.here hx rfl (hb hby d40_131) k_))) ?_
  show own_Go p e below T30 (mkF m 133 (own_A8 e0_ e1_ e2_ e3_ e4_ e5_ e6_ e7_) [(.int (101 : Int32)), (.int (21 : Int32)), (.ref b1), (.ref b1)]) _
  refine own_cst (r := 62) (i := 21) X30 hx hZ e30 V30 hl30 rfl ⟨by decide, by decide⟩ rfl N30 K30 G1 (hb hby d40_133) (fun T31 h31 L31 Ls31 X31 e31 hLs31 hl31 V31 N31 K31 => ?_)
  refine own_st (fun t_ k_ => XS.dup X31.here hx rfl (hb hby d40_134) rfl rfl (XS.bipush X31.here hx rfl (hb hby d40_135) (XS.bipush X31.here hx rfl (hb hby d40_137) k_))) ?_
  show own_Go p e below T31 (mkF m 139 (own_A8 e0_ e1_ e2_ e3_ e4_ e5_ e6_ e7_) [(.int (100 : Int32)), (.int (22 : Int32)), (.ref b1), (.ref b1)]) _
  refine own_cst (r := 61) (i := 22) X31 hx hZ e31 V31 hl31 rfl ⟨by decide, by decide⟩ rfl N31 K31 G1 (hb hby d40_139) (fun T32 h32 L32 Ls32 X32 e32 hLs32 hl32 V32 N32 K32 => ?_)
  refine own_st (fun t_ k_ => XS.dup X32.here hx rfl (hb hby d40_140) rfl rfl (XS.bipush X32.here hx rfl (hb hby d40_141) (XS.bipush X32.here hx rfl (hb hby d40_143) k_))) ?_
  show own_Go p e below T32 (mkF m 145 (own_A8 e0_ e1_ e2_ e3_ e4_ e5_ e6_ e7_) [(.int (61 : Int32)), (.int (23 : Int32)), (.ref b1), (.ref b1)]) _
  refine own_cst (r := 60) (i := 23) X32 hx hZ e32 V32 hl32 rfl ⟨by decide, by decide⟩ rfl N32 K32 G1 (hb hby d40_145) (fun T33 h33 L33 Ls33 X33 e33 hLs33 hl33 V33 N33 K33 => ?_)
  refine own_st (fun t_ k_ => XS.dup X33.here hx rfl (hb hby d40_146) rfl rfl (XS.bipush X33.here hx rfl (hb hby d40_147) (XS.iloadN X33.here hx rfl (hb hby d40_149) rfl k_))) ?_
  have K34 : Keep h0 h33 [] := K21.trans K33 (allS (Or.inr B1) all0)
  have f35 := (Nat.le_trans f22 K33.1)
  obtain ⟨_, _, ⟨T36, L36, k36, n36⟩, -, X36, ⟨Lc36, hQ36, l36, y36, z36⟩, st36⟩ := Jvm.LawKit.callS X33 hx (y := own_y39) hown (mvT hZ (own_w hw 253 rfl)) (mvT hZ (own_w hw 254 rfl)) (mvT hZ (own_w hw 16 rfl)) (mvT hZ (own_w hw 255 rfl)) (by decide) (backOf (W := 3) (rmD l Z a0 hw [] e2_ n2_ h33 n0 f35 hd2_ h92_) hZ (own_w hw 255 rfl) (own_w hw 16 rfl) (by decide) (by decide)) (g := (mkF m 150 (own_A8 e0_ e1_ e2_ e3_ e4_ e5_ e6_ e7_) [(.int e2_), (.int (24 : Int32)), (.ref b1), (.ref b1)])) rfl (by rw [hml]; rfl) (argsL := [(.int e2_)]) (rest := [(.int (24 : Int32)), (.ref b1), (.ref b1)]) (lenOf pd__I_C rfl) rfl (by show 2 * 0 + _ ≤ _; exact Nat.le_of_eq rfl) (hb hby d40_150) (fun _ _ => ⟨rfl, e33, (by decide : 1 + 0 ≤ _), (by decide : 84 + 0 ≤ _)⟩)
  dsimp only [Pt.U, Pt.locs, Pt.cells, Pt.slots] at X36 l36 y36 z36 st36 hQ36
  try dsimp only [Nat.reduceAdd] at y36 z36
  rw [l36, y36, z36] at X36
  obtain ⟨rfl, Nq36, eH36⟩ := hQ36
  have N36 := Fr.app N33 Nq36
  refine own_st st36 ?_
  show own_Go p e below T36 (mkF m 153 (own_A8 e0_ e1_ e2_ e3_ e4_ e5_ e6_ e7_) [(.int (Int32.ofNat (48 + n2_))), (.int (24 : Int32)), (.ref b1), (.ref b1)]) _
  refine own_cst (r := 59) (i := 24) X36 hx hZ eH36 V33 hl33 rfl ⟨by decide, by decide⟩ (own_narC h92_) N36 (Keep.refl h33 [b1]) G1 (hb hby d40_153) (fun T37 h37 L37 Ls37 X37 e37 hLs37 hl37 V37 N37 K37 => ?_)
  refine own_st (fun t_ k_ => XS.dup X37.here hx rfl (hb hby d40_154) rfl rfl (XS.bipush X37.here hx rfl (hb hby d40_155) (XS.bipush X37.here hx rfl (hb hby d40_157) k_))) ?_
  show own_Go p e below T37 (mkF m 159 (own_A8 e0_ e1_ e2_ e3_ e4_ e5_ e6_ e7_) [(.int (32 : Int32)), (.int (25 : Int32)), (.ref b1), (.ref b1)]) _
  refine own_cst (r := 58) (i := 25) X37 hx hZ e37 V37 hl37 rfl ⟨by decide, by decide⟩ rfl N37 K37 G1 (hb hby d40_159) (fun T38 h38 L38 Ls38 X38 e38 hLs38 hl38 V38 N38 K38 => ?_)
  refine own_st (fun t_ k_ => XS.dup X38.here hx rfl (hb hby d40_160) rfl rfl (XS.bipush X38.here hx rfl (hb hby d40_161) (XS.bipush X38.here hx rfl (hb hby d40_163) k_))) ?_
  show own_Go p e below T38 (mkF m 165 (own_A8 e0_ e1_ e2_ e3_ e4_ e5_ e6_ e7_) [(.int (117 : Int32)), (.int (26 : Int32)), (.ref b1), (.ref b1)]) _
  refine own_cst (r := 57) (i := 26) X38 hx hZ e38 V38 hl38 rfl ⟨by decide, by decide⟩ rfl N38 K38 G1 (hb hby d40_165) (fun T39 h39 L39 Ls39 X39 e39 hLs39 hl39 V39 N39 K39 => ?_)
  refine own_st (fun t_ k_ => XS.dup X39.here hx rfl (hb hby d40_166) rfl rfl (XS.bipush X39.here hx rfl (hb hby d40_167) (XS.bipush X39.here hx rfl (hb hby d40_169) k_))) ?_
  show own_Go p e below T39 (mkF m 171 (own_A8 e0_ e1_ e2_ e3_ e4_ e5_ e6_ e7_) [(.int (110 : Int32)), (.int (27 : Int32)), (.ref b1), (.ref b1)]) _
  refine own_cst (r := 56) (i := 27) X39 hx hZ e39 V39 hl39 rfl ⟨by decide, by decide⟩ rfl N39 K39 G1 (hb hby d40_171) (fun T40 h40 L40 Ls40 X40 e40 hLs40 hl40 V40 N40 K40 => ?_)
  refine own_st (fun t_ k_ => XS.dup X40.here hx rfl (hb hby d40_172) rfl rfl (XS.bipush X40.here hx rfl (hb hby d40_173) (XS.bipush X40.here hx rfl (hb hby d40_175) k_))) ?_
  show own_Go p e below T40 (mkF m 177 (own_A8 e0_ e1_ e2_ e3_ e4_ e5_ e6_ e7_) [(.int (99 : Int32)), (.int (28 : Int32)), (.ref b1), (.ref b1)]) _
  refine own_cst (r := 55) (i := 28) X40 hx hZ e40 V40 hl40 rfl ⟨by decide, by decide⟩ rfl N40 K40 G1 (hb hby d40_177) (fun T41 h41 L41 Ls41 X41 e41 hLs41 hl41 V41 N41 K41 => ?_)
  refine own_st (fun t_ k_ => XS.dup X41.here hx rfl (hb hby d40_178) rfl rfl (XS.bipush X41.here hx rfl (hb hby d40_179) (XS.bipush X41.here hx rfl (hb hby d40_181) k_))) ?_
  show own_Go p e below T41 (mkF m 183 (own_A8 e0_ e1_ e2_ e3_ e4_ e5_ e6_ e7_) [(.int (104 : Int32)), (.int (29 : Int32)), (.ref b1), (.ref b1)]) _
  refine own_cst (r := 54) (i := 29) X41 hx hZ e41 V41 hl41 rfl ⟨by decide, by decide⟩ rfl N41 K41 G1 (hb hby d40_183) (fun T42 h42 L42 Ls42 X42 e42 hLs42 hl42 V42 N42 K42 => ?_)
  refine own_st (fun t_ k_ => XS.dup X42.here hx rfl (hb hby d40_184) rfl rfl (XS.bipush X42.here hx rfl (hb hby d40_185) (XS.bipush X42.here hx rfl (hb hby d40_187) k_))) ?_
  show own_Go p e below T42 (mkF m 189 (own_A8 e0_ e1_ e2_ e3_ e4_ e5_ e6_ e7_) [(.int (97 : Int32)), (.int (30 : Int32)), (.ref b1), (.ref b1)]) _
  refine own_cst (r := 53) (i := 30) X42 hx hZ e42 V42 hl42 rfl ⟨by decide, by decide⟩ rfl N42 K42 G1 (hb hby d40_189) (fun T43 h43 L43 Ls43 X43 e43 hLs43 hl43 V43 N43 K43 => ?_)
  refine own_st (fun t_ k_ => XS.dup X43.here hx rfl (hb hby d40_190) rfl rfl (XS.bipush X43.here hx rfl (hb hby d40_191) (XS.bipush X43.here hx rfl (hb hby d40_193) k_))) ?_
  show own_Go p e below T43 (mkF m 195 (own_A8 e0_ e1_ e2_ e3_ e4_ e5_ e6_ e7_) [(.int (110 : Int32)), (.int (31 : Int32)), (.ref b1), (.ref b1)]) _
  refine own_cst (r := 52) (i := 31) X43 hx hZ e43 V43 hl43 rfl ⟨by decide, by decide⟩ rfl N43 K43 G1 (hb hby d40_195) (fun T44 h44 L44 Ls44 X44 e44 hLs44 hl44 V44 N44 K44 => ?_)
  refine own_st (fun t_ k_ => XS.dup X44.here hx rfl (hb hby d40_196) rfl rfl (XS.bipush X44.here hx rfl (hb hby d40_197) (XS.bipush X44.here hx rfl (hb hby d40_199) k_))) ?_
  show own_Go p e below T44 (mkF m 201 (own_A8 e0_ e1_ e2_ e3_ e4_ e5_ e6_ e7_) [(.int (103 : Int32)), (.int (32 : Int32)), (.ref b1), (.ref b1)]) _
  refine own_cst (r := 51) (i := 32) X44 hx hZ e44 V44 hl44 rfl ⟨by decide, by decide⟩ rfl N44 K44 G1 (hb hby d40_201) (fun T45 h45 L45 Ls45 X45 e45 hLs45 hl45 V45 N45 K45 => ?_)
  refine own_st (fun t_ k_ => XS.dup X45.here hx rfl (hb hby d40_202) rfl rfl (XS.bipush X45.here hx rfl (hb hby d40_203) (XS.bipush X45.here hx rfl (hb hby d40_205) k_))) ?_
  show own_Go p e below T45 (mkF m 207 (own_A8 e0_ e1_ e2_ e3_ e4_ e5_ e6_ e7_) [(.int (101 : Int32)), (.int (33 : Int32)), (.ref b1), (.ref b1)]) _
  refine own_cst (r := 50) (i := 33) X45 hx hZ e45 V45 hl45 rfl ⟨by decide, by decide⟩ rfl N45 K45 G1 (hb hby d40_207) (fun T46 h46 L46 Ls46 X46 e46 hLs46 hl46 V46 N46 K46 => ?_)
  refine own_st (fun t_ k_ => XS.dup X46.here hx rfl (hb hby d40_208) rfl rfl (XS.bipush X46.here hx rfl (hb hby d40_209) (XS.bipush X46.here hx rfl (hb hby d40_211) k_))) ?_
  show own_Go p e below T46 (mkF m 213 (own_A8 e0_ e1_ e2_ e3_ e4_ e5_ e6_ e7_) [(.int (100 : Int32)), (.int (34 : Int32)), (.ref b1), (.ref b1)]) _
  refine own_cst (r := 49) (i := 34) X46 hx hZ e46 V46 hl46 rfl ⟨by decide, by decide⟩ rfl N46 K46 G1 (hb hby d40_213) (fun T47 h47 L47 Ls47 X47 e47 hLs47 hl47 V47 N47 K47 => ?_)
  refine own_st (fun t_ k_ => XS.dup X47.here hx rfl (hb hby d40_214) rfl rfl (XS.bipush X47.here hx rfl (hb hby d40_215) (XS.bipush X47.here hx rfl (hb hby d40_217) k_))) ?_
  show own_Go p e below T47 (mkF m 219 (own_A8 e0_ e1_ e2_ e3_ e4_ e5_ e6_ e7_) [(.int (61 : Int32)), (.int (35 : Int32)), (.ref b1), (.ref b1)]) _
  refine own_cst (r := 48) (i := 35) X47 hx hZ e47 V47 hl47 rfl ⟨by decide, by decide⟩ rfl N47 K47 G1 (hb hby d40_219) (fun T48 h48 L48 Ls48 X48 e48 hLs48 hl48 V48 N48 K48 => ?_)
  refine own_st (fun t_ k_ => XS.dup X48.here hx rfl (hb hby d40_220) rfl rfl (XS.bipush X48.here hx rfl (hb hby d40_221) (XS.iloadN X48.here hx rfl (hb hby d40_223) rfl k_))) ?_
  have K49 : Keep h0 h48 [] := K34.trans K48 (allS (Or.inr B1) all0)
  have f50 := (Nat.le_trans f35 K48.1)
  obtain ⟨_, _, ⟨T51, L51, k51, n51⟩, -, X51, ⟨Lc51, hQ51, l51, y51, z51⟩, st51⟩ := Jvm.LawKit.callS X48 hx (y := own_y39) hown (mvT hZ (own_w hw 253 rfl)) (mvT hZ (own_w hw 254 rfl)) (mvT hZ (own_w hw 16 rfl)) (mvT hZ (own_w hw 255 rfl)) (by decide) (backOf (W := 3) (rmD l Z a0 hw [] e3_ n3_ h48 n0 f50 hd3_ h93_) hZ (own_w hw 255 rfl) (own_w hw 16 rfl) (by decide) (by decide)) (g := (mkF m 224 (own_A8 e0_ e1_ e2_ e3_ e4_ e5_ e6_ e7_) [(.int e3_), (.int (36 : Int32)), (.ref b1), (.ref b1)])) rfl (by rw [hml]; rfl) (argsL := [(.int e3_)]) (rest := [(.int (36 : Int32)), (.ref b1), (.ref b1)]) (lenOf pd__I_C rfl) rfl (by show 2 * 0 + _ ≤ _; exact Nat.le_of_eq rfl) (hb hby d40_224) (fun _ _ => ⟨rfl, e48, (by decide : 1 + 0 ≤ _), (by decide : 84 + 0 ≤ _)⟩)
  dsimp only [Pt.U, Pt.locs, Pt.cells, Pt.slots] at X51 l51 y51 z51 st51 hQ51
  try dsimp only [Nat.reduceAdd] at y51 z51
  rw [l51, y51, z51] at X51
  obtain ⟨rfl, Nq51, eH51⟩ := hQ51
  have N51 := Fr.app N48 Nq51
  refine own_st st51 ?_
  show own_Go p e below T51 (mkF m 227 (own_A8 e0_ e1_ e2_ e3_ e4_ e5_ e6_ e7_) [(.int (Int32.ofNat (48 + n3_))), (.int (36 : Int32)), (.ref b1), (.ref b1)]) _
  refine own_cst (r := 47) (i := 36) X51 hx hZ eH51 V48 hl48 rfl ⟨by decide, by decide⟩ (own_narC h93_) N51 (Keep.refl h48 [b1]) G1 (hb hby d40_227) (fun T52 h52 L52 Ls52 X52 e52 hLs52 hl52 V52 N52 K52 => ?_)
  refine own_st (fun t_ k_ => XS.dup X52.here hx rfl (hb hby d40_228) rfl rfl (XS.bipush X52.here hx rfl (hb hby d40_229) (XS.bipush X52.here hx rfl (hb hby d40_231) k_))) ?_
  show own_Go p e below T52 (mkF m 233 (own_A8 e0_ e1_ e2_ e3_ e4_ e5_ e6_ e7_) [(.int (32 : Int32)), (.int (37 : Int32)), (.ref b1), (.ref b1)]) _
  refine own_cst (r := 46) (i := 37) X52 hx hZ e52 V52 hl52 rfl ⟨by decide, by decide⟩ rfl N52 K52 G1 (hb hby d40_233) (fun T53 h53 L53 Ls53 X53 e53 hLs53 hl53 V53 N53 K53 => ?_)
  refine own_st (fun t_ k_ => XS.dup X53.here hx rfl (hb hby d40_234) rfl rfl (XS.bipush X53.here hx rfl (hb hby d40_235) (XS.bipush X53.here hx rfl (hb hby d40_237) k_))) ?_
  show own_Go p e below T53 (mkF m 239 (own_A8 e0_ e1_ e2_ e3_ e4_ e5_ e6_ e7_) [(.int (114 : Int32)), (.int (38 : Int32)), (.ref b1), (.ref b1)]) _
  refine own_cst (r := 45) (i := 38) X53 hx hZ e53 V53 hl53 rfl ⟨by decide, by decide⟩ rfl N53 K53 G1 (hb hby d40_239) (fun T54 h54 L54 Ls54 X54 e54 hLs54 hl54 V54 N54 K54 => ?_)
  refine own_st (fun t_ k_ => XS.dup X54.here hx rfl (hb hby d40_240) rfl rfl (XS.bipush X54.here hx rfl (hb hby d40_241) (XS.bipush X54.here hx rfl (hb hby d40_243) k_))) ?_
  show own_Go p e below T54 (mkF m 245 (own_A8 e0_ e1_ e2_ e3_ e4_ e5_ e6_ e7_) [(.int (101 : Int32)), (.int (39 : Int32)), (.ref b1), (.ref b1)]) _
  refine own_cst (r := 44) (i := 39) X54 hx hZ e54 V54 hl54 rfl ⟨by decide, by decide⟩ rfl N54 K54 G1 (hb hby d40_245) (fun T55 h55 L55 Ls55 X55 e55 hLs55 hl55 V55 N55 K55 => ?_)
  refine own_st (fun t_ k_ => XS.dup X55.here hx rfl (hb hby d40_246) rfl rfl (XS.bipush X55.here hx rfl (hb hby d40_247) (XS.bipush X55.here hx rfl (hb hby d40_249) k_))) ?_
  show own_Go p e below T55 (mkF m 251 (own_A8 e0_ e1_ e2_ e3_ e4_ e5_ e6_ e7_) [(.int (106 : Int32)), (.int (40 : Int32)), (.ref b1), (.ref b1)]) _
  refine own_cst (r := 43) (i := 40) X55 hx hZ e55 V55 hl55 rfl ⟨by decide, by decide⟩ rfl N55 K55 G1 (hb hby d40_251) (fun T56 h56 L56 Ls56 X56 e56 hLs56 hl56 V56 N56 K56 => ?_)
  refine own_st (fun t_ k_ => XS.dup X56.here hx rfl (hb hby d40_252) rfl rfl (XS.bipush X56.here hx rfl (hb hby d40_253) (XS.bipush X56.here hx rfl (hb hby d40_255) k_))) ?_
  show own_Go p e below T56 (mkF m 257 (own_A8 e0_ e1_ e2_ e3_ e4_ e5_ e6_ e7_) [(.int (101 : Int32)), (.int (41 : Int32)), (.ref b1), (.ref b1)]) _
  refine own_cst (r := 42) (i := 41) X56 hx hZ e56 V56 hl56 rfl ⟨by decide, by decide⟩ rfl N56 K56 G1 (hb hby d40_257) (fun T57 h57 L57 Ls57 X57 e57 hLs57 hl57 V57 N57 K57 => ?_)
  refine own_st (fun t_ k_ => XS.dup X57.here hx rfl (hb hby d40_258) rfl rfl (XS.bipush X57.here hx rfl (hb hby d40_259) (XS.bipush X57.here hx rfl (hb hby d40_261) k_))) ?_
  show own_Go p e below T57 (mkF m 263 (own_A8 e0_ e1_ e2_ e3_ e4_ e5_ e6_ e7_) [(.int (99 : Int32)), (.int (42 : Int32)), (.ref b1), (.ref b1)]) _
  refine own_cst (r := 41) (i := 42) X57 hx hZ e57 V57 hl57 rfl ⟨by decide, by decide⟩ rfl N57 K57 G1 (hb hby d40_263) (fun T58 h58 L58 Ls58 X58 e58 hLs58 hl58 V58 N58 K58 => ?_)
  refine own_st (fun t_ k_ => XS.dup X58.here hx rfl (hb hby d40_264) rfl rfl (XS.bipush X58.here hx rfl (hb hby d40_265) (XS.bipush X58.here hx rfl (hb hby d40_267) k_))) ?_
  show own_Go p e below T58 (mkF m 269 (own_A8 e0_ e1_ e2_ e3_ e4_ e5_ e6_ e7_) [(.int (116 : Int32)), (.int (43 : Int32)), (.ref b1), (.ref b1)]) _
  refine own_cst (r := 40) (i := 43) X58 hx hZ e58 V58 hl58 rfl ⟨by decide, by decide⟩ rfl N58 K58 G1 (hb hby d40_269) (fun T59 h59 L59 Ls59 X59 e59 hLs59 hl59 V59 N59 K59 => ?_)
  refine own_st (fun t_ k_ => XS.dup X59.here hx rfl (hb hby d40_270) rfl rfl (XS.bipush X59.here hx rfl (hb hby d40_271) (XS.bipush X59.here hx rfl (hb hby d40_273) k_))) ?_
  show own_Go p e below T59 (mkF m 275 (own_A8 e0_ e1_ e2_ e3_ e4_ e5_ e6_ e7_) [(.int (101 : Int32)), (.int (44 : Int32)), (.ref b1), (.ref b1)]) _
  refine own_cst (r := 39) (i := 44) X59 hx hZ e59 V59 hl59 rfl ⟨by decide, by decide⟩ rfl N59 K59 G1 (hb hby d40_275) (fun T60 h60 L60 Ls60 X60 e60 hLs60 hl60 V60 N60 K60 => ?_)
  refine own_st (fun t_ k_ => XS.dup X60.here hx rfl (hb hby d40_276) rfl rfl (XS.bipush X60.here hx rfl (hb hby d40_277) (XS.bipush X60.here hx rfl (hb hby d40_279) k_))) ?_
  show own_Go p e below T60 (mkF m 281 (own_A8 e0_ e1_ e2_ e3_ e4_ e5_ e6_ e7_) [(.int (100 : Int32)), (.int (45 : Int32)), (.ref b1), (.ref b1)]) _
  refine own_cst (r := 38) (i := 45) X60 hx hZ e60 V60 hl60 rfl ⟨by decide, by decide⟩ rfl N60 K60 G1 (hb hby d40_281) (fun T61 h61 L61 Ls61 X61 e61 hLs61 hl61 V61 N61 K61 => ?_)
  refine own_st (fun t_ k_ => XS.dup X61.here hx rfl (hb hby d40_282) rfl rfl (XS.bipush X61.here hx rfl (hb hby d40_283) (XS.bipush X61.here hx rfl (hb hby d40_285) k_))) ?_
  show own_Go p e below T61 (mkF m 287 (own_A8 e0_ e1_ e2_ e3_ e4_ e5_ e6_ e7_) [(.int (61 : Int32)), (.int (46 : Int32)), (.ref b1), (.ref b1)]) _
  refine own_cst (r := 37) (i := 46) X61 hx hZ e61 V61 hl61 rfl ⟨by decide, by decide⟩ rfl N61 K61 G1 (hb hby d40_287) (fun T62 h62 L62 Ls62 X62 e62 hLs62 hl62 V62 N62 K62 => ?_)
  refine own_st (fun t_ k_ => XS.dup X62.here hx rfl (hb hby d40_288) rfl rfl (XS.bipush X62.here hx rfl (hb hby d40_289) (XS.iload X62.here hx rfl (hb hby d40_291) rfl k_))) ?_
  have K63 : Keep h0 h62 [] := K49.trans K62 (allS (Or.inr B1) all0)
  have f64 := (Nat.le_trans f50 K62.1)
  obtain ⟨_, _, ⟨T65, L65, k65, n65⟩, -, X65, ⟨Lc65, hQ65, l65, y65, z65⟩, st65⟩ := Jvm.LawKit.callS X62 hx (y := own_y39) hown (mvT hZ (own_w hw 253 rfl)) (mvT hZ (own_w hw 254 rfl)) (mvT hZ (own_w hw 16 rfl)) (mvT hZ (own_w hw 255 rfl)) (by decide) (backOf (W := 3) (rmD l Z a0 hw [] e4_ n4_ h62 n0 f64 hd4_ h94_) hZ (own_w hw 255 rfl) (own_w hw 16 rfl) (by decide) (by decide)) (g := (mkF m 293 (own_A8 e0_ e1_ e2_ e3_ e4_ e5_ e6_ e7_) [(.int e4_), (.int (47 : Int32)), (.ref b1), (.ref b1)])) rfl (by rw [hml]; rfl) (argsL := [(.int e4_)]) (rest := [(.int (47 : Int32)), (.ref b1), (.ref b1)]) (lenOf pd__I_C rfl) rfl (by show 2 * 0 + _ ≤ _; exact Nat.le_of_eq rfl) (hb hby d40_293) (fun _ _ => ⟨rfl, e62, (by decide : 1 + 0 ≤ _), (by decide : 84 + 0 ≤ _)⟩)
  dsimp only [Pt.U, Pt.locs, Pt.cells, Pt.slots] at X65 l65 y65 z65 st65 hQ65
  try dsimp only [Nat.reduceAdd] at y65 z65
  rw [l65, y65, z65] at X65
  obtain ⟨rfl, Nq65, eH65⟩ := hQ65
  have N65 := Fr.app N62 Nq65
  refine own_st st65 ?_
  show own_Go p e below T65 (mkF m 296 (own_A8 e0_ e1_ e2_ e3_ e4_ e5_ e6_ e7_) [(.int (Int32.ofNat (48 + n4_))), (.int (47 : Int32)), (.ref b1), (.ref b1)]) _
  refine own_cst (r := 36) (i := 47) X65 hx hZ eH65 V62 hl62 rfl ⟨by decide, by decide⟩ (own_narC h94_) N65 (Keep.refl h62 [b1]) G1 (hb hby d40_296) (fun T66 h66 L66 Ls66 X66 e66 hLs66 hl66 V66 N66 K66 => ?_)
  refine own_st (fun t_ k_ => XS.dup X66.here hx rfl (hb hby d40_297) rfl rfl (XS.bipush X66.here hx rfl (hb hby d40_298) (XS.bipush X66.here hx rfl (hb hby d40_300) k_))) ?_
  show own_Go p e below T66 (mkF m 302 (own_A8 e0_ e1_ e2_ e3_ e4_ e5_ e6_ e7_) [(.int (32 : Int32)), (.int (48 : Int32)), (.ref b1), (.ref b1)]) _
  refine own_cst (r := 35) (i := 48) X66 hx hZ e66 V66 hl66 rfl ⟨by decide, by decide⟩ rfl N66 K66 G1 (hb hby d40_302) (fun T67 h67 L67 Ls67 X67 e67 hLs67 hl67 V67 N67 K67 => ?_)
  refine own_st (fun t_ k_ => XS.dup X67.here hx rfl (hb hby d40_303) rfl rfl (XS.bipush X67.here hx rfl (hb hby d40_304) (XS.bipush X67.here hx rfl (hb hby d40_306) k_))) ?_
  show own_Go p e below T67 (mkF m 308 (own_A8 e0_ e1_ e2_ e3_ e4_ e5_ e6_ e7_) [(.int (108 : Int32)), (.int (49 : Int32)), (.ref b1), (.ref b1)]) _
  refine own_cst (r := 34) (i := 49) X67 hx hZ e67 V67 hl67 rfl ⟨by decide, by decide⟩ rfl N67 K67 G1 (hb hby d40_308) (fun T68 h68 L68 Ls68 X68 e68 hLs68 hl68 V68 N68 K68 => ?_)
  refine own_st (fun t_ k_ => XS.dup X68.here hx rfl (hb hby d40_309) rfl rfl (XS.bipush X68.here hx rfl (hb hby d40_310) (XS.bipush X68.here hx rfl (hb hby d40_312) k_))) ?_
  show own_Go p e below T68 (mkF m 314 (own_A8 e0_ e1_ e2_ e3_ e4_ e5_ e6_ e7_) [(.int (105 : Int32)), (.int (50 : Int32)), (.ref b1), (.ref b1)]) _
  refine own_cst (r := 33) (i := 50) X68 hx hZ e68 V68 hl68 rfl ⟨by decide, by decide⟩ rfl N68 K68 G1 (hb hby d40_314) (fun T69 h69 L69 Ls69 X69 e69 hLs69 hl69 V69 N69 K69 => ?_)
  refine own_st (fun t_ k_ => XS.dup X69.here hx rfl (hb hby d40_315) rfl rfl (XS.bipush X69.here hx rfl (hb hby d40_316) (XS.bipush X69.here hx rfl (hb hby d40_318) k_))) ?_
  show own_Go p e below T69 (mkF m 320 (own_A8 e0_ e1_ e2_ e3_ e4_ e5_ e6_ e7_) [(.int (110 : Int32)), (.int (51 : Int32)), (.ref b1), (.ref b1)]) _
  refine own_cst (r := 32) (i := 51) X69 hx hZ e69 V69 hl69 rfl ⟨by decide, by decide⟩ rfl N69 K69 G1 (hb hby d40_320) (fun T70 h70 L70 Ls70 X70 e70 hLs70 hl70 V70 N70 K70 => ?_)
  refine own_st (fun t_ k_ => XS.dup X70.here hx rfl (hb hby d40_321) rfl rfl (XS.bipush X70.here hx rfl (hb hby d40_322) (XS.bipush X70.here hx rfl (hb hby d40_324) k_))) ?_
  show own_Go p e below T70 (mkF m 326 (own_A8 e0_ e1_ e2_ e3_ e4_ e5_ e6_ e7_) [(.int (107 : Int32)), (.int (52 : Int32)), (.ref b1), (.ref b1)]) _
  refine own_cst (r := 31) (i := 52) X70 hx hZ e70 V70 hl70 rfl ⟨by decide, by decide⟩ rfl N70 K70 G1 (hb hby d40_326) (fun T71 h71 L71 Ls71 X71 e71 hLs71 hl71 V71 N71 K71 => ?_)
  refine own_st (fun t_ k_ => XS.dup X71.here hx rfl (hb hby d40_327) rfl rfl (XS.bipush X71.here hx rfl (hb hby d40_328) (XS.bipush X71.here hx rfl (hb hby d40_330) k_))) ?_
  show own_Go p e below T71 (mkF m 332 (own_A8 e0_ e1_ e2_ e3_ e4_ e5_ e6_ e7_) [(.int (101 : Int32)), (.int (53 : Int32)), (.ref b1), (.ref b1)]) _
  refine own_cst (r := 30) (i := 53) X71 hx hZ e71 V71 hl71 rfl ⟨by decide, by decide⟩ rfl N71 K71 G1 (hb hby d40_332) (fun T72 h72 L72 Ls72 X72 e72 hLs72 hl72 V72 N72 K72 => ?_)
  refine own_st (fun t_ k_ => XS.dup X72.here hx rfl (hb hby d40_333) rfl rfl (XS.bipush X72.here hx rfl (hb hby d40_334) (XS.bipush X72.here hx rfl (hb hby d40_336) k_))) ?_
  show own_Go p e below T72 (mkF m 338 (own_A8 e0_ e1_ e2_ e3_ e4_ e5_ e6_ e7_) [(.int (100 : Int32)), (.int (54 : Int32)), (.ref b1), (.ref b1)]) _
  refine own_cst (r := 29) (i := 54) X72 hx hZ e72 V72 hl72 rfl ⟨by decide, by decide⟩ rfl N72 K72 G1 (hb hby d40_338) (fun T73 h73 L73 Ls73 X73 e73 hLs73 hl73 V73 N73 K73 => ?_)
  refine own_st (fun t_ k_ => XS.dup X73.here hx rfl (hb hby d40_339) rfl rfl (XS.bipush X73.here hx rfl (hb hby d40_340) (XS.bipush X73.here hx rfl (hb hby d40_342) k_))) ?_
  show own_Go p e below T73 (mkF m 344 (own_A8 e0_ e1_ e2_ e3_ e4_ e5_ e6_ e7_) [(.int (61 : Int32)), (.int (55 : Int32)), (.ref b1), (.ref b1)]) _
  refine own_cst (r := 28) (i := 55) X73 hx hZ e73 V73 hl73 rfl ⟨by decide, by decide⟩ rfl N73 K73 G1 (hb hby d40_344) (fun T74 h74 L74 Ls74 X74 e74 hLs74 hl74 V74 N74 K74 => ?_)
  refine own_st (fun t_ k_ => XS.dup X74.here hx rfl (hb hby d40_345) rfl rfl (XS.bipush X74.here hx rfl (hb hby d40_346) (XS.iload X74.here hx rfl (hb hby d40_348) rfl k_))) ?_
  have K75 : Keep h0 h74 [] := K63.trans K74 (allS (Or.inr B1) all0)
  have f76 := (Nat.le_trans f64 K74.1)
  obtain ⟨_, _, ⟨T77, L77, k77, n77⟩, -, X77, ⟨Lc77, hQ77, l77, y77, z77⟩, st77⟩ := Jvm.LawKit.callS X74 hx (y := own_y39) hown (mvT hZ (own_w hw 253 rfl)) (mvT hZ (own_w hw 254 rfl)) (mvT hZ (own_w hw 16 rfl)) (mvT hZ (own_w hw 255 rfl)) (by decide) (backOf (W := 3) (rmD l Z a0 hw [] e5_ n5_ h74 n0 f76 hd5_ h95_) hZ (own_w hw 255 rfl) (own_w hw 16 rfl) (by decide) (by decide)) (g := (mkF m 350 (own_A8 e0_ e1_ e2_ e3_ e4_ e5_ e6_ e7_) [(.int e5_), (.int (56 : Int32)), (.ref b1), (.ref b1)])) rfl (by rw [hml]; rfl) (argsL := [(.int e5_)]) (rest := [(.int (56 : Int32)), (.ref b1), (.ref b1)]) (lenOf pd__I_C rfl) rfl (by show 2 * 0 + _ ≤ _; exact Nat.le_of_eq rfl) (hb hby d40_350) (fun _ _ => ⟨rfl, e74, (by decide : 1 + 0 ≤ _), (by decide : 84 + 0 ≤ _)⟩)
  dsimp only [Pt.U, Pt.locs, Pt.cells, Pt.slots] at X77 l77 y77 z77 st77 hQ77
  try dsimp only [Nat.reduceAdd] at y77 z77
  rw [l77, y77, z77] at X77
  obtain ⟨rfl, Nq77, eH77⟩ := hQ77
  have N77 := Fr.app N74 Nq77
  refine own_st st77 ?_
  show own_Go p e below T77 (mkF m 353 (own_A8 e0_ e1_ e2_ e3_ e4_ e5_ e6_ e7_) [(.int (Int32.ofNat (48 + n5_))), (.int (56 : Int32)), (.ref b1), (.ref b1)]) _
  refine own_cst (r := 27) (i := 56) X77 hx hZ eH77 V74 hl74 rfl ⟨by decide, by decide⟩ (own_narC h95_) N77 (Keep.refl h74 [b1]) G1 (hb hby d40_353) (fun T78 h78 L78 Ls78 X78 e78 hLs78 hl78 V78 N78 K78 => ?_)
  refine own_st (fun t_ k_ => XS.dup X78.here hx rfl (hb hby d40_354) rfl rfl (XS.bipush X78.here hx rfl (hb hby d40_355) (XS.bipush X78.here hx rfl (hb hby d40_357) k_))) ?_
  show own_Go p e below T78 (mkF m 359 (own_A8 e0_ e1_ e2_ e3_ e4_ e5_ e6_ e7_) [(.int (32 : Int32)), (.int (57 : Int32)), (.ref b1), (.ref b1)]) _
  refine own_cst (r := 26) (i := 57) X78 hx hZ e78 V78 hl78 rfl ⟨by decide, by decide⟩ rfl N78 K78 G1 (hb hby d40_359) (fun T79 h79 L79 Ls79 X79 e79 hLs79 hl79 V79 N79 K79 => ?_)
  refine own_st (fun t_ k_ => XS.dup X79.here hx rfl (hb hby d40_360) rfl rfl (XS.bipush X79.here hx rfl (hb hby d40_361) (XS.bipush X79.here hx rfl (hb hby d40_363) k_))) ?_
  show own_Go p e below T79 (mkF m 365 (own_A8 e0_ e1_ e2_ e3_ e4_ e5_ e6_ e7_) [(.int (110 : Int32)), (.int (58 : Int32)), (.ref b1), (.ref b1)]) _
  refine own_cst (r := 25) (i := 58) X79 hx hZ e79 V79 hl79 rfl ⟨by decide, by decide⟩ rfl N79 K79 G1 (hb hby d40_365) (fun T80 h80 L80 Ls80 X80 e80 hLs80 hl80 V80 N80 K80 => ?_)
  refine own_st (fun t_ k_ => XS.dup X80.here hx rfl (hb hby d40_366) rfl rfl (XS.bipush X80.here hx rfl (hb hby d40_367) (XS.bipush X80.here hx rfl (hb hby d40_369) k_))) ?_
  show own_Go p e below T80 (mkF m 371 (own_A8 e0_ e1_ e2_ e3_ e4_ e5_ e6_ e7_) [(.int (101 : Int32)), (.int (59 : Int32)), (.ref b1), (.ref b1)]) _
  refine own_cst (r := 24) (i := 59) X80 hx hZ e80 V80 hl80 rfl ⟨by decide, by decide⟩ rfl N80 K80 G1 (hb hby d40_371) (fun T81 h81 L81 Ls81 X81 e81 hLs81 hl81 V81 N81 K81 => ?_)
  refine own_st (fun t_ k_ => XS.dup X81.here hx rfl (hb hby d40_372) rfl rfl (XS.bipush X81.here hx rfl (hb hby d40_373) (XS.bipush X81.here hx rfl (hb hby d40_375) k_))) ?_
  show own_Go p e below T81 (mkF m 377 (own_A8 e0_ e1_ e2_ e3_ e4_ e5_ e6_ e7_) [(.int (119 : Int32)), (.int (60 : Int32)), (.ref b1), (.ref b1)]) _
  refine own_cst (r := 23) (i := 60) X81 hx hZ e81 V81 hl81 rfl ⟨by decide, by decide⟩ rfl N81 K81 G1 (hb hby d40_377) (fun T82 h82 L82 Ls82 X82 e82 hLs82 hl82 V82 N82 K82 => ?_)
  refine own_st (fun t_ k_ => XS.dup X82.here hx rfl (hb hby d40_378) rfl rfl (XS.bipush X82.here hx rfl (hb hby d40_379) (XS.bipush X82.here hx rfl (hb hby d40_381) k_))) ?_
  show own_Go p e below T82 (mkF m 383 (own_A8 e0_ e1_ e2_ e3_ e4_ e5_ e6_ e7_) [(.int (95 : Int32)), (.int (61 : Int32)), (.ref b1), (.ref b1)]) _
  refine own_cst (r := 22) (i := 61) X82 hx hZ e82 V82 hl82 rfl ⟨by decide, by decide⟩ rfl N82 K82 G1 (hb hby d40_383) (fun T83 h83 L83 Ls83 X83 e83 hLs83 hl83 V83 N83 K83 => ?_)
  refine own_st (fun t_ k_ => XS.dup X83.here hx rfl (hb hby d40_384) rfl rfl (XS.bipush X83.here hx rfl (hb hby d40_385) (XS.bipush X83.here hx rfl (hb hby d40_387) k_))) ?_
  show own_Go p e below T83 (mkF m 389 (own_A8 e0_ e1_ e2_ e3_ e4_ e5_ e6_ e7_) [(.int (109 : Int32)), (.int (62 : Int32)), (.ref b1), (.ref b1)]) _
  refine own_cst (r := 21) (i := 62) X83 hx hZ e83 V83 hl83 rfl ⟨by decide, by decide⟩ rfl N83 K83 G1 (hb hby d40_389) (fun T84 h84 L84 Ls84 X84 e84 hLs84 hl84 V84 N84 K84 => ?_)
  refine own_st (fun t_ k_ => XS.dup X84.here hx rfl (hb hby d40_390) rfl rfl (XS.bipush X84.here hx rfl (hb hby d40_391) (XS.bipush X84.here hx rfl (hb hby d40_393) k_))) ?_
  show own_Go p e below T84 (mkF m 395 (own_A8 e0_ e1_ e2_ e3_ e4_ e5_ e6_ e7_) [(.int (97 : Int32)), (.int (63 : Int32)), (.ref b1), (.ref b1)]) _
  refine own_cst (r := 20) (i := 63) X84 hx hZ e84 V84 hl84 rfl ⟨by decide, by decide⟩ rfl N84 K84 G1 (hb hby d40_395) (fun T85 h85 L85 Ls85 X85 e85 hLs85 hl85 V85 N85 K85 => ?_)
  refine own_st (fun t_ k_ => XS.dup X85.here hx rfl (hb hby d40_396) rfl rfl (XS.bipush X85.here hx rfl (hb hby d40_397) (XS.bipush X85.here hx rfl (hb hby d40_399) k_))) ?_
  show own_Go p e below T85 (mkF m 401 (own_A8 e0_ e1_ e2_ e3_ e4_ e5_ e6_ e7_) [(.int (115 : Int32)), (.int (64 : Int32)), (.ref b1), (.ref b1)]) _
  refine own_cst (r := 19) (i := 64) X85 hx hZ e85 V85 hl85 rfl ⟨by decide, by decide⟩ rfl N85 K85 G1 (hb hby d40_401) (fun T86 h86 L86 Ls86 X86 e86 hLs86 hl86 V86 N86 K86 => ?_)
  refine own_st (fun t_ k_ => XS.dup X86.here hx rfl (hb hby d40_402) rfl rfl (XS.bipush X86.here hx rfl (hb hby d40_403) (XS.bipush X86.here hx rfl (hb hby d40_405) k_))) ?_
  show own_Go p e below T86 (mkF m 407 (own_A8 e0_ e1_ e2_ e3_ e4_ e5_ e6_ e7_) [(.int (116 : Int32)), (.int (65 : Int32)), (.ref b1), (.ref b1)]) _
  refine own_cst (r := 18) (i := 65) X86 hx hZ e86 V86 hl86 rfl ⟨by decide, by decide⟩ rfl N86 K86 G1 (hb hby d40_407) (fun T87 h87 L87 Ls87 X87 e87 hLs87 hl87 V87 N87 K87 => ?_)
  refine own_st (fun t_ k_ => XS.dup X87.here hx rfl (hb hby d40_408) rfl rfl (XS.bipush X87.here hx rfl (hb hby d40_409) (XS.bipush X87.here hx rfl (hb hby d40_411) k_))) ?_
  show own_Go p e below T87 (mkF m 413 (own_A8 e0_ e1_ e2_ e3_ e4_ e5_ e6_ e7_) [(.int (101 : Int32)), (.int (66 : Int32)), (.ref b1), (.ref b1)]) _
  refine own_cst (r := 17) (i := 66) X87 hx hZ e87 V87 hl87 rfl ⟨by decide, by decide⟩ rfl N87 K87 G1 (hb hby d40_413) (fun T88 h88 L88 Ls88 X88 e88 hLs88 hl88 V88 N88 K88 => ?_)
  refine own_st (fun t_ k_ => XS.dup X88.here hx rfl (hb hby d40_414) rfl rfl (XS.bipush X88.here hx rfl (hb hby d40_415) (XS.bipush X88.here hx rfl (hb hby d40_417) k_))) ?_
  show own_Go p e below T88 (mkF m 419 (own_A8 e0_ e1_ e2_ e3_ e4_ e5_ e6_ e7_) [(.int (114 : Int32)), (.int (67 : Int32)), (.ref b1), (.ref b1)]) _
  refine own_cst (r := 16) (i := 67) X88 hx hZ e88 V88 hl88 rfl ⟨by decide, by decide⟩ rfl N88 K88 G1 (hb hby d40_419) (fun T89 h89 L89 Ls89 X89 e89 hLs89 hl89 V89 N89 K89 => ?_)
  refine own_st (fun t_ k_ => XS.dup X89.here hx rfl (hb hby d40_420) rfl rfl (XS.bipush X89.here hx rfl (hb hby d40_421) (XS.bipush X89.here hx rfl (hb hby d40_423) k_))) ?_
  show own_Go p e below T89 (mkF m 425 (own_A8 e0_ e1_ e2_ e3_ e4_ e5_ e6_ e7_) [(.int (115 : Int32)), (.int (68 : Int32)), (.ref b1), (.ref b1)]) _
  refine own_cst (r := 15) (i := 68) X89 hx hZ e89 V89 hl89 rfl ⟨by decide, by decide⟩ rfl N89 K89 G1 (hb hby d40_425) (fun T90 h90 L90 Ls90 X90 e90 hLs90 hl90 V90 N90 K90 => ?_)
  refine own_st (fun t_ k_ => XS.dup X90.here hx rfl (hb hby d40_426) rfl rfl (XS.bipush X90.here hx rfl (hb hby d40_427) (XS.bipush X90.here hx rfl (hb hby d40_429) k_))) ?_
  show own_Go p e below T90 (mkF m 431 (own_A8 e0_ e1_ e2_ e3_ e4_ e5_ e6_ e7_) [(.int (61 : Int32)), (.int (69 : Int32)), (.ref b1), (.ref b1)]) _
  refine own_cst (r := 14) (i := 69) X90 hx hZ e90 V90 hl90 rfl ⟨by decide, by decide⟩ rfl N90 K90 G1 (hb hby d40_431) (fun T91 h91 L91 Ls91 X91 e91 hLs91 hl91 V91 N91 K91 => ?_)
  refine own_st (fun t_ k_ => XS.dup X91.here hx rfl (hb hby d40_432) rfl rfl (XS.bipush X91.here hx rfl (hb hby d40_433) (XS.iload X91.here hx rfl (hb hby d40_435) rfl k_))) ?_
  have K92 : Keep h0 h91 [] := K75.trans K91 (allS (Or.inr B1) all0)
  have f93 := (Nat.le_trans f76 K91.1)
  obtain ⟨_, _, ⟨T94, L94, k94, n94⟩, -, X94, ⟨Lc94, hQ94, l94, y94, z94⟩, st94⟩ := Jvm.LawKit.callS X91 hx (y := own_y39) hown (mvT hZ (own_w hw 253 rfl)) (mvT hZ (own_w hw 254 rfl)) (mvT hZ (own_w hw 16 rfl)) (mvT hZ (own_w hw 255 rfl)) (by decide) (backOf (W := 3) (rmD l Z a0 hw [] e6_ n6_ h91 n0 f93 hd6_ h96_) hZ (own_w hw 255 rfl) (own_w hw 16 rfl) (by decide) (by decide)) (g := (mkF m 437 (own_A8 e0_ e1_ e2_ e3_ e4_ e5_ e6_ e7_) [(.int e6_), (.int (70 : Int32)), (.ref b1), (.ref b1)])) rfl (by rw [hml]; rfl) (argsL := [(.int e6_)]) (rest := [(.int (70 : Int32)), (.ref b1), (.ref b1)]) (lenOf pd__I_C rfl) rfl (by show 2 * 0 + _ ≤ _; exact Nat.le_of_eq rfl) (hb hby d40_437) (fun _ _ => ⟨rfl, e91, (by decide : 1 + 0 ≤ _), (by decide : 84 + 0 ≤ _)⟩)
  dsimp only [Pt.U, Pt.locs, Pt.cells, Pt.slots] at X94 l94 y94 z94 st94 hQ94
  try dsimp only [Nat.reduceAdd] at y94 z94
  rw [l94, y94, z94] at X94
  obtain ⟨rfl, Nq94, eH94⟩ := hQ94
  have N94 := Fr.app N91 Nq94
  refine own_st st94 ?_
  show own_Go p e below T94 (mkF m 440 (own_A8 e0_ e1_ e2_ e3_ e4_ e5_ e6_ e7_) [(.int (Int32.ofNat (48 + n6_))), (.int (70 : Int32)), (.ref b1), (.ref b1)]) _
  refine own_cst (r := 13) (i := 70) X94 hx hZ eH94 V91 hl91 rfl ⟨by decide, by decide⟩ (own_narC h96_) N94 (Keep.refl h91 [b1]) G1 (hb hby d40_440) (fun T95 h95 L95 Ls95 X95 e95 hLs95 hl95 V95 N95 K95 => ?_)
  refine own_st (fun t_ k_ => XS.dup X95.here hx rfl (hb hby d40_441) rfl rfl (XS.bipush X95.here hx rfl (hb hby d40_442) (XS.bipush X95.here hx rfl (hb hby d40_444) k_))) ?_
  show own_Go p e below T95 (mkF m 446 (own_A8 e0_ e1_ e2_ e3_ e4_ e5_ e6_ e7_) [(.int (32 : Int32)), (.int (71 : Int32)), (.ref b1), (.ref b1)]) _
  refine own_cst (r := 12) (i := 71) X95 hx hZ e95 V95 hl95 rfl ⟨by decide, by decide⟩ rfl N95 K95 G1 (hb hby d40_446) (fun T96 h96 L96 Ls96 X96 e96 hLs96 hl96 V96 N96 K96 => ?_)
  refine own_st (fun t_ k_ => XS.dup X96.here hx rfl (hb hby d40_447) rfl rfl (XS.bipush X96.here hx rfl (hb hby d40_448) (XS.bipush X96.here hx rfl (hb hby d40_450) k_))) ?_
  show own_Go p e below T96 (mkF m 452 (own_A8 e0_ e1_ e2_ e3_ e4_ e5_ e6_ e7_) [(.int (99 : Int32)), (.int (72 : Int32)), (.ref b1), (.ref b1)]) _
  refine own_cst (r := 11) (i := 72) X96 hx hZ e96 V96 hl96 rfl ⟨by decide, by decide⟩ rfl N96 K96 G1 (hb hby d40_452) (fun T97 h97 L97 Ls97 X97 e97 hLs97 hl97 V97 N97 K97 => ?_)
  refine own_st (fun t_ k_ => XS.dup X97.here hx rfl (hb hby d40_453) rfl rfl (XS.bipush X97.here hx rfl (hb hby d40_454) (XS.bipush X97.here hx rfl (hb hby d40_456) k_))) ?_
  show own_Go p e below T97 (mkF m 458 (own_A8 e0_ e1_ e2_ e3_ e4_ e5_ e6_ e7_) [(.int (97 : Int32)), (.int (73 : Int32)), (.ref b1), (.ref b1)]) _
  refine own_cst (r := 10) (i := 73) X97 hx hZ e97 V97 hl97 rfl ⟨by decide, by decide⟩ rfl N97 K97 G1 (hb hby d40_458) (fun T98 h98 L98 Ls98 X98 e98 hLs98 hl98 V98 N98 K98 => ?_)
  refine own_st (fun t_ k_ => XS.dup X98.here hx rfl (hb hby d40_459) rfl rfl (XS.bipush X98.here hx rfl (hb hby d40_460) (XS.bipush X98.here hx rfl (hb hby d40_462) k_))) ?_
  show own_Go p e below T98 (mkF m 464 (own_A8 e0_ e1_ e2_ e3_ e4_ e5_ e6_ e7_) [(.int (110 : Int32)), (.int (74 : Int32)), (.ref b1), (.ref b1)]) _
  refine own_cst (r := 9) (i := 74) X98 hx hZ e98 V98 hl98 rfl ⟨by decide, by decide⟩ rfl N98 K98 G1 (hb hby d40_464) (fun T99 h99 L99 Ls99 X99 e99 hLs99 hl99 V99 N99 K99 => ?_)
  refine own_st (fun t_ k_ => XS.dup X99.here hx rfl (hb hby d40_465) rfl rfl (XS.bipush X99.here hx rfl (hb hby d40_466) (XS.bipush X99.here hx rfl (hb hby d40_468) k_))) ?_
  show own_Go p e below T99 (mkF m 470 (own_A8 e0_ e1_ e2_ e3_ e4_ e5_ e6_ e7_) [(.int (100 : Int32)), (.int (75 : Int32)), (.ref b1), (.ref b1)]) _
  refine own_cst (r := 8) (i := 75) X99 hx hZ e99 V99 hl99 rfl ⟨by decide, by decide⟩ rfl N99 K99 G1 (hb hby d40_470) (fun T100 h100 L100 Ls100 X100 e100 hLs100 hl100 V100 N100 K100 => ?_)
  refine own_st (fun t_ k_ => XS.dup X100.here hx rfl (hb hby d40_471) rfl rfl (XS.bipush X100.here hx rfl (hb hby d40_472) (XS.bipush X100.here hx rfl (hb hby d40_474) k_))) ?_
  show own_Go p e below T100 (mkF m 476 (own_A8 e0_ e1_ e2_ e3_ e4_ e5_ e6_ e7_) [(.int (105 : Int32)), (.int (76 : Int32)), (.ref b1), (.ref b1)]) _
  refine own_cst (r := 7) (i := 76) X100 hx hZ e100 V100 hl100 rfl ⟨by decide, by decide⟩ rfl N100 K100 G1 (hb hby d40_476) (fun T101 h101 L101 Ls101 X101 e101 hLs101 hl101 V101 N101 K101 => ?_)
  refine own_st (fun t_ k_ => XS.dup X101.here hx rfl (hb hby d40_477) rfl rfl (XS.bipush X101.here hx rfl (hb hby d40_478) (XS.bipush X101.here hx rfl (hb hby d40_480) k_))) ?_
  show own_Go p e below T101 (mkF m 482 (own_A8 e0_ e1_ e2_ e3_ e4_ e5_ e6_ e7_) [(.int (100 : Int32)), (.int (77 : Int32)), (.ref b1), (.ref b1)]) _
  refine own_cst (r := 6) (i := 77) X101 hx hZ e101 V101 hl101 rfl ⟨by decide, by decide⟩ rfl N101 K101 G1 (hb hby d40_482) (fun T102 h102 L102 Ls102 X102 e102 hLs102 hl102 V102 N102 K102 => ?_)
  refine own_st (fun t_ k_ => XS.dup X102.here hx rfl (hb hby d40_483) rfl rfl (XS.bipush X102.here hx rfl (hb hby d40_484) (XS.bipush X102.here hx rfl (hb hby d40_486) k_))) ?_
  show own_Go p e below T102 (mkF m 488 (own_A8 e0_ e1_ e2_ e3_ e4_ e5_ e6_ e7_) [(.int (97 : Int32)), (.int (78 : Int32)), (.ref b1), (.ref b1)]) _
  refine own_cst (r := 5) (i := 78) X102 hx hZ e102 V102 hl102 rfl ⟨by decide, by decide⟩ rfl N102 K102 G1 (hb hby d40_488) (fun T103 h103 L103 Ls103 X103 e103 hLs103 hl103 V103 N103 K103 => ?_)
  refine own_st (fun t_ k_ => XS.dup X103.here hx rfl (hb hby d40_489) rfl rfl (XS.bipush X103.here hx rfl (hb hby d40_490) (XS.bipush X103.here hx rfl (hb hby d40_492) k_))) ?_
  show own_Go p e below T103 (mkF m 494 (own_A8 e0_ e1_ e2_ e3_ e4_ e5_ e6_ e7_) [(.int (116 : Int32)), (.int (79 : Int32)), (.ref b1), (.ref b1)]) _
  refine own_cst (r := 4) (i := 79) X103 hx hZ e103 V103 hl103 rfl ⟨by decide, by decide⟩ rfl N103 K103 G1 (hb hby d40_494) (fun T104 h104 L104 Ls104 X104 e104 hLs104 hl104 V104 N104 K104 => ?_)
  refine own_st (fun t_ k_ => XS.dup X104.here hx rfl (hb hby d40_495) rfl rfl (XS.bipush X104.here hx rfl (hb hby d40_496) (XS.bipush X104.here hx rfl (hb hby d40_498) k_))) ?_
  show own_Go p e below T104 (mkF m 500 (own_A8 e0_ e1_ e2_ e3_ e4_ e5_ e6_ e7_) [(.int (101 : Int32)), (.int (80 : Int32)), (.ref b1), (.ref b1)]) _
  refine own_cst (r := 3) (i := 80) X104 hx hZ e104 V104 hl104 rfl ⟨by decide, by decide⟩ rfl N104 K104 G1 (hb hby d40_500) (fun T105 h105 L105 Ls105 X105 e105 hLs105 hl105 V105 N105 K105 => ?_)
  refine own_st (fun t_ k_ => XS.dup X105.here hx rfl (hb hby d40_501) rfl rfl (XS.bipush X105.here hx rfl (hb hby d40_502) (XS.bipush X105.here hx rfl (hb hby d40_504) k_))) ?_
  show own_Go p e below T105 (mkF m 506 (own_A8 e0_ e1_ e2_ e3_ e4_ e5_ e6_ e7_) [(.int (115 : Int32)), (.int (81 : Int32)), (.ref b1), (.ref b1)]) _
  refine own_cst (r := 2) (i := 81) X105 hx hZ e105 V105 hl105 rfl ⟨by decide, by decide⟩ rfl N105 K105 G1 (hb hby d40_506) (fun T106 h106 L106 Ls106 X106 e106 hLs106 hl106 V106 N106 K106 => ?_)
  refine own_st (fun t_ k_ => XS.dup X106.here hx rfl (hb hby d40_507) rfl rfl (XS.bipush X106.here hx rfl (hb hby d40_508) (XS.bipush X106.here hx rfl (hb hby d40_510) k_))) ?_
  show own_Go p e below T106 (mkF m 512 (own_A8 e0_ e1_ e2_ e3_ e4_ e5_ e6_ e7_) [(.int (61 : Int32)), (.int (82 : Int32)), (.ref b1), (.ref b1)]) _
  refine own_cst (r := 1) (i := 82) X106 hx hZ e106 V106 hl106 rfl ⟨by decide, by decide⟩ rfl N106 K106 G1 (hb hby d40_512) (fun T107 h107 L107 Ls107 X107 e107 hLs107 hl107 V107 N107 K107 => ?_)
  refine own_st (fun t_ k_ => XS.dup X107.here hx rfl (hb hby d40_513) rfl rfl (XS.bipush X107.here hx rfl (hb hby d40_514) (XS.iload X107.here hx rfl (hb hby d40_516) rfl k_))) ?_
  have K108 : Keep h0 h107 [] := K92.trans K107 (allS (Or.inr B1) all0)
  have f109 := (Nat.le_trans f93 K107.1)
  obtain ⟨_, _, ⟨T110, L110, k110, n110⟩, -, X110, ⟨Lc110, hQ110, l110, y110, z110⟩, st110⟩ := Jvm.LawKit.callS X107 hx (y := own_y39) hown (mvT hZ (own_w hw 253 rfl)) (mvT hZ (own_w hw 254 rfl)) (mvT hZ (own_w hw 16 rfl)) (mvT hZ (own_w hw 255 rfl)) (by decide) (backOf (W := 3) (rmD l Z a0 hw [] e7_ n7_ h107 n0 f109 hd7_ h97_) hZ (own_w hw 255 rfl) (own_w hw 16 rfl) (by decide) (by decide)) (g := (mkF m 518 (own_A8 e0_ e1_ e2_ e3_ e4_ e5_ e6_ e7_) [(.int e7_), (.int (83 : Int32)), (.ref b1), (.ref b1)])) rfl (by rw [hml]; rfl) (argsL := [(.int e7_)]) (rest := [(.int (83 : Int32)), (.ref b1), (.ref b1)]) (lenOf pd__I_C rfl) rfl (by show 2 * 0 + _ ≤ _; exact Nat.le_of_eq rfl) (hb hby d40_518) (fun _ _ => ⟨rfl, e107, (by decide : 1 + 0 ≤ _), (by decide : 84 + 0 ≤ _)⟩)
  dsimp only [Pt.U, Pt.locs, Pt.cells, Pt.slots] at X110 l110 y110 z110 st110 hQ110
  try dsimp only [Nat.reduceAdd] at y110 z110
  rw [l110, y110, z110] at X110
  obtain ⟨rfl, Nq110, eH110⟩ := hQ110
  have N110 := Fr.app N107 Nq110
  refine own_st st110 ?_
  show own_Go p e below T110 (mkF m 521 (own_A8 e0_ e1_ e2_ e3_ e4_ e5_ e6_ e7_) [(.int (Int32.ofNat (48 + n7_))), (.int (83 : Int32)), (.ref b1), (.ref b1)]) _
  refine own_cst (r := 0) (i := 83) X110 hx hZ eH110 V107 hl107 rfl ⟨by decide, by decide⟩ (own_narC h97_) N110 (Keep.refl h107 [b1]) G1 (hb hby d40_521) (fun T111 h111 L111 Ls111 X111 e111 hLs111 hl111 V111 N111 K111 => ?_)
  have K112 : Keep h0 h111 [] := K108.trans K111 (allS (Or.inr B1) all0)
  have hf113 : Ls111.reverse = ((own_all (Int32.ofNat (48 + n0_)) (Int32.ofNat (48 + n1_)) (Int32.ofNat (48 + n2_)) (Int32.ofNat (48 + n3_)) (Int32.ofNat (48 + n4_)) (Int32.ofNat (48 + n5_)) (Int32.ofNat (48 + n6_)) (Int32.ofNat (48 + n7_))) : List Int32) := by rw [hLs111, hLs107, hLs106, hLs105, hLs104, hLs103, hLs102, hLs101, hLs100, hLs99, hLs98, hLs97, hLs96, hLs95, hLs91, hLs90, hLs89, hLs88, hLs87, hLs86, hLs85, hLs84, hLs83, hLs82, hLs81, hLs80, hLs79, hLs78, hLs74, hLs73, hLs72, hLs71, hLs70, hLs69, hLs68, hLs67, hLs66, hLs62, hLs61, hLs60, hLs59, hLs58, hLs57, hLs56, hLs55, hLs54, hLs53, hLs52, hLs48, hLs47, hLs46, hLs45, hLs44, hLs43, hLs42, hLs41, hLs40, hLs39, hLs38, hLs37, hLs33, hLs32, hLs31, hLs30, hLs29, hLs28, hLs27, hLs26, hLs25, hLs24, hLs20, hLs19, hLs18, hLs17, hLs16, hLs15, hLs11, hLs10, hLs9, hLs8, hLs7, hLs6, hLs5, hLs4, hLs3]; rfl
  have Vf113 := V111
  rw [hf113, show List.replicate 0 (Value.int (0 : Int32)) = [] from rfl, List.append_nil] at Vf113
  have hpA : own_P (own_all (Int32.ofNat (48 + n0_)) (Int32.ofNat (48 + n1_)) (Int32.ofNat (48 + n2_)) (Int32.ofNat (48 + n3_)) (Int32.ofNat (48 + n4_)) (Int32.ofNat (48 + n5_)) (Int32.ofNat (48 + n6_)) (Int32.ofNat (48 + n7_))) := own_allP (own_one (own_d255 h90_)) (own_one (own_d255 h91_)) (own_one (own_d255 h92_)) (own_one (own_d255 h93_)) (own_one (own_d255 h94_)) (own_one (own_d255 h95_)) (own_one (own_d255 h96_)) (own_one (own_d255 h97_))
  refine own_st (fun t_ k_ => XS.astore X111.here hx rfl (hb hby d40_522) rfl rfl (l' := #[.val (.int e0_), .val (.int e1_), .val (.int e2_), .val (.int e3_), .val (.int e4_), .val (.int e5_), .val (.int e6_), .val (.int e7_), .val (.ref b1)]) rfl k_) ?_
  have f114 := (Nat.le_trans f109 K111.1)
  obtain ⟨T115, h115, X115, e115, E115, A115, D115, -, st115⟩ := newO X111 hx hZ hown (own_w hw 256 rfl) (own_w hw 26 rfl) (own_w hw 25 rfl) e111 (g := (mkF m 524 #[.val (.int e0_), .val (.int e1_), .val (.int e2_), .val (.int e3_), .val (.int e4_), .val (.int e5_), .val (.int e6_), .val (.int e7_), .val (.ref b1)] [])) rfl (hb hby d40_524) (by decide) (by decide)
  obtain ⟨b115, g115⟩ : ∃ z, z = h111.size := ⟨_, rfl⟩
  rw [← g115] at A115 D115 st115
  have G115 : n0 ≤ b115 := Nat.le_trans f114 (Nat.le_of_eq g115.symm)
  have B115 : h0.size ≤ b115 := Nat.le_trans K112.1 (Nat.le_of_eq g115.symm)
  have K116 : Keep h0 h115 [] := K112.ext E115
  have D115_value : Fld Z h115 b115 "java/lang/String" "value" "[B" .null := D115 (Or.inr (own_w hw 28 rfl)) (ty := (.array .byte)) (by decide)
  have D115_coder : Fld Z h115 b115 "java/lang/String" "coder" "B" (.int (0 : Int32)) := D115 (Or.inr (own_w hw 29 rfl)) (ty := .byte) (by decide)
  refine own_st st115 ?_
  refine own_st (fun t_ k_ => XS.dup X115.here hx rfl (hb hby d40_527) rfl rfl (XS.aload X115.here hx rfl (hb hby d40_528) rfl rfl k_)) ?_
  have f117 := (Nat.le_trans f114 E115.1)
  have f118 := (Vf113.ext E115)
  have f119 := (((((((((((pO.ext E1).keep K11 (allS G1 all0)).keep K20 (allS G1 all0)).keep K33 (allS G1 all0)).keep K48 (allS G1 all0)).keep K62 (allS G1 all0)).keep K74 (allS G1 all0)).keep K91 (allS G1 all0)).keep K107 (allS G1 all0)).keep K111 (allS G1 all0)).ext E115)
  obtain ⟨_, _, ⟨T120, L120, k120, n120⟩, -, X120, ⟨Lc120, hQ120, l120, y120, z120⟩, st120⟩ := X115.specialBack hx (y := own_y40) rfl hown (mvT hZ (own_w hw 257 rfl)) (mvT hZ (own_w hw 258 rfl)) (mvT hZ (own_w hw 259 rfl)) (by decide) (StrChars.Road.backV (W := 1) hZ hws (kI := 4) (own_w hw 26 rfl) (cs := ((own_all (Int32.ofNat (48 + n0_)) (Int32.ofNat (48 + n1_)) (Int32.ofNat (48 + n2_)) (Int32.ofNat (48 + n3_)) (Int32.ofNat (48 + n4_)) (Int32.ofNat (48 + n5_)) (Int32.ofNat (48 + n6_)) (Int32.ofNat (48 + n7_))) : List Int32)) (bs := (((own_all (Int32.ofNat (48 + n0_)) (Int32.ofNat (48 + n1_)) (Int32.ofNat (48 + n2_)) (Int32.ofNat (48 + n3_)) (Int32.ofNat (48 + n4_)) (Int32.ofNat (48 + n5_)) (Int32.ofNat (48 + n6_)) (Int32.ofNat (48 + n7_))) : List Int32)).map (fun c => c.toInt8.toInt32)) (n := 84) G115 f117 A115 D115_value D115_coder f118 (pS_COMPACT_STRINGS.ext f119.2) pP5 rfl rfl (by decide) (by decide) hpA rfl (by decide) (by decide)) (g := (mkF m 530 #[.val (.int e0_), .val (.int e1_), .val (.int e2_), .val (.int e3_), .val (.int e4_), .val (.int e5_), .val (.int e6_), .val (.int e7_), .val (.ref b1)] [(.ref b1), (.ref b115), (.ref b115)])) rfl (by rw [hml]; rfl) (Steps.refl _) (a := b115) (argsL := [(.ref b1)]) (rest := [(.ref b115)]) (lenOf pd___C_V rfl) rfl (by show 2 * 0 + _ ≤ _; exact Nat.le_of_eq rfl) (hb hby d40_530) (fun _ _ => ⟨rfl, e115, (by decide : 2 + 1 ≤ _), (by decide : 88 + 84 ≤ _)⟩)
  dsimp only [Pt.U, Pt.locs, Pt.cells, Pt.slots] at X120 l120 y120 z120 st120 hQ120
  try dsimp only [Nat.reduceAdd] at y120 z120
  rw [l120, y120, z120] at X120
  obtain ⟨rfl, Nq120, Kq120, q120_E, q120_c, t120, kb120, q120_g, q120_b, q120_n, q120_v, q120_V⟩ := hQ120
  have N120 := Fr.app N111 Nq120
  have K121 : Keep h0 T120.heap [] := K116.trans Kq120 (allS (Or.inr B115) all0)
  have Bf122 : h0.size ≤ t120 := Nat.le_trans K116.1 q120_b
  refine own_tr st120 ?_
  obtain ⟨fs, hr, hrun, hended, hW, hsame⟩ := X120.leave (v := some (.ref b115)) (fun h => by rw [Bd.returns] at h; cases h)
  refine own_fin (own_retR X120 hx rfl Bd.returns rfl (hb hby d40_533) hr) ⟨hrun, hended, _, _, rfl, ?_, ⟨_, rfl⟩, hW, hsame.mono (by decide) (by decide)⟩
  show Q_rmEx Z e0_ e1_ e2_ e3_ e4_ e5_ e6_ e7_ n0_ n1_ n2_ n3_ n4_ n5_ n6_ n7_ zc h0 n0 _ T120.heap _
  exact ⟨b115, t120, kb120, rfl, N120, K121, q120_E, q120_v, q120_c, q120_V⟩
abbrev own_A2 (a b c d e f g h : Nat) : List Int32 := own_all (Int32.ofNat (48 + a)) (Int32.ofNat (48 + b)) (Int32.ofNat (48 + c)) (Int32.ofNat (48 + d)) (Int32.ofNat (48 + e)) (Int32.ofNat (48 + f)) (Int32.ofNat (48 + g)) (Int32.ofNat (48 + h))
abbrev own_AL (p0 p1 p2 p3 k r x c : Int32) (b : Addr) (t : List Slot) : Array Slot := (.val (.int p0) :: .val (.int p1) :: .val (.int p2) :: .val (.int p3) :: .val (.int k) :: .val (.int r) :: .val (.int x) :: .val (.int c) :: .val (.ref b) :: t).toArray
abbrev own_AU (p0 p1 p2 p3 k r x c : Int32) (b : Addr) : Array Slot := own_AL p0 p1 p2 p3 k r x c b [.unset, .unset, .unset, .unset, .unset, .unset, .unset]
abbrev own_y42 : MethodName := ⟨"java/lang/String", "equals", "(Ljava/lang/Object;)Z"⟩
theorem pn_0 : plainName "com/example/goldweave/goldweave/server/cli/LoadSummaryRejectPinLaw" = true := by first | (simp [plainName, overriddenIn]; done) | decide +kernel
theorem pd__Lcom_example_goldweave_goldweave_server_cli_LoadSummary_I_V : parseMethodDescriptor "(Lcom/example/goldweave/goldweave/server/cli/LoadSummary;I)V" = some ⟨[(.object "com/example/goldweave/goldweave/server/cli/LoadSummary"), .int], none⟩ := by decide +kernel
theorem pd__IIIIIIII_Ljava_lang_String_ : parseMethodDescriptor "(IIIIIIII)Ljava/lang/String;" = some ⟨[.int, .int, .int, .int, .int, .int, .int, .int], some (.object "java/lang/String")⟩ := by decide +kernel
theorem pd__Ljava_lang_Object__Z : parseMethodDescriptor "(Ljava/lang/Object;)Z" = some ⟨[(.object "java/lang/Object")], some .boolean⟩ := by decide +kernel
theorem pd__Ljava_lang_String_Lcom_example_goldweave_goldweave_engine_linking_Registration_Change_ZI_V : parseMethodDescriptor "(Ljava/lang/String;Lcom/example/goldweave/goldweave/engine/linking/Registration$Change;ZI)V" = some ⟨[(.object "java/lang/String"), (.object "com/example/goldweave/goldweave/engine/linking/Registration$Change"), .boolean, .int], none⟩ := by decide +kernel
theorem pd__Lcom_example_goldweave_goldweave_engine_linking_Registration__V : parseMethodDescriptor "(Lcom/example/goldweave/goldweave/engine/linking/Registration;)V" = some ⟨[(.object "com/example/goldweave/goldweave/engine/linking/Registration")], none⟩ := by decide +kernel
theorem ef_rmLaw (m : MethodId) (x0 : Int32) (x1 : Int32) (x2 : Int32) (x3 : Int32) : entryFrame m #[(.int x0), (.int x1), (.int x2), (.int x3)] maxLocals = mkF m 0 #[.val (.int x0), .val (.int x1), .val (.int x2), .val (.int x3), .unset, .unset, .unset, .unset, .unset, .unset, .unset, .unset, .unset, .unset, .unset, .unset] [] := by first | (simp [entryFrame, mkF, argsToLocals, Value.category, maxLocals]; done) | rfl
def Q_rmLaw (Z : State) (p0 : Int32) (p1 : Int32) (p2 : Int32) (p3 : Int32) (zc : Int32) (dg : Addr) (kd : ClassId) (nw : Addr) (up : Addr) (un : Addr) (h0 : Heap) (n0 : Nat) (v : Option Value) (h : Heap) (L : List Loc) : Prop := v = some (.int (1 : Int32)) ∧ Fr n0 L ∧ Keep h0 h []
set_option maxRecDepth 65536 in
set_option maxHeartbeats 40000000 in
theorem rmLaw (l : Launch) (Z : State) (a0 : Array Value) (hw : ∀ d ∈ tables_1, d.before a0 Z = true) (ws : List Jvm.Cond) (p0 : Int32) (p1 : Int32) (p2 : Int32) (p3 : Int32) (zc : Int32) (dg : Addr) (kd : ClassId) (nw : Addr) (up : Addr) (un : Addr) (h0 : Heap) (n0 : Nat) (Z0 : n0 ≤ h0.size) (pS_DigitOnes : Sta Z Z.heap "java/lang/Integer" "DigitOnes" "[B" (.ref dg)) (pD : (Arv Z Z.heap dg kd .byte (100 : Int32) own_ones (.int 0))) (pS_NEW : Sta Z Z.heap "com/example/goldweave/goldweave/engine/linking/Registration$Change" "NEW" "Lcom/example/goldweave/goldweave/engine/linking/Registration$Change;" (.ref nw)) (pS_UPDATED : Sta Z Z.heap "com/example/goldweave/goldweave/engine/linking/Registration$Change" "UPDATED" "Lcom/example/goldweave/goldweave/engine/linking/Registration$Change;" (.ref up)) (pS_UNCHANGED : Sta Z Z.heap "com/example/goldweave/goldweave/engine/linking/Registration$Change" "UNCHANGED" "Lcom/example/goldweave/goldweave/engine/linking/Registration$Change;" (.ref un)) (hun : (up ≠ nw)) (hcn : (un ≠ nw)) (hcu : (un ≠ up)) (pS_COMPACT_STRINGS : Sta Z Z.heap "java/lang/String" "COMPACT_STRINGS" "Z" (.int zc)) (pP5 : (¬ (zc = (0 : Int32)))) (pO : Old Z n0 h0) :
    MetFree l x (head1 (Jvm.Cond.code x code maxLocals ret :: ws) room_1) (fun a U => a = #[(.int p0), (.int p1), (.int p2), (.int p3)] ∧ Z.Warmed39 U.vm ∧ U.heap = h0 ∧ CHv Z own_EL U.vm h0) (fun _ _ _ _ _ => True) (fun _ U o U' => ∃ v L, o = .returned v ∧ Q_rmLaw Z p0 p1 p2 p3 zc dg kd nw up un h0 n0 v U'.heap L ∧ CHr Z own_EL U.vm U.heap U'.vm U'.heap ∧ ReturnedEndW U o U' L 56 10432) := by
  refine MetFree.of_bodySF (plainFor_of_name pn_0) hisR ?_
  intro p e s m args below meth c s₁ Bd hml0 hP hK
  obtain ⟨rfl, hZ, hh, hCH⟩ := hP
  have hx := Bd.exec
  have hby := Bd.bytes
  have hml : c.maxLocals = 16 := hml0
  have hown : s.vm.findClass "com/example/goldweave/goldweave/server/cli/LoadSummaryRejectPinLaw" = some m.cls := findClass_of_methodNamed Bd.named
  have hnm := (name_of_methodNamed Bd.named Bd.method).1
  have X0 : Stand p l e room_1 (s.setVm s.vm) m #[(.int p0), (.int p1), (.int p2), (.int p3)] below meth c s₁ [] 0 0 := Stand.of_body Bd
  have e0 : s₁.heap = h0 := by rw [← hh, Bd.state]; rfl
  have N0 := Fr.nil n0
  have hEL := own_EW hw
  have hCR := CHr.refl hCH
  have hS : s.Since s.vm h0.size := (State.WarmedH.refl s).since _
  have hK0 : h0.size ≤ h0.size := Nat.le_refl _
  refine own_enter (ef_rmLaw m p0 p1 p2 p3) ?_
  have heq : ∀ d ∈ StrChars.Road.wordsEq, d.before a0 Z = true := fun d hd => hw d ((by decide +kernel : ∀ d ∈ StrChars.Road.wordsEq, d ∈ tables_1) d hd)
  obtain ⟨kN, hk, hk3⟩ := own_nat (b := 3) (c_and p0 3 (by decide)).1 (c_and p0 3 (by decide)).2
  refine own_st (fun t_ k_ => XS.iloadN X0.here hx rfl (hb hby at_0) rfl (XS.iconst X0.here hx rfl (hb hby at_1) (XS.iand X0.here hx rfl (hb hby at_2) rfl k_))) ?_
  show own_Go p e below s₁ (mkF m 3 #[.val (.int p0), .val (.int p1), .val (.int p2), .val (.int p3), .unset, .unset, .unset, .unset, .unset, .unset, .unset, .unset, .unset, .unset, .unset, .unset] [(.int (p0 &&& (3 : Int32)))]) _
  generalize (p0 &&& (3 : Int32)) = kI at hk ⊢
  show own_Go p e below s₁ (mkF m 3 #[.val (.int p0), .val (.int p1), .val (.int p2), .val (.int p3), .unset, .unset, .unset, .unset, .unset, .unset, .unset, .unset, .unset, .unset, .unset, .unset] [(.int kI)]) _
  refine own_st (fun t_ k_ => XS.istore X0.here hx rfl (hb hby at_3) rfl (l' := #[.val (.int p0), .val (.int p1), .val (.int p2), .val (.int p3), .val (.int kI), .unset, .unset, .unset, .unset, .unset, .unset, .unset, .unset, .unset, .unset, .unset]) rfl (XS.iloadN X0.here hx rfl (hb hby at_5) rfl (XS.iconst X0.here hx rfl (hb hby at_6) (XS.iand X0.here hx rfl (hb hby at_7) rfl (XS.iload X0.here hx rfl (hb hby at_8) rfl k_))))) ?_
  show own_Go p e below s₁ (mkF m 10 #[.val (.int p0), .val (.int p1), .val (.int p2), .val (.int p3), .val (.int kI), .unset, .unset, .unset, .unset, .unset, .unset, .unset, .unset, .unset, .unset, .unset] [(.int kI), (.int (p1 &&& (3 : Int32)))]) _
  obtain ⟨_, _, ⟨T1, L1, k1, n1⟩, -, X1, ⟨Lc1, hQ1, l1, y1, z1⟩, st1⟩ := Jvm.LawKit.callS X0 hx (y := own_y11) hown (mvT hZ (own_w hw 0 rfl)) (mvT hZ (own_w hw 1 rfl)) (mvT hZ (own_w hw 2 rfl)) (mvT hZ (own_w hw 3 rfl)) (by decide) (backOf (W := 0) (rmMn l Z a0 hw [] ((p1 &&& (3 : Int32))) kI h0 n0 Z0 ) hZ (own_w hw 3 rfl) (own_w hw 2 rfl) (by decide) (by decide)) (g := (mkF m 10 #[.val (.int p0), .val (.int p1), .val (.int p2), .val (.int p3), .val (.int kI), .unset, .unset, .unset, .unset, .unset, .unset, .unset, .unset, .unset, .unset, .unset] [(.int kI), (.int (p1 &&& (3 : Int32)))])) rfl (by rw [hml]; rfl) (argsL := [(.int (p1 &&& (3 : Int32))), (.int kI)]) (rest := []) (lenOf pd__II_I rfl) rfl (by show 2 * 0 + _ ≤ _; exact Nat.le_of_eq rfl) (hb hby at_10) (fun _ _ => ⟨rfl, e0, (by decide : 0 + 0 ≤ _), (by decide : 0 + 0 ≤ _)⟩)
  dsimp only [Pt.U, Pt.locs, Pt.cells, Pt.slots] at X1 l1 y1 z1 st1 hQ1
  try dsimp only [Nat.reduceAdd] at y1 z1
  rw [l1, y1, z1] at X1
  obtain ⟨r_1, rfl, Nq1, eH1, q1_0⟩ := hQ1
  have N1 := Fr.app N0 Nq1
  refine own_st st1 ?_
  have hm := q1_0
  have h3b := c_and p1 3 (by decide)
  obtain ⟨bN, hb_, hbk⟩ := own_nat (x := r_1) (b := kN) (by omega) (by omega)
  have h5 := own_five p2
  refine own_st (fun t_ k_ => XS.istore X1.here hx rfl (hb hby at_13) rfl (l' := #[.val (.int p0), .val (.int p1), .val (.int p2), .val (.int p3), .val (.int kI), .val (.int r_1), .unset, .unset, .unset, .unset, .unset, .unset, .unset, .unset, .unset, .unset]) rfl (XS.iloadN X1.here hx rfl (hb hby at_15) rfl (X1.ldcInt hx hown (mvT hZ (own_w hw 4 rfl)) (g := (mkF m 16 #[.val (.int p0), .val (.int p1), .val (.int p2), .val (.int p3), .val (.int kI), .val (.int r_1), .unset, .unset, .unset, .unset, .unset, .unset, .unset, .unset, .unset, .unset] [(.int p2)])) rfl (hb hby at_16) _ (XS.iand X1.here hx rfl (hb hby at_18) rfl (XS.iconst X1.here hx rfl (hb hby at_19) (Jvm.RoadKit.iremM X1 hx rfl (hb hby at_20) rfl (by decide) k_)))))) ?_
  show own_Go p e below T1 (mkF m 21 #[.val (.int p0), .val (.int p1), .val (.int p2), .val (.int p3), .val (.int kI), .val (.int r_1), .unset, .unset, .unset, .unset, .unset, .unset, .unset, .unset, .unset, .unset] [(.int ((p2 &&& (2147483647 : Int32)) % (5 : Int32)))]) _
  generalize ((p2 &&& (2147483647 : Int32)) % (5 : Int32)) = cx at h5 ⊢
  show own_Go p e below T1 (mkF m 21 #[.val (.int p0), .val (.int p1), .val (.int p2), .val (.int p3), .val (.int kI), .val (.int r_1), .unset, .unset, .unset, .unset, .unset, .unset, .unset, .unset, .unset, .unset] [(.int cx)]) _
  obtain ⟨cN, hc, hc7⟩ := own_nat (b := 7) (c_and p3 7 (by decide)).1 (c_and p3 7 (by decide)).2
  refine own_st (fun t_ k_ => XS.istore X1.here hx rfl (hb hby at_21) rfl (l' := #[.val (.int p0), .val (.int p1), .val (.int p2), .val (.int p3), .val (.int kI), .val (.int r_1), .val (.int cx), .unset, .unset, .unset, .unset, .unset, .unset, .unset, .unset, .unset]) rfl (XS.iloadN X1.here hx rfl (hb hby at_23) rfl (XS.bipush X1.here hx rfl (hb hby at_24) (XS.iand X1.here hx rfl (hb hby at_26) rfl k_)))) ?_
  show own_Go p e below T1 (mkF m 27 #[.val (.int p0), .val (.int p1), .val (.int p2), .val (.int p3), .val (.int kI), .val (.int r_1), .val (.int cx), .unset, .unset, .unset, .unset, .unset, .unset, .unset, .unset, .unset] [(.int (p3 &&& (7 : Int32)))]) _
  generalize (p3 &&& (7 : Int32)) = cnd at hc ⊢
  show own_Go p e below T1 (mkF m 27 #[.val (.int p0), .val (.int p1), .val (.int p2), .val (.int p3), .val (.int kI), .val (.int r_1), .val (.int cx), .unset, .unset, .unset, .unset, .unset, .unset, .unset, .unset, .unset] [(.int cnd)]) _
  refine own_st (fun t_ k_ => XS.istore X1.here hx rfl (hb hby at_27) rfl (l' := #[.val (.int p0), .val (.int p1), .val (.int p2), .val (.int p3), .val (.int kI), .val (.int r_1), .val (.int cx), .val (.int cnd), .unset, .unset, .unset, .unset, .unset, .unset, .unset, .unset]) rfl k_) ?_
  obtain ⟨T2, h2, X2, e2, E2, A2, D2, -, st2⟩ := newO X1 hx hZ hown (own_w hw 5 rfl) (own_w hw 6 rfl) (own_w hw 7 rfl) eH1 (g := (mkF m 29 #[.val (.int p0), .val (.int p1), .val (.int p2), .val (.int p3), .val (.int kI), .val (.int r_1), .val (.int cx), .val (.int cnd), .unset, .unset, .unset, .unset, .unset, .unset, .unset, .unset] [])) rfl (hb hby at_29) (by decide) (by decide)
  obtain ⟨b2, g2⟩ : ∃ z, z = h0.size := ⟨_, rfl⟩
  rw [← g2] at A2 D2 st2
  have G2 : n0 ≤ b2 := Nat.le_trans Z0 (Nat.le_of_eq g2.symm)
  have B2 : h0.size ≤ b2 := Nat.le_trans (Keep.refl h0 []).1 (Nat.le_of_eq g2.symm)
  have CH3 := hCH.ext E2
  have CR3 := CHr.trans hCR (CHr.ext E2 hCH)
  have K4 : Keep h0 h2 [] := (Keep.refl h0 []).ext E2
  have D2_records : Fld Z h2 b2 "com/example/goldweave/goldweave/server/cli/LoadSummary" "records" "J" (.long (0 : Int64)) := D2 (Or.inl (own_w hw 55 rfl)) (ty := .long) (by decide)
  have D2_candidates : Fld Z h2 b2 "com/example/goldweave/goldweave/server/cli/LoadSummary" "candidates" "J" (.long (0 : Int64)) := D2 (Or.inl (own_w hw 57 rfl)) (ty := .long) (by decide)
  have D2_created : Fld Z h2 b2 "com/example/goldweave/goldweave/server/cli/LoadSummary" "created" "J" (.long (0 : Int64)) := D2 (Or.inl (own_w hw 70 rfl)) (ty := .long) (by decide)
  have D2_linked : Fld Z h2 b2 "com/example/goldweave/goldweave/server/cli/LoadSummary" "linked" "J" (.long (0 : Int64)) := D2 (Or.inl (own_w hw 77 rfl)) (ty := .long) (by decide)
  have D2_updated : Fld Z h2 b2 "com/example/goldweave/goldweave/server/cli/LoadSummary" "updated" "J" (.long (0 : Int64)) := D2 (Or.inl (own_w hw 200 rfl)) (ty := .long) (by decide)
  have D2_unchanged : Fld Z h2 b2 "com/example/goldweave/goldweave/server/cli/LoadSummary" "unchanged" "J" (.long (0 : Int64)) := D2 (Or.inl (own_w hw 203 rfl)) (ty := .long) (by decide)
  have D2_rejected : Fld Z h2 b2 "com/example/goldweave/goldweave/server/cli/LoadSummary" "rejected" "J" (.long (0 : Int64)) := D2 (Or.inl (own_w hw 206 rfl)) (ty := .long) (by decide)
  have D2_newMasters : Fld Z h2 b2 "com/example/goldweave/goldweave/server/cli/LoadSummary" "newMasters" "J" (.long (0 : Int64)) := D2 (Or.inl (own_w hw 210 rfl)) (ty := .long) (by decide)
  refine own_st st2 ?_
  refine own_st (fun t_ k_ => XS.dup X2.here hx rfl (hb hby at_32) rfl rfl k_) ?_
  have f5 := (Nat.le_trans Z0 E2.1)
  obtain ⟨_, _, ⟨T6, L6, k6, n6⟩, -, X6, ⟨Lc6, hQ6, l6, y6, z6⟩, st6⟩ := X2.specialBack hx (y := own_y29) rfl hown (mvT hZ (own_w hw 8 rfl)) (mvT hZ (own_w hw 9 rfl)) (mvT hZ (own_w hw 10 rfl)) (by decide) (backOf (W := 1) (rmLs l Z a0 hw [] b2 h2 n0 f5 ) hZ (own_w hw 10 rfl) (own_w hw 7 rfl) (by decide) (by decide)) (g := (mkF m 33 #[.val (.int p0), .val (.int p1), .val (.int p2), .val (.int p3), .val (.int kI), .val (.int r_1), .val (.int cx), .val (.int cnd), .unset, .unset, .unset, .unset, .unset, .unset, .unset, .unset] [(.ref b2), (.ref b2)])) rfl (by rw [hml]; rfl) (Steps.refl _) (a := b2) (argsL := []) (rest := [(.ref b2)]) (lenOf pd___V rfl) rfl (by show 2 * 0 + _ ≤ _; exact Nat.le_of_eq rfl) (hb hby at_33) (fun _ _ => ⟨rfl, e2, (by decide : 1 + 0 ≤ _), (by decide : 8 + 0 ≤ _)⟩)
  dsimp only [Pt.U, Pt.locs, Pt.cells, Pt.slots] at X6 l6 y6 z6 st6 hQ6
  try dsimp only [Nat.reduceAdd] at y6 z6
  rw [l6, y6, z6] at X6
  obtain ⟨rfl, Nq6, eH6⟩ := hQ6
  have N6 := Fr.app N1 Nq6
  refine own_tr st6 ?_
  refine own_st (fun t_ k_ => XS.astore X6.here hx rfl (hb hby at_36) rfl rfl (l' := (own_AU p0 p1 p2 p3 kI r_1 cx cnd b2)) rfl (XS.aload X6.here hx rfl (hb hby at_38) rfl rfl (XS.iload X6.here hx rfl (hb hby at_40) rfl k_))) ?_
  obtain ⟨_, _, ⟨T7, L7, k7, n7⟩, -, X7, ⟨Lc7, hQ7, l7, y7, z7⟩, st7⟩ := Jvm.LawKit.callS X6 hx (y := own_y31) hown (mvT hZ (own_w hw 14 rfl)) (mvT hZ (own_w hw 15 rfl)) (mvT hZ (own_w hw 16 rfl)) (mvT hZ (own_w hw 17 rfl)) (by decide) (backOf (W := 0) (rmRt l Z a0 hw [] b2 r_1 bN ((0 : Int64)) ((0 : Int64)) 0 0 ((0 : Int64)) ((0 : Int64)) ((0 : Int64)) ((0 : Int64)) ((0 : Int64)) ((0 : Int64)) h2 n0 f5 A2 D2_records D2_rejected D2_created D2_updated D2_unchanged D2_linked D2_newMasters D2_candidates G2 hb_ (by omega) (show (0 : Int64).toInt = ((0 : Nat) : Int) from rfl) (show (0 : Int64).toInt = ((0 : Nat) : Int) from rfl) (by decide) (by decide)) hZ (own_w hw 17 rfl) (own_w hw 16 rfl) (by decide) (by decide)) (g := (mkF m 42 (own_AU p0 p1 p2 p3 kI r_1 cx cnd b2) [(.int r_1), (.ref b2)])) rfl (by rw [hml]; rfl) (argsL := [(.ref b2), (.int r_1)]) (rest := []) (lenOf pd__Lcom_example_goldweave_goldweave_server_cli_LoadSummary_I_V rfl) rfl (by show 2 * 0 + _ ≤ _; exact Nat.le_of_eq rfl) (hb hby at_42) (fun _ _ => ⟨rfl, eH6, (by decide : 1 + 0 ≤ _), (by decide : 8 + 0 ≤ _)⟩)
  dsimp only [Pt.U, Pt.locs, Pt.cells, Pt.slots] at X7 l7 y7 z7 st7 hQ7
  try dsimp only [Nat.reduceAdd] at y7 z7
  rw [l7, y7, z7] at X7
  obtain ⟨r1_7, j1_7, rfl, Nq7, Kq7, q7_0, q7_1, q7_2, q7_3, q7_4, q7_5, q7_6, q7_7, q7_8, q7_9, q7_10⟩ := hQ7
  have N7 := Fr.app N6 Nq7
  have Sa8 : ∀ y ∈ [b2], Safe Z own_EL s.vm h2 y := (sfS (Safe.exa hZ.alike A2 (by decide) (by decide)) sf0)
  have CH8 := CH3.keep Kq7 Sa8
  have CR8 := CHr.trans CR3 (CHr.keep Kq7 Sa8 CH3)
  have K9 : Keep h0 T7.heap [] := K4.trans Kq7 (allS (Or.inr B2) all0)
  refine own_st st7 ?_
  have hr_ := q7_3
  have hj_ := q7_4
  have hkb : (kI - r_1).toInt = ((kN - bN : Nat) : Int) := by rw [own_subI (by omega) (by omega)]; omega
  refine own_st (fun t_ k_ => XS.iload X7.here hx rfl (hb hby at_45) rfl k_) ?_
  show own_Go p e below T7 (mkF m 47 (own_AU p0 p1 p2 p3 kI r_1 cx cnd b2) [(.int cx)]) _
  rcases h5 with rfl | rfl | rfl | rfl | rfl
  · skip
    show own_Go p e below T7 (mkF m 47 (own_AU p0 p1 p2 p3 kI r_1 (0 : Int32) cnd b2) [(.int (0 : Int32))]) _
    refine own_st (fun t_ k_ => XS.ifYes X7.here hx rfl (pc0 := 47) (pc' := 112) rfl (hb hby at_47) rfl (by decide) (by decide) (by decide) (XS.aload X7.here hx rfl (hb hby at_112) rfl rfl (XS.iload X7.here hx rfl (hb hby at_114) rfl (XS.iload X7.here hx rfl (hb hby at_116) rfl (XS.isub X7.here hx rfl (hb hby at_118) rfl k_))))) ?_
    show own_Go p e below T7 (mkF m 119 (own_AU p0 p1 p2 p3 kI r_1 (0 : Int32) cnd b2) [(.int (kI - r_1)), (.ref b2)]) _
    have f10 := (Nat.le_trans f5 Kq7.1)
    obtain ⟨_, _, ⟨T11, L11, k11, n11⟩, -, X11, ⟨Lc11, hQ11, l11, y11, z11⟩, st11⟩ := Jvm.LawKit.callS X7 hx (y := own_y31) hown (mvT hZ (own_w hw 14 rfl)) (mvT hZ (own_w hw 15 rfl)) (mvT hZ (own_w hw 16 rfl)) (mvT hZ (own_w hw 17 rfl)) (by decide) (backOf (W := 0) (rmRt l Z a0 hw [] b2 ((kI - r_1)) ((kN - bN)) r1_7 j1_7 ((0 + bN)) ((0 + bN)) ((0 : Int64)) ((0 : Int64)) ((0 : Int64)) ((0 : Int64)) ((0 : Int64)) ((0 : Int64)) T7.heap n0 f10 q7_0 q7_1 q7_2 q7_5 q7_6 q7_7 q7_8 q7_9 q7_10 G2 hkb (by omega) hr_ hj_ (by omega) (by omega)) hZ (own_w hw 17 rfl) (own_w hw 16 rfl) (by decide) (by decide)) (g := (mkF m 119 (own_AU p0 p1 p2 p3 kI r_1 (0 : Int32) cnd b2) [(.int (kI - r_1)), (.ref b2)])) rfl (by rw [hml]; rfl) (argsL := [(.ref b2), (.int (kI - r_1))]) (rest := []) (lenOf pd__Lcom_example_goldweave_goldweave_server_cli_LoadSummary_I_V rfl) rfl (by show 2 * 0 + _ ≤ _; exact Nat.le_of_eq rfl) (hb hby at_119) (fun _ _ => ⟨rfl, rfl, (by decide : 1 + 0 ≤ _), (by decide : 8 + 0 ≤ _)⟩)
    dsimp only [Pt.U, Pt.locs, Pt.cells, Pt.slots] at X11 l11 y11 z11 st11 hQ11
    try dsimp only [Nat.reduceAdd] at y11 z11
    rw [l11, y11, z11] at X11
    obtain ⟨r1_11, j1_11, rfl, Nq11, Kq11, q11_0, q11_1, q11_2, q11_3, q11_4, q11_5, q11_6, q11_7, q11_8, q11_9, q11_10⟩ := hQ11
    have N11 := Fr.app N7 Nq11
    have Sa12 : ∀ y ∈ [b2], Safe Z own_EL s.vm T7.heap y := (sfS (Safe.exa hZ.alike q7_0 (by decide) (by decide)) sf0)
    have CH12 := CH8.keep Kq11 Sa12
    have CR12 := CHr.trans CR8 (CHr.keep Kq11 Sa12 CH8)
    have K13 : Keep h0 T11.heap [] := K9.trans Kq11 (allS (Or.inr B2) all0)
    refine own_st st11 ?_
    have hd0 : r1_11.toInt = ((kN + 0 : Nat) : Int) := by rw [q11_3]; omega
    have hd4 : j1_11.toInt = (kN : Int) := by rw [q11_4]; omega
    refine own_st (fun t_ k_ => XS.iload X11.here hx rfl (hb hby at_122) rfl (XS.ifYes X11.here hx rfl (pc0 := 124) (pc' := 131) rfl (hb hby at_124) rfl (by decide) (by decide) (by decide) (XS.iconst X11.here hx rfl (hb hby at_131) (XS.istore X11.here hx rfl (hb hby at_132) rfl (l' := (own_AL p0 p1 p2 p3 kI r_1 (0 : Int32) cnd b2 [.val (.int (0 : Int32)), .unset, .unset, .unset, .unset, .unset, .unset])) rfl (XS.iload X11.here hx rfl (hb hby at_134) rfl (XS.iconst X11.here hx rfl (hb hby at_136) (XS.icmpNo X11.here hx rfl (hb hby at_137) rfl (by decide) (XS.iload X11.here hx rfl (hb hby at_140) rfl (XS.iconst X11.here hx rfl (hb hby at_142) (XS.icmpYes X11.here hx rfl (pc0 := 143) (pc' := 150) rfl (hb hby at_143) rfl (by decide) (by decide) (by decide) k_)))))))))) ?_
    show own_Go p e below T11 (mkF m 150 (own_AL p0 p1 p2 p3 kI r_1 (0 : Int32) cnd b2 [.val (.int (0 : Int32)), .unset, .unset, .unset, .unset, .unset, .unset]) []) _
    refine own_st (fun t_ k_ => XS.iconst X11.here hx rfl (hb hby at_150) (XS.istore X11.here hx rfl (hb hby at_151) rfl (l' := (own_AL p0 p1 p2 p3 kI r_1 (0 : Int32) cnd b2 [.val (.int (0 : Int32)), .val (.int (0 : Int32)), .unset, .unset, .unset, .unset, .unset])) rfl (XS.iload X11.here hx rfl (hb hby at_153) rfl (XS.iconst X11.here hx rfl (hb hby at_155) (XS.icmpYes X11.here hx rfl (pc0 := 156) (pc' := 163) rfl (hb hby at_156) rfl (by decide) (by decide) (by decide) (XS.iconst X11.here hx rfl (hb hby at_163) (XS.istore X11.here hx rfl (hb hby at_164) rfl (l' := (own_AL p0 p1 p2 p3 kI r_1 (0 : Int32) cnd b2 [.val (.int (0 : Int32)), .val (.int (0 : Int32)), .val (.int (0 : Int32)), .unset, .unset, .unset, .unset])) rfl (XS.iload X11.here hx rfl (hb hby at_166) rfl (XS.iconst X11.here hx rfl (hb hby at_168) (XS.icmpYes X11.here hx rfl (pc0 := 169) (pc' := 176) rfl (hb hby at_169) rfl (by decide) (by decide) (by decide) k_)))))))))) ?_
    show own_Go p e below T11 (mkF m 176 (own_AL p0 p1 p2 p3 kI r_1 (0 : Int32) cnd b2 [.val (.int (0 : Int32)), .val (.int (0 : Int32)), .val (.int (0 : Int32)), .unset, .unset, .unset, .unset]) []) _
    refine own_st (fun t_ k_ => XS.iconst X11.here hx rfl (hb hby at_176) (XS.istore X11.here hx rfl (hb hby at_177) rfl (l' := (own_AL p0 p1 p2 p3 kI r_1 (0 : Int32) cnd b2 [.val (.int (0 : Int32)), .val (.int (0 : Int32)), .val (.int (0 : Int32)), .val (.int (0 : Int32)), .unset, .unset, .unset])) rfl (XS.iload X11.here hx rfl (hb hby at_179) rfl (XS.iconst X11.here hx rfl (hb hby at_181) (XS.icmpYes X11.here hx rfl (pc0 := 182) (pc' := 189) rfl (hb hby at_182) rfl (by decide) (by decide) (by decide) (XS.iconst X11.here hx rfl (hb hby at_189) (XS.istore X11.here hx rfl (hb hby at_190) rfl (l' := (own_AL p0 p1 p2 p3 kI r_1 (0 : Int32) cnd b2 [.val (.int (0 : Int32)), .val (.int (0 : Int32)), .val (.int (0 : Int32)), .val (.int (0 : Int32)), .val (.int (0 : Int32)), .unset, .unset])) rfl (XS.iload X11.here hx rfl (hb hby at_192) rfl (XS.iconst X11.here hx rfl (hb hby at_194) (XS.icmpYes X11.here hx rfl (pc0 := 195) (pc' := 202) rfl (hb hby at_195) rfl (by decide) (by decide) (by decide) k_)))))))))) ?_
    show own_Go p e below T11 (mkF m 202 (own_AL p0 p1 p2 p3 kI r_1 (0 : Int32) cnd b2 [.val (.int (0 : Int32)), .val (.int (0 : Int32)), .val (.int (0 : Int32)), .val (.int (0 : Int32)), .val (.int (0 : Int32)), .unset, .unset]) []) _
    refine own_st (fun t_ k_ => XS.iconst X11.here hx rfl (hb hby at_202) (XS.istore X11.here hx rfl (hb hby at_203) rfl (l' := (own_AL p0 p1 p2 p3 kI r_1 (0 : Int32) cnd b2 [.val (.int (0 : Int32)), .val (.int (0 : Int32)), .val (.int (0 : Int32)), .val (.int (0 : Int32)), .val (.int (0 : Int32)), .val (.int (0 : Int32)), .unset])) rfl (XS.iload X11.here hx rfl (hb hby at_205) rfl (XS.ifYes X11.here hx rfl (pc0 := 207) (pc' := 215) rfl (hb hby at_207) rfl (by decide) (by decide) (by decide) (XS.iconst X11.here hx rfl (hb hby at_215) (XS.istore X11.here hx rfl (hb hby at_216) rfl (l' := (own_AL p0 p1 p2 p3 kI r_1 (0 : Int32) cnd b2 [.val (.int (0 : Int32)), .val (.int (0 : Int32)), .val (.int (0 : Int32)), .val (.int (0 : Int32)), .val (.int (0 : Int32)), .val (.int (0 : Int32)), .val (.int (0 : Int32))])) rfl (XS.aload X11.here hx rfl (hb hby at_218) rfl rfl k_))))))) ?_
    show own_Go p e below T11 (mkF m 220 (own_AL p0 p1 p2 p3 kI r_1 (0 : Int32) cnd b2 [.val (.int (0 : Int32)), .val (.int (0 : Int32)), .val (.int (0 : Int32)), .val (.int (0 : Int32)), .val (.int (0 : Int32)), .val (.int (0 : Int32)), .val (.int (0 : Int32))]) [(.ref b2)]) _
    have f14 := (Nat.le_trans f10 Kq11.1)
    have f15 := (((pO.ext E2).keep Kq7 (allS G2 all0)).keep Kq11 (allS G2 all0))
    have f17 := (Nat.le_trans (Nat.le_trans (Nat.le_trans hK0 E2.1) Kq7.1) Kq11.1)
    obtain ⟨cq16, kq16, qa16, qb16, qc16⟩ := isOf hZ rfl q11_0
    obtain ⟨_, _, ⟨T16, L16, k16, n16⟩, -, Xa16, hSa16, hGa16, ⟨Lc16, hQ16, l16, y16, z16, A16⟩, st16⟩ := X11.virtualBackS hx (y := own_y38) (z := own_y38) hown (mvT hZ (own_w hw 78 rfl)) (mvT hZ (own_w hw 79 rfl)) (notFace_of_selects (args := #[]) (mvT hZ (own_w hw 81 rfl))) (mvT hZ (own_w hw 81 rfl)) (mvT hZ (own_w hw 80 rfl)) (by decide) (backOfSH (W := 0) (rmTo l Z a0 hw [] b2 r1_11 ((0 : Int64)) ((0 : Int64)) ((0 : Int64)) j1_11 ((0 : Int64)) ((0 : Int64)) ((0 : Int64)) ((kN + 0)) 0 0 0 kN 0 0 0 zc dg _ T11.heap n0 f14 q11_0 q11_1 q11_5 q11_6 q11_7 q11_2 q11_8 q11_9 q11_10 hd0 (by omega) rfl (by decide) rfl (by decide) rfl (by decide) hd4 (by omega) rfl (by decide) rfl (by decide) rfl (by decide) pS_DigitOnes pD pS_COMPACT_STRINGS pP5 f15) hZ (own_w hw 82 rfl) (own_w hw 7 rfl) (by decide) (by decide) hEL CH12) qa16 qc16 (g := (mkF m 220 (own_AL p0 p1 p2 p3 kI r_1 (0 : Int32) cnd b2 [.val (.int (0 : Int32)), .val (.int (0 : Int32)), .val (.int (0 : Int32)), .val (.int (0 : Int32)), .val (.int (0 : Int32)), .val (.int (0 : Int32)), .val (.int (0 : Int32))]) [(.ref b2)])) rfl (by rw [hml]; rfl) (Steps.refl _) (argsL := []) (rest := []) (lenOf pd___Ljava_lang_String_ rfl) rfl (by show 2 * 0 + _ ≤ _; exact Nat.le_of_eq rfl) (hb hby at_220) (fun _ _ => ⟨rfl, rfl, (by decide : 1 + 23 ≤ _), (by decide : 8 + 870 ≤ _)⟩)
    dsimp only [Pt.U, Pt.locs, Pt.cells, Pt.slots] at Xa16 hSa16 hGa16 l16 y16 z16 A16 st16 hQ16
    try dsimp only [Nat.reduceAdd] at y16 z16
    rw [l16, y16, z16] at Xa16
    obtain ⟨X16, hS, hZ, hown⟩ := rebS hS f17 Xa16 hSa16 hGa16 hZ hown
    obtain ⟨y_16, b_16, kb_16, rfl, Nq16, Kq16, q16_0, q16_1, q16_2, q16_3⟩ := hQ16
    have N16 := Fr.app N11 Nq16
    have CH18 := A16.1
    have CR18 := CHr.trans CR12 (A16)
    have K19 : Keep h0 T16.heap [] := K13.trans Kq16 all0
    have hK16 : T16.heap.size ≤ T16.heap.size := Nat.le_refl _
    refine own_tr st16 ?_
    refine own_st (fun t_ k_ => XS.iload X16.here hx rfl (hb hby at_223) rfl (XS.iload X16.here hx rfl (hb hby at_225) rfl (XS.iadd X16.here hx rfl (hb hby at_227) rfl (XS.iload X16.here hx rfl (hb hby at_228) rfl (XS.iload X16.here hx rfl (hb hby at_230) rfl (XS.iload X16.here hx rfl (hb hby at_232) rfl (XS.iload X16.here hx rfl (hb hby at_234) rfl (XS.iload X16.here hx rfl (hb hby at_236) rfl (XS.iload X16.here hx rfl (hb hby at_238) rfl (XS.iload X16.here hx rfl (hb hby at_240) rfl k_)))))))))) ?_
    show own_Go p e below T16 (mkF m 242 (own_AL p0 p1 p2 p3 kI r_1 (0 : Int32) cnd b2 [.val (.int (0 : Int32)), .val (.int (0 : Int32)), .val (.int (0 : Int32)), .val (.int (0 : Int32)), .val (.int (0 : Int32)), .val (.int (0 : Int32)), .val (.int (0 : Int32))]) [(.int (0 : Int32)), (.int (0 : Int32)), (.int (0 : Int32)), (.int kI), (.int (0 : Int32)), (.int (0 : Int32)), (.int (0 : Int32)), (.int (kI + (0 : Int32))), (.ref y_16)]) _
    have he0 : ((kI + (0 : Int32))).toInt = (((kN + 0) : Nat) : Int) := (by rw [own_add2 (by omega) (by decide) (by rw [show (0 : Int32).toInt = 0 from rfl]; omega), show (0 : Int32).toInt = 0 from rfl]; omega)
    have hg0 : (kN + 0) ≤ 9 := (by omega)
    have he1 : ((0 : Int32)).toInt = ((0 : Nat) : Int) := rfl
    have hg1 : 0 ≤ 9 := (by decide)
    have he2 : ((0 : Int32)).toInt = ((0 : Nat) : Int) := rfl
    have hg2 : 0 ≤ 9 := (by decide)
    have he3 : ((0 : Int32)).toInt = ((0 : Nat) : Int) := rfl
    have hg3 : 0 ≤ 9 := (by decide)
    have he4 : (kI).toInt = ((kN : Nat) : Int) := hk
    have hg4 : kN ≤ 9 := (by omega)
    have he5 : ((0 : Int32)).toInt = ((0 : Nat) : Int) := rfl
    have hg5 : 0 ≤ 9 := (by decide)
    have he6 : ((0 : Int32)).toInt = ((0 : Nat) : Int) := rfl
    have hg6 : 0 ≤ 9 := (by decide)
    have he7 : ((0 : Int32)).toInt = ((0 : Nat) : Int) := rfl
    have hg7 : 0 ≤ 9 := (by decide)
    generalize (kI + (0 : Int32)) = eI at he0 ⊢
    show own_Go p e below T16 (mkF m 242 (own_AL p0 p1 p2 p3 kI r_1 (0 : Int32) cnd b2 [.val (.int (0 : Int32)), .val (.int (0 : Int32)), .val (.int (0 : Int32)), .val (.int (0 : Int32)), .val (.int (0 : Int32)), .val (.int (0 : Int32)), .val (.int (0 : Int32))]) [(.int (0 : Int32)), (.int (0 : Int32)), (.int (0 : Int32)), (.int kI), (.int (0 : Int32)), (.int (0 : Int32)), (.int (0 : Int32)), (.int eI), (.ref y_16)]) _
    have f20 := (Nat.le_trans f14 Kq16.1)
    have f21 := (f15.keep Kq16 all0)
    obtain ⟨_, _, ⟨T22, L22, k22, n22⟩, -, X22, ⟨Lc22, hQ22, l22, y22, z22⟩, st22⟩ := Jvm.LawKit.callS X16 hx (y := own_y41) hown (mvT hZ (own_w hw 249 rfl)) (mvT hZ (own_w hw 250 rfl)) (mvT hZ (own_w hw 16 rfl)) (mvT hZ (own_w hw 251 rfl)) (by decide) (backOf (W := 1) (rmEx l Z a0 hw [] eI ((0 : Int32)) ((0 : Int32)) ((0 : Int32)) kI ((0 : Int32)) ((0 : Int32)) ((0 : Int32)) ((kN + 0)) 0 0 0 kN 0 0 0 zc T16.heap n0 f20 he0 hg0 he1 hg1 he2 hg2 he3 hg3 he4 hg4 he5 hg5 he6 hg6 he7 hg7 pS_COMPACT_STRINGS pP5 f21) hZ (own_w hw 251 rfl) (own_w hw 16 rfl) (by decide) (by decide)) (g := (mkF m 242 (own_AL p0 p1 p2 p3 kI r_1 (0 : Int32) cnd b2 [.val (.int (0 : Int32)), .val (.int (0 : Int32)), .val (.int (0 : Int32)), .val (.int (0 : Int32)), .val (.int (0 : Int32)), .val (.int (0 : Int32)), .val (.int (0 : Int32))]) [(.int (0 : Int32)), (.int (0 : Int32)), (.int (0 : Int32)), (.int kI), (.int (0 : Int32)), (.int (0 : Int32)), (.int (0 : Int32)), (.int eI), (.ref y_16)])) rfl (by rw [hml]; rfl) (argsL := [(.int eI), (.int (0 : Int32)), (.int (0 : Int32)), (.int (0 : Int32)), (.int kI), (.int (0 : Int32)), (.int (0 : Int32)), (.int (0 : Int32))]) (rest := [(.ref y_16)]) (lenOf pd__IIIIIIII_Ljava_lang_String_ rfl) rfl (by show 2 * 0 + _ ≤ _; exact Nat.le_of_eq rfl) (hb hby at_242) (fun _ _ => ⟨rfl, rfl, (by decide : 24 + 3 ≤ _), (by decide : 878 + 172 ≤ _)⟩)
    dsimp only [Pt.U, Pt.locs, Pt.cells, Pt.slots] at X22 l22 y22 z22 st22 hQ22
    try dsimp only [Nat.reduceAdd] at y22 z22
    rw [l22, y22, z22] at X22
    obtain ⟨y_22, t_22, kb_22, rfl, Nq22, Kq22, q22_0, q22_1, q22_2, q22_3⟩ := hQ22
    have N22 := Fr.app N16 Nq22
    have CH23 := CH18.keep Kq22 sf0
    have CR23 := CHr.trans CR18 (CHr.keep Kq22 sf0 CH18)
    have K24 : Keep h0 T22.heap [] := K19.trans Kq22 all0
    refine own_st st22 ?_
    have hpA : own_P (own_A2 (kN + 0) 0 0 0 kN 0 0 0) := own_allP (own_one (own_d255 (by omega))) (own_one (own_d255 (by decide))) (own_one (own_d255 (by decide))) (own_one (own_d255 (by decide))) (own_one (own_d255 (by omega))) (own_one (own_d255 (by decide))) (own_one (own_d255 (by decide))) (own_one (own_d255 (by decide)))
    have hcd25 : StrChars.Road.CodA ((own_A2 (kN + 0) 0 0 0 kN 0 0 0) : List Int32) 0 (84 : Int32) ((((own_A2 (kN + 0) 0 0 0 kN 0 0 0) : List Int32).map (fun c : Int32 => c.toInt8.toInt32)).map Value.int) := StrChars.Road.codOf rfl (fun x hx => (hpA x hx).2)
    have hbd25 : ∀ x ∈ ((own_A2 (kN + 0) 0 0 0 kN 0 0 0) : List Int32), ¬ x < 0 ∧ ¬ (65535 : Int32) < x := own_up _ hpA
    have hcd26 : StrChars.Road.CodA ((own_A2 (kN + 0) 0 0 0 kN 0 0 0) : List Int32) 0 (84 : Int32) ((((own_A2 (kN + 0) 0 0 0 kN 0 0 0) : List Int32).map (fun c : Int32 => c.toInt8.toInt32)).map Value.int) := StrChars.Road.codOf rfl (fun x hx => (hpA x hx).2)
    have hbd26 : ∀ x ∈ ((own_A2 (kN + 0) 0 0 0 kN 0 0 0) : List Int32), ¬ x < 0 ∧ ¬ (65535 : Int32) < x := own_up _ hpA
    have f27 := (q16_0.keep Kq22)
    have f28 := (q16_1.keep Kq22 nin0)
    have f29 := (q16_2.keep Kq22 nin0)
    have f30 := (q16_3.keep Kq22 nin0)
    have f31 := (f21.keep Kq22 all0)
    obtain ⟨cq32, kq32, qa32, qb32, qc32⟩ := isOf hZ rfl f27
    obtain ⟨_, _, ⟨T32, L32, k32, n32⟩, -, X32, ⟨Lc32, hQ32, l32, y32, z32⟩, st32⟩ := X22.virtualBack hx (y := own_y42) (z := own_y42) hown (mvT hZ (own_w hw 273 rfl)) (mvT hZ (own_w hw 274 rfl)) (notFace_of_selects (args := #[]) (mvT hZ (own_w hw 276 rfl))) (mvT hZ (own_w hw 276 rfl)) (mvT hZ (own_w hw 275 rfl)) (by decide) (StrChars.Road.eqW (W := 0) hZ heq (kI := 4) (own_w hw 26 rfl) f27 f28 f29 f30 hcd25 hbd25 (Nat.le_of_ble_eq_true rfl) q22_0 q22_1 q22_2 q22_3 hcd26 hbd26 (Nat.le_of_ble_eq_true rfl) (pS_COMPACT_STRINGS.ext f31.2) pP5 (by decide) (by decide)) qa32 qc32 (g := (mkF m 245 (own_AL p0 p1 p2 p3 kI r_1 (0 : Int32) cnd b2 [.val (.int (0 : Int32)), .val (.int (0 : Int32)), .val (.int (0 : Int32)), .val (.int (0 : Int32)), .val (.int (0 : Int32)), .val (.int (0 : Int32)), .val (.int (0 : Int32))]) [(.ref y_22), (.ref y_16)])) rfl (by rw [hml]; rfl) (Steps.refl _) (argsL := [(.ref y_22)]) (rest := []) (lenOf pd__Ljava_lang_Object__Z rfl) rfl (by show 2 * 0 + _ ≤ _; exact Nat.le_of_eq rfl) (hb hby at_245) (fun _ _ => ⟨rfl, rfl, (by decide : 27 + 0 ≤ _), (by decide : 1050 + 0 ≤ _)⟩)
    dsimp only [Pt.U, Pt.locs, Pt.cells, Pt.slots] at X32 l32 y32 z32 st32 hQ32
    try dsimp only [Nat.reduceAdd] at y32 z32
    rw [l32, y32, z32] at X32
    obtain ⟨hcase32, rfl, eH32⟩ := hQ32
    have N32 := Fr.app N22 (Fr.nil n0)
    have hv32 : _ = some (Value.int 1) := hcase32.elim (fun q => q.1) (fun q => absurd rfl q.2)
    subst hv32
    refine own_tr st32 ?_
    have f33 := (Nat.le_trans hK16 Kq22.1)
    obtain ⟨fs, hr, hrun, hended, hRW⟩ := X32.leaveW hS (by rw [eH32]; exact f33) (v := some (.int (1 : Int32))) (fun h => by rw [Bd.returns] at h; cases h)
    have hCend : CHr Z own_EL s.vm s.heap T32.vm T32.heap := by
      rw [hh, eH32]
      exact CHr.trans CR23 (CHv.at X32 hZ hEL CH23)
    refine own_fin (retN X32 hx (t := .boolean) Bd.returns (by simp) (hb hby at_248) hr) ⟨hrun, hended, _, _, rfl, ?_, hCend, hRW.1, hRW.2.1, hRW.2.2.1, hRW.2.2.2.mono (by decide) (by decide)⟩
    show Q_rmLaw Z p0 p1 p2 p3 zc dg kd nw up un h0 n0 _ T32.heap _
    rw [eH32]
    exact ⟨rfl, N32, K24⟩
  · skip
    show own_Go p e below T7 (mkF m 47 (own_AU p0 p1 p2 p3 kI r_1 (1 : Int32) cnd b2) [(.int (1 : Int32))]) _
    refine own_st (fun t_ k_ => XS.ifNo X7.here hx rfl (hb hby at_47) rfl (by decide) (XS.iload X7.here hx rfl (hb hby at_50) rfl (XS.iconst X7.here hx rfl (hb hby at_52) (XS.icmpNo X7.here hx rfl (hb hby at_53) rfl (by decide) k_)))) ?_
    show own_Go p e below T7 (mkF m 56 (own_AU p0 p1 p2 p3 kI r_1 (1 : Int32) cnd b2) []) _
    have f34 := ((pO.ext E2).keep Kq7 (allS G2 all0))
    obtain ⟨T35, X35, e35, st35⟩ := getS2 X7 hx hZ hown (host := "") (Or.inl (own_w hw 18 rfl)) Via.refl rfl (pS_NEW.ext f34.2) (g := (mkF m 56 (own_AU p0 p1 p2 p3 kI r_1 (1 : Int32) cnd b2) [])) rfl (hb hby at_56)
    refine own_st st35 ?_
    refine own_st (fun t_ k_ => XS.astore X35.here hx rfl (hb hby at_59) rfl rfl (l' := (own_AL p0 p1 p2 p3 kI r_1 (1 : Int32) cnd b2 [.val (.ref nw), .unset, .unset, .unset, .unset, .unset, .unset])) rfl (XS.goto X35.here hx rfl (pc0 := 61) (pc' := 83) rfl (hb hby at_61) (by decide) (by decide) (XS.aload X35.here hx rfl (hb hby at_83) rfl rfl k_))) ?_
    have f36 := (Nat.le_trans f5 Kq7.1)
    obtain ⟨T37, h37, X37, e37, E37, A37, D37, -, st37⟩ := newO X35 hx hZ hown (own_w hw 21 rfl) (own_w hw 22 rfl) (own_w hw 23 rfl) e35 (g := (mkF m 85 (own_AL p0 p1 p2 p3 kI r_1 (1 : Int32) cnd b2 [.val (.ref nw), .unset, .unset, .unset, .unset, .unset, .unset]) [(.ref b2)])) rfl (hb hby at_85) (by decide) (by decide)
    obtain ⟨b37, g37⟩ : ∃ z, z = T7.heap.size := ⟨_, rfl⟩
    rw [← g37] at A37 D37 st37
    have G37 : n0 ≤ b37 := Nat.le_trans f36 (Nat.le_of_eq g37.symm)
    have B37 : h0.size ≤ b37 := Nat.le_trans K9.1 (Nat.le_of_eq g37.symm)
    have CH38 := CH8.ext E37
    have CR38 := CHr.trans CR8 (CHr.ext E37 CH8)
    have K39 : Keep h0 h37 [] := K9.ext E37
    have D37_localId : Fld Z h37 b37 "com/example/goldweave/goldweave/engine/linking/Registration" "localId" "Ljava/lang/String;" .null := D37 (Or.inr (own_w hw 42 rfl)) (ty := (.object "java/lang/String")) (by decide)
    have D37_change : Fld Z h37 b37 "com/example/goldweave/goldweave/engine/linking/Registration" "change" "Lcom/example/goldweave/goldweave/engine/linking/Registration$Change;" .null := D37 (Or.inr (own_w hw 44 rfl)) (ty := (.object "com/example/goldweave/goldweave/engine/linking/Registration$Change")) (by decide)
    have D37_newGoldenRecord : Fld Z h37 b37 "com/example/goldweave/goldweave/engine/linking/Registration" "newGoldenRecord" "Z" (.int (0 : Int32)) := D37 (Or.inr (own_w hw 46 rfl)) (ty := .boolean) (by decide)
    have D37_candidateLinks : Fld Z h37 b37 "com/example/goldweave/goldweave/engine/linking/Registration" "candidateLinks" "I" (.int (0 : Int32)) := D37 (Or.inr (own_w hw 48 rfl)) (ty := .int) (by decide)
    refine own_st st37 ?_
    refine own_st (fun t_ k_ => XS.dup X37.here hx rfl (hb hby at_88) rfl rfl k_) ?_
    have f41 := (Nat.le_trans (Nat.le_trans (Nat.le_trans hK0 E2.1) Kq7.1) E37.1)
    obtain ⟨b40, T40, h40, k40, X40, e40, E40, hS, hk40, hZ, hown, A40, -, st40⟩ := ldcOH X37 hx hZ hown (own_w hw 24 rfl) (own_wS hw) e37 hS f41 hEL CH38 (g := (mkF m 89 (own_AL p0 p1 p2 p3 kI r_1 (1 : Int32) cnd b2 [.val (.ref nw), .unset, .unset, .unset, .unset, .unset, .unset]) [(.ref b37), (.ref b37), (.ref b2)])) rfl (hb hby at_89) (n := 8) (by decide) (by decide) (by decide) (by decide)
    have CH42 := A40.1
    have CR42 := CHr.trans CR38 (A40)
    have K43 : Keep h0 h40 [] := K39.ext E40
    refine own_st st40 ?_
    refine own_st (fun t_ k_ => XS.aload X40.here hx rfl (hb hby at_91) rfl rfl (XS.iload X40.here hx rfl (hb hby at_93) rfl (XS.iconst X40.here hx rfl (hb hby at_95) (XS.icmpNo X40.here hx rfl (hb hby at_96) rfl (by decide) (XS.iconst X40.here hx rfl (hb hby at_99) (XS.goto X40.here hx rfl (pc0 := 100) (pc' := 104) rfl (hb hby at_100) (by decide) (by decide) (XS.iload X40.here hx rfl (hb hby at_104) rfl k_))))))) ?_
    show own_Go p e below T40 (mkF m 106 (own_AL p0 p1 p2 p3 kI r_1 (1 : Int32) cnd b2 [.val (.ref nw), .unset, .unset, .unset, .unset, .unset, .unset]) [(.int cnd), (.int (1 : Int32)), (.ref nw), (.ref b40), (.ref b37), (.ref b37), (.ref b2)]) _
    have f44 := (Nat.le_trans (Nat.le_trans f36 E37.1) E40.1)
    have f45 := (A37.ext E40)
    have f46 := (D37_localId.ext E40)
    have f47 := (D37_change.ext E40)
    have f48 := (D37_newGoldenRecord.ext E40)
    have f49 := (D37_candidateLinks.ext E40)
    obtain ⟨_, _, ⟨T50, L50, k50, n50⟩, -, X50, ⟨Lc50, hQ50, l50, y50, z50⟩, st50⟩ := X40.specialBack hx (y := own_y33) rfl hown (mvT hZ (own_w hw 32 rfl)) (mvT hZ (own_w hw 33 rfl)) (mvT hZ (own_w hw 34 rfl)) (by decide) (backOf (W := 2) (rmRi1 l Z a0 hw [] b37 b40 nw cnd .null .null ((.int (0 : Int32))) ((.int (0 : Int32))) h40 n0 f44 f45 f46 f47 f48 f49 G37) hZ (own_w hw 34 rfl) (own_w hw 23 rfl) (by decide) (by decide)) (g := (mkF m 106 (own_AL p0 p1 p2 p3 kI r_1 (1 : Int32) cnd b2 [.val (.ref nw), .unset, .unset, .unset, .unset, .unset, .unset]) [(.int cnd), (.int (1 : Int32)), (.ref nw), (.ref b40), (.ref b37), (.ref b37), (.ref b2)])) rfl (by rw [hml]; rfl) (Steps.refl _) (a := b37) (argsL := [(.ref b40), (.ref nw), (.int (1 : Int32)), (.int cnd)]) (rest := [(.ref b37), (.ref b2)]) (lenOf pd__Ljava_lang_String_Lcom_example_goldweave_goldweave_engine_linking_Registration_Change_ZI_V rfl) rfl (by show 2 * 0 + _ ≤ _; exact Nat.le_of_eq rfl) (hb hby at_106) (fun _ _ => ⟨rfl, e40, (by decide : 4 + 0 ≤ _), (by decide : 24 + 0 ≤ _)⟩)
    dsimp only [Pt.U, Pt.locs, Pt.cells, Pt.slots] at X50 l50 y50 z50 st50 hQ50
    try dsimp only [Nat.reduceAdd] at y50 z50
    rw [l50, y50, z50] at X50
    obtain ⟨rfl, Nq50, Kq50, q50_0, q50_1, q50_2, q50_3, q50_4⟩ := hQ50
    have N50 := Fr.app N7 Nq50
    have Sa51 : ∀ y ∈ [b37], Safe Z own_EL T40.vm h40 y := (sfS (Safe.exa hZ.alike f45 (by decide) (by decide)) sf0)
    have CH51 := CH42.keep Kq50 Sa51
    have CR51 := CHr.trans CR42 (CHr.keep Kq50 Sa51 CH42)
    have K52 : Keep h0 T50.heap [] := K43.trans Kq50 (allS (Or.inr B37) all0)
    refine own_tr st50 ?_
    have f53 := (Nat.le_trans f44 Kq50.1)
    have f54 := (((q7_0.ext E37).ext E40).keep Kq50)
    have f55 := (((q7_1.ext E37).ext E40).keep Kq50 (ninS (Nat.ne_of_lt (Nat.lt_of_lt_of_le q7_0.lt (Nat.le_of_eq g37.symm))) nin0))
    have f56 := (((q7_5.ext E37).ext E40).keep Kq50 (ninS (Nat.ne_of_lt (Nat.lt_of_lt_of_le q7_0.lt (Nat.le_of_eq g37.symm))) nin0))
    have f57 := (((q7_6.ext E37).ext E40).keep Kq50 (ninS (Nat.ne_of_lt (Nat.lt_of_lt_of_le q7_0.lt (Nat.le_of_eq g37.symm))) nin0))
    have f58 := (((q7_7.ext E37).ext E40).keep Kq50 (ninS (Nat.ne_of_lt (Nat.lt_of_lt_of_le q7_0.lt (Nat.le_of_eq g37.symm))) nin0))
    have f59 := (((q7_2.ext E37).ext E40).keep Kq50 (ninS (Nat.ne_of_lt (Nat.lt_of_lt_of_le q7_0.lt (Nat.le_of_eq g37.symm))) nin0))
    have f60 := (((q7_8.ext E37).ext E40).keep Kq50 (ninS (Nat.ne_of_lt (Nat.lt_of_lt_of_le q7_0.lt (Nat.le_of_eq g37.symm))) nin0))
    have f61 := (((q7_9.ext E37).ext E40).keep Kq50 (ninS (Nat.ne_of_lt (Nat.lt_of_lt_of_le q7_0.lt (Nat.le_of_eq g37.symm))) nin0))
    have f62 := (((q7_10.ext E37).ext E40).keep Kq50 (ninS (Nat.ne_of_lt (Nat.lt_of_lt_of_le q7_0.lt (Nat.le_of_eq g37.symm))) nin0))
    have f63 := (((f34.ext E37).ext E40).keep Kq50 (allS G37 all0))
    obtain ⟨cq64, kq64, qa64, qb64, qc64⟩ := isOf hZ rfl f54
    obtain ⟨_, _, ⟨T64, L64, k64, n64⟩, -, X64, ⟨Lc64, hQ64, l64, y64, z64⟩, st64⟩ := X50.virtualBack hx (y := own_y37) (z := own_y37) hown (mvT hZ (own_w hw 49 rfl)) (mvT hZ (own_w hw 50 rfl)) (notFace_of_selects (args := #[]) (mvT hZ (own_w hw 52 rfl))) (mvT hZ (own_w hw 52 rfl)) (mvT hZ (own_w hw 51 rfl)) (by decide) (backOf (W := 0) (rmAd1 l Z a0 hw [] b2 b37 cnd r1_7 ((0 : Int64)) ((0 : Int64)) ((0 : Int64)) j1_7 ((0 : Int64)) ((0 : Int64)) ((0 : Int64)) nw up un T50.heap n0 f53 f54 f55 f56 f57 f58 f59 f60 f61 f62 q50_0 q50_2 q50_3 q50_4 G2 pS_NEW pS_UPDATED pS_UNCHANGED hun hcn hcu f63) hZ (own_w hw 53 rfl) (own_w hw 7 rfl) (by decide) (by decide)) qa64 qc64 (g := (mkF m 109 (own_AL p0 p1 p2 p3 kI r_1 (1 : Int32) cnd b2 [.val (.ref nw), .unset, .unset, .unset, .unset, .unset, .unset]) [(.ref b37), (.ref b2)])) rfl (by rw [hml]; rfl) (Steps.refl _) (argsL := [(.ref b37)]) (rest := []) (lenOf pd__Lcom_example_goldweave_goldweave_engine_linking_Registration__V rfl) rfl (by show 2 * 0 + _ ≤ _; exact Nat.le_of_eq rfl) (hb hby at_109) (fun _ _ => ⟨rfl, rfl, (by decide : 4 + 0 ≤ _), (by decide : 24 + 0 ≤ _)⟩)
    dsimp only [Pt.U, Pt.locs, Pt.cells, Pt.slots] at X64 l64 y64 z64 st64 hQ64
    try dsimp only [Nat.reduceAdd] at y64 z64
    rw [l64, y64, z64] at X64
    obtain ⟨rfl, Nq64, Kq64, q64_0, q64_1, q64_2, q64_3, q64_4, q64_5, q64_6, q64_7, q64_8⟩ := hQ64
    have N64 := Fr.app N50 Nq64
    have Sa65 : ∀ y ∈ [b2], Safe Z own_EL T40.vm T50.heap y := (sfS (Safe.exa hZ.alike f54 (by decide) (by decide)) sf0)
    have CH65 := CH51.keep Kq64 Sa65
    have CR65 := CHr.trans CR51 (CHr.keep Kq64 Sa65 CH51)
    have K66 : Keep h0 T64.heap [] := K52.trans Kq64 (allS (Or.inr B2) all0)
    refine own_tr st64 ?_
    have hr2 := own_inc hr_ (by omega)
    refine own_st (fun t_ k_ => XS.aload X64.here hx rfl (hb hby at_112) rfl rfl (XS.iload X64.here hx rfl (hb hby at_114) rfl (XS.iload X64.here hx rfl (hb hby at_116) rfl (XS.isub X64.here hx rfl (hb hby at_118) rfl k_)))) ?_
    show own_Go p e below T64 (mkF m 119 (own_AL p0 p1 p2 p3 kI r_1 (1 : Int32) cnd b2 [.val (.ref nw), .unset, .unset, .unset, .unset, .unset, .unset]) [(.int (kI - r_1)), (.ref b2)]) _
    have f67 := (Nat.le_trans f53 Kq64.1)
    obtain ⟨_, _, ⟨T68, L68, k68, n68⟩, -, X68, ⟨Lc68, hQ68, l68, y68, z68⟩, st68⟩ := Jvm.LawKit.callS X64 hx (y := own_y31) hown (mvT hZ (own_w hw 14 rfl)) (mvT hZ (own_w hw 15 rfl)) (mvT hZ (own_w hw 16 rfl)) (mvT hZ (own_w hw 17 rfl)) (by decide) (backOf (W := 0) (rmRt l Z a0 hw [] b2 ((kI - r_1)) ((kN - bN)) ((r1_7 + (1 : Int64))) j1_7 ((0 + bN + 1)) ((0 + bN)) (((0 : Int64) + (1 : Int64))) ((0 : Int64)) ((0 : Int64)) ((0 : Int64)) (((0 : Int64) + (1 : Int64))) (((0 : Int64) + cnd.toInt64)) T64.heap n0 f67 q64_0 q64_1 q64_5 q64_2 q64_3 q64_4 q64_6 q64_7 q64_8 G2 hkb (by omega) hr2 hj_ (by omega) (by omega)) hZ (own_w hw 17 rfl) (own_w hw 16 rfl) (by decide) (by decide)) (g := (mkF m 119 (own_AL p0 p1 p2 p3 kI r_1 (1 : Int32) cnd b2 [.val (.ref nw), .unset, .unset, .unset, .unset, .unset, .unset]) [(.int (kI - r_1)), (.ref b2)])) rfl (by rw [hml]; rfl) (argsL := [(.ref b2), (.int (kI - r_1))]) (rest := []) (lenOf pd__Lcom_example_goldweave_goldweave_server_cli_LoadSummary_I_V rfl) rfl (by show 2 * 0 + _ ≤ _; exact Nat.le_of_eq rfl) (hb hby at_119) (fun _ _ => ⟨rfl, rfl, (by decide : 4 + 0 ≤ _), (by decide : 24 + 0 ≤ _)⟩)
    dsimp only [Pt.U, Pt.locs, Pt.cells, Pt.slots] at X68 l68 y68 z68 st68 hQ68
    try dsimp only [Nat.reduceAdd] at y68 z68
    rw [l68, y68, z68] at X68
    obtain ⟨r1_68, j1_68, rfl, Nq68, Kq68, q68_0, q68_1, q68_2, q68_3, q68_4, q68_5, q68_6, q68_7, q68_8, q68_9, q68_10⟩ := hQ68
    have N68 := Fr.app N64 Nq68
    have Sa69 : ∀ y ∈ [b2], Safe Z own_EL T40.vm T64.heap y := (sfS (Safe.exa hZ.alike q64_0 (by decide) (by decide)) sf0)
    have CH69 := CH65.keep Kq68 Sa69
    have CR69 := CHr.trans CR65 (CHr.keep Kq68 Sa69 CH65)
    have K70 : Keep h0 T68.heap [] := K66.trans Kq68 (allS (Or.inr B2) all0)
    refine own_st st68 ?_
    have hd0 : r1_68.toInt = ((kN + 1 : Nat) : Int) := by rw [q68_3]; omega
    have hd4 : j1_68.toInt = (kN : Int) := by rw [q68_4]; omega
    have hd7 := own_addJ (show (0 : Int64).toInt = ((0 : Nat) : Int) from rfl) hc (by omega) (by omega)
    rw [Nat.zero_add] at hd7
    refine own_st (fun t_ k_ => XS.iload X68.here hx rfl (hb hby at_122) rfl (XS.ifNo X68.here hx rfl (hb hby at_124) rfl (by decide) (XS.iconst X68.here hx rfl (hb hby at_127) (XS.goto X68.here hx rfl (pc0 := 128) (pc' := 132) rfl (hb hby at_128) (by decide) (by decide) (XS.istore X68.here hx rfl (hb hby at_132) rfl (l' := (own_AL p0 p1 p2 p3 kI r_1 (1 : Int32) cnd b2 [.val (.int (1 : Int32)), .unset, .unset, .unset, .unset, .unset, .unset])) rfl (XS.iload X68.here hx rfl (hb hby at_134) rfl (XS.iconst X68.here hx rfl (hb hby at_136) (XS.icmpYes X68.here hx rfl (pc0 := 137) (pc' := 146) rfl (hb hby at_137) rfl (by decide) (by decide) (by decide) (XS.iconst X68.here hx rfl (hb hby at_146) (XS.goto X68.here hx rfl (pc0 := 147) (pc' := 151) rfl (hb hby at_147) (by decide) (by decide) k_)))))))))) ?_
    show own_Go p e below T68 (mkF m 151 (own_AL p0 p1 p2 p3 kI r_1 (1 : Int32) cnd b2 [.val (.int (1 : Int32)), .unset, .unset, .unset, .unset, .unset, .unset]) [(.int (1 : Int32))]) _
    refine own_st (fun t_ k_ => XS.istore X68.here hx rfl (hb hby at_151) rfl (l' := (own_AL p0 p1 p2 p3 kI r_1 (1 : Int32) cnd b2 [.val (.int (1 : Int32)), .val (.int (1 : Int32)), .unset, .unset, .unset, .unset, .unset])) rfl (XS.iload X68.here hx rfl (hb hby at_153) rfl (XS.iconst X68.here hx rfl (hb hby at_155) (XS.icmpYes X68.here hx rfl (pc0 := 156) (pc' := 163) rfl (hb hby at_156) rfl (by decide) (by decide) (by decide) (XS.iconst X68.here hx rfl (hb hby at_163) (XS.istore X68.here hx rfl (hb hby at_164) rfl (l' := (own_AL p0 p1 p2 p3 kI r_1 (1 : Int32) cnd b2 [.val (.int (1 : Int32)), .val (.int (1 : Int32)), .val (.int (0 : Int32)), .unset, .unset, .unset, .unset])) rfl (XS.iload X68.here hx rfl (hb hby at_166) rfl (XS.iconst X68.here hx rfl (hb hby at_168) (XS.icmpYes X68.here hx rfl (pc0 := 169) (pc' := 176) rfl (hb hby at_169) rfl (by decide) (by decide) (by decide) (XS.iconst X68.here hx rfl (hb hby at_176) k_)))))))))) ?_
    show own_Go p e below T68 (mkF m 177 (own_AL p0 p1 p2 p3 kI r_1 (1 : Int32) cnd b2 [.val (.int (1 : Int32)), .val (.int (1 : Int32)), .val (.int (0 : Int32)), .unset, .unset, .unset, .unset]) [(.int (0 : Int32))]) _
    refine own_st (fun t_ k_ => XS.istore X68.here hx rfl (hb hby at_177) rfl (l' := (own_AL p0 p1 p2 p3 kI r_1 (1 : Int32) cnd b2 [.val (.int (1 : Int32)), .val (.int (1 : Int32)), .val (.int (0 : Int32)), .val (.int (0 : Int32)), .unset, .unset, .unset])) rfl (XS.iload X68.here hx rfl (hb hby at_179) rfl (XS.iconst X68.here hx rfl (hb hby at_181) (XS.icmpYes X68.here hx rfl (pc0 := 182) (pc' := 189) rfl (hb hby at_182) rfl (by decide) (by decide) (by decide) (XS.iconst X68.here hx rfl (hb hby at_189) (XS.istore X68.here hx rfl (hb hby at_190) rfl (l' := (own_AL p0 p1 p2 p3 kI r_1 (1 : Int32) cnd b2 [.val (.int (1 : Int32)), .val (.int (1 : Int32)), .val (.int (0 : Int32)), .val (.int (0 : Int32)), .val (.int (0 : Int32)), .unset, .unset])) rfl (XS.iload X68.here hx rfl (hb hby at_192) rfl (XS.iconst X68.here hx rfl (hb hby at_194) (XS.icmpNo X68.here hx rfl (hb hby at_195) rfl (by decide) (XS.iconst X68.here hx rfl (hb hby at_198) k_)))))))))) ?_
    show own_Go p e below T68 (mkF m 199 (own_AL p0 p1 p2 p3 kI r_1 (1 : Int32) cnd b2 [.val (.int (1 : Int32)), .val (.int (1 : Int32)), .val (.int (0 : Int32)), .val (.int (0 : Int32)), .val (.int (0 : Int32)), .unset, .unset]) [(.int (1 : Int32))]) _
    refine own_st (fun t_ k_ => XS.goto X68.here hx rfl (pc0 := 199) (pc' := 203) rfl (hb hby at_199) (by decide) (by decide) (XS.istore X68.here hx rfl (hb hby at_203) rfl (l' := (own_AL p0 p1 p2 p3 kI r_1 (1 : Int32) cnd b2 [.val (.int (1 : Int32)), .val (.int (1 : Int32)), .val (.int (0 : Int32)), .val (.int (0 : Int32)), .val (.int (0 : Int32)), .val (.int (1 : Int32)), .unset])) rfl (XS.iload X68.here hx rfl (hb hby at_205) rfl (XS.ifNo X68.here hx rfl (hb hby at_207) rfl (by decide) (XS.iload X68.here hx rfl (hb hby at_210) rfl (XS.goto X68.here hx rfl (pc0 := 212) (pc' := 216) rfl (hb hby at_212) (by decide) (by decide) (XS.istore X68.here hx rfl (hb hby at_216) rfl (l' := (own_AL p0 p1 p2 p3 kI r_1 (1 : Int32) cnd b2 [.val (.int (1 : Int32)), .val (.int (1 : Int32)), .val (.int (0 : Int32)), .val (.int (0 : Int32)), .val (.int (0 : Int32)), .val (.int (1 : Int32)), .val (.int cnd)])) rfl (XS.aload X68.here hx rfl (hb hby at_218) rfl rfl k_)))))))) ?_
    show own_Go p e below T68 (mkF m 220 (own_AL p0 p1 p2 p3 kI r_1 (1 : Int32) cnd b2 [.val (.int (1 : Int32)), .val (.int (1 : Int32)), .val (.int (0 : Int32)), .val (.int (0 : Int32)), .val (.int (0 : Int32)), .val (.int (1 : Int32)), .val (.int cnd)]) [(.ref b2)]) _
    have f71 := (Nat.le_trans f67 Kq68.1)
    have f72 := ((f63.keep Kq64 (allS G2 all0)).keep Kq68 (allS G2 all0))
    have f74 := (Nat.le_trans (Nat.le_trans (Nat.le_trans hk40 Kq50.1) Kq64.1) Kq68.1)
    obtain ⟨cq73, kq73, qa73, qb73, qc73⟩ := isOf hZ rfl q68_0
    obtain ⟨_, _, ⟨T73, L73, k73, n73⟩, -, Xa73, hSa73, hGa73, ⟨Lc73, hQ73, l73, y73, z73, A73⟩, st73⟩ := X68.virtualBackS hx (y := own_y38) (z := own_y38) hown (mvT hZ (own_w hw 78 rfl)) (mvT hZ (own_w hw 79 rfl)) (notFace_of_selects (args := #[]) (mvT hZ (own_w hw 81 rfl))) (mvT hZ (own_w hw 81 rfl)) (mvT hZ (own_w hw 80 rfl)) (by decide) (backOfSH (W := 0) (rmTo l Z a0 hw [] b2 r1_68 (((0 : Int64) + (1 : Int64))) ((0 : Int64)) ((0 : Int64)) j1_68 ((0 : Int64)) (((0 : Int64) + (1 : Int64))) (((0 : Int64) + cnd.toInt64)) ((kN + 1)) 1 0 0 kN 0 1 cN zc dg _ T68.heap n0 f71 q68_0 q68_1 q68_5 q68_6 q68_7 q68_2 q68_8 q68_9 q68_10 hd0 (by omega) rfl (by decide) rfl (by decide) rfl (by decide) hd4 (by omega) rfl (by decide) rfl (by decide) hd7 (by omega) pS_DigitOnes pD pS_COMPACT_STRINGS pP5 f72) hZ (own_w hw 82 rfl) (own_w hw 7 rfl) (by decide) (by decide) hEL CH69) qa73 qc73 (g := (mkF m 220 (own_AL p0 p1 p2 p3 kI r_1 (1 : Int32) cnd b2 [.val (.int (1 : Int32)), .val (.int (1 : Int32)), .val (.int (0 : Int32)), .val (.int (0 : Int32)), .val (.int (0 : Int32)), .val (.int (1 : Int32)), .val (.int cnd)]) [(.ref b2)])) rfl (by rw [hml]; rfl) (Steps.refl _) (argsL := []) (rest := []) (lenOf pd___Ljava_lang_String_ rfl) rfl (by show 2 * 0 + _ ≤ _; exact Nat.le_of_eq rfl) (hb hby at_220) (fun _ _ => ⟨rfl, rfl, (by decide : 4 + 23 ≤ _), (by decide : 24 + 870 ≤ _)⟩)
    dsimp only [Pt.U, Pt.locs, Pt.cells, Pt.slots] at Xa73 hSa73 hGa73 l73 y73 z73 A73 st73 hQ73
    try dsimp only [Nat.reduceAdd] at y73 z73
    rw [l73, y73, z73] at Xa73
    obtain ⟨X73, hS, hZ, hown⟩ := rebS hS f74 Xa73 hSa73 hGa73 hZ hown
    obtain ⟨y_73, b_73, kb_73, rfl, Nq73, Kq73, q73_0, q73_1, q73_2, q73_3⟩ := hQ73
    have N73 := Fr.app N68 Nq73
    have CH75 := A73.1
    have CR75 := CHr.trans CR69 (A73)
    have K76 : Keep h0 T73.heap [] := K70.trans Kq73 all0
    have hK73 : T73.heap.size ≤ T73.heap.size := Nat.le_refl _
    refine own_tr st73 ?_
    refine own_st (fun t_ k_ => XS.iload X73.here hx rfl (hb hby at_223) rfl (XS.iload X73.here hx rfl (hb hby at_225) rfl (XS.iadd X73.here hx rfl (hb hby at_227) rfl (XS.iload X73.here hx rfl (hb hby at_228) rfl (XS.iload X73.here hx rfl (hb hby at_230) rfl (XS.iload X73.here hx rfl (hb hby at_232) rfl (XS.iload X73.here hx rfl (hb hby at_234) rfl (XS.iload X73.here hx rfl (hb hby at_236) rfl (XS.iload X73.here hx rfl (hb hby at_238) rfl (XS.iload X73.here hx rfl (hb hby at_240) rfl k_)))))))))) ?_
    show own_Go p e below T73 (mkF m 242 (own_AL p0 p1 p2 p3 kI r_1 (1 : Int32) cnd b2 [.val (.int (1 : Int32)), .val (.int (1 : Int32)), .val (.int (0 : Int32)), .val (.int (0 : Int32)), .val (.int (0 : Int32)), .val (.int (1 : Int32)), .val (.int cnd)]) [(.int cnd), (.int (1 : Int32)), (.int (0 : Int32)), (.int kI), (.int (0 : Int32)), (.int (0 : Int32)), (.int (1 : Int32)), (.int (kI + (1 : Int32))), (.ref y_73)]) _
    have he0 : ((kI + (1 : Int32))).toInt = (((kN + 1) : Nat) : Int) := (by rw [own_add2 (by omega) (by decide) (by rw [show (1 : Int32).toInt = 1 from rfl]; omega), show (1 : Int32).toInt = 1 from rfl]; omega)
    have hg0 : (kN + 1) ≤ 9 := (by omega)
    have he1 : ((1 : Int32)).toInt = ((1 : Nat) : Int) := rfl
    have hg1 : 1 ≤ 9 := (by decide)
    have he2 : ((0 : Int32)).toInt = ((0 : Nat) : Int) := rfl
    have hg2 : 0 ≤ 9 := (by decide)
    have he3 : ((0 : Int32)).toInt = ((0 : Nat) : Int) := rfl
    have hg3 : 0 ≤ 9 := (by decide)
    have he4 : (kI).toInt = ((kN : Nat) : Int) := hk
    have hg4 : kN ≤ 9 := (by omega)
    have he5 : ((0 : Int32)).toInt = ((0 : Nat) : Int) := rfl
    have hg5 : 0 ≤ 9 := (by decide)
    have he6 : ((1 : Int32)).toInt = ((1 : Nat) : Int) := rfl
    have hg6 : 1 ≤ 9 := (by decide)
    have he7 : (cnd).toInt = ((cN : Nat) : Int) := hc
    have hg7 : cN ≤ 9 := (by omega)
    generalize (kI + (1 : Int32)) = eI at he0 ⊢
    show own_Go p e below T73 (mkF m 242 (own_AL p0 p1 p2 p3 kI r_1 (1 : Int32) cnd b2 [.val (.int (1 : Int32)), .val (.int (1 : Int32)), .val (.int (0 : Int32)), .val (.int (0 : Int32)), .val (.int (0 : Int32)), .val (.int (1 : Int32)), .val (.int cnd)]) [(.int cnd), (.int (1 : Int32)), (.int (0 : Int32)), (.int kI), (.int (0 : Int32)), (.int (0 : Int32)), (.int (1 : Int32)), (.int eI), (.ref y_73)]) _
    have f77 := (Nat.le_trans f71 Kq73.1)
    have f78 := (f72.keep Kq73 all0)
    obtain ⟨_, _, ⟨T79, L79, k79, n79⟩, -, X79, ⟨Lc79, hQ79, l79, y79, z79⟩, st79⟩ := Jvm.LawKit.callS X73 hx (y := own_y41) hown (mvT hZ (own_w hw 249 rfl)) (mvT hZ (own_w hw 250 rfl)) (mvT hZ (own_w hw 16 rfl)) (mvT hZ (own_w hw 251 rfl)) (by decide) (backOf (W := 1) (rmEx l Z a0 hw [] eI ((1 : Int32)) ((0 : Int32)) ((0 : Int32)) kI ((0 : Int32)) ((1 : Int32)) cnd ((kN + 1)) 1 0 0 kN 0 1 cN zc T73.heap n0 f77 he0 hg0 he1 hg1 he2 hg2 he3 hg3 he4 hg4 he5 hg5 he6 hg6 he7 hg7 pS_COMPACT_STRINGS pP5 f78) hZ (own_w hw 251 rfl) (own_w hw 16 rfl) (by decide) (by decide)) (g := (mkF m 242 (own_AL p0 p1 p2 p3 kI r_1 (1 : Int32) cnd b2 [.val (.int (1 : Int32)), .val (.int (1 : Int32)), .val (.int (0 : Int32)), .val (.int (0 : Int32)), .val (.int (0 : Int32)), .val (.int (1 : Int32)), .val (.int cnd)]) [(.int cnd), (.int (1 : Int32)), (.int (0 : Int32)), (.int kI), (.int (0 : Int32)), (.int (0 : Int32)), (.int (1 : Int32)), (.int eI), (.ref y_73)])) rfl (by rw [hml]; rfl) (argsL := [(.int eI), (.int (1 : Int32)), (.int (0 : Int32)), (.int (0 : Int32)), (.int kI), (.int (0 : Int32)), (.int (1 : Int32)), (.int cnd)]) (rest := [(.ref y_73)]) (lenOf pd__IIIIIIII_Ljava_lang_String_ rfl) rfl (by show 2 * 0 + _ ≤ _; exact Nat.le_of_eq rfl) (hb hby at_242) (fun _ _ => ⟨rfl, rfl, (by decide : 27 + 3 ≤ _), (by decide : 894 + 172 ≤ _)⟩)
    dsimp only [Pt.U, Pt.locs, Pt.cells, Pt.slots] at X79 l79 y79 z79 st79 hQ79
    try dsimp only [Nat.reduceAdd] at y79 z79
    rw [l79, y79, z79] at X79
    obtain ⟨y_79, t_79, kb_79, rfl, Nq79, Kq79, q79_0, q79_1, q79_2, q79_3⟩ := hQ79
    have N79 := Fr.app N73 Nq79
    have CH80 := CH75.keep Kq79 sf0
    have CR80 := CHr.trans CR75 (CHr.keep Kq79 sf0 CH75)
    have K81 : Keep h0 T79.heap [] := K76.trans Kq79 all0
    refine own_st st79 ?_
    have hpA : own_P (own_A2 (kN + 1) 1 0 0 kN 0 1 cN) := own_allP (own_one (own_d255 (by omega))) (own_one (own_d255 (by decide))) (own_one (own_d255 (by decide))) (own_one (own_d255 (by decide))) (own_one (own_d255 (by omega))) (own_one (own_d255 (by decide))) (own_one (own_d255 (by decide))) (own_one (own_d255 (by omega)))
    have hcd82 : StrChars.Road.CodA ((own_A2 (kN + 1) 1 0 0 kN 0 1 cN) : List Int32) 0 (84 : Int32) ((((own_A2 (kN + 1) 1 0 0 kN 0 1 cN) : List Int32).map (fun c : Int32 => c.toInt8.toInt32)).map Value.int) := StrChars.Road.codOf rfl (fun x hx => (hpA x hx).2)
    have hbd82 : ∀ x ∈ ((own_A2 (kN + 1) 1 0 0 kN 0 1 cN) : List Int32), ¬ x < 0 ∧ ¬ (65535 : Int32) < x := own_up _ hpA
    have hcd83 : StrChars.Road.CodA ((own_A2 (kN + 1) 1 0 0 kN 0 1 cN) : List Int32) 0 (84 : Int32) ((((own_A2 (kN + 1) 1 0 0 kN 0 1 cN) : List Int32).map (fun c : Int32 => c.toInt8.toInt32)).map Value.int) := StrChars.Road.codOf rfl (fun x hx => (hpA x hx).2)
    have hbd83 : ∀ x ∈ ((own_A2 (kN + 1) 1 0 0 kN 0 1 cN) : List Int32), ¬ x < 0 ∧ ¬ (65535 : Int32) < x := own_up _ hpA
    have f84 := (q73_0.keep Kq79)
    have f85 := (q73_1.keep Kq79 nin0)
    have f86 := (q73_2.keep Kq79 nin0)
    have f87 := (q73_3.keep Kq79 nin0)
    have f88 := (f78.keep Kq79 all0)
    obtain ⟨cq89, kq89, qa89, qb89, qc89⟩ := isOf hZ rfl f84
    obtain ⟨_, _, ⟨T89, L89, k89, n89⟩, -, X89, ⟨Lc89, hQ89, l89, y89, z89⟩, st89⟩ := X79.virtualBack hx (y := own_y42) (z := own_y42) hown (mvT hZ (own_w hw 273 rfl)) (mvT hZ (own_w hw 274 rfl)) (notFace_of_selects (args := #[]) (mvT hZ (own_w hw 276 rfl))) (mvT hZ (own_w hw 276 rfl)) (mvT hZ (own_w hw 275 rfl)) (by decide) (StrChars.Road.eqW (W := 0) hZ heq (kI := 4) (own_w hw 26 rfl) f84 f85 f86 f87 hcd82 hbd82 (Nat.le_of_ble_eq_true rfl) q79_0 q79_1 q79_2 q79_3 hcd83 hbd83 (Nat.le_of_ble_eq_true rfl) (pS_COMPACT_STRINGS.ext f88.2) pP5 (by decide) (by decide)) qa89 qc89 (g := (mkF m 245 (own_AL p0 p1 p2 p3 kI r_1 (1 : Int32) cnd b2 [.val (.int (1 : Int32)), .val (.int (1 : Int32)), .val (.int (0 : Int32)), .val (.int (0 : Int32)), .val (.int (0 : Int32)), .val (.int (1 : Int32)), .val (.int cnd)]) [(.ref y_79), (.ref y_73)])) rfl (by rw [hml]; rfl) (Steps.refl _) (argsL := [(.ref y_79)]) (rest := []) (lenOf pd__Ljava_lang_Object__Z rfl) rfl (by show 2 * 0 + _ ≤ _; exact Nat.le_of_eq rfl) (hb hby at_245) (fun _ _ => ⟨rfl, rfl, (by decide : 30 + 0 ≤ _), (by decide : 1066 + 0 ≤ _)⟩)
    dsimp only [Pt.U, Pt.locs, Pt.cells, Pt.slots] at X89 l89 y89 z89 st89 hQ89
    try dsimp only [Nat.reduceAdd] at y89 z89
    rw [l89, y89, z89] at X89
    obtain ⟨hcase89, rfl, eH89⟩ := hQ89
    have N89 := Fr.app N79 (Fr.nil n0)
    have hv89 : _ = some (Value.int 1) := hcase89.elim (fun q => q.1) (fun q => absurd rfl q.2)
    subst hv89
    refine own_tr st89 ?_
    have f90 := (Nat.le_trans hK73 Kq79.1)
    obtain ⟨fs, hr, hrun, hended, hRW⟩ := X89.leaveW hS (by rw [eH89]; exact f90) (v := some (.int (1 : Int32))) (fun h => by rw [Bd.returns] at h; cases h)
    have hCend : CHr Z own_EL s.vm s.heap T89.vm T89.heap := by
      rw [hh, eH89]
      exact CHr.trans CR80 (CHv.at X89 hZ hEL CH80)
    refine own_fin (retN X89 hx (t := .boolean) Bd.returns (by simp) (hb hby at_248) hr) ⟨hrun, hended, _, _, rfl, ?_, hCend, hRW.1, hRW.2.1, hRW.2.2.1, hRW.2.2.2.mono (by decide) (by decide)⟩
    show Q_rmLaw Z p0 p1 p2 p3 zc dg kd nw up un h0 n0 _ T89.heap _
    rw [eH89]
    exact ⟨rfl, N89, K81⟩
  · skip
    show own_Go p e below T7 (mkF m 47 (own_AU p0 p1 p2 p3 kI r_1 (2 : Int32) cnd b2) [(.int (2 : Int32))]) _
    refine own_st (fun t_ k_ => XS.ifNo X7.here hx rfl (hb hby at_47) rfl (by decide) (XS.iload X7.here hx rfl (hb hby at_50) rfl (XS.iconst X7.here hx rfl (hb hby at_52) (XS.icmpNo X7.here hx rfl (hb hby at_53) rfl (by decide) k_)))) ?_
    show own_Go p e below T7 (mkF m 56 (own_AU p0 p1 p2 p3 kI r_1 (2 : Int32) cnd b2) []) _
    have f91 := ((pO.ext E2).keep Kq7 (allS G2 all0))
    obtain ⟨T92, X92, e92, st92⟩ := getS2 X7 hx hZ hown (host := "") (Or.inl (own_w hw 18 rfl)) Via.refl rfl (pS_NEW.ext f91.2) (g := (mkF m 56 (own_AU p0 p1 p2 p3 kI r_1 (2 : Int32) cnd b2) [])) rfl (hb hby at_56)
    refine own_st st92 ?_
    refine own_st (fun t_ k_ => XS.astore X92.here hx rfl (hb hby at_59) rfl rfl (l' := (own_AL p0 p1 p2 p3 kI r_1 (2 : Int32) cnd b2 [.val (.ref nw), .unset, .unset, .unset, .unset, .unset, .unset])) rfl (XS.goto X92.here hx rfl (pc0 := 61) (pc' := 83) rfl (hb hby at_61) (by decide) (by decide) (XS.aload X92.here hx rfl (hb hby at_83) rfl rfl k_))) ?_
    have f93 := (Nat.le_trans f5 Kq7.1)
    obtain ⟨T94, h94, X94, e94, E94, A94, D94, -, st94⟩ := newO X92 hx hZ hown (own_w hw 21 rfl) (own_w hw 22 rfl) (own_w hw 23 rfl) e92 (g := (mkF m 85 (own_AL p0 p1 p2 p3 kI r_1 (2 : Int32) cnd b2 [.val (.ref nw), .unset, .unset, .unset, .unset, .unset, .unset]) [(.ref b2)])) rfl (hb hby at_85) (by decide) (by decide)
    obtain ⟨b94, g94⟩ : ∃ z, z = T7.heap.size := ⟨_, rfl⟩
    rw [← g94] at A94 D94 st94
    have G94 : n0 ≤ b94 := Nat.le_trans f93 (Nat.le_of_eq g94.symm)
    have B94 : h0.size ≤ b94 := Nat.le_trans K9.1 (Nat.le_of_eq g94.symm)
    have CH95 := CH8.ext E94
    have CR95 := CHr.trans CR8 (CHr.ext E94 CH8)
    have K96 : Keep h0 h94 [] := K9.ext E94
    have D94_localId : Fld Z h94 b94 "com/example/goldweave/goldweave/engine/linking/Registration" "localId" "Ljava/lang/String;" .null := D94 (Or.inr (own_w hw 42 rfl)) (ty := (.object "java/lang/String")) (by decide)
    have D94_change : Fld Z h94 b94 "com/example/goldweave/goldweave/engine/linking/Registration" "change" "Lcom/example/goldweave/goldweave/engine/linking/Registration$Change;" .null := D94 (Or.inr (own_w hw 44 rfl)) (ty := (.object "com/example/goldweave/goldweave/engine/linking/Registration$Change")) (by decide)
    have D94_newGoldenRecord : Fld Z h94 b94 "com/example/goldweave/goldweave/engine/linking/Registration" "newGoldenRecord" "Z" (.int (0 : Int32)) := D94 (Or.inr (own_w hw 46 rfl)) (ty := .boolean) (by decide)
    have D94_candidateLinks : Fld Z h94 b94 "com/example/goldweave/goldweave/engine/linking/Registration" "candidateLinks" "I" (.int (0 : Int32)) := D94 (Or.inr (own_w hw 48 rfl)) (ty := .int) (by decide)
    refine own_st st94 ?_
    refine own_st (fun t_ k_ => XS.dup X94.here hx rfl (hb hby at_88) rfl rfl k_) ?_
    have f98 := (Nat.le_trans (Nat.le_trans (Nat.le_trans hK0 E2.1) Kq7.1) E94.1)
    obtain ⟨b97, T97, h97, k97, X97, e97, E97, hS, hk97, hZ, hown, A97, -, st97⟩ := ldcOH X94 hx hZ hown (own_w hw 24 rfl) (own_wS hw) e94 hS f98 hEL CH95 (g := (mkF m 89 (own_AL p0 p1 p2 p3 kI r_1 (2 : Int32) cnd b2 [.val (.ref nw), .unset, .unset, .unset, .unset, .unset, .unset]) [(.ref b94), (.ref b94), (.ref b2)])) rfl (hb hby at_89) (n := 8) (by decide) (by decide) (by decide) (by decide)
    have CH99 := A97.1
    have CR99 := CHr.trans CR95 (A97)
    have K100 : Keep h0 h97 [] := K96.ext E97
    refine own_st st97 ?_
    refine own_st (fun t_ k_ => XS.aload X97.here hx rfl (hb hby at_91) rfl rfl (XS.iload X97.here hx rfl (hb hby at_93) rfl (XS.iconst X97.here hx rfl (hb hby at_95) (XS.icmpYes X97.here hx rfl (pc0 := 96) (pc' := 103) rfl (hb hby at_96) rfl (by decide) (by decide) (by decide) (XS.iconst X97.here hx rfl (hb hby at_103) (XS.iload X97.here hx rfl (hb hby at_104) rfl k_)))))) ?_
    show own_Go p e below T97 (mkF m 106 (own_AL p0 p1 p2 p3 kI r_1 (2 : Int32) cnd b2 [.val (.ref nw), .unset, .unset, .unset, .unset, .unset, .unset]) [(.int cnd), (.int (0 : Int32)), (.ref nw), (.ref b97), (.ref b94), (.ref b94), (.ref b2)]) _
    have f101 := (Nat.le_trans (Nat.le_trans f93 E94.1) E97.1)
    have f102 := (A94.ext E97)
    have f103 := (D94_localId.ext E97)
    have f104 := (D94_change.ext E97)
    have f105 := (D94_newGoldenRecord.ext E97)
    have f106 := (D94_candidateLinks.ext E97)
    obtain ⟨_, _, ⟨T107, L107, k107, n107⟩, -, X107, ⟨Lc107, hQ107, l107, y107, z107⟩, st107⟩ := X97.specialBack hx (y := own_y33) rfl hown (mvT hZ (own_w hw 32 rfl)) (mvT hZ (own_w hw 33 rfl)) (mvT hZ (own_w hw 34 rfl)) (by decide) (backOf (W := 2) (rmRi0 l Z a0 hw [] b94 b97 nw cnd .null .null ((.int (0 : Int32))) ((.int (0 : Int32))) h97 n0 f101 f102 f103 f104 f105 f106 G94) hZ (own_w hw 34 rfl) (own_w hw 23 rfl) (by decide) (by decide)) (g := (mkF m 106 (own_AL p0 p1 p2 p3 kI r_1 (2 : Int32) cnd b2 [.val (.ref nw), .unset, .unset, .unset, .unset, .unset, .unset]) [(.int cnd), (.int (0 : Int32)), (.ref nw), (.ref b97), (.ref b94), (.ref b94), (.ref b2)])) rfl (by rw [hml]; rfl) (Steps.refl _) (a := b94) (argsL := [(.ref b97), (.ref nw), (.int (0 : Int32)), (.int cnd)]) (rest := [(.ref b94), (.ref b2)]) (lenOf pd__Ljava_lang_String_Lcom_example_goldweave_goldweave_engine_linking_Registration_Change_ZI_V rfl) rfl (by show 2 * 0 + _ ≤ _; exact Nat.le_of_eq rfl) (hb hby at_106) (fun _ _ => ⟨rfl, e97, (by decide : 4 + 0 ≤ _), (by decide : 24 + 0 ≤ _)⟩)
    dsimp only [Pt.U, Pt.locs, Pt.cells, Pt.slots] at X107 l107 y107 z107 st107 hQ107
    try dsimp only [Nat.reduceAdd] at y107 z107
    rw [l107, y107, z107] at X107
    obtain ⟨rfl, Nq107, Kq107, q107_0, q107_1, q107_2, q107_3, q107_4⟩ := hQ107
    have N107 := Fr.app N7 Nq107
    have Sa108 : ∀ y ∈ [b94], Safe Z own_EL T97.vm h97 y := (sfS (Safe.exa hZ.alike f102 (by decide) (by decide)) sf0)
    have CH108 := CH99.keep Kq107 Sa108
    have CR108 := CHr.trans CR99 (CHr.keep Kq107 Sa108 CH99)
    have K109 : Keep h0 T107.heap [] := K100.trans Kq107 (allS (Or.inr B94) all0)
    refine own_tr st107 ?_
    have f110 := (Nat.le_trans f101 Kq107.1)
    have f111 := (((q7_0.ext E94).ext E97).keep Kq107)
    have f112 := (((q7_1.ext E94).ext E97).keep Kq107 (ninS (Nat.ne_of_lt (Nat.lt_of_lt_of_le q7_0.lt (Nat.le_of_eq g94.symm))) nin0))
    have f113 := (((q7_5.ext E94).ext E97).keep Kq107 (ninS (Nat.ne_of_lt (Nat.lt_of_lt_of_le q7_0.lt (Nat.le_of_eq g94.symm))) nin0))
    have f114 := (((q7_6.ext E94).ext E97).keep Kq107 (ninS (Nat.ne_of_lt (Nat.lt_of_lt_of_le q7_0.lt (Nat.le_of_eq g94.symm))) nin0))
    have f115 := (((q7_7.ext E94).ext E97).keep Kq107 (ninS (Nat.ne_of_lt (Nat.lt_of_lt_of_le q7_0.lt (Nat.le_of_eq g94.symm))) nin0))
    have f116 := (((q7_2.ext E94).ext E97).keep Kq107 (ninS (Nat.ne_of_lt (Nat.lt_of_lt_of_le q7_0.lt (Nat.le_of_eq g94.symm))) nin0))
    have f117 := (((q7_8.ext E94).ext E97).keep Kq107 (ninS (Nat.ne_of_lt (Nat.lt_of_lt_of_le q7_0.lt (Nat.le_of_eq g94.symm))) nin0))
    have f118 := (((q7_9.ext E94).ext E97).keep Kq107 (ninS (Nat.ne_of_lt (Nat.lt_of_lt_of_le q7_0.lt (Nat.le_of_eq g94.symm))) nin0))
    have f119 := (((q7_10.ext E94).ext E97).keep Kq107 (ninS (Nat.ne_of_lt (Nat.lt_of_lt_of_le q7_0.lt (Nat.le_of_eq g94.symm))) nin0))
    have f120 := (((f91.ext E94).ext E97).keep Kq107 (allS G94 all0))
    obtain ⟨cq121, kq121, qa121, qb121, qc121⟩ := isOf hZ rfl f111
    obtain ⟨_, _, ⟨T121, L121, k121, n121⟩, -, X121, ⟨Lc121, hQ121, l121, y121, z121⟩, st121⟩ := X107.virtualBack hx (y := own_y37) (z := own_y37) hown (mvT hZ (own_w hw 49 rfl)) (mvT hZ (own_w hw 50 rfl)) (notFace_of_selects (args := #[]) (mvT hZ (own_w hw 52 rfl))) (mvT hZ (own_w hw 52 rfl)) (mvT hZ (own_w hw 51 rfl)) (by decide) (backOf (W := 0) (rmAd2 l Z a0 hw [] b2 b94 cnd r1_7 ((0 : Int64)) ((0 : Int64)) ((0 : Int64)) j1_7 ((0 : Int64)) ((0 : Int64)) ((0 : Int64)) nw up un T107.heap n0 f110 f111 f112 f113 f114 f115 f116 f117 f118 f119 q107_0 q107_2 q107_3 q107_4 G2 pS_NEW pS_UPDATED pS_UNCHANGED hun hcn hcu f120) hZ (own_w hw 53 rfl) (own_w hw 7 rfl) (by decide) (by decide)) qa121 qc121 (g := (mkF m 109 (own_AL p0 p1 p2 p3 kI r_1 (2 : Int32) cnd b2 [.val (.ref nw), .unset, .unset, .unset, .unset, .unset, .unset]) [(.ref b94), (.ref b2)])) rfl (by rw [hml]; rfl) (Steps.refl _) (argsL := [(.ref b94)]) (rest := []) (lenOf pd__Lcom_example_goldweave_goldweave_engine_linking_Registration__V rfl) rfl (by show 2 * 0 + _ ≤ _; exact Nat.le_of_eq rfl) (hb hby at_109) (fun _ _ => ⟨rfl, rfl, (by decide : 4 + 0 ≤ _), (by decide : 24 + 0 ≤ _)⟩)
    dsimp only [Pt.U, Pt.locs, Pt.cells, Pt.slots] at X121 l121 y121 z121 st121 hQ121
    try dsimp only [Nat.reduceAdd] at y121 z121
    rw [l121, y121, z121] at X121
    obtain ⟨rfl, Nq121, Kq121, q121_0, q121_1, q121_2, q121_3, q121_4, q121_5, q121_6, q121_7, q121_8⟩ := hQ121
    have N121 := Fr.app N107 Nq121
    have Sa122 : ∀ y ∈ [b2], Safe Z own_EL T97.vm T107.heap y := (sfS (Safe.exa hZ.alike f111 (by decide) (by decide)) sf0)
    have CH122 := CH108.keep Kq121 Sa122
    have CR122 := CHr.trans CR108 (CHr.keep Kq121 Sa122 CH108)
    have K123 : Keep h0 T121.heap [] := K109.trans Kq121 (allS (Or.inr B2) all0)
    refine own_tr st121 ?_
    have hr2 := own_inc hr_ (by omega)
    refine own_st (fun t_ k_ => XS.aload X121.here hx rfl (hb hby at_112) rfl rfl (XS.iload X121.here hx rfl (hb hby at_114) rfl (XS.iload X121.here hx rfl (hb hby at_116) rfl (XS.isub X121.here hx rfl (hb hby at_118) rfl k_)))) ?_
    show own_Go p e below T121 (mkF m 119 (own_AL p0 p1 p2 p3 kI r_1 (2 : Int32) cnd b2 [.val (.ref nw), .unset, .unset, .unset, .unset, .unset, .unset]) [(.int (kI - r_1)), (.ref b2)]) _
    have f124 := (Nat.le_trans f110 Kq121.1)
    obtain ⟨_, _, ⟨T125, L125, k125, n125⟩, -, X125, ⟨Lc125, hQ125, l125, y125, z125⟩, st125⟩ := Jvm.LawKit.callS X121 hx (y := own_y31) hown (mvT hZ (own_w hw 14 rfl)) (mvT hZ (own_w hw 15 rfl)) (mvT hZ (own_w hw 16 rfl)) (mvT hZ (own_w hw 17 rfl)) (by decide) (backOf (W := 0) (rmRt l Z a0 hw [] b2 ((kI - r_1)) ((kN - bN)) ((r1_7 + (1 : Int64))) j1_7 ((0 + bN + 1)) ((0 + bN)) (((0 : Int64) + (1 : Int64))) ((0 : Int64)) ((0 : Int64)) (((0 : Int64) + (1 : Int64))) ((0 : Int64)) (((0 : Int64) + cnd.toInt64)) T121.heap n0 f124 q121_0 q121_1 q121_5 q121_2 q121_3 q121_4 q121_6 q121_7 q121_8 G2 hkb (by omega) hr2 hj_ (by omega) (by omega)) hZ (own_w hw 17 rfl) (own_w hw 16 rfl) (by decide) (by decide)) (g := (mkF m 119 (own_AL p0 p1 p2 p3 kI r_1 (2 : Int32) cnd b2 [.val (.ref nw), .unset, .unset, .unset, .unset, .unset, .unset]) [(.int (kI - r_1)), (.ref b2)])) rfl (by rw [hml]; rfl) (argsL := [(.ref b2), (.int (kI - r_1))]) (rest := []) (lenOf pd__Lcom_example_goldweave_goldweave_server_cli_LoadSummary_I_V rfl) rfl (by show 2 * 0 + _ ≤ _; exact Nat.le_of_eq rfl) (hb hby at_119) (fun _ _ => ⟨rfl, rfl, (by decide : 4 + 0 ≤ _), (by decide : 24 + 0 ≤ _)⟩)
    dsimp only [Pt.U, Pt.locs, Pt.cells, Pt.slots] at X125 l125 y125 z125 st125 hQ125
    try dsimp only [Nat.reduceAdd] at y125 z125
    rw [l125, y125, z125] at X125
    obtain ⟨r1_125, j1_125, rfl, Nq125, Kq125, q125_0, q125_1, q125_2, q125_3, q125_4, q125_5, q125_6, q125_7, q125_8, q125_9, q125_10⟩ := hQ125
    have N125 := Fr.app N121 Nq125
    have Sa126 : ∀ y ∈ [b2], Safe Z own_EL T97.vm T121.heap y := (sfS (Safe.exa hZ.alike q121_0 (by decide) (by decide)) sf0)
    have CH126 := CH122.keep Kq125 Sa126
    have CR126 := CHr.trans CR122 (CHr.keep Kq125 Sa126 CH122)
    have K127 : Keep h0 T125.heap [] := K123.trans Kq125 (allS (Or.inr B2) all0)
    refine own_st st125 ?_
    have hd0 : r1_125.toInt = ((kN + 1 : Nat) : Int) := by rw [q125_3]; omega
    have hd4 : j1_125.toInt = (kN : Int) := by rw [q125_4]; omega
    have hd7 := own_addJ (show (0 : Int64).toInt = ((0 : Nat) : Int) from rfl) hc (by omega) (by omega)
    rw [Nat.zero_add] at hd7
    refine own_st (fun t_ k_ => XS.iload X125.here hx rfl (hb hby at_122) rfl (XS.ifNo X125.here hx rfl (hb hby at_124) rfl (by decide) (XS.iconst X125.here hx rfl (hb hby at_127) (XS.goto X125.here hx rfl (pc0 := 128) (pc' := 132) rfl (hb hby at_128) (by decide) (by decide) (XS.istore X125.here hx rfl (hb hby at_132) rfl (l' := (own_AL p0 p1 p2 p3 kI r_1 (2 : Int32) cnd b2 [.val (.int (1 : Int32)), .unset, .unset, .unset, .unset, .unset, .unset])) rfl (XS.iload X125.here hx rfl (hb hby at_134) rfl (XS.iconst X125.here hx rfl (hb hby at_136) (XS.icmpNo X125.here hx rfl (hb hby at_137) rfl (by decide) (XS.iload X125.here hx rfl (hb hby at_140) rfl (XS.iconst X125.here hx rfl (hb hby at_142) k_)))))))))) ?_
    show own_Go p e below T125 (mkF m 143 (own_AL p0 p1 p2 p3 kI r_1 (2 : Int32) cnd b2 [.val (.int (1 : Int32)), .unset, .unset, .unset, .unset, .unset, .unset]) [(.int (2 : Int32)), (.int (2 : Int32))]) _
    refine own_st (fun t_ k_ => XS.icmpNo X125.here hx rfl (hb hby at_143) rfl (by decide) (XS.iconst X125.here hx rfl (hb hby at_146) (XS.goto X125.here hx rfl (pc0 := 147) (pc' := 151) rfl (hb hby at_147) (by decide) (by decide) (XS.istore X125.here hx rfl (hb hby at_151) rfl (l' := (own_AL p0 p1 p2 p3 kI r_1 (2 : Int32) cnd b2 [.val (.int (1 : Int32)), .val (.int (1 : Int32)), .unset, .unset, .unset, .unset, .unset])) rfl (XS.iload X125.here hx rfl (hb hby at_153) rfl (XS.iconst X125.here hx rfl (hb hby at_155) (XS.icmpYes X125.here hx rfl (pc0 := 156) (pc' := 163) rfl (hb hby at_156) rfl (by decide) (by decide) (by decide) (XS.iconst X125.here hx rfl (hb hby at_163) (XS.istore X125.here hx rfl (hb hby at_164) rfl (l' := (own_AL p0 p1 p2 p3 kI r_1 (2 : Int32) cnd b2 [.val (.int (1 : Int32)), .val (.int (1 : Int32)), .val (.int (0 : Int32)), .unset, .unset, .unset, .unset])) rfl (XS.iload X125.here hx rfl (hb hby at_166) rfl k_)))))))))) ?_
    show own_Go p e below T125 (mkF m 168 (own_AL p0 p1 p2 p3 kI r_1 (2 : Int32) cnd b2 [.val (.int (1 : Int32)), .val (.int (1 : Int32)), .val (.int (0 : Int32)), .unset, .unset, .unset, .unset]) [(.int (2 : Int32))]) _
    refine own_st (fun t_ k_ => XS.iconst X125.here hx rfl (hb hby at_168) (XS.icmpYes X125.here hx rfl (pc0 := 169) (pc' := 176) rfl (hb hby at_169) rfl (by decide) (by decide) (by decide) (XS.iconst X125.here hx rfl (hb hby at_176) (XS.istore X125.here hx rfl (hb hby at_177) rfl (l' := (own_AL p0 p1 p2 p3 kI r_1 (2 : Int32) cnd b2 [.val (.int (1 : Int32)), .val (.int (1 : Int32)), .val (.int (0 : Int32)), .val (.int (0 : Int32)), .unset, .unset, .unset])) rfl (XS.iload X125.here hx rfl (hb hby at_179) rfl (XS.iconst X125.here hx rfl (hb hby at_181) (XS.icmpNo X125.here hx rfl (hb hby at_182) rfl (by decide) (XS.iconst X125.here hx rfl (hb hby at_185) (XS.goto X125.here hx rfl (pc0 := 186) (pc' := 190) rfl (hb hby at_186) (by decide) (by decide) (XS.istore X125.here hx rfl (hb hby at_190) rfl (l' := (own_AL p0 p1 p2 p3 kI r_1 (2 : Int32) cnd b2 [.val (.int (1 : Int32)), .val (.int (1 : Int32)), .val (.int (0 : Int32)), .val (.int (0 : Int32)), .val (.int (1 : Int32)), .unset, .unset])) rfl k_)))))))))) ?_
    show own_Go p e below T125 (mkF m 192 (own_AL p0 p1 p2 p3 kI r_1 (2 : Int32) cnd b2 [.val (.int (1 : Int32)), .val (.int (1 : Int32)), .val (.int (0 : Int32)), .val (.int (0 : Int32)), .val (.int (1 : Int32)), .unset, .unset]) []) _
    refine own_st (fun t_ k_ => XS.iload X125.here hx rfl (hb hby at_192) rfl (XS.iconst X125.here hx rfl (hb hby at_194) (XS.icmpYes X125.here hx rfl (pc0 := 195) (pc' := 202) rfl (hb hby at_195) rfl (by decide) (by decide) (by decide) (XS.iconst X125.here hx rfl (hb hby at_202) (XS.istore X125.here hx rfl (hb hby at_203) rfl (l' := (own_AL p0 p1 p2 p3 kI r_1 (2 : Int32) cnd b2 [.val (.int (1 : Int32)), .val (.int (1 : Int32)), .val (.int (0 : Int32)), .val (.int (0 : Int32)), .val (.int (1 : Int32)), .val (.int (0 : Int32)), .unset])) rfl (XS.iload X125.here hx rfl (hb hby at_205) rfl (XS.ifNo X125.here hx rfl (hb hby at_207) rfl (by decide) (XS.iload X125.here hx rfl (hb hby at_210) rfl (XS.goto X125.here hx rfl (pc0 := 212) (pc' := 216) rfl (hb hby at_212) (by decide) (by decide) (XS.istore X125.here hx rfl (hb hby at_216) rfl (l' := (own_AL p0 p1 p2 p3 kI r_1 (2 : Int32) cnd b2 [.val (.int (1 : Int32)), .val (.int (1 : Int32)), .val (.int (0 : Int32)), .val (.int (0 : Int32)), .val (.int (1 : Int32)), .val (.int (0 : Int32)), .val (.int cnd)])) rfl k_)))))))))) ?_
    show own_Go p e below T125 (mkF m 218 (own_AL p0 p1 p2 p3 kI r_1 (2 : Int32) cnd b2 [.val (.int (1 : Int32)), .val (.int (1 : Int32)), .val (.int (0 : Int32)), .val (.int (0 : Int32)), .val (.int (1 : Int32)), .val (.int (0 : Int32)), .val (.int cnd)]) []) _
    refine own_st (fun t_ k_ => XS.aload X125.here hx rfl (hb hby at_218) rfl rfl k_) ?_
    have f128 := (Nat.le_trans f124 Kq125.1)
    have f129 := ((f120.keep Kq121 (allS G2 all0)).keep Kq125 (allS G2 all0))
    have f131 := (Nat.le_trans (Nat.le_trans (Nat.le_trans hk97 Kq107.1) Kq121.1) Kq125.1)
    obtain ⟨cq130, kq130, qa130, qb130, qc130⟩ := isOf hZ rfl q125_0
    obtain ⟨_, _, ⟨T130, L130, k130, n130⟩, -, Xa130, hSa130, hGa130, ⟨Lc130, hQ130, l130, y130, z130, A130⟩, st130⟩ := X125.virtualBackS hx (y := own_y38) (z := own_y38) hown (mvT hZ (own_w hw 78 rfl)) (mvT hZ (own_w hw 79 rfl)) (notFace_of_selects (args := #[]) (mvT hZ (own_w hw 81 rfl))) (mvT hZ (own_w hw 81 rfl)) (mvT hZ (own_w hw 80 rfl)) (by decide) (backOfSH (W := 0) (rmTo l Z a0 hw [] b2 r1_125 (((0 : Int64) + (1 : Int64))) ((0 : Int64)) ((0 : Int64)) j1_125 (((0 : Int64) + (1 : Int64))) ((0 : Int64)) (((0 : Int64) + cnd.toInt64)) ((kN + 1)) 1 0 0 kN 1 0 cN zc dg _ T125.heap n0 f128 q125_0 q125_1 q125_5 q125_6 q125_7 q125_2 q125_8 q125_9 q125_10 hd0 (by omega) rfl (by decide) rfl (by decide) rfl (by decide) hd4 (by omega) rfl (by decide) rfl (by decide) hd7 (by omega) pS_DigitOnes pD pS_COMPACT_STRINGS pP5 f129) hZ (own_w hw 82 rfl) (own_w hw 7 rfl) (by decide) (by decide) hEL CH126) qa130 qc130 (g := (mkF m 220 (own_AL p0 p1 p2 p3 kI r_1 (2 : Int32) cnd b2 [.val (.int (1 : Int32)), .val (.int (1 : Int32)), .val (.int (0 : Int32)), .val (.int (0 : Int32)), .val (.int (1 : Int32)), .val (.int (0 : Int32)), .val (.int cnd)]) [(.ref b2)])) rfl (by rw [hml]; rfl) (Steps.refl _) (argsL := []) (rest := []) (lenOf pd___Ljava_lang_String_ rfl) rfl (by show 2 * 0 + _ ≤ _; exact Nat.le_of_eq rfl) (hb hby at_220) (fun _ _ => ⟨rfl, rfl, (by decide : 4 + 23 ≤ _), (by decide : 24 + 870 ≤ _)⟩)
    dsimp only [Pt.U, Pt.locs, Pt.cells, Pt.slots] at Xa130 hSa130 hGa130 l130 y130 z130 A130 st130 hQ130
    try dsimp only [Nat.reduceAdd] at y130 z130
    rw [l130, y130, z130] at Xa130
    obtain ⟨X130, hS, hZ, hown⟩ := rebS hS f131 Xa130 hSa130 hGa130 hZ hown
    obtain ⟨y_130, b_130, kb_130, rfl, Nq130, Kq130, q130_0, q130_1, q130_2, q130_3⟩ := hQ130
    have N130 := Fr.app N125 Nq130
    have CH132 := A130.1
    have CR132 := CHr.trans CR126 (A130)
    have K133 : Keep h0 T130.heap [] := K127.trans Kq130 all0
    have hK130 : T130.heap.size ≤ T130.heap.size := Nat.le_refl _
    refine own_tr st130 ?_
    refine own_st (fun t_ k_ => XS.iload X130.here hx rfl (hb hby at_223) rfl (XS.iload X130.here hx rfl (hb hby at_225) rfl (XS.iadd X130.here hx rfl (hb hby at_227) rfl (XS.iload X130.here hx rfl (hb hby at_228) rfl (XS.iload X130.here hx rfl (hb hby at_230) rfl (XS.iload X130.here hx rfl (hb hby at_232) rfl (XS.iload X130.here hx rfl (hb hby at_234) rfl (XS.iload X130.here hx rfl (hb hby at_236) rfl (XS.iload X130.here hx rfl (hb hby at_238) rfl (XS.iload X130.here hx rfl (hb hby at_240) rfl k_)))))))))) ?_
    show own_Go p e below T130 (mkF m 242 (own_AL p0 p1 p2 p3 kI r_1 (2 : Int32) cnd b2 [.val (.int (1 : Int32)), .val (.int (1 : Int32)), .val (.int (0 : Int32)), .val (.int (0 : Int32)), .val (.int (1 : Int32)), .val (.int (0 : Int32)), .val (.int cnd)]) [(.int cnd), (.int (0 : Int32)), (.int (1 : Int32)), (.int kI), (.int (0 : Int32)), (.int (0 : Int32)), (.int (1 : Int32)), (.int (kI + (1 : Int32))), (.ref y_130)]) _
    have he0 : ((kI + (1 : Int32))).toInt = (((kN + 1) : Nat) : Int) := (by rw [own_add2 (by omega) (by decide) (by rw [show (1 : Int32).toInt = 1 from rfl]; omega), show (1 : Int32).toInt = 1 from rfl]; omega)
    have hg0 : (kN + 1) ≤ 9 := (by omega)
    have he1 : ((1 : Int32)).toInt = ((1 : Nat) : Int) := rfl
    have hg1 : 1 ≤ 9 := (by decide)
    have he2 : ((0 : Int32)).toInt = ((0 : Nat) : Int) := rfl
    have hg2 : 0 ≤ 9 := (by decide)
    have he3 : ((0 : Int32)).toInt = ((0 : Nat) : Int) := rfl
    have hg3 : 0 ≤ 9 := (by decide)
    have he4 : (kI).toInt = ((kN : Nat) : Int) := hk
    have hg4 : kN ≤ 9 := (by omega)
    have he5 : ((1 : Int32)).toInt = ((1 : Nat) : Int) := rfl
    have hg5 : 1 ≤ 9 := (by decide)
    have he6 : ((0 : Int32)).toInt = ((0 : Nat) : Int) := rfl
    have hg6 : 0 ≤ 9 := (by decide)
    have he7 : (cnd).toInt = ((cN : Nat) : Int) := hc
    have hg7 : cN ≤ 9 := (by omega)
    generalize (kI + (1 : Int32)) = eI at he0 ⊢
    show own_Go p e below T130 (mkF m 242 (own_AL p0 p1 p2 p3 kI r_1 (2 : Int32) cnd b2 [.val (.int (1 : Int32)), .val (.int (1 : Int32)), .val (.int (0 : Int32)), .val (.int (0 : Int32)), .val (.int (1 : Int32)), .val (.int (0 : Int32)), .val (.int cnd)]) [(.int cnd), (.int (0 : Int32)), (.int (1 : Int32)), (.int kI), (.int (0 : Int32)), (.int (0 : Int32)), (.int (1 : Int32)), (.int eI), (.ref y_130)]) _
    have f134 := (Nat.le_trans f128 Kq130.1)
    have f135 := (f129.keep Kq130 all0)
    obtain ⟨_, _, ⟨T136, L136, k136, n136⟩, -, X136, ⟨Lc136, hQ136, l136, y136, z136⟩, st136⟩ := Jvm.LawKit.callS X130 hx (y := own_y41) hown (mvT hZ (own_w hw 249 rfl)) (mvT hZ (own_w hw 250 rfl)) (mvT hZ (own_w hw 16 rfl)) (mvT hZ (own_w hw 251 rfl)) (by decide) (backOf (W := 1) (rmEx l Z a0 hw [] eI ((1 : Int32)) ((0 : Int32)) ((0 : Int32)) kI ((1 : Int32)) ((0 : Int32)) cnd ((kN + 1)) 1 0 0 kN 1 0 cN zc T130.heap n0 f134 he0 hg0 he1 hg1 he2 hg2 he3 hg3 he4 hg4 he5 hg5 he6 hg6 he7 hg7 pS_COMPACT_STRINGS pP5 f135) hZ (own_w hw 251 rfl) (own_w hw 16 rfl) (by decide) (by decide)) (g := (mkF m 242 (own_AL p0 p1 p2 p3 kI r_1 (2 : Int32) cnd b2 [.val (.int (1 : Int32)), .val (.int (1 : Int32)), .val (.int (0 : Int32)), .val (.int (0 : Int32)), .val (.int (1 : Int32)), .val (.int (0 : Int32)), .val (.int cnd)]) [(.int cnd), (.int (0 : Int32)), (.int (1 : Int32)), (.int kI), (.int (0 : Int32)), (.int (0 : Int32)), (.int (1 : Int32)), (.int eI), (.ref y_130)])) rfl (by rw [hml]; rfl) (argsL := [(.int eI), (.int (1 : Int32)), (.int (0 : Int32)), (.int (0 : Int32)), (.int kI), (.int (1 : Int32)), (.int (0 : Int32)), (.int cnd)]) (rest := [(.ref y_130)]) (lenOf pd__IIIIIIII_Ljava_lang_String_ rfl) rfl (by show 2 * 0 + _ ≤ _; exact Nat.le_of_eq rfl) (hb hby at_242) (fun _ _ => ⟨rfl, rfl, (by decide : 27 + 3 ≤ _), (by decide : 894 + 172 ≤ _)⟩)
    dsimp only [Pt.U, Pt.locs, Pt.cells, Pt.slots] at X136 l136 y136 z136 st136 hQ136
    try dsimp only [Nat.reduceAdd] at y136 z136
    rw [l136, y136, z136] at X136
    obtain ⟨y_136, t_136, kb_136, rfl, Nq136, Kq136, q136_0, q136_1, q136_2, q136_3⟩ := hQ136
    have N136 := Fr.app N130 Nq136
    have CH137 := CH132.keep Kq136 sf0
    have CR137 := CHr.trans CR132 (CHr.keep Kq136 sf0 CH132)
    have K138 : Keep h0 T136.heap [] := K133.trans Kq136 all0
    refine own_st st136 ?_
    have hpA : own_P (own_A2 (kN + 1) 1 0 0 kN 1 0 cN) := own_allP (own_one (own_d255 (by omega))) (own_one (own_d255 (by decide))) (own_one (own_d255 (by decide))) (own_one (own_d255 (by decide))) (own_one (own_d255 (by omega))) (own_one (own_d255 (by decide))) (own_one (own_d255 (by decide))) (own_one (own_d255 (by omega)))
    have hcd139 : StrChars.Road.CodA ((own_A2 (kN + 1) 1 0 0 kN 1 0 cN) : List Int32) 0 (84 : Int32) ((((own_A2 (kN + 1) 1 0 0 kN 1 0 cN) : List Int32).map (fun c : Int32 => c.toInt8.toInt32)).map Value.int) := StrChars.Road.codOf rfl (fun x hx => (hpA x hx).2)
    have hbd139 : ∀ x ∈ ((own_A2 (kN + 1) 1 0 0 kN 1 0 cN) : List Int32), ¬ x < 0 ∧ ¬ (65535 : Int32) < x := own_up _ hpA
    have hcd140 : StrChars.Road.CodA ((own_A2 (kN + 1) 1 0 0 kN 1 0 cN) : List Int32) 0 (84 : Int32) ((((own_A2 (kN + 1) 1 0 0 kN 1 0 cN) : List Int32).map (fun c : Int32 => c.toInt8.toInt32)).map Value.int) := StrChars.Road.codOf rfl (fun x hx => (hpA x hx).2)
    have hbd140 : ∀ x ∈ ((own_A2 (kN + 1) 1 0 0 kN 1 0 cN) : List Int32), ¬ x < 0 ∧ ¬ (65535 : Int32) < x := own_up _ hpA
    have f141 := (q130_0.keep Kq136)
    have f142 := (q130_1.keep Kq136 nin0)
    have f143 := (q130_2.keep Kq136 nin0)
    have f144 := (q130_3.keep Kq136 nin0)
    have f145 := (f135.keep Kq136 all0)
    obtain ⟨cq146, kq146, qa146, qb146, qc146⟩ := isOf hZ rfl f141
    obtain ⟨_, _, ⟨T146, L146, k146, n146⟩, -, X146, ⟨Lc146, hQ146, l146, y146, z146⟩, st146⟩ := X136.virtualBack hx (y := own_y42) (z := own_y42) hown (mvT hZ (own_w hw 273 rfl)) (mvT hZ (own_w hw 274 rfl)) (notFace_of_selects (args := #[]) (mvT hZ (own_w hw 276 rfl))) (mvT hZ (own_w hw 276 rfl)) (mvT hZ (own_w hw 275 rfl)) (by decide) (StrChars.Road.eqW (W := 0) hZ heq (kI := 4) (own_w hw 26 rfl) f141 f142 f143 f144 hcd139 hbd139 (Nat.le_of_ble_eq_true rfl) q136_0 q136_1 q136_2 q136_3 hcd140 hbd140 (Nat.le_of_ble_eq_true rfl) (pS_COMPACT_STRINGS.ext f145.2) pP5 (by decide) (by decide)) qa146 qc146 (g := (mkF m 245 (own_AL p0 p1 p2 p3 kI r_1 (2 : Int32) cnd b2 [.val (.int (1 : Int32)), .val (.int (1 : Int32)), .val (.int (0 : Int32)), .val (.int (0 : Int32)), .val (.int (1 : Int32)), .val (.int (0 : Int32)), .val (.int cnd)]) [(.ref y_136), (.ref y_130)])) rfl (by rw [hml]; rfl) (Steps.refl _) (argsL := [(.ref y_136)]) (rest := []) (lenOf pd__Ljava_lang_Object__Z rfl) rfl (by show 2 * 0 + _ ≤ _; exact Nat.le_of_eq rfl) (hb hby at_245) (fun _ _ => ⟨rfl, rfl, (by decide : 30 + 0 ≤ _), (by decide : 1066 + 0 ≤ _)⟩)
    dsimp only [Pt.U, Pt.locs, Pt.cells, Pt.slots] at X146 l146 y146 z146 st146 hQ146
    try dsimp only [Nat.reduceAdd] at y146 z146
    rw [l146, y146, z146] at X146
    obtain ⟨hcase146, rfl, eH146⟩ := hQ146
    have N146 := Fr.app N136 (Fr.nil n0)
    have hv146 : _ = some (Value.int 1) := hcase146.elim (fun q => q.1) (fun q => absurd rfl q.2)
    subst hv146
    refine own_tr st146 ?_
    have f147 := (Nat.le_trans hK130 Kq136.1)
    obtain ⟨fs, hr, hrun, hended, hRW⟩ := X146.leaveW hS (by rw [eH146]; exact f147) (v := some (.int (1 : Int32))) (fun h => by rw [Bd.returns] at h; cases h)
    have hCend : CHr Z own_EL s.vm s.heap T146.vm T146.heap := by
      rw [hh, eH146]
      exact CHr.trans CR137 (CHv.at X146 hZ hEL CH137)
    refine own_fin (retN X146 hx (t := .boolean) Bd.returns (by simp) (hb hby at_248) hr) ⟨hrun, hended, _, _, rfl, ?_, hCend, hRW.1, hRW.2.1, hRW.2.2.1, hRW.2.2.2.mono (by decide) (by decide)⟩
    show Q_rmLaw Z p0 p1 p2 p3 zc dg kd nw up un h0 n0 _ T146.heap _
    rw [eH146]
    exact ⟨rfl, N146, K138⟩
  · skip
    show own_Go p e below T7 (mkF m 47 (own_AU p0 p1 p2 p3 kI r_1 (3 : Int32) cnd b2) [(.int (3 : Int32))]) _
    refine own_st (fun t_ k_ => XS.ifNo X7.here hx rfl (hb hby at_47) rfl (by decide) (XS.iload X7.here hx rfl (hb hby at_50) rfl (XS.iconst X7.here hx rfl (hb hby at_52) (XS.icmpYes X7.here hx rfl (pc0 := 53) (pc' := 64) rfl (hb hby at_53) rfl (by decide) (by decide) (by decide) (XS.iload X7.here hx rfl (hb hby at_64) rfl (XS.iconst X7.here hx rfl (hb hby at_66) (XS.icmpNo X7.here hx rfl (hb hby at_67) rfl (by decide) k_))))))) ?_
    show own_Go p e below T7 (mkF m 70 (own_AU p0 p1 p2 p3 kI r_1 (3 : Int32) cnd b2) []) _
    have f148 := ((pO.ext E2).keep Kq7 (allS G2 all0))
    obtain ⟨T149, X149, e149, st149⟩ := getS2 X7 hx hZ hown (host := "") (Or.inl (own_w hw 292 rfl)) Via.refl rfl (pS_UPDATED.ext f148.2) (g := (mkF m 70 (own_AU p0 p1 p2 p3 kI r_1 (3 : Int32) cnd b2) [])) rfl (hb hby at_70)
    refine own_st st149 ?_
    refine own_st (fun t_ k_ => XS.astore X149.here hx rfl (hb hby at_73) rfl rfl (l' := (own_AL p0 p1 p2 p3 kI r_1 (3 : Int32) cnd b2 [.val (.ref up), .unset, .unset, .unset, .unset, .unset, .unset])) rfl (XS.goto X149.here hx rfl (pc0 := 75) (pc' := 83) rfl (hb hby at_75) (by decide) (by decide) (XS.aload X149.here hx rfl (hb hby at_83) rfl rfl k_))) ?_
    have f150 := (Nat.le_trans f5 Kq7.1)
    obtain ⟨T151, h151, X151, e151, E151, A151, D151, -, st151⟩ := newO X149 hx hZ hown (own_w hw 21 rfl) (own_w hw 22 rfl) (own_w hw 23 rfl) e149 (g := (mkF m 85 (own_AL p0 p1 p2 p3 kI r_1 (3 : Int32) cnd b2 [.val (.ref up), .unset, .unset, .unset, .unset, .unset, .unset]) [(.ref b2)])) rfl (hb hby at_85) (by decide) (by decide)
    obtain ⟨b151, g151⟩ : ∃ z, z = T7.heap.size := ⟨_, rfl⟩
    rw [← g151] at A151 D151 st151
    have G151 : n0 ≤ b151 := Nat.le_trans f150 (Nat.le_of_eq g151.symm)
    have B151 : h0.size ≤ b151 := Nat.le_trans K9.1 (Nat.le_of_eq g151.symm)
    have CH152 := CH8.ext E151
    have CR152 := CHr.trans CR8 (CHr.ext E151 CH8)
    have K153 : Keep h0 h151 [] := K9.ext E151
    have D151_localId : Fld Z h151 b151 "com/example/goldweave/goldweave/engine/linking/Registration" "localId" "Ljava/lang/String;" .null := D151 (Or.inr (own_w hw 42 rfl)) (ty := (.object "java/lang/String")) (by decide)
    have D151_change : Fld Z h151 b151 "com/example/goldweave/goldweave/engine/linking/Registration" "change" "Lcom/example/goldweave/goldweave/engine/linking/Registration$Change;" .null := D151 (Or.inr (own_w hw 44 rfl)) (ty := (.object "com/example/goldweave/goldweave/engine/linking/Registration$Change")) (by decide)
    have D151_newGoldenRecord : Fld Z h151 b151 "com/example/goldweave/goldweave/engine/linking/Registration" "newGoldenRecord" "Z" (.int (0 : Int32)) := D151 (Or.inr (own_w hw 46 rfl)) (ty := .boolean) (by decide)
    have D151_candidateLinks : Fld Z h151 b151 "com/example/goldweave/goldweave/engine/linking/Registration" "candidateLinks" "I" (.int (0 : Int32)) := D151 (Or.inr (own_w hw 48 rfl)) (ty := .int) (by decide)
    refine own_st st151 ?_
    refine own_st (fun t_ k_ => XS.dup X151.here hx rfl (hb hby at_88) rfl rfl k_) ?_
    have f155 := (Nat.le_trans (Nat.le_trans (Nat.le_trans hK0 E2.1) Kq7.1) E151.1)
    obtain ⟨b154, T154, h154, k154, X154, e154, E154, hS, hk154, hZ, hown, A154, -, st154⟩ := ldcOH X151 hx hZ hown (own_w hw 24 rfl) (own_wS hw) e151 hS f155 hEL CH152 (g := (mkF m 89 (own_AL p0 p1 p2 p3 kI r_1 (3 : Int32) cnd b2 [.val (.ref up), .unset, .unset, .unset, .unset, .unset, .unset]) [(.ref b151), (.ref b151), (.ref b2)])) rfl (hb hby at_89) (n := 8) (by decide) (by decide) (by decide) (by decide)
    have CH156 := A154.1
    have CR156 := CHr.trans CR152 (A154)
    have K157 : Keep h0 h154 [] := K153.ext E154
    refine own_st st154 ?_
    refine own_st (fun t_ k_ => XS.aload X154.here hx rfl (hb hby at_91) rfl rfl (XS.iload X154.here hx rfl (hb hby at_93) rfl (XS.iconst X154.here hx rfl (hb hby at_95) (XS.icmpYes X154.here hx rfl (pc0 := 96) (pc' := 103) rfl (hb hby at_96) rfl (by decide) (by decide) (by decide) (XS.iconst X154.here hx rfl (hb hby at_103) (XS.iload X154.here hx rfl (hb hby at_104) rfl k_)))))) ?_
    show own_Go p e below T154 (mkF m 106 (own_AL p0 p1 p2 p3 kI r_1 (3 : Int32) cnd b2 [.val (.ref up), .unset, .unset, .unset, .unset, .unset, .unset]) [(.int cnd), (.int (0 : Int32)), (.ref up), (.ref b154), (.ref b151), (.ref b151), (.ref b2)]) _
    have f158 := (Nat.le_trans (Nat.le_trans f150 E151.1) E154.1)
    have f159 := (A151.ext E154)
    have f160 := (D151_localId.ext E154)
    have f161 := (D151_change.ext E154)
    have f162 := (D151_newGoldenRecord.ext E154)
    have f163 := (D151_candidateLinks.ext E154)
    obtain ⟨_, _, ⟨T164, L164, k164, n164⟩, -, X164, ⟨Lc164, hQ164, l164, y164, z164⟩, st164⟩ := X154.specialBack hx (y := own_y33) rfl hown (mvT hZ (own_w hw 32 rfl)) (mvT hZ (own_w hw 33 rfl)) (mvT hZ (own_w hw 34 rfl)) (by decide) (backOf (W := 2) (rmRi0 l Z a0 hw [] b151 b154 up cnd .null .null ((.int (0 : Int32))) ((.int (0 : Int32))) h154 n0 f158 f159 f160 f161 f162 f163 G151) hZ (own_w hw 34 rfl) (own_w hw 23 rfl) (by decide) (by decide)) (g := (mkF m 106 (own_AL p0 p1 p2 p3 kI r_1 (3 : Int32) cnd b2 [.val (.ref up), .unset, .unset, .unset, .unset, .unset, .unset]) [(.int cnd), (.int (0 : Int32)), (.ref up), (.ref b154), (.ref b151), (.ref b151), (.ref b2)])) rfl (by rw [hml]; rfl) (Steps.refl _) (a := b151) (argsL := [(.ref b154), (.ref up), (.int (0 : Int32)), (.int cnd)]) (rest := [(.ref b151), (.ref b2)]) (lenOf pd__Ljava_lang_String_Lcom_example_goldweave_goldweave_engine_linking_Registration_Change_ZI_V rfl) rfl (by show 2 * 0 + _ ≤ _; exact Nat.le_of_eq rfl) (hb hby at_106) (fun _ _ => ⟨rfl, e154, (by decide : 4 + 0 ≤ _), (by decide : 24 + 0 ≤ _)⟩)
    dsimp only [Pt.U, Pt.locs, Pt.cells, Pt.slots] at X164 l164 y164 z164 st164 hQ164
    try dsimp only [Nat.reduceAdd] at y164 z164
    rw [l164, y164, z164] at X164
    obtain ⟨rfl, Nq164, Kq164, q164_0, q164_1, q164_2, q164_3, q164_4⟩ := hQ164
    have N164 := Fr.app N7 Nq164
    have Sa165 : ∀ y ∈ [b151], Safe Z own_EL T154.vm h154 y := (sfS (Safe.exa hZ.alike f159 (by decide) (by decide)) sf0)
    have CH165 := CH156.keep Kq164 Sa165
    have CR165 := CHr.trans CR156 (CHr.keep Kq164 Sa165 CH156)
    have K166 : Keep h0 T164.heap [] := K157.trans Kq164 (allS (Or.inr B151) all0)
    refine own_tr st164 ?_
    have f167 := (Nat.le_trans f158 Kq164.1)
    have f168 := (((q7_0.ext E151).ext E154).keep Kq164)
    have f169 := (((q7_1.ext E151).ext E154).keep Kq164 (ninS (Nat.ne_of_lt (Nat.lt_of_lt_of_le q7_0.lt (Nat.le_of_eq g151.symm))) nin0))
    have f170 := (((q7_5.ext E151).ext E154).keep Kq164 (ninS (Nat.ne_of_lt (Nat.lt_of_lt_of_le q7_0.lt (Nat.le_of_eq g151.symm))) nin0))
    have f171 := (((q7_6.ext E151).ext E154).keep Kq164 (ninS (Nat.ne_of_lt (Nat.lt_of_lt_of_le q7_0.lt (Nat.le_of_eq g151.symm))) nin0))
    have f172 := (((q7_7.ext E151).ext E154).keep Kq164 (ninS (Nat.ne_of_lt (Nat.lt_of_lt_of_le q7_0.lt (Nat.le_of_eq g151.symm))) nin0))
    have f173 := (((q7_2.ext E151).ext E154).keep Kq164 (ninS (Nat.ne_of_lt (Nat.lt_of_lt_of_le q7_0.lt (Nat.le_of_eq g151.symm))) nin0))
    have f174 := (((q7_8.ext E151).ext E154).keep Kq164 (ninS (Nat.ne_of_lt (Nat.lt_of_lt_of_le q7_0.lt (Nat.le_of_eq g151.symm))) nin0))
    have f175 := (((q7_9.ext E151).ext E154).keep Kq164 (ninS (Nat.ne_of_lt (Nat.lt_of_lt_of_le q7_0.lt (Nat.le_of_eq g151.symm))) nin0))
    have f176 := (((q7_10.ext E151).ext E154).keep Kq164 (ninS (Nat.ne_of_lt (Nat.lt_of_lt_of_le q7_0.lt (Nat.le_of_eq g151.symm))) nin0))
    have f177 := (((f148.ext E151).ext E154).keep Kq164 (allS G151 all0))
    obtain ⟨cq178, kq178, qa178, qb178, qc178⟩ := isOf hZ rfl f168
    obtain ⟨_, _, ⟨T178, L178, k178, n178⟩, -, X178, ⟨Lc178, hQ178, l178, y178, z178⟩, st178⟩ := X164.virtualBack hx (y := own_y37) (z := own_y37) hown (mvT hZ (own_w hw 49 rfl)) (mvT hZ (own_w hw 50 rfl)) (notFace_of_selects (args := #[]) (mvT hZ (own_w hw 52 rfl))) (mvT hZ (own_w hw 52 rfl)) (mvT hZ (own_w hw 51 rfl)) (by decide) (backOf (W := 0) (rmAd3 l Z a0 hw [] b2 b151 cnd r1_7 ((0 : Int64)) ((0 : Int64)) ((0 : Int64)) j1_7 ((0 : Int64)) ((0 : Int64)) ((0 : Int64)) nw up un T164.heap n0 f167 f168 f169 f170 f171 f172 f173 f174 f175 f176 q164_0 q164_2 q164_3 q164_4 G2 pS_NEW pS_UPDATED pS_UNCHANGED hun hcn hcu f177) hZ (own_w hw 53 rfl) (own_w hw 7 rfl) (by decide) (by decide)) qa178 qc178 (g := (mkF m 109 (own_AL p0 p1 p2 p3 kI r_1 (3 : Int32) cnd b2 [.val (.ref up), .unset, .unset, .unset, .unset, .unset, .unset]) [(.ref b151), (.ref b2)])) rfl (by rw [hml]; rfl) (Steps.refl _) (argsL := [(.ref b151)]) (rest := []) (lenOf pd__Lcom_example_goldweave_goldweave_engine_linking_Registration__V rfl) rfl (by show 2 * 0 + _ ≤ _; exact Nat.le_of_eq rfl) (hb hby at_109) (fun _ _ => ⟨rfl, rfl, (by decide : 4 + 0 ≤ _), (by decide : 24 + 0 ≤ _)⟩)
    dsimp only [Pt.U, Pt.locs, Pt.cells, Pt.slots] at X178 l178 y178 z178 st178 hQ178
    try dsimp only [Nat.reduceAdd] at y178 z178
    rw [l178, y178, z178] at X178
    obtain ⟨rfl, Nq178, Kq178, q178_0, q178_1, q178_2, q178_3, q178_4, q178_5, q178_6, q178_7, q178_8⟩ := hQ178
    have N178 := Fr.app N164 Nq178
    have Sa179 : ∀ y ∈ [b2], Safe Z own_EL T154.vm T164.heap y := (sfS (Safe.exa hZ.alike f168 (by decide) (by decide)) sf0)
    have CH179 := CH165.keep Kq178 Sa179
    have CR179 := CHr.trans CR165 (CHr.keep Kq178 Sa179 CH165)
    have K180 : Keep h0 T178.heap [] := K166.trans Kq178 (allS (Or.inr B2) all0)
    refine own_tr st178 ?_
    have hr2 := own_inc hr_ (by omega)
    refine own_st (fun t_ k_ => XS.aload X178.here hx rfl (hb hby at_112) rfl rfl (XS.iload X178.here hx rfl (hb hby at_114) rfl (XS.iload X178.here hx rfl (hb hby at_116) rfl (XS.isub X178.here hx rfl (hb hby at_118) rfl k_)))) ?_
    show own_Go p e below T178 (mkF m 119 (own_AL p0 p1 p2 p3 kI r_1 (3 : Int32) cnd b2 [.val (.ref up), .unset, .unset, .unset, .unset, .unset, .unset]) [(.int (kI - r_1)), (.ref b2)]) _
    have f181 := (Nat.le_trans f167 Kq178.1)
    obtain ⟨_, _, ⟨T182, L182, k182, n182⟩, -, X182, ⟨Lc182, hQ182, l182, y182, z182⟩, st182⟩ := Jvm.LawKit.callS X178 hx (y := own_y31) hown (mvT hZ (own_w hw 14 rfl)) (mvT hZ (own_w hw 15 rfl)) (mvT hZ (own_w hw 16 rfl)) (mvT hZ (own_w hw 17 rfl)) (by decide) (backOf (W := 0) (rmRt l Z a0 hw [] b2 ((kI - r_1)) ((kN - bN)) ((r1_7 + (1 : Int64))) j1_7 ((0 + bN + 1)) ((0 + bN)) ((0 : Int64)) (((0 : Int64) + (1 : Int64))) ((0 : Int64)) ((0 : Int64)) ((0 : Int64)) (((0 : Int64) + cnd.toInt64)) T178.heap n0 f181 q178_0 q178_1 q178_5 q178_2 q178_3 q178_4 q178_6 q178_7 q178_8 G2 hkb (by omega) hr2 hj_ (by omega) (by omega)) hZ (own_w hw 17 rfl) (own_w hw 16 rfl) (by decide) (by decide)) (g := (mkF m 119 (own_AL p0 p1 p2 p3 kI r_1 (3 : Int32) cnd b2 [.val (.ref up), .unset, .unset, .unset, .unset, .unset, .unset]) [(.int (kI - r_1)), (.ref b2)])) rfl (by rw [hml]; rfl) (argsL := [(.ref b2), (.int (kI - r_1))]) (rest := []) (lenOf pd__Lcom_example_goldweave_goldweave_server_cli_LoadSummary_I_V rfl) rfl (by show 2 * 0 + _ ≤ _; exact Nat.le_of_eq rfl) (hb hby at_119) (fun _ _ => ⟨rfl, rfl, (by decide : 4 + 0 ≤ _), (by decide : 24 + 0 ≤ _)⟩)
    dsimp only [Pt.U, Pt.locs, Pt.cells, Pt.slots] at X182 l182 y182 z182 st182 hQ182
    try dsimp only [Nat.reduceAdd] at y182 z182
    rw [l182, y182, z182] at X182
    obtain ⟨r1_182, j1_182, rfl, Nq182, Kq182, q182_0, q182_1, q182_2, q182_3, q182_4, q182_5, q182_6, q182_7, q182_8, q182_9, q182_10⟩ := hQ182
    have N182 := Fr.app N178 Nq182
    have Sa183 : ∀ y ∈ [b2], Safe Z own_EL T154.vm T178.heap y := (sfS (Safe.exa hZ.alike q178_0 (by decide) (by decide)) sf0)
    have CH183 := CH179.keep Kq182 Sa183
    have CR183 := CHr.trans CR179 (CHr.keep Kq182 Sa183 CH179)
    have K184 : Keep h0 T182.heap [] := K180.trans Kq182 (allS (Or.inr B2) all0)
    refine own_st st182 ?_
    have hd0 : r1_182.toInt = ((kN + 1 : Nat) : Int) := by rw [q182_3]; omega
    have hd4 : j1_182.toInt = (kN : Int) := by rw [q182_4]; omega
    have hd7 := own_addJ (show (0 : Int64).toInt = ((0 : Nat) : Int) from rfl) hc (by omega) (by omega)
    rw [Nat.zero_add] at hd7
    refine own_st (fun t_ k_ => XS.iload X182.here hx rfl (hb hby at_122) rfl (XS.ifNo X182.here hx rfl (hb hby at_124) rfl (by decide) (XS.iconst X182.here hx rfl (hb hby at_127) (XS.goto X182.here hx rfl (pc0 := 128) (pc' := 132) rfl (hb hby at_128) (by decide) (by decide) (XS.istore X182.here hx rfl (hb hby at_132) rfl (l' := (own_AL p0 p1 p2 p3 kI r_1 (3 : Int32) cnd b2 [.val (.int (1 : Int32)), .unset, .unset, .unset, .unset, .unset, .unset])) rfl (XS.iload X182.here hx rfl (hb hby at_134) rfl (XS.iconst X182.here hx rfl (hb hby at_136) (XS.icmpNo X182.here hx rfl (hb hby at_137) rfl (by decide) (XS.iload X182.here hx rfl (hb hby at_140) rfl (XS.iconst X182.here hx rfl (hb hby at_142) k_)))))))))) ?_
    show own_Go p e below T182 (mkF m 143 (own_AL p0 p1 p2 p3 kI r_1 (3 : Int32) cnd b2 [.val (.int (1 : Int32)), .unset, .unset, .unset, .unset, .unset, .unset]) [(.int (2 : Int32)), (.int (3 : Int32))]) _
    refine own_st (fun t_ k_ => XS.icmpYes X182.here hx rfl (pc0 := 143) (pc' := 150) rfl (hb hby at_143) rfl (by decide) (by decide) (by decide) (XS.iconst X182.here hx rfl (hb hby at_150) (XS.istore X182.here hx rfl (hb hby at_151) rfl (l' := (own_AL p0 p1 p2 p3 kI r_1 (3 : Int32) cnd b2 [.val (.int (1 : Int32)), .val (.int (0 : Int32)), .unset, .unset, .unset, .unset, .unset])) rfl (XS.iload X182.here hx rfl (hb hby at_153) rfl (XS.iconst X182.here hx rfl (hb hby at_155) (XS.icmpNo X182.here hx rfl (hb hby at_156) rfl (by decide) (XS.iconst X182.here hx rfl (hb hby at_159) (XS.goto X182.here hx rfl (pc0 := 160) (pc' := 164) rfl (hb hby at_160) (by decide) (by decide) (XS.istore X182.here hx rfl (hb hby at_164) rfl (l' := (own_AL p0 p1 p2 p3 kI r_1 (3 : Int32) cnd b2 [.val (.int (1 : Int32)), .val (.int (0 : Int32)), .val (.int (1 : Int32)), .unset, .unset, .unset, .unset])) rfl (XS.iload X182.here hx rfl (hb hby at_166) rfl k_)))))))))) ?_
    show own_Go p e below T182 (mkF m 168 (own_AL p0 p1 p2 p3 kI r_1 (3 : Int32) cnd b2 [.val (.int (1 : Int32)), .val (.int (0 : Int32)), .val (.int (1 : Int32)), .unset, .unset, .unset, .unset]) [(.int (3 : Int32))]) _
    refine own_st (fun t_ k_ => XS.iconst X182.here hx rfl (hb hby at_168) (XS.icmpYes X182.here hx rfl (pc0 := 169) (pc' := 176) rfl (hb hby at_169) rfl (by decide) (by decide) (by decide) (XS.iconst X182.here hx rfl (hb hby at_176) (XS.istore X182.here hx rfl (hb hby at_177) rfl (l' := (own_AL p0 p1 p2 p3 kI r_1 (3 : Int32) cnd b2 [.val (.int (1 : Int32)), .val (.int (0 : Int32)), .val (.int (1 : Int32)), .val (.int (0 : Int32)), .unset, .unset, .unset])) rfl (XS.iload X182.here hx rfl (hb hby at_179) rfl (XS.iconst X182.here hx rfl (hb hby at_181) (XS.icmpYes X182.here hx rfl (pc0 := 182) (pc' := 189) rfl (hb hby at_182) rfl (by decide) (by decide) (by decide) (XS.iconst X182.here hx rfl (hb hby at_189) (XS.istore X182.here hx rfl (hb hby at_190) rfl (l' := (own_AL p0 p1 p2 p3 kI r_1 (3 : Int32) cnd b2 [.val (.int (1 : Int32)), .val (.int (0 : Int32)), .val (.int (1 : Int32)), .val (.int (0 : Int32)), .val (.int (0 : Int32)), .unset, .unset])) rfl (XS.iload X182.here hx rfl (hb hby at_192) rfl k_)))))))))) ?_
    show own_Go p e below T182 (mkF m 194 (own_AL p0 p1 p2 p3 kI r_1 (3 : Int32) cnd b2 [.val (.int (1 : Int32)), .val (.int (0 : Int32)), .val (.int (1 : Int32)), .val (.int (0 : Int32)), .val (.int (0 : Int32)), .unset, .unset]) [(.int (3 : Int32))]) _
    refine own_st (fun t_ k_ => XS.iconst X182.here hx rfl (hb hby at_194) (XS.icmpYes X182.here hx rfl (pc0 := 195) (pc' := 202) rfl (hb hby at_195) rfl (by decide) (by decide) (by decide) (XS.iconst X182.here hx rfl (hb hby at_202) (XS.istore X182.here hx rfl (hb hby at_203) rfl (l' := (own_AL p0 p1 p2 p3 kI r_1 (3 : Int32) cnd b2 [.val (.int (1 : Int32)), .val (.int (0 : Int32)), .val (.int (1 : Int32)), .val (.int (0 : Int32)), .val (.int (0 : Int32)), .val (.int (0 : Int32)), .unset])) rfl (XS.iload X182.here hx rfl (hb hby at_205) rfl (XS.ifNo X182.here hx rfl (hb hby at_207) rfl (by decide) (XS.iload X182.here hx rfl (hb hby at_210) rfl (XS.goto X182.here hx rfl (pc0 := 212) (pc' := 216) rfl (hb hby at_212) (by decide) (by decide) (XS.istore X182.here hx rfl (hb hby at_216) rfl (l' := (own_AL p0 p1 p2 p3 kI r_1 (3 : Int32) cnd b2 [.val (.int (1 : Int32)), .val (.int (0 : Int32)), .val (.int (1 : Int32)), .val (.int (0 : Int32)), .val (.int (0 : Int32)), .val (.int (0 : Int32)), .val (.int cnd)])) rfl (XS.aload X182.here hx rfl (hb hby at_218) rfl rfl k_)))))))))) ?_
    show own_Go p e below T182 (mkF m 220 (own_AL p0 p1 p2 p3 kI r_1 (3 : Int32) cnd b2 [.val (.int (1 : Int32)), .val (.int (0 : Int32)), .val (.int (1 : Int32)), .val (.int (0 : Int32)), .val (.int (0 : Int32)), .val (.int (0 : Int32)), .val (.int cnd)]) [(.ref b2)]) _
    have f185 := (Nat.le_trans f181 Kq182.1)
    have f186 := ((f177.keep Kq178 (allS G2 all0)).keep Kq182 (allS G2 all0))
    have f188 := (Nat.le_trans (Nat.le_trans (Nat.le_trans hk154 Kq164.1) Kq178.1) Kq182.1)
    obtain ⟨cq187, kq187, qa187, qb187, qc187⟩ := isOf hZ rfl q182_0
    obtain ⟨_, _, ⟨T187, L187, k187, n187⟩, -, Xa187, hSa187, hGa187, ⟨Lc187, hQ187, l187, y187, z187, A187⟩, st187⟩ := X182.virtualBackS hx (y := own_y38) (z := own_y38) hown (mvT hZ (own_w hw 78 rfl)) (mvT hZ (own_w hw 79 rfl)) (notFace_of_selects (args := #[]) (mvT hZ (own_w hw 81 rfl))) (mvT hZ (own_w hw 81 rfl)) (mvT hZ (own_w hw 80 rfl)) (by decide) (backOfSH (W := 0) (rmTo l Z a0 hw [] b2 r1_182 ((0 : Int64)) (((0 : Int64) + (1 : Int64))) ((0 : Int64)) j1_182 ((0 : Int64)) ((0 : Int64)) (((0 : Int64) + cnd.toInt64)) ((kN + 1)) 0 1 0 kN 0 0 cN zc dg _ T182.heap n0 f185 q182_0 q182_1 q182_5 q182_6 q182_7 q182_2 q182_8 q182_9 q182_10 hd0 (by omega) rfl (by decide) rfl (by decide) rfl (by decide) hd4 (by omega) rfl (by decide) rfl (by decide) hd7 (by omega) pS_DigitOnes pD pS_COMPACT_STRINGS pP5 f186) hZ (own_w hw 82 rfl) (own_w hw 7 rfl) (by decide) (by decide) hEL CH183) qa187 qc187 (g := (mkF m 220 (own_AL p0 p1 p2 p3 kI r_1 (3 : Int32) cnd b2 [.val (.int (1 : Int32)), .val (.int (0 : Int32)), .val (.int (1 : Int32)), .val (.int (0 : Int32)), .val (.int (0 : Int32)), .val (.int (0 : Int32)), .val (.int cnd)]) [(.ref b2)])) rfl (by rw [hml]; rfl) (Steps.refl _) (argsL := []) (rest := []) (lenOf pd___Ljava_lang_String_ rfl) rfl (by show 2 * 0 + _ ≤ _; exact Nat.le_of_eq rfl) (hb hby at_220) (fun _ _ => ⟨rfl, rfl, (by decide : 4 + 23 ≤ _), (by decide : 24 + 870 ≤ _)⟩)
    dsimp only [Pt.U, Pt.locs, Pt.cells, Pt.slots] at Xa187 hSa187 hGa187 l187 y187 z187 A187 st187 hQ187
    try dsimp only [Nat.reduceAdd] at y187 z187
    rw [l187, y187, z187] at Xa187
    obtain ⟨X187, hS, hZ, hown⟩ := rebS hS f188 Xa187 hSa187 hGa187 hZ hown
    obtain ⟨y_187, b_187, kb_187, rfl, Nq187, Kq187, q187_0, q187_1, q187_2, q187_3⟩ := hQ187
    have N187 := Fr.app N182 Nq187
    have CH189 := A187.1
    have CR189 := CHr.trans CR183 (A187)
    have K190 : Keep h0 T187.heap [] := K184.trans Kq187 all0
    have hK187 : T187.heap.size ≤ T187.heap.size := Nat.le_refl _
    refine own_tr st187 ?_
    refine own_st (fun t_ k_ => XS.iload X187.here hx rfl (hb hby at_223) rfl (XS.iload X187.here hx rfl (hb hby at_225) rfl (XS.iadd X187.here hx rfl (hb hby at_227) rfl (XS.iload X187.here hx rfl (hb hby at_228) rfl (XS.iload X187.here hx rfl (hb hby at_230) rfl (XS.iload X187.here hx rfl (hb hby at_232) rfl (XS.iload X187.here hx rfl (hb hby at_234) rfl (XS.iload X187.here hx rfl (hb hby at_236) rfl (XS.iload X187.here hx rfl (hb hby at_238) rfl (XS.iload X187.here hx rfl (hb hby at_240) rfl k_)))))))))) ?_
    show own_Go p e below T187 (mkF m 242 (own_AL p0 p1 p2 p3 kI r_1 (3 : Int32) cnd b2 [.val (.int (1 : Int32)), .val (.int (0 : Int32)), .val (.int (1 : Int32)), .val (.int (0 : Int32)), .val (.int (0 : Int32)), .val (.int (0 : Int32)), .val (.int cnd)]) [(.int cnd), (.int (0 : Int32)), (.int (0 : Int32)), (.int kI), (.int (0 : Int32)), (.int (1 : Int32)), (.int (0 : Int32)), (.int (kI + (1 : Int32))), (.ref y_187)]) _
    have he0 : ((kI + (1 : Int32))).toInt = (((kN + 1) : Nat) : Int) := (by rw [own_add2 (by omega) (by decide) (by rw [show (1 : Int32).toInt = 1 from rfl]; omega), show (1 : Int32).toInt = 1 from rfl]; omega)
    have hg0 : (kN + 1) ≤ 9 := (by omega)
    have he1 : ((0 : Int32)).toInt = ((0 : Nat) : Int) := rfl
    have hg1 : 0 ≤ 9 := (by decide)
    have he2 : ((1 : Int32)).toInt = ((1 : Nat) : Int) := rfl
    have hg2 : 1 ≤ 9 := (by decide)
    have he3 : ((0 : Int32)).toInt = ((0 : Nat) : Int) := rfl
    have hg3 : 0 ≤ 9 := (by decide)
    have he4 : (kI).toInt = ((kN : Nat) : Int) := hk
    have hg4 : kN ≤ 9 := (by omega)
    have he5 : ((0 : Int32)).toInt = ((0 : Nat) : Int) := rfl
    have hg5 : 0 ≤ 9 := (by decide)
    have he6 : ((0 : Int32)).toInt = ((0 : Nat) : Int) := rfl
    have hg6 : 0 ≤ 9 := (by decide)
    have he7 : (cnd).toInt = ((cN : Nat) : Int) := hc
    have hg7 : cN ≤ 9 := (by omega)
    generalize (kI + (1 : Int32)) = eI at he0 ⊢
    show own_Go p e below T187 (mkF m 242 (own_AL p0 p1 p2 p3 kI r_1 (3 : Int32) cnd b2 [.val (.int (1 : Int32)), .val (.int (0 : Int32)), .val (.int (1 : Int32)), .val (.int (0 : Int32)), .val (.int (0 : Int32)), .val (.int (0 : Int32)), .val (.int cnd)]) [(.int cnd), (.int (0 : Int32)), (.int (0 : Int32)), (.int kI), (.int (0 : Int32)), (.int (1 : Int32)), (.int (0 : Int32)), (.int eI), (.ref y_187)]) _
    have f191 := (Nat.le_trans f185 Kq187.1)
    have f192 := (f186.keep Kq187 all0)
    obtain ⟨_, _, ⟨T193, L193, k193, n193⟩, -, X193, ⟨Lc193, hQ193, l193, y193, z193⟩, st193⟩ := Jvm.LawKit.callS X187 hx (y := own_y41) hown (mvT hZ (own_w hw 249 rfl)) (mvT hZ (own_w hw 250 rfl)) (mvT hZ (own_w hw 16 rfl)) (mvT hZ (own_w hw 251 rfl)) (by decide) (backOf (W := 1) (rmEx l Z a0 hw [] eI ((0 : Int32)) ((1 : Int32)) ((0 : Int32)) kI ((0 : Int32)) ((0 : Int32)) cnd ((kN + 1)) 0 1 0 kN 0 0 cN zc T187.heap n0 f191 he0 hg0 he1 hg1 he2 hg2 he3 hg3 he4 hg4 he5 hg5 he6 hg6 he7 hg7 pS_COMPACT_STRINGS pP5 f192) hZ (own_w hw 251 rfl) (own_w hw 16 rfl) (by decide) (by decide)) (g := (mkF m 242 (own_AL p0 p1 p2 p3 kI r_1 (3 : Int32) cnd b2 [.val (.int (1 : Int32)), .val (.int (0 : Int32)), .val (.int (1 : Int32)), .val (.int (0 : Int32)), .val (.int (0 : Int32)), .val (.int (0 : Int32)), .val (.int cnd)]) [(.int cnd), (.int (0 : Int32)), (.int (0 : Int32)), (.int kI), (.int (0 : Int32)), (.int (1 : Int32)), (.int (0 : Int32)), (.int eI), (.ref y_187)])) rfl (by rw [hml]; rfl) (argsL := [(.int eI), (.int (0 : Int32)), (.int (1 : Int32)), (.int (0 : Int32)), (.int kI), (.int (0 : Int32)), (.int (0 : Int32)), (.int cnd)]) (rest := [(.ref y_187)]) (lenOf pd__IIIIIIII_Ljava_lang_String_ rfl) rfl (by show 2 * 0 + _ ≤ _; exact Nat.le_of_eq rfl) (hb hby at_242) (fun _ _ => ⟨rfl, rfl, (by decide : 27 + 3 ≤ _), (by decide : 894 + 172 ≤ _)⟩)
    dsimp only [Pt.U, Pt.locs, Pt.cells, Pt.slots] at X193 l193 y193 z193 st193 hQ193
    try dsimp only [Nat.reduceAdd] at y193 z193
    rw [l193, y193, z193] at X193
    obtain ⟨y_193, t_193, kb_193, rfl, Nq193, Kq193, q193_0, q193_1, q193_2, q193_3⟩ := hQ193
    have N193 := Fr.app N187 Nq193
    have CH194 := CH189.keep Kq193 sf0
    have CR194 := CHr.trans CR189 (CHr.keep Kq193 sf0 CH189)
    have K195 : Keep h0 T193.heap [] := K190.trans Kq193 all0
    refine own_st st193 ?_
    have hpA : own_P (own_A2 (kN + 1) 0 1 0 kN 0 0 cN) := own_allP (own_one (own_d255 (by omega))) (own_one (own_d255 (by decide))) (own_one (own_d255 (by decide))) (own_one (own_d255 (by decide))) (own_one (own_d255 (by omega))) (own_one (own_d255 (by decide))) (own_one (own_d255 (by decide))) (own_one (own_d255 (by omega)))
    have hcd196 : StrChars.Road.CodA ((own_A2 (kN + 1) 0 1 0 kN 0 0 cN) : List Int32) 0 (84 : Int32) ((((own_A2 (kN + 1) 0 1 0 kN 0 0 cN) : List Int32).map (fun c : Int32 => c.toInt8.toInt32)).map Value.int) := StrChars.Road.codOf rfl (fun x hx => (hpA x hx).2)
    have hbd196 : ∀ x ∈ ((own_A2 (kN + 1) 0 1 0 kN 0 0 cN) : List Int32), ¬ x < 0 ∧ ¬ (65535 : Int32) < x := own_up _ hpA
    have hcd197 : StrChars.Road.CodA ((own_A2 (kN + 1) 0 1 0 kN 0 0 cN) : List Int32) 0 (84 : Int32) ((((own_A2 (kN + 1) 0 1 0 kN 0 0 cN) : List Int32).map (fun c : Int32 => c.toInt8.toInt32)).map Value.int) := StrChars.Road.codOf rfl (fun x hx => (hpA x hx).2)
    have hbd197 : ∀ x ∈ ((own_A2 (kN + 1) 0 1 0 kN 0 0 cN) : List Int32), ¬ x < 0 ∧ ¬ (65535 : Int32) < x := own_up _ hpA
    have f198 := (q187_0.keep Kq193)
    have f199 := (q187_1.keep Kq193 nin0)
    have f200 := (q187_2.keep Kq193 nin0)
    have f201 := (q187_3.keep Kq193 nin0)
    have f202 := (f192.keep Kq193 all0)
    obtain ⟨cq203, kq203, qa203, qb203, qc203⟩ := isOf hZ rfl f198
    obtain ⟨_, _, ⟨T203, L203, k203, n203⟩, -, X203, ⟨Lc203, hQ203, l203, y203, z203⟩, st203⟩ := X193.virtualBack hx (y := own_y42) (z := own_y42) hown (mvT hZ (own_w hw 273 rfl)) (mvT hZ (own_w hw 274 rfl)) (notFace_of_selects (args := #[]) (mvT hZ (own_w hw 276 rfl))) (mvT hZ (own_w hw 276 rfl)) (mvT hZ (own_w hw 275 rfl)) (by decide) (StrChars.Road.eqW (W := 0) hZ heq (kI := 4) (own_w hw 26 rfl) f198 f199 f200 f201 hcd196 hbd196 (Nat.le_of_ble_eq_true rfl) q193_0 q193_1 q193_2 q193_3 hcd197 hbd197 (Nat.le_of_ble_eq_true rfl) (pS_COMPACT_STRINGS.ext f202.2) pP5 (by decide) (by decide)) qa203 qc203 (g := (mkF m 245 (own_AL p0 p1 p2 p3 kI r_1 (3 : Int32) cnd b2 [.val (.int (1 : Int32)), .val (.int (0 : Int32)), .val (.int (1 : Int32)), .val (.int (0 : Int32)), .val (.int (0 : Int32)), .val (.int (0 : Int32)), .val (.int cnd)]) [(.ref y_193), (.ref y_187)])) rfl (by rw [hml]; rfl) (Steps.refl _) (argsL := [(.ref y_193)]) (rest := []) (lenOf pd__Ljava_lang_Object__Z rfl) rfl (by show 2 * 0 + _ ≤ _; exact Nat.le_of_eq rfl) (hb hby at_245) (fun _ _ => ⟨rfl, rfl, (by decide : 30 + 0 ≤ _), (by decide : 1066 + 0 ≤ _)⟩)
    dsimp only [Pt.U, Pt.locs, Pt.cells, Pt.slots] at X203 l203 y203 z203 st203 hQ203
    try dsimp only [Nat.reduceAdd] at y203 z203
    rw [l203, y203, z203] at X203
    obtain ⟨hcase203, rfl, eH203⟩ := hQ203
    have N203 := Fr.app N193 (Fr.nil n0)
    have hv203 : _ = some (Value.int 1) := hcase203.elim (fun q => q.1) (fun q => absurd rfl q.2)
    subst hv203
    refine own_tr st203 ?_
    have f204 := (Nat.le_trans hK187 Kq193.1)
    obtain ⟨fs, hr, hrun, hended, hRW⟩ := X203.leaveW hS (by rw [eH203]; exact f204) (v := some (.int (1 : Int32))) (fun h => by rw [Bd.returns] at h; cases h)
    have hCend : CHr Z own_EL s.vm s.heap T203.vm T203.heap := by
      rw [hh, eH203]
      exact CHr.trans CR194 (CHv.at X203 hZ hEL CH194)
    refine own_fin (retN X203 hx (t := .boolean) Bd.returns (by simp) (hb hby at_248) hr) ⟨hrun, hended, _, _, rfl, ?_, hCend, hRW.1, hRW.2.1, hRW.2.2.1, hRW.2.2.2.mono (by decide) (by decide)⟩
    show Q_rmLaw Z p0 p1 p2 p3 zc dg kd nw up un h0 n0 _ T203.heap _
    rw [eH203]
    exact ⟨rfl, N203, K195⟩
  · skip
    show own_Go p e below T7 (mkF m 47 (own_AU p0 p1 p2 p3 kI r_1 (4 : Int32) cnd b2) [(.int (4 : Int32))]) _
    refine own_st (fun t_ k_ => XS.ifNo X7.here hx rfl (hb hby at_47) rfl (by decide) (XS.iload X7.here hx rfl (hb hby at_50) rfl (XS.iconst X7.here hx rfl (hb hby at_52) (XS.icmpYes X7.here hx rfl (pc0 := 53) (pc' := 64) rfl (hb hby at_53) rfl (by decide) (by decide) (by decide) (XS.iload X7.here hx rfl (hb hby at_64) rfl (XS.iconst X7.here hx rfl (hb hby at_66) (XS.icmpYes X7.here hx rfl (pc0 := 67) (pc' := 78) rfl (hb hby at_67) rfl (by decide) (by decide) (by decide) k_))))))) ?_
    show own_Go p e below T7 (mkF m 78 (own_AU p0 p1 p2 p3 kI r_1 (4 : Int32) cnd b2) []) _
    have f205 := ((pO.ext E2).keep Kq7 (allS G2 all0))
    obtain ⟨T206, X206, e206, st206⟩ := getS2 X7 hx hZ hown (host := "") (Or.inl (own_w hw 283 rfl)) Via.refl rfl (pS_UNCHANGED.ext f205.2) (g := (mkF m 78 (own_AU p0 p1 p2 p3 kI r_1 (4 : Int32) cnd b2) [])) rfl (hb hby at_78)
    refine own_st st206 ?_
    refine own_st (fun t_ k_ => XS.astore X206.here hx rfl (hb hby at_81) rfl rfl (l' := (own_AL p0 p1 p2 p3 kI r_1 (4 : Int32) cnd b2 [.val (.ref un), .unset, .unset, .unset, .unset, .unset, .unset])) rfl (XS.aload X206.here hx rfl (hb hby at_83) rfl rfl k_)) ?_
    have f207 := (Nat.le_trans f5 Kq7.1)
    obtain ⟨T208, h208, X208, e208, E208, A208, D208, -, st208⟩ := newO X206 hx hZ hown (own_w hw 21 rfl) (own_w hw 22 rfl) (own_w hw 23 rfl) e206 (g := (mkF m 85 (own_AL p0 p1 p2 p3 kI r_1 (4 : Int32) cnd b2 [.val (.ref un), .unset, .unset, .unset, .unset, .unset, .unset]) [(.ref b2)])) rfl (hb hby at_85) (by decide) (by decide)
    obtain ⟨b208, g208⟩ : ∃ z, z = T7.heap.size := ⟨_, rfl⟩
    rw [← g208] at A208 D208 st208
    have G208 : n0 ≤ b208 := Nat.le_trans f207 (Nat.le_of_eq g208.symm)
    have B208 : h0.size ≤ b208 := Nat.le_trans K9.1 (Nat.le_of_eq g208.symm)
    have CH209 := CH8.ext E208
    have CR209 := CHr.trans CR8 (CHr.ext E208 CH8)
    have K210 : Keep h0 h208 [] := K9.ext E208
    have D208_localId : Fld Z h208 b208 "com/example/goldweave/goldweave/engine/linking/Registration" "localId" "Ljava/lang/String;" .null := D208 (Or.inr (own_w hw 42 rfl)) (ty := (.object "java/lang/String")) (by decide)
    have D208_change : Fld Z h208 b208 "com/example/goldweave/goldweave/engine/linking/Registration" "change" "Lcom/example/goldweave/goldweave/engine/linking/Registration$Change;" .null := D208 (Or.inr (own_w hw 44 rfl)) (ty := (.object "com/example/goldweave/goldweave/engine/linking/Registration$Change")) (by decide)
    have D208_newGoldenRecord : Fld Z h208 b208 "com/example/goldweave/goldweave/engine/linking/Registration" "newGoldenRecord" "Z" (.int (0 : Int32)) := D208 (Or.inr (own_w hw 46 rfl)) (ty := .boolean) (by decide)
    have D208_candidateLinks : Fld Z h208 b208 "com/example/goldweave/goldweave/engine/linking/Registration" "candidateLinks" "I" (.int (0 : Int32)) := D208 (Or.inr (own_w hw 48 rfl)) (ty := .int) (by decide)
    refine own_st st208 ?_
    refine own_st (fun t_ k_ => XS.dup X208.here hx rfl (hb hby at_88) rfl rfl k_) ?_
    have f212 := (Nat.le_trans (Nat.le_trans (Nat.le_trans hK0 E2.1) Kq7.1) E208.1)
    obtain ⟨b211, T211, h211, k211, X211, e211, E211, hS, hk211, hZ, hown, A211, -, st211⟩ := ldcOH X208 hx hZ hown (own_w hw 24 rfl) (own_wS hw) e208 hS f212 hEL CH209 (g := (mkF m 89 (own_AL p0 p1 p2 p3 kI r_1 (4 : Int32) cnd b2 [.val (.ref un), .unset, .unset, .unset, .unset, .unset, .unset]) [(.ref b208), (.ref b208), (.ref b2)])) rfl (hb hby at_89) (n := 8) (by decide) (by decide) (by decide) (by decide)
    have CH213 := A211.1
    have CR213 := CHr.trans CR209 (A211)
    have K214 : Keep h0 h211 [] := K210.ext E211
    refine own_st st211 ?_
    refine own_st (fun t_ k_ => XS.aload X211.here hx rfl (hb hby at_91) rfl rfl (XS.iload X211.here hx rfl (hb hby at_93) rfl (XS.iconst X211.here hx rfl (hb hby at_95) (XS.icmpYes X211.here hx rfl (pc0 := 96) (pc' := 103) rfl (hb hby at_96) rfl (by decide) (by decide) (by decide) (XS.iconst X211.here hx rfl (hb hby at_103) (XS.iload X211.here hx rfl (hb hby at_104) rfl k_)))))) ?_
    show own_Go p e below T211 (mkF m 106 (own_AL p0 p1 p2 p3 kI r_1 (4 : Int32) cnd b2 [.val (.ref un), .unset, .unset, .unset, .unset, .unset, .unset]) [(.int cnd), (.int (0 : Int32)), (.ref un), (.ref b211), (.ref b208), (.ref b208), (.ref b2)]) _
    have f215 := (Nat.le_trans (Nat.le_trans f207 E208.1) E211.1)
    have f216 := (A208.ext E211)
    have f217 := (D208_localId.ext E211)
    have f218 := (D208_change.ext E211)
    have f219 := (D208_newGoldenRecord.ext E211)
    have f220 := (D208_candidateLinks.ext E211)
    obtain ⟨_, _, ⟨T221, L221, k221, n221⟩, -, X221, ⟨Lc221, hQ221, l221, y221, z221⟩, st221⟩ := X211.specialBack hx (y := own_y33) rfl hown (mvT hZ (own_w hw 32 rfl)) (mvT hZ (own_w hw 33 rfl)) (mvT hZ (own_w hw 34 rfl)) (by decide) (backOf (W := 2) (rmRi0 l Z a0 hw [] b208 b211 un cnd .null .null ((.int (0 : Int32))) ((.int (0 : Int32))) h211 n0 f215 f216 f217 f218 f219 f220 G208) hZ (own_w hw 34 rfl) (own_w hw 23 rfl) (by decide) (by decide)) (g := (mkF m 106 (own_AL p0 p1 p2 p3 kI r_1 (4 : Int32) cnd b2 [.val (.ref un), .unset, .unset, .unset, .unset, .unset, .unset]) [(.int cnd), (.int (0 : Int32)), (.ref un), (.ref b211), (.ref b208), (.ref b208), (.ref b2)])) rfl (by rw [hml]; rfl) (Steps.refl _) (a := b208) (argsL := [(.ref b211), (.ref un), (.int (0 : Int32)), (.int cnd)]) (rest := [(.ref b208), (.ref b2)]) (lenOf pd__Ljava_lang_String_Lcom_example_goldweave_goldweave_engine_linking_Registration_Change_ZI_V rfl) rfl (by show 2 * 0 + _ ≤ _; exact Nat.le_of_eq rfl) (hb hby at_106) (fun _ _ => ⟨rfl, e211, (by decide : 4 + 0 ≤ _), (by decide : 24 + 0 ≤ _)⟩)
    dsimp only [Pt.U, Pt.locs, Pt.cells, Pt.slots] at X221 l221 y221 z221 st221 hQ221
    try dsimp only [Nat.reduceAdd] at y221 z221
    rw [l221, y221, z221] at X221
    obtain ⟨rfl, Nq221, Kq221, q221_0, q221_1, q221_2, q221_3, q221_4⟩ := hQ221
    have N221 := Fr.app N7 Nq221
    have Sa222 : ∀ y ∈ [b208], Safe Z own_EL T211.vm h211 y := (sfS (Safe.exa hZ.alike f216 (by decide) (by decide)) sf0)
    have CH222 := CH213.keep Kq221 Sa222
    have CR222 := CHr.trans CR213 (CHr.keep Kq221 Sa222 CH213)
    have K223 : Keep h0 T221.heap [] := K214.trans Kq221 (allS (Or.inr B208) all0)
    refine own_tr st221 ?_
    have f224 := (Nat.le_trans f215 Kq221.1)
    have f225 := (((q7_0.ext E208).ext E211).keep Kq221)
    have f226 := (((q7_1.ext E208).ext E211).keep Kq221 (ninS (Nat.ne_of_lt (Nat.lt_of_lt_of_le q7_0.lt (Nat.le_of_eq g208.symm))) nin0))
    have f227 := (((q7_5.ext E208).ext E211).keep Kq221 (ninS (Nat.ne_of_lt (Nat.lt_of_lt_of_le q7_0.lt (Nat.le_of_eq g208.symm))) nin0))
    have f228 := (((q7_6.ext E208).ext E211).keep Kq221 (ninS (Nat.ne_of_lt (Nat.lt_of_lt_of_le q7_0.lt (Nat.le_of_eq g208.symm))) nin0))
    have f229 := (((q7_7.ext E208).ext E211).keep Kq221 (ninS (Nat.ne_of_lt (Nat.lt_of_lt_of_le q7_0.lt (Nat.le_of_eq g208.symm))) nin0))
    have f230 := (((q7_2.ext E208).ext E211).keep Kq221 (ninS (Nat.ne_of_lt (Nat.lt_of_lt_of_le q7_0.lt (Nat.le_of_eq g208.symm))) nin0))
    have f231 := (((q7_8.ext E208).ext E211).keep Kq221 (ninS (Nat.ne_of_lt (Nat.lt_of_lt_of_le q7_0.lt (Nat.le_of_eq g208.symm))) nin0))
    have f232 := (((q7_9.ext E208).ext E211).keep Kq221 (ninS (Nat.ne_of_lt (Nat.lt_of_lt_of_le q7_0.lt (Nat.le_of_eq g208.symm))) nin0))
    have f233 := (((q7_10.ext E208).ext E211).keep Kq221 (ninS (Nat.ne_of_lt (Nat.lt_of_lt_of_le q7_0.lt (Nat.le_of_eq g208.symm))) nin0))
    have f234 := (((f205.ext E208).ext E211).keep Kq221 (allS G208 all0))
    obtain ⟨cq235, kq235, qa235, qb235, qc235⟩ := isOf hZ rfl f225
    obtain ⟨_, _, ⟨T235, L235, k235, n235⟩, -, X235, ⟨Lc235, hQ235, l235, y235, z235⟩, st235⟩ := X221.virtualBack hx (y := own_y37) (z := own_y37) hown (mvT hZ (own_w hw 49 rfl)) (mvT hZ (own_w hw 50 rfl)) (notFace_of_selects (args := #[]) (mvT hZ (own_w hw 52 rfl))) (mvT hZ (own_w hw 52 rfl)) (mvT hZ (own_w hw 51 rfl)) (by decide) (backOf (W := 0) (rmAd4 l Z a0 hw [] b2 b208 cnd r1_7 ((0 : Int64)) ((0 : Int64)) ((0 : Int64)) j1_7 ((0 : Int64)) ((0 : Int64)) ((0 : Int64)) nw up un T221.heap n0 f224 f225 f226 f227 f228 f229 f230 f231 f232 f233 q221_0 q221_2 q221_3 q221_4 G2 pS_NEW pS_UPDATED pS_UNCHANGED hun hcn hcu f234) hZ (own_w hw 53 rfl) (own_w hw 7 rfl) (by decide) (by decide)) qa235 qc235 (g := (mkF m 109 (own_AL p0 p1 p2 p3 kI r_1 (4 : Int32) cnd b2 [.val (.ref un), .unset, .unset, .unset, .unset, .unset, .unset]) [(.ref b208), (.ref b2)])) rfl (by rw [hml]; rfl) (Steps.refl _) (argsL := [(.ref b208)]) (rest := []) (lenOf pd__Lcom_example_goldweave_goldweave_engine_linking_Registration__V rfl) rfl (by show 2 * 0 + _ ≤ _; exact Nat.le_of_eq rfl) (hb hby at_109) (fun _ _ => ⟨rfl, rfl, (by decide : 4 + 0 ≤ _), (by decide : 24 + 0 ≤ _)⟩)
    dsimp only [Pt.U, Pt.locs, Pt.cells, Pt.slots] at X235 l235 y235 z235 st235 hQ235
    try dsimp only [Nat.reduceAdd] at y235 z235
    rw [l235, y235, z235] at X235
    obtain ⟨rfl, Nq235, Kq235, q235_0, q235_1, q235_2, q235_3, q235_4, q235_5, q235_6, q235_7, q235_8⟩ := hQ235
    have N235 := Fr.app N221 Nq235
    have Sa236 : ∀ y ∈ [b2], Safe Z own_EL T211.vm T221.heap y := (sfS (Safe.exa hZ.alike f225 (by decide) (by decide)) sf0)
    have CH236 := CH222.keep Kq235 Sa236
    have CR236 := CHr.trans CR222 (CHr.keep Kq235 Sa236 CH222)
    have K237 : Keep h0 T235.heap [] := K223.trans Kq235 (allS (Or.inr B2) all0)
    refine own_tr st235 ?_
    have hr2 := own_inc hr_ (by omega)
    refine own_st (fun t_ k_ => XS.aload X235.here hx rfl (hb hby at_112) rfl rfl (XS.iload X235.here hx rfl (hb hby at_114) rfl (XS.iload X235.here hx rfl (hb hby at_116) rfl (XS.isub X235.here hx rfl (hb hby at_118) rfl k_)))) ?_
    show own_Go p e below T235 (mkF m 119 (own_AL p0 p1 p2 p3 kI r_1 (4 : Int32) cnd b2 [.val (.ref un), .unset, .unset, .unset, .unset, .unset, .unset]) [(.int (kI - r_1)), (.ref b2)]) _
    have f238 := (Nat.le_trans f224 Kq235.1)
    obtain ⟨_, _, ⟨T239, L239, k239, n239⟩, -, X239, ⟨Lc239, hQ239, l239, y239, z239⟩, st239⟩ := Jvm.LawKit.callS X235 hx (y := own_y31) hown (mvT hZ (own_w hw 14 rfl)) (mvT hZ (own_w hw 15 rfl)) (mvT hZ (own_w hw 16 rfl)) (mvT hZ (own_w hw 17 rfl)) (by decide) (backOf (W := 0) (rmRt l Z a0 hw [] b2 ((kI - r_1)) ((kN - bN)) ((r1_7 + (1 : Int64))) j1_7 ((0 + bN + 1)) ((0 + bN)) ((0 : Int64)) ((0 : Int64)) (((0 : Int64) + (1 : Int64))) ((0 : Int64)) ((0 : Int64)) (((0 : Int64) + cnd.toInt64)) T235.heap n0 f238 q235_0 q235_1 q235_5 q235_2 q235_3 q235_4 q235_6 q235_7 q235_8 G2 hkb (by omega) hr2 hj_ (by omega) (by omega)) hZ (own_w hw 17 rfl) (own_w hw 16 rfl) (by decide) (by decide)) (g := (mkF m 119 (own_AL p0 p1 p2 p3 kI r_1 (4 : Int32) cnd b2 [.val (.ref un), .unset, .unset, .unset, .unset, .unset, .unset]) [(.int (kI - r_1)), (.ref b2)])) rfl (by rw [hml]; rfl) (argsL := [(.ref b2), (.int (kI - r_1))]) (rest := []) (lenOf pd__Lcom_example_goldweave_goldweave_server_cli_LoadSummary_I_V rfl) rfl (by show 2 * 0 + _ ≤ _; exact Nat.le_of_eq rfl) (hb hby at_119) (fun _ _ => ⟨rfl, rfl, (by decide : 4 + 0 ≤ _), (by decide : 24 + 0 ≤ _)⟩)
    dsimp only [Pt.U, Pt.locs, Pt.cells, Pt.slots] at X239 l239 y239 z239 st239 hQ239
    try dsimp only [Nat.reduceAdd] at y239 z239
    rw [l239, y239, z239] at X239
    obtain ⟨r1_239, j1_239, rfl, Nq239, Kq239, q239_0, q239_1, q239_2, q239_3, q239_4, q239_5, q239_6, q239_7, q239_8, q239_9, q239_10⟩ := hQ239
    have N239 := Fr.app N235 Nq239
    have Sa240 : ∀ y ∈ [b2], Safe Z own_EL T211.vm T235.heap y := (sfS (Safe.exa hZ.alike q235_0 (by decide) (by decide)) sf0)
    have CH240 := CH236.keep Kq239 Sa240
    have CR240 := CHr.trans CR236 (CHr.keep Kq239 Sa240 CH236)
    have K241 : Keep h0 T239.heap [] := K237.trans Kq239 (allS (Or.inr B2) all0)
    refine own_st st239 ?_
    have hd0 : r1_239.toInt = ((kN + 1 : Nat) : Int) := by rw [q239_3]; omega
    have hd4 : j1_239.toInt = (kN : Int) := by rw [q239_4]; omega
    have hd7 := own_addJ (show (0 : Int64).toInt = ((0 : Nat) : Int) from rfl) hc (by omega) (by omega)
    rw [Nat.zero_add] at hd7
    refine own_st (fun t_ k_ => XS.iload X239.here hx rfl (hb hby at_122) rfl (XS.ifNo X239.here hx rfl (hb hby at_124) rfl (by decide) (XS.iconst X239.here hx rfl (hb hby at_127) (XS.goto X239.here hx rfl (pc0 := 128) (pc' := 132) rfl (hb hby at_128) (by decide) (by decide) (XS.istore X239.here hx rfl (hb hby at_132) rfl (l' := (own_AL p0 p1 p2 p3 kI r_1 (4 : Int32) cnd b2 [.val (.int (1 : Int32)), .unset, .unset, .unset, .unset, .unset, .unset])) rfl (XS.iload X239.here hx rfl (hb hby at_134) rfl (XS.iconst X239.here hx rfl (hb hby at_136) (XS.icmpNo X239.here hx rfl (hb hby at_137) rfl (by decide) (XS.iload X239.here hx rfl (hb hby at_140) rfl (XS.iconst X239.here hx rfl (hb hby at_142) k_)))))))))) ?_
    show own_Go p e below T239 (mkF m 143 (own_AL p0 p1 p2 p3 kI r_1 (4 : Int32) cnd b2 [.val (.int (1 : Int32)), .unset, .unset, .unset, .unset, .unset, .unset]) [(.int (2 : Int32)), (.int (4 : Int32))]) _
    refine own_st (fun t_ k_ => XS.icmpYes X239.here hx rfl (pc0 := 143) (pc' := 150) rfl (hb hby at_143) rfl (by decide) (by decide) (by decide) (XS.iconst X239.here hx rfl (hb hby at_150) (XS.istore X239.here hx rfl (hb hby at_151) rfl (l' := (own_AL p0 p1 p2 p3 kI r_1 (4 : Int32) cnd b2 [.val (.int (1 : Int32)), .val (.int (0 : Int32)), .unset, .unset, .unset, .unset, .unset])) rfl (XS.iload X239.here hx rfl (hb hby at_153) rfl (XS.iconst X239.here hx rfl (hb hby at_155) (XS.icmpYes X239.here hx rfl (pc0 := 156) (pc' := 163) rfl (hb hby at_156) rfl (by decide) (by decide) (by decide) (XS.iconst X239.here hx rfl (hb hby at_163) (XS.istore X239.here hx rfl (hb hby at_164) rfl (l' := (own_AL p0 p1 p2 p3 kI r_1 (4 : Int32) cnd b2 [.val (.int (1 : Int32)), .val (.int (0 : Int32)), .val (.int (0 : Int32)), .unset, .unset, .unset, .unset])) rfl (XS.iload X239.here hx rfl (hb hby at_166) rfl (XS.iconst X239.here hx rfl (hb hby at_168) k_)))))))))) ?_
    show own_Go p e below T239 (mkF m 169 (own_AL p0 p1 p2 p3 kI r_1 (4 : Int32) cnd b2 [.val (.int (1 : Int32)), .val (.int (0 : Int32)), .val (.int (0 : Int32)), .unset, .unset, .unset, .unset]) [(.int (4 : Int32)), (.int (4 : Int32))]) _
    refine own_st (fun t_ k_ => XS.icmpNo X239.here hx rfl (hb hby at_169) rfl (by decide) (XS.iconst X239.here hx rfl (hb hby at_172) (XS.goto X239.here hx rfl (pc0 := 173) (pc' := 177) rfl (hb hby at_173) (by decide) (by decide) (XS.istore X239.here hx rfl (hb hby at_177) rfl (l' := (own_AL p0 p1 p2 p3 kI r_1 (4 : Int32) cnd b2 [.val (.int (1 : Int32)), .val (.int (0 : Int32)), .val (.int (0 : Int32)), .val (.int (1 : Int32)), .unset, .unset, .unset])) rfl (XS.iload X239.here hx rfl (hb hby at_179) rfl (XS.iconst X239.here hx rfl (hb hby at_181) (XS.icmpYes X239.here hx rfl (pc0 := 182) (pc' := 189) rfl (hb hby at_182) rfl (by decide) (by decide) (by decide) (XS.iconst X239.here hx rfl (hb hby at_189) (XS.istore X239.here hx rfl (hb hby at_190) rfl (l' := (own_AL p0 p1 p2 p3 kI r_1 (4 : Int32) cnd b2 [.val (.int (1 : Int32)), .val (.int (0 : Int32)), .val (.int (0 : Int32)), .val (.int (1 : Int32)), .val (.int (0 : Int32)), .unset, .unset])) rfl (XS.iload X239.here hx rfl (hb hby at_192) rfl k_)))))))))) ?_
    show own_Go p e below T239 (mkF m 194 (own_AL p0 p1 p2 p3 kI r_1 (4 : Int32) cnd b2 [.val (.int (1 : Int32)), .val (.int (0 : Int32)), .val (.int (0 : Int32)), .val (.int (1 : Int32)), .val (.int (0 : Int32)), .unset, .unset]) [(.int (4 : Int32))]) _
    refine own_st (fun t_ k_ => XS.iconst X239.here hx rfl (hb hby at_194) (XS.icmpYes X239.here hx rfl (pc0 := 195) (pc' := 202) rfl (hb hby at_195) rfl (by decide) (by decide) (by decide) (XS.iconst X239.here hx rfl (hb hby at_202) (XS.istore X239.here hx rfl (hb hby at_203) rfl (l' := (own_AL p0 p1 p2 p3 kI r_1 (4 : Int32) cnd b2 [.val (.int (1 : Int32)), .val (.int (0 : Int32)), .val (.int (0 : Int32)), .val (.int (1 : Int32)), .val (.int (0 : Int32)), .val (.int (0 : Int32)), .unset])) rfl (XS.iload X239.here hx rfl (hb hby at_205) rfl (XS.ifNo X239.here hx rfl (hb hby at_207) rfl (by decide) (XS.iload X239.here hx rfl (hb hby at_210) rfl (XS.goto X239.here hx rfl (pc0 := 212) (pc' := 216) rfl (hb hby at_212) (by decide) (by decide) (XS.istore X239.here hx rfl (hb hby at_216) rfl (l' := (own_AL p0 p1 p2 p3 kI r_1 (4 : Int32) cnd b2 [.val (.int (1 : Int32)), .val (.int (0 : Int32)), .val (.int (0 : Int32)), .val (.int (1 : Int32)), .val (.int (0 : Int32)), .val (.int (0 : Int32)), .val (.int cnd)])) rfl (XS.aload X239.here hx rfl (hb hby at_218) rfl rfl k_)))))))))) ?_
    show own_Go p e below T239 (mkF m 220 (own_AL p0 p1 p2 p3 kI r_1 (4 : Int32) cnd b2 [.val (.int (1 : Int32)), .val (.int (0 : Int32)), .val (.int (0 : Int32)), .val (.int (1 : Int32)), .val (.int (0 : Int32)), .val (.int (0 : Int32)), .val (.int cnd)]) [(.ref b2)]) _
    have f242 := (Nat.le_trans f238 Kq239.1)
    have f243 := ((f234.keep Kq235 (allS G2 all0)).keep Kq239 (allS G2 all0))
    have f245 := (Nat.le_trans (Nat.le_trans (Nat.le_trans hk211 Kq221.1) Kq235.1) Kq239.1)
    obtain ⟨cq244, kq244, qa244, qb244, qc244⟩ := isOf hZ rfl q239_0
    obtain ⟨_, _, ⟨T244, L244, k244, n244⟩, -, Xa244, hSa244, hGa244, ⟨Lc244, hQ244, l244, y244, z244, A244⟩, st244⟩ := X239.virtualBackS hx (y := own_y38) (z := own_y38) hown (mvT hZ (own_w hw 78 rfl)) (mvT hZ (own_w hw 79 rfl)) (notFace_of_selects (args := #[]) (mvT hZ (own_w hw 81 rfl))) (mvT hZ (own_w hw 81 rfl)) (mvT hZ (own_w hw 80 rfl)) (by decide) (backOfSH (W := 0) (rmTo l Z a0 hw [] b2 r1_239 ((0 : Int64)) ((0 : Int64)) (((0 : Int64) + (1 : Int64))) j1_239 ((0 : Int64)) ((0 : Int64)) (((0 : Int64) + cnd.toInt64)) ((kN + 1)) 0 0 1 kN 0 0 cN zc dg _ T239.heap n0 f242 q239_0 q239_1 q239_5 q239_6 q239_7 q239_2 q239_8 q239_9 q239_10 hd0 (by omega) rfl (by decide) rfl (by decide) rfl (by decide) hd4 (by omega) rfl (by decide) rfl (by decide) hd7 (by omega) pS_DigitOnes pD pS_COMPACT_STRINGS pP5 f243) hZ (own_w hw 82 rfl) (own_w hw 7 rfl) (by decide) (by decide) hEL CH240) qa244 qc244 (g := (mkF m 220 (own_AL p0 p1 p2 p3 kI r_1 (4 : Int32) cnd b2 [.val (.int (1 : Int32)), .val (.int (0 : Int32)), .val (.int (0 : Int32)), .val (.int (1 : Int32)), .val (.int (0 : Int32)), .val (.int (0 : Int32)), .val (.int cnd)]) [(.ref b2)])) rfl (by rw [hml]; rfl) (Steps.refl _) (argsL := []) (rest := []) (lenOf pd___Ljava_lang_String_ rfl) rfl (by show 2 * 0 + _ ≤ _; exact Nat.le_of_eq rfl) (hb hby at_220) (fun _ _ => ⟨rfl, rfl, (by decide : 4 + 23 ≤ _), (by decide : 24 + 870 ≤ _)⟩)
    dsimp only [Pt.U, Pt.locs, Pt.cells, Pt.slots] at Xa244 hSa244 hGa244 l244 y244 z244 A244 st244 hQ244
    try dsimp only [Nat.reduceAdd] at y244 z244
    rw [l244, y244, z244] at Xa244
    obtain ⟨X244, hS, hZ, hown⟩ := rebS hS f245 Xa244 hSa244 hGa244 hZ hown
    obtain ⟨y_244, b_244, kb_244, rfl, Nq244, Kq244, q244_0, q244_1, q244_2, q244_3⟩ := hQ244
    have N244 := Fr.app N239 Nq244
    have CH246 := A244.1
    have CR246 := CHr.trans CR240 (A244)
    have K247 : Keep h0 T244.heap [] := K241.trans Kq244 all0
    have hK244 : T244.heap.size ≤ T244.heap.size := Nat.le_refl _
    refine own_tr st244 ?_
    refine own_st (fun t_ k_ => XS.iload X244.here hx rfl (hb hby at_223) rfl (XS.iload X244.here hx rfl (hb hby at_225) rfl (XS.iadd X244.here hx rfl (hb hby at_227) rfl (XS.iload X244.here hx rfl (hb hby at_228) rfl (XS.iload X244.here hx rfl (hb hby at_230) rfl (XS.iload X244.here hx rfl (hb hby at_232) rfl (XS.iload X244.here hx rfl (hb hby at_234) rfl (XS.iload X244.here hx rfl (hb hby at_236) rfl (XS.iload X244.here hx rfl (hb hby at_238) rfl (XS.iload X244.here hx rfl (hb hby at_240) rfl k_)))))))))) ?_
    show own_Go p e below T244 (mkF m 242 (own_AL p0 p1 p2 p3 kI r_1 (4 : Int32) cnd b2 [.val (.int (1 : Int32)), .val (.int (0 : Int32)), .val (.int (0 : Int32)), .val (.int (1 : Int32)), .val (.int (0 : Int32)), .val (.int (0 : Int32)), .val (.int cnd)]) [(.int cnd), (.int (0 : Int32)), (.int (0 : Int32)), (.int kI), (.int (1 : Int32)), (.int (0 : Int32)), (.int (0 : Int32)), (.int (kI + (1 : Int32))), (.ref y_244)]) _
    have he0 : ((kI + (1 : Int32))).toInt = (((kN + 1) : Nat) : Int) := (by rw [own_add2 (by omega) (by decide) (by rw [show (1 : Int32).toInt = 1 from rfl]; omega), show (1 : Int32).toInt = 1 from rfl]; omega)
    have hg0 : (kN + 1) ≤ 9 := (by omega)
    have he1 : ((0 : Int32)).toInt = ((0 : Nat) : Int) := rfl
    have hg1 : 0 ≤ 9 := (by decide)
    have he2 : ((0 : Int32)).toInt = ((0 : Nat) : Int) := rfl
    have hg2 : 0 ≤ 9 := (by decide)
    have he3 : ((1 : Int32)).toInt = ((1 : Nat) : Int) := rfl
    have hg3 : 1 ≤ 9 := (by decide)
    have he4 : (kI).toInt = ((kN : Nat) : Int) := hk
    have hg4 : kN ≤ 9 := (by omega)
    have he5 : ((0 : Int32)).toInt = ((0 : Nat) : Int) := rfl
    have hg5 : 0 ≤ 9 := (by decide)
    have he6 : ((0 : Int32)).toInt = ((0 : Nat) : Int) := rfl
    have hg6 : 0 ≤ 9 := (by decide)
    have he7 : (cnd).toInt = ((cN : Nat) : Int) := hc
    have hg7 : cN ≤ 9 := (by omega)
    generalize (kI + (1 : Int32)) = eI at he0 ⊢
    show own_Go p e below T244 (mkF m 242 (own_AL p0 p1 p2 p3 kI r_1 (4 : Int32) cnd b2 [.val (.int (1 : Int32)), .val (.int (0 : Int32)), .val (.int (0 : Int32)), .val (.int (1 : Int32)), .val (.int (0 : Int32)), .val (.int (0 : Int32)), .val (.int cnd)]) [(.int cnd), (.int (0 : Int32)), (.int (0 : Int32)), (.int kI), (.int (1 : Int32)), (.int (0 : Int32)), (.int (0 : Int32)), (.int eI), (.ref y_244)]) _
    have f248 := (Nat.le_trans f242 Kq244.1)
    have f249 := (f243.keep Kq244 all0)
    obtain ⟨_, _, ⟨T250, L250, k250, n250⟩, -, X250, ⟨Lc250, hQ250, l250, y250, z250⟩, st250⟩ := Jvm.LawKit.callS X244 hx (y := own_y41) hown (mvT hZ (own_w hw 249 rfl)) (mvT hZ (own_w hw 250 rfl)) (mvT hZ (own_w hw 16 rfl)) (mvT hZ (own_w hw 251 rfl)) (by decide) (backOf (W := 1) (rmEx l Z a0 hw [] eI ((0 : Int32)) ((0 : Int32)) ((1 : Int32)) kI ((0 : Int32)) ((0 : Int32)) cnd ((kN + 1)) 0 0 1 kN 0 0 cN zc T244.heap n0 f248 he0 hg0 he1 hg1 he2 hg2 he3 hg3 he4 hg4 he5 hg5 he6 hg6 he7 hg7 pS_COMPACT_STRINGS pP5 f249) hZ (own_w hw 251 rfl) (own_w hw 16 rfl) (by decide) (by decide)) (g := (mkF m 242 (own_AL p0 p1 p2 p3 kI r_1 (4 : Int32) cnd b2 [.val (.int (1 : Int32)), .val (.int (0 : Int32)), .val (.int (0 : Int32)), .val (.int (1 : Int32)), .val (.int (0 : Int32)), .val (.int (0 : Int32)), .val (.int cnd)]) [(.int cnd), (.int (0 : Int32)), (.int (0 : Int32)), (.int kI), (.int (1 : Int32)), (.int (0 : Int32)), (.int (0 : Int32)), (.int eI), (.ref y_244)])) rfl (by rw [hml]; rfl) (argsL := [(.int eI), (.int (0 : Int32)), (.int (0 : Int32)), (.int (1 : Int32)), (.int kI), (.int (0 : Int32)), (.int (0 : Int32)), (.int cnd)]) (rest := [(.ref y_244)]) (lenOf pd__IIIIIIII_Ljava_lang_String_ rfl) rfl (by show 2 * 0 + _ ≤ _; exact Nat.le_of_eq rfl) (hb hby at_242) (fun _ _ => ⟨rfl, rfl, (by decide : 27 + 3 ≤ _), (by decide : 894 + 172 ≤ _)⟩)
    dsimp only [Pt.U, Pt.locs, Pt.cells, Pt.slots] at X250 l250 y250 z250 st250 hQ250
    try dsimp only [Nat.reduceAdd] at y250 z250
    rw [l250, y250, z250] at X250
    obtain ⟨y_250, t_250, kb_250, rfl, Nq250, Kq250, q250_0, q250_1, q250_2, q250_3⟩ := hQ250
    have N250 := Fr.app N244 Nq250
    have CH251 := CH246.keep Kq250 sf0
    have CR251 := CHr.trans CR246 (CHr.keep Kq250 sf0 CH246)
    have K252 : Keep h0 T250.heap [] := K247.trans Kq250 all0
    refine own_st st250 ?_
    have hpA : own_P (own_A2 (kN + 1) 0 0 1 kN 0 0 cN) := own_allP (own_one (own_d255 (by omega))) (own_one (own_d255 (by decide))) (own_one (own_d255 (by decide))) (own_one (own_d255 (by decide))) (own_one (own_d255 (by omega))) (own_one (own_d255 (by decide))) (own_one (own_d255 (by decide))) (own_one (own_d255 (by omega)))
    have hcd253 : StrChars.Road.CodA ((own_A2 (kN + 1) 0 0 1 kN 0 0 cN) : List Int32) 0 (84 : Int32) ((((own_A2 (kN + 1) 0 0 1 kN 0 0 cN) : List Int32).map (fun c : Int32 => c.toInt8.toInt32)).map Value.int) := StrChars.Road.codOf rfl (fun x hx => (hpA x hx).2)
    have hbd253 : ∀ x ∈ ((own_A2 (kN + 1) 0 0 1 kN 0 0 cN) : List Int32), ¬ x < 0 ∧ ¬ (65535 : Int32) < x := own_up _ hpA
    have hcd254 : StrChars.Road.CodA ((own_A2 (kN + 1) 0 0 1 kN 0 0 cN) : List Int32) 0 (84 : Int32) ((((own_A2 (kN + 1) 0 0 1 kN 0 0 cN) : List Int32).map (fun c : Int32 => c.toInt8.toInt32)).map Value.int) := StrChars.Road.codOf rfl (fun x hx => (hpA x hx).2)
    have hbd254 : ∀ x ∈ ((own_A2 (kN + 1) 0 0 1 kN 0 0 cN) : List Int32), ¬ x < 0 ∧ ¬ (65535 : Int32) < x := own_up _ hpA
    have f255 := (q244_0.keep Kq250)
    have f256 := (q244_1.keep Kq250 nin0)
    have f257 := (q244_2.keep Kq250 nin0)
    have f258 := (q244_3.keep Kq250 nin0)
    have f259 := (f249.keep Kq250 all0)
    obtain ⟨cq260, kq260, qa260, qb260, qc260⟩ := isOf hZ rfl f255
    obtain ⟨_, _, ⟨T260, L260, k260, n260⟩, -, X260, ⟨Lc260, hQ260, l260, y260, z260⟩, st260⟩ := X250.virtualBack hx (y := own_y42) (z := own_y42) hown (mvT hZ (own_w hw 273 rfl)) (mvT hZ (own_w hw 274 rfl)) (notFace_of_selects (args := #[]) (mvT hZ (own_w hw 276 rfl))) (mvT hZ (own_w hw 276 rfl)) (mvT hZ (own_w hw 275 rfl)) (by decide) (StrChars.Road.eqW (W := 0) hZ heq (kI := 4) (own_w hw 26 rfl) f255 f256 f257 f258 hcd253 hbd253 (Nat.le_of_ble_eq_true rfl) q250_0 q250_1 q250_2 q250_3 hcd254 hbd254 (Nat.le_of_ble_eq_true rfl) (pS_COMPACT_STRINGS.ext f259.2) pP5 (by decide) (by decide)) qa260 qc260 (g := (mkF m 245 (own_AL p0 p1 p2 p3 kI r_1 (4 : Int32) cnd b2 [.val (.int (1 : Int32)), .val (.int (0 : Int32)), .val (.int (0 : Int32)), .val (.int (1 : Int32)), .val (.int (0 : Int32)), .val (.int (0 : Int32)), .val (.int cnd)]) [(.ref y_250), (.ref y_244)])) rfl (by rw [hml]; rfl) (Steps.refl _) (argsL := [(.ref y_250)]) (rest := []) (lenOf pd__Ljava_lang_Object__Z rfl) rfl (by show 2 * 0 + _ ≤ _; exact Nat.le_of_eq rfl) (hb hby at_245) (fun _ _ => ⟨rfl, rfl, (by decide : 30 + 0 ≤ _), (by decide : 1066 + 0 ≤ _)⟩)
    dsimp only [Pt.U, Pt.locs, Pt.cells, Pt.slots] at X260 l260 y260 z260 st260 hQ260
    try dsimp only [Nat.reduceAdd] at y260 z260
    rw [l260, y260, z260] at X260
    obtain ⟨hcase260, rfl, eH260⟩ := hQ260
    have N260 := Fr.app N250 (Fr.nil n0)
    have hv260 : _ = some (Value.int 1) := hcase260.elim (fun q => q.1) (fun q => absurd rfl q.2)
    subst hv260
    refine own_tr st260 ?_
    have f261 := (Nat.le_trans hK244 Kq250.1)
    obtain ⟨fs, hr, hrun, hended, hRW⟩ := X260.leaveW hS (by rw [eH260]; exact f261) (v := some (.int (1 : Int32))) (fun h => by rw [Bd.returns] at h; cases h)
    have hCend : CHr Z own_EL s.vm s.heap T260.vm T260.heap := by
      rw [hh, eH260]
      exact CHr.trans CR251 (CHv.at X260 hZ hEL CH251)
    refine own_fin (retN X260 hx (t := .boolean) Bd.returns (by simp) (hb hby at_248) hr) ⟨hrun, hended, _, _, rfl, ?_, hCend, hRW.1, hRW.2.1, hRW.2.2.1, hRW.2.2.2.mono (by decide) (by decide)⟩
    show Q_rmLaw Z p0 p1 p2 p3 zc dg kd nw up un h0 n0 _ T260.heap _
    rw [eH260]
    exact ⟨rfl, N260, K252⟩
theorem own_ord {args : Array Value} {s : State} {t : Term} {x : Addr} {C n d : String} {z : Int32} (e : t.eval args s none [] s = some (.ref x)) (h : (Cond.eq (.field t C n d) (.int z)).value args s none s [] = some true) : s.fieldOf? x C n d = some (.int z) := by
  have q := Cond.eq_int (n := z) (beq_iff_eq.mpr h : (Cond.eq (.field t C n d) (.int z)).holds args s none s [] = true) rfl
  rw [fld_at e] at q
  exact q
set_option maxRecDepth 65536 in
set_option maxHeartbeats 40000000 in
theorem comes_1 {Post : Tables → Env → Array Value → State → Outcome → State → Prop} (hpost : ∀ tb e args s v u, (limb_1_1.after args s (.returned v) u = true ∧ limb_1_2.after args s (.returned v) u = true ∧ True) → ReturnedEndW s (.returned v) u (Jvm.fieldLocs frame_1_writes args s ++ Jvm.arrayLocs frame_1_arrays args s ++ Jvm.staticLocs frame_1_statics s) 56 10432 → Post tb e args s (.returned v) u) :
    ArmFor flags0 classFile x code maxLocals ret World_1 tables_1 room_1 Calls_1 rest_1 Pre_1 Post := by
  intro l hfl _ _ p e ha hc hk s m args below hf hA hF happ hP
  obtain ⟨hcalls, hrest, hpre⟩ := hP
  obtain ⟨-, -, -, hnamed, -, -, -, hat⟩ := (Spec.applies_iff hf).mp happ
  obtain ⟨hg, hn⟩ := and_e (Cond.before_iff.mp (show (Jvm.Cond.and given_1 narrow_1).before args s = true from hpre))
  obtain ⟨hc0, hg0⟩ := and_e hg
  obtain ⟨ga0, hg1⟩ := and_e hg0
  obtain ⟨ga1, hg2⟩ := and_e hg1
  obtain ⟨ga2, hg3⟩ := and_e hg2
  have ga3 := hg3
  obtain ⟨w0, w1, w2, w3, rfl⟩ : ∃ w0 w1 w2 w3 : Value, args = #[w0, w1, w2, w3] := by
    have hs : args.size = 4 := by simpa [Cond.value, given_1] using hc0
    obtain ⟨L⟩ := args
    match L, hs with
    | [w0, w1, w2, w3], _ => exact ⟨w0, w1, w2, w3, rfl⟩
  have hw := fun d (hd : d ∈ tables_1) => atoms_spec (ws := Jvm.Cond.code x code maxLocals ret :: tables_1) hat d (List.mem_cons_of_mem _ hd)
  have hfit : Fit s := fun {y c} hc i hi => by
    obtain ⟨ha, rfl⟩ := Array.getElem?_eq_some_iff.mp hc
    have q := List.all_eq_true.mp ((Array.all_eq_true_iff_forall_mem.mp hF) _ (Array.getElem_mem ha)) i (List.mem_range.mpr hi)
    simpa [Array.getElem?_eq_getElem hi] using q
  obtain ⟨hsets, hown0⟩ := atoms_of _ (rest_1_c_eq ▸ (show rest_1_c.before _ s = true from hrest))
  obtain ⟨i0, ei0⟩ := is_v ga0
  obtain rfl : w0 = (.int i0) := Option.some.inj ei0
  obtain ⟨i1, ei1⟩ := is_v ga1
  obtain rfl : w1 = (.int i1) := Option.some.inj ei1
  obtain ⟨i2, ei2⟩ := is_v ga2
  obtain rfl : w2 = (.int i2) := Option.some.inj ei2
  obtain ⟨i3, ei3⟩ := is_v ga3
  obtain rfl : w3 = (.int i3) := Option.some.inj ei3
  have n5 := not_v (Cond.before_iff.mp (hsets _ (List.mem_of_getElem? (i := 2) rfl)))
  obtain ⟨j1, e1⟩ := is_v (Cond.before_iff.mp (hsets _ (List.mem_of_getElem? (i := 1) rfl)))
  have S1 : Sta s s.heap "java/lang/String" "COMPACT_STRINGS" "Z" (.int j1) := Sta.start e1 (Or.inl (hsets _ (List.mem_of_getElem? (i := 0) rfl)))
  have c5 : ¬ (j1 = (0 : Int32)) := gotF (Cond.eq_ints e1 (Term.int_eval (0))) n5
  have hCH0 : CHv s own_EL s.vm s.heap := CHv.start (own_EW hw) (fun p hp => hcalls.1 p hp) (hsets _ (List.mem_of_getElem? (i := 2) rfl)) (own_w hw 27 rfl) (own_w hw 26 rfl)
  obtain ⟨st, d1, D1, d2, D2, hT1, hO1, hT2, hO2⟩ := Jvm.SetKit.digits_of hfit (own_w hw 27 rfl) (hsets _ (List.mem_of_getElem? (i := 9) rfl)) (hsets _ (List.mem_of_getElem? (i := 10) rfl)) (hsets _ (List.mem_of_getElem? (i := 12) rfl)) (hsets _ (List.mem_of_getElem? (i := 13) rfl)) (hsets _ (List.mem_of_getElem? (i := 14) rfl)) (hsets _ (List.mem_of_getElem? (i := 15) rfl)) (hsets _ (List.mem_of_getElem? (i := 17) rfl)) (hsets _ (List.mem_of_getElem? (i := 18) rfl)) (hsets _ (List.mem_of_getElem? (i := 19) rfl))
  obtain ⟨SD, pD⟩ := own_tbl hT1 hO1 (hsets _ (List.mem_of_getElem? (i := 9) rfl)) (hsets _ (List.mem_of_getElem? (i := 10) rfl)) (hsets _ (List.mem_of_getElem? (i := 12) rfl))
  obtain ⟨m1, hn1⟩ := and_e hn
  obtain ⟨m2, hn2⟩ := and_e hn1
  obtain ⟨m3, hn3⟩ := and_e hn2
  obtain ⟨m4, hn4⟩ := and_e hn3
  obtain ⟨m5, m6⟩ := and_e hn4
  obtain ⟨nw, e_nw⟩ := exa_v m1
  have S_nw : Sta s s.heap "com/example/goldweave/goldweave/engine/linking/Registration$Change" "NEW" "Lcom/example/goldweave/goldweave/engine/linking/Registration$Change;" (.ref nw) := Sta.start e_nw (Or.inr ⟨(own_w hw 19 rfl), (own_w hw 20 rfl)⟩)
  have o_nw := own_ord e_nw m4
  obtain ⟨up, e_up⟩ := exa_v m5
  have S_up : Sta s s.heap "com/example/goldweave/goldweave/engine/linking/Registration$Change" "UPDATED" "Lcom/example/goldweave/goldweave/engine/linking/Registration$Change;" (.ref up) := Sta.start e_up (Or.inr ⟨(own_w hw 19 rfl), (own_w hw 286 rfl)⟩)
  have o_up := own_ord e_up m6
  obtain ⟨un, e_un⟩ := exa_v m2
  have S_un : Sta s s.heap "com/example/goldweave/goldweave/engine/linking/Registration$Change" "UNCHANGED" "Lcom/example/goldweave/goldweave/engine/linking/Registration$Change;" (.ref un) := Sta.start e_un (Or.inr ⟨(own_w hw 19 rfl), (own_w hw 284 rfl)⟩)
  have o_un := own_ord e_un m3
  have hun : up ≠ nw := fun q => by subst q; exact absurd (Option.some.inj (o_up.symm.trans o_nw)) (by decide)
  have hcn : un ≠ nw := fun q => by subst q; exact absurd (Option.some.inj (o_un.symm.trans o_nw)) (by decide)
  have hcu : un ≠ up := fun q => by subst q; exact absurd (Option.some.inj (o_un.symm.trans o_up)) (by decide)
  obtain ⟨n, o, h1, h2, h3, _, L, rfl, ⟨rfl, N, -⟩, -, hq⟩ := rmLaw l s _ hw tables_1 i0 i1 i2 i3 j1 d1 D1.cls nw up un s.heap s.heap.size (Nat.le_refl _) SD pD S_nw S_up S_un hun hcn hcu S1 c5 (Old.start s) p e ha hc hk s m _ below hf ((Spec.applies_iff_loose hf).mp happ).1 ⟨rfl, State.Warmed39.refl s, rfl, hCH0⟩ trivial
  refine ⟨n, _, h1, h2, h3, hpost _ _ _ _ _ _ ⟨Cond.after_iff.mpr rfl, Cond.after_iff.mpr (eq_i res_at (Term.int_eval (1)) rfl), trivial⟩ ⟨hq.1, hq.2.1, hq.2.2.1, (hq.2.2.2.sift fun y hy => Or.inr (N y hy)).mono (by decide) (by decide)⟩⟩
theorem main_1_1 : Claimed_1_1 := comes_1 fun _ _ _ _ _ _ h hF => ⟨h.1, hF⟩
theorem main_1_2 : Claimed_1_2 := comes_1 fun _ _ _ _ _ _ h hF => ⟨h.2.1, hF⟩
end Jvm.Pilot.@@N@@
namespace Jvm.Pilot.@@N@@
open Jvm Jvm.ClassFile Sem Op Lib Jvm.Free Jvm.Stand Jvm.Pilot.@@N@@.Jvm.D
/-! MADE BY PROGRAM (witnessworld.py) out of the Statement's table words and the real class files: 33 classes; the members and pool entries that the words name. The judged class is class 1, her method 1. -/
namespace start1
open Jvm.ClassFile
def u (s : String) : CpInfo := .utf8 (stringToUtf16 s)
/-- a pool by its gaps: so many unusable entries, then the entry; so many at the end -/
def gap : Nat → List CpInfo → List CpInfo
  | 0, r => r
  | n + 1, r => .unusable :: gap n r
def poolList (es : List (Nat × CpInfo)) (last : Nat) : List CpInfo := es.foldr (fun e r => gap e.1 (e.2 :: r)) (gap last [])
def pool (es : List (Nat × CpInfo)) (last : Nat) : Array CpInfo := ⟨poolList es last⟩
def fileOf (pool : Array CpInfo) (this : Nat) (attrs : Array Attribute := #[]) (ms : Array MethodInfo := #[]) (fl : Nat := 33) (sup : Nat := 0) (ifs : Array Nat := #[]) (fds : Array FieldInfo := #[]) : ClassFile where
  minorVersion := 0
  majorVersion := 65
  constantPool := pool
  accessFlags := fl
  thisClass := this
  superClass := sup
  interfaces := ifs
  fields := fds
  methods := ms
  attributes := attrs
def plain (name : String) (sup : Option ClassId) : Class where
  name := name
  kind := .ordinary
  loader := none
  accessFlags := 33
  super := sup
  interfaces := #[]
  cf := none
  fields := #[]
  methods := #[]
  instanceTypes := #[]
  staticTypes := #[]
  resolved := #[]
  callSites := []
  init := .initialized
  statics := none
  mirror := none

def pool0 : Array CpInfo := pool [(5, u "<init>"), (0, u "()V"), (1, .class_ 10), (1, u "java/lang/Object")] 113

def k0c0 : Code := { maxStack := 0, maxLocals := 1, code := object_method_1_code, exceptionTable := #[], attributes := #[] }
def k0m0 : Method := { name := "<init>", desc := "()V", sig := { parameters := [], returnType := none }, accessFlags := 1, code := some k0c0 }
/-- java/lang/Object -/
def k0 : Class := { plain "java/lang/Object" none with
  accessFlags := 33
  interfaces := #[]
  cf := some (fileOf pool0 8 #[] #[{ accessFlags := 1, nameIndex := 5, descriptorIndex := 6, attributes := #[] }] 33 0 #[] #[])
  fields := #[]
  methods := #[k0m0]
  instanceTypes := #[]
  staticTypes := #[]
  resolved := Array.replicate 124 none
  statics := none }

def pool1 : Array CpInfo := pool [(2, .class_ 4), (0, .nameAndType 5 6), (0, u "java/lang/Object"), (0, u "<init>"), (0, u "()V"), (0, .methodref 8 9), (0, .class_ 10), (0, .nameAndType 11 12), (0, u "java/lang/Math"), (0, u "min"), (0, u "(II)I"), (0, .integer 2147483647), (0, .class_ 15), (0, u "com/example/goldweave/goldweave/server/cli/LoadSummary"), (0, .methodref 14 3), (0, .methodref 18 19), (0, .class_ 20), (0, .nameAndType 21 22), (0, u "com/example/goldweave/goldweave/server/cli/LoadSummaryRejectPinLaw"), (0, u "rejectTimes"), (0, u "(Lcom/example/goldweave/goldweave/server/cli/LoadSummary;I)V"), (0, .fieldref 24 25), (0, .class_ 26), (0, .nameAndType 27 28), (0, u "com/example/goldweave/goldweave/engine/linking/Registration$Change"), (0, u "NEW"), (0, u "Lcom/example/goldweave/goldweave/engine/linking/Registration$Change;"), (0, .fieldref 24 30), (0, .nameAndType 31 28), (0, u "UPDATED"), (0, .fieldref 24 33), (0, .nameAndType 34 28), (0, u "UNCHANGED"), (0, .class_ 36), (0, u "com/example/goldweave/goldweave/engine/linking/Registration"), (0, .string 38), (0, u "id"), (0, .methodref 35 40), (0, .nameAndType 5 41), (0, u "(Ljava/lang/String;Lcom/example/goldweave/goldweave/engine/linking/Registration$Change;ZI)V"), (0, .methodref 14 43), (0, .nameAndType 44 45), (0, u "add"), (0, u "(Lcom/example/goldweave/goldweave/engine/linking/Registration;)V"), (0, .methodref 14 47), (0, .nameAndType 48 49), (0, u "toString"), (0, u "()Ljava/lang/String;"), (0, .methodref 18 51), (0, .nameAndType 52 53), (0, u "expected"), (0, u "(IIIIIIII)Ljava/lang/String;"), (0, .methodref 55 56), (0, .class_ 57), (0, .nameAndType 58 59), (0, u "java/lang/String"), (0, u "equals"), (0, u "(Ljava/lang/Object;)Z"), (0, .methodref 14 61), (0, .nameAndType 62 6), (0, u "reject"), (0, .methodref 18 64), (0, .nameAndType 65 66), (0, u "d"), (0, u "(I)C"), (0, .methodref 55 68), (0, .nameAndType 5 69), (0, u "([C)V"), (2, u "law"), (0, u "(IIII)Z")] 5

def k1m0 : Method := { name := "<init>", desc := "()V", sig := { parameters := [], returnType := none }, accessFlags := 1, code := none }
def k1c1 : Code := { maxStack := 9, maxLocals := 16, code := code, exceptionTable := #[], attributes := #[] }
def k1m1 : Method := { name := "law", desc := "(IIII)Z", sig := { parameters := [.int, .int, .int, .int], returnType := some .boolean }, accessFlags := 9, code := some k1c1 }
def k1c2 : Code := { maxStack := 2, maxLocals := 2, code := method_3_code, exceptionTable := #[], attributes := #[] }
def k1m2 : Method := { name := "rejectTimes", desc := "(Lcom/example/goldweave/goldweave/server/cli/LoadSummary;I)V", sig := { parameters := [(.object "com/example/goldweave/goldweave/server/cli/LoadSummary"), .int], returnType := none }, accessFlags := 10, code := some k1c2 }
def k1c3 : Code := { maxStack := 2, maxLocals := 1, code := method_4_code, exceptionTable := #[], attributes := #[] }
def k1m3 : Method := { name := "d", desc := "(I)C", sig := { parameters := [.int], returnType := some .char }, accessFlags := 10, code := some k1c3 }
def k1c4 : Code := { maxStack := 4, maxLocals := 9, code := method_5_code, exceptionTable := #[], attributes := #[] }
def k1m4 : Method := { name := "expected", desc := "(IIIIIIII)Ljava/lang/String;", sig := { parameters := [.int, .int, .int, .int, .int, .int, .int, .int], returnType := some (.object "java/lang/String") }, accessFlags := 10, code := some k1c4 }
/-- com/example/goldweave/goldweave/server/cli/LoadSummaryRejectPinLaw -/
def k1 : Class := { plain "com/example/goldweave/goldweave/server/cli/LoadSummaryRejectPinLaw" (some 0) with
  accessFlags := 49
  interfaces := #[]
  cf := some (fileOf pool1 18 #[] #[{ accessFlags := 1, nameIndex := 5, descriptorIndex := 6, attributes := #[] }, { accessFlags := 9, nameIndex := 72, descriptorIndex := 73, attributes := #[] }, { accessFlags := 10, nameIndex := 21, descriptorIndex := 22, attributes := #[] }, { accessFlags := 10, nameIndex := 65, descriptorIndex := 66, attributes := #[] }, { accessFlags := 10, nameIndex := 52, descriptorIndex := 53, attributes := #[] }] 49 2 #[] #[])
  fields := #[]
  methods := #[k1m0, k1m1, k1m2, k1m3, k1m4]
  instanceTypes := #[]
  staticTypes := #[]
  resolved := Array.replicate 79 none
  statics := none }

def pool2 : Array CpInfo := pool [(1, .class_ 2), (0, u "java/lang/Math"), (1, .class_ 6), (1, u "java/lang/Object"), (0, u "<init>"), (0, u "()V"), (89, .class_ 100), (1, u "java/lang/Math$RandomNumberGeneratorHolder"), (71, u "negativeZeroFloatBits"), (0, u "J"), (2, u "negativeZeroDoubleBits"), (21, u "max"), (2, u "min"), (43, u "$assertionsDisabled"), (0, u "Z"), (88, u "(II)I"), (2, u "twoToTheDoubleScaleDown"), (0, u "D"), (4, u "twoToTheDoubleScaleUp"), (9, u "E"), (3, u "PI"), (2, u "TAU"), (2, u "DEGREES_TO_RADIANS"), (0, u "RADIANS_TO_DEGREES")] 94

def k2m0 : Method := { name := "<init>", desc := "()V", sig := { parameters := [], returnType := none }, accessFlags := 2, code := none }
def k2c1 : Code := { maxStack := 2, maxLocals := 2, code := jdk_29_method_65_code, exceptionTable := #[], attributes := #[] }
def k2m1 : Method := { name := "max", desc := "(II)I", sig := { parameters := [.int, .int], returnType := some .int }, accessFlags := 9, code := some k2c1 }
def k2c2 : Code := { maxStack := 2, maxLocals := 2, code := jdk_29_method_69_code, exceptionTable := #[], attributes := #[] }
def k2m2 : Method := { name := "min", desc := "(II)I", sig := { parameters := [.int, .int], returnType := some .int }, accessFlags := 9, code := some k2c2 }
/-- java/lang/Math -/
def k2 : Class := { plain "java/lang/Math" (some 0) with
  accessFlags := 49
  interfaces := #[]
  cf := some (fileOf pool2 1 #[.nestMembers #[98]] #[{ accessFlags := 2, nameIndex := 7, descriptorIndex := 8, attributes := #[] }, { accessFlags := 9, nameIndex := 198, descriptorIndex := 335, attributes := #[] }, { accessFlags := 9, nameIndex := 201, descriptorIndex := 335, attributes := #[] }] 49 4 #[] #[{ accessFlags := 25, nameIndex := 354, descriptorIndex := 339, attributes := #[] }, { accessFlags := 25, nameIndex := 358, descriptorIndex := 339, attributes := #[] }, { accessFlags := 25, nameIndex := 361, descriptorIndex := 339, attributes := #[] }, { accessFlags := 26, nameIndex := 364, descriptorIndex := 339, attributes := #[] }, { accessFlags := 26, nameIndex := 365, descriptorIndex := 339, attributes := #[] }, { accessFlags := 26, nameIndex := 172, descriptorIndex := 173, attributes := #[] }, { accessFlags := 26, nameIndex := 176, descriptorIndex := 173, attributes := #[] }, { accessFlags := 8, nameIndex := 344, descriptorIndex := 339, attributes := #[] }, { accessFlags := 8, nameIndex := 338, descriptorIndex := 339, attributes := #[] }, { accessFlags := 4120, nameIndex := 245, descriptorIndex := 246, attributes := #[] }])
  fields := #[{ name := "E", type := .double, accessFlags := 25, slot := 0, constantValue := 0 }, { name := "PI", type := .double, accessFlags := 25, slot := 1, constantValue := 0 }, { name := "TAU", type := .double, accessFlags := 25, slot := 2, constantValue := 0 }, { name := "DEGREES_TO_RADIANS", type := .double, accessFlags := 26, slot := 3, constantValue := 0 }, { name := "RADIANS_TO_DEGREES", type := .double, accessFlags := 26, slot := 4, constantValue := 0 }, { name := "negativeZeroFloatBits", type := .long, accessFlags := 26, slot := 5, constantValue := 0 }, { name := "negativeZeroDoubleBits", type := .long, accessFlags := 26, slot := 6, constantValue := 0 }, { name := "twoToTheDoubleScaleUp", type := .double, accessFlags := 8, slot := 7, constantValue := 0 }, { name := "twoToTheDoubleScaleDown", type := .double, accessFlags := 8, slot := 8, constantValue := 0 }, { name := "$assertionsDisabled", type := .boolean, accessFlags := 4120, slot := 9, constantValue := 0 }]
  methods := #[k2m0, k2m1, k2m2]
  instanceTypes := #[]
  staticTypes := #[.double, .double, .double, .double, .double, .long, .long, .double, .double, .boolean]
  resolved := Array.replicate 460 none
  statics := none }

def pool3 : Array CpInfo := pool [(1, .methodref 2 3), (0, .class_ 4), (0, .nameAndType 5 6), (0, u "java/lang/Object"), (0, u "<init>"), (0, u "()V"), (0, .fieldref 8 9), (0, .class_ 10), (0, .nameAndType 11 12), (0, u "com/example/goldweave/goldweave/server/cli/LoadSummary"), (0, u "records"), (0, u "J"), (0, .fieldref 8 14), (0, .nameAndType 15 12), (0, u "candidates"), (0, .methodref 17 18), (0, .class_ 19), (0, .nameAndType 20 21), (0, u "com/example/goldweave/goldweave/engine/linking/Registration"), (0, u "candidateLinks"), (0, u "()I"), (0, .methodref 17 23), (0, .nameAndType 24 25), (0, u "change"), (0, u "()Lcom/example/goldweave/goldweave/engine/linking/Registration$Change;"), (0, .fieldref 27 28), (0, .class_ 29), (0, .nameAndType 30 31), (0, u "com/example/goldweave/goldweave/engine/linking/Registration$Change"), (0, u "NEW"), (0, u "Lcom/example/goldweave/goldweave/engine/linking/Registration$Change;"), (0, .fieldref 8 33), (0, .nameAndType 34 12), (0, u "created"), (0, .methodref 17 36), (0, .nameAndType 37 38), (0, u "newGoldenRecord"), (0, u "()Z"), (0, .fieldref 8 40), (0, .nameAndType 41 12), (0, u "newMasters"), (0, .fieldref 8 43), (0, .nameAndType 44 12), (0, u "linked"), (0, .fieldref 27 46), (0, .nameAndType 47 31), (0, u "UPDATED"), (0, .fieldref 8 49), (0, .nameAndType 50 12), (0, u "updated"), (0, .fieldref 8 52), (0, .nameAndType 53 12), (0, u "unchanged"), (0, .fieldref 8 55), (0, .nameAndType 56 12), (0, u "rejected"), (0, .class_ 58), (0, u "java/lang/StringBuilder"), (0, .methodref 57 3), (0, .string 61), (0, u "records="), (0, .methodref 57 63), (0, .nameAndType 64 65), (0, u "append"), (0, u "(Ljava/lang/String;)Ljava/lang/StringBuilder;"), (0, .methodref 57 67), (0, .nameAndType 64 68), (0, u "(J)Ljava/lang/StringBuilder;"), (0, .string 70), (0, u " new="), (0, .string 72), (0, u " updated="), (0, .string 74), (0, u " unchanged="), (0, .string 76), (0, u " rejected="), (0, .string 78), (0, u " linked="), (0, .string 80), (0, u " new_masters="), (0, .string 82), (0, u " candidates="), (0, .methodref 57 84), (0, .nameAndType 85 86), (0, u "toString"), (0, u "()Ljava/lang/String;"), (2, u "add"), (0, u "(Lcom/example/goldweave/goldweave/engine/linking/Registration;)V"), (1, u "reject")] 4

def k3c0 : Code := { maxStack := 1, maxLocals := 1, code := prog_62_method_1_code, exceptionTable := #[], attributes := #[] }
def k3m0 : Method := { name := "<init>", desc := "()V", sig := { parameters := [], returnType := none }, accessFlags := 0, code := some k3c0 }
def k3c1 : Code := { maxStack := 5, maxLocals := 2, code := prog_62_method_2_code, exceptionTable := #[], attributes := #[] }
def k3m1 : Method := { name := "add", desc := "(Lcom/example/goldweave/goldweave/engine/linking/Registration;)V", sig := { parameters := [(.object "com/example/goldweave/goldweave/engine/linking/Registration")], returnType := none }, accessFlags := 0, code := some k3c1 }
def k3c2 : Code := { maxStack := 5, maxLocals := 1, code := prog_62_method_3_code, exceptionTable := #[], attributes := #[] }
def k3m2 : Method := { name := "reject", desc := "()V", sig := { parameters := [], returnType := none }, accessFlags := 0, code := some k3c2 }
def k3c3 : Code := { maxStack := 3, maxLocals := 1, code := prog_62_method_4_code, exceptionTable := #[], attributes := #[] }
def k3m3 : Method := { name := "toString", desc := "()Ljava/lang/String;", sig := { parameters := [], returnType := some (.object "java/lang/String") }, accessFlags := 1, code := some k3c3 }
/-- com/example/goldweave/goldweave/server/cli/LoadSummary -/
def k3 : Class := { plain "com/example/goldweave/goldweave/server/cli/LoadSummary" (some 0) with
  accessFlags := 48
  interfaces := #[]
  cf := some (fileOf pool3 8 #[] #[{ accessFlags := 0, nameIndex := 5, descriptorIndex := 6, attributes := #[] }, { accessFlags := 0, nameIndex := 89, descriptorIndex := 90, attributes := #[] }, { accessFlags := 0, nameIndex := 92, descriptorIndex := 6, attributes := #[] }, { accessFlags := 1, nameIndex := 85, descriptorIndex := 86, attributes := #[] }] 48 2 #[] #[{ accessFlags := 2, nameIndex := 11, descriptorIndex := 12, attributes := #[] }, { accessFlags := 2, nameIndex := 34, descriptorIndex := 12, attributes := #[] }, { accessFlags := 2, nameIndex := 50, descriptorIndex := 12, attributes := #[] }, { accessFlags := 2, nameIndex := 53, descriptorIndex := 12, attributes := #[] }, { accessFlags := 2, nameIndex := 56, descriptorIndex := 12, attributes := #[] }, { accessFlags := 2, nameIndex := 44, descriptorIndex := 12, attributes := #[] }, { accessFlags := 2, nameIndex := 41, descriptorIndex := 12, attributes := #[] }, { accessFlags := 2, nameIndex := 15, descriptorIndex := 12, attributes := #[] }])
  fields := #[{ name := "records", type := .long, accessFlags := 2, slot := 0, constantValue := 0 }, { name := "created", type := .long, accessFlags := 2, slot := 1, constantValue := 0 }, { name := "updated", type := .long, accessFlags := 2, slot := 2, constantValue := 0 }, { name := "unchanged", type := .long, accessFlags := 2, slot := 3, constantValue := 0 }, { name := "rejected", type := .long, accessFlags := 2, slot := 4, constantValue := 0 }, { name := "linked", type := .long, accessFlags := 2, slot := 5, constantValue := 0 }, { name := "newMasters", type := .long, accessFlags := 2, slot := 6, constantValue := 0 }, { name := "candidates", type := .long, accessFlags := 2, slot := 7, constantValue := 0 }]
  methods := #[k3m0, k3m1, k3m2, k3m3]
  instanceTypes := #[.long, .long, .long, .long, .long, .long, .long, .long]
  staticTypes := #[]
  resolved := Array.replicate 97 none
  statics := none }

def pool4 : Array CpInfo := pool [(1, .class_ 2), (0, u "java/lang/constant/Constable"), (0, .class_ 4), (0, u "java/lang/Object")] 6

/-- java/lang/constant/Constable -/
def k4 : Class := { plain "java/lang/constant/Constable" (some 0) with
  accessFlags := 1537
  interfaces := #[]
  cf := some (fileOf pool4 1 #[] #[] 1537 3 #[] #[])
  fields := #[]
  methods := #[]
  instanceTypes := #[]
  staticTypes := #[]
  resolved := Array.replicate 11 none
  statics := none }

def pool5 : Array CpInfo := pool [(1, .class_ 2), (0, u "java/lang/Comparable"), (0, .class_ 4), (0, u "java/lang/Object")] 7

/-- java/lang/Comparable -/
def k5 : Class := { plain "java/lang/Comparable" (some 0) with
  accessFlags := 1537
  interfaces := #[]
  cf := some (fileOf pool5 1 #[] #[] 1537 3 #[] #[])
  fields := #[]
  methods := #[]
  instanceTypes := #[]
  staticTypes := #[]
  resolved := Array.replicate 12 none
  statics := none }

def pool6 : Array CpInfo := pool [(1, .class_ 2), (0, u "java/io/Serializable"), (0, .class_ 4), (0, u "java/lang/Object")] 2

/-- java/io/Serializable -/
def k6 : Class := { plain "java/io/Serializable" (some 0) with
  accessFlags := 1537
  interfaces := #[]
  cf := some (fileOf pool6 1 #[] #[] 1537 3 #[] #[])
  fields := #[]
  methods := #[]
  instanceTypes := #[]
  staticTypes := #[]
  resolved := Array.replicate 7 none
  statics := none }

def pool7 : Array CpInfo := pool [(2, .class_ 4), (1, u "java/lang/Enum"), (0, u "name"), (0, u "Ljava/lang/String;"), (2, u "ordinal"), (0, u "I"), (1, .class_ 14), (1, u "java/lang/Object"), (4, u "hash"), (86, .class_ 108), (1, u "java/lang/Enum$EnumDesc"), (2, .class_ 112), (0, u "java/lang/constant/Constable"), (0, .class_ 114), (0, u "java/lang/Comparable"), (0, .class_ 116), (0, u "java/io/Serializable")] 87

/-- java/lang/Enum -/
def k7 : Class := { plain "java/lang/Enum" (some 0) with
  accessFlags := 1057
  interfaces := #[4, 5, 6]
  cf := some (fileOf pool7 2 #[.nestMembers #[106]] #[] 1057 12 #[111, 113, 115] #[{ accessFlags := 18, nameIndex := 5, descriptorIndex := 6, attributes := #[] }, { accessFlags := 18, nameIndex := 9, descriptorIndex := 10, attributes := #[] }, { accessFlags := 2, nameIndex := 19, descriptorIndex := 10, attributes := #[] }])
  fields := #[{ name := "name", type := (.object "java/lang/String"), accessFlags := 18, slot := 0, constantValue := 0 }, { name := "ordinal", type := .int, accessFlags := 18, slot := 1, constantValue := 0 }, { name := "hash", type := .int, accessFlags := 2, slot := 2, constantValue := 0 }]
  methods := #[]
  instanceTypes := #[(.object "java/lang/String"), .int, .int]
  staticTypes := #[]
  resolved := Array.replicate 204 none
  statics := none }

def pool8 : Array CpInfo := pool [(1, .class_ 2), (0, u "com/example/goldweave/goldweave/engine/linking/Registration$Change"), (2, u "NEW"), (0, u "Lcom/example/goldweave/goldweave/engine/linking/Registration$Change;"), (2, u "UPDATED"), (2, u "UNCHANGED"), (2, u "$VALUES"), (0, u "[Lcom/example/goldweave/goldweave/engine/linking/Registration$Change;"), (6, .class_ 25), (1, u "java/lang/Enum"), (26, .class_ 53), (0, u "com/example/goldweave/goldweave/engine/linking/Registration")] 2

/-- com/example/goldweave/goldweave/engine/linking/Registration$Change -/
def k8 : Class := { plain "com/example/goldweave/goldweave/engine/linking/Registration$Change" (some 7) with
  accessFlags := 16433
  interfaces := #[]
  cf := some (fileOf pool8 1 #[.nestHost 52] #[] 16433 23 #[] #[{ accessFlags := 16409, nameIndex := 5, descriptorIndex := 6, attributes := #[] }, { accessFlags := 16409, nameIndex := 9, descriptorIndex := 6, attributes := #[] }, { accessFlags := 16409, nameIndex := 12, descriptorIndex := 6, attributes := #[] }, { accessFlags := 4122, nameIndex := 15, descriptorIndex := 16, attributes := #[] }])
  fields := #[{ name := "NEW", type := (.object "com/example/goldweave/goldweave/engine/linking/Registration$Change"), accessFlags := 16409, slot := 0, constantValue := 0 }, { name := "UPDATED", type := (.object "com/example/goldweave/goldweave/engine/linking/Registration$Change"), accessFlags := 16409, slot := 1, constantValue := 0 }, { name := "UNCHANGED", type := (.object "com/example/goldweave/goldweave/engine/linking/Registration$Change"), accessFlags := 16409, slot := 2, constantValue := 0 }, { name := "$VALUES", type := (.array (.object "com/example/goldweave/goldweave/engine/linking/Registration$Change")), accessFlags := 4122, slot := 3, constantValue := 0 }]
  methods := #[]
  instanceTypes := #[(.object "java/lang/String"), .int, .int]
  staticTypes := #[(.object "com/example/goldweave/goldweave/engine/linking/Registration$Change"), (.object "com/example/goldweave/goldweave/engine/linking/Registration$Change"), (.object "com/example/goldweave/goldweave/engine/linking/Registration$Change"), (.array (.object "com/example/goldweave/goldweave/engine/linking/Registration$Change"))]
  resolved := Array.replicate 56 none
  statics := some 0 }

def pool9 : Array CpInfo := pool [(1, .methodref 2 3), (0, .class_ 4), (0, .nameAndType 5 6), (0, u "java/lang/Object"), (0, u "<init>"), (0, u "()V"), (0, .class_ 8), (0, u "java/lang/Record")] 13

def k9c0 : Code := { maxStack := 1, maxLocals := 1, code := jdk_30_method_1_code, exceptionTable := #[], attributes := #[] }
def k9m0 : Method := { name := "<init>", desc := "()V", sig := { parameters := [], returnType := none }, accessFlags := 4, code := some k9c0 }
/-- java/lang/Record -/
def k9 : Class := { plain "java/lang/Record" (some 0) with
  accessFlags := 1057
  interfaces := #[]
  cf := some (fileOf pool9 7 #[] #[{ accessFlags := 4, nameIndex := 5, descriptorIndex := 6, attributes := #[] }] 1057 2 #[] #[])
  fields := #[]
  methods := #[k9m0]
  instanceTypes := #[]
  staticTypes := #[]
  resolved := Array.replicate 22 none
  statics := none }

def pool10 : Array CpInfo := pool [(1, .methodref 2 3), (0, .class_ 4), (0, .nameAndType 5 6), (0, u "java/lang/Record"), (0, u "<init>"), (0, u "()V"), (0, .fieldref 8 9), (0, .class_ 10), (0, .nameAndType 11 12), (0, u "com/example/goldweave/goldweave/engine/linking/Registration"), (0, u "localId"), (0, u "Ljava/lang/String;"), (0, .fieldref 8 14), (0, .nameAndType 15 16), (0, u "change"), (0, u "Lcom/example/goldweave/goldweave/engine/linking/Registration$Change;"), (0, .fieldref 8 18), (0, .nameAndType 19 20), (0, u "newGoldenRecord"), (0, u "Z"), (0, .fieldref 8 22), (0, .nameAndType 23 24), (0, u "candidateLinks"), (0, u "I"), (12, u "(Ljava/lang/String;Lcom/example/goldweave/goldweave/engine/linking/Registration$Change;ZI)V"), (4, u "()I"), (1, u "()Lcom/example/goldweave/goldweave/engine/linking/Registration$Change;"), (0, u "()Z"), (3, .class_ 50), (0, u "com/example/goldweave/goldweave/engine/linking/Registration$Change")] 22

def k10c0 : Code := { maxStack := 2, maxLocals := 5, code := prog_38_method_1_code, exceptionTable := #[], attributes := #[] }
def k10m0 : Method := { name := "<init>", desc := "(Ljava/lang/String;Lcom/example/goldweave/goldweave/engine/linking/Registration$Change;ZI)V", sig := { parameters := [(.object "java/lang/String"), (.object "com/example/goldweave/goldweave/engine/linking/Registration$Change"), .boolean, .int], returnType := none }, accessFlags := 1, code := some k10c0 }
def k10c1 : Code := { maxStack := 1, maxLocals := 1, code := prog_38_method_6_code, exceptionTable := #[], attributes := #[] }
def k10m1 : Method := { name := "change", desc := "()Lcom/example/goldweave/goldweave/engine/linking/Registration$Change;", sig := { parameters := [], returnType := some (.object "com/example/goldweave/goldweave/engine/linking/Registration$Change") }, accessFlags := 1, code := some k10c1 }
def k10c2 : Code := { maxStack := 1, maxLocals := 1, code := prog_38_method_7_code, exceptionTable := #[], attributes := #[] }
def k10m2 : Method := { name := "newGoldenRecord", desc := "()Z", sig := { parameters := [], returnType := some .boolean }, accessFlags := 1, code := some k10c2 }
def k10c3 : Code := { maxStack := 1, maxLocals := 1, code := prog_38_method_8_code, exceptionTable := #[], attributes := #[] }
def k10m3 : Method := { name := "candidateLinks", desc := "()I", sig := { parameters := [], returnType := some .int }, accessFlags := 1, code := some k10c3 }
/-- com/example/goldweave/goldweave/engine/linking/Registration -/
def k10 : Class := { plain "com/example/goldweave/goldweave/engine/linking/Registration" (some 9) with
  accessFlags := 49
  interfaces := #[]
  cf := some (fileOf pool10 8 #[.nestMembers #[49]] #[{ accessFlags := 1, nameIndex := 5, descriptorIndex := 37, attributes := #[] }, { accessFlags := 1, nameIndex := 15, descriptorIndex := 44, attributes := #[] }, { accessFlags := 1, nameIndex := 19, descriptorIndex := 45, attributes := #[] }, { accessFlags := 1, nameIndex := 23, descriptorIndex := 42, attributes := #[] }] 49 2 #[] #[{ accessFlags := 18, nameIndex := 11, descriptorIndex := 12, attributes := #[] }, { accessFlags := 18, nameIndex := 15, descriptorIndex := 16, attributes := #[] }, { accessFlags := 18, nameIndex := 19, descriptorIndex := 20, attributes := #[] }, { accessFlags := 18, nameIndex := 23, descriptorIndex := 24, attributes := #[] }])
  fields := #[{ name := "localId", type := (.object "java/lang/String"), accessFlags := 18, slot := 0, constantValue := 0 }, { name := "change", type := (.object "com/example/goldweave/goldweave/engine/linking/Registration$Change"), accessFlags := 18, slot := 1, constantValue := 0 }, { name := "newGoldenRecord", type := .boolean, accessFlags := 18, slot := 2, constantValue := 0 }, { name := "candidateLinks", type := .int, accessFlags := 18, slot := 3, constantValue := 0 }]
  methods := #[k10m0, k10m1, k10m2, k10m3]
  instanceTypes := #[(.object "java/lang/String"), (.object "com/example/goldweave/goldweave/engine/linking/Registration$Change"), .boolean, .int]
  staticTypes := #[]
  resolved := Array.replicate 73 none
  statics := none }

def pool11 : Array CpInfo := pool [(2, .class_ 4), (1, u "java/lang/CharSequence"), (42, .class_ 48), (0, u "java/lang/CharSequence$1CodePointIterator"), (10, .class_ 60), (0, u "java/lang/CharSequence$1CharIterator"), (5, .class_ 67), (0, u "java/lang/Object")] 63

/-- java/lang/CharSequence -/
def k11 : Class := { plain "java/lang/CharSequence" (some 0) with
  accessFlags := 1537
  interfaces := #[]
  cf := some (fileOf pool11 2 #[.nestMembers #[47, 59]] #[] 1537 66 #[] #[])
  fields := #[]
  methods := #[]
  instanceTypes := #[]
  staticTypes := #[]
  resolved := Array.replicate 131 none
  statics := none }

def pool12 : Array CpInfo := pool [(1, .class_ 2), (0, u "java/lang/constant/ConstantDesc"), (0, .class_ 4), (0, u "java/lang/Object")] 32

/-- java/lang/constant/ConstantDesc -/
def k12 : Class := { plain "java/lang/constant/ConstantDesc" (some 0) with
  accessFlags := 1537
  interfaces := #[]
  cf := some (fileOf pool12 1 #[] #[] 1537 3 #[] #[])
  fields := #[]
  methods := #[]
  instanceTypes := #[]
  staticTypes := #[]
  resolved := Array.replicate 37 none
  statics := none }

def pool13 : Array CpInfo := pool [(1, .methodref 2 3), (0, .class_ 4), (0, .nameAndType 5 6), (0, u "java/lang/Object"), (0, u "<init>"), (0, u "()V"), (2, .fieldref 10 11), (0, .class_ 12), (0, .nameAndType 13 14), (0, u "java/lang/String"), (0, u "value"), (0, u "[B"), (0, .fieldref 10 16), (0, .nameAndType 17 18), (0, u "coder"), (0, u "B"), (2, u "hash"), (0, u "I"), (2, u "hashIsZero"), (0, u "Z"), (0, .methodref 10 28), (0, .nameAndType 5 29), (0, u "([CIILjava/lang/Void;)V"), (8, .fieldref 10 39), (0, .nameAndType 40 26), (0, u "COMPACT_STRINGS"), (1, .class_ 44), (1, u "java/lang/StringUTF16"), (0, u "compress"), (1, .methodref 42 48), (0, .nameAndType 49 50), (0, u "coderFromArrayLen"), (0, u "([BI)B"), (3, .methodref 55 56), (0, .class_ 57), (0, .nameAndType 58 59), (0, u "java/util/Arrays"), (0, u "copyOfRange"), (0, u "([BII)[B"), (47, .class_ 109), (1, u "java/lang/StringLatin1"), (32, u "()Z"), (34, .methodref 42 178), (0, .nameAndType 45 179), (0, u "([CII)[B"), (13, .class_ 195), (1, u "java/lang/System"), (16, .methodref 193 213), (0, .nameAndType 214 215), (0, u "arraycopy"), (0, u "(Ljava/lang/Object;ILjava/lang/Object;II)V"), (118, u "()I"), (0, .methodref 10 336), (0, .nameAndType 17 337), (0, u "()B"), (2, u "()[B"), (148, .methodref 10 490), (0, .nameAndType 5 491), (0, u "(Ljava/lang/AbstractStringBuilder;Ljava/lang/Void;)V"), (1, .nameAndType 494 142), (0, u "isLatin1"), (11, .nameAndType 507 334), (0, u "length"), (24, u "getBytes"), (8, .methodref 107 542), (0, .nameAndType 543 544), (0, u "equals"), (0, u "([B[B)Z"), (4, .methodref 550 506), (0, .class_ 551), (0, u "java/lang/AbstractStringBuilder"), (0, .methodref 550 553), (0, .nameAndType 554 340), (0, u "getValue"), (18, u "(Ljava/lang/Object;)Z"), (1, .class_ 576), (0, u "java/lang/CharSequence"), (22, u "CASE_INSENSITIVE_ORDER"), (0, u "Ljava/util/Comparator;"), (220, u "([BIB)V"), (188, u "([C)V"), (36, .methodref 550 493), (53, u "serialPersistentFields"), (0, u "[Ljava/io/ObjectStreamField;"), (0, .class_ 1104), (0, u "java/lang/String$CaseInsensitiveComparator"), (1, .class_ 1107), (0, u "java/io/Serializable"), (0, .class_ 1109), (0, u "java/lang/Comparable"), (0, .class_ 1111), (0, u "java/lang/constant/Constable"), (0, .class_ 1113), (0, u "java/lang/constant/ConstantDesc"), (2, u "serialVersionUID"), (0, u "J"), (3, u "REPL"), (0, u "C"), (2, u "LATIN1"), (1, u "UTF16"), (105, u "(Ljava/lang/StringBuilder;)V")] 217

def k13m0 : Method := { name := "<init>", desc := "()V", sig := { parameters := [], returnType := none }, accessFlags := 1, code := none }
def k13c1 : Code := { maxStack := 5, maxLocals := 2, code := jdk_42_method_3_code, exceptionTable := #[], attributes := #[] }
def k13m1 : Method := { name := "<init>", desc := "([C)V", sig := { parameters := [(.array .char)], returnType := none }, accessFlags := 1, code := some k13c1 }
def k13c2 : Code := { maxStack := 3, maxLocals := 2, code := jdk_42_method_53_code, exceptionTable := #[], attributes := #[] }
def k13m2 : Method := { name := "<init>", desc := "(Ljava/lang/StringBuilder;)V", sig := { parameters := [(.object "java/lang/StringBuilder")], returnType := none }, accessFlags := 1, code := some k13c2 }
def k13c3 : Code := { maxStack := 2, maxLocals := 1, code := jdk_42_method_54_code, exceptionTable := #[], attributes := #[] }
def k13m3 : Method := { name := "length", desc := "()I", sig := { parameters := [], returnType := some .int }, accessFlags := 1, code := some k13c3 }
def k13c4 : Code := { maxStack := 2, maxLocals := 3, code := jdk_42_method_66_code, exceptionTable := #[], attributes := #[] }
def k13m4 : Method := { name := "equals", desc := "(Ljava/lang/Object;)Z", sig := { parameters := [(.object "java/lang/Object")], returnType := some .boolean }, accessFlags := 1, code := some k13c4 }
def k13c5 : Code := { maxStack := 5, maxLocals := 4, code := jdk_42_method_147_code, exceptionTable := #[], attributes := #[] }
def k13m5 : Method := { name := "getBytes", desc := "([BIB)V", sig := { parameters := [(.array .byte), .int, .byte], returnType := none }, accessFlags := 0, code := some k13c5 }
def k13c6 : Code := { maxStack := 4, maxLocals := 6, code := jdk_42_method_149_code, exceptionTable := #[], attributes := #[] }
def k13m6 : Method := { name := "<init>", desc := "([CIILjava/lang/Void;)V", sig := { parameters := [(.array .char), .int, .int, (.object "java/lang/Void")], returnType := none }, accessFlags := 2, code := some k13c6 }
def k13c7 : Code := { maxStack := 5, maxLocals := 5, code := jdk_42_method_150_code, exceptionTable := #[], attributes := #[] }
def k13m7 : Method := { name := "<init>", desc := "(Ljava/lang/AbstractStringBuilder;Ljava/lang/Void;)V", sig := { parameters := [(.object "java/lang/AbstractStringBuilder"), (.object "java/lang/Void")], returnType := none }, accessFlags := 0, code := some k13c7 }
def k13c8 : Code := { maxStack := 1, maxLocals := 1, code := jdk_42_method_152_code, exceptionTable := #[], attributes := #[] }
def k13m8 : Method := { name := "coder", desc := "()B", sig := { parameters := [], returnType := some .byte }, accessFlags := 0, code := some k13c8 }
/-- java/lang/String -/
def k13 : Class := { plain "java/lang/String" (some 0) with
  accessFlags := 49
  interfaces := #[6, 5, 11, 4, 12]
  cf := some (fileOf pool13 10 #[.nestMembers #[1103]] #[{ accessFlags := 1, nameIndex := 5, descriptorIndex := 6, attributes := #[] }, { accessFlags := 1, nameIndex := 5, descriptorIndex := 1010, attributes := #[] }, { accessFlags := 1, nameIndex := 5, descriptorIndex := 1233, attributes := #[] }, { accessFlags := 1, nameIndex := 507, descriptorIndex := 334, attributes := #[] }, { accessFlags := 1, nameIndex := 543, descriptorIndex := 573, attributes := #[] }, { accessFlags := 0, nameIndex := 532, descriptorIndex := 821, attributes := #[] }, { accessFlags := 2, nameIndex := 5, descriptorIndex := 29, attributes := #[] }, { accessFlags := 0, nameIndex := 5, descriptorIndex := 491, attributes := #[] }, { accessFlags := 0, nameIndex := 17, descriptorIndex := 337, attributes := #[] }] 49 2 #[1106, 1108, 575, 1110, 1112] #[{ accessFlags := 18, nameIndex := 13, descriptorIndex := 14, attributes := #[] }, { accessFlags := 18, nameIndex := 17, descriptorIndex := 18, attributes := #[] }, { accessFlags := 2, nameIndex := 21, descriptorIndex := 22, attributes := #[] }, { accessFlags := 2, nameIndex := 25, descriptorIndex := 26, attributes := #[] }, { accessFlags := 26, nameIndex := 1116, descriptorIndex := 1117, attributes := #[] }, { accessFlags := 24, nameIndex := 40, descriptorIndex := 26, attributes := #[] }, { accessFlags := 26, nameIndex := 1101, descriptorIndex := 1102, attributes := #[] }, { accessFlags := 26, nameIndex := 1121, descriptorIndex := 1122, attributes := #[] }, { accessFlags := 25, nameIndex := 599, descriptorIndex := 600, attributes := #[] }, { accessFlags := 24, nameIndex := 1125, descriptorIndex := 18, attributes := #[] }, { accessFlags := 24, nameIndex := 1127, descriptorIndex := 18, attributes := #[] }])
  fields := #[{ name := "value", type := (.array .byte), accessFlags := 18, slot := 0, constantValue := 0 }, { name := "coder", type := .byte, accessFlags := 18, slot := 1, constantValue := 0 }, { name := "hash", type := .int, accessFlags := 2, slot := 2, constantValue := 0 }, { name := "hashIsZero", type := .boolean, accessFlags := 2, slot := 3, constantValue := 0 }, { name := "serialVersionUID", type := .long, accessFlags := 26, slot := 0, constantValue := 0 }, { name := "COMPACT_STRINGS", type := .boolean, accessFlags := 24, slot := 1, constantValue := 0 }, { name := "serialPersistentFields", type := (.array (.object "java/io/ObjectStreamField")), accessFlags := 26, slot := 2, constantValue := 0 }, { name := "REPL", type := .char, accessFlags := 26, slot := 3, constantValue := 0 }, { name := "CASE_INSENSITIVE_ORDER", type := (.object "java/util/Comparator"), accessFlags := 25, slot := 4, constantValue := 0 }, { name := "LATIN1", type := .byte, accessFlags := 24, slot := 5, constantValue := 0 }, { name := "UTF16", type := .byte, accessFlags := 24, slot := 6, constantValue := 0 }]
  methods := #[k13m0, k13m1, k13m2, k13m3, k13m4, k13m5, k13m6, k13m7, k13m8]
  instanceTypes := #[(.array .byte), .byte, .int, .boolean]
  staticTypes := #[.long, .boolean, (.array (.object "java/io/ObjectStreamField")), .char, (.object "java/util/Comparator"), .byte, .byte]
  resolved := Array.replicate 1451 none
  statics := some 1 }

def pool14 : Array CpInfo := pool [(1, .class_ 2), (0, u "java/lang/Appendable"), (0, .class_ 4), (0, u "java/lang/Object")] 9

/-- java/lang/Appendable -/
def k14 : Class := { plain "java/lang/Appendable" (some 0) with
  accessFlags := 1537
  interfaces := #[]
  cf := some (fileOf pool14 1 #[] #[] 1537 3 #[] #[])
  fields := #[]
  methods := #[]
  instanceTypes := #[]
  staticTypes := #[]
  resolved := Array.replicate 14 none
  statics := none }

def pool15 : Array CpInfo := pool [(1, .class_ 2), (0, u "java/lang/String"), (0, .methodref 4 5), (0, .class_ 6), (0, .nameAndType 7 8), (0, u "java/lang/Object"), (0, u "<init>"), (0, u "()V"), (1, .class_ 12), (1, u "java/lang/AbstractStringBuilder"), (0, u "EMPTYVALUE"), (0, u "[B"), (0, .fieldref 10 16), (0, .nameAndType 17 14), (0, u "value"), (0, .fieldref 1 19), (0, .nameAndType 20 21), (0, u "COMPACT_STRINGS"), (0, u "Z"), (0, .fieldref 10 23), (0, .nameAndType 24 25), (0, u "coder"), (0, u "B"), (6, .methodref 1 33), (0, .nameAndType 34 35), (0, u "length"), (0, u "()I"), (3, .integer 2147483647), (0, .methodref 1 41), (0, .nameAndType 24 42), (0, u "()B"), (2, u "append"), (0, u "(Ljava/lang/String;)Ljava/lang/AbstractStringBuilder;"), (1, .class_ 49), (0, u "java/lang/CharSequence"), (19, u "(Ljava/lang/String;)V"), (5, u "maybeLatin1"), (3, .fieldref 10 80), (0, .nameAndType 81 82), (0, u "count"), (0, u "I"), (0, .methodref 10 84), (0, .nameAndType 85 86), (0, u "isLatin1"), (0, u "()Z"), (13, .methodref 10 101), (0, .nameAndType 102 103), (0, u "ensureCapacityInternal"), (0, u "(I)V"), (0, .methodref 10 105), (0, .nameAndType 106 107), (0, u "newCapacity"), (0, u "(I)I"), (0, .methodref 109 110), (0, .class_ 111), (0, .nameAndType 112 113), (0, u "java/util/Arrays"), (0, u "copyOf"), (0, u "([BI)[B"), (0, .methodref 115 116), (0, .class_ 117), (0, .nameAndType 118 119), (0, u "jdk/internal/util/ArraysSupport"), (0, u "newLength"), (0, u "(III)I"), (68, u "getChars"), (19, .methodref 10 209), (0, .nameAndType 210 211), (0, u "putStringAt"), (0, u "(ILjava/lang/String;)V"), (5, u "inflateIfNeededFor"), (2, .nameAndType 221 222), (0, u "getBytes"), (0, u "([BIB)V"), (24, u "stringSize"), (6, .methodref 255 256), (0, .class_ 257), (0, .nameAndType 247 258), (0, u "java/lang/Long"), (0, u "(J)I"), (0, .methodref 255 260), (0, .nameAndType 188 261), (0, u "(JI[B)I"), (135, .methodref 10 398), (0, .nameAndType 217 69), (0, .methodref 1 220), (3, u "()[B"), (40, .class_ 445), (0, u "java/lang/Appendable"), (67, u "(J)Ljava/lang/AbstractStringBuilder;"), (38, u "getValue")] 56

def k15m0 : Method := { name := "<init>", desc := "()V", sig := { parameters := [], returnType := none }, accessFlags := 0, code := none }
def k15c1 : Code := { maxStack := 2, maxLocals := 2, code := jdk_68_method_2_code, exceptionTable := #[], attributes := #[] }
def k15m1 : Method := { name := "<init>", desc := "(I)V", sig := { parameters := [.int], returnType := none }, accessFlags := 0, code := some k15c1 }
def k15c2 : Code := { maxStack := 1, maxLocals := 1, code := jdk_68_method_6_code, exceptionTable := #[], attributes := #[] }
def k15m2 : Method := { name := "length", desc := "()I", sig := { parameters := [], returnType := some .int }, accessFlags := 1, code := some k15c2 }
def k15c3 : Code := { maxStack := 4, maxLocals := 3, code := jdk_68_method_9_code, exceptionTable := #[], attributes := #[] }
def k15m3 : Method := { name := "ensureCapacityInternal", desc := "(I)V", sig := { parameters := [.int], returnType := none }, accessFlags := 2, code := some k15c3 }
def k15c4 : Code := { maxStack := 5, maxLocals := 6, code := jdk_68_method_10_code, exceptionTable := #[], attributes := #[] }
def k15m4 : Method := { name := "newCapacity", desc := "(I)I", sig := { parameters := [.int], returnType := some .int }, accessFlags := 2, code := some k15c4 }
def k15c5 : Code := { maxStack := 3, maxLocals := 3, code := jdk_68_method_22_code, exceptionTable := #[], attributes := #[] }
def k15m5 : Method := { name := "append", desc := "(Ljava/lang/String;)Ljava/lang/AbstractStringBuilder;", sig := { parameters := [(.object "java/lang/String")], returnType := some (.object "java/lang/AbstractStringBuilder") }, accessFlags := 1, code := some k15c5 }
def k15c6 : Code := { maxStack := 5, maxLocals := 5, code := jdk_68_method_33_code, exceptionTable := #[], attributes := #[] }
def k15m6 : Method := { name := "append", desc := "(J)Ljava/lang/AbstractStringBuilder;", sig := { parameters := [.long], returnType := some (.object "java/lang/AbstractStringBuilder") }, accessFlags := 1, code := some k15c6 }
def k15c7 : Code := { maxStack := 1, maxLocals := 1, code := jdk_68_method_64_code, exceptionTable := #[], attributes := #[] }
def k15m7 : Method := { name := "getValue", desc := "()[B", sig := { parameters := [], returnType := some (.array .byte) }, accessFlags := 16, code := some k15c7 }
def k15c8 : Code := { maxStack := 1, maxLocals := 1, code := jdk_68_method_68_code, exceptionTable := #[], attributes := #[] }
def k15m8 : Method := { name := "isLatin1", desc := "()Z", sig := { parameters := [], returnType := some .boolean }, accessFlags := 16, code := some k15c8 }
def k15c9 : Code := { maxStack := 2, maxLocals := 2, code := jdk_68_method_71_code, exceptionTable := #[], attributes := #[] }
def k15m9 : Method := { name := "inflateIfNeededFor", desc := "(Ljava/lang/String;)V", sig := { parameters := [(.object "java/lang/String")], returnType := none }, accessFlags := 2, code := some k15c9 }
def k15c10 : Code := { maxStack := 4, maxLocals := 3, code := jdk_68_method_73_code, exceptionTable := #[], attributes := #[] }
def k15m10 : Method := { name := "putStringAt", desc := "(ILjava/lang/String;)V", sig := { parameters := [.int, (.object "java/lang/String")], returnType := none }, accessFlags := 2, code := some k15c10 }
/-- java/lang/AbstractStringBuilder -/
def k15 : Class := { plain "java/lang/AbstractStringBuilder" (some 0) with
  accessFlags := 1056
  interfaces := #[14, 11]
  cf := some (fileOf pool15 10 #[] #[{ accessFlags := 0, nameIndex := 7, descriptorIndex := 8, attributes := #[] }, { accessFlags := 0, nameIndex := 7, descriptorIndex := 103, attributes := #[] }, { accessFlags := 1, nameIndex := 34, descriptorIndex := 35, attributes := #[] }, { accessFlags := 2, nameIndex := 102, descriptorIndex := 103, attributes := #[] }, { accessFlags := 2, nameIndex := 106, descriptorIndex := 107, attributes := #[] }, { accessFlags := 1, nameIndex := 45, descriptorIndex := 46, attributes := #[] }, { accessFlags := 1, nameIndex := 45, descriptorIndex := 513, attributes := #[] }, { accessFlags := 16, nameIndex := 552, descriptorIndex := 403, attributes := #[] }, { accessFlags := 16, nameIndex := 85, descriptorIndex := 86, attributes := #[] }, { accessFlags := 2, nameIndex := 217, descriptorIndex := 69, attributes := #[] }, { accessFlags := 2, nameIndex := 210, descriptorIndex := 211, attributes := #[] }] 1056 4 #[444, 48] #[{ accessFlags := 0, nameIndex := 17, descriptorIndex := 14, attributes := #[] }, { accessFlags := 0, nameIndex := 24, descriptorIndex := 25, attributes := #[] }, { accessFlags := 0, nameIndex := 75, descriptorIndex := 21, attributes := #[] }, { accessFlags := 0, nameIndex := 81, descriptorIndex := 82, attributes := #[] }, { accessFlags := 26, nameIndex := 13, descriptorIndex := 14, attributes := #[] }])
  fields := #[{ name := "value", type := (.array .byte), accessFlags := 0, slot := 0, constantValue := 0 }, { name := "coder", type := .byte, accessFlags := 0, slot := 1, constantValue := 0 }, { name := "maybeLatin1", type := .boolean, accessFlags := 0, slot := 2, constantValue := 0 }, { name := "count", type := .int, accessFlags := 0, slot := 3, constantValue := 0 }, { name := "EMPTYVALUE", type := (.array .byte), accessFlags := 26, slot := 0, constantValue := 0 }]
  methods := #[k15m0, k15m1, k15m2, k15m3, k15m4, k15m5, k15m6, k15m7, k15m8, k15m9, k15m10]
  instanceTypes := #[(.array .byte), .byte, .boolean, .int]
  staticTypes := #[(.array .byte)]
  resolved := Array.replicate 609 none
  statics := none }

def pool16 : Array CpInfo := pool [(1, .methodref 2 3), (0, .class_ 4), (0, .nameAndType 5 6), (0, u "java/lang/AbstractStringBuilder"), (0, u "<init>"), (0, u "(I)V"), (11, .class_ 20), (1, u "java/lang/String"), (3, .class_ 26), (1, u "java/lang/StringBuilder"), (0, u "append"), (0, u "(Ljava/lang/String;)Ljava/lang/StringBuilder;"), (0, .methodref 2 30), (0, .nameAndType 27 31), (0, u "(Ljava/lang/String;)Ljava/lang/AbstractStringBuilder;"), (24, .methodref 2 57), (0, .nameAndType 27 58), (0, u "(J)Ljava/lang/AbstractStringBuilder;"), (78, .methodref 18 138), (0, .nameAndType 5 139), (0, u "(Ljava/lang/StringBuilder;)V"), (5, u "()V"), (10, u "()I"), (124, u "(J)Ljava/lang/StringBuilder;"), (61, .methodref 2 344), (0, .nameAndType 345 156), (0, u "length"), (3, .class_ 350), (0, u "java/lang/Appendable"), (0, .class_ 352), (0, u "java/io/Serializable"), (0, .class_ 354), (0, u "java/lang/Comparable"), (0, .class_ 356), (0, u "java/lang/CharSequence"), (0, u "serialVersionUID"), (0, u "J"), (40, u "toString"), (0, u "()Ljava/lang/String;")] 21

def k16c0 : Code := { maxStack := 2, maxLocals := 1, code := jdk_67_method_1_code, exceptionTable := #[], attributes := #[] }
def k16m0 : Method := { name := "<init>", desc := "()V", sig := { parameters := [], returnType := none }, accessFlags := 1, code := some k16c0 }
def k16c1 : Code := { maxStack := 2, maxLocals := 2, code := jdk_67_method_7_code, exceptionTable := #[], attributes := #[] }
def k16m1 : Method := { name := "append", desc := "(Ljava/lang/String;)Ljava/lang/StringBuilder;", sig := { parameters := [(.object "java/lang/String")], returnType := some (.object "java/lang/StringBuilder") }, accessFlags := 1, code := some k16c1 }
def k16c2 : Code := { maxStack := 3, maxLocals := 3, code := jdk_67_method_16_code, exceptionTable := #[], attributes := #[] }
def k16m2 : Method := { name := "append", desc := "(J)Ljava/lang/StringBuilder;", sig := { parameters := [.long], returnType := some (.object "java/lang/StringBuilder") }, accessFlags := 1, code := some k16c2 }
def k16c3 : Code := { maxStack := 3, maxLocals := 1, code := jdk_67_method_42_code, exceptionTable := #[], attributes := #[] }
def k16m3 : Method := { name := "toString", desc := "()Ljava/lang/String;", sig := { parameters := [], returnType := some (.object "java/lang/String") }, accessFlags := 1, code := some k16c3 }
def k16c4 : Code := { maxStack := 1, maxLocals := 1, code := jdk_67_method_93_code, exceptionTable := #[], attributes := #[] }
def k16m4 : Method := { name := "length", desc := "()I", sig := { parameters := [], returnType := some .int }, accessFlags := 4161, code := some k16c4 }
/-- java/lang/StringBuilder -/
def k16 : Class := { plain "java/lang/StringBuilder" (some 15) with
  accessFlags := 49
  interfaces := #[14, 6, 5, 11]
  cf := some (fileOf pool16 24 #[] #[{ accessFlags := 1, nameIndex := 5, descriptorIndex := 145, attributes := #[] }, { accessFlags := 1, nameIndex := 27, descriptorIndex := 28, attributes := #[] }, { accessFlags := 1, nameIndex := 27, descriptorIndex := 281, attributes := #[] }, { accessFlags := 1, nameIndex := 399, descriptorIndex := 400, attributes := #[] }, { accessFlags := 4161, nameIndex := 345, descriptorIndex := 156, attributes := #[] }] 49 2 #[349, 351, 353, 355] #[{ accessFlags := 24, nameIndex := 357, descriptorIndex := 358, attributes := #[] }])
  fields := #[{ name := "serialVersionUID", type := .long, accessFlags := 24, slot := 0, constantValue := 0 }]
  methods := #[k16m0, k16m1, k16m2, k16m3, k16m4]
  instanceTypes := #[(.array .byte), .byte, .boolean, .int]
  staticTypes := #[.long]
  resolved := Array.replicate 422 none
  statics := none }

def pool17 : Array CpInfo := pool [(2, .class_ 4), (1, u "java/lang/Object"), (0, u "<init>"), (0, u "()V"), (1, .class_ 10), (1, u "java/lang/System"), (0, u "allowSecurityManager"), (0, u "I"), (16, u "cons"), (0, u "Ljava/io/Console;"), (77, .class_ 110), (1, u "java/lang/System$CallersHolder"), (43, u "initialErrStream"), (0, u "Ljava/io/PrintStream;"), (19, u "security"), (0, u "Ljava/lang/SecurityManager;"), (31, .class_ 209), (0, u "java/lang/System$1"), (7, u "props"), (0, u "Ljava/util/Properties;"), (2, u "lineSeparator"), (0, u "Ljava/lang/String;"), (96, .class_ 321), (1, u "java/lang/System$LoggerFinder"), (5, .class_ 328), (0, u "java/lang/System$Logger"), (67, u "err"), (2, u "out"), (91, u "notSupportedJnuEncoding"), (15, u "in"), (17, u "initialIn"), (0, u "Ljava/io/InputStream;"), (35, u "bootLayer"), (0, u "Ljava/lang/ModuleLayer;"), (99, .class_ 664), (0, u "java/lang/System$2"), (9, u "NEVER"), (2, u "MAYBE"), (49, u "arraycopy"), (0, u "(Ljava/lang/Object;ILjava/lang/Object;II)V"), (72, .class_ 802), (0, u "java/lang/System$Logger$Level")] 31

def k17m0 : Method := { name := "<init>", desc := "()V", sig := { parameters := [], returnType := none }, accessFlags := 2, code := none }
def k17m1 : Method := { name := "arraycopy", desc := "(Ljava/lang/Object;ILjava/lang/Object;II)V", sig := { parameters := [(.object "java/lang/Object"), .int, (.object "java/lang/Object"), .int, .int], returnType := none }, accessFlags := 265, code := none }
/-- java/lang/System -/
def k17 : Class := { plain "java/lang/System" (some 0) with
  accessFlags := 49
  interfaces := #[]
  cf := some (fileOf pool17 8 #[.nestMembers #[319, 327, 801, 108, 663, 208]] #[{ accessFlags := 2, nameIndex := 5, descriptorIndex := 6, attributes := #[] }, { accessFlags := 265, nameIndex := 727, descriptorIndex := 728, attributes := #[] }] 49 2 #[] #[{ accessFlags := 25, nameIndex := 507, descriptorIndex := 526, attributes := #[] }, { accessFlags := 25, nameIndex := 399, descriptorIndex := 155, attributes := #[] }, { accessFlags := 25, nameIndex := 396, descriptorIndex := 155, attributes := #[] }, { accessFlags := 10, nameIndex := 525, descriptorIndex := 526, attributes := #[] }, { accessFlags := 26, nameIndex := 674, descriptorIndex := 12, attributes := #[] }, { accessFlags := 26, nameIndex := 677, descriptorIndex := 12, attributes := #[] }, { accessFlags := 10, nameIndex := 11, descriptorIndex := 12, attributes := #[] }, { accessFlags := 74, nameIndex := 175, descriptorIndex := 176, attributes := #[] }, { accessFlags := 10, nameIndex := 491, descriptorIndex := 222, attributes := #[] }, { accessFlags := 74, nameIndex := 29, descriptorIndex := 30, attributes := #[] }, { accessFlags := 74, nameIndex := 154, descriptorIndex := 155, attributes := #[] }, { accessFlags := 10, nameIndex := 217, descriptorIndex := 218, attributes := #[] }, { accessFlags := 10, nameIndex := 221, descriptorIndex := 222, attributes := #[] }, { accessFlags := 8, nameIndex := 562, descriptorIndex := 563, attributes := #[] }])
  fields := #[{ name := "in", type := (.object "java/io/InputStream"), accessFlags := 25, slot := 0, constantValue := 0 }, { name := "out", type := (.object "java/io/PrintStream"), accessFlags := 25, slot := 1, constantValue := 0 }, { name := "err", type := (.object "java/io/PrintStream"), accessFlags := 25, slot := 2, constantValue := 0 }, { name := "initialIn", type := (.object "java/io/InputStream"), accessFlags := 10, slot := 3, constantValue := 0 }, { name := "NEVER", type := .int, accessFlags := 26, slot := 4, constantValue := 0 }, { name := "MAYBE", type := .int, accessFlags := 26, slot := 5, constantValue := 0 }, { name := "allowSecurityManager", type := .int, accessFlags := 10, slot := 6, constantValue := 0 }, { name := "security", type := (.object "java/lang/SecurityManager"), accessFlags := 74, slot := 7, constantValue := 0 }, { name := "notSupportedJnuEncoding", type := (.object "java/lang/String"), accessFlags := 10, slot := 8, constantValue := 0 }, { name := "cons", type := (.object "java/io/Console"), accessFlags := 74, slot := 9, constantValue := 0 }, { name := "initialErrStream", type := (.object "java/io/PrintStream"), accessFlags := 74, slot := 10, constantValue := 0 }, { name := "props", type := (.object "java/util/Properties"), accessFlags := 10, slot := 11, constantValue := 0 }, { name := "lineSeparator", type := (.object "java/lang/String"), accessFlags := 10, slot := 12, constantValue := 0 }, { name := "bootLayer", type := (.object "java/lang/ModuleLayer"), accessFlags := 8, slot := 13, constantValue := 0 }]
  methods := #[k17m0, k17m1]
  instanceTypes := #[]
  staticTypes := #[(.object "java/io/InputStream"), (.object "java/io/PrintStream"), (.object "java/io/PrintStream"), (.object "java/io/InputStream"), .int, .int, .int, (.object "java/lang/SecurityManager"), (.object "java/lang/String"), (.object "java/io/Console"), (.object "java/io/PrintStream"), (.object "java/util/Properties"), (.object "java/lang/String"), (.object "java/lang/ModuleLayer")]
  resolved := Array.replicate 834 none
  statics := none }

def pool18 : Array CpInfo := pool [(2, .class_ 4), (1, u "java/lang/Object"), (0, u "<init>"), (0, u "()V"), (1, .class_ 10), (1, u "java/lang/Number"), (2, .class_ 14), (0, u "java/io/Serializable"), (0, u "serialVersionUID"), (0, u "J")] 20

def k18m0 : Method := { name := "<init>", desc := "()V", sig := { parameters := [], returnType := none }, accessFlags := 1, code := none }
/-- java/lang/Number -/
def k18 : Class := { plain "java/lang/Number" (some 0) with
  accessFlags := 1057
  interfaces := #[6]
  cf := some (fileOf pool18 8 #[] #[{ accessFlags := 1, nameIndex := 5, descriptorIndex := 6, attributes := #[] }] 1057 2 #[13] #[{ accessFlags := 26, nameIndex := 15, descriptorIndex := 16, attributes := #[] }])
  fields := #[{ name := "serialVersionUID", type := .long, accessFlags := 26, slot := 0, constantValue := 0 }]
  methods := #[k18m0]
  instanceTypes := #[]
  staticTypes := #[.long]
  resolved := Array.replicate 37 none
  statics := none }

def pool19 : Array CpInfo := pool [(1, .class_ 2), (0, u "java/lang/Long"), (15, .class_ 20), (1, u "java/lang/Integer"), (80, u "(J)I"), (18, u "stringSize"), (2, u "getChars"), (0, u "(JI[B)I"), (4, .long 18446744071562067968), (3, .fieldref 18 134), (0, .nameAndType 135 136), (0, u "DigitOnes"), (0, u "[B"), (3, .long 18446744073709551606), (94, .class_ 237), (1, u "java/lang/Long$LongCache"), (33, .class_ 272), (0, u "java/lang/Number"), (2, u "value"), (0, u "J"), (84, u "TYPE"), (0, u "Ljava/lang/Class;"), (0, .class_ 364), (0, u "java/lang/Comparable"), (0, .class_ 366), (0, u "java/lang/constant/Constable"), (0, .class_ 368), (0, u "java/lang/constant/ConstantDesc"), (0, u "MIN_VALUE"), (1, u "MAX_VALUE"), (4, u "SIZE"), (0, u "I"), (1, u "BYTES"), (1, u "serialVersionUID")] 142

def k19c0 : Code := { maxStack := 4, maxLocals := 11, code := jdk_35_method_14_code, exceptionTable := #[], attributes := #[] }
def k19m0 : Method := { name := "getChars", desc := "(JI[B)I", sig := { parameters := [.long, .int, (.array .byte)], returnType := some .int }, accessFlags := 8, code := some k19c0 }
def k19c1 : Code := { maxStack := 4, maxLocals := 6, code := jdk_35_method_15_code, exceptionTable := #[], attributes := #[] }
def k19m1 : Method := { name := "stringSize", desc := "(J)I", sig := { parameters := [.long], returnType := some .int }, accessFlags := 8, code := some k19c1 }
/-- java/lang/Long -/
def k19 : Class := { plain "java/lang/Long" (some 18) with
  accessFlags := 49
  interfaces := #[5, 4, 12]
  cf := some (fileOf pool19 1 #[.nestMembers #[235]] #[{ accessFlags := 8, nameIndex := 123, descriptorIndex := 124, attributes := #[] }, { accessFlags := 8, nameIndex := 120, descriptorIndex := 101, attributes := #[] }] 49 271 #[363, 365, 367] #[{ accessFlags := 25, nameIndex := 369, descriptorIndex := 276, attributes := #[] }, { accessFlags := 25, nameIndex := 371, descriptorIndex := 276, attributes := #[] }, { accessFlags := 25, nameIndex := 361, descriptorIndex := 362, attributes := #[] }, { accessFlags := 18, nameIndex := 275, descriptorIndex := 276, attributes := #[] }, { accessFlags := 25, nameIndex := 376, descriptorIndex := 377, attributes := #[] }, { accessFlags := 25, nameIndex := 379, descriptorIndex := 377, attributes := #[] }, { accessFlags := 26, nameIndex := 381, descriptorIndex := 276, attributes := #[] }])
  fields := #[{ name := "MIN_VALUE", type := .long, accessFlags := 25, slot := 0, constantValue := 0 }, { name := "MAX_VALUE", type := .long, accessFlags := 25, slot := 1, constantValue := 0 }, { name := "TYPE", type := (.object "java/lang/Class"), accessFlags := 25, slot := 2, constantValue := 0 }, { name := "value", type := .long, accessFlags := 18, slot := 0, constantValue := 0 }, { name := "SIZE", type := .int, accessFlags := 25, slot := 3, constantValue := 0 }, { name := "BYTES", type := .int, accessFlags := 25, slot := 4, constantValue := 0 }, { name := "serialVersionUID", type := .long, accessFlags := 26, slot := 5, constantValue := 0 }]
  methods := #[k19m0, k19m1]
  instanceTypes := #[.long]
  staticTypes := #[.long, .long, (.object "java/lang/Class"), .int, .int, .long]
  resolved := Array.replicate 524 none
  statics := none }

def pool20 : Array CpInfo := pool [(1, .class_ 2), (0, u "java/lang/Integer"), (16, u "digits"), (0, u "[C"), (64, u "DigitOnes"), (0, u "[B"), (2, u "DigitTens"), (99, .class_ 190), (0, u "java/lang/Integer$IntegerCache"), (3, u "I"), (8, .class_ 204), (0, u "java/lang/Number"), (2, u "value"), (94, u "TYPE"), (0, u "Ljava/lang/Class;"), (0, .class_ 305), (0, u "java/lang/Comparable"), (0, .class_ 307), (0, u "java/lang/constant/Constable"), (0, .class_ 309), (0, u "java/lang/constant/ConstantDesc"), (0, u "MIN_VALUE"), (1, u "MAX_VALUE"), (3, u "SIZE"), (1, u "BYTES"), (1, u "serialVersionUID"), (0, u "J")] 131

/-- java/lang/Integer -/
def k20 : Class := { plain "java/lang/Integer" (some 18) with
  accessFlags := 49
  interfaces := #[5, 4, 12]
  cf := some (fileOf pool20 1 #[.nestMembers #[189]] #[] 49 203 #[304, 306, 308] #[{ accessFlags := 25, nameIndex := 310, descriptorIndex := 194, attributes := #[] }, { accessFlags := 25, nameIndex := 312, descriptorIndex := 194, attributes := #[] }, { accessFlags := 25, nameIndex := 302, descriptorIndex := 303, attributes := #[] }, { accessFlags := 24, nameIndex := 19, descriptorIndex := 20, attributes := #[] }, { accessFlags := 24, nameIndex := 89, descriptorIndex := 86, attributes := #[] }, { accessFlags := 24, nameIndex := 85, descriptorIndex := 86, attributes := #[] }, { accessFlags := 18, nameIndex := 207, descriptorIndex := 194, attributes := #[] }, { accessFlags := 25, nameIndex := 316, descriptorIndex := 194, attributes := #[] }, { accessFlags := 25, nameIndex := 318, descriptorIndex := 194, attributes := #[] }, { accessFlags := 26, nameIndex := 320, descriptorIndex := 321, attributes := #[] }])
  fields := #[{ name := "MIN_VALUE", type := .int, accessFlags := 25, slot := 0, constantValue := 0 }, { name := "MAX_VALUE", type := .int, accessFlags := 25, slot := 1, constantValue := 0 }, { name := "TYPE", type := (.object "java/lang/Class"), accessFlags := 25, slot := 2, constantValue := 0 }, { name := "digits", type := (.array .char), accessFlags := 24, slot := 3, constantValue := 0 }, { name := "DigitTens", type := (.array .byte), accessFlags := 24, slot := 4, constantValue := 0 }, { name := "DigitOnes", type := (.array .byte), accessFlags := 24, slot := 5, constantValue := 0 }, { name := "value", type := .int, accessFlags := 18, slot := 0, constantValue := 0 }, { name := "SIZE", type := .int, accessFlags := 25, slot := 6, constantValue := 0 }, { name := "BYTES", type := .int, accessFlags := 25, slot := 7, constantValue := 0 }, { name := "serialVersionUID", type := .long, accessFlags := 26, slot := 8, constantValue := 0 }]
  methods := #[]
  instanceTypes := #[.int]
  staticTypes := #[.int, .int, (.object "java/lang/Class"), (.array .char), (.array .byte), (.array .byte), .int, .int, .long]
  resolved := Array.replicate 453 none
  statics := some 2 }

def pool21 : Array CpInfo := pool [(9, u "<init>"), (6, .class_ 18), (1, u "java/lang/Object"), (0, u "()V"), (1, .class_ 23), (1, u "jdk/internal/util/ArraysSupport"), (0, u "LOG2_ARRAY_LONG_INDEX_SCALE"), (0, u "I"), (2, u "U"), (0, u "Ljdk/internal/misc/Unsafe;"), (8, u "BIG_ENDIAN"), (0, u "Z"), (8, u "LOG2_BYTE_BIT_SIZE"), (4, u "LOG2_ARRAY_INT_INDEX_SCALE"), (54, u "JLA"), (0, u "Ljdk/internal/access/JavaLangAccess;"), (11, u "LOG2_ARRAY_BOOLEAN_INDEX_SCALE"), (9, u "LOG2_ARRAY_BYTE_INDEX_SCALE"), (5, u "LOG2_ARRAY_CHAR_INDEX_SCALE"), (5, u "LOG2_ARRAY_SHORT_INDEX_SCALE"), (18, u "LOG2_ARRAY_FLOAT_INDEX_SCALE"), (24, u "LOG2_ARRAY_DOUBLE_INDEX_SCALE"), (6, .methodref 195 196), (0, .class_ 197), (0, .nameAndType 198 199), (0, u "java/lang/Math"), (0, u "max"), (0, u "(II)I"), (0, .integer 2147483639), (76, u "T_BOOLEAN"), (2, u "T_CHAR"), (1, u "T_FLOAT"), (1, u "T_DOUBLE"), (1, u "T_BYTE"), (1, u "T_SHORT"), (1, u "T_INT"), (1, u "T_LONG"), (1, u "SOFT_MAX_ARRAY_LENGTH"), (56, u "newLength"), (0, u "(III)I")] 25

def k21m0 : Method := { name := "<init>", desc := "()V", sig := { parameters := [], returnType := none }, accessFlags := 2, code := none }
def k21c1 : Code := { maxStack := 3, maxLocals := 4, code := jdk_48_method_27_code, exceptionTable := #[], attributes := #[] }
def k21m1 : Method := { name := "newLength", desc := "(III)I", sig := { parameters := [.int, .int, .int], returnType := some .int }, accessFlags := 9, code := some k21c1 }
/-- jdk/internal/util/ArraysSupport -/
def k21 : Class := { plain "jdk/internal/util/ArraysSupport" (some 0) with
  accessFlags := 33
  interfaces := #[]
  cf := some (fileOf pool21 21 #[] #[{ accessFlags := 2, nameIndex := 9, descriptorIndex := 19, attributes := #[] }, { accessFlags := 9, nameIndex := 351, descriptorIndex := 352, attributes := #[] }] 33 16 #[] #[{ accessFlags := 24, nameIndex := 28, descriptorIndex := 29, attributes := #[] }, { accessFlags := 26, nameIndex := 38, descriptorIndex := 39, attributes := #[] }, { accessFlags := 25, nameIndex := 121, descriptorIndex := 25, attributes := #[] }, { accessFlags := 25, nameIndex := 131, descriptorIndex := 25, attributes := #[] }, { accessFlags := 25, nameIndex := 137, descriptorIndex := 25, attributes := #[] }, { accessFlags := 25, nameIndex := 143, descriptorIndex := 25, attributes := #[] }, { accessFlags := 25, nameIndex := 53, descriptorIndex := 25, attributes := #[] }, { accessFlags := 25, nameIndex := 24, descriptorIndex := 25, attributes := #[] }, { accessFlags := 25, nameIndex := 162, descriptorIndex := 25, attributes := #[] }, { accessFlags := 25, nameIndex := 187, descriptorIndex := 25, attributes := #[] }, { accessFlags := 26, nameIndex := 48, descriptorIndex := 25, attributes := #[] }, { accessFlags := 25, nameIndex := 277, descriptorIndex := 25, attributes := #[] }, { accessFlags := 25, nameIndex := 280, descriptorIndex := 25, attributes := #[] }, { accessFlags := 25, nameIndex := 282, descriptorIndex := 25, attributes := #[] }, { accessFlags := 25, nameIndex := 284, descriptorIndex := 25, attributes := #[] }, { accessFlags := 25, nameIndex := 286, descriptorIndex := 25, attributes := #[] }, { accessFlags := 25, nameIndex := 288, descriptorIndex := 25, attributes := #[] }, { accessFlags := 25, nameIndex := 290, descriptorIndex := 25, attributes := #[] }, { accessFlags := 25, nameIndex := 292, descriptorIndex := 25, attributes := #[] }, { accessFlags := 26, nameIndex := 108, descriptorIndex := 109, attributes := #[] }, { accessFlags := 25, nameIndex := 294, descriptorIndex := 25, attributes := #[] }])
  fields := #[{ name := "U", type := (.object "jdk/internal/misc/Unsafe"), accessFlags := 24, slot := 0, constantValue := 0 }, { name := "BIG_ENDIAN", type := .boolean, accessFlags := 26, slot := 1, constantValue := 0 }, { name := "LOG2_ARRAY_BOOLEAN_INDEX_SCALE", type := .int, accessFlags := 25, slot := 2, constantValue := 0 }, { name := "LOG2_ARRAY_BYTE_INDEX_SCALE", type := .int, accessFlags := 25, slot := 3, constantValue := 0 }, { name := "LOG2_ARRAY_CHAR_INDEX_SCALE", type := .int, accessFlags := 25, slot := 4, constantValue := 0 }, { name := "LOG2_ARRAY_SHORT_INDEX_SCALE", type := .int, accessFlags := 25, slot := 5, constantValue := 0 }, { name := "LOG2_ARRAY_INT_INDEX_SCALE", type := .int, accessFlags := 25, slot := 6, constantValue := 0 }, { name := "LOG2_ARRAY_LONG_INDEX_SCALE", type := .int, accessFlags := 25, slot := 7, constantValue := 0 }, { name := "LOG2_ARRAY_FLOAT_INDEX_SCALE", type := .int, accessFlags := 25, slot := 8, constantValue := 0 }, { name := "LOG2_ARRAY_DOUBLE_INDEX_SCALE", type := .int, accessFlags := 25, slot := 9, constantValue := 0 }, { name := "LOG2_BYTE_BIT_SIZE", type := .int, accessFlags := 26, slot := 10, constantValue := 0 }, { name := "T_BOOLEAN", type := .int, accessFlags := 25, slot := 11, constantValue := 0 }, { name := "T_CHAR", type := .int, accessFlags := 25, slot := 12, constantValue := 0 }, { name := "T_FLOAT", type := .int, accessFlags := 25, slot := 13, constantValue := 0 }, { name := "T_DOUBLE", type := .int, accessFlags := 25, slot := 14, constantValue := 0 }, { name := "T_BYTE", type := .int, accessFlags := 25, slot := 15, constantValue := 0 }, { name := "T_SHORT", type := .int, accessFlags := 25, slot := 16, constantValue := 0 }, { name := "T_INT", type := .int, accessFlags := 25, slot := 17, constantValue := 0 }, { name := "T_LONG", type := .int, accessFlags := 25, slot := 18, constantValue := 0 }, { name := "JLA", type := (.object "jdk/internal/access/JavaLangAccess"), accessFlags := 26, slot := 19, constantValue := 0 }, { name := "SOFT_MAX_ARRAY_LENGTH", type := .int, accessFlags := 25, slot := 20, constantValue := 0 }]
  methods := #[k21m0, k21m1]
  instanceTypes := #[]
  staticTypes := #[(.object "jdk/internal/misc/Unsafe"), .boolean, .int, .int, .int, .int, .int, .int, .int, .int, .int, .int, .int, .int, .int, .int, .int, .int, .int, (.object "jdk/internal/access/JavaLangAccess"), .int]
  resolved := Array.replicate 378 none
  statics := none }

def pool22 : Array CpInfo := pool [(2, .class_ 4), (1, u "java/lang/Object"), (0, u "<init>"), (0, u "()V"), (7, .class_ 16), (1, u "java/util/Arrays"), (57, .class_ 76), (1, u "java/util/Arrays$NaturalOrder"), (36, .class_ 115), (1, u "java/util/Arrays$LegacyMergeSort"), (1, u "Z"), (21, u "copyOfRange"), (10, .methodref 151 152), (0, .class_ 153), (0, .nameAndType 154 155), (0, u "java/lang/System"), (0, u "arraycopy"), (0, u "(Ljava/lang/Object;ILjava/lang/Object;II)V"), (146, u "copyOf"), (1, .methodref 305 306), (0, .class_ 307), (0, .nameAndType 308 309), (0, u "java/lang/Math"), (0, u "min"), (0, u "(II)I"), (29, .methodref 14 340), (0, .nameAndType 341 342), (0, u "copyOfRangeByte"), (0, u "([BII)[B"), (0, .methodref 14 344), (0, .nameAndType 345 346), (0, u "checkLength"), (0, u "(II)V"), (28, .class_ 376), (0, u "java/util/Arrays$ArrayList"), (68, u "$assertionsDisabled"), (269, u "MIN_ARRAY_SORT_GRAN"), (0, u "I"), (2, u "INSERTIONSORT_THRESHOLD"), (149, u "([BI)[B"), (105, .class_ 976), (0, u "java/util/Arrays$ArrayItr")] 52

def k22m0 : Method := { name := "<init>", desc := "()V", sig := { parameters := [], returnType := none }, accessFlags := 2, code := none }
def k22c1 : Code := { maxStack := 6, maxLocals := 3, code := jdk_65_method_121_code, exceptionTable := #[], attributes := #[] }
def k22m1 : Method := { name := "copyOf", desc := "([BI)[B", sig := { parameters := [(.array .byte), .int], returnType := some (.array .byte) }, accessFlags := 9, code := some k22c1 }
def k22c2 : Code := { maxStack := 4, maxLocals := 2, code := jdk_65_method_131_code, exceptionTable := #[], attributes := #[] }
def k22m2 : Method := { name := "checkLength", desc := "(II)V", sig := { parameters := [.int, .int], returnType := none }, accessFlags := 10, code := some k22c2 }
def k22c3 : Code := { maxStack := 3, maxLocals := 3, code := jdk_65_method_132_code, exceptionTable := #[], attributes := #[] }
def k22m3 : Method := { name := "copyOfRange", desc := "([BII)[B", sig := { parameters := [(.array .byte), .int, .int], returnType := some (.array .byte) }, accessFlags := 9, code := some k22c3 }
def k22c4 : Code := { maxStack := 6, maxLocals := 5, code := jdk_65_method_133_code, exceptionTable := #[], attributes := #[] }
def k22m4 : Method := { name := "copyOfRangeByte", desc := "([BII)[B", sig := { parameters := [(.array .byte), .int, .int], returnType := some (.array .byte) }, accessFlags := 10, code := some k22c4 }
/-- java/util/Arrays -/
def k22 : Class := { plain "java/util/Arrays" (some 0) with
  accessFlags := 49
  interfaces := #[]
  cf := some (fileOf pool22 14 #[.nestMembers #[975, 375, 113, 74]] #[{ accessFlags := 2, nameIndex := 5, descriptorIndex := 6, attributes := #[] }, { accessFlags := 9, nameIndex := 302, descriptorIndex := 869, attributes := #[] }, { accessFlags := 10, nameIndex := 345, descriptorIndex := 346, attributes := #[] }, { accessFlags := 9, nameIndex := 139, descriptorIndex := 342, attributes := #[] }, { accessFlags := 10, nameIndex := 341, descriptorIndex := 342, attributes := #[] }] 49 2 #[] #[{ accessFlags := 26, nameIndex := 715, descriptorIndex := 716, attributes := #[] }, { accessFlags := 26, nameIndex := 719, descriptorIndex := 716, attributes := #[] }, { accessFlags := 4120, nameIndex := 445, descriptorIndex := 117, attributes := #[] }])
  fields := #[{ name := "MIN_ARRAY_SORT_GRAN", type := .int, accessFlags := 26, slot := 0, constantValue := 0 }, { name := "INSERTIONSORT_THRESHOLD", type := .int, accessFlags := 26, slot := 1, constantValue := 0 }, { name := "$assertionsDisabled", type := .boolean, accessFlags := 4120, slot := 2, constantValue := 0 }]
  methods := #[k22m0, k22m1, k22m2, k22m3, k22m4]
  instanceTypes := #[]
  staticTypes := #[.int, .int, .boolean]
  resolved := Array.replicate 1029 none
  statics := none }

def pool23 : Array CpInfo := pool [(6, .class_ 8), (1, u "java/lang/Object"), (0, u "<init>"), (0, u "()V"), (1, .class_ 14), (1, u "java/lang/StringUTF16"), (31, u "$assertionsDisabled"), (0, u "Z"), (13, u "HI_BYTE_SHIFT"), (0, u "I"), (2, u "LO_BYTE_SHIFT"), (49, .methodref 12 116), (0, .nameAndType 117 118), (0, u "compress"), (0, u "([CI[BII)I"), (3, u "([CII)[B"), (138, u "coderFromArrayLen"), (0, u "([BI)B"), (106, .class_ 371), (1, u "java/lang/StringUTF16$LinesSpliterator"), (58, u "MAX_LENGTH"), (196, .class_ 628), (0, u "java/lang/StringUTF16$CodePointsSpliterator"), (0, .class_ 630), (0, u "java/lang/StringUTF16$CharsSpliterator")] 4

def k23m0 : Method := { name := "<init>", desc := "()V", sig := { parameters := [], returnType := none }, accessFlags := 0, code := none }
def k23c1 : Code := { maxStack := 2, maxLocals := 2, code := jdk_52_method_15_code, exceptionTable := #[], attributes := #[] }
def k23m1 : Method := { name := "coderFromArrayLen", desc := "([BI)B", sig := { parameters := [(.array .byte), .int], returnType := some .byte }, accessFlags := 8, code := some k23c1 }
def k23c2 : Code := { maxStack := 5, maxLocals := 6, code := jdk_52_method_16_code, exceptionTable := #[], attributes := #[] }
def k23m2 : Method := { name := "compress", desc := "([CII)[B", sig := { parameters := [(.array .char), .int, .int], returnType := some (.array .byte) }, accessFlags := 9, code := some k23c2 }
def k23c3 : Code := { maxStack := 3, maxLocals := 7, code := jdk_52_method_21_code, exceptionTable := #[], attributes := #[] }
def k23m3 : Method := { name := "compress", desc := "([CI[BII)I", sig := { parameters := [(.array .char), .int, (.array .byte), .int, .int], returnType := some .int }, accessFlags := 9, code := some k23c3 }
/-- java/lang/StringUTF16 -/
def k23 : Class := { plain "java/lang/StringUTF16" (some 0) with
  accessFlags := 48
  interfaces := #[]
  cf := some (fileOf pool23 12 #[.nestMembers #[627, 629, 369]] #[{ accessFlags := 0, nameIndex := 9, descriptorIndex := 10, attributes := #[] }, { accessFlags := 8, nameIndex := 261, descriptorIndex := 262, attributes := #[] }, { accessFlags := 9, nameIndex := 117, descriptorIndex := 122, attributes := #[] }, { accessFlags := 9, nameIndex := 117, descriptorIndex := 118, attributes := #[] }] 48 6 #[] #[{ accessFlags := 26, nameIndex := 61, descriptorIndex := 62, attributes := #[] }, { accessFlags := 26, nameIndex := 65, descriptorIndex := 62, attributes := #[] }, { accessFlags := 24, nameIndex := 430, descriptorIndex := 62, attributes := #[] }, { accessFlags := 4120, nameIndex := 46, descriptorIndex := 47, attributes := #[] }])
  fields := #[{ name := "HI_BYTE_SHIFT", type := .int, accessFlags := 26, slot := 0, constantValue := 0 }, { name := "LO_BYTE_SHIFT", type := .int, accessFlags := 26, slot := 1, constantValue := 0 }, { name := "MAX_LENGTH", type := .int, accessFlags := 24, slot := 2, constantValue := 0 }, { name := "$assertionsDisabled", type := .boolean, accessFlags := 4120, slot := 3, constantValue := 0 }]
  methods := #[k23m0, k23m1, k23m2, k23m3]
  instanceTypes := #[]
  staticTypes := #[.int, .int, .int, .boolean]
  resolved := Array.replicate 635 none
  statics := none }

def pool24 : Array CpInfo := pool [(4, .class_ 6), (1, u "java/lang/Object"), (0, u "<init>"), (0, u "()V"), (5, .class_ 16), (1, u "java/lang/StringLatin1"), (104, u "$assertionsDisabled"), (0, u "Z"), (98, .class_ 223), (1, u "java/lang/StringLatin1$LinesSpliterator"), (57, u "equals"), (0, u "([B[B)Z"), (107, .class_ 391), (0, u "java/lang/StringLatin1$CharsSpliterator")] 3

def k24m0 : Method := { name := "<init>", desc := "()V", sig := { parameters := [], returnType := none }, accessFlags := 0, code := none }
def k24c1 : Code := { maxStack := 3, maxLocals := 3, code := jdk_43_method_13_code, exceptionTable := #[], attributes := #[] }
def k24m1 : Method := { name := "equals", desc := "([B[B)Z", sig := { parameters := [(.array .byte), (.array .byte)], returnType := some .boolean }, accessFlags := 9, code := some k24c1 }
/-- java/lang/StringLatin1 -/
def k24 : Class := { plain "java/lang/StringLatin1" (some 0) with
  accessFlags := 48
  interfaces := #[]
  cf := some (fileOf pool24 14 #[.nestMembers #[390, 221]] #[{ accessFlags := 0, nameIndex := 7, descriptorIndex := 8, attributes := #[] }, { accessFlags := 9, nameIndex := 281, descriptorIndex := 282, attributes := #[] }] 48 4 #[] #[{ accessFlags := 4120, nameIndex := 121, descriptorIndex := 122, attributes := #[] }])
  fields := #[{ name := "$assertionsDisabled", type := .boolean, accessFlags := 4120, slot := 0, constantValue := 0 }]
  methods := #[k24m0, k24m1]
  instanceTypes := #[]
  staticTypes := #[.boolean]
  resolved := Array.replicate 395 none
  statics := none }

def pool25 : Array CpInfo := pool [(2, .class_ 4), (1, u "java/lang/Object"), (0, u "<init>"), (0, u "()V"), (17, .class_ 26), (1, u "jdk/internal/util/Preconditions"), (28, .class_ 56), (0, u "jdk/internal/util/Preconditions$4"), (57, .class_ 115), (0, u "jdk/internal/util/Preconditions$1"), (7, u "SIOOBE_FORMATTER"), (0, u "Ljava/util/function/BiFunction;"), (0, .class_ 126), (0, u "jdk/internal/util/Preconditions$2"), (3, u "AIOOBE_FORMATTER"), (0, .class_ 132), (0, u "jdk/internal/util/Preconditions$3"), (3, u "IOOBE_FORMATTER")] 57

def k25m0 : Method := { name := "<init>", desc := "()V", sig := { parameters := [], returnType := none }, accessFlags := 1, code := none }
/-- jdk/internal/util/Preconditions -/
def k25 : Class := { plain "jdk/internal/util/Preconditions" (some 0) with
  accessFlags := 33
  interfaces := #[]
  cf := some (fileOf pool25 24 #[.nestMembers #[55, 131, 125, 114]] #[{ accessFlags := 1, nameIndex := 5, descriptorIndex := 6, attributes := #[] }] 33 2 #[] #[{ accessFlags := 25, nameIndex := 123, descriptorIndex := 124, attributes := #[] }, { accessFlags := 25, nameIndex := 130, descriptorIndex := 124, attributes := #[] }, { accessFlags := 25, nameIndex := 136, descriptorIndex := 124, attributes := #[] }])
  fields := #[{ name := "SIOOBE_FORMATTER", type := (.object "java/util/function/BiFunction"), accessFlags := 25, slot := 0, constantValue := 0 }, { name := "AIOOBE_FORMATTER", type := (.object "java/util/function/BiFunction"), accessFlags := 25, slot := 1, constantValue := 0 }, { name := "IOOBE_FORMATTER", type := (.object "java/util/function/BiFunction"), accessFlags := 25, slot := 2, constantValue := 0 }]
  methods := #[k25m0]
  instanceTypes := #[]
  staticTypes := #[(.object "java/util/function/BiFunction"), (.object "java/util/function/BiFunction"), (.object "java/util/function/BiFunction")]
  resolved := Array.replicate 194 none
  statics := some 3 }

def pool26 : Array CpInfo := pool [(1, u "java/lang/Cloneable"), (0, .class_ 1), (0, u "java/lang/Object"), (0, .class_ 3)] 3

/-- java/lang/Cloneable -/
def k26 : Class := { plain "java/lang/Cloneable" (some 0) with
  accessFlags := 1537
  interfaces := #[]
  cf := some (fileOf pool26 2 #[] #[] 1537 4 #[] #[])
  fields := #[]
  methods := #[]
  instanceTypes := #[]
  staticTypes := #[]
  resolved := Array.replicate 8 none
  statics := none }

/-- the primitive byte -/
def k27 : Class := { plain "byte" none with kind := .primitive 'B', accessFlags := 0x411 }
/-- [B -/
def k28 : Class := { plain "[B" (some 0) with kind := .array 27 .byte, interfaces := #[26, 6], accessFlags := 1041 }

/-- the primitive char -/
def k29 : Class := { plain "char" none with kind := .primitive 'C', accessFlags := 0x411 }
/-- [C -/
def k30 : Class := { plain "[C" (some 0) with kind := .array 29 .char, interfaces := #[26, 6], accessFlags := 1041 }

/-- the primitive int -/
def k31 : Class := { plain "int" none with kind := .primitive 'I', accessFlags := 0x411 }
/-- [I -/
def k32 : Class := { plain "[I" (some 0) with kind := .array 31 .int, interfaces := #[26, 6], accessFlags := 1041 }

def heap : Heap := #[{ cls := 8, slots := #[.ref 6, .ref 7, .ref 8, .null], vm := .statics 8 },
  { cls := 13, slots := #[.long 0, .int 1, .null, .int 0, .null, .int 0, .int 0], vm := .statics 13 },
  { cls := 20, slots := #[.int 0, .int 0, .null, .null, .ref 5, .ref 4, .int 0, .int 0, .long 0], vm := .statics 20 },
  { cls := 25, slots := #[.null, .null, .null], vm := .statics 25 },
  { cls := 28, slots := #[.int 48, .int 49, .int 50, .int 51, .int 52, .int 53, .int 54, .int 55, .int 56, .int 57, .int 48, .int 49, .int 50, .int 51, .int 52, .int 53, .int 54, .int 55, .int 56, .int 57, .int 48, .int 49, .int 50, .int 51, .int 52, .int 53, .int 54, .int 55, .int 56, .int 57, .int 48, .int 49, .int 50, .int 51, .int 52, .int 53, .int 54, .int 55, .int 56, .int 57, .int 48, .int 49, .int 50, .int 51, .int 52, .int 53, .int 54, .int 55, .int 56, .int 57, .int 48, .int 49, .int 50, .int 51, .int 52, .int 53, .int 54, .int 55, .int 56, .int 57, .int 48, .int 49, .int 50, .int 51, .int 52, .int 53, .int 54, .int 55, .int 56, .int 57, .int 48, .int 49, .int 50, .int 51, .int 52, .int 53, .int 54, .int 55, .int 56, .int 57, .int 48, .int 49, .int 50, .int 51, .int 52, .int 53, .int 54, .int 55, .int 56, .int 57, .int 48, .int 49, .int 50, .int 51, .int 52, .int 53, .int 54, .int 55, .int 56, .int 57], vm := .none },
  { cls := 28, slots := #[.int 48, .int 48, .int 48, .int 48, .int 48, .int 48, .int 48, .int 48, .int 48, .int 48, .int 49, .int 49, .int 49, .int 49, .int 49, .int 49, .int 49, .int 49, .int 49, .int 49, .int 50, .int 50, .int 50, .int 50, .int 50, .int 50, .int 50, .int 50, .int 50, .int 50, .int 51, .int 51, .int 51, .int 51, .int 51, .int 51, .int 51, .int 51, .int 51, .int 51, .int 52, .int 52, .int 52, .int 52, .int 52, .int 52, .int 52, .int 52, .int 52, .int 52, .int 53, .int 53, .int 53, .int 53, .int 53, .int 53, .int 53, .int 53, .int 53, .int 53, .int 54, .int 54, .int 54, .int 54, .int 54, .int 54, .int 54, .int 54, .int 54, .int 54, .int 55, .int 55, .int 55, .int 55, .int 55, .int 55, .int 55, .int 55, .int 55, .int 55, .int 56, .int 56, .int 56, .int 56, .int 56, .int 56, .int 56, .int 56, .int 56, .int 56, .int 57, .int 57, .int 57, .int 57, .int 57, .int 57, .int 57, .int 57, .int 57, .int 57], vm := .none },
  { cls := 8, slots := #[.null, .int 0, .int 0], vm := .none },
  { cls := 8, slots := #[.null, .int 1, .int 0], vm := .none },
  { cls := 8, slots := #[.null, .int 2, .int 0], vm := .none }]
def classes : Array Class := #[k0, k1, k2, k3, k4, k5, k6, k7, k8, k9, k10, k11, k12, k13, k14, k15, k16, k17, k18, k19, k20, k21, k22, k23, k24, k25, k26, k27, k28, k29, k30, k31, k32]
def interned : List (Array UInt16 × Addr) := []
def slotsUsed : Nat := 232
def theMethod : MethodId := ⟨1, 1⟩
def args0 : Array Value := #[.int 5, .int 3, .int 7, .int 2]
def aboutOver (below : List Frame) : State where
  vm := { classes := classes, interned := interned.toArray }
  heap := heap
  slotsUsed := slotsUsed
  threads := #[{ frames := .invoking theMethod args0 :: below }]
def below0 : List Frame := [.native { method := ⟨0, 0⟩, args := #[] }]
def about1 : State := aboutOver below0
def p0 : Program := .bare "" "" ""
def e0 : Env := launch0.env 0 0 0
theorem w_frames : about1.frames = Frame.invoking theMethod args0 :: below0 := rfl
set_option maxRecDepth 65536 in
theorem w_args : argsFit about1.vm theMethod args0 = true := by decide +kernel
set_option maxRecDepth 65536 in
theorem w_heap : heapFits about1 = true := by decide +kernel
set_option maxRecDepth 65536 in
theorem w_runnable : about1.curStatus? = some .runnable := by decide +kernel
set_option maxRecDepth 65536 in
theorem w_alone : about1.alone = true := by decide +kernel
set_option maxRecDepth 65536 in
theorem w_named : about1.methodNamed? x = some theMethod := by decide +kernel
set_option maxRecDepth 65536 in
theorem w_hears : about1.hears theMethod below0 = true := by decide +kernel
set_option maxRecDepth 65536 in
theorem w_ripe : about1.ripe theMethod args0 below0 = true := by decide +kernel
theorem w_running : about1.status = .running := rfl
set_option maxRecDepth 65536 in
theorem w_room : about1.hasRoom e0.platform room_1 = true :=
  launch0.hasRoom_least _ room_1 (by decide +kernel) (by decide +kernel) (by decide +kernel) (by decide +kernel) (by decide +kernel) (by decide +kernel)
theorem allAtoms_all (ts : List Jvm.Cond) (a : Array Jvm.Value) (st : Jvm.State) : (allAtoms ts).before a st = ts.all (fun c => c.before a st) := by
  induction ts with
  | nil => rfl
  | cons c t ih =>
    show (Jvm.Cond.and c (allAtoms t)).before a st = _
    rw [Jvm.Cond.before_and, ih, List.all_cons]
def words1 : List Jvm.Cond := Jvm.Cond.code x code maxLocals ret :: tables_1
/-- a 'code' word, met by the world's own term for the bytes: nothing is compared byte by byte -/
theorem code_word {y : MethodName} {bytes : ByteArray} {mx : Nat} {rt : Option FieldType} {a : Array Value} {s : State} {m : MethodId} {meth : Method} {c : Code} (h1 : s.methodNamed? y = some m) (h2 : s.vm.method? m = some meth) (h3 : meth.code = some c) (h4 : c.code = bytes)
    (h5 : (c.maxLocals == mx && c.exceptionTable.isEmpty && decide (c.maxStack ≤ mostOperands) && decide (meth.sig.returnType = rt) && !meth.locks && decide (parseMethodDescriptor y.desc = some meth.sig)) = true) : (Jvm.Cond.code y bytes mx rt).before a s = true := by
  simp only [Bool.and_eq_true, beq_iff_eq, Bool.not_eq_true', decide_eq_true_eq] at h5
  obtain ⟨⟨⟨⟨⟨g1, g2⟩, g3⟩, g4⟩, g5⟩, g6⟩ := h5
  simp [Cond.before, Cond.holds, Cond.value, h1, h2, h3, h4, g1, g2, g3, g4, g5, g6]
def isCode : Jvm.Cond → Bool
  | .code _ _ _ _ => true
  | _ => false
theorem all_split {L : List Jvm.Cond} {P : Jvm.Cond → Bool} (h1 : L.all (fun c => isCode c || P c) = true) (h2 : ∀ c ∈ L.filter isCode, P c = true) : L.all P = true := by
  refine List.all_eq_true.mpr fun c hc => ?_
  have h := List.all_eq_true.mp h1 c hc
  rcases Bool.eq_false_or_eq_true (isCode c) with hi | hi
  · exact h2 c (List.mem_filter.mpr ⟨hc, hi⟩)
  · simpa [hi] using h
set_option maxRecDepth 65536 in
theorem w_c0 : (Jvm.Cond.code x code maxLocals ret).before args0 about1 = true := code_word (m := ⟨1, 1⟩) (meth := k1m1) (c := k1c1) (by decide +kernel) rfl rfl rfl (by decide +kernel)
set_option maxRecDepth 65536 in
theorem w_c1 : (Jvm.Cond.code ({ cls := "java/lang/Math", name := "min", desc := "(II)I" } : Jvm.MethodName) jdk_29_method_69_code (2 : Nat) (Option.some Jvm.ClassFile.FieldType.int)).before args0 about1 = true := code_word (m := ⟨2, 2⟩) (meth := k2m2) (c := k2c2) (by decide +kernel) rfl rfl rfl (by decide +kernel)
set_option maxRecDepth 65536 in
theorem w_c2 : (Jvm.Cond.code ({ cls := "com/example/goldweave/goldweave/server/cli/LoadSummary", name := "<init>", desc := "()V" } : Jvm.MethodName) prog_62_method_1_code (1 : Nat) (Option.none : Option Jvm.ClassFile.FieldType)).before args0 about1 = true := code_word (m := ⟨3, 0⟩) (meth := k3m0) (c := k3c0) (by decide +kernel) rfl rfl rfl (by decide +kernel)
set_option maxRecDepth 65536 in
theorem w_c3 : (Jvm.Cond.code ({ cls := "java/lang/Object", name := "<init>", desc := "()V" } : Jvm.MethodName) object_method_1_code (1 : Nat) (Option.none : Option Jvm.ClassFile.FieldType)).before args0 about1 = true := code_word (m := ⟨0, 0⟩) (meth := k0m0) (c := k0c0) (by decide +kernel) rfl rfl rfl (by decide +kernel)
set_option maxRecDepth 65536 in
theorem w_c4 : (Jvm.Cond.code ({ cls := "com/example/goldweave/goldweave/server/cli/LoadSummaryRejectPinLaw", name := "rejectTimes", desc := "(Lcom/example/goldweave/goldweave/server/cli/LoadSummary;I)V" } : Jvm.MethodName) method_3_code (2 : Nat) (Option.none : Option Jvm.ClassFile.FieldType)).before args0 about1 = true := code_word (m := ⟨1, 2⟩) (meth := k1m2) (c := k1c2) (by decide +kernel) rfl rfl rfl (by decide +kernel)
set_option maxRecDepth 65536 in
theorem w_c5 : (Jvm.Cond.code ({ cls := "com/example/goldweave/goldweave/engine/linking/Registration", name := "<init>", desc := "(Ljava/lang/String;Lcom/example/goldweave/goldweave/engine/linking/Registration$Change;ZI)V" } : Jvm.MethodName) prog_38_method_1_code (5 : Nat) (Option.none : Option Jvm.ClassFile.FieldType)).before args0 about1 = true := code_word (m := ⟨10, 0⟩) (meth := k10m0) (c := k10c0) (by decide +kernel) rfl rfl rfl (by decide +kernel)
set_option maxRecDepth 65536 in
theorem w_c6 : (Jvm.Cond.code ({ cls := "java/lang/Record", name := "<init>", desc := "()V" } : Jvm.MethodName) jdk_30_method_1_code (1 : Nat) (Option.none : Option Jvm.ClassFile.FieldType)).before args0 about1 = true := code_word (m := ⟨9, 0⟩) (meth := k9m0) (c := k9c0) (by decide +kernel) rfl rfl rfl (by decide +kernel)
set_option maxRecDepth 65536 in
theorem w_c7 : (Jvm.Cond.code ({ cls := "com/example/goldweave/goldweave/server/cli/LoadSummary", name := "add", desc := "(Lcom/example/goldweave/goldweave/engine/linking/Registration;)V" } : Jvm.MethodName) prog_62_method_2_code (2 : Nat) (Option.none : Option Jvm.ClassFile.FieldType)).before args0 about1 = true := code_word (m := ⟨3, 1⟩) (meth := k3m1) (c := k3c1) (by decide +kernel) rfl rfl rfl (by decide +kernel)
set_option maxRecDepth 65536 in
theorem w_c8 : (Jvm.Cond.code ({ cls := "com/example/goldweave/goldweave/engine/linking/Registration", name := "candidateLinks", desc := "()I" } : Jvm.MethodName) prog_38_method_8_code (1 : Nat) (Option.some Jvm.ClassFile.FieldType.int)).before args0 about1 = true := code_word (m := ⟨10, 3⟩) (meth := k10m3) (c := k10c3) (by decide +kernel) rfl rfl rfl (by decide +kernel)
set_option maxRecDepth 65536 in
theorem w_c9 : (Jvm.Cond.code ({ cls := "com/example/goldweave/goldweave/engine/linking/Registration", name := "change", desc := "()Lcom/example/goldweave/goldweave/engine/linking/Registration$Change;" } : Jvm.MethodName) prog_38_method_6_code (1 : Nat) (Option.some (Jvm.ClassFile.FieldType.object "com/example/goldweave/goldweave/engine/linking/Registration$Change"))).before args0 about1 = true := code_word (m := ⟨10, 1⟩) (meth := k10m1) (c := k10c1) (by decide +kernel) rfl rfl rfl (by decide +kernel)
set_option maxRecDepth 65536 in
theorem w_c10 : (Jvm.Cond.code ({ cls := "com/example/goldweave/goldweave/engine/linking/Registration", name := "newGoldenRecord", desc := "()Z" } : Jvm.MethodName) prog_38_method_7_code (1 : Nat) (Option.some Jvm.ClassFile.FieldType.boolean)).before args0 about1 = true := code_word (m := ⟨10, 2⟩) (meth := k10m2) (c := k10c2) (by decide +kernel) rfl rfl rfl (by decide +kernel)
set_option maxRecDepth 65536 in
theorem w_c11 : (Jvm.Cond.code ({ cls := "com/example/goldweave/goldweave/server/cli/LoadSummary", name := "toString", desc := "()Ljava/lang/String;" } : Jvm.MethodName) prog_62_method_4_code (1 : Nat) (Option.some (Jvm.ClassFile.FieldType.object "java/lang/String"))).before args0 about1 = true := code_word (m := ⟨3, 3⟩) (meth := k3m3) (c := k3c3) (by decide +kernel) rfl rfl rfl (by decide +kernel)
set_option maxRecDepth 65536 in
theorem w_c12 : (Jvm.Cond.code ({ cls := "java/lang/StringBuilder", name := "<init>", desc := "()V" } : Jvm.MethodName) jdk_67_method_1_code (1 : Nat) (Option.none : Option Jvm.ClassFile.FieldType)).before args0 about1 = true := code_word (m := ⟨16, 0⟩) (meth := k16m0) (c := k16c0) (by decide +kernel) rfl rfl rfl (by decide +kernel)
set_option maxRecDepth 65536 in
theorem w_c13 : (Jvm.Cond.code ({ cls := "java/lang/AbstractStringBuilder", name := "<init>", desc := "(I)V" } : Jvm.MethodName) jdk_68_method_2_code (2 : Nat) (Option.none : Option Jvm.ClassFile.FieldType)).before args0 about1 = true := code_word (m := ⟨15, 1⟩) (meth := k15m1) (c := k15c1) (by decide +kernel) rfl rfl rfl (by decide +kernel)
set_option maxRecDepth 65536 in
theorem w_c14 : (Jvm.Cond.code ({ cls := "java/lang/StringBuilder", name := "append", desc := "(Ljava/lang/String;)Ljava/lang/StringBuilder;" } : Jvm.MethodName) jdk_67_method_7_code (2 : Nat) (Option.some (Jvm.ClassFile.FieldType.object "java/lang/StringBuilder"))).before args0 about1 = true := code_word (m := ⟨16, 1⟩) (meth := k16m1) (c := k16c1) (by decide +kernel) rfl rfl rfl (by decide +kernel)
set_option maxRecDepth 65536 in
theorem w_c15 : (Jvm.Cond.code ({ cls := "java/lang/AbstractStringBuilder", name := "append", desc := "(Ljava/lang/String;)Ljava/lang/AbstractStringBuilder;" } : Jvm.MethodName) jdk_68_method_22_code (3 : Nat) (Option.some (Jvm.ClassFile.FieldType.object "java/lang/AbstractStringBuilder"))).before args0 about1 = true := code_word (m := ⟨15, 5⟩) (meth := k15m5) (c := k15c5) (by decide +kernel) rfl rfl rfl (by decide +kernel)
set_option maxRecDepth 65536 in
theorem w_c16 : (Jvm.Cond.code ({ cls := "java/lang/String", name := "length", desc := "()I" } : Jvm.MethodName) jdk_42_method_54_code (1 : Nat) (Option.some Jvm.ClassFile.FieldType.int)).before args0 about1 = true := code_word (m := ⟨13, 3⟩) (meth := k13m3) (c := k13c3) (by decide +kernel) rfl rfl rfl (by decide +kernel)
set_option maxRecDepth 65536 in
theorem w_c17 : (Jvm.Cond.code ({ cls := "java/lang/String", name := "coder", desc := "()B" } : Jvm.MethodName) jdk_42_method_152_code (1 : Nat) (Option.some Jvm.ClassFile.FieldType.byte)).before args0 about1 = true := code_word (m := ⟨13, 8⟩) (meth := k13m8) (c := k13c8) (by decide +kernel) rfl rfl rfl (by decide +kernel)
set_option maxRecDepth 65536 in
theorem w_c18 : (Jvm.Cond.code ({ cls := "java/lang/AbstractStringBuilder", name := "ensureCapacityInternal", desc := "(I)V" } : Jvm.MethodName) jdk_68_method_9_code (3 : Nat) (Option.none : Option Jvm.ClassFile.FieldType)).before args0 about1 = true := code_word (m := ⟨15, 3⟩) (meth := k15m3) (c := k15c3) (by decide +kernel) rfl rfl rfl (by decide +kernel)
set_option maxRecDepth 65536 in
theorem w_c19 : (Jvm.Cond.code ({ cls := "java/lang/AbstractStringBuilder", name := "putStringAt", desc := "(ILjava/lang/String;)V" } : Jvm.MethodName) jdk_68_method_73_code (3 : Nat) (Option.none : Option Jvm.ClassFile.FieldType)).before args0 about1 = true := code_word (m := ⟨15, 10⟩) (meth := k15m10) (c := k15c10) (by decide +kernel) rfl rfl rfl (by decide +kernel)
set_option maxRecDepth 65536 in
theorem w_c20 : (Jvm.Cond.code ({ cls := "java/lang/AbstractStringBuilder", name := "inflateIfNeededFor", desc := "(Ljava/lang/String;)V" } : Jvm.MethodName) jdk_68_method_71_code (2 : Nat) (Option.none : Option Jvm.ClassFile.FieldType)).before args0 about1 = true := code_word (m := ⟨15, 9⟩) (meth := k15m9) (c := k15c9) (by decide +kernel) rfl rfl rfl (by decide +kernel)
set_option maxRecDepth 65536 in
theorem w_c21 : (Jvm.Cond.code ({ cls := "java/lang/String", name := "getBytes", desc := "([BIB)V" } : Jvm.MethodName) jdk_42_method_147_code (4 : Nat) (Option.none : Option Jvm.ClassFile.FieldType)).before args0 about1 = true := code_word (m := ⟨13, 5⟩) (meth := k13m5) (c := k13c5) (by decide +kernel) rfl rfl rfl (by decide +kernel)
set_option maxRecDepth 65536 in
theorem w_c22 : (Jvm.Cond.code ({ cls := "java/lang/StringBuilder", name := "append", desc := "(J)Ljava/lang/StringBuilder;" } : Jvm.MethodName) jdk_67_method_16_code (3 : Nat) (Option.some (Jvm.ClassFile.FieldType.object "java/lang/StringBuilder"))).before args0 about1 = true := code_word (m := ⟨16, 2⟩) (meth := k16m2) (c := k16c2) (by decide +kernel) rfl rfl rfl (by decide +kernel)
set_option maxRecDepth 65536 in
theorem w_c23 : (Jvm.Cond.code ({ cls := "java/lang/AbstractStringBuilder", name := "append", desc := "(J)Ljava/lang/AbstractStringBuilder;" } : Jvm.MethodName) jdk_68_method_33_code (5 : Nat) (Option.some (Jvm.ClassFile.FieldType.object "java/lang/AbstractStringBuilder"))).before args0 about1 = true := code_word (m := ⟨15, 6⟩) (meth := k15m6) (c := k15c6) (by decide +kernel) rfl rfl rfl (by decide +kernel)
set_option maxRecDepth 65536 in
theorem w_c24 : (Jvm.Cond.code ({ cls := "java/lang/Long", name := "stringSize", desc := "(J)I" } : Jvm.MethodName) jdk_35_method_15_code (6 : Nat) (Option.some Jvm.ClassFile.FieldType.int)).before args0 about1 = true := code_word (m := ⟨19, 1⟩) (meth := k19m1) (c := k19c1) (by decide +kernel) rfl rfl rfl (by decide +kernel)
set_option maxRecDepth 65536 in
theorem w_c25 : (Jvm.Cond.code ({ cls := "java/lang/AbstractStringBuilder", name := "isLatin1", desc := "()Z" } : Jvm.MethodName) jdk_68_method_68_code (1 : Nat) (Option.some Jvm.ClassFile.FieldType.boolean)).before args0 about1 = true := code_word (m := ⟨15, 8⟩) (meth := k15m8) (c := k15c8) (by decide +kernel) rfl rfl rfl (by decide +kernel)
set_option maxRecDepth 65536 in
theorem w_c26 : (Jvm.Cond.code ({ cls := "java/lang/Long", name := "getChars", desc := "(JI[B)I" } : Jvm.MethodName) jdk_35_method_14_code (11 : Nat) (Option.some Jvm.ClassFile.FieldType.int)).before args0 about1 = true := code_word (m := ⟨19, 0⟩) (meth := k19m0) (c := k19c0) (by decide +kernel) rfl rfl rfl (by decide +kernel)
set_option maxRecDepth 65536 in
theorem w_c27 : (Jvm.Cond.code ({ cls := "java/lang/AbstractStringBuilder", name := "newCapacity", desc := "(I)I" } : Jvm.MethodName) jdk_68_method_10_code (6 : Nat) (Option.some Jvm.ClassFile.FieldType.int)).before args0 about1 = true := code_word (m := ⟨15, 4⟩) (meth := k15m4) (c := k15c4) (by decide +kernel) rfl rfl rfl (by decide +kernel)
set_option maxRecDepth 65536 in
theorem w_c28 : (Jvm.Cond.code ({ cls := "jdk/internal/util/ArraysSupport", name := "newLength", desc := "(III)I" } : Jvm.MethodName) jdk_48_method_27_code (4 : Nat) (Option.some Jvm.ClassFile.FieldType.int)).before args0 about1 = true := code_word (m := ⟨21, 1⟩) (meth := k21m1) (c := k21c1) (by decide +kernel) rfl rfl rfl (by decide +kernel)
set_option maxRecDepth 65536 in
theorem w_c29 : (Jvm.Cond.code ({ cls := "java/lang/Math", name := "max", desc := "(II)I" } : Jvm.MethodName) jdk_29_method_65_code (2 : Nat) (Option.some Jvm.ClassFile.FieldType.int)).before args0 about1 = true := code_word (m := ⟨2, 1⟩) (meth := k2m1) (c := k2c1) (by decide +kernel) rfl rfl rfl (by decide +kernel)
set_option maxRecDepth 65536 in
theorem w_c30 : (Jvm.Cond.code ({ cls := "java/util/Arrays", name := "copyOf", desc := "([BI)[B" } : Jvm.MethodName) jdk_65_method_121_code (3 : Nat) (Option.some (Jvm.ClassFile.FieldType.array Jvm.ClassFile.FieldType.byte))).before args0 about1 = true := code_word (m := ⟨22, 1⟩) (meth := k22m1) (c := k22c1) (by decide +kernel) rfl rfl rfl (by decide +kernel)
set_option maxRecDepth 65536 in
theorem w_c31 : (Jvm.Cond.code ({ cls := "java/lang/StringBuilder", name := "toString", desc := "()Ljava/lang/String;" } : Jvm.MethodName) jdk_67_method_42_code (1 : Nat) (Option.some (Jvm.ClassFile.FieldType.object "java/lang/String"))).before args0 about1 = true := code_word (m := ⟨16, 3⟩) (meth := k16m3) (c := k16c3) (by decide +kernel) rfl rfl rfl (by decide +kernel)
set_option maxRecDepth 65536 in
theorem w_c32 : (Jvm.Cond.code ({ cls := "java/lang/String", name := "<init>", desc := "(Ljava/lang/StringBuilder;)V" } : Jvm.MethodName) jdk_42_method_53_code (2 : Nat) (Option.none : Option Jvm.ClassFile.FieldType)).before args0 about1 = true := code_word (m := ⟨13, 2⟩) (meth := k13m2) (c := k13c2) (by decide +kernel) rfl rfl rfl (by decide +kernel)
set_option maxRecDepth 65536 in
theorem w_c33 : (Jvm.Cond.code ({ cls := "java/lang/String", name := "<init>", desc := "(Ljava/lang/AbstractStringBuilder;Ljava/lang/Void;)V" } : Jvm.MethodName) jdk_42_method_150_code (5 : Nat) (Option.none : Option Jvm.ClassFile.FieldType)).before args0 about1 = true := code_word (m := ⟨13, 7⟩) (meth := k13m7) (c := k13c7) (by decide +kernel) rfl rfl rfl (by decide +kernel)
set_option maxRecDepth 65536 in
theorem w_c34 : (Jvm.Cond.code ({ cls := "java/lang/AbstractStringBuilder", name := "getValue", desc := "()[B" } : Jvm.MethodName) jdk_68_method_64_code (1 : Nat) (Option.some (Jvm.ClassFile.FieldType.array Jvm.ClassFile.FieldType.byte))).before args0 about1 = true := code_word (m := ⟨15, 7⟩) (meth := k15m7) (c := k15c7) (by decide +kernel) rfl rfl rfl (by decide +kernel)
set_option maxRecDepth 65536 in
theorem w_c35 : (Jvm.Cond.code ({ cls := "java/lang/StringBuilder", name := "length", desc := "()I" } : Jvm.MethodName) jdk_67_method_93_code (1 : Nat) (Option.some Jvm.ClassFile.FieldType.int)).before args0 about1 = true := code_word (m := ⟨16, 4⟩) (meth := k16m4) (c := k16c4) (by decide +kernel) rfl rfl rfl (by decide +kernel)
set_option maxRecDepth 65536 in
theorem w_c36 : (Jvm.Cond.code ({ cls := "java/lang/AbstractStringBuilder", name := "length", desc := "()I" } : Jvm.MethodName) jdk_68_method_6_code (1 : Nat) (Option.some Jvm.ClassFile.FieldType.int)).before args0 about1 = true := code_word (m := ⟨15, 2⟩) (meth := k15m2) (c := k15c2) (by decide +kernel) rfl rfl rfl (by decide +kernel)
set_option maxRecDepth 65536 in
theorem w_c37 : (Jvm.Cond.code ({ cls := "java/util/Arrays", name := "copyOfRange", desc := "([BII)[B" } : Jvm.MethodName) jdk_65_method_132_code (3 : Nat) (Option.some (Jvm.ClassFile.FieldType.array Jvm.ClassFile.FieldType.byte))).before args0 about1 = true := code_word (m := ⟨22, 3⟩) (meth := k22m3) (c := k22c3) (by decide +kernel) rfl rfl rfl (by decide +kernel)
set_option maxRecDepth 65536 in
theorem w_c38 : (Jvm.Cond.code ({ cls := "java/util/Arrays", name := "copyOfRangeByte", desc := "([BII)[B" } : Jvm.MethodName) jdk_65_method_133_code (5 : Nat) (Option.some (Jvm.ClassFile.FieldType.array Jvm.ClassFile.FieldType.byte))).before args0 about1 = true := code_word (m := ⟨22, 4⟩) (meth := k22m4) (c := k22c4) (by decide +kernel) rfl rfl rfl (by decide +kernel)
set_option maxRecDepth 65536 in
theorem w_c39 : (Jvm.Cond.code ({ cls := "java/util/Arrays", name := "checkLength", desc := "(II)V" } : Jvm.MethodName) jdk_65_method_131_code (2 : Nat) (Option.none : Option Jvm.ClassFile.FieldType)).before args0 about1 = true := code_word (m := ⟨22, 2⟩) (meth := k22m2) (c := k22c2) (by decide +kernel) rfl rfl rfl (by decide +kernel)
set_option maxRecDepth 65536 in
theorem w_c40 : (Jvm.Cond.code ({ cls := "com/example/goldweave/goldweave/server/cli/LoadSummaryRejectPinLaw", name := "expected", desc := "(IIIIIIII)Ljava/lang/String;" } : Jvm.MethodName) method_5_code (9 : Nat) (Option.some (Jvm.ClassFile.FieldType.object "java/lang/String"))).before args0 about1 = true := code_word (m := ⟨1, 4⟩) (meth := k1m4) (c := k1c4) (by decide +kernel) rfl rfl rfl (by decide +kernel)
set_option maxRecDepth 65536 in
theorem w_c41 : (Jvm.Cond.code ({ cls := "com/example/goldweave/goldweave/server/cli/LoadSummaryRejectPinLaw", name := "d", desc := "(I)C" } : Jvm.MethodName) method_4_code (1 : Nat) (Option.some Jvm.ClassFile.FieldType.char)).before args0 about1 = true := code_word (m := ⟨1, 3⟩) (meth := k1m3) (c := k1c3) (by decide +kernel) rfl rfl rfl (by decide +kernel)
set_option maxRecDepth 65536 in
theorem w_c42 : (Jvm.Cond.code ({ cls := "java/lang/String", name := "<init>", desc := "([C)V" } : Jvm.MethodName) jdk_42_method_3_code (2 : Nat) (Option.none : Option Jvm.ClassFile.FieldType)).before args0 about1 = true := code_word (m := ⟨13, 1⟩) (meth := k13m1) (c := k13c1) (by decide +kernel) rfl rfl rfl (by decide +kernel)
set_option maxRecDepth 65536 in
theorem w_c43 : (Jvm.Cond.code ({ cls := "java/lang/String", name := "<init>", desc := "([CIILjava/lang/Void;)V" } : Jvm.MethodName) jdk_42_method_149_code (6 : Nat) (Option.none : Option Jvm.ClassFile.FieldType)).before args0 about1 = true := code_word (m := ⟨13, 6⟩) (meth := k13m6) (c := k13c6) (by decide +kernel) rfl rfl rfl (by decide +kernel)
set_option maxRecDepth 65536 in
theorem w_c44 : (Jvm.Cond.code ({ cls := "java/lang/StringUTF16", name := "compress", desc := "([CII)[B" } : Jvm.MethodName) jdk_52_method_16_code (6 : Nat) (Option.some (Jvm.ClassFile.FieldType.array Jvm.ClassFile.FieldType.byte))).before args0 about1 = true := code_word (m := ⟨23, 2⟩) (meth := k23m2) (c := k23c2) (by decide +kernel) rfl rfl rfl (by decide +kernel)
set_option maxRecDepth 65536 in
theorem w_c45 : (Jvm.Cond.code ({ cls := "java/lang/StringUTF16", name := "compress", desc := "([CI[BII)I" } : Jvm.MethodName) jdk_52_method_21_code (7 : Nat) (Option.some Jvm.ClassFile.FieldType.int)).before args0 about1 = true := code_word (m := ⟨23, 3⟩) (meth := k23m3) (c := k23c3) (by decide +kernel) rfl rfl rfl (by decide +kernel)
set_option maxRecDepth 65536 in
theorem w_c46 : (Jvm.Cond.code ({ cls := "java/lang/StringUTF16", name := "coderFromArrayLen", desc := "([BI)B" } : Jvm.MethodName) jdk_52_method_15_code (2 : Nat) (Option.some Jvm.ClassFile.FieldType.byte)).before args0 about1 = true := code_word (m := ⟨23, 1⟩) (meth := k23m1) (c := k23c1) (by decide +kernel) rfl rfl rfl (by decide +kernel)
set_option maxRecDepth 65536 in
theorem w_c47 : (Jvm.Cond.code ({ cls := "java/lang/String", name := "equals", desc := "(Ljava/lang/Object;)Z" } : Jvm.MethodName) jdk_42_method_66_code (3 : Nat) (Option.some Jvm.ClassFile.FieldType.boolean)).before args0 about1 = true := code_word (m := ⟨13, 4⟩) (meth := k13m4) (c := k13c4) (by decide +kernel) rfl rfl rfl (by decide +kernel)
set_option maxRecDepth 65536 in
theorem w_c48 : (Jvm.Cond.code ({ cls := "java/lang/StringLatin1", name := "equals", desc := "([B[B)Z" } : Jvm.MethodName) jdk_43_method_13_code (3 : Nat) (Option.some Jvm.ClassFile.FieldType.boolean)).before args0 about1 = true := code_word (m := ⟨24, 1⟩) (meth := k24m1) (c := k24c1) (by decide +kernel) rfl rfl rfl (by decide +kernel)
set_option maxRecDepth 65536 in
theorem w_c49 : (Jvm.Cond.code ({ cls := "com/example/goldweave/goldweave/server/cli/LoadSummary", name := "reject", desc := "()V" } : Jvm.MethodName) prog_62_method_3_code (1 : Nat) (Option.none : Option Jvm.ClassFile.FieldType)).before args0 about1 = true := code_word (m := ⟨3, 2⟩) (meth := k3m2) (c := k3c2) (by decide +kernel) rfl rfl rfl (by decide +kernel)
def codes1 : List Jvm.Cond := [Jvm.Cond.code x code maxLocals ret, Jvm.Cond.code ({ cls := "java/lang/Math", name := "min", desc := "(II)I" } : Jvm.MethodName) jdk_29_method_69_code (2 : Nat) (Option.some Jvm.ClassFile.FieldType.int), Jvm.Cond.code ({ cls := "com/example/goldweave/goldweave/server/cli/LoadSummary", name := "<init>", desc := "()V" } : Jvm.MethodName) prog_62_method_1_code (1 : Nat) (Option.none : Option Jvm.ClassFile.FieldType), Jvm.Cond.code ({ cls := "java/lang/Object", name := "<init>", desc := "()V" } : Jvm.MethodName) object_method_1_code (1 : Nat) (Option.none : Option Jvm.ClassFile.FieldType), Jvm.Cond.code ({ cls := "com/example/goldweave/goldweave/server/cli/LoadSummaryRejectPinLaw", name := "rejectTimes", desc := "(Lcom/example/goldweave/goldweave/server/cli/LoadSummary;I)V" } : Jvm.MethodName) method_3_code (2 : Nat) (Option.none : Option Jvm.ClassFile.FieldType), Jvm.Cond.code ({ cls := "com/example/goldweave/goldweave/engine/linking/Registration", name := "<init>", desc := "(Ljava/lang/String;Lcom/example/goldweave/goldweave/engine/linking/Registration$Change;ZI)V" } : Jvm.MethodName) prog_38_method_1_code (5 : Nat) (Option.none : Option Jvm.ClassFile.FieldType), Jvm.Cond.code ({ cls := "java/lang/Record", name := "<init>", desc := "()V" } : Jvm.MethodName) jdk_30_method_1_code (1 : Nat) (Option.none : Option Jvm.ClassFile.FieldType), Jvm.Cond.code ({ cls := "com/example/goldweave/goldweave/server/cli/LoadSummary", name := "add", desc := "(Lcom/example/goldweave/goldweave/engine/linking/Registration;)V" } : Jvm.MethodName) prog_62_method_2_code (2 : Nat) (Option.none : Option Jvm.ClassFile.FieldType), Jvm.Cond.code ({ cls := "com/example/goldweave/goldweave/engine/linking/Registration", name := "candidateLinks", desc := "()I" } : Jvm.MethodName) prog_38_method_8_code (1 : Nat) (Option.some Jvm.ClassFile.FieldType.int), Jvm.Cond.code ({ cls := "com/example/goldweave/goldweave/engine/linking/Registration", name := "change", desc := "()Lcom/example/goldweave/goldweave/engine/linking/Registration$Change;" } : Jvm.MethodName) prog_38_method_6_code (1 : Nat) (Option.some (Jvm.ClassFile.FieldType.object "com/example/goldweave/goldweave/engine/linking/Registration$Change")), Jvm.Cond.code ({ cls := "com/example/goldweave/goldweave/engine/linking/Registration", name := "newGoldenRecord", desc := "()Z" } : Jvm.MethodName) prog_38_method_7_code (1 : Nat) (Option.some Jvm.ClassFile.FieldType.boolean), Jvm.Cond.code ({ cls := "com/example/goldweave/goldweave/server/cli/LoadSummary", name := "toString", desc := "()Ljava/lang/String;" } : Jvm.MethodName) prog_62_method_4_code (1 : Nat) (Option.some (Jvm.ClassFile.FieldType.object "java/lang/String")), Jvm.Cond.code ({ cls := "java/lang/StringBuilder", name := "<init>", desc := "()V" } : Jvm.MethodName) jdk_67_method_1_code (1 : Nat) (Option.none : Option Jvm.ClassFile.FieldType), Jvm.Cond.code ({ cls := "java/lang/AbstractStringBuilder", name := "<init>", desc := "(I)V" } : Jvm.MethodName) jdk_68_method_2_code (2 : Nat) (Option.none : Option Jvm.ClassFile.FieldType), Jvm.Cond.code ({ cls := "java/lang/StringBuilder", name := "append", desc := "(Ljava/lang/String;)Ljava/lang/StringBuilder;" } : Jvm.MethodName) jdk_67_method_7_code (2 : Nat) (Option.some (Jvm.ClassFile.FieldType.object "java/lang/StringBuilder")), Jvm.Cond.code ({ cls := "java/lang/AbstractStringBuilder", name := "append", desc := "(Ljava/lang/String;)Ljava/lang/AbstractStringBuilder;" } : Jvm.MethodName) jdk_68_method_22_code (3 : Nat) (Option.some (Jvm.ClassFile.FieldType.object "java/lang/AbstractStringBuilder")), Jvm.Cond.code ({ cls := "java/lang/String", name := "length", desc := "()I" } : Jvm.MethodName) jdk_42_method_54_code (1 : Nat) (Option.some Jvm.ClassFile.FieldType.int), Jvm.Cond.code ({ cls := "java/lang/String", name := "coder", desc := "()B" } : Jvm.MethodName) jdk_42_method_152_code (1 : Nat) (Option.some Jvm.ClassFile.FieldType.byte), Jvm.Cond.code ({ cls := "java/lang/AbstractStringBuilder", name := "ensureCapacityInternal", desc := "(I)V" } : Jvm.MethodName) jdk_68_method_9_code (3 : Nat) (Option.none : Option Jvm.ClassFile.FieldType), Jvm.Cond.code ({ cls := "java/lang/AbstractStringBuilder", name := "putStringAt", desc := "(ILjava/lang/String;)V" } : Jvm.MethodName) jdk_68_method_73_code (3 : Nat) (Option.none : Option Jvm.ClassFile.FieldType), Jvm.Cond.code ({ cls := "java/lang/AbstractStringBuilder", name := "inflateIfNeededFor", desc := "(Ljava/lang/String;)V" } : Jvm.MethodName) jdk_68_method_71_code (2 : Nat) (Option.none : Option Jvm.ClassFile.FieldType), Jvm.Cond.code ({ cls := "java/lang/String", name := "getBytes", desc := "([BIB)V" } : Jvm.MethodName) jdk_42_method_147_code (4 : Nat) (Option.none : Option Jvm.ClassFile.FieldType), Jvm.Cond.code ({ cls := "java/lang/StringBuilder", name := "append", desc := "(J)Ljava/lang/StringBuilder;" } : Jvm.MethodName) jdk_67_method_16_code (3 : Nat) (Option.some (Jvm.ClassFile.FieldType.object "java/lang/StringBuilder")), Jvm.Cond.code ({ cls := "java/lang/AbstractStringBuilder", name := "append", desc := "(J)Ljava/lang/AbstractStringBuilder;" } : Jvm.MethodName) jdk_68_method_33_code (5 : Nat) (Option.some (Jvm.ClassFile.FieldType.object "java/lang/AbstractStringBuilder")), Jvm.Cond.code ({ cls := "java/lang/Long", name := "stringSize", desc := "(J)I" } : Jvm.MethodName) jdk_35_method_15_code (6 : Nat) (Option.some Jvm.ClassFile.FieldType.int), Jvm.Cond.code ({ cls := "java/lang/AbstractStringBuilder", name := "isLatin1", desc := "()Z" } : Jvm.MethodName) jdk_68_method_68_code (1 : Nat) (Option.some Jvm.ClassFile.FieldType.boolean), Jvm.Cond.code ({ cls := "java/lang/Long", name := "getChars", desc := "(JI[B)I" } : Jvm.MethodName) jdk_35_method_14_code (11 : Nat) (Option.some Jvm.ClassFile.FieldType.int), Jvm.Cond.code ({ cls := "java/lang/AbstractStringBuilder", name := "newCapacity", desc := "(I)I" } : Jvm.MethodName) jdk_68_method_10_code (6 : Nat) (Option.some Jvm.ClassFile.FieldType.int), Jvm.Cond.code ({ cls := "jdk/internal/util/ArraysSupport", name := "newLength", desc := "(III)I" } : Jvm.MethodName) jdk_48_method_27_code (4 : Nat) (Option.some Jvm.ClassFile.FieldType.int), Jvm.Cond.code ({ cls := "java/lang/Math", name := "max", desc := "(II)I" } : Jvm.MethodName) jdk_29_method_65_code (2 : Nat) (Option.some Jvm.ClassFile.FieldType.int), Jvm.Cond.code ({ cls := "java/util/Arrays", name := "copyOf", desc := "([BI)[B" } : Jvm.MethodName) jdk_65_method_121_code (3 : Nat) (Option.some (Jvm.ClassFile.FieldType.array Jvm.ClassFile.FieldType.byte)), Jvm.Cond.code ({ cls := "java/lang/StringBuilder", name := "toString", desc := "()Ljava/lang/String;" } : Jvm.MethodName) jdk_67_method_42_code (1 : Nat) (Option.some (Jvm.ClassFile.FieldType.object "java/lang/String")), Jvm.Cond.code ({ cls := "java/lang/String", name := "<init>", desc := "(Ljava/lang/StringBuilder;)V" } : Jvm.MethodName) jdk_42_method_53_code (2 : Nat) (Option.none : Option Jvm.ClassFile.FieldType), Jvm.Cond.code ({ cls := "java/lang/String", name := "<init>", desc := "(Ljava/lang/AbstractStringBuilder;Ljava/lang/Void;)V" } : Jvm.MethodName) jdk_42_method_150_code (5 : Nat) (Option.none : Option Jvm.ClassFile.FieldType), Jvm.Cond.code ({ cls := "java/lang/AbstractStringBuilder", name := "getValue", desc := "()[B" } : Jvm.MethodName) jdk_68_method_64_code (1 : Nat) (Option.some (Jvm.ClassFile.FieldType.array Jvm.ClassFile.FieldType.byte)), Jvm.Cond.code ({ cls := "java/lang/StringBuilder", name := "length", desc := "()I" } : Jvm.MethodName) jdk_67_method_93_code (1 : Nat) (Option.some Jvm.ClassFile.FieldType.int), Jvm.Cond.code ({ cls := "java/lang/AbstractStringBuilder", name := "length", desc := "()I" } : Jvm.MethodName) jdk_68_method_6_code (1 : Nat) (Option.some Jvm.ClassFile.FieldType.int), Jvm.Cond.code ({ cls := "java/util/Arrays", name := "copyOfRange", desc := "([BII)[B" } : Jvm.MethodName) jdk_65_method_132_code (3 : Nat) (Option.some (Jvm.ClassFile.FieldType.array Jvm.ClassFile.FieldType.byte)), Jvm.Cond.code ({ cls := "java/util/Arrays", name := "copyOfRangeByte", desc := "([BII)[B" } : Jvm.MethodName) jdk_65_method_133_code (5 : Nat) (Option.some (Jvm.ClassFile.FieldType.array Jvm.ClassFile.FieldType.byte)), Jvm.Cond.code ({ cls := "java/util/Arrays", name := "checkLength", desc := "(II)V" } : Jvm.MethodName) jdk_65_method_131_code (2 : Nat) (Option.none : Option Jvm.ClassFile.FieldType), Jvm.Cond.code ({ cls := "com/example/goldweave/goldweave/server/cli/LoadSummaryRejectPinLaw", name := "expected", desc := "(IIIIIIII)Ljava/lang/String;" } : Jvm.MethodName) method_5_code (9 : Nat) (Option.some (Jvm.ClassFile.FieldType.object "java/lang/String")), Jvm.Cond.code ({ cls := "com/example/goldweave/goldweave/server/cli/LoadSummaryRejectPinLaw", name := "d", desc := "(I)C" } : Jvm.MethodName) method_4_code (1 : Nat) (Option.some Jvm.ClassFile.FieldType.char), Jvm.Cond.code ({ cls := "java/lang/String", name := "<init>", desc := "([C)V" } : Jvm.MethodName) jdk_42_method_3_code (2 : Nat) (Option.none : Option Jvm.ClassFile.FieldType), Jvm.Cond.code ({ cls := "java/lang/String", name := "<init>", desc := "([CIILjava/lang/Void;)V" } : Jvm.MethodName) jdk_42_method_149_code (6 : Nat) (Option.none : Option Jvm.ClassFile.FieldType), Jvm.Cond.code ({ cls := "java/lang/StringUTF16", name := "compress", desc := "([CII)[B" } : Jvm.MethodName) jdk_52_method_16_code (6 : Nat) (Option.some (Jvm.ClassFile.FieldType.array Jvm.ClassFile.FieldType.byte)), Jvm.Cond.code ({ cls := "java/lang/StringUTF16", name := "compress", desc := "([CI[BII)I" } : Jvm.MethodName) jdk_52_method_21_code (7 : Nat) (Option.some Jvm.ClassFile.FieldType.int), Jvm.Cond.code ({ cls := "java/lang/StringUTF16", name := "coderFromArrayLen", desc := "([BI)B" } : Jvm.MethodName) jdk_52_method_15_code (2 : Nat) (Option.some Jvm.ClassFile.FieldType.byte), Jvm.Cond.code ({ cls := "java/lang/String", name := "equals", desc := "(Ljava/lang/Object;)Z" } : Jvm.MethodName) jdk_42_method_66_code (3 : Nat) (Option.some Jvm.ClassFile.FieldType.boolean), Jvm.Cond.code ({ cls := "java/lang/StringLatin1", name := "equals", desc := "([B[B)Z" } : Jvm.MethodName) jdk_43_method_13_code (3 : Nat) (Option.some Jvm.ClassFile.FieldType.boolean), Jvm.Cond.code ({ cls := "com/example/goldweave/goldweave/server/cli/LoadSummary", name := "reject", desc := "()V" } : Jvm.MethodName) prog_62_method_3_code (1 : Nat) (Option.none : Option Jvm.ClassFile.FieldType)]
set_option maxRecDepth 65536 in
theorem codes_eq : words1.filter isCode = codes1 := rfl
theorem w_codes : ∀ c ∈ words1.filter isCode, c.before args0 about1 = true := by
  rw [codes_eq]
  intro c hc
  simp only [codes1, List.mem_cons, List.not_mem_nil, or_false] at hc
  rcases hc with rfl | rfl | rfl | rfl | rfl | rfl | rfl | rfl | rfl | rfl | rfl | rfl | rfl | rfl | rfl | rfl | rfl | rfl | rfl | rfl | rfl | rfl | rfl | rfl | rfl | rfl | rfl | rfl | rfl | rfl | rfl | rfl | rfl | rfl | rfl | rfl | rfl | rfl | rfl | rfl | rfl | rfl | rfl | rfl | rfl | rfl | rfl | rfl | rfl | rfl
  · exact w_c0
  · exact w_c1
  · exact w_c2
  · exact w_c3
  · exact w_c4
  · exact w_c5
  · exact w_c6
  · exact w_c7
  · exact w_c8
  · exact w_c9
  · exact w_c10
  · exact w_c11
  · exact w_c12
  · exact w_c13
  · exact w_c14
  · exact w_c15
  · exact w_c16
  · exact w_c17
  · exact w_c18
  · exact w_c19
  · exact w_c20
  · exact w_c21
  · exact w_c22
  · exact w_c23
  · exact w_c24
  · exact w_c25
  · exact w_c26
  · exact w_c27
  · exact w_c28
  · exact w_c29
  · exact w_c30
  · exact w_c31
  · exact w_c32
  · exact w_c33
  · exact w_c34
  · exact w_c35
  · exact w_c36
  · exact w_c37
  · exact w_c38
  · exact w_c39
  · exact w_c40
  · exact w_c41
  · exact w_c42
  · exact w_c43
  · exact w_c44
  · exact w_c45
  · exact w_c46
  · exact w_c47
  · exact w_c48
  · exact w_c49
set_option maxRecDepth 65536 in
theorem w_t1 : (words1.take 24).all (fun c => isCode c || c.before args0 about1) = true := by decide +kernel
set_option maxRecDepth 65536 in
theorem w_t2 : ((words1.drop 24).take 24).all (fun c => isCode c || c.before args0 about1) = true := by decide +kernel
set_option maxRecDepth 65536 in
theorem w_t3 : (((words1.drop 24).drop 24).take 24).all (fun c => isCode c || c.before args0 about1) = true := by decide +kernel
set_option maxRecDepth 65536 in
theorem w_t4 : ((((words1.drop 24).drop 24).drop 24).take 24).all (fun c => isCode c || c.before args0 about1) = true := by decide +kernel
set_option maxRecDepth 65536 in
theorem w_t5 : (((((words1.drop 24).drop 24).drop 24).drop 24).take 24).all (fun c => isCode c || c.before args0 about1) = true := by decide +kernel
set_option maxRecDepth 65536 in
theorem w_t6 : ((((((words1.drop 24).drop 24).drop 24).drop 24).drop 24).take 24).all (fun c => isCode c || c.before args0 about1) = true := by decide +kernel
set_option maxRecDepth 65536 in
theorem w_t7 : (((((((words1.drop 24).drop 24).drop 24).drop 24).drop 24).drop 24).take 24).all (fun c => isCode c || c.before args0 about1) = true := by decide +kernel
set_option maxRecDepth 65536 in
theorem w_t8 : ((((((((words1.drop 24).drop 24).drop 24).drop 24).drop 24).drop 24).drop 24).take 24).all (fun c => isCode c || c.before args0 about1) = true := by decide +kernel
set_option maxRecDepth 65536 in
theorem w_t9 : (((((((((words1.drop 24).drop 24).drop 24).drop 24).drop 24).drop 24).drop 24).drop 24).take 24).all (fun c => isCode c || c.before args0 about1) = true := by decide +kernel
set_option maxRecDepth 65536 in
theorem w_t10 : ((((((((((words1.drop 24).drop 24).drop 24).drop 24).drop 24).drop 24).drop 24).drop 24).drop 24).take 24).all (fun c => isCode c || c.before args0 about1) = true := by decide +kernel
set_option maxRecDepth 65536 in
theorem w_t11 : (((((((((((words1.drop 24).drop 24).drop 24).drop 24).drop 24).drop 24).drop 24).drop 24).drop 24).drop 24).take 24).all (fun c => isCode c || c.before args0 about1) = true := by decide +kernel
set_option maxRecDepth 65536 in
theorem w_t12 : ((((((((((((words1.drop 24).drop 24).drop 24).drop 24).drop 24).drop 24).drop 24).drop 24).drop 24).drop 24).drop 24).take 24).all (fun c => isCode c || c.before args0 about1) = true := by decide +kernel
set_option maxRecDepth 65536 in
theorem w_t13 : ((((((((((((words1.drop 24).drop 24).drop 24).drop 24).drop 24).drop 24).drop 24).drop 24).drop 24).drop 24).drop 24).drop 24).all (fun c => isCode c || c.before args0 about1) = true := by decide +kernel
theorem w_tables : (allAtoms (Jvm.Cond.code x code maxLocals ret :: tables_1)).before args0 about1 = true := by
  rw [allAtoms_all]
  show words1.all (fun c => c.before args0 about1) = true
  refine all_split ?_ w_codes
  rw [← List.take_append_drop 24 words1, List.all_append, w_t1, ← List.take_append_drop 24 (words1.drop 24), List.all_append, w_t2, ← List.take_append_drop 24 ((words1.drop 24).drop 24), List.all_append, w_t3, ← List.take_append_drop 24 (((words1.drop 24).drop 24).drop 24), List.all_append, w_t4, ← List.take_append_drop 24 ((((words1.drop 24).drop 24).drop 24).drop 24), List.all_append, w_t5, ← List.take_append_drop 24 (((((words1.drop 24).drop 24).drop 24).drop 24).drop 24), List.all_append, w_t6, ← List.take_append_drop 24 ((((((words1.drop 24).drop 24).drop 24).drop 24).drop 24).drop 24), List.all_append, w_t7, ← List.take_append_drop 24 (((((((words1.drop 24).drop 24).drop 24).drop 24).drop 24).drop 24).drop 24), List.all_append, w_t8, ← List.take_append_drop 24 ((((((((words1.drop 24).drop 24).drop 24).drop 24).drop 24).drop 24).drop 24).drop 24), List.all_append, w_t9, ← List.take_append_drop 24 (((((((((words1.drop 24).drop 24).drop 24).drop 24).drop 24).drop 24).drop 24).drop 24).drop 24), List.all_append, w_t10, ← List.take_append_drop 24 ((((((((((words1.drop 24).drop 24).drop 24).drop 24).drop 24).drop 24).drop 24).drop 24).drop 24).drop 24), List.all_append, w_t11, ← List.take_append_drop 24 (((((((((((words1.drop 24).drop 24).drop 24).drop 24).drop 24).drop 24).drop 24).drop 24).drop 24).drop 24).drop 24), List.all_append, w_t12, w_t13]
  rfl
set_option maxRecDepth 65536 in
theorem w_rest : rest_1_c.before args0 about1 = true := by decide +kernel
set_option maxRecDepth 65536 in
theorem w_case : (Jvm.Cond.and given_1 narrow_1).before args0 about1 = true := by decide +kernel
set_option maxRecDepth 65536 in
theorem w_consts : constsHeld consts_1 about1 := Jvm.Lit.constsHeldB_iff.mp (by decide +kernel)
theorem w_applies : (headSpec (Jvm.Cond.code x code maxLocals ret :: tables_1) room_1).applies x e0.platform about1 = true :=
  (Spec.applies_iff w_frames).mpr ⟨w_running, w_runnable, w_alone, w_named, w_hears, w_ripe, w_room, w_tables⟩
theorem atStart : AtStart classFile x code maxLocals ret World_1 tables_1 room_1 Calls_1 rest_1 Pre_1 launch0 p0 e0 about1 theMethod args0 below0 :=
  ⟨lists_1, trivial, launch0.admits_env _ _ _, launch0.least_env, fairChoices_fair.cas, fairChoices_fair.clock, w_frames, w_args, w_heap, w_applies, ⟨w_consts, trivial⟩, w_rest, w_case⟩
end start1
theorem witness_1 : WitnessClaimed_1 := ⟨start1.p0, start1.e0, start1.about1, start1.theMethod, start1.args0, start1.below0, start1.atStart⟩
end Jvm.Pilot.@@N@@
