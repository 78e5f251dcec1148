import JvmDerived
import JvmDerived.Pilot.@@N@@Statement
import JvmDerived.Pilot.@@N@@Code
set_option linter.unusedVariables false
set_option linter.unusedSimpArgs false
@@BLOCK:SetKit.lean.txt@@
/- laws to paste: Road.backV, Road.lenW, Road.chN, Road.eqW, Road.codOf (cut by pick.py; bodies as the Statement names them) -/
namespace Jvm.Pilot.@@N@@
namespace StrChars
open Jvm Sem ClassFile Op Lib Jvm.Stand Jvm.Free.XT Jvm.Free.ALB Jvm.Free.JM Jvm.Free
open Jvm.Lib.Cold (StaticIs)
/-- a char array whose places are chars -/
def Ch (a : Addr) (A : Cell) (U : State) : Prop := Arr .char a A U ∧ Typed .char A
theorem Ch.mv {a : Addr} {A : Cell} {U U' : State} (h : Ch a A U) (hal : U.vm.Alike U'.vm) (hh : U'.heap = U.heap) : Ch a A U' := ⟨h.1.mv hal hh, h.2⟩
theorem Ch.keep {a : Addr} {A : Cell} {U U' : State} (h : Ch a A U) (hal : U.vm.Alike U'.vm) (hk : U'.heap[a]? = some A) : Ch a A U' := ⟨h.1.keep hal hk, h.2⟩
/-- what place i of a char[]'s cell holds -/
def cv (A : Cell) (i : Nat) : Int32 := match A.slots[i]? with | some (.int x) => x | _ => 0
theorem Ch.get {a : Addr} {A : Cell} {U : State} (h : Ch a A U) {i : Nat} (hi : i < A.slots.size) : A.slots[i]? = some (.int (cv A i)) := by
  have e := Array.getElem?_eq_getElem hi
  have f := h.2 i _ e
  unfold cv; rw [e]
  generalize A.slots[i] = v at f
  cases v <;> simp [fits] at f ⊢
/-- the byte that i2b leaves of a char -/
def lo8 (x : Int32) : Int32 := x.toInt8.toInt32
theorem fits_lo8 (y : Int32) : fits .byte (.int (lo8 y)) = true := by
  have h1 := y.toInt8.le_toInt
  have h2 := y.toInt8.toInt_lt
  simp only [lo8, fits, Bool.and_eq_true, decide_eq_true_eq, Int32.le_iff_toInt_le, Int8.toInt_toInt32, show (-128 : Int32).toInt = -128 from by decide, show (127 : Int32).toInt = 127 from by decide]
  omega
/-- A' is A but that each place j of lo .. hi - 1 holds f j -/
def Laid (A A' : Cell) (lo hi : Nat) (f : Nat → Value) : Prop := A'.cls = A.cls ∧ A'.vm = A.vm ∧ A'.slots.size = A.slots.size ∧ ∀ i, A'.slots[i]? = if lo ≤ i ∧ i < hi then some (f i) else A.slots[i]?
theorem Laid.zero (A : Cell) (lo : Nat) (f : Nat → Value) : Laid A A lo (lo + 0) f := ⟨rfl, rfl, rfl, fun i => by rw [if_neg (by omega)]⟩
theorem Laid.step {A Ak : Cell} {lo k : Nat} {f : Nat → Value} {v : Value} (h : Laid A Ak lo k f) (hlo : lo ≤ k) (hk : k < Ak.slots.size) (hv : v = f k) : Laid A (Ak.setSlot k v) lo (k + 1) f := by
  refine ⟨h.1, h.2.1, by simpa [Cell.setSlot] using h.2.2.1, fun i => ?_⟩
  by_cases e : k = i
  · subst e; rw [Cell.slots_setSlot_self v hk, if_pos (by omega), hv]
  · rw [Cell.slots_setSlot_ne v e, h.2.2.2 i]
    by_cases q : lo ≤ i ∧ i < k
    · rw [if_pos q, if_pos (by omega)]
    · rw [if_neg q, if_neg (by omega)]
def U16 : String := "java/lang/StringUTF16"
namespace Cmp5
def yN : MethodName := ⟨"java/lang/StringUTF16", "compress", "([CI[BII)I"⟩
abbrev yB : ByteArray := jdk_52_method_21_code
theorem d0 : decode yB 0 = .ok (.iconst 0, 1) := by decide +kernel
theorem d1 : decode yB 1 = .ok (.istore 5, 2) := by decide +kernel
theorem d3 : decode yB 3 = .ok (.iload 5, 2) := by decide +kernel
theorem d5 : decode yB 5 = .ok (.iload 4, 2) := by decide +kernel
theorem d7 : decode yB 7 = .ok (.if_icmp (.ge) 37, 3) := by decide +kernel
theorem d10 : decode yB 10 = .ok (.aload_n 0, 1) := by decide +kernel
theorem d11 : decode yB 11 = .ok (.iload_n 1, 1) := by decide +kernel
theorem d12 : decode yB 12 = .ok (.caload, 1) := by decide +kernel
theorem d13 : decode yB 13 = .ok (.istore 6, 2) := by decide +kernel
theorem d15 : decode yB 15 = .ok (.iload 6, 2) := by decide +kernel
theorem d17 : decode yB 17 = .ok (.sipush 255, 3) := by decide +kernel
theorem d20 : decode yB 20 = .ok (.if_icmp (.le) 6, 3) := by decide +kernel
theorem d26 : decode yB 26 = .ok (.aload_n 2, 1) := by decide +kernel
theorem d27 : decode yB 27 = .ok (.iload_n 3, 1) := by decide +kernel
theorem d28 : decode yB 28 = .ok (.iload 6, 2) := by decide +kernel
theorem d30 : decode yB 30 = .ok (.i2b, 1) := by decide +kernel
theorem d31 : decode yB 31 = .ok (.bastore, 1) := by decide +kernel
theorem d32 : decode yB 32 = .ok (.iinc 1 1, 3) := by decide +kernel
theorem d35 : decode yB 35 = .ok (.iinc 3 1, 3) := by decide +kernel
theorem d38 : decode yB 38 = .ok (.iinc 5 1, 3) := by decide +kernel
theorem d41 : decode yB 41 = .ok (.goto (-38), 3) := by decide +kernel
theorem d44 : decode yB 44 = .ok (.iload 4, 2) := by decide +kernel
theorem d46 : decode yB 46 = .ok (.ireturn, 1) := by decide +kernel
def site : List Cond := []
def tab : Cond := tabOf yN yB 7 (some .int) site
def P (b : Addr) (A : Cell) (d : Addr) (B : Cell) (o q len : Nat) (args : Array Value) (s : State) : Prop := args = #[.ref b, .int (Int32.ofNat o), .ref d, .int (Int32.ofNat q), .int (Int32.ofNat len)] ∧ Ch b A s ∧ Arr .byte d B s ∧ b ≠ d ∧ o + len ≤ A.slots.size ∧ q + len ≤ B.slots.size ∧ ∀ i, i < len → ¬ 255 < cv A (o + i)
def E (b : Addr) (A : Cell) (d : Addr) (B : Cell) (o q len : Nat) (r : Option Value) (s u : State) : Prop := r = some (.int (Int32.ofNat len)) ∧ ∃ B', Put d B' s u ∧ Laid B B' q (q + len) (fun j => Value.int (lo8 (cv A (o + (j - q)))))
/-- no char of the range above 255: len; the places written hold each char's low byte -/
theorem law (l : Launch) (b : Addr) (A : Cell) (d : Addr) (B : Cell) (o q len : Nat) : Law l yN 5 5 0 0 yB 7 (some .int) site (P b A d B o q len) (E b A d B o q len) (copyLocs d q len) 0 0 := by
  refine Law.of_walk (plainFor_of_name (by decide +kernel)) (by decide +kernel) (by decide +kernel) (by decide) (fun _ _ h => by rw [h.1]; rfl) (fun _ U U' hal hh h => ⟨h.1, h.2.1.mv hal hh, h.2.2.1.mv hal hh, h.2.2.2⟩) (fun r U U' V V' h1 hal h2 h => ⟨h.1, h.2.elim fun B' q => ⟨B', q.1.mv h1 h2, q.2⟩⟩) ?_
  intro p e s m args below meth c s₁ X0 hexec hbytes hml hret hlk hnm hown hh0 W hP
  obtain ⟨rfl, hA, hB, hne, l1, l2, hp⟩ := hP
  have c1 : Steps p.tables e below (s₁.setTop (entryFrame m #[.ref b, .int (Int32.ofNat o), .ref d, .int (Int32.ofNat q), .int (Int32.ofNat len)] 7)) (s₁.setTop (mkF m 0 #[.val (.ref b), .val (.int (Int32.ofNat o)), .val (.ref d), .val (.int (Int32.ofNat q)), .val (.int (Int32.ofNat len)), .unset, .unset] [])) := entry rfl
  have hA0 := hA.1.mv X0.warmed.alike hh0
  have hB0 := hB.mv X0.warmed.alike hh0
  have a31 := hA.1.2.2.2
  have c2 : Steps p.tables e below (s₁.setTop (entryFrame m #[.ref b, .int (Int32.ofNat o), .ref d, .int (Int32.ofNat q), .int (Int32.ofNat len)] 7)) (s₁.setTop (mkF m 3 #[.val (.ref b), .val (.int (Int32.ofNat o)), .val (.ref d), .val (.int (Int32.ofNat q)), .val (.int (Int32.ofNat len)), .val (.int 0), .unset] [])) := c1.trans (by
    refine iconstV X0.here hexec rfl 0 (hb hbytes d0) (by decide) ?_
    refine XS.istore X0.here hexec rfl (hb hbytes d1) rfl rfl ?_
    exact Steps.refl _)
  have loop : ∀ (r i : Nat), i + r = len → ∀ (z : Slot), (z = .unset ∨ ∃ w, z = .val w ∧ w.category = 1) → ∀ (Tl : State) (Bk : Cell), Stand p l e { frames := 0, locals := 0, cells := 0, slots := 0 } s m #[.ref b, .int (Int32.ofNat o), .ref d, .int (Int32.ofNat q), .int (Int32.ofNat len)] below meth c Tl ([] ++ copyLocs d q i) 0 0 → Put d Bk s₁ Tl → Laid B Bk q (q + i) (fun j => Value.int (lo8 (cv A (o + (j - q))))) →
      Steps p.tables e below (s₁.setTop (entryFrame m #[.ref b, .int (Int32.ofNat o), .ref d, .int (Int32.ofNat q), .int (Int32.ofNat len)] 7)) (Tl.setTop (mkF m 3 #[.val (.ref b), .val (.int (Int32.ofNat (o + i))), .val (.ref d), .val (.int (Int32.ofNat (q + i))), .val (.int (Int32.ofNat len)), .val (.int (Int32.ofNat i)), z] [])) → ∃ (T' : State) (B' : Cell) (z' : Slot), Stand p l e { frames := 0, locals := 0, cells := 0, slots := 0 } s m #[.ref b, .int (Int32.ofNat o), .ref d, .int (Int32.ofNat q), .int (Int32.ofNat len)] below meth c T' ([] ++ copyLocs d q len) 0 0 ∧ Put d B' s₁ T' ∧ Laid B B' q (q + len) (fun j => Value.int (lo8 (cv A (o + (j - q))))) ∧
      Steps p.tables e below (s₁.setTop (entryFrame m #[.ref b, .int (Int32.ofNat o), .ref d, .int (Int32.ofNat q), .int (Int32.ofNat len)] 7)) (T'.setTop (mkF m 3 #[.val (.ref b), .val (.int (Int32.ofNat (o + len))), .val (.ref d), .val (.int (Int32.ofNat (q + len))), .val (.int (Int32.ofNat len)), .val (.int (Int32.ofNat len)), z'] [])) := by
    intro r
    induction r with
    | zero =>
      intro i hi z hz Tl Bk Xl pl fl cl
      have hil : i = len := by omega
      rw [hil] at Xl fl cl
      exact ⟨Tl, Bk, z, Xl, pl, fl, cl⟩
    | succ r ih =>
      intro i hi z hz Tl Bk Xl pl fl cl
      have all := X0.warmed.alike.symm.trans Xl.warmed.alike
      have hAl := hA0.keep all (pl.other hne hA0.1)
      have hBk := hB0.like all pl.1 fl.1 fl.2.1 fl.2.2.1
      have hlt : q + i < Bk.slots.size := by rw [fl.2.2.1]; omega
      have c3 : Steps p.tables e below (s₁.setTop (entryFrame m #[.ref b, .int (Int32.ofNat o), .ref d, .int (Int32.ofNat q), .int (Int32.ofNat len)] 7)) (Tl.setTop (mkF m 12 #[.val (.ref b), .val (.int (Int32.ofNat (o + i))), .val (.ref d), .val (.int (Int32.ofNat (q + i))), .val (.int (Int32.ofNat len)), .val (.int (Int32.ofNat i)), z] [.int (Int32.ofNat (o + i)), .ref b])) := cl.trans (by
        refine XS.iload Xl.here hexec rfl (hb hbytes d3) rfl ?_
        refine XS.iload Xl.here hexec rfl (hb hbytes d5) rfl ?_
        refine XS.icmpNo Xl.here hexec rfl (hb hbytes d7) rfl (ii_ge_f (lt32 (by omega) (by omega))) ?_
        refine XS.aloadN Xl.here hexec rfl (hb hbytes d10) rfl rfl ?_
        refine XS.iloadN Xl.here hexec rfl (hb hbytes d11) rfl ?_
        exact Steps.refl _)
      have c4 : Steps p.tables e below (s₁.setTop (entryFrame m #[.ref b, .int (Int32.ofNat o), .ref d, .int (Int32.ofNat q), .int (Int32.ofNat len)] 7)) (Tl.setTop (mkF m 13 #[.val (.ref b), .val (.int (Int32.ofNat (o + i))), .val (.ref d), .val (.int (Int32.ofNat (q + i))), .val (.int (Int32.ofNat len)), .val (.int (Int32.ofNat i)), z] [.int (cv A (o + i))])) := c3.trans (by
        refine Xl.aget hexec hAl rfl (hA.get (i := o + i) (by omega)) rfl rfl (hb hbytes d12) ?_
        exact Steps.refl _)
      have c5 : Steps p.tables e below (s₁.setTop (entryFrame m #[.ref b, .int (Int32.ofNat o), .ref d, .int (Int32.ofNat q), .int (Int32.ofNat len)] 7)) (Tl.setTop (mkF m 15 #[.val (.ref b), .val (.int (Int32.ofNat (o + i))), .val (.ref d), .val (.int (Int32.ofNat (q + i))), .val (.int (Int32.ofNat len)), .val (.int (Int32.ofNat i)), .val (.int (cv A (o + i)))] [])) := c4.trans (by
        refine XS.istoreS Xl.here hexec rfl (hb hbytes d13) rfl rfl hz ?_
        exact Steps.refl _)
      have c6 : Steps p.tables e below (s₁.setTop (entryFrame m #[.ref b, .int (Int32.ofNat o), .ref d, .int (Int32.ofNat q), .int (Int32.ofNat len)] 7)) (Tl.setTop (mkF m 31 #[.val (.ref b), .val (.int (Int32.ofNat (o + i))), .val (.ref d), .val (.int (Int32.ofNat (q + i))), .val (.int (Int32.ofNat len)), .val (.int (Int32.ofNat i)), .val (.int (cv A (o + i)))] [.int (lo8 (cv A (o + i))), .int (Int32.ofNat (q + i)), .ref d])) := c5.trans (by
        refine XS.iload Xl.here hexec rfl (hb hbytes d15) rfl ?_
        refine sipushV Xl.here hexec rfl 255 (hb hbytes d17) (by decide) ?_
        refine XS.icmpYes Xl.here hexec rfl (pc0 := 20) rfl (hb hbytes d20) rfl (ii_le_t (hp i (by omega))) (by decide) rfl ?_
        refine XS.aloadN Xl.here hexec rfl (hb hbytes d26) rfl rfl ?_
        refine XS.iloadN Xl.here hexec rfl (hb hbytes d27) rfl ?_
        refine XS.iload Xl.here hexec rfl (hb hbytes d28) rfl ?_
        refine i2b Xl.here hexec rfl (hb hbytes d30) rfl ?_
        exact Steps.refl _)
      obtain ⟨T7, X7, p7, st7⟩ := Xl.aput hexec hBk rfl hlt rfl (fits_lo8 (cv A (o + i))) (g := (mkF m 31 #[.val (.ref b), .val (.int (Int32.ofNat (o + i))), .val (.ref d), .val (.int (Int32.ofNat (q + i))), .val (.int (Int32.ofNat len)), .val (.int (Int32.ofNat i)), .val (.int (cv A (o + i)))] [.int (lo8 (cv A (o + i))), .int (Int32.ofNat (q + i)), .ref d])) rfl (rest := []) rfl (hb hbytes d31)
      have c8 : Steps p.tables e below (s₁.setTop (entryFrame m #[.ref b, .int (Int32.ofNat o), .ref d, .int (Int32.ofNat q), .int (Int32.ofNat len)] 7)) (T7.setTop (mkF m 32 #[.val (.ref b), .val (.int (Int32.ofNat (o + i))), .val (.ref d), .val (.int (Int32.ofNat (q + i))), .val (.int (Int32.ofNat len)), .val (.int (Int32.ofNat i)), .val (.int (cv A (o + i)))] [])) := c6.trans (st7 _ (Steps.refl _))
      have c9 : Steps p.tables e below (s₁.setTop (entryFrame m #[.ref b, .int (Int32.ofNat o), .ref d, .int (Int32.ofNat q), .int (Int32.ofNat len)] 7)) (T7.setTop (mkF m 3 #[.val (.ref b), .val (.int (Int32.ofNat (o + i) + 1)), .val (.ref d), .val (.int (Int32.ofNat (q + i) + 1)), .val (.int (Int32.ofNat len)), .val (.int (Int32.ofNat i + 1)), .val (.int (cv A (o + i)))] [])) := c8.trans (by
        refine iincV X7.here hexec rfl 1 (hb hbytes d32) (by decide) rfl rfl ?_
        refine iincV X7.here hexec rfl 1 (hb hbytes d35) (by decide) rfl rfl ?_
        refine iincV X7.here hexec rfl 1 (hb hbytes d38) (by decide) rfl rfl ?_
        refine XS.goto X7.here hexec rfl (pc0 := 41) rfl (hb hbytes d41) (by decide) rfl ?_
        exact Steps.refl _)
      have c10 : Steps p.tables e below (s₁.setTop (entryFrame m #[.ref b, .int (Int32.ofNat o), .ref d, .int (Int32.ofNat q), .int (Int32.ofNat len)] 7)) (T7.setTop (mkF m 3 #[.val (.ref b), .val (.int (Int32.ofNat (o + (i + 1)))), .val (.ref d), .val (.int (Int32.ofNat (q + (i + 1)))), .val (.int (Int32.ofNat len)), .val (.int (Int32.ofNat (i + 1))), .val (.int (cv A (o + i)))] [])) := by
        have := c9
        rw [succ32, succ32, succ32] at this
        exact this
      exact ih (i + 1) (by omega) _ (Or.inr ⟨_, rfl, rfl⟩) T7 _ (by rw [copyLocs_step, ← List.append_assoc]; exact X7) (pl.trans p7) (fl.step (by omega) hlt (by simp)) c10
  obtain ⟨T9, B9, z9, X9, p9, f9, g9⟩ := loop len 0 (by omega) .unset (Or.inl rfl) s₁ B (by simpa [copyLocs] using X0) ⟨hB0.1, fun _ _ => rfl, rfl⟩ (Laid.zero _ _ _) c2
  have c11 : Steps p.tables e below (s₁.setTop (entryFrame m #[.ref b, .int (Int32.ofNat o), .ref d, .int (Int32.ofNat q), .int (Int32.ofNat len)] 7)) (T9.setTop (mkF m 46 #[.val (.ref b), .val (.int (Int32.ofNat (o + len))), .val (.ref d), .val (.int (Int32.ofNat (q + len))), .val (.int (Int32.ofNat len)), .val (.int (Int32.ofNat len)), z9] [.int (Int32.ofNat len)])) := g9.trans (by
    refine XS.iload X9.here hexec rfl (hb hbytes d3) rfl ?_
    refine XS.iload X9.here hexec rfl (hb hbytes d5) rfl ?_
    refine XS.icmpYes X9.here hexec rfl (pc0 := 7) rfl (hb hbytes d7) rfl (ii_ge_t (nlt32 (by omega) (Nat.le_refl _))) (by decide) rfl ?_
    refine XS.iload X9.here hexec rfl (hb hbytes d44) rfl ?_
    exact Steps.refl _)
  exact ⟨T9, some (.int (Int32.ofNat len)), _, _, _, X9, by simp, rfl, rfl, (fun h => by cases h), ⟨rfl, B9, p9.from hh0, f9⟩, fun fs hl => c11.trans (X9.ireturnOut hexec hret rfl (Or.inl rfl) (hb hbytes d46) hl)⟩
end Cmp5
namespace Cmp3
def yN : MethodName := ⟨"java/lang/StringUTF16", "compress", "([CII)[B"⟩
abbrev yB : ByteArray := jdk_52_method_16_code
theorem d0 : decode yB 0 = .ok (.iload_n 2, 1) := by decide +kernel
theorem d1 : decode yB 1 = .ok (.newarray .byte, 2) := by decide +kernel
theorem d3 : decode yB 3 = .ok (.astore_n 3, 1) := by decide +kernel
theorem d4 : decode yB 4 = .ok (.aload_n 0, 1) := by decide +kernel
theorem d5 : decode yB 5 = .ok (.iload_n 1, 1) := by decide +kernel
theorem d6 : decode yB 6 = .ok (.aload_n 3, 1) := by decide +kernel
theorem d7 : decode yB 7 = .ok (.iconst 0, 1) := by decide +kernel
theorem d8 : decode yB 8 = .ok (.iload_n 2, 1) := by decide +kernel
theorem d9 : decode yB 9 = .ok (.invokestatic 115, 3) := by decide +kernel
theorem d12 : decode yB 12 = .ok (.istore 4, 2) := by decide +kernel
theorem d14 : decode yB 14 = .ok (.iload 4, 2) := by decide +kernel
theorem d16 : decode yB 16 = .ok (.iload_n 2, 1) := by decide +kernel
theorem d17 : decode yB 17 = .ok (.if_icmp (.eq) 40, 3) := by decide +kernel
theorem d57 : decode yB 57 = .ok (.aload_n 3, 1) := by decide +kernel
theorem d58 : decode yB 58 = .ok (.areturn, 1) := by decide +kernel
def site : List Cond := [.arrayClass .byte, Cmp5.tab] ++ staticW U16 115 Cmp5.yN
def tab : Cond := tabOf yN yB 6 (some (.array .byte)) site
def P (b : Addr) (A : Cell) (o len : Nat) (args : Array Value) (s : State) : Prop := args = #[.ref b, .int (Int32.ofNat o), .int (Int32.ofNat len)] ∧ Ch b A s ∧ o + len ≤ A.slots.size ∧ len ≤ 536870912 ∧ ∀ i, i < len → ¬ 255 < cv A (o + i)
def E (b : Addr) (A : Cell) (o len : Nat) (r : Option Value) (s u : State) : Prop := NewArr .byte "[B" len (fun j => .int (lo8 (cv A (o + j)))) r s u ∧ u.heap.size = s.heap.size + 1
/-- no char of the range above 255: a new byte[] of their low bytes -/
theorem law (l : Launch) (b : Addr) (A : Cell) (o len : Nat) : Law l yN 3 3 1 18 yB 6 (some (.array .byte)) site (P b A o len) (E b A o len) [] 1 len := by
  refine Law.of_walk (plainFor_of_name (by decide +kernel)) (by decide +kernel) (by decide +kernel) (by decide) (fun _ _ h => by rw [h.1]; rfl) (fun _ U U' hal hh h => ⟨h.1, h.2.1.mv hal hh, h.2.2⟩) (fun r U U' V V' h1 hal h2 h => ⟨NewArr.mv r U U' V V' h1 hal h2 h.1, by rw [h1, h2]; exact h.2⟩) ?_
  intro p e s m args below meth c s₁ X0 hexec hbytes hml hret hlk hnm hown hh0 W hP
  obtain ⟨rfl, hA, l1, l2, hp⟩ := hP
  have a31 := hA.1.2.2.2
  have c1 : Steps p.tables e below (s₁.setTop (entryFrame m #[.ref b, .int (Int32.ofNat o), .int (Int32.ofNat len)] 6)) (s₁.setTop (mkF m 0 #[.val (.ref b), .val (.int (Int32.ofNat o)), .val (.int (Int32.ofNat len)), .unset, .unset, .unset] [])) := entry rfl
  have c2 : Steps p.tables e below (s₁.setTop (entryFrame m #[.ref b, .int (Int32.ofNat o), .int (Int32.ofNat len)] 6)) (s₁.setTop (mkF m 1 #[.val (.ref b), .val (.int (Int32.ofNat o)), .val (.int (Int32.ofNat len)), .unset, .unset, .unset] [.int (Int32.ofNat len)])) := c1.trans (by
    refine XS.iloadN X0.here hexec rfl (hb hbytes d0) rfl ?_
    exact Steps.refl _)
  obtain ⟨T3, B3, X3, ba3, bs3, bv3, bh3, bf3, st3⟩ := X0.anew hexec (atype := .byte) (wk W (.arrayClass .byte)) rfl (by show len * 1 ≤ _; omega) (by omega) (g := (mkF m 1 #[.val (.ref b), .val (.int (Int32.ofNat o)), .val (.int (Int32.ofNat len)), .unset, .unset, .unset] [.int (Int32.ofNat len)])) rfl (hb hbytes d1) (rest := []) rfl (Nat.le_refl _) (by show 0 + len ≤ len; omega)
  rw [hh0] at ba3 st3
  have kp3 : XT.Kept s T3 := (XT.Kept.of_eq hh0).push bh3
  have hA3 := hA.keep X3.warmed.alike (kp3 _ _ hA.1.1)
  have hne : b ≠ s.heap.size := hA.1.ne
  have c4 : Steps p.tables e below (s₁.setTop (entryFrame m #[.ref b, .int (Int32.ofNat o), .int (Int32.ofNat len)] 6)) (T3.setTop (mkF m 3 #[.val (.ref b), .val (.int (Int32.ofNat o)), .val (.int (Int32.ofNat len)), .unset, .unset, .unset] [.ref s.heap.size])) := c2.trans (st3 _ (Steps.refl _))
  have c5 : Steps p.tables e below (s₁.setTop (entryFrame m #[.ref b, .int (Int32.ofNat o), .int (Int32.ofNat len)] 6)) (T3.setTop (mkF m 9 #[.val (.ref b), .val (.int (Int32.ofNat o)), .val (.int (Int32.ofNat len)), .val (.ref s.heap.size), .unset, .unset] [.int (Int32.ofNat len), .int 0, .ref s.heap.size, .int (Int32.ofNat o), .ref b])) := c4.trans (by
    refine XS.astoreN X3.here hexec rfl (hb hbytes d3) rfl rfl rfl ?_
    refine XS.aloadN X3.here hexec rfl (hb hbytes d4) rfl rfl ?_
    refine XS.iloadN X3.here hexec rfl (hb hbytes d5) rfl ?_
    refine XS.aloadN X3.here hexec rfl (hb hbytes d6) rfl rfl ?_
    refine iconstV X3.here hexec rfl 0 (hb hbytes d7) (by decide) ?_
    refine XS.iloadN X3.here hexec rfl (hb hbytes d8) rfl ?_
    exact Steps.refl _)
  obtain ⟨v6, T6, X6, E6, g6⟩ := X3.callS hexec (Cmp5.law l b A s.heap.size B3 o 0 len) hown (wks W (staticW U16 115 Cmp5.yN)) (wk W Cmp5.tab) (W := 0) (Nat.le_of_ble_eq_true rfl) (Nat.le_of_ble_eq_true rfl) (Nat.le_refl _) (by show 0 + len + 0 ≤ len; omega) (g := (mkF m 9 #[.val (.ref b), .val (.int (Int32.ofNat o)), .val (.int (Int32.ofNat len)), .val (.ref s.heap.size), .unset, .unset] [.int (Int32.ofNat len), .int (Int32.ofNat 0), .ref s.heap.size, .int (Int32.ofNat o), .ref b])) rfl (by rw [hml]; rfl) c5 (argsL := [.ref b, .int (Int32.ofNat o), .ref s.heap.size, .int (Int32.ofNat 0), .int (Int32.ofNat len)]) (rest := []) rfl rfl (by show 2 * 0 + 0 ≤ _; decide) (hb hbytes d9) (⟨rfl, hA3, ba3, hne, l1, by rw [bs3]; simp, hp⟩)
  obtain ⟨rfl, B6, p6, f6⟩ := E6
  have c7 : Steps p.tables e below (s₁.setTop (entryFrame m #[.ref b, .int (Int32.ofNat o), .int (Int32.ofNat len)] 6)) (T6.setTop (mkF m 12 #[.val (.ref b), .val (.int (Int32.ofNat o)), .val (.int (Int32.ofNat len)), .val (.ref s.heap.size), .unset, .unset] [.int (Int32.ofNat len)])) := g6
  have c8 : Steps p.tables e below (s₁.setTop (entryFrame m #[.ref b, .int (Int32.ofNat o), .int (Int32.ofNat len)] 6)) (T6.setTop (mkF m 58 #[.val (.ref b), .val (.int (Int32.ofNat o)), .val (.int (Int32.ofNat len)), .val (.ref s.heap.size), .val (.int (Int32.ofNat len)), .unset] [.ref s.heap.size])) := c7.trans (by
    refine XS.istore X6.here hexec rfl (hb hbytes d12) rfl rfl ?_
    refine XS.iload X6.here hexec rfl (hb hbytes d14) rfl ?_
    refine XS.iloadN X6.here hexec rfl (hb hbytes d16) rfl ?_
    refine XS.icmpYes X6.here hexec rfl (pc0 := 17) rfl (hb hbytes d17) rfl (ii_eq_t rfl) (by decide) rfl ?_
    refine XS.aloadN X6.here hexec rfl (hb hbytes d57) rfl rfl ?_
    exact Steps.refl _)
  have X8 := X6.wide (L' := []) (cells' := 1) (slots' := len) (fun x hx hlt => by
    simp only [List.nil_append, copyLocs, List.mem_map, List.mem_range] at hx
    obtain ⟨i, -, rfl⟩ := hx
    exact absurd hlt (Nat.lt_irrefl _)) (Nat.le_refl _) (by omega)
  exact ⟨T6, some (.ref s.heap.size), _, _, _, X8, rfl, rfl, rfl, (fun h => by cases h), ⟨⟨rfl, B6, ba3.like (X3.warmed.alike.symm.trans X6.warmed.alike) p6.1 f6.1 f6.2.1 f6.2.2.1, f6.2.1.trans bv3, by rw [X6.warmed.alike.findClass, f6.1]; exact bf3, by rw [f6.2.2.1, bs3]; simp, fun j hj => by rw [f6.2.2.2 j, if_pos (by omega)]; rfl, kp3.put p6 (Nat.le_refl _)⟩, by rw [p6.2.2, bh3, hh0]; simp⟩, fun fs hl => c8.trans (X8.areturnOut hexec rfl hret rfl (hb hbytes d58) hl)⟩
end Cmp3
namespace CodL
def yN : MethodName := ⟨"java/lang/StringUTF16", "coderFromArrayLen", "([BI)B"⟩
abbrev yB : ByteArray := jdk_52_method_15_code
theorem d0 : decode yB 0 = .ok (.iload_n 1, 1) := by decide +kernel
theorem d1 : decode yB 1 = .ok (.aload_n 0, 1) := by decide +kernel
theorem d2 : decode yB 2 = .ok (.arraylength, 1) := by decide +kernel
theorem d3 : decode yB 3 = .ok (.isub, 1) := by decide +kernel
theorem d4 : decode yB 4 = .ok (.bipush 31, 2) := by decide +kernel
theorem d6 : decode yB 6 = .ok (.iushr, 1) := by decide +kernel
theorem d7 : decode yB 7 = .ok (.i2b, 1) := by decide +kernel
theorem d8 : decode yB 8 = .ok (.ireturn, 1) := by decide +kernel
def site : List Cond := []
def tab : Cond := tabOf yN yB 2 (some .byte) site
def P (d : Addr) (B : Cell) (args : Array Value) (s : State) : Prop := args = #[.ref d, .int (Int32.ofNat B.slots.size)] ∧ Arr .byte d B s
def E (r : Option Value) (s u : State) : Prop := XT.PureE (some (.int 0)) r s u
/-- an array as long as the number of chars: LATIN1 -/
theorem law (l : Launch) (d : Addr) (B : Cell) : Law l yN 2 2 0 0 yB 2 (some .byte) site (P d B) E [] 0 0 := by
  refine Law.of_walk (plainFor_of_name (by decide +kernel)) (by decide +kernel) (by decide +kernel) (by decide) (fun _ _ h => by rw [h.1]; rfl) (fun _ U U' hal hh h => ⟨h.1, h.2.mv hal hh⟩) (fun r U U' V V' h1 hal h2 h => XT.PureE.mv r U U' V V' h1 hal h2 h) ?_
  intro p e s m args below meth c s₁ X0 hexec hbytes hml hret hlk hnm hown hh0 W hP
  obtain ⟨rfl, hB⟩ := hP
  have hB0 := hB.mv X0.warmed.alike hh0
  have c1 : Steps p.tables e below (s₁.setTop (entryFrame m #[.ref d, .int (Int32.ofNat B.slots.size)] 2)) (s₁.setTop (mkF m 0 #[.val (.ref d), .val (.int (Int32.ofNat B.slots.size))] [])) := entry rfl
  have c2 : Steps p.tables e below (s₁.setTop (entryFrame m #[.ref d, .int (Int32.ofNat B.slots.size)] 2)) (s₁.setTop (mkF m 2 #[.val (.ref d), .val (.int (Int32.ofNat B.slots.size))] [.ref d, .int (Int32.ofNat B.slots.size)])) := c1.trans (by
    refine XS.iloadN X0.here hexec rfl (hb hbytes d0) rfl ?_
    refine XS.aloadN X0.here hexec rfl (hb hbytes d1) rfl rfl ?_
    exact Steps.refl _)
  have c3 : Steps p.tables e below (s₁.setTop (entryFrame m #[.ref d, .int (Int32.ofNat B.slots.size)] 2)) (s₁.setTop (mkF m 8 #[.val (.ref d), .val (.int (Int32.ofNat B.slots.size))] [.int (lo8 (ushr (Int32.ofNat B.slots.size - Int32.ofNat B.slots.size) 31))])) := c2.trans (by
    refine X0.alen hexec hB0 rfl rfl (hb hbytes d2) ?_
    refine XS.isub X0.here hexec rfl (hb hbytes d3) rfl ?_
    refine bipushV X0.here hexec rfl 31 (hb hbytes d4) (by decide) ?_
    refine iushr X0.here hexec rfl (hb hbytes d6) rfl ?_
    refine i2b X0.here hexec rfl (hb hbytes d7) rfl ?_
    exact Steps.refl _)
  have e0 : lo8 (ushr (Int32.ofNat B.slots.size - Int32.ofNat B.slots.size) 31) = 0 := by rw [Int32.sub_self]; decide
  rw [e0] at c3
  exact ⟨s₁, some (.int 0), _, _, _, X0, rfl, rfl, rfl, (fun h => by cases h), ⟨rfl, hh0⟩, fun fs hl => c3.trans (X0.ireturnOut hexec hret rfl (Or.inr (Or.inr (Or.inl rfl))) (hb hbytes d8) hl)⟩
end CodL
/-- the String at a is Latin-1 over a new byte[] (the heap's one new cell): the low bytes of the len chars of A from o on; every cell but a is kept -/
def Got (a : Addr) (D : Cell) (fV fC : Field) (A : Cell) (o len : Nat) (r : Option Value) (s u : State) : Prop := r = none ∧ ∃ D' V : Cell, Blank "java/lang/String" a D' u ∧ Same D D' [fV.slot, fC.slot] ∧ D'.slots[fV.slot]? = some (.ref s.heap.size) ∧ D'.slots[fC.slot]? = some (.int 0) ∧ Arr .byte s.heap.size V u ∧ V.vm = .none ∧ u.vm.findClass "[B" = some V.cls ∧ V.slots.size = len ∧ (∀ j, j < len → V.slots[j]? = some (.int (lo8 (cv A (o + j))))) ∧ (∀ (y : Addr) (c : Cell), y ≠ a → s.heap[y]? = some c → u.heap[y]? = some c) ∧ u.heap.size = s.heap.size + 1
theorem Got.mv {a : Addr} {D A : Cell} {fV fC : Field} {o len : Nat} : ∀ r (U U' V V' : State), U'.heap = U.heap → V.vm.Alike V'.vm → V'.heap = V.heap → Got a D fV fC A o len r U V → Got a D fV fC A o len r U' V' :=
  fun r U U' V V' h1 hal h2 ⟨e0, D', X, a1, a2, a3, a4, a5, a6, a7, a8, a9, a10, a11⟩ => ⟨e0, D', X, a1.mv hal h2, a2, by rw [h1]; exact a3, a4, by rw [h1]; exact a5.mv hal h2, a6, by rw [hal.findClass]; exact a7, a8, a9, by rw [h1, h2]; exact a10, by rw [h1, h2]; exact a11⟩
namespace New4
def yN : MethodName := ⟨"java/lang/String", "<init>", "([CIILjava/lang/Void;)V"⟩
abbrev yB : ByteArray := jdk_42_method_149_code
theorem d0 : decode yB 0 = .ok (.aload_n 0, 1) := by decide +kernel
theorem d1 : decode yB 1 = .ok (.invokespecial 1, 3) := by decide +kernel
theorem d4 : decode yB 4 = .ok (.iload_n 3, 1) := by decide +kernel
theorem d5 : decode yB 5 = .ok (.ifCond (.ne) 22, 3) := by decide +kernel
theorem d27 : decode yB 27 = .ok (.getstatic 38, 3) := by decide +kernel
theorem d30 : decode yB 30 = .ok (.ifCond (.eq) 28, 3) := by decide +kernel
theorem d33 : decode yB 33 = .ok (.aload_n 1, 1) := by decide +kernel
theorem d34 : decode yB 34 = .ok (.iload_n 2, 1) := by decide +kernel
theorem d35 : decode yB 35 = .ok (.iload_n 3, 1) := by decide +kernel
theorem d36 : decode yB 36 = .ok (.invokestatic 177, 3) := by decide +kernel
theorem d39 : decode yB 39 = .ok (.astore 5, 2) := by decide +kernel
theorem d41 : decode yB 41 = .ok (.aload_n 0, 1) := by decide +kernel
theorem d42 : decode yB 42 = .ok (.aload 5, 2) := by decide +kernel
theorem d44 : decode yB 44 = .ok (.iload_n 3, 1) := by decide +kernel
theorem d45 : decode yB 45 = .ok (.invokestatic 47, 3) := by decide +kernel
theorem d48 : decode yB 48 = .ok (.putfield 15, 3) := by decide +kernel
theorem d51 : decode yB 51 = .ok (.aload_n 0, 1) := by decide +kernel
theorem d52 : decode yB 52 = .ok (.aload 5, 2) := by decide +kernel
theorem d54 : decode yB 54 = .ok (.putfield 9, 3) := by decide +kernel
theorem d57 : decode yB 57 = .ok (.return_, 1) := by decide +kernel
def site : List Cond := [.fieldLink "java/lang/String" 38 "java/lang/String" "COMPACT_STRINGS" "Z", Cmp3.tab, CodL.tab, .laysFinal "java/lang/String" "java/lang/String" "value" "[B", .fieldLink "java/lang/String" 9 "java/lang/String" "value" "[B", .laysFinal "java/lang/String" "java/lang/String" "coder" "B", .fieldLink "java/lang/String" 15 "java/lang/String" "coder" "B"] ++ objW "java/lang/String" 1 ++ staticW "java/lang/String" 177 Cmp3.yN ++ staticW "java/lang/String" 47 CodL.yN
def tab : Cond := tabOf yN yB 6 none site
def P (a : Addr) (D : Cell) (fV fC : Field) (b : Addr) (A : Cell) (z : Int32) (o len : Nat) (args : Array Value) (s : State) : Prop := args = #[.ref a, .ref b, .int (Int32.ofNat o), .int (Int32.ofNat len), .null] ∧ Blank "java/lang/String" a D s ∧ Found "java/lang/String" "value" "[B" fV s ∧ Found "java/lang/String" "coder" "B" fC s ∧ Ch b A s ∧ StaticIs s "java/lang/String" "COMPACT_STRINGS" "Z" (.int z) ∧ ¬ z = 0 ∧ 0 < len ∧ o + len ≤ A.slots.size ∧ len ≤ 536870912 ∧ ∀ i, i < len → ¬ 255 < cv A (o + i)
def E (a : Addr) (D : Cell) (fV fC : Field) (A : Cell) (o len : Nat) (r : Option Value) (s u : State) : Prop := Got a D fV fC A o len r s u
/-- len > 0, no char of the range above 255: a Latin-1 String of their low bytes -/
theorem law (l : Launch) (a : Addr) (D : Cell) (fV fC : Field) (b : Addr) (A : Cell) (z : Int32) (o len : Nat) : Law l yN 5 4 2 35 yB 6 none site (P a D fV fC b A z o len) (E a D fV fC A o len) [⟨a, fC.slot⟩, ⟨a, fV.slot⟩] 1 len := by
  refine Law.of_walk (plainFor_of_name (by decide +kernel)) (by decide +kernel) (by decide +kernel) (by decide) (fun _ _ h => by rw [h.1]; rfl) (fun _ U U' hal hh h => ⟨h.1, h.2.1.mv hal hh, h.2.2.1.al hal, h.2.2.2.1.al hal, h.2.2.2.2.1.mv hal hh, h.2.2.2.2.2.1.there hal hh, h.2.2.2.2.2.2⟩) (fun r U U' V V' h1 hal h2 h => Got.mv r U U' V V' h1 hal h2 h) ?_
  intro p e s m args below meth c s₁ X0 hexec hbytes hml hret hlk hnm hown hh0 W hP
  obtain ⟨rfl, hB, f1, f2, hA, s1, hz, l0, l1, l2, hp⟩ := hP
  have a31 := hA.1.2.2.2
  have c1 : Steps p.tables e below (s₁.setTop (entryFrame m #[.ref a, .ref b, .int (Int32.ofNat o), .int (Int32.ofNat len), .null] 6)) (s₁.setTop (mkF m 0 #[.val (.ref a), .val (.ref b), .val (.int (Int32.ofNat o)), .val (.int (Int32.ofNat len)), .val .null, .unset] [])) := entry rfl
  have c2 : Steps p.tables e below (s₁.setTop (entryFrame m #[.ref a, .ref b, .int (Int32.ofNat o), .int (Int32.ofNat len), .null] 6)) (s₁.setTop (mkF m 1 #[.val (.ref a), .val (.ref b), .val (.int (Int32.ofNat o)), .val (.int (Int32.ofNat len)), .val .null, .unset] [.ref a])) := c1.trans (by
    refine XS.aloadN X0.here hexec rfl (hb hbytes d0) rfl rfl ?_
    exact Steps.refl _)
  obtain ⟨T3, X3, q3, st3⟩ := X0.oinit hexec hown (wks W (objW "java/lang/String" 1)) (g := (mkF m 1 #[.val (.ref a), .val (.ref b), .val (.int (Int32.ofNat o)), .val (.int (Int32.ofNat len)), .val .null, .unset] [.ref a])) rfl (by rw [hml]; rfl) (rest := []) rfl (hb hbytes d1) (W := 0) (by show 2 * 0 + 0 ≤ _; decide) (Nat.le_of_ble_eq_true rfl) (Nat.le_of_ble_eq_true rfl)
  have hh3 := q3.trans hh0
  have c4 : Steps p.tables e below (s₁.setTop (entryFrame m #[.ref a, .ref b, .int (Int32.ofNat o), .int (Int32.ofNat len), .null] 6)) (T3.setTop (mkF m 27 #[.val (.ref a), .val (.ref b), .val (.int (Int32.ofNat o)), .val (.int (Int32.ofNat len)), .val .null, .unset] [])) := (c2.trans (st3 _ (Steps.refl _))).trans (by
    refine XS.iloadN X3.here hexec rfl (hb hbytes d4) rfl ?_
    refine XS.ifYes X3.here hexec rfl (pc0 := 5) rfl (hb hbytes d5) rfl (i0_ne_t (nz32 (by omega) l0)) (by decide) rfl ?_
    exact Steps.refl _)
  obtain ⟨T5, X5, q5, st5⟩ := X3.sget hexec hown (wk W (.fieldLink "java/lang/String" 38 "java/lang/String" "COMPACT_STRINGS" "Z")) s1 (fun _ _ h => by rw [hh3]; exact h) (g := (mkF m 27 #[.val (.ref a), .val (.ref b), .val (.int (Int32.ofNat o)), .val (.int (Int32.ofNat len)), .val .null, .unset] [])) rfl (hb hbytes d27)
  have hh5 := q5.trans hh3
  have c6 : Steps p.tables e below (s₁.setTop (entryFrame m #[.ref a, .ref b, .int (Int32.ofNat o), .int (Int32.ofNat len), .null] 6)) (T5.setTop (mkF m 30 #[.val (.ref a), .val (.ref b), .val (.int (Int32.ofNat o)), .val (.int (Int32.ofNat len)), .val .null, .unset] [.int z])) := c4.trans (st5 _ (Steps.refl _))
  have c7 : Steps p.tables e below (s₁.setTop (entryFrame m #[.ref a, .ref b, .int (Int32.ofNat o), .int (Int32.ofNat len), .null] 6)) (T5.setTop (mkF m 36 #[.val (.ref a), .val (.ref b), .val (.int (Int32.ofNat o)), .val (.int (Int32.ofNat len)), .val .null, .unset] [.int (Int32.ofNat len), .int (Int32.ofNat o), .ref b])) := c6.trans (by
    refine XS.ifNo X5.here hexec rfl (hb hbytes d30) rfl (i0_eq_f hz) ?_
    refine XS.aloadN X5.here hexec rfl (hb hbytes d33) rfl rfl ?_
    refine XS.iloadN X5.here hexec rfl (hb hbytes d34) rfl ?_
    refine XS.iloadN X5.here hexec rfl (hb hbytes d35) rfl ?_
    exact Steps.refl _)
  obtain ⟨v8, T8, X8, E8, g8⟩ := X5.callS hexec (Cmp3.law l b A o len) hown (wks W (staticW "java/lang/String" 177 Cmp3.yN)) (wk W Cmp3.tab) (W := 0) (Nat.le_of_ble_eq_true rfl) (Nat.le_of_ble_eq_true rfl) (Nat.le_refl _) (by show 0 + len ≤ len; omega) (g := (mkF m 36 #[.val (.ref a), .val (.ref b), .val (.int (Int32.ofNat o)), .val (.int (Int32.ofNat len)), .val .null, .unset] [.int (Int32.ofNat len), .int (Int32.ofNat o), .ref b])) rfl (by rw [hml]; rfl) c7 (argsL := [.ref b, .int (Int32.ofNat o), .int (Int32.ofNat len)]) (rest := []) rfl rfl (by show 2 * 0 + 0 ≤ _; decide) (hb hbytes d36) (⟨rfl, hA.mv X5.warmed.alike hh5, l1, l2, hp⟩)
  obtain ⟨e8, z8⟩ := E8
  obtain ⟨rfl, N, n1, n2, n3, n4, n5, n6⟩ := NewArr.mv _ T5 s _ _ hh5.symm (Vm.Alike.refl _) rfl e8
  rw [hh5] at z8
  have hB1 := hB.keep X8.warmed.alike (n6 _ _ hB.1)
  have hne : s.heap.size ≠ a := (Nat.ne_of_lt (Array.getElem?_eq_some_iff.mp hB.1).1).symm
  have c9 : Steps p.tables e below (s₁.setTop (entryFrame m #[.ref a, .ref b, .int (Int32.ofNat o), .int (Int32.ofNat len), .null] 6)) (T8.setTop (mkF m 39 #[.val (.ref a), .val (.ref b), .val (.int (Int32.ofNat o)), .val (.int (Int32.ofNat len)), .val .null, .unset] [.ref s.heap.size])) := g8
  have c10 : Steps p.tables e below (s₁.setTop (entryFrame m #[.ref a, .ref b, .int (Int32.ofNat o), .int (Int32.ofNat len), .null] 6)) (T8.setTop (mkF m 45 #[.val (.ref a), .val (.ref b), .val (.int (Int32.ofNat o)), .val (.int (Int32.ofNat len)), .val .null, .val (.ref s.heap.size)] [.int (Int32.ofNat N.slots.size), .ref s.heap.size, .ref a])) := by
    have hc : Steps p.tables e below (s₁.setTop (entryFrame m #[.ref a, .ref b, .int (Int32.ofNat o), .int (Int32.ofNat len), .null] 6)) (T8.setTop (mkF m 45 #[.val (.ref a), .val (.ref b), .val (.int (Int32.ofNat o)), .val (.int (Int32.ofNat len)), .val .null, .val (.ref s.heap.size)] [.int (Int32.ofNat len), .ref s.heap.size, .ref a])) := c9.trans (by
      refine XS.astore X8.here hexec rfl (hb hbytes d39) rfl rfl rfl ?_
      refine XS.aloadN X8.here hexec rfl (hb hbytes d41) rfl rfl ?_
      refine XS.aload X8.here hexec rfl (hb hbytes d42) rfl rfl ?_
      refine XS.iloadN X8.here hexec rfl (hb hbytes d44) rfl ?_
      exact Steps.refl _)
    rw [n4]; exact hc
  obtain ⟨v11, T11, X11, E11, g11⟩ := X8.callS hexec (CodL.law l s.heap.size N) hown (wks W (staticW "java/lang/String" 47 CodL.yN)) (wk W CodL.tab) (W := 1) (Nat.le_of_ble_eq_true rfl) (Nat.le_of_ble_eq_true rfl) (Nat.le_refl _) (by show 0 + len + 0 ≤ len; omega) (g := (mkF m 45 #[.val (.ref a), .val (.ref b), .val (.int (Int32.ofNat o)), .val (.int (Int32.ofNat len)), .val .null, .val (.ref s.heap.size)] [.int (Int32.ofNat N.slots.size), .ref s.heap.size, .ref a])) rfl (by rw [hml]; rfl) c10 (argsL := [.ref s.heap.size, .int (Int32.ofNat N.slots.size)]) (rest := [.ref a]) rfl rfl (by show 2 * 0 + (1 + 0) ≤ _; decide) (hb hbytes d45) (⟨rfl, n1⟩)
  obtain ⟨rfl, q11⟩ := E11
  have hB11 := hB1.mv (X8.warmed.alike.symm.trans X11.warmed.alike) q11
  have c12 : Steps p.tables e below (s₁.setTop (entryFrame m #[.ref a, .ref b, .int (Int32.ofNat o), .int (Int32.ofNat len), .null] 6)) (T11.setTop (mkF m 48 #[.val (.ref a), .val (.ref b), .val (.int (Int32.ofNat o)), .val (.int (Int32.ofNat len)), .val .null, .val (.ref s.heap.size)] [.int 0, .ref a])) := g11
  obtain ⟨T13, X13, p13, bl13, sl13, st13⟩ := X11.finit hexec hown (wk W (.fieldLink "java/lang/String" 15 "java/lang/String" "coder" "B")) (Or.inr ⟨_, (wk W (.laysFinal "java/lang/String" "java/lang/String" "coder" "B"))⟩) (Or.inl ⟨rfl, hnm⟩) f2 (Or.inl rfl) hB11 (t := .byte) (by decide +kernel) rfl (g := (mkF m 48 #[.val (.ref a), .val (.ref b), .val (.int (Int32.ofNat o)), .val (.int (Int32.ofNat len)), .val .null, .val (.ref s.heap.size)] [.int 0, .ref a])) rfl (rest := []) rfl (hb hbytes d48)
  have c14 : Steps p.tables e below (s₁.setTop (entryFrame m #[.ref a, .ref b, .int (Int32.ofNat o), .int (Int32.ofNat len), .null] 6)) (T13.setTop (mkF m 54 #[.val (.ref a), .val (.ref b), .val (.int (Int32.ofNat o)), .val (.int (Int32.ofNat len)), .val .null, .val (.ref s.heap.size)] [.ref s.heap.size, .ref a])) := (c12.trans (st13 _ (Steps.refl _))).trans (by
    refine XS.aloadN X13.here hexec rfl (hb hbytes d51) rfl rfl ?_
    refine XS.aload X13.here hexec rfl (hb hbytes d52) rfl rfl ?_
    exact Steps.refl _)
  obtain ⟨T15, X15, p15, bl15, sl15, st15⟩ := X13.finit hexec hown (wk W (.fieldLink "java/lang/String" 9 "java/lang/String" "value" "[B")) (Or.inr ⟨_, (wk W (.laysFinal "java/lang/String" "java/lang/String" "value" "[B"))⟩) (Or.inl ⟨rfl, hnm⟩) f1 (Or.inl rfl) bl13 (t := (.array .byte)) (by decide +kernel) rfl (g := (mkF m 54 #[.val (.ref a), .val (.ref b), .val (.int (Int32.ofNat o)), .val (.int (Int32.ofNat len)), .val .null, .val (.ref s.heap.size)] [.ref s.heap.size, .ref a])) rfl (rest := []) rfl (hb hbytes d54)
  have c16 : Steps p.tables e below (s₁.setTop (entryFrame m #[.ref a, .ref b, .int (Int32.ofNat o), .int (Int32.ofNat len), .null] 6)) (T15.setTop (mkF m 57 #[.val (.ref a), .val (.ref b), .val (.int (Int32.ofNat o)), .val (.int (Int32.ofNat len)), .val .null, .val (.ref s.heap.size)] [])) := c14.trans (st15 _ (Steps.refl _))
  have ap := apart (Or.inr ⟨_, (wk W (.laysFinal "java/lang/String" "java/lang/String" "value" "[B"))⟩) (Or.inr ⟨_, (wk W (.laysFinal "java/lang/String" "java/lang/String" "coder" "B"))⟩) f1 f2 (t₁ := .array .byte) (t₂ := .byte) (by decide +kernel) (by decide +kernel) (by decide)
  have al := X8.warmed.alike.symm.trans X15.warmed.alike
  have n7 : T11.heap[s.heap.size]? = some N := by rw [q11]; exact n1.1
  exact ⟨T15, none, _, _, _, X15, by simp, rfl, by omega, (fun _ => rfl), ⟨rfl, _, N, bl15, ((Same.refl D _).set _ (by simp)).set _ (by simp), sl15, (Cell.slots_setSlot_ne _ ap).trans sl13, n1.keep al (p15.other hne (p13.other hne n7)), n2, by rw [al.findClass]; exact n3, n4, n5, fun y c h1 h2 => p15.other h1 (p13.other h1 (by rw [q11]; exact n6 y c h2)), by rw [p15.2.2, p13.2.2, q11]; exact z8⟩, fun fs hl => c16.trans (X15.returnOut hexec hret (hb hbytes d57) hl)⟩
end New4
namespace New1
def yN : MethodName := ⟨"java/lang/String", "<init>", "([C)V"⟩
abbrev yB : ByteArray := jdk_42_method_3_code
theorem d0 : decode yB 0 = .ok (.aload_n 0, 1) := by decide +kernel
theorem d1 : decode yB 1 = .ok (.aload_n 1, 1) := by decide +kernel
theorem d2 : decode yB 2 = .ok (.iconst 0, 1) := by decide +kernel
theorem d3 : decode yB 3 = .ok (.aload_n 1, 1) := by decide +kernel
theorem d4 : decode yB 4 = .ok (.arraylength, 1) := by decide +kernel
theorem d5 : decode yB 5 = .ok (.aconst_null, 1) := by decide +kernel
theorem d6 : decode yB 6 = .ok (.invokespecial 27, 3) := by decide +kernel
theorem d9 : decode yB 9 = .ok (.return_, 1) := by decide +kernel
def site : List Cond := [New4.tab] ++ initW "java/lang/String" 27 New4.yN
def tab : Cond := tabOf yN yB 2 none site
def P (a : Addr) (D : Cell) (fV fC : Field) (b : Addr) (A : Cell) (z : Int32) (args : Array Value) (s : State) : Prop := args = #[.ref a, .ref b] ∧ Blank "java/lang/String" a D s ∧ Found "java/lang/String" "value" "[B" fV s ∧ Found "java/lang/String" "coder" "B" fC s ∧ Ch b A s ∧ StaticIs s "java/lang/String" "COMPACT_STRINGS" "Z" (.int z) ∧ ¬ z = 0 ∧ 0 < A.slots.size ∧ A.slots.size ≤ 536870912 ∧ ∀ i, i < A.slots.size → ¬ 255 < cv A i
def E (a : Addr) (D : Cell) (fV fC : Field) (A : Cell) (r : Option Value) (s u : State) : Prop := Got a D fV fC A 0 A.slots.size r s u
/-- new String(chars), not empty, no char above 255: a Latin-1 String of their low bytes -/
theorem law (l : Launch) (a : Addr) (D : Cell) (fV fC : Field) (b : Addr) (A : Cell) (z : Int32) : Law l yN 2 1 3 52 yB 2 none site (P a D fV fC b A z) (E a D fV fC A) [⟨a, fC.slot⟩, ⟨a, fV.slot⟩] 1 A.slots.size := by
  refine Law.of_walk (plainFor_of_name (by decide +kernel)) (by decide +kernel) (by decide +kernel) (by decide) (fun _ _ h => by rw [h.1]; rfl) (fun _ U U' hal hh h => ⟨h.1, h.2.1.mv hal hh, h.2.2.1.al hal, h.2.2.2.1.al hal, h.2.2.2.2.1.mv hal hh, h.2.2.2.2.2.1.there hal hh, h.2.2.2.2.2.2⟩) (fun r U U' V V' h1 hal h2 h => Got.mv r U U' V V' h1 hal h2 h) ?_
  intro p e s m args below meth c s₁ X0 hexec hbytes hml hret hlk hnm hown hh0 W hP
  obtain ⟨rfl, hB, f1, f2, hA, s1, hz, l0, l2, hp⟩ := hP
  have c1 : Steps p.tables e below (s₁.setTop (entryFrame m #[.ref a, .ref b] 2)) (s₁.setTop (mkF m 0 #[.val (.ref a), .val (.ref b)] [])) := entry rfl
  have c2 : Steps p.tables e below (s₁.setTop (entryFrame m #[.ref a, .ref b] 2)) (s₁.setTop (mkF m 6 #[.val (.ref a), .val (.ref b)] [.null, .int (Int32.ofNat A.slots.size), .int 0, .ref b, .ref a])) := c1.trans (by
    refine XS.aloadN X0.here hexec rfl (hb hbytes d0) rfl rfl ?_
    refine XS.aloadN X0.here hexec rfl (hb hbytes d1) rfl rfl ?_
    refine iconstV X0.here hexec rfl 0 (hb hbytes d2) (by decide) ?_
    refine XS.aloadN X0.here hexec rfl (hb hbytes d3) rfl rfl ?_
    refine X0.alen hexec (hA.1.mv X0.warmed.alike hh0) rfl rfl (hb hbytes d4) ?_
    refine XS.aconstNull X0.here hexec rfl (hb hbytes d5) ?_
    exact Steps.refl _)
  obtain ⟨v3, T3, X3, E3, g3⟩ := X0.callN hexec (New4.law l a D fV fC b A z 0 A.slots.size) rfl hown (wks W (initW "java/lang/String" 27 New4.yN)) (W New4.tab (by simp only [site, List.mem_cons, List.mem_append, true_or, or_true])) (W := 0) (Nat.le_of_ble_eq_true rfl) (Nat.le_of_ble_eq_true rfl) (Nat.le_refl _) (by show 0 + A.slots.size ≤ A.slots.size; omega) (g := (mkF m 6 #[.val (.ref a), .val (.ref b)] [.null, .int (Int32.ofNat A.slots.size), .int (Int32.ofNat 0), .ref b, .ref a])) rfl (by rw [hml]; rfl) c2 (argsL := [.ref b, .int (Int32.ofNat 0), .int (Int32.ofNat A.slots.size), .null]) (rest := []) rfl rfl (by show 2 * 0 + 0 ≤ _; decide) (hb hbytes d6) (⟨rfl, hB.mv X0.warmed.alike hh0, f1.al X0.warmed.alike, f2.al X0.warmed.alike, hA.mv X0.warmed.alike hh0, s1.there X0.warmed.alike hh0, hz, l0, by omega, l2, fun i hi => by rw [Nat.zero_add]; exact hp i hi⟩)
  have e0 := Got.mv _ s₁ s _ _ hh0.symm (Vm.Alike.refl _) rfl E3
  obtain rfl := e0.1
  have c4 : Steps p.tables e below (s₁.setTop (entryFrame m #[.ref a, .ref b] 2)) (T3.setTop (mkF m 9 #[.val (.ref a), .val (.ref b)] [])) := g3
  exact ⟨T3, none, _, _, _, X3, by simp, rfl, by omega, (fun _ => rfl), e0, fun fs hl => c4.trans (X3.returnOut hexec hret (hb hbytes d9) hl)⟩
theorem pays {l : Launch} {R : Room} {p : Program} {e : Env} {below : List Frame} {s : State} {sargs : Array Value} {len W : Nat} (a : Addr) (D : Cell) (fV fC : Field) (b : Addr) (A : Cell) (z : Int32) (htab : tab.before sargs s = true) (hfr : 4 ≤ R.frames) (hlo : W + 65 ≤ R.locals) :
    Back l R p e below s sargs yN len W (fun A₁ a₁ => A₁.cells + 1 ≤ R.cells ∧ A₁.slots + A.slots.size ≤ R.slots ∧ P a D fV fC b A z a₁ A₁.U) (fun A₁ _ v₁ B₁ => E a D fV fC A v₁ A₁.U B₁.U ∧ B₁.locs = A₁.locs ++ [⟨a, fC.slot⟩, ⟨a, fV.slot⟩] ∧ B₁.cells = A₁.cells + 1 ∧ B₁.slots = A₁.slots + A.slots.size) :=
  (law l a D fV fC b A z).pays htab hfr (by omega)
end New1
/-- the byte, read back as charAt reads it, is the char -/
theorem lo8_mask {x : Int32} (h0 : ¬ x < 0) (h1 : ¬ 255 < x) : lo8 x &&& 255 = x := by
  have t : ∀ k : Fin 256, lo8 (Int32.ofNat k.val) &&& 255 = Int32.ofNat k.val := by decide +kernel
  rw [Int32.lt_iff_toInt_lt] at h0 h1
  have e0 : (0 : Int32).toInt = 0 := rfl
  have e1 : (255 : Int32).toInt = 255 := rfl
  obtain ⟨k, hk⟩ : ∃ k : Nat, x.toInt = k := ⟨x.toInt.toNat, by omega⟩
  have hx : x = Int32.ofNat k := Int32.toInt_inj.mp (by rw [hk, Int32.toInt_ofNat_small (by omega)])
  rw [hx]
  exact t ⟨k, by omega⟩
end StrChars
namespace StrChars.Road
open Jvm Sem ClassFile Op Lib Jvm.Stand Jvm.Free Jvm.Free.XT
open Jvm.Lib.Cold (StaticIs)
abbrev ST : String := "java/lang/String"
/-- every table word that New1's law asks, flat -/
abbrev words : List Jvm.Cond := [.code New1.yN New1.yB 2 none, .initialized ST, .methodLink ST 27 New4.yN, .instanceMethod New4.yN,
  .code New4.yN New4.yB 6 none, .fieldLink ST 38 ST "COMPACT_STRINGS" "Z", .laysFinal ST ST "value" "[B", .fieldLink ST 9 ST "value" "[B", .laysFinal ST ST "coder" "B", .fieldLink ST 15 ST "coder" "B",
  .methodLink ST 1 Lib.objectInit, .instanceMethod Lib.objectInit, .code Lib.objectInit ⟨#[0xb1]⟩ 1 none, .methodLink ST 177 Cmp3.yN, .static Cmp3.yN, .methodLink ST 47 CodL.yN, .static CodL.yN,
  .code Cmp3.yN Cmp3.yB 6 (some (.array .byte)), .initialized U16, .arrayClass .byte, .methodLink U16 115 Cmp5.yN, .static Cmp5.yN, .code Cmp5.yN Cmp5.yB 7 (some .int), .code CodL.yN CodL.yB 2 (some .byte)]
theorem tab_of {a : Array Value} {s : State} (h : ∀ w ∈ words, w.before a s = true) : New1.tab.before a s = true := by
  have h5 : Cmp5.tab.before a s = true := unparts (wk h (.code Cmp5.yN Cmp5.yB 7 (some .int))) (wks h (.initialized Cmp5.yN.cls :: Cmp5.site))
  have hc : CodL.tab.before a s = true := unparts (wk h (.code CodL.yN CodL.yB 2 (some .byte))) (wks h (.initialized CodL.yN.cls :: CodL.site))
  have q5 : ∀ w ∈ Cmp5.tab :: words, w.before a s = true := fun w hw => (List.mem_cons.mp hw).elim (fun e => e ▸ h5) (h w)
  have h3 : Cmp3.tab.before a s = true := unparts (wk q5 (.code Cmp3.yN Cmp3.yB 6 (some (.array .byte)))) (wks q5 (.initialized Cmp3.yN.cls :: Cmp3.site))
  have q3 : ∀ w ∈ Cmp3.tab :: CodL.tab :: words, w.before a s = true := fun w hw => (List.mem_cons.mp hw).elim (fun e => e ▸ h3) fun hw => (List.mem_cons.mp hw).elim (fun e => e ▸ hc) (h w)
  have h4 : New4.tab.before a s = true := unparts (wk q3 (.code New4.yN New4.yB 6 none)) (wks q3 (.initialized New4.yN.cls :: New4.site))
  have q4 : ∀ w ∈ New4.tab :: words, w.before a s = true := fun w hw => (List.mem_cons.mp hw).elim (fun e => e ▸ h4) (h w)
  exact unparts (wk q4 (.code New1.yN New1.yB 2 none)) (wks q4 (.initialized New1.yN.cls :: New1.site))
/-- the words ride from the start Z to the walk's own state -/
theorem moved {Z s : State} {a0 args : Array Value} (hZ : Z.Warmed39 s.vm) (hw : ∀ d ∈ words, d.before a0 Z = true) : ∀ d ∈ words, d.before args s = true := fun d hd => by
  have q := hw d hd
  have t : ∀ d ∈ words, d = .arrayClass .byte ∨ (d.onTables && d.keepsFace) = true := by decide +kernel
  rcases t d hd with rfl | t
  · exact RoadKit.mvA hZ q
  · exact RoadKit.mv hZ q t
/-- WHAT COMES BACK, over the tables of the start Z: h the heap at the call, h' behind it -/
def Q (Z : State) (x : Addr) (A : Cell) (h : Heap) (v : Option Value) (h' : Heap) (L : List Loc) : Prop := v = none ∧ (∀ y ∈ L, y.base = x) ∧ RoadKit.Keep h h' [x] ∧ h'.size = h.size + 1 ∧ RoadKit.Exa Z h' x ST ∧ RoadKit.Fld Z h' x ST "value" "[B" (.ref h.size) ∧ RoadKit.Fld Z h' x ST "coder" "B" (.int 0) ∧
  (∃ V : Cell, RoadKit.Arr Z h' h.size V .byte ∧ V.vm = .none ∧ Z.vm.findClass "[B" = some V.cls ∧ V.slots.size = A.slots.size ∧ ∀ j, j < A.slots.size → V.slots[j]? = some (.int (lo8 (cv A j)))) ∧
  ∀ (O n d : String) (w : Value), RoadKit.Fld Z h x O n d w → RoadKit.slotOf Z O n d ≠ RoadKit.slotOf Z ST "value" "[B" → RoadKit.slotOf Z O n d ≠ RoadKit.slotOf Z ST "coder" "B" → RoadKit.Fld Z h' x O n d w
/-- **new String(chars) AT A CALL, IN THE ROAD'S FORM**: for specialBack behind newO: x the fresh String, b the char[] with the cell A -/
theorem back {p : Program} {l : Launch} {e : Env} {R : Room} {s : State} {args : Array Value} {below : List Frame} {len W : Nat} {Z : State} {a0 : Array Value} {h : Heap} (hZ : Z.Warmed39 s.vm) (hw : ∀ d ∈ words, d.before a0 Z = true) {kI : Nat} (wi : (Jvm.Cond.instantiable ST kI).before a0 Z = true)
    {x b : Addr} {A : Cell} {z : Int32} {v0 c0 : Value} (E : RoadKit.Exa Z h x ST) (V : RoadKit.Fld Z h x ST "value" "[B" v0) (C : RoadKit.Fld Z h x ST "coder" "B" c0) (K : RoadKit.Arr Z h b A .char) (hty : Typed .char A) (S : RoadKit.Sta Z h ST "COMPACT_STRINGS" "Z" (.int z)) (hz : ¬ z = 0)
    (l0 : 0 < A.slots.size) (l2 : A.slots.size ≤ 536870912) (hp : ∀ i, i < A.slots.size → ¬ 255 < cv A i) (hfr : 4 ≤ R.frames) (hlo : W + 65 ≤ R.locals) :
    Back l R p e below s args New1.yN len W (fun P a => a = #[.ref x, .ref b] ∧ P.U.heap = h ∧ P.cells + 1 ≤ R.cells ∧ P.slots + A.slots.size ≤ R.slots)
      (fun P _ v B => ∃ L, Q Z x A h v B.U.heap L ∧ B.locs = P.locs ++ L ∧ B.cells = P.cells + 1 ∧ B.slots = P.slots + A.slots.size) := by
  intro m meth c P g ig mk a X hg hsize hdg hW hn hp'
  obtain ⟨rfl, rfl, r1, r2⟩ := hp'
  have al : Z.vm.Alike P.U.vm := hZ.alike.trans X.warmed.alike
  obtain ⟨D, cfV, kV, iV, fV, hD, gV, stV, knV, obV, asV, slV⟩ := id V
  obtain ⟨D', cfC, kC, iC, fC, hD', gC, stC, -, -, asC, slC⟩ := id C
  cases hD.symm.trans hD'
  obtain ⟨D2, kD, e1, e2, e3, e4, e5⟩ := id E
  cases hD.symm.trans e1
  obtain ⟨c2, k2, i1, i2, i3, -⟩ := Cond.instantiable_spec wi
  cases e2.symm.trans i1
  cases e3.symm.trans i2
  obtain ⟨kU, u1, u2⟩ := al.2.2 _ _ e3
  have hB : Blank ST x D P.U := ⟨hD, ⟨knV, fun q hq => by rw [hq] at obV; cases obV⟩, by rw [al.findClass]; exact e2, kU, u1, by rw [u2]; exact i3, by rw [u2]; exact e5 i3⟩
  have F1 : Found ST "value" "[B" fV P.U := ⟨SBG.found_only al ⟨cfV, kV, iV, gV⟩, stV⟩
  have F2 : Found ST "coder" "B" fC P.U := ⟨SBG.found_only al ⟨cfC, kC, iC, gC⟩, stC⟩
  have hA : Ch b A P.U := ⟨⟨K.1, State.isArrayOf_alike al K.2.1, K.2.2, by omega⟩, hty⟩
  have hS : StaticIs P.U ST "COMPACT_STRINGS" "Z" (.int z) := by
    obtain ⟨cfS, iS, kS, fS, st, cS, t1, t2, t3, t4, t5, t6, t7⟩ := S
    exact StaticIs.there (s := { Z with heap := P.U.heap }) ⟨cfS, iS, kS, fS, st, cS, t1, t2, t3, t4, t5, (fun q => by rw [q] at t6; cases t6), t7⟩ al rfl
  obtain ⟨v, B, X', ⟨⟨hv, E', V', q1, q2, q3, q4, q5, q6, q7, q8, q9, q10, q11⟩, hl, hc, hs⟩, st⟩ := New1.pays x D fV fC b A z (tab_of (moved hZ hw)) hfr hlo m meth c P g ig mk _ X hg hsize hdg hW hn ⟨r1, r2, rfl, hB, F1, F2, hA, hS, hz, l0, l2, hp⟩
  have al' : Z.vm.Alike B.U.vm := hZ.alike.trans X'.warmed.alike
  have hsz : E'.slots.size = D.slots.size := by
    obtain ⟨-, -, -, kB, w1, w2, w3⟩ := q1
    obtain ⟨kB', y1, y2⟩ := al'.2.2 _ _ e3
    rw [q2.2.1] at w1
    cases w1.symm.trans y1
    rw [w3, e5 i3, y2]
  refine ⟨v, B, X', ⟨_, ⟨hv, ?_, ⟨by omega, fun y cy hy hn' => q10 y cy (by simpa using hn') hy, fun y cy hy => ?_⟩, q11, ⟨E', _, q1.1, by rw [q2.2.1]; exact e2, by rw [q2.2.1]; exact e3, by rw [q2.1]; exact obV, fun _ => by rw [hsz]; exact e5 i3⟩,
    ⟨E', cfV, kV, iV, fV, q1.1, gV, stV, by rw [q2.1]; exact knV, by rw [q2.1]; exact obV, by rw [q2.2.1]; exact asV, q3⟩, ⟨E', cfC, kC, iC, fC, q1.1, gC, stC, by rw [q2.1]; exact knV, by rw [q2.1]; exact obV, by rw [q2.2.1]; exact asC, q4⟩,
    ⟨V', ⟨q5.1, State.isArrayOf_alike al'.symm q5.2.1, q5.2.2.1⟩, q6, by rw [← al'.findClass]; exact q7, q8, fun j hj => by have := q9 j hj; rwa [Nat.zero_add] at this⟩, fun O n d w F n1 n2 => ?_⟩, hl, hc, hs⟩, st⟩
  · intro y hy
    simp only [List.mem_cons, List.not_mem_nil, or_false] at hy
    rcases hy with rfl | rfl <;> rfl
  · by_cases q : y = x
    · subst q
      cases hD.symm.trans hy
      exact ⟨E', q1.1, q2.2.1, q2.1, hsz⟩
    · exact ⟨cy, q10 y cy q hy, rfl, rfl, rfl⟩
  · obtain ⟨D3, cf, k, i, f, g1, g2, g3, g4, g5, g6, g7⟩ := F
    cases hD.symm.trans g1
    simp only [RoadKit.slotOf, g2, gV, gC, Option.map_some, Option.getD_some] at n1 n2
    exact ⟨E', cf, k, i, f, q1.1, g2, g3, by rw [q2.1]; exact g4, by rw [q2.1]; exact g5, by rw [q2.2.1]; exact g6, by rw [q2.2.2 f.slot (by simp [n1, n2])]; exact g7⟩
end StrChars.Road
namespace StrChars.Road
open Jvm Sem ClassFile Op Lib Jvm.Stand Jvm.Free Jvm.Free.XT
/-- WHAT COMES BACK, the byte[] as a list of values -/
def QA (Z : State) (x : Addr) (zn : Int32) (cs : List Int32) (h : Heap) (v : Option Value) (h' : Heap) (L : List Loc) : Prop := v = none ∧ (∀ y ∈ L, y.base = x) ∧ RoadKit.Keep h h' [x] ∧ h'.size = h.size + 1 ∧ RoadKit.Exa Z h' x ST ∧ RoadKit.Fld Z h' x ST "value" "[B" (.ref h.size) ∧ RoadKit.Fld Z h' x ST "coder" "B" (.int 0) ∧
  (∃ kb, Z.vm.findClass "[B" = some kb ∧ RoadKit.Arv Z h' h.size kb .byte zn (cs.map fun c => .int (lo8 c)) (.int 0)) ∧
  ∀ (O n d : String) (w : Value), RoadKit.Fld Z h x O n d w → RoadKit.slotOf Z O n d ≠ RoadKit.slotOf Z ST "value" "[B" → RoadKit.slotOf Z O n d ≠ RoadKit.slotOf Z ST "coder" "B" → RoadKit.Fld Z h' x O n d w
/-- **new String(chars) AT A CALL, THE ARRAYS AS LISTS**: the char[] at b holds cs, not empty, no char above 255 -/
theorem backArv {p : Program} {l : Launch} {e : Env} {R : Room} {s : State} {args : Array Value} {below : List Frame} {len W : Nat} {Z : State} {a0 : Array Value} {h : Heap} (hZ : Z.Warmed39 s.vm) (hw : ∀ d ∈ words, d.before a0 Z = true) {kI : Nat} (wi : (Jvm.Cond.instantiable ST kI).before a0 Z = true)
    {x b : Addr} {k : ClassId} {zn z : Int32} {cs : List Int32} {dv v0 c0 : Value} (E : RoadKit.Exa Z h x ST) (V : RoadKit.Fld Z h x ST "value" "[B" v0) (C : RoadKit.Fld Z h x ST "coder" "B" c0) (K : RoadKit.Arv Z h b k .char zn (cs.map Value.int) dv) (S : RoadKit.Sta Z h ST "COMPACT_STRINGS" "Z" (.int z)) (hz : ¬ z = 0)
    (hlen : zn.toNatClampNeg = cs.length) (h0 : 0 < cs.length) (hbig : cs.length ≤ 536870912) (hall : ∀ c ∈ cs, ¬ 255 < c) (hfr : 4 ≤ R.frames) (hlo : W + 65 ≤ R.locals) :
    Back l R p e below s args New1.yN len W (fun P a => a = #[.ref x, .ref b] ∧ P.U.heap = h ∧ P.cells + 1 ≤ R.cells ∧ P.slots + cs.length ≤ R.slots)
      (fun P _ v B => ∃ L, QA Z x zn cs h v B.U.heap L ∧ B.locs = P.locs ++ L ∧ B.cells = P.cells + 1 ∧ B.slots = P.slots + cs.length) := by
  obtain ⟨A, K1, K2, K3, K4, K5, K6⟩ := K
  have e : A.slots.size = cs.length := K3.trans hlen
  have hat : ∀ (i : Nat) (hi : i < cs.length), A.slots[i]? = some (.int cs[i]) := fun i hi => by rw [K5 i (by omega)]; simp [List.getD_eq_getElem?_getD, hi]
  have hcv : ∀ (i : Nat) (hi : i < cs.length), cv A i = cs[i] := fun i hi => by unfold cv; rw [hat i hi]
  have hty : Typed .char A := fun i v hv => by
    have hi : i < A.slots.size := (Array.getElem?_eq_some_iff.mp hv).1
    have q := K5 i hi
    rw [hv] at q
    rw [Option.some.inj q]
    exact K6 i hi
  refine Back.mono (back hZ hw wi E V C K1 hty S hz (by omega) (by omega) (fun i hi => by rw [hcv i (by omega)]; exact hall _ (List.getElem_mem _)) hfr hlo) (fun P a hp => ⟨hp.1, hp.2.1, hp.2.2.1, by rw [e]; exact hp.2.2.2⟩) (fun P a v B hp hq => ?_)
  obtain ⟨L, ⟨q1, q2, q3, q4, q5, q6, q7, ⟨V', v1, v2, v3, v4, v5⟩, q9⟩, hl, hc, hs⟩ := hq
  refine ⟨L, ⟨q1, q2, q3, q4, q5, q6, q7, ⟨V'.cls, v3, V', v1, rfl, by rw [v4, e, hlen], K4, fun i hi => ?_, fun i hi => ?_⟩, q9⟩, hl, hc, by rw [hs, e]⟩
  · have hi' : i < cs.length := by omega
    rw [v5 i (by omega), hcv i hi']; simp [List.getD_eq_getElem?_getD, hi']
  · have hi' : i < cs.length := by omega
    simp only [List.getD_eq_getElem?_getD, List.getElem?_map, List.getElem?_eq_getElem hi', Option.map_some, Option.getD_some]
    exact fits_lo8 _
end StrChars.Road
namespace StrChars.Road
open Jvm Sem ClassFile Op Lib Jvm.Stand Jvm.Free Jvm.Free.XT
/-- WHAT COMES BACK, in the writer's own shape -/
def QV (Z : State) (x : Addr) (N : Int32) (bs : List Int32) (h : Heap) (n0 : Nat) (v : Option Value) (h' : Heap) (L : List Loc) : Prop := v = none ∧ RoadKit.Fr n0 L ∧ RoadKit.Keep h h' [x] ∧ RoadKit.Exa Z h' x ST ∧ RoadKit.Fld Z h' x ST "coder" "B" (.int 0) ∧
  ∃ (t : Addr) (kb : ClassId), n0 ≤ t ∧ h.size ≤ t ∧ ¬ t = x ∧ RoadKit.Fld Z h' x ST "value" "[B" (.ref t) ∧ RoadKit.Arv Z h' t kb .byte N (bs.map Value.int) (.int 0)
/-- **new String(chars) AT A CALL, FOR THE WRITER**: a char[] of n known ints, each 0 to 255 -/
theorem backV {p : Program} {l : Launch} {e : Env} {R : Room} {s : State} {args : Array Value} {below : List Frame} {len W : Nat} {Z : State} {a0 : Array Value} {h : Heap} (hZ : Z.Warmed39 s.vm) (hw : ∀ d ∈ words, d.before a0 Z = true) {kI : Nat} (wi : (Jvm.Cond.instantiable ST kI).before a0 Z = true)
    {x b : Addr} {kC : ClassId} {cs bs : List Int32} {d v0 c0 : Value} {z N : Int32} {n n0 : Nat} (hx0 : n0 ≤ x) (hh0 : n0 ≤ h.size) (E : RoadKit.Exa Z h x ST) (V : RoadKit.Fld Z h x ST "value" "[B" v0) (C : RoadKit.Fld Z h x ST "coder" "B" c0) (K : RoadKit.Arv Z h b kC .char N (cs.map Value.int) d) (S : RoadKit.Sta Z h ST "COMPACT_STRINGS" "Z" (.int z)) (hz : ¬ z = 0)
    (hn : cs.length = n) (hN : N = Int32.ofNat n) (l0 : 0 < n) (l2 : n ≤ 4000) (hp : ∀ c ∈ cs, ¬ c < 0 ∧ ¬ (255 : Int32) < c) (hb : bs = cs.map (fun c => c.toInt8.toInt32)) (hfr : 4 ≤ R.frames) (hlo : W + 65 ≤ R.locals) :
    Back l R p e below s args (⟨"java/lang/String", "<init>", "([C)V"⟩ : MethodName) len W (fun P a => a = #[.ref x, .ref b] ∧ P.U.heap = h ∧ P.cells + 1 ≤ R.cells ∧ P.slots + n ≤ R.slots)
      (fun P _ v B => ∃ L, QV Z x N bs h n0 v B.U.heap L ∧ B.locs = P.locs ++ L ∧ B.cells = P.cells + 1 ∧ B.slots = P.slots + n) := by
  subst hn hN hb
  refine Back.mono (backArv hZ hw wi E V C K S hz (n32 (by omega)) l0 (by omega) (fun c hc => (hp c hc).2) hfr hlo) (fun P a hp => hp) (fun P a v B hp hq => ?_)
  obtain ⟨L, ⟨q1, q2, q3, q4, q5, q6, q7, ⟨kb, v1, v2⟩, q9⟩, hl, hc, hs⟩ := hq
  exact ⟨L, ⟨q1, fun y hy => by rw [q2 y hy]; exact hx0, q3, q5, q7, h.size, kb, hh0, Nat.le_refl _, Nat.ne_of_gt E.lt, q6, by rw [List.map_map]; exact v2⟩, hl, hc, hs⟩
end StrChars.Road
namespace StrChars
open Jvm Sem ClassFile Op Lib Jvm.Stand Jvm.Free.XT Jvm.Free.ALB Jvm.Free.JM Jvm.Free
open Jvm.Lib.Cold (StaticIs)
def hi8 (x : Int32) : Int32 := lo8 (x >>> ((8 : Int32) &&& 31))
/-- what StringUTF16.getChar makes of two bytes -/
def pairCh (u v : Int32) : Int32 := (((u &&& 255) <<< ((0 : Int32) &&& 31)) ||| ((v &&& 255) <<< ((8 : Int32) &&& 31))).toUInt32.toUInt16.toUInt32.toInt32
theorem shr0 (c : Int32) : c >>> ((0 : Int32) &&& 31) = c := by
  have e : ((0 : Int32) &&& 31) = 0 := by decide
  rw [e]
  apply Int32.toBitVec_inj.mp
  rw [Int32.toBitVec_shiftRight]
  have e1 : ((0 : Int32).toBitVec.smod 32) = 0#32 := by decide
  rw [e1, BitVec.sshiftRight_eq']
  exact BitVec.sshiftRight_zero
theorem lo8_and (x : Int32) : (lo8 x &&& 255).toBitVec.toNat = x.toBitVec.toNat % 256 := by
  have h : (lo8 x).toBitVec = (x.toBitVec.signExtend 8).signExtend 32 := by rw [lo8, Int8.toBitVec_toInt32, Int32.toBitVec_toInt8]
  rw [Int32.toBitVec_and, BitVec.toNat_and, h]
  have e : ((x.toBitVec.signExtend 8).signExtend 32).toNat % 256 = x.toBitVec.toNat % 256 := by
    rw [BitVec.toNat_signExtend]
    have hlt := x.toBitVec.isLt
    simp only [BitVec.toNat_setWidth, BitVec.toNat_signExtend]
    split <;> split <;> omega
  rw [← e]
  exact Nat.and_two_pow_sub_one_eq_mod _ 8
theorem pair_says {c : Int32} (h0 : ¬ c < 0) (h1 : ¬ 65535 < c) : pairCh (lo8 c) (hi8 c) = c := by
  rw [Int32.lt_iff_toInt_lt] at h0 h1
  have e0 : (0 : Int32).toInt = 0 := rfl
  have e1 : (65535 : Int32).toInt = 65535 := rfl
  have hc : c.toInt = c.toBitVec.toNat := by
    have := c.toBitVec.isLt
    have e : c.toInt = c.toBitVec.toInt := rfl
    rw [e] at h0 h1
    rw [e]
    rw [BitVec.toInt_eq_toNat_cond] at h0 h1 ⊢
    split at h0 <;> split <;> omega
  have hn : c.toBitVec.toNat < 65536 := by omega
  have a1 := lo8_and c
  have a2 : (hi8 c &&& 255).toBitVec.toNat = c.toBitVec.toNat / 256 := by
    rw [hi8, lo8_and]
    have e : ((8 : Int32) &&& 31) = 8 := by decide
    rw [e, Int32.toBitVec_shiftRight]
    have e2 : ((8 : Int32).toBitVec.smod 32) = 8#32 := by decide
    rw [e2, BitVec.sshiftRight_eq', BitVec.toNat_sshiftRight_of_msb_false (by rw [BitVec.msb_eq_false_iff_two_mul_lt]; omega)]
    show c.toBitVec.toNat >>> 8 % 256 = _
    rw [Nat.shiftRight_eq_div_pow]
    omega
  unfold pairCh
  apply Int32.toBitVec_inj.mp
  apply BitVec.eq_of_toNat_eq
  have f0 : ((0 : Int32) &&& 31) = 0 := by decide
  have f8 : ((8 : Int32) &&& 31) = 8 := by decide
  rw [f0, f8]
  have g : (((lo8 c &&& 255) <<< (0 : Int32)) ||| ((hi8 c &&& 255) <<< (8 : Int32))).toBitVec.toNat = c.toBitVec.toNat := by
    rw [Int32.toBitVec_or, Int32.toBitVec_shiftLeft, Int32.toBitVec_shiftLeft]
    have s0 : ((0 : Int32).toBitVec.smod 32) = 0#32 := by decide
    have s8 : ((8 : Int32).toBitVec.smod 32) = 8#32 := by decide
    rw [s0, s8, BitVec.toNat_or]
    simp only [BitVec.shiftLeft_eq', BitVec.toNat_shiftLeft, a1, a2]
    show (c.toBitVec.toNat % 256) <<< 0 % 2 ^ 32 ||| (c.toBitVec.toNat / 256) <<< 8 % 2 ^ 32 = _
    rw [Nat.shiftLeft_zero, Nat.mod_eq_of_lt (show c.toBitVec.toNat % 256 < 2 ^ 32 by omega), Nat.mod_eq_of_lt (show (c.toBitVec.toNat / 256) <<< 8 < 2 ^ 32 by rw [Nat.shiftLeft_eq]; omega), Nat.or_comm, ← Nat.shiftLeft_add_eq_or_of_lt (by omega), Nat.shiftLeft_eq]
    omega
  show BitVec.toNat (((((lo8 c &&& 255) <<< (0 : Int32)) ||| ((hi8 c &&& 255) <<< (8 : Int32))).toBitVec.setWidth 16).setWidth 32) = _
  rw [BitVec.toNat_setWidth, BitVec.toNat_setWidth, g]
  omega
end StrChars
namespace StrChars
open Jvm Sem ClassFile Op Lib Jvm.Stand Jvm.Free.XT Jvm.Free.ALB Jvm.Free.JM Jvm.Free
open Jvm.Lib.Cold (StaticIs)
theorem shr1 {n : Nat} (h : 2 * n < 2 ^ 31) : Int32.ofNat (2 * n) >>> ((1 : Int32) &&& 31) = Int32.ofNat n := by
  have e : ((1 : Int32) &&& 31) = 1 := by decide
  rw [e]
  apply Int32.toBitVec_inj.mp
  rw [Int32.toBitVec_shiftRight]
  have e1 : ((1 : Int32).toBitVec.smod 32) = 1#32 := by decide
  have hm : (BitVec.ofNat 32 (2 * n)).toNat = 2 * n := by rw [BitVec.toNat_ofNat, Nat.mod_eq_of_lt (by omega)]
  rw [e1, BitVec.sshiftRight_eq']
  apply BitVec.eq_of_toNat_eq
  show ((BitVec.ofNat 32 (2 * n)).sshiftRight 1).toNat = (BitVec.ofNat 32 n).toNat
  rw [BitVec.toNat_sshiftRight_of_msb_false (by rw [BitVec.msb_eq_false_iff_two_mul_lt, hm]; omega), hm, BitVec.toNat_ofNat, Nat.shiftRight_eq_div_pow]
  omega
/-- charAt's cast of a byte read back -/
def chr8 (u : Int32) : Int32 := (u &&& 255).toUInt32.toUInt16.toUInt32.toInt32
theorem chr8_lo8 {c : Int32} (h0 : ¬ c < 0) (h1 : ¬ 255 < c) : chr8 (lo8 c) = c := by
  have t : ∀ k : Fin 256, (Int32.ofNat k.val).toUInt32.toUInt16.toUInt32.toInt32 = Int32.ofNat k.val := by decide +kernel
  unfold chr8
  rw [lo8_mask h0 h1]
  rw [Int32.lt_iff_toInt_lt] at h0 h1
  have e0 : (0 : Int32).toInt = 0 := rfl
  have e1 : (255 : Int32).toInt = 255 := rfl
  obtain ⟨k, hk⟩ : ∃ k : Nat, c.toInt = k := ⟨c.toInt.toNat, by omega⟩
  have hx : c = Int32.ofNat k := Int32.toInt_inj.mp (by rw [hk, Int32.toInt_ofNat_small (by omega)])
  rw [hx]
  exact t ⟨k, by omega⟩
theorem narrow_ch {c : Int32} (h0 : ¬ c < 0) (h1 : ¬ 65535 < c) : narrow .char (.int c) = .int c := by
  have q : narrow .char (.int (pairCh (lo8 c) (hi8 c))) = .int (pairCh (lo8 c) (hi8 c)) := narrow_c _
  rwa [pair_says h0 h1] at q
/-- the array's cell V codes the n chars f 0 .. f (n - 1) by the coder cd, as the JDK does: coder 1 just where some char is above 255 -/
def Cod (cd : Int32) (n : Nat) (f : Nat → Int32) (V : Cell) : Prop := (cd = 0 ∧ V.slots.size = n ∧ ∀ j, j < n → V.slots[j]? = some (.int (lo8 (f j))) ∧ ¬ 255 < f j) ∨ (cd = 1 ∧ V.slots.size = 2 * n ∧ (∀ j, j < n → V.slots[2 * j]? = some (.int (lo8 (f j))) ∧ V.slots[2 * j + 1]? = some (.int (hi8 (f j)))) ∧ ∃ j, j < n ∧ 255 < f j)
theorem Cod.cd {cd : Int32} {n : Nat} {f : Nat → Int32} {V : Cell} (h : Cod cd n f V) : cd = 0 ∨ cd = 1 := h.imp (fun q => q.1) fun q => q.1
theorem Cod.len {cd : Int32} {n : Nat} {f : Nat → Int32} {V : Cell} (h : Cod cd n f V) (hs : V.slots.size < 2 ^ 31) : Int32.ofNat V.slots.size >>> (cd &&& 31) = Int32.ofNat n := by
  rcases h with ⟨rfl, h, -⟩ | ⟨rfl, h, -⟩
  · rw [shr0, h]
  · rw [h, shr1 (by omega)]
/-- **x is a String of the n chars f 0 .. f (n - 1)**, Latin-1 or UTF-16; its array at t has the cell V -/
def Txt (x t : Addr) (V : Cell) (cd : Int32) (n : Nat) (f : Nat → Int32) (U : State) : Prop := Exact "java/lang/String" x U ∧ Has x "java/lang/String" "value" "[B" (.ref t) U ∧ Has x "java/lang/String" "coder" "B" (.int cd) U ∧ XT.Arr .byte t V U ∧ Cod cd n f V ∧ ∀ j, j < n → ¬ f j < 0 ∧ ¬ 65535 < f j
theorem Txt.mv {x t : Addr} {V : Cell} {cd : Int32} {n : Nat} {f : Nat → Int32} {U U' : State} (h : Txt x t V cd n f U) (hal : U.vm.Alike U'.vm) (hh : U'.heap = U.heap) : Txt x t V cd n f U' := ⟨h.1.mv hal hh, h.2.1.mv hal hh, h.2.2.1.mv hal hh, h.2.2.2.1.mv hal hh, h.2.2.2.2⟩
namespace Cdr
def yN : MethodName := ⟨"java/lang/String", "coder", "()B"⟩
abbrev yB : ByteArray := jdk_42_method_152_code
theorem d0 : decode yB 0 = .ok (.getstatic 38, 3) := by decide +kernel
theorem d3 : decode yB 3 = .ok (.ifCond (.eq) 10, 3) := by decide +kernel
theorem d6 : decode yB 6 = .ok (.aload_n 0, 1) := by decide +kernel
theorem d7 : decode yB 7 = .ok (.getfield 15, 3) := by decide +kernel
theorem d10 : decode yB 10 = .ok (.goto 4, 3) := by decide +kernel
theorem d14 : decode yB 14 = .ok (.ireturn, 1) := by decide +kernel
def site : List Cond := [.fieldLink "java/lang/String" 38 "java/lang/String" "COMPACT_STRINGS" "Z", .fieldLink "java/lang/String" 15 "java/lang/String" "coder" "B"]
def tab : Cond := tabOf yN yB 1 (some .byte) site
def P (x : Addr) (cd z : Int32) (args : Array Value) (s : State) : Prop := args = #[.ref x] ∧ Has x "java/lang/String" "coder" "B" (.int cd) s ∧ (cd = 0 ∨ cd = 1) ∧ StaticIs s "java/lang/String" "COMPACT_STRINGS" "Z" (.int z) ∧ ¬ z = 0
def E (cd : Int32) (r : Option Value) (s u : State) : Prop := XT.PureE (some (.int cd)) r s u
theorem law (l : Launch) (x : Addr) (cd z : Int32) : Law l yN 1 0 0 0 yB 1 (some .byte) site (P x cd z) (E cd) [] 0 0 := by
  refine Law.of_walk (plainFor_of_name (by decide +kernel)) (by decide +kernel) (by decide +kernel) (by decide) (fun _ _ h => by rw [h.1]; rfl) (fun _ U U' hal hh h => ⟨h.1, h.2.1.mv hal hh, h.2.2.1, h.2.2.2.1.there hal hh, h.2.2.2.2⟩) (fun r U U' V V' h1 hal h2 h => XT.PureE.mv r U U' V V' h1 hal h2 h) ?_
  intro p e s m args below meth c s₁ X0 hexec hbytes hml hret hlk hnm hown hh0 W hP
  obtain ⟨rfl, hx, hc, s1, hz⟩ := hP
  have c1 : Steps p.tables e below (s₁.setTop (entryFrame m #[.ref x] 1)) (s₁.setTop (mkF m 0 #[.val (.ref x)] [])) := entry rfl
  obtain ⟨T2, X2, q2, st2⟩ := X0.sget hexec hown (wk W (.fieldLink "java/lang/String" 38 "java/lang/String" "COMPACT_STRINGS" "Z")) s1 (fun _ _ h => by rw [hh0]; exact h) (g := (mkF m 0 #[.val (.ref x)] [])) rfl (hb hbytes d0)
  have hh2 := q2.trans hh0
  have c3 : Steps p.tables e below (s₁.setTop (entryFrame m #[.ref x] 1)) (T2.setTop (mkF m 7 #[.val (.ref x)] [.ref x])) := (c1.trans (st2 _ (Steps.refl _))).trans (by
    refine XS.ifNo X2.here hexec rfl (hb hbytes d3) rfl (i0_eq_f hz) ?_
    refine XS.aloadN X2.here hexec rfl (hb hbytes d6) rfl rfl ?_
    exact Steps.refl _)
  obtain ⟨T4, X4, q4, st4⟩ := X2.hget hexec hown (wk W (.fieldLink "java/lang/String" 15 "java/lang/String" "coder" "B")) (hx.mv X2.warmed.alike hh2) (g := (mkF m 7 #[.val (.ref x)] [.ref x])) rfl (rest := []) rfl (hb hbytes d7)
  have c5 : Steps p.tables e below (s₁.setTop (entryFrame m #[.ref x] 1)) (T4.setTop (mkF m 14 #[.val (.ref x)] [.int cd])) := (c3.trans (st4 _ (Steps.refl _))).trans (by
    refine XS.goto X4.here hexec rfl (pc0 := 10) rfl (hb hbytes d10) (by decide) rfl ?_
    exact Steps.refl _)
  exact ⟨T4, some (.int cd), _, _, _, X4, rfl, rfl, rfl, (fun h => by cases h), ⟨rfl, q4.trans hh2⟩, fun fs hl => c5.trans (X4.ireturnOut hexec hret (by rcases hc with rfl | rfl <;> rfl) (Or.inr (Or.inr (Or.inl rfl))) (hb hbytes d14) hl)⟩
end Cdr
namespace Len
def yN : MethodName := ⟨"java/lang/String", "length", "()I"⟩
abbrev yB : ByteArray := jdk_42_method_54_code
theorem d0 : decode yB 0 = .ok (.aload_n 0, 1) := by decide +kernel
theorem d1 : decode yB 1 = .ok (.getfield 9, 3) := by decide +kernel
theorem d4 : decode yB 4 = .ok (.arraylength, 1) := by decide +kernel
theorem d5 : decode yB 5 = .ok (.aload_n 0, 1) := by decide +kernel
theorem d6 : decode yB 6 = .ok (.invokevirtual 335, 3) := by decide +kernel
theorem d9 : decode yB 9 = .ok (.ishr, 1) := by decide +kernel
theorem d10 : decode yB 10 = .ok (.ireturn, 1) := by decide +kernel
def site : List Cond := [.fieldLink "java/lang/String" 9 "java/lang/String" "value" "[B", Cdr.tab] ++ virtW "java/lang/String" 335 "java/lang/String" Cdr.yN Cdr.yN
def tab : Cond := tabOf yN yB 1 (some .int) site
def P (x t : Addr) (V : Cell) (cd : Int32) (n : Nat) (f : Nat → Int32) (z : Int32) (args : Array Value) (s : State) : Prop := args = #[.ref x] ∧ Txt x t V cd n f s ∧ StaticIs s "java/lang/String" "COMPACT_STRINGS" "Z" (.int z) ∧ ¬ z = 0
def E (n : Nat) (r : Option Value) (s u : State) : Prop := XT.PureE (some (.int (Int32.ofNat n))) r s u
/-- length() of a String of n chars, in either coding -/
theorem law (l : Launch) (x t : Addr) (V : Cell) (cd : Int32) (n : Nat) (f : Nat → Int32) (z : Int32) : Law l yN 1 0 1 13 yB 1 (some .int) site (P x t V cd n f z) (E n) [] 0 0 := by
  refine Law.of_walk (plainFor_of_name (by decide +kernel)) (by decide +kernel) (by decide +kernel) (by decide) (fun _ _ h => by rw [h.1]; rfl) (fun _ U U' hal hh h => ⟨h.1, h.2.1.mv hal hh, h.2.2.1.there hal hh, h.2.2.2⟩) (fun r U U' V V' h1 hal h2 h => XT.PureE.mv r U U' V V' h1 hal h2 h) ?_
  intro p e s m args below meth c s₁ X0 hexec hbytes hml hret hlk hnm hown hh0 W hP
  obtain ⟨rfl, hx, s1, hz⟩ := hP
  have v31 := hx.2.2.2.1.2.2.2
  have c1 : Steps p.tables e below (s₁.setTop (entryFrame m #[.ref x] 1)) (s₁.setTop (mkF m 1 #[.val (.ref x)] [.ref x])) := Steps.trans (entry rfl) (by
    show Steps p.tables e below (s₁.setTop (mkF m 0 #[.val (.ref x)] [])) _
    refine XS.aloadN X0.here hexec rfl (hb hbytes d0) rfl rfl ?_
    exact Steps.refl _)
  obtain ⟨T2, X2, q2, st2⟩ := X0.hget hexec hown (wk W (.fieldLink "java/lang/String" 9 "java/lang/String" "value" "[B")) (hx.mv X0.warmed.alike hh0).2.1 (g := (mkF m 1 #[.val (.ref x)] [.ref x])) rfl (rest := []) rfl (hb hbytes d1)
  have hh2 := q2.trans hh0
  have hx2 := hx.mv X2.warmed.alike hh2
  have c3 : Steps p.tables e below (s₁.setTop (entryFrame m #[.ref x] 1)) (T2.setTop (mkF m 6 #[.val (.ref x)] [.ref x, .int (Int32.ofNat V.slots.size)])) := (c1.trans (st2 _ (Steps.refl _))).trans (by
    refine X2.alen hexec hx2.2.2.2.1 rfl rfl (hb hbytes d4) ?_
    refine XS.aloadN X2.here hexec rfl (hb hbytes d5) rfl rfl ?_
    exact Steps.refl _)
  obtain ⟨v4, T4, X4, E4, g4⟩ := X2.callV hexec (Cdr.law l x cd z) hown (wks W (virtW "java/lang/String" 335 "java/lang/String" Cdr.yN Cdr.yN)) rfl (by decide) (wk W Cdr.tab) (W := 1) (Nat.le_of_ble_eq_true rfl) (Nat.le_of_ble_eq_true rfl) (Nat.le_refl _) (Nat.le_refl _) (hx2.1.fc X2.warmed.alike) hx2.1.is (g := (mkF m 6 #[.val (.ref x)] [.ref x, .int (Int32.ofNat V.slots.size)])) rfl (by rw [hml]; rfl) c3 (argsL := []) (rest := [.int (Int32.ofNat V.slots.size)]) rfl rfl (by show 2 * 0 + (1 + 0) ≤ _; decide) (hb hbytes d6) (⟨rfl, hx2.2.2.1, hx.2.2.2.2.1.cd, s1.there X2.warmed.alike hh2, hz⟩)
  obtain ⟨rfl, q4⟩ := E4
  have c5 : Steps p.tables e below (s₁.setTop (entryFrame m #[.ref x] 1)) (T4.setTop (mkF m 10 #[.val (.ref x)] [.int (Int32.ofNat V.slots.size >>> (cd &&& 31))])) := Steps.trans g4 (by
    refine ishr X4.here hexec rfl (hb hbytes d9) rfl ?_
    exact Steps.refl _)
  rw [hx.2.2.2.2.1.len v31] at c5
  exact ⟨T4, some (.int (Int32.ofNat n)), _, _, _, X4, rfl, rfl, rfl, (fun h => by cases h), ⟨rfl, q4.trans hh2⟩, fun fs hl => c5.trans (X4.ireturnOut hexec hret rfl (Or.inl rfl) (hb hbytes d10) hl)⟩
theorem pays {l : Launch} {R : Room} {p : Program} {e : Env} {below : List Frame} {s : State} {sargs : Array Value} {len W : Nat} (x t : Addr) (V : Cell) (cd : Int32) (n : Nat) (f : Nat → Int32) (z : Int32) (htab : tab.before sargs s = true) (hfr : 2 ≤ R.frames) (hlo : W + 25 ≤ R.locals) :
    Back l R p e below s sargs yN len W (fun A₁ a₁ => A₁.cells + 0 ≤ R.cells ∧ A₁.slots + 0 ≤ R.slots ∧ P x t V cd n f z a₁ A₁.U) (fun A₁ _ v₁ B₁ => E n v₁ A₁.U B₁.U ∧ B₁.locs = A₁.locs ++ [] ∧ B₁.cells = A₁.cells + 0 ∧ B₁.slots = A₁.slots + 0) :=
  (law l x t V cd n f z).pays htab hfr (by omega)
end Len
namespace IsL
def yN : MethodName := ⟨"java/lang/String", "isLatin1", "()Z"⟩
abbrev yB : ByteArray := jdk_42_method_154_code
theorem d0 : decode yB 0 = .ok (.getstatic 38, 3) := by decide +kernel
theorem d3 : decode yB 3 = .ok (.ifCond (.eq) 14, 3) := by decide +kernel
theorem d6 : decode yB 6 = .ok (.aload_n 0, 1) := by decide +kernel
theorem d7 : decode yB 7 = .ok (.getfield 15, 3) := by decide +kernel
theorem d10 : decode yB 10 = .ok (.ifCond (.ne) 7, 3) := by decide +kernel
theorem d13 : decode yB 13 = .ok (.iconst 1, 1) := by decide +kernel
theorem d14 : decode yB 14 = .ok (.goto 4, 3) := by decide +kernel
theorem d17 : decode yB 17 = .ok (.iconst 0, 1) := by decide +kernel
theorem d18 : decode yB 18 = .ok (.ireturn, 1) := by decide +kernel
def site : List Cond := [.fieldLink "java/lang/String" 38 "java/lang/String" "COMPACT_STRINGS" "Z", .fieldLink "java/lang/String" 15 "java/lang/String" "coder" "B"]
def tab : Cond := tabOf yN yB 1 (some .boolean) site
def P (x : Addr) (cd z : Int32) (args : Array Value) (s : State) : Prop := args = #[.ref x] ∧ Has x "java/lang/String" "coder" "B" (.int cd) s ∧ (cd = 0 ∨ cd = 1) ∧ StaticIs s "java/lang/String" "COMPACT_STRINGS" "Z" (.int z) ∧ ¬ z = 0
def E (cd : Int32) (r : Option Value) (s u : State) : Prop := XT.PureE (some (.int (1 - cd))) r s u
theorem law (l : Launch) (x : Addr) (cd z : Int32) : Law l yN 1 0 0 0 yB 1 (some .boolean) site (P x cd z) (E cd) [] 0 0 := by
  refine Law.of_walk (plainFor_of_name (by decide +kernel)) (by decide +kernel) (by decide +kernel) (by decide) (fun _ _ h => by rw [h.1]; rfl) (fun _ U U' hal hh h => ⟨h.1, h.2.1.mv hal hh, h.2.2.1, h.2.2.2.1.there hal hh, h.2.2.2.2⟩) (fun r U U' V V' h1 hal h2 h => XT.PureE.mv r U U' V V' h1 hal h2 h) ?_
  intro p e s m args below meth c s₁ X0 hexec hbytes hml hret hlk hnm hown hh0 W hP
  obtain ⟨rfl, hx, hc, s1, hz⟩ := hP
  have c1 : Steps p.tables e below (s₁.setTop (entryFrame m #[.ref x] 1)) (s₁.setTop (mkF m 0 #[.val (.ref x)] [])) := entry rfl
  obtain ⟨T2, X2, q2, st2⟩ := X0.sget hexec hown (wk W (.fieldLink "java/lang/String" 38 "java/lang/String" "COMPACT_STRINGS" "Z")) s1 (fun _ _ h => by rw [hh0]; exact h) (g := (mkF m 0 #[.val (.ref x)] [])) rfl (hb hbytes d0)
  have hh2 := q2.trans hh0
  have c3 : Steps p.tables e below (s₁.setTop (entryFrame m #[.ref x] 1)) (T2.setTop (mkF m 7 #[.val (.ref x)] [.ref x])) := (c1.trans (st2 _ (Steps.refl _))).trans (by
    refine XS.ifNo X2.here hexec rfl (hb hbytes d3) rfl (i0_eq_f hz) ?_
    refine XS.aloadN X2.here hexec rfl (hb hbytes d6) rfl rfl ?_
    exact Steps.refl _)
  obtain ⟨T4, X4, q4, st4⟩ := X2.hget hexec hown (wk W (.fieldLink "java/lang/String" 15 "java/lang/String" "coder" "B")) (hx.mv X2.warmed.alike hh2) (g := (mkF m 7 #[.val (.ref x)] [.ref x])) rfl (rest := []) rfl (hb hbytes d7)
  have c5 : Steps p.tables e below (s₁.setTop (entryFrame m #[.ref x] 1)) (T4.setTop (mkF m 10 #[.val (.ref x)] [.int cd])) := c3.trans (st4 _ (Steps.refl _))
  have c6 : Steps p.tables e below (s₁.setTop (entryFrame m #[.ref x] 1)) (T4.setTop (mkF m 18 #[.val (.ref x)] [.int (1 - cd)])) := by
    rcases hc with rfl | rfl
    · exact c5.trans (by
        refine XS.ifNo X4.here hexec rfl (hb hbytes d10) rfl (i0_ne_f rfl) ?_
        refine iconstV X4.here hexec rfl 1 (hb hbytes d13) (by decide) ?_
        refine XS.goto X4.here hexec rfl (pc0 := 14) rfl (hb hbytes d14) (by decide) rfl ?_
        exact Steps.refl _)
    · exact c5.trans (by
        refine XS.ifYes X4.here hexec rfl (pc0 := 10) rfl (hb hbytes d10) rfl (i0_ne_t (by decide)) (by decide) rfl ?_
        refine iconstV X4.here hexec rfl 0 (hb hbytes d17) (by decide) ?_
        exact Steps.refl _)
  exact ⟨T4, some (.int (1 - cd)), _, _, _, X4, rfl, rfl, rfl, (fun h => by cases h), ⟨rfl, q4.trans hh2⟩, fun fs hl => c6.trans (X4.ireturnOut hexec hret (by rcases hc with rfl | rfl <;> rfl) (Or.inr (Or.inl rfl)) (hb hbytes d18) hl)⟩
end IsL
namespace LChA
def yN : MethodName := ⟨"java/lang/StringLatin1", "charAt", "([BI)C"⟩
abbrev yB : ByteArray := jdk_43_method_2_code
theorem d0 : decode yB 0 = .ok (.iload_n 1, 1) := by decide +kernel
theorem d1 : decode yB 1 = .ok (.aload_n 0, 1) := by decide +kernel
theorem d2 : decode yB 2 = .ok (.arraylength, 1) := by decide +kernel
theorem d3 : decode yB 3 = .ok (.invokestatic 9, 3) := by decide +kernel
theorem d6 : decode yB 6 = .ok (.aload_n 0, 1) := by decide +kernel
theorem d7 : decode yB 7 = .ok (.iload_n 1, 1) := by decide +kernel
theorem d8 : decode yB 8 = .ok (.baload, 1) := by decide +kernel
theorem d9 : decode yB 9 = .ok (.sipush 255, 3) := by decide +kernel
theorem d12 : decode yB 12 = .ok (.iand, 1) := by decide +kernel
theorem d13 : decode yB 13 = .ok (.i2c, 1) := by decide +kernel
theorem d14 : decode yB 14 = .ok (.ireturn, 1) := by decide +kernel
def site : List Cond := [JO.Str_checkIndex.tab] ++ staticW "java/lang/StringLatin1" 9 JO.Str_checkIndex.yN
def tab : Cond := tabOf yN yB 2 (some .char) site
def P (t : Addr) (V : Cell) (i : Nat) (u : Int32) (fm : Value) (args : Array Value) (s : State) : Prop := args = #[.ref t, .int (Int32.ofNat i)] ∧ XT.Arr .byte t V s ∧ V.slots[i]? = some (.int u) ∧ (StaticIs s "jdk/internal/util/Preconditions" "SIOOBE_FORMATTER" "Ljava/util/function/BiFunction;" fm ∧ fm.isRef = true)
def E (u : Int32) (r : Option Value) (s w : State) : Prop := XT.PureE (some (.int (chr8 u))) r s w
theorem law (l : Launch) (t : Addr) (V : Cell) (i : Nat) (u : Int32) (fm : Value) : Law l yN 2 2 2 27 yB 2 (some .char) site (P t V i u fm) (E u) [] 0 0 := by
  refine Law.of_walk (plainFor_of_name (by decide +kernel)) (by decide +kernel) (by decide +kernel) (by decide) (fun _ _ h => by rw [h.1]; rfl) (fun _ U U' hal hh h => ⟨h.1, h.2.1.mv hal hh, h.2.2.1, h.2.2.2.1.there hal hh, h.2.2.2.2⟩) (fun r U U' V V' h1 hal h2 h => XT.PureE.mv r U U' V V' h1 hal h2 h) ?_
  intro p e s m args below meth c s₁ X0 hexec hbytes hml hret hlk hnm hown hh0 W hP
  obtain ⟨rfl, hV, hu, s1, rf⟩ := hP
  have v31 := hV.2.2.2
  have hi : i < V.slots.size := (Array.getElem?_eq_some_iff.mp hu).1
  have c1 : Steps p.tables e below (s₁.setTop (entryFrame m #[.ref t, .int (Int32.ofNat i)] 2)) (s₁.setTop (mkF m 0 #[.val (.ref t), .val (.int (Int32.ofNat i))] [])) := entry rfl
  have c2 : Steps p.tables e below (s₁.setTop (entryFrame m #[.ref t, .int (Int32.ofNat i)] 2)) (s₁.setTop (mkF m 3 #[.val (.ref t), .val (.int (Int32.ofNat i))] [.int (Int32.ofNat V.slots.size), .int (Int32.ofNat i)])) := c1.trans (by
    refine XS.iloadN X0.here hexec rfl (hb hbytes d0) rfl ?_
    refine XS.aloadN X0.here hexec rfl (hb hbytes d1) rfl rfl ?_
    refine X0.alen hexec (hV.mv X0.warmed.alike hh0) rfl rfl (hb hbytes d2) ?_
    exact Steps.refl _)
  obtain ⟨v3, T3, X3, E3, g3⟩ := X0.callS hexec (JO.Str_checkIndex.law l (Int32.ofNat i) (Int32.ofNat V.slots.size) fm) hown (wks W (staticW "java/lang/StringLatin1" 9 JO.Str_checkIndex.yN)) (wk W JO.Str_checkIndex.tab) (W := 0) (Nat.le_of_ble_eq_true rfl) (Nat.le_of_ble_eq_true rfl) (Nat.le_refl _) (Nat.le_refl _) (g := (mkF m 3 #[.val (.ref t), .val (.int (Int32.ofNat i))] [.int (Int32.ofNat V.slots.size), .int (Int32.ofNat i)])) rfl (by rw [hml]; rfl) c2 (argsL := [.int (Int32.ofNat i), .int (Int32.ofNat V.slots.size)]) (rest := []) rfl rfl (by show 2 * 0 + 0 ≤ _; decide) (hb hbytes d3) (⟨rfl, rf, s1.there X0.warmed.alike hh0, Int32.ofNat_not_neg (by omega), lt32 v31 hi⟩)
  obtain ⟨rfl, q3⟩ := E3
  have hh3 := q3.trans hh0
  have c4 : Steps p.tables e below (s₁.setTop (entryFrame m #[.ref t, .int (Int32.ofNat i)] 2)) (T3.setTop (mkF m 14 #[.val (.ref t), .val (.int (Int32.ofNat i))] [.int (chr8 u)])) := Steps.trans g3 (by
    refine XS.aloadN X3.here hexec rfl (hb hbytes d6) rfl rfl ?_
    refine XS.iloadN X3.here hexec rfl (hb hbytes d7) rfl ?_
    refine X3.aget hexec (hV.mv X3.warmed.alike hh3) rfl hu rfl rfl (hb hbytes d8) ?_
    refine sipushV X3.here hexec rfl 255 (hb hbytes d9) (by decide) ?_
    refine XS.iand X3.here hexec rfl (hb hbytes d12) rfl ?_
    refine i2c X3.here hexec rfl (hb hbytes d13) rfl ?_
    exact Steps.refl _)
  exact ⟨T3, some (.int (chr8 u)), _, _, _, X3, rfl, rfl, rfl, (fun h => by cases h), ⟨rfl, hh3⟩, fun fs hl => c4.trans (X3.ireturnOut hexec hret (narrow_c _) (Or.inr (Or.inr (Or.inr (Or.inl rfl)))) (hb hbytes d14) hl)⟩
end LChA
end StrChars
namespace StrChars.Road
open Jvm Sem ClassFile Op Lib Jvm.Stand Jvm.Free Jvm.Free.XT
open Jvm.Lib.Cold (StaticIs)
theorem consq {a : Array Value} {s : State} {c : Jvm.Cond} {L : List Jvm.Cond} (h0 : c.before a s = true) (h : ∀ w ∈ L, w.before a s = true) : ∀ w ∈ c :: L, w.before a s = true := fun w hw => (List.mem_cons.mp hw).elim (fun e => e ▸ h0) (h w)
/-- the words of String.length(), either coding -/
abbrev wordsLen : List Jvm.Cond := [.code Len.yN Len.yB 1 (some .int), .initialized ST, .fieldLink ST 9 ST "value" "[B", .fieldLink ST 38 ST "COMPACT_STRINGS" "Z", .fieldLink ST 15 ST "coder" "B", .code Cdr.yN Cdr.yB 1 (some .byte), .methodLink ST 335 Cdr.yN, .declares Cdr.yN, .selects ST Cdr.yN Cdr.yN, .instanceMethod Cdr.yN]
theorem tabLen_of {a : Array Value} {s : State} (h : ∀ w ∈ wordsLen, w.before a s = true) : Len.tab.before a s = true := by
  have hc : Cdr.tab.before a s = true := unparts (wk h (.code Cdr.yN Cdr.yB 1 (some .byte))) (wks h (.initialized Cdr.yN.cls :: Cdr.site))
  have q := consq hc h
  exact unparts (wk q (.code Len.yN Len.yB 1 (some .int))) (wks q (.initialized Len.yN.cls :: Len.site))
theorem movedLen {Z s : State} {a0 args : Array Value} (hZ : Z.Warmed39 s.vm) (hw : ∀ d ∈ wordsLen, d.before a0 Z = true) : ∀ d ∈ wordsLen, d.before args s = true := fun d hd => by
  have q := hw d hd
  have t : ∀ d ∈ wordsLen, d = .arrayClass .byte ∨ (d.onTables && d.keepsFace) = true := by decide +kernel
  rcases t d hd with rfl | t
  · exact RoadKit.mvA hZ q
  · exact RoadKit.mv hZ q t
/-- the bytes of the chars cs, low before high -/
def wideBytes : List Int32 → List Value
  | [] => []
  | c :: cs => .int (lo8 c) :: .int (hi8 c) :: wideBytes cs
theorem wide_lo (d : Value) : ∀ (cs : List Int32) (j : Nat), j < cs.length → (wideBytes cs).getD (2 * j) d = .int (lo8 (cs.getD j 0))
  | [], j, h => absurd h (Nat.not_lt_zero j)
  | c :: cs, 0, _ => rfl
  | c :: cs, j + 1, h => by
    have q := wide_lo d cs j (by simpa using h)
    rw [show 2 * (j + 1) = 2 * j + 1 + 1 from by omega]
    simpa [wideBytes] using q
theorem wide_hi (d : Value) : ∀ (cs : List Int32) (j : Nat), j < cs.length → (wideBytes cs).getD (2 * j + 1) d = .int (hi8 (cs.getD j 0))
  | [], j, h => absurd h (Nat.not_lt_zero j)
  | c :: cs, 0, _ => rfl
  | c :: cs, j + 1, h => by
    have q := wide_hi d cs j (by simpa using h)
    rw [show 2 * (j + 1) + 1 = 2 * j + 1 + 1 + 1 from by omega]
    simpa [wideBytes] using q
theorem low_at (d : Value) (cs : List Int32) (j : Nat) (h : j < cs.length) : (cs.map fun c => Value.int (lo8 c)).getD j d = .int (lo8 (cs.getD j 0)) := by
  simp [List.getD_eq_getElem?_getD, h]
/-- an array of N2 bytes vs codes the chars cs by the coder cd -/
def CodA (cs : List Int32) (cd N2 : Int32) (vs : List Value) : Prop := (cd = 0 ∧ N2 = Int32.ofNat cs.length ∧ vs = (cs.map fun c => Value.int (lo8 c)) ∧ ∀ c ∈ cs, ¬ 255 < c) ∨ (cd = 1 ∧ N2 = Int32.ofNat (2 * cs.length) ∧ vs = wideBytes cs ∧ ∃ c ∈ cs, 255 < c)
theorem CodA.cod {cs : List Int32} {cd N2 : Int32} {vs : List Value} {V : Cell} (h : CodA cs cd N2 vs) (hn : 2 * cs.length < 2 ^ 31) (hs : V.slots.size = N2.toNatClampNeg) (hv : RoadKit.Has V vs (.int 0)) : Cod cd cs.length (fun j => cs.getD j 0) V := by
  rcases h with ⟨rfl, rfl, rfl, h⟩ | ⟨rfl, rfl, rfl, c, hc, hw⟩
  · rw [n32 (by omega)] at hs
    exact Or.inl ⟨rfl, hs, fun j hj => ⟨by rw [hv j (by omega), low_at _ _ _ hj], by
      have e : cs.getD j 0 = cs[j] := by simp [List.getD_eq_getElem?_getD, hj]
      show ¬ 255 < cs.getD j 0
      rw [e]; exact h _ (List.getElem_mem _)⟩⟩
  · rw [n32 (by omega)] at hs
    obtain ⟨j, hj, rfl⟩ := List.getElem_of_mem hc
    exact Or.inr ⟨rfl, hs, fun j hj => ⟨by rw [hv _ (by omega), wide_lo _ _ _ hj], by rw [hv _ (by omega), wide_hi _ _ _ hj]⟩, j, hj, by
      have e : cs.getD j 0 = cs[j] := by simp [List.getD_eq_getElem?_getD, hj]
      show 255 < cs.getD j 0
      rw [e]; exact hw⟩
/-- an object of exactly java/lang/String, its two fields found: as the laws ask it -/
theorem strObj {Z U : State} {a0 : Array Value} {kI : Nat} (wi : (Jvm.Cond.instantiable ST kI).before a0 Z = true) (al : Z.vm.Alike U.vm) {x : Addr} {v0 c0 : Value} (E : RoadKit.Exa Z U.heap x ST) (V : RoadKit.Fld Z U.heap x ST "value" "[B" v0) (C : RoadKit.Fld Z U.heap x ST "coder" "B" c0) :
    ∃ (D : Cell) (fV fC : Field), Blank ST x D U ∧ Found ST "value" "[B" fV U ∧ Found ST "coder" "B" fC U ∧ D.slots[fV.slot]? = some v0 ∧ D.slots[fC.slot]? = some c0 ∧ RoadKit.slotOf Z ST "value" "[B" = fV.slot ∧ RoadKit.slotOf Z ST "coder" "B" = fC.slot := by
  obtain ⟨D, cfV, kV, iV, fV, hD, gV, stV, knV, obV, asV, slV⟩ := V
  obtain ⟨D', cfC, kC, iC, fC, hD', gC, stC, -, -, asC, slC⟩ := C
  cases hD.symm.trans hD'
  obtain ⟨D2, kD, e1, e2, e3, e4, e5⟩ := E
  cases hD.symm.trans e1
  obtain ⟨c2, k2, i1, i2, i3, -⟩ := Cond.instantiable_spec wi
  cases e2.symm.trans i1
  cases e3.symm.trans i2
  obtain ⟨kU, u1, u2⟩ := al.2.2 _ _ e3
  exact ⟨D, fV, fC, ⟨hD, ⟨knV, fun q hq => by rw [hq] at obV; cases obV⟩, by rw [al.findClass]; exact e2, kU, u1, by rw [u2]; exact i3, by rw [u2]; exact e5 i3⟩, ⟨SBG.found_only al ⟨cfV, kV, iV, gV⟩, stV⟩, ⟨SBG.found_only al ⟨cfC, kC, iC, gC⟩, stC⟩, slV, slC, by simp [RoadKit.slotOf, gV], by simp [RoadKit.slotOf, gC]⟩
theorem sta_is {Z U : State} (al : Z.vm.Alike U.vm) {C n d : String} {v : Value} (S : RoadKit.Sta Z U.heap C n d v) : StaticIs U C n d v := by
  obtain ⟨cfS, iS, kS, fS, st, cS, t1, t2, t3, t4, t5, t6, t7⟩ := S
  exact StaticIs.there (s := { Z with heap := U.heap }) ⟨cfS, iS, kS, fS, st, cS, t1, t2, t3, t4, t5, (fun q => by rw [q] at t6; cases t6), t7⟩ al rfl
/-- **length() OF SUCH A STRING** -/
theorem lenW {p : Program} {l : Launch} {e : Env} {R : Room} {s : State} {args : Array Value} {below : List Frame} {len W : Nat} {Z : State} {a0 : Array Value} {h : Heap} (hZ : Z.Warmed39 s.vm) (hw : ∀ d ∈ wordsLen, d.before a0 Z = true) {kI : Nat} (wi : (Jvm.Cond.instantiable ST kI).before a0 Z = true)
    {x t : Addr} {kb : ClassId} {cs : List Int32} {cd N2 z : Int32} {vs : List Value} (E : RoadKit.Exa Z h x ST) (V : RoadKit.Fld Z h x ST "value" "[B" (.ref t)) (C : RoadKit.Fld Z h x ST "coder" "B" (.int cd)) (K : RoadKit.Arv Z h t kb .byte N2 vs (.int 0)) (hc : CodA cs cd N2 vs) (hb : ∀ c ∈ cs, ¬ c < 0 ∧ ¬ (65535 : Int32) < c)
    (S : RoadKit.Sta Z h ST "COMPACT_STRINGS" "Z" (.int z)) (hz : ¬ z = 0) (l2 : cs.length ≤ 4000) (hfr : 2 ≤ R.frames) (hlo : W + 25 ≤ R.locals) :
    Back l R p e below s args (⟨"java/lang/String", "length", "()I"⟩ : MethodName) len W (fun P a => a = #[.ref x] ∧ P.U.heap = h ∧ P.cells + 0 ≤ R.cells ∧ P.slots + 0 ≤ R.slots)
      (fun P _ v B => ∃ L, (v = some (.int (Int32.ofNat cs.length)) ∧ L = [] ∧ B.U.heap = h) ∧ B.locs = P.locs ++ L ∧ B.cells = P.cells + 0 ∧ B.slots = P.slots + 0) := by
  obtain ⟨A, K1, K2, K3, K4, K5, K6⟩ := K
  have hcod := hc.cod (by omega) K3 K5
  intro m meth c P g ig mk a X hg hsize hdg hW hn hp'
  obtain ⟨rfl, rfl, r1, r2⟩ := hp'
  have al : Z.vm.Alike P.U.vm := hZ.alike.trans X.warmed.alike
  obtain ⟨D, fV, fC, hB, F1, F2, g1, g2, -, -⟩ := strObj wi al E V C
  have hx : Txt x t A cd cs.length (fun j => cs.getD j 0) P.U := ⟨⟨_, hB.2.2.1, D, hB.1, rfl, by cases q : D.vm <;> first | rfl | exact absurd q (hB.2.1.2 _)⟩, Has.of hB F1 g1, Has.of hB F2 g2, ⟨K1.1, State.isArrayOf_alike al K1.2.1, K1.2.2, by rcases hcod with ⟨-, q, -⟩ | ⟨-, q, -⟩ <;> omega⟩, hcod, fun j hj => by
    have e : cs.getD j 0 = cs[j] := by simp [List.getD_eq_getElem?_getD, hj]
    show ¬ cs.getD j 0 < 0 ∧ ¬ 65535 < cs.getD j 0
    rw [e]; exact hb _ (List.getElem_mem _)⟩
  obtain ⟨v, B, X', ⟨⟨hv, hh⟩, hl, hk, hs⟩, st⟩ := Len.pays x t A cd cs.length (fun j => cs.getD j 0) z (tabLen_of (movedLen hZ hw)) hfr hlo m meth c P g ig mk _ X hg hsize hdg hW hn ⟨r1, r2, rfl, hx, sta_is al S, hz⟩
  exact ⟨v, B, X', ⟨[], ⟨hv, rfl, hh⟩, hl, hk, hs⟩, st⟩
end StrChars.Road
namespace StrChars
open Jvm Sem ClassFile Op Lib Jvm.Stand Jvm.Free.XT Jvm.Free.ALB Jvm.Free.JM Jvm.Free
open Jvm.Lib.Cold (StaticIs)
/-- what place i of a byte[]'s cell holds -/
def yv (A : Cell) (i : Nat) : Int32 := match A.slots[i]? with | some (.int x) => x | _ => 0
theorem yv_get {a : Addr} {A : Cell} {U : State} (h : XT.Arr .byte a A U) (ht : Typed .byte A) {i : Nat} (hi : i < A.slots.size) : A.slots[i]? = some (.int (yv A i)) := by
  have e := Array.getElem?_eq_getElem hi
  have f := ht i _ e
  unfold yv; rw [e]
  generalize A.slots[i] = v at f
  cases v <;> simp [fits] at f ⊢
/-- the two arrays are equal, place for place -/
def EqC (A B : Cell) : Prop := A.slots.size = B.slots.size ∧ ∀ i, i < A.slots.size → yv A i = yv B i
/-- a boolean that says whether p -/
def Says01 (q : Prop) (r : Option Value) (s u : State) : Prop := ∃ v : Int32, r = some (.int v) ∧ u.heap = s.heap ∧ ((v = 1 ∧ q) ∨ (v = 0 ∧ ¬ q))
theorem Says01.mv {q : Prop} : ∀ r (U U' V V' : State), U'.heap = U.heap → V.vm.Alike V'.vm → V'.heap = V.heap → Says01 q r U V → Says01 q r U' V' :=
  fun r U U' V V' h1 _ h2 ⟨v, a, b, c⟩ => ⟨v, a, by rw [h1, h2]; exact b, c⟩
namespace LEq
def yN : MethodName := ⟨"java/lang/StringLatin1", "equals", "([B[B)Z"⟩
abbrev yB : ByteArray := jdk_43_method_13_code
theorem d0 : decode yB 0 = .ok (.aload_n 0, 1) := by decide +kernel
theorem d1 : decode yB 1 = .ok (.arraylength, 1) := by decide +kernel
theorem d2 : decode yB 2 = .ok (.aload_n 1, 1) := by decide +kernel
theorem d3 : decode yB 3 = .ok (.arraylength, 1) := by decide +kernel
theorem d4 : decode yB 4 = .ok (.if_icmp (.ne) 30, 3) := by decide +kernel
theorem d7 : decode yB 7 = .ok (.iconst 0, 1) := by decide +kernel
theorem d8 : decode yB 8 = .ok (.istore_n 2, 1) := by decide +kernel
theorem d9 : decode yB 9 = .ok (.iload_n 2, 1) := by decide +kernel
theorem d10 : decode yB 10 = .ok (.aload_n 0, 1) := by decide +kernel
theorem d11 : decode yB 11 = .ok (.arraylength, 1) := by decide +kernel
theorem d12 : decode yB 12 = .ok (.if_icmp (.ge) 20, 3) := by decide +kernel
theorem d15 : decode yB 15 = .ok (.aload_n 0, 1) := by decide +kernel
theorem d16 : decode yB 16 = .ok (.iload_n 2, 1) := by decide +kernel
theorem d17 : decode yB 17 = .ok (.baload, 1) := by decide +kernel
theorem d18 : decode yB 18 = .ok (.aload_n 1, 1) := by decide +kernel
theorem d19 : decode yB 19 = .ok (.iload_n 2, 1) := by decide +kernel
theorem d20 : decode yB 20 = .ok (.baload, 1) := by decide +kernel
theorem d21 : decode yB 21 = .ok (.if_icmp (.eq) 5, 3) := by decide +kernel
theorem d24 : decode yB 24 = .ok (.iconst 0, 1) := by decide +kernel
theorem d25 : decode yB 25 = .ok (.ireturn, 1) := by decide +kernel
theorem d26 : decode yB 26 = .ok (.iinc 2 1, 3) := by decide +kernel
theorem d29 : decode yB 29 = .ok (.goto (-20), 3) := by decide +kernel
theorem d32 : decode yB 32 = .ok (.iconst 1, 1) := by decide +kernel
theorem d33 : decode yB 33 = .ok (.ireturn, 1) := by decide +kernel
theorem d34 : decode yB 34 = .ok (.iconst 0, 1) := by decide +kernel
theorem d35 : decode yB 35 = .ok (.ireturn, 1) := by decide +kernel
def site : List Cond := []
def tab : Cond := tabOf yN yB 3 (some .boolean) site
def P (a : Addr) (A : Cell) (b : Addr) (B : Cell) (args : Array Value) (s : State) : Prop := args = #[.ref a, .ref b] ∧ XT.Arr .byte a A s ∧ Typed .byte A ∧ XT.Arr .byte b B s ∧ Typed .byte B
/-- whether two byte[] are equal, place for place -/
theorem law (l : Launch) (a : Addr) (A : Cell) (b : Addr) (B : Cell) : Law l yN 2 2 0 0 yB 3 (some .boolean) site (P a A b B) (Says01 (EqC A B)) [] 0 0 := by
  refine Law.of_walk (plainFor_of_name (by decide +kernel)) (by decide +kernel) (by decide +kernel) (by decide) (fun _ _ h => by rw [h.1]; rfl) (fun _ U U' hal hh h => ⟨h.1, h.2.1.mv hal hh, h.2.2.1, h.2.2.2.1.mv hal hh, h.2.2.2.2⟩) (fun r U U' V V' h1 hal h2 h => Says01.mv r U U' V V' h1 hal h2 h) ?_
  intro p e s m args below meth c s₁ X0 hexec hbytes hml hret hlk hnm hown hh0 W hP
  obtain ⟨rfl, hA, tA, hB, tB⟩ := hP
  have a31 := hA.2.2.2
  have b31 := hB.2.2.2
  have hA0 := hA.mv X0.warmed.alike hh0
  have hB0 := hB.mv X0.warmed.alike hh0
  have c1 : Steps p.tables e below (s₁.setTop (entryFrame m #[.ref a, .ref b] 3)) (s₁.setTop (mkF m 0 #[.val (.ref a), .val (.ref b), .unset] [])) := entry rfl
  have c2 : Steps p.tables e below (s₁.setTop (entryFrame m #[.ref a, .ref b] 3)) (s₁.setTop (mkF m 4 #[.val (.ref a), .val (.ref b), .unset] [.int (Int32.ofNat B.slots.size), .int (Int32.ofNat A.slots.size)])) := c1.trans (by
    refine XS.aloadN X0.here hexec rfl (hb hbytes d0) rfl rfl ?_
    refine X0.alen hexec hA0 rfl rfl (hb hbytes d1) ?_
    refine XS.aloadN X0.here hexec rfl (hb hbytes d2) rfl rfl ?_
    refine X0.alen hexec hB0 rfl rfl (hb hbytes d3) ?_
    exact Steps.refl _)
  by_cases hs : A.slots.size = B.slots.size
  · have c3 : Steps p.tables e below (s₁.setTop (entryFrame m #[.ref a, .ref b] 3)) (s₁.setTop (mkF m 9 #[.val (.ref a), .val (.ref b), .val (.int 0)] [])) := c2.trans (by
      refine XS.icmpNo X0.here hexec rfl (hb hbytes d4) rfl (ii_ne_f (by rw [hs])) ?_
      refine iconstV X0.here hexec rfl 0 (hb hbytes d7) (by decide) ?_
      refine XS.istoreN X0.here hexec rfl (hb hbytes d8) rfl rfl ?_
      exact Steps.refl _)
    have loop : ∀ (r i : Nat), i + r = A.slots.size → (∀ j, j < i → yv A j = yv B j) → Steps p.tables e below (s₁.setTop (entryFrame m #[.ref a, .ref b] 3)) (s₁.setTop (mkF m 9 #[.val (.ref a), .val (.ref b), .val (.int (Int32.ofNat i))] [])) → ∃ (pc : Nat) (Ls : Array Slot) (v : Int32), (pc = 25 ∨ pc = 33) ∧ ((v = 1 ∧ EqC A B) ∨ (v = 0 ∧ ¬ EqC A B)) ∧ Steps p.tables e below (s₁.setTop (entryFrame m #[.ref a, .ref b] 3)) (s₁.setTop (mkF m pc Ls [.int v])) := by
      intro r
      induction r with
      | zero =>
        intro i hi he cl
        exact ⟨33, _, 1, Or.inr rfl, Or.inl ⟨rfl, hs, fun j hj => he j (by omega)⟩, cl.trans (by
          refine XS.iloadN X0.here hexec rfl (hb hbytes d9) rfl ?_
          refine XS.aloadN X0.here hexec rfl (hb hbytes d10) rfl rfl ?_
          refine X0.alen hexec hA0 rfl rfl (hb hbytes d11) ?_
          refine XS.icmpYes X0.here hexec rfl (pc0 := 12) rfl (hb hbytes d12) rfl (ii_ge_t (nlt32 (by omega) (by omega))) (by decide) rfl ?_
          refine iconstV X0.here hexec rfl 1 (hb hbytes d32) (by decide) ?_
          exact Steps.refl _)⟩
      | succ r ih =>
        intro i hi he cl
        have c4 : Steps p.tables e below (s₁.setTop (entryFrame m #[.ref a, .ref b] 3)) (s₁.setTop (mkF m 21 #[.val (.ref a), .val (.ref b), .val (.int (Int32.ofNat i))] [.int (yv B i), .int (yv A i)])) := cl.trans (by
          refine XS.iloadN X0.here hexec rfl (hb hbytes d9) rfl ?_
          refine XS.aloadN X0.here hexec rfl (hb hbytes d10) rfl rfl ?_
          refine X0.alen hexec hA0 rfl rfl (hb hbytes d11) ?_
          refine XS.icmpNo X0.here hexec rfl (hb hbytes d12) rfl (ii_ge_f (lt32 (by omega) (by omega))) ?_
          refine XS.aloadN X0.here hexec rfl (hb hbytes d15) rfl rfl ?_
          refine XS.iloadN X0.here hexec rfl (hb hbytes d16) rfl ?_
          refine X0.aget hexec hA0 rfl (yv_get hA tA (i := i) (by omega)) rfl rfl (hb hbytes d17) ?_
          refine XS.aloadN X0.here hexec rfl (hb hbytes d18) rfl rfl ?_
          refine XS.iloadN X0.here hexec rfl (hb hbytes d19) rfl ?_
          refine X0.aget hexec hB0 rfl (yv_get hB tB (i := i) (by omega)) rfl rfl (hb hbytes d20) ?_
          exact Steps.refl _)
        by_cases hv : yv A i = yv B i
        · have c5 : Steps p.tables e below (s₁.setTop (entryFrame m #[.ref a, .ref b] 3)) (s₁.setTop (mkF m 9 #[.val (.ref a), .val (.ref b), .val (.int (Int32.ofNat i + 1))] [])) := c4.trans (by
            refine XS.icmpYes X0.here hexec rfl (pc0 := 21) rfl (hb hbytes d21) rfl (ii_eq_t hv) (by decide) rfl ?_
            refine iincV X0.here hexec rfl 1 (hb hbytes d26) (by decide) rfl rfl ?_
            refine XS.goto X0.here hexec rfl (pc0 := 29) rfl (hb hbytes d29) (by decide) rfl ?_
            exact Steps.refl _)
          rw [succ32] at c5
          exact ih (i + 1) (by omega) (fun j hj => by
            by_cases e : j = i
            · rw [e]; exact hv
            · exact he j (by omega)) c5
        · exact ⟨25, _, 0, Or.inl rfl, Or.inr ⟨rfl, fun q => hv (q.2 i (by omega))⟩, c4.trans (by
            refine XS.icmpNo X0.here hexec rfl (hb hbytes d21) rfl (ii_eq_f hv) ?_
            refine iconstV X0.here hexec rfl 0 (hb hbytes d24) (by decide) ?_
            exact Steps.refl _)⟩
    obtain ⟨pc, Ls, v, hpc, hv, cz⟩ := loop A.slots.size 0 (by omega) (fun j hj => absurd hj (Nat.not_lt_zero j)) c3
    have nv : narrow .boolean (.int v) = .int v := by rcases hv with ⟨rfl, -⟩ | ⟨rfl, -⟩ <;> rfl
    rcases hpc with rfl | rfl
    · exact ⟨s₁, some (.int v), _, _, _, X0, rfl, rfl, rfl, (fun h => by cases h), ⟨v, rfl, hh0, hv⟩, fun fs hl => cz.trans (X0.ireturnOut hexec hret nv (Or.inr (Or.inl rfl)) (hb hbytes d25) hl)⟩
    · exact ⟨s₁, some (.int v), _, _, _, X0, rfl, rfl, rfl, (fun h => by cases h), ⟨v, rfl, hh0, hv⟩, fun fs hl => cz.trans (X0.ireturnOut hexec hret nv (Or.inr (Or.inl rfl)) (hb hbytes d33) hl)⟩
  · have c3 : Steps p.tables e below (s₁.setTop (entryFrame m #[.ref a, .ref b] 3)) (s₁.setTop (mkF m 35 #[.val (.ref a), .val (.ref b), .unset] [.int 0])) := c2.trans (by
      refine XS.icmpYes X0.here hexec rfl (pc0 := 4) rfl (hb hbytes d4) rfl (ii_ne_t (ne32 a31 b31 hs)) (by decide) rfl ?_
      refine iconstV X0.here hexec rfl 0 (hb hbytes d34) (by decide) ?_
      exact Steps.refl _)
    exact ⟨s₁, some (.int 0), _, _, _, X0, rfl, rfl, rfl, (fun h => by cases h), ⟨0, rfl, hh0, Or.inr ⟨rfl, fun q => hs q.1⟩⟩, fun fs hl => c3.trans (X0.ireturnOut hexec hret rfl (Or.inr (Or.inl rfl)) (hb hbytes d35) hl)⟩
end LEq
theorem Cod.ty {cd : Int32} {n : Nat} {f : Nat → Int32} {V : Cell} (h : Cod cd n f V) : Typed .byte V := fun i v hv => by
  have hi : i < V.slots.size := (Array.getElem?_eq_some_iff.mp hv).1
  rcases h with ⟨-, k1, k2⟩ | ⟨-, k1, k2, -⟩
  · rw [(k2 i (by omega)).1] at hv; cases hv; exact fits_lo8 _
  · rcases Nat.mod_two_eq_zero_or_one i with e | e
    · obtain ⟨j, rfl⟩ : ∃ j, i = 2 * j := ⟨i / 2, by omega⟩
      rw [(k2 j (by omega)).1] at hv; cases hv; exact fits_lo8 _
    · obtain ⟨j, rfl⟩ : ∃ j, i = 2 * j + 1 := ⟨i / 2, by omega⟩
      rw [(k2 j (by omega)).2] at hv; cases hv; exact fits_lo8 _
/-- the same text -/
def SameT (n : Nat) (f : Nat → Int32) (k : Nat) (g : Nat → Int32) : Prop := n = k ∧ ∀ j, j < n → f j = g j
theorem lo8_inj {x y : Int32} (h0 : ¬ x < 0) (h1 : ¬ 255 < x) (k0 : ¬ y < 0) (k1 : ¬ 255 < y) (h : lo8 x = lo8 y) : x = y := by
  rw [← lo8_mask h0 h1, ← lo8_mask k0 k1, h]
/-- arrays coded by one coder are equal just where the texts are -/
theorem Cod.eqv {cd : Int32} {n k : Nat} {f g : Nat → Int32} {V V' : Cell} (h : Cod cd n f V) (h' : Cod cd k g V') (hf : ∀ j, j < n → ¬ f j < 0 ∧ ¬ 65535 < f j) (hg : ∀ j, j < k → ¬ g j < 0 ∧ ¬ 65535 < g j) : EqC V V' ↔ SameT n f k g := by
  have yvv : ∀ {W : Cell} {i : Nat} {x : Int32}, W.slots[i]? = some (.int x) → yv W i = x := fun q => by unfold yv; rw [q]
  rcases h with ⟨rfl, k1, k2⟩ | ⟨rfl, k1, k2, -⟩
  · rcases h' with ⟨-, m1, m2⟩ | ⟨e, -⟩
    · constructor
      · rintro ⟨e1, e2⟩
        refine ⟨by omega, fun j hj => ?_⟩
        have q := e2 j (by omega)
        rw [yvv (k2 j hj).1, yvv (m2 j (by omega)).1] at q
        exact lo8_inj (hf j hj).1 (k2 j hj).2 (hg j (by omega)).1 (m2 j (by omega)).2 q
      · rintro ⟨rfl, e2⟩
        refine ⟨by omega, fun j hj => ?_⟩
        rw [yvv (k2 j (by omega)).1, yvv (m2 j (by omega)).1, e2 j (by omega)]
    · exact absurd e (by decide)
  · rcases h' with ⟨e, -⟩ | ⟨-, m1, m2, -⟩
    · exact absurd e (by decide)
    · constructor
      · rintro ⟨e1, e2⟩
        refine ⟨by omega, fun j hj => ?_⟩
        have q1 := e2 (2 * j) (by omega)
        have q2 := e2 (2 * j + 1) (by omega)
        rw [yvv (k2 j hj).1, yvv (m2 j (by omega)).1] at q1
        rw [yvv (k2 j hj).2, yvv (m2 j (by omega)).2] at q2
        rw [← pair_says (hf j hj).1 (hf j hj).2, ← pair_says (hg j (by omega)).1 (hg j (by omega)).2, q1, q2]
      · rintro ⟨rfl, e2⟩
        refine ⟨by omega, fun i hi => ?_⟩
        rcases Nat.mod_two_eq_zero_or_one i with e | e
        · obtain ⟨j, rfl⟩ : ∃ j, i = 2 * j := ⟨i / 2, by omega⟩
          rw [yvv (k2 j (by omega)).1, yvv (m2 j (by omega)).1, e2 j (by omega)]
        · obtain ⟨j, rfl⟩ : ∃ j, i = 2 * j + 1 := ⟨i / 2, by omega⟩
          rw [yvv (k2 j (by omega)).2, yvv (m2 j (by omega)).2, e2 j (by omega)]
/-- two codings differ: so do the texts -/
theorem Cod.dif {cd cd' : Int32} {n k : Nat} {f g : Nat → Int32} {V V' : Cell} (h : Cod cd n f V) (h' : Cod cd' k g V') (hne : ¬ cd = cd') : ¬ SameT n f k g := by
  rintro ⟨rfl, e⟩
  rcases h with ⟨rfl, -, k2⟩ | ⟨rfl, -, -, j, hj, hw⟩
  · rcases h' with ⟨rfl, -⟩ | ⟨-, -, -, j, hj, hw⟩
    · exact hne rfl
    · exact (k2 j hj).2 (by rw [e j hj]; exact hw)
  · rcases h' with ⟨-, -, m2⟩ | ⟨rfl, -⟩
    · exact (m2 j hj).2 (by rw [← e j hj]; exact hw)
    · exact hne rfl
/-- an object of exactly C is an instance of C -/
theorem cinst {p : Program} {l : Launch} {e : Env} {R : Room} {s : State} {m : MethodId} {args : Array Value} {below : List Frame} {meth : Method} {c : Code} {T : State} {locs : List Loc} {cells slots : Nat} (X : Stand p l e R s m args below meth c T locs cells slots) (hexec : p.tables.exec = Jvm.exec) {own C : String} {index : Nat} (hown : s.vm.findClass own = some m.cls) (hlink : (Cond.classLink own index C).before args s = true) {a : Addr} (hE : Exact C a T)
    {g : JFrame} (hg : g.method = m) {rest : List Value} (hstack : g.stack = .ref a :: rest) (hdg : decode c.code g.pc = .ok (.instanceof index, 3)) :
    ∃ T', Stand p l e R s m args below meth c T' locs cells slots ∧ T'.heap = T.heap ∧ ∀ target, Steps p.tables e below (T'.setTop { g with pc := g.pc + 3, stack := .int 1 :: rest }) target → Steps p.tables e below (T.setTop g) target := by
  obtain ⟨cB, h1, D, h2, h3, h4⟩ := hE
  have h1' : s.vm.findClass C = some cB := by rw [← X.warmed.alike.findClass]; exact h1
  obtain ⟨vm', X', st⟩ := X.instanceofYes hexec hown hlink h2 h4 h1' (by rw [h3]; exact Jvm.Free.SB.assignable_self _ _) hg hstack hdg
  exact ⟨_, X', rfl, st⟩
theorem cself {p : Program} {l : Launch} {e : Env} {R : Room} {s : State} {m : MethodId} {args : Array Value} {below : List Frame} {meth : Method} {c : Code} {T : State} {locs : List Loc} {cells slots : Nat} (X : Stand p l e R s m args below meth c T locs cells slots) (hexec : p.tables.exec = Jvm.exec) {own C : String} {index : Nat} (hown : s.vm.findClass own = some m.cls) (hlink : (Cond.classLink own index C).before args s = true) {a : Addr} (hE : Exact C a T)
    {g : JFrame} (hg : g.method = m) {rest : List Value} (hstack : g.stack = .ref a :: rest) (hdg : decode c.code g.pc = .ok (.checkcast index, 3)) :
    ∃ T', Stand p l e R s m args below meth c T' locs cells slots ∧ T'.heap = T.heap ∧ ∀ target, Steps p.tables e below (T'.setTop { g with pc := g.pc + 3, stack := .ref a :: rest }) target → Steps p.tables e below (T.setTop g) target := by
  obtain ⟨cB, h1, D, h2, h3, h4⟩ := hE
  have h1' : s.vm.findClass C = some cB := by rw [← X.warmed.alike.findClass]; exact h1
  obtain ⟨vm', X', st⟩ := X.checkcastYes hexec hown hlink h2 h4 h1' (by rw [h3]; exact Jvm.Free.SB.assignable_self _ _) hg hstack hdg
  exact ⟨_, X', rfl, fun t h => st t (by rw [← hstack] at h; exact h)⟩
namespace SEq
def yN : MethodName := ⟨"java/lang/String", "equals", "(Ljava/lang/Object;)Z"⟩
abbrev yB : ByteArray := jdk_42_method_66_code
theorem d0 : decode yB 0 = .ok (.aload_n 0, 1) := by decide +kernel
theorem d1 : decode yB 1 = .ok (.aload_n 1, 1) := by decide +kernel
theorem d2 : decode yB 2 = .ok (.if_acmp (.ne) 5, 3) := by decide +kernel
theorem d5 : decode yB 5 = .ok (.iconst 1, 1) := by decide +kernel
theorem d6 : decode yB 6 = .ok (.ireturn, 1) := by decide +kernel
theorem d7 : decode yB 7 = .ok (.aload_n 1, 1) := by decide +kernel
theorem d8 : decode yB 8 = .ok (.instanceof 10, 3) := by decide +kernel
theorem d11 : decode yB 11 = .ok (.ifCond (.eq) 43, 3) := by decide +kernel
theorem d14 : decode yB 14 = .ok (.aload_n 1, 1) := by decide +kernel
theorem d15 : decode yB 15 = .ok (.checkcast 10, 3) := by decide +kernel
theorem d18 : decode yB 18 = .ok (.astore_n 2, 1) := by decide +kernel
theorem d19 : decode yB 19 = .ok (.getstatic 38, 3) := by decide +kernel
theorem d22 : decode yB 22 = .ok (.ifCond (.eq) 14, 3) := by decide +kernel
theorem d25 : decode yB 25 = .ok (.aload_n 0, 1) := by decide +kernel
theorem d26 : decode yB 26 = .ok (.getfield 15, 3) := by decide +kernel
theorem d29 : decode yB 29 = .ok (.aload_n 2, 1) := by decide +kernel
theorem d30 : decode yB 30 = .ok (.getfield 15, 3) := by decide +kernel
theorem d33 : decode yB 33 = .ok (.if_icmp (.ne) 21, 3) := by decide +kernel
theorem d36 : decode yB 36 = .ok (.aload_n 0, 1) := by decide +kernel
theorem d37 : decode yB 37 = .ok (.getfield 9, 3) := by decide +kernel
theorem d40 : decode yB 40 = .ok (.aload_n 2, 1) := by decide +kernel
theorem d41 : decode yB 41 = .ok (.getfield 9, 3) := by decide +kernel
theorem d44 : decode yB 44 = .ok (.invokestatic 541, 3) := by decide +kernel
theorem d47 : decode yB 47 = .ok (.ifCond (.eq) 7, 3) := by decide +kernel
theorem d50 : decode yB 50 = .ok (.iconst 1, 1) := by decide +kernel
theorem d51 : decode yB 51 = .ok (.goto 4, 3) := by decide +kernel
theorem d54 : decode yB 54 = .ok (.iconst 0, 1) := by decide +kernel
theorem d55 : decode yB 55 = .ok (.ireturn, 1) := by decide +kernel
def site : List Cond := [.classLink "java/lang/String" 10 "java/lang/String", .fieldLink "java/lang/String" 38 "java/lang/String" "COMPACT_STRINGS" "Z", .fieldLink "java/lang/String" 15 "java/lang/String" "coder" "B", .fieldLink "java/lang/String" 9 "java/lang/String" "value" "[B", LEq.tab] ++ staticW "java/lang/String" 541 LEq.yN
def tab : Cond := tabOf yN yB 3 (some .boolean) site
def P (x t : Addr) (V : Cell) (cd : Int32) (n : Nat) (f : Nat → Int32) (y t' : Addr) (V' : Cell) (cd' : Int32) (k : Nat) (g : Nat → Int32) (z : Int32) (args : Array Value) (s : State) : Prop := args = #[.ref x, .ref y] ∧ Txt x t V cd n f s ∧ Txt y t' V' cd' k g s ∧ StaticIs s "java/lang/String" "COMPACT_STRINGS" "Z" (.int z) ∧ ¬ z = 0
/-- equals(Object) of two Strings: whether the texts are the same -/
theorem law (l : Launch) (x t : Addr) (V : Cell) (cd : Int32) (n : Nat) (f : Nat → Int32) (y t' : Addr) (V' : Cell) (cd' : Int32) (k : Nat) (g : Nat → Int32) (z : Int32) : Law l yN 2 1 1 14 yB 3 (some .boolean) site (P x t V cd n f y t' V' cd' k g z) (Says01 (SameT n f k g)) [] 0 0 := by
  refine Law.of_walk (plainFor_of_name (by decide +kernel)) (by decide +kernel) (by decide +kernel) (by decide) (fun _ _ h => by rw [h.1]; rfl) (fun _ U U' hal hh h => ⟨h.1, h.2.1.mv hal hh, h.2.2.1.mv hal hh, h.2.2.2.1.there hal hh, h.2.2.2.2⟩) (fun r U U' V V' h1 hal h2 h => Says01.mv r U U' V V' h1 hal h2 h) ?_
  intro p e s m args below meth c s₁ X0 hexec hbytes hml hret hlk hnm hown hh0 W hP
  obtain ⟨rfl, hx, hy, s1, hz⟩ := hP
  have c1 : Steps p.tables e below (s₁.setTop (entryFrame m #[.ref x, .ref y] 3)) (s₁.setTop (mkF m 2 #[.val (.ref x), .val (.ref y), .unset] [.ref y, .ref x])) := Steps.trans (entry rfl) (by
    show Steps p.tables e below (s₁.setTop (mkF m 0 #[.val (.ref x), .val (.ref y), .unset] [])) _
    refine XS.aloadN X0.here hexec rfl (hb hbytes d0) rfl rfl ?_
    refine XS.aloadN X0.here hexec rfl (hb hbytes d1) rfl rfl ?_
    exact Steps.refl _)
  by_cases hxy : x = y
  · have c2 : Steps p.tables e below (s₁.setTop (entryFrame m #[.ref x, .ref y] 3)) (s₁.setTop (mkF m 6 #[.val (.ref x), .val (.ref y), .unset] [.int 1])) := c1.trans (by
      refine acmpNo X0.here hexec rfl (hb hbytes d2) rfl rfl rfl (by simp [acmp, hxy]) ?_
      refine iconstV X0.here hexec rfl 1 (hb hbytes d5) (by decide) ?_
      exact Steps.refl _)
    subst hxy
    have ec : cd = cd' := by
      obtain ⟨D, fd, a1, a2, a3⟩ := hx.2.2.1
      obtain ⟨D', fd', b1, b2, b3⟩ := hy.2.2.1
      cases a1.symm.trans b1
      obtain ⟨q1, q2, q3, q4⟩ := a2.1
      obtain ⟨r1, r2, r3, r4⟩ := b2.1
      cases q4.symm.trans r4
      cases a3.symm.trans b3; rfl
    have et : t = t' := by
      obtain ⟨D, fd, a1, a2, a3⟩ := hx.2.1
      obtain ⟨D', fd', b1, b2, b3⟩ := hy.2.1
      cases a1.symm.trans b1
      obtain ⟨q1, q2, q3, q4⟩ := a2.1
      obtain ⟨r1, r2, r3, r4⟩ := b2.1
      cases q4.symm.trans r4
      cases a3.symm.trans b3; rfl
    subst ec et
    have ev : V = V' := by cases hx.2.2.2.1.1.symm.trans hy.2.2.2.1.1; rfl
    subst ev
    have hs : SameT n f k g := (Cod.eqv hx.2.2.2.2.1 hy.2.2.2.2.1 hx.2.2.2.2.2 hy.2.2.2.2.2).mp ⟨rfl, fun _ _ => rfl⟩
    exact ⟨s₁, some (.int 1), _, _, _, X0, rfl, rfl, rfl, (fun h => by cases h), ⟨1, rfl, hh0, Or.inl ⟨rfl, hs⟩⟩, fun fs hl => c2.trans (X0.ireturnOut hexec hret rfl (Or.inr (Or.inl rfl)) (hb hbytes d6) hl)⟩
  · have c2 : Steps p.tables e below (s₁.setTop (entryFrame m #[.ref x, .ref y] 3)) (s₁.setTop (mkF m 8 #[.val (.ref x), .val (.ref y), .unset] [.ref y])) := c1.trans (by
      refine acmpYes X0.here hexec rfl (pc0 := 2) rfl (hb hbytes d2) rfl rfl rfl (by simp [acmp, hxy]) (by decide) rfl ?_
      refine XS.aloadN X0.here hexec rfl (hb hbytes d7) rfl rfl ?_
      exact Steps.refl _)
    obtain ⟨T3, X3, q3, st3⟩ := cinst X0 hexec hown (wk W (.classLink "java/lang/String" 10 "java/lang/String")) (hy.mv X0.warmed.alike hh0).1 (g := (mkF m 8 #[.val (.ref x), .val (.ref y), .unset] [.ref y])) rfl (rest := []) rfl (hb hbytes d8)
    have hh3 := q3.trans hh0
    have c4 : Steps p.tables e below (s₁.setTop (entryFrame m #[.ref x, .ref y] 3)) (T3.setTop (mkF m 15 #[.val (.ref x), .val (.ref y), .unset] [.ref y])) := (c2.trans (st3 _ (Steps.refl _))).trans (by
      refine XS.ifNo X3.here hexec rfl (hb hbytes d11) rfl (i0_eq_f (by decide)) ?_
      refine XS.aloadN X3.here hexec rfl (hb hbytes d14) rfl rfl ?_
      exact Steps.refl _)
    obtain ⟨T5, X5, q5, st5⟩ := cself X3 hexec hown (wk W (.classLink "java/lang/String" 10 "java/lang/String")) (hy.mv X3.warmed.alike hh3).1 (g := (mkF m 15 #[.val (.ref x), .val (.ref y), .unset] [.ref y])) rfl (rest := []) rfl (hb hbytes d15)
    have hh5 := q5.trans hh3
    have c6 : Steps p.tables e below (s₁.setTop (entryFrame m #[.ref x, .ref y] 3)) (T5.setTop (mkF m 19 #[.val (.ref x), .val (.ref y), .val (.ref y)] [])) := (c4.trans (st5 _ (Steps.refl _))).trans (by
      refine XS.astoreN X5.here hexec rfl (hb hbytes d18) rfl rfl rfl ?_
      exact Steps.refl _)
    obtain ⟨T7, X7, q7, st7⟩ := X5.sget hexec hown (wk W (.fieldLink "java/lang/String" 38 "java/lang/String" "COMPACT_STRINGS" "Z")) s1 (fun _ _ h => by rw [hh5]; exact h) (g := (mkF m 19 #[.val (.ref x), .val (.ref y), .val (.ref y)] [])) rfl (hb hbytes d19)
    have hh7 := q7.trans hh5
    have c8 : Steps p.tables e below (s₁.setTop (entryFrame m #[.ref x, .ref y] 3)) (T7.setTop (mkF m 26 #[.val (.ref x), .val (.ref y), .val (.ref y)] [.ref x])) := (c6.trans (st7 _ (Steps.refl _))).trans (by
      refine XS.ifNo X7.here hexec rfl (hb hbytes d22) rfl (i0_eq_f hz) ?_
      refine XS.aloadN X7.here hexec rfl (hb hbytes d25) rfl rfl ?_
      exact Steps.refl _)
    obtain ⟨T9, X9, q9, st9⟩ := X7.hget hexec hown (wk W (.fieldLink "java/lang/String" 15 "java/lang/String" "coder" "B")) (hx.mv X7.warmed.alike hh7).2.2.1 (g := (mkF m 26 #[.val (.ref x), .val (.ref y), .val (.ref y)] [.ref x])) rfl (rest := []) rfl (hb hbytes d26)
    have hh9 := q9.trans hh7
    have c10 : Steps p.tables e below (s₁.setTop (entryFrame m #[.ref x, .ref y] 3)) (T9.setTop (mkF m 30 #[.val (.ref x), .val (.ref y), .val (.ref y)] [.ref y, .int cd])) := (c8.trans (st9 _ (Steps.refl _))).trans (by
      refine XS.aloadN X9.here hexec rfl (hb hbytes d29) rfl rfl ?_
      exact Steps.refl _)
    obtain ⟨T11, X11, q11, st11⟩ := X9.hget hexec hown (wk W (.fieldLink "java/lang/String" 15 "java/lang/String" "coder" "B")) (hy.mv X9.warmed.alike hh9).2.2.1 (g := (mkF m 30 #[.val (.ref x), .val (.ref y), .val (.ref y)] [.ref y, .int cd])) rfl (rest := [.int cd]) rfl (hb hbytes d30)
    have hh11 := q11.trans hh9
    have c12 : Steps p.tables e below (s₁.setTop (entryFrame m #[.ref x, .ref y] 3)) (T11.setTop (mkF m 33 #[.val (.ref x), .val (.ref y), .val (.ref y)] [.int cd', .int cd])) := c10.trans (st11 _ (Steps.refl _))
    by_cases hcd : cd = cd'
    · subst hcd
      have c13 : Steps p.tables e below (s₁.setTop (entryFrame m #[.ref x, .ref y] 3)) (T11.setTop (mkF m 37 #[.val (.ref x), .val (.ref y), .val (.ref y)] [.ref x])) := c12.trans (by
        refine XS.icmpNo X11.here hexec rfl (hb hbytes d33) rfl (ii_ne_f rfl) ?_
        refine XS.aloadN X11.here hexec rfl (hb hbytes d36) rfl rfl ?_
        exact Steps.refl _)
      obtain ⟨T14, X14, q14, st14⟩ := X11.hget hexec hown (wk W (.fieldLink "java/lang/String" 9 "java/lang/String" "value" "[B")) (hx.mv X11.warmed.alike hh11).2.1 (g := (mkF m 37 #[.val (.ref x), .val (.ref y), .val (.ref y)] [.ref x])) rfl (rest := []) rfl (hb hbytes d37)
      have hh14 := q14.trans hh11
      have c15 : Steps p.tables e below (s₁.setTop (entryFrame m #[.ref x, .ref y] 3)) (T14.setTop (mkF m 41 #[.val (.ref x), .val (.ref y), .val (.ref y)] [.ref y, .ref t])) := (c13.trans (st14 _ (Steps.refl _))).trans (by
        refine XS.aloadN X14.here hexec rfl (hb hbytes d40) rfl rfl ?_
        exact Steps.refl _)
      obtain ⟨T16, X16, q16, st16⟩ := X14.hget hexec hown (wk W (.fieldLink "java/lang/String" 9 "java/lang/String" "value" "[B")) (hy.mv X14.warmed.alike hh14).2.1 (g := (mkF m 41 #[.val (.ref x), .val (.ref y), .val (.ref y)] [.ref y, .ref t])) rfl (rest := [.ref t]) rfl (hb hbytes d41)
      have hh16 := q16.trans hh14
      have c17 : Steps p.tables e below (s₁.setTop (entryFrame m #[.ref x, .ref y] 3)) (T16.setTop (mkF m 44 #[.val (.ref x), .val (.ref y), .val (.ref y)] [.ref t', .ref t])) := c15.trans (st16 _ (Steps.refl _))
      obtain ⟨v18, T18, X18, E18, g18⟩ := X16.callS hexec (LEq.law l t V t' V') hown (wks W (staticW "java/lang/String" 541 LEq.yN)) (wk W LEq.tab) (W := 0) (Nat.le_of_ble_eq_true rfl) (Nat.le_of_ble_eq_true rfl) (Nat.le_refl _) (Nat.le_refl _) (g := (mkF m 44 #[.val (.ref x), .val (.ref y), .val (.ref y)] [.ref t', .ref t])) rfl (by rw [hml]; rfl) c17 (argsL := [.ref t, .ref t']) (rest := []) rfl rfl (by show 2 * 0 + 0 ≤ _; decide) (hb hbytes d44) (⟨rfl, hx.2.2.2.1.mv X16.warmed.alike hh16, hx.2.2.2.2.1.ty, hy.2.2.2.1.mv X16.warmed.alike hh16, hy.2.2.2.2.1.ty⟩)
      obtain ⟨v, rfl, q18, hv⟩ := E18
      have iff := Cod.eqv hx.2.2.2.2.1 hy.2.2.2.2.1 hx.2.2.2.2.2 hy.2.2.2.2.2
      rcases hv with ⟨rfl, he⟩ | ⟨rfl, he⟩
      · have c19 : Steps p.tables e below (s₁.setTop (entryFrame m #[.ref x, .ref y] 3)) (T18.setTop (mkF m 55 #[.val (.ref x), .val (.ref y), .val (.ref y)] [.int 1])) := Steps.trans g18 (by
          refine XS.ifNo X18.here hexec rfl (hb hbytes d47) rfl (i0_eq_f (by decide)) ?_
          refine iconstV X18.here hexec rfl 1 (hb hbytes d50) (by decide) ?_
          refine XS.goto X18.here hexec rfl (pc0 := 51) rfl (hb hbytes d51) (by decide) rfl ?_
          exact Steps.refl _)
        exact ⟨T18, some (.int 1), _, _, _, X18, rfl, rfl, rfl, (fun h => by cases h), ⟨1, rfl, q18.trans hh16, Or.inl ⟨rfl, iff.mp he⟩⟩, fun fs hl => c19.trans (X18.ireturnOut hexec hret rfl (Or.inr (Or.inl rfl)) (hb hbytes d55) hl)⟩
      · have c19 : Steps p.tables e below (s₁.setTop (entryFrame m #[.ref x, .ref y] 3)) (T18.setTop (mkF m 55 #[.val (.ref x), .val (.ref y), .val (.ref y)] [.int 0])) := Steps.trans g18 (by
          refine XS.ifYes X18.here hexec rfl (pc0 := 47) rfl (hb hbytes d47) rfl (i0_eq_t rfl) (by decide) rfl ?_
          refine iconstV X18.here hexec rfl 0 (hb hbytes d54) (by decide) ?_
          exact Steps.refl _)
        exact ⟨T18, some (.int 0), _, _, _, X18, rfl, rfl, rfl, (fun h => by cases h), ⟨0, rfl, q18.trans hh16, Or.inr ⟨rfl, fun q => he (iff.mpr q)⟩⟩, fun fs hl => c19.trans (X18.ireturnOut hexec hret rfl (Or.inr (Or.inl rfl)) (hb hbytes d55) hl)⟩
    · have c13 : Steps p.tables e below (s₁.setTop (entryFrame m #[.ref x, .ref y] 3)) (T11.setTop (mkF m 55 #[.val (.ref x), .val (.ref y), .val (.ref y)] [.int 0])) := c12.trans (by
        refine XS.icmpYes X11.here hexec rfl (pc0 := 33) rfl (hb hbytes d33) rfl (ii_ne_t hcd) (by decide) rfl ?_
        refine iconstV X11.here hexec rfl 0 (hb hbytes d54) (by decide) ?_
        exact Steps.refl _)
      exact ⟨T11, some (.int 0), _, _, _, X11, rfl, rfl, rfl, (fun h => by cases h), ⟨0, rfl, hh11, Or.inr ⟨rfl, Cod.dif hx.2.2.2.2.1 hy.2.2.2.2.1 hcd⟩⟩, fun fs hl => c13.trans (X11.ireturnOut hexec hret rfl (Or.inr (Or.inl rfl)) (hb hbytes d55) hl)⟩
theorem pays {l : Launch} {R : Room} {p : Program} {e : Env} {below : List Frame} {s : State} {sargs : Array Value} {len W : Nat} (x t : Addr) (V : Cell) (cd : Int32) (n : Nat) (f : Nat → Int32) (y t' : Addr) (V' : Cell) (cd' : Int32) (k : Nat) (g : Nat → Int32) (z : Int32) (htab : tab.before sargs s = true) (hfr : 2 ≤ R.frames) (hlo : W + 28 ≤ R.locals) :
    Back l R p e below s sargs yN len W (fun A₁ a₁ => A₁.cells + 0 ≤ R.cells ∧ A₁.slots + 0 ≤ R.slots ∧ P x t V cd n f y t' V' cd' k g z a₁ A₁.U) (fun A₁ _ v₁ B₁ => Says01 (SameT n f k g) v₁ A₁.U B₁.U ∧ B₁.locs = A₁.locs ++ [] ∧ B₁.cells = A₁.cells + 0 ∧ B₁.slots = A₁.slots + 0) :=
  (law l x t V cd n f y t' V' cd' k g z).pays htab hfr (by omega)
end SEq
end StrChars
namespace StrChars.Road
open Jvm Sem ClassFile Op Lib Jvm.Stand Jvm.Free Jvm.Free.XT
open Jvm.Lib.Cold (StaticIs)
/-- the words of String.equals(Object) -/
abbrev wordsEq : List Jvm.Cond := [.code SEq.yN SEq.yB 3 (some .boolean), .initialized ST, .classLink ST 10 ST, .fieldLink ST 38 ST "COMPACT_STRINGS" "Z", .fieldLink ST 15 ST "coder" "B", .fieldLink ST 9 ST "value" "[B", .methodLink ST 541 LEq.yN, .static LEq.yN, .code LEq.yN LEq.yB 3 (some .boolean), .initialized "java/lang/StringLatin1"]
theorem tabEq_of {a : Array Value} {s : State} (h : ∀ w ∈ wordsEq, w.before a s = true) : SEq.tab.before a s = true := by
  have hl : LEq.tab.before a s = true := unparts (wk h (.code LEq.yN LEq.yB 3 (some .boolean))) (wks h (.initialized LEq.yN.cls :: LEq.site))
  have q := consq hl h
  exact unparts (wk q (.code SEq.yN SEq.yB 3 (some .boolean))) (wks q (.initialized SEq.yN.cls :: SEq.site))
theorem movedEq {Z s : State} {a0 args : Array Value} (hZ : Z.Warmed39 s.vm) (hw : ∀ d ∈ wordsEq, d.before a0 Z = true) : ∀ d ∈ wordsEq, d.before args s = true := fun d hd => by
  have t : ∀ d ∈ wordsEq, (d.onTables && d.keepsFace) = true := by decide +kernel
  exact RoadKit.mv hZ (hw d hd) (t d hd)
/-- the road's facts of a String, as the laws ask it -/
theorem txt_of {Z U : State} {a0 : Array Value} {kI : Nat} (wi : (Jvm.Cond.instantiable ST kI).before a0 Z = true) (al : Z.vm.Alike U.vm) {x t : Addr} {kb : ClassId} {cs : List Int32} {cd N2 : Int32} {vs : List Value} (E : RoadKit.Exa Z U.heap x ST) (V : RoadKit.Fld Z U.heap x ST "value" "[B" (.ref t)) (C : RoadKit.Fld Z U.heap x ST "coder" "B" (.int cd)) (K : RoadKit.Arv Z U.heap t kb .byte N2 vs (.int 0)) (hc : CodA cs cd N2 vs) (hb : ∀ c ∈ cs, ¬ c < 0 ∧ ¬ (65535 : Int32) < c) (l2 : cs.length ≤ 4000) :
    ∃ A, Txt x t A cd cs.length (fun j => cs.getD j 0) U := by
  obtain ⟨A, K1, K2, K3, K4, K5, K6⟩ := K
  have hcod := hc.cod (by omega) K3 K5
  obtain ⟨D, fV, fC, hB, F1, F2, g1, g2, -, -⟩ := strObj wi al E V C
  exact ⟨A, ⟨_, hB.2.2.1, D, hB.1, rfl, by cases q : D.vm <;> first | rfl | exact absurd q (hB.2.1.2 _)⟩, Has.of hB F1 g1, Has.of hB F2 g2, ⟨K1.1, State.isArrayOf_alike al K1.2.1, K1.2.2, by rcases hcod with ⟨-, q, -⟩ | ⟨-, q, -⟩ <;> omega⟩, hcod, fun j hj => by
    have e : cs.getD j 0 = cs[j] := by simp [List.getD_eq_getElem?_getD, hj]
    show ¬ cs.getD j 0 < 0 ∧ ¬ 65535 < cs.getD j 0
    rw [e]; exact hb _ (List.getElem_mem _)⟩
theorem same_list (cs ds : List Int32) : SameT cs.length (fun j => cs.getD j 0) ds.length (fun j => ds.getD j 0) ↔ cs = ds := by
  constructor
  · rintro ⟨e, q⟩
    refine List.ext_getElem e fun j h1 h2 => ?_
    have := q j h1
    simpa [List.getD_eq_getElem?_getD, h1, h2] using this
  · rintro rfl
    exact ⟨rfl, fun _ _ => rfl⟩
/-- **equals(Object) OF TWO SUCH STRINGS**: 1 just where the chars are the same -/
theorem eqW {p : Program} {l : Launch} {e : Env} {R : Room} {s : State} {args : Array Value} {below : List Frame} {len W : Nat} {Z : State} {a0 : Array Value} {h : Heap} (hZ : Z.Warmed39 s.vm) (hw : ∀ d ∈ wordsEq, d.before a0 Z = true) {kI : Nat} (wi : (Jvm.Cond.instantiable ST kI).before a0 Z = true)
    {x t : Addr} {kb : ClassId} {cs : List Int32} {cd N2 : Int32} {vs : List Value} (E : RoadKit.Exa Z h x ST) (V : RoadKit.Fld Z h x ST "value" "[B" (.ref t)) (C : RoadKit.Fld Z h x ST "coder" "B" (.int cd)) (K : RoadKit.Arv Z h t kb .byte N2 vs (.int 0)) (hc : CodA cs cd N2 vs) (hb : ∀ c ∈ cs, ¬ c < 0 ∧ ¬ (65535 : Int32) < c) (l2 : cs.length ≤ 4000)
    {y t' : Addr} {kb' : ClassId} {ds : List Int32} {cd' N2' : Int32} {vs' : List Value} (E' : RoadKit.Exa Z h y ST) (V' : RoadKit.Fld Z h y ST "value" "[B" (.ref t')) (C' : RoadKit.Fld Z h y ST "coder" "B" (.int cd')) (K' : RoadKit.Arv Z h t' kb' .byte N2' vs' (.int 0)) (hc' : CodA ds cd' N2' vs') (hb' : ∀ c ∈ ds, ¬ c < 0 ∧ ¬ (65535 : Int32) < c) (l2' : ds.length ≤ 4000)
    {z : Int32} (S : RoadKit.Sta Z h ST "COMPACT_STRINGS" "Z" (.int z)) (hz : ¬ z = 0) (hfr : 2 ≤ R.frames) (hlo : W + 28 ≤ R.locals) :
    Back l R p e below s args (⟨"java/lang/String", "equals", "(Ljava/lang/Object;)Z"⟩ : MethodName) len W (fun P a => a = #[.ref x, .ref y] ∧ P.U.heap = h ∧ P.cells + 0 ≤ R.cells ∧ P.slots + 0 ≤ R.slots)
      (fun P _ v B => ∃ L, (((v = some (.int 1) ∧ cs = ds) ∨ (v = some (.int 0) ∧ ¬ cs = ds)) ∧ L = [] ∧ B.U.heap = h) ∧ B.locs = P.locs ++ L ∧ B.cells = P.cells + 0 ∧ B.slots = P.slots + 0) := by
  intro m meth c P g ig mk a X hg hsize hdg hW hn hp'
  obtain ⟨rfl, rfl, r1, r2⟩ := hp'
  have al : Z.vm.Alike P.U.vm := hZ.alike.trans X.warmed.alike
  obtain ⟨A, hx⟩ := txt_of wi al E V C K hc hb l2
  obtain ⟨A', hy⟩ := txt_of wi al E' V' C' K' hc' hb' l2'
  obtain ⟨v, B, X', ⟨⟨w, hv, hh, hq⟩, hl, hk, hs⟩, st⟩ := SEq.pays x t A cd cs.length (fun j => cs.getD j 0) y t' A' cd' ds.length (fun j => ds.getD j 0) z (tabEq_of (movedEq hZ hw)) hfr hlo m meth c P g ig mk _ X hg hsize hdg hW hn ⟨r1, r2, rfl, hx, hy, sta_is al S, hz⟩
  refine ⟨v, B, X', ⟨[], ⟨?_, rfl, hh⟩, hl, hk, hs⟩, st⟩
  rcases hq with ⟨rfl, q⟩ | ⟨rfl, q⟩
  · exact Or.inl ⟨hv, (same_list cs ds).mp q⟩
  · exact Or.inr ⟨hv, fun e => q ((same_list cs ds).mpr e)⟩
end StrChars.Road
namespace StrChars
open Jvm Sem ClassFile Op Lib Jvm.Stand Jvm.Free.XT Jvm.Free.ALB Jvm.Free.JM Jvm.Free
open Jvm.Lib.Cold (StaticIs)
namespace ChN
def yN : MethodName := ⟨"java/lang/String", "charAt", "(I)C"⟩
abbrev yB : ByteArray := jdk_42_method_56_code
theorem d0 : decode yB 0 = .ok (.aload_n 0, 1) := by decide +kernel
theorem d1 : decode yB 1 = .ok (.invokevirtual 492, 3) := by decide +kernel
theorem d4 : decode yB 4 = .ok (.ifCond (.eq) 12, 3) := by decide +kernel
theorem d7 : decode yB 7 = .ok (.aload_n 0, 1) := by decide +kernel
theorem d8 : decode yB 8 = .ok (.getfield 9, 3) := by decide +kernel
theorem d11 : decode yB 11 = .ok (.iload_n 1, 1) := by decide +kernel
theorem d12 : decode yB 12 = .ok (.invokestatic 495, 3) := by decide +kernel
theorem d15 : decode yB 15 = .ok (.ireturn, 1) := by decide +kernel
def site : List Cond := [.fieldLink "java/lang/String" 9 "java/lang/String" "value" "[B", IsL.tab, LChA.tab] ++ virtW "java/lang/String" 492 "java/lang/String" IsL.yN IsL.yN ++ staticW "java/lang/String" 495 LChA.yN
def tab : Cond := tabOf yN yB 2 (some .char) site
def P (x t : Addr) (V : Cell) (n : Nat) (f : Nat → Int32) (z : Int32) (fm : Value) (i : Nat) (args : Array Value) (s : State) : Prop := args = #[.ref x, .int (Int32.ofNat i)] ∧ Txt x t V 0 n f s ∧ i < n ∧ StaticIs s "java/lang/String" "COMPACT_STRINGS" "Z" (.int z) ∧ ¬ z = 0 ∧ StaticIs s "jdk/internal/util/Preconditions" "SIOOBE_FORMATTER" "Ljava/util/function/BiFunction;" fm ∧ fm.isRef = true
def E (f : Nat → Int32) (i : Nat) (r : Option Value) (s u : State) : Prop := XT.PureE (some (.int (f i))) r s u
/-- charAt(i) of a Latin-1 String of n chars, i < n: f i -/
theorem law (l : Launch) (x t : Addr) (V : Cell) (n : Nat) (f : Nat → Int32) (z : Int32) (fm : Value) (i : Nat) : Law l yN 2 1 3 40 yB 2 (some .char) site (P x t V n f z fm i) (E f i) [] 0 0 := by
  refine Law.of_walk (plainFor_of_name (by decide +kernel)) (by decide +kernel) (by decide +kernel) (by decide) (fun _ _ h => by rw [h.1]; rfl) (fun _ U U' hal hh h => ⟨h.1, h.2.1.mv hal hh, h.2.2.1, h.2.2.2.1.there hal hh, h.2.2.2.2.1, h.2.2.2.2.2.1.there hal hh, h.2.2.2.2.2.2⟩) (fun r U U' V V' h1 hal h2 h => XT.PureE.mv r U U' V V' h1 hal h2 h) ?_
  intro p e s m args below meth c s₁ X0 hexec hbytes hml hret hlk hnm hown hh0 W hP
  obtain ⟨rfl, hx, hi, s1, hz, s3, rf⟩ := hP
  have v31 := hx.2.2.2.1.2.2.2
  have hr := hx.2.2.2.2.2 i hi
  have hx0 := hx.mv X0.warmed.alike hh0
  have c1 : Steps p.tables e below (s₁.setTop (entryFrame m #[.ref x, .int (Int32.ofNat i)] 2)) (s₁.setTop (mkF m 1 #[.val (.ref x), .val (.int (Int32.ofNat i))] [.ref x])) := Steps.trans (entry rfl) (by
    show Steps p.tables e below (s₁.setTop (mkF m 0 #[.val (.ref x), .val (.int (Int32.ofNat i))] [])) _
    refine XS.aloadN X0.here hexec rfl (hb hbytes d0) rfl rfl ?_
    exact Steps.refl _)
  obtain ⟨v2, T2, X2, E2, g2⟩ := X0.callV hexec (IsL.law l x 0 z) hown (wks W (virtW "java/lang/String" 492 "java/lang/String" IsL.yN IsL.yN)) rfl (by decide) (wk W IsL.tab) (W := 0) (Nat.le_of_ble_eq_true rfl) (Nat.le_of_ble_eq_true rfl) (Nat.le_refl _) (Nat.le_refl _) (hx0.1.fc X0.warmed.alike) hx0.1.is (g := (mkF m 1 #[.val (.ref x), .val (.int (Int32.ofNat i))] [.ref x])) rfl (by rw [hml]; rfl) c1 (argsL := []) (rest := []) rfl rfl (by show 2 * 0 + 0 ≤ _; decide) (hb hbytes d1) (⟨rfl, hx0.2.2.1, hx.2.2.2.2.1.cd, s1.there X0.warmed.alike hh0, hz⟩)
  obtain ⟨rfl, q2⟩ := E2
  have hh2 := q2.trans hh0
  have hx2 := hx.mv X2.warmed.alike hh2
  obtain ⟨-, k1, k2⟩ | ⟨k0, -⟩ := hx.2.2.2.2.1
  · have c3 : Steps p.tables e below (s₁.setTop (entryFrame m #[.ref x, .int (Int32.ofNat i)] 2)) (T2.setTop (mkF m 8 #[.val (.ref x), .val (.int (Int32.ofNat i))] [.ref x])) := Steps.trans g2 (by
      refine XS.ifNo X2.here hexec rfl (hb hbytes d4) rfl (i0_eq_f (by decide)) ?_
      refine XS.aloadN X2.here hexec rfl (hb hbytes d7) rfl rfl ?_
      exact Steps.refl _)
    obtain ⟨T4, X4, q4, st4⟩ := X2.hget hexec hown (wk W (.fieldLink "java/lang/String" 9 "java/lang/String" "value" "[B")) hx2.2.1 (g := (mkF m 8 #[.val (.ref x), .val (.int (Int32.ofNat i))] [.ref x])) rfl (rest := []) rfl (hb hbytes d8)
    have hh4 := q4.trans hh2
    have c5 : Steps p.tables e below (s₁.setTop (entryFrame m #[.ref x, .int (Int32.ofNat i)] 2)) (T4.setTop (mkF m 12 #[.val (.ref x), .val (.int (Int32.ofNat i))] [.int (Int32.ofNat i), .ref t])) := (c3.trans (st4 _ (Steps.refl _))).trans (by
      refine XS.iloadN X4.here hexec rfl (hb hbytes d11) rfl ?_
      exact Steps.refl _)
    obtain ⟨v6, T6, X6, E6, g6⟩ := X4.callS hexec (LChA.law l t V i (lo8 (f i)) fm) hown (wks W (staticW "java/lang/String" 495 LChA.yN)) (wk W LChA.tab) (W := 0) (Nat.le_of_ble_eq_true rfl) (Nat.le_of_ble_eq_true rfl) (Nat.le_refl _) (Nat.le_refl _) (g := (mkF m 12 #[.val (.ref x), .val (.int (Int32.ofNat i))] [.int (Int32.ofNat i), .ref t])) rfl (by rw [hml]; rfl) c5 (argsL := [.ref t, .int (Int32.ofNat i)]) (rest := []) rfl rfl (by show 2 * 0 + 0 ≤ _; decide) (hb hbytes d12) (⟨rfl, hx.2.2.2.1.mv X4.warmed.alike hh4, (k2 i hi).1, s3.there X4.warmed.alike hh4, rf⟩)
    obtain ⟨rfl, q6⟩ := E6
    rw [chr8_lo8 hr.1 (k2 i hi).2] at g6
    exact ⟨T6, some (.int (f i)), _, _, _, X6, rfl, rfl, rfl, (fun h => by cases h), ⟨rfl, q6.trans hh4⟩, fun fs hl => Steps.trans g6 (X6.ireturnOut hexec hret (narrow_ch hr.1 hr.2) (Or.inr (Or.inr (Or.inr (Or.inl rfl)))) (hb hbytes d15) hl)⟩
  · exact absurd k0 (by decide)
theorem pays {l : Launch} {R : Room} {p : Program} {e : Env} {below : List Frame} {s : State} {sargs : Array Value} {len W : Nat} (x t : Addr) (V : Cell) (n : Nat) (f : Nat → Int32) (z : Int32) (fm : Value) (i : Nat) (htab : tab.before sargs s = true) (hfr : 4 ≤ R.frames) (hlo : W + 53 ≤ R.locals) :
    Back l R p e below s sargs yN len W (fun A₁ a₁ => A₁.cells + 0 ≤ R.cells ∧ A₁.slots + 0 ≤ R.slots ∧ P x t V n f z fm i a₁ A₁.U) (fun A₁ _ v₁ B₁ => E f i v₁ A₁.U B₁.U ∧ B₁.locs = A₁.locs ++ [] ∧ B₁.cells = A₁.cells + 0 ∧ B₁.slots = A₁.slots + 0) :=
  (law l x t V n f z fm i).pays htab hfr (by omega)
end ChN
end StrChars
namespace StrChars.Road
open Jvm Sem ClassFile Op Lib Jvm.Stand Jvm.Free Jvm.Free.XT
open Jvm.Lib.Cold (StaticIs)
/-- the words of String.charAt(int), the Latin-1 road alone -/
abbrev wordsChN : List Jvm.Cond := [.code ChN.yN ChN.yB 2 (some .char), .initialized ST, .fieldLink ST 9 ST "value" "[B", .fieldLink ST 38 ST "COMPACT_STRINGS" "Z", .fieldLink ST 15 ST "coder" "B", .code IsL.yN IsL.yB 1 (some .boolean), .methodLink ST 492 IsL.yN, .declares IsL.yN, .selects ST IsL.yN IsL.yN, .instanceMethod IsL.yN,
  .methodLink ST 495 LChA.yN, .static LChA.yN, .code LChA.yN LChA.yB 2 (some .char), .initialized "java/lang/StringLatin1", .methodLink "java/lang/StringLatin1" 9 JO.Str_checkIndex.yN, .static JO.Str_checkIndex.yN, .code JO.Str_checkIndex.yN JO.Str_checkIndex.yB 2 none,
  .fieldLink ST 1053 "jdk/internal/util/Preconditions" "SIOOBE_FORMATTER" "Ljava/util/function/BiFunction;", .methodLink ST 1059 JC.PreCheck.yN, .static JC.PreCheck.yN, .code JC.PreCheck.yN JC.PreCheck.yB 3 (some .int), .initialized "jdk/internal/util/Preconditions"]
theorem tabChN_of {a : Array Value} {s : State} (h : ∀ w ∈ wordsChN, w.before a s = true) : ChN.tab.before a s = true := by
  have hp : JC.PreCheck.tab.before a s = true := unparts (wk h (.code JC.PreCheck.yN JC.PreCheck.yB 3 (some .int))) (wks h (.initialized JC.PreCheck.yN.cls :: JC.PreCheck.site))
  have qk := consq hp h
  have hk : JO.Str_checkIndex.tab.before a s = true := unparts (wk qk (.code JO.Str_checkIndex.yN JO.Str_checkIndex.yB 2 none)) (wks qk (.initialized JO.Str_checkIndex.yN.cls :: JO.Str_checkIndex.site))
  have ql := consq hk h
  have hl : LChA.tab.before a s = true := unparts (wk ql (.code LChA.yN LChA.yB 2 (some .char))) (wks ql (.initialized LChA.yN.cls :: LChA.site))
  have hi : IsL.tab.before a s = true := unparts (wk h (.code IsL.yN IsL.yB 1 (some .boolean))) (wks h (.initialized IsL.yN.cls :: IsL.site))
  have q := consq hi (consq hl h)
  exact unparts (wk q (.code ChN.yN ChN.yB 2 (some .char))) (wks q (.initialized ChN.yN.cls :: ChN.site))
theorem movedChN {Z s : State} {a0 args : Array Value} (hZ : Z.Warmed39 s.vm) (hw : ∀ d ∈ wordsChN, d.before a0 Z = true) : ∀ d ∈ wordsChN, d.before args s = true := fun d hd => by
  have t : ∀ d ∈ wordsChN, (d.onTables && d.keepsFace) = true := by decide +kernel
  exact RoadKit.mv hZ (hw d hd) (t d hd)
/-- **charAt(i) OF A LATIN-1 STRING**, i < n: the char -/
theorem chN {p : Program} {l : Launch} {e : Env} {R : Room} {s : State} {args : Array Value} {below : List Frame} {len W : Nat} {Z : State} {a0 : Array Value} {h : Heap} (hZ : Z.Warmed39 s.vm) (hw : ∀ d ∈ wordsChN, d.before a0 Z = true) {kI : Nat} (wi : (Jvm.Cond.instantiable ST kI).before a0 Z = true)
    {x t : Addr} {kb : ClassId} {cs : List Int32} {N2 z : Int32} {vs : List Value} {fm : Value} {i : Nat} {j : Int32} (E : RoadKit.Exa Z h x ST) (V : RoadKit.Fld Z h x ST "value" "[B" (.ref t)) (C : RoadKit.Fld Z h x ST "coder" "B" (.int 0)) (K : RoadKit.Arv Z h t kb .byte N2 vs (.int 0)) (hc : CodA cs 0 N2 vs) (hb : ∀ c ∈ cs, ¬ c < 0 ∧ ¬ (65535 : Int32) < c)
    (S : RoadKit.Sta Z h ST "COMPACT_STRINGS" "Z" (.int z)) (hz : ¬ z = 0) (F : RoadKit.Sta Z h "jdk/internal/util/Preconditions" "SIOOBE_FORMATTER" "Ljava/util/function/BiFunction;" fm) (rf : fm.isRef = true) (l2 : cs.length ≤ 4000) (hi : i < cs.length) (hj : j = Int32.ofNat i) (hfr : 4 ≤ R.frames) (hlo : W + 53 ≤ R.locals) :
    Back l R p e below s args (⟨"java/lang/String", "charAt", "(I)C"⟩ : MethodName) len W (fun P a => a = #[.ref x, .int j] ∧ P.U.heap = h ∧ P.cells + 0 ≤ R.cells ∧ P.slots + 0 ≤ R.slots)
      (fun P _ v B => ∃ L, (v = some (.int (cs.getD i 0)) ∧ L = [] ∧ B.U.heap = h) ∧ B.locs = P.locs ++ L ∧ B.cells = P.cells + 0 ∧ B.slots = P.slots + 0) := by
  subst hj
  intro m meth c P g ig mk a X hg hsize hdg hW hn hp'
  obtain ⟨rfl, rfl, r1, r2⟩ := hp'
  have al : Z.vm.Alike P.U.vm := hZ.alike.trans X.warmed.alike
  obtain ⟨A, hx⟩ := txt_of wi al E V C K hc hb l2
  obtain ⟨v, B, X', ⟨⟨hv, hh⟩, hl, hk, hs⟩, st⟩ := ChN.pays x t A cs.length (fun j => cs.getD j 0) z fm i (tabChN_of (movedChN hZ hw)) hfr hlo m meth c P g ig mk _ X hg hsize hdg hW hn ⟨r1, r2, rfl, hx, hi, sta_is al S, hz, sta_is al F, rf⟩
  exact ⟨v, B, X', ⟨[], ⟨hv, rfl, hh⟩, hl, hk, hs⟩, st⟩
/-- what backV says of its String, as the contracts of this text ask it: cs's low bytes, coder 0 -/
theorem codOf {cs : List Int32} {n : Nat} (hn : cs.length = n) (hb : ∀ c ∈ cs, ¬ 255 < c) : CodA cs 0 (Int32.ofNat n) ((cs.map lo8).map Value.int) := Or.inl ⟨rfl, by rw [hn], by simp [List.map_map, Function.comp_def], hb⟩
end StrChars.Road
end Jvm.Pilot.@@N@@
namespace Jvm.Pilot.@@N@@
open Jvm Jvm.ClassFile Sem Op Lib Jvm.Free Jvm.Stand Jvm.LawKit Jvm.RoadKit Bundle Jvm.Pilot.@@N@@.Jvm.D
theorem own_w {Z : State} {a0 : Array Value} (hw : ∀ d ∈ tables_1, d.before a0 Z = true) (i : Nat) {d : Jvm.Cond} (h : tables_1[i]? = some d) : d.before a0 Z = true := hw d (List.mem_of_getElem? h)
/-- the run goes on from here to an end at which K holds -/
def own_Go (p : Program) (e : Env) (below : List Frame) (T : State) (g : JFrame) (K : State → Outcome → Prop) : Prop := ∃ s₂ o, Steps p.tables e below (T.setTop g) s₂ ∧ K s₂ o
section OwnGo
variable {p : Program} {l : Launch} {e : Env} {R : Room} {s : State} {m : MethodId} {args : Array Value} {below : List Frame} {meth : Method} {c : Code} {T T' s₂ : State} {o : Outcome} {locs : List Loc} {cells slots : Nat} {g g' : JFrame} {K : State → Outcome → Prop}
theorem own_loop {F : Int32 → JFrame} {I : Nat → Int32 → Prop} {k0 : Nat} {i0 : Int32} (h0 : I k0 i0) (step : ∀ k i, I k i → (∀ k' i', k' < k → I k' i' → own_Go p e below T (F i') K) → own_Go p e below T (F i) K) : own_Go p e below T (F i0) K := by
  induction k0 using Nat.strongRecOn generalizing i0 with
  | ind k ih => exact step k i0 h0 fun k' i' hk' h' => ih k' hk' h'
theorem own_hold (h : ∀ KK : State → Outcome → Prop, (∀ a b, K a b → KK a b) → own_Go p e below T g KK) : own_Go p e below T g K := h K fun _ _ q => q
theorem own_enter (q : g = g') (k : own_Go p e below T g' K) : ∃ s₂ o, Steps p.tables e below (T.setTop g) s₂ ∧ K s₂ o := by subst q; exact k
theorem own_st (h : ∀ t, Steps p.tables e below (T'.setTop g') t → Steps p.tables e below (T.setTop g) t) (k : own_Go p e below T' g' K) : own_Go p e below T g K := by
  obtain ⟨s2, o, h1, h2⟩ := k
  exact ⟨s2, o, h _ h1, h2⟩
theorem own_tr (h : Steps p.tables e below (T.setTop g) (T'.setTop g')) (k : own_Go p e below T' g' K) : own_Go p e below T g K := own_st (fun _ q => h.trans q) k
theorem own_fin (h : Steps p.tables e below (T.setTop g) s₂) (k : K s₂ o) : own_Go p e below T g K := ⟨s₂, o, h, k⟩
theorem own_setA {A B : List Value} {d v : Value} : (A ++ d :: B).set A.length v = (A ++ [v]) ++ B := by simp
theorem own_cst {Z : State} {h hA : Heap} {n0 : Nat} {b : Addr} {kk : ClassId} {z : Int32} {ps : List Int32} {dv : Value} {r i : Nat} {j w : Int32} (X : Stand p l e R s m args below meth c T locs cells slots) (hx : p.tables.exec = Jvm.exec) (hZ : Z.Warmed39 s.vm) (eT : T.heap = h) (V : Arv Z h b kk .char z (ps.reverse.map Value.int ++ List.replicate (r + 1) dv) dv) (hl : ps.length = i) (hj : j.toNatClampNeg = i) (hin : ¬ j < 0 ∧ j < z) (hv : nar .char w = w) (N : Fr n0 locs) (Kb : Keep hA h [b]) (G : n0 ≤ b) {pc : Nat} {Ls : Array Slot} {rest : List Value} (hd : decode c.code pc = .ok (.castore, 1))
    (k : ∀ (T' : State) (h' : Heap) (L' : List Loc) (ps' : List Int32), Stand p l e R s m args below meth c T' L' cells slots → T'.heap = h' → ps' = w :: ps → ps'.length = i + 1 → Arv Z h' b kk .char z (ps'.reverse.map Value.int ++ List.replicate r dv) dv → Fr n0 L' → Keep hA h' [b] → own_Go p e below T' (mkF m (pc + 1) Ls rest) K) : own_Go p e below T (mkF m pc Ls (.int w :: .int j :: .ref b :: rest)) K := by
  obtain ⟨cl, Ar, q, Sz, Nn, Hh, Gg⟩ := id V
  obtain ⟨T', h', X', e', W', st'⟩ := stC X hx hZ eT Ar (j := j) (inb_of Sz hin) (g := mkF m pc Ls (.int w :: .int j :: .ref b :: rest)) rfl rfl hd
  have hlen : (ps.reverse.map Value.int).length = i := by rw [List.length_map, List.length_reverse]; exact hl
  have V' := Arv.set Ar q Sz Nn Hh Gg (fits_nar_char _) W' i hj (by rw [List.length_append, hlen, List.length_replicate]; omega)
  rw [hv, List.replicate_succ, ← hlen, own_setA] at V'
  have V2 : Arv Z h' b kk .char z ((w :: ps).reverse.map Value.int ++ List.replicate r dv) dv := by rw [List.reverse_cons, List.map_append]; exact V'
  exact own_st st' (k T' h' _ _ X' e' rfl (by rw [List.length_cons, hl]) V2 (Fr.snoc X' N G) (Kb.wr W' (Or.inl (List.mem_of_getElem? (i := 0) rfl))))
theorem own_retI (X : Stand p l e R s m args below meth c T locs cells slots) (hx : p.tables.exec = Jvm.exec) {pc : Nat} {Ls : Array Slot} {z : Int32} {rest : List Value} (hret : meth.sig.returnType = some .int) (hd : decode c.code pc = .ok (.ireturn, 1)) {fs : List Frame}
    (hl : ∀ (f : JFrame) (acts : List Action), f.method = m → f.locked = none → f.entered = [] → (doReturn e (T.setTop f) acts (some (.int z))).1 = T.setFrames fs) : Steps p.tables e below (T.setTop (mkF m pc Ls (.int z :: rest))) (T.setFrames fs) := by
  have hm' : T.vm.method? m = some meth := X.method'
  have hn : narrow .int (.int z) = .int z := rfl
  show Steps p.tables e below (T.setTop { method := m, pc := pc, locals := Ls, stack := _ :: rest, locked := none }) _
  jvm_step X.here [X.here.top, hx, hd, hm', hret, hn]
  first | (intro acts; rw [hl _ acts rfl rfl rfl]) | rw [hl _ _ rfl rfl rfl]
  exact Steps.refl _
theorem own_retD (X : Stand p l e R s m args below meth c T locs cells slots) (hx : p.tables.exec = Jvm.exec) {pc : Nat} {Ls : Array Slot} {z : UInt64} {rest : List Value} (hret : meth.sig.returnType = some .double) (hd : decode c.code pc = .ok (.dreturn, 1)) {fs : List Frame}
    (hl : ∀ (f : JFrame) (acts : List Action), f.method = m → f.locked = none → f.entered = [] → (doReturn e (T.setTop f) acts (some (.double z))).1 = T.setFrames fs) : Steps p.tables e below (T.setTop (mkF m pc Ls (.double z :: rest))) (T.setFrames fs) := by
  have hm' : T.vm.method? m = some meth := X.method'
  have hn : narrow .double (.double z) = .double z := rfl
  show Steps p.tables e below (T.setTop { method := m, pc := pc, locals := Ls, stack := _ :: rest, locked := none }) _
  jvm_step X.here [X.here.top, hx, hd, hm', hret, hn]
  first | (intro acts; rw [hl _ acts rfl rfl rfl]) | rw [hl _ _ rfl rfl rfl]
  exact Steps.refl _
theorem own_retL (X : Stand p l e R s m args below meth c T locs cells slots) (hx : p.tables.exec = Jvm.exec) {pc : Nat} {Ls : Array Slot} {z : Int64} {rest : List Value} (hret : meth.sig.returnType = some .long) (hd : decode c.code pc = .ok (.lreturn, 1)) {fs : List Frame}
    (hl : ∀ (f : JFrame) (acts : List Action), f.method = m → f.locked = none → f.entered = [] → (doReturn e (T.setTop f) acts (some (.long z))).1 = T.setFrames fs) : Steps p.tables e below (T.setTop (mkF m pc Ls (.long z :: rest))) (T.setFrames fs) := by
  have hm' : T.vm.method? m = some meth := X.method'
  have hn : narrow .long (.long z) = .long z := rfl
  show Steps p.tables e below (T.setTop { method := m, pc := pc, locals := Ls, stack := _ :: rest, locked := none }) _
  jvm_step X.here [X.here.top, hx, hd, hm', hret, hn]
  first | (intro acts; rw [hl _ acts rfl rfl rfl]) | rw [hl _ _ rfl rfl rfl]
  exact Steps.refl _
theorem own_retR (X : Stand p l e R s m args below meth c T locs cells slots) (hx : p.tables.exec = Jvm.exec) {pc : Nat} {Ls : Array Slot} {z : Value} {t : FieldType} {rest : List Value} (hz : z.isRef = true) (hret : meth.sig.returnType = some t) (ht : t.isReference = true) (hd : decode c.code pc = .ok (.areturn, 1)) {fs : List Frame}
    (hl : ∀ (f : JFrame) (acts : List Action), f.method = m → f.locked = none → f.entered = [] → (doReturn e (T.setTop f) acts (some z)).1 = T.setFrames fs) : Steps p.tables e below (T.setTop (mkF m pc Ls (z :: rest))) (T.setFrames fs) := by
  have hm' : T.vm.method? m = some meth := X.method'
  show Steps p.tables e below (T.setTop { method := m, pc := pc, locals := Ls, stack := _ :: rest, locked := none }) _
  jvm_step X.here [X.here.top, hx, hd, hm', hret, hz, ht]
  first | (intro acts; rw [hl _ acts rfl rfl rfl]) | rw [hl _ _ rfl rfl rfl]
  exact Steps.refl _
end OwnGo
theorem own_up (cs : List Int32) (h : ∀ c ∈ cs, ¬ c < 0 ∧ ¬ (255 : Int32) < c) : ∀ c ∈ cs, ¬ c < 0 ∧ ¬ (65535 : Int32) < c := fun c hc => ⟨(h c hc).1, fun q => (h c hc).2 (by rw [Int32.lt_iff_toInt_lt] at q ⊢; have e1 : (65535 : Int32).toInt = 65535 := rfl; have e2 : (255 : Int32).toInt = 255 := rfl; omega)⟩
theorem own_c255 (x : Int32) (h0 : 0 ≤ x.toInt) (h1 : x.toInt ≤ 255) : nar .char (x.toUInt32.toUInt16.toUInt32.toInt32) = x := by
  have e : x.toUInt32.toUInt16.toUInt32.toInt32 = x := by
    have h := c_i2c x
    apply Int32.toInt_inj.mp
    omega
  show (x.toUInt32.toUInt16.toUInt32.toInt32).toUInt32.toUInt16.toUInt32.toInt32 = x
  rw [e, e]
theorem own_in255 (x : Int32) (h0 : 0 ≤ x.toInt) (h1 : x.toInt ≤ 255) : ¬ x < 0 ∧ ¬ (255 : Int32) < x := by
  constructor
  · rw [Int32.lt_iff_toInt_lt]; have : (0 : Int32).toInt = 0 := rfl; omega
  · rw [Int32.lt_iff_toInt_lt]; have : (255 : Int32).toInt = 255 := rfl; omega
theorem own_m255 (x : Int32) : 0 ≤ (x &&& (255 : Int32)).toInt ∧ (x &&& (255 : Int32)).toInt ≤ 255 := by
  have h := c_and x 255 (by decide)
  exact h
theorem own_narc (x : Int32) : nar .char ((x &&& (255 : Int32)).toUInt32.toUInt16.toUInt32.toInt32) = x &&& (255 : Int32) := own_c255 _ (own_m255 x).1 (own_m255 x).2
theorem own_decl {Z : State} {a0 : Array Value} {y : MethodName} {bytes : ByteArray} {maxL : Nat} {ret : Option FieldType} (hi : (Cond.instanceMethod y).before a0 Z = true) (hc : (Cond.code y bytes maxL ret).before a0 Z = true) : (Cond.declares y).before a0 Z = true := by
  obtain ⟨mk, methM, hnamed, hmethM, hstM, habM⟩ := Cond.instanceMethod_spec hi
  obtain ⟨m2, cM, q1, -, -, -, -, -, -, hsig⟩ := Cond.code_spec hnamed hc
  cases hmethM.symm.trans q1
  simp [Cond.before, Cond.holds, Cond.value, hnamed, hmethM, hstM, hsig]
theorem own_same {Z : State} {a0 : Array Value} {C : String} {y y' : MethodName} (hd : (Cond.declares y).before a0 Z = true) (hs : (Cond.selects C y' y').before a0 Z = true) (hc : y'.cls = y.cls) (hx : y.cls ≠ "java/lang/invoke/MethodHandle" ∧ y.cls ≠ "java/lang/invoke/VarHandle") : (Cond.sameMethod y.cls y.cls y.name y.desc).before a0 Z = true := by
  obtain ⟨r0, r, hn, -⟩ := Cond.declares_spec hd
  obtain ⟨c2, r2, m2, q1, q2, q3, q4, kP, hkP, hkPi⟩ := Cond.selects_spec hs
  have hf := State.methodFound?_of_named hn hx
  have h1 := findClass_of_methodNamed hn
  have h2 := findClass_of_methodNamed q3
  rw [hc, h1] at h2
  have h3 : r0.cls = m2.cls := Option.some.inj h2
  rw [← h3] at hkP
  have hn' : Z.methodNamed? ⟨y.cls, y.name, y.desc⟩ = some r0 := hn
  simp [Cond.before, Cond.holds, Cond.value, h1, hf, hn', hkP, hkPi]
theorem own_nf {s : State} {a0 : Array Value} {C : String} {y y' : MethodName} (hs : (Cond.selects C y' y').before a0 s = true) (hc : y'.cls = y.cls) : NotFace s y := fun r0 h0 => by
  obtain ⟨c2, r2, m2, q1, q2, q3, q4, kP, hkP, hkPi⟩ := Cond.selects_spec hs
  have h1 := findClass_of_methodNamed h0
  have h2 := findClass_of_methodNamed q3
  rw [hc, h1] at h2
  have h3 : r0.cls = m2.cls := Option.some.inj h2
  exact ⟨kP, by rw [h3]; exact hkP, hkPi⟩
theorem own_shr0 (z : Int32) : z >>> ((0 : Int32) &&& 31) = z := by
  have h := c_ishr z 0 0 (by decide)
  apply Int32.toInt_inj.mp
  rw [h]
  show z.toInt / (1 : Int) = _
  omega
theorem own_shl0 (z : Int32) : z <<< ((0 : Int32) &&& 31) = z := by
  have h := c_ishl z 0 0 (by decide)
  have h1 := rng32 (z <<< ((0 : Int32) &&& 31))
  have h2 := rng32 z
  apply Int32.toInt_inj.mp
  rw [show ((2 ^ 0 : Nat) : Int) = 1 from rfl] at h
  omega
theorem own_sub0 (z : Int32) : z - (0 : Int32) = z := by
  have h := c_isub z 0
  have h1 := rng32 (z - 0)
  have h2 := rng32 z
  rw [show (0 : Int32).toInt = 0 from rfl] at h
  apply Int32.toInt_inj.mp
  omega
theorem own_clamp {z : Int32} {n : Nat} (h : z.toInt = (n : Int)) : z.toNatClampNeg = n := by simp only [Int32.toNatClampNeg]; omega
theorem own_nonneg {z : Int32} {n : Nat} (h : z.toInt = (n : Int)) : ¬ z < 0 := by rw [Int32.lt_iff_toInt_lt, show (0 : Int32).toInt = 0 from rfl]; omega
theorem own_range {us tl : List Value} {d : Value} {n : Int32} (h : n.toInt = (us.length : Int)) : us = (List.range n.toNatClampNeg).map fun i => (us ++ tl).getD ((0 : Int32).toNatClampNeg + i) d := by
  rw [own_clamp h]
  apply List.ext_getElem
  · simp
  · intro i h1 h2
    simp only [List.getElem_map, List.getElem_range]
    rw [show (0 : Int32).toNatClampNeg + i = i from Nat.zero_add i, List.getD_eq_getElem?_getD, List.getElem?_append_left h1, List.getElem?_eq_getElem h1]
    rfl
theorem own_cp {bs rest us : List Value} {k n : Int32} (hk : k.toInt = (bs.length : Int)) (hn : n.toInt = (us.length : Int)) : (bs ++ rest).take k.toNatClampNeg ++ us ++ (bs ++ rest).drop (k.toNatClampNeg + n.toNatClampNeg) = (bs ++ us) ++ rest.drop us.length := by
  rw [own_clamp hk, own_clamp hn, List.take_left, ← List.drop_drop, List.drop_left]
theorem own_cp0 {us zs : List Value} {n : Int32} (hn : n.toInt = (us.length : Int)) (hz : zs.length = us.length) : zs.take (0 : Int32).toNatClampNeg ++ us ++ zs.drop ((0 : Int32).toNatClampNeg + n.toNatClampNeg) = us := by
  rw [own_clamp hn, show (0 : Int32).toNatClampNeg = 0 from rfl, Nat.zero_add, ← hz, List.drop_length]
  simp
theorem own_addI {a b : Int32} {x y : Nat} (ha : a.toInt = (x : Int)) (hb : b.toInt = (y : Int)) (h : x + y ≤ 1000000) : (a + b).toInt = ((x + y : Nat) : Int) := by
  have h1 := c_iadd a b
  have h2 := rng32 (a + b)
  omega
theorem own_subNP {a b : Int32} (h0 : 0 ≤ a.toInt) (h1 : 0 ≤ b.toInt) (h : a.toInt ≤ b.toInt) : ¬ ((0 : Int32) < a - b) := by
  have h2 := c_isub a b
  have h3 := rng32 (a - b)
  have h4 := rng32 a
  have h5 := rng32 b
  rw [Int32.lt_iff_toInt_lt, show (0 : Int32).toInt = 0 from rfl]
  omega
def own_EL : List (String × Nat) := [("com/example/envelope/envelope/io/KeptLength", 20), ("com/example/envelope/envelope/io/KeptLength", 25), ("com/example/envelope/envelope/io/KeptLength", 27), ("java/lang/String", 7)]
theorem own_EW {Z : State} {a0 : Array Value} (hw : ∀ d ∈ tables_1, d.before a0 Z = true) : EW Z a0 own_EL := EW.cons (text := " of ") (hw _ (List.mem_of_getElem? (i := 107) rfl)) (by decide) (EW.cons (text := " characters, more than the ") (hw _ (List.mem_of_getElem? (i := 130) rfl)) (by decide) (EW.cons (text := " the data folder keeps") (hw _ (List.mem_of_getElem? (i := 155) rfl)) (by decide) (EW.cons (text := "") (hw _ (List.mem_of_getElem? (i := 34) rfl)) (by decide) (EW.nil))))
theorem own_wS {Z : State} {a0 : Array Value} (hw : ∀ d ∈ tables_1, d.before a0 Z = true) : ∀ a ∈ Bundle.stringAtoms, a.before a0 Z = true := fun d hd => hw d ((by decide +kernel : ∀ d ∈ Bundle.stringAtoms, d ∈ tables_1) d hd)
def own_P (cs : List Int32) : Prop := ∀ c ∈ cs, ¬ c < 0 ∧ ¬ (255 : Int32) < c
theorem own_i255 {x : Int32} (h0 : 0 ≤ x.toInt) (h1 : x.toInt ≤ 255) : x.toUInt32.toUInt16.toUInt32.toInt32 = x := by
  have h := c_i2c x
  apply Int32.toInt_inj.mp
  omega
theorem own_nar {x : Int32} (h : ¬ x < 0 ∧ ¬ (255 : Int32) < x) : nar .char x = x := by
  rw [Int32.lt_iff_toInt_lt, Int32.lt_iff_toInt_lt, show (0 : Int32).toInt = 0 from rfl, show (255 : Int32).toInt = 255 from rfl] at h
  exact own_i255 (by omega) (by omega)
theorem own_ofNat {n : Nat} (h : n ≤ 1000000) : (Int32.ofNat n).toInt = (n : Int) := Int32.toInt_ofNat_of_lt (by omega)
theorem own_eqOf {j : Int32} {n : Nat} (h : j.toInt = (n : Int)) (hn : n ≤ 1000000) : j = Int32.ofNat n := Int32.toInt_inj.mp (by rw [own_ofNat hn]; exact h)
theorem own_mem {a : List Int32} {i : Nat} (h : i < a.length) (hp : own_P a) : ¬ (a.getD i 0) < 0 ∧ ¬ (255 : Int32) < a.getD i 0 := by
  rw [List.getD_eq_getElem?_getD, List.getElem?_eq_getElem h]
  exact hp _ (List.getElem_mem h)
theorem own_sfn {Z : State} {EL : List (String × Nat)} {vm : Vm} {h : Heap} {x : Addr} (hal : Z.vm.Alike vm) (E : Exa Z h x "java/lang/String") (F : Fld Z h x "java/lang/String" "value" "[B" .null) : Safe Z EL vm h x := fun B => by
  obtain ⟨p, -, u, a, -, q, -, S, hy⟩ := B
  have hd := S.hd
  obtain ⟨cell, cf, k, i, f, e1, e2, e3, e4, e5, e6, e7⟩ := F
  obtain ⟨cS, ⟨⟨g0, -, -, ⟨c1, k1, i1, f1, -⟩, -, -, -, v1, -⟩, -⟩, -, gB, -⟩ := S
  rcases hy with rfl | rfl
  · obtain ⟨k3, e8, -⟩ := State.fieldFound?_setVm (s := ({ Z with heap := h } : State)) hal e2
    have e9 := (show (Wst Z vm h).fieldFound? _ _ _ = _ from e8).symm.trans f1
    simp only [Option.some.injEq, Prod.mk.injEq] at e9
    have hc : cell = q.sC := Option.some.inj (e1.symm.trans g0)
    rw [hc, e9.2.2.2, v1] at e7
    cases e7
  · obtain ⟨c2, k2, y1, y2, -⟩ := E
    have hc : c2 = q.SA := Option.some.inj (y1.symm.trans hd)
    have gB' : vm.findClass "[B" = some q.SA.cls := gB
    rw [hal.findClass, ← hc] at gB'
    obtain ⟨m1, q1, q2⟩ := Vm.findClass_spec gB'
    obtain ⟨m2, q3, q4⟩ := Vm.findClass_spec y2
    cases q1.symm.trans q3
    exact absurd (q2.symm.trans q4) (by decide)
def own_T2 : List Int32 := [32, 116, 104, 101, 32, 100, 97, 116, 97, 32, 102, 111, 108, 100, 101, 114, 32, 107, 101, 101, 112, 115]
def own_pre (s1 : List Int32) (dn : Int32) : List Int32 := s1 ++ (([32, 111, 102, 32] : List Int32) ++ ([dn] ++ ([32, 99, 104, 97, 114, 97, 99, 116, 101, 114, 115, 44, 32, 109, 111, 114, 101, 32, 116, 104, 97, 110, 32, 116, 104, 101, 32] : List Int32)))
def own_all (s1 : List Int32) (dn : Int32) (cs : List Int32) : List Int32 := own_pre s1 dn ++ (cs ++ own_T2)
theorem own_lenP (s1 : List Int32) (dn : Int32) : (own_pre s1 dn).length = s1.length + 32 := by unfold own_pre; simp
theorem own_lenA (s1 : List Int32) (dn : Int32) (cs : List Int32) : (own_all s1 dn cs).length = s1.length + cs.length + 54 := by
  unfold own_all
  rw [List.length_append, List.length_append, own_lenP, show own_T2.length = 22 from rfl]
  omega
theorem own_one {c : Int32} (h : ¬ c < 0 ∧ ¬ (255 : Int32) < c) : own_P [c] := fun x hx => by
  simp only [List.mem_cons, List.not_mem_nil, or_false] at hx
  subst hx
  exact h
theorem own_app {a b : List Int32} (ha : own_P a) (hb : own_P b) : own_P (a ++ b) := fun c hc => (List.mem_append.mp hc).elim (ha c) (hb c)
theorem own_lit {l : List Int32} (h : (l.all fun c => decide (¬ c < 0 ∧ ¬ (255 : Int32) < c)) = true) : own_P l := fun c hc => of_decide_eq_true (List.all_eq_true.mp h c hc)
theorem own_allP {s1 : List Int32} {dn : Int32} {cs : List Int32} (h1 : own_P s1) (h2 : ¬ dn < 0 ∧ ¬ (255 : Int32) < dn) (h3 : own_P cs) : own_P (own_all s1 dn cs) :=
  own_app (own_app h1 (own_app (own_lit (by decide)) (own_app (own_one h2) (own_lit (by decide))))) (own_app h3 (own_lit (by decide)))
theorem own_getL {a b : List Int32} {i : Nat} (h : i < a.length) : (a ++ b).getD i 0 = a.getD i 0 := by
  rw [List.getD_eq_getElem?_getD, List.getD_eq_getElem?_getD, List.getElem?_append_left h]
theorem own_getR {a b : List Int32} {i : Nat} (h : a.length ≤ i) : (a ++ b).getD i 0 = b.getD (i - a.length) 0 := by
  rw [List.getD_eq_getElem?_getD, List.getD_eq_getElem?_getD, List.getElem?_append_right h]
theorem own_atC {s1 : List Int32} {dn : Int32} {cs : List Int32} (h2 : s1.length = 2) (hc : 1 ≤ cs.length) : (own_all s1 dn cs).getD 34 0 = cs.getD 0 0 := by
  unfold own_all
  rw [own_getR (by rw [own_lenP]; omega), own_lenP, show 34 - (s1.length + 32) = 0 by omega, own_getL (by omega)]
theorem own_atT {s1 : List Int32} {dn : Int32} {cs : List Int32} (h2 : s1.length = 2) {i j : Nat} (hi : i = 34 + cs.length + j) : (own_all s1 dn cs).getD i 0 = own_T2.getD j 0 := by
  unfold own_all
  rw [own_getR (by rw [own_lenP]; omega), own_lenP, own_getR (by omega), show i - (s1.length + 32) - cs.length = j by omega]
theorem own_nat {x : Int32} {b : Nat} (h0 : 0 ≤ x.toInt) (h1 : x.toInt ≤ (b : Int)) : ∃ n : Nat, x.toInt = (n : Int) ∧ n ≤ b := ⟨x.toInt.toNat, by omega, by omega⟩
theorem own_eight {x : Int32} {n : Nat} (h : x.toInt = (n : Int)) (hn : n ≤ 7) : (x = 0 ∧ n = 0) ∨ (x = 1 ∧ n = 1) ∨ (x = 2 ∧ n = 2) ∨ (x = 3 ∧ n = 3) ∨ (x = 4 ∧ n = 4) ∨ (x = 5 ∧ n = 5) ∨ (x = 6 ∧ n = 6) ∨ (x = 7 ∧ n = 7) := by
  have h5 : n = 0 ∨ n = 1 ∨ n = 2 ∨ n = 3 ∨ n = 4 ∨ n = 5 ∨ n = 6 ∨ n = 7 := by omega
  have hx : x = Int32.ofNat n := own_eqOf h (by omega)
  rcases h5 with q | q | q | q | q | q | q | q <;> rw [hx, q] <;> decide
theorem own_d255 {d : Nat} (h : d ≤ 9) : ¬ (Int32.ofNat (48 + d)) < 0 ∧ ¬ (255 : Int32) < (Int32.ofNat (48 + d)) := by
  have e : (Int32.ofNat (48 + d)).toInt = ((48 + d : Nat) : Int) := own_ofNat (by omega)
  exact own_in255 _ (by omega) (by omega)
theorem d10_0 : decode jdk_42_method_152_code 0 = .ok (.getstatic 38, 3) := by decide +kernel
theorem d10_3 : decode jdk_42_method_152_code 3 = .ok (.ifCond .eq 10, 3) := by decide +kernel
theorem d10_6 : decode jdk_42_method_152_code 6 = .ok (.aload_n 0, 1) := by decide +kernel
theorem d10_7 : decode jdk_42_method_152_code 7 = .ok (.getfield 15, 3) := by decide +kernel
theorem d10_10 : decode jdk_42_method_152_code 10 = .ok (.goto 4, 3) := by decide +kernel
theorem d10_14 : decode jdk_42_method_152_code 14 = .ok (.ireturn, 1) := by decide +kernel
theorem pn_10 : plainName "java/lang/String" = true := by first | (simp [plainName, overriddenIn]; done) | decide +kernel
theorem ef_rmCo (m : MethodId) (x0 : Addr) : entryFrame m #[(.ref x0)] 1 = mkF m 0 #[.val (.ref x0)] [] := by first | (simp [entryFrame, mkF, argsToLocals, Value.category]; done) | rfl
def Q_rmCo (Z : State) (x : Addr) (zc : Int32) (h0 : Heap) (n0 : Nat) (v : Option Value) (h : Heap) (L : List Loc) : Prop := v = some (.int (0 : Int32)) ∧ Fr n0 L ∧ h = h0
set_option maxRecDepth 65536 in
set_option maxHeartbeats 40000000 in
theorem rmCo (l : Launch) (Z : State) (a0 : Array Value) (hw : ∀ d ∈ tables_1, d.before a0 Z = true) (ws : List Jvm.Cond) (x : Addr) (zc : Int32) (h0 : Heap) (n0 : Nat) (Z0 : n0 ≤ h0.size) (pE_x : Exa Z h0 x "java/lang/String") (pF_coder_x : Fld Z h0 x "java/lang/String" "coder" "B" (.int (0 : Int32))) (pS_COMPACT_STRINGS : Sta Z Z.heap "java/lang/String" "COMPACT_STRINGS" "Z" (.int zc)) (pP5 : (¬ (zc = (0 : Int32)))) (pO : Old Z n0 h0) :
    MetFree l (⟨"java/lang/String", "coder", "()B"⟩ : MethodName) (head1 (Jvm.Cond.code (⟨"java/lang/String", "coder", "()B"⟩ : MethodName) jdk_42_method_152_code 1 (some .byte) :: ws) ({ frames := 0, cells := 0, slots := 0, locals := 0 } : Room)) (fun a U => a = #[(.ref x)] ∧ Z.Warmed39 U.vm ∧ U.heap = h0) (fun _ _ _ _ _ => True) (fun _ U o U' => ∃ v L, o = .returned v ∧ Q_rmCo Z x zc h0 n0 v U'.heap L ∧ FrameEnd U o U' L ({ frames := 0, cells := 0, slots := 0, locals := 0 } : Room).cells ({ frames := 0, cells := 0, slots := 0, locals := 0 } : Room).slots) := by
  refine MetFree.of_bodySF (plainFor_of_name pn_10) hisR ?_
  intro p e s m args below meth c s₁ Bd hml0 hP hK
  obtain ⟨rfl, hZ, hh⟩ := hP
  have hx := Bd.exec
  have hby := Bd.bytes
  have hml : c.maxLocals = 1 := hml0
  have hown : s.vm.findClass "java/lang/String" = some m.cls := findClass_of_methodNamed Bd.named
  have hnm := (name_of_methodNamed Bd.named Bd.method).1
  have X0 : Stand p l e ({ frames := 0, cells := 0, slots := 0, locals := 0 } : Room) s m #[(.ref x)] below meth c s₁ [] 0 0 := Stand.of_body Bd
  have e0 : s₁.heap = h0 := by rw [← hh, Bd.state]; rfl
  have N0 := Fr.nil n0
  refine own_enter (ef_rmCo m x) ?_
  obtain ⟨T1, X1, e1, st1⟩ := getS2 X0 hx hZ hown (host := "") (Or.inl (own_w hw 14 rfl)) Via.refl e0 (pS_COMPACT_STRINGS.ext pO.2) (g := (mkF m 0 #[.val (.ref x)] [])) rfl (hb hby d10_0)
  refine own_st st1 ?_
  show own_Go p e below T1 (mkF m 3 #[.val (.ref x)] [(.int zc)]) _
  refine own_st (fun t_ k_ => XS.ifNo X1.here hx rfl (hb hby d10_3) rfl ((if0 _ _).trans (feq pP5).1) (XS.aloadN X1.here hx rfl (hb hby d10_6) rfl rfl k_)) ?_
  show own_Go p e below T1 (mkF m 7 #[.val (.ref x)] [(.ref x)]) _
  obtain ⟨T2, X2, e2, st2⟩ := getF X1 hx hZ hown (host := "") (Or.inl (own_w hw 26 rfl)) Via.refl e1 pF_coder_x (g := (mkF m 7 #[.val (.ref x)] [(.ref x)])) rfl rfl (hb hby d10_7)
  refine own_st st2 ?_
  show own_Go p e below T2 (mkF m 10 #[.val (.ref x)] [(.int (0 : Int32))]) _
  refine own_st (fun t_ k_ => XS.goto X2.here hx rfl (pc0 := 10) (pc' := 14) rfl (hb hby d10_10) (by decide) (by decide) k_) ?_
  show own_Go p e below T2 (mkF m 14 #[.val (.ref x)] [(.int (0 : Int32))]) _
  obtain ⟨fs, hr, hrun, hended, hW, hsame⟩ := X2.leave (v := some (.int (0 : Int32))) (fun h => by rw [Bd.returns] at h; cases h)
  refine own_fin (retN X2 hx (t := .byte) Bd.returns (by simp) (hb hby d10_14) hr) ⟨hrun, hended, _, _, rfl, ?_, ⟨_, rfl⟩, hW, hsame.mono (by decide) (by decide)⟩
  show Q_rmCo Z x zc h0 n0 _ T2.heap _
  rw [e2]
  exact ⟨rfl, N0, rfl⟩
theorem d9_0 : decode jdk_42_method_54_code 0 = .ok (.aload_n 0, 1) := by decide +kernel
theorem d9_1 : decode jdk_42_method_54_code 1 = .ok (.getfield 9, 3) := by decide +kernel
theorem d9_4 : decode jdk_42_method_54_code 4 = .ok (.arraylength, 1) := by decide +kernel
theorem d9_5 : decode jdk_42_method_54_code 5 = .ok (.aload_n 0, 1) := by decide +kernel
theorem d9_6 : decode jdk_42_method_54_code 6 = .ok (.invokevirtual 335, 3) := by decide +kernel
theorem d9_9 : decode jdk_42_method_54_code 9 = .ok (.ishr, 1) := by decide +kernel
theorem d9_10 : decode jdk_42_method_54_code 10 = .ok (.ireturn, 1) := by decide +kernel
theorem pn_9 : plainName "java/lang/String" = true := by first | (simp [plainName, overriddenIn]; done) | decide +kernel
theorem pd___B : parseMethodDescriptor "()B" = some ⟨[], some .byte⟩ := by decide +kernel
theorem ef_rmLe (m : MethodId) (x0 : Addr) : entryFrame m #[(.ref x0)] 1 = mkF m 0 #[.val (.ref x0)] [] := by first | (simp [entryFrame, mkF, argsToLocals, Value.category]; done) | rfl
def Q_rmLe (Z : State) (x : Addr) (tx : Addr) (kx : ClassId) (n : Int32) (us : List Value) (zc : Int32) (h0 : Heap) (n0 : Nat) (v : Option Value) (h : Heap) (L : List Loc) : Prop := v = some (.int n) ∧ Fr n0 L ∧ h = h0
set_option maxRecDepth 65536 in
set_option maxHeartbeats 40000000 in
theorem rmLe (l : Launch) (Z : State) (a0 : Array Value) (hw : ∀ d ∈ tables_1, d.before a0 Z = true) (ws : List Jvm.Cond) (x : Addr) (tx : Addr) (kx : ClassId) (n : Int32) (us : List Value) (zc : Int32) (h0 : Heap) (n0 : Nat) (Z0 : n0 ≤ h0.size) (pE_x : Exa Z h0 x "java/lang/String") (pF_value_x : Fld Z h0 x "java/lang/String" "value" "[B" (.ref tx)) (pF_coder_x : Fld Z h0 x "java/lang/String" "coder" "B" (.int (0 : Int32))) (pV_tx : Arv Z h0 tx kx .byte n us (.int 0)) (pS_COMPACT_STRINGS : Sta Z Z.heap "java/lang/String" "COMPACT_STRINGS" "Z" (.int zc)) (pP5 : (¬ (zc = (0 : Int32)))) (pO : Old Z n0 h0) :
    MetFree l (⟨"java/lang/String", "length", "()I"⟩ : MethodName) (head1 (Jvm.Cond.code (⟨"java/lang/String", "length", "()I"⟩ : MethodName) jdk_42_method_54_code 1 (some .int) :: ws) ({ frames := 1, cells := 0, slots := 0, locals := 13 } : Room)) (fun a U => a = #[(.ref x)] ∧ Z.Warmed39 U.vm ∧ U.heap = h0) (fun _ _ _ _ _ => True) (fun _ U o U' => ∃ v L, o = .returned v ∧ Q_rmLe Z x tx kx n us zc h0 n0 v U'.heap L ∧ FrameEnd U o U' L ({ frames := 1, cells := 0, slots := 0, locals := 13 } : Room).cells ({ frames := 1, cells := 0, slots := 0, locals := 13 } : Room).slots) := by
  refine MetFree.of_bodySF (plainFor_of_name pn_9) hisR ?_
  intro p e s m args below meth c s₁ Bd hml0 hP hK
  obtain ⟨rfl, hZ, hh⟩ := hP
  have hx := Bd.exec
  have hby := Bd.bytes
  have hml : c.maxLocals = 1 := hml0
  have hown : s.vm.findClass "java/lang/String" = some m.cls := findClass_of_methodNamed Bd.named
  have hnm := (name_of_methodNamed Bd.named Bd.method).1
  have X0 : Stand p l e ({ frames := 1, cells := 0, slots := 0, locals := 13 } : Room) s m #[(.ref x)] below meth c s₁ [] 0 0 := Stand.of_body Bd
  have e0 : s₁.heap = h0 := by rw [← hh, Bd.state]; rfl
  have N0 := Fr.nil n0
  refine own_enter (ef_rmLe m x) ?_
  refine own_st (fun t_ k_ => XS.aloadN X0.here hx rfl (hb hby d9_0) rfl rfl k_) ?_
  show own_Go p e below s₁ (mkF m 1 #[.val (.ref x)] [(.ref x)]) _
  obtain ⟨T1, X1, e1, st1⟩ := getF X0 hx hZ hown (host := "") (Or.inl (own_w hw 28 rfl)) Via.refl e0 pF_value_x (g := (mkF m 1 #[.val (.ref x)] [(.ref x)])) rfl rfl (hb hby d9_1)
  refine own_st st1 ?_
  show own_Go p e below T1 (mkF m 4 #[.val (.ref x)] [(.ref tx)]) _
  obtain ⟨cl2, Ar2, q2, Sz2, Nn2, Hh2, Gg2⟩ := id pV_tx
  refine own_st (fun t_ k_ => X1.arraylength hx (by rw [e1]; exact Ar2.1) (State.isArrayOf_alike hZ.alike Ar2.2.1) (g := (mkF m 4 #[.val (.ref x)] [(.ref tx)])) rfl rfl (hb hby d9_4) _ k_) ?_
  rw [len_of Sz2 Nn2]
  show own_Go p e below T1 (mkF m 5 #[.val (.ref x)] [(.int n)]) _
  refine own_st (fun t_ k_ => XS.aloadN X1.here hx rfl (hb hby d9_5) rfl rfl k_) ?_
  show own_Go p e below T1 (mkF m 6 #[.val (.ref x)] [(.ref x), (.int n)]) _
  obtain ⟨cq3, kq3, qa3, qb3, qc3⟩ := isOf hZ e1 pE_x
  obtain ⟨_, _, ⟨T3, L3, k3, n3⟩, -, X3, ⟨Lc3, hQ3, l3, y3, z3⟩, st3⟩ := X1.virtualBack hx (y := (⟨"java/lang/String", "coder", "()B"⟩ : MethodName)) (z := (⟨"java/lang/String", "coder", "()B"⟩ : MethodName)) hown (mvT hZ (own_w hw 46 rfl)) (mvT hZ (own_w hw 47 rfl)) (notFace_of_selects (args := #[]) (mvT hZ (own_w hw 49 rfl))) (mvT hZ (own_w hw 49 rfl)) (mvT hZ (own_w hw 48 rfl)) (by decide) (backOf (W := 1) (rmCo l Z a0 hw [] x zc h0 n0 Z0 pE_x pF_coder_x pS_COMPACT_STRINGS pP5 pO) hZ (own_w hw 50 rfl) (own_w hw 2 rfl) (by decide) (by decide)) qa3 qc3 (g := (mkF m 6 #[.val (.ref x)] [(.ref x), (.int n)])) rfl (by rw [hml]; rfl) (Steps.refl _) (argsL := []) (rest := [(.int n)]) (lenOf pd___B rfl) rfl (by show 2 * 0 + _ ≤ _; exact Nat.le_of_eq rfl) (hb hby d9_6) (fun _ _ => ⟨rfl, e1, (by decide : 0 + 0 ≤ _), (by decide : 0 + 0 ≤ _)⟩)
  dsimp only [Pt.U, Pt.locs, Pt.cells, Pt.slots] at X3 l3 y3 z3 st3 hQ3
  try dsimp only [Nat.reduceAdd] at y3 z3
  rw [l3, y3, z3] at X3
  obtain ⟨rfl, Nq3, eH3⟩ := hQ3
  have N3 := Fr.app N0 Nq3
  refine own_tr st3 ?_
  show own_Go p e below T3 (mkF m 9 #[.val (.ref x)] [(.int (0 : Int32)), (.int n)]) _
  refine own_st (fun t_ k_ => XS.ishr X3.here hx rfl (hb hby d9_9) rfl k_) ?_
  show own_Go p e below T3 (mkF m 10 #[.val (.ref x)] [(.int (n >>> ((0 : Int32) &&& 31)))]) _
  rw [own_shr0 n]
  show own_Go p e below T3 (mkF m 10 #[.val (.ref x)] [(.int n)]) _
  obtain ⟨fs, hr, hrun, hended, hW, hsame⟩ := X3.leave (v := some (.int n)) (fun h => by rw [Bd.returns] at h; cases h)
  refine own_fin (own_retI X3 hx Bd.returns (hb hby d9_10) hr) ⟨hrun, hended, _, _, rfl, ?_, ⟨_, rfl⟩, hW, hsame.mono (by decide) (by decide)⟩
  show Q_rmLe Z x tx kx n us zc h0 n0 _ T3.heap _
  rw [eH3]
  exact ⟨rfl, N3, rfl⟩
theorem d12_0 : decode jdk_68_method_2_code 0 = .ok (.aload_n 0, 1) := by decide +kernel
theorem d12_1 : decode jdk_68_method_2_code 1 = .ok (.invokespecial 3, 3) := by decide +kernel
theorem d12_4 : decode jdk_68_method_2_code 4 = .ok (.getstatic 18, 3) := by decide +kernel
theorem d12_7 : decode jdk_68_method_2_code 7 = .ok (.ifCond .eq 18, 3) := by decide +kernel
theorem d12_10 : decode jdk_68_method_2_code 10 = .ok (.aload_n 0, 1) := by decide +kernel
theorem d12_11 : decode jdk_68_method_2_code 11 = .ok (.iload_n 1, 1) := by decide +kernel
theorem d12_12 : decode jdk_68_method_2_code 12 = .ok (.newarray .byte, 2) := by decide +kernel
theorem d12_14 : decode jdk_68_method_2_code 14 = .ok (.putfield 15, 3) := by decide +kernel
theorem d12_17 : decode jdk_68_method_2_code 17 = .ok (.aload_n 0, 1) := by decide +kernel
theorem d12_18 : decode jdk_68_method_2_code 18 = .ok (.iconst 0, 1) := by decide +kernel
theorem d12_19 : decode jdk_68_method_2_code 19 = .ok (.putfield 22, 3) := by decide +kernel
theorem d12_22 : decode jdk_68_method_2_code 22 = .ok (.goto 16, 3) := by decide +kernel
theorem d12_38 : decode jdk_68_method_2_code 38 = .ok (.return_, 1) := by decide +kernel
theorem pn_12 : plainName "java/lang/AbstractStringBuilder" = true := by first | (simp [plainName, overriddenIn]; done) | decide +kernel
theorem ef_rmAbI (m : MethodId) (x0 : Addr) (x1 : Int32) : entryFrame m #[(.ref x0), (.int x1)] 2 = mkF m 0 #[.val (.ref x0), .val (.int x1)] [] := by first | (simp [entryFrame, mkF, argsToLocals, Value.category]; done) | rfl
def Q_rmAbI (Z : State) (a1 : Addr) (u1 : Value) (u2 : Value) (zc : Int32) (h0 : Heap) (n0 : Nat) (v : Option Value) (h : Heap) (L : List Loc) : Prop := ∃ va : Addr, ∃ kva : ClassId, v = none ∧ Fr n0 L ∧ Keep h0 h [a1] ∧ Exa Z h a1 "java/lang/StringBuilder" ∧ Fld Z h a1 "java/lang/AbstractStringBuilder" "value" "[B" (.ref va) ∧ Fld Z h a1 "java/lang/AbstractStringBuilder" "coder" "B" (.int (0 : Int32)) ∧ Fld Z h a1 "java/lang/AbstractStringBuilder" "count" "I" (.int (0 : Int32)) ∧ Arv Z h va kva .byte (16 : Int32) [(.int 0), (.int 0), (.int 0), (.int 0), (.int 0), (.int 0), (.int 0), (.int 0), (.int 0), (.int 0), (.int 0), (.int 0), (.int 0), (.int 0), (.int 0), (.int 0)] (.int 0) ∧ h0.size ≤ va ∧ n0 ≤ va
set_option maxRecDepth 65536 in
set_option maxHeartbeats 40000000 in
theorem rmAbI (l : Launch) (Z : State) (a0 : Array Value) (hw : ∀ d ∈ tables_1, d.before a0 Z = true) (ws : List Jvm.Cond) (a1 : Addr) (u1 : Value) (u2 : Value) (zc : Int32) (h0 : Heap) (n0 : Nat) (Z0 : n0 ≤ h0.size) (pE_a1 : Exa Z h0 a1 "java/lang/StringBuilder") (pF_value_a1 : Fld Z h0 a1 "java/lang/AbstractStringBuilder" "value" "[B" u1) (pF_coder_a1 : Fld Z h0 a1 "java/lang/AbstractStringBuilder" "coder" "B" u2) (pF_count_a1 : Fld Z h0 a1 "java/lang/AbstractStringBuilder" "count" "I" (.int (0 : Int32))) (pG_a1 : n0 ≤ a1) (pS_COMPACT_STRINGS : Sta Z Z.heap "java/lang/String" "COMPACT_STRINGS" "Z" (.int zc)) (pP5 : (¬ (zc = (0 : Int32)))) (pO : Old Z n0 h0) :
    MetFree l (⟨"java/lang/AbstractStringBuilder", "<init>", "(I)V"⟩ : MethodName) (head1 (Jvm.Cond.code (⟨"java/lang/AbstractStringBuilder", "<init>", "(I)V"⟩ : MethodName) jdk_68_method_2_code 2 none :: ws) ({ frames := 1, cells := 1, slots := 16, locals := 12 } : Room)) (fun a U => a = #[(.ref a1), (.int (16 : Int32))] ∧ Z.Warmed39 U.vm ∧ U.heap = h0) (fun _ _ _ _ _ => True) (fun _ U o U' => ∃ v L, o = .returned v ∧ Q_rmAbI Z a1 u1 u2 zc h0 n0 v U'.heap L ∧ FrameEnd U o U' L ({ frames := 1, cells := 1, slots := 16, locals := 12 } : Room).cells ({ frames := 1, cells := 1, slots := 16, locals := 12 } : Room).slots) := by
  refine MetFree.of_bodySF (plainFor_of_name pn_12) hisR ?_
  intro p e s m args below meth c s₁ Bd hml0 hP hK
  obtain ⟨rfl, hZ, hh⟩ := hP
  have hx := Bd.exec
  have hby := Bd.bytes
  have hml : c.maxLocals = 2 := hml0
  have hown : s.vm.findClass "java/lang/AbstractStringBuilder" = some m.cls := findClass_of_methodNamed Bd.named
  have hnm := (name_of_methodNamed Bd.named Bd.method).1
  have X0 : Stand p l e ({ frames := 1, cells := 1, slots := 16, locals := 12 } : Room) s m #[(.ref a1), (.int (16 : Int32))] below meth c s₁ [] 0 0 := Stand.of_body Bd
  have e0 : s₁.heap = h0 := by rw [← hh, Bd.state]; rfl
  have N0 := Fr.nil n0
  refine own_enter (ef_rmAbI m a1 ((16 : Int32))) ?_
  refine own_st (fun t_ k_ => XS.aloadN X0.here hx rfl (hb hby d12_0) rfl rfl k_) ?_
  show own_Go p e below s₁ (mkF m 1 #[.val (.ref a1), .val (.int (16 : Int32))] [(.ref a1)]) _
  obtain ⟨T1, X1, e1, st1⟩ := initO X0 hx hZ hown (own_w hw 63 rfl) (own_w hw 12 rfl) (own_w hw 13 rfl) e0 (g := (mkF m 1 #[.val (.ref a1), .val (.int (16 : Int32))] [(.ref a1)])) rfl (by rw [hml]; rfl) rfl (hb hby d12_1) (by decide) (W := 0) (by show 2 * 0 + _ ≤ _; exact Nat.le_of_eq rfl) (by decide)
  refine own_st st1 ?_
  show own_Go p e below T1 (mkF m 4 #[.val (.ref a1), .val (.int (16 : Int32))] []) _
  obtain ⟨T2, X2, e2, st2⟩ := getS2 X1 hx hZ hown (host := "") (Or.inl (own_w hw 64 rfl)) Via.refl e1 (pS_COMPACT_STRINGS.ext pO.2) (g := (mkF m 4 #[.val (.ref a1), .val (.int (16 : Int32))] [])) rfl (hb hby d12_4)
  refine own_st st2 ?_
  show own_Go p e below T2 (mkF m 7 #[.val (.ref a1), .val (.int (16 : Int32))] [(.int zc)]) _
  refine own_st (fun t_ k_ => XS.ifNo X2.here hx rfl (hb hby d12_7) rfl ((if0 _ _).trans (feq pP5).1) (XS.aloadN X2.here hx rfl (hb hby d12_10) rfl rfl (XS.iloadN X2.here hx rfl (hb hby d12_11) rfl k_))) ?_
  show own_Go p e below T2 (mkF m 12 #[.val (.ref a1), .val (.int (16 : Int32))] [(.int (16 : Int32)), (.ref a1)]) _
  obtain ⟨T3, h3, k3, X3, e3, E3, A3, st3⟩ := newP X2 hx hZ (own_w hw 19 rfl) e2 (g := (mkF m 12 #[.val (.ref a1), .val (.int (16 : Int32))] [(.int (16 : Int32)), (.ref a1)])) rfl (hb hby d12_12) rfl (by decide) (cap := 16) (by decide) (by decide) (by decide) (by decide)
  obtain ⟨b3, g3⟩ : ∃ z, z = h0.size := ⟨_, rfl⟩
  rw [← g3] at A3 st3
  have G3 : n0 ≤ b3 := Nat.le_trans Z0 (Nat.le_of_eq g3.symm)
  have B3 : h0.size ≤ b3 := Nat.le_trans (Keep.refl h0 [a1]).1 (Nat.le_of_eq g3.symm)
  have K4 : Keep h0 h3 [a1] := (Keep.refl h0 [a1]).ext E3
  have V3 : Arv Z h3 b3 k3 .byte (16 : Int32) [(.int (0 : Int32)), (.int (0 : Int32)), (.int (0 : Int32)), (.int (0 : Int32)), (.int (0 : Int32)), (.int (0 : Int32)), (.int (0 : Int32)), (.int (0 : Int32)), (.int (0 : Int32)), (.int (0 : Int32)), (.int (0 : Int32)), (.int (0 : Int32)), (.int (0 : Int32)), (.int (0 : Int32)), (.int (0 : Int32)), (.int (0 : Int32))] (.int (0 : Int32)) := (Arv.new A3 (by decide)).pad (pad_rep [] (.int (0 : Int32)) 16)
  refine own_st st3 ?_
  show own_Go p e below T3 (mkF m 14 #[.val (.ref a1), .val (.int (16 : Int32))] [(.ref b3), (.ref a1)]) _
  have f5 := (pE_a1.ext E3)
  have f6 := (pF_value_a1.ext E3)
  obtain ⟨T7, h7, X7, e7, W7, st7⟩ := putF X3 hx hZ hown (host := "") (Or.inl (own_w hw 65 rfl)) Via.refl e3 f6 f5 (Or.inl (own_w hw 66 rfl)) (own_w hw 52 rfl) (ty := (.array .byte)) (by decide) rfl rfl (g := (mkF m 14 #[.val (.ref a1), .val (.int (16 : Int32))] [(.ref b3), (.ref a1)])) rfl rfl (hb hby d12_14)
  have F7 := f6.same W7
  have K8 : Keep h0 h7 [a1] := K4.wr W7 (Or.inl (List.mem_of_getElem? (i := 0) rfl))
  have N7 := Fr.snoc X7 N0 pG_a1
  refine own_st st7 ?_
  show own_Go p e below T7 (mkF m 17 #[.val (.ref a1), .val (.int (16 : Int32))] []) _
  refine own_st (fun t_ k_ => XS.aloadN X7.here hx rfl (hb hby d12_17) rfl rfl (XS.iconst X7.here hx rfl (hb hby d12_18) k_)) ?_
  show own_Go p e below T7 (mkF m 19 #[.val (.ref a1), .val (.int (16 : Int32))] [(.int (0 : Int32)), (.ref a1)]) _
  have f9 := (f5.wr W7)
  have f10 := ((pF_coder_a1.ext E3).other W7 (Or.inr (slot_ne (Or.inl (own_w hw 68 rfl)) (Or.inl (own_w hw 66 rfl)) (by decide) (t := .byte) (t' := (.array .byte)) (by decide) (by decide))))
  obtain ⟨T11, h11, X11, e11, W11, st11⟩ := putFN X7 hx hZ hown (own_w hw 67 rfl) Via.refl e7 f10 f9 (Or.inl (own_w hw 68 rfl)) (own_w hw 52 rfl) (ty := .byte) (v' := (.int (0 : Int32))) (by decide) rfl (by decide) (g := (mkF m 19 #[.val (.ref a1), .val (.int (16 : Int32))] [(.int (0 : Int32)), (.ref a1)])) rfl rfl (hb hby d12_19)
  have F11 := f10.same W11
  have K12 : Keep h0 h11 [a1] := K8.wr W11 (Or.inl (List.mem_of_getElem? (i := 0) rfl))
  have N11 := Fr.snoc X11 N7 pG_a1
  refine own_st st11 ?_
  show own_Go p e below T11 (mkF m 22 #[.val (.ref a1), .val (.int (16 : Int32))] []) _
  refine own_st (fun t_ k_ => XS.goto X11.here hx rfl (pc0 := 22) (pc' := 38) rfl (hb hby d12_22) (by decide) (by decide) k_) ?_
  show own_Go p e below T11 (mkF m 38 #[.val (.ref a1), .val (.int (16 : Int32))] []) _
  have f13 := (f9.wr W11)
  have f14 := (F7.other W11 (Or.inr (slot_ne (Or.inl (own_w hw 66 rfl)) (Or.inl (own_w hw 68 rfl)) (by decide) (t := (.array .byte)) (t' := .byte) (by decide) (by decide))))
  have f15 := (((pF_count_a1.ext E3).other W7 (Or.inr (slot_ne (Or.inl (own_w hw 81 rfl)) (Or.inl (own_w hw 66 rfl)) (by decide) (t := .int) (t' := (.array .byte)) (by decide) (by decide)))).other W11 (Or.inr (slot_ne (Or.inl (own_w hw 81 rfl)) (Or.inl (own_w hw 68 rfl)) (by decide) (t := .int) (t' := .byte) (by decide) (by decide))))
  have f16 := ((V3.other W7 (Ne.symm (Nat.ne_of_lt (Nat.lt_of_lt_of_le pE_a1.lt (Nat.le_of_eq g3.symm))))).other W11 (Ne.symm (Nat.ne_of_lt (Nat.lt_of_lt_of_le pE_a1.lt (Nat.le_of_eq g3.symm)))))
  obtain ⟨fs, hr, hrun, hended, hW, hsame⟩ := X11.leave (v := none) (fun _ => rfl)
  refine own_fin (X11.returnOut hx Bd.returns (hb hby d12_38) hr) ⟨hrun, hended, _, _, rfl, ?_, ⟨_, rfl⟩, hW, hsame.mono (by decide) (by decide)⟩
  show Q_rmAbI Z a1 u1 u2 zc h0 n0 _ T11.heap _
  rw [e11]
  exact ⟨b3, k3, rfl, N11, K12, f13, f14, F11, f15, f16, B3, G3⟩
theorem d11_0 : decode jdk_67_method_1_code 0 = .ok (.aload_n 0, 1) := by decide +kernel
theorem d11_1 : decode jdk_67_method_1_code 1 = .ok (.bipush 16, 2) := by decide +kernel
theorem d11_3 : decode jdk_67_method_1_code 3 = .ok (.invokespecial 1, 3) := by decide +kernel
theorem d11_6 : decode jdk_67_method_1_code 6 = .ok (.return_, 1) := by decide +kernel
theorem pn_11 : plainName "java/lang/StringBuilder" = true := by first | (simp [plainName, overriddenIn]; done) | decide +kernel
theorem pd__I_V : parseMethodDescriptor "(I)V" = some ⟨[.int], none⟩ := by decide +kernel
theorem ef_rmSbI (m : MethodId) (x0 : Addr) : entryFrame m #[(.ref x0)] 1 = mkF m 0 #[.val (.ref x0)] [] := by first | (simp [entryFrame, mkF, argsToLocals, Value.category]; done) | rfl
def Q_rmSbI (Z : State) (a1 : Addr) (u1 : Value) (u2 : Value) (zc : Int32) (h0 : Heap) (n0 : Nat) (v : Option Value) (h : Heap) (L : List Loc) : Prop := ∃ va : Addr, ∃ kva : ClassId, v = none ∧ Fr n0 L ∧ Keep h0 h [a1] ∧ Exa Z h a1 "java/lang/StringBuilder" ∧ Fld Z h a1 "java/lang/AbstractStringBuilder" "value" "[B" (.ref va) ∧ Fld Z h a1 "java/lang/AbstractStringBuilder" "coder" "B" (.int (0 : Int32)) ∧ Fld Z h a1 "java/lang/AbstractStringBuilder" "count" "I" (.int (0 : Int32)) ∧ Arv Z h va kva .byte (16 : Int32) [(.int 0), (.int 0), (.int 0), (.int 0), (.int 0), (.int 0), (.int 0), (.int 0), (.int 0), (.int 0), (.int 0), (.int 0), (.int 0), (.int 0), (.int 0), (.int 0)] (.int 0) ∧ h0.size ≤ va ∧ n0 ≤ va
set_option maxRecDepth 65536 in
set_option maxHeartbeats 40000000 in
theorem rmSbI (l : Launch) (Z : State) (a0 : Array Value) (hw : ∀ d ∈ tables_1, d.before a0 Z = true) (ws : List Jvm.Cond) (a1 : Addr) (u1 : Value) (u2 : Value) (zc : Int32) (h0 : Heap) (n0 : Nat) (Z0 : n0 ≤ h0.size) (pE_a1 : Exa Z h0 a1 "java/lang/StringBuilder") (pF_value_a1 : Fld Z h0 a1 "java/lang/AbstractStringBuilder" "value" "[B" u1) (pF_coder_a1 : Fld Z h0 a1 "java/lang/AbstractStringBuilder" "coder" "B" u2) (pF_count_a1 : Fld Z h0 a1 "java/lang/AbstractStringBuilder" "count" "I" (.int (0 : Int32))) (pG_a1 : n0 ≤ a1) (pS_COMPACT_STRINGS : Sta Z Z.heap "java/lang/String" "COMPACT_STRINGS" "Z" (.int zc)) (pP5 : (¬ (zc = (0 : Int32)))) (pO : Old Z n0 h0) :
    MetFree l (⟨"java/lang/StringBuilder", "<init>", "()V"⟩ : MethodName) (head1 (Jvm.Cond.code (⟨"java/lang/StringBuilder", "<init>", "()V"⟩ : MethodName) jdk_67_method_1_code 1 none :: ws) ({ frames := 2, cells := 1, slots := 16, locals := 25 } : Room)) (fun a U => a = #[(.ref a1)] ∧ Z.Warmed39 U.vm ∧ U.heap = h0) (fun _ _ _ _ _ => True) (fun _ U o U' => ∃ v L, o = .returned v ∧ Q_rmSbI Z a1 u1 u2 zc h0 n0 v U'.heap L ∧ FrameEnd U o U' L ({ frames := 2, cells := 1, slots := 16, locals := 25 } : Room).cells ({ frames := 2, cells := 1, slots := 16, locals := 25 } : Room).slots) := by
  refine MetFree.of_bodySF (plainFor_of_name pn_11) hisR ?_
  intro p e s m args below meth c s₁ Bd hml0 hP hK
  obtain ⟨rfl, hZ, hh⟩ := hP
  have hx := Bd.exec
  have hby := Bd.bytes
  have hml : c.maxLocals = 1 := hml0
  have hown : s.vm.findClass "java/lang/StringBuilder" = some m.cls := findClass_of_methodNamed Bd.named
  have hnm := (name_of_methodNamed Bd.named Bd.method).1
  have X0 : Stand p l e ({ frames := 2, cells := 1, slots := 16, locals := 25 } : Room) s m #[(.ref a1)] below meth c s₁ [] 0 0 := Stand.of_body Bd
  have e0 : s₁.heap = h0 := by rw [← hh, Bd.state]; rfl
  have N0 := Fr.nil n0
  refine own_enter (ef_rmSbI m a1) ?_
  refine own_st (fun t_ k_ => XS.aloadN X0.here hx rfl (hb hby d11_0) rfl rfl (XS.bipush X0.here hx rfl (hb hby d11_1) k_)) ?_
  show own_Go p e below s₁ (mkF m 3 #[.val (.ref a1)] [(.int (16 : Int32)), (.ref a1)]) _
  obtain ⟨_, _, ⟨T1, L1, k1, n1⟩, -, X1, ⟨Lc1, hQ1, l1, y1, z1⟩, st1⟩ := X0.specialBack hx (y := (⟨"java/lang/AbstractStringBuilder", "<init>", "(I)V"⟩ : MethodName)) rfl hown (mvT hZ (own_w hw 57 rfl)) (mvT hZ (own_w hw 58 rfl)) (mvT hZ (own_w hw 62 rfl)) (by decide) (backOf (W := 0) (rmAbI l Z a0 hw [] a1 u1 u2 zc h0 n0 Z0 pE_a1 pF_value_a1 pF_coder_a1 pF_count_a1 pG_a1 pS_COMPACT_STRINGS pP5 pO) hZ (own_w hw 62 rfl) (own_w hw 61 rfl) (by decide) (by decide)) (g := (mkF m 3 #[.val (.ref a1)] [(.int (16 : Int32)), (.ref a1)])) rfl (by rw [hml]; rfl) (Steps.refl _) (a := a1) (argsL := [(.int (16 : Int32))]) (rest := []) (lenOf pd__I_V rfl) rfl (by show 2 * 0 + _ ≤ _; exact Nat.le_of_eq rfl) (hb hby d11_3) (fun _ _ => ⟨rfl, e0, (by decide : 0 + 1 ≤ _), (by decide : 0 + 16 ≤ _)⟩)
  dsimp only [Pt.U, Pt.locs, Pt.cells, Pt.slots] at X1 l1 y1 z1 st1 hQ1
  try dsimp only [Nat.reduceAdd] at y1 z1
  rw [l1, y1, z1] at X1
  obtain ⟨va_1, kva_1, rfl, Nq1, Kq1, q1_0, q1_1, q1_2, q1_3, q1_4, q1_5, q1_6⟩ := hQ1
  have N1 := Fr.app N0 Nq1
  have K2 : Keep h0 T1.heap [a1] := (Keep.refl h0 [a1]).trans Kq1 (allS (Or.inl (List.mem_of_getElem? (i := 0) rfl)) all0)
  have Bf3 : h0.size ≤ va_1 := Nat.le_trans (Keep.refl h0 [a1]).1 q1_5
  refine own_tr st1 ?_
  show own_Go p e below T1 (mkF m 6 #[.val (.ref a1)] []) _
  obtain ⟨fs, hr, hrun, hended, hW, hsame⟩ := X1.leave (v := none) (fun _ => rfl)
  refine own_fin (X1.returnOut hx Bd.returns (hb hby d11_6) hr) ⟨hrun, hended, _, _, rfl, ?_, ⟨_, rfl⟩, hW, hsame.mono (by decide) (by decide)⟩
  show Q_rmSbI Z a1 u1 u2 zc h0 n0 _ T1.heap _
  exact ⟨va_1, kva_1, rfl, N1, K2, q1_0, q1_1, q1_2, q1_3, q1_4, Bf3, q1_6⟩
theorem d15_0 : decode jdk_68_method_9_code 0 = .ok (.aload_n 0, 1) := by decide +kernel
theorem d15_1 : decode jdk_68_method_9_code 1 = .ok (.getfield 15, 3) := by decide +kernel
theorem d15_4 : decode jdk_68_method_9_code 4 = .ok (.arraylength, 1) := by decide +kernel
theorem d15_5 : decode jdk_68_method_9_code 5 = .ok (.aload_n 0, 1) := by decide +kernel
theorem d15_6 : decode jdk_68_method_9_code 6 = .ok (.getfield 22, 3) := by decide +kernel
theorem d15_9 : decode jdk_68_method_9_code 9 = .ok (.ishr, 1) := by decide +kernel
theorem d15_10 : decode jdk_68_method_9_code 10 = .ok (.istore_n 2, 1) := by decide +kernel
theorem d15_11 : decode jdk_68_method_9_code 11 = .ok (.iload_n 1, 1) := by decide +kernel
theorem d15_12 : decode jdk_68_method_9_code 12 = .ok (.iload_n 2, 1) := by decide +kernel
theorem d15_13 : decode jdk_68_method_9_code 13 = .ok (.isub, 1) := by decide +kernel
theorem d15_14 : decode jdk_68_method_9_code 14 = .ok (.ifCond .le 24, 3) := by decide +kernel
theorem d15_38 : decode jdk_68_method_9_code 38 = .ok (.return_, 1) := by decide +kernel
theorem pn_15 : plainName "java/lang/AbstractStringBuilder" = true := by first | (simp [plainName, overriddenIn]; done) | decide +kernel
theorem ef_rmEc (m : MethodId) (x0 : Addr) (x1 : Int32) : entryFrame m #[(.ref x0), (.int x1)] 3 = mkF m 0 #[.val (.ref x0), .val (.int x1), .unset] [] := by first | (simp [entryFrame, mkF, argsToLocals, Value.category]; done) | rfl
def Q_rmEc (Z : State) (a1 : Addr) (va : Addr) (kva : ClassId) (cap : Int32) (vs : List Value) (mm : Int32) (h0 : Heap) (n0 : Nat) (v : Option Value) (h : Heap) (L : List Loc) : Prop := v = none ∧ Fr n0 L ∧ h = h0
set_option maxRecDepth 65536 in
set_option maxHeartbeats 40000000 in
theorem rmEc (l : Launch) (Z : State) (a0 : Array Value) (hw : ∀ d ∈ tables_1, d.before a0 Z = true) (ws : List Jvm.Cond) (a1 : Addr) (va : Addr) (kva : ClassId) (cap : Int32) (vs : List Value) (mm : Int32) (h0 : Heap) (n0 : Nat) (Z0 : n0 ≤ h0.size) (pE_a1 : Exa Z h0 a1 "java/lang/StringBuilder") (pF_value_a1 : Fld Z h0 a1 "java/lang/AbstractStringBuilder" "value" "[B" (.ref va)) (pF_coder_a1 : Fld Z h0 a1 "java/lang/AbstractStringBuilder" "coder" "B" (.int (0 : Int32))) (pV_va : Arv Z h0 va kva .byte cap vs (.int 0)) (hmm : (¬ ((0 : Int32) < mm - cap))) :
    MetFree l (⟨"java/lang/AbstractStringBuilder", "ensureCapacityInternal", "(I)V"⟩ : MethodName) (head1 (Jvm.Cond.code (⟨"java/lang/AbstractStringBuilder", "ensureCapacityInternal", "(I)V"⟩ : MethodName) jdk_68_method_9_code 3 none :: ws) ({ frames := 0, cells := 0, slots := 0, locals := 0 } : Room)) (fun a U => a = #[(.ref a1), (.int mm)] ∧ Z.Warmed39 U.vm ∧ U.heap = h0) (fun _ _ _ _ _ => True) (fun _ U o U' => ∃ v L, o = .returned v ∧ Q_rmEc Z a1 va kva cap vs mm h0 n0 v U'.heap L ∧ FrameEnd U o U' L ({ frames := 0, cells := 0, slots := 0, locals := 0 } : Room).cells ({ frames := 0, cells := 0, slots := 0, locals := 0 } : Room).slots) := by
  refine MetFree.of_bodySF (plainFor_of_name pn_15) hisR ?_
  intro p e s m args below meth c s₁ Bd hml0 hP hK
  obtain ⟨rfl, hZ, hh⟩ := hP
  have hx := Bd.exec
  have hby := Bd.bytes
  have hml : c.maxLocals = 3 := hml0
  have hown : s.vm.findClass "java/lang/AbstractStringBuilder" = some m.cls := findClass_of_methodNamed Bd.named
  have hnm := (name_of_methodNamed Bd.named Bd.method).1
  have X0 : Stand p l e ({ frames := 0, cells := 0, slots := 0, locals := 0 } : Room) s m #[(.ref a1), (.int mm)] below meth c s₁ [] 0 0 := Stand.of_body Bd
  have e0 : s₁.heap = h0 := by rw [← hh, Bd.state]; rfl
  have N0 := Fr.nil n0
  refine own_enter (ef_rmEc m a1 mm) ?_
  refine own_st (fun t_ k_ => XS.aloadN X0.here hx rfl (hb hby d15_0) rfl rfl k_) ?_
  show own_Go p e below s₁ (mkF m 1 #[.val (.ref a1), .val (.int mm), .unset] [(.ref a1)]) _
  obtain ⟨T1, X1, e1, st1⟩ := getF X0 hx hZ hown (host := "") (Or.inl (own_w hw 65 rfl)) Via.refl e0 pF_value_a1 (g := (mkF m 1 #[.val (.ref a1), .val (.int mm), .unset] [(.ref a1)])) rfl rfl (hb hby d15_1)
  refine own_st st1 ?_
  show own_Go p e below T1 (mkF m 4 #[.val (.ref a1), .val (.int mm), .unset] [(.ref va)]) _
  obtain ⟨cl2, Ar2, q2, Sz2, Nn2, Hh2, Gg2⟩ := id pV_va
  refine own_st (fun t_ k_ => X1.arraylength hx (by rw [e1]; exact Ar2.1) (State.isArrayOf_alike hZ.alike Ar2.2.1) (g := (mkF m 4 #[.val (.ref a1), .val (.int mm), .unset] [(.ref va)])) rfl rfl (hb hby d15_4) _ k_) ?_
  rw [len_of Sz2 Nn2]
  show own_Go p e below T1 (mkF m 5 #[.val (.ref a1), .val (.int mm), .unset] [(.int cap)]) _
  refine own_st (fun t_ k_ => XS.aloadN X1.here hx rfl (hb hby d15_5) rfl rfl k_) ?_
  show own_Go p e below T1 (mkF m 6 #[.val (.ref a1), .val (.int mm), .unset] [(.ref a1), (.int cap)]) _
  obtain ⟨T3, X3, e3, st3⟩ := getF X1 hx hZ hown (host := "") (Or.inl (own_w hw 67 rfl)) Via.refl e1 pF_coder_a1 (g := (mkF m 6 #[.val (.ref a1), .val (.int mm), .unset] [(.ref a1), (.int cap)])) rfl rfl (hb hby d15_6)
  refine own_st st3 ?_
  show own_Go p e below T3 (mkF m 9 #[.val (.ref a1), .val (.int mm), .unset] [(.int (0 : Int32)), (.int cap)]) _
  refine own_st (fun t_ k_ => XS.ishr X3.here hx rfl (hb hby d15_9) rfl k_) ?_
  show own_Go p e below T3 (mkF m 10 #[.val (.ref a1), .val (.int mm), .unset] [(.int (cap >>> ((0 : Int32) &&& 31)))]) _
  rw [own_shr0 cap]
  show own_Go p e below T3 (mkF m 10 #[.val (.ref a1), .val (.int mm), .unset] [(.int cap)]) _
  refine own_st (fun t_ k_ => XS.istoreN X3.here hx rfl (hb hby d15_10) rfl (l' := #[.val (.ref a1), .val (.int mm), .val (.int cap)]) rfl (XS.iloadN X3.here hx rfl (hb hby d15_11) rfl (XS.iloadN X3.here hx rfl (hb hby d15_12) rfl (XS.isub X3.here hx rfl (hb hby d15_13) rfl (XS.ifYes X3.here hx rfl (pc0 := 14) (pc' := 38) rfl (hb hby d15_14) rfl ((if0 _ _).trans (flt hmm).2.2.2) (by decide) (by decide) k_))))) ?_
  show own_Go p e below T3 (mkF m 38 #[.val (.ref a1), .val (.int mm), .val (.int cap)] []) _
  obtain ⟨fs, hr, hrun, hended, hW, hsame⟩ := X3.leave (v := none) (fun _ => rfl)
  refine own_fin (X3.returnOut hx Bd.returns (hb hby d15_38) hr) ⟨hrun, hended, _, _, rfl, ?_, ⟨_, rfl⟩, hW, hsame.mono (by decide) (by decide)⟩
  show Q_rmEc Z a1 va kva cap vs mm h0 n0 _ T3.heap _
  rw [e3]
  exact ⟨rfl, N0, rfl⟩
theorem d17_0 : decode jdk_68_method_71_code 0 = .ok (.getstatic 18, 3) := by decide +kernel
theorem d17_3 : decode jdk_68_method_71_code 3 = .ok (.ifCond .eq 18, 3) := by decide +kernel
theorem d17_6 : decode jdk_68_method_71_code 6 = .ok (.aload_n 0, 1) := by decide +kernel
theorem d17_7 : decode jdk_68_method_71_code 7 = .ok (.getfield 22, 3) := by decide +kernel
theorem d17_10 : decode jdk_68_method_71_code 10 = .ok (.aload_n 1, 1) := by decide +kernel
theorem d17_11 : decode jdk_68_method_71_code 11 = .ok (.invokevirtual 40, 3) := by decide +kernel
theorem d17_14 : decode jdk_68_method_71_code 14 = .ok (.if_icmp .eq 7, 3) := by decide +kernel
theorem d17_21 : decode jdk_68_method_71_code 21 = .ok (.return_, 1) := by decide +kernel
theorem pn_17 : plainName "java/lang/AbstractStringBuilder" = true := by first | (simp [plainName, overriddenIn]; done) | decide +kernel
theorem ef_rmInf (m : MethodId) (x0 : Addr) (x1 : Addr) : entryFrame m #[(.ref x0), (.ref x1)] 2 = mkF m 0 #[.val (.ref x0), .val (.ref x1)] [] := by first | (simp [entryFrame, mkF, argsToLocals, Value.category]; done) | rfl
def Q_rmInf (Z : State) (a1 : Addr) (x : Addr) (zc : Int32) (h0 : Heap) (n0 : Nat) (v : Option Value) (h : Heap) (L : List Loc) : Prop := v = none ∧ Fr n0 L ∧ h = h0
set_option maxRecDepth 65536 in
set_option maxHeartbeats 40000000 in
theorem rmInf (l : Launch) (Z : State) (a0 : Array Value) (hw : ∀ d ∈ tables_1, d.before a0 Z = true) (ws : List Jvm.Cond) (a1 : Addr) (x : Addr) (zc : Int32) (h0 : Heap) (n0 : Nat) (Z0 : n0 ≤ h0.size) (pE_a1 : Exa Z h0 a1 "java/lang/StringBuilder") (pF_coder_a1 : Fld Z h0 a1 "java/lang/AbstractStringBuilder" "coder" "B" (.int (0 : Int32))) (pE_x : Exa Z h0 x "java/lang/String") (pF_coder_x : Fld Z h0 x "java/lang/String" "coder" "B" (.int (0 : Int32))) (pS_COMPACT_STRINGS : Sta Z Z.heap "java/lang/String" "COMPACT_STRINGS" "Z" (.int zc)) (pP5 : (¬ (zc = (0 : Int32)))) (pO : Old Z n0 h0) :
    MetFree l (⟨"java/lang/AbstractStringBuilder", "inflateIfNeededFor", "(Ljava/lang/String;)V"⟩ : MethodName) (head1 (Jvm.Cond.code (⟨"java/lang/AbstractStringBuilder", "inflateIfNeededFor", "(Ljava/lang/String;)V"⟩ : MethodName) jdk_68_method_71_code 2 none :: ws) ({ frames := 1, cells := 0, slots := 0, locals := 13 } : Room)) (fun a U => a = #[(.ref a1), (.ref x)] ∧ Z.Warmed39 U.vm ∧ U.heap = h0) (fun _ _ _ _ _ => True) (fun _ U o U' => ∃ v L, o = .returned v ∧ Q_rmInf Z a1 x zc h0 n0 v U'.heap L ∧ FrameEnd U o U' L ({ frames := 1, cells := 0, slots := 0, locals := 13 } : Room).cells ({ frames := 1, cells := 0, slots := 0, locals := 13 } : Room).slots) := by
  refine MetFree.of_bodySF (plainFor_of_name pn_17) hisR ?_
  intro p e s m args below meth c s₁ Bd hml0 hP hK
  obtain ⟨rfl, hZ, hh⟩ := hP
  have hx := Bd.exec
  have hby := Bd.bytes
  have hml : c.maxLocals = 2 := hml0
  have hown : s.vm.findClass "java/lang/AbstractStringBuilder" = some m.cls := findClass_of_methodNamed Bd.named
  have hnm := (name_of_methodNamed Bd.named Bd.method).1
  have X0 : Stand p l e ({ frames := 1, cells := 0, slots := 0, locals := 13 } : Room) s m #[(.ref a1), (.ref x)] below meth c s₁ [] 0 0 := Stand.of_body Bd
  have e0 : s₁.heap = h0 := by rw [← hh, Bd.state]; rfl
  have N0 := Fr.nil n0
  refine own_enter (ef_rmInf m a1 x) ?_
  obtain ⟨T1, X1, e1, st1⟩ := getS2 X0 hx hZ hown (host := "") (Or.inl (own_w hw 64 rfl)) Via.refl e0 (pS_COMPACT_STRINGS.ext pO.2) (g := (mkF m 0 #[.val (.ref a1), .val (.ref x)] [])) rfl (hb hby d17_0)
  refine own_st st1 ?_
  show own_Go p e below T1 (mkF m 3 #[.val (.ref a1), .val (.ref x)] [(.int zc)]) _
  refine own_st (fun t_ k_ => XS.ifNo X1.here hx rfl (hb hby d17_3) rfl ((if0 _ _).trans (feq pP5).1) (XS.aloadN X1.here hx rfl (hb hby d17_6) rfl rfl k_)) ?_
  show own_Go p e below T1 (mkF m 7 #[.val (.ref a1), .val (.ref x)] [(.ref a1)]) _
  obtain ⟨T2, X2, e2, st2⟩ := getF X1 hx hZ hown (host := "") (Or.inl (own_w hw 67 rfl)) Via.refl e1 pF_coder_a1 (g := (mkF m 7 #[.val (.ref a1), .val (.ref x)] [(.ref a1)])) rfl rfl (hb hby d17_7)
  refine own_st st2 ?_
  show own_Go p e below T2 (mkF m 10 #[.val (.ref a1), .val (.ref x)] [(.int (0 : Int32))]) _
  refine own_st (fun t_ k_ => XS.aloadN X2.here hx rfl (hb hby d17_10) rfl rfl k_) ?_
  show own_Go p e below T2 (mkF m 11 #[.val (.ref a1), .val (.ref x)] [(.ref x), (.int (0 : Int32))]) _
  obtain ⟨cq3, kq3, qa3, qb3, qc3⟩ := isOf hZ e2 pE_x
  obtain ⟨_, _, ⟨T3, L3, k3, n3⟩, -, X3, ⟨Lc3, hQ3, l3, y3, z3⟩, st3⟩ := X2.virtualBack hx (y := (⟨"java/lang/String", "coder", "()B"⟩ : MethodName)) (z := (⟨"java/lang/String", "coder", "()B"⟩ : MethodName)) hown (mvT hZ (own_w hw 97 rfl)) (mvT hZ (own_w hw 47 rfl)) (notFace_of_selects (args := #[]) (mvT hZ (own_w hw 49 rfl))) (mvT hZ (own_w hw 49 rfl)) (mvT hZ (own_w hw 48 rfl)) (by decide) (backOf (W := 1) (rmCo l Z a0 hw [] x zc h0 n0 Z0 pE_x pF_coder_x pS_COMPACT_STRINGS pP5 pO) hZ (own_w hw 50 rfl) (own_w hw 2 rfl) (by decide) (by decide)) qa3 qc3 (g := (mkF m 11 #[.val (.ref a1), .val (.ref x)] [(.ref x), (.int (0 : Int32))])) rfl (by rw [hml]; rfl) (Steps.refl _) (argsL := []) (rest := [(.int (0 : Int32))]) (lenOf pd___B rfl) rfl (by show 2 * 0 + _ ≤ _; exact Nat.le_of_eq rfl) (hb hby d17_11) (fun _ _ => ⟨rfl, e2, (by decide : 0 + 0 ≤ _), (by decide : 0 + 0 ≤ _)⟩)
  dsimp only [Pt.U, Pt.locs, Pt.cells, Pt.slots] at X3 l3 y3 z3 st3 hQ3
  try dsimp only [Nat.reduceAdd] at y3 z3
  rw [l3, y3, z3] at X3
  obtain ⟨rfl, Nq3, eH3⟩ := hQ3
  have N3 := Fr.app N0 Nq3
  refine own_tr st3 ?_
  show own_Go p e below T3 (mkF m 14 #[.val (.ref a1), .val (.ref x)] [(.int (0 : Int32)), (.int (0 : Int32))]) _
  refine own_st (fun t_ k_ => XS.icmpYes X3.here hx rfl (pc0 := 14) (pc' := 21) rfl (hb hby d17_14) rfl (by decide) (by decide) (by decide) k_) ?_
  show own_Go p e below T3 (mkF m 21 #[.val (.ref a1), .val (.ref x)] []) _
  obtain ⟨fs, hr, hrun, hended, hW, hsame⟩ := X3.leave (v := none) (fun _ => rfl)
  refine own_fin (X3.returnOut hx Bd.returns (hb hby d17_21) hr) ⟨hrun, hended, _, _, rfl, ?_, ⟨_, rfl⟩, hW, hsame.mono (by decide) (by decide)⟩
  show Q_rmInf Z a1 x zc h0 n0 _ T3.heap _
  rw [eH3]
  exact ⟨rfl, N3, rfl⟩
theorem d18_0 : decode jdk_42_method_147_code 0 = .ok (.aload_n 0, 1) := by decide +kernel
theorem d18_1 : decode jdk_42_method_147_code 1 = .ok (.invokevirtual 335, 3) := by decide +kernel
theorem d18_4 : decode jdk_42_method_147_code 4 = .ok (.iload_n 3, 1) := by decide +kernel
theorem d18_5 : decode jdk_42_method_147_code 5 = .ok (.if_icmp .ne 23, 3) := by decide +kernel
theorem d18_8 : decode jdk_42_method_147_code 8 = .ok (.aload_n 0, 1) := by decide +kernel
theorem d18_9 : decode jdk_42_method_147_code 9 = .ok (.getfield 9, 3) := by decide +kernel
theorem d18_12 : decode jdk_42_method_147_code 12 = .ok (.iconst 0, 1) := by decide +kernel
theorem d18_13 : decode jdk_42_method_147_code 13 = .ok (.aload_n 1, 1) := by decide +kernel
theorem d18_14 : decode jdk_42_method_147_code 14 = .ok (.iload_n 2, 1) := by decide +kernel
theorem d18_15 : decode jdk_42_method_147_code 15 = .ok (.iload_n 3, 1) := by decide +kernel
theorem d18_16 : decode jdk_42_method_147_code 16 = .ok (.ishl, 1) := by decide +kernel
theorem d18_17 : decode jdk_42_method_147_code 17 = .ok (.aload_n 0, 1) := by decide +kernel
theorem d18_18 : decode jdk_42_method_147_code 18 = .ok (.getfield 9, 3) := by decide +kernel
theorem d18_21 : decode jdk_42_method_147_code 21 = .ok (.arraylength, 1) := by decide +kernel
theorem d18_22 : decode jdk_42_method_147_code 22 = .ok (.invokestatic 212, 3) := by decide +kernel
theorem d18_25 : decode jdk_42_method_147_code 25 = .ok (.goto 18, 3) := by decide +kernel
theorem d18_43 : decode jdk_42_method_147_code 43 = .ok (.return_, 1) := by decide +kernel
theorem pn_18 : plainName "java/lang/String" = true := by first | (simp [plainName, overriddenIn]; done) | decide +kernel
theorem ef_rmGb (m : MethodId) (x0 : Addr) (x1 : Addr) (x2 : Int32) (x3 : Int32) : entryFrame m #[(.ref x0), (.ref x1), (.int x2), (.int x3)] 4 = mkF m 0 #[.val (.ref x0), .val (.ref x1), .val (.int x2), .val (.int x3)] [] := by first | (simp [entryFrame, mkF, argsToLocals, Value.category]; done) | rfl
def Q_rmGb (Z : State) (x : Addr) (tx : Addr) (kx : ClassId) (n : Int32) (us : List Value) (zc : Int32) (va : Addr) (kva : ClassId) (cap : Int32) (k : Int32) (bs : List Value) (rest : List Value) (h0 : Heap) (n0 : Nat) (v : Option Value) (h : Heap) (L : List Loc) : Prop := v = none ∧ Fr n0 L ∧ Keep h0 h [va] ∧ Arv Z h va kva .byte cap ((bs ++ us) ++ rest.drop us.length) (.int 0)
set_option maxRecDepth 65536 in
set_option maxHeartbeats 40000000 in
theorem rmGb (l : Launch) (Z : State) (a0 : Array Value) (hw : ∀ d ∈ tables_1, d.before a0 Z = true) (ws : List Jvm.Cond) (x : Addr) (tx : Addr) (kx : ClassId) (n : Int32) (us : List Value) (zc : Int32) (va : Addr) (kva : ClassId) (cap : Int32) (k : Int32) (bs : List Value) (rest : List Value) (h0 : Heap) (n0 : Nat) (Z0 : n0 ≤ h0.size) (pE_x : Exa Z h0 x "java/lang/String") (pF_value_x : Fld Z h0 x "java/lang/String" "value" "[B" (.ref tx)) (pF_coder_x : Fld Z h0 x "java/lang/String" "coder" "B" (.int (0 : Int32))) (pV_tx : Arv Z h0 tx kx .byte n us (.int 0)) (pV_va : Arv Z h0 va kva .byte cap (bs ++ rest) (.int 0)) (hk : (k.toInt = (bs.length : Int))) (hcap : (cap.toInt = ((bs.length + rest.length : Nat) : Int))) (hn : (n.toInt = (us.length : Int))) (hfit : (us.length ≤ rest.length)) (hbig : (bs.length + rest.length ≤ 1000000)) (pG_va : n0 ≤ va) (pS_COMPACT_STRINGS : Sta Z Z.heap "java/lang/String" "COMPACT_STRINGS" "Z" (.int zc)) (pP5 : (¬ (zc = (0 : Int32)))) (pO : Old Z n0 h0) :
    MetFree l (⟨"java/lang/String", "getBytes", "([BIB)V"⟩ : MethodName) (head1 (Jvm.Cond.code (⟨"java/lang/String", "getBytes", "([BIB)V"⟩ : MethodName) jdk_42_method_147_code 4 none :: ws) ({ frames := 1, cells := 0, slots := 0, locals := 120 } : Room)) (fun a U => a = #[(.ref x), (.ref va), (.int k), (.int (0 : Int32))] ∧ Z.Warmed39 U.vm ∧ U.heap = h0) (fun _ _ _ _ _ => True) (fun _ U o U' => ∃ v L, o = .returned v ∧ Q_rmGb Z x tx kx n us zc va kva cap k bs rest h0 n0 v U'.heap L ∧ FrameEnd U o U' L ({ frames := 1, cells := 0, slots := 0, locals := 120 } : Room).cells ({ frames := 1, cells := 0, slots := 0, locals := 120 } : Room).slots) := by
  refine MetFree.of_bodySF (plainFor_of_name pn_18) hisR ?_
  intro p e s m args below meth c s₁ Bd hml0 hP hK
  obtain ⟨rfl, hZ, hh⟩ := hP
  have hx := Bd.exec
  have hby := Bd.bytes
  have hml : c.maxLocals = 4 := hml0
  have hown : s.vm.findClass "java/lang/String" = some m.cls := findClass_of_methodNamed Bd.named
  have hnm := (name_of_methodNamed Bd.named Bd.method).1
  have X0 : Stand p l e ({ frames := 1, cells := 0, slots := 0, locals := 120 } : Room) s m #[(.ref x), (.ref va), (.int k), (.int (0 : Int32))] below meth c s₁ [] 0 0 := Stand.of_body Bd
  have e0 : s₁.heap = h0 := by rw [← hh, Bd.state]; rfl
  have N0 := Fr.nil n0
  refine own_enter (ef_rmGb m x va k ((0 : Int32))) ?_
  refine own_st (fun t_ k_ => XS.aloadN X0.here hx rfl (hb hby d18_0) rfl rfl k_) ?_
  show own_Go p e below s₁ (mkF m 1 #[.val (.ref x), .val (.ref va), .val (.int k), .val (.int (0 : Int32))] [(.ref x)]) _
  obtain ⟨cq1, kq1, qa1, qb1, qc1⟩ := isOf hZ e0 pE_x
  obtain ⟨_, _, ⟨T1, L1, k1, n1⟩, -, X1, ⟨Lc1, hQ1, l1, y1, z1⟩, st1⟩ := X0.virtualBack hx (y := (⟨"java/lang/String", "coder", "()B"⟩ : MethodName)) (z := (⟨"java/lang/String", "coder", "()B"⟩ : MethodName)) hown (mvT hZ (own_w hw 46 rfl)) (mvT hZ (own_w hw 47 rfl)) (notFace_of_selects (args := #[]) (mvT hZ (own_w hw 49 rfl))) (mvT hZ (own_w hw 49 rfl)) (mvT hZ (own_w hw 48 rfl)) (by decide) (backOf (W := 0) (rmCo l Z a0 hw [] x zc h0 n0 Z0 pE_x pF_coder_x pS_COMPACT_STRINGS pP5 pO) hZ (own_w hw 50 rfl) (own_w hw 2 rfl) (by decide) (by decide)) qa1 qc1 (g := (mkF m 1 #[.val (.ref x), .val (.ref va), .val (.int k), .val (.int (0 : Int32))] [(.ref x)])) rfl (by rw [hml]; rfl) (Steps.refl _) (argsL := []) (rest := []) (lenOf pd___B rfl) rfl (by show 2 * 0 + _ ≤ _; exact Nat.le_of_eq rfl) (hb hby d18_1) (fun _ _ => ⟨rfl, e0, (by decide : 0 + 0 ≤ _), (by decide : 0 + 0 ≤ _)⟩)
  dsimp only [Pt.U, Pt.locs, Pt.cells, Pt.slots] at X1 l1 y1 z1 st1 hQ1
  try dsimp only [Nat.reduceAdd] at y1 z1
  rw [l1, y1, z1] at X1
  obtain ⟨rfl, Nq1, eH1⟩ := hQ1
  have N1 := Fr.app N0 Nq1
  refine own_tr st1 ?_
  show own_Go p e below T1 (mkF m 4 #[.val (.ref x), .val (.ref va), .val (.int k), .val (.int (0 : Int32))] [(.int (0 : Int32))]) _
  refine own_st (fun t_ k_ => XS.iloadN X1.here hx rfl (hb hby d18_4) rfl (XS.icmpNo X1.here hx rfl (hb hby d18_5) rfl (by decide) (XS.aloadN X1.here hx rfl (hb hby d18_8) rfl rfl k_))) ?_
  show own_Go p e below T1 (mkF m 9 #[.val (.ref x), .val (.ref va), .val (.int k), .val (.int (0 : Int32))] [(.ref x)]) _
  obtain ⟨T2, X2, e2, st2⟩ := getF X1 hx hZ hown (host := "") (Or.inl (own_w hw 28 rfl)) Via.refl eH1 pF_value_x (g := (mkF m 9 #[.val (.ref x), .val (.ref va), .val (.int k), .val (.int (0 : Int32))] [(.ref x)])) rfl rfl (hb hby d18_9)
  refine own_st st2 ?_
  show own_Go p e below T2 (mkF m 12 #[.val (.ref x), .val (.ref va), .val (.int k), .val (.int (0 : Int32))] [(.ref tx)]) _
  refine own_st (fun t_ k_ => XS.iconst X2.here hx rfl (hb hby d18_12) (XS.aloadN X2.here hx rfl (hb hby d18_13) rfl rfl (XS.iloadN X2.here hx rfl (hb hby d18_14) rfl (XS.iloadN X2.here hx rfl (hb hby d18_15) rfl (XS.ishl X2.here hx rfl (hb hby d18_16) rfl k_))))) ?_
  show own_Go p e below T2 (mkF m 17 #[.val (.ref x), .val (.ref va), .val (.int k), .val (.int (0 : Int32))] [(.int (k <<< ((0 : Int32) &&& 31))), (.ref va), (.int (0 : Int32)), (.ref tx)]) _
  rw [own_shl0 k]
  show own_Go p e below T2 (mkF m 17 #[.val (.ref x), .val (.ref va), .val (.int k), .val (.int (0 : Int32))] [(.int k), (.ref va), (.int (0 : Int32)), (.ref tx)]) _
  refine own_st (fun t_ k_ => XS.aloadN X2.here hx rfl (hb hby d18_17) rfl rfl k_) ?_
  show own_Go p e below T2 (mkF m 18 #[.val (.ref x), .val (.ref va), .val (.int k), .val (.int (0 : Int32))] [(.ref x), (.int k), (.ref va), (.int (0 : Int32)), (.ref tx)]) _
  obtain ⟨T3, X3, e3, st3⟩ := getF X2 hx hZ hown (host := "") (Or.inl (own_w hw 28 rfl)) Via.refl e2 pF_value_x (g := (mkF m 18 #[.val (.ref x), .val (.ref va), .val (.int k), .val (.int (0 : Int32))] [(.ref x), (.int k), (.ref va), (.int (0 : Int32)), (.ref tx)])) rfl rfl (hb hby d18_18)
  refine own_st st3 ?_
  show own_Go p e below T3 (mkF m 21 #[.val (.ref x), .val (.ref va), .val (.int k), .val (.int (0 : Int32))] [(.ref tx), (.int k), (.ref va), (.int (0 : Int32)), (.ref tx)]) _
  obtain ⟨cl4, Ar4, q4, Sz4, Nn4, Hh4, Gg4⟩ := id pV_tx
  refine own_st (fun t_ k_ => X3.arraylength hx (by rw [e3]; exact Ar4.1) (State.isArrayOf_alike hZ.alike Ar4.2.1) (g := (mkF m 21 #[.val (.ref x), .val (.ref va), .val (.int k), .val (.int (0 : Int32))] [(.ref tx), (.int k), (.ref va), (.int (0 : Int32)), (.ref tx)])) rfl rfl (hb hby d18_21) _ k_) ?_
  rw [len_of Sz4 Nn4]
  show own_Go p e below T3 (mkF m 22 #[.val (.ref x), .val (.ref va), .val (.int k), .val (.int (0 : Int32))] [(.int n), (.int k), (.ref va), (.int (0 : Int32)), (.ref tx)]) _
  obtain ⟨T5, h5, L5, X5, e5, N5, Kq5, Va5, st5⟩ := cpA X3 hx hZ hown (own_w hw 103 rfl) (own_w hw 106 rfl) (own_w hw 104 rfl) (own_w hw 105 rfl) e3 pV_tx pV_va (Or.inl ⟨rfl, rfl⟩) (sp := (0 : Int32)) (dp := k) (nn := n) (by decide) (own_nonneg hk) (own_nonneg hn) (by rw [own_clamp hn]; exact Nat.le_of_eq (Nat.zero_add _)) (by rw [own_clamp hk, own_clamp hn, own_clamp hcap]; omega) (us := us) (by have q := own_range (tl := []) (d := (.int 0)) hn; rw [List.append_nil] at q; exact q) (by rw [own_clamp hk, own_clamp hn, List.length_append]; omega) N1 pG_va (g := (mkF m 22 #[.val (.ref x), .val (.ref va), .val (.int k), .val (.int (0 : Int32))] [(.int n), (.int k), (.ref va), (.int (0 : Int32)), (.ref tx)])) rfl (by rw [hml]; rfl) (rest := []) rfl (hb hby d18_22) (by decide) (W := 0) (by show 2 * 0 + _ ≤ _; exact Nat.le_of_eq rfl) (by decide +kernel)
  rw [own_cp hk hn] at Va5
  have K6 : Keep h0 h5 [va] := (Keep.refl h0 [va]).trans Kq5 (allS (Or.inl (List.mem_of_getElem? (i := 0) rfl)) all0)
  refine own_st st5 ?_
  show own_Go p e below T5 (mkF m 25 #[.val (.ref x), .val (.ref va), .val (.int k), .val (.int (0 : Int32))] []) _
  refine own_st (fun t_ k_ => XS.goto X5.here hx rfl (pc0 := 25) (pc' := 43) rfl (hb hby d18_25) (by decide) (by decide) k_) ?_
  show own_Go p e below T5 (mkF m 43 #[.val (.ref x), .val (.ref va), .val (.int k), .val (.int (0 : Int32))] []) _
  obtain ⟨fs, hr, hrun, hended, hW, hsame⟩ := X5.leave (v := none) (fun _ => rfl)
  refine own_fin (X5.returnOut hx Bd.returns (hb hby d18_43) hr) ⟨hrun, hended, _, _, rfl, ?_, ⟨_, rfl⟩, hW, hsame.mono (by decide) (by decide)⟩
  show Q_rmGb Z x tx kx n us zc va kva cap k bs rest h0 n0 _ T5.heap _
  rw [e5]
  exact ⟨rfl, N5, K6, Va5⟩
theorem d16_0 : decode jdk_68_method_73_code 0 = .ok (.aload_n 0, 1) := by decide +kernel
theorem d16_1 : decode jdk_68_method_73_code 1 = .ok (.aload_n 2, 1) := by decide +kernel
theorem d16_2 : decode jdk_68_method_73_code 2 = .ok (.invokevirtual 397, 3) := by decide +kernel
theorem d16_5 : decode jdk_68_method_73_code 5 = .ok (.aload_n 2, 1) := by decide +kernel
theorem d16_6 : decode jdk_68_method_73_code 6 = .ok (.aload_n 0, 1) := by decide +kernel
theorem d16_7 : decode jdk_68_method_73_code 7 = .ok (.getfield 15, 3) := by decide +kernel
theorem d16_10 : decode jdk_68_method_73_code 10 = .ok (.iload_n 1, 1) := by decide +kernel
theorem d16_11 : decode jdk_68_method_73_code 11 = .ok (.aload_n 0, 1) := by decide +kernel
theorem d16_12 : decode jdk_68_method_73_code 12 = .ok (.getfield 22, 3) := by decide +kernel
theorem d16_15 : decode jdk_68_method_73_code 15 = .ok (.invokevirtual 399, 3) := by decide +kernel
theorem d16_18 : decode jdk_68_method_73_code 18 = .ok (.return_, 1) := by decide +kernel
theorem pn_16 : plainName "java/lang/AbstractStringBuilder" = true := by first | (simp [plainName, overriddenIn]; done) | decide +kernel
theorem pd__Ljava_lang_String__V : parseMethodDescriptor "(Ljava/lang/String;)V" = some ⟨[(.object "java/lang/String")], none⟩ := by decide +kernel
theorem pd___BIB_V : parseMethodDescriptor "([BIB)V" = some ⟨[(.array .byte), .int, .byte], none⟩ := by decide +kernel
theorem ef_rmPs (m : MethodId) (x0 : Addr) (x1 : Int32) (x2 : Addr) : entryFrame m #[(.ref x0), (.int x1), (.ref x2)] 3 = mkF m 0 #[.val (.ref x0), .val (.int x1), .val (.ref x2)] [] := by first | (simp [entryFrame, mkF, argsToLocals, Value.category]; done) | rfl
def Q_rmPs (Z : State) (a1 : Addr) (va : Addr) (kva : ClassId) (cap : Int32) (k : Int32) (bs : List Value) (rest : List Value) (x : Addr) (tx : Addr) (kx : ClassId) (n : Int32) (us : List Value) (zc : Int32) (h0 : Heap) (n0 : Nat) (v : Option Value) (h : Heap) (L : List Loc) : Prop := v = none ∧ Fr n0 L ∧ Keep h0 h [va] ∧ Arv Z h va kva .byte cap ((bs ++ us) ++ rest.drop us.length) (.int 0)
set_option maxRecDepth 65536 in
set_option maxHeartbeats 40000000 in
theorem rmPs (l : Launch) (Z : State) (a0 : Array Value) (hw : ∀ d ∈ tables_1, d.before a0 Z = true) (ws : List Jvm.Cond) (a1 : Addr) (va : Addr) (kva : ClassId) (cap : Int32) (k : Int32) (bs : List Value) (rest : List Value) (x : Addr) (tx : Addr) (kx : ClassId) (n : Int32) (us : List Value) (zc : Int32) (h0 : Heap) (n0 : Nat) (Z0 : n0 ≤ h0.size) (pE_a1 : Exa Z h0 a1 "java/lang/StringBuilder") (pF_value_a1 : Fld Z h0 a1 "java/lang/AbstractStringBuilder" "value" "[B" (.ref va)) (pF_coder_a1 : Fld Z h0 a1 "java/lang/AbstractStringBuilder" "coder" "B" (.int (0 : Int32))) (pE_x : Exa Z h0 x "java/lang/String") (pF_value_x : Fld Z h0 x "java/lang/String" "value" "[B" (.ref tx)) (pF_coder_x : Fld Z h0 x "java/lang/String" "coder" "B" (.int (0 : Int32))) (pV_tx : Arv Z h0 tx kx .byte n us (.int 0)) (pV_va : Arv Z h0 va kva .byte cap (bs ++ rest) (.int 0)) (hk : (k.toInt = (bs.length : Int))) (hcap : (cap.toInt = ((bs.length + rest.length : Nat) : Int))) (hn : (n.toInt = (us.length : Int))) (hfit : (us.length ≤ rest.length)) (hbig : (bs.length + rest.length ≤ 1000000)) (pG_va : n0 ≤ va) (pS_COMPACT_STRINGS : Sta Z Z.heap "java/lang/String" "COMPACT_STRINGS" "Z" (.int zc)) (pP5 : (¬ (zc = (0 : Int32)))) (pO : Old Z n0 h0) :
    MetFree l (⟨"java/lang/AbstractStringBuilder", "putStringAt", "(ILjava/lang/String;)V"⟩ : MethodName) (head1 (Jvm.Cond.code (⟨"java/lang/AbstractStringBuilder", "putStringAt", "(ILjava/lang/String;)V"⟩ : MethodName) jdk_68_method_73_code 3 none :: ws) ({ frames := 2, cells := 0, slots := 0, locals := 135 } : Room)) (fun a U => a = #[(.ref a1), (.int k), (.ref x)] ∧ Z.Warmed39 U.vm ∧ U.heap = h0) (fun _ _ _ _ _ => True) (fun _ U o U' => ∃ v L, o = .returned v ∧ Q_rmPs Z a1 va kva cap k bs rest x tx kx n us zc h0 n0 v U'.heap L ∧ FrameEnd U o U' L ({ frames := 2, cells := 0, slots := 0, locals := 135 } : Room).cells ({ frames := 2, cells := 0, slots := 0, locals := 135 } : Room).slots) := by
  refine MetFree.of_bodySF (plainFor_of_name pn_16) hisR ?_
  intro p e s m args below meth c s₁ Bd hml0 hP hK
  obtain ⟨rfl, hZ, hh⟩ := hP
  have hx := Bd.exec
  have hby := Bd.bytes
  have hml : c.maxLocals = 3 := hml0
  have hown : s.vm.findClass "java/lang/AbstractStringBuilder" = some m.cls := findClass_of_methodNamed Bd.named
  have hnm := (name_of_methodNamed Bd.named Bd.method).1
  have X0 : Stand p l e ({ frames := 2, cells := 0, slots := 0, locals := 135 } : Room) s m #[(.ref a1), (.int k), (.ref x)] below meth c s₁ [] 0 0 := Stand.of_body Bd
  have e0 : s₁.heap = h0 := by rw [← hh, Bd.state]; rfl
  have N0 := Fr.nil n0
  refine own_enter (ef_rmPs m a1 k x) ?_
  refine own_st (fun t_ k_ => XS.aloadN X0.here hx rfl (hb hby d16_0) rfl rfl (XS.aloadN X0.here hx rfl (hb hby d16_1) rfl rfl k_)) ?_
  show own_Go p e below s₁ (mkF m 2 #[.val (.ref a1), .val (.int k), .val (.ref x)] [(.ref x), (.ref a1)]) _
  obtain ⟨cq1, kq1, qa1, qb1, qc1⟩ := isOf hZ e0 pE_a1
  obtain ⟨_, _, ⟨T1, L1, k1, n1⟩, -, X1, ⟨Lc1, hQ1, l1, y1, z1⟩, st1⟩ := X0.virtualBack hx (y := (⟨"java/lang/AbstractStringBuilder", "inflateIfNeededFor", "(Ljava/lang/String;)V"⟩ : MethodName)) (z := (⟨"java/lang/AbstractStringBuilder", "inflateIfNeededFor", "(Ljava/lang/String;)V"⟩ : MethodName)) hown (mvT hZ (own_w hw 92 rfl)) (mvT hZ (own_decl (own_w hw 93 rfl) (own_w hw 96 rfl))) (notFace_of_selects (args := #[]) (mvT hZ (own_w hw 95 rfl))) (mvT hZ (own_w hw 95 rfl)) (mvT hZ (own_w hw 93 rfl)) (by decide) (backOf (W := 0) (rmInf l Z a0 hw [] a1 x zc h0 n0 Z0 pE_a1 pF_coder_a1 pE_x pF_coder_x pS_COMPACT_STRINGS pP5 pO) hZ (own_w hw 96 rfl) (own_w hw 61 rfl) (by decide) (by decide)) qa1 qc1 (g := (mkF m 2 #[.val (.ref a1), .val (.int k), .val (.ref x)] [(.ref x), (.ref a1)])) rfl (by rw [hml]; rfl) (Steps.refl _) (argsL := [(.ref x)]) (rest := []) (lenOf pd__Ljava_lang_String__V rfl) rfl (by show 2 * 0 + _ ≤ _; exact Nat.le_of_eq rfl) (hb hby d16_2) (fun _ _ => ⟨rfl, e0, (by decide : 0 + 0 ≤ _), (by decide : 0 + 0 ≤ _)⟩)
  dsimp only [Pt.U, Pt.locs, Pt.cells, Pt.slots] at X1 l1 y1 z1 st1 hQ1
  try dsimp only [Nat.reduceAdd] at y1 z1
  rw [l1, y1, z1] at X1
  obtain ⟨rfl, Nq1, eH1⟩ := hQ1
  have N1 := Fr.app N0 Nq1
  refine own_tr st1 ?_
  show own_Go p e below T1 (mkF m 5 #[.val (.ref a1), .val (.int k), .val (.ref x)] []) _
  refine own_st (fun t_ k_ => XS.aloadN X1.here hx rfl (hb hby d16_5) rfl rfl (XS.aloadN X1.here hx rfl (hb hby d16_6) rfl rfl k_)) ?_
  show own_Go p e below T1 (mkF m 7 #[.val (.ref a1), .val (.int k), .val (.ref x)] [(.ref a1), (.ref x)]) _
  obtain ⟨T2, X2, e2, st2⟩ := getF X1 hx hZ hown (host := "") (Or.inl (own_w hw 65 rfl)) Via.refl eH1 pF_value_a1 (g := (mkF m 7 #[.val (.ref a1), .val (.int k), .val (.ref x)] [(.ref a1), (.ref x)])) rfl rfl (hb hby d16_7)
  refine own_st st2 ?_
  show own_Go p e below T2 (mkF m 10 #[.val (.ref a1), .val (.int k), .val (.ref x)] [(.ref va), (.ref x)]) _
  refine own_st (fun t_ k_ => XS.iloadN X2.here hx rfl (hb hby d16_10) rfl (XS.aloadN X2.here hx rfl (hb hby d16_11) rfl rfl k_)) ?_
  show own_Go p e below T2 (mkF m 12 #[.val (.ref a1), .val (.int k), .val (.ref x)] [(.ref a1), (.int k), (.ref va), (.ref x)]) _
  obtain ⟨T3, X3, e3, st3⟩ := getF X2 hx hZ hown (host := "") (Or.inl (own_w hw 67 rfl)) Via.refl e2 pF_coder_a1 (g := (mkF m 12 #[.val (.ref a1), .val (.int k), .val (.ref x)] [(.ref a1), (.int k), (.ref va), (.ref x)])) rfl rfl (hb hby d16_12)
  refine own_st st3 ?_
  show own_Go p e below T3 (mkF m 15 #[.val (.ref a1), .val (.int k), .val (.ref x)] [(.int (0 : Int32)), (.int k), (.ref va), (.ref x)]) _
  obtain ⟨cq4, kq4, qa4, qb4, qc4⟩ := isOf hZ e3 pE_x
  obtain ⟨_, _, ⟨T4, L4, k4, n4⟩, -, X4, ⟨Lc4, hQ4, l4, y4, z4⟩, st4⟩ := X3.virtualBack hx (y := (⟨"java/lang/String", "getBytes", "([BIB)V"⟩ : MethodName)) (z := (⟨"java/lang/String", "getBytes", "([BIB)V"⟩ : MethodName)) hown (mvT hZ (own_w hw 98 rfl)) (mvT hZ (own_w hw 99 rfl)) (notFace_of_selects (args := #[]) (mvT hZ (own_w hw 101 rfl))) (mvT hZ (own_w hw 101 rfl)) (mvT hZ (own_w hw 100 rfl)) (by decide) (backOf (W := 0) (rmGb l Z a0 hw [] x tx kx n us zc va kva cap k bs rest h0 n0 Z0 pE_x pF_value_x pF_coder_x pV_tx pV_va hk hcap hn hfit hbig pG_va pS_COMPACT_STRINGS pP5 pO) hZ (own_w hw 102 rfl) (own_w hw 2 rfl) (by decide) (by decide)) qa4 qc4 (g := (mkF m 15 #[.val (.ref a1), .val (.int k), .val (.ref x)] [(.int (0 : Int32)), (.int k), (.ref va), (.ref x)])) rfl (by rw [hml]; rfl) (Steps.refl _) (argsL := [(.ref va), (.int k), (.int (0 : Int32))]) (rest := []) (lenOf pd___BIB_V rfl) rfl (by show 2 * 0 + _ ≤ _; exact Nat.le_of_eq rfl) (hb hby d16_15) (fun _ _ => ⟨rfl, e3, (by decide : 0 + 0 ≤ _), (by decide : 0 + 0 ≤ _)⟩)
  dsimp only [Pt.U, Pt.locs, Pt.cells, Pt.slots] at X4 l4 y4 z4 st4 hQ4
  try dsimp only [Nat.reduceAdd] at y4 z4
  rw [l4, y4, z4] at X4
  obtain ⟨rfl, Nq4, Kq4, q4_0⟩ := hQ4
  have N4 := Fr.app N1 Nq4
  have K5 : Keep h0 T4.heap [va] := (Keep.refl h0 [va]).trans Kq4 (allS (Or.inl (List.mem_of_getElem? (i := 0) rfl)) all0)
  refine own_tr st4 ?_
  show own_Go p e below T4 (mkF m 18 #[.val (.ref a1), .val (.int k), .val (.ref x)] []) _
  obtain ⟨fs, hr, hrun, hended, hW, hsame⟩ := X4.leave (v := none) (fun _ => rfl)
  refine own_fin (X4.returnOut hx Bd.returns (hb hby d16_18) hr) ⟨hrun, hended, _, _, rfl, ?_, ⟨_, rfl⟩, hW, hsame.mono (by decide) (by decide)⟩
  show Q_rmPs Z a1 va kva cap k bs rest x tx kx n us zc h0 n0 _ T4.heap _
  exact ⟨rfl, N4, K5, q4_0⟩
theorem d14_0 : decode jdk_68_method_22_code 0 = .ok (.aload_n 1, 1) := by decide +kernel
theorem d14_1 : decode jdk_68_method_22_code 1 = .ok (.ifnonnull 8, 3) := by decide +kernel
theorem d14_9 : decode jdk_68_method_22_code 9 = .ok (.aload_n 1, 1) := by decide +kernel
theorem d14_10 : decode jdk_68_method_22_code 10 = .ok (.invokevirtual 32, 3) := by decide +kernel
theorem d14_13 : decode jdk_68_method_22_code 13 = .ok (.istore_n 2, 1) := by decide +kernel
theorem d14_14 : decode jdk_68_method_22_code 14 = .ok (.aload_n 0, 1) := by decide +kernel
theorem d14_15 : decode jdk_68_method_22_code 15 = .ok (.aload_n 0, 1) := by decide +kernel
theorem d14_16 : decode jdk_68_method_22_code 16 = .ok (.getfield 79, 3) := by decide +kernel
theorem d14_19 : decode jdk_68_method_22_code 19 = .ok (.iload_n 2, 1) := by decide +kernel
theorem d14_20 : decode jdk_68_method_22_code 20 = .ok (.iadd, 1) := by decide +kernel
theorem d14_21 : decode jdk_68_method_22_code 21 = .ok (.invokevirtual 100, 3) := by decide +kernel
theorem d14_24 : decode jdk_68_method_22_code 24 = .ok (.aload_n 0, 1) := by decide +kernel
theorem d14_25 : decode jdk_68_method_22_code 25 = .ok (.aload_n 0, 1) := by decide +kernel
theorem d14_26 : decode jdk_68_method_22_code 26 = .ok (.getfield 79, 3) := by decide +kernel
theorem d14_29 : decode jdk_68_method_22_code 29 = .ok (.aload_n 1, 1) := by decide +kernel
theorem d14_30 : decode jdk_68_method_22_code 30 = .ok (.invokevirtual 208, 3) := by decide +kernel
theorem d14_33 : decode jdk_68_method_22_code 33 = .ok (.aload_n 0, 1) := by decide +kernel
theorem d14_34 : decode jdk_68_method_22_code 34 = .ok (.dup, 1) := by decide +kernel
theorem d14_35 : decode jdk_68_method_22_code 35 = .ok (.getfield 79, 3) := by decide +kernel
theorem d14_38 : decode jdk_68_method_22_code 38 = .ok (.iload_n 2, 1) := by decide +kernel
theorem d14_39 : decode jdk_68_method_22_code 39 = .ok (.iadd, 1) := by decide +kernel
theorem d14_40 : decode jdk_68_method_22_code 40 = .ok (.putfield 79, 3) := by decide +kernel
theorem d14_43 : decode jdk_68_method_22_code 43 = .ok (.aload_n 0, 1) := by decide +kernel
theorem d14_44 : decode jdk_68_method_22_code 44 = .ok (.areturn, 1) := by decide +kernel
theorem pn_14 : plainName "java/lang/AbstractStringBuilder" = true := by first | (simp [plainName, overriddenIn]; done) | decide +kernel
theorem pd___I : parseMethodDescriptor "()I" = some ⟨[], some .int⟩ := by decide +kernel
theorem pd__ILjava_lang_String__V : parseMethodDescriptor "(ILjava/lang/String;)V" = some ⟨[.int, (.object "java/lang/String")], none⟩ := by decide +kernel
theorem ef_rmAbA (m : MethodId) (x0 : Addr) (x1 : Addr) : entryFrame m #[(.ref x0), (.ref x1)] 3 = mkF m 0 #[.val (.ref x0), .val (.ref x1), .unset] [] := by first | (simp [entryFrame, mkF, argsToLocals, Value.category]; done) | rfl
def Q_rmAbA (Z : State) (a1 : Addr) (va : Addr) (kva : ClassId) (cap : Int32) (k : Int32) (bs : List Value) (rest : List Value) (x : Addr) (tx : Addr) (kx : ClassId) (n : Int32) (us : List Value) (zc : Int32) (h0 : Heap) (n0 : Nat) (v : Option Value) (h : Heap) (L : List Loc) : Prop := v = some (.ref a1) ∧ Fr n0 L ∧ Keep h0 h [a1, va] ∧ Exa Z h a1 "java/lang/StringBuilder" ∧ Fld Z h a1 "java/lang/AbstractStringBuilder" "value" "[B" (.ref va) ∧ Fld Z h a1 "java/lang/AbstractStringBuilder" "coder" "B" (.int (0 : Int32)) ∧ Fld Z h a1 "java/lang/AbstractStringBuilder" "count" "I" (.int (k + n)) ∧ Arv Z h va kva .byte cap ((bs ++ us) ++ rest.drop us.length) (.int 0)
set_option maxRecDepth 65536 in
set_option maxHeartbeats 40000000 in
theorem rmAbA (l : Launch) (Z : State) (a0 : Array Value) (hw : ∀ d ∈ tables_1, d.before a0 Z = true) (ws : List Jvm.Cond) (a1 : Addr) (va : Addr) (kva : ClassId) (cap : Int32) (k : Int32) (bs : List Value) (rest : List Value) (x : Addr) (tx : Addr) (kx : ClassId) (n : Int32) (us : List Value) (zc : Int32) (h0 : Heap) (n0 : Nat) (Z0 : n0 ≤ h0.size) (pE_a1 : Exa Z h0 a1 "java/lang/StringBuilder") (pF_value_a1 : Fld Z h0 a1 "java/lang/AbstractStringBuilder" "value" "[B" (.ref va)) (pF_coder_a1 : Fld Z h0 a1 "java/lang/AbstractStringBuilder" "coder" "B" (.int (0 : Int32))) (pF_count_a1 : Fld Z h0 a1 "java/lang/AbstractStringBuilder" "count" "I" (.int k)) (pV_va : Arv Z h0 va kva .byte cap (bs ++ rest) (.int 0)) (pE_x : Exa Z h0 x "java/lang/String") (pF_value_x : Fld Z h0 x "java/lang/String" "value" "[B" (.ref tx)) (pF_coder_x : Fld Z h0 x "java/lang/String" "coder" "B" (.int (0 : Int32))) (pV_tx : Arv Z h0 tx kx .byte n us (.int 0)) (hk : (k.toInt = (bs.length : Int))) (hcap : (cap.toInt = ((bs.length + rest.length : Nat) : Int))) (hn : (n.toInt = (us.length : Int))) (hfit : (us.length ≤ rest.length)) (hbig : (bs.length + rest.length ≤ 1000000)) (pG_a1 : n0 ≤ a1) (pG_va : n0 ≤ va) (pS_COMPACT_STRINGS : Sta Z Z.heap "java/lang/String" "COMPACT_STRINGS" "Z" (.int zc)) (pP5 : (¬ (zc = (0 : Int32)))) (pO : Old Z n0 h0) :
    MetFree l (⟨"java/lang/AbstractStringBuilder", "append", "(Ljava/lang/String;)Ljava/lang/AbstractStringBuilder;"⟩ : MethodName) (head1 (Jvm.Cond.code (⟨"java/lang/AbstractStringBuilder", "append", "(Ljava/lang/String;)Ljava/lang/AbstractStringBuilder;"⟩ : MethodName) jdk_68_method_22_code 3 (some (.object "java/lang/AbstractStringBuilder")) :: ws) ({ frames := 3, cells := 0, slots := 0, locals := 149 } : Room)) (fun a U => a = #[(.ref a1), (.ref x)] ∧ Z.Warmed39 U.vm ∧ U.heap = h0) (fun _ _ _ _ _ => True) (fun _ U o U' => ∃ v L, o = .returned v ∧ Q_rmAbA Z a1 va kva cap k bs rest x tx kx n us zc h0 n0 v U'.heap L ∧ FrameEnd U o U' L ({ frames := 3, cells := 0, slots := 0, locals := 149 } : Room).cells ({ frames := 3, cells := 0, slots := 0, locals := 149 } : Room).slots) := by
  refine MetFree.of_bodySF (plainFor_of_name pn_14) hisR ?_
  intro p e s m args below meth c s₁ Bd hml0 hP hK
  obtain ⟨rfl, hZ, hh⟩ := hP
  have hx := Bd.exec
  have hby := Bd.bytes
  have hml : c.maxLocals = 3 := hml0
  have hown : s.vm.findClass "java/lang/AbstractStringBuilder" = some m.cls := findClass_of_methodNamed Bd.named
  have hnm := (name_of_methodNamed Bd.named Bd.method).1
  have X0 : Stand p l e ({ frames := 3, cells := 0, slots := 0, locals := 149 } : Room) s m #[(.ref a1), (.ref x)] below meth c s₁ [] 0 0 := Stand.of_body Bd
  have e0 : s₁.heap = h0 := by rw [← hh, Bd.state]; rfl
  have N0 := Fr.nil n0
  refine own_enter (ef_rmAbA m a1 x) ?_
  have hkn := own_addI hk hn (by omega)
  refine own_st (fun t_ k_ => XS.aloadN X0.here hx rfl (hb hby d14_0) rfl rfl (XS.ifnonnullYes X0.here hx rfl (pc0 := 1) (pc' := 9) rfl (hb hby d14_1) rfl (by decide) (by decide) (XS.aloadN X0.here hx rfl (hb hby d14_9) rfl rfl k_))) ?_
  show own_Go p e below s₁ (mkF m 10 #[.val (.ref a1), .val (.ref x), .unset] [(.ref x)]) _
  obtain ⟨cq1, kq1, qa1, qb1, qc1⟩ := isOf hZ e0 pE_x
  obtain ⟨_, _, ⟨T1, L1, k1, n1⟩, -, X1, ⟨Lc1, hQ1, l1, y1, z1⟩, st1⟩ := X0.virtualBack hx (y := (⟨"java/lang/String", "length", "()I"⟩ : MethodName)) (z := (⟨"java/lang/String", "length", "()I"⟩ : MethodName)) hown (mvT hZ (own_w hw 79 rfl)) (mvT hZ (own_w hw 42 rfl)) (notFace_of_selects (args := #[]) (mvT hZ (own_w hw 44 rfl))) (mvT hZ (own_w hw 44 rfl)) (mvT hZ (own_w hw 43 rfl)) (by decide) (backOf (W := 0) (rmLe l Z a0 hw [] x tx kx n us zc h0 n0 Z0 pE_x pF_value_x pF_coder_x pV_tx pS_COMPACT_STRINGS pP5 pO) hZ (own_w hw 45 rfl) (own_w hw 2 rfl) (by decide) (by decide)) qa1 qc1 (g := (mkF m 10 #[.val (.ref a1), .val (.ref x), .unset] [(.ref x)])) rfl (by rw [hml]; rfl) (Steps.refl _) (argsL := []) (rest := []) (lenOf pd___I rfl) rfl (by show 2 * 0 + _ ≤ _; exact Nat.le_of_eq rfl) (hb hby d14_10) (fun _ _ => ⟨rfl, e0, (by decide : 0 + 0 ≤ _), (by decide : 0 + 0 ≤ _)⟩)
  dsimp only [Pt.U, Pt.locs, Pt.cells, Pt.slots] at X1 l1 y1 z1 st1 hQ1
  try dsimp only [Nat.reduceAdd] at y1 z1
  rw [l1, y1, z1] at X1
  obtain ⟨rfl, Nq1, eH1⟩ := hQ1
  have N1 := Fr.app N0 Nq1
  refine own_tr st1 ?_
  show own_Go p e below T1 (mkF m 13 #[.val (.ref a1), .val (.ref x), .unset] [(.int n)]) _
  refine own_st (fun t_ k_ => XS.istoreN X1.here hx rfl (hb hby d14_13) rfl (l' := #[.val (.ref a1), .val (.ref x), .val (.int n)]) rfl (XS.aloadN X1.here hx rfl (hb hby d14_14) rfl rfl (XS.aloadN X1.here hx rfl (hb hby d14_15) rfl rfl k_))) ?_
  show own_Go p e below T1 (mkF m 16 #[.val (.ref a1), .val (.ref x), .val (.int n)] [(.ref a1), (.ref a1)]) _
  obtain ⟨T2, X2, e2, st2⟩ := getF X1 hx hZ hown (host := "") (Or.inl (own_w hw 80 rfl)) Via.refl eH1 pF_count_a1 (g := (mkF m 16 #[.val (.ref a1), .val (.ref x), .val (.int n)] [(.ref a1), (.ref a1)])) rfl rfl (hb hby d14_16)
  refine own_st st2 ?_
  show own_Go p e below T2 (mkF m 19 #[.val (.ref a1), .val (.ref x), .val (.int n)] [(.int k), (.ref a1)]) _
  refine own_st (fun t_ k_ => XS.iloadN X2.here hx rfl (hb hby d14_19) rfl (XS.iadd X2.here hx rfl (hb hby d14_20) rfl k_)) ?_
  show own_Go p e below T2 (mkF m 21 #[.val (.ref a1), .val (.ref x), .val (.int n)] [(.int (k + n)), (.ref a1)]) _
  obtain ⟨cq3, kq3, qa3, qb3, qc3⟩ := isOf hZ e2 pE_a1
  obtain ⟨_, _, ⟨T3, L3, k3, n3⟩, -, X3, ⟨Lc3, hQ3, l3, y3, z3⟩, st3⟩ := X2.virtualBack hx (y := (⟨"java/lang/AbstractStringBuilder", "ensureCapacityInternal", "(I)V"⟩ : MethodName)) (z := (⟨"java/lang/AbstractStringBuilder", "ensureCapacityInternal", "(I)V"⟩ : MethodName)) hown (mvT hZ (own_w hw 82 rfl)) (mvT hZ (own_decl (own_w hw 83 rfl) (own_w hw 86 rfl))) (notFace_of_selects (args := #[]) (mvT hZ (own_w hw 85 rfl))) (mvT hZ (own_w hw 85 rfl)) (mvT hZ (own_w hw 83 rfl)) (by decide) (backOf (W := 0) (rmEc l Z a0 hw [] a1 va kva cap ((bs ++ rest)) ((k + n)) h0 n0 Z0 pE_a1 pF_value_a1 pF_coder_a1 pV_va (own_subNP (by omega) (by omega) (by omega))) hZ (own_w hw 86 rfl) (own_w hw 61 rfl) (by decide) (by decide)) qa3 qc3 (g := (mkF m 21 #[.val (.ref a1), .val (.ref x), .val (.int n)] [(.int (k + n)), (.ref a1)])) rfl (by rw [hml]; rfl) (Steps.refl _) (argsL := [(.int (k + n))]) (rest := []) (lenOf pd__I_V rfl) rfl (by show 2 * 0 + _ ≤ _; exact Nat.le_of_eq rfl) (hb hby d14_21) (fun _ _ => ⟨rfl, e2, (by decide : 0 + 0 ≤ _), (by decide : 0 + 0 ≤ _)⟩)
  dsimp only [Pt.U, Pt.locs, Pt.cells, Pt.slots] at X3 l3 y3 z3 st3 hQ3
  try dsimp only [Nat.reduceAdd] at y3 z3
  rw [l3, y3, z3] at X3
  obtain ⟨rfl, Nq3, eH3⟩ := hQ3
  have N3 := Fr.app N1 Nq3
  refine own_tr st3 ?_
  show own_Go p e below T3 (mkF m 24 #[.val (.ref a1), .val (.ref x), .val (.int n)] []) _
  refine own_st (fun t_ k_ => XS.aloadN X3.here hx rfl (hb hby d14_24) rfl rfl (XS.aloadN X3.here hx rfl (hb hby d14_25) rfl rfl k_)) ?_
  show own_Go p e below T3 (mkF m 26 #[.val (.ref a1), .val (.ref x), .val (.int n)] [(.ref a1), (.ref a1)]) _
  obtain ⟨T4, X4, e4, st4⟩ := getF X3 hx hZ hown (host := "") (Or.inl (own_w hw 80 rfl)) Via.refl eH3 pF_count_a1 (g := (mkF m 26 #[.val (.ref a1), .val (.ref x), .val (.int n)] [(.ref a1), (.ref a1)])) rfl rfl (hb hby d14_26)
  refine own_st st4 ?_
  show own_Go p e below T4 (mkF m 29 #[.val (.ref a1), .val (.ref x), .val (.int n)] [(.int k), (.ref a1)]) _
  refine own_st (fun t_ k_ => XS.aloadN X4.here hx rfl (hb hby d14_29) rfl rfl k_) ?_
  show own_Go p e below T4 (mkF m 30 #[.val (.ref a1), .val (.ref x), .val (.int n)] [(.ref x), (.int k), (.ref a1)]) _
  obtain ⟨cq5, kq5, qa5, qb5, qc5⟩ := isOf hZ e4 pE_a1
  obtain ⟨_, _, ⟨T5, L5, k5, n5⟩, -, X5, ⟨Lc5, hQ5, l5, y5, z5⟩, st5⟩ := X4.virtualBack hx (y := (⟨"java/lang/AbstractStringBuilder", "putStringAt", "(ILjava/lang/String;)V"⟩ : MethodName)) (z := (⟨"java/lang/AbstractStringBuilder", "putStringAt", "(ILjava/lang/String;)V"⟩ : MethodName)) hown (mvT hZ (own_w hw 87 rfl)) (mvT hZ (own_decl (own_w hw 88 rfl) (own_w hw 91 rfl))) (notFace_of_selects (args := #[]) (mvT hZ (own_w hw 90 rfl))) (mvT hZ (own_w hw 90 rfl)) (mvT hZ (own_w hw 88 rfl)) (by decide) (backOf (W := 0) (rmPs l Z a0 hw [] a1 va kva cap k bs rest x tx kx n us zc h0 n0 Z0 pE_a1 pF_value_a1 pF_coder_a1 pE_x pF_value_x pF_coder_x pV_tx pV_va hk hcap hn hfit hbig pG_va pS_COMPACT_STRINGS pP5 pO) hZ (own_w hw 91 rfl) (own_w hw 61 rfl) (by decide) (by decide)) qa5 qc5 (g := (mkF m 30 #[.val (.ref a1), .val (.ref x), .val (.int n)] [(.ref x), (.int k), (.ref a1)])) rfl (by rw [hml]; rfl) (Steps.refl _) (argsL := [(.int k), (.ref x)]) (rest := []) (lenOf pd__ILjava_lang_String__V rfl) rfl (by show 2 * 0 + _ ≤ _; exact Nat.le_of_eq rfl) (hb hby d14_30) (fun _ _ => ⟨rfl, e4, (by decide : 0 + 0 ≤ _), (by decide : 0 + 0 ≤ _)⟩)
  dsimp only [Pt.U, Pt.locs, Pt.cells, Pt.slots] at X5 l5 y5 z5 st5 hQ5
  try dsimp only [Nat.reduceAdd] at y5 z5
  rw [l5, y5, z5] at X5
  obtain ⟨rfl, Nq5, Kq5, q5_0⟩ := hQ5
  have N5 := Fr.app N3 Nq5
  have K6 : Keep h0 T5.heap [a1, va] := (Keep.refl h0 [a1, va]).trans Kq5 (allS (Or.inl (List.mem_of_getElem? (i := 1) rfl)) all0)
  refine own_tr st5 ?_
  show own_Go p e below T5 (mkF m 33 #[.val (.ref a1), .val (.ref x), .val (.int n)] []) _
  refine own_st (fun t_ k_ => XS.aloadN X5.here hx rfl (hb hby d14_33) rfl rfl (XS.dup X5.here hx rfl (hb hby d14_34) rfl rfl k_)) ?_
  show own_Go p e below T5 (mkF m 35 #[.val (.ref a1), .val (.ref x), .val (.int n)] [(.ref a1), (.ref a1)]) _
  have f7 := (pF_count_a1.keep Kq5 (ninS (Exa.neArv (pE_a1.keep Kq5) q5_0 (own_w hw 52 rfl)) nin0))
  obtain ⟨T8, X8, e8, st8⟩ := getF X5 hx hZ hown (host := "") (Or.inl (own_w hw 80 rfl)) Via.refl rfl f7 (g := (mkF m 35 #[.val (.ref a1), .val (.ref x), .val (.int n)] [(.ref a1), (.ref a1)])) rfl rfl (hb hby d14_35)
  refine own_st st8 ?_
  show own_Go p e below T8 (mkF m 38 #[.val (.ref a1), .val (.ref x), .val (.int n)] [(.int k), (.ref a1)]) _
  refine own_st (fun t_ k_ => XS.iloadN X8.here hx rfl (hb hby d14_38) rfl (XS.iadd X8.here hx rfl (hb hby d14_39) rfl k_)) ?_
  show own_Go p e below T8 (mkF m 40 #[.val (.ref a1), .val (.ref x), .val (.int n)] [(.int (k + n)), (.ref a1)]) _
  have f9 := (pE_a1.keep Kq5)
  obtain ⟨T10, h10, X10, e10, W10, st10⟩ := putF X8 hx hZ hown (host := "") (Or.inl (own_w hw 80 rfl)) Via.refl e8 f7 f9 (Or.inl (own_w hw 81 rfl)) (own_w hw 52 rfl) (ty := .int) (by decide) rfl rfl (g := (mkF m 40 #[.val (.ref a1), .val (.ref x), .val (.int n)] [(.int (k + n)), (.ref a1)])) rfl rfl (hb hby d14_40)
  have F10 := f7.same W10
  have K11 : Keep h0 h10 [a1, va] := K6.wr W10 (Or.inl (List.mem_of_getElem? (i := 0) rfl))
  have N10 := Fr.snoc X10 N5 pG_a1
  refine own_st st10 ?_
  show own_Go p e below T10 (mkF m 43 #[.val (.ref a1), .val (.ref x), .val (.int n)] []) _
  refine own_st (fun t_ k_ => XS.aloadN X10.here hx rfl (hb hby d14_43) rfl rfl k_) ?_
  show own_Go p e below T10 (mkF m 44 #[.val (.ref a1), .val (.ref x), .val (.int n)] [(.ref a1)]) _
  have f12 := (f9.wr W10)
  have f13 := ((pF_value_a1.keep Kq5 (ninS (Exa.neArv f9 q5_0 (own_w hw 52 rfl)) nin0)).other W10 (Or.inr (slot_ne (Or.inl (own_w hw 66 rfl)) (Or.inl (own_w hw 81 rfl)) (by decide) (t := (.array .byte)) (t' := .int) (by decide) (by decide))))
  have f14 := ((pF_coder_a1.keep Kq5 (ninS (Exa.neArv f9 q5_0 (own_w hw 52 rfl)) nin0)).other W10 (Or.inr (slot_ne (Or.inl (own_w hw 68 rfl)) (Or.inl (own_w hw 81 rfl)) (by decide) (t := .byte) (t' := .int) (by decide) (by decide))))
  have f15 := (q5_0.other W10 (Ne.symm (Exa.neArv f9 q5_0 (own_w hw 52 rfl))))
  obtain ⟨fs, hr, hrun, hended, hW, hsame⟩ := X10.leave (v := some (.ref a1)) (fun h => by rw [Bd.returns] at h; cases h)
  refine own_fin (own_retR X10 hx rfl Bd.returns rfl (hb hby d14_44) hr) ⟨hrun, hended, _, _, rfl, ?_, ⟨_, rfl⟩, hW, hsame.mono (by decide) (by decide)⟩
  show Q_rmAbA Z a1 va kva cap k bs rest x tx kx n us zc h0 n0 _ T10.heap _
  rw [e10]
  exact ⟨rfl, N10, K11, f12, f13, f14, F10, f15⟩
theorem d13_0 : decode jdk_67_method_7_code 0 = .ok (.aload_n 0, 1) := by decide +kernel
theorem d13_1 : decode jdk_67_method_7_code 1 = .ok (.aload_n 1, 1) := by decide +kernel
theorem d13_2 : decode jdk_67_method_7_code 2 = .ok (.invokespecial 29, 3) := by decide +kernel
theorem d13_5 : decode jdk_67_method_7_code 5 = .ok (.pop, 1) := by decide +kernel
theorem d13_6 : decode jdk_67_method_7_code 6 = .ok (.aload_n 0, 1) := by decide +kernel
theorem d13_7 : decode jdk_67_method_7_code 7 = .ok (.areturn, 1) := by decide +kernel
theorem pn_13 : plainName "java/lang/StringBuilder" = true := by first | (simp [plainName, overriddenIn]; done) | decide +kernel
theorem pd__Ljava_lang_String__Ljava_lang_AbstractStringBuilder_ : parseMethodDescriptor "(Ljava/lang/String;)Ljava/lang/AbstractStringBuilder;" = some ⟨[(.object "java/lang/String")], some (.object "java/lang/AbstractStringBuilder")⟩ := by decide +kernel
theorem ef_rmSbA (m : MethodId) (x0 : Addr) (x1 : Addr) : entryFrame m #[(.ref x0), (.ref x1)] 2 = mkF m 0 #[.val (.ref x0), .val (.ref x1)] [] := by first | (simp [entryFrame, mkF, argsToLocals, Value.category]; done) | rfl
def Q_rmSbA (Z : State) (a1 : Addr) (va : Addr) (kva : ClassId) (cap : Int32) (k : Int32) (bs : List Value) (rest : List Value) (x : Addr) (tx : Addr) (kx : ClassId) (n : Int32) (us : List Value) (zc : Int32) (h0 : Heap) (n0 : Nat) (v : Option Value) (h : Heap) (L : List Loc) : Prop := v = some (.ref a1) ∧ Fr n0 L ∧ Keep h0 h [a1, va] ∧ Exa Z h a1 "java/lang/StringBuilder" ∧ Fld Z h a1 "java/lang/AbstractStringBuilder" "value" "[B" (.ref va) ∧ Fld Z h a1 "java/lang/AbstractStringBuilder" "coder" "B" (.int (0 : Int32)) ∧ Fld Z h a1 "java/lang/AbstractStringBuilder" "count" "I" (.int (k + n)) ∧ Arv Z h va kva .byte cap ((bs ++ us) ++ rest.drop us.length) (.int 0)
set_option maxRecDepth 65536 in
set_option maxHeartbeats 40000000 in
theorem rmSbA (l : Launch) (Z : State) (a0 : Array Value) (hw : ∀ d ∈ tables_1, d.before a0 Z = true) (ws : List Jvm.Cond) (a1 : Addr) (va : Addr) (kva : ClassId) (cap : Int32) (k : Int32) (bs : List Value) (rest : List Value) (x : Addr) (tx : Addr) (kx : ClassId) (n : Int32) (us : List Value) (zc : Int32) (h0 : Heap) (n0 : Nat) (Z0 : n0 ≤ h0.size) (pE_a1 : Exa Z h0 a1 "java/lang/StringBuilder") (pF_value_a1 : Fld Z h0 a1 "java/lang/AbstractStringBuilder" "value" "[B" (.ref va)) (pF_coder_a1 : Fld Z h0 a1 "java/lang/AbstractStringBuilder" "coder" "B" (.int (0 : Int32))) (pF_count_a1 : Fld Z h0 a1 "java/lang/AbstractStringBuilder" "count" "I" (.int k)) (pV_va : Arv Z h0 va kva .byte cap (bs ++ rest) (.int 0)) (pE_x : Exa Z h0 x "java/lang/String") (pF_value_x : Fld Z h0 x "java/lang/String" "value" "[B" (.ref tx)) (pF_coder_x : Fld Z h0 x "java/lang/String" "coder" "B" (.int (0 : Int32))) (pV_tx : Arv Z h0 tx kx .byte n us (.int 0)) (hk : (k.toInt = (bs.length : Int))) (hcap : (cap.toInt = ((bs.length + rest.length : Nat) : Int))) (hn : (n.toInt = (us.length : Int))) (hfit : (us.length ≤ rest.length)) (hbig : (bs.length + rest.length ≤ 1000000)) (pG_a1 : n0 ≤ a1) (pG_va : n0 ≤ va) (pS_COMPACT_STRINGS : Sta Z Z.heap "java/lang/String" "COMPACT_STRINGS" "Z" (.int zc)) (pP5 : (¬ (zc = (0 : Int32)))) (pO : Old Z n0 h0) :
    MetFree l (⟨"java/lang/StringBuilder", "append", "(Ljava/lang/String;)Ljava/lang/StringBuilder;"⟩ : MethodName) (head1 (Jvm.Cond.code (⟨"java/lang/StringBuilder", "append", "(Ljava/lang/String;)Ljava/lang/StringBuilder;"⟩ : MethodName) jdk_67_method_7_code 2 (some (.object "java/lang/StringBuilder")) :: ws) ({ frames := 4, cells := 0, slots := 0, locals := 163 } : Room)) (fun a U => a = #[(.ref a1), (.ref x)] ∧ Z.Warmed39 U.vm ∧ U.heap = h0) (fun _ _ _ _ _ => True) (fun _ U o U' => ∃ v L, o = .returned v ∧ Q_rmSbA Z a1 va kva cap k bs rest x tx kx n us zc h0 n0 v U'.heap L ∧ FrameEnd U o U' L ({ frames := 4, cells := 0, slots := 0, locals := 163 } : Room).cells ({ frames := 4, cells := 0, slots := 0, locals := 163 } : Room).slots) := by
  refine MetFree.of_bodySF (plainFor_of_name pn_13) hisR ?_
  intro p e s m args below meth c s₁ Bd hml0 hP hK
  obtain ⟨rfl, hZ, hh⟩ := hP
  have hx := Bd.exec
  have hby := Bd.bytes
  have hml : c.maxLocals = 2 := hml0
  have hown : s.vm.findClass "java/lang/StringBuilder" = some m.cls := findClass_of_methodNamed Bd.named
  have hnm := (name_of_methodNamed Bd.named Bd.method).1
  have X0 : Stand p l e ({ frames := 4, cells := 0, slots := 0, locals := 163 } : Room) s m #[(.ref a1), (.ref x)] below meth c s₁ [] 0 0 := Stand.of_body Bd
  have e0 : s₁.heap = h0 := by rw [← hh, Bd.state]; rfl
  have N0 := Fr.nil n0
  refine own_enter (ef_rmSbA m a1 x) ?_
  refine own_st (fun t_ k_ => XS.aloadN X0.here hx rfl (hb hby d13_0) rfl rfl (XS.aloadN X0.here hx rfl (hb hby d13_1) rfl rfl k_)) ?_
  show own_Go p e below s₁ (mkF m 2 #[.val (.ref a1), .val (.ref x)] [(.ref x), (.ref a1)]) _
  obtain ⟨_, _, ⟨T1, L1, k1, n1⟩, -, X1, ⟨Lc1, hQ1, l1, y1, z1⟩, st1⟩ := superBack X0 hx hZ (y := (⟨"java/lang/AbstractStringBuilder", "append", "(Ljava/lang/String;)Ljava/lang/AbstractStringBuilder;"⟩ : MethodName)) hown (own_w hw 74 rfl) (own_same (y := (⟨"java/lang/AbstractStringBuilder", "append", "(Ljava/lang/String;)Ljava/lang/AbstractStringBuilder;"⟩ : MethodName)) (y' := (⟨"java/lang/AbstractStringBuilder", "getValue", "()[B"⟩ : MethodName)) (own_w hw 77 rfl) (own_w hw 171 rfl) rfl (by decide)) (own_w hw 75 rfl) (own_w hw 76 rfl) (by decide) (backOf (W := 0) (rmAbA l Z a0 hw [] a1 va kva cap k bs rest x tx kx n us zc h0 n0 Z0 pE_a1 pF_value_a1 pF_coder_a1 pF_count_a1 pV_va pE_x pF_value_x pF_coder_x pV_tx hk hcap hn hfit hbig pG_a1 pG_va pS_COMPACT_STRINGS pP5 pO) hZ (own_w hw 78 rfl) (own_w hw 61 rfl) (by decide) (by decide)) e0 (Ins.self pE_a1) (g := (mkF m 2 #[.val (.ref a1), .val (.ref x)] [(.ref x), (.ref a1)])) rfl (by rw [hml]; rfl) (own_w hw 78 rfl) (argsL := [(.ref x)]) (rest := []) (lenOf pd__Ljava_lang_String__Ljava_lang_AbstractStringBuilder_ rfl) rfl (by show 2 * 0 + _ ≤ _; exact Nat.le_of_eq rfl) (hb hby d13_2) (fun _ _ => ⟨rfl, e0, (by decide : 0 + 0 ≤ _), (by decide : 0 + 0 ≤ _)⟩)
  dsimp only [Pt.U, Pt.locs, Pt.cells, Pt.slots] at X1 l1 y1 z1 st1 hQ1
  try dsimp only [Nat.reduceAdd] at y1 z1
  rw [l1, y1, z1] at X1
  obtain ⟨rfl, Nq1, Kq1, q1_0, q1_1, q1_2, q1_3, q1_4⟩ := hQ1
  have N1 := Fr.app N0 Nq1
  have K2 : Keep h0 T1.heap [a1, va] := (Keep.refl h0 [a1, va]).trans Kq1 (allS (Or.inl (List.mem_of_getElem? (i := 0) rfl)) (allS (Or.inl (List.mem_of_getElem? (i := 1) rfl)) all0))
  refine own_tr st1 ?_
  show own_Go p e below T1 (mkF m 5 #[.val (.ref a1), .val (.ref x)] [(.ref a1)]) _
  refine own_st (fun t_ k_ => XS.pop X1.here hx rfl (hb hby d13_5) rfl rfl (XS.aloadN X1.here hx rfl (hb hby d13_6) rfl rfl k_)) ?_
  show own_Go p e below T1 (mkF m 7 #[.val (.ref a1), .val (.ref x)] [(.ref a1)]) _
  obtain ⟨fs, hr, hrun, hended, hW, hsame⟩ := X1.leave (v := some (.ref a1)) (fun h => by rw [Bd.returns] at h; cases h)
  refine own_fin (own_retR X1 hx rfl Bd.returns rfl (hb hby d13_7) hr) ⟨hrun, hended, _, _, rfl, ?_, ⟨_, rfl⟩, hW, hsame.mono (by decide) (by decide)⟩
  show Q_rmSbA Z a1 va kva cap k bs rest x tx kx n us zc h0 n0 _ T1.heap _
  exact ⟨rfl, N1, K2, q1_0, q1_1, q1_2, q1_3, q1_4⟩
theorem d28_0 : decode jdk_29_method_69_code 0 = .ok (.iload_n 0, 1) := by decide +kernel
theorem d28_1 : decode jdk_29_method_69_code 1 = .ok (.iload_n 1, 1) := by decide +kernel
theorem d28_2 : decode jdk_29_method_69_code 2 = .ok (.if_icmp .gt 7, 3) := by decide +kernel
theorem d28_9 : decode jdk_29_method_69_code 9 = .ok (.iload_n 1, 1) := by decide +kernel
theorem d28_10 : decode jdk_29_method_69_code 10 = .ok (.ireturn, 1) := by decide +kernel
theorem ef_rmMb (m : MethodId) (x0 : Int32) (x1 : Int32) : entryFrame m #[(.int x0), (.int x1)] 2 = mkF m 0 #[.val (.int x0), .val (.int x1)] [] := by first | (simp [entryFrame, mkF, argsToLocals, Value.category]; done) | rfl
def Q_rmMb (Z : State) (a_ : Int32) (b_ : Int32) (h0 : Heap) (n0 : Nat) (v : Option Value) (h : Heap) (L : List Loc) : Prop := v = some (.int b_) ∧ Fr n0 L ∧ h = h0
set_option maxRecDepth 65536 in
set_option maxHeartbeats 40000000 in
theorem rmMb (l : Launch) (Z : State) (a0 : Array Value) (hw : ∀ d ∈ tables_1, d.before a0 Z = true) (ws : List Jvm.Cond) (a_ : Int32) (b_ : Int32) (h0 : Heap) (n0 : Nat) (Z0 : n0 ≤ h0.size) (h : (b_ < a_)) :
    MetFree l (⟨"java/lang/Math", "min", "(II)I"⟩ : MethodName) (head1 (Jvm.Cond.code (⟨"java/lang/Math", "min", "(II)I"⟩ : MethodName) jdk_29_method_69_code 2 (some .int) :: ws) ({ frames := 0, cells := 0, slots := 0, locals := 0 } : Room)) (fun a U => a = #[(.int a_), (.int b_)] ∧ Z.Warmed39 U.vm ∧ U.heap = h0) (fun _ _ _ _ _ => True) (fun _ U o U' => ∃ v L, o = .returned v ∧ Q_rmMb Z a_ b_ h0 n0 v U'.heap L ∧ FrameEnd U o U' L ({ frames := 0, cells := 0, slots := 0, locals := 0 } : Room).cells ({ frames := 0, cells := 0, slots := 0, locals := 0 } : Room).slots) := by
  refine MetFree.of_bodySF (Jvm.Free.JP.mathPlain rfl (by decide +kernel)) hisR ?_
  intro p e s m args below meth c s₁ Bd hml0 hP hK
  obtain ⟨rfl, hZ, hh⟩ := hP
  have hx := Bd.exec
  have hby := Bd.bytes
  have hml : c.maxLocals = 2 := hml0
  have hown : s.vm.findClass "java/lang/Math" = some m.cls := findClass_of_methodNamed Bd.named
  have hnm := (name_of_methodNamed Bd.named Bd.method).1
  have X0 : Stand p l e ({ frames := 0, cells := 0, slots := 0, locals := 0 } : Room) s m #[(.int a_), (.int b_)] below meth c s₁ [] 0 0 := Stand.of_body Bd
  have e0 : s₁.heap = h0 := by rw [← hh, Bd.state]; rfl
  have N0 := Fr.nil n0
  refine own_enter (ef_rmMb m a_ b_) ?_
  refine own_st (fun t_ k_ => XS.iloadN X0.here hx rfl (hb hby d28_0) rfl (XS.iloadN X0.here hx rfl (hb hby d28_1) rfl (XS.icmpYes X0.here hx rfl (pc0 := 2) (pc' := 9) rfl (hb hby d28_2) rfl (tlt h).2.2.1 (by decide) (by decide) (XS.iloadN X0.here hx rfl (hb hby d28_9) rfl k_)))) ?_
  show own_Go p e below s₁ (mkF m 10 #[.val (.int a_), .val (.int b_)] [(.int b_)]) _
  obtain ⟨fs, hr, hrun, hended, hW, hsame⟩ := X0.leave (v := some (.int b_)) (fun h => by rw [Bd.returns] at h; cases h)
  refine own_fin (own_retI X0 hx Bd.returns (hb hby d28_10) hr) ⟨hrun, hended, _, _, rfl, ?_, ⟨_, rfl⟩, hW, hsame.mono (by decide) (by decide)⟩
  show Q_rmMb Z a_ b_ h0 n0 _ s₁.heap _
  rw [e0]
  exact ⟨rfl, N0, rfl⟩
theorem d37_0 : decode jdk_65_method_131_code 0 = .ok (.iload_n 1, 1) := by decide +kernel
theorem d37_1 : decode jdk_65_method_131_code 1 = .ok (.iload_n 0, 1) := by decide +kernel
theorem d37_2 : decode jdk_65_method_131_code 2 = .ok (.if_icmp .ge 35, 3) := by decide +kernel
theorem d37_37 : decode jdk_65_method_131_code 37 = .ok (.return_, 1) := by decide +kernel
theorem pn_37 : plainName "java/util/Arrays" = true := by first | (simp [plainName, overriddenIn]; done) | decide +kernel
theorem ef_rmCl (m : MethodId) (x0 : Int32) (x1 : Int32) : entryFrame m #[(.int x0), (.int x1)] 2 = mkF m 0 #[.val (.int x0), .val (.int x1)] [] := by first | (simp [entryFrame, mkF, argsToLocals, Value.category]; done) | rfl
def Q_rmCl (Z : State) (a_ : Int32) (e_ : Int32) (h0 : Heap) (n0 : Nat) (v : Option Value) (h : Heap) (L : List Loc) : Prop := v = none ∧ Fr n0 L ∧ h = h0
set_option maxRecDepth 65536 in
set_option maxHeartbeats 40000000 in
theorem rmCl (l : Launch) (Z : State) (a0 : Array Value) (hw : ∀ d ∈ tables_1, d.before a0 Z = true) (ws : List Jvm.Cond) (a_ : Int32) (e_ : Int32) (h0 : Heap) (n0 : Nat) (Z0 : n0 ≤ h0.size) (hea : (¬ (e_ < a_))) :
    MetFree l (⟨"java/util/Arrays", "checkLength", "(II)V"⟩ : MethodName) (head1 (Jvm.Cond.code (⟨"java/util/Arrays", "checkLength", "(II)V"⟩ : MethodName) jdk_65_method_131_code 2 none :: ws) ({ frames := 0, cells := 0, slots := 0, locals := 0 } : Room)) (fun a U => a = #[(.int a_), (.int e_)] ∧ Z.Warmed39 U.vm ∧ U.heap = h0) (fun _ _ _ _ _ => True) (fun _ U o U' => ∃ v L, o = .returned v ∧ Q_rmCl Z a_ e_ h0 n0 v U'.heap L ∧ FrameEnd U o U' L ({ frames := 0, cells := 0, slots := 0, locals := 0 } : Room).cells ({ frames := 0, cells := 0, slots := 0, locals := 0 } : Room).slots) := by
  refine MetFree.of_bodySF (plainFor_of_name pn_37) hisR ?_
  intro p e s m args below meth c s₁ Bd hml0 hP hK
  obtain ⟨rfl, hZ, hh⟩ := hP
  have hx := Bd.exec
  have hby := Bd.bytes
  have hml : c.maxLocals = 2 := hml0
  have hown : s.vm.findClass "java/util/Arrays" = some m.cls := findClass_of_methodNamed Bd.named
  have hnm := (name_of_methodNamed Bd.named Bd.method).1
  have X0 : Stand p l e ({ frames := 0, cells := 0, slots := 0, locals := 0 } : Room) s m #[(.int a_), (.int e_)] below meth c s₁ [] 0 0 := Stand.of_body Bd
  have e0 : s₁.heap = h0 := by rw [← hh, Bd.state]; rfl
  have N0 := Fr.nil n0
  refine own_enter (ef_rmCl m a_ e_) ?_
  refine own_st (fun t_ k_ => XS.iloadN X0.here hx rfl (hb hby d37_0) rfl (XS.iloadN X0.here hx rfl (hb hby d37_1) rfl (XS.icmpYes X0.here hx rfl (pc0 := 2) (pc' := 37) rfl (hb hby d37_2) rfl (flt hea).2.1 (by decide) (by decide) k_))) ?_
  show own_Go p e below s₁ (mkF m 37 #[.val (.int a_), .val (.int e_)] []) _
  obtain ⟨fs, hr, hrun, hended, hW, hsame⟩ := X0.leave (v := none) (fun _ => rfl)
  refine own_fin (X0.returnOut hx Bd.returns (hb hby d37_37) hr) ⟨hrun, hended, _, _, rfl, ?_, ⟨_, rfl⟩, hW, hsame.mono (by decide) (by decide)⟩
  show Q_rmCl Z a_ e_ h0 n0 _ s₁.heap _
  rw [e0]
  exact ⟨rfl, N0, rfl⟩
theorem d36_0 : decode jdk_65_method_133_code 0 = .ok (.iload_n 1, 1) := by decide +kernel
theorem d36_1 : decode jdk_65_method_133_code 1 = .ok (.iload_n 2, 1) := by decide +kernel
theorem d36_2 : decode jdk_65_method_133_code 2 = .ok (.invokestatic 343, 3) := by decide +kernel
theorem d36_5 : decode jdk_65_method_133_code 5 = .ok (.iload_n 2, 1) := by decide +kernel
theorem d36_6 : decode jdk_65_method_133_code 6 = .ok (.iload_n 1, 1) := by decide +kernel
theorem d36_7 : decode jdk_65_method_133_code 7 = .ok (.isub, 1) := by decide +kernel
theorem d36_8 : decode jdk_65_method_133_code 8 = .ok (.istore_n 3, 1) := by decide +kernel
theorem d36_9 : decode jdk_65_method_133_code 9 = .ok (.iload_n 3, 1) := by decide +kernel
theorem d36_10 : decode jdk_65_method_133_code 10 = .ok (.newarray .byte, 2) := by decide +kernel
theorem d36_12 : decode jdk_65_method_133_code 12 = .ok (.astore 4, 2) := by decide +kernel
theorem d36_14 : decode jdk_65_method_133_code 14 = .ok (.aload_n 0, 1) := by decide +kernel
theorem d36_15 : decode jdk_65_method_133_code 15 = .ok (.iload_n 1, 1) := by decide +kernel
theorem d36_16 : decode jdk_65_method_133_code 16 = .ok (.aload 4, 2) := by decide +kernel
theorem d36_18 : decode jdk_65_method_133_code 18 = .ok (.iconst 0, 1) := by decide +kernel
theorem d36_19 : decode jdk_65_method_133_code 19 = .ok (.aload_n 0, 1) := by decide +kernel
theorem d36_20 : decode jdk_65_method_133_code 20 = .ok (.arraylength, 1) := by decide +kernel
theorem d36_21 : decode jdk_65_method_133_code 21 = .ok (.iload_n 1, 1) := by decide +kernel
theorem d36_22 : decode jdk_65_method_133_code 22 = .ok (.isub, 1) := by decide +kernel
theorem d36_23 : decode jdk_65_method_133_code 23 = .ok (.iload_n 3, 1) := by decide +kernel
theorem d36_24 : decode jdk_65_method_133_code 24 = .ok (.invokestatic 304, 3) := by decide +kernel
theorem d36_27 : decode jdk_65_method_133_code 27 = .ok (.invokestatic 150, 3) := by decide +kernel
theorem d36_30 : decode jdk_65_method_133_code 30 = .ok (.aload 4, 2) := by decide +kernel
theorem d36_32 : decode jdk_65_method_133_code 32 = .ok (.areturn, 1) := by decide +kernel
theorem pn_36 : plainName "java/util/Arrays" = true := by first | (simp [plainName, overriddenIn]; done) | decide +kernel
theorem pd__II_V : parseMethodDescriptor "(II)V" = some ⟨[.int, .int], none⟩ := by decide +kernel
theorem pd__II_I : parseMethodDescriptor "(II)I" = some ⟨[.int, .int], some .int⟩ := by decide +kernel
theorem ef_rmCr (m : MethodId) (x0 : Addr) (x1 : Int32) (x2 : Int32) : entryFrame m #[(.ref x0), (.int x1), (.int x2)] 5 = mkF m 0 #[.val (.ref x0), .val (.int x1), .val (.int x2), .unset, .unset] [] := by first | (simp [entryFrame, mkF, argsToLocals, Value.category]; done) | rfl
def Q_rmCr (Z : State) (va : Addr) (kva : ClassId) (cap : Int32) (k : Int32) (bs : List Value) (rest : List Value) (h0 : Heap) (n0 : Nat) (v : Option Value) (h : Heap) (L : List Loc) : Prop := ∃ b : Addr, ∃ kb : ClassId, v = some (.ref b) ∧ Fr n0 L ∧ Keep h0 h [] ∧ Arv Z h b kb .byte k bs (.int 0) ∧ h0.size ≤ b ∧ n0 ≤ b
set_option maxRecDepth 65536 in
set_option maxHeartbeats 40000000 in
theorem rmCr (l : Launch) (Z : State) (a0 : Array Value) (hw : ∀ d ∈ tables_1, d.before a0 Z = true) (ws : List Jvm.Cond) (va : Addr) (kva : ClassId) (cap : Int32) (k : Int32) (bs : List Value) (rest : List Value) (h0 : Heap) (n0 : Nat) (Z0 : n0 ≤ h0.size) (pV_va : Arv Z h0 va kva .byte cap (bs ++ rest) (.int 0)) (hk : (k.toInt = (bs.length : Int))) (hcap : (cap.toInt = ((bs.length + rest.length : Nat) : Int))) (hlt : (0 < rest.length)) (hbig : (bs.length ≤ 67)) :
    MetFree l (⟨"java/util/Arrays", "copyOfRangeByte", "([BII)[B"⟩ : MethodName) (head1 (Jvm.Cond.code (⟨"java/util/Arrays", "copyOfRangeByte", "([BII)[B"⟩ : MethodName) jdk_65_method_133_code 5 (some (.array .byte)) :: ws) ({ frames := 1, cells := 1, slots := 67, locals := 120 } : Room)) (fun a U => a = #[(.ref va), (.int (0 : Int32)), (.int k)] ∧ Z.Warmed39 U.vm ∧ U.heap = h0) (fun _ _ _ _ _ => True) (fun _ U o U' => ∃ v L, o = .returned v ∧ Q_rmCr Z va kva cap k bs rest h0 n0 v U'.heap L ∧ FrameEnd U o U' L ({ frames := 1, cells := 1, slots := 67, locals := 120 } : Room).cells ({ frames := 1, cells := 1, slots := 67, locals := 120 } : Room).slots) := by
  refine MetFree.of_bodySF (plainFor_of_name pn_36) hisR ?_
  intro p e s m args below meth c s₁ Bd hml0 hP hK
  obtain ⟨rfl, hZ, hh⟩ := hP
  have hx := Bd.exec
  have hby := Bd.bytes
  have hml : c.maxLocals = 5 := hml0
  have hown : s.vm.findClass "java/util/Arrays" = some m.cls := findClass_of_methodNamed Bd.named
  have hnm := (name_of_methodNamed Bd.named Bd.method).1
  have X0 : Stand p l e ({ frames := 1, cells := 1, slots := 67, locals := 120 } : Room) s m #[(.ref va), (.int (0 : Int32)), (.int k)] below meth c s₁ [] 0 0 := Stand.of_body Bd
  have e0 : s₁.heap = h0 := by rw [← hh, Bd.state]; rfl
  have N0 := Fr.nil n0
  refine own_enter (ef_rmCr m va ((0 : Int32)) k) ?_
  have hkz : k < cap := by rw [Int32.lt_iff_toInt_lt]; omega
  refine own_st (fun t_ k_ => XS.iloadN X0.here hx rfl (hb hby d36_0) rfl (XS.iloadN X0.here hx rfl (hb hby d36_1) rfl k_)) ?_
  show own_Go p e below s₁ (mkF m 2 #[.val (.ref va), .val (.int (0 : Int32)), .val (.int k), .unset, .unset] [(.int k), (.int (0 : Int32))]) _
  obtain ⟨_, _, ⟨T1, L1, k1, n1⟩, -, X1, ⟨Lc1, hQ1, l1, y1, z1⟩, st1⟩ := Jvm.LawKit.callS X0 hx (y := (⟨"java/util/Arrays", "checkLength", "(II)V"⟩ : MethodName)) hown (mvT hZ (own_w hw 188 rfl)) (mvT hZ (own_w hw 189 rfl)) (mvT hZ (own_w hw 148 rfl)) (mvT hZ (own_w hw 190 rfl)) (by decide) (backOf (W := 0) (rmCl l Z a0 hw [] ((0 : Int32)) k h0 n0 Z0 (own_nonneg hk)) hZ (own_w hw 190 rfl) (own_w hw 148 rfl) (by decide) (by decide)) (g := (mkF m 2 #[.val (.ref va), .val (.int (0 : Int32)), .val (.int k), .unset, .unset] [(.int k), (.int (0 : Int32))])) rfl (by rw [hml]; rfl) (argsL := [(.int (0 : Int32)), (.int k)]) (rest := []) (lenOf pd__II_V rfl) rfl (by show 2 * 0 + _ ≤ _; exact Nat.le_of_eq rfl) (hb hby d36_2) (fun _ _ => ⟨rfl, e0, (by decide : 0 + 0 ≤ _), (by decide : 0 + 0 ≤ _)⟩)
  dsimp only [Pt.U, Pt.locs, Pt.cells, Pt.slots] at X1 l1 y1 z1 st1 hQ1
  try dsimp only [Nat.reduceAdd] at y1 z1
  rw [l1, y1, z1] at X1
  obtain ⟨rfl, Nq1, eH1⟩ := hQ1
  have N1 := Fr.app N0 Nq1
  refine own_st st1 ?_
  show own_Go p e below T1 (mkF m 5 #[.val (.ref va), .val (.int (0 : Int32)), .val (.int k), .unset, .unset] []) _
  refine own_st (fun t_ k_ => XS.iloadN X1.here hx rfl (hb hby d36_5) rfl (XS.iloadN X1.here hx rfl (hb hby d36_6) rfl (XS.isub X1.here hx rfl (hb hby d36_7) rfl k_))) ?_
  show own_Go p e below T1 (mkF m 8 #[.val (.ref va), .val (.int (0 : Int32)), .val (.int k), .unset, .unset] [(.int (k - (0 : Int32)))]) _
  rw [own_sub0 k]
  show own_Go p e below T1 (mkF m 8 #[.val (.ref va), .val (.int (0 : Int32)), .val (.int k), .unset, .unset] [(.int k)]) _
  refine own_st (fun t_ k_ => XS.istoreN X1.here hx rfl (hb hby d36_8) rfl (l' := #[.val (.ref va), .val (.int (0 : Int32)), .val (.int k), .val (.int k), .unset]) rfl (XS.iloadN X1.here hx rfl (hb hby d36_9) rfl k_)) ?_
  show own_Go p e below T1 (mkF m 10 #[.val (.ref va), .val (.int (0 : Int32)), .val (.int k), .val (.int k), .unset] [(.int k)]) _
  obtain ⟨T2, h2, k2, X2, e2, E2, A2, st2⟩ := newP X1 hx hZ (own_w hw 19 rfl) eH1 (g := (mkF m 10 #[.val (.ref va), .val (.int (0 : Int32)), .val (.int k), .val (.int k), .unset] [(.int k)])) rfl (hb hby d36_10) rfl (own_nonneg hk) (cap := 67) (by rw [own_clamp hk]; exact hbig) (by decide) (by decide) (by decide)
  obtain ⟨b2, g2⟩ : ∃ z, z = h0.size := ⟨_, rfl⟩
  rw [← g2] at A2 st2
  have G2 : n0 ≤ b2 := Nat.le_trans Z0 (Nat.le_of_eq g2.symm)
  have B2 : h0.size ≤ b2 := Nat.le_trans (Keep.refl h0 []).1 (Nat.le_of_eq g2.symm)
  have K3 : Keep h0 h2 [] := (Keep.refl h0 []).ext E2
  have V2 : Arv Z h2 b2 k2 .byte k [] (.int (0 : Int32)) := Arv.new A2 (own_nonneg hk)
  refine own_st st2 ?_
  show own_Go p e below T2 (mkF m 12 #[.val (.ref va), .val (.int (0 : Int32)), .val (.int k), .val (.int k), .unset] [(.ref b2)]) _
  have Vp : Arv Z h2 b2 k2 .byte k (List.replicate bs.length (.int (0 : Int32))) (.int (0 : Int32)) := V2.pad (pad_rep [] (.int (0 : Int32)) bs.length)
  refine own_st (fun t_ k_ => XS.astore X2.here hx rfl (hb hby d36_12) rfl rfl (l' := #[.val (.ref va), .val (.int (0 : Int32)), .val (.int k), .val (.int k), .val (.ref b2)]) rfl (XS.aloadN X2.here hx rfl (hb hby d36_14) rfl rfl (XS.iloadN X2.here hx rfl (hb hby d36_15) rfl (XS.aload X2.here hx rfl (hb hby d36_16) rfl rfl (XS.iconst X2.here hx rfl (hb hby d36_18) (XS.aloadN X2.here hx rfl (hb hby d36_19) rfl rfl k_)))))) ?_
  show own_Go p e below T2 (mkF m 20 #[.val (.ref va), .val (.int (0 : Int32)), .val (.int k), .val (.int k), .val (.ref b2)] [(.ref va), (.int (0 : Int32)), (.ref b2), (.int (0 : Int32)), (.ref va)]) _
  have f4 := (pV_va.ext E2)
  obtain ⟨cl5, Ar5, q5, Sz5, Nn5, Hh5, Gg5⟩ := id f4
  refine own_st (fun t_ k_ => X2.arraylength hx (by rw [e2]; exact Ar5.1) (State.isArrayOf_alike hZ.alike Ar5.2.1) (g := (mkF m 20 #[.val (.ref va), .val (.int (0 : Int32)), .val (.int k), .val (.int k), .val (.ref b2)] [(.ref va), (.int (0 : Int32)), (.ref b2), (.int (0 : Int32)), (.ref va)])) rfl rfl (hb hby d36_20) _ k_) ?_
  rw [len_of Sz5 Nn5]
  show own_Go p e below T2 (mkF m 21 #[.val (.ref va), .val (.int (0 : Int32)), .val (.int k), .val (.int k), .val (.ref b2)] [(.int cap), (.int (0 : Int32)), (.ref b2), (.int (0 : Int32)), (.ref va)]) _
  refine own_st (fun t_ k_ => XS.iloadN X2.here hx rfl (hb hby d36_21) rfl (XS.isub X2.here hx rfl (hb hby d36_22) rfl k_)) ?_
  show own_Go p e below T2 (mkF m 23 #[.val (.ref va), .val (.int (0 : Int32)), .val (.int k), .val (.int k), .val (.ref b2)] [(.int (cap - (0 : Int32))), (.int (0 : Int32)), (.ref b2), (.int (0 : Int32)), (.ref va)]) _
  rw [own_sub0 cap]
  show own_Go p e below T2 (mkF m 23 #[.val (.ref va), .val (.int (0 : Int32)), .val (.int k), .val (.int k), .val (.ref b2)] [(.int cap), (.int (0 : Int32)), (.ref b2), (.int (0 : Int32)), (.ref va)]) _
  refine own_st (fun t_ k_ => XS.iloadN X2.here hx rfl (hb hby d36_23) rfl k_) ?_
  show own_Go p e below T2 (mkF m 24 #[.val (.ref va), .val (.int (0 : Int32)), .val (.int k), .val (.int k), .val (.ref b2)] [(.int k), (.int cap), (.int (0 : Int32)), (.ref b2), (.int (0 : Int32)), (.ref va)]) _
  have f6 := (Nat.le_trans Z0 E2.1)
  obtain ⟨_, _, ⟨T7, L7, k7, n7⟩, -, X7, ⟨Lc7, hQ7, l7, y7, z7⟩, st7⟩ := Jvm.LawKit.callS X2 hx (y := (⟨"java/lang/Math", "min", "(II)I"⟩ : MethodName)) hown (mvT hZ (own_w hw 150 rfl)) (mvT hZ (own_w hw 151 rfl)) (mvT hZ (own_w hw 142 rfl)) (mvT hZ (own_w hw 152 rfl)) (by decide) (backOf (W := 4) (rmMb l Z a0 hw [] cap k h2 n0 f6 hkz) hZ (own_w hw 152 rfl) (own_w hw 142 rfl) (by decide) (by decide)) (g := (mkF m 24 #[.val (.ref va), .val (.int (0 : Int32)), .val (.int k), .val (.int k), .val (.ref b2)] [(.int k), (.int cap), (.int (0 : Int32)), (.ref b2), (.int (0 : Int32)), (.ref va)])) rfl (by rw [hml]; rfl) (argsL := [(.int cap), (.int k)]) (rest := [(.int (0 : Int32)), (.ref b2), (.int (0 : Int32)), (.ref va)]) (lenOf pd__II_I rfl) rfl (by show 2 * 0 + _ ≤ _; exact Nat.le_of_eq rfl) (hb hby d36_24) (fun _ _ => ⟨rfl, e2, (by decide : 1 + 0 ≤ _), (by decide : 67 + 0 ≤ _)⟩)
  dsimp only [Pt.U, Pt.locs, Pt.cells, Pt.slots] at X7 l7 y7 z7 st7 hQ7
  try dsimp only [Nat.reduceAdd] at y7 z7
  rw [l7, y7, z7] at X7
  obtain ⟨rfl, Nq7, eH7⟩ := hQ7
  have N7 := Fr.app N1 Nq7
  refine own_st st7 ?_
  show own_Go p e below T7 (mkF m 27 #[.val (.ref va), .val (.int (0 : Int32)), .val (.int k), .val (.int k), .val (.ref b2)] [(.int k), (.int (0 : Int32)), (.ref b2), (.int (0 : Int32)), (.ref va)]) _
  obtain ⟨T8, h8, L8, X8, e8, N8, Kq8, Va8, st8⟩ := cpA X7 hx hZ hown (own_w hw 153 rfl) (own_w hw 106 rfl) (own_w hw 104 rfl) (own_w hw 105 rfl) eH7 f4 Vp (Or.inl ⟨rfl, rfl⟩) (sp := (0 : Int32)) (dp := (0 : Int32)) (nn := k) (by decide) (by decide) (own_nonneg hk) (by rw [own_clamp hk, own_clamp hcap]; exact Nat.le_trans (Nat.le_of_eq (Nat.zero_add _)) (Nat.le_add_right _ _)) (by rw [own_clamp hk]; exact Nat.le_of_eq (Nat.zero_add _)) (us := bs) (own_range hk) (by rw [own_clamp hk, List.length_replicate]; exact Nat.le_of_eq (Nat.zero_add _)) N7 G2 (g := (mkF m 27 #[.val (.ref va), .val (.int (0 : Int32)), .val (.int k), .val (.int k), .val (.ref b2)] [(.int k), (.int (0 : Int32)), (.ref b2), (.int (0 : Int32)), (.ref va)])) rfl (by rw [hml]; rfl) (rest := []) rfl (hb hby d36_27) (by decide) (W := 0) (by show 2 * 0 + _ ≤ _; exact Nat.le_of_eq rfl) (by decide +kernel)
  rw [own_cp0 hk (List.length_replicate ..)] at Va8
  have K9 : Keep h0 h8 [] := K3.trans Kq8 (allS (Or.inr B2) all0)
  refine own_st st8 ?_
  show own_Go p e below T8 (mkF m 30 #[.val (.ref va), .val (.int (0 : Int32)), .val (.int k), .val (.int k), .val (.ref b2)] []) _
  refine own_st (fun t_ k_ => XS.aload X8.here hx rfl (hb hby d36_30) rfl rfl k_) ?_
  show own_Go p e below T8 (mkF m 32 #[.val (.ref va), .val (.int (0 : Int32)), .val (.int k), .val (.int k), .val (.ref b2)] [(.ref b2)]) _
  obtain ⟨fs, hr, hrun, hended, hW, hsame⟩ := X8.leave (v := some (.ref b2)) (fun h => by rw [Bd.returns] at h; cases h)
  refine own_fin (own_retR X8 hx rfl Bd.returns rfl (hb hby d36_32) hr) ⟨hrun, hended, _, _, rfl, ?_, ⟨_, rfl⟩, hW, hsame.mono (by decide) (by decide)⟩
  show Q_rmCr Z va kva cap k bs rest h0 n0 _ T8.heap _
  rw [e8]
  exact ⟨b2, k2, rfl, N8, K9, Va8, B2, G2⟩
theorem d35_0 : decode jdk_65_method_132_code 0 = .ok (.iload_n 1, 1) := by decide +kernel
theorem d35_1 : decode jdk_65_method_132_code 1 = .ok (.ifCond .ne 9, 3) := by decide +kernel
theorem d35_4 : decode jdk_65_method_132_code 4 = .ok (.iload_n 2, 1) := by decide +kernel
theorem d35_5 : decode jdk_65_method_132_code 5 = .ok (.aload_n 0, 1) := by decide +kernel
theorem d35_6 : decode jdk_65_method_132_code 6 = .ok (.arraylength, 1) := by decide +kernel
theorem d35_7 : decode jdk_65_method_132_code 7 = .ok (.if_icmp .eq 10, 3) := by decide +kernel
theorem d35_10 : decode jdk_65_method_132_code 10 = .ok (.aload_n 0, 1) := by decide +kernel
theorem d35_11 : decode jdk_65_method_132_code 11 = .ok (.iload_n 1, 1) := by decide +kernel
theorem d35_12 : decode jdk_65_method_132_code 12 = .ok (.iload_n 2, 1) := by decide +kernel
theorem d35_13 : decode jdk_65_method_132_code 13 = .ok (.invokestatic 339, 3) := by decide +kernel
theorem d35_16 : decode jdk_65_method_132_code 16 = .ok (.areturn, 1) := by decide +kernel
theorem pn_35 : plainName "java/util/Arrays" = true := by first | (simp [plainName, overriddenIn]; done) | decide +kernel
theorem pd___BII__B : parseMethodDescriptor "([BII)[B" = some ⟨[(.array .byte), .int, .int], some (.array .byte)⟩ := by decide +kernel
theorem ef_rmCp (m : MethodId) (x0 : Addr) (x1 : Int32) (x2 : Int32) : entryFrame m #[(.ref x0), (.int x1), (.int x2)] 3 = mkF m 0 #[.val (.ref x0), .val (.int x1), .val (.int x2)] [] := by first | (simp [entryFrame, mkF, argsToLocals, Value.category]; done) | rfl
def Q_rmCp (Z : State) (va : Addr) (kva : ClassId) (cap : Int32) (k : Int32) (bs : List Value) (rest : List Value) (h0 : Heap) (n0 : Nat) (v : Option Value) (h : Heap) (L : List Loc) : Prop := ∃ b : Addr, ∃ kb : ClassId, v = some (.ref b) ∧ Fr n0 L ∧ Keep h0 h [] ∧ Arv Z h b kb .byte k bs (.int 0) ∧ h0.size ≤ b ∧ n0 ≤ b
set_option maxRecDepth 65536 in
set_option maxHeartbeats 40000000 in
theorem rmCp (l : Launch) (Z : State) (a0 : Array Value) (hw : ∀ d ∈ tables_1, d.before a0 Z = true) (ws : List Jvm.Cond) (va : Addr) (kva : ClassId) (cap : Int32) (k : Int32) (bs : List Value) (rest : List Value) (h0 : Heap) (n0 : Nat) (Z0 : n0 ≤ h0.size) (pV_va : Arv Z h0 va kva .byte cap (bs ++ rest) (.int 0)) (hk : (k.toInt = (bs.length : Int))) (hcap : (cap.toInt = ((bs.length + rest.length : Nat) : Int))) (hlt : (0 < rest.length)) (hbig : (bs.length ≤ 67)) :
    MetFree l (⟨"java/util/Arrays", "copyOfRange", "([BII)[B"⟩ : MethodName) (head1 (Jvm.Cond.code (⟨"java/util/Arrays", "copyOfRange", "([BII)[B"⟩ : MethodName) jdk_65_method_132_code 3 (some (.array .byte)) :: ws) ({ frames := 2, cells := 1, slots := 67, locals := 136 } : Room)) (fun a U => a = #[(.ref va), (.int (0 : Int32)), (.int k)] ∧ Z.Warmed39 U.vm ∧ U.heap = h0) (fun _ _ _ _ _ => True) (fun _ U o U' => ∃ v L, o = .returned v ∧ Q_rmCp Z va kva cap k bs rest h0 n0 v U'.heap L ∧ FrameEnd U o U' L ({ frames := 2, cells := 1, slots := 67, locals := 136 } : Room).cells ({ frames := 2, cells := 1, slots := 67, locals := 136 } : Room).slots) := by
  refine MetFree.of_bodySF (plainFor_of_name pn_35) hisR ?_
  intro p e s m args below meth c s₁ Bd hml0 hP hK
  obtain ⟨rfl, hZ, hh⟩ := hP
  have hx := Bd.exec
  have hby := Bd.bytes
  have hml : c.maxLocals = 3 := hml0
  have hown : s.vm.findClass "java/util/Arrays" = some m.cls := findClass_of_methodNamed Bd.named
  have hnm := (name_of_methodNamed Bd.named Bd.method).1
  have X0 : Stand p l e ({ frames := 2, cells := 1, slots := 67, locals := 136 } : Room) s m #[(.ref va), (.int (0 : Int32)), (.int k)] below meth c s₁ [] 0 0 := Stand.of_body Bd
  have e0 : s₁.heap = h0 := by rw [← hh, Bd.state]; rfl
  have N0 := Fr.nil n0
  refine own_enter (ef_rmCp m va ((0 : Int32)) k) ?_
  have hkz : k < cap := by rw [Int32.lt_iff_toInt_lt]; omega
  have hne : ¬ (k = cap) := fun q => by rw [q, Int32.lt_iff_toInt_lt] at hkz; omega
  refine own_st (fun t_ k_ => XS.iloadN X0.here hx rfl (hb hby d35_0) rfl (XS.ifNo X0.here hx rfl (hb hby d35_1) rfl (by decide) (XS.iloadN X0.here hx rfl (hb hby d35_4) rfl (XS.aloadN X0.here hx rfl (hb hby d35_5) rfl rfl k_)))) ?_
  show own_Go p e below s₁ (mkF m 6 #[.val (.ref va), .val (.int (0 : Int32)), .val (.int k)] [(.ref va), (.int k)]) _
  obtain ⟨cl1, Ar1, q1, Sz1, Nn1, Hh1, Gg1⟩ := id pV_va
  refine own_st (fun t_ k_ => X0.arraylength hx (by rw [e0]; exact Ar1.1) (State.isArrayOf_alike hZ.alike Ar1.2.1) (g := (mkF m 6 #[.val (.ref va), .val (.int (0 : Int32)), .val (.int k)] [(.ref va), (.int k)])) rfl rfl (hb hby d35_6) _ k_) ?_
  rw [len_of Sz1 Nn1]
  show own_Go p e below s₁ (mkF m 7 #[.val (.ref va), .val (.int (0 : Int32)), .val (.int k)] [(.int cap), (.int k)]) _
  refine own_st (fun t_ k_ => XS.icmpNo X0.here hx rfl (hb hby d35_7) rfl (feq hne).1 (XS.aloadN X0.here hx rfl (hb hby d35_10) rfl rfl (XS.iloadN X0.here hx rfl (hb hby d35_11) rfl (XS.iloadN X0.here hx rfl (hb hby d35_12) rfl k_)))) ?_
  show own_Go p e below s₁ (mkF m 13 #[.val (.ref va), .val (.int (0 : Int32)), .val (.int k)] [(.int k), (.int (0 : Int32)), (.ref va)]) _
  obtain ⟨_, _, ⟨T2, L2, k2, n2⟩, -, X2, ⟨Lc2, hQ2, l2, y2, z2⟩, st2⟩ := Jvm.LawKit.callS X0 hx (y := (⟨"java/util/Arrays", "copyOfRangeByte", "([BII)[B"⟩ : MethodName)) hown (mvT hZ (own_w hw 185 rfl)) (mvT hZ (own_w hw 186 rfl)) (mvT hZ (own_w hw 148 rfl)) (mvT hZ (own_w hw 187 rfl)) (by decide) (backOf (W := 0) (rmCr l Z a0 hw [] va kva cap k bs rest h0 n0 Z0 pV_va hk hcap hlt hbig) hZ (own_w hw 187 rfl) (own_w hw 148 rfl) (by decide) (by decide)) (g := (mkF m 13 #[.val (.ref va), .val (.int (0 : Int32)), .val (.int k)] [(.int k), (.int (0 : Int32)), (.ref va)])) rfl (by rw [hml]; rfl) (argsL := [(.ref va), (.int (0 : Int32)), (.int k)]) (rest := []) (lenOf pd___BII__B rfl) rfl (by show 2 * 0 + _ ≤ _; exact Nat.le_of_eq rfl) (hb hby d35_13) (fun _ _ => ⟨rfl, e0, (by decide : 0 + 1 ≤ _), (by decide : 0 + 67 ≤ _)⟩)
  dsimp only [Pt.U, Pt.locs, Pt.cells, Pt.slots] at X2 l2 y2 z2 st2 hQ2
  try dsimp only [Nat.reduceAdd] at y2 z2
  rw [l2, y2, z2] at X2
  obtain ⟨b_2, kb_2, rfl, Nq2, Kq2, q2_0, q2_1, q2_2⟩ := hQ2
  have N2 := Fr.app N0 Nq2
  have K3 : Keep h0 T2.heap [] := (Keep.refl h0 []).trans Kq2 all0
  have Bf4 : h0.size ≤ b_2 := Nat.le_trans (Keep.refl h0 []).1 q2_1
  refine own_st st2 ?_
  show own_Go p e below T2 (mkF m 16 #[.val (.ref va), .val (.int (0 : Int32)), .val (.int k)] [(.ref b_2)]) _
  obtain ⟨fs, hr, hrun, hended, hW, hsame⟩ := X2.leave (v := some (.ref b_2)) (fun h => by rw [Bd.returns] at h; cases h)
  refine own_fin (own_retR X2 hx rfl Bd.returns rfl (hb hby d35_16) hr) ⟨hrun, hended, _, _, rfl, ?_, ⟨_, rfl⟩, hW, hsame.mono (by decide) (by decide)⟩
  show Q_rmCp Z va kva cap k bs rest h0 n0 _ T2.heap _
  exact ⟨b_2, kb_2, rfl, N2, K3, q2_0, Bf4, q2_2⟩
theorem d32_0 : decode jdk_68_method_64_code 0 = .ok (.aload_n 0, 1) := by decide +kernel
theorem d32_1 : decode jdk_68_method_64_code 1 = .ok (.getfield 15, 3) := by decide +kernel
theorem d32_4 : decode jdk_68_method_64_code 4 = .ok (.areturn, 1) := by decide +kernel
theorem pn_32 : plainName "java/lang/AbstractStringBuilder" = true := by first | (simp [plainName, overriddenIn]; done) | decide +kernel
theorem ef_rmGv (m : MethodId) (x0 : Addr) : entryFrame m #[(.ref x0)] 1 = mkF m 0 #[.val (.ref x0)] [] := by first | (simp [entryFrame, mkF, argsToLocals, Value.category]; done) | rfl
def Q_rmGv (Z : State) (a1 : Addr) (va : Addr) (h0 : Heap) (n0 : Nat) (v : Option Value) (h : Heap) (L : List Loc) : Prop := v = some (.ref va) ∧ Fr n0 L ∧ h = h0
set_option maxRecDepth 65536 in
set_option maxHeartbeats 40000000 in
theorem rmGv (l : Launch) (Z : State) (a0 : Array Value) (hw : ∀ d ∈ tables_1, d.before a0 Z = true) (ws : List Jvm.Cond) (a1 : Addr) (va : Addr) (h0 : Heap) (n0 : Nat) (Z0 : n0 ≤ h0.size) (pE_a1 : Exa Z h0 a1 "java/lang/StringBuilder") (pF_value_a1 : Fld Z h0 a1 "java/lang/AbstractStringBuilder" "value" "[B" (.ref va)) :
    MetFree l (⟨"java/lang/AbstractStringBuilder", "getValue", "()[B"⟩ : MethodName) (head1 (Jvm.Cond.code (⟨"java/lang/AbstractStringBuilder", "getValue", "()[B"⟩ : MethodName) jdk_68_method_64_code 1 (some (.array .byte)) :: ws) ({ frames := 0, cells := 0, slots := 0, locals := 0 } : Room)) (fun a U => a = #[(.ref a1)] ∧ Z.Warmed39 U.vm ∧ U.heap = h0) (fun _ _ _ _ _ => True) (fun _ U o U' => ∃ v L, o = .returned v ∧ Q_rmGv Z a1 va h0 n0 v U'.heap L ∧ FrameEnd U o U' L ({ frames := 0, cells := 0, slots := 0, locals := 0 } : Room).cells ({ frames := 0, cells := 0, slots := 0, locals := 0 } : Room).slots) := by
  refine MetFree.of_bodySF (plainFor_of_name pn_32) hisR ?_
  intro p e s m args below meth c s₁ Bd hml0 hP hK
  obtain ⟨rfl, hZ, hh⟩ := hP
  have hx := Bd.exec
  have hby := Bd.bytes
  have hml : c.maxLocals = 1 := hml0
  have hown : s.vm.findClass "java/lang/AbstractStringBuilder" = some m.cls := findClass_of_methodNamed Bd.named
  have hnm := (name_of_methodNamed Bd.named Bd.method).1
  have X0 : Stand p l e ({ frames := 0, cells := 0, slots := 0, locals := 0 } : Room) s m #[(.ref a1)] below meth c s₁ [] 0 0 := Stand.of_body Bd
  have e0 : s₁.heap = h0 := by rw [← hh, Bd.state]; rfl
  have N0 := Fr.nil n0
  refine own_enter (ef_rmGv m a1) ?_
  refine own_st (fun t_ k_ => XS.aloadN X0.here hx rfl (hb hby d32_0) rfl rfl k_) ?_
  show own_Go p e below s₁ (mkF m 1 #[.val (.ref a1)] [(.ref a1)]) _
  obtain ⟨T1, X1, e1, st1⟩ := getF X0 hx hZ hown (host := "") (Or.inl (own_w hw 65 rfl)) Via.refl e0 pF_value_a1 (g := (mkF m 1 #[.val (.ref a1)] [(.ref a1)])) rfl rfl (hb hby d32_1)
  refine own_st st1 ?_
  show own_Go p e below T1 (mkF m 4 #[.val (.ref a1)] [(.ref va)]) _
  obtain ⟨fs, hr, hrun, hended, hW, hsame⟩ := X1.leave (v := some (.ref va)) (fun h => by rw [Bd.returns] at h; cases h)
  refine own_fin (own_retR X1 hx rfl Bd.returns rfl (hb hby d32_4) hr) ⟨hrun, hended, _, _, rfl, ?_, ⟨_, rfl⟩, hW, hsame.mono (by decide) (by decide)⟩
  show Q_rmGv Z a1 va h0 n0 _ T1.heap _
  rw [e1]
  exact ⟨rfl, N0, rfl⟩
theorem d34_0 : decode jdk_68_method_6_code 0 = .ok (.aload_n 0, 1) := by decide +kernel
theorem d34_1 : decode jdk_68_method_6_code 1 = .ok (.getfield 79, 3) := by decide +kernel
theorem d34_4 : decode jdk_68_method_6_code 4 = .ok (.ireturn, 1) := by decide +kernel
theorem pn_34 : plainName "java/lang/AbstractStringBuilder" = true := by first | (simp [plainName, overriddenIn]; done) | decide +kernel
theorem ef_rmAl (m : MethodId) (x0 : Addr) : entryFrame m #[(.ref x0)] 1 = mkF m 0 #[.val (.ref x0)] [] := by first | (simp [entryFrame, mkF, argsToLocals, Value.category]; done) | rfl
def Q_rmAl (Z : State) (a1 : Addr) (k : Int32) (h0 : Heap) (n0 : Nat) (v : Option Value) (h : Heap) (L : List Loc) : Prop := v = some (.int k) ∧ Fr n0 L ∧ h = h0
set_option maxRecDepth 65536 in
set_option maxHeartbeats 40000000 in
theorem rmAl (l : Launch) (Z : State) (a0 : Array Value) (hw : ∀ d ∈ tables_1, d.before a0 Z = true) (ws : List Jvm.Cond) (a1 : Addr) (k : Int32) (h0 : Heap) (n0 : Nat) (Z0 : n0 ≤ h0.size) (pE_a1 : Exa Z h0 a1 "java/lang/StringBuilder") (pF_count_a1 : Fld Z h0 a1 "java/lang/AbstractStringBuilder" "count" "I" (.int k)) :
    MetFree l (⟨"java/lang/AbstractStringBuilder", "length", "()I"⟩ : MethodName) (head1 (Jvm.Cond.code (⟨"java/lang/AbstractStringBuilder", "length", "()I"⟩ : MethodName) jdk_68_method_6_code 1 (some .int) :: ws) ({ frames := 0, cells := 0, slots := 0, locals := 0 } : Room)) (fun a U => a = #[(.ref a1)] ∧ Z.Warmed39 U.vm ∧ U.heap = h0) (fun _ _ _ _ _ => True) (fun _ U o U' => ∃ v L, o = .returned v ∧ Q_rmAl Z a1 k h0 n0 v U'.heap L ∧ FrameEnd U o U' L ({ frames := 0, cells := 0, slots := 0, locals := 0 } : Room).cells ({ frames := 0, cells := 0, slots := 0, locals := 0 } : Room).slots) := by
  refine MetFree.of_bodySF (plainFor_of_name pn_34) hisR ?_
  intro p e s m args below meth c s₁ Bd hml0 hP hK
  obtain ⟨rfl, hZ, hh⟩ := hP
  have hx := Bd.exec
  have hby := Bd.bytes
  have hml : c.maxLocals = 1 := hml0
  have hown : s.vm.findClass "java/lang/AbstractStringBuilder" = some m.cls := findClass_of_methodNamed Bd.named
  have hnm := (name_of_methodNamed Bd.named Bd.method).1
  have X0 : Stand p l e ({ frames := 0, cells := 0, slots := 0, locals := 0 } : Room) s m #[(.ref a1)] below meth c s₁ [] 0 0 := Stand.of_body Bd
  have e0 : s₁.heap = h0 := by rw [← hh, Bd.state]; rfl
  have N0 := Fr.nil n0
  refine own_enter (ef_rmAl m a1) ?_
  refine own_st (fun t_ k_ => XS.aloadN X0.here hx rfl (hb hby d34_0) rfl rfl k_) ?_
  show own_Go p e below s₁ (mkF m 1 #[.val (.ref a1)] [(.ref a1)]) _
  obtain ⟨T1, X1, e1, st1⟩ := getF X0 hx hZ hown (host := "") (Or.inl (own_w hw 80 rfl)) Via.refl e0 pF_count_a1 (g := (mkF m 1 #[.val (.ref a1)] [(.ref a1)])) rfl rfl (hb hby d34_1)
  refine own_st st1 ?_
  show own_Go p e below T1 (mkF m 4 #[.val (.ref a1)] [(.int k)]) _
  obtain ⟨fs, hr, hrun, hended, hW, hsame⟩ := X1.leave (v := some (.int k)) (fun h => by rw [Bd.returns] at h; cases h)
  refine own_fin (own_retI X1 hx Bd.returns (hb hby d34_4) hr) ⟨hrun, hended, _, _, rfl, ?_, ⟨_, rfl⟩, hW, hsame.mono (by decide) (by decide)⟩
  show Q_rmAl Z a1 k h0 n0 _ T1.heap _
  rw [e1]
  exact ⟨rfl, N0, rfl⟩
theorem d33_0 : decode jdk_67_method_93_code 0 = .ok (.aload_n 0, 1) := by decide +kernel
theorem d33_1 : decode jdk_67_method_93_code 1 = .ok (.invokespecial 343, 3) := by decide +kernel
theorem d33_4 : decode jdk_67_method_93_code 4 = .ok (.ireturn, 1) := by decide +kernel
theorem pn_33 : plainName "java/lang/StringBuilder" = true := by first | (simp [plainName, overriddenIn]; done) | decide +kernel
theorem ef_rmSl (m : MethodId) (x0 : Addr) : entryFrame m #[(.ref x0)] 1 = mkF m 0 #[.val (.ref x0)] [] := by first | (simp [entryFrame, mkF, argsToLocals, Value.category]; done) | rfl
def Q_rmSl (Z : State) (a1 : Addr) (k : Int32) (h0 : Heap) (n0 : Nat) (v : Option Value) (h : Heap) (L : List Loc) : Prop := v = some (.int k) ∧ Fr n0 L ∧ h = h0
set_option maxRecDepth 65536 in
set_option maxHeartbeats 40000000 in
theorem rmSl (l : Launch) (Z : State) (a0 : Array Value) (hw : ∀ d ∈ tables_1, d.before a0 Z = true) (ws : List Jvm.Cond) (a1 : Addr) (k : Int32) (h0 : Heap) (n0 : Nat) (Z0 : n0 ≤ h0.size) (pE_a1 : Exa Z h0 a1 "java/lang/StringBuilder") (pF_count_a1 : Fld Z h0 a1 "java/lang/AbstractStringBuilder" "count" "I" (.int k)) :
    MetFree l (⟨"java/lang/StringBuilder", "length", "()I"⟩ : MethodName) (head1 (Jvm.Cond.code (⟨"java/lang/StringBuilder", "length", "()I"⟩ : MethodName) jdk_67_method_93_code 1 (some .int) :: ws) ({ frames := 1, cells := 0, slots := 0, locals := 12 } : Room)) (fun a U => a = #[(.ref a1)] ∧ Z.Warmed39 U.vm ∧ U.heap = h0) (fun _ _ _ _ _ => True) (fun _ U o U' => ∃ v L, o = .returned v ∧ Q_rmSl Z a1 k h0 n0 v U'.heap L ∧ FrameEnd U o U' L ({ frames := 1, cells := 0, slots := 0, locals := 12 } : Room).cells ({ frames := 1, cells := 0, slots := 0, locals := 12 } : Room).slots) := by
  refine MetFree.of_bodySF (plainFor_of_name pn_33) hisR ?_
  intro p e s m args below meth c s₁ Bd hml0 hP hK
  obtain ⟨rfl, hZ, hh⟩ := hP
  have hx := Bd.exec
  have hby := Bd.bytes
  have hml : c.maxLocals = 1 := hml0
  have hown : s.vm.findClass "java/lang/StringBuilder" = some m.cls := findClass_of_methodNamed Bd.named
  have hnm := (name_of_methodNamed Bd.named Bd.method).1
  have X0 : Stand p l e ({ frames := 1, cells := 0, slots := 0, locals := 12 } : Room) s m #[(.ref a1)] below meth c s₁ [] 0 0 := Stand.of_body Bd
  have e0 : s₁.heap = h0 := by rw [← hh, Bd.state]; rfl
  have N0 := Fr.nil n0
  refine own_enter (ef_rmSl m a1) ?_
  refine own_st (fun t_ k_ => XS.aloadN X0.here hx rfl (hb hby d33_0) rfl rfl k_) ?_
  show own_Go p e below s₁ (mkF m 1 #[.val (.ref a1)] [(.ref a1)]) _
  obtain ⟨_, _, ⟨T1, L1, k1, n1⟩, -, X1, ⟨Lc1, hQ1, l1, y1, z1⟩, st1⟩ := superBack X0 hx hZ (y := (⟨"java/lang/AbstractStringBuilder", "length", "()I"⟩ : MethodName)) hown (own_w hw 179 rfl) (own_same (y := (⟨"java/lang/AbstractStringBuilder", "length", "()I"⟩ : MethodName)) (y' := (⟨"java/lang/AbstractStringBuilder", "getValue", "()[B"⟩ : MethodName)) (own_w hw 174 rfl) (own_w hw 171 rfl) rfl (by decide)) (own_w hw 175 rfl) (own_w hw 76 rfl) (by decide) (backOf (W := 0) (rmAl l Z a0 hw [] a1 k h0 n0 Z0 pE_a1 pF_count_a1) hZ (own_w hw 180 rfl) (own_w hw 61 rfl) (by decide) (by decide)) e0 (Ins.self pE_a1) (g := (mkF m 1 #[.val (.ref a1)] [(.ref a1)])) rfl (by rw [hml]; rfl) (own_w hw 180 rfl) (argsL := []) (rest := []) (lenOf pd___I rfl) rfl (by show 2 * 0 + _ ≤ _; exact Nat.le_of_eq rfl) (hb hby d33_1) (fun _ _ => ⟨rfl, e0, (by decide : 0 + 0 ≤ _), (by decide : 0 + 0 ≤ _)⟩)
  dsimp only [Pt.U, Pt.locs, Pt.cells, Pt.slots] at X1 l1 y1 z1 st1 hQ1
  try dsimp only [Nat.reduceAdd] at y1 z1
  rw [l1, y1, z1] at X1
  obtain ⟨rfl, Nq1, eH1⟩ := hQ1
  have N1 := Fr.app N0 Nq1
  refine own_tr st1 ?_
  show own_Go p e below T1 (mkF m 4 #[.val (.ref a1)] [(.int k)]) _
  obtain ⟨fs, hr, hrun, hended, hW, hsame⟩ := X1.leave (v := some (.int k)) (fun h => by rw [Bd.returns] at h; cases h)
  refine own_fin (own_retI X1 hx Bd.returns (hb hby d33_4) hr) ⟨hrun, hended, _, _, rfl, ?_, ⟨_, rfl⟩, hW, hsame.mono (by decide) (by decide)⟩
  show Q_rmSl Z a1 k h0 n0 _ T1.heap _
  rw [eH1]
  exact ⟨rfl, N1, rfl⟩
theorem d22_0 : decode jdk_68_method_68_code 0 = .ok (.getstatic 18, 3) := by decide +kernel
theorem d22_3 : decode jdk_68_method_68_code 3 = .ok (.ifCond .eq 14, 3) := by decide +kernel
theorem d22_6 : decode jdk_68_method_68_code 6 = .ok (.aload_n 0, 1) := by decide +kernel
theorem d22_7 : decode jdk_68_method_68_code 7 = .ok (.getfield 22, 3) := by decide +kernel
theorem d22_10 : decode jdk_68_method_68_code 10 = .ok (.ifCond .ne 7, 3) := by decide +kernel
theorem d22_13 : decode jdk_68_method_68_code 13 = .ok (.iconst 1, 1) := by decide +kernel
theorem d22_14 : decode jdk_68_method_68_code 14 = .ok (.goto 4, 3) := by decide +kernel
theorem d22_18 : decode jdk_68_method_68_code 18 = .ok (.ireturn, 1) := by decide +kernel
theorem pn_22 : plainName "java/lang/AbstractStringBuilder" = true := by first | (simp [plainName, overriddenIn]; done) | decide +kernel
theorem ef_rmAil (m : MethodId) (x0 : Addr) : entryFrame m #[(.ref x0)] 1 = mkF m 0 #[.val (.ref x0)] [] := by first | (simp [entryFrame, mkF, argsToLocals, Value.category]; done) | rfl
def Q_rmAil (Z : State) (a1 : Addr) (zc : Int32) (h0 : Heap) (n0 : Nat) (v : Option Value) (h : Heap) (L : List Loc) : Prop := v = some (.int (1 : Int32)) ∧ Fr n0 L ∧ h = h0
set_option maxRecDepth 65536 in
set_option maxHeartbeats 40000000 in
theorem rmAil (l : Launch) (Z : State) (a0 : Array Value) (hw : ∀ d ∈ tables_1, d.before a0 Z = true) (ws : List Jvm.Cond) (a1 : Addr) (zc : Int32) (h0 : Heap) (n0 : Nat) (Z0 : n0 ≤ h0.size) (pE_a1 : Exa Z h0 a1 "java/lang/StringBuilder") (pF_coder_a1 : Fld Z h0 a1 "java/lang/AbstractStringBuilder" "coder" "B" (.int (0 : Int32))) (pS_COMPACT_STRINGS : Sta Z Z.heap "java/lang/String" "COMPACT_STRINGS" "Z" (.int zc)) (pP5 : (¬ (zc = (0 : Int32)))) (pO : Old Z n0 h0) :
    MetFree l (⟨"java/lang/AbstractStringBuilder", "isLatin1", "()Z"⟩ : MethodName) (head1 (Jvm.Cond.code (⟨"java/lang/AbstractStringBuilder", "isLatin1", "()Z"⟩ : MethodName) jdk_68_method_68_code 1 (some .boolean) :: ws) ({ frames := 0, cells := 0, slots := 0, locals := 0 } : Room)) (fun a U => a = #[(.ref a1)] ∧ Z.Warmed39 U.vm ∧ U.heap = h0) (fun _ _ _ _ _ => True) (fun _ U o U' => ∃ v L, o = .returned v ∧ Q_rmAil Z a1 zc h0 n0 v U'.heap L ∧ FrameEnd U o U' L ({ frames := 0, cells := 0, slots := 0, locals := 0 } : Room).cells ({ frames := 0, cells := 0, slots := 0, locals := 0 } : Room).slots) := by
  refine MetFree.of_bodySF (plainFor_of_name pn_22) hisR ?_
  intro p e s m args below meth c s₁ Bd hml0 hP hK
  obtain ⟨rfl, hZ, hh⟩ := hP
  have hx := Bd.exec
  have hby := Bd.bytes
  have hml : c.maxLocals = 1 := hml0
  have hown : s.vm.findClass "java/lang/AbstractStringBuilder" = some m.cls := findClass_of_methodNamed Bd.named
  have hnm := (name_of_methodNamed Bd.named Bd.method).1
  have X0 : Stand p l e ({ frames := 0, cells := 0, slots := 0, locals := 0 } : Room) s m #[(.ref a1)] below meth c s₁ [] 0 0 := Stand.of_body Bd
  have e0 : s₁.heap = h0 := by rw [← hh, Bd.state]; rfl
  have N0 := Fr.nil n0
  refine own_enter (ef_rmAil m a1) ?_
  obtain ⟨T1, X1, e1, st1⟩ := getS2 X0 hx hZ hown (host := "") (Or.inl (own_w hw 64 rfl)) Via.refl e0 (pS_COMPACT_STRINGS.ext pO.2) (g := (mkF m 0 #[.val (.ref a1)] [])) rfl (hb hby d22_0)
  refine own_st st1 ?_
  show own_Go p e below T1 (mkF m 3 #[.val (.ref a1)] [(.int zc)]) _
  refine own_st (fun t_ k_ => XS.ifNo X1.here hx rfl (hb hby d22_3) rfl ((if0 _ _).trans (feq pP5).1) (XS.aloadN X1.here hx rfl (hb hby d22_6) rfl rfl k_)) ?_
  show own_Go p e below T1 (mkF m 7 #[.val (.ref a1)] [(.ref a1)]) _
  obtain ⟨T2, X2, e2, st2⟩ := getF X1 hx hZ hown (host := "") (Or.inl (own_w hw 67 rfl)) Via.refl e1 pF_coder_a1 (g := (mkF m 7 #[.val (.ref a1)] [(.ref a1)])) rfl rfl (hb hby d22_7)
  refine own_st st2 ?_
  show own_Go p e below T2 (mkF m 10 #[.val (.ref a1)] [(.int (0 : Int32))]) _
  refine own_st (fun t_ k_ => XS.ifNo X2.here hx rfl (hb hby d22_10) rfl (by decide) (XS.iconst X2.here hx rfl (hb hby d22_13) (XS.goto X2.here hx rfl (pc0 := 14) (pc' := 18) rfl (hb hby d22_14) (by decide) (by decide) k_))) ?_
  show own_Go p e below T2 (mkF m 18 #[.val (.ref a1)] [(.int (1 : Int32))]) _
  obtain ⟨fs, hr, hrun, hended, hW, hsame⟩ := X2.leave (v := some (.int (1 : Int32))) (fun h => by rw [Bd.returns] at h; cases h)
  refine own_fin (retN X2 hx (t := .boolean) Bd.returns (by simp) (hb hby d22_18) hr) ⟨hrun, hended, _, _, rfl, ?_, ⟨_, rfl⟩, hW, hsame.mono (by decide) (by decide)⟩
  show Q_rmAil Z a1 zc h0 n0 _ T2.heap _
  rw [e2]
  exact ⟨rfl, N0, rfl⟩
theorem d31_0 : decode jdk_42_method_150_code 0 = .ok (.aload_n 0, 1) := by decide +kernel
theorem d31_1 : decode jdk_42_method_150_code 1 = .ok (.invokespecial 1, 3) := by decide +kernel
theorem d31_4 : decode jdk_42_method_150_code 4 = .ok (.aload_n 1, 1) := by decide +kernel
theorem d31_5 : decode jdk_42_method_150_code 5 = .ok (.invokevirtual 552, 3) := by decide +kernel
theorem d31_8 : decode jdk_42_method_150_code 8 = .ok (.astore_n 3, 1) := by decide +kernel
theorem d31_9 : decode jdk_42_method_150_code 9 = .ok (.aload_n 1, 1) := by decide +kernel
theorem d31_10 : decode jdk_42_method_150_code 10 = .ok (.invokevirtual 549, 3) := by decide +kernel
theorem d31_13 : decode jdk_42_method_150_code 13 = .ok (.istore 4, 2) := by decide +kernel
theorem d31_15 : decode jdk_42_method_150_code 15 = .ok (.aload_n 1, 1) := by decide +kernel
theorem d31_16 : decode jdk_42_method_150_code 16 = .ok (.invokevirtual 1047, 3) := by decide +kernel
theorem d31_19 : decode jdk_42_method_150_code 19 = .ok (.ifCond .eq 22, 3) := by decide +kernel
theorem d31_22 : decode jdk_42_method_150_code 22 = .ok (.aload_n 0, 1) := by decide +kernel
theorem d31_23 : decode jdk_42_method_150_code 23 = .ok (.iconst 0, 1) := by decide +kernel
theorem d31_24 : decode jdk_42_method_150_code 24 = .ok (.putfield 15, 3) := by decide +kernel
theorem d31_27 : decode jdk_42_method_150_code 27 = .ok (.aload_n 0, 1) := by decide +kernel
theorem d31_28 : decode jdk_42_method_150_code 28 = .ok (.aload_n 3, 1) := by decide +kernel
theorem d31_29 : decode jdk_42_method_150_code 29 = .ok (.iconst 0, 1) := by decide +kernel
theorem d31_30 : decode jdk_42_method_150_code 30 = .ok (.iload 4, 2) := by decide +kernel
theorem d31_32 : decode jdk_42_method_150_code 32 = .ok (.invokestatic 54, 3) := by decide +kernel
theorem d31_35 : decode jdk_42_method_150_code 35 = .ok (.putfield 9, 3) := by decide +kernel
theorem d31_38 : decode jdk_42_method_150_code 38 = .ok (.goto 59, 3) := by decide +kernel
theorem d31_97 : decode jdk_42_method_150_code 97 = .ok (.return_, 1) := by decide +kernel
theorem pn_31 : plainName "java/lang/String" = true := by first | (simp [plainName, overriddenIn]; done) | decide +kernel
theorem pd____B : parseMethodDescriptor "()[B" = some ⟨[], some (.array .byte)⟩ := by decide +kernel
theorem pd___Z : parseMethodDescriptor "()Z" = some ⟨[], some .boolean⟩ := by decide +kernel
theorem ef_rmSiA (m : MethodId) (x0 : Addr) (x1 : Addr) : entryFrame m #[(.ref x0), (.ref x1), .null] 5 = mkF m 0 #[.val (.ref x0), .val (.ref x1), .val .null, .unset, .unset] [] := by first | (simp [entryFrame, mkF, argsToLocals, Value.category]; done) | rfl
def Q_rmSiA (Z : State) (s1 : Addr) (u1 : Value) (u2 : Value) (a1 : Addr) (va : Addr) (kva : ClassId) (cap : Int32) (k : Int32) (bs : List Value) (rest : List Value) (zc : Int32) (h0 : Heap) (n0 : Nat) (v : Option Value) (h : Heap) (L : List Loc) : Prop := ∃ b : Addr, ∃ kb : ClassId, v = none ∧ Fr n0 L ∧ Keep h0 h [s1] ∧ Exa Z h s1 "java/lang/String" ∧ Fld Z h s1 "java/lang/String" "value" "[B" (.ref b) ∧ Fld Z h s1 "java/lang/String" "coder" "B" (.int (0 : Int32)) ∧ Arv Z h b kb .byte k bs (.int 0) ∧ h0.size ≤ b ∧ n0 ≤ b
set_option maxRecDepth 65536 in
set_option maxHeartbeats 40000000 in
theorem rmSiA (l : Launch) (Z : State) (a0 : Array Value) (hw : ∀ d ∈ tables_1, d.before a0 Z = true) (ws : List Jvm.Cond) (s1 : Addr) (u1 : Value) (u2 : Value) (a1 : Addr) (va : Addr) (kva : ClassId) (cap : Int32) (k : Int32) (bs : List Value) (rest : List Value) (zc : Int32) (h0 : Heap) (n0 : Nat) (Z0 : n0 ≤ h0.size) (pE_s1 : Exa Z h0 s1 "java/lang/String") (pF_value_s1 : Fld Z h0 s1 "java/lang/String" "value" "[B" u1) (pF_coder_s1 : Fld Z h0 s1 "java/lang/String" "coder" "B" u2) (pG_s1 : n0 ≤ s1) (pE_a1 : Exa Z h0 a1 "java/lang/StringBuilder") (pF_value_a1 : Fld Z h0 a1 "java/lang/AbstractStringBuilder" "value" "[B" (.ref va)) (pF_coder_a1 : Fld Z h0 a1 "java/lang/AbstractStringBuilder" "coder" "B" (.int (0 : Int32))) (pF_count_a1 : Fld Z h0 a1 "java/lang/AbstractStringBuilder" "count" "I" (.int k)) (pV_va : Arv Z h0 va kva .byte cap (bs ++ rest) (.int 0)) (hk : (k.toInt = (bs.length : Int))) (hcap : (cap.toInt = ((bs.length + rest.length : Nat) : Int))) (hlt : (0 < rest.length)) (hbig : (bs.length ≤ 67)) (pS_COMPACT_STRINGS : Sta Z Z.heap "java/lang/String" "COMPACT_STRINGS" "Z" (.int zc)) (pP5 : (¬ (zc = (0 : Int32)))) (pO : Old Z n0 h0) :
    MetFree l (⟨"java/lang/String", "<init>", "(Ljava/lang/AbstractStringBuilder;Ljava/lang/Void;)V"⟩ : MethodName) (head1 (Jvm.Cond.code (⟨"java/lang/String", "<init>", "(Ljava/lang/AbstractStringBuilder;Ljava/lang/Void;)V"⟩ : MethodName) jdk_42_method_150_code 5 none :: ws) ({ frames := 3, cells := 1, slots := 67, locals := 151 } : Room)) (fun a U => a = #[(.ref s1), (.ref a1), .null] ∧ Z.Warmed39 U.vm ∧ U.heap = h0) (fun _ _ _ _ _ => True) (fun _ U o U' => ∃ v L, o = .returned v ∧ Q_rmSiA Z s1 u1 u2 a1 va kva cap k bs rest zc h0 n0 v U'.heap L ∧ FrameEnd U o U' L ({ frames := 3, cells := 1, slots := 67, locals := 151 } : Room).cells ({ frames := 3, cells := 1, slots := 67, locals := 151 } : Room).slots) := by
  refine MetFree.of_bodySF (plainFor_of_name pn_31) hisR ?_
  intro p e s m args below meth c s₁ Bd hml0 hP hK
  obtain ⟨rfl, hZ, hh⟩ := hP
  have hx := Bd.exec
  have hby := Bd.bytes
  have hml : c.maxLocals = 5 := hml0
  have hown : s.vm.findClass "java/lang/String" = some m.cls := findClass_of_methodNamed Bd.named
  have hnm := (name_of_methodNamed Bd.named Bd.method).1
  have X0 : Stand p l e ({ frames := 3, cells := 1, slots := 67, locals := 151 } : Room) s m #[(.ref s1), (.ref a1), .null] below meth c s₁ [] 0 0 := Stand.of_body Bd
  have e0 : s₁.heap = h0 := by rw [← hh, Bd.state]; rfl
  have N0 := Fr.nil n0
  refine own_enter (ef_rmSiA m s1 a1) ?_
  refine own_st (fun t_ k_ => XS.aloadN X0.here hx rfl (hb hby d31_0) rfl rfl k_) ?_
  show own_Go p e below s₁ (mkF m 1 #[.val (.ref s1), .val (.ref a1), .val .null, .unset, .unset] [(.ref s1)]) _
  obtain ⟨T1, X1, e1, st1⟩ := initO X0 hx hZ hown (own_w hw 11 rfl) (own_w hw 12 rfl) (own_w hw 13 rfl) e0 (g := (mkF m 1 #[.val (.ref s1), .val (.ref a1), .val .null, .unset, .unset] [(.ref s1)])) rfl (by rw [hml]; rfl) rfl (hb hby d31_1) (by decide) (W := 0) (by show 2 * 0 + _ ≤ _; exact Nat.le_of_eq rfl) (by decide)
  refine own_st st1 ?_
  show own_Go p e below T1 (mkF m 4 #[.val (.ref s1), .val (.ref a1), .val .null, .unset, .unset] []) _
  refine own_st (fun t_ k_ => XS.aloadN X1.here hx rfl (hb hby d31_4) rfl rfl k_) ?_
  show own_Go p e below T1 (mkF m 5 #[.val (.ref s1), .val (.ref a1), .val .null, .unset, .unset] [(.ref a1)]) _
  obtain ⟨cq2, kq2, qa2, qb2, qc2⟩ := isOf hZ e1 pE_a1
  obtain ⟨_, _, ⟨T2, L2, k2, n2⟩, -, X2, ⟨Lc2, hQ2, l2, y2, z2⟩, st2⟩ := X1.virtualBack hx (y := (⟨"java/lang/AbstractStringBuilder", "getValue", "()[B"⟩ : MethodName)) (z := (⟨"java/lang/AbstractStringBuilder", "getValue", "()[B"⟩ : MethodName)) hown (mvT hZ (own_w hw 168 rfl)) (mvT hZ (own_w hw 169 rfl)) (notFace_of_selects (args := #[]) (mvT hZ (own_w hw 171 rfl))) (mvT hZ (own_w hw 171 rfl)) (mvT hZ (own_w hw 170 rfl)) (by decide) (backOf (W := 0) (rmGv l Z a0 hw [] a1 va h0 n0 Z0 pE_a1 pF_value_a1) hZ (own_w hw 172 rfl) (own_w hw 61 rfl) (by decide) (by decide)) qa2 qc2 (g := (mkF m 5 #[.val (.ref s1), .val (.ref a1), .val .null, .unset, .unset] [(.ref a1)])) rfl (by rw [hml]; rfl) (Steps.refl _) (argsL := []) (rest := []) (lenOf pd____B rfl) rfl (by show 2 * 0 + _ ≤ _; exact Nat.le_of_eq rfl) (hb hby d31_5) (fun _ _ => ⟨rfl, e1, (by decide : 0 + 0 ≤ _), (by decide : 0 + 0 ≤ _)⟩)
  dsimp only [Pt.U, Pt.locs, Pt.cells, Pt.slots] at X2 l2 y2 z2 st2 hQ2
  try dsimp only [Nat.reduceAdd] at y2 z2
  rw [l2, y2, z2] at X2
  obtain ⟨rfl, Nq2, eH2⟩ := hQ2
  have N2 := Fr.app N0 Nq2
  refine own_tr st2 ?_
  show own_Go p e below T2 (mkF m 8 #[.val (.ref s1), .val (.ref a1), .val .null, .unset, .unset] [(.ref va)]) _
  refine own_st (fun t_ k_ => XS.astoreN X2.here hx rfl (hb hby d31_8) rfl rfl (l' := #[.val (.ref s1), .val (.ref a1), .val .null, .val (.ref va), .unset]) rfl (XS.aloadN X2.here hx rfl (hb hby d31_9) rfl rfl k_)) ?_
  show own_Go p e below T2 (mkF m 10 #[.val (.ref s1), .val (.ref a1), .val .null, .val (.ref va), .unset] [(.ref a1)]) _
  obtain ⟨cq3, kq3, qa3, qb3, qc3⟩ := isOf hZ eH2 pE_a1
  obtain ⟨_, _, ⟨T3, L3, k3, n3⟩, -, X3, ⟨Lc3, hQ3, l3, y3, z3⟩, st3⟩ := X2.virtualBack hx (y := (⟨"java/lang/AbstractStringBuilder", "length", "()I"⟩ : MethodName)) (z := (⟨"java/lang/StringBuilder", "length", "()I"⟩ : MethodName)) hown (mvT hZ (own_w hw 173 rfl)) (mvT hZ (own_w hw 174 rfl)) (own_nf (a0 := #[]) (y' := (⟨"java/lang/AbstractStringBuilder", "getValue", "()[B"⟩ : MethodName)) (mvT hZ (own_w hw 171 rfl)) rfl) (mvT hZ (own_w hw 176 rfl)) (mvT hZ (own_w hw 177 rfl)) (by decide) (backOf (W := 0) (rmSl l Z a0 hw [] a1 k h0 n0 Z0 pE_a1 pF_count_a1) hZ (own_w hw 178 rfl) (own_w hw 53 rfl) (by decide) (by decide)) qa3 qc3 (g := (mkF m 10 #[.val (.ref s1), .val (.ref a1), .val .null, .val (.ref va), .unset] [(.ref a1)])) rfl (by rw [hml]; rfl) (Steps.refl _) (argsL := []) (rest := []) (lenOf pd___I rfl) rfl (by show 2 * 0 + _ ≤ _; exact Nat.le_of_eq rfl) (hb hby d31_10) (fun _ _ => ⟨rfl, eH2, (by decide : 0 + 0 ≤ _), (by decide : 0 + 0 ≤ _)⟩)
  dsimp only [Pt.U, Pt.locs, Pt.cells, Pt.slots] at X3 l3 y3 z3 st3 hQ3
  try dsimp only [Nat.reduceAdd] at y3 z3
  rw [l3, y3, z3] at X3
  obtain ⟨rfl, Nq3, eH3⟩ := hQ3
  have N3 := Fr.app N2 Nq3
  refine own_tr st3 ?_
  show own_Go p e below T3 (mkF m 13 #[.val (.ref s1), .val (.ref a1), .val .null, .val (.ref va), .unset] [(.int k)]) _
  refine own_st (fun t_ k_ => XS.istore X3.here hx rfl (hb hby d31_13) rfl (l' := #[.val (.ref s1), .val (.ref a1), .val .null, .val (.ref va), .val (.int k)]) rfl (XS.aloadN X3.here hx rfl (hb hby d31_15) rfl rfl k_)) ?_
  show own_Go p e below T3 (mkF m 16 #[.val (.ref s1), .val (.ref a1), .val .null, .val (.ref va), .val (.int k)] [(.ref a1)]) _
  obtain ⟨cq4, kq4, qa4, qb4, qc4⟩ := isOf hZ eH3 pE_a1
  obtain ⟨_, _, ⟨T4, L4, k4, n4⟩, -, X4, ⟨Lc4, hQ4, l4, y4, z4⟩, st4⟩ := X3.virtualBack hx (y := (⟨"java/lang/AbstractStringBuilder", "isLatin1", "()Z"⟩ : MethodName)) (z := (⟨"java/lang/AbstractStringBuilder", "isLatin1", "()Z"⟩ : MethodName)) hown (mvT hZ (own_w hw 181 rfl)) (mvT hZ (own_w hw 122 rfl)) (notFace_of_selects (args := #[]) (mvT hZ (own_w hw 124 rfl))) (mvT hZ (own_w hw 124 rfl)) (mvT hZ (own_w hw 123 rfl)) (by decide) (backOf (W := 0) (rmAil l Z a0 hw [] a1 zc h0 n0 Z0 pE_a1 pF_coder_a1 pS_COMPACT_STRINGS pP5 pO) hZ (own_w hw 125 rfl) (own_w hw 61 rfl) (by decide) (by decide)) qa4 qc4 (g := (mkF m 16 #[.val (.ref s1), .val (.ref a1), .val .null, .val (.ref va), .val (.int k)] [(.ref a1)])) rfl (by rw [hml]; rfl) (Steps.refl _) (argsL := []) (rest := []) (lenOf pd___Z rfl) rfl (by show 2 * 0 + _ ≤ _; exact Nat.le_of_eq rfl) (hb hby d31_16) (fun _ _ => ⟨rfl, eH3, (by decide : 0 + 0 ≤ _), (by decide : 0 + 0 ≤ _)⟩)
  dsimp only [Pt.U, Pt.locs, Pt.cells, Pt.slots] at X4 l4 y4 z4 st4 hQ4
  try dsimp only [Nat.reduceAdd] at y4 z4
  rw [l4, y4, z4] at X4
  obtain ⟨rfl, Nq4, eH4⟩ := hQ4
  have N4 := Fr.app N3 Nq4
  refine own_tr st4 ?_
  show own_Go p e below T4 (mkF m 19 #[.val (.ref s1), .val (.ref a1), .val .null, .val (.ref va), .val (.int k)] [(.int (1 : Int32))]) _
  refine own_st (fun t_ k_ => XS.ifNo X4.here hx rfl (hb hby d31_19) rfl (by decide) (XS.aloadN X4.here hx rfl (hb hby d31_22) rfl rfl (XS.iconst X4.here hx rfl (hb hby d31_23) k_))) ?_
  show own_Go p e below T4 (mkF m 24 #[.val (.ref s1), .val (.ref a1), .val .null, .val (.ref va), .val (.int k)] [(.int (0 : Int32)), (.ref s1)]) _
  obtain ⟨T5, h5, X5, e5, W5, st5⟩ := putFN X4 hx hZ hown (own_w hw 26 rfl) Via.refl eH4 pF_coder_s1 pE_s1 (Or.inr ⟨(own_w hw 27 rfl), rfl, hnm⟩) (own_w hw 1 rfl) (ty := .byte) (v' := (.int (0 : Int32))) (by decide) rfl (by decide) (g := (mkF m 24 #[.val (.ref s1), .val (.ref a1), .val .null, .val (.ref va), .val (.int k)] [(.int (0 : Int32)), (.ref s1)])) rfl rfl (hb hby d31_24)
  have F5 := pF_coder_s1.same W5
  have K6 : Keep h0 h5 [s1] := (Keep.refl h0 [s1]).wr W5 (Or.inl (List.mem_of_getElem? (i := 0) rfl))
  have N5 := Fr.snoc X5 N4 pG_s1
  refine own_st st5 ?_
  show own_Go p e below T5 (mkF m 27 #[.val (.ref s1), .val (.ref a1), .val .null, .val (.ref va), .val (.int k)] []) _
  refine own_st (fun t_ k_ => XS.aloadN X5.here hx rfl (hb hby d31_27) rfl rfl (XS.aloadN X5.here hx rfl (hb hby d31_28) rfl rfl (XS.iconst X5.here hx rfl (hb hby d31_29) (XS.iload X5.here hx rfl (hb hby d31_30) rfl k_)))) ?_
  show own_Go p e below T5 (mkF m 32 #[.val (.ref s1), .val (.ref a1), .val .null, .val (.ref va), .val (.int k)] [(.int k), (.int (0 : Int32)), (.ref va), (.ref s1)]) _
  have f7 := (Nat.le_trans Z0 (Keep.of_wr W5).1)
  have f8 := (pV_va.other W5 (Ne.symm (Exa.neArv pE_s1 pV_va (own_w hw 1 rfl))))
  obtain ⟨_, _, ⟨T9, L9, k9, n9⟩, -, X9, ⟨Lc9, hQ9, l9, y9, z9⟩, st9⟩ := Jvm.LawKit.callS X5 hx (y := (⟨"java/util/Arrays", "copyOfRange", "([BII)[B"⟩ : MethodName)) hown (mvT hZ (own_w hw 182 rfl)) (mvT hZ (own_w hw 183 rfl)) (mvT hZ (own_w hw 148 rfl)) (mvT hZ (own_w hw 184 rfl)) (by decide) (backOf (W := 1) (rmCp l Z a0 hw [] va kva cap k bs rest h5 n0 f7 f8 hk hcap hlt hbig) hZ (own_w hw 184 rfl) (own_w hw 148 rfl) (by decide) (by decide)) (g := (mkF m 32 #[.val (.ref s1), .val (.ref a1), .val .null, .val (.ref va), .val (.int k)] [(.int k), (.int (0 : Int32)), (.ref va), (.ref s1)])) rfl (by rw [hml]; rfl) (argsL := [(.ref va), (.int (0 : Int32)), (.int k)]) (rest := [(.ref s1)]) (lenOf pd___BII__B rfl) rfl (by show 2 * 0 + _ ≤ _; exact Nat.le_of_eq rfl) (hb hby d31_32) (fun _ _ => ⟨rfl, e5, (by decide : 0 + 1 ≤ _), (by decide : 0 + 67 ≤ _)⟩)
  dsimp only [Pt.U, Pt.locs, Pt.cells, Pt.slots] at X9 l9 y9 z9 st9 hQ9
  try dsimp only [Nat.reduceAdd] at y9 z9
  rw [l9, y9, z9] at X9
  obtain ⟨b_9, kb_9, rfl, Nq9, Kq9, q9_0, q9_1, q9_2⟩ := hQ9
  have N9 := Fr.app N5 Nq9
  have K10 : Keep h0 T9.heap [s1] := K6.trans Kq9 all0
  have Bf11 : h0.size ≤ b_9 := Nat.le_trans K6.1 q9_1
  refine own_st st9 ?_
  show own_Go p e below T9 (mkF m 35 #[.val (.ref s1), .val (.ref a1), .val .null, .val (.ref va), .val (.int k)] [(.ref b_9), (.ref s1)]) _
  have f12 := ((pE_s1.wr W5).keep Kq9)
  have f13 := ((pF_value_s1.other W5 (Or.inr (slot_ne (Or.inr (own_w hw 29 rfl)) (Or.inr (own_w hw 27 rfl)) (by decide) (t := (.array .byte)) (t' := .byte) (by decide) (by decide)))).keep Kq9 nin0)
  obtain ⟨T14, h14, X14, e14, W14, st14⟩ := putF X9 hx hZ hown (host := "") (Or.inl (own_w hw 28 rfl)) Via.refl rfl f13 f12 (Or.inr ⟨(own_w hw 29 rfl), rfl, hnm⟩) (own_w hw 1 rfl) (ty := (.array .byte)) (by decide) rfl rfl (g := (mkF m 35 #[.val (.ref s1), .val (.ref a1), .val .null, .val (.ref va), .val (.int k)] [(.ref b_9), (.ref s1)])) rfl rfl (hb hby d31_35)
  have F14 := f13.same W14
  have K15 : Keep h0 h14 [s1] := K10.wr W14 (Or.inl (List.mem_of_getElem? (i := 0) rfl))
  have N14 := Fr.snoc X14 N9 pG_s1
  refine own_st st14 ?_
  show own_Go p e below T14 (mkF m 38 #[.val (.ref s1), .val (.ref a1), .val .null, .val (.ref va), .val (.int k)] []) _
  refine own_st (fun t_ k_ => XS.goto X14.here hx rfl (pc0 := 38) (pc' := 97) rfl (hb hby d31_38) (by decide) (by decide) k_) ?_
  show own_Go p e below T14 (mkF m 97 #[.val (.ref s1), .val (.ref a1), .val .null, .val (.ref va), .val (.int k)] []) _
  have f16 := (f12.wr W14)
  have f17 := ((F5.keep Kq9 nin0).other W14 (Or.inr (slot_ne (Or.inr (own_w hw 27 rfl)) (Or.inr (own_w hw 29 rfl)) (by decide) (t := .byte) (t' := (.array .byte)) (by decide) (by decide))))
  have f18 := (q9_0.other W14 (Ne.symm (Nat.ne_of_lt (Nat.lt_of_lt_of_le (pE_s1.wr W5).lt q9_1))))
  obtain ⟨fs, hr, hrun, hended, hW, hsame⟩ := X14.leave (v := none) (fun _ => rfl)
  refine own_fin (X14.returnOut hx Bd.returns (hb hby d31_97) hr) ⟨hrun, hended, _, _, rfl, ?_, ⟨_, rfl⟩, hW, hsame.mono (by decide) (by decide)⟩
  show Q_rmSiA Z s1 u1 u2 a1 va kva cap k bs rest zc h0 n0 _ T14.heap _
  rw [e14]
  exact ⟨b_9, kb_9, rfl, N14, K15, f16, F14, f17, f18, Bf11, q9_2⟩
theorem d30_0 : decode jdk_42_method_53_code 0 = .ok (.aload_n 0, 1) := by decide +kernel
theorem d30_1 : decode jdk_42_method_53_code 1 = .ok (.aload_n 1, 1) := by decide +kernel
theorem d30_2 : decode jdk_42_method_53_code 2 = .ok (.aconst_null, 1) := by decide +kernel
theorem d30_3 : decode jdk_42_method_53_code 3 = .ok (.invokespecial 489, 3) := by decide +kernel
theorem d30_6 : decode jdk_42_method_53_code 6 = .ok (.return_, 1) := by decide +kernel
theorem pn_30 : plainName "java/lang/String" = true := by first | (simp [plainName, overriddenIn]; done) | decide +kernel
theorem pd__Ljava_lang_AbstractStringBuilder_Ljava_lang_Void__V : parseMethodDescriptor "(Ljava/lang/AbstractStringBuilder;Ljava/lang/Void;)V" = some ⟨[(.object "java/lang/AbstractStringBuilder"), (.object "java/lang/Void")], none⟩ := by decide +kernel
theorem ef_rmSiS (m : MethodId) (x0 : Addr) (x1 : Addr) : entryFrame m #[(.ref x0), (.ref x1)] 2 = mkF m 0 #[.val (.ref x0), .val (.ref x1)] [] := by first | (simp [entryFrame, mkF, argsToLocals, Value.category]; done) | rfl
def Q_rmSiS (Z : State) (s1 : Addr) (u1 : Value) (u2 : Value) (a1 : Addr) (va : Addr) (kva : ClassId) (cap : Int32) (k : Int32) (bs : List Value) (rest : List Value) (zc : Int32) (h0 : Heap) (n0 : Nat) (v : Option Value) (h : Heap) (L : List Loc) : Prop := ∃ b : Addr, ∃ kb : ClassId, v = none ∧ Fr n0 L ∧ Keep h0 h [s1] ∧ Exa Z h s1 "java/lang/String" ∧ Fld Z h s1 "java/lang/String" "value" "[B" (.ref b) ∧ Fld Z h s1 "java/lang/String" "coder" "B" (.int (0 : Int32)) ∧ Arv Z h b kb .byte k bs (.int 0) ∧ h0.size ≤ b ∧ n0 ≤ b
set_option maxRecDepth 65536 in
set_option maxHeartbeats 40000000 in
theorem rmSiS (l : Launch) (Z : State) (a0 : Array Value) (hw : ∀ d ∈ tables_1, d.before a0 Z = true) (ws : List Jvm.Cond) (s1 : Addr) (u1 : Value) (u2 : Value) (a1 : Addr) (va : Addr) (kva : ClassId) (cap : Int32) (k : Int32) (bs : List Value) (rest : List Value) (zc : Int32) (h0 : Heap) (n0 : Nat) (Z0 : n0 ≤ h0.size) (pE_s1 : Exa Z h0 s1 "java/lang/String") (pF_value_s1 : Fld Z h0 s1 "java/lang/String" "value" "[B" u1) (pF_coder_s1 : Fld Z h0 s1 "java/lang/String" "coder" "B" u2) (pG_s1 : n0 ≤ s1) (pE_a1 : Exa Z h0 a1 "java/lang/StringBuilder") (pF_value_a1 : Fld Z h0 a1 "java/lang/AbstractStringBuilder" "value" "[B" (.ref va)) (pF_coder_a1 : Fld Z h0 a1 "java/lang/AbstractStringBuilder" "coder" "B" (.int (0 : Int32))) (pF_count_a1 : Fld Z h0 a1 "java/lang/AbstractStringBuilder" "count" "I" (.int k)) (pV_va : Arv Z h0 va kva .byte cap (bs ++ rest) (.int 0)) (hk : (k.toInt = (bs.length : Int))) (hcap : (cap.toInt = ((bs.length + rest.length : Nat) : Int))) (hlt : (0 < rest.length)) (hbig : (bs.length ≤ 67)) (pS_COMPACT_STRINGS : Sta Z Z.heap "java/lang/String" "COMPACT_STRINGS" "Z" (.int zc)) (pP5 : (¬ (zc = (0 : Int32)))) (pO : Old Z n0 h0) :
    MetFree l (⟨"java/lang/String", "<init>", "(Ljava/lang/StringBuilder;)V"⟩ : MethodName) (head1 (Jvm.Cond.code (⟨"java/lang/String", "<init>", "(Ljava/lang/StringBuilder;)V"⟩ : MethodName) jdk_42_method_53_code 2 none :: ws) ({ frames := 4, cells := 1, slots := 67, locals := 167 } : Room)) (fun a U => a = #[(.ref s1), (.ref a1)] ∧ Z.Warmed39 U.vm ∧ U.heap = h0) (fun _ _ _ _ _ => True) (fun _ U o U' => ∃ v L, o = .returned v ∧ Q_rmSiS Z s1 u1 u2 a1 va kva cap k bs rest zc h0 n0 v U'.heap L ∧ FrameEnd U o U' L ({ frames := 4, cells := 1, slots := 67, locals := 167 } : Room).cells ({ frames := 4, cells := 1, slots := 67, locals := 167 } : Room).slots) := by
  refine MetFree.of_bodySF (plainFor_of_name pn_30) hisR ?_
  intro p e s m args below meth c s₁ Bd hml0 hP hK
  obtain ⟨rfl, hZ, hh⟩ := hP
  have hx := Bd.exec
  have hby := Bd.bytes
  have hml : c.maxLocals = 2 := hml0
  have hown : s.vm.findClass "java/lang/String" = some m.cls := findClass_of_methodNamed Bd.named
  have hnm := (name_of_methodNamed Bd.named Bd.method).1
  have X0 : Stand p l e ({ frames := 4, cells := 1, slots := 67, locals := 167 } : Room) s m #[(.ref s1), (.ref a1)] below meth c s₁ [] 0 0 := Stand.of_body Bd
  have e0 : s₁.heap = h0 := by rw [← hh, Bd.state]; rfl
  have N0 := Fr.nil n0
  refine own_enter (ef_rmSiS m s1 a1) ?_
  refine own_st (fun t_ k_ => XS.aloadN X0.here hx rfl (hb hby d30_0) rfl rfl (XS.aloadN X0.here hx rfl (hb hby d30_1) rfl rfl (XS.aconstNull X0.here hx rfl (hb hby d30_2) k_))) ?_
  show own_Go p e below s₁ (mkF m 3 #[.val (.ref s1), .val (.ref a1)] [.null, (.ref a1), (.ref s1)]) _
  obtain ⟨_, _, ⟨T1, L1, k1, n1⟩, -, X1, ⟨Lc1, hQ1, l1, y1, z1⟩, st1⟩ := X0.specialBack hx (y := (⟨"java/lang/String", "<init>", "(Ljava/lang/AbstractStringBuilder;Ljava/lang/Void;)V"⟩ : MethodName)) rfl hown (mvT hZ (own_w hw 165 rfl)) (mvT hZ (own_w hw 166 rfl)) (mvT hZ (own_w hw 167 rfl)) (by decide) (backOf (W := 0) (rmSiA l Z a0 hw [] s1 u1 u2 a1 va kva cap k bs rest zc h0 n0 Z0 pE_s1 pF_value_s1 pF_coder_s1 pG_s1 pE_a1 pF_value_a1 pF_coder_a1 pF_count_a1 pV_va hk hcap hlt hbig pS_COMPACT_STRINGS pP5 pO) hZ (own_w hw 167 rfl) (own_w hw 2 rfl) (by decide) (by decide)) (g := (mkF m 3 #[.val (.ref s1), .val (.ref a1)] [.null, (.ref a1), (.ref s1)])) rfl (by rw [hml]; rfl) (Steps.refl _) (a := s1) (argsL := [(.ref a1), .null]) (rest := []) (lenOf pd__Ljava_lang_AbstractStringBuilder_Ljava_lang_Void__V rfl) rfl (by show 2 * 0 + _ ≤ _; exact Nat.le_of_eq rfl) (hb hby d30_3) (fun _ _ => ⟨rfl, e0, (by decide : 0 + 1 ≤ _), (by decide : 0 + 67 ≤ _)⟩)
  dsimp only [Pt.U, Pt.locs, Pt.cells, Pt.slots] at X1 l1 y1 z1 st1 hQ1
  try dsimp only [Nat.reduceAdd] at y1 z1
  rw [l1, y1, z1] at X1
  obtain ⟨b_1, kb_1, rfl, Nq1, Kq1, q1_0, q1_1, q1_2, q1_3, q1_4, q1_5⟩ := hQ1
  have N1 := Fr.app N0 Nq1
  have K2 : Keep h0 T1.heap [s1] := (Keep.refl h0 [s1]).trans Kq1 (allS (Or.inl (List.mem_of_getElem? (i := 0) rfl)) all0)
  have Bf3 : h0.size ≤ b_1 := Nat.le_trans (Keep.refl h0 [s1]).1 q1_4
  refine own_tr st1 ?_
  show own_Go p e below T1 (mkF m 6 #[.val (.ref s1), .val (.ref a1)] []) _
  obtain ⟨fs, hr, hrun, hended, hW, hsame⟩ := X1.leave (v := none) (fun _ => rfl)
  refine own_fin (X1.returnOut hx Bd.returns (hb hby d30_6) hr) ⟨hrun, hended, _, _, rfl, ?_, ⟨_, rfl⟩, hW, hsame.mono (by decide) (by decide)⟩
  show Q_rmSiS Z s1 u1 u2 a1 va kva cap k bs rest zc h0 n0 _ T1.heap _
  exact ⟨b_1, kb_1, rfl, N1, K2, q1_0, q1_1, q1_2, q1_3, Bf3, q1_5⟩
theorem d29_0 : decode jdk_67_method_42_code 0 = .ok (.new 18, 3) := by decide +kernel
theorem d29_3 : decode jdk_67_method_42_code 3 = .ok (.dup, 1) := by decide +kernel
theorem d29_4 : decode jdk_67_method_42_code 4 = .ok (.aload_n 0, 1) := by decide +kernel
theorem d29_5 : decode jdk_67_method_42_code 5 = .ok (.invokespecial 137, 3) := by decide +kernel
theorem d29_8 : decode jdk_67_method_42_code 8 = .ok (.areturn, 1) := by decide +kernel
theorem pn_29 : plainName "java/lang/StringBuilder" = true := by first | (simp [plainName, overriddenIn]; done) | decide +kernel
theorem pd__Ljava_lang_StringBuilder__V : parseMethodDescriptor "(Ljava/lang/StringBuilder;)V" = some ⟨[(.object "java/lang/StringBuilder")], none⟩ := by decide +kernel
theorem ef_rmTs (m : MethodId) (x0 : Addr) : entryFrame m #[(.ref x0)] 1 = mkF m 0 #[.val (.ref x0)] [] := by first | (simp [entryFrame, mkF, argsToLocals, Value.category]; done) | rfl
def Q_rmTs (Z : State) (a1 : Addr) (va : Addr) (kva : ClassId) (cap : Int32) (k : Int32) (bs : List Value) (rest : List Value) (zc : Int32) (h0 : Heap) (n0 : Nat) (v : Option Value) (h : Heap) (L : List Loc) : Prop := ∃ y : Addr, ∃ b : Addr, ∃ kb : ClassId, v = some (.ref y) ∧ Fr n0 L ∧ Keep h0 h [] ∧ Exa Z h y "java/lang/String" ∧ Fld Z h y "java/lang/String" "value" "[B" (.ref b) ∧ Fld Z h y "java/lang/String" "coder" "B" (.int (0 : Int32)) ∧ Arv Z h b kb .byte k bs (.int 0) ∧ h0.size ≤ b ∧ n0 ≤ b
set_option maxRecDepth 65536 in
set_option maxHeartbeats 40000000 in
theorem rmTs (l : Launch) (Z : State) (a0 : Array Value) (hw : ∀ d ∈ tables_1, d.before a0 Z = true) (ws : List Jvm.Cond) (a1 : Addr) (va : Addr) (kva : ClassId) (cap : Int32) (k : Int32) (bs : List Value) (rest : List Value) (zc : Int32) (h0 : Heap) (n0 : Nat) (Z0 : n0 ≤ h0.size) (pE_a1 : Exa Z h0 a1 "java/lang/StringBuilder") (pF_value_a1 : Fld Z h0 a1 "java/lang/AbstractStringBuilder" "value" "[B" (.ref va)) (pF_coder_a1 : Fld Z h0 a1 "java/lang/AbstractStringBuilder" "coder" "B" (.int (0 : Int32))) (pF_count_a1 : Fld Z h0 a1 "java/lang/AbstractStringBuilder" "count" "I" (.int k)) (pV_va : Arv Z h0 va kva .byte cap (bs ++ rest) (.int 0)) (hk : (k.toInt = (bs.length : Int))) (hcap : (cap.toInt = ((bs.length + rest.length : Nat) : Int))) (hlt : (0 < rest.length)) (hbig : (bs.length ≤ 67)) (pS_COMPACT_STRINGS : Sta Z Z.heap "java/lang/String" "COMPACT_STRINGS" "Z" (.int zc)) (pP5 : (¬ (zc = (0 : Int32)))) (pO : Old Z n0 h0) :
    MetFree l (⟨"java/lang/StringBuilder", "toString", "()Ljava/lang/String;"⟩ : MethodName) (head1 (Jvm.Cond.code (⟨"java/lang/StringBuilder", "toString", "()Ljava/lang/String;"⟩ : MethodName) jdk_67_method_42_code 1 (some (.object "java/lang/String")) :: ws) ({ frames := 5, cells := 2, slots := 71, locals := 181 } : Room)) (fun a U => a = #[(.ref a1)] ∧ Z.Warmed39 U.vm ∧ U.heap = h0) (fun _ _ _ _ _ => True) (fun _ U o U' => ∃ v L, o = .returned v ∧ Q_rmTs Z a1 va kva cap k bs rest zc h0 n0 v U'.heap L ∧ FrameEnd U o U' L ({ frames := 5, cells := 2, slots := 71, locals := 181 } : Room).cells ({ frames := 5, cells := 2, slots := 71, locals := 181 } : Room).slots) := by
  refine MetFree.of_bodySF (plainFor_of_name pn_29) hisR ?_
  intro p e s m args below meth c s₁ Bd hml0 hP hK
  obtain ⟨rfl, hZ, hh⟩ := hP
  have hx := Bd.exec
  have hby := Bd.bytes
  have hml : c.maxLocals = 1 := hml0
  have hown : s.vm.findClass "java/lang/StringBuilder" = some m.cls := findClass_of_methodNamed Bd.named
  have hnm := (name_of_methodNamed Bd.named Bd.method).1
  have X0 : Stand p l e ({ frames := 5, cells := 2, slots := 71, locals := 181 } : Room) s m #[(.ref a1)] below meth c s₁ [] 0 0 := Stand.of_body Bd
  have e0 : s₁.heap = h0 := by rw [← hh, Bd.state]; rfl
  have N0 := Fr.nil n0
  refine own_enter (ef_rmTs m a1) ?_
  obtain ⟨T1, h1, X1, e1, E1, A1, D1, -, st1⟩ := newO X0 hx hZ hown (own_w hw 161 rfl) (own_w hw 1 rfl) (own_w hw 2 rfl) e0 (g := (mkF m 0 #[.val (.ref a1)] [])) rfl (hb hby d29_0) (by decide) (by decide)
  obtain ⟨b1, g1⟩ : ∃ z, z = h0.size := ⟨_, rfl⟩
  rw [← g1] at A1 D1 st1
  have G1 : n0 ≤ b1 := Nat.le_trans Z0 (Nat.le_of_eq g1.symm)
  have B1 : h0.size ≤ b1 := Nat.le_trans (Keep.refl h0 []).1 (Nat.le_of_eq g1.symm)
  have K2 : Keep h0 h1 [] := (Keep.refl h0 []).ext E1
  have D1_coder : Fld Z h1 b1 "java/lang/String" "coder" "B" (.int (0 : Int32)) := D1 (Or.inr (own_w hw 27 rfl)) (ty := .byte) (by decide)
  have D1_value : Fld Z h1 b1 "java/lang/String" "value" "[B" .null := D1 (Or.inr (own_w hw 29 rfl)) (ty := (.array .byte)) (by decide)
  refine own_st st1 ?_
  show own_Go p e below T1 (mkF m 3 #[.val (.ref a1)] [(.ref b1)]) _
  refine own_st (fun t_ k_ => XS.dup X1.here hx rfl (hb hby d29_3) rfl rfl (XS.aloadN X1.here hx rfl (hb hby d29_4) rfl rfl k_)) ?_
  show own_Go p e below T1 (mkF m 5 #[.val (.ref a1)] [(.ref a1), (.ref b1), (.ref b1)]) _
  have f3 := (Nat.le_trans Z0 E1.1)
  have f4 := (pE_a1.ext E1)
  have f5 := (pF_value_a1.ext E1)
  have f6 := (pF_coder_a1.ext E1)
  have f7 := (pF_count_a1.ext E1)
  have f8 := (pV_va.ext E1)
  have f9 := (pO.ext E1)
  obtain ⟨_, _, ⟨T10, L10, k10, n10⟩, -, X10, ⟨Lc10, hQ10, l10, y10, z10⟩, st10⟩ := X1.specialBack hx (y := (⟨"java/lang/String", "<init>", "(Ljava/lang/StringBuilder;)V"⟩ : MethodName)) rfl hown (mvT hZ (own_w hw 162 rfl)) (mvT hZ (own_w hw 163 rfl)) (mvT hZ (own_w hw 164 rfl)) (by decide) (backOf (W := 1) (rmSiS l Z a0 hw [] b1 .null ((.int (0 : Int32))) a1 va kva cap k bs rest zc h1 n0 f3 A1 D1_value D1_coder G1 f4 f5 f6 f7 f8 hk hcap hlt hbig pS_COMPACT_STRINGS pP5 f9) hZ (own_w hw 164 rfl) (own_w hw 2 rfl) (by decide) (by decide)) (g := (mkF m 5 #[.val (.ref a1)] [(.ref a1), (.ref b1), (.ref b1)])) rfl (by rw [hml]; rfl) (Steps.refl _) (a := b1) (argsL := [(.ref a1)]) (rest := [(.ref b1)]) (lenOf pd__Ljava_lang_StringBuilder__V rfl) rfl (by show 2 * 0 + _ ≤ _; exact Nat.le_of_eq rfl) (hb hby d29_5) (fun _ _ => ⟨rfl, e1, (by decide : 1 + 1 ≤ _), (by decide : 4 + 67 ≤ _)⟩)
  dsimp only [Pt.U, Pt.locs, Pt.cells, Pt.slots] at X10 l10 y10 z10 st10 hQ10
  try dsimp only [Nat.reduceAdd] at y10 z10
  rw [l10, y10, z10] at X10
  obtain ⟨b_10, kb_10, rfl, Nq10, Kq10, q10_0, q10_1, q10_2, q10_3, q10_4, q10_5⟩ := hQ10
  have N10 := Fr.app N0 Nq10
  have K11 : Keep h0 T10.heap [] := K2.trans Kq10 (allS (Or.inr B1) all0)
  have Bf12 : h0.size ≤ b_10 := Nat.le_trans K2.1 q10_4
  refine own_tr st10 ?_
  show own_Go p e below T10 (mkF m 8 #[.val (.ref a1)] [(.ref b1)]) _
  obtain ⟨fs, hr, hrun, hended, hW, hsame⟩ := X10.leave (v := some (.ref b1)) (fun h => by rw [Bd.returns] at h; cases h)
  refine own_fin (own_retR X10 hx rfl Bd.returns rfl (hb hby d29_8) hr) ⟨hrun, hended, _, _, rfl, ?_, ⟨_, rfl⟩, hW, hsame.mono (by decide) (by decide)⟩
  show Q_rmTs Z a1 va kva cap k bs rest zc h0 n0 _ T10.heap _
  exact ⟨b1, b_10, kb_10, rfl, N10, K11, q10_0, q10_1, q10_2, q10_3, Bf12, q10_5⟩
theorem d2_0 : decode jdk_42_method_149_code 0 = .ok (.aload_n 0, 1) := by decide +kernel
theorem d2_1 : decode jdk_42_method_149_code 1 = .ok (.invokespecial 1, 3) := by decide +kernel
theorem d2_4 : decode jdk_42_method_149_code 4 = .ok (.iload_n 3, 1) := by decide +kernel
theorem d2_5 : decode jdk_42_method_149_code 5 = .ok (.ifCond .ne 22, 3) := by decide +kernel
theorem d2_8 : decode jdk_42_method_149_code 8 = .ok (.aload_n 0, 1) := by decide +kernel
theorem d2_9 : decode jdk_42_method_149_code 9 = .ok (.ldc 7, 2) := by decide +kernel
theorem d2_11 : decode jdk_42_method_149_code 11 = .ok (.getfield 9, 3) := by decide +kernel
theorem d2_14 : decode jdk_42_method_149_code 14 = .ok (.putfield 9, 3) := by decide +kernel
theorem d2_17 : decode jdk_42_method_149_code 17 = .ok (.aload_n 0, 1) := by decide +kernel
theorem d2_18 : decode jdk_42_method_149_code 18 = .ok (.ldc 7, 2) := by decide +kernel
theorem d2_20 : decode jdk_42_method_149_code 20 = .ok (.getfield 15, 3) := by decide +kernel
theorem d2_23 : decode jdk_42_method_149_code 23 = .ok (.putfield 15, 3) := by decide +kernel
theorem d2_26 : decode jdk_42_method_149_code 26 = .ok (.return_, 1) := by decide +kernel
theorem pn_2 : plainName "java/lang/String" = true := by first | (simp [plainName, overriddenIn]; done) | decide +kernel
theorem ef_rmS0 (m : MethodId) (x0 : Addr) (x1 : Addr) (x2 : Int32) (x3 : Int32) : entryFrame m #[(.ref x0), (.ref x1), (.int x2), (.int x3), .null] 6 = mkF m 0 #[.val (.ref x0), .val (.ref x1), .val (.int x2), .val (.int x3), .val .null, .unset] [] := by first | (simp [entryFrame, mkF, argsToLocals, Value.category]; done) | rfl
def Q_rmS0 (Z : State) (a1 : Addr) (a2 : Addr) (h0 : Heap) (n0 : Nat) (v : Option Value) (h : Heap) (L : List Loc) : Prop := ∃ t : Addr, ∃ kb : ClassId, v = none ∧ Fr n0 L ∧ Keep h0 h [a1] ∧ Exa Z h a1 "java/lang/String" ∧ Fld Z h a1 "java/lang/String" "value" "[B" (.ref t) ∧ Fld Z h a1 "java/lang/String" "coder" "B" (.int (0 : Int32)) ∧ Arv Z h t kb .byte (0 : Int32) [] (.int 0)
set_option maxRecDepth 65536 in
set_option maxHeartbeats 40000000 in
theorem rmS0 (l : Launch) (Z : State) (a0 : Array Value) (hw : ∀ d ∈ tables_1, d.before a0 Z = true) (ws : List Jvm.Cond) (a1 : Addr) (a2 : Addr) (h0 : Heap) (n0 : Nat) (Z0 : n0 ≤ h0.size) (pE_a1 : Exa Z h0 a1 "java/lang/String") (pF_value_a1 : Fld Z h0 a1 "java/lang/String" "value" "[B" .null) (pF_coder_a1 : Fld Z h0 a1 "java/lang/String" "coder" "B" (.int (0 : Int32))) (pG_a1 : n0 ≤ a1) :
    MetFree l (⟨"java/lang/String", "<init>", "([CIILjava/lang/Void;)V"⟩ : MethodName) (head1 (Jvm.Cond.code (⟨"java/lang/String", "<init>", "([CIILjava/lang/Void;)V"⟩ : MethodName) jdk_42_method_149_code 6 none :: ws) ({ frames := 1, cells := 4, slots := 8, locals := 12 } : Room)) (fun a U => a = #[(.ref a1), (.ref a2), (.int (0 : Int32)), (.int (0 : Int32)), .null] ∧ Z.Warmed39 U.vm ∧ U.heap = h0 ∧ CHv Z own_EL U.vm h0) (fun _ _ _ _ _ => True) (fun _ U o U' => ∃ v L, o = .returned v ∧ Q_rmS0 Z a1 a2 h0 n0 v U'.heap L ∧ CHr Z own_EL U.vm U.heap U'.vm U'.heap ∧ ReturnedEndW U o U' L ({ frames := 1, cells := 4, slots := 8, locals := 12 } : Room).cells ({ frames := 1, cells := 4, slots := 8, locals := 12 } : Room).slots) := by
  refine MetFree.of_bodySF (plainFor_of_name pn_2) hisR ?_
  intro p e s m args below meth c s₁ Bd hml0 hP hK
  obtain ⟨rfl, hZ, hh, hCH⟩ := hP
  have hx := Bd.exec
  have hby := Bd.bytes
  have hml : c.maxLocals = 6 := hml0
  have hown : s.vm.findClass "java/lang/String" = some m.cls := findClass_of_methodNamed Bd.named
  have hnm := (name_of_methodNamed Bd.named Bd.method).1
  have X0 : Stand p l e ({ frames := 1, cells := 4, slots := 8, locals := 12 } : Room) (s.setVm s.vm) m #[(.ref a1), (.ref a2), (.int (0 : Int32)), (.int (0 : Int32)), .null] below meth c s₁ [] 0 0 := Stand.of_body Bd
  have e0 : s₁.heap = h0 := by rw [← hh, Bd.state]; rfl
  have N0 := Fr.nil n0
  have hEL := own_EW hw
  have hCR := CHr.refl hCH
  have hS : s.Since s.vm h0.size := (State.WarmedH.refl s).since _
  have hK0 : h0.size ≤ h0.size := Nat.le_refl _
  refine own_enter (ef_rmS0 m a1 a2 ((0 : Int32)) ((0 : Int32))) ?_
  have hsf : Safe Z own_EL s.vm h0 a1 := own_sfn hZ.alike pE_a1 pF_value_a1
  refine own_st (fun t_ k_ => XS.aloadN X0.here hx rfl (hb hby d2_0) rfl rfl k_) ?_
  show own_Go p e below s₁ (mkF m 1 #[.val (.ref a1), .val (.ref a2), .val (.int (0 : Int32)), .val (.int (0 : Int32)), .val .null, .unset] [(.ref a1)]) _
  obtain ⟨T1, X1, e1, st1⟩ := initO X0 hx hZ hown (own_w hw 11 rfl) (own_w hw 12 rfl) (own_w hw 13 rfl) e0 (g := (mkF m 1 #[.val (.ref a1), .val (.ref a2), .val (.int (0 : Int32)), .val (.int (0 : Int32)), .val .null, .unset] [(.ref a1)])) rfl (by rw [hml]; rfl) rfl (hb hby d2_1) (by decide) (W := 0) (by show 2 * 0 + _ ≤ _; exact Nat.le_of_eq rfl) (by decide)
  refine own_st st1 ?_
  show own_Go p e below T1 (mkF m 4 #[.val (.ref a1), .val (.ref a2), .val (.int (0 : Int32)), .val (.int (0 : Int32)), .val .null, .unset] []) _
  refine own_st (fun t_ k_ => XS.iloadN X1.here hx rfl (hb hby d2_4) rfl (XS.ifNo X1.here hx rfl (hb hby d2_5) rfl (by decide) (XS.aloadN X1.here hx rfl (hb hby d2_8) rfl rfl k_))) ?_
  show own_Go p e below T1 (mkF m 9 #[.val (.ref a1), .val (.ref a2), .val (.int (0 : Int32)), .val (.int (0 : Int32)), .val .null, .unset] [(.ref a1)]) _
  obtain ⟨b2, T2, h2, k2, t2, kb2, X2, e2, E2, hS, hk2, hZ, hown, xE2, xC2, xV2, xA2, -, -, A2, -, -, st2⟩ := ldcCH X1 hx hZ hown (own_w hw 34 rfl) (own_wS hw) e1 hS hK0 hEL (List.mem_of_getElem? (i := 3) rfl) hCH (vs := []) (z := (0 : Int32)) (by decide +kernel) (by decide) (by decide) (g := (mkF m 9 #[.val (.ref a1), .val (.ref a2), .val (.int (0 : Int32)), .val (.int (0 : Int32)), .val .null, .unset] [(.ref a1)])) rfl (hb hby d2_9) (n := 0) (by decide) (by decide) (by decide) (by decide)
  have CH3 := A2.1
  have CR3 := CHr.trans hCR (A2)
  have K4 : Keep h0 h2 [a1] := (Keep.refl h0 [a1]).ext E2
  refine own_st st2 ?_
  show own_Go p e below T2 (mkF m 11 #[.val (.ref a1), .val (.ref a2), .val (.int (0 : Int32)), .val (.int (0 : Int32)), .val .null, .unset] [(.ref b2), (.ref a1)]) _
  obtain ⟨T5, X5, e5, st5⟩ := getF X2 hx hZ hown (host := "") (Or.inl (own_w hw 28 rfl)) Via.refl e2 xV2 (g := (mkF m 11 #[.val (.ref a1), .val (.ref a2), .val (.int (0 : Int32)), .val (.int (0 : Int32)), .val .null, .unset] [(.ref b2), (.ref a1)])) rfl rfl (hb hby d2_11)
  refine own_st st5 ?_
  show own_Go p e below T5 (mkF m 14 #[.val (.ref a1), .val (.ref a2), .val (.int (0 : Int32)), .val (.int (0 : Int32)), .val .null, .unset] [(.ref t2), (.ref a1)]) _
  have f6 := (pE_a1.ext E2)
  have f7 := (pF_value_a1.ext E2)
  obtain ⟨T8, h8, X8, e8, W8, st8⟩ := putF X5 hx hZ hown (host := "") (Or.inl (own_w hw 28 rfl)) Via.refl e5 f7 f6 (Or.inr ⟨(own_w hw 29 rfl), rfl, hnm⟩) (own_w hw 1 rfl) (ty := (.array .byte)) (by decide) rfl rfl (g := (mkF m 14 #[.val (.ref a1), .val (.ref a2), .val (.int (0 : Int32)), .val (.int (0 : Int32)), .val .null, .unset] [(.ref t2), (.ref a1)])) rfl rfl (hb hby d2_14)
  have F8 := f7.same W8
  have f10 := (CHr.safe A2 pE_a1.lt hsf)
  have Sa9 : Safe Z own_EL T2.vm h2 a1 := f10
  have CH9 := CH3.wr W8 Sa9
  have CR9 := CHr.trans CR3 (CHr.wr W8 Sa9 CH3)
  have K11 : Keep h0 h8 [a1] := K4.wr W8 (Or.inl (List.mem_of_getElem? (i := 0) rfl))
  have N8 := Fr.snoc X8 N0 pG_a1
  refine own_st st8 ?_
  show own_Go p e below T8 (mkF m 17 #[.val (.ref a1), .val (.ref a2), .val (.int (0 : Int32)), .val (.int (0 : Int32)), .val .null, .unset] []) _
  refine own_st (fun t_ k_ => XS.aloadN X8.here hx rfl (hb hby d2_17) rfl rfl k_) ?_
  show own_Go p e below T8 (mkF m 18 #[.val (.ref a1), .val (.ref a2), .val (.int (0 : Int32)), .val (.int (0 : Int32)), .val .null, .unset] [(.ref a1)]) _
  have f13 := (Nat.le_trans hk2 (Keep.of_wr W8).1)
  obtain ⟨b12, T12, h12, k12, t12, kb12, X12, e12, E12, hS, hk12, hZ, hown, xE12, xC12, xV12, xA12, -, -, A12, -, -, st12⟩ := ldcCH X8 hx hZ hown (own_w hw 34 rfl) (own_wS hw) e8 hS f13 hEL (List.mem_of_getElem? (i := 3) rfl) CH9 (vs := []) (z := (0 : Int32)) (by decide +kernel) (by decide) (by decide) (g := (mkF m 18 #[.val (.ref a1), .val (.ref a2), .val (.int (0 : Int32)), .val (.int (0 : Int32)), .val .null, .unset] [(.ref a1)])) rfl (hb hby d2_18) (n := 0) (by decide) (by decide) (by decide) (by decide)
  have CH14 := A12.1
  have CR14 := CHr.trans CR9 (A12)
  have K15 : Keep h0 h12 [a1] := K11.ext E12
  refine own_st st12 ?_
  show own_Go p e below T12 (mkF m 20 #[.val (.ref a1), .val (.ref a2), .val (.int (0 : Int32)), .val (.int (0 : Int32)), .val .null, .unset] [(.ref b12), (.ref a1)]) _
  obtain ⟨T16, X16, e16, st16⟩ := getF X12 hx hZ hown (host := "") (Or.inl (own_w hw 26 rfl)) Via.refl e12 xC12 (g := (mkF m 20 #[.val (.ref a1), .val (.ref a2), .val (.int (0 : Int32)), .val (.int (0 : Int32)), .val .null, .unset] [(.ref b12), (.ref a1)])) rfl rfl (hb hby d2_20)
  refine own_st st16 ?_
  show own_Go p e below T16 (mkF m 23 #[.val (.ref a1), .val (.ref a2), .val (.int (0 : Int32)), .val (.int (0 : Int32)), .val .null, .unset] [(.int (0 : Int32)), (.ref a1)]) _
  have f17 := ((f6.wr W8).ext E12)
  have f18 := (((pF_coder_a1.ext E2).other W8 (Or.inr (slot_ne (Or.inr (own_w hw 27 rfl)) (Or.inr (own_w hw 29 rfl)) (by decide) (t := .byte) (t' := (.array .byte)) (by decide) (by decide)))).ext E12)
  obtain ⟨T19, h19, X19, e19, W19, st19⟩ := putFN X16 hx hZ hown (own_w hw 26 rfl) Via.refl e16 f18 f17 (Or.inr ⟨(own_w hw 27 rfl), rfl, hnm⟩) (own_w hw 1 rfl) (ty := .byte) (v' := (.int (0 : Int32))) (by decide) rfl (by decide) (g := (mkF m 23 #[.val (.ref a1), .val (.ref a2), .val (.int (0 : Int32)), .val (.int (0 : Int32)), .val .null, .unset] [(.int (0 : Int32)), (.ref a1)])) rfl rfl (hb hby d2_23)
  have F19 := f18.same W19
  have f21 := (CHr.safe A12 (f6.wr W8).lt (Safe.wr W8 Sa9 CH3 f10))
  have Sa20 : Safe Z own_EL T12.vm h12 a1 := f21
  have CH20 := CH14.wr W19 Sa20
  have CR20 := CHr.trans CR14 (CHr.wr W19 Sa20 CH14)
  have K22 : Keep h0 h19 [a1] := K15.wr W19 (Or.inl (List.mem_of_getElem? (i := 0) rfl))
  have N19 := Fr.snoc X19 N8 pG_a1
  refine own_st st19 ?_
  show own_Go p e below T19 (mkF m 26 #[.val (.ref a1), .val (.ref a2), .val (.int (0 : Int32)), .val (.int (0 : Int32)), .val .null, .unset] []) _
  have f23 := (f17.wr W19)
  have f24 := ((F8.ext E12).other W19 (Or.inr (slot_ne (Or.inr (own_w hw 29 rfl)) (Or.inr (own_w hw 27 rfl)) (by decide) (t := (.array .byte)) (t' := .byte) (by decide) (by decide))))
  have f25 := (((xA2.other W8 (Ne.symm (Exa.neArv f6 xA2 (own_w hw 1 rfl)))).ext E12).other W19 (Ne.symm (Exa.neArv f6 xA2 (own_w hw 1 rfl))))
  have f26 := (Nat.le_trans hk12 (Keep.of_wr W19).1)
  obtain ⟨fs, hr, hrun, hended, hRW⟩ := X19.leaveW hS (by rw [e19]; exact f26) (v := none) (fun _ => rfl)
  have hCend : CHr Z own_EL s.vm s.heap T19.vm T19.heap := by
    rw [hh, e19]
    exact CHr.trans CR20 (CHv.at X19 hZ hEL CH20)
  refine own_fin (X19.returnOut hx Bd.returns (hb hby d2_26) hr) ⟨hrun, hended, _, _, rfl, ?_, hCend, hRW.1, hRW.2.1, hRW.2.2.1, hRW.2.2.2.mono (by decide) (by decide)⟩
  show Q_rmS0 Z a1 a2 h0 n0 _ T19.heap _
  rw [e19]
  exact ⟨t2, kb2, rfl, N19, K22, f23, f24, F19, f25⟩
theorem d1_0 : decode jdk_42_method_3_code 0 = .ok (.aload_n 0, 1) := by decide +kernel
theorem d1_1 : decode jdk_42_method_3_code 1 = .ok (.aload_n 1, 1) := by decide +kernel
theorem d1_2 : decode jdk_42_method_3_code 2 = .ok (.iconst 0, 1) := by decide +kernel
theorem d1_3 : decode jdk_42_method_3_code 3 = .ok (.aload_n 1, 1) := by decide +kernel
theorem d1_4 : decode jdk_42_method_3_code 4 = .ok (.arraylength, 1) := by decide +kernel
theorem d1_5 : decode jdk_42_method_3_code 5 = .ok (.aconst_null, 1) := by decide +kernel
theorem d1_6 : decode jdk_42_method_3_code 6 = .ok (.invokespecial 27, 3) := by decide +kernel
theorem d1_9 : decode jdk_42_method_3_code 9 = .ok (.return_, 1) := by decide +kernel
theorem pn_1 : plainName "java/lang/String" = true := by first | (simp [plainName, overriddenIn]; done) | decide +kernel
theorem pd___CIILjava_lang_Void__V : parseMethodDescriptor "([CIILjava/lang/Void;)V" = some ⟨[(.array .char), .int, .int, (.object "java/lang/Void")], none⟩ := by decide +kernel
theorem ef_rmSC (m : MethodId) (x0 : Addr) (x1 : Addr) : entryFrame m #[(.ref x0), (.ref x1)] 2 = mkF m 0 #[.val (.ref x0), .val (.ref x1)] [] := by first | (simp [entryFrame, mkF, argsToLocals, Value.category]; done) | rfl
def Q_rmSC (Z : State) (a1 : Addr) (a2 : Addr) (ka : ClassId) (h0 : Heap) (n0 : Nat) (v : Option Value) (h : Heap) (L : List Loc) : Prop := ∃ t : Addr, ∃ kb : ClassId, v = none ∧ Fr n0 L ∧ Keep h0 h [a1] ∧ Exa Z h a1 "java/lang/String" ∧ Fld Z h a1 "java/lang/String" "value" "[B" (.ref t) ∧ Fld Z h a1 "java/lang/String" "coder" "B" (.int (0 : Int32)) ∧ Arv Z h t kb .byte (0 : Int32) [] (.int 0)
set_option maxRecDepth 65536 in
set_option maxHeartbeats 40000000 in
theorem rmSC (l : Launch) (Z : State) (a0 : Array Value) (hw : ∀ d ∈ tables_1, d.before a0 Z = true) (ws : List Jvm.Cond) (a1 : Addr) (a2 : Addr) (ka : ClassId) (h0 : Heap) (n0 : Nat) (Z0 : n0 ≤ h0.size) (pE_a1 : Exa Z h0 a1 "java/lang/String") (pF_value_a1 : Fld Z h0 a1 "java/lang/String" "value" "[B" .null) (pF_coder_a1 : Fld Z h0 a1 "java/lang/String" "coder" "B" (.int (0 : Int32))) (pG_a1 : n0 ≤ a1) (pV_a2 : Arv Z h0 a2 ka .char (0 : Int32) [] (.int (0 : Int32))) :
    MetFree l (⟨"java/lang/String", "<init>", "([C)V"⟩ : MethodName) (head1 (Jvm.Cond.code (⟨"java/lang/String", "<init>", "([C)V"⟩ : MethodName) jdk_42_method_3_code 2 none :: ws) ({ frames := 2, cells := 4, slots := 8, locals := 29 } : Room)) (fun a U => a = #[(.ref a1), (.ref a2)] ∧ Z.Warmed39 U.vm ∧ U.heap = h0 ∧ CHv Z own_EL U.vm h0) (fun _ _ _ _ _ => True) (fun _ U o U' => ∃ v L, o = .returned v ∧ Q_rmSC Z a1 a2 ka h0 n0 v U'.heap L ∧ CHr Z own_EL U.vm U.heap U'.vm U'.heap ∧ ReturnedEndW U o U' L ({ frames := 2, cells := 4, slots := 8, locals := 29 } : Room).cells ({ frames := 2, cells := 4, slots := 8, locals := 29 } : Room).slots) := by
  refine MetFree.of_bodySF (plainFor_of_name pn_1) hisR ?_
  intro p e s m args below meth c s₁ Bd hml0 hP hK
  obtain ⟨rfl, hZ, hh, hCH⟩ := hP
  have hx := Bd.exec
  have hby := Bd.bytes
  have hml : c.maxLocals = 2 := hml0
  have hown : s.vm.findClass "java/lang/String" = some m.cls := findClass_of_methodNamed Bd.named
  have hnm := (name_of_methodNamed Bd.named Bd.method).1
  have X0 : Stand p l e ({ frames := 2, cells := 4, slots := 8, locals := 29 } : Room) (s.setVm s.vm) m #[(.ref a1), (.ref a2)] below meth c s₁ [] 0 0 := Stand.of_body Bd
  have e0 : s₁.heap = h0 := by rw [← hh, Bd.state]; rfl
  have N0 := Fr.nil n0
  have hEL := own_EW hw
  have hCR := CHr.refl hCH
  have hS : s.Since s.vm h0.size := (State.WarmedH.refl s).since _
  have hK0 : h0.size ≤ h0.size := Nat.le_refl _
  refine own_enter (ef_rmSC m a1 a2) ?_
  refine own_st (fun t_ k_ => XS.aloadN X0.here hx rfl (hb hby d1_0) rfl rfl (XS.aloadN X0.here hx rfl (hb hby d1_1) rfl rfl (XS.iconst X0.here hx rfl (hb hby d1_2) (XS.aloadN X0.here hx rfl (hb hby d1_3) rfl rfl k_)))) ?_
  show own_Go p e below s₁ (mkF m 4 #[.val (.ref a1), .val (.ref a2)] [(.ref a2), (.int (0 : Int32)), (.ref a2), (.ref a1)]) _
  obtain ⟨cl1, Ar1, q1, Sz1, Nn1, Hh1, Gg1⟩ := id pV_a2
  refine own_st (fun t_ k_ => X0.arraylength hx (by rw [e0]; exact Ar1.1) (State.isArrayOf_alike hZ.alike Ar1.2.1) (g := (mkF m 4 #[.val (.ref a1), .val (.ref a2)] [(.ref a2), (.int (0 : Int32)), (.ref a2), (.ref a1)])) rfl rfl (hb hby d1_4) _ k_) ?_
  rw [len_of Sz1 Nn1]
  show own_Go p e below s₁ (mkF m 5 #[.val (.ref a1), .val (.ref a2)] [(.int (0 : Int32)), (.int (0 : Int32)), (.ref a2), (.ref a1)]) _
  refine own_st (fun t_ k_ => XS.aconstNull X0.here hx rfl (hb hby d1_5) k_) ?_
  show own_Go p e below s₁ (mkF m 6 #[.val (.ref a1), .val (.ref a2)] [.null, (.int (0 : Int32)), (.int (0 : Int32)), (.ref a2), (.ref a1)]) _
  obtain ⟨_, _, ⟨T2, L2, k2, n2⟩, -, Xa2, hSa2, hGa2, ⟨Lc2, hQ2, l2, y2, z2, A2⟩, st2⟩ := X0.specialBackS hx (y := (⟨"java/lang/String", "<init>", "([CIILjava/lang/Void;)V"⟩ : MethodName)) rfl hown (mvT hZ (own_w hw 7 rfl)) (mvT hZ (own_w hw 8 rfl)) (mvT hZ (own_w hw 10 rfl)) (by decide) (backOfSH (W := 0) (rmS0 l Z a0 hw [] a1 a2 h0 n0 Z0 pE_a1 pF_value_a1 pF_coder_a1 pG_a1) hZ (own_w hw 10 rfl) (own_w hw 2 rfl) (by decide) (by decide) hEL hCH) (g := (mkF m 6 #[.val (.ref a1), .val (.ref a2)] [.null, (.int (0 : Int32)), (.int (0 : Int32)), (.ref a2), (.ref a1)])) rfl (by rw [hml]; rfl) (Steps.refl _) (a := a1) (argsL := [(.ref a2), (.int (0 : Int32)), (.int (0 : Int32)), .null]) (rest := []) (lenOf pd___CIILjava_lang_Void__V rfl) rfl (by show 2 * 0 + _ ≤ _; exact Nat.le_of_eq rfl) (hb hby d1_6) (fun _ _ => ⟨rfl, e0, (by decide : 0 + 4 ≤ _), (by decide : 0 + 8 ≤ _)⟩)
  dsimp only [Pt.U, Pt.locs, Pt.cells, Pt.slots] at Xa2 hSa2 hGa2 l2 y2 z2 A2 st2 hQ2
  try dsimp only [Nat.reduceAdd] at y2 z2
  rw [l2, y2, z2] at Xa2
  obtain ⟨X2, hS, hZ, hown⟩ := rebS hS (by rw [e0]; exact hK0) Xa2 hSa2 hGa2 hZ hown
  obtain ⟨t_2, kb_2, rfl, Nq2, Kq2, q2_0, q2_1, q2_2, q2_3⟩ := hQ2
  have N2 := Fr.app N0 Nq2
  have CH3 := A2.1
  have CR3 := CHr.trans hCR (A2)
  have K4 : Keep h0 T2.heap [a1] := (Keep.refl h0 [a1]).trans Kq2 (allS (Or.inl (List.mem_of_getElem? (i := 0) rfl)) all0)
  have hK2 : T2.heap.size ≤ T2.heap.size := Nat.le_refl _
  refine own_tr st2 ?_
  show own_Go p e below T2 (mkF m 9 #[.val (.ref a1), .val (.ref a2)] []) _
  obtain ⟨fs, hr, hrun, hended, hRW⟩ := X2.leaveW hS hK2 (v := none) (fun _ => rfl)
  have hCend : CHr Z own_EL s.vm s.heap T2.vm T2.heap := by
    rw [hh]
    exact CHr.trans CR3 (CHv.at X2 hZ hEL CH3)
  refine own_fin (X2.returnOut hx Bd.returns (hb hby d1_9) hr) ⟨hrun, hended, _, _, rfl, ?_, hCend, hRW.1, hRW.2.1, hRW.2.2.1, hRW.2.2.2.mono (by decide) (by decide)⟩
  show Q_rmSC Z a1 a2 ka h0 n0 _ T2.heap _
  exact ⟨t_2, kb_2, rfl, N2, K4, q2_0, q2_1, q2_2, q2_3⟩
theorem own_cpD {us zs : List Value} {n : Int32} (hn : n.toInt = (us.length : Int)) : zs.take (0 : Int32).toNatClampNeg ++ us ++ zs.drop ((0 : Int32).toNatClampNeg + n.toNatClampNeg) = us ++ zs.drop us.length := by
  rw [own_clamp hn, show (0 : Int32).toNatClampNeg = 0 from rfl, Nat.zero_add]
  simp
def own_gr (old need new : Int32) : Prop := need.toInt ≤ new.toInt ∧ 2 * old.toInt + 2 ≤ new.toInt ∧ (new.toInt = need.toInt ∨ new.toInt = 2 * old.toInt + 2)
theorem own_subI {a b : Int32} (h0 : 0 ≤ a.toInt) (h1 : 0 ≤ b.toInt) : (a - b).toInt = a.toInt - b.toInt := by
  have h2 := c_isub a b
  have h3 := rng32 (a - b)
  have h4 := rng32 a
  have h5 := rng32 b
  omega
theorem own_add2 {a b : Int32} (h0 : 0 ≤ a.toInt) (h1 : 0 ≤ b.toInt) (h : a.toInt + b.toInt ≤ 1000000) : (a + b).toInt = a.toInt + b.toInt := by
  have h2 := c_iadd a b
  have h3 := rng32 (a + b)
  omega
theorem own_subP {a b : Int32} (h0 : 0 ≤ a.toInt) (h1 : 0 ≤ b.toInt) (h : b.toInt < a.toInt) : (0 : Int32) < a - b := by
  rw [Int32.lt_iff_toInt_lt, own_subI h0 h1, show (0 : Int32).toInt = 0 from rfl]
  omega
theorem d26_0 : decode jdk_29_method_65_code 0 = .ok (.iload_n 0, 1) := by decide +kernel
theorem d26_1 : decode jdk_29_method_65_code 1 = .ok (.iload_n 1, 1) := by decide +kernel
theorem d26_2 : decode jdk_29_method_65_code 2 = .ok (.if_icmp .lt 7, 3) := by decide +kernel
theorem d26_5 : decode jdk_29_method_65_code 5 = .ok (.iload_n 0, 1) := by decide +kernel
theorem d26_6 : decode jdk_29_method_65_code 6 = .ok (.goto 4, 3) := by decide +kernel
theorem d26_9 : decode jdk_29_method_65_code 9 = .ok (.iload_n 1, 1) := by decide +kernel
theorem d26_10 : decode jdk_29_method_65_code 10 = .ok (.ireturn, 1) := by decide +kernel
theorem ef_rmMx (m : MethodId) (x0 : Int32) (x1 : Int32) : entryFrame m #[(.int x0), (.int x1)] 2 = mkF m 0 #[.val (.int x0), .val (.int x1)] [] := by first | (simp [entryFrame, mkF, argsToLocals, Value.category]; done) | rfl
def Q_rmMx (Z : State) (a_ : Int32) (b_ : Int32) (h0 : Heap) (n0 : Nat) (v : Option Value) (h : Heap) (L : List Loc) : Prop := ∃ r : Int32, v = some (.int r) ∧ Fr n0 L ∧ h = h0 ∧ (a_.toInt ≤ r.toInt ∧ b_.toInt ≤ r.toInt ∧ (r.toInt = a_.toInt ∨ r.toInt = b_.toInt))
set_option maxRecDepth 65536 in
set_option maxHeartbeats 40000000 in
theorem rmMx (l : Launch) (Z : State) (a0 : Array Value) (hw : ∀ d ∈ tables_1, d.before a0 Z = true) (ws : List Jvm.Cond) (a_ : Int32) (b_ : Int32) (h0 : Heap) (n0 : Nat) (Z0 : n0 ≤ h0.size) :
    MetFree l (⟨"java/lang/Math", "max", "(II)I"⟩ : MethodName) (head1 (Jvm.Cond.code (⟨"java/lang/Math", "max", "(II)I"⟩ : MethodName) jdk_29_method_65_code 2 (some .int) :: ws) ({ frames := 0, cells := 0, slots := 0, locals := 0 } : Room)) (fun a U => a = #[(.int a_), (.int b_)] ∧ Z.Warmed39 U.vm ∧ U.heap = h0) (fun _ _ _ _ _ => True) (fun _ U o U' => ∃ v L, o = .returned v ∧ Q_rmMx Z a_ b_ h0 n0 v U'.heap L ∧ FrameEnd U o U' L ({ frames := 0, cells := 0, slots := 0, locals := 0 } : Room).cells ({ frames := 0, cells := 0, slots := 0, locals := 0 } : Room).slots) := by
  refine MetFree.of_bodySF (Jvm.Free.JP.mathPlain rfl (by decide +kernel)) hisR ?_
  intro p e s m args below meth c s₁ Bd hml0 hP hK
  obtain ⟨rfl, hZ, hh⟩ := hP
  have hx := Bd.exec
  have hby := Bd.bytes
  have hml : c.maxLocals = 2 := hml0
  have hown : s.vm.findClass "java/lang/Math" = some m.cls := findClass_of_methodNamed Bd.named
  have hnm := (name_of_methodNamed Bd.named Bd.method).1
  have X0 : Stand p l e ({ frames := 0, cells := 0, slots := 0, locals := 0 } : Room) s m #[(.int a_), (.int b_)] below meth c s₁ [] 0 0 := Stand.of_body Bd
  have e0 : s₁.heap = h0 := by rw [← hh, Bd.state]; rfl
  have N0 := Fr.nil n0
  refine own_enter (ef_rmMx m a_ b_) ?_
  refine own_st (fun t_ k_ => XS.iloadN X0.here hx rfl (hb hby d26_0) rfl (XS.iloadN X0.here hx rfl (hb hby d26_1) rfl k_)) ?_
  show own_Go p e below s₁ (mkF m 2 #[.val (.int a_), .val (.int b_)] [(.int b_), (.int a_)]) _
  by_cases c2 : a_ < b_
  · skip
    refine own_st (fun t_ k_ => XS.icmpYes X0.here hx rfl (pc0 := 2) (pc' := 9) rfl (hb hby d26_2) rfl (tlt c2).1 (by decide) (by decide) (XS.iloadN X0.here hx rfl (hb hby d26_9) rfl k_)) ?_
    show own_Go p e below s₁ (mkF m 10 #[.val (.int a_), .val (.int b_)] [(.int b_)]) _
    obtain ⟨fs, hr, hrun, hended, hW, hsame⟩ := X0.leave (v := some (.int b_)) (fun h => by rw [Bd.returns] at h; cases h)
    refine own_fin (own_retI X0 hx Bd.returns (hb hby d26_10) hr) ⟨hrun, hended, _, _, rfl, ?_, ⟨_, rfl⟩, hW, hsame.mono (by decide) (by decide)⟩
    show Q_rmMx Z a_ b_ h0 n0 _ s₁.heap _
    rw [e0]
    exact ⟨b_, rfl, N0, rfl, (by rw [Int32.lt_iff_toInt_lt] at c2; omega)⟩
  · skip
    refine own_st (fun t_ k_ => XS.icmpNo X0.here hx rfl (hb hby d26_2) rfl (flt c2).1 (XS.iloadN X0.here hx rfl (hb hby d26_5) rfl (XS.goto X0.here hx rfl (pc0 := 6) (pc' := 10) rfl (hb hby d26_6) (by decide) (by decide) k_))) ?_
    show own_Go p e below s₁ (mkF m 10 #[.val (.int a_), .val (.int b_)] [(.int a_)]) _
    obtain ⟨fs, hr, hrun, hended, hW, hsame⟩ := X0.leave (v := some (.int a_)) (fun h => by rw [Bd.returns] at h; cases h)
    refine own_fin (own_retI X0 hx Bd.returns (hb hby d26_10) hr) ⟨hrun, hended, _, _, rfl, ?_, ⟨_, rfl⟩, hW, hsame.mono (by decide) (by decide)⟩
    show Q_rmMx Z a_ b_ h0 n0 _ s₁.heap _
    rw [e0]
    exact ⟨a_, rfl, N0, rfl, (by rw [Int32.lt_iff_toInt_lt] at c2; omega)⟩
theorem d28_5 : decode jdk_29_method_69_code 5 = .ok (.iload_n 0, 1) := by decide +kernel
theorem d28_6 : decode jdk_29_method_69_code 6 = .ok (.goto 4, 3) := by decide +kernel
theorem ef_rmMa (m : MethodId) (x0 : Int32) (x1 : Int32) : entryFrame m #[(.int x0), (.int x1)] 2 = mkF m 0 #[.val (.int x0), .val (.int x1)] [] := by first | (simp [entryFrame, mkF, argsToLocals, Value.category]; done) | rfl
def Q_rmMa (Z : State) (a_ : Int32) (b_ : Int32) (h0 : Heap) (n0 : Nat) (v : Option Value) (h : Heap) (L : List Loc) : Prop := v = some (.int a_) ∧ Fr n0 L ∧ h = h0
set_option maxRecDepth 65536 in
set_option maxHeartbeats 40000000 in
theorem rmMa (l : Launch) (Z : State) (a0 : Array Value) (hw : ∀ d ∈ tables_1, d.before a0 Z = true) (ws : List Jvm.Cond) (a_ : Int32) (b_ : Int32) (h0 : Heap) (n0 : Nat) (Z0 : n0 ≤ h0.size) (h : (¬ (b_ < a_))) :
    MetFree l (⟨"java/lang/Math", "min", "(II)I"⟩ : MethodName) (head1 (Jvm.Cond.code (⟨"java/lang/Math", "min", "(II)I"⟩ : MethodName) jdk_29_method_69_code 2 (some .int) :: ws) ({ frames := 0, cells := 0, slots := 0, locals := 0 } : Room)) (fun a U => a = #[(.int a_), (.int b_)] ∧ Z.Warmed39 U.vm ∧ U.heap = h0) (fun _ _ _ _ _ => True) (fun _ U o U' => ∃ v L, o = .returned v ∧ Q_rmMa Z a_ b_ h0 n0 v U'.heap L ∧ FrameEnd U o U' L ({ frames := 0, cells := 0, slots := 0, locals := 0 } : Room).cells ({ frames := 0, cells := 0, slots := 0, locals := 0 } : Room).slots) := by
  refine MetFree.of_bodySF (Jvm.Free.JP.mathPlain rfl (by decide +kernel)) hisR ?_
  intro p e s m args below meth c s₁ Bd hml0 hP hK
  obtain ⟨rfl, hZ, hh⟩ := hP
  have hx := Bd.exec
  have hby := Bd.bytes
  have hml : c.maxLocals = 2 := hml0
  have hown : s.vm.findClass "java/lang/Math" = some m.cls := findClass_of_methodNamed Bd.named
  have hnm := (name_of_methodNamed Bd.named Bd.method).1
  have X0 : Stand p l e ({ frames := 0, cells := 0, slots := 0, locals := 0 } : Room) s m #[(.int a_), (.int b_)] below meth c s₁ [] 0 0 := Stand.of_body Bd
  have e0 : s₁.heap = h0 := by rw [← hh, Bd.state]; rfl
  have N0 := Fr.nil n0
  refine own_enter (ef_rmMa m a_ b_) ?_
  refine own_st (fun t_ k_ => XS.iloadN X0.here hx rfl (hb hby d28_0) rfl (XS.iloadN X0.here hx rfl (hb hby d28_1) rfl (XS.icmpNo X0.here hx rfl (hb hby d28_2) rfl (flt h).2.2.1 (XS.iloadN X0.here hx rfl (hb hby d28_5) rfl (XS.goto X0.here hx rfl (pc0 := 6) (pc' := 10) rfl (hb hby d28_6) (by decide) (by decide) k_))))) ?_
  show own_Go p e below s₁ (mkF m 10 #[.val (.int a_), .val (.int b_)] [(.int a_)]) _
  obtain ⟨fs, hr, hrun, hended, hW, hsame⟩ := X0.leave (v := some (.int a_)) (fun h => by rw [Bd.returns] at h; cases h)
  refine own_fin (own_retI X0 hx Bd.returns (hb hby d28_10) hr) ⟨hrun, hended, _, _, rfl, ?_, ⟨_, rfl⟩, hW, hsame.mono (by decide) (by decide)⟩
  show Q_rmMa Z a_ b_ h0 n0 _ s₁.heap _
  rw [e0]
  exact ⟨rfl, N0, rfl⟩
theorem d25_0 : decode jdk_48_method_27_code 0 = .ok (.iload_n 0, 1) := by decide +kernel
theorem d25_1 : decode jdk_48_method_27_code 1 = .ok (.iload_n 1, 1) := by decide +kernel
theorem d25_2 : decode jdk_48_method_27_code 2 = .ok (.iload_n 2, 1) := by decide +kernel
theorem d25_3 : decode jdk_48_method_27_code 3 = .ok (.invokestatic 194, 3) := by decide +kernel
theorem d25_6 : decode jdk_48_method_27_code 6 = .ok (.iadd, 1) := by decide +kernel
theorem d25_7 : decode jdk_48_method_27_code 7 = .ok (.istore_n 3, 1) := by decide +kernel
theorem d25_8 : decode jdk_48_method_27_code 8 = .ok (.iconst 0, 1) := by decide +kernel
theorem d25_9 : decode jdk_48_method_27_code 9 = .ok (.iload_n 3, 1) := by decide +kernel
theorem d25_10 : decode jdk_48_method_27_code 10 = .ok (.if_icmp .ge 11, 3) := by decide +kernel
theorem d25_13 : decode jdk_48_method_27_code 13 = .ok (.iload_n 3, 1) := by decide +kernel
theorem d25_14 : decode jdk_48_method_27_code 14 = .ok (.ldc 200, 2) := by decide +kernel
theorem d25_16 : decode jdk_48_method_27_code 16 = .ok (.if_icmp .gt 5, 3) := by decide +kernel
theorem d25_19 : decode jdk_48_method_27_code 19 = .ok (.iload_n 3, 1) := by decide +kernel
theorem d25_20 : decode jdk_48_method_27_code 20 = .ok (.ireturn, 1) := by decide +kernel
theorem pn_25 : plainName "jdk/internal/util/ArraysSupport" = true := by first | (simp [plainName, overriddenIn]; done) | decide +kernel
theorem ef_rmNl (m : MethodId) (x0 : Int32) (x1 : Int32) (x2 : Int32) : entryFrame m #[(.int x0), (.int x1), (.int x2)] 4 = mkF m 0 #[.val (.int x0), .val (.int x1), .val (.int x2), .unset] [] := by first | (simp [entryFrame, mkF, argsToLocals, Value.category]; done) | rfl
def Q_rmNl (Z : State) (o_ : Int32) (g_ : Int32) (p_ : Int32) (h0 : Heap) (n0 : Nat) (v : Option Value) (h : Heap) (L : List Loc) : Prop := ∃ r : Int32, v = some (.int r) ∧ Fr n0 L ∧ h = h0 ∧ (o_.toInt + g_.toInt ≤ r.toInt ∧ o_.toInt + p_.toInt ≤ r.toInt ∧ (r.toInt = o_.toInt + g_.toInt ∨ r.toInt = o_.toInt + p_.toInt))
set_option maxRecDepth 65536 in
set_option maxHeartbeats 40000000 in
theorem rmNl (l : Launch) (Z : State) (a0 : Array Value) (hw : ∀ d ∈ tables_1, d.before a0 Z = true) (ws : List Jvm.Cond) (o_ : Int32) (g_ : Int32) (p_ : Int32) (h0 : Heap) (n0 : Nat) (Z0 : n0 ≤ h0.size) (hA : (0 ≤ o_.toInt ∧ o_.toInt ≤ 100000)) (hB : (0 < g_.toInt ∧ g_.toInt ≤ 100000)) (hC : (0 ≤ p_.toInt ∧ p_.toInt ≤ 100000)) :
    MetFree l (⟨"jdk/internal/util/ArraysSupport", "newLength", "(III)I"⟩ : MethodName) (head1 (Jvm.Cond.code (⟨"jdk/internal/util/ArraysSupport", "newLength", "(III)I"⟩ : MethodName) jdk_48_method_27_code 4 (some .int) :: ws) ({ frames := 1, cells := 0, slots := 0, locals := 14 } : Room)) (fun a U => a = #[(.int o_), (.int g_), (.int p_)] ∧ Z.Warmed39 U.vm ∧ U.heap = h0) (fun _ _ _ _ _ => True) (fun _ U o U' => ∃ v L, o = .returned v ∧ Q_rmNl Z o_ g_ p_ h0 n0 v U'.heap L ∧ FrameEnd U o U' L ({ frames := 1, cells := 0, slots := 0, locals := 14 } : Room).cells ({ frames := 1, cells := 0, slots := 0, locals := 14 } : Room).slots) := by
  refine MetFree.of_bodySF (plainFor_of_name pn_25) hisR ?_
  intro p e s m args below meth c s₁ Bd hml0 hP hK
  obtain ⟨rfl, hZ, hh⟩ := hP
  have hx := Bd.exec
  have hby := Bd.bytes
  have hml : c.maxLocals = 4 := hml0
  have hown : s.vm.findClass "jdk/internal/util/ArraysSupport" = some m.cls := findClass_of_methodNamed Bd.named
  have hnm := (name_of_methodNamed Bd.named Bd.method).1
  have X0 : Stand p l e ({ frames := 1, cells := 0, slots := 0, locals := 14 } : Room) s m #[(.int o_), (.int g_), (.int p_)] below meth c s₁ [] 0 0 := Stand.of_body Bd
  have e0 : s₁.heap = h0 := by rw [← hh, Bd.state]; rfl
  have N0 := Fr.nil n0
  refine own_enter (ef_rmNl m o_ g_ p_) ?_
  refine own_st (fun t_ k_ => XS.iloadN X0.here hx rfl (hb hby d25_0) rfl (XS.iloadN X0.here hx rfl (hb hby d25_1) rfl (XS.iloadN X0.here hx rfl (hb hby d25_2) rfl k_))) ?_
  show own_Go p e below s₁ (mkF m 3 #[.val (.int o_), .val (.int g_), .val (.int p_), .unset] [(.int p_), (.int g_), (.int o_)]) _
  obtain ⟨_, _, ⟨T1, L1, k1, n1⟩, -, X1, ⟨Lc1, hQ1, l1, y1, z1⟩, st1⟩ := Jvm.LawKit.callS X0 hx (y := (⟨"java/lang/Math", "max", "(II)I"⟩ : MethodName)) hown (mvT hZ (own_w hw 140 rfl)) (mvT hZ (own_w hw 141 rfl)) (mvT hZ (own_w hw 142 rfl)) (mvT hZ (own_w hw 143 rfl)) (by decide) (backOf (W := 1) (rmMx l Z a0 hw [] g_ p_ h0 n0 Z0 ) hZ (own_w hw 143 rfl) (own_w hw 142 rfl) (by decide) (by decide)) (g := (mkF m 3 #[.val (.int o_), .val (.int g_), .val (.int p_), .unset] [(.int p_), (.int g_), (.int o_)])) rfl (by rw [hml]; rfl) (argsL := [(.int g_), (.int p_)]) (rest := [(.int o_)]) (lenOf pd__II_I rfl) rfl (by show 2 * 0 + _ ≤ _; exact Nat.le_of_eq rfl) (hb hby d25_3) (fun _ _ => ⟨rfl, e0, (by decide : 0 + 0 ≤ _), (by decide : 0 + 0 ≤ _)⟩)
  dsimp only [Pt.U, Pt.locs, Pt.cells, Pt.slots] at X1 l1 y1 z1 st1 hQ1
  try dsimp only [Nat.reduceAdd] at y1 z1
  rw [l1, y1, z1] at X1
  obtain ⟨r_1, rfl, Nq1, eH1, q1_0⟩ := hQ1
  have N1 := Fr.app N0 Nq1
  refine own_st st1 ?_
  show own_Go p e below T1 (mkF m 6 #[.val (.int o_), .val (.int g_), .val (.int p_), .unset] [(.int r_1), (.int o_)]) _
  refine own_st (fun t_ k_ => XS.iadd X1.here hx rfl (hb hby d25_6) rfl k_) ?_
  show own_Go p e below T1 (mkF m 7 #[.val (.int o_), .val (.int g_), .val (.int p_), .unset] [(.int (o_ + r_1))]) _
  have hs : ((o_ + r_1)).toInt = o_.toInt + r_1.toInt := own_add2 hA.1 (by omega) (by omega)
  have hq := q1_0
  generalize (o_ + r_1) = rr at hs ⊢
  show own_Go p e below T1 (mkF m 7 #[.val (.int o_), .val (.int g_), .val (.int p_), .unset] [(.int rr)]) _
  refine own_st (fun t_ k_ => XS.istoreN X1.here hx rfl (hb hby d25_7) rfl (l' := #[.val (.int o_), .val (.int g_), .val (.int p_), .val (.int rr)]) rfl (XS.iconst X1.here hx rfl (hb hby d25_8) (XS.iloadN X1.here hx rfl (hb hby d25_9) rfl (XS.icmpNo X1.here hx rfl (hb hby d25_10) rfl (tlt (show (0 : Int32) < rr from (by rw [Int32.lt_iff_toInt_lt, show (0 : Int32).toInt = 0 from rfl]; omega))).2.1 (XS.iloadN X1.here hx rfl (hb hby d25_13) rfl (X1.ldcInt hx hown (mvT hZ (own_w hw 144 rfl)) (g := (mkF m 14 #[.val (.int o_), .val (.int g_), .val (.int p_), .val (.int rr)] [(.int rr)])) rfl (hb hby d25_14) _ (XS.icmpNo X1.here hx rfl (hb hby d25_16) rfl (flt (show ¬ ((2147483639 : Int32) < rr) from (by rw [Int32.lt_iff_toInt_lt, show (2147483639 : Int32).toInt = 2147483639 from rfl]; omega))).2.2.1 (XS.iloadN X1.here hx rfl (hb hby d25_19) rfl k_)))))))) ?_
  show own_Go p e below T1 (mkF m 20 #[.val (.int o_), .val (.int g_), .val (.int p_), .val (.int rr)] [(.int rr)]) _
  obtain ⟨fs, hr, hrun, hended, hW, hsame⟩ := X1.leave (v := some (.int rr)) (fun h => by rw [Bd.returns] at h; cases h)
  refine own_fin (own_retI X1 hx Bd.returns (hb hby d25_20) hr) ⟨hrun, hended, _, _, rfl, ?_, ⟨_, rfl⟩, hW, hsame.mono (by decide) (by decide)⟩
  show Q_rmNl Z o_ g_ p_ h0 n0 _ T1.heap _
  rw [eH1]
  exact ⟨rr, rfl, N1, rfl, (by omega)⟩
theorem d24_0 : decode jdk_68_method_10_code 0 = .ok (.aload_n 0, 1) := by decide +kernel
theorem d24_1 : decode jdk_68_method_10_code 1 = .ok (.getfield 15, 3) := by decide +kernel
theorem d24_4 : decode jdk_68_method_10_code 4 = .ok (.arraylength, 1) := by decide +kernel
theorem d24_5 : decode jdk_68_method_10_code 5 = .ok (.istore_n 2, 1) := by decide +kernel
theorem d24_6 : decode jdk_68_method_10_code 6 = .ok (.iload_n 1, 1) := by decide +kernel
theorem d24_7 : decode jdk_68_method_10_code 7 = .ok (.aload_n 0, 1) := by decide +kernel
theorem d24_8 : decode jdk_68_method_10_code 8 = .ok (.getfield 22, 3) := by decide +kernel
theorem d24_11 : decode jdk_68_method_10_code 11 = .ok (.ishl, 1) := by decide +kernel
theorem d24_12 : decode jdk_68_method_10_code 12 = .ok (.istore_n 3, 1) := by decide +kernel
theorem d24_13 : decode jdk_68_method_10_code 13 = .ok (.iload_n 3, 1) := by decide +kernel
theorem d24_14 : decode jdk_68_method_10_code 14 = .ok (.iload_n 2, 1) := by decide +kernel
theorem d24_15 : decode jdk_68_method_10_code 15 = .ok (.isub, 1) := by decide +kernel
theorem d24_16 : decode jdk_68_method_10_code 16 = .ok (.istore 4, 2) := by decide +kernel
theorem d24_18 : decode jdk_68_method_10_code 18 = .ok (.iload_n 2, 1) := by decide +kernel
theorem d24_19 : decode jdk_68_method_10_code 19 = .ok (.iload 4, 2) := by decide +kernel
theorem d24_21 : decode jdk_68_method_10_code 21 = .ok (.iload_n 2, 1) := by decide +kernel
theorem d24_22 : decode jdk_68_method_10_code 22 = .ok (.iconst 2, 1) := by decide +kernel
theorem d24_23 : decode jdk_68_method_10_code 23 = .ok (.aload_n 0, 1) := by decide +kernel
theorem d24_24 : decode jdk_68_method_10_code 24 = .ok (.getfield 22, 3) := by decide +kernel
theorem d24_27 : decode jdk_68_method_10_code 27 = .ok (.ishl, 1) := by decide +kernel
theorem d24_28 : decode jdk_68_method_10_code 28 = .ok (.iadd, 1) := by decide +kernel
theorem d24_29 : decode jdk_68_method_10_code 29 = .ok (.invokestatic 114, 3) := by decide +kernel
theorem d24_32 : decode jdk_68_method_10_code 32 = .ok (.istore 5, 2) := by decide +kernel
theorem d24_34 : decode jdk_68_method_10_code 34 = .ok (.iload 5, 2) := by decide +kernel
theorem d24_36 : decode jdk_68_method_10_code 36 = .ok (.ldc 39, 2) := by decide +kernel
theorem d24_38 : decode jdk_68_method_10_code 38 = .ok (.if_icmp .ne 13, 3) := by decide +kernel
theorem d24_51 : decode jdk_68_method_10_code 51 = .ok (.iload 5, 2) := by decide +kernel
theorem d24_53 : decode jdk_68_method_10_code 53 = .ok (.aload_n 0, 1) := by decide +kernel
theorem d24_54 : decode jdk_68_method_10_code 54 = .ok (.getfield 22, 3) := by decide +kernel
theorem d24_57 : decode jdk_68_method_10_code 57 = .ok (.ishr, 1) := by decide +kernel
theorem d24_58 : decode jdk_68_method_10_code 58 = .ok (.ireturn, 1) := by decide +kernel
theorem pn_24 : plainName "java/lang/AbstractStringBuilder" = true := by first | (simp [plainName, overriddenIn]; done) | decide +kernel
theorem pd__III_I : parseMethodDescriptor "(III)I" = some ⟨[.int, .int, .int], some .int⟩ := by decide +kernel
theorem ef_rmNc (m : MethodId) (x0 : Addr) (x1 : Int32) : entryFrame m #[(.ref x0), (.int x1)] 6 = mkF m 0 #[.val (.ref x0), .val (.int x1), .unset, .unset, .unset, .unset] [] := by first | (simp [entryFrame, mkF, argsToLocals, Value.category]; done) | rfl
def Q_rmNc (Z : State) (a1 : Addr) (va : Addr) (kva : ClassId) (cap : Int32) (vs : List Value) (mm : Int32) (h0 : Heap) (n0 : Nat) (v : Option Value) (h : Heap) (L : List Loc) : Prop := ∃ r : Int32, v = some (.int r) ∧ Fr n0 L ∧ h = h0 ∧ (own_gr cap mm r)
set_option maxRecDepth 65536 in
set_option maxHeartbeats 40000000 in
theorem rmNc (l : Launch) (Z : State) (a0 : Array Value) (hw : ∀ d ∈ tables_1, d.before a0 Z = true) (ws : List Jvm.Cond) (a1 : Addr) (va : Addr) (kva : ClassId) (cap : Int32) (vs : List Value) (mm : Int32) (h0 : Heap) (n0 : Nat) (Z0 : n0 ≤ h0.size) (pE_a1 : Exa Z h0 a1 "java/lang/StringBuilder") (pF_value_a1 : Fld Z h0 a1 "java/lang/AbstractStringBuilder" "value" "[B" (.ref va)) (pF_coder_a1 : Fld Z h0 a1 "java/lang/AbstractStringBuilder" "coder" "B" (.int (0 : Int32))) (pV_va : Arv Z h0 va kva .byte cap vs (.int 0)) (hc : (0 ≤ cap.toInt ∧ cap.toInt < mm.toInt ∧ mm.toInt ≤ 40000)) :
    MetFree l (⟨"java/lang/AbstractStringBuilder", "newCapacity", "(I)I"⟩ : MethodName) (head1 (Jvm.Cond.code (⟨"java/lang/AbstractStringBuilder", "newCapacity", "(I)I"⟩ : MethodName) jdk_68_method_10_code 6 (some .int) :: ws) ({ frames := 2, cells := 0, slots := 0, locals := 29 } : Room)) (fun a U => a = #[(.ref a1), (.int mm)] ∧ Z.Warmed39 U.vm ∧ U.heap = h0) (fun _ _ _ _ _ => True) (fun _ U o U' => ∃ v L, o = .returned v ∧ Q_rmNc Z a1 va kva cap vs mm h0 n0 v U'.heap L ∧ FrameEnd U o U' L ({ frames := 2, cells := 0, slots := 0, locals := 29 } : Room).cells ({ frames := 2, cells := 0, slots := 0, locals := 29 } : Room).slots) := by
  refine MetFree.of_bodySF (plainFor_of_name pn_24) hisR ?_
  intro p e s m args below meth c s₁ Bd hml0 hP hK
  obtain ⟨rfl, hZ, hh⟩ := hP
  have hx := Bd.exec
  have hby := Bd.bytes
  have hml : c.maxLocals = 6 := hml0
  have hown : s.vm.findClass "java/lang/AbstractStringBuilder" = some m.cls := findClass_of_methodNamed Bd.named
  have hnm := (name_of_methodNamed Bd.named Bd.method).1
  have X0 : Stand p l e ({ frames := 2, cells := 0, slots := 0, locals := 29 } : Room) s m #[(.ref a1), (.int mm)] below meth c s₁ [] 0 0 := Stand.of_body Bd
  have e0 : s₁.heap = h0 := by rw [← hh, Bd.state]; rfl
  have N0 := Fr.nil n0
  refine own_enter (ef_rmNc m a1 mm) ?_
  refine own_st (fun t_ k_ => XS.aloadN X0.here hx rfl (hb hby d24_0) rfl rfl k_) ?_
  show own_Go p e below s₁ (mkF m 1 #[.val (.ref a1), .val (.int mm), .unset, .unset, .unset, .unset] [(.ref a1)]) _
  obtain ⟨T1, X1, e1, st1⟩ := getF X0 hx hZ hown (host := "") (Or.inl (own_w hw 65 rfl)) Via.refl e0 pF_value_a1 (g := (mkF m 1 #[.val (.ref a1), .val (.int mm), .unset, .unset, .unset, .unset] [(.ref a1)])) rfl rfl (hb hby d24_1)
  refine own_st st1 ?_
  show own_Go p e below T1 (mkF m 4 #[.val (.ref a1), .val (.int mm), .unset, .unset, .unset, .unset] [(.ref va)]) _
  obtain ⟨cl2, Ar2, q2, Sz2, Nn2, Hh2, Gg2⟩ := id pV_va
  refine own_st (fun t_ k_ => X1.arraylength hx (by rw [e1]; exact Ar2.1) (State.isArrayOf_alike hZ.alike Ar2.2.1) (g := (mkF m 4 #[.val (.ref a1), .val (.int mm), .unset, .unset, .unset, .unset] [(.ref va)])) rfl rfl (hb hby d24_4) _ k_) ?_
  rw [len_of Sz2 Nn2]
  show own_Go p e below T1 (mkF m 5 #[.val (.ref a1), .val (.int mm), .unset, .unset, .unset, .unset] [(.int cap)]) _
  refine own_st (fun t_ k_ => XS.istoreN X1.here hx rfl (hb hby d24_5) rfl (l' := #[.val (.ref a1), .val (.int mm), .val (.int cap), .unset, .unset, .unset]) rfl (XS.iloadN X1.here hx rfl (hb hby d24_6) rfl (XS.aloadN X1.here hx rfl (hb hby d24_7) rfl rfl k_))) ?_
  show own_Go p e below T1 (mkF m 8 #[.val (.ref a1), .val (.int mm), .val (.int cap), .unset, .unset, .unset] [(.ref a1), (.int mm)]) _
  obtain ⟨T3, X3, e3, st3⟩ := getF X1 hx hZ hown (host := "") (Or.inl (own_w hw 67 rfl)) Via.refl e1 pF_coder_a1 (g := (mkF m 8 #[.val (.ref a1), .val (.int mm), .val (.int cap), .unset, .unset, .unset] [(.ref a1), (.int mm)])) rfl rfl (hb hby d24_8)
  refine own_st st3 ?_
  show own_Go p e below T3 (mkF m 11 #[.val (.ref a1), .val (.int mm), .val (.int cap), .unset, .unset, .unset] [(.int (0 : Int32)), (.int mm)]) _
  refine own_st (fun t_ k_ => XS.ishl X3.here hx rfl (hb hby d24_11) rfl k_) ?_
  show own_Go p e below T3 (mkF m 12 #[.val (.ref a1), .val (.int mm), .val (.int cap), .unset, .unset, .unset] [(.int (mm <<< ((0 : Int32) &&& 31)))]) _
  rw [own_shl0 mm]
  show own_Go p e below T3 (mkF m 12 #[.val (.ref a1), .val (.int mm), .val (.int cap), .unset, .unset, .unset] [(.int mm)]) _
  refine own_st (fun t_ k_ => XS.istoreN X3.here hx rfl (hb hby d24_12) rfl (l' := #[.val (.ref a1), .val (.int mm), .val (.int cap), .val (.int mm), .unset, .unset]) rfl (XS.iloadN X3.here hx rfl (hb hby d24_13) rfl (XS.iloadN X3.here hx rfl (hb hby d24_14) rfl (XS.isub X3.here hx rfl (hb hby d24_15) rfl (XS.istore X3.here hx rfl (hb hby d24_16) rfl (l' := #[.val (.ref a1), .val (.int mm), .val (.int cap), .val (.int mm), .val (.int (mm - cap)), .unset]) rfl (XS.iloadN X3.here hx rfl (hb hby d24_18) rfl (XS.iload X3.here hx rfl (hb hby d24_19) rfl (XS.iloadN X3.here hx rfl (hb hby d24_21) rfl (XS.iconst X3.here hx rfl (hb hby d24_22) (XS.aloadN X3.here hx rfl (hb hby d24_23) rfl rfl k_)))))))))) ?_
  show own_Go p e below T3 (mkF m 24 #[.val (.ref a1), .val (.int mm), .val (.int cap), .val (.int mm), .val (.int (mm - cap)), .unset] [(.ref a1), (.int (2 : Int32)), (.int cap), (.int (mm - cap)), (.int cap)]) _
  obtain ⟨T4, X4, e4, st4⟩ := getF X3 hx hZ hown (host := "") (Or.inl (own_w hw 67 rfl)) Via.refl e3 pF_coder_a1 (g := (mkF m 24 #[.val (.ref a1), .val (.int mm), .val (.int cap), .val (.int mm), .val (.int (mm - cap)), .unset] [(.ref a1), (.int (2 : Int32)), (.int cap), (.int (mm - cap)), (.int cap)])) rfl rfl (hb hby d24_24)
  refine own_st st4 ?_
  show own_Go p e below T4 (mkF m 27 #[.val (.ref a1), .val (.int mm), .val (.int cap), .val (.int mm), .val (.int (mm - cap)), .unset] [(.int (0 : Int32)), (.int (2 : Int32)), (.int cap), (.int (mm - cap)), (.int cap)]) _
  refine own_st (fun t_ k_ => XS.ishl X4.here hx rfl (hb hby d24_27) rfl k_) ?_
  show own_Go p e below T4 (mkF m 28 #[.val (.ref a1), .val (.int mm), .val (.int cap), .val (.int mm), .val (.int (mm - cap)), .unset] [(.int ((2 : Int32) <<< ((0 : Int32) &&& 31))), (.int cap), (.int (mm - cap)), (.int cap)]) _
  rw [own_shl0 (2 : Int32)]
  show own_Go p e below T4 (mkF m 28 #[.val (.ref a1), .val (.int mm), .val (.int cap), .val (.int mm), .val (.int (mm - cap)), .unset] [(.int (2 : Int32)), (.int cap), (.int (mm - cap)), (.int cap)]) _
  refine own_st (fun t_ k_ => XS.iadd X4.here hx rfl (hb hby d24_28) rfl k_) ?_
  show own_Go p e below T4 (mkF m 29 #[.val (.ref a1), .val (.int mm), .val (.int cap), .val (.int mm), .val (.int (mm - cap)), .unset] [(.int (cap + (2 : Int32))), (.int (mm - cap)), (.int cap)]) _
  have e1 : (mm - cap).toInt = mm.toInt - cap.toInt := own_subI (by omega) (by omega)
  have e2 : (cap + (2 : Int32)).toInt = cap.toInt + 2 := own_add2 (by omega) (by decide) (by rw [show (2 : Int32).toInt = 2 from rfl]; omega)
  obtain ⟨_, _, ⟨T5, L5, k5, n5⟩, -, X5, ⟨Lc5, hQ5, l5, y5, z5⟩, st5⟩ := Jvm.LawKit.callS X4 hx (y := (⟨"jdk/internal/util/ArraysSupport", "newLength", "(III)I"⟩ : MethodName)) hown (mvT hZ (own_w hw 136 rfl)) (mvT hZ (own_w hw 137 rfl)) (mvT hZ (own_w hw 138 rfl)) (mvT hZ (own_w hw 139 rfl)) (by decide) (backOf (W := 0) (rmNl l Z a0 hw [] cap ((mm - cap)) ((cap + (2 : Int32))) h0 n0 Z0 (by omega) (by omega) (by omega)) hZ (own_w hw 139 rfl) (own_w hw 138 rfl) (by decide) (by decide)) (g := (mkF m 29 #[.val (.ref a1), .val (.int mm), .val (.int cap), .val (.int mm), .val (.int (mm - cap)), .unset] [(.int (cap + (2 : Int32))), (.int (mm - cap)), (.int cap)])) rfl (by rw [hml]; rfl) (argsL := [(.int cap), (.int (mm - cap)), (.int (cap + (2 : Int32)))]) (rest := []) (lenOf pd__III_I rfl) rfl (by show 2 * 0 + _ ≤ _; exact Nat.le_of_eq rfl) (hb hby d24_29) (fun _ _ => ⟨rfl, e4, (by decide : 0 + 0 ≤ _), (by decide : 0 + 0 ≤ _)⟩)
  dsimp only [Pt.U, Pt.locs, Pt.cells, Pt.slots] at X5 l5 y5 z5 st5 hQ5
  try dsimp only [Nat.reduceAdd] at y5 z5
  rw [l5, y5, z5] at X5
  obtain ⟨r_5, rfl, Nq5, eH5, q5_0⟩ := hQ5
  have N5 := Fr.app N0 Nq5
  refine own_st st5 ?_
  show own_Go p e below T5 (mkF m 32 #[.val (.ref a1), .val (.int mm), .val (.int cap), .val (.int mm), .val (.int (mm - cap)), .unset] [(.int r_5)]) _
  have hq := q5_0
  rw [e1, e2] at hq
  refine own_st (fun t_ k_ => XS.istore X5.here hx rfl (hb hby d24_32) rfl (l' := #[.val (.ref a1), .val (.int mm), .val (.int cap), .val (.int mm), .val (.int (mm - cap)), .val (.int r_5)]) rfl (XS.iload X5.here hx rfl (hb hby d24_34) rfl (X5.ldcInt hx hown (mvT hZ (own_w hw 145 rfl)) (g := (mkF m 36 #[.val (.ref a1), .val (.int mm), .val (.int cap), .val (.int mm), .val (.int (mm - cap)), .val (.int r_5)] [(.int r_5)])) rfl (hb hby d24_36) _ (XS.icmpYes X5.here hx rfl (pc0 := 38) (pc' := 51) rfl (hb hby d24_38) rfl (feq (fun q => by rw [q, show (2147483647 : Int32).toInt = 2147483647 from rfl] at hq; omega)).2 (by decide) (by decide) (XS.iload X5.here hx rfl (hb hby d24_51) rfl (XS.aloadN X5.here hx rfl (hb hby d24_53) rfl rfl k_)))))) ?_
  show own_Go p e below T5 (mkF m 54 #[.val (.ref a1), .val (.int mm), .val (.int cap), .val (.int mm), .val (.int (mm - cap)), .val (.int r_5)] [(.ref a1), (.int r_5)]) _
  obtain ⟨T6, X6, e6, st6⟩ := getF X5 hx hZ hown (host := "") (Or.inl (own_w hw 67 rfl)) Via.refl eH5 pF_coder_a1 (g := (mkF m 54 #[.val (.ref a1), .val (.int mm), .val (.int cap), .val (.int mm), .val (.int (mm - cap)), .val (.int r_5)] [(.ref a1), (.int r_5)])) rfl rfl (hb hby d24_54)
  refine own_st st6 ?_
  show own_Go p e below T6 (mkF m 57 #[.val (.ref a1), .val (.int mm), .val (.int cap), .val (.int mm), .val (.int (mm - cap)), .val (.int r_5)] [(.int (0 : Int32)), (.int r_5)]) _
  refine own_st (fun t_ k_ => XS.ishr X6.here hx rfl (hb hby d24_57) rfl k_) ?_
  show own_Go p e below T6 (mkF m 58 #[.val (.ref a1), .val (.int mm), .val (.int cap), .val (.int mm), .val (.int (mm - cap)), .val (.int r_5)] [(.int (r_5 >>> ((0 : Int32) &&& 31)))]) _
  rw [own_shr0 r_5]
  show own_Go p e below T6 (mkF m 58 #[.val (.ref a1), .val (.int mm), .val (.int cap), .val (.int mm), .val (.int (mm - cap)), .val (.int r_5)] [(.int r_5)]) _
  obtain ⟨fs, hr, hrun, hended, hW, hsame⟩ := X6.leave (v := some (.int r_5)) (fun h => by rw [Bd.returns] at h; cases h)
  refine own_fin (own_retI X6 hx Bd.returns (hb hby d24_58) hr) ⟨hrun, hended, _, _, rfl, ?_, ⟨_, rfl⟩, hW, hsame.mono (by decide) (by decide)⟩
  show Q_rmNc Z a1 va kva cap vs mm h0 n0 _ T6.heap _
  rw [e6]
  exact ⟨r_5, rfl, N5, rfl, (by unfold own_gr; omega)⟩
theorem d27_0 : decode jdk_65_method_121_code 0 = .ok (.iload_n 1, 1) := by decide +kernel
theorem d27_1 : decode jdk_65_method_121_code 1 = .ok (.aload_n 0, 1) := by decide +kernel
theorem d27_2 : decode jdk_65_method_121_code 2 = .ok (.arraylength, 1) := by decide +kernel
theorem d27_3 : decode jdk_65_method_121_code 3 = .ok (.if_icmp .ne 11, 3) := by decide +kernel
theorem d27_14 : decode jdk_65_method_121_code 14 = .ok (.iload_n 1, 1) := by decide +kernel
theorem d27_15 : decode jdk_65_method_121_code 15 = .ok (.newarray .byte, 2) := by decide +kernel
theorem d27_17 : decode jdk_65_method_121_code 17 = .ok (.astore_n 2, 1) := by decide +kernel
theorem d27_18 : decode jdk_65_method_121_code 18 = .ok (.aload_n 0, 1) := by decide +kernel
theorem d27_19 : decode jdk_65_method_121_code 19 = .ok (.iconst 0, 1) := by decide +kernel
theorem d27_20 : decode jdk_65_method_121_code 20 = .ok (.aload_n 2, 1) := by decide +kernel
theorem d27_21 : decode jdk_65_method_121_code 21 = .ok (.iconst 0, 1) := by decide +kernel
theorem d27_22 : decode jdk_65_method_121_code 22 = .ok (.aload_n 0, 1) := by decide +kernel
theorem d27_23 : decode jdk_65_method_121_code 23 = .ok (.arraylength, 1) := by decide +kernel
theorem d27_24 : decode jdk_65_method_121_code 24 = .ok (.iload_n 1, 1) := by decide +kernel
theorem d27_25 : decode jdk_65_method_121_code 25 = .ok (.invokestatic 304, 3) := by decide +kernel
theorem d27_28 : decode jdk_65_method_121_code 28 = .ok (.invokestatic 150, 3) := by decide +kernel
theorem d27_31 : decode jdk_65_method_121_code 31 = .ok (.aload_n 2, 1) := by decide +kernel
theorem d27_32 : decode jdk_65_method_121_code 32 = .ok (.areturn, 1) := by decide +kernel
theorem pn_27 : plainName "java/util/Arrays" = true := by first | (simp [plainName, overriddenIn]; done) | decide +kernel
theorem ef_rmCy (m : MethodId) (x0 : Addr) (x1 : Int32) : entryFrame m #[(.ref x0), (.int x1)] 3 = mkF m 0 #[.val (.ref x0), .val (.int x1), .unset] [] := by first | (simp [entryFrame, mkF, argsToLocals, Value.category]; done) | rfl
def Q_rmCy (Z : State) (va : Addr) (kva : ClassId) (cap : Int32) (vs : List Value) (nc : Int32) (nN : Nat) (h0 : Heap) (n0 : Nat) (v : Option Value) (h : Heap) (L : List Loc) : Prop := ∃ b : Addr, ∃ kb : ClassId, v = some (.ref b) ∧ Fr n0 L ∧ Keep h0 h [] ∧ Arv Z h b kb .byte nc (vs ++ (List.replicate nN (.int (0 : Int32))).drop vs.length) (.int 0) ∧ h0.size ≤ b ∧ n0 ≤ b
set_option maxRecDepth 65536 in
set_option maxHeartbeats 40000000 in
theorem rmCy (l : Launch) (Z : State) (a0 : Array Value) (hw : ∀ d ∈ tables_1, d.before a0 Z = true) (ws : List Jvm.Cond) (va : Addr) (kva : ClassId) (cap : Int32) (vs : List Value) (nc : Int32) (nN : Nat) (h0 : Heap) (n0 : Nat) (Z0 : n0 ≤ h0.size) (pV_va : Arv Z h0 va kva .byte cap vs (.int 0)) (hcv : (cap.toInt = (vs.length : Int))) (hnc : (nc.toInt = (nN : Int))) (hlt : (vs.length < nN)) (hbd : (nN ≤ 70)) :
    MetFree l (⟨"java/util/Arrays", "copyOf", "([BI)[B"⟩ : MethodName) (head1 (Jvm.Cond.code (⟨"java/util/Arrays", "copyOf", "([BI)[B"⟩ : MethodName) jdk_65_method_121_code 3 (some (.array .byte)) :: ws) ({ frames := 1, cells := 1, slots := 70, locals := 120 } : Room)) (fun a U => a = #[(.ref va), (.int nc)] ∧ Z.Warmed39 U.vm ∧ U.heap = h0) (fun _ _ _ _ _ => True) (fun _ U o U' => ∃ v L, o = .returned v ∧ Q_rmCy Z va kva cap vs nc nN h0 n0 v U'.heap L ∧ FrameEnd U o U' L ({ frames := 1, cells := 1, slots := 70, locals := 120 } : Room).cells ({ frames := 1, cells := 1, slots := 70, locals := 120 } : Room).slots) := by
  refine MetFree.of_bodySF (plainFor_of_name pn_27) hisR ?_
  intro p e s m args below meth c s₁ Bd hml0 hP hK
  obtain ⟨rfl, hZ, hh⟩ := hP
  have hx := Bd.exec
  have hby := Bd.bytes
  have hml : c.maxLocals = 3 := hml0
  have hown : s.vm.findClass "java/util/Arrays" = some m.cls := findClass_of_methodNamed Bd.named
  have hnm := (name_of_methodNamed Bd.named Bd.method).1
  have X0 : Stand p l e ({ frames := 1, cells := 1, slots := 70, locals := 120 } : Room) s m #[(.ref va), (.int nc)] below meth c s₁ [] 0 0 := Stand.of_body Bd
  have e0 : s₁.heap = h0 := by rw [← hh, Bd.state]; rfl
  have N0 := Fr.nil n0
  refine own_enter (ef_rmCy m va nc) ?_
  have hne : ¬ (nc = cap) := fun q => by rw [q] at hnc; omega
  have hnl : ¬ (nc < cap) := by rw [Int32.lt_iff_toInt_lt]; omega
  refine own_st (fun t_ k_ => XS.iloadN X0.here hx rfl (hb hby d27_0) rfl (XS.aloadN X0.here hx rfl (hb hby d27_1) rfl rfl k_)) ?_
  show own_Go p e below s₁ (mkF m 2 #[.val (.ref va), .val (.int nc), .unset] [(.ref va), (.int nc)]) _
  obtain ⟨cl1, Ar1, q1, Sz1, Nn1, Hh1, Gg1⟩ := id pV_va
  refine own_st (fun t_ k_ => X0.arraylength hx (by rw [e0]; exact Ar1.1) (State.isArrayOf_alike hZ.alike Ar1.2.1) (g := (mkF m 2 #[.val (.ref va), .val (.int nc), .unset] [(.ref va), (.int nc)])) rfl rfl (hb hby d27_2) _ k_) ?_
  rw [len_of Sz1 Nn1]
  show own_Go p e below s₁ (mkF m 3 #[.val (.ref va), .val (.int nc), .unset] [(.int cap), (.int nc)]) _
  refine own_st (fun t_ k_ => XS.icmpYes X0.here hx rfl (pc0 := 3) (pc' := 14) rfl (hb hby d27_3) rfl (feq hne).2 (by decide) (by decide) (XS.iloadN X0.here hx rfl (hb hby d27_14) rfl k_)) ?_
  show own_Go p e below s₁ (mkF m 15 #[.val (.ref va), .val (.int nc), .unset] [(.int nc)]) _
  obtain ⟨T2, h2, k2, X2, e2, E2, A2, st2⟩ := newP X0 hx hZ (own_w hw 19 rfl) e0 (g := (mkF m 15 #[.val (.ref va), .val (.int nc), .unset] [(.int nc)])) rfl (hb hby d27_15) rfl (own_nonneg hnc) (cap := 70) (by rw [own_clamp hnc]; exact hbd) (by decide) (by decide) (by decide)
  obtain ⟨b2, g2⟩ : ∃ z, z = h0.size := ⟨_, rfl⟩
  rw [← g2] at A2 st2
  have G2 : n0 ≤ b2 := Nat.le_trans Z0 (Nat.le_of_eq g2.symm)
  have B2 : h0.size ≤ b2 := Nat.le_trans (Keep.refl h0 []).1 (Nat.le_of_eq g2.symm)
  have K3 : Keep h0 h2 [] := (Keep.refl h0 []).ext E2
  have V2 : Arv Z h2 b2 k2 .byte nc [] (.int (0 : Int32)) := Arv.new A2 (own_nonneg hnc)
  refine own_st st2 ?_
  show own_Go p e below T2 (mkF m 17 #[.val (.ref va), .val (.int nc), .unset] [(.ref b2)]) _
  have Vp : Arv Z h2 b2 k2 .byte nc (List.replicate nN (.int (0 : Int32))) (.int (0 : Int32)) := V2.pad (pad_rep [] (.int (0 : Int32)) nN)
  refine own_st (fun t_ k_ => XS.astoreN X2.here hx rfl (hb hby d27_17) rfl rfl (l' := #[.val (.ref va), .val (.int nc), .val (.ref b2)]) rfl (XS.aloadN X2.here hx rfl (hb hby d27_18) rfl rfl (XS.iconst X2.here hx rfl (hb hby d27_19) (XS.aloadN X2.here hx rfl (hb hby d27_20) rfl rfl (XS.iconst X2.here hx rfl (hb hby d27_21) (XS.aloadN X2.here hx rfl (hb hby d27_22) rfl rfl k_)))))) ?_
  show own_Go p e below T2 (mkF m 23 #[.val (.ref va), .val (.int nc), .val (.ref b2)] [(.ref va), (.int (0 : Int32)), (.ref b2), (.int (0 : Int32)), (.ref va)]) _
  have f4 := (pV_va.ext E2)
  obtain ⟨cl5, Ar5, q5, Sz5, Nn5, Hh5, Gg5⟩ := id f4
  refine own_st (fun t_ k_ => X2.arraylength hx (by rw [e2]; exact Ar5.1) (State.isArrayOf_alike hZ.alike Ar5.2.1) (g := (mkF m 23 #[.val (.ref va), .val (.int nc), .val (.ref b2)] [(.ref va), (.int (0 : Int32)), (.ref b2), (.int (0 : Int32)), (.ref va)])) rfl rfl (hb hby d27_23) _ k_) ?_
  rw [len_of Sz5 Nn5]
  show own_Go p e below T2 (mkF m 24 #[.val (.ref va), .val (.int nc), .val (.ref b2)] [(.int cap), (.int (0 : Int32)), (.ref b2), (.int (0 : Int32)), (.ref va)]) _
  refine own_st (fun t_ k_ => XS.iloadN X2.here hx rfl (hb hby d27_24) rfl k_) ?_
  show own_Go p e below T2 (mkF m 25 #[.val (.ref va), .val (.int nc), .val (.ref b2)] [(.int nc), (.int cap), (.int (0 : Int32)), (.ref b2), (.int (0 : Int32)), (.ref va)]) _
  have f6 := (Nat.le_trans Z0 E2.1)
  obtain ⟨_, _, ⟨T7, L7, k7, n7⟩, -, X7, ⟨Lc7, hQ7, l7, y7, z7⟩, st7⟩ := Jvm.LawKit.callS X2 hx (y := (⟨"java/lang/Math", "min", "(II)I"⟩ : MethodName)) hown (mvT hZ (own_w hw 150 rfl)) (mvT hZ (own_w hw 151 rfl)) (mvT hZ (own_w hw 142 rfl)) (mvT hZ (own_w hw 152 rfl)) (by decide) (backOf (W := 4) (rmMa l Z a0 hw [] cap nc h2 n0 f6 hnl) hZ (own_w hw 152 rfl) (own_w hw 142 rfl) (by decide) (by decide)) (g := (mkF m 25 #[.val (.ref va), .val (.int nc), .val (.ref b2)] [(.int nc), (.int cap), (.int (0 : Int32)), (.ref b2), (.int (0 : Int32)), (.ref va)])) rfl (by rw [hml]; rfl) (argsL := [(.int cap), (.int nc)]) (rest := [(.int (0 : Int32)), (.ref b2), (.int (0 : Int32)), (.ref va)]) (lenOf pd__II_I rfl) rfl (by show 2 * 0 + _ ≤ _; exact Nat.le_of_eq rfl) (hb hby d27_25) (fun _ _ => ⟨rfl, e2, (by decide : 1 + 0 ≤ _), (by decide : 70 + 0 ≤ _)⟩)
  dsimp only [Pt.U, Pt.locs, Pt.cells, Pt.slots] at X7 l7 y7 z7 st7 hQ7
  try dsimp only [Nat.reduceAdd] at y7 z7
  rw [l7, y7, z7] at X7
  obtain ⟨rfl, Nq7, eH7⟩ := hQ7
  have N7 := Fr.app N0 Nq7
  refine own_st st7 ?_
  show own_Go p e below T7 (mkF m 28 #[.val (.ref va), .val (.int nc), .val (.ref b2)] [(.int cap), (.int (0 : Int32)), (.ref b2), (.int (0 : Int32)), (.ref va)]) _
  obtain ⟨T8, h8, L8, X8, e8, N8, Kq8, Va8, st8⟩ := cpA X7 hx hZ hown (own_w hw 153 rfl) (own_w hw 106 rfl) (own_w hw 104 rfl) (own_w hw 105 rfl) eH7 f4 Vp (Or.inl ⟨rfl, rfl⟩) (sp := (0 : Int32)) (dp := (0 : Int32)) (nn := cap) (by decide) (by decide) (own_nonneg hcv) (Nat.le_of_eq (Nat.zero_add _)) (by rw [own_clamp hcv, own_clamp hnc]; exact Nat.le_trans (Nat.le_of_eq (Nat.zero_add _)) (Nat.le_of_lt hlt)) (us := vs) (by have q := own_range (tl := []) (d := (.int 0)) hcv; rw [List.append_nil] at q; exact q) (by rw [own_clamp hcv, List.length_replicate]; exact Nat.le_trans (Nat.le_of_eq (Nat.zero_add _)) (Nat.le_of_lt hlt)) N7 G2 (g := (mkF m 28 #[.val (.ref va), .val (.int nc), .val (.ref b2)] [(.int cap), (.int (0 : Int32)), (.ref b2), (.int (0 : Int32)), (.ref va)])) rfl (by rw [hml]; rfl) (rest := []) rfl (hb hby d27_28) (by decide) (W := 0) (by show 2 * 0 + _ ≤ _; exact Nat.le_of_eq rfl) (by decide +kernel)
  rw [own_cpD hcv] at Va8
  have K9 : Keep h0 h8 [] := K3.trans Kq8 (allS (Or.inr B2) all0)
  refine own_st st8 ?_
  show own_Go p e below T8 (mkF m 31 #[.val (.ref va), .val (.int nc), .val (.ref b2)] []) _
  refine own_st (fun t_ k_ => XS.aloadN X8.here hx rfl (hb hby d27_31) rfl rfl k_) ?_
  show own_Go p e below T8 (mkF m 32 #[.val (.ref va), .val (.int nc), .val (.ref b2)] [(.ref b2)]) _
  obtain ⟨fs, hr, hrun, hended, hW, hsame⟩ := X8.leave (v := some (.ref b2)) (fun h => by rw [Bd.returns] at h; cases h)
  refine own_fin (own_retR X8 hx rfl Bd.returns rfl (hb hby d27_32) hr) ⟨hrun, hended, _, _, rfl, ?_, ⟨_, rfl⟩, hW, hsame.mono (by decide) (by decide)⟩
  show Q_rmCy Z va kva cap vs nc nN h0 n0 _ T8.heap _
  rw [e8]
  exact ⟨b2, k2, rfl, N8, K9, Va8, B2, G2⟩
theorem d15_17 : decode jdk_68_method_9_code 17 = .ok (.aload_n 0, 1) := by decide +kernel
theorem d15_18 : decode jdk_68_method_9_code 18 = .ok (.aload_n 0, 1) := by decide +kernel
theorem d15_19 : decode jdk_68_method_9_code 19 = .ok (.getfield 15, 3) := by decide +kernel
theorem d15_22 : decode jdk_68_method_9_code 22 = .ok (.aload_n 0, 1) := by decide +kernel
theorem d15_23 : decode jdk_68_method_9_code 23 = .ok (.iload_n 1, 1) := by decide +kernel
theorem d15_24 : decode jdk_68_method_9_code 24 = .ok (.invokevirtual 104, 3) := by decide +kernel
theorem d15_27 : decode jdk_68_method_9_code 27 = .ok (.aload_n 0, 1) := by decide +kernel
theorem d15_28 : decode jdk_68_method_9_code 28 = .ok (.getfield 22, 3) := by decide +kernel
theorem d15_31 : decode jdk_68_method_9_code 31 = .ok (.ishl, 1) := by decide +kernel
theorem d15_32 : decode jdk_68_method_9_code 32 = .ok (.invokestatic 108, 3) := by decide +kernel
theorem d15_35 : decode jdk_68_method_9_code 35 = .ok (.putfield 15, 3) := by decide +kernel
theorem pd__I_I : parseMethodDescriptor "(I)I" = some ⟨[.int], some .int⟩ := by decide +kernel
theorem pd___BI__B : parseMethodDescriptor "([BI)[B" = some ⟨[(.array .byte), .int], some (.array .byte)⟩ := by decide +kernel
theorem ef_rmEg (m : MethodId) (x0 : Addr) (x1 : Int32) : entryFrame m #[(.ref x0), (.int x1)] 3 = mkF m 0 #[.val (.ref x0), .val (.int x1), .unset] [] := by first | (simp [entryFrame, mkF, argsToLocals, Value.category]; done) | rfl
def Q_rmEg (Z : State) (a1 : Addr) (va : Addr) (kva : ClassId) (cap : Int32) (vs : List Value) (mm : Int32) (k : Int32) (h0 : Heap) (n0 : Nat) (v : Option Value) (h : Heap) (L : List Loc) : Prop := ∃ vb : Addr, ∃ kvb : ClassId, ∃ cap2 : Int32, ∃ r2 : List Value, v = none ∧ Fr n0 L ∧ Keep h0 h [a1] ∧ Exa Z h a1 "java/lang/StringBuilder" ∧ Fld Z h a1 "java/lang/AbstractStringBuilder" "value" "[B" (.ref vb) ∧ Fld Z h a1 "java/lang/AbstractStringBuilder" "coder" "B" (.int (0 : Int32)) ∧ Arv Z h vb kvb .byte cap2 (vs ++ r2) (.int 0) ∧ h0.size ≤ vb ∧ n0 ≤ vb ∧ (own_gr cap mm cap2 ∧ cap2.toInt = ((vs.length + r2.length : Nat) : Int)) ∧ Fld Z h a1 "java/lang/AbstractStringBuilder" "count" "I" (.int k)
set_option maxRecDepth 65536 in
set_option maxHeartbeats 40000000 in
theorem rmEg (l : Launch) (Z : State) (a0 : Array Value) (hw : ∀ d ∈ tables_1, d.before a0 Z = true) (ws : List Jvm.Cond) (a1 : Addr) (va : Addr) (kva : ClassId) (cap : Int32) (vs : List Value) (mm : Int32) (k : Int32) (h0 : Heap) (n0 : Nat) (Z0 : n0 ≤ h0.size) (pE_a1 : Exa Z h0 a1 "java/lang/StringBuilder") (pF_value_a1 : Fld Z h0 a1 "java/lang/AbstractStringBuilder" "value" "[B" (.ref va)) (pF_coder_a1 : Fld Z h0 a1 "java/lang/AbstractStringBuilder" "coder" "B" (.int (0 : Int32))) (pV_va : Arv Z h0 va kva .byte cap vs (.int 0)) (pF_count_a1 : Fld Z h0 a1 "java/lang/AbstractStringBuilder" "count" "I" (.int k)) (hc : (0 ≤ cap.toInt ∧ cap.toInt < mm.toInt ∧ mm.toInt ≤ 40000)) (hcv : (cap.toInt = (vs.length : Int))) (hbd : (mm.toInt ≤ 70 ∧ 2 * cap.toInt + 2 ≤ 70)) (pG_a1 : n0 ≤ a1) :
    MetFree l (⟨"java/lang/AbstractStringBuilder", "ensureCapacityInternal", "(I)V"⟩ : MethodName) (head1 (Jvm.Cond.code (⟨"java/lang/AbstractStringBuilder", "ensureCapacityInternal", "(I)V"⟩ : MethodName) jdk_68_method_9_code 3 none :: ws) ({ frames := 3, cells := 1, slots := 70, locals := 135 } : Room)) (fun a U => a = #[(.ref a1), (.int mm)] ∧ Z.Warmed39 U.vm ∧ U.heap = h0) (fun _ _ _ _ _ => True) (fun _ U o U' => ∃ v L, o = .returned v ∧ Q_rmEg Z a1 va kva cap vs mm k h0 n0 v U'.heap L ∧ FrameEnd U o U' L ({ frames := 3, cells := 1, slots := 70, locals := 135 } : Room).cells ({ frames := 3, cells := 1, slots := 70, locals := 135 } : Room).slots) := by
  refine MetFree.of_bodySF (plainFor_of_name pn_15) hisR ?_
  intro p e s m args below meth c s₁ Bd hml0 hP hK
  obtain ⟨rfl, hZ, hh⟩ := hP
  have hx := Bd.exec
  have hby := Bd.bytes
  have hml : c.maxLocals = 3 := hml0
  have hown : s.vm.findClass "java/lang/AbstractStringBuilder" = some m.cls := findClass_of_methodNamed Bd.named
  have hnm := (name_of_methodNamed Bd.named Bd.method).1
  have X0 : Stand p l e ({ frames := 3, cells := 1, slots := 70, locals := 135 } : Room) s m #[(.ref a1), (.int mm)] below meth c s₁ [] 0 0 := Stand.of_body Bd
  have e0 : s₁.heap = h0 := by rw [← hh, Bd.state]; rfl
  have N0 := Fr.nil n0
  refine own_enter (ef_rmEg m a1 mm) ?_
  refine own_st (fun t_ k_ => XS.aloadN X0.here hx rfl (hb hby d15_0) rfl rfl k_) ?_
  show own_Go p e below s₁ (mkF m 1 #[.val (.ref a1), .val (.int mm), .unset] [(.ref a1)]) _
  obtain ⟨T1, X1, e1, st1⟩ := getF X0 hx hZ hown (host := "") (Or.inl (own_w hw 65 rfl)) Via.refl e0 pF_value_a1 (g := (mkF m 1 #[.val (.ref a1), .val (.int mm), .unset] [(.ref a1)])) rfl rfl (hb hby d15_1)
  refine own_st st1 ?_
  show own_Go p e below T1 (mkF m 4 #[.val (.ref a1), .val (.int mm), .unset] [(.ref va)]) _
  obtain ⟨cl2, Ar2, q2, Sz2, Nn2, Hh2, Gg2⟩ := id pV_va
  refine own_st (fun t_ k_ => X1.arraylength hx (by rw [e1]; exact Ar2.1) (State.isArrayOf_alike hZ.alike Ar2.2.1) (g := (mkF m 4 #[.val (.ref a1), .val (.int mm), .unset] [(.ref va)])) rfl rfl (hb hby d15_4) _ k_) ?_
  rw [len_of Sz2 Nn2]
  show own_Go p e below T1 (mkF m 5 #[.val (.ref a1), .val (.int mm), .unset] [(.int cap)]) _
  refine own_st (fun t_ k_ => XS.aloadN X1.here hx rfl (hb hby d15_5) rfl rfl k_) ?_
  show own_Go p e below T1 (mkF m 6 #[.val (.ref a1), .val (.int mm), .unset] [(.ref a1), (.int cap)]) _
  obtain ⟨T3, X3, e3, st3⟩ := getF X1 hx hZ hown (host := "") (Or.inl (own_w hw 67 rfl)) Via.refl e1 pF_coder_a1 (g := (mkF m 6 #[.val (.ref a1), .val (.int mm), .unset] [(.ref a1), (.int cap)])) rfl rfl (hb hby d15_6)
  refine own_st st3 ?_
  show own_Go p e below T3 (mkF m 9 #[.val (.ref a1), .val (.int mm), .unset] [(.int (0 : Int32)), (.int cap)]) _
  refine own_st (fun t_ k_ => XS.ishr X3.here hx rfl (hb hby d15_9) rfl k_) ?_
  show own_Go p e below T3 (mkF m 10 #[.val (.ref a1), .val (.int mm), .unset] [(.int (cap >>> ((0 : Int32) &&& 31)))]) _
  rw [own_shr0 cap]
  show own_Go p e below T3 (mkF m 10 #[.val (.ref a1), .val (.int mm), .unset] [(.int cap)]) _
  refine own_st (fun t_ k_ => XS.istoreN X3.here hx rfl (hb hby d15_10) rfl (l' := #[.val (.ref a1), .val (.int mm), .val (.int cap)]) rfl (XS.iloadN X3.here hx rfl (hb hby d15_11) rfl (XS.iloadN X3.here hx rfl (hb hby d15_12) rfl (XS.isub X3.here hx rfl (hb hby d15_13) rfl (XS.ifNo X3.here hx rfl (hb hby d15_14) rfl ((if0 _ _).trans (tlt (own_subP (by omega) (by omega) (by omega))).2.2.2) (XS.aloadN X3.here hx rfl (hb hby d15_17) rfl rfl (XS.aloadN X3.here hx rfl (hb hby d15_18) rfl rfl k_))))))) ?_
  show own_Go p e below T3 (mkF m 19 #[.val (.ref a1), .val (.int mm), .val (.int cap)] [(.ref a1), (.ref a1)]) _
  obtain ⟨T4, X4, e4, st4⟩ := getF X3 hx hZ hown (host := "") (Or.inl (own_w hw 65 rfl)) Via.refl e3 pF_value_a1 (g := (mkF m 19 #[.val (.ref a1), .val (.int mm), .val (.int cap)] [(.ref a1), (.ref a1)])) rfl rfl (hb hby d15_19)
  refine own_st st4 ?_
  show own_Go p e below T4 (mkF m 22 #[.val (.ref a1), .val (.int mm), .val (.int cap)] [(.ref va), (.ref a1)]) _
  refine own_st (fun t_ k_ => XS.aloadN X4.here hx rfl (hb hby d15_22) rfl rfl (XS.iloadN X4.here hx rfl (hb hby d15_23) rfl k_)) ?_
  show own_Go p e below T4 (mkF m 24 #[.val (.ref a1), .val (.int mm), .val (.int cap)] [(.int mm), (.ref a1), (.ref va), (.ref a1)]) _
  obtain ⟨cq5, kq5, qa5, qb5, qc5⟩ := isOf hZ e4 pE_a1
  obtain ⟨_, _, ⟨T5, L5, k5, n5⟩, -, X5, ⟨Lc5, hQ5, l5, y5, z5⟩, st5⟩ := X4.virtualBack hx (y := (⟨"java/lang/AbstractStringBuilder", "newCapacity", "(I)I"⟩ : MethodName)) (z := (⟨"java/lang/AbstractStringBuilder", "newCapacity", "(I)I"⟩ : MethodName)) hown (mvT hZ (own_w hw 131 rfl)) (mvT hZ (own_decl (own_w hw 132 rfl) (own_w hw 135 rfl))) (notFace_of_selects (args := #[]) (mvT hZ (own_w hw 134 rfl))) (mvT hZ (own_w hw 134 rfl)) (mvT hZ (own_w hw 132 rfl)) (by decide) (backOf (W := 2) (rmNc l Z a0 hw [] a1 va kva cap vs mm h0 n0 Z0 pE_a1 pF_value_a1 pF_coder_a1 pV_va hc) hZ (own_w hw 135 rfl) (own_w hw 61 rfl) (by decide) (by decide)) qa5 qc5 (g := (mkF m 24 #[.val (.ref a1), .val (.int mm), .val (.int cap)] [(.int mm), (.ref a1), (.ref va), (.ref a1)])) rfl (by rw [hml]; rfl) (Steps.refl _) (argsL := [(.int mm)]) (rest := [(.ref va), (.ref a1)]) (lenOf pd__I_I rfl) rfl (by show 2 * 0 + _ ≤ _; exact Nat.le_of_eq rfl) (hb hby d15_24) (fun _ _ => ⟨rfl, e4, (by decide : 0 + 0 ≤ _), (by decide : 0 + 0 ≤ _)⟩)
  dsimp only [Pt.U, Pt.locs, Pt.cells, Pt.slots] at X5 l5 y5 z5 st5 hQ5
  try dsimp only [Nat.reduceAdd] at y5 z5
  rw [l5, y5, z5] at X5
  obtain ⟨r_5, rfl, Nq5, eH5, q5_0⟩ := hQ5
  have N5 := Fr.app N0 Nq5
  refine own_tr st5 ?_
  show own_Go p e below T5 (mkF m 27 #[.val (.ref a1), .val (.int mm), .val (.int cap)] [(.int r_5), (.ref va), (.ref a1)]) _
  have hq := q5_0
  have hq2 := hq
  unfold own_gr at hq2
  obtain ⟨nN, hN⟩ : ∃ n : Nat, r_5.toInt = (n : Int) := ⟨r_5.toInt.toNat, by omega⟩
  refine own_st (fun t_ k_ => XS.aloadN X5.here hx rfl (hb hby d15_27) rfl rfl k_) ?_
  show own_Go p e below T5 (mkF m 28 #[.val (.ref a1), .val (.int mm), .val (.int cap)] [(.ref a1), (.int r_5), (.ref va), (.ref a1)]) _
  obtain ⟨T6, X6, e6, st6⟩ := getF X5 hx hZ hown (host := "") (Or.inl (own_w hw 67 rfl)) Via.refl eH5 pF_coder_a1 (g := (mkF m 28 #[.val (.ref a1), .val (.int mm), .val (.int cap)] [(.ref a1), (.int r_5), (.ref va), (.ref a1)])) rfl rfl (hb hby d15_28)
  refine own_st st6 ?_
  show own_Go p e below T6 (mkF m 31 #[.val (.ref a1), .val (.int mm), .val (.int cap)] [(.int (0 : Int32)), (.int r_5), (.ref va), (.ref a1)]) _
  refine own_st (fun t_ k_ => XS.ishl X6.here hx rfl (hb hby d15_31) rfl k_) ?_
  show own_Go p e below T6 (mkF m 32 #[.val (.ref a1), .val (.int mm), .val (.int cap)] [(.int (r_5 <<< ((0 : Int32) &&& 31))), (.ref va), (.ref a1)]) _
  rw [own_shl0 r_5]
  show own_Go p e below T6 (mkF m 32 #[.val (.ref a1), .val (.int mm), .val (.int cap)] [(.int r_5), (.ref va), (.ref a1)]) _
  obtain ⟨_, _, ⟨T7, L7, k7, n7⟩, -, X7, ⟨Lc7, hQ7, l7, y7, z7⟩, st7⟩ := Jvm.LawKit.callS X6 hx (y := (⟨"java/util/Arrays", "copyOf", "([BI)[B"⟩ : MethodName)) hown (mvT hZ (own_w hw 146 rfl)) (mvT hZ (own_w hw 147 rfl)) (mvT hZ (own_w hw 148 rfl)) (mvT hZ (own_w hw 149 rfl)) (by decide) (backOf (W := 1) (rmCy l Z a0 hw [] va kva cap vs r_5 nN h0 n0 Z0 pV_va hcv hN (by omega) (by omega)) hZ (own_w hw 149 rfl) (own_w hw 148 rfl) (by decide) (by decide)) (g := (mkF m 32 #[.val (.ref a1), .val (.int mm), .val (.int cap)] [(.int r_5), (.ref va), (.ref a1)])) rfl (by rw [hml]; rfl) (argsL := [(.ref va), (.int r_5)]) (rest := [(.ref a1)]) (lenOf pd___BI__B rfl) rfl (by show 2 * 0 + _ ≤ _; exact Nat.le_of_eq rfl) (hb hby d15_32) (fun _ _ => ⟨rfl, e6, (by decide : 0 + 1 ≤ _), (by decide : 0 + 70 ≤ _)⟩)
  dsimp only [Pt.U, Pt.locs, Pt.cells, Pt.slots] at X7 l7 y7 z7 st7 hQ7
  try dsimp only [Nat.reduceAdd] at y7 z7
  rw [l7, y7, z7] at X7
  obtain ⟨b_7, kb_7, rfl, Nq7, Kq7, q7_0, q7_1, q7_2⟩ := hQ7
  have N7 := Fr.app N5 Nq7
  have K8 : Keep h0 T7.heap [a1] := (Keep.refl h0 [a1]).trans Kq7 all0
  have Bf9 : h0.size ≤ b_7 := Nat.le_trans (Keep.refl h0 [a1]).1 q7_1
  refine own_st st7 ?_
  show own_Go p e below T7 (mkF m 35 #[.val (.ref a1), .val (.int mm), .val (.int cap)] [(.ref b_7), (.ref a1)]) _
  have f10 := (pE_a1.keep Kq7)
  have f11 := (pF_value_a1.keep Kq7 nin0)
  obtain ⟨T12, h12, X12, e12, W12, st12⟩ := putF X7 hx hZ hown (host := "") (Or.inl (own_w hw 65 rfl)) Via.refl rfl f11 f10 (Or.inl (own_w hw 66 rfl)) (own_w hw 52 rfl) (ty := (.array .byte)) (by decide) rfl rfl (g := (mkF m 35 #[.val (.ref a1), .val (.int mm), .val (.int cap)] [(.ref b_7), (.ref a1)])) rfl rfl (hb hby d15_35)
  have F12 := f11.same W12
  have K13 : Keep h0 h12 [a1] := K8.wr W12 (Or.inl (List.mem_of_getElem? (i := 0) rfl))
  have N12 := Fr.snoc X12 N7 pG_a1
  refine own_st st12 ?_
  show own_Go p e below T12 (mkF m 38 #[.val (.ref a1), .val (.int mm), .val (.int cap)] []) _
  have f14 := (f10.wr W12)
  have f15 := ((pF_coder_a1.keep Kq7 nin0).other W12 (Or.inr (slot_ne (Or.inl (own_w hw 68 rfl)) (Or.inl (own_w hw 66 rfl)) (by decide) (t := .byte) (t' := (.array .byte)) (by decide) (by decide))))
  have f16 := (q7_0.other W12 (Ne.symm (Nat.ne_of_lt (Nat.lt_of_lt_of_le pE_a1.lt q7_1))))
  have f17 := ((pF_count_a1.keep Kq7 nin0).other W12 (Or.inr (slot_ne (Or.inl (own_w hw 81 rfl)) (Or.inl (own_w hw 66 rfl)) (by decide) (t := .int) (t' := (.array .byte)) (by decide) (by decide))))
  obtain ⟨fs, hr, hrun, hended, hW, hsame⟩ := X12.leave (v := none) (fun _ => rfl)
  refine own_fin (X12.returnOut hx Bd.returns (hb hby d15_38) hr) ⟨hrun, hended, _, _, rfl, ?_, ⟨_, rfl⟩, hW, hsame.mono (by decide) (by decide)⟩
  show Q_rmEg Z a1 va kva cap vs mm k h0 n0 _ T12.heap _
  rw [e12]
  exact ⟨b_7, kb_7, r_5, ((List.replicate nN (.int (0 : Int32))).drop vs.length), rfl, N12, K13, f14, F12, f15, f16, Bf9, q7_2, ⟨hq, by rw [List.length_drop, List.length_replicate]; omega⟩, f17⟩
theorem ef_rmAgA (m : MethodId) (x0 : Addr) (x1 : Addr) : entryFrame m #[(.ref x0), (.ref x1)] 3 = mkF m 0 #[.val (.ref x0), .val (.ref x1), .unset] [] := by first | (simp [entryFrame, mkF, argsToLocals, Value.category]; done) | rfl
def Q_rmAgA (Z : State) (a1 : Addr) (va : Addr) (kva : ClassId) (cap : Int32) (k : Int32) (bs : List Value) (rest : List Value) (x : Addr) (tx : Addr) (kx : ClassId) (n : Int32) (us : List Value) (zc : Int32) (h0 : Heap) (n0 : Nat) (v : Option Value) (h : Heap) (L : List Loc) : Prop := ∃ vb : Addr, ∃ kvb : ClassId, ∃ cap2 : Int32, ∃ r2 : List Value, v = some (.ref a1) ∧ Fr n0 L ∧ Keep h0 h [a1] ∧ Exa Z h a1 "java/lang/StringBuilder" ∧ Fld Z h a1 "java/lang/AbstractStringBuilder" "value" "[B" (.ref vb) ∧ Fld Z h a1 "java/lang/AbstractStringBuilder" "coder" "B" (.int (0 : Int32)) ∧ Fld Z h a1 "java/lang/AbstractStringBuilder" "count" "I" (.int (k + n)) ∧ Arv Z h vb kvb .byte cap2 ((bs ++ us) ++ r2) (.int 0) ∧ h0.size ≤ vb ∧ n0 ≤ vb ∧ (own_gr cap (k + n) cap2 ∧ cap2.toInt = ((bs.length + (us : List Value).length + r2.length : Nat) : Int))
set_option maxRecDepth 65536 in
set_option maxHeartbeats 40000000 in
theorem rmAgA (l : Launch) (Z : State) (a0 : Array Value) (hw : ∀ d ∈ tables_1, d.before a0 Z = true) (ws : List Jvm.Cond) (a1 : Addr) (va : Addr) (kva : ClassId) (cap : Int32) (k : Int32) (bs : List Value) (rest : List Value) (x : Addr) (tx : Addr) (kx : ClassId) (n : Int32) (us : List Value) (zc : Int32) (h0 : Heap) (n0 : Nat) (Z0 : n0 ≤ h0.size) (pE_a1 : Exa Z h0 a1 "java/lang/StringBuilder") (pF_value_a1 : Fld Z h0 a1 "java/lang/AbstractStringBuilder" "value" "[B" (.ref va)) (pF_coder_a1 : Fld Z h0 a1 "java/lang/AbstractStringBuilder" "coder" "B" (.int (0 : Int32))) (pF_count_a1 : Fld Z h0 a1 "java/lang/AbstractStringBuilder" "count" "I" (.int k)) (pV_va : Arv Z h0 va kva .byte cap (bs ++ rest) (.int 0)) (pE_x : Exa Z h0 x "java/lang/String") (pF_value_x : Fld Z h0 x "java/lang/String" "value" "[B" (.ref tx)) (pF_coder_x : Fld Z h0 x "java/lang/String" "coder" "B" (.int (0 : Int32))) (pV_tx : Arv Z h0 tx kx .byte n us (.int 0)) (hk : (k.toInt = (bs.length : Int))) (hcap : (cap.toInt = ((bs.length + rest.length : Nat) : Int))) (hn : (n.toInt = (us.length : Int))) (hgt : (rest.length < us.length)) (hbd : (bs.length + us.length ≤ 70 ∧ 2 * (bs.length + rest.length) + 2 ≤ 70)) (pG_a1 : n0 ≤ a1) (pG_va : n0 ≤ va) (pS_COMPACT_STRINGS : Sta Z Z.heap "java/lang/String" "COMPACT_STRINGS" "Z" (.int zc)) (pP5 : (¬ (zc = (0 : Int32)))) (pO : Old Z n0 h0) :
    MetFree l (⟨"java/lang/AbstractStringBuilder", "append", "(Ljava/lang/String;)Ljava/lang/AbstractStringBuilder;"⟩ : MethodName) (head1 (Jvm.Cond.code (⟨"java/lang/AbstractStringBuilder", "append", "(Ljava/lang/String;)Ljava/lang/AbstractStringBuilder;"⟩ : MethodName) jdk_68_method_22_code 3 (some (.object "java/lang/AbstractStringBuilder")) :: ws) ({ frames := 4, cells := 1, slots := 70, locals := 149 } : Room)) (fun a U => a = #[(.ref a1), (.ref x)] ∧ Z.Warmed39 U.vm ∧ U.heap = h0) (fun _ _ _ _ _ => True) (fun _ U o U' => ∃ v L, o = .returned v ∧ Q_rmAgA Z a1 va kva cap k bs rest x tx kx n us zc h0 n0 v U'.heap L ∧ FrameEnd U o U' L ({ frames := 4, cells := 1, slots := 70, locals := 149 } : Room).cells ({ frames := 4, cells := 1, slots := 70, locals := 149 } : Room).slots) := by
  refine MetFree.of_bodySF (plainFor_of_name pn_14) hisR ?_
  intro p e s m args below meth c s₁ Bd hml0 hP hK
  obtain ⟨rfl, hZ, hh⟩ := hP
  have hx := Bd.exec
  have hby := Bd.bytes
  have hml : c.maxLocals = 3 := hml0
  have hown : s.vm.findClass "java/lang/AbstractStringBuilder" = some m.cls := findClass_of_methodNamed Bd.named
  have hnm := (name_of_methodNamed Bd.named Bd.method).1
  have X0 : Stand p l e ({ frames := 4, cells := 1, slots := 70, locals := 149 } : Room) s m #[(.ref a1), (.ref x)] below meth c s₁ [] 0 0 := Stand.of_body Bd
  have e0 : s₁.heap = h0 := by rw [← hh, Bd.state]; rfl
  have N0 := Fr.nil n0
  refine own_enter (ef_rmAgA m a1 x) ?_
  have hkn := own_addI hk hn (by omega)
  refine own_st (fun t_ k_ => XS.aloadN X0.here hx rfl (hb hby d14_0) rfl rfl (XS.ifnonnullYes X0.here hx rfl (pc0 := 1) (pc' := 9) rfl (hb hby d14_1) rfl (by decide) (by decide) (XS.aloadN X0.here hx rfl (hb hby d14_9) rfl rfl k_))) ?_
  show own_Go p e below s₁ (mkF m 10 #[.val (.ref a1), .val (.ref x), .unset] [(.ref x)]) _
  obtain ⟨cq1, kq1, qa1, qb1, qc1⟩ := isOf hZ e0 pE_x
  obtain ⟨_, _, ⟨T1, L1, k1, n1⟩, -, X1, ⟨Lc1, hQ1, l1, y1, z1⟩, st1⟩ := X0.virtualBack hx (y := (⟨"java/lang/String", "length", "()I"⟩ : MethodName)) (z := (⟨"java/lang/String", "length", "()I"⟩ : MethodName)) hown (mvT hZ (own_w hw 79 rfl)) (mvT hZ (own_w hw 42 rfl)) (notFace_of_selects (args := #[]) (mvT hZ (own_w hw 44 rfl))) (mvT hZ (own_w hw 44 rfl)) (mvT hZ (own_w hw 43 rfl)) (by decide) (backOf (W := 0) (rmLe l Z a0 hw [] x tx kx n us zc h0 n0 Z0 pE_x pF_value_x pF_coder_x pV_tx pS_COMPACT_STRINGS pP5 pO) hZ (own_w hw 45 rfl) (own_w hw 2 rfl) (by decide) (by decide)) qa1 qc1 (g := (mkF m 10 #[.val (.ref a1), .val (.ref x), .unset] [(.ref x)])) rfl (by rw [hml]; rfl) (Steps.refl _) (argsL := []) (rest := []) (lenOf pd___I rfl) rfl (by show 2 * 0 + _ ≤ _; exact Nat.le_of_eq rfl) (hb hby d14_10) (fun _ _ => ⟨rfl, e0, (by decide : 0 + 0 ≤ _), (by decide : 0 + 0 ≤ _)⟩)
  dsimp only [Pt.U, Pt.locs, Pt.cells, Pt.slots] at X1 l1 y1 z1 st1 hQ1
  try dsimp only [Nat.reduceAdd] at y1 z1
  rw [l1, y1, z1] at X1
  obtain ⟨rfl, Nq1, eH1⟩ := hQ1
  have N1 := Fr.app N0 Nq1
  refine own_tr st1 ?_
  show own_Go p e below T1 (mkF m 13 #[.val (.ref a1), .val (.ref x), .unset] [(.int n)]) _
  refine own_st (fun t_ k_ => XS.istoreN X1.here hx rfl (hb hby d14_13) rfl (l' := #[.val (.ref a1), .val (.ref x), .val (.int n)]) rfl (XS.aloadN X1.here hx rfl (hb hby d14_14) rfl rfl (XS.aloadN X1.here hx rfl (hb hby d14_15) rfl rfl k_))) ?_
  show own_Go p e below T1 (mkF m 16 #[.val (.ref a1), .val (.ref x), .val (.int n)] [(.ref a1), (.ref a1)]) _
  obtain ⟨T2, X2, e2, st2⟩ := getF X1 hx hZ hown (host := "") (Or.inl (own_w hw 80 rfl)) Via.refl eH1 pF_count_a1 (g := (mkF m 16 #[.val (.ref a1), .val (.ref x), .val (.int n)] [(.ref a1), (.ref a1)])) rfl rfl (hb hby d14_16)
  refine own_st st2 ?_
  show own_Go p e below T2 (mkF m 19 #[.val (.ref a1), .val (.ref x), .val (.int n)] [(.int k), (.ref a1)]) _
  refine own_st (fun t_ k_ => XS.iloadN X2.here hx rfl (hb hby d14_19) rfl (XS.iadd X2.here hx rfl (hb hby d14_20) rfl k_)) ?_
  show own_Go p e below T2 (mkF m 21 #[.val (.ref a1), .val (.ref x), .val (.int n)] [(.int (k + n)), (.ref a1)]) _
  obtain ⟨cq3, kq3, qa3, qb3, qc3⟩ := isOf hZ e2 pE_a1
  obtain ⟨_, _, ⟨T3, L3, k3, n3⟩, -, X3, ⟨Lc3, hQ3, l3, y3, z3⟩, st3⟩ := X2.virtualBack hx (y := (⟨"java/lang/AbstractStringBuilder", "ensureCapacityInternal", "(I)V"⟩ : MethodName)) (z := (⟨"java/lang/AbstractStringBuilder", "ensureCapacityInternal", "(I)V"⟩ : MethodName)) hown (mvT hZ (own_w hw 82 rfl)) (mvT hZ (own_decl (own_w hw 83 rfl) (own_w hw 86 rfl))) (notFace_of_selects (args := #[]) (mvT hZ (own_w hw 85 rfl))) (mvT hZ (own_w hw 85 rfl)) (mvT hZ (own_w hw 83 rfl)) (by decide) (backOf (W := 0) (rmEg l Z a0 hw [] a1 va kva cap ((bs ++ rest)) ((k + n)) k h0 n0 Z0 pE_a1 pF_value_a1 pF_coder_a1 pV_va pF_count_a1 (by omega) (by rw [List.length_append]; exact hcap) (by omega) pG_a1) hZ (own_w hw 86 rfl) (own_w hw 61 rfl) (by decide) (by decide)) qa3 qc3 (g := (mkF m 21 #[.val (.ref a1), .val (.ref x), .val (.int n)] [(.int (k + n)), (.ref a1)])) rfl (by rw [hml]; rfl) (Steps.refl _) (argsL := [(.int (k + n))]) (rest := []) (lenOf pd__I_V rfl) rfl (by show 2 * 0 + _ ≤ _; exact Nat.le_of_eq rfl) (hb hby d14_21) (fun _ _ => ⟨rfl, e2, (by decide : 0 + 1 ≤ _), (by decide : 0 + 70 ≤ _)⟩)
  dsimp only [Pt.U, Pt.locs, Pt.cells, Pt.slots] at X3 l3 y3 z3 st3 hQ3
  try dsimp only [Nat.reduceAdd] at y3 z3
  rw [l3, y3, z3] at X3
  obtain ⟨vb_3, kvb_3, cap2_3, r2_3, rfl, Nq3, Kq3, q3_0, q3_1, q3_2, q3_3, q3_4, q3_5, q3_6, q3_7⟩ := hQ3
  have N3 := Fr.app N1 Nq3
  have K4 : Keep h0 T3.heap [a1] := (Keep.refl h0 [a1]).trans Kq3 (allS (Or.inl (List.mem_of_getElem? (i := 0) rfl)) all0)
  have Bf5 : h0.size ≤ vb_3 := Nat.le_trans (Keep.refl h0 [a1]).1 q3_4
  refine own_tr st3 ?_
  show own_Go p e below T3 (mkF m 24 #[.val (.ref a1), .val (.ref x), .val (.int n)] []) _
  have hgq := q3_6
  have hgz := hgq.1
  unfold own_gr at hgz
  have hgl := hgq.2
  rw [List.length_append] at hgl
  have Vg := q3_3
  rw [List.append_assoc] at Vg
  have hgc : cap2_3.toInt = ((bs.length + (rest ++ r2_3).length : Nat) : Int) := by rw [List.length_append]; omega
  refine own_st (fun t_ k_ => XS.aloadN X3.here hx rfl (hb hby d14_24) rfl rfl (XS.aloadN X3.here hx rfl (hb hby d14_25) rfl rfl k_)) ?_
  show own_Go p e below T3 (mkF m 26 #[.val (.ref a1), .val (.ref x), .val (.int n)] [(.ref a1), (.ref a1)]) _
  obtain ⟨T6, X6, e6, st6⟩ := getF X3 hx hZ hown (host := "") (Or.inl (own_w hw 80 rfl)) Via.refl rfl q3_7 (g := (mkF m 26 #[.val (.ref a1), .val (.ref x), .val (.int n)] [(.ref a1), (.ref a1)])) rfl rfl (hb hby d14_26)
  refine own_st st6 ?_
  show own_Go p e below T6 (mkF m 29 #[.val (.ref a1), .val (.ref x), .val (.int n)] [(.int k), (.ref a1)]) _
  refine own_st (fun t_ k_ => XS.aloadN X6.here hx rfl (hb hby d14_29) rfl rfl k_) ?_
  show own_Go p e below T6 (mkF m 30 #[.val (.ref a1), .val (.ref x), .val (.int n)] [(.ref x), (.int k), (.ref a1)]) _
  have f7 := (Nat.le_trans Z0 Kq3.1)
  have f8 := (pE_x.keep Kq3)
  have f9 := (pF_value_x.keep Kq3 (ninS (Exa.ne f8 q3_0 (by decide)) nin0))
  have f10 := (pF_coder_x.keep Kq3 (ninS (Exa.ne f8 q3_0 (by decide)) nin0))
  have f11 := (pV_tx.keep Kq3 (ninS (Ne.symm (Exa.neArv pE_a1 pV_tx (own_w hw 52 rfl))) nin0))
  have f12 := (pO.keep Kq3 (allS pG_a1 all0))
  obtain ⟨cq13, kq13, qa13, qb13, qc13⟩ := isOf hZ e6 q3_0
  obtain ⟨_, _, ⟨T13, L13, k13, n13⟩, -, X13, ⟨Lc13, hQ13, l13, y13, z13⟩, st13⟩ := X6.virtualBack hx (y := (⟨"java/lang/AbstractStringBuilder", "putStringAt", "(ILjava/lang/String;)V"⟩ : MethodName)) (z := (⟨"java/lang/AbstractStringBuilder", "putStringAt", "(ILjava/lang/String;)V"⟩ : MethodName)) hown (mvT hZ (own_w hw 87 rfl)) (mvT hZ (own_decl (own_w hw 88 rfl) (own_w hw 91 rfl))) (notFace_of_selects (args := #[]) (mvT hZ (own_w hw 90 rfl))) (mvT hZ (own_w hw 90 rfl)) (mvT hZ (own_w hw 88 rfl)) (by decide) (backOf (W := 0) (rmPs l Z a0 hw [] a1 vb_3 kvb_3 cap2_3 k bs ((rest ++ r2_3)) x tx kx n us zc T3.heap n0 f7 q3_0 q3_1 q3_2 f8 f9 f10 f11 Vg hk hgc hn (by rw [List.length_append]; omega) (by omega) q3_5 pS_COMPACT_STRINGS pP5 f12) hZ (own_w hw 91 rfl) (own_w hw 61 rfl) (by decide) (by decide)) qa13 qc13 (g := (mkF m 30 #[.val (.ref a1), .val (.ref x), .val (.int n)] [(.ref x), (.int k), (.ref a1)])) rfl (by rw [hml]; rfl) (Steps.refl _) (argsL := [(.int k), (.ref x)]) (rest := []) (lenOf pd__ILjava_lang_String__V rfl) rfl (by show 2 * 0 + _ ≤ _; exact Nat.le_of_eq rfl) (hb hby d14_30) (fun _ _ => ⟨rfl, e6, (by decide : 1 + 0 ≤ _), (by decide : 70 + 0 ≤ _)⟩)
  dsimp only [Pt.U, Pt.locs, Pt.cells, Pt.slots] at X13 l13 y13 z13 st13 hQ13
  try dsimp only [Nat.reduceAdd] at y13 z13
  rw [l13, y13, z13] at X13
  obtain ⟨rfl, Nq13, Kq13, q13_0⟩ := hQ13
  have N13 := Fr.app N3 Nq13
  have K14 : Keep h0 T13.heap [a1] := K4.trans Kq13 (allS (Or.inr Bf5) all0)
  refine own_tr st13 ?_
  show own_Go p e below T13 (mkF m 33 #[.val (.ref a1), .val (.ref x), .val (.int n)] []) _
  refine own_st (fun t_ k_ => XS.aloadN X13.here hx rfl (hb hby d14_33) rfl rfl (XS.dup X13.here hx rfl (hb hby d14_34) rfl rfl k_)) ?_
  show own_Go p e below T13 (mkF m 35 #[.val (.ref a1), .val (.ref x), .val (.int n)] [(.ref a1), (.ref a1)]) _
  have f15 := (q3_7.keep Kq13 (ninS (Nat.ne_of_lt (Nat.lt_of_lt_of_le pE_a1.lt q3_4)) nin0))
  obtain ⟨T16, X16, e16, st16⟩ := getF X13 hx hZ hown (host := "") (Or.inl (own_w hw 80 rfl)) Via.refl rfl f15 (g := (mkF m 35 #[.val (.ref a1), .val (.ref x), .val (.int n)] [(.ref a1), (.ref a1)])) rfl rfl (hb hby d14_35)
  refine own_st st16 ?_
  show own_Go p e below T16 (mkF m 38 #[.val (.ref a1), .val (.ref x), .val (.int n)] [(.int k), (.ref a1)]) _
  refine own_st (fun t_ k_ => XS.iloadN X16.here hx rfl (hb hby d14_38) rfl (XS.iadd X16.here hx rfl (hb hby d14_39) rfl k_)) ?_
  show own_Go p e below T16 (mkF m 40 #[.val (.ref a1), .val (.ref x), .val (.int n)] [(.int (k + n)), (.ref a1)]) _
  have f17 := (q3_0.keep Kq13)
  obtain ⟨T18, h18, X18, e18, W18, st18⟩ := putF X16 hx hZ hown (host := "") (Or.inl (own_w hw 80 rfl)) Via.refl e16 f15 f17 (Or.inl (own_w hw 81 rfl)) (own_w hw 52 rfl) (ty := .int) (by decide) rfl rfl (g := (mkF m 40 #[.val (.ref a1), .val (.ref x), .val (.int n)] [(.int (k + n)), (.ref a1)])) rfl rfl (hb hby d14_40)
  have F18 := f15.same W18
  have K19 : Keep h0 h18 [a1] := K14.wr W18 (Or.inl (List.mem_of_getElem? (i := 0) rfl))
  have N18 := Fr.snoc X18 N13 pG_a1
  refine own_st st18 ?_
  show own_Go p e below T18 (mkF m 43 #[.val (.ref a1), .val (.ref x), .val (.int n)] []) _
  refine own_st (fun t_ k_ => XS.aloadN X18.here hx rfl (hb hby d14_43) rfl rfl k_) ?_
  show own_Go p e below T18 (mkF m 44 #[.val (.ref a1), .val (.ref x), .val (.int n)] [(.ref a1)]) _
  have f20 := (f17.wr W18)
  have f21 := ((q3_1.keep Kq13 (ninS (Nat.ne_of_lt (Nat.lt_of_lt_of_le pE_a1.lt q3_4)) nin0)).other W18 (Or.inr (slot_ne (Or.inl (own_w hw 66 rfl)) (Or.inl (own_w hw 81 rfl)) (by decide) (t := (.array .byte)) (t' := .int) (by decide) (by decide))))
  have f22 := ((q3_2.keep Kq13 (ninS (Nat.ne_of_lt (Nat.lt_of_lt_of_le pE_a1.lt q3_4)) nin0)).other W18 (Or.inr (slot_ne (Or.inl (own_w hw 68 rfl)) (Or.inl (own_w hw 81 rfl)) (by decide) (t := .byte) (t' := .int) (by decide) (by decide))))
  have f23 := (q13_0.other W18 (Ne.symm (Nat.ne_of_lt (Nat.lt_of_lt_of_le pE_a1.lt q3_4))))
  obtain ⟨fs, hr, hrun, hended, hW, hsame⟩ := X18.leave (v := some (.ref a1)) (fun h => by rw [Bd.returns] at h; cases h)
  refine own_fin (own_retR X18 hx rfl Bd.returns rfl (hb hby d14_44) hr) ⟨hrun, hended, _, _, rfl, ?_, ⟨_, rfl⟩, hW, hsame.mono (by decide) (by decide)⟩
  show Q_rmAgA Z a1 va kva cap k bs rest x tx kx n us zc h0 n0 _ T18.heap _
  rw [e18]
  exact ⟨vb_3, kvb_3, cap2_3, ((rest ++ r2_3).drop us.length), rfl, N18, K19, f20, f21, f22, F18, f23, Bf5, q3_5, ⟨hgq.1, by rw [List.length_drop, List.length_append]; omega⟩⟩
theorem ef_rmSgA (m : MethodId) (x0 : Addr) (x1 : Addr) : entryFrame m #[(.ref x0), (.ref x1)] 2 = mkF m 0 #[.val (.ref x0), .val (.ref x1)] [] := by first | (simp [entryFrame, mkF, argsToLocals, Value.category]; done) | rfl
def Q_rmSgA (Z : State) (a1 : Addr) (va : Addr) (kva : ClassId) (cap : Int32) (k : Int32) (bs : List Value) (rest : List Value) (x : Addr) (tx : Addr) (kx : ClassId) (n : Int32) (us : List Value) (zc : Int32) (h0 : Heap) (n0 : Nat) (v : Option Value) (h : Heap) (L : List Loc) : Prop := ∃ vb : Addr, ∃ kvb : ClassId, ∃ cap2 : Int32, ∃ r2 : List Value, v = some (.ref a1) ∧ Fr n0 L ∧ Keep h0 h [a1] ∧ Exa Z h a1 "java/lang/StringBuilder" ∧ Fld Z h a1 "java/lang/AbstractStringBuilder" "value" "[B" (.ref vb) ∧ Fld Z h a1 "java/lang/AbstractStringBuilder" "coder" "B" (.int (0 : Int32)) ∧ Fld Z h a1 "java/lang/AbstractStringBuilder" "count" "I" (.int (k + n)) ∧ Arv Z h vb kvb .byte cap2 ((bs ++ us) ++ r2) (.int 0) ∧ h0.size ≤ vb ∧ n0 ≤ vb ∧ (own_gr cap (k + n) cap2 ∧ cap2.toInt = ((bs.length + (us : List Value).length + r2.length : Nat) : Int))
set_option maxRecDepth 65536 in
set_option maxHeartbeats 40000000 in
theorem rmSgA (l : Launch) (Z : State) (a0 : Array Value) (hw : ∀ d ∈ tables_1, d.before a0 Z = true) (ws : List Jvm.Cond) (a1 : Addr) (va : Addr) (kva : ClassId) (cap : Int32) (k : Int32) (bs : List Value) (rest : List Value) (x : Addr) (tx : Addr) (kx : ClassId) (n : Int32) (us : List Value) (zc : Int32) (h0 : Heap) (n0 : Nat) (Z0 : n0 ≤ h0.size) (pE_a1 : Exa Z h0 a1 "java/lang/StringBuilder") (pF_value_a1 : Fld Z h0 a1 "java/lang/AbstractStringBuilder" "value" "[B" (.ref va)) (pF_coder_a1 : Fld Z h0 a1 "java/lang/AbstractStringBuilder" "coder" "B" (.int (0 : Int32))) (pF_count_a1 : Fld Z h0 a1 "java/lang/AbstractStringBuilder" "count" "I" (.int k)) (pV_va : Arv Z h0 va kva .byte cap (bs ++ rest) (.int 0)) (pE_x : Exa Z h0 x "java/lang/String") (pF_value_x : Fld Z h0 x "java/lang/String" "value" "[B" (.ref tx)) (pF_coder_x : Fld Z h0 x "java/lang/String" "coder" "B" (.int (0 : Int32))) (pV_tx : Arv Z h0 tx kx .byte n us (.int 0)) (hk : (k.toInt = (bs.length : Int))) (hcap : (cap.toInt = ((bs.length + rest.length : Nat) : Int))) (hn : (n.toInt = (us.length : Int))) (hgt : (rest.length < us.length)) (hbd : (bs.length + us.length ≤ 70 ∧ 2 * (bs.length + rest.length) + 2 ≤ 70)) (pG_a1 : n0 ≤ a1) (pG_va : n0 ≤ va) (pS_COMPACT_STRINGS : Sta Z Z.heap "java/lang/String" "COMPACT_STRINGS" "Z" (.int zc)) (pP5 : (¬ (zc = (0 : Int32)))) (pO : Old Z n0 h0) :
    MetFree l (⟨"java/lang/StringBuilder", "append", "(Ljava/lang/String;)Ljava/lang/StringBuilder;"⟩ : MethodName) (head1 (Jvm.Cond.code (⟨"java/lang/StringBuilder", "append", "(Ljava/lang/String;)Ljava/lang/StringBuilder;"⟩ : MethodName) jdk_67_method_7_code 2 (some (.object "java/lang/StringBuilder")) :: ws) ({ frames := 5, cells := 1, slots := 70, locals := 163 } : Room)) (fun a U => a = #[(.ref a1), (.ref x)] ∧ Z.Warmed39 U.vm ∧ U.heap = h0) (fun _ _ _ _ _ => True) (fun _ U o U' => ∃ v L, o = .returned v ∧ Q_rmSgA Z a1 va kva cap k bs rest x tx kx n us zc h0 n0 v U'.heap L ∧ FrameEnd U o U' L ({ frames := 5, cells := 1, slots := 70, locals := 163 } : Room).cells ({ frames := 5, cells := 1, slots := 70, locals := 163 } : Room).slots) := by
  refine MetFree.of_bodySF (plainFor_of_name pn_13) hisR ?_
  intro p e s m args below meth c s₁ Bd hml0 hP hK
  obtain ⟨rfl, hZ, hh⟩ := hP
  have hx := Bd.exec
  have hby := Bd.bytes
  have hml : c.maxLocals = 2 := hml0
  have hown : s.vm.findClass "java/lang/StringBuilder" = some m.cls := findClass_of_methodNamed Bd.named
  have hnm := (name_of_methodNamed Bd.named Bd.method).1
  have X0 : Stand p l e ({ frames := 5, cells := 1, slots := 70, locals := 163 } : Room) s m #[(.ref a1), (.ref x)] below meth c s₁ [] 0 0 := Stand.of_body Bd
  have e0 : s₁.heap = h0 := by rw [← hh, Bd.state]; rfl
  have N0 := Fr.nil n0
  refine own_enter (ef_rmSgA m a1 x) ?_
  refine own_st (fun t_ k_ => XS.aloadN X0.here hx rfl (hb hby d13_0) rfl rfl (XS.aloadN X0.here hx rfl (hb hby d13_1) rfl rfl k_)) ?_
  show own_Go p e below s₁ (mkF m 2 #[.val (.ref a1), .val (.ref x)] [(.ref x), (.ref a1)]) _
  obtain ⟨_, _, ⟨T1, L1, k1, n1⟩, -, X1, ⟨Lc1, hQ1, l1, y1, z1⟩, st1⟩ := superBack X0 hx hZ (y := (⟨"java/lang/AbstractStringBuilder", "append", "(Ljava/lang/String;)Ljava/lang/AbstractStringBuilder;"⟩ : MethodName)) hown (own_w hw 74 rfl) (own_same (y := (⟨"java/lang/AbstractStringBuilder", "append", "(Ljava/lang/String;)Ljava/lang/AbstractStringBuilder;"⟩ : MethodName)) (y' := (⟨"java/lang/AbstractStringBuilder", "getValue", "()[B"⟩ : MethodName)) (own_w hw 77 rfl) (own_w hw 171 rfl) rfl (by decide)) (own_w hw 75 rfl) (own_w hw 76 rfl) (by decide) (backOf (W := 0) (rmAgA l Z a0 hw [] a1 va kva cap k bs rest x tx kx n us zc h0 n0 Z0 pE_a1 pF_value_a1 pF_coder_a1 pF_count_a1 pV_va pE_x pF_value_x pF_coder_x pV_tx hk hcap hn hgt hbd pG_a1 pG_va pS_COMPACT_STRINGS pP5 pO) hZ (own_w hw 78 rfl) (own_w hw 61 rfl) (by decide) (by decide)) e0 (Ins.self pE_a1) (g := (mkF m 2 #[.val (.ref a1), .val (.ref x)] [(.ref x), (.ref a1)])) rfl (by rw [hml]; rfl) (own_w hw 78 rfl) (argsL := [(.ref x)]) (rest := []) (lenOf pd__Ljava_lang_String__Ljava_lang_AbstractStringBuilder_ rfl) rfl (by show 2 * 0 + _ ≤ _; exact Nat.le_of_eq rfl) (hb hby d13_2) (fun _ _ => ⟨rfl, e0, (by decide : 0 + 1 ≤ _), (by decide : 0 + 70 ≤ _)⟩)
  dsimp only [Pt.U, Pt.locs, Pt.cells, Pt.slots] at X1 l1 y1 z1 st1 hQ1
  try dsimp only [Nat.reduceAdd] at y1 z1
  rw [l1, y1, z1] at X1
  obtain ⟨vb_1, kvb_1, cap2_1, r2_1, rfl, Nq1, Kq1, q1_0, q1_1, q1_2, q1_3, q1_4, q1_5, q1_6, q1_7⟩ := hQ1
  have N1 := Fr.app N0 Nq1
  have K2 : Keep h0 T1.heap [a1] := (Keep.refl h0 [a1]).trans Kq1 (allS (Or.inl (List.mem_of_getElem? (i := 0) rfl)) all0)
  have Bf3 : h0.size ≤ vb_1 := Nat.le_trans (Keep.refl h0 [a1]).1 q1_5
  refine own_tr st1 ?_
  show own_Go p e below T1 (mkF m 5 #[.val (.ref a1), .val (.ref x)] [(.ref a1)]) _
  refine own_st (fun t_ k_ => XS.pop X1.here hx rfl (hb hby d13_5) rfl rfl (XS.aloadN X1.here hx rfl (hb hby d13_6) rfl rfl k_)) ?_
  show own_Go p e below T1 (mkF m 7 #[.val (.ref a1), .val (.ref x)] [(.ref a1)]) _
  obtain ⟨fs, hr, hrun, hended, hW, hsame⟩ := X1.leave (v := some (.ref a1)) (fun h => by rw [Bd.returns] at h; cases h)
  refine own_fin (own_retR X1 hx rfl Bd.returns rfl (hb hby d13_7) hr) ⟨hrun, hended, _, _, rfl, ?_, ⟨_, rfl⟩, hW, hsame.mono (by decide) (by decide)⟩
  show Q_rmSgA Z a1 va kva cap k bs rest x tx kx n us zc h0 n0 _ T1.heap _
  exact ⟨vb_1, kvb_1, cap2_1, r2_1, rfl, N1, K2, q1_0, q1_1, q1_2, q1_3, q1_4, Bf3, q1_6, q1_7⟩
def own_ones : List Value := (List.range 100).map fun i => Value.int (Int32.ofNat (48 + i % 10))
theorem own_ten {d : Nat} (h : d ≤ 9) : d = 0 ∨ d = 1 ∨ d = 2 ∨ d = 3 ∨ d = 4 ∨ d = 5 ∨ d = 6 ∨ d = 7 ∨ d = 8 ∨ d = 9 := by omega
theorem own_onesAt {d : Nat} (h : d ≤ 9) : own_ones.getD d (.int 0) = .int (Int32.ofNat (48 + d)) := by
  rcases own_ten h with rfl | rfl | rfl | rfl | rfl | rfl | rfl | rfl | rfl | rfl <;> rfl
theorem own_onesG {j : Nat} (h : j < 100) : own_ones.getD j (.int 0) = .int (Int32.ofNat (48 + j % 10)) := by
  rw [own_ones, List.getD_eq_getElem?_getD, List.getElem?_map, List.getElem?_range h]
  rfl
theorem own_narD {d : Nat} (h : d ≤ 9) : nar .byte (Int32.ofNat (48 + d)) = Int32.ofNat (48 + d) := by
  rcases own_ten h with rfl | rfl | rfl | rfl | rfl | rfl | rfl | rfl | rfl | rfl <;> rfl
theorem own_toB {d : Nat} (h : d ≤ 9) : (Int32.ofNat (48 + d)).toInt8.toInt32 = Int32.ofNat (48 + d) := own_narD h
theorem own_setB {bs rest : List Value} {v : Value} (h : 0 < rest.length) : (bs ++ rest).set bs.length v = (bs ++ [v]) ++ rest.drop 1 := by
  cases rest with
  | nil => cases h
  | cons y ys => simp
theorem own_dec {i : Int32} {n : Nat} (h : i.toInt = ((n + 1 : Nat) : Int)) (hn : n ≤ 1000000) : (i + (-1 : Int32)).toInt = (n : Int) := by
  have u1 := c_iadd i (-1 : Int32)
  have u2 := rng32 (i + (-1 : Int32))
  rw [show (-1 : Int32).toInt = -1 from rfl] at u1
  omega
theorem own_negI {y : Int32} {d : Nat} (h : y.toInt = -(d : Int)) (hd : d ≤ 9) : (-y).toInt = (d : Int) := by
  have u1 := c_ineg y
  have u2 := rng32 (-y)
  omega
def own_ch : Value → Int32
  | .int b => b &&& 255
  | _ => 0
theorem own_chB {u : Value} (h : fits .byte u = true) : Value.int ((own_ch u).toInt8.toInt32) = u ∧ ¬ own_ch u < 0 ∧ ¬ (255 : Int32) < own_ch u := by
  cases u with
  | int b =>
    simp only [fits, Bool.and_eq_true, decide_eq_true_eq, Int32.le_iff_toInt_le, show (-128 : Int32).toInt = -128 from by decide, show (127 : Int32).toInt = 127 from by decide] at h
    refine ⟨?_, own_in255 _ (own_m255 b).1 (own_m255 b).2⟩
    have h1 := c_mask b 255 8 (by decide) (by decide)
    have h2 := c_i2b (b &&& 255)
    rw [show ((2 ^ 8 : Nat) : Int) = 256 from rfl] at h1
    show Value.int ((b &&& 255).toInt8.toInt32) = _
    congr 1
    apply Int32.toInt_inj.mp
    omega
  | _ => simp [fits] at h
theorem own_bytes {us : List Value} (h : ∀ u ∈ us, fits .byte u = true) : us = ((us.map own_ch).map (fun c : Int32 => c.toInt8.toInt32)).map Value.int ∧ own_P (us.map own_ch) := by
  constructor
  · rw [List.map_map, List.map_map]
    conv => lhs; rw [← List.map_id us]
    apply List.map_congr_left
    intro u hu
    exact (own_chB (h u hu)).1.symm
  · intro c hc
    obtain ⟨u, hu, rfl⟩ := List.mem_map.mp hc
    exact (own_chB (h u hu)).2
open Jvm.Free.SBG in
theorem own_tblD {s : State} {n : String} {st d : Addr} {D : Cell} (T : Tbl s n st d D) : s.heap[d]? = some D ∧ ∃ c : Cell, s.heap[st]? = some c := by
  obtain ⟨cf, i, k, f, cellS, t1, t2, t3, t4, t5, t6, t7, t8, t9, t10, t11, t12⟩ := T
  exact ⟨t8, _, t5⟩
open Jvm.Free.SBG in
theorem own_gcP {Z U : State} {h : Heap} {n0 : Nat} {xi : Int32} {nn idx : Nat} {va st d1 d2 : Addr} {cl D1 D2 : Cell} (hal : Z.vm.Alike U.vm) (hU : U.heap = h) (O : Old Z n0 h) (G : n0 ≤ va) (Ar : Arr Z h va cl .byte) (hs : cl.slots.size < 2 ^ 31) (hi : idx ≤ cl.slots.size) (hd : Jvm.Free.SBG.digits nn + GetChars.sgn xi ≤ idx) (hn : nn ≤ 2 ^ 31) (hg : (if xi < 0 then xi else -xi) = negI nn) (t1 : Tbl Z "DigitOnes" st d1 D1) (t2 : Tbl Z "DigitTens" st d2 D2) : GetChars.P ⟨xi, nn, idx, va, cl, st, d1, D1, d2, D2⟩ #[.int xi, .int (Int32.ofNat idx), .ref va] U := by
  have q1 := own_tblD t1
  have q2 := own_tblD t2
  obtain ⟨cs, hcs⟩ := q1.2
  have lt : ∀ {x : Addr} {c : Cell}, Z.heap[x]? = some c → va ≠ x := fun q => Ne.symm (O.ne (Array.getElem?_eq_some_iff.mp q).1 G)
  exact ⟨rfl, by rw [hU]; exact Ar.1, State.isArrayOf_alike hal Ar.2.1, Ar.2.2, hs, hi, hd, hn, hg, t1.move hal (fun c q => by rw [hU]; exact O.2.2 _ _ q) (by rw [hU]; exact O.2.2 _ _ q1.1), t2.move hal (fun c q => by rw [hU]; exact O.2.2 _ _ q) (by rw [hU]; exact O.2.2 _ _ q2.1), lt hcs, lt q1.1, lt q2.1⟩
def own_Dec (x : Int32) (mm : Nat) (cs : List Int32) : Prop := cs.length = mm ∧ own_P cs ∧ (0 ≤ x.toInt → x.toInt ≤ 9 → mm = 1 ∧ cs = [Int32.ofNat (48 + x.toInt.toNat)]) ∧ (x.toInt < 0 → 2 ≤ mm ∧ cs.getD 0 0 = 45)
open Jvm.Free.SBG in
theorem own_gcQ {Z : State} {h h' : Heap} {va st d1 d2 : Addr} {kva : ClassId} {cap xi : Int32} {bs rest : List Value} {cl D1 D2 : Cell} {nn mm : Nat} (Ar : Arr Z h va cl .byte) (q : cl.cls = kva) (Sz : cl.slots.size = cap.toNatClampNeg) (Nn : ¬ cap < 0) (Hh : Has cl (bs ++ rest) (.int 0)) (Gg : ∀ i, i < cl.slots.size → fits .byte ((bs ++ rest).getD i (.int 0)) = true)
    (hcap : cap.toInt = ((bs.length + rest.length : Nat) : Int)) (hfit : mm ≤ rest.length) (hmm : mm = Jvm.Free.SBG.digits nn + GetChars.sgn xi) (hn : nn ≤ 2 ^ 31) (hg : (if xi < 0 then xi else -xi) = negI nn) (O1 : Ones D1)
    (hc : h'[va]? = some (GetChars.outCell ⟨xi, nn, bs.length + mm, va, cl, st, d1, D1, d2, D2⟩)) (hs : h'.size = h.size) (hk : ∀ (y : Addr) (cy : Cell), y ≠ va → h[y]? = some cy → h'[y]? = some cy) :
    Keep h h' [va] ∧ ∃ cs : List Int32, own_Dec xi mm cs ∧ Arv Z h' va kva .byte cap ((bs ++ (cs.map (fun c : Int32 => c.toInt8.toInt32)).map Value.int) ++ rest.drop mm) (.int 0) := by
  have hsz : cl.slots.size = bs.length + rest.length := by rw [Sz]; exact own_clamp hcap
  have hby : ∀ i, i < cl.slots.size → fits .byte (cl.slots.getD i .null) = true := fun i hi => by
    have e := Hh i hi
    rw [Array.getD_eq_getD_getElem?, e]
    exact Gg i hi
  obtain ⟨f1, f2, f3, f4, f5⟩ := GetChars.outCell_facts ⟨xi, nn, bs.length + mm, va, cl, st, d1, D1, d2, D2⟩ hn (by show Jvm.Free.SBG.digits nn + GetChars.sgn xi ≤ bs.length + mm; omega) hby
  dsimp only at f1 f2 f3 f5
  have hsub : bs.length + mm - (Jvm.Free.SBG.digits nn + GetChars.sgn xi) = bs.length := by omega
  rw [hsub] at f5
  have hx0 : xi < 0 ↔ xi.toInt < 0 := by rw [Int32.lt_iff_toInt_lt, show (0 : Int32).toInt = 0 from rfl]
  -- what stands at the first place
  have first : (0 ≤ xi.toInt → xi.toInt ≤ 9 → mm = 1 ∧ (GetChars.outCell ⟨xi, nn, bs.length + mm, va, cl, st, d1, D1, d2, D2⟩).slots[bs.length]? = some (.int (Int32.ofNat (48 + xi.toInt.toNat)))) ∧ (xi.toInt < 0 → 2 ≤ mm ∧ (GetChars.outCell ⟨xi, nn, bs.length + mm, va, cl, st, d1, D1, d2, D2⟩).slots[bs.length]? = some (.int 45)) := by
    have hdp := digits_pos nn
    constructor
    · intro h0 h9
      have hnx : ¬ xi < 0 := by rw [hx0]; omega
      rw [if_neg hnx] at hg
      have e1 : (-xi).toInt = -(nn : Int) := by rw [hg]; exact negI_toInt hn
      have u1 := c_ineg xi
      have u2 := rng32 (-xi)
      have e2 : nn = xi.toInt.toNat := by omega
      have e3 : nn ≤ 9 := by omega
      have e4 : Jvm.Free.SBG.digits nn = 1 := by unfold Jvm.Free.SBG.digits; rw [if_pos (by omega)]
      have e5 : GetChars.sgn xi = 0 := by unfold GetChars.sgn; rw [if_neg hnx]
      have e6 : mm = 1 := by omega
      refine ⟨e6, ?_⟩
      have e7 : GetChars.outCell ⟨xi, nn, bs.length + mm, va, cl, st, d1, D1, d2, D2⟩ = put cl bs.length (iAt D1 nn) := by
        unfold GetChars.outCell
        rw [if_neg hnx]
        show (digLoop D1 D2 5 cl nn (bs.length + mm)).1 = _
        unfold digLoop
        rw [if_neg (by omega), if_neg (by omega), e6]
        rfl
      rw [e7, put_at, if_pos ⟨rfl, by omega⟩, O1 nn (by omega), ← e2, show nn % 10 = nn by omega, show (Int32.ofNat (48 + nn)).toInt8.toInt32 = Int32.ofNat (48 + nn) from own_narD e3]
    · intro h0
      have hnx : xi < 0 := hx0.mpr h0
      have e5 : GetChars.sgn xi = 1 := by unfold GetChars.sgn; rw [if_pos hnx]
      refine ⟨by omega, ?_⟩
      obtain ⟨-, -, g3, g4⟩ := digLoop_facts D1 D2 5 cl nn (bs.length + mm)
      rw [wN_digits hn] at g4
      unfold GetChars.outCell
      rw [if_pos hnx]
      show (put (digLoop D1 D2 5 cl nn (bs.length + mm)).1 ((digLoop D1 D2 5 cl nn (bs.length + mm)).2 - 1) 45).slots[bs.length]? = _
      rw [g4, put_at, if_pos ⟨by omega, by rw [g3]; omega⟩]
      rfl
  generalize GetChars.outCell ⟨xi, nn, bs.length + mm, va, cl, st, d1, D1, d2, D2⟩ = oc at hc f1 f2 f3 f4 f5 first
  have at_ : ∀ j, j < oc.slots.size → oc.slots[j]? = some (oc.slots.getD j .null) := fun j hj => by rw [Array.getD_eq_getD_getElem?, Array.getElem?_eq_getElem hj]; rfl
  obtain ⟨us, hus⟩ : ∃ us : List Value, us = (List.range mm).map fun i => oc.slots.getD (bs.length + i) .null := ⟨_, rfl⟩
  have hul : us.length = mm := by rw [hus]; simp
  have hug : ∀ i, i < mm → us[i]? = some (oc.slots.getD (bs.length + i) .null) := fun i hi => by rw [hus, List.getElem?_map, List.getElem?_range hi]; rfl
  have hfu : ∀ u ∈ us, fits .byte u = true := fun u hu => by
    rw [hus] at hu
    obtain ⟨i, hi, rfl⟩ := List.mem_map.mp hu
    exact f4 _ (by have := List.mem_range.mp hi; omega)
  have hHas : Has oc ((bs ++ us) ++ rest.drop mm) (.int 0) := fun j hj => by
    rw [f3] at hj
    rw [List.getD_eq_getElem?_getD]
    by_cases c1 : j < bs.length
    · rw [f5 j (Or.inl c1), Hh j hj, List.getD_eq_getElem?_getD, List.getElem?_append_left c1, List.getElem?_append_left (by rw [List.length_append]; omega), List.getElem?_append_left c1]
    · by_cases c2 : j < bs.length + mm
      · rw [List.getElem?_append_left (by rw [List.length_append]; omega), List.getElem?_append_right (by omega), hug _ (by omega), show bs.length + (j - bs.length) = j by omega]
        exact at_ j (by omega)
      · rw [f5 j (Or.inr (by omega)), Hh j hj, List.getD_eq_getElem?_getD, List.getElem?_append_right (by omega), List.getElem?_append_right (by rw [List.length_append]; omega), List.getElem?_drop, List.length_append]
        congr 3
        omega
  have hA : Arr Z h' va oc .byte := by
    obtain ⟨a1, kA, a2, comp, a3⟩ := Ar.2.1
    exact ⟨hc, ⟨by rw [f2]; exact a1, kA, by rw [f1]; exact a2, comp, a3⟩, by rw [f2]; exact Ar.2.2⟩
  obtain ⟨b1, b2⟩ := own_bytes hfu
  refine ⟨⟨by omega, fun x c q r => hk x c (fun e => r (by rw [e]; exact List.mem_singleton.mpr rfl)) q, fun x c q => ?_⟩, us.map own_ch, ⟨by rw [List.length_map]; exact hul, b2, fun h0 h9 => ?_, fun h0 => ?_⟩, ?_⟩
  · by_cases hxv : x = va
    · subst hxv
      cases Ar.1.symm.trans q
      exact ⟨oc, hc, f1, f2, f3⟩
    · exact ⟨c, hk x c hxv q, rfl, rfl, rfl⟩
  · obtain ⟨e6, e7⟩ := first.1 h0 h9
    have e8 := hug 0 (by omega)
    rw [Nat.add_zero, Array.getD_eq_getD_getElem?, e7] at e8
    refine ⟨e6, ?_⟩
    have e9 : us = [.int (Int32.ofNat (48 + xi.toInt.toNat))] := by
      match us, hul, e8 with
      | [u], _, e8 => simpa using e8
      | [], hul, _ => simp at hul; omega
      | _ :: _ :: _, hul, _ => simp at hul; omega
    rw [e9]
    have e10 : xi.toInt.toNat ≤ 9 := by omega
    show [Int32.ofNat (48 + xi.toInt.toNat) &&& 255] = _
    rcases own_ten e10 with q | q | q | q | q | q | q | q | q | q <;> rw [q] <;> rfl
  · obtain ⟨e6, e7⟩ := first.2 h0
    have e8 := hug 0 (by omega)
    rw [Nat.add_zero, Array.getD_eq_getD_getElem?, e7] at e8
    refine ⟨e6, ?_⟩
    rw [List.getD_eq_getElem?_getD, List.getElem?_map, e8]
    rfl
  · rw [← b1]
    refine ⟨oc, hA, by rw [f1]; exact q, by rw [f3]; exact Sz, Nn, hHas, fun i hi => ?_⟩
    have e := hHas i hi
    have e' := at_ i hi
    rw [e] at e'
    rw [Option.some.inj e']
    exact f4 i hi
open Jvm.Free.SBG in
theorem own_m1 {xi : Int32} {nn mm : Nat} (hn : nn ≤ 2 ^ 31) (hg : (if xi < 0 then xi else -xi) = negI nn) (hmm : mm = Jvm.Free.SBG.digits nn + GetChars.sgn xi) (h0 : 0 ≤ xi.toInt) (h9 : xi.toInt ≤ 9) : mm = 1 := by
  have hnx : ¬ xi < 0 := by rw [Int32.lt_iff_toInt_lt, show (0 : Int32).toInt = 0 from rfl]; omega
  rw [if_neg hnx] at hg
  have e1 : (-xi).toInt = -(nn : Int) := by rw [hg]; exact negI_toInt hn
  have u1 := c_ineg xi
  have u2 := rng32 (-xi)
  have e4 : Jvm.Free.SBG.digits nn = 1 := by unfold Jvm.Free.SBG.digits; rw [if_pos (by omega)]
  have e5 : GetChars.sgn xi = 0 := by unfold GetChars.sgn; rw [if_neg hnx]
  omega
theorem d20_0 : decode jdk_68_method_32_code 0 = .ok (.aload_n 0, 1) := by decide +kernel
theorem d20_1 : decode jdk_68_method_32_code 1 = .ok (.getfield 79, 3) := by decide +kernel
theorem d20_4 : decode jdk_68_method_32_code 4 = .ok (.istore_n 2, 1) := by decide +kernel
theorem d20_5 : decode jdk_68_method_32_code 5 = .ok (.iload_n 2, 1) := by decide +kernel
theorem d20_6 : decode jdk_68_method_32_code 6 = .ok (.iload_n 1, 1) := by decide +kernel
theorem d20_7 : decode jdk_68_method_32_code 7 = .ok (.invokestatic 245, 3) := by decide +kernel
theorem d20_10 : decode jdk_68_method_32_code 10 = .ok (.iadd, 1) := by decide +kernel
theorem d20_11 : decode jdk_68_method_32_code 11 = .ok (.istore_n 3, 1) := by decide +kernel
theorem d20_12 : decode jdk_68_method_32_code 12 = .ok (.aload_n 0, 1) := by decide +kernel
theorem d20_13 : decode jdk_68_method_32_code 13 = .ok (.iload_n 3, 1) := by decide +kernel
theorem d20_14 : decode jdk_68_method_32_code 14 = .ok (.invokevirtual 100, 3) := by decide +kernel
theorem d20_17 : decode jdk_68_method_32_code 17 = .ok (.aload_n 0, 1) := by decide +kernel
theorem d20_18 : decode jdk_68_method_32_code 18 = .ok (.invokevirtual 83, 3) := by decide +kernel
theorem d20_21 : decode jdk_68_method_32_code 21 = .ok (.ifCond .eq 16, 3) := by decide +kernel
theorem d20_24 : decode jdk_68_method_32_code 24 = .ok (.iload_n 1, 1) := by decide +kernel
theorem d20_25 : decode jdk_68_method_32_code 25 = .ok (.iload_n 3, 1) := by decide +kernel
theorem d20_26 : decode jdk_68_method_32_code 26 = .ok (.aload_n 0, 1) := by decide +kernel
theorem d20_27 : decode jdk_68_method_32_code 27 = .ok (.getfield 15, 3) := by decide +kernel
theorem d20_30 : decode jdk_68_method_32_code 30 = .ok (.invokestatic 248, 3) := by decide +kernel
theorem d20_33 : decode jdk_68_method_32_code 33 = .ok (.pop, 1) := by decide +kernel
theorem d20_34 : decode jdk_68_method_32_code 34 = .ok (.goto 14, 3) := by decide +kernel
theorem d20_48 : decode jdk_68_method_32_code 48 = .ok (.aload_n 0, 1) := by decide +kernel
theorem d20_49 : decode jdk_68_method_32_code 49 = .ok (.iload_n 3, 1) := by decide +kernel
theorem d20_50 : decode jdk_68_method_32_code 50 = .ok (.putfield 79, 3) := by decide +kernel
theorem d20_53 : decode jdk_68_method_32_code 53 = .ok (.aload_n 0, 1) := by decide +kernel
theorem d20_54 : decode jdk_68_method_32_code 54 = .ok (.areturn, 1) := by decide +kernel
theorem pn_20 : plainName "java/lang/AbstractStringBuilder" = true := by first | (simp [plainName, overriddenIn]; done) | decide +kernel
theorem pd__II_B_I : parseMethodDescriptor "(II[B)I" = some ⟨[.int, .int, (.array .byte)], some .int⟩ := by decide +kernel
theorem ef_rmAi (m : MethodId) (x0 : Addr) (x1 : Int32) : entryFrame m #[(.ref x0), (.int x1)] 4 = mkF m 0 #[.val (.ref x0), .val (.int x1), .unset, .unset] [] := by first | (simp [entryFrame, mkF, argsToLocals, Value.category]; done) | rfl
def Q_rmAi (Z : State) (a1 : Addr) (va : Addr) (kva : ClassId) (cap : Int32) (k : Int32) (bs : List Value) (rest : List Value) (xi : Int32) (zc : Int32) (dst : Addr) (dg1 : Addr) (DD1 : Cell) (dg2 : Addr) (DD2 : Cell) (h0 : Heap) (n0 : Nat) (v : Option Value) (h : Heap) (L : List Loc) : Prop := ∃ mm : Nat, ∃ cs : List Int32, v = some (.ref a1) ∧ Fr n0 L ∧ Keep h0 h [a1, va] ∧ Exa Z h a1 "java/lang/StringBuilder" ∧ Fld Z h a1 "java/lang/AbstractStringBuilder" "value" "[B" (.ref va) ∧ Fld Z h a1 "java/lang/AbstractStringBuilder" "coder" "B" (.int (0 : Int32)) ∧ Fld Z h a1 "java/lang/AbstractStringBuilder" "count" "I" (.int (k + (Int32.ofNat mm))) ∧ Arv Z h va kva .byte cap ((bs ++ ((cs : List Int32).map (fun c : Int32 => c.toInt8.toInt32)).map Value.int) ++ rest.drop mm) (.int 0) ∧ (own_Dec xi mm cs ∧ 1 ≤ mm ∧ mm ≤ 11)
set_option maxRecDepth 65536 in
set_option maxHeartbeats 40000000 in
theorem rmAi (l : Launch) (Z : State) (a0 : Array Value) (hw : ∀ d ∈ tables_1, d.before a0 Z = true) (ws : List Jvm.Cond) (a1 : Addr) (va : Addr) (kva : ClassId) (cap : Int32) (k : Int32) (bs : List Value) (rest : List Value) (xi : Int32) (zc : Int32) (dst : Addr) (dg1 : Addr) (DD1 : Cell) (dg2 : Addr) (DD2 : Cell) (h0 : Heap) (n0 : Nat) (Z0 : n0 ≤ h0.size) (pE_a1 : Exa Z h0 a1 "java/lang/StringBuilder") (pF_value_a1 : Fld Z h0 a1 "java/lang/AbstractStringBuilder" "value" "[B" (.ref va)) (pF_coder_a1 : Fld Z h0 a1 "java/lang/AbstractStringBuilder" "coder" "B" (.int (0 : Int32))) (pF_count_a1 : Fld Z h0 a1 "java/lang/AbstractStringBuilder" "count" "I" (.int k)) (pV_va : Arv Z h0 va kva .byte cap (bs ++ rest) (.int 0)) (hk : (k.toInt = (bs.length : Int))) (hcap : (cap.toInt = ((bs.length + rest.length : Nat) : Int))) (hfit : (11 ≤ rest.length ∨ (0 ≤ xi.toInt ∧ xi.toInt ≤ 9 ∧ 1 ≤ rest.length))) (hbig : (bs.length + rest.length ≤ 1000000)) (pT1 : (Jvm.Free.SBG.Tbl Z "DigitOnes" dst dg1 DD1)) (pT2 : (Jvm.Free.SBG.Tbl Z "DigitTens" dst dg2 DD2)) (pO1 : (Jvm.Free.SBG.Ones DD1)) (pG_a1 : n0 ≤ a1) (pG_va : n0 ≤ va) (pS_COMPACT_STRINGS : Sta Z Z.heap "java/lang/String" "COMPACT_STRINGS" "Z" (.int zc)) (pP5 : (¬ (zc = (0 : Int32)))) (pO : Old Z n0 h0) :
    MetFree l (⟨"java/lang/AbstractStringBuilder", "append", "(I)Ljava/lang/AbstractStringBuilder;"⟩ : MethodName) (head1 (Jvm.Cond.code (⟨"java/lang/AbstractStringBuilder", "append", "(I)Ljava/lang/AbstractStringBuilder;"⟩ : MethodName) jdk_68_method_32_code 4 (some (.object "java/lang/AbstractStringBuilder")) :: ws) ({ frames := 2, cells := 0, slots := 0, locals := 78 } : Room)) (fun a U => a = #[(.ref a1), (.int xi)] ∧ Z.Warmed39 U.vm ∧ U.heap = h0) (fun _ _ _ _ _ => True) (fun _ U o U' => ∃ v L, o = .returned v ∧ Q_rmAi Z a1 va kva cap k bs rest xi zc dst dg1 DD1 dg2 DD2 h0 n0 v U'.heap L ∧ FrameEnd U o U' L ({ frames := 2, cells := 0, slots := 0, locals := 78 } : Room).cells ({ frames := 2, cells := 0, slots := 0, locals := 78 } : Room).slots) := by
  refine MetFree.of_bodySF (plainFor_of_name pn_20) hisR ?_
  intro p e s m args below meth c s₁ Bd hml0 hP hK
  obtain ⟨rfl, hZ, hh⟩ := hP
  have hx := Bd.exec
  have hby := Bd.bytes
  have hml : c.maxLocals = 4 := hml0
  have hown : s.vm.findClass "java/lang/AbstractStringBuilder" = some m.cls := findClass_of_methodNamed Bd.named
  have hnm := (name_of_methodNamed Bd.named Bd.method).1
  have X0 : Stand p l e ({ frames := 2, cells := 0, slots := 0, locals := 78 } : Room) s m #[(.ref a1), (.int xi)] below meth c s₁ [] 0 0 := Stand.of_body Bd
  have e0 : s₁.heap = h0 := by rw [← hh, Bd.state]; rfl
  have N0 := Fr.nil n0
  refine own_enter (ef_rmAi m a1 xi) ?_
  refine own_st (fun t_ k_ => XS.aloadN X0.here hx rfl (hb hby d20_0) rfl rfl k_) ?_
  show own_Go p e below s₁ (mkF m 1 #[.val (.ref a1), .val (.int xi), .unset, .unset] [(.ref a1)]) _
  obtain ⟨T1, X1, e1, st1⟩ := getF X0 hx hZ hown (host := "") (Or.inl (own_w hw 80 rfl)) Via.refl e0 pF_count_a1 (g := (mkF m 1 #[.val (.ref a1), .val (.int xi), .unset, .unset] [(.ref a1)])) rfl rfl (hb hby d20_1)
  refine own_st st1 ?_
  show own_Go p e below T1 (mkF m 4 #[.val (.ref a1), .val (.int xi), .unset, .unset] [(.int k)]) _
  refine own_st (fun t_ k_ => XS.istoreN X1.here hx rfl (hb hby d20_4) rfl (l' := #[.val (.ref a1), .val (.int xi), .val (.int k), .unset]) rfl (XS.iloadN X1.here hx rfl (hb hby d20_5) rfl (XS.iloadN X1.here hx rfl (hb hby d20_6) rfl k_))) ?_
  show own_Go p e below T1 (mkF m 7 #[.val (.ref a1), .val (.int xi), .val (.int k), .unset] [(.int xi), (.int k)]) _
  obtain ⟨nn, hnn, hneg⟩ := Jvm.Free.SBG.negI_of xi
  obtain ⟨mm, hmm⟩ : ∃ m : Nat, m = Jvm.Free.SBG.digits nn + Jvm.Free.SBG.GetChars.sgn xi := ⟨_, rfl⟩
  have hm11 : 1 ≤ mm ∧ mm ≤ 11 := by have := Jvm.Free.SBG.digits_pos nn; rw [hmm]; unfold Jvm.Free.SBG.GetChars.sgn; split <;> omega
  obtain ⟨_, _, ⟨T2, L2, k2, n2⟩, -, X2, ⟨⟨eH2, l2, y2, z2⟩, hv2⟩, st2⟩ := Jvm.LawKit.callS X1 hx (y := (⟨"java/lang/Integer", "stringSize", "(I)I"⟩ : MethodName)) hown (mvT hZ (own_w hw 117 rfl)) (mvT hZ (own_w hw 118 rfl)) (mvT hZ (own_w hw 119 rfl)) (mvT hZ (own_w hw 120 rfl)) (by decide) (Jvm.Free.SBG.StrSize.pays (W := 1) (by decide) (by decide) (mvT hZ (own_w hw 120 rfl)) (mvT hZ (own_w hw 119 rfl))) (g := (mkF m 7 #[.val (.ref a1), .val (.int xi), .val (.int k), .unset] [(.int xi), (.int k)])) rfl (by rw [hml]; rfl) (argsL := [(.int xi)]) (rest := [(.int k)]) (lenOf pd__I_I rfl) rfl (by show 2 * 0 + _ ≤ _; exact Nat.le_of_eq rfl) (hb hby d20_7) (fun _ _ => ⟨(by decide : 0 ≤ _), (by decide : 0 ≤ _), xi, rfl⟩)
  dsimp only [Pt.U, Pt.locs, Pt.cells, Pt.slots] at X2 eH2 l2 y2 z2 st2 hv2
  rw [l2, y2, z2] at X2
  have hw2 := hv2 xi rfl
  rw [Jvm.Free.SBG.strSizeOf_eq hnn hneg, ← hmm] at hw2
  subst hw2
  have eG2 : T2.heap = h0 := by rw [eH2]; exact e1
  refine own_st st2 ?_
  show own_Go p e below T2 (mkF m 10 #[.val (.ref a1), .val (.int xi), .val (.int k), .unset] [(.int (Int32.ofNat mm)), (.int k)]) _
  have hm1 : 0 ≤ xi.toInt → xi.toInt ≤ 9 → mm = 1 := own_m1 hnn hneg hmm
  have hft : mm ≤ rest.length := by omega
  have hkn := own_addI hk (own_ofNat (n := mm) (by omega)) (by omega)
  have hix : (k + Int32.ofNat mm) = Int32.ofNat (bs.length + mm) := own_eqOf hkn (by omega)
  refine own_st (fun t_ k_ => XS.iadd X2.here hx rfl (hb hby d20_10) rfl (XS.istoreN X2.here hx rfl (hb hby d20_11) rfl (l' := #[.val (.ref a1), .val (.int xi), .val (.int k), .val (.int (k + (Int32.ofNat mm)))]) rfl (XS.aloadN X2.here hx rfl (hb hby d20_12) rfl rfl (XS.iloadN X2.here hx rfl (hb hby d20_13) rfl k_)))) ?_
  show own_Go p e below T2 (mkF m 14 #[.val (.ref a1), .val (.int xi), .val (.int k), .val (.int (k + (Int32.ofNat mm)))] [(.int (k + (Int32.ofNat mm))), (.ref a1)]) _
  obtain ⟨cq3, kq3, qa3, qb3, qc3⟩ := isOf hZ eG2 pE_a1
  obtain ⟨_, _, ⟨T3, L3, k3, n3⟩, -, X3, ⟨Lc3, hQ3, l3, y3, z3⟩, st3⟩ := X2.virtualBack hx (y := (⟨"java/lang/AbstractStringBuilder", "ensureCapacityInternal", "(I)V"⟩ : MethodName)) (z := (⟨"java/lang/AbstractStringBuilder", "ensureCapacityInternal", "(I)V"⟩ : MethodName)) hown (mvT hZ (own_w hw 82 rfl)) (mvT hZ (own_decl (own_w hw 83 rfl) (own_w hw 86 rfl))) (notFace_of_selects (args := #[]) (mvT hZ (own_w hw 85 rfl))) (mvT hZ (own_w hw 85 rfl)) (mvT hZ (own_w hw 83 rfl)) (by decide) (backOf (W := 0) (rmEc l Z a0 hw [] a1 va kva cap ((bs ++ rest)) ((k + (Int32.ofNat mm))) h0 n0 Z0 pE_a1 pF_value_a1 pF_coder_a1 pV_va (own_subNP (by omega) (by omega) (by omega))) hZ (own_w hw 86 rfl) (own_w hw 61 rfl) (by decide) (by decide)) qa3 qc3 (g := (mkF m 14 #[.val (.ref a1), .val (.int xi), .val (.int k), .val (.int (k + (Int32.ofNat mm)))] [(.int (k + (Int32.ofNat mm))), (.ref a1)])) rfl (by rw [hml]; rfl) (Steps.refl _) (argsL := [(.int (k + (Int32.ofNat mm)))]) (rest := []) (lenOf pd__I_V rfl) rfl (by show 2 * 0 + _ ≤ _; exact Nat.le_of_eq rfl) (hb hby d20_14) (fun _ _ => ⟨rfl, eG2, (by decide : 0 + 0 ≤ _), (by decide : 0 + 0 ≤ _)⟩)
  dsimp only [Pt.U, Pt.locs, Pt.cells, Pt.slots] at X3 l3 y3 z3 st3 hQ3
  try dsimp only [Nat.reduceAdd] at y3 z3
  rw [l3, y3, z3] at X3
  obtain ⟨rfl, Nq3, eH3⟩ := hQ3
  have N3 := Fr.app N0 Nq3
  refine own_tr st3 ?_
  show own_Go p e below T3 (mkF m 17 #[.val (.ref a1), .val (.int xi), .val (.int k), .val (.int (k + (Int32.ofNat mm)))] []) _
  refine own_st (fun t_ k_ => XS.aloadN X3.here hx rfl (hb hby d20_17) rfl rfl k_) ?_
  show own_Go p e below T3 (mkF m 18 #[.val (.ref a1), .val (.int xi), .val (.int k), .val (.int (k + (Int32.ofNat mm)))] [(.ref a1)]) _
  obtain ⟨cq4, kq4, qa4, qb4, qc4⟩ := isOf hZ eH3 pE_a1
  obtain ⟨_, _, ⟨T4, L4, k4, n4⟩, -, X4, ⟨Lc4, hQ4, l4, y4, z4⟩, st4⟩ := X3.virtualBack hx (y := (⟨"java/lang/AbstractStringBuilder", "isLatin1", "()Z"⟩ : MethodName)) (z := (⟨"java/lang/AbstractStringBuilder", "isLatin1", "()Z"⟩ : MethodName)) hown (mvT hZ (own_w hw 121 rfl)) (mvT hZ (own_w hw 122 rfl)) (notFace_of_selects (args := #[]) (mvT hZ (own_w hw 124 rfl))) (mvT hZ (own_w hw 124 rfl)) (mvT hZ (own_w hw 123 rfl)) (by decide) (backOf (W := 0) (rmAil l Z a0 hw [] a1 zc h0 n0 Z0 pE_a1 pF_coder_a1 pS_COMPACT_STRINGS pP5 pO) hZ (own_w hw 125 rfl) (own_w hw 61 rfl) (by decide) (by decide)) qa4 qc4 (g := (mkF m 18 #[.val (.ref a1), .val (.int xi), .val (.int k), .val (.int (k + (Int32.ofNat mm)))] [(.ref a1)])) rfl (by rw [hml]; rfl) (Steps.refl _) (argsL := []) (rest := []) (lenOf pd___Z rfl) rfl (by show 2 * 0 + _ ≤ _; exact Nat.le_of_eq rfl) (hb hby d20_18) (fun _ _ => ⟨rfl, eH3, (by decide : 0 + 0 ≤ _), (by decide : 0 + 0 ≤ _)⟩)
  dsimp only [Pt.U, Pt.locs, Pt.cells, Pt.slots] at X4 l4 y4 z4 st4 hQ4
  try dsimp only [Nat.reduceAdd] at y4 z4
  rw [l4, y4, z4] at X4
  obtain ⟨rfl, Nq4, eH4⟩ := hQ4
  have N4 := Fr.app N3 Nq4
  refine own_tr st4 ?_
  show own_Go p e below T4 (mkF m 21 #[.val (.ref a1), .val (.int xi), .val (.int k), .val (.int (k + (Int32.ofNat mm)))] [(.int (1 : Int32))]) _
  refine own_st (fun t_ k_ => XS.ifNo X4.here hx rfl (hb hby d20_21) rfl (by decide) (XS.iloadN X4.here hx rfl (hb hby d20_24) rfl (XS.iloadN X4.here hx rfl (hb hby d20_25) rfl (XS.aloadN X4.here hx rfl (hb hby d20_26) rfl rfl k_)))) ?_
  show own_Go p e below T4 (mkF m 27 #[.val (.ref a1), .val (.int xi), .val (.int k), .val (.int (k + (Int32.ofNat mm)))] [(.ref a1), (.int (k + (Int32.ofNat mm))), (.int xi)]) _
  obtain ⟨T5, X5, e5, st5⟩ := getF X4 hx hZ hown (host := "") (Or.inl (own_w hw 65 rfl)) Via.refl eH4 pF_value_a1 (g := (mkF m 27 #[.val (.ref a1), .val (.int xi), .val (.int k), .val (.int (k + (Int32.ofNat mm)))] [(.ref a1), (.int (k + (Int32.ofNat mm))), (.int xi)])) rfl rfl (hb hby d20_27)
  refine own_st st5 ?_
  show own_Go p e below T5 (mkF m 30 #[.val (.ref a1), .val (.int xi), .val (.int k), .val (.int (k + (Int32.ofNat mm)))] [(.ref va), (.int (k + (Int32.ofNat mm))), (.int xi)]) _
  obtain ⟨cl, Ar, qc, Sz, Nn, Hh, Gg⟩ := id pV_va
  have hcs : cl.slots.size = bs.length + rest.length := by rw [Sz]; exact own_clamp hcap
  obtain ⟨_, _, ⟨T7, L7, k7, n7⟩, -, X7, ⟨hv7, hc7, y7, z7, hsz7, hkp7, Lc7, l7, hbs7⟩, st7⟩ := Jvm.LawKit.callS X5 hx (y := (⟨"java/lang/Integer", "getChars", "(II[B)I"⟩ : MethodName)) hown (mvT hZ (own_w hw 126 rfl)) (mvT hZ (own_w hw 127 rfl)) (mvT hZ (own_w hw 119 rfl)) (mvT hZ (own_w hw 128 rfl)) (by decide) (Jvm.Free.SBG.GetChars.pays ⟨xi, nn, bs.length + mm, va, cl, dst, dg1, DD1, dg2, DD2⟩ 0 (by simp only [Jvm.Free.SBG.GetChars.tab, Cond.before_and, Bool.and_eq_true]; exact ⟨mvT hZ (own_w hw 128 rfl), mvT hZ (own_w hw 129 rfl), mvT hZ (own_w hw 154 rfl)⟩) (mvT hZ (own_w hw 119 rfl)) (by decide) (by decide)) (g := (mkF m 30 #[.val (.ref a1), .val (.int xi), .val (.int k), .val (.int (k + (Int32.ofNat mm)))] [(.ref va), (.int (k + (Int32.ofNat mm))), (.int xi)])) rfl (by rw [hml]; rfl) (argsL := [(.int xi), (.int (k + (Int32.ofNat mm))), (.ref va)]) (rest := []) (lenOf pd__II_B_I rfl) rfl (by show 2 * 0 + _ ≤ _; exact Nat.le_of_eq rfl) (hb hby d20_30) (fun vm₁ hW => ⟨by show #[Value.int xi, .int (k + Int32.ofNat mm), .ref va] = #[Value.int xi, .int (Int32.ofNat (bs.length + mm)), .ref va]; rw [hix], (by decide : 0 ≤ _), (by decide : 0 ≤ _), by rw [show ([Value.int xi, .int (k + Int32.ofNat mm), .ref va] : List Value).toArray = #[Value.int xi, .int (Int32.ofNat (bs.length + mm)), .ref va] from by rw [hix]]; exact own_gcP (U := T5.setVm vm₁) (hZ.alike.trans hW.alike) e5 pO pG_va Ar (by omega) (by omega) (by omega) hnn hneg pT1 pT2⟩)
  dsimp only [Pt.U, Pt.locs, Pt.cells, Pt.slots] at X7 hc7 y7 z7 hsz7 hkp7 l7 st7
  rw [l7, y7, z7] at X7
  subst hv7
  obtain ⟨Kq7, cs, hdc, Vq7⟩ := own_gcQ (h := h0) (h' := T7.heap) Ar qc Sz Nn Hh Gg hcap hft hmm hnn hneg pO1 hc7 (by rw [hsz7]; exact congrArg Array.size e5) (fun y cy hy hq => hkp7 y cy hy (by show T5.heap[y]? = _; rw [show T5.heap = h0 from e5]; exact hq))
  have N7 := Fr.app N4 (fun y hy => by rw [hbs7 y hy]; exact pG_va : Fr n0 Lc7)
  have K8 : Keep h0 T7.heap [a1, va] := (Keep.refl h0 [a1, va]).trans Kq7 (allS (Or.inl (List.mem_of_getElem? (i := 1) rfl)) all0)
  refine own_st st7 ?_
  show own_Go p e below T7 (mkF m 33 #[.val (.ref a1), .val (.int xi), .val (.int k), .val (.int (k + (Int32.ofNat mm)))] [(.int (Int32.ofNat (bs.length + mm - (Jvm.Free.SBG.digits nn + Jvm.Free.SBG.GetChars.sgn xi))))]) _
  refine own_st (fun t_ k_ => XS.pop X7.here hx rfl (hb hby d20_33) rfl rfl (XS.goto X7.here hx rfl (pc0 := 34) (pc' := 48) rfl (hb hby d20_34) (by decide) (by decide) (XS.aloadN X7.here hx rfl (hb hby d20_48) rfl rfl (XS.iloadN X7.here hx rfl (hb hby d20_49) rfl k_)))) ?_
  show own_Go p e below T7 (mkF m 50 #[.val (.ref a1), .val (.int xi), .val (.int k), .val (.int (k + (Int32.ofNat mm)))] [(.int (k + (Int32.ofNat mm))), (.ref a1)]) _
  have f9 := (pE_a1.keep Kq7)
  have f10 := (pF_count_a1.keep Kq7 (ninS (Exa.neArv f9 Vq7 (own_w hw 52 rfl)) nin0))
  obtain ⟨T11, h11, X11, e11, W11, st11⟩ := putF X7 hx hZ hown (host := "") (Or.inl (own_w hw 80 rfl)) Via.refl rfl f10 f9 (Or.inl (own_w hw 81 rfl)) (own_w hw 52 rfl) (ty := .int) (by decide) rfl rfl (g := (mkF m 50 #[.val (.ref a1), .val (.int xi), .val (.int k), .val (.int (k + (Int32.ofNat mm)))] [(.int (k + (Int32.ofNat mm))), (.ref a1)])) rfl rfl (hb hby d20_50)
  have F11 := f10.same W11
  have K12 : Keep h0 h11 [a1, va] := K8.wr W11 (Or.inl (List.mem_of_getElem? (i := 0) rfl))
  have N11 := Fr.snoc X11 N7 pG_a1
  refine own_st st11 ?_
  show own_Go p e below T11 (mkF m 53 #[.val (.ref a1), .val (.int xi), .val (.int k), .val (.int (k + (Int32.ofNat mm)))] []) _
  refine own_st (fun t_ k_ => XS.aloadN X11.here hx rfl (hb hby d20_53) rfl rfl k_) ?_
  show own_Go p e below T11 (mkF m 54 #[.val (.ref a1), .val (.int xi), .val (.int k), .val (.int (k + (Int32.ofNat mm)))] [(.ref a1)]) _
  have f13 := (f9.wr W11)
  have f14 := ((pF_value_a1.keep Kq7 (ninS (Exa.neArv f9 Vq7 (own_w hw 52 rfl)) nin0)).other W11 (Or.inr (slot_ne (Or.inl (own_w hw 66 rfl)) (Or.inl (own_w hw 81 rfl)) (by decide) (t := (.array .byte)) (t' := .int) (by decide) (by decide))))
  have f15 := ((pF_coder_a1.keep Kq7 (ninS (Exa.neArv f9 Vq7 (own_w hw 52 rfl)) nin0)).other W11 (Or.inr (slot_ne (Or.inl (own_w hw 68 rfl)) (Or.inl (own_w hw 81 rfl)) (by decide) (t := .byte) (t' := .int) (by decide) (by decide))))
  have f16 := (Vq7.other W11 (Ne.symm (Exa.neArv f9 Vq7 (own_w hw 52 rfl))))
  obtain ⟨fs, hr, hrun, hended, hW, hsame⟩ := X11.leave (v := some (.ref a1)) (fun h => by rw [Bd.returns] at h; cases h)
  refine own_fin (own_retR X11 hx rfl Bd.returns rfl (hb hby d20_54) hr) ⟨hrun, hended, _, _, rfl, ?_, ⟨_, rfl⟩, hW, hsame.mono (by decide) (by decide)⟩
  show Q_rmAi Z a1 va kva cap k bs rest xi zc dst dg1 DD1 dg2 DD2 h0 n0 _ T11.heap _
  rw [e11]
  exact ⟨mm, cs, rfl, N11, K12, f13, f14, f15, F11, f16, ⟨hdc, hm11⟩⟩
theorem d19_0 : decode jdk_67_method_15_code 0 = .ok (.aload_n 0, 1) := by decide +kernel
theorem d19_1 : decode jdk_67_method_15_code 1 = .ok (.iload_n 1, 1) := by decide +kernel
theorem d19_2 : decode jdk_67_method_15_code 2 = .ok (.invokespecial 53, 3) := by decide +kernel
theorem d19_5 : decode jdk_67_method_15_code 5 = .ok (.pop, 1) := by decide +kernel
theorem d19_6 : decode jdk_67_method_15_code 6 = .ok (.aload_n 0, 1) := by decide +kernel
theorem d19_7 : decode jdk_67_method_15_code 7 = .ok (.areturn, 1) := by decide +kernel
theorem pn_19 : plainName "java/lang/StringBuilder" = true := by first | (simp [plainName, overriddenIn]; done) | decide +kernel
theorem pd__I_Ljava_lang_AbstractStringBuilder_ : parseMethodDescriptor "(I)Ljava/lang/AbstractStringBuilder;" = some ⟨[.int], some (.object "java/lang/AbstractStringBuilder")⟩ := by decide +kernel
theorem ef_rmSi_ (m : MethodId) (x0 : Addr) (x1 : Int32) : entryFrame m #[(.ref x0), (.int x1)] 2 = mkF m 0 #[.val (.ref x0), .val (.int x1)] [] := by first | (simp [entryFrame, mkF, argsToLocals, Value.category]; done) | rfl
def Q_rmSi_ (Z : State) (a1 : Addr) (va : Addr) (kva : ClassId) (cap : Int32) (k : Int32) (bs : List Value) (rest : List Value) (xi : Int32) (zc : Int32) (dst : Addr) (dg1 : Addr) (DD1 : Cell) (dg2 : Addr) (DD2 : Cell) (h0 : Heap) (n0 : Nat) (v : Option Value) (h : Heap) (L : List Loc) : Prop := ∃ mm : Nat, ∃ cs : List Int32, v = some (.ref a1) ∧ Fr n0 L ∧ Keep h0 h [a1, va] ∧ Exa Z h a1 "java/lang/StringBuilder" ∧ Fld Z h a1 "java/lang/AbstractStringBuilder" "value" "[B" (.ref va) ∧ Fld Z h a1 "java/lang/AbstractStringBuilder" "coder" "B" (.int (0 : Int32)) ∧ Fld Z h a1 "java/lang/AbstractStringBuilder" "count" "I" (.int (k + (Int32.ofNat mm))) ∧ Arv Z h va kva .byte cap ((bs ++ ((cs : List Int32).map (fun c : Int32 => c.toInt8.toInt32)).map Value.int) ++ rest.drop mm) (.int 0) ∧ (own_Dec xi mm cs ∧ 1 ≤ mm ∧ mm ≤ 11)
set_option maxRecDepth 65536 in
set_option maxHeartbeats 40000000 in
theorem rmSi_ (l : Launch) (Z : State) (a0 : Array Value) (hw : ∀ d ∈ tables_1, d.before a0 Z = true) (ws : List Jvm.Cond) (a1 : Addr) (va : Addr) (kva : ClassId) (cap : Int32) (k : Int32) (bs : List Value) (rest : List Value) (xi : Int32) (zc : Int32) (dst : Addr) (dg1 : Addr) (DD1 : Cell) (dg2 : Addr) (DD2 : Cell) (h0 : Heap) (n0 : Nat) (Z0 : n0 ≤ h0.size) (pE_a1 : Exa Z h0 a1 "java/lang/StringBuilder") (pF_value_a1 : Fld Z h0 a1 "java/lang/AbstractStringBuilder" "value" "[B" (.ref va)) (pF_coder_a1 : Fld Z h0 a1 "java/lang/AbstractStringBuilder" "coder" "B" (.int (0 : Int32))) (pF_count_a1 : Fld Z h0 a1 "java/lang/AbstractStringBuilder" "count" "I" (.int k)) (pV_va : Arv Z h0 va kva .byte cap (bs ++ rest) (.int 0)) (hk : (k.toInt = (bs.length : Int))) (hcap : (cap.toInt = ((bs.length + rest.length : Nat) : Int))) (hfit : (11 ≤ rest.length ∨ (0 ≤ xi.toInt ∧ xi.toInt ≤ 9 ∧ 1 ≤ rest.length))) (hbig : (bs.length + rest.length ≤ 1000000)) (pT1 : (Jvm.Free.SBG.Tbl Z "DigitOnes" dst dg1 DD1)) (pT2 : (Jvm.Free.SBG.Tbl Z "DigitTens" dst dg2 DD2)) (pO1 : (Jvm.Free.SBG.Ones DD1)) (pG_a1 : n0 ≤ a1) (pG_va : n0 ≤ va) (pS_COMPACT_STRINGS : Sta Z Z.heap "java/lang/String" "COMPACT_STRINGS" "Z" (.int zc)) (pP5 : (¬ (zc = (0 : Int32)))) (pO : Old Z n0 h0) :
    MetFree l (⟨"java/lang/StringBuilder", "append", "(I)Ljava/lang/StringBuilder;"⟩ : MethodName) (head1 (Jvm.Cond.code (⟨"java/lang/StringBuilder", "append", "(I)Ljava/lang/StringBuilder;"⟩ : MethodName) jdk_67_method_15_code 2 (some (.object "java/lang/StringBuilder")) :: ws) ({ frames := 3, cells := 0, slots := 0, locals := 93 } : Room)) (fun a U => a = #[(.ref a1), (.int xi)] ∧ Z.Warmed39 U.vm ∧ U.heap = h0) (fun _ _ _ _ _ => True) (fun _ U o U' => ∃ v L, o = .returned v ∧ Q_rmSi_ Z a1 va kva cap k bs rest xi zc dst dg1 DD1 dg2 DD2 h0 n0 v U'.heap L ∧ FrameEnd U o U' L ({ frames := 3, cells := 0, slots := 0, locals := 93 } : Room).cells ({ frames := 3, cells := 0, slots := 0, locals := 93 } : Room).slots) := by
  refine MetFree.of_bodySF (plainFor_of_name pn_19) hisR ?_
  intro p e s m args below meth c s₁ Bd hml0 hP hK
  obtain ⟨rfl, hZ, hh⟩ := hP
  have hx := Bd.exec
  have hby := Bd.bytes
  have hml : c.maxLocals = 2 := hml0
  have hown : s.vm.findClass "java/lang/StringBuilder" = some m.cls := findClass_of_methodNamed Bd.named
  have hnm := (name_of_methodNamed Bd.named Bd.method).1
  have X0 : Stand p l e ({ frames := 3, cells := 0, slots := 0, locals := 93 } : Room) s m #[(.ref a1), (.int xi)] below meth c s₁ [] 0 0 := Stand.of_body Bd
  have e0 : s₁.heap = h0 := by rw [← hh, Bd.state]; rfl
  have N0 := Fr.nil n0
  refine own_enter (ef_rmSi_ m a1 xi) ?_
  refine own_st (fun t_ k_ => XS.aloadN X0.here hx rfl (hb hby d19_0) rfl rfl (XS.iloadN X0.here hx rfl (hb hby d19_1) rfl k_)) ?_
  show own_Go p e below s₁ (mkF m 2 #[.val (.ref a1), .val (.int xi)] [(.int xi), (.ref a1)]) _
  obtain ⟨_, _, ⟨T1, L1, k1, n1⟩, -, X1, ⟨Lc1, hQ1, l1, y1, z1⟩, st1⟩ := superBack X0 hx hZ (y := (⟨"java/lang/AbstractStringBuilder", "append", "(I)Ljava/lang/AbstractStringBuilder;"⟩ : MethodName)) hown (own_w hw 113 rfl) (own_same (y := (⟨"java/lang/AbstractStringBuilder", "append", "(I)Ljava/lang/AbstractStringBuilder;"⟩ : MethodName)) (y' := (⟨"java/lang/AbstractStringBuilder", "getValue", "()[B"⟩ : MethodName)) (own_w hw 115 rfl) (own_w hw 171 rfl) rfl (by decide)) (own_w hw 114 rfl) (own_w hw 76 rfl) (by decide) (backOf (W := 0) (rmAi l Z a0 hw [] a1 va kva cap k bs rest xi zc _ _ _ _ _ h0 n0 Z0 pE_a1 pF_value_a1 pF_coder_a1 pF_count_a1 pV_va hk hcap hfit hbig pT1 pT2 pO1 pG_a1 pG_va pS_COMPACT_STRINGS pP5 pO) hZ (own_w hw 116 rfl) (own_w hw 61 rfl) (by decide) (by decide)) e0 (Ins.self pE_a1) (g := (mkF m 2 #[.val (.ref a1), .val (.int xi)] [(.int xi), (.ref a1)])) rfl (by rw [hml]; rfl) (own_w hw 116 rfl) (argsL := [(.int xi)]) (rest := []) (lenOf pd__I_Ljava_lang_AbstractStringBuilder_ rfl) rfl (by show 2 * 0 + _ ≤ _; exact Nat.le_of_eq rfl) (hb hby d19_2) (fun _ _ => ⟨rfl, e0, (by decide : 0 + 0 ≤ _), (by decide : 0 + 0 ≤ _)⟩)
  dsimp only [Pt.U, Pt.locs, Pt.cells, Pt.slots] at X1 l1 y1 z1 st1 hQ1
  try dsimp only [Nat.reduceAdd] at y1 z1
  rw [l1, y1, z1] at X1
  obtain ⟨mm_1, cs_1, rfl, Nq1, Kq1, q1_0, q1_1, q1_2, q1_3, q1_4, q1_5⟩ := hQ1
  have N1 := Fr.app N0 Nq1
  have K2 : Keep h0 T1.heap [a1, va] := (Keep.refl h0 [a1, va]).trans Kq1 (allS (Or.inl (List.mem_of_getElem? (i := 0) rfl)) (allS (Or.inl (List.mem_of_getElem? (i := 1) rfl)) all0))
  refine own_tr st1 ?_
  show own_Go p e below T1 (mkF m 5 #[.val (.ref a1), .val (.int xi)] [(.ref a1)]) _
  refine own_st (fun t_ k_ => XS.pop X1.here hx rfl (hb hby d19_5) rfl rfl (XS.aloadN X1.here hx rfl (hb hby d19_6) rfl rfl k_)) ?_
  show own_Go p e below T1 (mkF m 7 #[.val (.ref a1), .val (.int xi)] [(.ref a1)]) _
  obtain ⟨fs, hr, hrun, hended, hW, hsame⟩ := X1.leave (v := some (.ref a1)) (fun h => by rw [Bd.returns] at h; cases h)
  refine own_fin (own_retR X1 hx rfl Bd.returns rfl (hb hby d19_7) hr) ⟨hrun, hended, _, _, rfl, ?_, ⟨_, rfl⟩, hW, hsame.mono (by decide) (by decide)⟩
  show Q_rmSi_ Z a1 va kva cap k bs rest xi zc dst dg1 DD1 dg2 DD2 h0 n0 _ T1.heap _
  exact ⟨mm_1, cs_1, rfl, N1, K2, q1_0, q1_1, q1_2, q1_3, q1_4, q1_5⟩
theorem ef_rmAiG (m : MethodId) (x0 : Addr) (x1 : Int32) : entryFrame m #[(.ref x0), (.int x1)] 4 = mkF m 0 #[.val (.ref x0), .val (.int x1), .unset, .unset] [] := by first | (simp [entryFrame, mkF, argsToLocals, Value.category]; done) | rfl
def Q_rmAiG (Z : State) (a1 : Addr) (va : Addr) (kva : ClassId) (cap : Int32) (k : Int32) (bs : List Value) (rest : List Value) (xi : Int32) (zc : Int32) (dst : Addr) (dg1 : Addr) (DD1 : Cell) (dg2 : Addr) (DD2 : Cell) (h0 : Heap) (n0 : Nat) (v : Option Value) (h : Heap) (L : List Loc) : Prop := ∃ vb : Addr, ∃ kvb : ClassId, ∃ cap2 : Int32, ∃ r2 : List Value, ∃ mm : Nat, ∃ cs : List Int32, v = some (.ref a1) ∧ Fr n0 L ∧ Keep h0 h [a1] ∧ Exa Z h a1 "java/lang/StringBuilder" ∧ Fld Z h a1 "java/lang/AbstractStringBuilder" "value" "[B" (.ref vb) ∧ Fld Z h a1 "java/lang/AbstractStringBuilder" "coder" "B" (.int (0 : Int32)) ∧ Fld Z h a1 "java/lang/AbstractStringBuilder" "count" "I" (.int (k + (Int32.ofNat mm))) ∧ Arv Z h vb kvb .byte cap2 ((bs ++ ((cs : List Int32).map (fun c : Int32 => c.toInt8.toInt32)).map Value.int) ++ r2) (.int 0) ∧ h0.size ≤ vb ∧ n0 ≤ vb ∧ (own_gr cap (k + (Int32.ofNat mm)) cap2 ∧ cap2.toInt = ((bs.length + (((cs : List Int32).map (fun c : Int32 => c.toInt8.toInt32)).map Value.int : List Value).length + r2.length : Nat) : Int)) ∧ (own_Dec xi mm cs ∧ 1 ≤ mm ∧ mm ≤ 11)
set_option maxRecDepth 65536 in
set_option maxHeartbeats 40000000 in
theorem rmAiG (l : Launch) (Z : State) (a0 : Array Value) (hw : ∀ d ∈ tables_1, d.before a0 Z = true) (ws : List Jvm.Cond) (a1 : Addr) (va : Addr) (kva : ClassId) (cap : Int32) (k : Int32) (bs : List Value) (rest : List Value) (xi : Int32) (zc : Int32) (dst : Addr) (dg1 : Addr) (DD1 : Cell) (dg2 : Addr) (DD2 : Cell) (h0 : Heap) (n0 : Nat) (Z0 : n0 ≤ h0.size) (pE_a1 : Exa Z h0 a1 "java/lang/StringBuilder") (pF_value_a1 : Fld Z h0 a1 "java/lang/AbstractStringBuilder" "value" "[B" (.ref va)) (pF_coder_a1 : Fld Z h0 a1 "java/lang/AbstractStringBuilder" "coder" "B" (.int (0 : Int32))) (pF_count_a1 : Fld Z h0 a1 "java/lang/AbstractStringBuilder" "count" "I" (.int k)) (pV_va : Arv Z h0 va kva .byte cap (bs ++ rest) (.int 0)) (hk : (k.toInt = (bs.length : Int))) (hcap : (cap.toInt = ((bs.length + rest.length : Nat) : Int))) (hgt : (rest.length < 1)) (hbd : (bs.length + 11 ≤ 70 ∧ 2 * (bs.length + rest.length) + 2 ≤ 70)) (pT1 : (Jvm.Free.SBG.Tbl Z "DigitOnes" dst dg1 DD1)) (pT2 : (Jvm.Free.SBG.Tbl Z "DigitTens" dst dg2 DD2)) (pO1 : (Jvm.Free.SBG.Ones DD1)) (pG_a1 : n0 ≤ a1) (pG_va : n0 ≤ va) (pS_COMPACT_STRINGS : Sta Z Z.heap "java/lang/String" "COMPACT_STRINGS" "Z" (.int zc)) (pP5 : (¬ (zc = (0 : Int32)))) (pO : Old Z n0 h0) :
    MetFree l (⟨"java/lang/AbstractStringBuilder", "append", "(I)Ljava/lang/AbstractStringBuilder;"⟩ : MethodName) (head1 (Jvm.Cond.code (⟨"java/lang/AbstractStringBuilder", "append", "(I)Ljava/lang/AbstractStringBuilder;"⟩ : MethodName) jdk_68_method_32_code 4 (some (.object "java/lang/AbstractStringBuilder")) :: ws) ({ frames := 4, cells := 1, slots := 70, locals := 149 } : Room)) (fun a U => a = #[(.ref a1), (.int xi)] ∧ Z.Warmed39 U.vm ∧ U.heap = h0) (fun _ _ _ _ _ => True) (fun _ U o U' => ∃ v L, o = .returned v ∧ Q_rmAiG Z a1 va kva cap k bs rest xi zc dst dg1 DD1 dg2 DD2 h0 n0 v U'.heap L ∧ FrameEnd U o U' L ({ frames := 4, cells := 1, slots := 70, locals := 149 } : Room).cells ({ frames := 4, cells := 1, slots := 70, locals := 149 } : Room).slots) := by
  refine MetFree.of_bodySF (plainFor_of_name pn_20) hisR ?_
  intro p e s m args below meth c s₁ Bd hml0 hP hK
  obtain ⟨rfl, hZ, hh⟩ := hP
  have hx := Bd.exec
  have hby := Bd.bytes
  have hml : c.maxLocals = 4 := hml0
  have hown : s.vm.findClass "java/lang/AbstractStringBuilder" = some m.cls := findClass_of_methodNamed Bd.named
  have hnm := (name_of_methodNamed Bd.named Bd.method).1
  have X0 : Stand p l e ({ frames := 4, cells := 1, slots := 70, locals := 149 } : Room) s m #[(.ref a1), (.int xi)] below meth c s₁ [] 0 0 := Stand.of_body Bd
  have e0 : s₁.heap = h0 := by rw [← hh, Bd.state]; rfl
  have N0 := Fr.nil n0
  refine own_enter (ef_rmAiG m a1 xi) ?_
  refine own_st (fun t_ k_ => XS.aloadN X0.here hx rfl (hb hby d20_0) rfl rfl k_) ?_
  show own_Go p e below s₁ (mkF m 1 #[.val (.ref a1), .val (.int xi), .unset, .unset] [(.ref a1)]) _
  obtain ⟨T1, X1, e1, st1⟩ := getF X0 hx hZ hown (host := "") (Or.inl (own_w hw 80 rfl)) Via.refl e0 pF_count_a1 (g := (mkF m 1 #[.val (.ref a1), .val (.int xi), .unset, .unset] [(.ref a1)])) rfl rfl (hb hby d20_1)
  refine own_st st1 ?_
  show own_Go p e below T1 (mkF m 4 #[.val (.ref a1), .val (.int xi), .unset, .unset] [(.int k)]) _
  refine own_st (fun t_ k_ => XS.istoreN X1.here hx rfl (hb hby d20_4) rfl (l' := #[.val (.ref a1), .val (.int xi), .val (.int k), .unset]) rfl (XS.iloadN X1.here hx rfl (hb hby d20_5) rfl (XS.iloadN X1.here hx rfl (hb hby d20_6) rfl k_))) ?_
  show own_Go p e below T1 (mkF m 7 #[.val (.ref a1), .val (.int xi), .val (.int k), .unset] [(.int xi), (.int k)]) _
  obtain ⟨nn, hnn, hneg⟩ := Jvm.Free.SBG.negI_of xi
  obtain ⟨mm, hmm⟩ : ∃ m : Nat, m = Jvm.Free.SBG.digits nn + Jvm.Free.SBG.GetChars.sgn xi := ⟨_, rfl⟩
  have hm11 : 1 ≤ mm ∧ mm ≤ 11 := by have := Jvm.Free.SBG.digits_pos nn; rw [hmm]; unfold Jvm.Free.SBG.GetChars.sgn; split <;> omega
  obtain ⟨_, _, ⟨T2, L2, k2, n2⟩, -, X2, ⟨⟨eH2, l2, y2, z2⟩, hv2⟩, st2⟩ := Jvm.LawKit.callS X1 hx (y := (⟨"java/lang/Integer", "stringSize", "(I)I"⟩ : MethodName)) hown (mvT hZ (own_w hw 117 rfl)) (mvT hZ (own_w hw 118 rfl)) (mvT hZ (own_w hw 119 rfl)) (mvT hZ (own_w hw 120 rfl)) (by decide) (Jvm.Free.SBG.StrSize.pays (W := 1) (by decide) (by decide) (mvT hZ (own_w hw 120 rfl)) (mvT hZ (own_w hw 119 rfl))) (g := (mkF m 7 #[.val (.ref a1), .val (.int xi), .val (.int k), .unset] [(.int xi), (.int k)])) rfl (by rw [hml]; rfl) (argsL := [(.int xi)]) (rest := [(.int k)]) (lenOf pd__I_I rfl) rfl (by show 2 * 0 + _ ≤ _; exact Nat.le_of_eq rfl) (hb hby d20_7) (fun _ _ => ⟨(by decide : 0 ≤ _), (by decide : 0 ≤ _), xi, rfl⟩)
  dsimp only [Pt.U, Pt.locs, Pt.cells, Pt.slots] at X2 eH2 l2 y2 z2 st2 hv2
  rw [l2, y2, z2] at X2
  have hw2 := hv2 xi rfl
  rw [Jvm.Free.SBG.strSizeOf_eq hnn hneg, ← hmm] at hw2
  subst hw2
  have eG2 : T2.heap = h0 := by rw [eH2]; exact e1
  refine own_st st2 ?_
  show own_Go p e below T2 (mkF m 10 #[.val (.ref a1), .val (.int xi), .val (.int k), .unset] [(.int (Int32.ofNat mm)), (.int k)]) _
  have hkn := own_addI hk (own_ofNat (n := mm) (by omega)) (by omega)
  have hix : (k + Int32.ofNat mm) = Int32.ofNat (bs.length + mm) := own_eqOf hkn (by omega)
  refine own_st (fun t_ k_ => XS.iadd X2.here hx rfl (hb hby d20_10) rfl (XS.istoreN X2.here hx rfl (hb hby d20_11) rfl (l' := #[.val (.ref a1), .val (.int xi), .val (.int k), .val (.int (k + (Int32.ofNat mm)))]) rfl (XS.aloadN X2.here hx rfl (hb hby d20_12) rfl rfl (XS.iloadN X2.here hx rfl (hb hby d20_13) rfl k_)))) ?_
  show own_Go p e below T2 (mkF m 14 #[.val (.ref a1), .val (.int xi), .val (.int k), .val (.int (k + (Int32.ofNat mm)))] [(.int (k + (Int32.ofNat mm))), (.ref a1)]) _
  obtain ⟨cq3, kq3, qa3, qb3, qc3⟩ := isOf hZ eG2 pE_a1
  obtain ⟨_, _, ⟨T3, L3, k3, n3⟩, -, X3, ⟨Lc3, hQ3, l3, y3, z3⟩, st3⟩ := X2.virtualBack hx (y := (⟨"java/lang/AbstractStringBuilder", "ensureCapacityInternal", "(I)V"⟩ : MethodName)) (z := (⟨"java/lang/AbstractStringBuilder", "ensureCapacityInternal", "(I)V"⟩ : MethodName)) hown (mvT hZ (own_w hw 82 rfl)) (mvT hZ (own_decl (own_w hw 83 rfl) (own_w hw 86 rfl))) (notFace_of_selects (args := #[]) (mvT hZ (own_w hw 85 rfl))) (mvT hZ (own_w hw 85 rfl)) (mvT hZ (own_w hw 83 rfl)) (by decide) (backOf (W := 0) (rmEg l Z a0 hw [] a1 va kva cap ((bs ++ rest)) ((k + (Int32.ofNat mm))) k h0 n0 Z0 pE_a1 pF_value_a1 pF_coder_a1 pV_va pF_count_a1 (by omega) (by rw [List.length_append]; exact hcap) (by omega) pG_a1) hZ (own_w hw 86 rfl) (own_w hw 61 rfl) (by decide) (by decide)) qa3 qc3 (g := (mkF m 14 #[.val (.ref a1), .val (.int xi), .val (.int k), .val (.int (k + (Int32.ofNat mm)))] [(.int (k + (Int32.ofNat mm))), (.ref a1)])) rfl (by rw [hml]; rfl) (Steps.refl _) (argsL := [(.int (k + (Int32.ofNat mm)))]) (rest := []) (lenOf pd__I_V rfl) rfl (by show 2 * 0 + _ ≤ _; exact Nat.le_of_eq rfl) (hb hby d20_14) (fun _ _ => ⟨rfl, eG2, (by decide : 0 + 1 ≤ _), (by decide : 0 + 70 ≤ _)⟩)
  dsimp only [Pt.U, Pt.locs, Pt.cells, Pt.slots] at X3 l3 y3 z3 st3 hQ3
  try dsimp only [Nat.reduceAdd] at y3 z3
  rw [l3, y3, z3] at X3
  obtain ⟨vb_3, kvb_3, cap2_3, r2_3, rfl, Nq3, Kq3, q3_0, q3_1, q3_2, q3_3, q3_4, q3_5, q3_6, q3_7⟩ := hQ3
  have N3 := Fr.app N0 Nq3
  have K4 : Keep h0 T3.heap [a1] := (Keep.refl h0 [a1]).trans Kq3 (allS (Or.inl (List.mem_of_getElem? (i := 0) rfl)) all0)
  have Bf5 : h0.size ≤ vb_3 := Nat.le_trans (Keep.refl h0 [a1]).1 q3_4
  refine own_tr st3 ?_
  show own_Go p e below T3 (mkF m 17 #[.val (.ref a1), .val (.int xi), .val (.int k), .val (.int (k + (Int32.ofNat mm)))] []) _
  have hgq := q3_6
  have hgz := hgq.1
  unfold own_gr at hgz
  have hgl := hgq.2
  rw [List.length_append] at hgl
  have Vg := q3_3
  rw [List.append_assoc] at Vg
  have hgc : cap2_3.toInt = ((bs.length + (rest ++ r2_3).length : Nat) : Int) := by rw [List.length_append]; omega
  have hft : mm ≤ (rest ++ r2_3).length := by rw [List.length_append]; omega
  refine own_st (fun t_ k_ => XS.aloadN X3.here hx rfl (hb hby d20_17) rfl rfl k_) ?_
  show own_Go p e below T3 (mkF m 18 #[.val (.ref a1), .val (.int xi), .val (.int k), .val (.int (k + (Int32.ofNat mm)))] [(.ref a1)]) _
  have f6 := (Nat.le_trans Z0 Kq3.1)
  have f7 := (pO.keep Kq3 (allS pG_a1 all0))
  obtain ⟨cq8, kq8, qa8, qb8, qc8⟩ := isOf hZ rfl q3_0
  obtain ⟨_, _, ⟨T8, L8, k8, n8⟩, -, X8, ⟨Lc8, hQ8, l8, y8, z8⟩, st8⟩ := X3.virtualBack hx (y := (⟨"java/lang/AbstractStringBuilder", "isLatin1", "()Z"⟩ : MethodName)) (z := (⟨"java/lang/AbstractStringBuilder", "isLatin1", "()Z"⟩ : MethodName)) hown (mvT hZ (own_w hw 121 rfl)) (mvT hZ (own_w hw 122 rfl)) (notFace_of_selects (args := #[]) (mvT hZ (own_w hw 124 rfl))) (mvT hZ (own_w hw 124 rfl)) (mvT hZ (own_w hw 123 rfl)) (by decide) (backOf (W := 0) (rmAil l Z a0 hw [] a1 zc T3.heap n0 f6 q3_0 q3_2 pS_COMPACT_STRINGS pP5 f7) hZ (own_w hw 125 rfl) (own_w hw 61 rfl) (by decide) (by decide)) qa8 qc8 (g := (mkF m 18 #[.val (.ref a1), .val (.int xi), .val (.int k), .val (.int (k + (Int32.ofNat mm)))] [(.ref a1)])) rfl (by rw [hml]; rfl) (Steps.refl _) (argsL := []) (rest := []) (lenOf pd___Z rfl) rfl (by show 2 * 0 + _ ≤ _; exact Nat.le_of_eq rfl) (hb hby d20_18) (fun _ _ => ⟨rfl, rfl, (by decide : 1 + 0 ≤ _), (by decide : 70 + 0 ≤ _)⟩)
  dsimp only [Pt.U, Pt.locs, Pt.cells, Pt.slots] at X8 l8 y8 z8 st8 hQ8
  try dsimp only [Nat.reduceAdd] at y8 z8
  rw [l8, y8, z8] at X8
  obtain ⟨rfl, Nq8, eH8⟩ := hQ8
  have N8 := Fr.app N3 Nq8
  refine own_tr st8 ?_
  show own_Go p e below T8 (mkF m 21 #[.val (.ref a1), .val (.int xi), .val (.int k), .val (.int (k + (Int32.ofNat mm)))] [(.int (1 : Int32))]) _
  refine own_st (fun t_ k_ => XS.ifNo X8.here hx rfl (hb hby d20_21) rfl (by decide) (XS.iloadN X8.here hx rfl (hb hby d20_24) rfl (XS.iloadN X8.here hx rfl (hb hby d20_25) rfl (XS.aloadN X8.here hx rfl (hb hby d20_26) rfl rfl k_)))) ?_
  show own_Go p e below T8 (mkF m 27 #[.val (.ref a1), .val (.int xi), .val (.int k), .val (.int (k + (Int32.ofNat mm)))] [(.ref a1), (.int (k + (Int32.ofNat mm))), (.int xi)]) _
  obtain ⟨T9, X9, e9, st9⟩ := getF X8 hx hZ hown (host := "") (Or.inl (own_w hw 65 rfl)) Via.refl eH8 q3_1 (g := (mkF m 27 #[.val (.ref a1), .val (.int xi), .val (.int k), .val (.int (k + (Int32.ofNat mm)))] [(.ref a1), (.int (k + (Int32.ofNat mm))), (.int xi)])) rfl rfl (hb hby d20_27)
  refine own_st st9 ?_
  show own_Go p e below T9 (mkF m 30 #[.val (.ref a1), .val (.int xi), .val (.int k), .val (.int (k + (Int32.ofNat mm)))] [(.ref vb_3), (.int (k + (Int32.ofNat mm))), (.int xi)]) _
  obtain ⟨cl, Ar, qc, Sz, Nn, Hh, Gg⟩ := id Vg
  have hcs : cl.slots.size = bs.length + (rest ++ r2_3).length := by rw [Sz]; exact own_clamp hgc
  obtain ⟨_, _, ⟨T11, L11, k11, n11⟩, -, X11, ⟨hv11, hc11, y11, z11, hsz11, hkp11, Lc11, l11, hbs11⟩, st11⟩ := Jvm.LawKit.callS X9 hx (y := (⟨"java/lang/Integer", "getChars", "(II[B)I"⟩ : MethodName)) hown (mvT hZ (own_w hw 126 rfl)) (mvT hZ (own_w hw 127 rfl)) (mvT hZ (own_w hw 119 rfl)) (mvT hZ (own_w hw 128 rfl)) (by decide) (Jvm.Free.SBG.GetChars.pays ⟨xi, nn, bs.length + mm, vb_3, cl, dst, dg1, DD1, dg2, DD2⟩ 0 (by simp only [Jvm.Free.SBG.GetChars.tab, Cond.before_and, Bool.and_eq_true]; exact ⟨mvT hZ (own_w hw 128 rfl), mvT hZ (own_w hw 129 rfl), mvT hZ (own_w hw 154 rfl)⟩) (mvT hZ (own_w hw 119 rfl)) (by decide) (by decide)) (g := (mkF m 30 #[.val (.ref a1), .val (.int xi), .val (.int k), .val (.int (k + (Int32.ofNat mm)))] [(.ref vb_3), (.int (k + (Int32.ofNat mm))), (.int xi)])) rfl (by rw [hml]; rfl) (argsL := [(.int xi), (.int (k + (Int32.ofNat mm))), (.ref vb_3)]) (rest := []) (lenOf pd__II_B_I rfl) rfl (by show 2 * 0 + _ ≤ _; exact Nat.le_of_eq rfl) (hb hby d20_30) (fun vm₁ hW => ⟨by show #[Value.int xi, .int (k + Int32.ofNat mm), .ref vb_3] = #[Value.int xi, .int (Int32.ofNat (bs.length + mm)), .ref vb_3]; rw [hix], (by decide : 1 ≤ _), (by decide : 70 ≤ _), by rw [show ([Value.int xi, .int (k + Int32.ofNat mm), .ref vb_3] : List Value).toArray = #[Value.int xi, .int (Int32.ofNat (bs.length + mm)), .ref vb_3] from by rw [hix]]; exact own_gcP (U := T9.setVm vm₁) (hZ.alike.trans hW.alike) e9 f7 q3_5 Ar (by omega) (by omega) (by omega) hnn hneg pT1 pT2⟩)
  dsimp only [Pt.U, Pt.locs, Pt.cells, Pt.slots] at X11 hc11 y11 z11 hsz11 hkp11 l11 st11
  rw [l11, y11, z11] at X11
  subst hv11
  obtain ⟨Kq11, cs, hdc, Vq11⟩ := own_gcQ (h := T3.heap) (h' := T11.heap) Ar qc Sz Nn Hh Gg hgc hft hmm hnn hneg pO1 hc11 (by rw [hsz11]; exact congrArg Array.size e9) (fun y cy hy hq => hkp11 y cy hy (by show T9.heap[y]? = _; rw [show T9.heap = T3.heap from e9]; exact hq))
  have N11 := Fr.app N8 (fun y hy => by rw [hbs11 y hy]; exact q3_5 : Fr n0 Lc11)
  have K12 : Keep h0 T11.heap [a1] := K4.trans Kq11 (allS (Or.inr Bf5) all0)
  refine own_st st11 ?_
  show own_Go p e below T11 (mkF m 33 #[.val (.ref a1), .val (.int xi), .val (.int k), .val (.int (k + (Int32.ofNat mm)))] [(.int (Int32.ofNat (bs.length + mm - (Jvm.Free.SBG.digits nn + Jvm.Free.SBG.GetChars.sgn xi))))]) _
  refine own_st (fun t_ k_ => XS.pop X11.here hx rfl (hb hby d20_33) rfl rfl (XS.goto X11.here hx rfl (pc0 := 34) (pc' := 48) rfl (hb hby d20_34) (by decide) (by decide) (XS.aloadN X11.here hx rfl (hb hby d20_48) rfl rfl (XS.iloadN X11.here hx rfl (hb hby d20_49) rfl k_)))) ?_
  show own_Go p e below T11 (mkF m 50 #[.val (.ref a1), .val (.int xi), .val (.int k), .val (.int (k + (Int32.ofNat mm)))] [(.int (k + (Int32.ofNat mm))), (.ref a1)]) _
  have f13 := (q3_0.keep Kq11)
  have f14 := (q3_7.keep Kq11 (ninS (Nat.ne_of_lt (Nat.lt_of_lt_of_le pE_a1.lt q3_4)) nin0))
  obtain ⟨T15, h15, X15, e15, W15, st15⟩ := putF X11 hx hZ hown (host := "") (Or.inl (own_w hw 80 rfl)) Via.refl rfl f14 f13 (Or.inl (own_w hw 81 rfl)) (own_w hw 52 rfl) (ty := .int) (by decide) rfl rfl (g := (mkF m 50 #[.val (.ref a1), .val (.int xi), .val (.int k), .val (.int (k + (Int32.ofNat mm)))] [(.int (k + (Int32.ofNat mm))), (.ref a1)])) rfl rfl (hb hby d20_50)
  have F15 := f14.same W15
  have K16 : Keep h0 h15 [a1] := K12.wr W15 (Or.inl (List.mem_of_getElem? (i := 0) rfl))
  have N15 := Fr.snoc X15 N11 pG_a1
  refine own_st st15 ?_
  show own_Go p e below T15 (mkF m 53 #[.val (.ref a1), .val (.int xi), .val (.int k), .val (.int (k + (Int32.ofNat mm)))] []) _
  refine own_st (fun t_ k_ => XS.aloadN X15.here hx rfl (hb hby d20_53) rfl rfl k_) ?_
  show own_Go p e below T15 (mkF m 54 #[.val (.ref a1), .val (.int xi), .val (.int k), .val (.int (k + (Int32.ofNat mm)))] [(.ref a1)]) _
  have f17 := (f13.wr W15)
  have f18 := ((q3_1.keep Kq11 (ninS (Nat.ne_of_lt (Nat.lt_of_lt_of_le pE_a1.lt q3_4)) nin0)).other W15 (Or.inr (slot_ne (Or.inl (own_w hw 66 rfl)) (Or.inl (own_w hw 81 rfl)) (by decide) (t := (.array .byte)) (t' := .int) (by decide) (by decide))))
  have f19 := ((q3_2.keep Kq11 (ninS (Nat.ne_of_lt (Nat.lt_of_lt_of_le pE_a1.lt q3_4)) nin0)).other W15 (Or.inr (slot_ne (Or.inl (own_w hw 68 rfl)) (Or.inl (own_w hw 81 rfl)) (by decide) (t := .byte) (t' := .int) (by decide) (by decide))))
  have f20 := (Vq11.other W15 (Ne.symm (Nat.ne_of_lt (Nat.lt_of_lt_of_le pE_a1.lt q3_4))))
  obtain ⟨fs, hr, hrun, hended, hW, hsame⟩ := X15.leave (v := some (.ref a1)) (fun h => by rw [Bd.returns] at h; cases h)
  refine own_fin (own_retR X15 hx rfl Bd.returns rfl (hb hby d20_54) hr) ⟨hrun, hended, _, _, rfl, ?_, ⟨_, rfl⟩, hW, hsame.mono (by decide) (by decide)⟩
  show Q_rmAiG Z a1 va kva cap k bs rest xi zc dst dg1 DD1 dg2 DD2 h0 n0 _ T15.heap _
  rw [e15]
  exact ⟨vb_3, kvb_3, cap2_3, ((rest ++ r2_3).drop mm), mm, cs, rfl, N15, K16, f17, f18, f19, F15, f20, Bf5, q3_5, ⟨hgq.1, by rw [List.length_drop, List.length_append, List.length_map, List.length_map, hdc.1]; omega⟩, ⟨hdc, hm11⟩⟩
theorem ef_rmSiG (m : MethodId) (x0 : Addr) (x1 : Int32) : entryFrame m #[(.ref x0), (.int x1)] 2 = mkF m 0 #[.val (.ref x0), .val (.int x1)] [] := by first | (simp [entryFrame, mkF, argsToLocals, Value.category]; done) | rfl
def Q_rmSiG (Z : State) (a1 : Addr) (va : Addr) (kva : ClassId) (cap : Int32) (k : Int32) (bs : List Value) (rest : List Value) (xi : Int32) (zc : Int32) (dst : Addr) (dg1 : Addr) (DD1 : Cell) (dg2 : Addr) (DD2 : Cell) (h0 : Heap) (n0 : Nat) (v : Option Value) (h : Heap) (L : List Loc) : Prop := ∃ vb : Addr, ∃ kvb : ClassId, ∃ cap2 : Int32, ∃ r2 : List Value, ∃ mm : Nat, ∃ cs : List Int32, v = some (.ref a1) ∧ Fr n0 L ∧ Keep h0 h [a1] ∧ Exa Z h a1 "java/lang/StringBuilder" ∧ Fld Z h a1 "java/lang/AbstractStringBuilder" "value" "[B" (.ref vb) ∧ Fld Z h a1 "java/lang/AbstractStringBuilder" "coder" "B" (.int (0 : Int32)) ∧ Fld Z h a1 "java/lang/AbstractStringBuilder" "count" "I" (.int (k + (Int32.ofNat mm))) ∧ Arv Z h vb kvb .byte cap2 ((bs ++ ((cs : List Int32).map (fun c : Int32 => c.toInt8.toInt32)).map Value.int) ++ r2) (.int 0) ∧ h0.size ≤ vb ∧ n0 ≤ vb ∧ (own_gr cap (k + (Int32.ofNat mm)) cap2 ∧ cap2.toInt = ((bs.length + (((cs : List Int32).map (fun c : Int32 => c.toInt8.toInt32)).map Value.int : List Value).length + r2.length : Nat) : Int)) ∧ (own_Dec xi mm cs ∧ 1 ≤ mm ∧ mm ≤ 11)
set_option maxRecDepth 65536 in
set_option maxHeartbeats 40000000 in
theorem rmSiG (l : Launch) (Z : State) (a0 : Array Value) (hw : ∀ d ∈ tables_1, d.before a0 Z = true) (ws : List Jvm.Cond) (a1 : Addr) (va : Addr) (kva : ClassId) (cap : Int32) (k : Int32) (bs : List Value) (rest : List Value) (xi : Int32) (zc : Int32) (dst : Addr) (dg1 : Addr) (DD1 : Cell) (dg2 : Addr) (DD2 : Cell) (h0 : Heap) (n0 : Nat) (Z0 : n0 ≤ h0.size) (pE_a1 : Exa Z h0 a1 "java/lang/StringBuilder") (pF_value_a1 : Fld Z h0 a1 "java/lang/AbstractStringBuilder" "value" "[B" (.ref va)) (pF_coder_a1 : Fld Z h0 a1 "java/lang/AbstractStringBuilder" "coder" "B" (.int (0 : Int32))) (pF_count_a1 : Fld Z h0 a1 "java/lang/AbstractStringBuilder" "count" "I" (.int k)) (pV_va : Arv Z h0 va kva .byte cap (bs ++ rest) (.int 0)) (hk : (k.toInt = (bs.length : Int))) (hcap : (cap.toInt = ((bs.length + rest.length : Nat) : Int))) (hgt : (rest.length < 1)) (hbd : (bs.length + 11 ≤ 70 ∧ 2 * (bs.length + rest.length) + 2 ≤ 70)) (pT1 : (Jvm.Free.SBG.Tbl Z "DigitOnes" dst dg1 DD1)) (pT2 : (Jvm.Free.SBG.Tbl Z "DigitTens" dst dg2 DD2)) (pO1 : (Jvm.Free.SBG.Ones DD1)) (pG_a1 : n0 ≤ a1) (pG_va : n0 ≤ va) (pS_COMPACT_STRINGS : Sta Z Z.heap "java/lang/String" "COMPACT_STRINGS" "Z" (.int zc)) (pP5 : (¬ (zc = (0 : Int32)))) (pO : Old Z n0 h0) :
    MetFree l (⟨"java/lang/StringBuilder", "append", "(I)Ljava/lang/StringBuilder;"⟩ : MethodName) (head1 (Jvm.Cond.code (⟨"java/lang/StringBuilder", "append", "(I)Ljava/lang/StringBuilder;"⟩ : MethodName) jdk_67_method_15_code 2 (some (.object "java/lang/StringBuilder")) :: ws) ({ frames := 5, cells := 1, slots := 70, locals := 164 } : Room)) (fun a U => a = #[(.ref a1), (.int xi)] ∧ Z.Warmed39 U.vm ∧ U.heap = h0) (fun _ _ _ _ _ => True) (fun _ U o U' => ∃ v L, o = .returned v ∧ Q_rmSiG Z a1 va kva cap k bs rest xi zc dst dg1 DD1 dg2 DD2 h0 n0 v U'.heap L ∧ FrameEnd U o U' L ({ frames := 5, cells := 1, slots := 70, locals := 164 } : Room).cells ({ frames := 5, cells := 1, slots := 70, locals := 164 } : Room).slots) := by
  refine MetFree.of_bodySF (plainFor_of_name pn_19) hisR ?_
  intro p e s m args below meth c s₁ Bd hml0 hP hK
  obtain ⟨rfl, hZ, hh⟩ := hP
  have hx := Bd.exec
  have hby := Bd.bytes
  have hml : c.maxLocals = 2 := hml0
  have hown : s.vm.findClass "java/lang/StringBuilder" = some m.cls := findClass_of_methodNamed Bd.named
  have hnm := (name_of_methodNamed Bd.named Bd.method).1
  have X0 : Stand p l e ({ frames := 5, cells := 1, slots := 70, locals := 164 } : Room) s m #[(.ref a1), (.int xi)] below meth c s₁ [] 0 0 := Stand.of_body Bd
  have e0 : s₁.heap = h0 := by rw [← hh, Bd.state]; rfl
  have N0 := Fr.nil n0
  refine own_enter (ef_rmSiG m a1 xi) ?_
  refine own_st (fun t_ k_ => XS.aloadN X0.here hx rfl (hb hby d19_0) rfl rfl (XS.iloadN X0.here hx rfl (hb hby d19_1) rfl k_)) ?_
  show own_Go p e below s₁ (mkF m 2 #[.val (.ref a1), .val (.int xi)] [(.int xi), (.ref a1)]) _
  obtain ⟨_, _, ⟨T1, L1, k1, n1⟩, -, X1, ⟨Lc1, hQ1, l1, y1, z1⟩, st1⟩ := superBack X0 hx hZ (y := (⟨"java/lang/AbstractStringBuilder", "append", "(I)Ljava/lang/AbstractStringBuilder;"⟩ : MethodName)) hown (own_w hw 113 rfl) (own_same (y := (⟨"java/lang/AbstractStringBuilder", "append", "(I)Ljava/lang/AbstractStringBuilder;"⟩ : MethodName)) (y' := (⟨"java/lang/AbstractStringBuilder", "getValue", "()[B"⟩ : MethodName)) (own_w hw 115 rfl) (own_w hw 171 rfl) rfl (by decide)) (own_w hw 114 rfl) (own_w hw 76 rfl) (by decide) (backOf (W := 0) (rmAiG l Z a0 hw [] a1 va kva cap k bs rest xi zc _ _ _ _ _ h0 n0 Z0 pE_a1 pF_value_a1 pF_coder_a1 pF_count_a1 pV_va hk hcap hgt hbd pT1 pT2 pO1 pG_a1 pG_va pS_COMPACT_STRINGS pP5 pO) hZ (own_w hw 116 rfl) (own_w hw 61 rfl) (by decide) (by decide)) e0 (Ins.self pE_a1) (g := (mkF m 2 #[.val (.ref a1), .val (.int xi)] [(.int xi), (.ref a1)])) rfl (by rw [hml]; rfl) (own_w hw 116 rfl) (argsL := [(.int xi)]) (rest := []) (lenOf pd__I_Ljava_lang_AbstractStringBuilder_ rfl) rfl (by show 2 * 0 + _ ≤ _; exact Nat.le_of_eq rfl) (hb hby d19_2) (fun _ _ => ⟨rfl, e0, (by decide : 0 + 1 ≤ _), (by decide : 0 + 70 ≤ _)⟩)
  dsimp only [Pt.U, Pt.locs, Pt.cells, Pt.slots] at X1 l1 y1 z1 st1 hQ1
  try dsimp only [Nat.reduceAdd] at y1 z1
  rw [l1, y1, z1] at X1
  obtain ⟨vb_1, kvb_1, cap2_1, r2_1, mm_1, cs_1, rfl, Nq1, Kq1, q1_0, q1_1, q1_2, q1_3, q1_4, q1_5, q1_6, q1_7, q1_8⟩ := hQ1
  have N1 := Fr.app N0 Nq1
  have K2 : Keep h0 T1.heap [a1] := (Keep.refl h0 [a1]).trans Kq1 (allS (Or.inl (List.mem_of_getElem? (i := 0) rfl)) all0)
  have Bf3 : h0.size ≤ vb_1 := Nat.le_trans (Keep.refl h0 [a1]).1 q1_5
  refine own_tr st1 ?_
  show own_Go p e below T1 (mkF m 5 #[.val (.ref a1), .val (.int xi)] [(.ref a1)]) _
  refine own_st (fun t_ k_ => XS.pop X1.here hx rfl (hb hby d19_5) rfl rfl (XS.aloadN X1.here hx rfl (hb hby d19_6) rfl rfl k_)) ?_
  show own_Go p e below T1 (mkF m 7 #[.val (.ref a1), .val (.int xi)] [(.ref a1)]) _
  obtain ⟨fs, hr, hrun, hended, hW, hsame⟩ := X1.leave (v := some (.ref a1)) (fun h => by rw [Bd.returns] at h; cases h)
  refine own_fin (own_retR X1 hx rfl Bd.returns rfl (hb hby d19_7) hr) ⟨hrun, hended, _, _, rfl, ?_, ⟨_, rfl⟩, hW, hsame.mono (by decide) (by decide)⟩
  show Q_rmSiG Z a1 va kva cap k bs rest xi zc dst dg1 DD1 dg2 DD2 h0 n0 _ T1.heap _
  exact ⟨vb_1, kvb_1, cap2_1, r2_1, mm_1, cs_1, rfl, N1, K2, q1_0, q1_1, q1_2, q1_3, q1_4, Bf3, q1_6, q1_7, q1_8⟩
theorem own_dI {x : Int32} {d : Nat} (hx : x.toInt = (d : Int)) (h : d ≤ 9) : ((48 : Int32) + x).toUInt32.toUInt16.toUInt32.toInt32 = Int32.ofNat (48 + d) := by
  rw [own_eqOf hx (by omega)]
  rcases own_ten h with rfl | rfl | rfl | rfl | rfl | rfl | rfl | rfl | rfl | rfl <;> rfl
theorem d7_0 : decode method_2_code 0 = .ok (.iload_n 0, 1) := by decide +kernel
theorem d7_1 : decode method_2_code 1 = .ok (.ifCond .ne 14, 3) := by decide +kernel
theorem d7_4 : decode method_2_code 4 = .ok (.new 7, 3) := by decide +kernel
theorem d7_7 : decode method_2_code 7 = .ok (.dup, 1) := by decide +kernel
theorem d7_8 : decode method_2_code 8 = .ok (.iconst 0, 1) := by decide +kernel
theorem d7_9 : decode method_2_code 9 = .ok (.newarray .char, 2) := by decide +kernel
theorem d7_11 : decode method_2_code 11 = .ok (.invokespecial 9, 3) := by decide +kernel
theorem d7_14 : decode method_2_code 14 = .ok (.areturn, 1) := by decide +kernel
theorem d7_15 : decode method_2_code 15 = .ok (.iload_n 0, 1) := by decide +kernel
theorem d7_16 : decode method_2_code 16 = .ok (.iconst 1, 1) := by decide +kernel
theorem d7_17 : decode method_2_code 17 = .ok (.if_icmp .ne 18, 3) := by decide +kernel
theorem d7_20 : decode method_2_code 20 = .ok (.new 7, 3) := by decide +kernel
theorem d7_23 : decode method_2_code 23 = .ok (.dup, 1) := by decide +kernel
theorem d7_24 : decode method_2_code 24 = .ok (.iconst 1, 1) := by decide +kernel
theorem d7_25 : decode method_2_code 25 = .ok (.newarray .char, 2) := by decide +kernel
theorem d7_27 : decode method_2_code 27 = .ok (.dup, 1) := by decide +kernel
theorem d7_28 : decode method_2_code 28 = .ok (.iconst 0, 1) := by decide +kernel
theorem d7_29 : decode method_2_code 29 = .ok (.iload_n 1, 1) := by decide +kernel
theorem d7_30 : decode method_2_code 30 = .ok (.castore, 1) := by decide +kernel
theorem d7_31 : decode method_2_code 31 = .ok (.invokespecial 9, 3) := by decide +kernel
theorem d7_34 : decode method_2_code 34 = .ok (.areturn, 1) := by decide +kernel
theorem d7_35 : decode method_2_code 35 = .ok (.iload_n 0, 1) := by decide +kernel
theorem d7_36 : decode method_2_code 36 = .ok (.iconst 2, 1) := by decide +kernel
theorem d7_37 : decode method_2_code 37 = .ok (.if_icmp .ne 22, 3) := by decide +kernel
theorem d7_40 : decode method_2_code 40 = .ok (.new 7, 3) := by decide +kernel
theorem d7_43 : decode method_2_code 43 = .ok (.dup, 1) := by decide +kernel
theorem d7_44 : decode method_2_code 44 = .ok (.iconst 2, 1) := by decide +kernel
theorem d7_45 : decode method_2_code 45 = .ok (.newarray .char, 2) := by decide +kernel
theorem d7_47 : decode method_2_code 47 = .ok (.dup, 1) := by decide +kernel
theorem d7_48 : decode method_2_code 48 = .ok (.iconst 0, 1) := by decide +kernel
theorem d7_49 : decode method_2_code 49 = .ok (.iload_n 1, 1) := by decide +kernel
theorem d7_50 : decode method_2_code 50 = .ok (.castore, 1) := by decide +kernel
theorem d7_51 : decode method_2_code 51 = .ok (.dup, 1) := by decide +kernel
theorem d7_52 : decode method_2_code 52 = .ok (.iconst 1, 1) := by decide +kernel
theorem d7_53 : decode method_2_code 53 = .ok (.iload_n 1, 1) := by decide +kernel
theorem d7_54 : decode method_2_code 54 = .ok (.castore, 1) := by decide +kernel
theorem d7_55 : decode method_2_code 55 = .ok (.invokespecial 9, 3) := by decide +kernel
theorem d7_58 : decode method_2_code 58 = .ok (.areturn, 1) := by decide +kernel
theorem d7_59 : decode method_2_code 59 = .ok (.iload_n 0, 1) := by decide +kernel
theorem d7_60 : decode method_2_code 60 = .ok (.iconst 3, 1) := by decide +kernel
theorem d7_61 : decode method_2_code 61 = .ok (.if_icmp .ne 26, 3) := by decide +kernel
theorem d7_64 : decode method_2_code 64 = .ok (.new 7, 3) := by decide +kernel
theorem d7_67 : decode method_2_code 67 = .ok (.dup, 1) := by decide +kernel
theorem d7_68 : decode method_2_code 68 = .ok (.iconst 3, 1) := by decide +kernel
theorem d7_69 : decode method_2_code 69 = .ok (.newarray .char, 2) := by decide +kernel
theorem d7_71 : decode method_2_code 71 = .ok (.dup, 1) := by decide +kernel
theorem d7_72 : decode method_2_code 72 = .ok (.iconst 0, 1) := by decide +kernel
theorem d7_73 : decode method_2_code 73 = .ok (.iload_n 1, 1) := by decide +kernel
theorem d7_74 : decode method_2_code 74 = .ok (.castore, 1) := by decide +kernel
theorem d7_75 : decode method_2_code 75 = .ok (.dup, 1) := by decide +kernel
theorem d7_76 : decode method_2_code 76 = .ok (.iconst 1, 1) := by decide +kernel
theorem d7_77 : decode method_2_code 77 = .ok (.iload_n 1, 1) := by decide +kernel
theorem d7_78 : decode method_2_code 78 = .ok (.castore, 1) := by decide +kernel
theorem d7_79 : decode method_2_code 79 = .ok (.dup, 1) := by decide +kernel
theorem d7_80 : decode method_2_code 80 = .ok (.iconst 2, 1) := by decide +kernel
theorem d7_81 : decode method_2_code 81 = .ok (.iload_n 1, 1) := by decide +kernel
theorem d7_82 : decode method_2_code 82 = .ok (.castore, 1) := by decide +kernel
theorem d7_83 : decode method_2_code 83 = .ok (.invokespecial 9, 3) := by decide +kernel
theorem d7_86 : decode method_2_code 86 = .ok (.areturn, 1) := by decide +kernel
theorem d7_87 : decode method_2_code 87 = .ok (.iload_n 0, 1) := by decide +kernel
theorem d7_88 : decode method_2_code 88 = .ok (.iconst 4, 1) := by decide +kernel
theorem d7_89 : decode method_2_code 89 = .ok (.if_icmp .ne 30, 3) := by decide +kernel
theorem d7_92 : decode method_2_code 92 = .ok (.new 7, 3) := by decide +kernel
theorem d7_95 : decode method_2_code 95 = .ok (.dup, 1) := by decide +kernel
theorem d7_96 : decode method_2_code 96 = .ok (.iconst 4, 1) := by decide +kernel
theorem d7_97 : decode method_2_code 97 = .ok (.newarray .char, 2) := by decide +kernel
theorem d7_99 : decode method_2_code 99 = .ok (.dup, 1) := by decide +kernel
theorem d7_100 : decode method_2_code 100 = .ok (.iconst 0, 1) := by decide +kernel
theorem d7_101 : decode method_2_code 101 = .ok (.iload_n 1, 1) := by decide +kernel
theorem d7_102 : decode method_2_code 102 = .ok (.castore, 1) := by decide +kernel
theorem d7_103 : decode method_2_code 103 = .ok (.dup, 1) := by decide +kernel
theorem d7_104 : decode method_2_code 104 = .ok (.iconst 1, 1) := by decide +kernel
theorem d7_105 : decode method_2_code 105 = .ok (.iload_n 1, 1) := by decide +kernel
theorem d7_106 : decode method_2_code 106 = .ok (.castore, 1) := by decide +kernel
theorem d7_107 : decode method_2_code 107 = .ok (.dup, 1) := by decide +kernel
theorem d7_108 : decode method_2_code 108 = .ok (.iconst 2, 1) := by decide +kernel
theorem d7_109 : decode method_2_code 109 = .ok (.iload_n 1, 1) := by decide +kernel
theorem d7_110 : decode method_2_code 110 = .ok (.castore, 1) := by decide +kernel
theorem d7_111 : decode method_2_code 111 = .ok (.dup, 1) := by decide +kernel
theorem d7_112 : decode method_2_code 112 = .ok (.iconst 3, 1) := by decide +kernel
theorem d7_113 : decode method_2_code 113 = .ok (.iload_n 1, 1) := by decide +kernel
theorem d7_114 : decode method_2_code 114 = .ok (.castore, 1) := by decide +kernel
theorem d7_115 : decode method_2_code 115 = .ok (.invokespecial 9, 3) := by decide +kernel
theorem d7_118 : decode method_2_code 118 = .ok (.areturn, 1) := by decide +kernel
theorem d7_119 : decode method_2_code 119 = .ok (.iload_n 0, 1) := by decide +kernel
theorem d7_120 : decode method_2_code 120 = .ok (.iconst 5, 1) := by decide +kernel
theorem d7_121 : decode method_2_code 121 = .ok (.if_icmp .ne 34, 3) := by decide +kernel
theorem d7_124 : decode method_2_code 124 = .ok (.new 7, 3) := by decide +kernel
theorem d7_127 : decode method_2_code 127 = .ok (.dup, 1) := by decide +kernel
theorem d7_128 : decode method_2_code 128 = .ok (.iconst 5, 1) := by decide +kernel
theorem d7_129 : decode method_2_code 129 = .ok (.newarray .char, 2) := by decide +kernel
theorem d7_131 : decode method_2_code 131 = .ok (.dup, 1) := by decide +kernel
theorem d7_132 : decode method_2_code 132 = .ok (.iconst 0, 1) := by decide +kernel
theorem d7_133 : decode method_2_code 133 = .ok (.iload_n 1, 1) := by decide +kernel
theorem d7_134 : decode method_2_code 134 = .ok (.castore, 1) := by decide +kernel
theorem d7_135 : decode method_2_code 135 = .ok (.dup, 1) := by decide +kernel
theorem d7_136 : decode method_2_code 136 = .ok (.iconst 1, 1) := by decide +kernel
theorem d7_137 : decode method_2_code 137 = .ok (.iload_n 1, 1) := by decide +kernel
theorem d7_138 : decode method_2_code 138 = .ok (.castore, 1) := by decide +kernel
theorem d7_139 : decode method_2_code 139 = .ok (.dup, 1) := by decide +kernel
theorem d7_140 : decode method_2_code 140 = .ok (.iconst 2, 1) := by decide +kernel
theorem d7_141 : decode method_2_code 141 = .ok (.iload_n 1, 1) := by decide +kernel
theorem d7_142 : decode method_2_code 142 = .ok (.castore, 1) := by decide +kernel
theorem d7_143 : decode method_2_code 143 = .ok (.dup, 1) := by decide +kernel
theorem d7_144 : decode method_2_code 144 = .ok (.iconst 3, 1) := by decide +kernel
theorem d7_145 : decode method_2_code 145 = .ok (.iload_n 1, 1) := by decide +kernel
theorem d7_146 : decode method_2_code 146 = .ok (.castore, 1) := by decide +kernel
theorem d7_147 : decode method_2_code 147 = .ok (.dup, 1) := by decide +kernel
theorem d7_148 : decode method_2_code 148 = .ok (.iconst 4, 1) := by decide +kernel
theorem d7_149 : decode method_2_code 149 = .ok (.iload_n 1, 1) := by decide +kernel
theorem d7_150 : decode method_2_code 150 = .ok (.castore, 1) := by decide +kernel
theorem d7_151 : decode method_2_code 151 = .ok (.invokespecial 9, 3) := by decide +kernel
theorem d7_154 : decode method_2_code 154 = .ok (.areturn, 1) := by decide +kernel
theorem d7_155 : decode method_2_code 155 = .ok (.iload_n 0, 1) := by decide +kernel
theorem d7_156 : decode method_2_code 156 = .ok (.bipush 6, 2) := by decide +kernel
theorem d7_158 : decode method_2_code 158 = .ok (.if_icmp .ne 39, 3) := by decide +kernel
theorem d7_161 : decode method_2_code 161 = .ok (.new 7, 3) := by decide +kernel
theorem d7_164 : decode method_2_code 164 = .ok (.dup, 1) := by decide +kernel
theorem d7_165 : decode method_2_code 165 = .ok (.bipush 6, 2) := by decide +kernel
theorem d7_167 : decode method_2_code 167 = .ok (.newarray .char, 2) := by decide +kernel
theorem d7_169 : decode method_2_code 169 = .ok (.dup, 1) := by decide +kernel
theorem d7_170 : decode method_2_code 170 = .ok (.iconst 0, 1) := by decide +kernel
theorem d7_171 : decode method_2_code 171 = .ok (.iload_n 1, 1) := by decide +kernel
theorem d7_172 : decode method_2_code 172 = .ok (.castore, 1) := by decide +kernel
theorem d7_173 : decode method_2_code 173 = .ok (.dup, 1) := by decide +kernel
theorem d7_174 : decode method_2_code 174 = .ok (.iconst 1, 1) := by decide +kernel
theorem d7_175 : decode method_2_code 175 = .ok (.iload_n 1, 1) := by decide +kernel
theorem d7_176 : decode method_2_code 176 = .ok (.castore, 1) := by decide +kernel
theorem d7_177 : decode method_2_code 177 = .ok (.dup, 1) := by decide +kernel
theorem d7_178 : decode method_2_code 178 = .ok (.iconst 2, 1) := by decide +kernel
theorem d7_179 : decode method_2_code 179 = .ok (.iload_n 1, 1) := by decide +kernel
theorem d7_180 : decode method_2_code 180 = .ok (.castore, 1) := by decide +kernel
theorem d7_181 : decode method_2_code 181 = .ok (.dup, 1) := by decide +kernel
theorem d7_182 : decode method_2_code 182 = .ok (.iconst 3, 1) := by decide +kernel
theorem d7_183 : decode method_2_code 183 = .ok (.iload_n 1, 1) := by decide +kernel
theorem d7_184 : decode method_2_code 184 = .ok (.castore, 1) := by decide +kernel
theorem d7_185 : decode method_2_code 185 = .ok (.dup, 1) := by decide +kernel
theorem d7_186 : decode method_2_code 186 = .ok (.iconst 4, 1) := by decide +kernel
theorem d7_187 : decode method_2_code 187 = .ok (.iload_n 1, 1) := by decide +kernel
theorem d7_188 : decode method_2_code 188 = .ok (.castore, 1) := by decide +kernel
theorem d7_189 : decode method_2_code 189 = .ok (.dup, 1) := by decide +kernel
theorem d7_190 : decode method_2_code 190 = .ok (.iconst 5, 1) := by decide +kernel
theorem d7_191 : decode method_2_code 191 = .ok (.iload_n 1, 1) := by decide +kernel
theorem d7_192 : decode method_2_code 192 = .ok (.castore, 1) := by decide +kernel
theorem d7_193 : decode method_2_code 193 = .ok (.invokespecial 9, 3) := by decide +kernel
theorem d7_196 : decode method_2_code 196 = .ok (.areturn, 1) := by decide +kernel
theorem d7_197 : decode method_2_code 197 = .ok (.new 7, 3) := by decide +kernel
theorem d7_200 : decode method_2_code 200 = .ok (.dup, 1) := by decide +kernel
theorem d7_201 : decode method_2_code 201 = .ok (.bipush 7, 2) := by decide +kernel
theorem d7_203 : decode method_2_code 203 = .ok (.newarray .char, 2) := by decide +kernel
theorem d7_205 : decode method_2_code 205 = .ok (.dup, 1) := by decide +kernel
theorem d7_206 : decode method_2_code 206 = .ok (.iconst 0, 1) := by decide +kernel
theorem d7_207 : decode method_2_code 207 = .ok (.iload_n 1, 1) := by decide +kernel
theorem d7_208 : decode method_2_code 208 = .ok (.castore, 1) := by decide +kernel
theorem d7_209 : decode method_2_code 209 = .ok (.dup, 1) := by decide +kernel
theorem d7_210 : decode method_2_code 210 = .ok (.iconst 1, 1) := by decide +kernel
theorem d7_211 : decode method_2_code 211 = .ok (.iload_n 1, 1) := by decide +kernel
theorem d7_212 : decode method_2_code 212 = .ok (.castore, 1) := by decide +kernel
theorem d7_213 : decode method_2_code 213 = .ok (.dup, 1) := by decide +kernel
theorem d7_214 : decode method_2_code 214 = .ok (.iconst 2, 1) := by decide +kernel
theorem d7_215 : decode method_2_code 215 = .ok (.iload_n 1, 1) := by decide +kernel
theorem d7_216 : decode method_2_code 216 = .ok (.castore, 1) := by decide +kernel
theorem d7_217 : decode method_2_code 217 = .ok (.dup, 1) := by decide +kernel
theorem d7_218 : decode method_2_code 218 = .ok (.iconst 3, 1) := by decide +kernel
theorem d7_219 : decode method_2_code 219 = .ok (.iload_n 1, 1) := by decide +kernel
theorem d7_220 : decode method_2_code 220 = .ok (.castore, 1) := by decide +kernel
theorem d7_221 : decode method_2_code 221 = .ok (.dup, 1) := by decide +kernel
theorem d7_222 : decode method_2_code 222 = .ok (.iconst 4, 1) := by decide +kernel
theorem d7_223 : decode method_2_code 223 = .ok (.iload_n 1, 1) := by decide +kernel
theorem d7_224 : decode method_2_code 224 = .ok (.castore, 1) := by decide +kernel
theorem d7_225 : decode method_2_code 225 = .ok (.dup, 1) := by decide +kernel
theorem d7_226 : decode method_2_code 226 = .ok (.iconst 5, 1) := by decide +kernel
theorem d7_227 : decode method_2_code 227 = .ok (.iload_n 1, 1) := by decide +kernel
theorem d7_228 : decode method_2_code 228 = .ok (.castore, 1) := by decide +kernel
theorem d7_229 : decode method_2_code 229 = .ok (.dup, 1) := by decide +kernel
theorem d7_230 : decode method_2_code 230 = .ok (.bipush 6, 2) := by decide +kernel
theorem d7_232 : decode method_2_code 232 = .ok (.iload_n 1, 1) := by decide +kernel
theorem d7_233 : decode method_2_code 233 = .ok (.castore, 1) := by decide +kernel
theorem d7_234 : decode method_2_code 234 = .ok (.invokespecial 9, 3) := by decide +kernel
theorem d7_237 : decode method_2_code 237 = .ok (.areturn, 1) := by decide +kernel
theorem pn_7 : plainName "com/example/envelope/envelope/io/KeptLengthBeyondPinLaw" = true := by first | (simp [plainName, overriddenIn]; done) | decide +kernel
theorem pd___C_V : parseMethodDescriptor "([C)V" = some ⟨[(.array .char)], none⟩ := by decide +kernel
theorem ef_rmMt (m : MethodId) (x0 : Int32) (x1 : Int32) : entryFrame m #[(.int x0), (.int x1)] 2 = mkF m 0 #[.val (.int x0), .val (.int x1)] [] := by first | (simp [entryFrame, mkF, argsToLocals, Value.category]; done) | rfl
def Q_rmMt (Z : State) (pn : Int32) (nN : Nat) (px : Int32) (zc : Int32) (h0 : Heap) (n0 : Nat) (v : Option Value) (h : Heap) (L : List Loc) : Prop := ∃ y : Addr, ∃ t : Addr, ∃ kb : ClassId, v = some (.ref y) ∧ Fr n0 L ∧ Keep h0 h [] ∧ Exa Z h y "java/lang/String" ∧ Fld Z h y "java/lang/String" "value" "[B" (.ref t) ∧ Fld Z h y "java/lang/String" "coder" "B" (.int (0 : Int32)) ∧ Arv Z h t kb .byte pn ((((List.replicate nN px) : List Int32).map (fun c : Int32 => c.toInt8.toInt32)).map Value.int) (.int 0)
set_option maxRecDepth 65536 in
set_option maxHeartbeats 40000000 in
theorem rmMt (l : Launch) (Z : State) (a0 : Array Value) (hw : ∀ d ∈ tables_1, d.before a0 Z = true) (ws : List Jvm.Cond) (pn : Int32) (nN : Nat) (px : Int32) (zc : Int32) (h0 : Heap) (n0 : Nat) (Z0 : n0 ≤ h0.size) (hn : (pn.toInt = (nN : Int))) (hn7 : (nN ≤ 7)) (hpx : (¬ px < 0 ∧ ¬ (255 : Int32) < px)) (pS_COMPACT_STRINGS : Sta Z Z.heap "java/lang/String" "COMPACT_STRINGS" "Z" (.int zc)) (pP5 : (¬ (zc = (0 : Int32)))) (pO : Old Z n0 h0) :
    MetFree l (⟨"com/example/envelope/envelope/io/KeptLengthBeyondPinLaw", "makeText", "(IC)Ljava/lang/String;"⟩ : MethodName) (head1 (Jvm.Cond.code (⟨"com/example/envelope/envelope/io/KeptLengthBeyondPinLaw", "makeText", "(IC)Ljava/lang/String;"⟩ : MethodName) method_2_code 2 (some (.object "java/lang/String")) :: ws) ({ frames := 4, cells := 6, slots := 18, locals := 66 } : Room)) (fun a U => a = #[(.int pn), (.int px)] ∧ Z.Warmed39 U.vm ∧ U.heap = h0 ∧ CHv Z own_EL U.vm h0) (fun _ _ _ _ _ => True) (fun _ U o U' => ∃ v L, o = .returned v ∧ Q_rmMt Z pn nN px zc h0 n0 v U'.heap L ∧ CHr Z own_EL U.vm U.heap U'.vm U'.heap ∧ ReturnedEndW U o U' L ({ frames := 4, cells := 6, slots := 18, locals := 66 } : Room).cells ({ frames := 4, cells := 6, slots := 18, locals := 66 } : Room).slots) := by
  refine MetFree.of_bodySF (plainFor_of_name pn_7) hisR ?_
  intro p e s m args below meth c s₁ Bd hml0 hP hK
  obtain ⟨rfl, hZ, hh, hCH⟩ := hP
  have hx := Bd.exec
  have hby := Bd.bytes
  have hml : c.maxLocals = 2 := hml0
  have hown : s.vm.findClass "com/example/envelope/envelope/io/KeptLengthBeyondPinLaw" = some m.cls := findClass_of_methodNamed Bd.named
  have hnm := (name_of_methodNamed Bd.named Bd.method).1
  have X0 : Stand p l e ({ frames := 4, cells := 6, slots := 18, locals := 66 } : Room) (s.setVm s.vm) m #[(.int pn), (.int px)] below meth c s₁ [] 0 0 := Stand.of_body Bd
  have e0 : s₁.heap = h0 := by rw [← hh, Bd.state]; rfl
  have N0 := Fr.nil n0
  have hEL := own_EW hw
  have hCR := CHr.refl hCH
  have hS : s.Since s.vm h0.size := (State.WarmedH.refl s).since _
  have hK0 : h0.size ≤ h0.size := Nat.le_refl _
  refine own_enter (ef_rmMt m pn px) ?_
  have hws : ∀ d ∈ StrChars.Road.words, d.before a0 Z = true := fun d hd => hw d ((by decide +kernel : ∀ d ∈ StrChars.Road.words, d ∈ tables_1) d hd)
  rcases own_eight hn hn7 with hA | hA | hA | hA | hA | hA | hA | hA
  · skip
    show own_Go p e below s₁ (mkF m 0 #[.val (.int pn), .val (.int px)] []) _
    refine own_st (fun t_ k_ => XS.iloadN X0.here hx rfl (hb hby d7_0) rfl (XS.ifNo X0.here hx rfl (hb hby d7_1) rfl ((if0 _ _).trans (teq (show pn = (0 : Int32) from (by rw [hA.1] <;> decide))).2) k_)) ?_
    show own_Go p e below s₁ (mkF m 4 #[.val (.int pn), .val (.int px)] []) _
    obtain ⟨T1, h1, X1, e1, E1, A1, D1, -, st1⟩ := newO X0 hx hZ hown (own_w hw 0 rfl) (own_w hw 1 rfl) (own_w hw 2 rfl) e0 (g := (mkF m 4 #[.val (.int pn), .val (.int px)] [])) rfl (hb hby d7_4) (by decide) (by decide)
    obtain ⟨b1, g1⟩ : ∃ z, z = h0.size := ⟨_, rfl⟩
    rw [← g1] at A1 D1 st1
    have G1 : n0 ≤ b1 := Nat.le_trans Z0 (Nat.le_of_eq g1.symm)
    have B1 : h0.size ≤ b1 := Nat.le_trans (Keep.refl h0 []).1 (Nat.le_of_eq g1.symm)
    have CH2 := hCH.ext E1
    have CR2 := CHr.trans hCR (CHr.ext E1 hCH)
    have K3 : Keep h0 h1 [] := (Keep.refl h0 []).ext E1
    have SF1 : Safe Z own_EL s.vm h1 b1 := Safe.ext E1 hCH (Safe.new (x := b1) (Nat.le_of_eq g1.symm))
    have D1_coder : Fld Z h1 b1 "java/lang/String" "coder" "B" (.int (0 : Int32)) := D1 (Or.inr (own_w hw 27 rfl)) (ty := .byte) (by decide)
    have D1_value : Fld Z h1 b1 "java/lang/String" "value" "[B" .null := D1 (Or.inr (own_w hw 29 rfl)) (ty := (.array .byte)) (by decide)
    refine own_st st1 ?_
    show own_Go p e below T1 (mkF m 7 #[.val (.int pn), .val (.int px)] [(.ref b1)]) _
    refine own_st (fun t_ k_ => XS.dup X1.here hx rfl (hb hby d7_7) rfl rfl (XS.iconst X1.here hx rfl (hb hby d7_8) k_)) ?_
    show own_Go p e below T1 (mkF m 9 #[.val (.int pn), .val (.int px)] [(.int (0 : Int32)), (.ref b1), (.ref b1)]) _
    have f4 := (Nat.le_trans Z0 E1.1)
    obtain ⟨T5, h5, k5, X5, e5, E5, A5, st5⟩ := newP X1 hx hZ (own_w hw 3 rfl) e1 (g := (mkF m 9 #[.val (.int pn), .val (.int px)] [(.int (0 : Int32)), (.ref b1), (.ref b1)])) rfl (hb hby d7_9) rfl (by decide) (cap := 0) (by decide) (by decide) (by decide) (by decide)
    obtain ⟨b5, g5⟩ : ∃ z, z = h1.size := ⟨_, rfl⟩
    rw [← g5] at A5 st5
    have G5 : n0 ≤ b5 := Nat.le_trans f4 (Nat.le_of_eq g5.symm)
    have B5 : h0.size ≤ b5 := Nat.le_trans K3.1 (Nat.le_of_eq g5.symm)
    have CH6 := CH2.ext E5
    have CR6 := CHr.trans CR2 (CHr.ext E5 CH2)
    have K7 : Keep h0 h5 [] := K3.ext E5
    have V5 : Arv Z h5 b5 k5 .char (0 : Int32) [] (.int (0 : Int32)) := Arv.new A5 (by decide)
    refine own_st st5 ?_
    show own_Go p e below T5 (mkF m 11 #[.val (.int pn), .val (.int px)] [(.ref b5), (.ref b1), (.ref b1)]) _
    have f8 := (Nat.le_trans f4 E5.1)
    have f9 := (A1.ext E5)
    have f10 := (D1_value.ext E5)
    have f11 := (D1_coder.ext E5)
    have f13 := (Nat.le_trans (Nat.le_trans hK0 E1.1) E5.1)
    obtain ⟨_, _, ⟨T12, L12, k12, n12⟩, -, Xa12, hSa12, hGa12, ⟨Lc12, hQ12, l12, y12, z12, A12⟩, st12⟩ := X5.specialBackS hx (y := (⟨"java/lang/String", "<init>", "([C)V"⟩ : MethodName)) rfl hown (mvT hZ (own_w hw 4 rfl)) (mvT hZ (own_w hw 5 rfl)) (mvT hZ (own_w hw 6 rfl)) (by decide) (backOfSH (W := 1) (rmSC l Z a0 hw [] b1 b5 k5 h5 n0 f8 f9 f10 f11 G1 V5) hZ (own_w hw 6 rfl) (own_w hw 2 rfl) (by decide) (by decide) hEL CH6) (g := (mkF m 11 #[.val (.int pn), .val (.int px)] [(.ref b5), (.ref b1), (.ref b1)])) rfl (by rw [hml]; rfl) (Steps.refl _) (a := b1) (argsL := [(.ref b5)]) (rest := [(.ref b1)]) (lenOf pd___C_V rfl) rfl (by show 2 * 0 + _ ≤ _; exact Nat.le_of_eq rfl) (hb hby d7_11) (fun _ _ => ⟨rfl, e5, (by decide : 2 + 4 ≤ _), (by decide : 4 + 8 ≤ _)⟩)
    dsimp only [Pt.U, Pt.locs, Pt.cells, Pt.slots] at Xa12 hSa12 hGa12 l12 y12 z12 A12 st12 hQ12
    try dsimp only [Nat.reduceAdd] at y12 z12
    rw [l12, y12, z12] at Xa12
    obtain ⟨X12, hS, hZ, hown⟩ := rebS hS (by rw [e5]; exact f13) Xa12 hSa12 hGa12 hZ hown
    obtain ⟨t_12, kb_12, rfl, Nq12, Kq12, q12_0, q12_1, q12_2, q12_3⟩ := hQ12
    have N12 := Fr.app N0 Nq12
    have CH14 := A12.1
    have CR14 := CHr.trans CR6 (A12)
    have K15 : Keep h0 T12.heap [] := K7.trans Kq12 (allS (Or.inr B1) all0)
    have hK12 : T12.heap.size ≤ T12.heap.size := Nat.le_refl _
    refine own_tr st12 ?_
    show own_Go p e below T12 (mkF m 14 #[.val (.int pn), .val (.int px)] [(.ref b1)]) _
    have Vz : Arv Z T12.heap t_12 kb_12 .byte pn ((((List.replicate nN px) : List Int32).map (fun c : Int32 => c.toInt8.toInt32)).map Value.int) (.int 0) := by rw [hA.1, hA.2]; exact q12_3
    obtain ⟨fs, hr, hrun, hended, hRW⟩ := X12.leaveW hS hK12 (v := some (.ref b1)) (fun h => by rw [Bd.returns] at h; cases h)
    have hCend : CHr Z own_EL s.vm s.heap T12.vm T12.heap := by
      rw [hh]
      exact CHr.trans CR14 (CHv.at X12 hZ hEL CH14)
    refine own_fin (own_retR X12 hx rfl Bd.returns rfl (hb hby d7_14) hr) ⟨hrun, hended, _, _, rfl, ?_, hCend, hRW.1, hRW.2.1, hRW.2.2.1, hRW.2.2.2.mono (by decide) (by decide)⟩
    show Q_rmMt Z pn nN px zc h0 n0 _ T12.heap _
    exact ⟨b1, t_12, kb_12, rfl, N12, K15, q12_0, q12_1, q12_2, Vz⟩
  · skip
    show own_Go p e below s₁ (mkF m 0 #[.val (.int pn), .val (.int px)] []) _
    refine own_st (fun t_ k_ => XS.iloadN X0.here hx rfl (hb hby d7_0) rfl (XS.ifYes X0.here hx rfl (pc0 := 1) (pc' := 15) rfl (hb hby d7_1) rfl ((if0 _ _).trans (feq (show ¬ (pn = (0 : Int32)) from (by rw [hA.1] <;> decide))).2) (by decide) (by decide) (XS.iloadN X0.here hx rfl (hb hby d7_15) rfl (XS.iconst X0.here hx rfl (hb hby d7_16) (XS.icmpNo X0.here hx rfl (hb hby d7_17) rfl (teq (show pn = (1 : Int32) from (by rw [hA.1] <;> decide))).2 k_))))) ?_
    show own_Go p e below s₁ (mkF m 20 #[.val (.int pn), .val (.int px)] []) _
    obtain ⟨T16, h16, X16, e16, E16, A16, D16, -, st16⟩ := newO X0 hx hZ hown (own_w hw 0 rfl) (own_w hw 1 rfl) (own_w hw 2 rfl) e0 (g := (mkF m 20 #[.val (.int pn), .val (.int px)] [])) rfl (hb hby d7_20) (by decide) (by decide)
    obtain ⟨b16, g16⟩ : ∃ z, z = h0.size := ⟨_, rfl⟩
    rw [← g16] at A16 D16 st16
    have G16 : n0 ≤ b16 := Nat.le_trans Z0 (Nat.le_of_eq g16.symm)
    have B16 : h0.size ≤ b16 := Nat.le_trans (Keep.refl h0 []).1 (Nat.le_of_eq g16.symm)
    have CH17 := hCH.ext E16
    have CR17 := CHr.trans hCR (CHr.ext E16 hCH)
    have K18 : Keep h0 h16 [] := (Keep.refl h0 []).ext E16
    have SF16 : Safe Z own_EL s.vm h16 b16 := Safe.ext E16 hCH (Safe.new (x := b16) (Nat.le_of_eq g16.symm))
    have D16_coder : Fld Z h16 b16 "java/lang/String" "coder" "B" (.int (0 : Int32)) := D16 (Or.inr (own_w hw 27 rfl)) (ty := .byte) (by decide)
    have D16_value : Fld Z h16 b16 "java/lang/String" "value" "[B" .null := D16 (Or.inr (own_w hw 29 rfl)) (ty := (.array .byte)) (by decide)
    refine own_st st16 ?_
    show own_Go p e below T16 (mkF m 23 #[.val (.int pn), .val (.int px)] [(.ref b16)]) _
    refine own_st (fun t_ k_ => XS.dup X16.here hx rfl (hb hby d7_23) rfl rfl (XS.iconst X16.here hx rfl (hb hby d7_24) k_)) ?_
    show own_Go p e below T16 (mkF m 25 #[.val (.int pn), .val (.int px)] [(.int (1 : Int32)), (.ref b16), (.ref b16)]) _
    have f19 := (Nat.le_trans Z0 E16.1)
    obtain ⟨T20, h20, k20, X20, e20, E20, A20, st20⟩ := newP X16 hx hZ (own_w hw 3 rfl) e16 (g := (mkF m 25 #[.val (.int pn), .val (.int px)] [(.int (1 : Int32)), (.ref b16), (.ref b16)])) rfl (hb hby d7_25) rfl (by decide) (cap := 1) (by decide) (by decide) (by decide) (by decide)
    obtain ⟨b20, g20⟩ : ∃ z, z = h16.size := ⟨_, rfl⟩
    rw [← g20] at A20 st20
    have G20 : n0 ≤ b20 := Nat.le_trans f19 (Nat.le_of_eq g20.symm)
    have B20 : h0.size ≤ b20 := Nat.le_trans K18.1 (Nat.le_of_eq g20.symm)
    have CH21 := CH17.ext E20
    have CR21 := CHr.trans CR17 (CHr.ext E20 CH17)
    have K22 : Keep h0 h20 [] := K18.ext E20
    have V20 : Arv Z h20 b20 k20 .char (1 : Int32) [(.int (0 : Int32))] (.int (0 : Int32)) := (Arv.new A20 (by decide)).pad (pad_rep [] (.int (0 : Int32)) 1)
    refine own_st st20 ?_
    show own_Go p e below T20 (mkF m 27 #[.val (.int pn), .val (.int px)] [(.ref b20), (.ref b16), (.ref b16)]) _
    refine own_st (fun t_ k_ => XS.dup X20.here hx rfl (hb hby d7_27) rfl rfl (XS.iconst X20.here hx rfl (hb hby d7_28) (XS.iloadN X20.here hx rfl (hb hby d7_29) rfl k_))) ?_
    show own_Go p e below T20 (mkF m 30 #[.val (.int pn), .val (.int px)] [(.int px), (.int (0 : Int32)), (.ref b20), (.ref b20), (.ref b16), (.ref b16)]) _
    obtain ⟨cl23, Ar23, q23, Sz23, Nn23, Hh23, Gg23⟩ := id V20
    have hin23 : ¬ ((0 : Int32) < 0 ∨ cl23.slots.size ≤ ((0 : Int32)).toNatClampNeg) := inb_of Sz23 ⟨by decide, by decide⟩
    obtain ⟨T24, h24, X24, e24, W24, st24⟩ := stC X20 hx hZ e20 Ar23 (j := (0 : Int32)) hin23 (g := (mkF m 30 #[.val (.int pn), .val (.int px)] [(.int px), (.int (0 : Int32)), (.ref b20), (.ref b20), (.ref b16), (.ref b16)])) rfl rfl (hb hby d7_30)
    have V24 : Arv Z h24 b20 k20 .char (1 : Int32) [(.int (nar .char px))] (.int (0 : Int32)) := Arv.set Ar23 q23 Sz23 Nn23 Hh23 Gg23 (fits_nar_char _) W24 0 rfl (Nat.le_of_ble_eq_true rfl)
    rw [own_nar hpx] at V24
    have Sa25 : Safe Z own_EL s.vm h20 b20 := (Safe.arv hZ.alike V20 (by decide))
    have CH25 := CH21.wr W24 Sa25
    have CR25 := CHr.trans CR21 (CHr.wr W24 Sa25 CH21)
    have K26 : Keep h0 h24 [] := K22.wr W24 (Or.inr B20)
    have N24 := Fr.snoc X24 N0 G20
    refine own_st st24 ?_
    show own_Go p e below T24 (mkF m 31 #[.val (.int pn), .val (.int px)] [(.ref b20), (.ref b16), (.ref b16)]) _
    have hp1 : ∀ c ∈ ([px] : List Int32), ¬ c < 0 ∧ ¬ (255 : Int32) < c := fun c hc => by simp only [List.mem_cons, List.not_mem_nil, or_false] at hc; subst hc; exact hpx
    have f27 := (Nat.le_trans (Nat.le_trans f19 E20.1) (Keep.of_wr W24).1)
    have f28 := ((A16.ext E20).wr W24)
    have f29 := ((D16_value.ext E20).other W24 (Or.inl (Nat.ne_of_lt (Nat.lt_of_lt_of_le A16.lt (Nat.le_of_eq g20.symm)))))
    have f30 := ((D16_coder.ext E20).other W24 (Or.inl (Nat.ne_of_lt (Nat.lt_of_lt_of_le A16.lt (Nat.le_of_eq g20.symm)))))
    have f31 := (((pO.ext E16).ext E20).wr W24 G20)
    obtain ⟨_, _, ⟨T32, L32, k32, n32⟩, -, X32, ⟨Lc32, hQ32, l32, y32, z32⟩, st32⟩ := X24.specialBack hx (y := (⟨"java/lang/String", "<init>", "([C)V"⟩ : MethodName)) rfl hown (mvT hZ (own_w hw 4 rfl)) (mvT hZ (own_w hw 5 rfl)) (mvT hZ (own_w hw 6 rfl)) (by decide) (StrChars.Road.backV (W := 1) hZ hws (kI := 4) (own_w hw 1 rfl) (cs := ([px] : List Int32)) (bs := (([px] : List Int32)).map (fun c => c.toInt8.toInt32)) (n := 1) G16 f27 f28 f29 f30 V24 (pS_COMPACT_STRINGS.ext f31.2) pP5 rfl rfl (by decide) (by decide) hp1 rfl (by decide) (by decide)) (g := (mkF m 31 #[.val (.int pn), .val (.int px)] [(.ref b20), (.ref b16), (.ref b16)])) rfl (by rw [hml]; rfl) (Steps.refl _) (a := b16) (argsL := [(.ref b20)]) (rest := [(.ref b16)]) (lenOf pd___C_V rfl) rfl (by show 2 * 0 + _ ≤ _; exact Nat.le_of_eq rfl) (hb hby d7_31) (fun _ _ => ⟨rfl, e24, (by decide : 2 + 1 ≤ _), (by decide : 5 + 1 ≤ _)⟩)
    dsimp only [Pt.U, Pt.locs, Pt.cells, Pt.slots] at X32 l32 y32 z32 st32 hQ32
    try dsimp only [Nat.reduceAdd] at y32 z32
    rw [l32, y32, z32] at X32
    obtain ⟨rfl, Nq32, Kq32, q32_E, q32_c, t32, kb32, q32_g, q32_b, q32_n, q32_v, q32_V⟩ := hQ32
    have N32 := Fr.app N24 Nq32
    have f34 := (Safe.wr W24 Sa25 CH21 (Safe.ext E20 CH17 SF16))
    have Sa33 : ∀ y ∈ [b16], Safe Z own_EL s.vm h24 y := (sfS f34 sf0)
    have CH33 := CH25.keep Kq32 Sa33
    have CR33 := CHr.trans CR25 (CHr.keep Kq32 Sa33 CH25)
    have K35 : Keep h0 T32.heap [] := K26.trans Kq32 (allS (Or.inr B16) all0)
    have Bf36 : h0.size ≤ t32 := Nat.le_trans K26.1 q32_b
    refine own_tr st32 ?_
    show own_Go p e below T32 (mkF m 34 #[.val (.int pn), .val (.int px)] [(.ref b16)]) _
    have Vz : Arv Z T32.heap t32 kb32 .byte pn ((((List.replicate nN px) : List Int32).map (fun c : Int32 => c.toInt8.toInt32)).map Value.int) (.int 0) := by rw [hA.1, hA.2]; exact q32_V
    have f37 := (Nat.le_trans (Nat.le_trans (Nat.le_trans (Nat.le_trans hK0 E16.1) E20.1) (Keep.of_wr W24).1) Kq32.1)
    obtain ⟨fs, hr, hrun, hended, hRW⟩ := X32.leaveW hS f37 (v := some (.ref b16)) (fun h => by rw [Bd.returns] at h; cases h)
    have hCend : CHr Z own_EL s.vm s.heap T32.vm T32.heap := by
      rw [hh]
      exact CHr.trans CR33 (CHv.at X32 hZ hEL CH33)
    refine own_fin (own_retR X32 hx rfl Bd.returns rfl (hb hby d7_34) hr) ⟨hrun, hended, _, _, rfl, ?_, hCend, hRW.1, hRW.2.1, hRW.2.2.1, hRW.2.2.2.mono (by decide) (by decide)⟩
    show Q_rmMt Z pn nN px zc h0 n0 _ T32.heap _
    exact ⟨b16, t32, kb32, rfl, N32, K35, q32_E, q32_v, q32_c, Vz⟩
  · skip
    show own_Go p e below s₁ (mkF m 0 #[.val (.int pn), .val (.int px)] []) _
    refine own_st (fun t_ k_ => XS.iloadN X0.here hx rfl (hb hby d7_0) rfl (XS.ifYes X0.here hx rfl (pc0 := 1) (pc' := 15) rfl (hb hby d7_1) rfl ((if0 _ _).trans (feq (show ¬ (pn = (0 : Int32)) from (by rw [hA.1] <;> decide))).2) (by decide) (by decide) (XS.iloadN X0.here hx rfl (hb hby d7_15) rfl (XS.iconst X0.here hx rfl (hb hby d7_16) (XS.icmpYes X0.here hx rfl (pc0 := 17) (pc' := 35) rfl (hb hby d7_17) rfl (feq (show ¬ (pn = (1 : Int32)) from (by rw [hA.1] <;> decide))).2 (by decide) (by decide) (XS.iloadN X0.here hx rfl (hb hby d7_35) rfl (XS.iconst X0.here hx rfl (hb hby d7_36) (XS.icmpNo X0.here hx rfl (hb hby d7_37) rfl (teq (show pn = (2 : Int32) from (by rw [hA.1] <;> decide))).2 k_)))))))) ?_
    show own_Go p e below s₁ (mkF m 40 #[.val (.int pn), .val (.int px)] []) _
    obtain ⟨T38, h38, X38, e38, E38, A38, D38, -, st38⟩ := newO X0 hx hZ hown (own_w hw 0 rfl) (own_w hw 1 rfl) (own_w hw 2 rfl) e0 (g := (mkF m 40 #[.val (.int pn), .val (.int px)] [])) rfl (hb hby d7_40) (by decide) (by decide)
    obtain ⟨b38, g38⟩ : ∃ z, z = h0.size := ⟨_, rfl⟩
    rw [← g38] at A38 D38 st38
    have G38 : n0 ≤ b38 := Nat.le_trans Z0 (Nat.le_of_eq g38.symm)
    have B38 : h0.size ≤ b38 := Nat.le_trans (Keep.refl h0 []).1 (Nat.le_of_eq g38.symm)
    have CH39 := hCH.ext E38
    have CR39 := CHr.trans hCR (CHr.ext E38 hCH)
    have K40 : Keep h0 h38 [] := (Keep.refl h0 []).ext E38
    have SF38 : Safe Z own_EL s.vm h38 b38 := Safe.ext E38 hCH (Safe.new (x := b38) (Nat.le_of_eq g38.symm))
    have D38_coder : Fld Z h38 b38 "java/lang/String" "coder" "B" (.int (0 : Int32)) := D38 (Or.inr (own_w hw 27 rfl)) (ty := .byte) (by decide)
    have D38_value : Fld Z h38 b38 "java/lang/String" "value" "[B" .null := D38 (Or.inr (own_w hw 29 rfl)) (ty := (.array .byte)) (by decide)
    refine own_st st38 ?_
    show own_Go p e below T38 (mkF m 43 #[.val (.int pn), .val (.int px)] [(.ref b38)]) _
    refine own_st (fun t_ k_ => XS.dup X38.here hx rfl (hb hby d7_43) rfl rfl (XS.iconst X38.here hx rfl (hb hby d7_44) k_)) ?_
    show own_Go p e below T38 (mkF m 45 #[.val (.int pn), .val (.int px)] [(.int (2 : Int32)), (.ref b38), (.ref b38)]) _
    have f41 := (Nat.le_trans Z0 E38.1)
    obtain ⟨T42, h42, k42, X42, e42, E42, A42, st42⟩ := newP X38 hx hZ (own_w hw 3 rfl) e38 (g := (mkF m 45 #[.val (.int pn), .val (.int px)] [(.int (2 : Int32)), (.ref b38), (.ref b38)])) rfl (hb hby d7_45) rfl (by decide) (cap := 2) (by decide) (by decide) (by decide) (by decide)
    obtain ⟨b42, g42⟩ : ∃ z, z = h38.size := ⟨_, rfl⟩
    rw [← g42] at A42 st42
    have G42 : n0 ≤ b42 := Nat.le_trans f41 (Nat.le_of_eq g42.symm)
    have B42 : h0.size ≤ b42 := Nat.le_trans K40.1 (Nat.le_of_eq g42.symm)
    have CH43 := CH39.ext E42
    have CR43 := CHr.trans CR39 (CHr.ext E42 CH39)
    have K44 : Keep h0 h42 [] := K40.ext E42
    have V42 : Arv Z h42 b42 k42 .char (2 : Int32) [(.int (0 : Int32)), (.int (0 : Int32))] (.int (0 : Int32)) := (Arv.new A42 (by decide)).pad (pad_rep [] (.int (0 : Int32)) 2)
    refine own_st st42 ?_
    show own_Go p e below T42 (mkF m 47 #[.val (.int pn), .val (.int px)] [(.ref b42), (.ref b38), (.ref b38)]) _
    refine own_st (fun t_ k_ => XS.dup X42.here hx rfl (hb hby d7_47) rfl rfl (XS.iconst X42.here hx rfl (hb hby d7_48) (XS.iloadN X42.here hx rfl (hb hby d7_49) rfl k_))) ?_
    show own_Go p e below T42 (mkF m 50 #[.val (.int pn), .val (.int px)] [(.int px), (.int (0 : Int32)), (.ref b42), (.ref b42), (.ref b38), (.ref b38)]) _
    obtain ⟨cl45, Ar45, q45, Sz45, Nn45, Hh45, Gg45⟩ := id V42
    have hin45 : ¬ ((0 : Int32) < 0 ∨ cl45.slots.size ≤ ((0 : Int32)).toNatClampNeg) := inb_of Sz45 ⟨by decide, by decide⟩
    obtain ⟨T46, h46, X46, e46, W46, st46⟩ := stC X42 hx hZ e42 Ar45 (j := (0 : Int32)) hin45 (g := (mkF m 50 #[.val (.int pn), .val (.int px)] [(.int px), (.int (0 : Int32)), (.ref b42), (.ref b42), (.ref b38), (.ref b38)])) rfl rfl (hb hby d7_50)
    have V46 : Arv Z h46 b42 k42 .char (2 : Int32) [(.int (nar .char px)), (.int (0 : Int32))] (.int (0 : Int32)) := Arv.set Ar45 q45 Sz45 Nn45 Hh45 Gg45 (fits_nar_char _) W46 0 rfl (Nat.le_of_ble_eq_true rfl)
    rw [own_nar hpx] at V46
    have Sa47 : Safe Z own_EL s.vm h42 b42 := (Safe.arv hZ.alike V42 (by decide))
    have CH47 := CH43.wr W46 Sa47
    have CR47 := CHr.trans CR43 (CHr.wr W46 Sa47 CH43)
    have K48 : Keep h0 h46 [] := K44.wr W46 (Or.inr B42)
    have N46 := Fr.snoc X46 N0 G42
    refine own_st st46 ?_
    show own_Go p e below T46 (mkF m 51 #[.val (.int pn), .val (.int px)] [(.ref b42), (.ref b38), (.ref b38)]) _
    refine own_st (fun t_ k_ => XS.dup X46.here hx rfl (hb hby d7_51) rfl rfl (XS.iconst X46.here hx rfl (hb hby d7_52) (XS.iloadN X46.here hx rfl (hb hby d7_53) rfl k_))) ?_
    show own_Go p e below T46 (mkF m 54 #[.val (.int pn), .val (.int px)] [(.int px), (.int (1 : Int32)), (.ref b42), (.ref b42), (.ref b38), (.ref b38)]) _
    obtain ⟨cl49, Ar49, q49, Sz49, Nn49, Hh49, Gg49⟩ := id V46
    have hin49 : ¬ ((1 : Int32) < 0 ∨ cl49.slots.size ≤ ((1 : Int32)).toNatClampNeg) := inb_of Sz49 ⟨by decide, by decide⟩
    obtain ⟨T50, h50, X50, e50, W50, st50⟩ := stC X46 hx hZ e46 Ar49 (j := (1 : Int32)) hin49 (g := (mkF m 54 #[.val (.int pn), .val (.int px)] [(.int px), (.int (1 : Int32)), (.ref b42), (.ref b42), (.ref b38), (.ref b38)])) rfl rfl (hb hby d7_54)
    have V50 : Arv Z h50 b42 k42 .char (2 : Int32) [(.int px), (.int (nar .char px))] (.int (0 : Int32)) := Arv.set Ar49 q49 Sz49 Nn49 Hh49 Gg49 (fits_nar_char _) W50 1 rfl (Nat.le_of_ble_eq_true rfl)
    rw [own_nar hpx] at V50
    have Sa51 : Safe Z own_EL s.vm h46 b42 := (Safe.arv hZ.alike V46 (by decide))
    have CH51 := CH47.wr W50 Sa51
    have CR51 := CHr.trans CR47 (CHr.wr W50 Sa51 CH47)
    have K52 : Keep h0 h50 [] := K48.wr W50 (Or.inr B42)
    have N50 := Fr.snoc X50 N46 G42
    refine own_st st50 ?_
    show own_Go p e below T50 (mkF m 55 #[.val (.int pn), .val (.int px)] [(.ref b42), (.ref b38), (.ref b38)]) _
    have hp1 : ∀ c ∈ ([px, px] : List Int32), ¬ c < 0 ∧ ¬ (255 : Int32) < c := fun c hc => by simp only [List.mem_cons, List.not_mem_nil, or_false, or_self] at hc; subst hc; exact hpx
    have f53 := (Nat.le_trans (Nat.le_trans (Nat.le_trans f41 E42.1) (Keep.of_wr W46).1) (Keep.of_wr W50).1)
    have f54 := (((A38.ext E42).wr W46).wr W50)
    have f55 := (((D38_value.ext E42).other W46 (Or.inl (Nat.ne_of_lt (Nat.lt_of_lt_of_le A38.lt (Nat.le_of_eq g42.symm))))).other W50 (Or.inl (Nat.ne_of_lt (Nat.lt_of_lt_of_le A38.lt (Nat.le_of_eq g42.symm)))))
    have f56 := (((D38_coder.ext E42).other W46 (Or.inl (Nat.ne_of_lt (Nat.lt_of_lt_of_le A38.lt (Nat.le_of_eq g42.symm))))).other W50 (Or.inl (Nat.ne_of_lt (Nat.lt_of_lt_of_le A38.lt (Nat.le_of_eq g42.symm)))))
    have f57 := ((((pO.ext E38).ext E42).wr W46 G42).wr W50 G42)
    obtain ⟨_, _, ⟨T58, L58, k58, n58⟩, -, X58, ⟨Lc58, hQ58, l58, y58, z58⟩, st58⟩ := X50.specialBack hx (y := (⟨"java/lang/String", "<init>", "([C)V"⟩ : MethodName)) rfl hown (mvT hZ (own_w hw 4 rfl)) (mvT hZ (own_w hw 5 rfl)) (mvT hZ (own_w hw 6 rfl)) (by decide) (StrChars.Road.backV (W := 1) hZ hws (kI := 4) (own_w hw 1 rfl) (cs := ([px, px] : List Int32)) (bs := (([px, px] : List Int32)).map (fun c => c.toInt8.toInt32)) (n := 2) G38 f53 f54 f55 f56 V50 (pS_COMPACT_STRINGS.ext f57.2) pP5 rfl rfl (by decide) (by decide) hp1 rfl (by decide) (by decide)) (g := (mkF m 55 #[.val (.int pn), .val (.int px)] [(.ref b42), (.ref b38), (.ref b38)])) rfl (by rw [hml]; rfl) (Steps.refl _) (a := b38) (argsL := [(.ref b42)]) (rest := [(.ref b38)]) (lenOf pd___C_V rfl) rfl (by show 2 * 0 + _ ≤ _; exact Nat.le_of_eq rfl) (hb hby d7_55) (fun _ _ => ⟨rfl, e50, (by decide : 2 + 1 ≤ _), (by decide : 6 + 2 ≤ _)⟩)
    dsimp only [Pt.U, Pt.locs, Pt.cells, Pt.slots] at X58 l58 y58 z58 st58 hQ58
    try dsimp only [Nat.reduceAdd] at y58 z58
    rw [l58, y58, z58] at X58
    obtain ⟨rfl, Nq58, Kq58, q58_E, q58_c, t58, kb58, q58_g, q58_b, q58_n, q58_v, q58_V⟩ := hQ58
    have N58 := Fr.app N50 Nq58
    have f60 := (Safe.wr W50 Sa51 CH47 (Safe.wr W46 Sa47 CH43 (Safe.ext E42 CH39 SF38)))
    have Sa59 : ∀ y ∈ [b38], Safe Z own_EL s.vm h50 y := (sfS f60 sf0)
    have CH59 := CH51.keep Kq58 Sa59
    have CR59 := CHr.trans CR51 (CHr.keep Kq58 Sa59 CH51)
    have K61 : Keep h0 T58.heap [] := K52.trans Kq58 (allS (Or.inr B38) all0)
    have Bf62 : h0.size ≤ t58 := Nat.le_trans K52.1 q58_b
    refine own_tr st58 ?_
    show own_Go p e below T58 (mkF m 58 #[.val (.int pn), .val (.int px)] [(.ref b38)]) _
    have Vz : Arv Z T58.heap t58 kb58 .byte pn ((((List.replicate nN px) : List Int32).map (fun c : Int32 => c.toInt8.toInt32)).map Value.int) (.int 0) := by rw [hA.1, hA.2]; exact q58_V
    have f63 := (Nat.le_trans (Nat.le_trans (Nat.le_trans (Nat.le_trans (Nat.le_trans hK0 E38.1) E42.1) (Keep.of_wr W46).1) (Keep.of_wr W50).1) Kq58.1)
    obtain ⟨fs, hr, hrun, hended, hRW⟩ := X58.leaveW hS f63 (v := some (.ref b38)) (fun h => by rw [Bd.returns] at h; cases h)
    have hCend : CHr Z own_EL s.vm s.heap T58.vm T58.heap := by
      rw [hh]
      exact CHr.trans CR59 (CHv.at X58 hZ hEL CH59)
    refine own_fin (own_retR X58 hx rfl Bd.returns rfl (hb hby d7_58) hr) ⟨hrun, hended, _, _, rfl, ?_, hCend, hRW.1, hRW.2.1, hRW.2.2.1, hRW.2.2.2.mono (by decide) (by decide)⟩
    show Q_rmMt Z pn nN px zc h0 n0 _ T58.heap _
    exact ⟨b38, t58, kb58, rfl, N58, K61, q58_E, q58_v, q58_c, Vz⟩
  · skip
    show own_Go p e below s₁ (mkF m 0 #[.val (.int pn), .val (.int px)] []) _
    refine own_st (fun t_ k_ => XS.iloadN X0.here hx rfl (hb hby d7_0) rfl (XS.ifYes X0.here hx rfl (pc0 := 1) (pc' := 15) rfl (hb hby d7_1) rfl ((if0 _ _).trans (feq (show ¬ (pn = (0 : Int32)) from (by rw [hA.1] <;> decide))).2) (by decide) (by decide) (XS.iloadN X0.here hx rfl (hb hby d7_15) rfl (XS.iconst X0.here hx rfl (hb hby d7_16) (XS.icmpYes X0.here hx rfl (pc0 := 17) (pc' := 35) rfl (hb hby d7_17) rfl (feq (show ¬ (pn = (1 : Int32)) from (by rw [hA.1] <;> decide))).2 (by decide) (by decide) (XS.iloadN X0.here hx rfl (hb hby d7_35) rfl (XS.iconst X0.here hx rfl (hb hby d7_36) (XS.icmpYes X0.here hx rfl (pc0 := 37) (pc' := 59) rfl (hb hby d7_37) rfl (feq (show ¬ (pn = (2 : Int32)) from (by rw [hA.1] <;> decide))).2 (by decide) (by decide) (XS.iloadN X0.here hx rfl (hb hby d7_59) rfl (XS.iconst X0.here hx rfl (hb hby d7_60) k_)))))))))) ?_
    show own_Go p e below s₁ (mkF m 61 #[.val (.int pn), .val (.int px)] [(.int (3 : Int32)), (.int pn)]) _
    refine own_st (fun t_ k_ => XS.icmpNo X0.here hx rfl (hb hby d7_61) rfl (teq (show pn = (3 : Int32) from (by rw [hA.1] <;> decide))).2 k_) ?_
    show own_Go p e below s₁ (mkF m 64 #[.val (.int pn), .val (.int px)] []) _
    obtain ⟨T64, h64, X64, e64, E64, A64, D64, -, st64⟩ := newO X0 hx hZ hown (own_w hw 0 rfl) (own_w hw 1 rfl) (own_w hw 2 rfl) e0 (g := (mkF m 64 #[.val (.int pn), .val (.int px)] [])) rfl (hb hby d7_64) (by decide) (by decide)
    obtain ⟨b64, g64⟩ : ∃ z, z = h0.size := ⟨_, rfl⟩
    rw [← g64] at A64 D64 st64
    have G64 : n0 ≤ b64 := Nat.le_trans Z0 (Nat.le_of_eq g64.symm)
    have B64 : h0.size ≤ b64 := Nat.le_trans (Keep.refl h0 []).1 (Nat.le_of_eq g64.symm)
    have CH65 := hCH.ext E64
    have CR65 := CHr.trans hCR (CHr.ext E64 hCH)
    have K66 : Keep h0 h64 [] := (Keep.refl h0 []).ext E64
    have SF64 : Safe Z own_EL s.vm h64 b64 := Safe.ext E64 hCH (Safe.new (x := b64) (Nat.le_of_eq g64.symm))
    have D64_coder : Fld Z h64 b64 "java/lang/String" "coder" "B" (.int (0 : Int32)) := D64 (Or.inr (own_w hw 27 rfl)) (ty := .byte) (by decide)
    have D64_value : Fld Z h64 b64 "java/lang/String" "value" "[B" .null := D64 (Or.inr (own_w hw 29 rfl)) (ty := (.array .byte)) (by decide)
    refine own_st st64 ?_
    show own_Go p e below T64 (mkF m 67 #[.val (.int pn), .val (.int px)] [(.ref b64)]) _
    refine own_st (fun t_ k_ => XS.dup X64.here hx rfl (hb hby d7_67) rfl rfl (XS.iconst X64.here hx rfl (hb hby d7_68) k_)) ?_
    show own_Go p e below T64 (mkF m 69 #[.val (.int pn), .val (.int px)] [(.int (3 : Int32)), (.ref b64), (.ref b64)]) _
    have f67 := (Nat.le_trans Z0 E64.1)
    obtain ⟨T68, h68, k68, X68, e68, E68, A68, st68⟩ := newP X64 hx hZ (own_w hw 3 rfl) e64 (g := (mkF m 69 #[.val (.int pn), .val (.int px)] [(.int (3 : Int32)), (.ref b64), (.ref b64)])) rfl (hb hby d7_69) rfl (by decide) (cap := 3) (by decide) (by decide) (by decide) (by decide)
    obtain ⟨b68, g68⟩ : ∃ z, z = h64.size := ⟨_, rfl⟩
    rw [← g68] at A68 st68
    have G68 : n0 ≤ b68 := Nat.le_trans f67 (Nat.le_of_eq g68.symm)
    have B68 : h0.size ≤ b68 := Nat.le_trans K66.1 (Nat.le_of_eq g68.symm)
    have CH69 := CH65.ext E68
    have CR69 := CHr.trans CR65 (CHr.ext E68 CH65)
    have K70 : Keep h0 h68 [] := K66.ext E68
    have V68 : Arv Z h68 b68 k68 .char (3 : Int32) [(.int (0 : Int32)), (.int (0 : Int32)), (.int (0 : Int32))] (.int (0 : Int32)) := (Arv.new A68 (by decide)).pad (pad_rep [] (.int (0 : Int32)) 3)
    refine own_st st68 ?_
    show own_Go p e below T68 (mkF m 71 #[.val (.int pn), .val (.int px)] [(.ref b68), (.ref b64), (.ref b64)]) _
    refine own_st (fun t_ k_ => XS.dup X68.here hx rfl (hb hby d7_71) rfl rfl (XS.iconst X68.here hx rfl (hb hby d7_72) (XS.iloadN X68.here hx rfl (hb hby d7_73) rfl k_))) ?_
    show own_Go p e below T68 (mkF m 74 #[.val (.int pn), .val (.int px)] [(.int px), (.int (0 : Int32)), (.ref b68), (.ref b68), (.ref b64), (.ref b64)]) _
    obtain ⟨cl71, Ar71, q71, Sz71, Nn71, Hh71, Gg71⟩ := id V68
    have hin71 : ¬ ((0 : Int32) < 0 ∨ cl71.slots.size ≤ ((0 : Int32)).toNatClampNeg) := inb_of Sz71 ⟨by decide, by decide⟩
    obtain ⟨T72, h72, X72, e72, W72, st72⟩ := stC X68 hx hZ e68 Ar71 (j := (0 : Int32)) hin71 (g := (mkF m 74 #[.val (.int pn), .val (.int px)] [(.int px), (.int (0 : Int32)), (.ref b68), (.ref b68), (.ref b64), (.ref b64)])) rfl rfl (hb hby d7_74)
    have V72 : Arv Z h72 b68 k68 .char (3 : Int32) [(.int (nar .char px)), (.int (0 : Int32)), (.int (0 : Int32))] (.int (0 : Int32)) := Arv.set Ar71 q71 Sz71 Nn71 Hh71 Gg71 (fits_nar_char _) W72 0 rfl (Nat.le_of_ble_eq_true rfl)
    rw [own_nar hpx] at V72
    have Sa73 : Safe Z own_EL s.vm h68 b68 := (Safe.arv hZ.alike V68 (by decide))
    have CH73 := CH69.wr W72 Sa73
    have CR73 := CHr.trans CR69 (CHr.wr W72 Sa73 CH69)
    have K74 : Keep h0 h72 [] := K70.wr W72 (Or.inr B68)
    have N72 := Fr.snoc X72 N0 G68
    refine own_st st72 ?_
    show own_Go p e below T72 (mkF m 75 #[.val (.int pn), .val (.int px)] [(.ref b68), (.ref b64), (.ref b64)]) _
    refine own_st (fun t_ k_ => XS.dup X72.here hx rfl (hb hby d7_75) rfl rfl (XS.iconst X72.here hx rfl (hb hby d7_76) (XS.iloadN X72.here hx rfl (hb hby d7_77) rfl k_))) ?_
    show own_Go p e below T72 (mkF m 78 #[.val (.int pn), .val (.int px)] [(.int px), (.int (1 : Int32)), (.ref b68), (.ref b68), (.ref b64), (.ref b64)]) _
    obtain ⟨cl75, Ar75, q75, Sz75, Nn75, Hh75, Gg75⟩ := id V72
    have hin75 : ¬ ((1 : Int32) < 0 ∨ cl75.slots.size ≤ ((1 : Int32)).toNatClampNeg) := inb_of Sz75 ⟨by decide, by decide⟩
    obtain ⟨T76, h76, X76, e76, W76, st76⟩ := stC X72 hx hZ e72 Ar75 (j := (1 : Int32)) hin75 (g := (mkF m 78 #[.val (.int pn), .val (.int px)] [(.int px), (.int (1 : Int32)), (.ref b68), (.ref b68), (.ref b64), (.ref b64)])) rfl rfl (hb hby d7_78)
    have V76 : Arv Z h76 b68 k68 .char (3 : Int32) [(.int px), (.int (nar .char px)), (.int (0 : Int32))] (.int (0 : Int32)) := Arv.set Ar75 q75 Sz75 Nn75 Hh75 Gg75 (fits_nar_char _) W76 1 rfl (Nat.le_of_ble_eq_true rfl)
    rw [own_nar hpx] at V76
    have Sa77 : Safe Z own_EL s.vm h72 b68 := (Safe.arv hZ.alike V72 (by decide))
    have CH77 := CH73.wr W76 Sa77
    have CR77 := CHr.trans CR73 (CHr.wr W76 Sa77 CH73)
    have K78 : Keep h0 h76 [] := K74.wr W76 (Or.inr B68)
    have N76 := Fr.snoc X76 N72 G68
    refine own_st st76 ?_
    show own_Go p e below T76 (mkF m 79 #[.val (.int pn), .val (.int px)] [(.ref b68), (.ref b64), (.ref b64)]) _
    refine own_st (fun t_ k_ => XS.dup X76.here hx rfl (hb hby d7_79) rfl rfl (XS.iconst X76.here hx rfl (hb hby d7_80) (XS.iloadN X76.here hx rfl (hb hby d7_81) rfl k_))) ?_
    show own_Go p e below T76 (mkF m 82 #[.val (.int pn), .val (.int px)] [(.int px), (.int (2 : Int32)), (.ref b68), (.ref b68), (.ref b64), (.ref b64)]) _
    obtain ⟨cl79, Ar79, q79, Sz79, Nn79, Hh79, Gg79⟩ := id V76
    have hin79 : ¬ ((2 : Int32) < 0 ∨ cl79.slots.size ≤ ((2 : Int32)).toNatClampNeg) := inb_of Sz79 ⟨by decide, by decide⟩
    obtain ⟨T80, h80, X80, e80, W80, st80⟩ := stC X76 hx hZ e76 Ar79 (j := (2 : Int32)) hin79 (g := (mkF m 82 #[.val (.int pn), .val (.int px)] [(.int px), (.int (2 : Int32)), (.ref b68), (.ref b68), (.ref b64), (.ref b64)])) rfl rfl (hb hby d7_82)
    have V80 : Arv Z h80 b68 k68 .char (3 : Int32) [(.int px), (.int px), (.int (nar .char px))] (.int (0 : Int32)) := Arv.set Ar79 q79 Sz79 Nn79 Hh79 Gg79 (fits_nar_char _) W80 2 rfl (Nat.le_of_ble_eq_true rfl)
    rw [own_nar hpx] at V80
    have Sa81 : Safe Z own_EL s.vm h76 b68 := (Safe.arv hZ.alike V76 (by decide))
    have CH81 := CH77.wr W80 Sa81
    have CR81 := CHr.trans CR77 (CHr.wr W80 Sa81 CH77)
    have K82 : Keep h0 h80 [] := K78.wr W80 (Or.inr B68)
    have N80 := Fr.snoc X80 N76 G68
    refine own_st st80 ?_
    show own_Go p e below T80 (mkF m 83 #[.val (.int pn), .val (.int px)] [(.ref b68), (.ref b64), (.ref b64)]) _
    have hp1 : ∀ c ∈ ([px, px, px] : List Int32), ¬ c < 0 ∧ ¬ (255 : Int32) < c := fun c hc => by simp only [List.mem_cons, List.not_mem_nil, or_false, or_self] at hc; subst hc; exact hpx
    have f83 := (Nat.le_trans (Nat.le_trans (Nat.le_trans (Nat.le_trans f67 E68.1) (Keep.of_wr W72).1) (Keep.of_wr W76).1) (Keep.of_wr W80).1)
    have f84 := ((((A64.ext E68).wr W72).wr W76).wr W80)
    have f85 := ((((D64_value.ext E68).other W72 (Or.inl (Nat.ne_of_lt (Nat.lt_of_lt_of_le A64.lt (Nat.le_of_eq g68.symm))))).other W76 (Or.inl (Nat.ne_of_lt (Nat.lt_of_lt_of_le A64.lt (Nat.le_of_eq g68.symm))))).other W80 (Or.inl (Nat.ne_of_lt (Nat.lt_of_lt_of_le A64.lt (Nat.le_of_eq g68.symm)))))
    have f86 := ((((D64_coder.ext E68).other W72 (Or.inl (Nat.ne_of_lt (Nat.lt_of_lt_of_le A64.lt (Nat.le_of_eq g68.symm))))).other W76 (Or.inl (Nat.ne_of_lt (Nat.lt_of_lt_of_le A64.lt (Nat.le_of_eq g68.symm))))).other W80 (Or.inl (Nat.ne_of_lt (Nat.lt_of_lt_of_le A64.lt (Nat.le_of_eq g68.symm)))))
    have f87 := (((((pO.ext E64).ext E68).wr W72 G68).wr W76 G68).wr W80 G68)
    obtain ⟨_, _, ⟨T88, L88, k88, n88⟩, -, X88, ⟨Lc88, hQ88, l88, y88, z88⟩, st88⟩ := X80.specialBack hx (y := (⟨"java/lang/String", "<init>", "([C)V"⟩ : MethodName)) rfl hown (mvT hZ (own_w hw 4 rfl)) (mvT hZ (own_w hw 5 rfl)) (mvT hZ (own_w hw 6 rfl)) (by decide) (StrChars.Road.backV (W := 1) hZ hws (kI := 4) (own_w hw 1 rfl) (cs := ([px, px, px] : List Int32)) (bs := (([px, px, px] : List Int32)).map (fun c => c.toInt8.toInt32)) (n := 3) G64 f83 f84 f85 f86 V80 (pS_COMPACT_STRINGS.ext f87.2) pP5 rfl rfl (by decide) (by decide) hp1 rfl (by decide) (by decide)) (g := (mkF m 83 #[.val (.int pn), .val (.int px)] [(.ref b68), (.ref b64), (.ref b64)])) rfl (by rw [hml]; rfl) (Steps.refl _) (a := b64) (argsL := [(.ref b68)]) (rest := [(.ref b64)]) (lenOf pd___C_V rfl) rfl (by show 2 * 0 + _ ≤ _; exact Nat.le_of_eq rfl) (hb hby d7_83) (fun _ _ => ⟨rfl, e80, (by decide : 2 + 1 ≤ _), (by decide : 7 + 3 ≤ _)⟩)
    dsimp only [Pt.U, Pt.locs, Pt.cells, Pt.slots] at X88 l88 y88 z88 st88 hQ88
    try dsimp only [Nat.reduceAdd] at y88 z88
    rw [l88, y88, z88] at X88
    obtain ⟨rfl, Nq88, Kq88, q88_E, q88_c, t88, kb88, q88_g, q88_b, q88_n, q88_v, q88_V⟩ := hQ88
    have N88 := Fr.app N80 Nq88
    have f90 := (Safe.wr W80 Sa81 CH77 (Safe.wr W76 Sa77 CH73 (Safe.wr W72 Sa73 CH69 (Safe.ext E68 CH65 SF64))))
    have Sa89 : ∀ y ∈ [b64], Safe Z own_EL s.vm h80 y := (sfS f90 sf0)
    have CH89 := CH81.keep Kq88 Sa89
    have CR89 := CHr.trans CR81 (CHr.keep Kq88 Sa89 CH81)
    have K91 : Keep h0 T88.heap [] := K82.trans Kq88 (allS (Or.inr B64) all0)
    have Bf92 : h0.size ≤ t88 := Nat.le_trans K82.1 q88_b
    refine own_tr st88 ?_
    show own_Go p e below T88 (mkF m 86 #[.val (.int pn), .val (.int px)] [(.ref b64)]) _
    have Vz : Arv Z T88.heap t88 kb88 .byte pn ((((List.replicate nN px) : List Int32).map (fun c : Int32 => c.toInt8.toInt32)).map Value.int) (.int 0) := by rw [hA.1, hA.2]; exact q88_V
    have f93 := (Nat.le_trans (Nat.le_trans (Nat.le_trans (Nat.le_trans (Nat.le_trans (Nat.le_trans hK0 E64.1) E68.1) (Keep.of_wr W72).1) (Keep.of_wr W76).1) (Keep.of_wr W80).1) Kq88.1)
    obtain ⟨fs, hr, hrun, hended, hRW⟩ := X88.leaveW hS f93 (v := some (.ref b64)) (fun h => by rw [Bd.returns] at h; cases h)
    have hCend : CHr Z own_EL s.vm s.heap T88.vm T88.heap := by
      rw [hh]
      exact CHr.trans CR89 (CHv.at X88 hZ hEL CH89)
    refine own_fin (own_retR X88 hx rfl Bd.returns rfl (hb hby d7_86) hr) ⟨hrun, hended, _, _, rfl, ?_, hCend, hRW.1, hRW.2.1, hRW.2.2.1, hRW.2.2.2.mono (by decide) (by decide)⟩
    show Q_rmMt Z pn nN px zc h0 n0 _ T88.heap _
    exact ⟨b64, t88, kb88, rfl, N88, K91, q88_E, q88_v, q88_c, Vz⟩
  · skip
    show own_Go p e below s₁ (mkF m 0 #[.val (.int pn), .val (.int px)] []) _
    refine own_st (fun t_ k_ => XS.iloadN X0.here hx rfl (hb hby d7_0) rfl (XS.ifYes X0.here hx rfl (pc0 := 1) (pc' := 15) rfl (hb hby d7_1) rfl ((if0 _ _).trans (feq (show ¬ (pn = (0 : Int32)) from (by rw [hA.1] <;> decide))).2) (by decide) (by decide) (XS.iloadN X0.here hx rfl (hb hby d7_15) rfl (XS.iconst X0.here hx rfl (hb hby d7_16) (XS.icmpYes X0.here hx rfl (pc0 := 17) (pc' := 35) rfl (hb hby d7_17) rfl (feq (show ¬ (pn = (1 : Int32)) from (by rw [hA.1] <;> decide))).2 (by decide) (by decide) (XS.iloadN X0.here hx rfl (hb hby d7_35) rfl (XS.iconst X0.here hx rfl (hb hby d7_36) (XS.icmpYes X0.here hx rfl (pc0 := 37) (pc' := 59) rfl (hb hby d7_37) rfl (feq (show ¬ (pn = (2 : Int32)) from (by rw [hA.1] <;> decide))).2 (by decide) (by decide) (XS.iloadN X0.here hx rfl (hb hby d7_59) rfl (XS.iconst X0.here hx rfl (hb hby d7_60) k_)))))))))) ?_
    show own_Go p e below s₁ (mkF m 61 #[.val (.int pn), .val (.int px)] [(.int (3 : Int32)), (.int pn)]) _
    refine own_st (fun t_ k_ => XS.icmpYes X0.here hx rfl (pc0 := 61) (pc' := 87) rfl (hb hby d7_61) rfl (feq (show ¬ (pn = (3 : Int32)) from (by rw [hA.1] <;> decide))).2 (by decide) (by decide) (XS.iloadN X0.here hx rfl (hb hby d7_87) rfl (XS.iconst X0.here hx rfl (hb hby d7_88) (XS.icmpNo X0.here hx rfl (hb hby d7_89) rfl (teq (show pn = (4 : Int32) from (by rw [hA.1] <;> decide))).2 k_)))) ?_
    show own_Go p e below s₁ (mkF m 92 #[.val (.int pn), .val (.int px)] []) _
    obtain ⟨T94, h94, X94, e94, E94, A94, D94, -, st94⟩ := newO X0 hx hZ hown (own_w hw 0 rfl) (own_w hw 1 rfl) (own_w hw 2 rfl) e0 (g := (mkF m 92 #[.val (.int pn), .val (.int px)] [])) rfl (hb hby d7_92) (by decide) (by decide)
    obtain ⟨b94, g94⟩ : ∃ z, z = h0.size := ⟨_, rfl⟩
    rw [← g94] at A94 D94 st94
    have G94 : n0 ≤ b94 := Nat.le_trans Z0 (Nat.le_of_eq g94.symm)
    have B94 : h0.size ≤ b94 := Nat.le_trans (Keep.refl h0 []).1 (Nat.le_of_eq g94.symm)
    have CH95 := hCH.ext E94
    have CR95 := CHr.trans hCR (CHr.ext E94 hCH)
    have K96 : Keep h0 h94 [] := (Keep.refl h0 []).ext E94
    have SF94 : Safe Z own_EL s.vm h94 b94 := Safe.ext E94 hCH (Safe.new (x := b94) (Nat.le_of_eq g94.symm))
    have D94_coder : Fld Z h94 b94 "java/lang/String" "coder" "B" (.int (0 : Int32)) := D94 (Or.inr (own_w hw 27 rfl)) (ty := .byte) (by decide)
    have D94_value : Fld Z h94 b94 "java/lang/String" "value" "[B" .null := D94 (Or.inr (own_w hw 29 rfl)) (ty := (.array .byte)) (by decide)
    refine own_st st94 ?_
    show own_Go p e below T94 (mkF m 95 #[.val (.int pn), .val (.int px)] [(.ref b94)]) _
    refine own_st (fun t_ k_ => XS.dup X94.here hx rfl (hb hby d7_95) rfl rfl (XS.iconst X94.here hx rfl (hb hby d7_96) k_)) ?_
    show own_Go p e below T94 (mkF m 97 #[.val (.int pn), .val (.int px)] [(.int (4 : Int32)), (.ref b94), (.ref b94)]) _
    have f97 := (Nat.le_trans Z0 E94.1)
    obtain ⟨T98, h98, k98, X98, e98, E98, A98, st98⟩ := newP X94 hx hZ (own_w hw 3 rfl) e94 (g := (mkF m 97 #[.val (.int pn), .val (.int px)] [(.int (4 : Int32)), (.ref b94), (.ref b94)])) rfl (hb hby d7_97) rfl (by decide) (cap := 4) (by decide) (by decide) (by decide) (by decide)
    obtain ⟨b98, g98⟩ : ∃ z, z = h94.size := ⟨_, rfl⟩
    rw [← g98] at A98 st98
    have G98 : n0 ≤ b98 := Nat.le_trans f97 (Nat.le_of_eq g98.symm)
    have B98 : h0.size ≤ b98 := Nat.le_trans K96.1 (Nat.le_of_eq g98.symm)
    have CH99 := CH95.ext E98
    have CR99 := CHr.trans CR95 (CHr.ext E98 CH95)
    have K100 : Keep h0 h98 [] := K96.ext E98
    have V98 : Arv Z h98 b98 k98 .char (4 : Int32) [(.int (0 : Int32)), (.int (0 : Int32)), (.int (0 : Int32)), (.int (0 : Int32))] (.int (0 : Int32)) := (Arv.new A98 (by decide)).pad (pad_rep [] (.int (0 : Int32)) 4)
    refine own_st st98 ?_
    show own_Go p e below T98 (mkF m 99 #[.val (.int pn), .val (.int px)] [(.ref b98), (.ref b94), (.ref b94)]) _
    refine own_st (fun t_ k_ => XS.dup X98.here hx rfl (hb hby d7_99) rfl rfl (XS.iconst X98.here hx rfl (hb hby d7_100) (XS.iloadN X98.here hx rfl (hb hby d7_101) rfl k_))) ?_
    show own_Go p e below T98 (mkF m 102 #[.val (.int pn), .val (.int px)] [(.int px), (.int (0 : Int32)), (.ref b98), (.ref b98), (.ref b94), (.ref b94)]) _
    obtain ⟨cl101, Ar101, q101, Sz101, Nn101, Hh101, Gg101⟩ := id V98
    have hin101 : ¬ ((0 : Int32) < 0 ∨ cl101.slots.size ≤ ((0 : Int32)).toNatClampNeg) := inb_of Sz101 ⟨by decide, by decide⟩
    obtain ⟨T102, h102, X102, e102, W102, st102⟩ := stC X98 hx hZ e98 Ar101 (j := (0 : Int32)) hin101 (g := (mkF m 102 #[.val (.int pn), .val (.int px)] [(.int px), (.int (0 : Int32)), (.ref b98), (.ref b98), (.ref b94), (.ref b94)])) rfl rfl (hb hby d7_102)
    have V102 : Arv Z h102 b98 k98 .char (4 : Int32) [(.int (nar .char px)), (.int (0 : Int32)), (.int (0 : Int32)), (.int (0 : Int32))] (.int (0 : Int32)) := Arv.set Ar101 q101 Sz101 Nn101 Hh101 Gg101 (fits_nar_char _) W102 0 rfl (Nat.le_of_ble_eq_true rfl)
    rw [own_nar hpx] at V102
    have Sa103 : Safe Z own_EL s.vm h98 b98 := (Safe.arv hZ.alike V98 (by decide))
    have CH103 := CH99.wr W102 Sa103
    have CR103 := CHr.trans CR99 (CHr.wr W102 Sa103 CH99)
    have K104 : Keep h0 h102 [] := K100.wr W102 (Or.inr B98)
    have N102 := Fr.snoc X102 N0 G98
    refine own_st st102 ?_
    show own_Go p e below T102 (mkF m 103 #[.val (.int pn), .val (.int px)] [(.ref b98), (.ref b94), (.ref b94)]) _
    refine own_st (fun t_ k_ => XS.dup X102.here hx rfl (hb hby d7_103) rfl rfl (XS.iconst X102.here hx rfl (hb hby d7_104) (XS.iloadN X102.here hx rfl (hb hby d7_105) rfl k_))) ?_
    show own_Go p e below T102 (mkF m 106 #[.val (.int pn), .val (.int px)] [(.int px), (.int (1 : Int32)), (.ref b98), (.ref b98), (.ref b94), (.ref b94)]) _
    obtain ⟨cl105, Ar105, q105, Sz105, Nn105, Hh105, Gg105⟩ := id V102
    have hin105 : ¬ ((1 : Int32) < 0 ∨ cl105.slots.size ≤ ((1 : Int32)).toNatClampNeg) := inb_of Sz105 ⟨by decide, by decide⟩
    obtain ⟨T106, h106, X106, e106, W106, st106⟩ := stC X102 hx hZ e102 Ar105 (j := (1 : Int32)) hin105 (g := (mkF m 106 #[.val (.int pn), .val (.int px)] [(.int px), (.int (1 : Int32)), (.ref b98), (.ref b98), (.ref b94), (.ref b94)])) rfl rfl (hb hby d7_106)
    have V106 : Arv Z h106 b98 k98 .char (4 : Int32) [(.int px), (.int (nar .char px)), (.int (0 : Int32)), (.int (0 : Int32))] (.int (0 : Int32)) := Arv.set Ar105 q105 Sz105 Nn105 Hh105 Gg105 (fits_nar_char _) W106 1 rfl (Nat.le_of_ble_eq_true rfl)
    rw [own_nar hpx] at V106
    have Sa107 : Safe Z own_EL s.vm h102 b98 := (Safe.arv hZ.alike V102 (by decide))
    have CH107 := CH103.wr W106 Sa107
    have CR107 := CHr.trans CR103 (CHr.wr W106 Sa107 CH103)
    have K108 : Keep h0 h106 [] := K104.wr W106 (Or.inr B98)
    have N106 := Fr.snoc X106 N102 G98
    refine own_st st106 ?_
    show own_Go p e below T106 (mkF m 107 #[.val (.int pn), .val (.int px)] [(.ref b98), (.ref b94), (.ref b94)]) _
    refine own_st (fun t_ k_ => XS.dup X106.here hx rfl (hb hby d7_107) rfl rfl (XS.iconst X106.here hx rfl (hb hby d7_108) (XS.iloadN X106.here hx rfl (hb hby d7_109) rfl k_))) ?_
    show own_Go p e below T106 (mkF m 110 #[.val (.int pn), .val (.int px)] [(.int px), (.int (2 : Int32)), (.ref b98), (.ref b98), (.ref b94), (.ref b94)]) _
    obtain ⟨cl109, Ar109, q109, Sz109, Nn109, Hh109, Gg109⟩ := id V106
    have hin109 : ¬ ((2 : Int32) < 0 ∨ cl109.slots.size ≤ ((2 : Int32)).toNatClampNeg) := inb_of Sz109 ⟨by decide, by decide⟩
    obtain ⟨T110, h110, X110, e110, W110, st110⟩ := stC X106 hx hZ e106 Ar109 (j := (2 : Int32)) hin109 (g := (mkF m 110 #[.val (.int pn), .val (.int px)] [(.int px), (.int (2 : Int32)), (.ref b98), (.ref b98), (.ref b94), (.ref b94)])) rfl rfl (hb hby d7_110)
    have V110 : Arv Z h110 b98 k98 .char (4 : Int32) [(.int px), (.int px), (.int (nar .char px)), (.int (0 : Int32))] (.int (0 : Int32)) := Arv.set Ar109 q109 Sz109 Nn109 Hh109 Gg109 (fits_nar_char _) W110 2 rfl (Nat.le_of_ble_eq_true rfl)
    rw [own_nar hpx] at V110
    have Sa111 : Safe Z own_EL s.vm h106 b98 := (Safe.arv hZ.alike V106 (by decide))
    have CH111 := CH107.wr W110 Sa111
    have CR111 := CHr.trans CR107 (CHr.wr W110 Sa111 CH107)
    have K112 : Keep h0 h110 [] := K108.wr W110 (Or.inr B98)
    have N110 := Fr.snoc X110 N106 G98
    refine own_st st110 ?_
    show own_Go p e below T110 (mkF m 111 #[.val (.int pn), .val (.int px)] [(.ref b98), (.ref b94), (.ref b94)]) _
    refine own_st (fun t_ k_ => XS.dup X110.here hx rfl (hb hby d7_111) rfl rfl (XS.iconst X110.here hx rfl (hb hby d7_112) (XS.iloadN X110.here hx rfl (hb hby d7_113) rfl k_))) ?_
    show own_Go p e below T110 (mkF m 114 #[.val (.int pn), .val (.int px)] [(.int px), (.int (3 : Int32)), (.ref b98), (.ref b98), (.ref b94), (.ref b94)]) _
    obtain ⟨cl113, Ar113, q113, Sz113, Nn113, Hh113, Gg113⟩ := id V110
    have hin113 : ¬ ((3 : Int32) < 0 ∨ cl113.slots.size ≤ ((3 : Int32)).toNatClampNeg) := inb_of Sz113 ⟨by decide, by decide⟩
    obtain ⟨T114, h114, X114, e114, W114, st114⟩ := stC X110 hx hZ e110 Ar113 (j := (3 : Int32)) hin113 (g := (mkF m 114 #[.val (.int pn), .val (.int px)] [(.int px), (.int (3 : Int32)), (.ref b98), (.ref b98), (.ref b94), (.ref b94)])) rfl rfl (hb hby d7_114)
    have V114 : Arv Z h114 b98 k98 .char (4 : Int32) [(.int px), (.int px), (.int px), (.int (nar .char px))] (.int (0 : Int32)) := Arv.set Ar113 q113 Sz113 Nn113 Hh113 Gg113 (fits_nar_char _) W114 3 rfl (Nat.le_of_ble_eq_true rfl)
    rw [own_nar hpx] at V114
    have Sa115 : Safe Z own_EL s.vm h110 b98 := (Safe.arv hZ.alike V110 (by decide))
    have CH115 := CH111.wr W114 Sa115
    have CR115 := CHr.trans CR111 (CHr.wr W114 Sa115 CH111)
    have K116 : Keep h0 h114 [] := K112.wr W114 (Or.inr B98)
    have N114 := Fr.snoc X114 N110 G98
    refine own_st st114 ?_
    show own_Go p e below T114 (mkF m 115 #[.val (.int pn), .val (.int px)] [(.ref b98), (.ref b94), (.ref b94)]) _
    have hp1 : ∀ c ∈ ([px, px, px, px] : List Int32), ¬ c < 0 ∧ ¬ (255 : Int32) < c := fun c hc => by simp only [List.mem_cons, List.not_mem_nil, or_false, or_self] at hc; subst hc; exact hpx
    have f117 := (Nat.le_trans (Nat.le_trans (Nat.le_trans (Nat.le_trans (Nat.le_trans f97 E98.1) (Keep.of_wr W102).1) (Keep.of_wr W106).1) (Keep.of_wr W110).1) (Keep.of_wr W114).1)
    have f118 := (((((A94.ext E98).wr W102).wr W106).wr W110).wr W114)
    have f119 := (((((D94_value.ext E98).other W102 (Or.inl (Nat.ne_of_lt (Nat.lt_of_lt_of_le A94.lt (Nat.le_of_eq g98.symm))))).other W106 (Or.inl (Nat.ne_of_lt (Nat.lt_of_lt_of_le A94.lt (Nat.le_of_eq g98.symm))))).other W110 (Or.inl (Nat.ne_of_lt (Nat.lt_of_lt_of_le A94.lt (Nat.le_of_eq g98.symm))))).other W114 (Or.inl (Nat.ne_of_lt (Nat.lt_of_lt_of_le A94.lt (Nat.le_of_eq g98.symm)))))
    have f120 := (((((D94_coder.ext E98).other W102 (Or.inl (Nat.ne_of_lt (Nat.lt_of_lt_of_le A94.lt (Nat.le_of_eq g98.symm))))).other W106 (Or.inl (Nat.ne_of_lt (Nat.lt_of_lt_of_le A94.lt (Nat.le_of_eq g98.symm))))).other W110 (Or.inl (Nat.ne_of_lt (Nat.lt_of_lt_of_le A94.lt (Nat.le_of_eq g98.symm))))).other W114 (Or.inl (Nat.ne_of_lt (Nat.lt_of_lt_of_le A94.lt (Nat.le_of_eq g98.symm)))))
    have f121 := ((((((pO.ext E94).ext E98).wr W102 G98).wr W106 G98).wr W110 G98).wr W114 G98)
    obtain ⟨_, _, ⟨T122, L122, k122, n122⟩, -, X122, ⟨Lc122, hQ122, l122, y122, z122⟩, st122⟩ := X114.specialBack hx (y := (⟨"java/lang/String", "<init>", "([C)V"⟩ : MethodName)) rfl hown (mvT hZ (own_w hw 4 rfl)) (mvT hZ (own_w hw 5 rfl)) (mvT hZ (own_w hw 6 rfl)) (by decide) (StrChars.Road.backV (W := 1) hZ hws (kI := 4) (own_w hw 1 rfl) (cs := ([px, px, px, px] : List Int32)) (bs := (([px, px, px, px] : List Int32)).map (fun c => c.toInt8.toInt32)) (n := 4) G94 f117 f118 f119 f120 V114 (pS_COMPACT_STRINGS.ext f121.2) pP5 rfl rfl (by decide) (by decide) hp1 rfl (by decide) (by decide)) (g := (mkF m 115 #[.val (.int pn), .val (.int px)] [(.ref b98), (.ref b94), (.ref b94)])) rfl (by rw [hml]; rfl) (Steps.refl _) (a := b94) (argsL := [(.ref b98)]) (rest := [(.ref b94)]) (lenOf pd___C_V rfl) rfl (by show 2 * 0 + _ ≤ _; exact Nat.le_of_eq rfl) (hb hby d7_115) (fun _ _ => ⟨rfl, e114, (by decide : 2 + 1 ≤ _), (by decide : 8 + 4 ≤ _)⟩)
    dsimp only [Pt.U, Pt.locs, Pt.cells, Pt.slots] at X122 l122 y122 z122 st122 hQ122
    try dsimp only [Nat.reduceAdd] at y122 z122
    rw [l122, y122, z122] at X122
    obtain ⟨rfl, Nq122, Kq122, q122_E, q122_c, t122, kb122, q122_g, q122_b, q122_n, q122_v, q122_V⟩ := hQ122
    have N122 := Fr.app N114 Nq122
    have f124 := (Safe.wr W114 Sa115 CH111 (Safe.wr W110 Sa111 CH107 (Safe.wr W106 Sa107 CH103 (Safe.wr W102 Sa103 CH99 (Safe.ext E98 CH95 SF94)))))
    have Sa123 : ∀ y ∈ [b94], Safe Z own_EL s.vm h114 y := (sfS f124 sf0)
    have CH123 := CH115.keep Kq122 Sa123
    have CR123 := CHr.trans CR115 (CHr.keep Kq122 Sa123 CH115)
    have K125 : Keep h0 T122.heap [] := K116.trans Kq122 (allS (Or.inr B94) all0)
    have Bf126 : h0.size ≤ t122 := Nat.le_trans K116.1 q122_b
    refine own_tr st122 ?_
    show own_Go p e below T122 (mkF m 118 #[.val (.int pn), .val (.int px)] [(.ref b94)]) _
    have Vz : Arv Z T122.heap t122 kb122 .byte pn ((((List.replicate nN px) : List Int32).map (fun c : Int32 => c.toInt8.toInt32)).map Value.int) (.int 0) := by rw [hA.1, hA.2]; exact q122_V
    have f127 := (Nat.le_trans (Nat.le_trans (Nat.le_trans (Nat.le_trans (Nat.le_trans (Nat.le_trans (Nat.le_trans hK0 E94.1) E98.1) (Keep.of_wr W102).1) (Keep.of_wr W106).1) (Keep.of_wr W110).1) (Keep.of_wr W114).1) Kq122.1)
    obtain ⟨fs, hr, hrun, hended, hRW⟩ := X122.leaveW hS f127 (v := some (.ref b94)) (fun h => by rw [Bd.returns] at h; cases h)
    have hCend : CHr Z own_EL s.vm s.heap T122.vm T122.heap := by
      rw [hh]
      exact CHr.trans CR123 (CHv.at X122 hZ hEL CH123)
    refine own_fin (own_retR X122 hx rfl Bd.returns rfl (hb hby d7_118) hr) ⟨hrun, hended, _, _, rfl, ?_, hCend, hRW.1, hRW.2.1, hRW.2.2.1, hRW.2.2.2.mono (by decide) (by decide)⟩
    show Q_rmMt Z pn nN px zc h0 n0 _ T122.heap _
    exact ⟨b94, t122, kb122, rfl, N122, K125, q122_E, q122_v, q122_c, Vz⟩
  · skip
    show own_Go p e below s₁ (mkF m 0 #[.val (.int pn), .val (.int px)] []) _
    refine own_st (fun t_ k_ => XS.iloadN X0.here hx rfl (hb hby d7_0) rfl (XS.ifYes X0.here hx rfl (pc0 := 1) (pc' := 15) rfl (hb hby d7_1) rfl ((if0 _ _).trans (feq (show ¬ (pn = (0 : Int32)) from (by rw [hA.1] <;> decide))).2) (by decide) (by decide) (XS.iloadN X0.here hx rfl (hb hby d7_15) rfl (XS.iconst X0.here hx rfl (hb hby d7_16) (XS.icmpYes X0.here hx rfl (pc0 := 17) (pc' := 35) rfl (hb hby d7_17) rfl (feq (show ¬ (pn = (1 : Int32)) from (by rw [hA.1] <;> decide))).2 (by decide) (by decide) (XS.iloadN X0.here hx rfl (hb hby d7_35) rfl (XS.iconst X0.here hx rfl (hb hby d7_36) (XS.icmpYes X0.here hx rfl (pc0 := 37) (pc' := 59) rfl (hb hby d7_37) rfl (feq (show ¬ (pn = (2 : Int32)) from (by rw [hA.1] <;> decide))).2 (by decide) (by decide) (XS.iloadN X0.here hx rfl (hb hby d7_59) rfl (XS.iconst X0.here hx rfl (hb hby d7_60) k_)))))))))) ?_
    show own_Go p e below s₁ (mkF m 61 #[.val (.int pn), .val (.int px)] [(.int (3 : Int32)), (.int pn)]) _
    refine own_st (fun t_ k_ => XS.icmpYes X0.here hx rfl (pc0 := 61) (pc' := 87) rfl (hb hby d7_61) rfl (feq (show ¬ (pn = (3 : Int32)) from (by rw [hA.1] <;> decide))).2 (by decide) (by decide) (XS.iloadN X0.here hx rfl (hb hby d7_87) rfl (XS.iconst X0.here hx rfl (hb hby d7_88) (XS.icmpYes X0.here hx rfl (pc0 := 89) (pc' := 119) rfl (hb hby d7_89) rfl (feq (show ¬ (pn = (4 : Int32)) from (by rw [hA.1] <;> decide))).2 (by decide) (by decide) (XS.iloadN X0.here hx rfl (hb hby d7_119) rfl (XS.iconst X0.here hx rfl (hb hby d7_120) (XS.icmpNo X0.here hx rfl (hb hby d7_121) rfl (teq (show pn = (5 : Int32) from (by rw [hA.1] <;> decide))).2 k_))))))) ?_
    show own_Go p e below s₁ (mkF m 124 #[.val (.int pn), .val (.int px)] []) _
    obtain ⟨T128, h128, X128, e128, E128, A128, D128, -, st128⟩ := newO X0 hx hZ hown (own_w hw 0 rfl) (own_w hw 1 rfl) (own_w hw 2 rfl) e0 (g := (mkF m 124 #[.val (.int pn), .val (.int px)] [])) rfl (hb hby d7_124) (by decide) (by decide)
    obtain ⟨b128, g128⟩ : ∃ z, z = h0.size := ⟨_, rfl⟩
    rw [← g128] at A128 D128 st128
    have G128 : n0 ≤ b128 := Nat.le_trans Z0 (Nat.le_of_eq g128.symm)
    have B128 : h0.size ≤ b128 := Nat.le_trans (Keep.refl h0 []).1 (Nat.le_of_eq g128.symm)
    have CH129 := hCH.ext E128
    have CR129 := CHr.trans hCR (CHr.ext E128 hCH)
    have K130 : Keep h0 h128 [] := (Keep.refl h0 []).ext E128
    have SF128 : Safe Z own_EL s.vm h128 b128 := Safe.ext E128 hCH (Safe.new (x := b128) (Nat.le_of_eq g128.symm))
    have D128_coder : Fld Z h128 b128 "java/lang/String" "coder" "B" (.int (0 : Int32)) := D128 (Or.inr (own_w hw 27 rfl)) (ty := .byte) (by decide)
    have D128_value : Fld Z h128 b128 "java/lang/String" "value" "[B" .null := D128 (Or.inr (own_w hw 29 rfl)) (ty := (.array .byte)) (by decide)
    refine own_st st128 ?_
    show own_Go p e below T128 (mkF m 127 #[.val (.int pn), .val (.int px)] [(.ref b128)]) _
    refine own_st (fun t_ k_ => XS.dup X128.here hx rfl (hb hby d7_127) rfl rfl (XS.iconst X128.here hx rfl (hb hby d7_128) k_)) ?_
    show own_Go p e below T128 (mkF m 129 #[.val (.int pn), .val (.int px)] [(.int (5 : Int32)), (.ref b128), (.ref b128)]) _
    have f131 := (Nat.le_trans Z0 E128.1)
    obtain ⟨T132, h132, k132, X132, e132, E132, A132, st132⟩ := newP X128 hx hZ (own_w hw 3 rfl) e128 (g := (mkF m 129 #[.val (.int pn), .val (.int px)] [(.int (5 : Int32)), (.ref b128), (.ref b128)])) rfl (hb hby d7_129) rfl (by decide) (cap := 5) (by decide) (by decide) (by decide) (by decide)
    obtain ⟨b132, g132⟩ : ∃ z, z = h128.size := ⟨_, rfl⟩
    rw [← g132] at A132 st132
    have G132 : n0 ≤ b132 := Nat.le_trans f131 (Nat.le_of_eq g132.symm)
    have B132 : h0.size ≤ b132 := Nat.le_trans K130.1 (Nat.le_of_eq g132.symm)
    have CH133 := CH129.ext E132
    have CR133 := CHr.trans CR129 (CHr.ext E132 CH129)
    have K134 : Keep h0 h132 [] := K130.ext E132
    have V132 : Arv Z h132 b132 k132 .char (5 : Int32) [(.int (0 : Int32)), (.int (0 : Int32)), (.int (0 : Int32)), (.int (0 : Int32)), (.int (0 : Int32))] (.int (0 : Int32)) := (Arv.new A132 (by decide)).pad (pad_rep [] (.int (0 : Int32)) 5)
    refine own_st st132 ?_
    show own_Go p e below T132 (mkF m 131 #[.val (.int pn), .val (.int px)] [(.ref b132), (.ref b128), (.ref b128)]) _
    refine own_st (fun t_ k_ => XS.dup X132.here hx rfl (hb hby d7_131) rfl rfl (XS.iconst X132.here hx rfl (hb hby d7_132) (XS.iloadN X132.here hx rfl (hb hby d7_133) rfl k_))) ?_
    show own_Go p e below T132 (mkF m 134 #[.val (.int pn), .val (.int px)] [(.int px), (.int (0 : Int32)), (.ref b132), (.ref b132), (.ref b128), (.ref b128)]) _
    obtain ⟨cl135, Ar135, q135, Sz135, Nn135, Hh135, Gg135⟩ := id V132
    have hin135 : ¬ ((0 : Int32) < 0 ∨ cl135.slots.size ≤ ((0 : Int32)).toNatClampNeg) := inb_of Sz135 ⟨by decide, by decide⟩
    obtain ⟨T136, h136, X136, e136, W136, st136⟩ := stC X132 hx hZ e132 Ar135 (j := (0 : Int32)) hin135 (g := (mkF m 134 #[.val (.int pn), .val (.int px)] [(.int px), (.int (0 : Int32)), (.ref b132), (.ref b132), (.ref b128), (.ref b128)])) rfl rfl (hb hby d7_134)
    have V136 : Arv Z h136 b132 k132 .char (5 : Int32) [(.int (nar .char px)), (.int (0 : Int32)), (.int (0 : Int32)), (.int (0 : Int32)), (.int (0 : Int32))] (.int (0 : Int32)) := Arv.set Ar135 q135 Sz135 Nn135 Hh135 Gg135 (fits_nar_char _) W136 0 rfl (Nat.le_of_ble_eq_true rfl)
    rw [own_nar hpx] at V136
    have Sa137 : Safe Z own_EL s.vm h132 b132 := (Safe.arv hZ.alike V132 (by decide))
    have CH137 := CH133.wr W136 Sa137
    have CR137 := CHr.trans CR133 (CHr.wr W136 Sa137 CH133)
    have K138 : Keep h0 h136 [] := K134.wr W136 (Or.inr B132)
    have N136 := Fr.snoc X136 N0 G132
    refine own_st st136 ?_
    show own_Go p e below T136 (mkF m 135 #[.val (.int pn), .val (.int px)] [(.ref b132), (.ref b128), (.ref b128)]) _
    refine own_st (fun t_ k_ => XS.dup X136.here hx rfl (hb hby d7_135) rfl rfl (XS.iconst X136.here hx rfl (hb hby d7_136) (XS.iloadN X136.here hx rfl (hb hby d7_137) rfl k_))) ?_
    show own_Go p e below T136 (mkF m 138 #[.val (.int pn), .val (.int px)] [(.int px), (.int (1 : Int32)), (.ref b132), (.ref b132), (.ref b128), (.ref b128)]) _
    obtain ⟨cl139, Ar139, q139, Sz139, Nn139, Hh139, Gg139⟩ := id V136
    have hin139 : ¬ ((1 : Int32) < 0 ∨ cl139.slots.size ≤ ((1 : Int32)).toNatClampNeg) := inb_of Sz139 ⟨by decide, by decide⟩
    obtain ⟨T140, h140, X140, e140, W140, st140⟩ := stC X136 hx hZ e136 Ar139 (j := (1 : Int32)) hin139 (g := (mkF m 138 #[.val (.int pn), .val (.int px)] [(.int px), (.int (1 : Int32)), (.ref b132), (.ref b132), (.ref b128), (.ref b128)])) rfl rfl (hb hby d7_138)
    have V140 : Arv Z h140 b132 k132 .char (5 : Int32) [(.int px), (.int (nar .char px)), (.int (0 : Int32)), (.int (0 : Int32)), (.int (0 : Int32))] (.int (0 : Int32)) := Arv.set Ar139 q139 Sz139 Nn139 Hh139 Gg139 (fits_nar_char _) W140 1 rfl (Nat.le_of_ble_eq_true rfl)
    rw [own_nar hpx] at V140
    have Sa141 : Safe Z own_EL s.vm h136 b132 := (Safe.arv hZ.alike V136 (by decide))
    have CH141 := CH137.wr W140 Sa141
    have CR141 := CHr.trans CR137 (CHr.wr W140 Sa141 CH137)
    have K142 : Keep h0 h140 [] := K138.wr W140 (Or.inr B132)
    have N140 := Fr.snoc X140 N136 G132
    refine own_st st140 ?_
    show own_Go p e below T140 (mkF m 139 #[.val (.int pn), .val (.int px)] [(.ref b132), (.ref b128), (.ref b128)]) _
    refine own_st (fun t_ k_ => XS.dup X140.here hx rfl (hb hby d7_139) rfl rfl (XS.iconst X140.here hx rfl (hb hby d7_140) (XS.iloadN X140.here hx rfl (hb hby d7_141) rfl k_))) ?_
    show own_Go p e below T140 (mkF m 142 #[.val (.int pn), .val (.int px)] [(.int px), (.int (2 : Int32)), (.ref b132), (.ref b132), (.ref b128), (.ref b128)]) _
    obtain ⟨cl143, Ar143, q143, Sz143, Nn143, Hh143, Gg143⟩ := id V140
    have hin143 : ¬ ((2 : Int32) < 0 ∨ cl143.slots.size ≤ ((2 : Int32)).toNatClampNeg) := inb_of Sz143 ⟨by decide, by decide⟩
    obtain ⟨T144, h144, X144, e144, W144, st144⟩ := stC X140 hx hZ e140 Ar143 (j := (2 : Int32)) hin143 (g := (mkF m 142 #[.val (.int pn), .val (.int px)] [(.int px), (.int (2 : Int32)), (.ref b132), (.ref b132), (.ref b128), (.ref b128)])) rfl rfl (hb hby d7_142)
    have V144 : Arv Z h144 b132 k132 .char (5 : Int32) [(.int px), (.int px), (.int (nar .char px)), (.int (0 : Int32)), (.int (0 : Int32))] (.int (0 : Int32)) := Arv.set Ar143 q143 Sz143 Nn143 Hh143 Gg143 (fits_nar_char _) W144 2 rfl (Nat.le_of_ble_eq_true rfl)
    rw [own_nar hpx] at V144
    have Sa145 : Safe Z own_EL s.vm h140 b132 := (Safe.arv hZ.alike V140 (by decide))
    have CH145 := CH141.wr W144 Sa145
    have CR145 := CHr.trans CR141 (CHr.wr W144 Sa145 CH141)
    have K146 : Keep h0 h144 [] := K142.wr W144 (Or.inr B132)
    have N144 := Fr.snoc X144 N140 G132
    refine own_st st144 ?_
    show own_Go p e below T144 (mkF m 143 #[.val (.int pn), .val (.int px)] [(.ref b132), (.ref b128), (.ref b128)]) _
    refine own_st (fun t_ k_ => XS.dup X144.here hx rfl (hb hby d7_143) rfl rfl (XS.iconst X144.here hx rfl (hb hby d7_144) (XS.iloadN X144.here hx rfl (hb hby d7_145) rfl k_))) ?_
    show own_Go p e below T144 (mkF m 146 #[.val (.int pn), .val (.int px)] [(.int px), (.int (3 : Int32)), (.ref b132), (.ref b132), (.ref b128), (.ref b128)]) _
    obtain ⟨cl147, Ar147, q147, Sz147, Nn147, Hh147, Gg147⟩ := id V144
    have hin147 : ¬ ((3 : Int32) < 0 ∨ cl147.slots.size ≤ ((3 : Int32)).toNatClampNeg) := inb_of Sz147 ⟨by decide, by decide⟩
    obtain ⟨T148, h148, X148, e148, W148, st148⟩ := stC X144 hx hZ e144 Ar147 (j := (3 : Int32)) hin147 (g := (mkF m 146 #[.val (.int pn), .val (.int px)] [(.int px), (.int (3 : Int32)), (.ref b132), (.ref b132), (.ref b128), (.ref b128)])) rfl rfl (hb hby d7_146)
    have V148 : Arv Z h148 b132 k132 .char (5 : Int32) [(.int px), (.int px), (.int px), (.int (nar .char px)), (.int (0 : Int32))] (.int (0 : Int32)) := Arv.set Ar147 q147 Sz147 Nn147 Hh147 Gg147 (fits_nar_char _) W148 3 rfl (Nat.le_of_ble_eq_true rfl)
    rw [own_nar hpx] at V148
    have Sa149 : Safe Z own_EL s.vm h144 b132 := (Safe.arv hZ.alike V144 (by decide))
    have CH149 := CH145.wr W148 Sa149
    have CR149 := CHr.trans CR145 (CHr.wr W148 Sa149 CH145)
    have K150 : Keep h0 h148 [] := K146.wr W148 (Or.inr B132)
    have N148 := Fr.snoc X148 N144 G132
    refine own_st st148 ?_
    show own_Go p e below T148 (mkF m 147 #[.val (.int pn), .val (.int px)] [(.ref b132), (.ref b128), (.ref b128)]) _
    refine own_st (fun t_ k_ => XS.dup X148.here hx rfl (hb hby d7_147) rfl rfl (XS.iconst X148.here hx rfl (hb hby d7_148) (XS.iloadN X148.here hx rfl (hb hby d7_149) rfl k_))) ?_
    show own_Go p e below T148 (mkF m 150 #[.val (.int pn), .val (.int px)] [(.int px), (.int (4 : Int32)), (.ref b132), (.ref b132), (.ref b128), (.ref b128)]) _
    obtain ⟨cl151, Ar151, q151, Sz151, Nn151, Hh151, Gg151⟩ := id V148
    have hin151 : ¬ ((4 : Int32) < 0 ∨ cl151.slots.size ≤ ((4 : Int32)).toNatClampNeg) := inb_of Sz151 ⟨by decide, by decide⟩
    obtain ⟨T152, h152, X152, e152, W152, st152⟩ := stC X148 hx hZ e148 Ar151 (j := (4 : Int32)) hin151 (g := (mkF m 150 #[.val (.int pn), .val (.int px)] [(.int px), (.int (4 : Int32)), (.ref b132), (.ref b132), (.ref b128), (.ref b128)])) rfl rfl (hb hby d7_150)
    have V152 : Arv Z h152 b132 k132 .char (5 : Int32) [(.int px), (.int px), (.int px), (.int px), (.int (nar .char px))] (.int (0 : Int32)) := Arv.set Ar151 q151 Sz151 Nn151 Hh151 Gg151 (fits_nar_char _) W152 4 rfl (Nat.le_of_ble_eq_true rfl)
    rw [own_nar hpx] at V152
    have Sa153 : Safe Z own_EL s.vm h148 b132 := (Safe.arv hZ.alike V148 (by decide))
    have CH153 := CH149.wr W152 Sa153
    have CR153 := CHr.trans CR149 (CHr.wr W152 Sa153 CH149)
    have K154 : Keep h0 h152 [] := K150.wr W152 (Or.inr B132)
    have N152 := Fr.snoc X152 N148 G132
    refine own_st st152 ?_
    show own_Go p e below T152 (mkF m 151 #[.val (.int pn), .val (.int px)] [(.ref b132), (.ref b128), (.ref b128)]) _
    have hp1 : ∀ c ∈ ([px, px, px, px, px] : List Int32), ¬ c < 0 ∧ ¬ (255 : Int32) < c := fun c hc => by simp only [List.mem_cons, List.not_mem_nil, or_false, or_self] at hc; subst hc; exact hpx
    have f155 := (Nat.le_trans (Nat.le_trans (Nat.le_trans (Nat.le_trans (Nat.le_trans (Nat.le_trans f131 E132.1) (Keep.of_wr W136).1) (Keep.of_wr W140).1) (Keep.of_wr W144).1) (Keep.of_wr W148).1) (Keep.of_wr W152).1)
    have f156 := ((((((A128.ext E132).wr W136).wr W140).wr W144).wr W148).wr W152)
    have f157 := ((((((D128_value.ext E132).other W136 (Or.inl (Nat.ne_of_lt (Nat.lt_of_lt_of_le A128.lt (Nat.le_of_eq g132.symm))))).other W140 (Or.inl (Nat.ne_of_lt (Nat.lt_of_lt_of_le A128.lt (Nat.le_of_eq g132.symm))))).other W144 (Or.inl (Nat.ne_of_lt (Nat.lt_of_lt_of_le A128.lt (Nat.le_of_eq g132.symm))))).other W148 (Or.inl (Nat.ne_of_lt (Nat.lt_of_lt_of_le A128.lt (Nat.le_of_eq g132.symm))))).other W152 (Or.inl (Nat.ne_of_lt (Nat.lt_of_lt_of_le A128.lt (Nat.le_of_eq g132.symm)))))
    have f158 := ((((((D128_coder.ext E132).other W136 (Or.inl (Nat.ne_of_lt (Nat.lt_of_lt_of_le A128.lt (Nat.le_of_eq g132.symm))))).other W140 (Or.inl (Nat.ne_of_lt (Nat.lt_of_lt_of_le A128.lt (Nat.le_of_eq g132.symm))))).other W144 (Or.inl (Nat.ne_of_lt (Nat.lt_of_lt_of_le A128.lt (Nat.le_of_eq g132.symm))))).other W148 (Or.inl (Nat.ne_of_lt (Nat.lt_of_lt_of_le A128.lt (Nat.le_of_eq g132.symm))))).other W152 (Or.inl (Nat.ne_of_lt (Nat.lt_of_lt_of_le A128.lt (Nat.le_of_eq g132.symm)))))
    have f159 := (((((((pO.ext E128).ext E132).wr W136 G132).wr W140 G132).wr W144 G132).wr W148 G132).wr W152 G132)
    obtain ⟨_, _, ⟨T160, L160, k160, n160⟩, -, X160, ⟨Lc160, hQ160, l160, y160, z160⟩, st160⟩ := X152.specialBack hx (y := (⟨"java/lang/String", "<init>", "([C)V"⟩ : MethodName)) rfl hown (mvT hZ (own_w hw 4 rfl)) (mvT hZ (own_w hw 5 rfl)) (mvT hZ (own_w hw 6 rfl)) (by decide) (StrChars.Road.backV (W := 1) hZ hws (kI := 4) (own_w hw 1 rfl) (cs := ([px, px, px, px, px] : List Int32)) (bs := (([px, px, px, px, px] : List Int32)).map (fun c => c.toInt8.toInt32)) (n := 5) G128 f155 f156 f157 f158 V152 (pS_COMPACT_STRINGS.ext f159.2) pP5 rfl rfl (by decide) (by decide) hp1 rfl (by decide) (by decide)) (g := (mkF m 151 #[.val (.int pn), .val (.int px)] [(.ref b132), (.ref b128), (.ref b128)])) rfl (by rw [hml]; rfl) (Steps.refl _) (a := b128) (argsL := [(.ref b132)]) (rest := [(.ref b128)]) (lenOf pd___C_V rfl) rfl (by show 2 * 0 + _ ≤ _; exact Nat.le_of_eq rfl) (hb hby d7_151) (fun _ _ => ⟨rfl, e152, (by decide : 2 + 1 ≤ _), (by decide : 9 + 5 ≤ _)⟩)
    dsimp only [Pt.U, Pt.locs, Pt.cells, Pt.slots] at X160 l160 y160 z160 st160 hQ160
    try dsimp only [Nat.reduceAdd] at y160 z160
    rw [l160, y160, z160] at X160
    obtain ⟨rfl, Nq160, Kq160, q160_E, q160_c, t160, kb160, q160_g, q160_b, q160_n, q160_v, q160_V⟩ := hQ160
    have N160 := Fr.app N152 Nq160
    have f162 := (Safe.wr W152 Sa153 CH149 (Safe.wr W148 Sa149 CH145 (Safe.wr W144 Sa145 CH141 (Safe.wr W140 Sa141 CH137 (Safe.wr W136 Sa137 CH133 (Safe.ext E132 CH129 SF128))))))
    have Sa161 : ∀ y ∈ [b128], Safe Z own_EL s.vm h152 y := (sfS f162 sf0)
    have CH161 := CH153.keep Kq160 Sa161
    have CR161 := CHr.trans CR153 (CHr.keep Kq160 Sa161 CH153)
    have K163 : Keep h0 T160.heap [] := K154.trans Kq160 (allS (Or.inr B128) all0)
    have Bf164 : h0.size ≤ t160 := Nat.le_trans K154.1 q160_b
    refine own_tr st160 ?_
    show own_Go p e below T160 (mkF m 154 #[.val (.int pn), .val (.int px)] [(.ref b128)]) _
    have Vz : Arv Z T160.heap t160 kb160 .byte pn ((((List.replicate nN px) : List Int32).map (fun c : Int32 => c.toInt8.toInt32)).map Value.int) (.int 0) := by rw [hA.1, hA.2]; exact q160_V
    have f165 := (Nat.le_trans (Nat.le_trans (Nat.le_trans (Nat.le_trans (Nat.le_trans (Nat.le_trans (Nat.le_trans (Nat.le_trans hK0 E128.1) E132.1) (Keep.of_wr W136).1) (Keep.of_wr W140).1) (Keep.of_wr W144).1) (Keep.of_wr W148).1) (Keep.of_wr W152).1) Kq160.1)
    obtain ⟨fs, hr, hrun, hended, hRW⟩ := X160.leaveW hS f165 (v := some (.ref b128)) (fun h => by rw [Bd.returns] at h; cases h)
    have hCend : CHr Z own_EL s.vm s.heap T160.vm T160.heap := by
      rw [hh]
      exact CHr.trans CR161 (CHv.at X160 hZ hEL CH161)
    refine own_fin (own_retR X160 hx rfl Bd.returns rfl (hb hby d7_154) hr) ⟨hrun, hended, _, _, rfl, ?_, hCend, hRW.1, hRW.2.1, hRW.2.2.1, hRW.2.2.2.mono (by decide) (by decide)⟩
    show Q_rmMt Z pn nN px zc h0 n0 _ T160.heap _
    exact ⟨b128, t160, kb160, rfl, N160, K163, q160_E, q160_v, q160_c, Vz⟩
  · skip
    show own_Go p e below s₁ (mkF m 0 #[.val (.int pn), .val (.int px)] []) _
    refine own_st (fun t_ k_ => XS.iloadN X0.here hx rfl (hb hby d7_0) rfl (XS.ifYes X0.here hx rfl (pc0 := 1) (pc' := 15) rfl (hb hby d7_1) rfl ((if0 _ _).trans (feq (show ¬ (pn = (0 : Int32)) from (by rw [hA.1] <;> decide))).2) (by decide) (by decide) (XS.iloadN X0.here hx rfl (hb hby d7_15) rfl (XS.iconst X0.here hx rfl (hb hby d7_16) (XS.icmpYes X0.here hx rfl (pc0 := 17) (pc' := 35) rfl (hb hby d7_17) rfl (feq (show ¬ (pn = (1 : Int32)) from (by rw [hA.1] <;> decide))).2 (by decide) (by decide) (XS.iloadN X0.here hx rfl (hb hby d7_35) rfl (XS.iconst X0.here hx rfl (hb hby d7_36) (XS.icmpYes X0.here hx rfl (pc0 := 37) (pc' := 59) rfl (hb hby d7_37) rfl (feq (show ¬ (pn = (2 : Int32)) from (by rw [hA.1] <;> decide))).2 (by decide) (by decide) (XS.iloadN X0.here hx rfl (hb hby d7_59) rfl (XS.iconst X0.here hx rfl (hb hby d7_60) k_)))))))))) ?_
    show own_Go p e below s₁ (mkF m 61 #[.val (.int pn), .val (.int px)] [(.int (3 : Int32)), (.int pn)]) _
    refine own_st (fun t_ k_ => XS.icmpYes X0.here hx rfl (pc0 := 61) (pc' := 87) rfl (hb hby d7_61) rfl (feq (show ¬ (pn = (3 : Int32)) from (by rw [hA.1] <;> decide))).2 (by decide) (by decide) (XS.iloadN X0.here hx rfl (hb hby d7_87) rfl (XS.iconst X0.here hx rfl (hb hby d7_88) (XS.icmpYes X0.here hx rfl (pc0 := 89) (pc' := 119) rfl (hb hby d7_89) rfl (feq (show ¬ (pn = (4 : Int32)) from (by rw [hA.1] <;> decide))).2 (by decide) (by decide) (XS.iloadN X0.here hx rfl (hb hby d7_119) rfl (XS.iconst X0.here hx rfl (hb hby d7_120) (XS.icmpYes X0.here hx rfl (pc0 := 121) (pc' := 155) rfl (hb hby d7_121) rfl (feq (show ¬ (pn = (5 : Int32)) from (by rw [hA.1] <;> decide))).2 (by decide) (by decide) (XS.iloadN X0.here hx rfl (hb hby d7_155) rfl (XS.bipush X0.here hx rfl (hb hby d7_156) (XS.icmpNo X0.here hx rfl (hb hby d7_158) rfl (teq (show pn = (6 : Int32) from (by rw [hA.1] <;> decide))).2 k_)))))))))) ?_
    show own_Go p e below s₁ (mkF m 161 #[.val (.int pn), .val (.int px)] []) _
    obtain ⟨T166, h166, X166, e166, E166, A166, D166, -, st166⟩ := newO X0 hx hZ hown (own_w hw 0 rfl) (own_w hw 1 rfl) (own_w hw 2 rfl) e0 (g := (mkF m 161 #[.val (.int pn), .val (.int px)] [])) rfl (hb hby d7_161) (by decide) (by decide)
    obtain ⟨b166, g166⟩ : ∃ z, z = h0.size := ⟨_, rfl⟩
    rw [← g166] at A166 D166 st166
    have G166 : n0 ≤ b166 := Nat.le_trans Z0 (Nat.le_of_eq g166.symm)
    have B166 : h0.size ≤ b166 := Nat.le_trans (Keep.refl h0 []).1 (Nat.le_of_eq g166.symm)
    have CH167 := hCH.ext E166
    have CR167 := CHr.trans hCR (CHr.ext E166 hCH)
    have K168 : Keep h0 h166 [] := (Keep.refl h0 []).ext E166
    have SF166 : Safe Z own_EL s.vm h166 b166 := Safe.ext E166 hCH (Safe.new (x := b166) (Nat.le_of_eq g166.symm))
    have D166_coder : Fld Z h166 b166 "java/lang/String" "coder" "B" (.int (0 : Int32)) := D166 (Or.inr (own_w hw 27 rfl)) (ty := .byte) (by decide)
    have D166_value : Fld Z h166 b166 "java/lang/String" "value" "[B" .null := D166 (Or.inr (own_w hw 29 rfl)) (ty := (.array .byte)) (by decide)
    refine own_st st166 ?_
    show own_Go p e below T166 (mkF m 164 #[.val (.int pn), .val (.int px)] [(.ref b166)]) _
    refine own_st (fun t_ k_ => XS.dup X166.here hx rfl (hb hby d7_164) rfl rfl (XS.bipush X166.here hx rfl (hb hby d7_165) k_)) ?_
    show own_Go p e below T166 (mkF m 167 #[.val (.int pn), .val (.int px)] [(.int (6 : Int32)), (.ref b166), (.ref b166)]) _
    have f169 := (Nat.le_trans Z0 E166.1)
    obtain ⟨T170, h170, k170, X170, e170, E170, A170, st170⟩ := newP X166 hx hZ (own_w hw 3 rfl) e166 (g := (mkF m 167 #[.val (.int pn), .val (.int px)] [(.int (6 : Int32)), (.ref b166), (.ref b166)])) rfl (hb hby d7_167) rfl (by decide) (cap := 6) (by decide) (by decide) (by decide) (by decide)
    obtain ⟨b170, g170⟩ : ∃ z, z = h166.size := ⟨_, rfl⟩
    rw [← g170] at A170 st170
    have G170 : n0 ≤ b170 := Nat.le_trans f169 (Nat.le_of_eq g170.symm)
    have B170 : h0.size ≤ b170 := Nat.le_trans K168.1 (Nat.le_of_eq g170.symm)
    have CH171 := CH167.ext E170
    have CR171 := CHr.trans CR167 (CHr.ext E170 CH167)
    have K172 : Keep h0 h170 [] := K168.ext E170
    have V170 : Arv Z h170 b170 k170 .char (6 : Int32) [(.int (0 : Int32)), (.int (0 : Int32)), (.int (0 : Int32)), (.int (0 : Int32)), (.int (0 : Int32)), (.int (0 : Int32))] (.int (0 : Int32)) := (Arv.new A170 (by decide)).pad (pad_rep [] (.int (0 : Int32)) 6)
    refine own_st st170 ?_
    show own_Go p e below T170 (mkF m 169 #[.val (.int pn), .val (.int px)] [(.ref b170), (.ref b166), (.ref b166)]) _
    refine own_st (fun t_ k_ => XS.dup X170.here hx rfl (hb hby d7_169) rfl rfl (XS.iconst X170.here hx rfl (hb hby d7_170) (XS.iloadN X170.here hx rfl (hb hby d7_171) rfl k_))) ?_
    show own_Go p e below T170 (mkF m 172 #[.val (.int pn), .val (.int px)] [(.int px), (.int (0 : Int32)), (.ref b170), (.ref b170), (.ref b166), (.ref b166)]) _
    obtain ⟨cl173, Ar173, q173, Sz173, Nn173, Hh173, Gg173⟩ := id V170
    have hin173 : ¬ ((0 : Int32) < 0 ∨ cl173.slots.size ≤ ((0 : Int32)).toNatClampNeg) := inb_of Sz173 ⟨by decide, by decide⟩
    obtain ⟨T174, h174, X174, e174, W174, st174⟩ := stC X170 hx hZ e170 Ar173 (j := (0 : Int32)) hin173 (g := (mkF m 172 #[.val (.int pn), .val (.int px)] [(.int px), (.int (0 : Int32)), (.ref b170), (.ref b170), (.ref b166), (.ref b166)])) rfl rfl (hb hby d7_172)
    have V174 : Arv Z h174 b170 k170 .char (6 : Int32) [(.int (nar .char px)), (.int (0 : Int32)), (.int (0 : Int32)), (.int (0 : Int32)), (.int (0 : Int32)), (.int (0 : Int32))] (.int (0 : Int32)) := Arv.set Ar173 q173 Sz173 Nn173 Hh173 Gg173 (fits_nar_char _) W174 0 rfl (Nat.le_of_ble_eq_true rfl)
    rw [own_nar hpx] at V174
    have Sa175 : Safe Z own_EL s.vm h170 b170 := (Safe.arv hZ.alike V170 (by decide))
    have CH175 := CH171.wr W174 Sa175
    have CR175 := CHr.trans CR171 (CHr.wr W174 Sa175 CH171)
    have K176 : Keep h0 h174 [] := K172.wr W174 (Or.inr B170)
    have N174 := Fr.snoc X174 N0 G170
    refine own_st st174 ?_
    show own_Go p e below T174 (mkF m 173 #[.val (.int pn), .val (.int px)] [(.ref b170), (.ref b166), (.ref b166)]) _
    refine own_st (fun t_ k_ => XS.dup X174.here hx rfl (hb hby d7_173) rfl rfl (XS.iconst X174.here hx rfl (hb hby d7_174) (XS.iloadN X174.here hx rfl (hb hby d7_175) rfl k_))) ?_
    show own_Go p e below T174 (mkF m 176 #[.val (.int pn), .val (.int px)] [(.int px), (.int (1 : Int32)), (.ref b170), (.ref b170), (.ref b166), (.ref b166)]) _
    obtain ⟨cl177, Ar177, q177, Sz177, Nn177, Hh177, Gg177⟩ := id V174
    have hin177 : ¬ ((1 : Int32) < 0 ∨ cl177.slots.size ≤ ((1 : Int32)).toNatClampNeg) := inb_of Sz177 ⟨by decide, by decide⟩
    obtain ⟨T178, h178, X178, e178, W178, st178⟩ := stC X174 hx hZ e174 Ar177 (j := (1 : Int32)) hin177 (g := (mkF m 176 #[.val (.int pn), .val (.int px)] [(.int px), (.int (1 : Int32)), (.ref b170), (.ref b170), (.ref b166), (.ref b166)])) rfl rfl (hb hby d7_176)
    have V178 : Arv Z h178 b170 k170 .char (6 : Int32) [(.int px), (.int (nar .char px)), (.int (0 : Int32)), (.int (0 : Int32)), (.int (0 : Int32)), (.int (0 : Int32))] (.int (0 : Int32)) := Arv.set Ar177 q177 Sz177 Nn177 Hh177 Gg177 (fits_nar_char _) W178 1 rfl (Nat.le_of_ble_eq_true rfl)
    rw [own_nar hpx] at V178
    have Sa179 : Safe Z own_EL s.vm h174 b170 := (Safe.arv hZ.alike V174 (by decide))
    have CH179 := CH175.wr W178 Sa179
    have CR179 := CHr.trans CR175 (CHr.wr W178 Sa179 CH175)
    have K180 : Keep h0 h178 [] := K176.wr W178 (Or.inr B170)
    have N178 := Fr.snoc X178 N174 G170
    refine own_st st178 ?_
    show own_Go p e below T178 (mkF m 177 #[.val (.int pn), .val (.int px)] [(.ref b170), (.ref b166), (.ref b166)]) _
    refine own_st (fun t_ k_ => XS.dup X178.here hx rfl (hb hby d7_177) rfl rfl (XS.iconst X178.here hx rfl (hb hby d7_178) (XS.iloadN X178.here hx rfl (hb hby d7_179) rfl k_))) ?_
    show own_Go p e below T178 (mkF m 180 #[.val (.int pn), .val (.int px)] [(.int px), (.int (2 : Int32)), (.ref b170), (.ref b170), (.ref b166), (.ref b166)]) _
    obtain ⟨cl181, Ar181, q181, Sz181, Nn181, Hh181, Gg181⟩ := id V178
    have hin181 : ¬ ((2 : Int32) < 0 ∨ cl181.slots.size ≤ ((2 : Int32)).toNatClampNeg) := inb_of Sz181 ⟨by decide, by decide⟩
    obtain ⟨T182, h182, X182, e182, W182, st182⟩ := stC X178 hx hZ e178 Ar181 (j := (2 : Int32)) hin181 (g := (mkF m 180 #[.val (.int pn), .val (.int px)] [(.int px), (.int (2 : Int32)), (.ref b170), (.ref b170), (.ref b166), (.ref b166)])) rfl rfl (hb hby d7_180)
    have V182 : Arv Z h182 b170 k170 .char (6 : Int32) [(.int px), (.int px), (.int (nar .char px)), (.int (0 : Int32)), (.int (0 : Int32)), (.int (0 : Int32))] (.int (0 : Int32)) := Arv.set Ar181 q181 Sz181 Nn181 Hh181 Gg181 (fits_nar_char _) W182 2 rfl (Nat.le_of_ble_eq_true rfl)
    rw [own_nar hpx] at V182
    have Sa183 : Safe Z own_EL s.vm h178 b170 := (Safe.arv hZ.alike V178 (by decide))
    have CH183 := CH179.wr W182 Sa183
    have CR183 := CHr.trans CR179 (CHr.wr W182 Sa183 CH179)
    have K184 : Keep h0 h182 [] := K180.wr W182 (Or.inr B170)
    have N182 := Fr.snoc X182 N178 G170
    refine own_st st182 ?_
    show own_Go p e below T182 (mkF m 181 #[.val (.int pn), .val (.int px)] [(.ref b170), (.ref b166), (.ref b166)]) _
    refine own_st (fun t_ k_ => XS.dup X182.here hx rfl (hb hby d7_181) rfl rfl (XS.iconst X182.here hx rfl (hb hby d7_182) (XS.iloadN X182.here hx rfl (hb hby d7_183) rfl k_))) ?_
    show own_Go p e below T182 (mkF m 184 #[.val (.int pn), .val (.int px)] [(.int px), (.int (3 : Int32)), (.ref b170), (.ref b170), (.ref b166), (.ref b166)]) _
    obtain ⟨cl185, Ar185, q185, Sz185, Nn185, Hh185, Gg185⟩ := id V182
    have hin185 : ¬ ((3 : Int32) < 0 ∨ cl185.slots.size ≤ ((3 : Int32)).toNatClampNeg) := inb_of Sz185 ⟨by decide, by decide⟩
    obtain ⟨T186, h186, X186, e186, W186, st186⟩ := stC X182 hx hZ e182 Ar185 (j := (3 : Int32)) hin185 (g := (mkF m 184 #[.val (.int pn), .val (.int px)] [(.int px), (.int (3 : Int32)), (.ref b170), (.ref b170), (.ref b166), (.ref b166)])) rfl rfl (hb hby d7_184)
    have V186 : Arv Z h186 b170 k170 .char (6 : Int32) [(.int px), (.int px), (.int px), (.int (nar .char px)), (.int (0 : Int32)), (.int (0 : Int32))] (.int (0 : Int32)) := Arv.set Ar185 q185 Sz185 Nn185 Hh185 Gg185 (fits_nar_char _) W186 3 rfl (Nat.le_of_ble_eq_true rfl)
    rw [own_nar hpx] at V186
    have Sa187 : Safe Z own_EL s.vm h182 b170 := (Safe.arv hZ.alike V182 (by decide))
    have CH187 := CH183.wr W186 Sa187
    have CR187 := CHr.trans CR183 (CHr.wr W186 Sa187 CH183)
    have K188 : Keep h0 h186 [] := K184.wr W186 (Or.inr B170)
    have N186 := Fr.snoc X186 N182 G170
    refine own_st st186 ?_
    show own_Go p e below T186 (mkF m 185 #[.val (.int pn), .val (.int px)] [(.ref b170), (.ref b166), (.ref b166)]) _
    refine own_st (fun t_ k_ => XS.dup X186.here hx rfl (hb hby d7_185) rfl rfl (XS.iconst X186.here hx rfl (hb hby d7_186) (XS.iloadN X186.here hx rfl (hb hby d7_187) rfl k_))) ?_
    show own_Go p e below T186 (mkF m 188 #[.val (.int pn), .val (.int px)] [(.int px), (.int (4 : Int32)), (.ref b170), (.ref b170), (.ref b166), (.ref b166)]) _
    obtain ⟨cl189, Ar189, q189, Sz189, Nn189, Hh189, Gg189⟩ := id V186
    have hin189 : ¬ ((4 : Int32) < 0 ∨ cl189.slots.size ≤ ((4 : Int32)).toNatClampNeg) := inb_of Sz189 ⟨by decide, by decide⟩
    obtain ⟨T190, h190, X190, e190, W190, st190⟩ := stC X186 hx hZ e186 Ar189 (j := (4 : Int32)) hin189 (g := (mkF m 188 #[.val (.int pn), .val (.int px)] [(.int px), (.int (4 : Int32)), (.ref b170), (.ref b170), (.ref b166), (.ref b166)])) rfl rfl (hb hby d7_188)
    have V190 : Arv Z h190 b170 k170 .char (6 : Int32) [(.int px), (.int px), (.int px), (.int px), (.int (nar .char px)), (.int (0 : Int32))] (.int (0 : Int32)) := Arv.set Ar189 q189 Sz189 Nn189 Hh189 Gg189 (fits_nar_char _) W190 4 rfl (Nat.le_of_ble_eq_true rfl)
    rw [own_nar hpx] at V190
    have Sa191 : Safe Z own_EL s.vm h186 b170 := (Safe.arv hZ.alike V186 (by decide))
    have CH191 := CH187.wr W190 Sa191
    have CR191 := CHr.trans CR187 (CHr.wr W190 Sa191 CH187)
    have K192 : Keep h0 h190 [] := K188.wr W190 (Or.inr B170)
    have N190 := Fr.snoc X190 N186 G170
    refine own_st st190 ?_
    show own_Go p e below T190 (mkF m 189 #[.val (.int pn), .val (.int px)] [(.ref b170), (.ref b166), (.ref b166)]) _
    refine own_st (fun t_ k_ => XS.dup X190.here hx rfl (hb hby d7_189) rfl rfl (XS.iconst X190.here hx rfl (hb hby d7_190) (XS.iloadN X190.here hx rfl (hb hby d7_191) rfl k_))) ?_
    show own_Go p e below T190 (mkF m 192 #[.val (.int pn), .val (.int px)] [(.int px), (.int (5 : Int32)), (.ref b170), (.ref b170), (.ref b166), (.ref b166)]) _
    obtain ⟨cl193, Ar193, q193, Sz193, Nn193, Hh193, Gg193⟩ := id V190
    have hin193 : ¬ ((5 : Int32) < 0 ∨ cl193.slots.size ≤ ((5 : Int32)).toNatClampNeg) := inb_of Sz193 ⟨by decide, by decide⟩
    obtain ⟨T194, h194, X194, e194, W194, st194⟩ := stC X190 hx hZ e190 Ar193 (j := (5 : Int32)) hin193 (g := (mkF m 192 #[.val (.int pn), .val (.int px)] [(.int px), (.int (5 : Int32)), (.ref b170), (.ref b170), (.ref b166), (.ref b166)])) rfl rfl (hb hby d7_192)
    have V194 : Arv Z h194 b170 k170 .char (6 : Int32) [(.int px), (.int px), (.int px), (.int px), (.int px), (.int (nar .char px))] (.int (0 : Int32)) := Arv.set Ar193 q193 Sz193 Nn193 Hh193 Gg193 (fits_nar_char _) W194 5 rfl (Nat.le_of_ble_eq_true rfl)
    rw [own_nar hpx] at V194
    have Sa195 : Safe Z own_EL s.vm h190 b170 := (Safe.arv hZ.alike V190 (by decide))
    have CH195 := CH191.wr W194 Sa195
    have CR195 := CHr.trans CR191 (CHr.wr W194 Sa195 CH191)
    have K196 : Keep h0 h194 [] := K192.wr W194 (Or.inr B170)
    have N194 := Fr.snoc X194 N190 G170
    refine own_st st194 ?_
    show own_Go p e below T194 (mkF m 193 #[.val (.int pn), .val (.int px)] [(.ref b170), (.ref b166), (.ref b166)]) _
    have hp1 : ∀ c ∈ ([px, px, px, px, px, px] : List Int32), ¬ c < 0 ∧ ¬ (255 : Int32) < c := fun c hc => by simp only [List.mem_cons, List.not_mem_nil, or_false, or_self] at hc; subst hc; exact hpx
    have f197 := (Nat.le_trans (Nat.le_trans (Nat.le_trans (Nat.le_trans (Nat.le_trans (Nat.le_trans (Nat.le_trans f169 E170.1) (Keep.of_wr W174).1) (Keep.of_wr W178).1) (Keep.of_wr W182).1) (Keep.of_wr W186).1) (Keep.of_wr W190).1) (Keep.of_wr W194).1)
    have f198 := (((((((A166.ext E170).wr W174).wr W178).wr W182).wr W186).wr W190).wr W194)
    have f199 := (((((((D166_value.ext E170).other W174 (Or.inl (Nat.ne_of_lt (Nat.lt_of_lt_of_le A166.lt (Nat.le_of_eq g170.symm))))).other W178 (Or.inl (Nat.ne_of_lt (Nat.lt_of_lt_of_le A166.lt (Nat.le_of_eq g170.symm))))).other W182 (Or.inl (Nat.ne_of_lt (Nat.lt_of_lt_of_le A166.lt (Nat.le_of_eq g170.symm))))).other W186 (Or.inl (Nat.ne_of_lt (Nat.lt_of_lt_of_le A166.lt (Nat.le_of_eq g170.symm))))).other W190 (Or.inl (Nat.ne_of_lt (Nat.lt_of_lt_of_le A166.lt (Nat.le_of_eq g170.symm))))).other W194 (Or.inl (Nat.ne_of_lt (Nat.lt_of_lt_of_le A166.lt (Nat.le_of_eq g170.symm)))))
    have f200 := (((((((D166_coder.ext E170).other W174 (Or.inl (Nat.ne_of_lt (Nat.lt_of_lt_of_le A166.lt (Nat.le_of_eq g170.symm))))).other W178 (Or.inl (Nat.ne_of_lt (Nat.lt_of_lt_of_le A166.lt (Nat.le_of_eq g170.symm))))).other W182 (Or.inl (Nat.ne_of_lt (Nat.lt_of_lt_of_le A166.lt (Nat.le_of_eq g170.symm))))).other W186 (Or.inl (Nat.ne_of_lt (Nat.lt_of_lt_of_le A166.lt (Nat.le_of_eq g170.symm))))).other W190 (Or.inl (Nat.ne_of_lt (Nat.lt_of_lt_of_le A166.lt (Nat.le_of_eq g170.symm))))).other W194 (Or.inl (Nat.ne_of_lt (Nat.lt_of_lt_of_le A166.lt (Nat.le_of_eq g170.symm)))))
    have f201 := ((((((((pO.ext E166).ext E170).wr W174 G170).wr W178 G170).wr W182 G170).wr W186 G170).wr W190 G170).wr W194 G170)
    obtain ⟨_, _, ⟨T202, L202, k202, n202⟩, -, X202, ⟨Lc202, hQ202, l202, y202, z202⟩, st202⟩ := X194.specialBack hx (y := (⟨"java/lang/String", "<init>", "([C)V"⟩ : MethodName)) rfl hown (mvT hZ (own_w hw 4 rfl)) (mvT hZ (own_w hw 5 rfl)) (mvT hZ (own_w hw 6 rfl)) (by decide) (StrChars.Road.backV (W := 1) hZ hws (kI := 4) (own_w hw 1 rfl) (cs := ([px, px, px, px, px, px] : List Int32)) (bs := (([px, px, px, px, px, px] : List Int32)).map (fun c => c.toInt8.toInt32)) (n := 6) G166 f197 f198 f199 f200 V194 (pS_COMPACT_STRINGS.ext f201.2) pP5 rfl rfl (by decide) (by decide) hp1 rfl (by decide) (by decide)) (g := (mkF m 193 #[.val (.int pn), .val (.int px)] [(.ref b170), (.ref b166), (.ref b166)])) rfl (by rw [hml]; rfl) (Steps.refl _) (a := b166) (argsL := [(.ref b170)]) (rest := [(.ref b166)]) (lenOf pd___C_V rfl) rfl (by show 2 * 0 + _ ≤ _; exact Nat.le_of_eq rfl) (hb hby d7_193) (fun _ _ => ⟨rfl, e194, (by decide : 2 + 1 ≤ _), (by decide : 10 + 6 ≤ _)⟩)
    dsimp only [Pt.U, Pt.locs, Pt.cells, Pt.slots] at X202 l202 y202 z202 st202 hQ202
    try dsimp only [Nat.reduceAdd] at y202 z202
    rw [l202, y202, z202] at X202
    obtain ⟨rfl, Nq202, Kq202, q202_E, q202_c, t202, kb202, q202_g, q202_b, q202_n, q202_v, q202_V⟩ := hQ202
    have N202 := Fr.app N194 Nq202
    have f204 := (Safe.wr W194 Sa195 CH191 (Safe.wr W190 Sa191 CH187 (Safe.wr W186 Sa187 CH183 (Safe.wr W182 Sa183 CH179 (Safe.wr W178 Sa179 CH175 (Safe.wr W174 Sa175 CH171 (Safe.ext E170 CH167 SF166)))))))
    have Sa203 : ∀ y ∈ [b166], Safe Z own_EL s.vm h194 y := (sfS f204 sf0)
    have CH203 := CH195.keep Kq202 Sa203
    have CR203 := CHr.trans CR195 (CHr.keep Kq202 Sa203 CH195)
    have K205 : Keep h0 T202.heap [] := K196.trans Kq202 (allS (Or.inr B166) all0)
    have Bf206 : h0.size ≤ t202 := Nat.le_trans K196.1 q202_b
    refine own_tr st202 ?_
    show own_Go p e below T202 (mkF m 196 #[.val (.int pn), .val (.int px)] [(.ref b166)]) _
    have Vz : Arv Z T202.heap t202 kb202 .byte pn ((((List.replicate nN px) : List Int32).map (fun c : Int32 => c.toInt8.toInt32)).map Value.int) (.int 0) := by rw [hA.1, hA.2]; exact q202_V
    have f207 := (Nat.le_trans (Nat.le_trans (Nat.le_trans (Nat.le_trans (Nat.le_trans (Nat.le_trans (Nat.le_trans (Nat.le_trans (Nat.le_trans hK0 E166.1) E170.1) (Keep.of_wr W174).1) (Keep.of_wr W178).1) (Keep.of_wr W182).1) (Keep.of_wr W186).1) (Keep.of_wr W190).1) (Keep.of_wr W194).1) Kq202.1)
    obtain ⟨fs, hr, hrun, hended, hRW⟩ := X202.leaveW hS f207 (v := some (.ref b166)) (fun h => by rw [Bd.returns] at h; cases h)
    have hCend : CHr Z own_EL s.vm s.heap T202.vm T202.heap := by
      rw [hh]
      exact CHr.trans CR203 (CHv.at X202 hZ hEL CH203)
    refine own_fin (own_retR X202 hx rfl Bd.returns rfl (hb hby d7_196) hr) ⟨hrun, hended, _, _, rfl, ?_, hCend, hRW.1, hRW.2.1, hRW.2.2.1, hRW.2.2.2.mono (by decide) (by decide)⟩
    show Q_rmMt Z pn nN px zc h0 n0 _ T202.heap _
    exact ⟨b166, t202, kb202, rfl, N202, K205, q202_E, q202_v, q202_c, Vz⟩
  · skip
    show own_Go p e below s₁ (mkF m 0 #[.val (.int pn), .val (.int px)] []) _
    refine own_st (fun t_ k_ => XS.iloadN X0.here hx rfl (hb hby d7_0) rfl (XS.ifYes X0.here hx rfl (pc0 := 1) (pc' := 15) rfl (hb hby d7_1) rfl ((if0 _ _).trans (feq (show ¬ (pn = (0 : Int32)) from (by rw [hA.1] <;> decide))).2) (by decide) (by decide) (XS.iloadN X0.here hx rfl (hb hby d7_15) rfl (XS.iconst X0.here hx rfl (hb hby d7_16) (XS.icmpYes X0.here hx rfl (pc0 := 17) (pc' := 35) rfl (hb hby d7_17) rfl (feq (show ¬ (pn = (1 : Int32)) from (by rw [hA.1] <;> decide))).2 (by decide) (by decide) (XS.iloadN X0.here hx rfl (hb hby d7_35) rfl (XS.iconst X0.here hx rfl (hb hby d7_36) (XS.icmpYes X0.here hx rfl (pc0 := 37) (pc' := 59) rfl (hb hby d7_37) rfl (feq (show ¬ (pn = (2 : Int32)) from (by rw [hA.1] <;> decide))).2 (by decide) (by decide) (XS.iloadN X0.here hx rfl (hb hby d7_59) rfl (XS.iconst X0.here hx rfl (hb hby d7_60) k_)))))))))) ?_
    show own_Go p e below s₁ (mkF m 61 #[.val (.int pn), .val (.int px)] [(.int (3 : Int32)), (.int pn)]) _
    refine own_st (fun t_ k_ => XS.icmpYes X0.here hx rfl (pc0 := 61) (pc' := 87) rfl (hb hby d7_61) rfl (feq (show ¬ (pn = (3 : Int32)) from (by rw [hA.1] <;> decide))).2 (by decide) (by decide) (XS.iloadN X0.here hx rfl (hb hby d7_87) rfl (XS.iconst X0.here hx rfl (hb hby d7_88) (XS.icmpYes X0.here hx rfl (pc0 := 89) (pc' := 119) rfl (hb hby d7_89) rfl (feq (show ¬ (pn = (4 : Int32)) from (by rw [hA.1] <;> decide))).2 (by decide) (by decide) (XS.iloadN X0.here hx rfl (hb hby d7_119) rfl (XS.iconst X0.here hx rfl (hb hby d7_120) (XS.icmpYes X0.here hx rfl (pc0 := 121) (pc' := 155) rfl (hb hby d7_121) rfl (feq (show ¬ (pn = (5 : Int32)) from (by rw [hA.1] <;> decide))).2 (by decide) (by decide) (XS.iloadN X0.here hx rfl (hb hby d7_155) rfl (XS.bipush X0.here hx rfl (hb hby d7_156) (XS.icmpYes X0.here hx rfl (pc0 := 158) (pc' := 197) rfl (hb hby d7_158) rfl (feq (show ¬ (pn = (6 : Int32)) from (by rw [hA.1] <;> decide))).2 (by decide) (by decide) k_)))))))))) ?_
    show own_Go p e below s₁ (mkF m 197 #[.val (.int pn), .val (.int px)] []) _
    obtain ⟨T208, h208, X208, e208, E208, A208, D208, -, st208⟩ := newO X0 hx hZ hown (own_w hw 0 rfl) (own_w hw 1 rfl) (own_w hw 2 rfl) e0 (g := (mkF m 197 #[.val (.int pn), .val (.int px)] [])) rfl (hb hby d7_197) (by decide) (by decide)
    obtain ⟨b208, g208⟩ : ∃ z, z = h0.size := ⟨_, rfl⟩
    rw [← g208] at A208 D208 st208
    have G208 : n0 ≤ b208 := Nat.le_trans Z0 (Nat.le_of_eq g208.symm)
    have B208 : h0.size ≤ b208 := Nat.le_trans (Keep.refl h0 []).1 (Nat.le_of_eq g208.symm)
    have CH209 := hCH.ext E208
    have CR209 := CHr.trans hCR (CHr.ext E208 hCH)
    have K210 : Keep h0 h208 [] := (Keep.refl h0 []).ext E208
    have SF208 : Safe Z own_EL s.vm h208 b208 := Safe.ext E208 hCH (Safe.new (x := b208) (Nat.le_of_eq g208.symm))
    have D208_coder : Fld Z h208 b208 "java/lang/String" "coder" "B" (.int (0 : Int32)) := D208 (Or.inr (own_w hw 27 rfl)) (ty := .byte) (by decide)
    have D208_value : Fld Z h208 b208 "java/lang/String" "value" "[B" .null := D208 (Or.inr (own_w hw 29 rfl)) (ty := (.array .byte)) (by decide)
    refine own_st st208 ?_
    show own_Go p e below T208 (mkF m 200 #[.val (.int pn), .val (.int px)] [(.ref b208)]) _
    refine own_st (fun t_ k_ => XS.dup X208.here hx rfl (hb hby d7_200) rfl rfl (XS.bipush X208.here hx rfl (hb hby d7_201) k_)) ?_
    show own_Go p e below T208 (mkF m 203 #[.val (.int pn), .val (.int px)] [(.int (7 : Int32)), (.ref b208), (.ref b208)]) _
    have f211 := (Nat.le_trans Z0 E208.1)
    obtain ⟨T212, h212, k212, X212, e212, E212, A212, st212⟩ := newP X208 hx hZ (own_w hw 3 rfl) e208 (g := (mkF m 203 #[.val (.int pn), .val (.int px)] [(.int (7 : Int32)), (.ref b208), (.ref b208)])) rfl (hb hby d7_203) rfl (by decide) (cap := 7) (by decide) (by decide) (by decide) (by decide)
    obtain ⟨b212, g212⟩ : ∃ z, z = h208.size := ⟨_, rfl⟩
    rw [← g212] at A212 st212
    have G212 : n0 ≤ b212 := Nat.le_trans f211 (Nat.le_of_eq g212.symm)
    have B212 : h0.size ≤ b212 := Nat.le_trans K210.1 (Nat.le_of_eq g212.symm)
    have CH213 := CH209.ext E212
    have CR213 := CHr.trans CR209 (CHr.ext E212 CH209)
    have K214 : Keep h0 h212 [] := K210.ext E212
    have V212 : Arv Z h212 b212 k212 .char (7 : Int32) [(.int (0 : Int32)), (.int (0 : Int32)), (.int (0 : Int32)), (.int (0 : Int32)), (.int (0 : Int32)), (.int (0 : Int32)), (.int (0 : Int32))] (.int (0 : Int32)) := (Arv.new A212 (by decide)).pad (pad_rep [] (.int (0 : Int32)) 7)
    refine own_st st212 ?_
    show own_Go p e below T212 (mkF m 205 #[.val (.int pn), .val (.int px)] [(.ref b212), (.ref b208), (.ref b208)]) _
    refine own_st (fun t_ k_ => XS.dup X212.here hx rfl (hb hby d7_205) rfl rfl (XS.iconst X212.here hx rfl (hb hby d7_206) (XS.iloadN X212.here hx rfl (hb hby d7_207) rfl k_))) ?_
    show own_Go p e below T212 (mkF m 208 #[.val (.int pn), .val (.int px)] [(.int px), (.int (0 : Int32)), (.ref b212), (.ref b212), (.ref b208), (.ref b208)]) _
    obtain ⟨cl215, Ar215, q215, Sz215, Nn215, Hh215, Gg215⟩ := id V212
    have hin215 : ¬ ((0 : Int32) < 0 ∨ cl215.slots.size ≤ ((0 : Int32)).toNatClampNeg) := inb_of Sz215 ⟨by decide, by decide⟩
    obtain ⟨T216, h216, X216, e216, W216, st216⟩ := stC X212 hx hZ e212 Ar215 (j := (0 : Int32)) hin215 (g := (mkF m 208 #[.val (.int pn), .val (.int px)] [(.int px), (.int (0 : Int32)), (.ref b212), (.ref b212), (.ref b208), (.ref b208)])) rfl rfl (hb hby d7_208)
    have V216 : Arv Z h216 b212 k212 .char (7 : Int32) [(.int (nar .char px)), (.int (0 : Int32)), (.int (0 : Int32)), (.int (0 : Int32)), (.int (0 : Int32)), (.int (0 : Int32)), (.int (0 : Int32))] (.int (0 : Int32)) := Arv.set Ar215 q215 Sz215 Nn215 Hh215 Gg215 (fits_nar_char _) W216 0 rfl (Nat.le_of_ble_eq_true rfl)
    rw [own_nar hpx] at V216
    have Sa217 : Safe Z own_EL s.vm h212 b212 := (Safe.arv hZ.alike V212 (by decide))
    have CH217 := CH213.wr W216 Sa217
    have CR217 := CHr.trans CR213 (CHr.wr W216 Sa217 CH213)
    have K218 : Keep h0 h216 [] := K214.wr W216 (Or.inr B212)
    have N216 := Fr.snoc X216 N0 G212
    refine own_st st216 ?_
    show own_Go p e below T216 (mkF m 209 #[.val (.int pn), .val (.int px)] [(.ref b212), (.ref b208), (.ref b208)]) _
    refine own_st (fun t_ k_ => XS.dup X216.here hx rfl (hb hby d7_209) rfl rfl (XS.iconst X216.here hx rfl (hb hby d7_210) (XS.iloadN X216.here hx rfl (hb hby d7_211) rfl k_))) ?_
    show own_Go p e below T216 (mkF m 212 #[.val (.int pn), .val (.int px)] [(.int px), (.int (1 : Int32)), (.ref b212), (.ref b212), (.ref b208), (.ref b208)]) _
    obtain ⟨cl219, Ar219, q219, Sz219, Nn219, Hh219, Gg219⟩ := id V216
    have hin219 : ¬ ((1 : Int32) < 0 ∨ cl219.slots.size ≤ ((1 : Int32)).toNatClampNeg) := inb_of Sz219 ⟨by decide, by decide⟩
    obtain ⟨T220, h220, X220, e220, W220, st220⟩ := stC X216 hx hZ e216 Ar219 (j := (1 : Int32)) hin219 (g := (mkF m 212 #[.val (.int pn), .val (.int px)] [(.int px), (.int (1 : Int32)), (.ref b212), (.ref b212), (.ref b208), (.ref b208)])) rfl rfl (hb hby d7_212)
    have V220 : Arv Z h220 b212 k212 .char (7 : Int32) [(.int px), (.int (nar .char px)), (.int (0 : Int32)), (.int (0 : Int32)), (.int (0 : Int32)), (.int (0 : Int32)), (.int (0 : Int32))] (.int (0 : Int32)) := Arv.set Ar219 q219 Sz219 Nn219 Hh219 Gg219 (fits_nar_char _) W220 1 rfl (Nat.le_of_ble_eq_true rfl)
    rw [own_nar hpx] at V220
    have Sa221 : Safe Z own_EL s.vm h216 b212 := (Safe.arv hZ.alike V216 (by decide))
    have CH221 := CH217.wr W220 Sa221
    have CR221 := CHr.trans CR217 (CHr.wr W220 Sa221 CH217)
    have K222 : Keep h0 h220 [] := K218.wr W220 (Or.inr B212)
    have N220 := Fr.snoc X220 N216 G212
    refine own_st st220 ?_
    show own_Go p e below T220 (mkF m 213 #[.val (.int pn), .val (.int px)] [(.ref b212), (.ref b208), (.ref b208)]) _
    refine own_st (fun t_ k_ => XS.dup X220.here hx rfl (hb hby d7_213) rfl rfl (XS.iconst X220.here hx rfl (hb hby d7_214) (XS.iloadN X220.here hx rfl (hb hby d7_215) rfl k_))) ?_
    show own_Go p e below T220 (mkF m 216 #[.val (.int pn), .val (.int px)] [(.int px), (.int (2 : Int32)), (.ref b212), (.ref b212), (.ref b208), (.ref b208)]) _
    obtain ⟨cl223, Ar223, q223, Sz223, Nn223, Hh223, Gg223⟩ := id V220
    have hin223 : ¬ ((2 : Int32) < 0 ∨ cl223.slots.size ≤ ((2 : Int32)).toNatClampNeg) := inb_of Sz223 ⟨by decide, by decide⟩
    obtain ⟨T224, h224, X224, e224, W224, st224⟩ := stC X220 hx hZ e220 Ar223 (j := (2 : Int32)) hin223 (g := (mkF m 216 #[.val (.int pn), .val (.int px)] [(.int px), (.int (2 : Int32)), (.ref b212), (.ref b212), (.ref b208), (.ref b208)])) rfl rfl (hb hby d7_216)
    have V224 : Arv Z h224 b212 k212 .char (7 : Int32) [(.int px), (.int px), (.int (nar .char px)), (.int (0 : Int32)), (.int (0 : Int32)), (.int (0 : Int32)), (.int (0 : Int32))] (.int (0 : Int32)) := Arv.set Ar223 q223 Sz223 Nn223 Hh223 Gg223 (fits_nar_char _) W224 2 rfl (Nat.le_of_ble_eq_true rfl)
    rw [own_nar hpx] at V224
    have Sa225 : Safe Z own_EL s.vm h220 b212 := (Safe.arv hZ.alike V220 (by decide))
    have CH225 := CH221.wr W224 Sa225
    have CR225 := CHr.trans CR221 (CHr.wr W224 Sa225 CH221)
    have K226 : Keep h0 h224 [] := K222.wr W224 (Or.inr B212)
    have N224 := Fr.snoc X224 N220 G212
    refine own_st st224 ?_
    show own_Go p e below T224 (mkF m 217 #[.val (.int pn), .val (.int px)] [(.ref b212), (.ref b208), (.ref b208)]) _
    refine own_st (fun t_ k_ => XS.dup X224.here hx rfl (hb hby d7_217) rfl rfl (XS.iconst X224.here hx rfl (hb hby d7_218) (XS.iloadN X224.here hx rfl (hb hby d7_219) rfl k_))) ?_
    show own_Go p e below T224 (mkF m 220 #[.val (.int pn), .val (.int px)] [(.int px), (.int (3 : Int32)), (.ref b212), (.ref b212), (.ref b208), (.ref b208)]) _
    obtain ⟨cl227, Ar227, q227, Sz227, Nn227, Hh227, Gg227⟩ := id V224
    have hin227 : ¬ ((3 : Int32) < 0 ∨ cl227.slots.size ≤ ((3 : Int32)).toNatClampNeg) := inb_of Sz227 ⟨by decide, by decide⟩
    obtain ⟨T228, h228, X228, e228, W228, st228⟩ := stC X224 hx hZ e224 Ar227 (j := (3 : Int32)) hin227 (g := (mkF m 220 #[.val (.int pn), .val (.int px)] [(.int px), (.int (3 : Int32)), (.ref b212), (.ref b212), (.ref b208), (.ref b208)])) rfl rfl (hb hby d7_220)
    have V228 : Arv Z h228 b212 k212 .char (7 : Int32) [(.int px), (.int px), (.int px), (.int (nar .char px)), (.int (0 : Int32)), (.int (0 : Int32)), (.int (0 : Int32))] (.int (0 : Int32)) := Arv.set Ar227 q227 Sz227 Nn227 Hh227 Gg227 (fits_nar_char _) W228 3 rfl (Nat.le_of_ble_eq_true rfl)
    rw [own_nar hpx] at V228
    have Sa229 : Safe Z own_EL s.vm h224 b212 := (Safe.arv hZ.alike V224 (by decide))
    have CH229 := CH225.wr W228 Sa229
    have CR229 := CHr.trans CR225 (CHr.wr W228 Sa229 CH225)
    have K230 : Keep h0 h228 [] := K226.wr W228 (Or.inr B212)
    have N228 := Fr.snoc X228 N224 G212
    refine own_st st228 ?_
    show own_Go p e below T228 (mkF m 221 #[.val (.int pn), .val (.int px)] [(.ref b212), (.ref b208), (.ref b208)]) _
    refine own_st (fun t_ k_ => XS.dup X228.here hx rfl (hb hby d7_221) rfl rfl (XS.iconst X228.here hx rfl (hb hby d7_222) (XS.iloadN X228.here hx rfl (hb hby d7_223) rfl k_))) ?_
    show own_Go p e below T228 (mkF m 224 #[.val (.int pn), .val (.int px)] [(.int px), (.int (4 : Int32)), (.ref b212), (.ref b212), (.ref b208), (.ref b208)]) _
    obtain ⟨cl231, Ar231, q231, Sz231, Nn231, Hh231, Gg231⟩ := id V228
    have hin231 : ¬ ((4 : Int32) < 0 ∨ cl231.slots.size ≤ ((4 : Int32)).toNatClampNeg) := inb_of Sz231 ⟨by decide, by decide⟩
    obtain ⟨T232, h232, X232, e232, W232, st232⟩ := stC X228 hx hZ e228 Ar231 (j := (4 : Int32)) hin231 (g := (mkF m 224 #[.val (.int pn), .val (.int px)] [(.int px), (.int (4 : Int32)), (.ref b212), (.ref b212), (.ref b208), (.ref b208)])) rfl rfl (hb hby d7_224)
    have V232 : Arv Z h232 b212 k212 .char (7 : Int32) [(.int px), (.int px), (.int px), (.int px), (.int (nar .char px)), (.int (0 : Int32)), (.int (0 : Int32))] (.int (0 : Int32)) := Arv.set Ar231 q231 Sz231 Nn231 Hh231 Gg231 (fits_nar_char _) W232 4 rfl (Nat.le_of_ble_eq_true rfl)
    rw [own_nar hpx] at V232
    have Sa233 : Safe Z own_EL s.vm h228 b212 := (Safe.arv hZ.alike V228 (by decide))
    have CH233 := CH229.wr W232 Sa233
    have CR233 := CHr.trans CR229 (CHr.wr W232 Sa233 CH229)
    have K234 : Keep h0 h232 [] := K230.wr W232 (Or.inr B212)
    have N232 := Fr.snoc X232 N228 G212
    refine own_st st232 ?_
    show own_Go p e below T232 (mkF m 225 #[.val (.int pn), .val (.int px)] [(.ref b212), (.ref b208), (.ref b208)]) _
    refine own_st (fun t_ k_ => XS.dup X232.here hx rfl (hb hby d7_225) rfl rfl (XS.iconst X232.here hx rfl (hb hby d7_226) (XS.iloadN X232.here hx rfl (hb hby d7_227) rfl k_))) ?_
    show own_Go p e below T232 (mkF m 228 #[.val (.int pn), .val (.int px)] [(.int px), (.int (5 : Int32)), (.ref b212), (.ref b212), (.ref b208), (.ref b208)]) _
    obtain ⟨cl235, Ar235, q235, Sz235, Nn235, Hh235, Gg235⟩ := id V232
    have hin235 : ¬ ((5 : Int32) < 0 ∨ cl235.slots.size ≤ ((5 : Int32)).toNatClampNeg) := inb_of Sz235 ⟨by decide, by decide⟩
    obtain ⟨T236, h236, X236, e236, W236, st236⟩ := stC X232 hx hZ e232 Ar235 (j := (5 : Int32)) hin235 (g := (mkF m 228 #[.val (.int pn), .val (.int px)] [(.int px), (.int (5 : Int32)), (.ref b212), (.ref b212), (.ref b208), (.ref b208)])) rfl rfl (hb hby d7_228)
    have V236 : Arv Z h236 b212 k212 .char (7 : Int32) [(.int px), (.int px), (.int px), (.int px), (.int px), (.int (nar .char px)), (.int (0 : Int32))] (.int (0 : Int32)) := Arv.set Ar235 q235 Sz235 Nn235 Hh235 Gg235 (fits_nar_char _) W236 5 rfl (Nat.le_of_ble_eq_true rfl)
    rw [own_nar hpx] at V236
    have Sa237 : Safe Z own_EL s.vm h232 b212 := (Safe.arv hZ.alike V232 (by decide))
    have CH237 := CH233.wr W236 Sa237
    have CR237 := CHr.trans CR233 (CHr.wr W236 Sa237 CH233)
    have K238 : Keep h0 h236 [] := K234.wr W236 (Or.inr B212)
    have N236 := Fr.snoc X236 N232 G212
    refine own_st st236 ?_
    show own_Go p e below T236 (mkF m 229 #[.val (.int pn), .val (.int px)] [(.ref b212), (.ref b208), (.ref b208)]) _
    refine own_st (fun t_ k_ => XS.dup X236.here hx rfl (hb hby d7_229) rfl rfl (XS.bipush X236.here hx rfl (hb hby d7_230) (XS.iloadN X236.here hx rfl (hb hby d7_232) rfl k_))) ?_
    show own_Go p e below T236 (mkF m 233 #[.val (.int pn), .val (.int px)] [(.int px), (.int (6 : Int32)), (.ref b212), (.ref b212), (.ref b208), (.ref b208)]) _
    obtain ⟨cl239, Ar239, q239, Sz239, Nn239, Hh239, Gg239⟩ := id V236
    have hin239 : ¬ ((6 : Int32) < 0 ∨ cl239.slots.size ≤ ((6 : Int32)).toNatClampNeg) := inb_of Sz239 ⟨by decide, by decide⟩
    obtain ⟨T240, h240, X240, e240, W240, st240⟩ := stC X236 hx hZ e236 Ar239 (j := (6 : Int32)) hin239 (g := (mkF m 233 #[.val (.int pn), .val (.int px)] [(.int px), (.int (6 : Int32)), (.ref b212), (.ref b212), (.ref b208), (.ref b208)])) rfl rfl (hb hby d7_233)
    have V240 : Arv Z h240 b212 k212 .char (7 : Int32) [(.int px), (.int px), (.int px), (.int px), (.int px), (.int px), (.int (nar .char px))] (.int (0 : Int32)) := Arv.set Ar239 q239 Sz239 Nn239 Hh239 Gg239 (fits_nar_char _) W240 6 rfl (Nat.le_of_ble_eq_true rfl)
    rw [own_nar hpx] at V240
    have Sa241 : Safe Z own_EL s.vm h236 b212 := (Safe.arv hZ.alike V236 (by decide))
    have CH241 := CH237.wr W240 Sa241
    have CR241 := CHr.trans CR237 (CHr.wr W240 Sa241 CH237)
    have K242 : Keep h0 h240 [] := K238.wr W240 (Or.inr B212)
    have N240 := Fr.snoc X240 N236 G212
    refine own_st st240 ?_
    show own_Go p e below T240 (mkF m 234 #[.val (.int pn), .val (.int px)] [(.ref b212), (.ref b208), (.ref b208)]) _
    have hp1 : ∀ c ∈ ([px, px, px, px, px, px, px] : List Int32), ¬ c < 0 ∧ ¬ (255 : Int32) < c := fun c hc => by simp only [List.mem_cons, List.not_mem_nil, or_false, or_self] at hc; subst hc; exact hpx
    have f243 := (Nat.le_trans (Nat.le_trans (Nat.le_trans (Nat.le_trans (Nat.le_trans (Nat.le_trans (Nat.le_trans (Nat.le_trans f211 E212.1) (Keep.of_wr W216).1) (Keep.of_wr W220).1) (Keep.of_wr W224).1) (Keep.of_wr W228).1) (Keep.of_wr W232).1) (Keep.of_wr W236).1) (Keep.of_wr W240).1)
    have f244 := ((((((((A208.ext E212).wr W216).wr W220).wr W224).wr W228).wr W232).wr W236).wr W240)
    have f245 := ((((((((D208_value.ext E212).other W216 (Or.inl (Nat.ne_of_lt (Nat.lt_of_lt_of_le A208.lt (Nat.le_of_eq g212.symm))))).other W220 (Or.inl (Nat.ne_of_lt (Nat.lt_of_lt_of_le A208.lt (Nat.le_of_eq g212.symm))))).other W224 (Or.inl (Nat.ne_of_lt (Nat.lt_of_lt_of_le A208.lt (Nat.le_of_eq g212.symm))))).other W228 (Or.inl (Nat.ne_of_lt (Nat.lt_of_lt_of_le A208.lt (Nat.le_of_eq g212.symm))))).other W232 (Or.inl (Nat.ne_of_lt (Nat.lt_of_lt_of_le A208.lt (Nat.le_of_eq g212.symm))))).other W236 (Or.inl (Nat.ne_of_lt (Nat.lt_of_lt_of_le A208.lt (Nat.le_of_eq g212.symm))))).other W240 (Or.inl (Nat.ne_of_lt (Nat.lt_of_lt_of_le A208.lt (Nat.le_of_eq g212.symm)))))
    have f246 := ((((((((D208_coder.ext E212).other W216 (Or.inl (Nat.ne_of_lt (Nat.lt_of_lt_of_le A208.lt (Nat.le_of_eq g212.symm))))).other W220 (Or.inl (Nat.ne_of_lt (Nat.lt_of_lt_of_le A208.lt (Nat.le_of_eq g212.symm))))).other W224 (Or.inl (Nat.ne_of_lt (Nat.lt_of_lt_of_le A208.lt (Nat.le_of_eq g212.symm))))).other W228 (Or.inl (Nat.ne_of_lt (Nat.lt_of_lt_of_le A208.lt (Nat.le_of_eq g212.symm))))).other W232 (Or.inl (Nat.ne_of_lt (Nat.lt_of_lt_of_le A208.lt (Nat.le_of_eq g212.symm))))).other W236 (Or.inl (Nat.ne_of_lt (Nat.lt_of_lt_of_le A208.lt (Nat.le_of_eq g212.symm))))).other W240 (Or.inl (Nat.ne_of_lt (Nat.lt_of_lt_of_le A208.lt (Nat.le_of_eq g212.symm)))))
    have f247 := (((((((((pO.ext E208).ext E212).wr W216 G212).wr W220 G212).wr W224 G212).wr W228 G212).wr W232 G212).wr W236 G212).wr W240 G212)
    obtain ⟨_, _, ⟨T248, L248, k248, n248⟩, -, X248, ⟨Lc248, hQ248, l248, y248, z248⟩, st248⟩ := X240.specialBack hx (y := (⟨"java/lang/String", "<init>", "([C)V"⟩ : MethodName)) rfl hown (mvT hZ (own_w hw 4 rfl)) (mvT hZ (own_w hw 5 rfl)) (mvT hZ (own_w hw 6 rfl)) (by decide) (StrChars.Road.backV (W := 1) hZ hws (kI := 4) (own_w hw 1 rfl) (cs := ([px, px, px, px, px, px, px] : List Int32)) (bs := (([px, px, px, px, px, px, px] : List Int32)).map (fun c => c.toInt8.toInt32)) (n := 7) G208 f243 f244 f245 f246 V240 (pS_COMPACT_STRINGS.ext f247.2) pP5 rfl rfl (by decide) (by decide) hp1 rfl (by decide) (by decide)) (g := (mkF m 234 #[.val (.int pn), .val (.int px)] [(.ref b212), (.ref b208), (.ref b208)])) rfl (by rw [hml]; rfl) (Steps.refl _) (a := b208) (argsL := [(.ref b212)]) (rest := [(.ref b208)]) (lenOf pd___C_V rfl) rfl (by show 2 * 0 + _ ≤ _; exact Nat.le_of_eq rfl) (hb hby d7_234) (fun _ _ => ⟨rfl, e240, (by decide : 2 + 1 ≤ _), (by decide : 11 + 7 ≤ _)⟩)
    dsimp only [Pt.U, Pt.locs, Pt.cells, Pt.slots] at X248 l248 y248 z248 st248 hQ248
    try dsimp only [Nat.reduceAdd] at y248 z248
    rw [l248, y248, z248] at X248
    obtain ⟨rfl, Nq248, Kq248, q248_E, q248_c, t248, kb248, q248_g, q248_b, q248_n, q248_v, q248_V⟩ := hQ248
    have N248 := Fr.app N240 Nq248
    have f250 := (Safe.wr W240 Sa241 CH237 (Safe.wr W236 Sa237 CH233 (Safe.wr W232 Sa233 CH229 (Safe.wr W228 Sa229 CH225 (Safe.wr W224 Sa225 CH221 (Safe.wr W220 Sa221 CH217 (Safe.wr W216 Sa217 CH213 (Safe.ext E212 CH209 SF208))))))))
    have Sa249 : ∀ y ∈ [b208], Safe Z own_EL s.vm h240 y := (sfS f250 sf0)
    have CH249 := CH241.keep Kq248 Sa249
    have CR249 := CHr.trans CR241 (CHr.keep Kq248 Sa249 CH241)
    have K251 : Keep h0 T248.heap [] := K242.trans Kq248 (allS (Or.inr B208) all0)
    have Bf252 : h0.size ≤ t248 := Nat.le_trans K242.1 q248_b
    refine own_tr st248 ?_
    show own_Go p e below T248 (mkF m 237 #[.val (.int pn), .val (.int px)] [(.ref b208)]) _
    have Vz : Arv Z T248.heap t248 kb248 .byte pn ((((List.replicate nN px) : List Int32).map (fun c : Int32 => c.toInt8.toInt32)).map Value.int) (.int 0) := by rw [hA.1, hA.2]; exact q248_V
    have f253 := (Nat.le_trans (Nat.le_trans (Nat.le_trans (Nat.le_trans (Nat.le_trans (Nat.le_trans (Nat.le_trans (Nat.le_trans (Nat.le_trans (Nat.le_trans hK0 E208.1) E212.1) (Keep.of_wr W216).1) (Keep.of_wr W220).1) (Keep.of_wr W224).1) (Keep.of_wr W228).1) (Keep.of_wr W232).1) (Keep.of_wr W236).1) (Keep.of_wr W240).1) Kq248.1)
    obtain ⟨fs, hr, hrun, hended, hRW⟩ := X248.leaveW hS f253 (v := some (.ref b208)) (fun h => by rw [Bd.returns] at h; cases h)
    have hCend : CHr Z own_EL s.vm s.heap T248.vm T248.heap := by
      rw [hh]
      exact CHr.trans CR249 (CHv.at X248 hZ hEL CH249)
    refine own_fin (own_retR X248 hx rfl Bd.returns rfl (hb hby d7_237) hr) ⟨hrun, hended, _, _, rfl, ?_, hCend, hRW.1, hRW.2.1, hRW.2.2.1, hRW.2.2.2.mono (by decide) (by decide)⟩
    show Q_rmMt Z pn nN px zc h0 n0 _ T248.heap _
    exact ⟨b208, t248, kb248, rfl, N248, K251, q248_E, q248_v, q248_c, Vz⟩
theorem d8_0 : decode prog_5_method_2_code 0 = .ok (.aload_n 1, 1) := by decide +kernel
theorem d8_1 : decode prog_5_method_2_code 1 = .ok (.invokevirtual 7, 3) := by decide +kernel
theorem d8_4 : decode prog_5_method_2_code 4 = .ok (.iload_n 2, 1) := by decide +kernel
theorem d8_5 : decode prog_5_method_2_code 5 = .ok (.if_icmp .gt 5, 3) := by decide +kernel
theorem d8_8 : decode prog_5_method_2_code 8 = .ok (.aconst_null, 1) := by decide +kernel
theorem d8_9 : decode prog_5_method_2_code 9 = .ok (.areturn, 1) := by decide +kernel
theorem pn_8 : plainName "com/example/envelope/envelope/io/KeptLength" = true := by first | (simp [plainName, overriddenIn]; done) | decide +kernel
theorem ef_rmBn (m : MethodId) (x0 : Addr) (x1 : Addr) (x2 : Int32) : entryFrame m #[(.ref x0), (.ref x1), (.int x2)] 3 = mkF m 0 #[.val (.ref x0), .val (.ref x1), .val (.int x2)] [] := by first | (simp [entryFrame, mkF, argsToLocals, Value.category]; done) | rfl
def Q_rmBn (Z : State) (x1 : Addr) (x2 : Addr) (t2_ : Addr) (k2_ : ClassId) (nz2 : Int32) (s2 : List Int32) (lg : Int32) (zc : Int32) (h0 : Heap) (n0 : Nat) (v : Option Value) (h : Heap) (L : List Loc) : Prop := v = some .null ∧ Fr n0 L ∧ h = h0
set_option maxRecDepth 65536 in
set_option maxHeartbeats 40000000 in
theorem rmBn (l : Launch) (Z : State) (a0 : Array Value) (hw : ∀ d ∈ tables_1, d.before a0 Z = true) (ws : List Jvm.Cond) (x1 : Addr) (x2 : Addr) (t2_ : Addr) (k2_ : ClassId) (nz2 : Int32) (s2 : List Int32) (lg : Int32) (zc : Int32) (h0 : Heap) (n0 : Nat) (Z0 : n0 ≤ h0.size) (pE_x2 : Exa Z h0 x2 "java/lang/String") (pF_value_x2 : Fld Z h0 x2 "java/lang/String" "value" "[B" (.ref t2_)) (pF_coder_x2 : Fld Z h0 x2 "java/lang/String" "coder" "B" (.int (0 : Int32))) (pV_t2_ : Arv Z h0 t2_ k2_ .byte nz2 (((s2 : List Int32).map (fun c : Int32 => c.toInt8.toInt32)).map Value.int) (.int 0)) (hle : (¬ (lg < nz2))) (pS_COMPACT_STRINGS : Sta Z Z.heap "java/lang/String" "COMPACT_STRINGS" "Z" (.int zc)) (pP5 : (¬ (zc = (0 : Int32)))) (pO : Old Z n0 h0) :
    MetFree l (⟨"com/example/envelope/envelope/io/KeptLength", "beyond", "(Ljava/lang/String;Ljava/lang/String;I)Ljava/lang/String;"⟩ : MethodName) (head1 (Jvm.Cond.code (⟨"com/example/envelope/envelope/io/KeptLength", "beyond", "(Ljava/lang/String;Ljava/lang/String;I)Ljava/lang/String;"⟩ : MethodName) prog_5_method_2_code 3 (some (.object "java/lang/String")) :: ws) ({ frames := 2, cells := 0, slots := 0, locals := 25 } : Room)) (fun a U => a = #[(.ref x1), (.ref x2), (.int lg)] ∧ Z.Warmed39 U.vm ∧ U.heap = h0) (fun _ _ _ _ _ => True) (fun _ U o U' => ∃ v L, o = .returned v ∧ Q_rmBn Z x1 x2 t2_ k2_ nz2 s2 lg zc h0 n0 v U'.heap L ∧ FrameEnd U o U' L ({ frames := 2, cells := 0, slots := 0, locals := 25 } : Room).cells ({ frames := 2, cells := 0, slots := 0, locals := 25 } : Room).slots) := by
  refine MetFree.of_bodySF (plainFor_of_name pn_8) hisR ?_
  intro p e s m args below meth c s₁ Bd hml0 hP hK
  obtain ⟨rfl, hZ, hh⟩ := hP
  have hx := Bd.exec
  have hby := Bd.bytes
  have hml : c.maxLocals = 3 := hml0
  have hown : s.vm.findClass "com/example/envelope/envelope/io/KeptLength" = some m.cls := findClass_of_methodNamed Bd.named
  have hnm := (name_of_methodNamed Bd.named Bd.method).1
  have X0 : Stand p l e ({ frames := 2, cells := 0, slots := 0, locals := 25 } : Room) s m #[(.ref x1), (.ref x2), (.int lg)] below meth c s₁ [] 0 0 := Stand.of_body Bd
  have e0 : s₁.heap = h0 := by rw [← hh, Bd.state]; rfl
  have N0 := Fr.nil n0
  refine own_enter (ef_rmBn m x1 x2 lg) ?_
  refine own_st (fun t_ k_ => XS.aloadN X0.here hx rfl (hb hby d8_0) rfl rfl k_) ?_
  show own_Go p e below s₁ (mkF m 1 #[.val (.ref x1), .val (.ref x2), .val (.int lg)] [(.ref x2)]) _
  obtain ⟨cq1, kq1, qa1, qb1, qc1⟩ := isOf hZ e0 pE_x2
  obtain ⟨_, _, ⟨T1, L1, k1, n1⟩, -, X1, ⟨Lc1, hQ1, l1, y1, z1⟩, st1⟩ := X0.virtualBack hx (y := (⟨"java/lang/String", "length", "()I"⟩ : MethodName)) (z := (⟨"java/lang/String", "length", "()I"⟩ : MethodName)) hown (mvT hZ (own_w hw 41 rfl)) (mvT hZ (own_w hw 42 rfl)) (notFace_of_selects (args := #[]) (mvT hZ (own_w hw 44 rfl))) (mvT hZ (own_w hw 44 rfl)) (mvT hZ (own_w hw 43 rfl)) (by decide) (backOf (W := 0) (rmLe l Z a0 hw [] x2 t2_ k2_ nz2 ((((s2 : List Int32).map (fun c : Int32 => c.toInt8.toInt32)).map Value.int)) zc h0 n0 Z0 pE_x2 pF_value_x2 pF_coder_x2 pV_t2_ pS_COMPACT_STRINGS pP5 pO) hZ (own_w hw 45 rfl) (own_w hw 2 rfl) (by decide) (by decide)) qa1 qc1 (g := (mkF m 1 #[.val (.ref x1), .val (.ref x2), .val (.int lg)] [(.ref x2)])) rfl (by rw [hml]; rfl) (Steps.refl _) (argsL := []) (rest := []) (lenOf pd___I rfl) rfl (by show 2 * 0 + _ ≤ _; exact Nat.le_of_eq rfl) (hb hby d8_1) (fun _ _ => ⟨rfl, e0, (by decide : 0 + 0 ≤ _), (by decide : 0 + 0 ≤ _)⟩)
  dsimp only [Pt.U, Pt.locs, Pt.cells, Pt.slots] at X1 l1 y1 z1 st1 hQ1
  try dsimp only [Nat.reduceAdd] at y1 z1
  rw [l1, y1, z1] at X1
  obtain ⟨rfl, Nq1, eH1⟩ := hQ1
  have N1 := Fr.app N0 Nq1
  refine own_tr st1 ?_
  show own_Go p e below T1 (mkF m 4 #[.val (.ref x1), .val (.ref x2), .val (.int lg)] [(.int nz2)]) _
  refine own_st (fun t_ k_ => XS.iloadN X1.here hx rfl (hb hby d8_4) rfl (XS.icmpNo X1.here hx rfl (hb hby d8_5) rfl (flt hle).2.2.1 (XS.aconstNull X1.here hx rfl (hb hby d8_8) k_))) ?_
  show own_Go p e below T1 (mkF m 9 #[.val (.ref x1), .val (.ref x2), .val (.int lg)] [.null]) _
  obtain ⟨fs, hr, hrun, hended, hW, hsame⟩ := X1.leave (v := some .null) (fun h => by rw [Bd.returns] at h; cases h)
  refine own_fin (own_retR X1 hx rfl Bd.returns rfl (hb hby d8_9) hr) ⟨hrun, hended, _, _, rfl, ?_, ⟨_, rfl⟩, hW, hsame.mono (by decide) (by decide)⟩
  show Q_rmBn Z x1 x2 t2_ k2_ nz2 s2 lg zc h0 n0 _ T1.heap _
  rw [eH1]
  exact ⟨rfl, N1, rfl⟩
def own_k1 : List Value := (([32, 111, 102, 32] : List Int32).map (fun c : Int32 => c.toInt8.toInt32)).map Value.int
def own_k2 : List Value := (([32, 99, 104, 97, 114, 97, 99, 116, 101, 114, 115, 44, 32, 109, 111, 114, 101, 32, 116, 104, 97, 110, 32, 116, 104, 101, 32] : List Int32).map (fun c : Int32 => c.toInt8.toInt32)).map Value.int
def own_k3 : List Value := (([32, 116, 104, 101, 32, 100, 97, 116, 97, 32, 102, 111, 108, 100, 101, 114, 32, 107, 101, 101, 112, 115] : List Int32).map (fun c : Int32 => c.toInt8.toInt32)).map Value.int
theorem d8_10 : decode prog_5_method_2_code 10 = .ok (.new 13, 3) := by decide +kernel
theorem d8_13 : decode prog_5_method_2_code 13 = .ok (.dup, 1) := by decide +kernel
theorem d8_14 : decode prog_5_method_2_code 14 = .ok (.invokespecial 15, 3) := by decide +kernel
theorem d8_17 : decode prog_5_method_2_code 17 = .ok (.aload_n 0, 1) := by decide +kernel
theorem d8_18 : decode prog_5_method_2_code 18 = .ok (.invokevirtual 16, 3) := by decide +kernel
theorem d8_21 : decode prog_5_method_2_code 21 = .ok (.ldc 20, 2) := by decide +kernel
theorem d8_23 : decode prog_5_method_2_code 23 = .ok (.invokevirtual 16, 3) := by decide +kernel
theorem d8_26 : decode prog_5_method_2_code 26 = .ok (.aload_n 1, 1) := by decide +kernel
theorem d8_27 : decode prog_5_method_2_code 27 = .ok (.invokevirtual 7, 3) := by decide +kernel
theorem d8_30 : decode prog_5_method_2_code 30 = .ok (.invokevirtual 22, 3) := by decide +kernel
theorem d8_33 : decode prog_5_method_2_code 33 = .ok (.ldc 25, 2) := by decide +kernel
theorem d8_35 : decode prog_5_method_2_code 35 = .ok (.invokevirtual 16, 3) := by decide +kernel
theorem d8_38 : decode prog_5_method_2_code 38 = .ok (.iload_n 2, 1) := by decide +kernel
theorem d8_39 : decode prog_5_method_2_code 39 = .ok (.invokevirtual 22, 3) := by decide +kernel
theorem d8_42 : decode prog_5_method_2_code 42 = .ok (.ldc 27, 2) := by decide +kernel
theorem d8_44 : decode prog_5_method_2_code 44 = .ok (.invokevirtual 16, 3) := by decide +kernel
theorem d8_47 : decode prog_5_method_2_code 47 = .ok (.invokevirtual 29, 3) := by decide +kernel
theorem d8_50 : decode prog_5_method_2_code 50 = .ok (.areturn, 1) := by decide +kernel
theorem pd___V : parseMethodDescriptor "()V" = some ⟨[], none⟩ := by decide +kernel
theorem pd__Ljava_lang_String__Ljava_lang_StringBuilder_ : parseMethodDescriptor "(Ljava/lang/String;)Ljava/lang/StringBuilder;" = some ⟨[(.object "java/lang/String")], some (.object "java/lang/StringBuilder")⟩ := by decide +kernel
theorem pd__I_Ljava_lang_StringBuilder_ : parseMethodDescriptor "(I)Ljava/lang/StringBuilder;" = some ⟨[.int], some (.object "java/lang/StringBuilder")⟩ := by decide +kernel
theorem pd___Ljava_lang_String_ : parseMethodDescriptor "()Ljava/lang/String;" = some ⟨[], some (.object "java/lang/String")⟩ := by decide +kernel
theorem ef_rmBy (m : MethodId) (x0 : Addr) (x1 : Addr) (x2 : Int32) : entryFrame m #[(.ref x0), (.ref x1), (.int x2)] 3 = mkF m 0 #[.val (.ref x0), .val (.ref x1), .val (.int x2)] [] := by first | (simp [entryFrame, mkF, argsToLocals, Value.category]; done) | rfl
def Q_rmBy (Z : State) (x1 : Addr) (t1_ : Addr) (k1_ : ClassId) (s1 : List Int32) (x2 : Addr) (t2_ : Addr) (k2_ : ClassId) (nz2 : Int32) (s2 : List Int32) (lg : Int32) (zc : Int32) (dst : Addr) (dg1 : Addr) (DD1 : Cell) (dg2 : Addr) (DD2 : Cell) (h0 : Heap) (n0 : Nat) (v : Option Value) (h : Heap) (L : List Loc) : Prop := ∃ y : Addr, ∃ b : Addr, ∃ kb : ClassId, ∃ mm : Nat, ∃ cs : List Int32, v = some (.ref y) ∧ Fr n0 L ∧ Keep h0 h [] ∧ Exa Z h y "java/lang/String" ∧ Fld Z h y "java/lang/String" "value" "[B" (.ref b) ∧ Fld Z h y "java/lang/String" "coder" "B" (.int (0 : Int32)) ∧ Arv Z h b kb .byte (Int32.ofNat ((own_all s1 (Int32.ofNat (48 + s2.length)) cs) : List Int32).length) ((((own_all s1 (Int32.ofNat (48 + s2.length)) cs) : List Int32).map (fun c : Int32 => c.toInt8.toInt32)).map Value.int) (.int 0) ∧ (own_Dec lg mm cs ∧ 1 ≤ mm ∧ mm ≤ 11)
set_option maxRecDepth 65536 in
set_option maxHeartbeats 40000000 in
theorem rmBy (l : Launch) (Z : State) (a0 : Array Value) (hw : ∀ d ∈ tables_1, d.before a0 Z = true) (ws : List Jvm.Cond) (x1 : Addr) (t1_ : Addr) (k1_ : ClassId) (s1 : List Int32) (x2 : Addr) (t2_ : Addr) (k2_ : ClassId) (nz2 : Int32) (s2 : List Int32) (lg : Int32) (zc : Int32) (dst : Addr) (dg1 : Addr) (DD1 : Cell) (dg2 : Addr) (DD2 : Cell) (h0 : Heap) (n0 : Nat) (Z0 : n0 ≤ h0.size) (pE_x1 : Exa Z h0 x1 "java/lang/String") (pF_value_x1 : Fld Z h0 x1 "java/lang/String" "value" "[B" (.ref t1_)) (pF_coder_x1 : Fld Z h0 x1 "java/lang/String" "coder" "B" (.int (0 : Int32))) (pV_t1_ : Arv Z h0 t1_ k1_ .byte (2 : Int32) (((s1 : List Int32).map (fun c : Int32 => c.toInt8.toInt32)).map Value.int) (.int 0)) (pE_x2 : Exa Z h0 x2 "java/lang/String") (pF_value_x2 : Fld Z h0 x2 "java/lang/String" "value" "[B" (.ref t2_)) (pF_coder_x2 : Fld Z h0 x2 "java/lang/String" "coder" "B" (.int (0 : Int32))) (pV_t2_ : Arv Z h0 t2_ k2_ .byte nz2 (((s2 : List Int32).map (fun c : Int32 => c.toInt8.toInt32)).map Value.int) (.int 0)) (hgt : (lg < nz2)) (hl1 : (s1.length = 2)) (hn2 : (nz2.toInt = (s2.length : Int))) (hl2 : (s2.length ≤ 7)) (pT1 : (Jvm.Free.SBG.Tbl Z "DigitOnes" dst dg1 DD1)) (pT2 : (Jvm.Free.SBG.Tbl Z "DigitTens" dst dg2 DD2)) (pO1 : (Jvm.Free.SBG.Ones DD1)) (pS_COMPACT_STRINGS : Sta Z Z.heap "java/lang/String" "COMPACT_STRINGS" "Z" (.int zc)) (pP5 : (¬ (zc = (0 : Int32)))) (pO : Old Z n0 h0) :
    MetFree l (⟨"com/example/envelope/envelope/io/KeptLength", "beyond", "(Ljava/lang/String;Ljava/lang/String;I)Ljava/lang/String;"⟩ : MethodName) (head1 (Jvm.Cond.code (⟨"com/example/envelope/envelope/io/KeptLength", "beyond", "(Ljava/lang/String;Ljava/lang/String;I)Ljava/lang/String;"⟩ : MethodName) prog_5_method_2_code 3 (some (.object "java/lang/String")) :: ws) ({ frames := 6, cells := 12, slots := 455, locals := 193 } : Room)) (fun a U => a = #[(.ref x1), (.ref x2), (.int lg)] ∧ Z.Warmed39 U.vm ∧ U.heap = h0 ∧ CHv Z own_EL U.vm h0) (fun _ _ _ _ _ => True) (fun _ U o U' => ∃ v L, o = .returned v ∧ Q_rmBy Z x1 t1_ k1_ s1 x2 t2_ k2_ nz2 s2 lg zc dst dg1 DD1 dg2 DD2 h0 n0 v U'.heap L ∧ CHr Z own_EL U.vm U.heap U'.vm U'.heap ∧ ReturnedEndW U o U' L ({ frames := 6, cells := 12, slots := 455, locals := 193 } : Room).cells ({ frames := 6, cells := 12, slots := 455, locals := 193 } : Room).slots) := by
  refine MetFree.of_bodySF (plainFor_of_name pn_8) hisR ?_
  intro p e s m args below meth c s₁ Bd hml0 hP hK
  obtain ⟨rfl, hZ, hh, hCH⟩ := hP
  have hx := Bd.exec
  have hby := Bd.bytes
  have hml : c.maxLocals = 3 := hml0
  have hown : s.vm.findClass "com/example/envelope/envelope/io/KeptLength" = some m.cls := findClass_of_methodNamed Bd.named
  have hnm := (name_of_methodNamed Bd.named Bd.method).1
  have X0 : Stand p l e ({ frames := 6, cells := 12, slots := 455, locals := 193 } : Room) (s.setVm s.vm) m #[(.ref x1), (.ref x2), (.int lg)] below meth c s₁ [] 0 0 := Stand.of_body Bd
  have e0 : s₁.heap = h0 := by rw [← hh, Bd.state]; rfl
  have N0 := Fr.nil n0
  have hEL := own_EW hw
  have hCR := CHr.refl hCH
  have hS : s.Since s.vm h0.size := (State.WarmedH.refl s).since _
  have hK0 : h0.size ≤ h0.size := Nat.le_refl _
  refine own_enter (ef_rmBy m x1 x2 lg) ?_
  have e2_ : (2 : Int32) = (Int32.ofNat (s1 : List Int32).length) := by rw [hl1]; rfl
  have V1_ := pV_t1_
  rw [e2_] at V1_
  have ns1_ : (Int32.ofNat (s1 : List Int32).length).toInt = ((((s1 : List Int32).map (fun c : Int32 => c.toInt8.toInt32)).map Value.int).length : Int) := by rw [own_ofNat (by omega), List.length_map, List.length_map]
  refine own_st (fun t_ k_ => XS.aloadN X0.here hx rfl (hb hby d8_0) rfl rfl k_) ?_
  show own_Go p e below s₁ (mkF m 1 #[.val (.ref x1), .val (.ref x2), .val (.int lg)] [(.ref x2)]) _
  obtain ⟨cq1, kq1, qa1, qb1, qc1⟩ := isOf hZ e0 pE_x2
  obtain ⟨_, _, ⟨T1, L1, k1, n1⟩, -, X1, ⟨Lc1, hQ1, l1, y1, z1⟩, st1⟩ := X0.virtualBack hx (y := (⟨"java/lang/String", "length", "()I"⟩ : MethodName)) (z := (⟨"java/lang/String", "length", "()I"⟩ : MethodName)) hown (mvT hZ (own_w hw 41 rfl)) (mvT hZ (own_w hw 42 rfl)) (notFace_of_selects (args := #[]) (mvT hZ (own_w hw 44 rfl))) (mvT hZ (own_w hw 44 rfl)) (mvT hZ (own_w hw 43 rfl)) (by decide) (backOf (W := 0) (rmLe l Z a0 hw [] x2 t2_ k2_ nz2 ((((s2 : List Int32).map (fun c : Int32 => c.toInt8.toInt32)).map Value.int)) zc h0 n0 Z0 pE_x2 pF_value_x2 pF_coder_x2 pV_t2_ pS_COMPACT_STRINGS pP5 pO) hZ (own_w hw 45 rfl) (own_w hw 2 rfl) (by decide) (by decide)) qa1 qc1 (g := (mkF m 1 #[.val (.ref x1), .val (.ref x2), .val (.int lg)] [(.ref x2)])) rfl (by rw [hml]; rfl) (Steps.refl _) (argsL := []) (rest := []) (lenOf pd___I rfl) rfl (by show 2 * 0 + _ ≤ _; exact Nat.le_of_eq rfl) (hb hby d8_1) (fun _ _ => ⟨rfl, e0, (by decide : 0 + 0 ≤ _), (by decide : 0 + 0 ≤ _)⟩)
  dsimp only [Pt.U, Pt.locs, Pt.cells, Pt.slots] at X1 l1 y1 z1 st1 hQ1
  try dsimp only [Nat.reduceAdd] at y1 z1
  rw [l1, y1, z1] at X1
  obtain ⟨rfl, Nq1, eH1⟩ := hQ1
  have N1 := Fr.app N0 Nq1
  refine own_tr st1 ?_
  show own_Go p e below T1 (mkF m 4 #[.val (.ref x1), .val (.ref x2), .val (.int lg)] [(.int nz2)]) _
  refine own_st (fun t_ k_ => XS.iloadN X1.here hx rfl (hb hby d8_4) rfl (XS.icmpYes X1.here hx rfl (pc0 := 5) (pc' := 10) rfl (hb hby d8_5) rfl (tlt hgt).2.2.1 (by decide) (by decide) k_)) ?_
  show own_Go p e below T1 (mkF m 10 #[.val (.ref x1), .val (.ref x2), .val (.int lg)] []) _
  obtain ⟨T2, h2, X2, e2, E2, A2, D2, -, st2⟩ := newO X1 hx hZ hown (own_w hw 51 rfl) (own_w hw 52 rfl) (own_w hw 53 rfl) eH1 (g := (mkF m 10 #[.val (.ref x1), .val (.ref x2), .val (.int lg)] [])) rfl (hb hby d8_10) (by decide) (by decide)
  obtain ⟨b2, g2⟩ : ∃ z, z = h0.size := ⟨_, rfl⟩
  rw [← g2] at A2 D2 st2
  have G2 : n0 ≤ b2 := Nat.le_trans Z0 (Nat.le_of_eq g2.symm)
  have B2 : h0.size ≤ b2 := Nat.le_trans (Keep.refl h0 []).1 (Nat.le_of_eq g2.symm)
  have CH3 := hCH.ext E2
  have CR3 := CHr.trans hCR (CHr.ext E2 hCH)
  have K4 : Keep h0 h2 [] := (Keep.refl h0 []).ext E2
  have D2_value : Fld Z h2 b2 "java/lang/AbstractStringBuilder" "value" "[B" .null := D2 (Or.inl (own_w hw 66 rfl)) (ty := (.array .byte)) (by decide)
  have D2_coder : Fld Z h2 b2 "java/lang/AbstractStringBuilder" "coder" "B" (.int (0 : Int32)) := D2 (Or.inl (own_w hw 68 rfl)) (ty := .byte) (by decide)
  have D2_count : Fld Z h2 b2 "java/lang/AbstractStringBuilder" "count" "I" (.int (0 : Int32)) := D2 (Or.inl (own_w hw 81 rfl)) (ty := .int) (by decide)
  refine own_st st2 ?_
  show own_Go p e below T2 (mkF m 13 #[.val (.ref x1), .val (.ref x2), .val (.int lg)] [(.ref b2)]) _
  refine own_st (fun t_ k_ => XS.dup X2.here hx rfl (hb hby d8_13) rfl rfl k_) ?_
  show own_Go p e below T2 (mkF m 14 #[.val (.ref x1), .val (.ref x2), .val (.int lg)] [(.ref b2), (.ref b2)]) _
  have f5 := (Nat.le_trans Z0 E2.1)
  have f6 := (pO.ext E2)
  obtain ⟨_, _, ⟨T7, L7, k7, n7⟩, -, X7, ⟨Lc7, hQ7, l7, y7, z7⟩, st7⟩ := X2.specialBack hx (y := (⟨"java/lang/StringBuilder", "<init>", "()V"⟩ : MethodName)) rfl hown (mvT hZ (own_w hw 54 rfl)) (mvT hZ (own_w hw 55 rfl)) (mvT hZ (own_w hw 56 rfl)) (by decide) (backOf (W := 1) (rmSbI l Z a0 hw [] b2 .null ((.int (0 : Int32))) zc h2 n0 f5 A2 D2_value D2_coder D2_count G2 pS_COMPACT_STRINGS pP5 f6) hZ (own_w hw 56 rfl) (own_w hw 53 rfl) (by decide) (by decide)) (g := (mkF m 14 #[.val (.ref x1), .val (.ref x2), .val (.int lg)] [(.ref b2), (.ref b2)])) rfl (by rw [hml]; rfl) (Steps.refl _) (a := b2) (argsL := []) (rest := [(.ref b2)]) (lenOf pd___V rfl) rfl (by show 2 * 0 + _ ≤ _; exact Nat.le_of_eq rfl) (hb hby d8_14) (fun _ _ => ⟨rfl, e2, (by decide : 1 + 1 ≤ _), (by decide : 4 + 16 ≤ _)⟩)
  dsimp only [Pt.U, Pt.locs, Pt.cells, Pt.slots] at X7 l7 y7 z7 st7 hQ7
  try dsimp only [Nat.reduceAdd] at y7 z7
  rw [l7, y7, z7] at X7
  obtain ⟨va_7, kva_7, rfl, Nq7, Kq7, q7_0, q7_1, q7_2, q7_3, q7_4, q7_5, q7_6⟩ := hQ7
  have N7 := Fr.app N1 Nq7
  have Sa8 : ∀ y ∈ [b2], Safe Z own_EL s.vm h2 y := (sfS (Safe.exa hZ.alike A2 (by decide) (by decide)) sf0)
  have CH8 := CH3.keep Kq7 Sa8
  have CR8 := CHr.trans CR3 (CHr.keep Kq7 Sa8 CH3)
  have K9 : Keep h0 T7.heap [] := K4.trans Kq7 (allS (Or.inr B2) all0)
  have Bf10 : h0.size ≤ va_7 := Nat.le_trans K4.1 q7_5
  refine own_tr st7 ?_
  show own_Go p e below T7 (mkF m 17 #[.val (.ref x1), .val (.ref x2), .val (.int lg)] [(.ref b2)]) _
  obtain ⟨Bz0, hB0_⟩ : ∃ b : List Value, b = [] := ⟨_, rfl⟩
  obtain ⟨Rz0, hR0_⟩ : ∃ b : List Value, b = [(.int 0), (.int 0), (.int 0), (.int 0), (.int 0), (.int 0), (.int 0), (.int 0), (.int 0), (.int 0), (.int 0), (.int 0), (.int 0), (.int 0), (.int 0), (.int 0)] := ⟨_, rfl⟩
  have Vz0 : Arv Z T7.heap va_7 kva_7 .byte (16 : Int32) (Bz0 ++ Rz0) (.int 0) := by rw [hB0_, hR0_]; exact q7_4
  have hb0 : (0 : Int32).toInt = (Bz0.length : Int) := by rw [hB0_]; rfl
  have hL0 : 0 ≤ Bz0.length ∧ Bz0.length ≤ 0 := by rw [hB0_]; decide
  have hv0 : Bz0.length + Rz0.length = 16 := by rw [hB0_, hR0_]; rfl
  have hcp0 : (16 : Int32).toInt = ((Bz0.length + Rz0.length : Nat) : Int) := by rw [hv0]; rfl
  have ul1 : 2 ≤ (((s1 : List Int32).map (fun c : Int32 => c.toInt8.toInt32)).map Value.int : List Value).length ∧ (((s1 : List Int32).map (fun c : Int32 => c.toInt8.toInt32)).map Value.int : List Value).length ≤ 2 := by rw [List.length_map, List.length_map]; omega
  refine own_st (fun t_ k_ => XS.aloadN X7.here hx rfl (hb hby d8_17) rfl rfl k_) ?_
  show own_Go p e below T7 (mkF m 18 #[.val (.ref x1), .val (.ref x2), .val (.int lg)] [(.ref x1), (.ref b2)]) _
  have f11 := (Nat.le_trans f5 Kq7.1)
  have f12 := ((pE_x1.ext E2).keep Kq7)
  have f13 := ((pF_value_x1.ext E2).keep Kq7 (ninS (Nat.ne_of_lt (Nat.lt_of_lt_of_le pE_x1.lt (Nat.le_of_eq g2.symm))) nin0))
  have f14 := ((pF_coder_x1.ext E2).keep Kq7 (ninS (Nat.ne_of_lt (Nat.lt_of_lt_of_le pE_x1.lt (Nat.le_of_eq g2.symm))) nin0))
  have f15 := ((V1_.ext E2).keep Kq7 (ninS (Nat.ne_of_lt (Nat.lt_of_lt_of_le V1_.lt (Nat.le_of_eq g2.symm))) nin0))
  have f16 := (f6.keep Kq7 (allS G2 all0))
  obtain ⟨cq17, kq17, qa17, qb17, qc17⟩ := isOf hZ rfl q7_0
  obtain ⟨_, _, ⟨T17, L17, k17, n17⟩, -, X17, ⟨Lc17, hQ17, l17, y17, z17⟩, st17⟩ := X7.virtualBack hx (y := (⟨"java/lang/StringBuilder", "append", "(Ljava/lang/String;)Ljava/lang/StringBuilder;"⟩ : MethodName)) (z := (⟨"java/lang/StringBuilder", "append", "(Ljava/lang/String;)Ljava/lang/StringBuilder;"⟩ : MethodName)) hown (mvT hZ (own_w hw 69 rfl)) (mvT hZ (own_w hw 70 rfl)) (notFace_of_selects (args := #[]) (mvT hZ (own_w hw 72 rfl))) (mvT hZ (own_w hw 72 rfl)) (mvT hZ (own_w hw 71 rfl)) (by decide) (backOf (W := 0) (rmSbA l Z a0 hw [] b2 va_7 kva_7 ((16 : Int32)) ((0 : Int32)) Bz0 Rz0 x1 t1_ k1_ ((Int32.ofNat (s1 : List Int32).length)) (((s1 : List Int32).map (fun c : Int32 => c.toInt8.toInt32)).map Value.int) zc T7.heap n0 f11 q7_0 q7_1 q7_2 q7_3 Vz0 f12 f13 f14 f15 hb0 hcp0 ns1_ (by omega) (by omega) G2 q7_6 pS_COMPACT_STRINGS pP5 f16) hZ (own_w hw 73 rfl) (own_w hw 53 rfl) (by decide) (by decide)) qa17 qc17 (g := (mkF m 18 #[.val (.ref x1), .val (.ref x2), .val (.int lg)] [(.ref x1), (.ref b2)])) rfl (by rw [hml]; rfl) (Steps.refl _) (argsL := [(.ref x1)]) (rest := []) (lenOf pd__Ljava_lang_String__Ljava_lang_StringBuilder_ rfl) rfl (by show 2 * 0 + _ ≤ _; exact Nat.le_of_eq rfl) (hb hby d8_18) (fun _ _ => ⟨rfl, rfl, (by decide : 2 + 0 ≤ _), (by decide : 20 + 0 ≤ _)⟩)
  dsimp only [Pt.U, Pt.locs, Pt.cells, Pt.slots] at X17 l17 y17 z17 st17 hQ17
  try dsimp only [Nat.reduceAdd] at y17 z17
  rw [l17, y17, z17] at X17
  obtain ⟨rfl, Nq17, Kq17, q17_0, q17_1, q17_2, q17_3, q17_4⟩ := hQ17
  have N17 := Fr.app N7 Nq17
  have f19 := (Safe.keep Kq7 Sa8 CH3 (Safe.new (x := va_7) q7_5))
  have Sa18 : ∀ y ∈ [b2, va_7], Safe Z own_EL s.vm T7.heap y := (sfS (Safe.exa hZ.alike q7_0 (by decide) (by decide)) (sfS f19 sf0))
  have CH18 := CH8.keep Kq17 Sa18
  have CR18 := CHr.trans CR8 (CHr.keep Kq17 Sa18 CH8)
  have K20 : Keep h0 T17.heap [] := K9.trans Kq17 (allS (Or.inr B2) (allS (Or.inr Bf10) all0))
  refine own_tr st17 ?_
  show own_Go p e below T17 (mkF m 21 #[.val (.ref x1), .val (.ref x2), .val (.int lg)] [(.ref b2)]) _
  obtain ⟨Rz1, hR1_⟩ : ∃ b : List Value, b = List.drop (((s1 : List Int32).map (fun c : Int32 => c.toInt8.toInt32)).map Value.int : List Value).length Rz0 := ⟨_, rfl⟩
  obtain ⟨Bz1, hB1_⟩ : ∃ b : List Value, b = Bz0 ++ ((s1 : List Int32).map (fun c : Int32 => c.toInt8.toInt32)).map Value.int := ⟨_, rfl⟩
  obtain ⟨Cz1, hC1_⟩ : ∃ c : Int32, c = (0 : Int32) + (Int32.ofNat (s1 : List Int32).length) := ⟨_, rfl⟩
  rw [← hB1_, ← hR1_] at q17_4
  rw [← hC1_] at q17_3
  have lB1 : Bz1.length = Bz0.length + (((s1 : List Int32).map (fun c : Int32 => c.toInt8.toInt32)).map Value.int : List Value).length := by rw [hB1_, List.length_append]
  have hb1 : Cz1.toInt = (Bz1.length : Int) := by rw [hC1_, lB1]; exact own_addI hb0 ns1_ (by omega)
  have hL1 : 2 ≤ Bz1.length ∧ Bz1.length ≤ 2 := by omega
  have hv1 : Bz1.length + Rz1.length = 16 := by rw [hR1_, List.length_drop]; omega
  have hcp1 : (16 : Int32).toInt = ((Bz1.length + Rz1.length : Nat) : Int) := by rw [hcp0, hv0, hv1]
  have f22 := (Nat.le_trans (Nat.le_trans (Nat.le_trans hK0 E2.1) Kq7.1) Kq17.1)
  obtain ⟨b21, T21, h21, k21, t21, kb21, X21, e21, E21, hS, hk21, hZ, hown, xE21, xC21, xV21, xA21, -, -, A21, -, -, st21⟩ := ldcCH X17 hx hZ hown (own_w hw 107 rfl) (own_wS hw) rfl hS f22 hEL (List.mem_of_getElem? (i := 0) rfl) CH18 (vs := own_k1) (z := (4 : Int32)) (by decide +kernel) (by decide) (by decide) (g := (mkF m 21 #[.val (.ref x1), .val (.ref x2), .val (.int lg)] [(.ref b2)])) rfl (hb hby d8_21) (n := 16) (by decide) (by decide) (by decide) (by decide)
  have CH23 := A21.1
  have CR23 := CHr.trans CR18 (A21)
  have K24 : Keep h0 h21 [] := K20.ext E21
  refine own_st st21 ?_
  show own_Go p e below T21 (mkF m 23 #[.val (.ref x1), .val (.ref x2), .val (.int lg)] [(.ref b21), (.ref b2)]) _
  have ul2 : 4 ≤ (own_k1 : List Value).length ∧ (own_k1 : List Value).length ≤ 4 := by decide
  have f25 := (Nat.le_trans (Nat.le_trans f11 Kq17.1) E21.1)
  have f26 := (q17_0.ext E21)
  have f27 := (q17_1.ext E21)
  have f28 := (q17_2.ext E21)
  have f29 := (q17_3.ext E21)
  have f30 := (q17_4.ext E21)
  have f31 := ((f16.keep Kq17 (allS G2 (allS q7_6 all0))).ext E21)
  obtain ⟨cq32, kq32, qa32, qb32, qc32⟩ := isOf hZ e21 f26
  obtain ⟨_, _, ⟨T32, L32, k32, n32⟩, -, X32, ⟨Lc32, hQ32, l32, y32, z32⟩, st32⟩ := X21.virtualBack hx (y := (⟨"java/lang/StringBuilder", "append", "(Ljava/lang/String;)Ljava/lang/StringBuilder;"⟩ : MethodName)) (z := (⟨"java/lang/StringBuilder", "append", "(Ljava/lang/String;)Ljava/lang/StringBuilder;"⟩ : MethodName)) hown (mvT hZ (own_w hw 69 rfl)) (mvT hZ (own_w hw 70 rfl)) (notFace_of_selects (args := #[]) (mvT hZ (own_w hw 72 rfl))) (mvT hZ (own_w hw 72 rfl)) (mvT hZ (own_w hw 71 rfl)) (by decide) (backOf (W := 0) (rmSbA l Z a0 hw [] b2 va_7 kva_7 ((16 : Int32)) Cz1 Bz1 Rz1 b21 t21 kb21 ((4 : Int32)) own_k1 zc h21 n0 f25 f26 f27 f28 f29 f30 xE21 xV21 xC21 xA21 hb1 hcp1 rfl (by omega) (by omega) G2 q7_6 pS_COMPACT_STRINGS pP5 f31) hZ (own_w hw 73 rfl) (own_w hw 53 rfl) (by decide) (by decide)) qa32 qc32 (g := (mkF m 23 #[.val (.ref x1), .val (.ref x2), .val (.int lg)] [(.ref b21), (.ref b2)])) rfl (by rw [hml]; rfl) (Steps.refl _) (argsL := [(.ref b21)]) (rest := []) (lenOf pd__Ljava_lang_String__Ljava_lang_StringBuilder_ rfl) rfl (by show 2 * 0 + _ ≤ _; exact Nat.le_of_eq rfl) (hb hby d8_23) (fun _ _ => ⟨rfl, e21, (by decide : 4 + 0 ≤ _), (by decide : 40 + 0 ≤ _)⟩)
  dsimp only [Pt.U, Pt.locs, Pt.cells, Pt.slots] at X32 l32 y32 z32 st32 hQ32
  try dsimp only [Nat.reduceAdd] at y32 z32
  rw [l32, y32, z32] at X32
  obtain ⟨rfl, Nq32, Kq32, q32_0, q32_1, q32_2, q32_3, q32_4⟩ := hQ32
  have N32 := Fr.app N17 Nq32
  have f34 := (CHr.safe A21 q17_4.lt (Safe.keep Kq17 Sa18 CH8 f19))
  have Sa33 : ∀ y ∈ [b2, va_7], Safe Z own_EL T21.vm h21 y := (sfS (Safe.exa hZ.alike f26 (by decide) (by decide)) (sfS f34 sf0))
  have CH33 := CH23.keep Kq32 Sa33
  have CR33 := CHr.trans CR23 (CHr.keep Kq32 Sa33 CH23)
  have K35 : Keep h0 T32.heap [] := K24.trans Kq32 (allS (Or.inr B2) (allS (Or.inr Bf10) all0))
  refine own_tr st32 ?_
  show own_Go p e below T32 (mkF m 26 #[.val (.ref x1), .val (.ref x2), .val (.int lg)] [(.ref b2)]) _
  obtain ⟨Rz2, hR2_⟩ : ∃ b : List Value, b = List.drop (own_k1 : List Value).length Rz1 := ⟨_, rfl⟩
  obtain ⟨Bz2, hB2_⟩ : ∃ b : List Value, b = Bz1 ++ own_k1 := ⟨_, rfl⟩
  obtain ⟨Cz2, hC2_⟩ : ∃ c : Int32, c = Cz1 + (4 : Int32) := ⟨_, rfl⟩
  rw [← hB2_, ← hR2_] at q32_4
  rw [← hC2_] at q32_3
  have lB2 : Bz2.length = Bz1.length + (own_k1 : List Value).length := by rw [hB2_, List.length_append]
  have hb2 : Cz2.toInt = (Bz2.length : Int) := by rw [hC2_, lB2]; exact own_addI hb1 rfl (by omega)
  have hL2 : 6 ≤ Bz2.length ∧ Bz2.length ≤ 6 := by omega
  have hv2 : Bz2.length + Rz2.length = 16 := by rw [hR2_, List.length_drop]; omega
  have hcp2 : (16 : Int32).toInt = ((Bz2.length + Rz2.length : Nat) : Int) := by rw [hcp1, hv1, hv2]
  refine own_st (fun t_ k_ => XS.aloadN X32.here hx rfl (hb hby d8_26) rfl rfl k_) ?_
  show own_Go p e below T32 (mkF m 27 #[.val (.ref x1), .val (.ref x2), .val (.int lg)] [(.ref x2), (.ref b2)]) _
  have f36 := (Nat.le_trans f25 Kq32.1)
  have f37 := (((((pE_x2.ext E2).keep Kq7).keep Kq17).ext E21).keep Kq32)
  have f38 := (((((pF_value_x2.ext E2).keep Kq7 (ninS (Nat.ne_of_lt (Nat.lt_of_lt_of_le pE_x2.lt (Nat.le_of_eq g2.symm))) nin0)).keep Kq17 (ninS (Nat.ne_of_lt (Nat.lt_of_lt_of_le pE_x2.lt (Nat.le_of_eq g2.symm))) (ninS (Nat.ne_of_lt (Nat.lt_of_lt_of_le (pE_x2.ext E2).lt q7_5)) nin0))).ext E21).keep Kq32 (ninS (Nat.ne_of_lt (Nat.lt_of_lt_of_le pE_x2.lt (Nat.le_of_eq g2.symm))) (ninS (Nat.ne_of_lt (Nat.lt_of_lt_of_le (pE_x2.ext E2).lt q7_5)) nin0)))
  have f39 := (((((pF_coder_x2.ext E2).keep Kq7 (ninS (Nat.ne_of_lt (Nat.lt_of_lt_of_le pE_x2.lt (Nat.le_of_eq g2.symm))) nin0)).keep Kq17 (ninS (Nat.ne_of_lt (Nat.lt_of_lt_of_le pE_x2.lt (Nat.le_of_eq g2.symm))) (ninS (Nat.ne_of_lt (Nat.lt_of_lt_of_le (pE_x2.ext E2).lt q7_5)) nin0))).ext E21).keep Kq32 (ninS (Nat.ne_of_lt (Nat.lt_of_lt_of_le pE_x2.lt (Nat.le_of_eq g2.symm))) (ninS (Nat.ne_of_lt (Nat.lt_of_lt_of_le (pE_x2.ext E2).lt q7_5)) nin0)))
  have f40 := (((((pV_t2_.ext E2).keep Kq7 (ninS (Nat.ne_of_lt (Nat.lt_of_lt_of_le pV_t2_.lt (Nat.le_of_eq g2.symm))) nin0)).keep Kq17 (ninS (Nat.ne_of_lt (Nat.lt_of_lt_of_le pV_t2_.lt (Nat.le_of_eq g2.symm))) (ninS (Nat.ne_of_lt (Nat.lt_of_lt_of_le (pV_t2_.ext E2).lt q7_5)) nin0))).ext E21).keep Kq32 (ninS (Nat.ne_of_lt (Nat.lt_of_lt_of_le pV_t2_.lt (Nat.le_of_eq g2.symm))) (ninS (Nat.ne_of_lt (Nat.lt_of_lt_of_le (pV_t2_.ext E2).lt q7_5)) nin0)))
  have f41 := (f31.keep Kq32 (allS G2 (allS q7_6 all0)))
  obtain ⟨cq42, kq42, qa42, qb42, qc42⟩ := isOf hZ rfl f37
  obtain ⟨_, _, ⟨T42, L42, k42, n42⟩, -, X42, ⟨Lc42, hQ42, l42, y42, z42⟩, st42⟩ := X32.virtualBack hx (y := (⟨"java/lang/String", "length", "()I"⟩ : MethodName)) (z := (⟨"java/lang/String", "length", "()I"⟩ : MethodName)) hown (mvT hZ (own_w hw 41 rfl)) (mvT hZ (own_w hw 42 rfl)) (notFace_of_selects (args := #[]) (mvT hZ (own_w hw 44 rfl))) (mvT hZ (own_w hw 44 rfl)) (mvT hZ (own_w hw 43 rfl)) (by decide) (backOf (W := 1) (rmLe l Z a0 hw [] x2 t2_ k2_ nz2 ((((s2 : List Int32).map (fun c : Int32 => c.toInt8.toInt32)).map Value.int)) zc T32.heap n0 f36 f37 f38 f39 f40 pS_COMPACT_STRINGS pP5 f41) hZ (own_w hw 45 rfl) (own_w hw 2 rfl) (by decide) (by decide)) qa42 qc42 (g := (mkF m 27 #[.val (.ref x1), .val (.ref x2), .val (.int lg)] [(.ref x2), (.ref b2)])) rfl (by rw [hml]; rfl) (Steps.refl _) (argsL := []) (rest := [(.ref b2)]) (lenOf pd___I rfl) rfl (by show 2 * 0 + _ ≤ _; exact Nat.le_of_eq rfl) (hb hby d8_27) (fun _ _ => ⟨rfl, rfl, (by decide : 4 + 0 ≤ _), (by decide : 40 + 0 ≤ _)⟩)
  dsimp only [Pt.U, Pt.locs, Pt.cells, Pt.slots] at X42 l42 y42 z42 st42 hQ42
  try dsimp only [Nat.reduceAdd] at y42 z42
  rw [l42, y42, z42] at X42
  obtain ⟨rfl, Nq42, eH42⟩ := hQ42
  have N42 := Fr.app N32 Nq42
  refine own_tr st42 ?_
  show own_Go p e below T42 (mkF m 30 #[.val (.ref x1), .val (.ref x2), .val (.int lg)] [(.int nz2), (.ref b2)]) _
  obtain ⟨cq43, kq43, qa43, qb43, qc43⟩ := isOf hZ eH42 q32_0
  obtain ⟨_, _, ⟨T43, L43, k43, n43⟩, -, X43, ⟨Lc43, hQ43, l43, y43, z43⟩, st43⟩ := X42.virtualBack hx (y := (⟨"java/lang/StringBuilder", "append", "(I)Ljava/lang/StringBuilder;"⟩ : MethodName)) (z := (⟨"java/lang/StringBuilder", "append", "(I)Ljava/lang/StringBuilder;"⟩ : MethodName)) hown (mvT hZ (own_w hw 108 rfl)) (mvT hZ (own_w hw 109 rfl)) (notFace_of_selects (args := #[]) (mvT hZ (own_w hw 111 rfl))) (mvT hZ (own_w hw 111 rfl)) (mvT hZ (own_w hw 110 rfl)) (by decide) (backOf (W := 0) (rmSi_ l Z a0 hw [] b2 va_7 kva_7 ((16 : Int32)) Cz2 Bz2 Rz2 nz2 zc _ _ _ _ _ T32.heap n0 f36 q32_0 q32_1 q32_2 q32_3 q32_4 hb2 hcp2 (by omega) (by omega) pT1 pT2 pO1 G2 q7_6 pS_COMPACT_STRINGS pP5 f41) hZ (own_w hw 112 rfl) (own_w hw 53 rfl) (by decide) (by decide)) qa43 qc43 (g := (mkF m 30 #[.val (.ref x1), .val (.ref x2), .val (.int lg)] [(.int nz2), (.ref b2)])) rfl (by rw [hml]; rfl) (Steps.refl _) (argsL := [(.int nz2)]) (rest := []) (lenOf pd__I_Ljava_lang_StringBuilder_ rfl) rfl (by show 2 * 0 + _ ≤ _; exact Nat.le_of_eq rfl) (hb hby d8_30) (fun _ _ => ⟨rfl, eH42, (by decide : 4 + 0 ≤ _), (by decide : 40 + 0 ≤ _)⟩)
  dsimp only [Pt.U, Pt.locs, Pt.cells, Pt.slots] at X43 l43 y43 z43 st43 hQ43
  try dsimp only [Nat.reduceAdd] at y43 z43
  rw [l43, y43, z43] at X43
  obtain ⟨mm_43, cs_43, rfl, Nq43, Kq43, q43_0, q43_1, q43_2, q43_3, q43_4, q43_5⟩ := hQ43
  have N43 := Fr.app N42 Nq43
  have f45 := (Safe.keep Kq32 Sa33 CH23 f34)
  have Sa44 : ∀ y ∈ [b2, va_7], Safe Z own_EL T21.vm T32.heap y := (sfS (Safe.exa hZ.alike q32_0 (by decide) (by decide)) (sfS f45 sf0))
  have CH44 := CH33.keep Kq43 Sa44
  have CR44 := CHr.trans CR33 (CHr.keep Kq43 Sa44 CH33)
  have K46 : Keep h0 T43.heap [] := K35.trans Kq43 (allS (Or.inr B2) (allS (Or.inr Bf10) all0))
  refine own_tr st43 ?_
  show own_Go p e below T43 (mkF m 33 #[.val (.ref x1), .val (.ref x2), .val (.int lg)] [(.ref b2)]) _
  have um3 : (((cs_43 : List Int32).map (fun c : Int32 => c.toInt8.toInt32)).map Value.int : List Value).length = mm_43 := by rw [List.length_map, List.length_map, q43_5.1.1]
  have ul3 : 1 ≤ (((cs_43 : List Int32).map (fun c : Int32 => c.toInt8.toInt32)).map Value.int : List Value).length ∧ (((cs_43 : List Int32).map (fun c : Int32 => c.toInt8.toInt32)).map Value.int : List Value).length ≤ 1 := by rw [um3]; have := q43_5; have := this.1.2.2.1 (by omega) (by omega); omega
  have un3 : (Int32.ofNat mm_43).toInt = ((((cs_43 : List Int32).map (fun c : Int32 => c.toInt8.toInt32)).map Value.int : List Value).length : Int) := by rw [um3]; exact own_ofNat (by omega)
  obtain ⟨Rz3, hR3_⟩ : ∃ b : List Value, b = List.drop mm_43 Rz2 := ⟨_, rfl⟩
  obtain ⟨Bz3, hB3_⟩ : ∃ b : List Value, b = Bz2 ++ ((cs_43 : List Int32).map (fun c : Int32 => c.toInt8.toInt32)).map Value.int := ⟨_, rfl⟩
  obtain ⟨Cz3, hC3_⟩ : ∃ c : Int32, c = Cz2 + (Int32.ofNat mm_43) := ⟨_, rfl⟩
  rw [← hB3_, ← hR3_] at q43_4
  rw [← hC3_] at q43_3
  have lB3 : Bz3.length = Bz2.length + (((cs_43 : List Int32).map (fun c : Int32 => c.toInt8.toInt32)).map Value.int : List Value).length := by rw [hB3_, List.length_append]
  have hb3 : Cz3.toInt = (Bz3.length : Int) := by rw [hC3_, lB3]; exact own_addI hb2 un3 (by omega)
  have hL3 : 7 ≤ Bz3.length ∧ Bz3.length ≤ 7 := by omega
  have hv3 : Bz3.length + Rz3.length = 16 := by rw [hR3_, List.length_drop]; omega
  have hcp3 : (16 : Int32).toInt = ((Bz3.length + Rz3.length : Nat) : Int) := by rw [hcp2, hv2, hv3]
  have f48 := (Nat.le_trans (Nat.le_trans hk21 Kq32.1) Kq43.1)
  obtain ⟨b47, T47, h47, k47, t47, kb47, X47, e47, E47, hS, hk47, hZ, hown, xE47, xC47, xV47, xA47, -, -, A47, -, -, st47⟩ := ldcCH X43 hx hZ hown (own_w hw 130 rfl) (own_wS hw) rfl hS f48 hEL (List.mem_of_getElem? (i := 1) rfl) CH44 (vs := own_k2) (z := (27 : Int32)) (by decide +kernel) (by decide) (by decide) (g := (mkF m 33 #[.val (.ref x1), .val (.ref x2), .val (.int lg)] [(.ref b2)])) rfl (hb hby d8_33) (n := 108) (by decide) (by decide) (by decide) (by decide)
  have CH49 := A47.1
  have CR49 := CHr.trans CR44 (A47)
  have K50 : Keep h0 h47 [] := K46.ext E47
  refine own_st st47 ?_
  show own_Go p e below T47 (mkF m 35 #[.val (.ref x1), .val (.ref x2), .val (.int lg)] [(.ref b47), (.ref b2)]) _
  have ul4 : 27 ≤ (own_k2 : List Value).length ∧ (own_k2 : List Value).length ≤ 27 := by decide
  have f51 := (Nat.le_trans (Nat.le_trans f36 Kq43.1) E47.1)
  have f52 := (q43_0.ext E47)
  have f53 := (q43_1.ext E47)
  have f54 := (q43_2.ext E47)
  have f55 := (q43_3.ext E47)
  have f56 := (q43_4.ext E47)
  have f57 := ((f41.keep Kq43 (allS G2 (allS q7_6 all0))).ext E47)
  obtain ⟨cq58, kq58, qa58, qb58, qc58⟩ := isOf hZ e47 f52
  obtain ⟨_, _, ⟨T58, L58, k58, n58⟩, -, X58, ⟨Lc58, hQ58, l58, y58, z58⟩, st58⟩ := X47.virtualBack hx (y := (⟨"java/lang/StringBuilder", "append", "(Ljava/lang/String;)Ljava/lang/StringBuilder;"⟩ : MethodName)) (z := (⟨"java/lang/StringBuilder", "append", "(Ljava/lang/String;)Ljava/lang/StringBuilder;"⟩ : MethodName)) hown (mvT hZ (own_w hw 69 rfl)) (mvT hZ (own_w hw 70 rfl)) (notFace_of_selects (args := #[]) (mvT hZ (own_w hw 72 rfl))) (mvT hZ (own_w hw 72 rfl)) (mvT hZ (own_w hw 71 rfl)) (by decide) (backOf (W := 0) (rmSgA l Z a0 hw [] b2 va_7 kva_7 ((16 : Int32)) Cz3 Bz3 Rz3 b47 t47 kb47 ((27 : Int32)) own_k2 zc h47 n0 f51 f52 f53 f54 f55 f56 xE47 xV47 xC47 xA47 hb3 hcp3 rfl (by omega) (by omega) G2 q7_6 pS_COMPACT_STRINGS pP5 f57) hZ (own_w hw 73 rfl) (own_w hw 53 rfl) (by decide) (by decide)) qa58 qc58 (g := (mkF m 35 #[.val (.ref x1), .val (.ref x2), .val (.int lg)] [(.ref b47), (.ref b2)])) rfl (by rw [hml]; rfl) (Steps.refl _) (argsL := [(.ref b47)]) (rest := []) (lenOf pd__Ljava_lang_String__Ljava_lang_StringBuilder_ rfl) rfl (by show 2 * 0 + _ ≤ _; exact Nat.le_of_eq rfl) (hb hby d8_35) (fun _ _ => ⟨rfl, e47, (by decide : 6 + 1 ≤ _), (by decide : 152 + 70 ≤ _)⟩)
  dsimp only [Pt.U, Pt.locs, Pt.cells, Pt.slots] at X58 l58 y58 z58 st58 hQ58
  try dsimp only [Nat.reduceAdd] at y58 z58
  rw [l58, y58, z58] at X58
  obtain ⟨vb_58, kvb_58, cap2_58, r2_58, rfl, Nq58, Kq58, q58_0, q58_1, q58_2, q58_3, q58_4, q58_5, q58_6, q58_7⟩ := hQ58
  have N58 := Fr.app N43 Nq58
  have Sa59 : ∀ y ∈ [b2], Safe Z own_EL T47.vm h47 y := (sfS (Safe.exa hZ.alike f52 (by decide) (by decide)) sf0)
  have CH59 := CH49.keep Kq58 Sa59
  have CR59 := CHr.trans CR49 (CHr.keep Kq58 Sa59 CH49)
  have K60 : Keep h0 T58.heap [] := K50.trans Kq58 (allS (Or.inr B2) all0)
  have Bf61 : h0.size ≤ vb_58 := Nat.le_trans K50.1 q58_5
  refine own_tr st58 ?_
  show own_Go p e below T58 (mkF m 38 #[.val (.ref x1), .val (.ref x2), .val (.int lg)] [(.ref b2)]) _
  obtain ⟨Rz4, hR4_⟩ : ∃ b : List Value, b = r2_58 := ⟨_, rfl⟩
  obtain ⟨Bz4, hB4_⟩ : ∃ b : List Value, b = Bz3 ++ own_k2 := ⟨_, rfl⟩
  obtain ⟨Cz4, hC4_⟩ : ∃ c : Int32, c = Cz3 + (27 : Int32) := ⟨_, rfl⟩
  rw [← hB4_, ← hR4_] at q58_4
  rw [← hC4_] at q58_3
  have lB4 : Bz4.length = Bz3.length + (own_k2 : List Value).length := by rw [hB4_, List.length_append]
  have hb4 : Cz4.toInt = (Bz4.length : Int) := by rw [hC4_, lB4]; exact own_addI hb3 rfl (by omega)
  have hL4 : 34 ≤ Bz4.length ∧ Bz4.length ≤ 34 := by omega
  have hg4 := q58_7.1
  unfold own_gr at hg4
  have hs4 := q58_7.2
  rw [← hC4_, hb4, hcp3, hv3] at hg4
  rw [← hR4_] at hs4
  have hv4 : Bz4.length + Rz4.length = 34 := by omega
  have hcp4 : cap2_58.toInt = ((Bz4.length + Rz4.length : Nat) : Int) := by omega
  refine own_st (fun t_ k_ => XS.iloadN X58.here hx rfl (hb hby d8_38) rfl k_) ?_
  show own_Go p e below T58 (mkF m 39 #[.val (.ref x1), .val (.ref x2), .val (.int lg)] [(.int lg), (.ref b2)]) _
  have f62 := (Nat.le_trans f51 Kq58.1)
  have f63 := (f57.keep Kq58 (allS G2 all0))
  obtain ⟨cq64, kq64, qa64, qb64, qc64⟩ := isOf hZ rfl q58_0
  obtain ⟨_, _, ⟨T64, L64, k64, n64⟩, -, X64, ⟨Lc64, hQ64, l64, y64, z64⟩, st64⟩ := X58.virtualBack hx (y := (⟨"java/lang/StringBuilder", "append", "(I)Ljava/lang/StringBuilder;"⟩ : MethodName)) (z := (⟨"java/lang/StringBuilder", "append", "(I)Ljava/lang/StringBuilder;"⟩ : MethodName)) hown (mvT hZ (own_w hw 108 rfl)) (mvT hZ (own_w hw 109 rfl)) (notFace_of_selects (args := #[]) (mvT hZ (own_w hw 111 rfl))) (mvT hZ (own_w hw 111 rfl)) (mvT hZ (own_w hw 110 rfl)) (by decide) (backOf (W := 0) (rmSiG l Z a0 hw [] b2 vb_58 kvb_58 cap2_58 Cz4 Bz4 Rz4 lg zc _ _ _ _ _ T58.heap n0 f62 q58_0 q58_1 q58_2 q58_3 q58_4 hb4 hcp4 (by omega) (by omega) pT1 pT2 pO1 G2 q58_6 pS_COMPACT_STRINGS pP5 f63) hZ (own_w hw 112 rfl) (own_w hw 53 rfl) (by decide) (by decide)) qa64 qc64 (g := (mkF m 39 #[.val (.ref x1), .val (.ref x2), .val (.int lg)] [(.int lg), (.ref b2)])) rfl (by rw [hml]; rfl) (Steps.refl _) (argsL := [(.int lg)]) (rest := []) (lenOf pd__I_Ljava_lang_StringBuilder_ rfl) rfl (by show 2 * 0 + _ ≤ _; exact Nat.le_of_eq rfl) (hb hby d8_39) (fun _ _ => ⟨rfl, rfl, (by decide : 7 + 1 ≤ _), (by decide : 222 + 70 ≤ _)⟩)
  dsimp only [Pt.U, Pt.locs, Pt.cells, Pt.slots] at X64 l64 y64 z64 st64 hQ64
  try dsimp only [Nat.reduceAdd] at y64 z64
  rw [l64, y64, z64] at X64
  obtain ⟨vb_64, kvb_64, cap2_64, r2_64, mm_64, cs_64, rfl, Nq64, Kq64, q64_0, q64_1, q64_2, q64_3, q64_4, q64_5, q64_6, q64_7, q64_8⟩ := hQ64
  have N64 := Fr.app N58 Nq64
  have Sa65 : ∀ y ∈ [b2], Safe Z own_EL T47.vm T58.heap y := (sfS (Safe.exa hZ.alike q58_0 (by decide) (by decide)) sf0)
  have CH65 := CH59.keep Kq64 Sa65
  have CR65 := CHr.trans CR59 (CHr.keep Kq64 Sa65 CH59)
  have K66 : Keep h0 T64.heap [] := K60.trans Kq64 (allS (Or.inr B2) all0)
  have Bf67 : h0.size ≤ vb_64 := Nat.le_trans K60.1 q64_5
  refine own_tr st64 ?_
  show own_Go p e below T64 (mkF m 42 #[.val (.ref x1), .val (.ref x2), .val (.int lg)] [(.ref b2)]) _
  have um5 : (((cs_64 : List Int32).map (fun c : Int32 => c.toInt8.toInt32)).map Value.int : List Value).length = mm_64 := by rw [List.length_map, List.length_map, q64_8.1.1]
  have ul5 : 1 ≤ (((cs_64 : List Int32).map (fun c : Int32 => c.toInt8.toInt32)).map Value.int : List Value).length ∧ (((cs_64 : List Int32).map (fun c : Int32 => c.toInt8.toInt32)).map Value.int : List Value).length ≤ 11 := by rw [um5]; have := q64_8; omega
  have un5 : (Int32.ofNat mm_64).toInt = ((((cs_64 : List Int32).map (fun c : Int32 => c.toInt8.toInt32)).map Value.int : List Value).length : Int) := by rw [um5]; exact own_ofNat (by omega)
  obtain ⟨Rz5, hR5_⟩ : ∃ b : List Value, b = r2_64 := ⟨_, rfl⟩
  obtain ⟨Bz5, hB5_⟩ : ∃ b : List Value, b = Bz4 ++ ((cs_64 : List Int32).map (fun c : Int32 => c.toInt8.toInt32)).map Value.int := ⟨_, rfl⟩
  obtain ⟨Cz5, hC5_⟩ : ∃ c : Int32, c = Cz4 + (Int32.ofNat mm_64) := ⟨_, rfl⟩
  rw [← hB5_, ← hR5_] at q64_4
  rw [← hC5_] at q64_3
  have lB5 : Bz5.length = Bz4.length + (((cs_64 : List Int32).map (fun c : Int32 => c.toInt8.toInt32)).map Value.int : List Value).length := by rw [hB5_, List.length_append]
  have hb5 : Cz5.toInt = (Bz5.length : Int) := by rw [hC5_, lB5]; exact own_addI hb4 un5 (by omega)
  have hL5 : 35 ≤ Bz5.length ∧ Bz5.length ≤ 45 := by omega
  have hg5 := q64_7.1
  unfold own_gr at hg5
  have hs5 := q64_7.2
  rw [← hC5_, hb5, hcp4, hv4] at hg5
  rw [← hR5_] at hs5
  have hv5 : Bz5.length + Rz5.length = 70 := by omega
  have hcp5 : cap2_64.toInt = ((Bz5.length + Rz5.length : Nat) : Int) := by omega
  have f69 := (Nat.le_trans (Nat.le_trans hk47 Kq58.1) Kq64.1)
  obtain ⟨b68, T68, h68, k68, t68, kb68, X68, e68, E68, hS, hk68, hZ, hown, xE68, xC68, xV68, xA68, -, -, A68, -, -, st68⟩ := ldcCH X64 hx hZ hown (own_w hw 155 rfl) (own_wS hw) rfl hS f69 hEL (List.mem_of_getElem? (i := 2) rfl) CH65 (vs := own_k3) (z := (22 : Int32)) (by decide +kernel) (by decide) (by decide) (g := (mkF m 42 #[.val (.ref x1), .val (.ref x2), .val (.int lg)] [(.ref b2)])) rfl (hb hby d8_42) (n := 88) (by decide) (by decide) (by decide) (by decide)
  have CH70 := A68.1
  have CR70 := CHr.trans CR65 (A68)
  have K71 : Keep h0 h68 [] := K66.ext E68
  refine own_st st68 ?_
  show own_Go p e below T68 (mkF m 44 #[.val (.ref x1), .val (.ref x2), .val (.int lg)] [(.ref b68), (.ref b2)]) _
  have ul6 : 22 ≤ (own_k3 : List Value).length ∧ (own_k3 : List Value).length ≤ 22 := by decide
  have f72 := (Nat.le_trans (Nat.le_trans f62 Kq64.1) E68.1)
  have f73 := (q64_0.ext E68)
  have f74 := (q64_1.ext E68)
  have f75 := (q64_2.ext E68)
  have f76 := (q64_3.ext E68)
  have f77 := (q64_4.ext E68)
  have f78 := ((f63.keep Kq64 (allS G2 all0)).ext E68)
  obtain ⟨cq79, kq79, qa79, qb79, qc79⟩ := isOf hZ e68 f73
  obtain ⟨_, _, ⟨T79, L79, k79, n79⟩, -, X79, ⟨Lc79, hQ79, l79, y79, z79⟩, st79⟩ := X68.virtualBack hx (y := (⟨"java/lang/StringBuilder", "append", "(Ljava/lang/String;)Ljava/lang/StringBuilder;"⟩ : MethodName)) (z := (⟨"java/lang/StringBuilder", "append", "(Ljava/lang/String;)Ljava/lang/StringBuilder;"⟩ : MethodName)) hown (mvT hZ (own_w hw 69 rfl)) (mvT hZ (own_w hw 70 rfl)) (notFace_of_selects (args := #[]) (mvT hZ (own_w hw 72 rfl))) (mvT hZ (own_w hw 72 rfl)) (mvT hZ (own_w hw 71 rfl)) (by decide) (backOf (W := 0) (rmSbA l Z a0 hw [] b2 vb_64 kvb_64 cap2_64 Cz5 Bz5 Rz5 b68 t68 kb68 ((22 : Int32)) own_k3 zc h68 n0 f72 f73 f74 f75 f76 f77 xE68 xV68 xC68 xA68 hb5 hcp5 rfl (by omega) (by omega) G2 q64_6 pS_COMPACT_STRINGS pP5 f78) hZ (own_w hw 73 rfl) (own_w hw 53 rfl) (by decide) (by decide)) qa79 qc79 (g := (mkF m 44 #[.val (.ref x1), .val (.ref x2), .val (.int lg)] [(.ref b68), (.ref b2)])) rfl (by rw [hml]; rfl) (Steps.refl _) (argsL := [(.ref b68)]) (rest := []) (lenOf pd__Ljava_lang_String__Ljava_lang_StringBuilder_ rfl) rfl (by show 2 * 0 + _ ≤ _; exact Nat.le_of_eq rfl) (hb hby d8_44) (fun _ _ => ⟨rfl, e68, (by decide : 10 + 0 ≤ _), (by decide : 384 + 0 ≤ _)⟩)
  dsimp only [Pt.U, Pt.locs, Pt.cells, Pt.slots] at X79 l79 y79 z79 st79 hQ79
  try dsimp only [Nat.reduceAdd] at y79 z79
  rw [l79, y79, z79] at X79
  obtain ⟨rfl, Nq79, Kq79, q79_0, q79_1, q79_2, q79_3, q79_4⟩ := hQ79
  have N79 := Fr.app N64 Nq79
  have f81 := (CHr.safe A68 q64_4.lt (Safe.keep Kq64 Sa65 CH59 (Safe.new (x := vb_64) q64_5)))
  have Sa80 : ∀ y ∈ [b2, vb_64], Safe Z own_EL T68.vm h68 y := (sfS (Safe.exa hZ.alike f73 (by decide) (by decide)) (sfS f81 sf0))
  have CH80 := CH70.keep Kq79 Sa80
  have CR80 := CHr.trans CR70 (CHr.keep Kq79 Sa80 CH70)
  have K82 : Keep h0 T79.heap [] := K71.trans Kq79 (allS (Or.inr B2) (allS (Or.inr Bf67) all0))
  refine own_tr st79 ?_
  show own_Go p e below T79 (mkF m 47 #[.val (.ref x1), .val (.ref x2), .val (.int lg)] [(.ref b2)]) _
  obtain ⟨Rz6, hR6_⟩ : ∃ b : List Value, b = List.drop (own_k3 : List Value).length Rz5 := ⟨_, rfl⟩
  obtain ⟨Bz6, hB6_⟩ : ∃ b : List Value, b = Bz5 ++ own_k3 := ⟨_, rfl⟩
  obtain ⟨Cz6, hC6_⟩ : ∃ c : Int32, c = Cz5 + (22 : Int32) := ⟨_, rfl⟩
  rw [← hB6_, ← hR6_] at q79_4
  rw [← hC6_] at q79_3
  have lB6 : Bz6.length = Bz5.length + (own_k3 : List Value).length := by rw [hB6_, List.length_append]
  have hb6 : Cz6.toInt = (Bz6.length : Int) := by rw [hC6_, lB6]; exact own_addI hb5 rfl (by omega)
  have hL6 : 57 ≤ Bz6.length ∧ Bz6.length ≤ 67 := by omega
  have hv6 : Bz6.length + Rz6.length = 70 := by rw [hR6_, List.length_drop]; omega
  have hcp6 : cap2_64.toInt = ((Bz6.length + Rz6.length : Nat) : Int) := by rw [hcp5, hv5, hv6]
  have f83 := (Nat.le_trans f72 Kq79.1)
  have f84 := (f78.keep Kq79 (allS G2 (allS q64_6 all0)))
  obtain ⟨cq85, kq85, qa85, qb85, qc85⟩ := isOf hZ rfl q79_0
  obtain ⟨_, _, ⟨T85, L85, k85, n85⟩, -, X85, ⟨Lc85, hQ85, l85, y85, z85⟩, st85⟩ := X79.virtualBack hx (y := (⟨"java/lang/StringBuilder", "toString", "()Ljava/lang/String;"⟩ : MethodName)) (z := (⟨"java/lang/StringBuilder", "toString", "()Ljava/lang/String;"⟩ : MethodName)) hown (mvT hZ (own_w hw 156 rfl)) (mvT hZ (own_w hw 157 rfl)) (notFace_of_selects (args := #[]) (mvT hZ (own_w hw 159 rfl))) (mvT hZ (own_w hw 159 rfl)) (mvT hZ (own_w hw 158 rfl)) (by decide) (backOf (W := 0) (rmTs l Z a0 hw [] b2 vb_64 kvb_64 cap2_64 Cz6 Bz6 Rz6 zc T79.heap n0 f83 q79_0 q79_1 q79_2 q79_3 q79_4 hb6 hcp6 (by omega) (by omega) pS_COMPACT_STRINGS pP5 f84) hZ (own_w hw 160 rfl) (own_w hw 53 rfl) (by decide) (by decide)) qa85 qc85 (g := (mkF m 47 #[.val (.ref x1), .val (.ref x2), .val (.int lg)] [(.ref b2)])) rfl (by rw [hml]; rfl) (Steps.refl _) (argsL := []) (rest := []) (lenOf pd___Ljava_lang_String_ rfl) rfl (by show 2 * 0 + _ ≤ _; exact Nat.le_of_eq rfl) (hb hby d8_47) (fun _ _ => ⟨rfl, rfl, (by decide : 10 + 2 ≤ _), (by decide : 384 + 71 ≤ _)⟩)
  dsimp only [Pt.U, Pt.locs, Pt.cells, Pt.slots] at X85 l85 y85 z85 st85 hQ85
  try dsimp only [Nat.reduceAdd] at y85 z85
  rw [l85, y85, z85] at X85
  obtain ⟨y_85, b_85, kb_85, rfl, Nq85, Kq85, q85_0, q85_1, q85_2, q85_3, q85_4, q85_5⟩ := hQ85
  have N85 := Fr.app N79 Nq85
  have CH86 := CH80.keep Kq85 sf0
  have CR86 := CHr.trans CR80 (CHr.keep Kq85 sf0 CH80)
  have K87 : Keep h0 T85.heap [] := K82.trans Kq85 all0
  have Bf88 : h0.size ≤ b_85 := Nat.le_trans K82.1 q85_4
  refine own_tr st85 ?_
  show own_Go p e below T85 (mkF m 50 #[.val (.ref x1), .val (.ref x2), .val (.int lg)] [(.ref y_85)]) _
  have hc1 : cs_43 = [(Int32.ofNat (48 + s2.length))] := by have q := (q43_5.1.2.2.1 (by omega) (by omega)).2; rw [hn2, Int.toNat_natCast] at q; exact q
  have eL : Bz6 = (((own_all s1 (Int32.ofNat (48 + s2.length)) cs_64) : List Int32).map (fun c : Int32 => c.toInt8.toInt32)).map Value.int := by rw [hB6_, hB5_, hB4_, hB3_, hB2_, hB1_, hB0_, hc1]; unfold own_all own_pre own_T2 own_k1 own_k2 own_k3; simp only [List.map_append, List.nil_append, List.append_assoc]
  have eZ : Cz6 = (Int32.ofNat ((own_all s1 (Int32.ofNat (48 + s2.length)) cs_64) : List Int32).length) := own_eqOf (by rw [hb6, eL, List.length_map, List.length_map]) (by rw [own_lenA, q64_8.1.1]; omega)
  have Vy := q85_3
  rw [eL, eZ] at Vy
  have f89 := (Nat.le_trans (Nat.le_trans hk68 Kq79.1) Kq85.1)
  obtain ⟨fs, hr, hrun, hended, hRW⟩ := X85.leaveW hS f89 (v := some (.ref y_85)) (fun h => by rw [Bd.returns] at h; cases h)
  have hCend : CHr Z own_EL s.vm s.heap T85.vm T85.heap := by
    rw [hh]
    exact CHr.trans CR86 (CHv.at X85 hZ hEL CH86)
  refine own_fin (own_retR X85 hx rfl Bd.returns rfl (hb hby d8_50) hr) ⟨hrun, hended, _, _, rfl, ?_, hCend, hRW.1, hRW.2.1, hRW.2.2.1, hRW.2.2.2.mono (by decide) (by decide)⟩
  show Q_rmBy Z x1 t1_ k1_ s1 x2 t2_ k2_ nz2 s2 lg zc dst dg1 DD1 dg2 DD2 h0 n0 _ T85.heap _
  exact ⟨y_85, b_85, kb_85, mm_64, cs_64, rfl, N85, K87, q85_0, q85_1, q85_2, Vy, q64_8⟩
theorem pn_0 : plainName "com/example/envelope/envelope/io/KeptLengthBeyondPinLaw" = true := by first | (simp [plainName, overriddenIn]; done) | decide +kernel
theorem pd__IC_Ljava_lang_String_ : parseMethodDescriptor "(IC)Ljava/lang/String;" = some ⟨[.int, .char], some (.object "java/lang/String")⟩ := by decide +kernel
theorem pd__Ljava_lang_String_Ljava_lang_String_I_Ljava_lang_String_ : parseMethodDescriptor "(Ljava/lang/String;Ljava/lang/String;I)Ljava/lang/String;" = some ⟨[(.object "java/lang/String"), (.object "java/lang/String"), .int], some (.object "java/lang/String")⟩ := by decide +kernel
theorem pd__I_C : parseMethodDescriptor "(I)C" = some ⟨[.int], some .char⟩ := by decide +kernel
theorem pd__Ljava_lang_Object__Z : parseMethodDescriptor "(Ljava/lang/Object;)Z" = some ⟨[(.object "java/lang/Object")], some .boolean⟩ := by decide +kernel
theorem ef_rmLaw (m : MethodId) (x0 : Int32) (x1 : Int32) (x2 : Int32) : entryFrame m #[(.int x0), (.int x1), (.int x2)] maxLocals = mkF m 0 #[.val (.int x0), .val (.int x1), .val (.int x2), .unset, .unset, .unset, .unset, .unset, .unset, .unset, .unset, .unset, .unset, .unset] [] := by first | (simp [entryFrame, mkF, argsToLocals, Value.category, maxLocals]; done) | rfl
def Q_rmLaw (Z : State) (p0 : Int32) (p1 : Int32) (p2 : Int32) (zc : Int32) (fm : Value) (dst : Addr) (dg1 : Addr) (DD1 : Cell) (dg2 : Addr) (DD2 : Cell) (h0 : Heap) (n0 : Nat) (v : Option Value) (h : Heap) (L : List Loc) : Prop := v = some (.int (1 : Int32)) ∧ Fr n0 L ∧ Keep h0 h []
set_option maxRecDepth 65536 in
set_option maxHeartbeats 40000000 in
theorem rmLaw (l : Launch) (Z : State) (a0 : Array Value) (hw : ∀ d ∈ tables_1, d.before a0 Z = true) (ws : List Jvm.Cond) (p0 : Int32) (p1 : Int32) (p2 : Int32) (zc : Int32) (fm : Value) (dst : Addr) (dg1 : Addr) (DD1 : Cell) (dg2 : Addr) (DD2 : Cell) (h0 : Heap) (n0 : Nat) (Z0 : n0 ≤ h0.size) (pS_COMPACT_STRINGS : Sta Z Z.heap "java/lang/String" "COMPACT_STRINGS" "Z" (.int zc)) (pP5 : (¬ (zc = (0 : Int32)))) (pS_SIOOBE_FORMATTER : Sta Z Z.heap "jdk/internal/util/Preconditions" "SIOOBE_FORMATTER" "Ljava/util/function/BiFunction;" fm) (rfm : (fm.isRef = true)) (pT1 : (Jvm.Free.SBG.Tbl Z "DigitOnes" dst dg1 DD1)) (pT2 : (Jvm.Free.SBG.Tbl Z "DigitTens" dst dg2 DD2)) (pO1 : (Jvm.Free.SBG.Ones DD1)) (pO : Old Z n0 h0) :
    MetFree l x (head1 (Jvm.Cond.code x code maxLocals ret :: ws) room_1) (fun a U => a = #[(.int p0), (.int p1), (.int p2)] ∧ Z.Warmed39 U.vm ∧ U.heap = h0 ∧ CHv Z own_EL U.vm h0) (fun _ _ _ _ _ => True) (fun _ U o U' => ∃ v L, o = .returned v ∧ Q_rmLaw Z p0 p1 p2 zc fm dst dg1 DD1 dg2 DD2 h0 n0 v U'.heap L ∧ CHr Z own_EL U.vm U.heap U'.vm U'.heap ∧ ReturnedEndW U o U' L 48 4864) := by
  refine MetFree.of_bodySF (plainFor_of_name pn_0) hisR ?_
  intro p e s m args below meth c s₁ Bd hml0 hP hK
  obtain ⟨rfl, hZ, hh, hCH⟩ := hP
  have hx := Bd.exec
  have hby := Bd.bytes
  have hml : c.maxLocals = 14 := hml0
  have hown : s.vm.findClass "com/example/envelope/envelope/io/KeptLengthBeyondPinLaw" = some m.cls := findClass_of_methodNamed Bd.named
  have hnm := (name_of_methodNamed Bd.named Bd.method).1
  have X0 : Stand p l e room_1 (s.setVm s.vm) m #[(.int p0), (.int p1), (.int p2)] below meth c s₁ [] 0 0 := Stand.of_body Bd
  have e0 : s₁.heap = h0 := by rw [← hh, Bd.state]; rfl
  have N0 := Fr.nil n0
  have hEL := own_EW hw
  have hCR := CHr.refl hCH
  have hS : s.Since s.vm h0.size := (State.WarmedH.refl s).since _
  have hK0 : h0.size ≤ h0.size := Nat.le_refl _
  refine own_enter (ef_rmLaw m p0 p1 p2) ?_
  have hws : ∀ d ∈ StrChars.Road.words, d.before a0 Z = true := fun d hd => hw d ((by decide +kernel : ∀ d ∈ StrChars.Road.words, d ∈ tables_1) d hd)
  have hln : ∀ d ∈ StrChars.Road.wordsLen, d.before a0 Z = true := fun d hd => hw d ((by decide +kernel : ∀ d ∈ StrChars.Road.wordsLen, d ∈ tables_1) d hd)
  have hch : ∀ d ∈ StrChars.Road.wordsChN, d.before a0 Z = true := fun d hd => hw d ((by decide +kernel : ∀ d ∈ StrChars.Road.wordsChN, d ∈ tables_1) d hd)
  have heq : ∀ d ∈ StrChars.Road.wordsEq, d.before a0 Z = true := fun d hd => hw d ((by decide +kernel : ∀ d ∈ StrChars.Road.wordsEq, d ∈ tables_1) d hd)
  obtain ⟨nN, hn, hn7⟩ := own_nat (b := 7) (c_and p0 7 (by decide)).1 (c_and p0 7 (by decide)).2
  refine own_st (fun t_ k_ => XS.iloadN X0.here hx rfl (hb hby at_0) rfl (XS.bipush X0.here hx rfl (hb hby at_1) (XS.iand X0.here hx rfl (hb hby at_3) rfl k_))) ?_
  show own_Go p e below s₁ (mkF m 4 #[.val (.int p0), .val (.int p1), .val (.int p2), .unset, .unset, .unset, .unset, .unset, .unset, .unset, .unset, .unset, .unset, .unset] [(.int (p0 &&& (7 : Int32)))]) _
  generalize (p0 &&& (7 : Int32)) = nI at hn ⊢
  show own_Go p e below s₁ (mkF m 4 #[.val (.int p0), .val (.int p1), .val (.int p2), .unset, .unset, .unset, .unset, .unset, .unset, .unset, .unset, .unset, .unset, .unset] [(.int nI)]) _
  refine own_st (fun t_ k_ => XS.istoreN X0.here hx rfl (hb hby at_4) rfl (l' := #[.val (.int p0), .val (.int p1), .val (.int p2), .val (.int nI), .unset, .unset, .unset, .unset, .unset, .unset, .unset, .unset, .unset, .unset]) rfl (XS.iloadN X0.here hx rfl (hb hby at_5) rfl (XS.iconst X0.here hx rfl (hb hby at_6) (XS.iushr X0.here hx rfl (hb hby at_7) rfl (XS.sipush X0.here hx rfl (hb hby at_8) (XS.iand X0.here hx rfl (hb hby at_11) rfl k_)))))) ?_
  show own_Go p e below s₁ (mkF m 12 #[.val (.int p0), .val (.int p1), .val (.int p2), .val (.int nI), .unset, .unset, .unset, .unset, .unset, .unset, .unset, .unset, .unset, .unset] [(.int (((p0.toUInt32 >>> ((3 : Int32) &&& 31).toUInt32).toInt32) &&& (255 : Int32)))]) _
  have m_tc := own_m255 (((p0.toUInt32 >>> ((3 : Int32) &&& 31).toUInt32).toInt32))
  generalize (((p0.toUInt32 >>> ((3 : Int32) &&& 31).toUInt32).toInt32) &&& (255 : Int32)) = tc at m_tc ⊢
  show own_Go p e below s₁ (mkF m 12 #[.val (.int p0), .val (.int p1), .val (.int p2), .val (.int nI), .unset, .unset, .unset, .unset, .unset, .unset, .unset, .unset, .unset, .unset] [(.int tc)]) _
  refine own_st (fun t_ k_ => XS.i2c X0.here hx rfl (hb hby at_12) rfl k_) ?_
  show own_Go p e below s₁ (mkF m 13 #[.val (.int p0), .val (.int p1), .val (.int p2), .val (.int nI), .unset, .unset, .unset, .unset, .unset, .unset, .unset, .unset, .unset, .unset] [(.int (tc.toUInt32.toUInt16.toUInt32.toInt32))]) _
  rw [own_i255 m_tc.1 m_tc.2]
  show own_Go p e below s₁ (mkF m 13 #[.val (.int p0), .val (.int p1), .val (.int p2), .val (.int nI), .unset, .unset, .unset, .unset, .unset, .unset, .unset, .unset, .unset, .unset] [(.int tc)]) _
  have h_tc := own_in255 tc m_tc.1 m_tc.2
  refine own_st (fun t_ k_ => XS.istore X0.here hx rfl (hb hby at_13) rfl (l' := #[.val (.int p0), .val (.int p1), .val (.int p2), .val (.int nI), .val (.int tc), .unset, .unset, .unset, .unset, .unset, .unset, .unset, .unset, .unset]) rfl (XS.iloadN X0.here hx rfl (hb hby at_15) rfl (XS.sipush X0.here hx rfl (hb hby at_16) (XS.iand X0.here hx rfl (hb hby at_19) rfl k_)))) ?_
  show own_Go p e below s₁ (mkF m 20 #[.val (.int p0), .val (.int p1), .val (.int p2), .val (.int nI), .val (.int tc), .unset, .unset, .unset, .unset, .unset, .unset, .unset, .unset, .unset] [(.int (p2 &&& (255 : Int32)))]) _
  have m_w0 := own_m255 p2
  generalize (p2 &&& (255 : Int32)) = w0 at m_w0 ⊢
  show own_Go p e below s₁ (mkF m 20 #[.val (.int p0), .val (.int p1), .val (.int p2), .val (.int nI), .val (.int tc), .unset, .unset, .unset, .unset, .unset, .unset, .unset, .unset, .unset] [(.int w0)]) _
  refine own_st (fun t_ k_ => XS.i2c X0.here hx rfl (hb hby at_20) rfl k_) ?_
  show own_Go p e below s₁ (mkF m 21 #[.val (.int p0), .val (.int p1), .val (.int p2), .val (.int nI), .val (.int tc), .unset, .unset, .unset, .unset, .unset, .unset, .unset, .unset, .unset] [(.int (w0.toUInt32.toUInt16.toUInt32.toInt32))]) _
  rw [own_i255 m_w0.1 m_w0.2]
  show own_Go p e below s₁ (mkF m 21 #[.val (.int p0), .val (.int p1), .val (.int p2), .val (.int nI), .val (.int tc), .unset, .unset, .unset, .unset, .unset, .unset, .unset, .unset, .unset] [(.int w0)]) _
  have h_w0 := own_in255 w0 m_w0.1 m_w0.2
  refine own_st (fun t_ k_ => XS.istore X0.here hx rfl (hb hby at_21) rfl (l' := #[.val (.int p0), .val (.int p1), .val (.int p2), .val (.int nI), .val (.int tc), .val (.int w0), .unset, .unset, .unset, .unset, .unset, .unset, .unset, .unset]) rfl (XS.iloadN X0.here hx rfl (hb hby at_23) rfl (XS.bipush X0.here hx rfl (hb hby at_24) (XS.iushr X0.here hx rfl (hb hby at_26) rfl (XS.sipush X0.here hx rfl (hb hby at_27) (XS.iand X0.here hx rfl (hb hby at_30) rfl k_)))))) ?_
  show own_Go p e below s₁ (mkF m 31 #[.val (.int p0), .val (.int p1), .val (.int p2), .val (.int nI), .val (.int tc), .val (.int w0), .unset, .unset, .unset, .unset, .unset, .unset, .unset, .unset] [(.int (((p2.toUInt32 >>> ((8 : Int32) &&& 31).toUInt32).toInt32) &&& (255 : Int32)))]) _
  have m_w1 := own_m255 (((p2.toUInt32 >>> ((8 : Int32) &&& 31).toUInt32).toInt32))
  generalize (((p2.toUInt32 >>> ((8 : Int32) &&& 31).toUInt32).toInt32) &&& (255 : Int32)) = w1 at m_w1 ⊢
  show own_Go p e below s₁ (mkF m 31 #[.val (.int p0), .val (.int p1), .val (.int p2), .val (.int nI), .val (.int tc), .val (.int w0), .unset, .unset, .unset, .unset, .unset, .unset, .unset, .unset] [(.int w1)]) _
  refine own_st (fun t_ k_ => XS.i2c X0.here hx rfl (hb hby at_31) rfl k_) ?_
  show own_Go p e below s₁ (mkF m 32 #[.val (.int p0), .val (.int p1), .val (.int p2), .val (.int nI), .val (.int tc), .val (.int w0), .unset, .unset, .unset, .unset, .unset, .unset, .unset, .unset] [(.int (w1.toUInt32.toUInt16.toUInt32.toInt32))]) _
  rw [own_i255 m_w1.1 m_w1.2]
  show own_Go p e below s₁ (mkF m 32 #[.val (.int p0), .val (.int p1), .val (.int p2), .val (.int nI), .val (.int tc), .val (.int w0), .unset, .unset, .unset, .unset, .unset, .unset, .unset, .unset] [(.int w1)]) _
  have h_w1 := own_in255 w1 m_w1.1 m_w1.2
  have hpw : own_P [w0, w1] := own_app (own_one h_w0) (own_one h_w1)
  refine own_st (fun t_ k_ => XS.istore X0.here hx rfl (hb hby at_32) rfl (l' := #[.val (.int p0), .val (.int p1), .val (.int p2), .val (.int nI), .val (.int tc), .val (.int w0), .val (.int w1), .unset, .unset, .unset, .unset, .unset, .unset, .unset]) rfl k_) ?_
  show own_Go p e below s₁ (mkF m 34 #[.val (.int p0), .val (.int p1), .val (.int p2), .val (.int nI), .val (.int tc), .val (.int w0), .val (.int w1), .unset, .unset, .unset, .unset, .unset, .unset, .unset] []) _
  obtain ⟨T1, h1, X1, e1, E1, A1, D1, -, st1⟩ := newO X0 hx hZ hown (own_w hw 0 rfl) (own_w hw 1 rfl) (own_w hw 2 rfl) e0 (g := (mkF m 34 #[.val (.int p0), .val (.int p1), .val (.int p2), .val (.int nI), .val (.int tc), .val (.int w0), .val (.int w1), .unset, .unset, .unset, .unset, .unset, .unset, .unset] [])) rfl (hb hby at_34) (by decide) (by decide)
  obtain ⟨b1, g1⟩ : ∃ z, z = h0.size := ⟨_, rfl⟩
  rw [← g1] at A1 D1 st1
  have G1 : n0 ≤ b1 := Nat.le_trans Z0 (Nat.le_of_eq g1.symm)
  have B1 : h0.size ≤ b1 := Nat.le_trans (Keep.refl h0 []).1 (Nat.le_of_eq g1.symm)
  have CH2 := hCH.ext E1
  have CR2 := CHr.trans hCR (CHr.ext E1 hCH)
  have K3 : Keep h0 h1 [] := (Keep.refl h0 []).ext E1
  have SF1 : Safe Z own_EL s.vm h1 b1 := Safe.ext E1 hCH (Safe.new (x := b1) (Nat.le_of_eq g1.symm))
  have D1_coder : Fld Z h1 b1 "java/lang/String" "coder" "B" (.int (0 : Int32)) := D1 (Or.inr (own_w hw 27 rfl)) (ty := .byte) (by decide)
  have D1_value : Fld Z h1 b1 "java/lang/String" "value" "[B" .null := D1 (Or.inr (own_w hw 29 rfl)) (ty := (.array .byte)) (by decide)
  refine own_st st1 ?_
  show own_Go p e below T1 (mkF m 37 #[.val (.int p0), .val (.int p1), .val (.int p2), .val (.int nI), .val (.int tc), .val (.int w0), .val (.int w1), .unset, .unset, .unset, .unset, .unset, .unset, .unset] [(.ref b1)]) _
  refine own_st (fun t_ k_ => XS.dup X1.here hx rfl (hb hby at_37) rfl rfl (XS.iconst X1.here hx rfl (hb hby at_38) k_)) ?_
  show own_Go p e below T1 (mkF m 39 #[.val (.int p0), .val (.int p1), .val (.int p2), .val (.int nI), .val (.int tc), .val (.int w0), .val (.int w1), .unset, .unset, .unset, .unset, .unset, .unset, .unset] [(.int (2 : Int32)), (.ref b1), (.ref b1)]) _
  have f4 := (Nat.le_trans Z0 E1.1)
  obtain ⟨T5, h5, k5, X5, e5, E5, A5, st5⟩ := newP X1 hx hZ (own_w hw 3 rfl) e1 (g := (mkF m 39 #[.val (.int p0), .val (.int p1), .val (.int p2), .val (.int nI), .val (.int tc), .val (.int w0), .val (.int w1), .unset, .unset, .unset, .unset, .unset, .unset, .unset] [(.int (2 : Int32)), (.ref b1), (.ref b1)])) rfl (hb hby at_39) rfl (by decide) (cap := 2) (by decide) (by decide) (by decide) (by decide)
  obtain ⟨b5, g5⟩ : ∃ z, z = h1.size := ⟨_, rfl⟩
  rw [← g5] at A5 st5
  have G5 : n0 ≤ b5 := Nat.le_trans f4 (Nat.le_of_eq g5.symm)
  have B5 : h0.size ≤ b5 := Nat.le_trans K3.1 (Nat.le_of_eq g5.symm)
  have CH6 := CH2.ext E5
  have CR6 := CHr.trans CR2 (CHr.ext E5 CH2)
  have K7 : Keep h0 h5 [] := K3.ext E5
  have V5 : Arv Z h5 b5 k5 .char (2 : Int32) [(.int (0 : Int32)), (.int (0 : Int32))] (.int (0 : Int32)) := (Arv.new A5 (by decide)).pad (pad_rep [] (.int (0 : Int32)) 2)
  refine own_st st5 ?_
  show own_Go p e below T5 (mkF m 41 #[.val (.int p0), .val (.int p1), .val (.int p2), .val (.int nI), .val (.int tc), .val (.int w0), .val (.int w1), .unset, .unset, .unset, .unset, .unset, .unset, .unset] [(.ref b5), (.ref b1), (.ref b1)]) _
  refine own_st (fun t_ k_ => XS.dup X5.here hx rfl (hb hby at_41) rfl rfl (XS.iconst X5.here hx rfl (hb hby at_42) (XS.iload X5.here hx rfl (hb hby at_43) rfl k_))) ?_
  show own_Go p e below T5 (mkF m 45 #[.val (.int p0), .val (.int p1), .val (.int p2), .val (.int nI), .val (.int tc), .val (.int w0), .val (.int w1), .unset, .unset, .unset, .unset, .unset, .unset, .unset] [(.int w0), (.int (0 : Int32)), (.ref b5), (.ref b5), (.ref b1), (.ref b1)]) _
  obtain ⟨cl8, Ar8, q8, Sz8, Nn8, Hh8, Gg8⟩ := id V5
  have hin8 : ¬ ((0 : Int32) < 0 ∨ cl8.slots.size ≤ ((0 : Int32)).toNatClampNeg) := inb_of Sz8 ⟨by decide, by decide⟩
  obtain ⟨T9, h9, X9, e9, W9, st9⟩ := stC X5 hx hZ e5 Ar8 (j := (0 : Int32)) hin8 (g := (mkF m 45 #[.val (.int p0), .val (.int p1), .val (.int p2), .val (.int nI), .val (.int tc), .val (.int w0), .val (.int w1), .unset, .unset, .unset, .unset, .unset, .unset, .unset] [(.int w0), (.int (0 : Int32)), (.ref b5), (.ref b5), (.ref b1), (.ref b1)])) rfl rfl (hb hby at_45)
  have V9 : Arv Z h9 b5 k5 .char (2 : Int32) [(.int (nar .char w0)), (.int (0 : Int32))] (.int (0 : Int32)) := Arv.set Ar8 q8 Sz8 Nn8 Hh8 Gg8 (fits_nar_char _) W9 0 rfl (Nat.le_of_ble_eq_true rfl)
  rw [own_nar h_w0] at V9
  have Sa10 : Safe Z own_EL s.vm h5 b5 := (Safe.arv hZ.alike V5 (by decide))
  have CH10 := CH6.wr W9 Sa10
  have CR10 := CHr.trans CR6 (CHr.wr W9 Sa10 CH6)
  have K11 : Keep h0 h9 [] := K7.wr W9 (Or.inr B5)
  have N9 := Fr.snoc X9 N0 G5
  refine own_st st9 ?_
  show own_Go p e below T9 (mkF m 46 #[.val (.int p0), .val (.int p1), .val (.int p2), .val (.int nI), .val (.int tc), .val (.int w0), .val (.int w1), .unset, .unset, .unset, .unset, .unset, .unset, .unset] [(.ref b5), (.ref b1), (.ref b1)]) _
  refine own_st (fun t_ k_ => XS.dup X9.here hx rfl (hb hby at_46) rfl rfl (XS.iconst X9.here hx rfl (hb hby at_47) (XS.iload X9.here hx rfl (hb hby at_48) rfl k_))) ?_
  show own_Go p e below T9 (mkF m 50 #[.val (.int p0), .val (.int p1), .val (.int p2), .val (.int nI), .val (.int tc), .val (.int w0), .val (.int w1), .unset, .unset, .unset, .unset, .unset, .unset, .unset] [(.int w1), (.int (1 : Int32)), (.ref b5), (.ref b5), (.ref b1), (.ref b1)]) _
  obtain ⟨cl12, Ar12, q12, Sz12, Nn12, Hh12, Gg12⟩ := id V9
  have hin12 : ¬ ((1 : Int32) < 0 ∨ cl12.slots.size ≤ ((1 : Int32)).toNatClampNeg) := inb_of Sz12 ⟨by decide, by decide⟩
  obtain ⟨T13, h13, X13, e13, W13, st13⟩ := stC X9 hx hZ e9 Ar12 (j := (1 : Int32)) hin12 (g := (mkF m 50 #[.val (.int p0), .val (.int p1), .val (.int p2), .val (.int nI), .val (.int tc), .val (.int w0), .val (.int w1), .unset, .unset, .unset, .unset, .unset, .unset, .unset] [(.int w1), (.int (1 : Int32)), (.ref b5), (.ref b5), (.ref b1), (.ref b1)])) rfl rfl (hb hby at_50)
  have V13 : Arv Z h13 b5 k5 .char (2 : Int32) [(.int w0), (.int (nar .char w1))] (.int (0 : Int32)) := Arv.set Ar12 q12 Sz12 Nn12 Hh12 Gg12 (fits_nar_char _) W13 1 rfl (Nat.le_of_ble_eq_true rfl)
  rw [own_nar h_w1] at V13
  have Sa14 : Safe Z own_EL s.vm h9 b5 := (Safe.arv hZ.alike V9 (by decide))
  have CH14 := CH10.wr W13 Sa14
  have CR14 := CHr.trans CR10 (CHr.wr W13 Sa14 CH10)
  have K15 : Keep h0 h13 [] := K11.wr W13 (Or.inr B5)
  have N13 := Fr.snoc X13 N9 G5
  refine own_st st13 ?_
  show own_Go p e below T13 (mkF m 51 #[.val (.int p0), .val (.int p1), .val (.int p2), .val (.int nI), .val (.int tc), .val (.int w0), .val (.int w1), .unset, .unset, .unset, .unset, .unset, .unset, .unset] [(.ref b5), (.ref b1), (.ref b1)]) _
  have f16 := (Nat.le_trans (Nat.le_trans (Nat.le_trans f4 E5.1) (Keep.of_wr W9).1) (Keep.of_wr W13).1)
  have f17 := (((A1.ext E5).wr W9).wr W13)
  have f18 := (((D1_value.ext E5).other W9 (Or.inl (Nat.ne_of_lt (Nat.lt_of_lt_of_le A1.lt (Nat.le_of_eq g5.symm))))).other W13 (Or.inl (Nat.ne_of_lt (Nat.lt_of_lt_of_le A1.lt (Nat.le_of_eq g5.symm)))))
  have f19 := (((D1_coder.ext E5).other W9 (Or.inl (Nat.ne_of_lt (Nat.lt_of_lt_of_le A1.lt (Nat.le_of_eq g5.symm))))).other W13 (Or.inl (Nat.ne_of_lt (Nat.lt_of_lt_of_le A1.lt (Nat.le_of_eq g5.symm)))))
  have f20 := ((((pO.ext E1).ext E5).wr W9 G5).wr W13 G5)
  obtain ⟨_, _, ⟨T21, L21, k21, n21⟩, -, X21, ⟨Lc21, hQ21, l21, y21, z21⟩, st21⟩ := X13.specialBack hx (y := (⟨"java/lang/String", "<init>", "([C)V"⟩ : MethodName)) rfl hown (mvT hZ (own_w hw 4 rfl)) (mvT hZ (own_w hw 5 rfl)) (mvT hZ (own_w hw 6 rfl)) (by decide) (StrChars.Road.backV (W := 1) hZ hws (kI := 4) (own_w hw 1 rfl) (cs := ([w0, w1] : List Int32)) (bs := (([w0, w1] : List Int32)).map (fun c => c.toInt8.toInt32)) (n := 2) G1 f16 f17 f18 f19 V13 (pS_COMPACT_STRINGS.ext f20.2) pP5 rfl rfl (by decide) (by decide) hpw rfl (by decide) (by decide)) (g := (mkF m 51 #[.val (.int p0), .val (.int p1), .val (.int p2), .val (.int nI), .val (.int tc), .val (.int w0), .val (.int w1), .unset, .unset, .unset, .unset, .unset, .unset, .unset] [(.ref b5), (.ref b1), (.ref b1)])) rfl (by rw [hml]; rfl) (Steps.refl _) (a := b1) (argsL := [(.ref b5)]) (rest := [(.ref b1)]) (lenOf pd___C_V rfl) rfl (by show 2 * 0 + _ ≤ _; exact Nat.le_of_eq rfl) (hb hby at_51) (fun _ _ => ⟨rfl, e13, (by decide : 2 + 1 ≤ _), (by decide : 6 + 2 ≤ _)⟩)
  dsimp only [Pt.U, Pt.locs, Pt.cells, Pt.slots] at X21 l21 y21 z21 st21 hQ21
  try dsimp only [Nat.reduceAdd] at y21 z21
  rw [l21, y21, z21] at X21
  obtain ⟨rfl, Nq21, Kq21, q21_E, q21_c, t21, kb21, q21_g, q21_b, q21_n, q21_v, q21_V⟩ := hQ21
  have N21 := Fr.app N13 Nq21
  have f23 := (Safe.wr W13 Sa14 CH10 (Safe.wr W9 Sa10 CH6 (Safe.ext E5 CH2 SF1)))
  have Sa22 : ∀ y ∈ [b1], Safe Z own_EL s.vm h13 y := (sfS f23 sf0)
  have CH22 := CH14.keep Kq21 Sa22
  have CR22 := CHr.trans CR14 (CHr.keep Kq21 Sa22 CH14)
  have K24 : Keep h0 T21.heap [] := K15.trans Kq21 (allS (Or.inr B1) all0)
  have Bf25 : h0.size ≤ t21 := Nat.le_trans K15.1 q21_b
  refine own_tr st21 ?_
  show own_Go p e below T21 (mkF m 54 #[.val (.int p0), .val (.int p1), .val (.int p2), .val (.int nI), .val (.int tc), .val (.int w0), .val (.int w1), .unset, .unset, .unset, .unset, .unset, .unset, .unset] [(.ref b1)]) _
  refine own_st (fun t_ k_ => XS.astore X21.here hx rfl (hb hby at_54) rfl rfl (l' := #[.val (.int p0), .val (.int p1), .val (.int p2), .val (.int nI), .val (.int tc), .val (.int w0), .val (.int w1), .val (.ref b1), .unset, .unset, .unset, .unset, .unset, .unset]) rfl (XS.iloadN X21.here hx rfl (hb hby at_56) rfl (XS.iload X21.here hx rfl (hb hby at_57) rfl k_))) ?_
  show own_Go p e below T21 (mkF m 59 #[.val (.int p0), .val (.int p1), .val (.int p2), .val (.int nI), .val (.int tc), .val (.int w0), .val (.int w1), .val (.ref b1), .unset, .unset, .unset, .unset, .unset, .unset] [(.int tc), (.int nI)]) _
  have f26 := (Nat.le_trans f16 Kq21.1)
  have f27 := (f20.keep Kq21 (allS G1 all0))
  have f29 := (Nat.le_trans (Nat.le_trans (Nat.le_trans (Nat.le_trans (Nat.le_trans hK0 E1.1) E5.1) (Keep.of_wr W9).1) (Keep.of_wr W13).1) Kq21.1)
  obtain ⟨_, _, ⟨T28, L28, k28, n28⟩, -, Xa28, hSa28, hGa28, ⟨Lc28, hQ28, l28, y28, z28, A28⟩, st28⟩ := Jvm.RoadKit.callSS X21 hx (y := (⟨"com/example/envelope/envelope/io/KeptLengthBeyondPinLaw", "makeText", "(IC)Ljava/lang/String;"⟩ : MethodName)) hown (mvT hZ (own_w hw 30 rfl)) (mvT hZ (own_w hw 31 rfl)) (mvT hZ (own_w hw 32 rfl)) (mvT hZ (own_w hw 33 rfl)) (by decide) (backOfSH (W := 0) (rmMt l Z a0 hw [] nI nN tc zc T21.heap n0 f26 hn hn7 h_tc pS_COMPACT_STRINGS pP5 f27) hZ (own_w hw 33 rfl) (own_w hw 32 rfl) (by decide) (by decide) hEL CH22) (g := (mkF m 59 #[.val (.int p0), .val (.int p1), .val (.int p2), .val (.int nI), .val (.int tc), .val (.int w0), .val (.int w1), .val (.ref b1), .unset, .unset, .unset, .unset, .unset, .unset] [(.int tc), (.int nI)])) rfl (by rw [hml]; rfl) (argsL := [(.int nI), (.int tc)]) (rest := []) (lenOf pd__IC_Ljava_lang_String_ rfl) rfl (by show 2 * 0 + _ ≤ _; exact Nat.le_of_eq rfl) (hb hby at_59) (fun _ _ => ⟨rfl, rfl, (by decide : 3 + 6 ≤ _), (by decide : 8 + 18 ≤ _)⟩)
  dsimp only [Pt.U, Pt.locs, Pt.cells, Pt.slots] at Xa28 hSa28 hGa28 l28 y28 z28 A28 st28 hQ28
  try dsimp only [Nat.reduceAdd] at y28 z28
  rw [l28, y28, z28] at Xa28
  obtain ⟨X28, hS, hZ, hown⟩ := rebS hS f29 Xa28 hSa28 hGa28 hZ hown
  obtain ⟨y_28, t_28, kb_28, rfl, Nq28, Kq28, q28_0, q28_1, q28_2, q28_3⟩ := hQ28
  have N28 := Fr.app N21 Nq28
  have CH30 := A28.1
  have CR30 := CHr.trans CR22 (A28)
  have K31 : Keep h0 T28.heap [] := K24.trans Kq28 all0
  have hK28 : T28.heap.size ≤ T28.heap.size := Nat.le_refl _
  refine own_tr st28 ?_
  show own_Go p e below T28 (mkF m 62 #[.val (.int p0), .val (.int p1), .val (.int p2), .val (.int nI), .val (.int tc), .val (.int w0), .val (.int w1), .val (.ref b1), .unset, .unset, .unset, .unset, .unset, .unset] [(.ref y_28)]) _
  refine own_st (fun t_ k_ => XS.astore X28.here hx rfl (hb hby at_62) rfl rfl (l' := #[.val (.int p0), .val (.int p1), .val (.int p2), .val (.int nI), .val (.int tc), .val (.int w0), .val (.int w1), .val (.ref b1), .val (.ref y_28), .unset, .unset, .unset, .unset, .unset]) rfl (XS.iloadN X28.here hx rfl (hb hby at_64) rfl (XS.istore X28.here hx rfl (hb hby at_65) rfl (l' := #[.val (.int p0), .val (.int p1), .val (.int p2), .val (.int nI), .val (.int tc), .val (.int w0), .val (.int w1), .val (.ref b1), .val (.ref y_28), .val (.int p1), .unset, .unset, .unset, .unset]) rfl (XS.aload X28.here hx rfl (hb hby at_67) rfl rfl (XS.aload X28.here hx rfl (hb hby at_69) rfl rfl (XS.iload X28.here hx rfl (hb hby at_71) rfl k_)))))) ?_
  show own_Go p e below T28 (mkF m 73 #[.val (.int p0), .val (.int p1), .val (.int p2), .val (.int nI), .val (.int tc), .val (.int w0), .val (.int w1), .val (.ref b1), .val (.ref y_28), .val (.int p1), .unset, .unset, .unset, .unset] [(.int p1), (.ref y_28), (.ref b1)]) _
  have hlR : (List.replicate nN tc).length = nN := List.length_replicate ..
  have hd7 := own_d255 (d := nN) (by omega)
  by_cases cL : p1 < nI
  · skip
    have f32 := (Nat.le_trans f26 Kq28.1)
    have f33 := (q21_E.keep Kq28)
    have f34 := (q21_v.keep Kq28 nin0)
    have f35 := (q21_c.keep Kq28 nin0)
    have f36 := (q21_V.keep Kq28 nin0)
    have f37 := (f27.keep Kq28 all0)
    obtain ⟨_, _, ⟨T38, L38, k38, n38⟩, -, Xa38, hSa38, hGa38, ⟨Lc38, hQ38, l38, y38, z38, A38⟩, st38⟩ := Jvm.RoadKit.callSS X28 hx (y := (⟨"com/example/envelope/envelope/io/KeptLength", "beyond", "(Ljava/lang/String;Ljava/lang/String;I)Ljava/lang/String;"⟩ : MethodName)) hown (mvT hZ (own_w hw 37 rfl)) (mvT hZ (own_w hw 38 rfl)) (mvT hZ (own_w hw 39 rfl)) (mvT hZ (own_w hw 40 rfl)) (by decide) (backOfSH (W := 0) (rmBy l Z a0 hw [] b1 t21 kb21 ([w0, w1]) y_28 t_28 kb_28 nI ((List.replicate nN tc)) p1 zc _ _ _ _ _ T28.heap n0 f32 f33 f34 f35 f36 q28_0 q28_1 q28_2 q28_3 cL rfl (by rw [hlR]; exact hn) (by rw [hlR]; exact hn7) pT1 pT2 pO1 pS_COMPACT_STRINGS pP5 f37) hZ (own_w hw 40 rfl) (own_w hw 39 rfl) (by decide) (by decide) hEL CH30) (g := (mkF m 73 #[.val (.int p0), .val (.int p1), .val (.int p2), .val (.int nI), .val (.int tc), .val (.int w0), .val (.int w1), .val (.ref b1), .val (.ref y_28), .val (.int p1), .unset, .unset, .unset, .unset] [(.int p1), (.ref y_28), (.ref b1)])) rfl (by rw [hml]; rfl) (argsL := [(.ref b1), (.ref y_28), (.int p1)]) (rest := []) (lenOf pd__Ljava_lang_String_Ljava_lang_String_I_Ljava_lang_String_ rfl) rfl (by show 2 * 0 + _ ≤ _; exact Nat.le_of_eq rfl) (hb hby at_73) (fun _ _ => ⟨rfl, rfl, (by decide : 9 + 12 ≤ _), (by decide : 26 + 455 ≤ _)⟩)
    dsimp only [Pt.U, Pt.locs, Pt.cells, Pt.slots] at Xa38 hSa38 hGa38 l38 y38 z38 A38 st38 hQ38
    try dsimp only [Nat.reduceAdd] at y38 z38
    rw [l38, y38, z38] at Xa38
    obtain ⟨X38, hS, hZ, hown⟩ := rebS hS hK28 Xa38 hSa38 hGa38 hZ hown
    obtain ⟨y_38, b_38, kb_38, mm_38, cs_38, rfl, Nq38, Kq38, q38_0, q38_1, q38_2, q38_3, q38_4⟩ := hQ38
    have N38 := Fr.app N28 Nq38
    have CH39 := A38.1
    have CR39 := CHr.trans CR30 (A38)
    have K40 : Keep h0 T38.heap [] := K31.trans Kq38 all0
    have hK38 : T38.heap.size ≤ T38.heap.size := Nat.le_refl _
    refine own_tr st38 ?_
    show own_Go p e below T38 (mkF m 76 #[.val (.int p0), .val (.int p1), .val (.int p2), .val (.int nI), .val (.int tc), .val (.int w0), .val (.int w1), .val (.ref b1), .val (.ref y_28), .val (.int p1), .unset, .unset, .unset, .unset] [(.ref y_38)]) _
    have qd := q38_4
    have Vb := q38_3
    rw [hlR] at Vb
    have hpA : own_P (own_all [w0, w1] (Int32.ofNat (48 + nN)) cs_38) := own_allP hpw hd7 qd.1.2.1
    have lA := own_lenA [w0, w1] (Int32.ofNat (48 + nN)) cs_38
    rw [qd.1.1, show [w0, w1].length = 2 from rfl] at lA
    have q4A : (own_all [w0, w1] (Int32.ofNat (48 + nN)) cs_38).length ≤ 4000 := by omega
    refine own_st (fun t_ k_ => XS.astore X38.here hx rfl (hb hby at_76) rfl rfl (l' := #[.val (.int p0), .val (.int p1), .val (.int p2), .val (.int nI), .val (.int tc), .val (.int w0), .val (.int w1), .val (.ref b1), .val (.ref y_28), .val (.int p1), .val (.ref y_38), .unset, .unset, .unset]) rfl (XS.iloadN X38.here hx rfl (hb hby at_78) rfl (XS.iload X38.here hx rfl (hb hby at_79) rfl (XS.icmpYes X38.here hx rfl (pc0 := 81) (pc' := 95) rfl (hb hby at_81) rfl (tlt cL).2.2.1 (by decide) (by decide) (XS.aload X38.here hx rfl (hb hby at_95) rfl rfl (XS.ifnonnullYes X38.here hx rfl (pc0 := 97) (pc' := 102) rfl (hb hby at_97) rfl (by decide) (by decide) (XS.bipush X38.here hx rfl (hb hby at_102) (XS.iloadN X38.here hx rfl (hb hby at_104) rfl (XS.iadd X38.here hx rfl (hb hby at_105) rfl (XS.i2c X38.here hx rfl (hb hby at_106) rfl k_)))))))))) ?_
    show own_Go p e below T38 (mkF m 107 #[.val (.int p0), .val (.int p1), .val (.int p2), .val (.int nI), .val (.int tc), .val (.int w0), .val (.int w1), .val (.ref b1), .val (.ref y_28), .val (.int p1), .val (.ref y_38), .unset, .unset, .unset] [(.int (((48 : Int32) + nI).toUInt32.toUInt16.toUInt32.toInt32))]) _
    rw [own_dI hn (show nN ≤ 9 by omega)]
    show own_Go p e below T38 (mkF m 107 #[.val (.int p0), .val (.int p1), .val (.int p2), .val (.int nI), .val (.int tc), .val (.int w0), .val (.int w1), .val (.ref b1), .val (.ref y_28), .val (.int p1), .val (.ref y_38), .unset, .unset, .unset] [(.int (Int32.ofNat (48 + nN)))]) _
    refine own_st (fun t_ k_ => XS.istore X38.here hx rfl (hb hby at_107) rfl (l' := #[.val (.int p0), .val (.int p1), .val (.int p2), .val (.int nI), .val (.int tc), .val (.int w0), .val (.int w1), .val (.ref b1), .val (.ref y_28), .val (.int p1), .val (.ref y_38), .val (.int (Int32.ofNat (48 + nN))), .unset, .unset]) rfl (XS.iload X38.here hx rfl (hb hby at_109) rfl k_)) ?_
    show own_Go p e below T38 (mkF m 111 #[.val (.int p0), .val (.int p1), .val (.int p2), .val (.int nI), .val (.int tc), .val (.int w0), .val (.int w1), .val (.ref b1), .val (.ref y_28), .val (.int p1), .val (.ref y_38), .val (.int (Int32.ofNat (48 + nN))), .unset, .unset] [(.int p1)]) _
    by_cases c111 : p1 < (0 : Int32)
    · skip
      refine own_st (fun t_ k_ => XS.ifYes X38.here hx rfl (pc0 := 111) (pc' := 479) rfl (hb hby at_111) rfl ((if0 _ _).trans (tlt c111).1) (by decide) (by decide) k_) ?_
      show own_Go p e below T38 (mkF m 479 #[.val (.int p0), .val (.int p1), .val (.int p2), .val (.int nI), .val (.int tc), .val (.int w0), .val (.int w1), .val (.ref b1), .val (.ref y_28), .val (.int p1), .val (.ref y_38), .val (.int (Int32.ofNat (48 + nN))), .unset, .unset] []) _
      have hneg : p1.toInt < 0 := by rw [Int32.lt_iff_toInt_lt, show (0 : Int32).toInt = 0 from rfl] at c111; exact c111
      have qn := qd.1.2.2.2 hneg
      refine own_st (fun t_ k_ => XS.aload X38.here hx rfl (hb hby at_479) rfl rfl k_) ?_
      show own_Go p e below T38 (mkF m 481 #[.val (.int p0), .val (.int p1), .val (.int p2), .val (.int nI), .val (.int tc), .val (.int w0), .val (.int w1), .val (.ref b1), .val (.ref y_28), .val (.int p1), .val (.ref y_38), .val (.int (Int32.ofNat (48 + nN))), .unset, .unset] [(.ref y_38)]) _
      have hcd41 : StrChars.Road.CodA ((own_all [w0, w1] (Int32.ofNat (48 + nN)) cs_38) : List Int32) 0 (Int32.ofNat ((own_all [w0, w1] (Int32.ofNat (48 + nN)) cs_38) : List Int32).length) ((((own_all [w0, w1] (Int32.ofNat (48 + nN)) cs_38) : List Int32).map (fun c : Int32 => c.toInt8.toInt32)).map Value.int) := StrChars.Road.codOf rfl (fun x hx => (hpA x hx).2)
      have hbd41 : ∀ x ∈ ((own_all [w0, w1] (Int32.ofNat (48 + nN)) cs_38) : List Int32), ¬ x < 0 ∧ ¬ (65535 : Int32) < x := own_up _ hpA
      have f42 := (f37.keep Kq38 all0)
      obtain ⟨cq43, kq43, qa43, qb43, qc43⟩ := isOf hZ rfl q38_0
      obtain ⟨_, _, ⟨T43, L43, k43, n43⟩, -, X43, ⟨Lc43, hQ43, l43, y43, z43⟩, st43⟩ := X38.virtualBack hx (y := (⟨"java/lang/String", "length", "()I"⟩ : MethodName)) (z := (⟨"java/lang/String", "length", "()I"⟩ : MethodName)) hown (mvT hZ (own_w hw 191 rfl)) (mvT hZ (own_w hw 42 rfl)) (notFace_of_selects (args := #[]) (mvT hZ (own_w hw 44 rfl))) (mvT hZ (own_w hw 44 rfl)) (mvT hZ (own_w hw 43 rfl)) (by decide) (StrChars.Road.lenW (W := 0) hZ hln (kI := 4) (own_w hw 1 rfl) q38_0 q38_1 q38_2 Vb hcd41 hbd41 (pS_COMPACT_STRINGS.ext f42.2) pP5 q4A (by decide) (by decide)) qa43 qc43 (g := (mkF m 481 #[.val (.int p0), .val (.int p1), .val (.int p2), .val (.int nI), .val (.int tc), .val (.int w0), .val (.int w1), .val (.ref b1), .val (.ref y_28), .val (.int p1), .val (.ref y_38), .val (.int (Int32.ofNat (48 + nN))), .unset, .unset] [(.ref y_38)])) rfl (by rw [hml]; rfl) (Steps.refl _) (argsL := []) (rest := []) (lenOf pd___I rfl) rfl (by show 2 * 0 + _ ≤ _; exact Nat.le_of_eq rfl) (hb hby at_481) (fun _ _ => ⟨rfl, rfl, (by decide : 21 + 0 ≤ _), (by decide : 481 + 0 ≤ _)⟩)
      dsimp only [Pt.U, Pt.locs, Pt.cells, Pt.slots] at X43 l43 y43 z43 st43 hQ43
      try dsimp only [Nat.reduceAdd] at y43 z43
      rw [l43, y43, z43] at X43
      obtain ⟨rfl, rfl, eH43⟩ := hQ43
      have N43 := Fr.app N38 (Fr.nil n0)
      refine own_tr st43 ?_
      show own_Go p e below T43 (mkF m 484 #[.val (.int p0), .val (.int p1), .val (.int p2), .val (.int nI), .val (.int tc), .val (.int w0), .val (.int w1), .val (.ref b1), .val (.ref y_28), .val (.int p1), .val (.ref y_38), .val (.int (Int32.ofNat (48 + nN))), .unset, .unset] [(.int (Int32.ofNat ((own_all [w0, w1] (Int32.ofNat (48 + nN)) cs_38) : List Int32).length))]) _
      have oA : (Int32.ofNat ((own_all [w0, w1] (Int32.ofNat (48 + nN)) cs_38) : List Int32).length).toInt = ((own_all [w0, w1] (Int32.ofNat (48 + nN)) cs_38).length : Int) := own_ofNat (by omega)
      refine own_st (fun t_ k_ => XS.istore X43.here hx rfl (hb hby at_484) rfl (l' := #[.val (.int p0), .val (.int p1), .val (.int p2), .val (.int nI), .val (.int tc), .val (.int w0), .val (.int w1), .val (.ref b1), .val (.ref y_28), .val (.int p1), .val (.ref y_38), .val (.int (Int32.ofNat (48 + nN))), .val (.int (Int32.ofNat ((own_all [w0, w1] (Int32.ofNat (48 + nN)) cs_38) : List Int32).length)), .unset]) rfl (XS.iload X43.here hx rfl (hb hby at_486) rfl (XS.bipush X43.here hx rfl (hb hby at_488) (XS.icmpNo X43.here hx rfl (hb hby at_490) rfl (flt (show ¬ ((Int32.ofNat ((own_all [w0, w1] (Int32.ofNat (48 + nN)) cs_38) : List Int32).length) < (58 : Int32)) from (by rw [Int32.lt_iff_toInt_lt, oA, show (58 : Int32).toInt = 58 from rfl]; omega))).1 (XS.iload X43.here hx rfl (hb hby at_493) rfl (XS.bipush X43.here hx rfl (hb hby at_495) (XS.icmpYes X43.here hx rfl (pc0 := 497) (pc' := 502) rfl (hb hby at_497) rfl (flt (show ¬ ((67 : Int32) < (Int32.ofNat ((own_all [w0, w1] (Int32.ofNat (48 + nN)) cs_38) : List Int32).length)) from (by rw [Int32.lt_iff_toInt_lt, oA, show (67 : Int32).toInt = 67 from rfl]; omega))).2.2.2 (by decide) (by decide) (XS.aload X43.here hx rfl (hb hby at_502) rfl rfl (XS.iconst X43.here hx rfl (hb hby at_504) k_))))))))) ?_
      show own_Go p e below T43 (mkF m 505 #[.val (.int p0), .val (.int p1), .val (.int p2), .val (.int nI), .val (.int tc), .val (.int w0), .val (.int w1), .val (.ref b1), .val (.ref y_28), .val (.int p1), .val (.ref y_38), .val (.int (Int32.ofNat (48 + nN))), .val (.int (Int32.ofNat ((own_all [w0, w1] (Int32.ofNat (48 + nN)) cs_38) : List Int32).length)), .unset] [(.int (0 : Int32)), (.ref y_38)]) _
      have ci0 : 0 < (own_all [w0, w1] (Int32.ofNat (48 + nN)) cs_38).length := by omega
      obtain ⟨cq44, kq44, qa44, qb44, qc44⟩ := isOf hZ eH43 q38_0
      obtain ⟨_, _, ⟨T44, L44, k44, n44⟩, -, X44, ⟨Lc44, hQ44, l44, y44, z44⟩, st44⟩ := X43.virtualBack hx (y := (⟨"java/lang/String", "charAt", "(I)C"⟩ : MethodName)) (z := (⟨"java/lang/String", "charAt", "(I)C"⟩ : MethodName)) hown (mvT hZ (own_w hw 192 rfl)) (mvT hZ (own_w hw 193 rfl)) (notFace_of_selects (args := #[]) (mvT hZ (own_w hw 195 rfl))) (mvT hZ (own_w hw 195 rfl)) (mvT hZ (own_w hw 194 rfl)) (by decide) (StrChars.Road.chN (W := 0) hZ hch (kI := 4) (own_w hw 1 rfl) q38_0 q38_1 q38_2 Vb hcd41 hbd41 (pS_COMPACT_STRINGS.ext f42.2) pP5 (pS_SIOOBE_FORMATTER.ext f42.2) rfm q4A (i := 0) ci0 (j := (0 : Int32)) rfl (by decide) (by decide)) qa44 qc44 (g := (mkF m 505 #[.val (.int p0), .val (.int p1), .val (.int p2), .val (.int nI), .val (.int tc), .val (.int w0), .val (.int w1), .val (.ref b1), .val (.ref y_28), .val (.int p1), .val (.ref y_38), .val (.int (Int32.ofNat (48 + nN))), .val (.int (Int32.ofNat ((own_all [w0, w1] (Int32.ofNat (48 + nN)) cs_38) : List Int32).length)), .unset] [(.int (0 : Int32)), (.ref y_38)])) rfl (by rw [hml]; rfl) (Steps.refl _) (argsL := [(.int (0 : Int32))]) (rest := []) (lenOf pd__I_C rfl) rfl (by show 2 * 0 + _ ≤ _; exact Nat.le_of_eq rfl) (hb hby at_505) (fun _ _ => ⟨rfl, eH43, (by decide : 21 + 0 ≤ _), (by decide : 481 + 0 ≤ _)⟩)
      dsimp only [Pt.U, Pt.locs, Pt.cells, Pt.slots] at X44 l44 y44 z44 st44 hQ44
      try dsimp only [Nat.reduceAdd] at y44 z44
      rw [l44, y44, z44] at X44
      obtain ⟨rfl, rfl, eH44⟩ := hQ44
      have N44 := Fr.app N43 (Fr.nil n0)
      refine own_tr st44 ?_
      show own_Go p e below T44 (mkF m 508 #[.val (.int p0), .val (.int p1), .val (.int p2), .val (.int nI), .val (.int tc), .val (.int w0), .val (.int w1), .val (.ref b1), .val (.ref y_28), .val (.int p1), .val (.ref y_38), .val (.int (Int32.ofNat (48 + nN))), .val (.int (Int32.ofNat ((own_all [w0, w1] (Int32.ofNat (48 + nN)) cs_38) : List Int32).length)), .unset] [(.int ((own_all [w0, w1] (Int32.ofNat (48 + nN)) cs_38).getD 0 0))]) _
      refine own_st (fun t_ k_ => XS.iload X44.here hx rfl (hb hby at_508) rfl (XS.icmpNo X44.here hx rfl (hb hby at_510) rfl (teq rfl).2 (XS.aload X44.here hx rfl (hb hby at_513) rfl rfl (XS.iconst X44.here hx rfl (hb hby at_515) k_)))) ?_
      show own_Go p e below T44 (mkF m 516 #[.val (.int p0), .val (.int p1), .val (.int p2), .val (.int nI), .val (.int tc), .val (.int w0), .val (.int w1), .val (.ref b1), .val (.ref y_28), .val (.int p1), .val (.ref y_38), .val (.int (Int32.ofNat (48 + nN))), .val (.int (Int32.ofNat ((own_all [w0, w1] (Int32.ofNat (48 + nN)) cs_38) : List Int32).length)), .unset] [(.int (1 : Int32)), (.ref y_38)]) _
      have ci1 : 1 < (own_all [w0, w1] (Int32.ofNat (48 + nN)) cs_38).length := by omega
      obtain ⟨cq45, kq45, qa45, qb45, qc45⟩ := isOf hZ eH44 q38_0
      obtain ⟨_, _, ⟨T45, L45, k45, n45⟩, -, X45, ⟨Lc45, hQ45, l45, y45, z45⟩, st45⟩ := X44.virtualBack hx (y := (⟨"java/lang/String", "charAt", "(I)C"⟩ : MethodName)) (z := (⟨"java/lang/String", "charAt", "(I)C"⟩ : MethodName)) hown (mvT hZ (own_w hw 192 rfl)) (mvT hZ (own_w hw 193 rfl)) (notFace_of_selects (args := #[]) (mvT hZ (own_w hw 195 rfl))) (mvT hZ (own_w hw 195 rfl)) (mvT hZ (own_w hw 194 rfl)) (by decide) (StrChars.Road.chN (W := 0) hZ hch (kI := 4) (own_w hw 1 rfl) q38_0 q38_1 q38_2 Vb hcd41 hbd41 (pS_COMPACT_STRINGS.ext f42.2) pP5 (pS_SIOOBE_FORMATTER.ext f42.2) rfm q4A (i := 1) ci1 (j := (1 : Int32)) rfl (by decide) (by decide)) qa45 qc45 (g := (mkF m 516 #[.val (.int p0), .val (.int p1), .val (.int p2), .val (.int nI), .val (.int tc), .val (.int w0), .val (.int w1), .val (.ref b1), .val (.ref y_28), .val (.int p1), .val (.ref y_38), .val (.int (Int32.ofNat (48 + nN))), .val (.int (Int32.ofNat ((own_all [w0, w1] (Int32.ofNat (48 + nN)) cs_38) : List Int32).length)), .unset] [(.int (1 : Int32)), (.ref y_38)])) rfl (by rw [hml]; rfl) (Steps.refl _) (argsL := [(.int (1 : Int32))]) (rest := []) (lenOf pd__I_C rfl) rfl (by show 2 * 0 + _ ≤ _; exact Nat.le_of_eq rfl) (hb hby at_516) (fun _ _ => ⟨rfl, eH44, (by decide : 21 + 0 ≤ _), (by decide : 481 + 0 ≤ _)⟩)
      dsimp only [Pt.U, Pt.locs, Pt.cells, Pt.slots] at X45 l45 y45 z45 st45 hQ45
      try dsimp only [Nat.reduceAdd] at y45 z45
      rw [l45, y45, z45] at X45
      obtain ⟨rfl, rfl, eH45⟩ := hQ45
      have N45 := Fr.app N44 (Fr.nil n0)
      refine own_tr st45 ?_
      show own_Go p e below T45 (mkF m 519 #[.val (.int p0), .val (.int p1), .val (.int p2), .val (.int nI), .val (.int tc), .val (.int w0), .val (.int w1), .val (.ref b1), .val (.ref y_28), .val (.int p1), .val (.ref y_38), .val (.int (Int32.ofNat (48 + nN))), .val (.int (Int32.ofNat ((own_all [w0, w1] (Int32.ofNat (48 + nN)) cs_38) : List Int32).length)), .unset] [(.int ((own_all [w0, w1] (Int32.ofNat (48 + nN)) cs_38).getD 1 0))]) _
      refine own_st (fun t_ k_ => XS.iload X45.here hx rfl (hb hby at_519) rfl (XS.icmpNo X45.here hx rfl (hb hby at_521) rfl (teq rfl).2 (XS.aload X45.here hx rfl (hb hby at_524) rfl rfl (XS.iconst X45.here hx rfl (hb hby at_526) k_)))) ?_
      show own_Go p e below T45 (mkF m 527 #[.val (.int p0), .val (.int p1), .val (.int p2), .val (.int nI), .val (.int tc), .val (.int w0), .val (.int w1), .val (.ref b1), .val (.ref y_28), .val (.int p1), .val (.ref y_38), .val (.int (Int32.ofNat (48 + nN))), .val (.int (Int32.ofNat ((own_all [w0, w1] (Int32.ofNat (48 + nN)) cs_38) : List Int32).length)), .unset] [(.int (2 : Int32)), (.ref y_38)]) _
      have ci2 : 2 < (own_all [w0, w1] (Int32.ofNat (48 + nN)) cs_38).length := by omega
      obtain ⟨cq46, kq46, qa46, qb46, qc46⟩ := isOf hZ eH45 q38_0
      obtain ⟨_, _, ⟨T46, L46, k46, n46⟩, -, X46, ⟨Lc46, hQ46, l46, y46, z46⟩, st46⟩ := X45.virtualBack hx (y := (⟨"java/lang/String", "charAt", "(I)C"⟩ : MethodName)) (z := (⟨"java/lang/String", "charAt", "(I)C"⟩ : MethodName)) hown (mvT hZ (own_w hw 192 rfl)) (mvT hZ (own_w hw 193 rfl)) (notFace_of_selects (args := #[]) (mvT hZ (own_w hw 195 rfl))) (mvT hZ (own_w hw 195 rfl)) (mvT hZ (own_w hw 194 rfl)) (by decide) (StrChars.Road.chN (W := 0) hZ hch (kI := 4) (own_w hw 1 rfl) q38_0 q38_1 q38_2 Vb hcd41 hbd41 (pS_COMPACT_STRINGS.ext f42.2) pP5 (pS_SIOOBE_FORMATTER.ext f42.2) rfm q4A (i := 2) ci2 (j := (2 : Int32)) rfl (by decide) (by decide)) qa46 qc46 (g := (mkF m 527 #[.val (.int p0), .val (.int p1), .val (.int p2), .val (.int nI), .val (.int tc), .val (.int w0), .val (.int w1), .val (.ref b1), .val (.ref y_28), .val (.int p1), .val (.ref y_38), .val (.int (Int32.ofNat (48 + nN))), .val (.int (Int32.ofNat ((own_all [w0, w1] (Int32.ofNat (48 + nN)) cs_38) : List Int32).length)), .unset] [(.int (2 : Int32)), (.ref y_38)])) rfl (by rw [hml]; rfl) (Steps.refl _) (argsL := [(.int (2 : Int32))]) (rest := []) (lenOf pd__I_C rfl) rfl (by show 2 * 0 + _ ≤ _; exact Nat.le_of_eq rfl) (hb hby at_527) (fun _ _ => ⟨rfl, eH45, (by decide : 21 + 0 ≤ _), (by decide : 481 + 0 ≤ _)⟩)
      dsimp only [Pt.U, Pt.locs, Pt.cells, Pt.slots] at X46 l46 y46 z46 st46 hQ46
      try dsimp only [Nat.reduceAdd] at y46 z46
      rw [l46, y46, z46] at X46
      obtain ⟨rfl, rfl, eH46⟩ := hQ46
      have N46 := Fr.app N45 (Fr.nil n0)
      refine own_tr st46 ?_
      show own_Go p e below T46 (mkF m 530 #[.val (.int p0), .val (.int p1), .val (.int p2), .val (.int nI), .val (.int tc), .val (.int w0), .val (.int w1), .val (.ref b1), .val (.ref y_28), .val (.int p1), .val (.ref y_38), .val (.int (Int32.ofNat (48 + nN))), .val (.int (Int32.ofNat ((own_all [w0, w1] (Int32.ofNat (48 + nN)) cs_38) : List Int32).length)), .unset] [(.int ((own_all [w0, w1] (Int32.ofNat (48 + nN)) cs_38).getD 2 0))]) _
      refine own_st (fun t_ k_ => XS.bipush X46.here hx rfl (hb hby at_530) (XS.icmpNo X46.here hx rfl (hb hby at_532) rfl (teq rfl).2 (XS.aload X46.here hx rfl (hb hby at_535) rfl rfl (XS.iconst X46.here hx rfl (hb hby at_537) k_)))) ?_
      show own_Go p e below T46 (mkF m 538 #[.val (.int p0), .val (.int p1), .val (.int p2), .val (.int nI), .val (.int tc), .val (.int w0), .val (.int w1), .val (.ref b1), .val (.ref y_28), .val (.int p1), .val (.ref y_38), .val (.int (Int32.ofNat (48 + nN))), .val (.int (Int32.ofNat ((own_all [w0, w1] (Int32.ofNat (48 + nN)) cs_38) : List Int32).length)), .unset] [(.int (3 : Int32)), (.ref y_38)]) _
      have ci3 : 3 < (own_all [w0, w1] (Int32.ofNat (48 + nN)) cs_38).length := by omega
      obtain ⟨cq47, kq47, qa47, qb47, qc47⟩ := isOf hZ eH46 q38_0
      obtain ⟨_, _, ⟨T47, L47, k47, n47⟩, -, X47, ⟨Lc47, hQ47, l47, y47, z47⟩, st47⟩ := X46.virtualBack hx (y := (⟨"java/lang/String", "charAt", "(I)C"⟩ : MethodName)) (z := (⟨"java/lang/String", "charAt", "(I)C"⟩ : MethodName)) hown (mvT hZ (own_w hw 192 rfl)) (mvT hZ (own_w hw 193 rfl)) (notFace_of_selects (args := #[]) (mvT hZ (own_w hw 195 rfl))) (mvT hZ (own_w hw 195 rfl)) (mvT hZ (own_w hw 194 rfl)) (by decide) (StrChars.Road.chN (W := 0) hZ hch (kI := 4) (own_w hw 1 rfl) q38_0 q38_1 q38_2 Vb hcd41 hbd41 (pS_COMPACT_STRINGS.ext f42.2) pP5 (pS_SIOOBE_FORMATTER.ext f42.2) rfm q4A (i := 3) ci3 (j := (3 : Int32)) rfl (by decide) (by decide)) qa47 qc47 (g := (mkF m 538 #[.val (.int p0), .val (.int p1), .val (.int p2), .val (.int nI), .val (.int tc), .val (.int w0), .val (.int w1), .val (.ref b1), .val (.ref y_28), .val (.int p1), .val (.ref y_38), .val (.int (Int32.ofNat (48 + nN))), .val (.int (Int32.ofNat ((own_all [w0, w1] (Int32.ofNat (48 + nN)) cs_38) : List Int32).length)), .unset] [(.int (3 : Int32)), (.ref y_38)])) rfl (by rw [hml]; rfl) (Steps.refl _) (argsL := [(.int (3 : Int32))]) (rest := []) (lenOf pd__I_C rfl) rfl (by show 2 * 0 + _ ≤ _; exact Nat.le_of_eq rfl) (hb hby at_538) (fun _ _ => ⟨rfl, eH46, (by decide : 21 + 0 ≤ _), (by decide : 481 + 0 ≤ _)⟩)
      dsimp only [Pt.U, Pt.locs, Pt.cells, Pt.slots] at X47 l47 y47 z47 st47 hQ47
      try dsimp only [Nat.reduceAdd] at y47 z47
      rw [l47, y47, z47] at X47
      obtain ⟨rfl, rfl, eH47⟩ := hQ47
      have N47 := Fr.app N46 (Fr.nil n0)
      refine own_tr st47 ?_
      show own_Go p e below T47 (mkF m 541 #[.val (.int p0), .val (.int p1), .val (.int p2), .val (.int nI), .val (.int tc), .val (.int w0), .val (.int w1), .val (.ref b1), .val (.ref y_28), .val (.int p1), .val (.ref y_38), .val (.int (Int32.ofNat (48 + nN))), .val (.int (Int32.ofNat ((own_all [w0, w1] (Int32.ofNat (48 + nN)) cs_38) : List Int32).length)), .unset] [(.int ((own_all [w0, w1] (Int32.ofNat (48 + nN)) cs_38).getD 3 0))]) _
      refine own_st (fun t_ k_ => XS.bipush X47.here hx rfl (hb hby at_541) (XS.icmpNo X47.here hx rfl (hb hby at_543) rfl (teq rfl).2 (XS.aload X47.here hx rfl (hb hby at_546) rfl rfl (XS.bipush X47.here hx rfl (hb hby at_548) k_)))) ?_
      show own_Go p e below T47 (mkF m 550 #[.val (.int p0), .val (.int p1), .val (.int p2), .val (.int nI), .val (.int tc), .val (.int w0), .val (.int w1), .val (.ref b1), .val (.ref y_28), .val (.int p1), .val (.ref y_38), .val (.int (Int32.ofNat (48 + nN))), .val (.int (Int32.ofNat ((own_all [w0, w1] (Int32.ofNat (48 + nN)) cs_38) : List Int32).length)), .unset] [(.int (6 : Int32)), (.ref y_38)]) _
      have ci6 : 6 < (own_all [w0, w1] (Int32.ofNat (48 + nN)) cs_38).length := by omega
      obtain ⟨cq48, kq48, qa48, qb48, qc48⟩ := isOf hZ eH47 q38_0
      obtain ⟨_, _, ⟨T48, L48, k48, n48⟩, -, X48, ⟨Lc48, hQ48, l48, y48, z48⟩, st48⟩ := X47.virtualBack hx (y := (⟨"java/lang/String", "charAt", "(I)C"⟩ : MethodName)) (z := (⟨"java/lang/String", "charAt", "(I)C"⟩ : MethodName)) hown (mvT hZ (own_w hw 192 rfl)) (mvT hZ (own_w hw 193 rfl)) (notFace_of_selects (args := #[]) (mvT hZ (own_w hw 195 rfl))) (mvT hZ (own_w hw 195 rfl)) (mvT hZ (own_w hw 194 rfl)) (by decide) (StrChars.Road.chN (W := 0) hZ hch (kI := 4) (own_w hw 1 rfl) q38_0 q38_1 q38_2 Vb hcd41 hbd41 (pS_COMPACT_STRINGS.ext f42.2) pP5 (pS_SIOOBE_FORMATTER.ext f42.2) rfm q4A (i := 6) ci6 (j := (6 : Int32)) rfl (by decide) (by decide)) qa48 qc48 (g := (mkF m 550 #[.val (.int p0), .val (.int p1), .val (.int p2), .val (.int nI), .val (.int tc), .val (.int w0), .val (.int w1), .val (.ref b1), .val (.ref y_28), .val (.int p1), .val (.ref y_38), .val (.int (Int32.ofNat (48 + nN))), .val (.int (Int32.ofNat ((own_all [w0, w1] (Int32.ofNat (48 + nN)) cs_38) : List Int32).length)), .unset] [(.int (6 : Int32)), (.ref y_38)])) rfl (by rw [hml]; rfl) (Steps.refl _) (argsL := [(.int (6 : Int32))]) (rest := []) (lenOf pd__I_C rfl) rfl (by show 2 * 0 + _ ≤ _; exact Nat.le_of_eq rfl) (hb hby at_550) (fun _ _ => ⟨rfl, eH47, (by decide : 21 + 0 ≤ _), (by decide : 481 + 0 ≤ _)⟩)
      dsimp only [Pt.U, Pt.locs, Pt.cells, Pt.slots] at X48 l48 y48 z48 st48 hQ48
      try dsimp only [Nat.reduceAdd] at y48 z48
      rw [l48, y48, z48] at X48
      obtain ⟨rfl, rfl, eH48⟩ := hQ48
      have N48 := Fr.app N47 (Fr.nil n0)
      refine own_tr st48 ?_
      show own_Go p e below T48 (mkF m 553 #[.val (.int p0), .val (.int p1), .val (.int p2), .val (.int nI), .val (.int tc), .val (.int w0), .val (.int w1), .val (.ref b1), .val (.ref y_28), .val (.int p1), .val (.ref y_38), .val (.int (Int32.ofNat (48 + nN))), .val (.int (Int32.ofNat ((own_all [w0, w1] (Int32.ofNat (48 + nN)) cs_38) : List Int32).length)), .unset] [(.int ((own_all [w0, w1] (Int32.ofNat (48 + nN)) cs_38).getD 6 0))]) _
      refine own_st (fun t_ k_ => XS.iload X48.here hx rfl (hb hby at_553) rfl (XS.icmpNo X48.here hx rfl (hb hby at_555) rfl (teq rfl).2 (XS.aload X48.here hx rfl (hb hby at_558) rfl rfl (XS.bipush X48.here hx rfl (hb hby at_560) k_)))) ?_
      show own_Go p e below T48 (mkF m 562 #[.val (.int p0), .val (.int p1), .val (.int p2), .val (.int nI), .val (.int tc), .val (.int w0), .val (.int w1), .val (.ref b1), .val (.ref y_28), .val (.int p1), .val (.ref y_38), .val (.int (Int32.ofNat (48 + nN))), .val (.int (Int32.ofNat ((own_all [w0, w1] (Int32.ofNat (48 + nN)) cs_38) : List Int32).length)), .unset] [(.int (33 : Int32)), (.ref y_38)]) _
      have ci33 : 33 < (own_all [w0, w1] (Int32.ofNat (48 + nN)) cs_38).length := by omega
      obtain ⟨cq49, kq49, qa49, qb49, qc49⟩ := isOf hZ eH48 q38_0
      obtain ⟨_, _, ⟨T49, L49, k49, n49⟩, -, X49, ⟨Lc49, hQ49, l49, y49, z49⟩, st49⟩ := X48.virtualBack hx (y := (⟨"java/lang/String", "charAt", "(I)C"⟩ : MethodName)) (z := (⟨"java/lang/String", "charAt", "(I)C"⟩ : MethodName)) hown (mvT hZ (own_w hw 192 rfl)) (mvT hZ (own_w hw 193 rfl)) (notFace_of_selects (args := #[]) (mvT hZ (own_w hw 195 rfl))) (mvT hZ (own_w hw 195 rfl)) (mvT hZ (own_w hw 194 rfl)) (by decide) (StrChars.Road.chN (W := 0) hZ hch (kI := 4) (own_w hw 1 rfl) q38_0 q38_1 q38_2 Vb hcd41 hbd41 (pS_COMPACT_STRINGS.ext f42.2) pP5 (pS_SIOOBE_FORMATTER.ext f42.2) rfm q4A (i := 33) ci33 (j := (33 : Int32)) rfl (by decide) (by decide)) qa49 qc49 (g := (mkF m 562 #[.val (.int p0), .val (.int p1), .val (.int p2), .val (.int nI), .val (.int tc), .val (.int w0), .val (.int w1), .val (.ref b1), .val (.ref y_28), .val (.int p1), .val (.ref y_38), .val (.int (Int32.ofNat (48 + nN))), .val (.int (Int32.ofNat ((own_all [w0, w1] (Int32.ofNat (48 + nN)) cs_38) : List Int32).length)), .unset] [(.int (33 : Int32)), (.ref y_38)])) rfl (by rw [hml]; rfl) (Steps.refl _) (argsL := [(.int (33 : Int32))]) (rest := []) (lenOf pd__I_C rfl) rfl (by show 2 * 0 + _ ≤ _; exact Nat.le_of_eq rfl) (hb hby at_562) (fun _ _ => ⟨rfl, eH48, (by decide : 21 + 0 ≤ _), (by decide : 481 + 0 ≤ _)⟩)
      dsimp only [Pt.U, Pt.locs, Pt.cells, Pt.slots] at X49 l49 y49 z49 st49 hQ49
      try dsimp only [Nat.reduceAdd] at y49 z49
      rw [l49, y49, z49] at X49
      obtain ⟨rfl, rfl, eH49⟩ := hQ49
      have N49 := Fr.app N48 (Fr.nil n0)
      refine own_tr st49 ?_
      show own_Go p e below T49 (mkF m 565 #[.val (.int p0), .val (.int p1), .val (.int p2), .val (.int nI), .val (.int tc), .val (.int w0), .val (.int w1), .val (.ref b1), .val (.ref y_28), .val (.int p1), .val (.ref y_38), .val (.int (Int32.ofNat (48 + nN))), .val (.int (Int32.ofNat ((own_all [w0, w1] (Int32.ofNat (48 + nN)) cs_38) : List Int32).length)), .unset] [(.int ((own_all [w0, w1] (Int32.ofNat (48 + nN)) cs_38).getD 33 0))]) _
      refine own_st (fun t_ k_ => XS.bipush X49.here hx rfl (hb hby at_565) (XS.icmpNo X49.here hx rfl (hb hby at_567) rfl (teq rfl).2 (XS.aload X49.here hx rfl (hb hby at_570) rfl rfl (XS.bipush X49.here hx rfl (hb hby at_572) k_)))) ?_
      show own_Go p e below T49 (mkF m 574 #[.val (.int p0), .val (.int p1), .val (.int p2), .val (.int nI), .val (.int tc), .val (.int w0), .val (.int w1), .val (.ref b1), .val (.ref y_28), .val (.int p1), .val (.ref y_38), .val (.int (Int32.ofNat (48 + nN))), .val (.int (Int32.ofNat ((own_all [w0, w1] (Int32.ofNat (48 + nN)) cs_38) : List Int32).length)), .unset] [(.int (34 : Int32)), (.ref y_38)]) _
      have ci34 : 34 < (own_all [w0, w1] (Int32.ofNat (48 + nN)) cs_38).length := by omega
      obtain ⟨cq50, kq50, qa50, qb50, qc50⟩ := isOf hZ eH49 q38_0
      obtain ⟨_, _, ⟨T50, L50, k50, n50⟩, -, X50, ⟨Lc50, hQ50, l50, y50, z50⟩, st50⟩ := X49.virtualBack hx (y := (⟨"java/lang/String", "charAt", "(I)C"⟩ : MethodName)) (z := (⟨"java/lang/String", "charAt", "(I)C"⟩ : MethodName)) hown (mvT hZ (own_w hw 192 rfl)) (mvT hZ (own_w hw 193 rfl)) (notFace_of_selects (args := #[]) (mvT hZ (own_w hw 195 rfl))) (mvT hZ (own_w hw 195 rfl)) (mvT hZ (own_w hw 194 rfl)) (by decide) (StrChars.Road.chN (W := 0) hZ hch (kI := 4) (own_w hw 1 rfl) q38_0 q38_1 q38_2 Vb hcd41 hbd41 (pS_COMPACT_STRINGS.ext f42.2) pP5 (pS_SIOOBE_FORMATTER.ext f42.2) rfm q4A (i := 34) ci34 (j := (34 : Int32)) rfl (by decide) (by decide)) qa50 qc50 (g := (mkF m 574 #[.val (.int p0), .val (.int p1), .val (.int p2), .val (.int nI), .val (.int tc), .val (.int w0), .val (.int w1), .val (.ref b1), .val (.ref y_28), .val (.int p1), .val (.ref y_38), .val (.int (Int32.ofNat (48 + nN))), .val (.int (Int32.ofNat ((own_all [w0, w1] (Int32.ofNat (48 + nN)) cs_38) : List Int32).length)), .unset] [(.int (34 : Int32)), (.ref y_38)])) rfl (by rw [hml]; rfl) (Steps.refl _) (argsL := [(.int (34 : Int32))]) (rest := []) (lenOf pd__I_C rfl) rfl (by show 2 * 0 + _ ≤ _; exact Nat.le_of_eq rfl) (hb hby at_574) (fun _ _ => ⟨rfl, eH49, (by decide : 21 + 0 ≤ _), (by decide : 481 + 0 ≤ _)⟩)
      dsimp only [Pt.U, Pt.locs, Pt.cells, Pt.slots] at X50 l50 y50 z50 st50 hQ50
      try dsimp only [Nat.reduceAdd] at y50 z50
      rw [l50, y50, z50] at X50
      obtain ⟨rfl, rfl, eH50⟩ := hQ50
      have N50 := Fr.app N49 (Fr.nil n0)
      refine own_tr st50 ?_
      show own_Go p e below T50 (mkF m 577 #[.val (.int p0), .val (.int p1), .val (.int p2), .val (.int nI), .val (.int tc), .val (.int w0), .val (.int w1), .val (.ref b1), .val (.ref y_28), .val (.int p1), .val (.ref y_38), .val (.int (Int32.ofNat (48 + nN))), .val (.int (Int32.ofNat ((own_all [w0, w1] (Int32.ofNat (48 + nN)) cs_38) : List Int32).length)), .unset] [(.int ((own_all [w0, w1] (Int32.ofNat (48 + nN)) cs_38).getD 34 0))]) _
      refine own_st (fun t_ k_ => XS.bipush X50.here hx rfl (hb hby at_577) (XS.icmpNo X50.here hx rfl (hb hby at_579) rfl (teq (show ((own_all [w0, w1] (Int32.ofNat (48 + nN)) cs_38).getD 34 0) = (45 : Int32) from (by rw [own_atC rfl (by rw [qd.1.1]; omega)]; exact qn.2))).2 (XS.aload X50.here hx rfl (hb hby at_582) rfl rfl (XS.iload X50.here hx rfl (hb hby at_584) rfl (XS.bipush X50.here hx rfl (hb hby at_586) (XS.isub X50.here hx rfl (hb hby at_588) rfl k_)))))) ?_
      show own_Go p e below T50 (mkF m 589 #[.val (.int p0), .val (.int p1), .val (.int p2), .val (.int nI), .val (.int tc), .val (.int w0), .val (.int w1), .val (.ref b1), .val (.ref y_28), .val (.int p1), .val (.ref y_38), .val (.int (Int32.ofNat (48 + nN))), .val (.int (Int32.ofNat ((own_all [w0, w1] (Int32.ofNat (48 + nN)) cs_38) : List Int32).length)), .unset] [(.int ((Int32.ofNat ((own_all [w0, w1] (Int32.ofNat (48 + nN)) cs_38) : List Int32).length) - (22 : Int32))), (.ref y_38)]) _
      have ix22 : (((Int32.ofNat ((own_all [w0, w1] (Int32.ofNat (48 + nN)) cs_38) : List Int32).length) - (22 : Int32))).toInt = (((34 + mm_38 + 0) : Nat) : Int) := by rw [own_subI (by omega) (by decide), oA, show (22 : Int32).toInt = 22 from rfl]; omega
      have cj22 : (34 + mm_38 + 0) < (own_all [w0, w1] (Int32.ofNat (48 + nN)) cs_38).length := by omega
      obtain ⟨cq51, kq51, qa51, qb51, qc51⟩ := isOf hZ eH50 q38_0
      obtain ⟨_, _, ⟨T51, L51, k51, n51⟩, -, X51, ⟨Lc51, hQ51, l51, y51, z51⟩, st51⟩ := X50.virtualBack hx (y := (⟨"java/lang/String", "charAt", "(I)C"⟩ : MethodName)) (z := (⟨"java/lang/String", "charAt", "(I)C"⟩ : MethodName)) hown (mvT hZ (own_w hw 192 rfl)) (mvT hZ (own_w hw 193 rfl)) (notFace_of_selects (args := #[]) (mvT hZ (own_w hw 195 rfl))) (mvT hZ (own_w hw 195 rfl)) (mvT hZ (own_w hw 194 rfl)) (by decide) (StrChars.Road.chN (W := 0) hZ hch (kI := 4) (own_w hw 1 rfl) q38_0 q38_1 q38_2 Vb hcd41 hbd41 (pS_COMPACT_STRINGS.ext f42.2) pP5 (pS_SIOOBE_FORMATTER.ext f42.2) rfm q4A (i := (34 + mm_38 + 0)) cj22 (j := ((Int32.ofNat ((own_all [w0, w1] (Int32.ofNat (48 + nN)) cs_38) : List Int32).length) - (22 : Int32))) (own_eqOf ix22 (by omega)) (by decide) (by decide)) qa51 qc51 (g := (mkF m 589 #[.val (.int p0), .val (.int p1), .val (.int p2), .val (.int nI), .val (.int tc), .val (.int w0), .val (.int w1), .val (.ref b1), .val (.ref y_28), .val (.int p1), .val (.ref y_38), .val (.int (Int32.ofNat (48 + nN))), .val (.int (Int32.ofNat ((own_all [w0, w1] (Int32.ofNat (48 + nN)) cs_38) : List Int32).length)), .unset] [(.int ((Int32.ofNat ((own_all [w0, w1] (Int32.ofNat (48 + nN)) cs_38) : List Int32).length) - (22 : Int32))), (.ref y_38)])) rfl (by rw [hml]; rfl) (Steps.refl _) (argsL := [(.int ((Int32.ofNat ((own_all [w0, w1] (Int32.ofNat (48 + nN)) cs_38) : List Int32).length) - (22 : Int32)))]) (rest := []) (lenOf pd__I_C rfl) rfl (by show 2 * 0 + _ ≤ _; exact Nat.le_of_eq rfl) (hb hby at_589) (fun _ _ => ⟨rfl, eH50, (by decide : 21 + 0 ≤ _), (by decide : 481 + 0 ≤ _)⟩)
      dsimp only [Pt.U, Pt.locs, Pt.cells, Pt.slots] at X51 l51 y51 z51 st51 hQ51
      try dsimp only [Nat.reduceAdd] at y51 z51
      rw [l51, y51, z51] at X51
      obtain ⟨rfl, rfl, eH51⟩ := hQ51
      have N51 := Fr.app N50 (Fr.nil n0)
      refine own_tr st51 ?_
      show own_Go p e below T51 (mkF m 592 #[.val (.int p0), .val (.int p1), .val (.int p2), .val (.int nI), .val (.int tc), .val (.int w0), .val (.int w1), .val (.ref b1), .val (.ref y_28), .val (.int p1), .val (.ref y_38), .val (.int (Int32.ofNat (48 + nN))), .val (.int (Int32.ofNat ((own_all [w0, w1] (Int32.ofNat (48 + nN)) cs_38) : List Int32).length)), .unset] [(.int ((own_all [w0, w1] (Int32.ofNat (48 + nN)) cs_38).getD (34 + mm_38 + 0) 0))]) _
      refine own_st (fun t_ k_ => XS.bipush X51.here hx rfl (hb hby at_592) (XS.icmpNo X51.here hx rfl (hb hby at_594) rfl (teq (show ((own_all [w0, w1] (Int32.ofNat (48 + nN)) cs_38).getD (34 + mm_38 + 0) 0) = (32 : Int32) from (by rw [own_atT (j := 0) rfl (by rw [qd.1.1])]; rfl))).2 (XS.aload X51.here hx rfl (hb hby at_597) rfl rfl (XS.iload X51.here hx rfl (hb hby at_599) rfl (XS.iconst X51.here hx rfl (hb hby at_601) (XS.isub X51.here hx rfl (hb hby at_602) rfl k_)))))) ?_
      show own_Go p e below T51 (mkF m 603 #[.val (.int p0), .val (.int p1), .val (.int p2), .val (.int nI), .val (.int tc), .val (.int w0), .val (.int w1), .val (.ref b1), .val (.ref y_28), .val (.int p1), .val (.ref y_38), .val (.int (Int32.ofNat (48 + nN))), .val (.int (Int32.ofNat ((own_all [w0, w1] (Int32.ofNat (48 + nN)) cs_38) : List Int32).length)), .unset] [(.int ((Int32.ofNat ((own_all [w0, w1] (Int32.ofNat (48 + nN)) cs_38) : List Int32).length) - (1 : Int32))), (.ref y_38)]) _
      have ix1 : (((Int32.ofNat ((own_all [w0, w1] (Int32.ofNat (48 + nN)) cs_38) : List Int32).length) - (1 : Int32))).toInt = (((34 + mm_38 + 21) : Nat) : Int) := by rw [own_subI (by omega) (by decide), oA, show (1 : Int32).toInt = 1 from rfl]; omega
      have cj1 : (34 + mm_38 + 21) < (own_all [w0, w1] (Int32.ofNat (48 + nN)) cs_38).length := by omega
      obtain ⟨cq52, kq52, qa52, qb52, qc52⟩ := isOf hZ eH51 q38_0
      obtain ⟨_, _, ⟨T52, L52, k52, n52⟩, -, X52, ⟨Lc52, hQ52, l52, y52, z52⟩, st52⟩ := X51.virtualBack hx (y := (⟨"java/lang/String", "charAt", "(I)C"⟩ : MethodName)) (z := (⟨"java/lang/String", "charAt", "(I)C"⟩ : MethodName)) hown (mvT hZ (own_w hw 192 rfl)) (mvT hZ (own_w hw 193 rfl)) (notFace_of_selects (args := #[]) (mvT hZ (own_w hw 195 rfl))) (mvT hZ (own_w hw 195 rfl)) (mvT hZ (own_w hw 194 rfl)) (by decide) (StrChars.Road.chN (W := 0) hZ hch (kI := 4) (own_w hw 1 rfl) q38_0 q38_1 q38_2 Vb hcd41 hbd41 (pS_COMPACT_STRINGS.ext f42.2) pP5 (pS_SIOOBE_FORMATTER.ext f42.2) rfm q4A (i := (34 + mm_38 + 21)) cj1 (j := ((Int32.ofNat ((own_all [w0, w1] (Int32.ofNat (48 + nN)) cs_38) : List Int32).length) - (1 : Int32))) (own_eqOf ix1 (by omega)) (by decide) (by decide)) qa52 qc52 (g := (mkF m 603 #[.val (.int p0), .val (.int p1), .val (.int p2), .val (.int nI), .val (.int tc), .val (.int w0), .val (.int w1), .val (.ref b1), .val (.ref y_28), .val (.int p1), .val (.ref y_38), .val (.int (Int32.ofNat (48 + nN))), .val (.int (Int32.ofNat ((own_all [w0, w1] (Int32.ofNat (48 + nN)) cs_38) : List Int32).length)), .unset] [(.int ((Int32.ofNat ((own_all [w0, w1] (Int32.ofNat (48 + nN)) cs_38) : List Int32).length) - (1 : Int32))), (.ref y_38)])) rfl (by rw [hml]; rfl) (Steps.refl _) (argsL := [(.int ((Int32.ofNat ((own_all [w0, w1] (Int32.ofNat (48 + nN)) cs_38) : List Int32).length) - (1 : Int32)))]) (rest := []) (lenOf pd__I_C rfl) rfl (by show 2 * 0 + _ ≤ _; exact Nat.le_of_eq rfl) (hb hby at_603) (fun _ _ => ⟨rfl, eH51, (by decide : 21 + 0 ≤ _), (by decide : 481 + 0 ≤ _)⟩)
      dsimp only [Pt.U, Pt.locs, Pt.cells, Pt.slots] at X52 l52 y52 z52 st52 hQ52
      try dsimp only [Nat.reduceAdd] at y52 z52
      rw [l52, y52, z52] at X52
      obtain ⟨rfl, rfl, eH52⟩ := hQ52
      have N52 := Fr.app N51 (Fr.nil n0)
      refine own_tr st52 ?_
      show own_Go p e below T52 (mkF m 606 #[.val (.int p0), .val (.int p1), .val (.int p2), .val (.int nI), .val (.int tc), .val (.int w0), .val (.int w1), .val (.ref b1), .val (.ref y_28), .val (.int p1), .val (.ref y_38), .val (.int (Int32.ofNat (48 + nN))), .val (.int (Int32.ofNat ((own_all [w0, w1] (Int32.ofNat (48 + nN)) cs_38) : List Int32).length)), .unset] [(.int ((own_all [w0, w1] (Int32.ofNat (48 + nN)) cs_38).getD (34 + mm_38 + 21) 0))]) _
      refine own_st (fun t_ k_ => XS.bipush X52.here hx rfl (hb hby at_606) (XS.icmpNo X52.here hx rfl (hb hby at_608) rfl (teq (show ((own_all [w0, w1] (Int32.ofNat (48 + nN)) cs_38).getD (34 + mm_38 + 21) 0) = (115 : Int32) from (by rw [own_atT (j := 21) rfl (by rw [qd.1.1])]; rfl))).2 (XS.iconst X52.here hx rfl (hb hby at_611) (XS.goto X52.here hx rfl (pc0 := 612) (pc' := 616) rfl (hb hby at_612) (by decide) (by decide) k_)))) ?_
      show own_Go p e below T52 (mkF m 616 #[.val (.int p0), .val (.int p1), .val (.int p2), .val (.int nI), .val (.int tc), .val (.int w0), .val (.int w1), .val (.ref b1), .val (.ref y_28), .val (.int p1), .val (.ref y_38), .val (.int (Int32.ofNat (48 + nN))), .val (.int (Int32.ofNat ((own_all [w0, w1] (Int32.ofNat (48 + nN)) cs_38) : List Int32).length)), .unset] [(.int (1 : Int32))]) _
      obtain ⟨fs, hr, hrun, hended, hRW⟩ := X52.leaveW hS (by rw [eH52]; exact hK38) (v := some (.int (1 : Int32))) (fun h => by rw [Bd.returns] at h; cases h)
      have hCend : CHr Z own_EL s.vm s.heap T52.vm T52.heap := by
        rw [hh, eH52]
        exact CHr.trans CR39 (CHv.at X52 hZ hEL CH39)
      refine own_fin (retN X52 hx (t := .boolean) Bd.returns (by simp) (hb hby at_616) hr) ⟨hrun, hended, _, _, rfl, ?_, hCend, hRW.1, hRW.2.1, hRW.2.2.1, hRW.2.2.2.mono (by decide) (by decide)⟩
      show Q_rmLaw Z p0 p1 p2 zc fm dst dg1 DD1 dg2 DD2 h0 n0 _ T52.heap _
      rw [eH52]
      exact ⟨rfl, N52, K40⟩
    · skip
      refine own_st (fun t_ k_ => XS.ifNo X38.here hx rfl (hb hby at_111) rfl ((if0 _ _).trans (flt c111).1) k_) ?_
      show own_Go p e below T38 (mkF m 114 #[.val (.int p0), .val (.int p1), .val (.int p2), .val (.int nI), .val (.int tc), .val (.int w0), .val (.int w1), .val (.ref b1), .val (.ref y_28), .val (.int p1), .val (.ref y_38), .val (.int (Int32.ofNat (48 + nN))), .unset, .unset] []) _
      have h0l : 0 ≤ p1.toInt := by rw [Int32.lt_iff_toInt_lt, show (0 : Int32).toInt = 0 from rfl] at c111; omega
      have hll : p1.toInt < nI.toInt := by rw [Int32.lt_iff_toInt_lt] at cL; exact cL
      obtain ⟨lN, hlN, hl6⟩ := own_nat (x := p1) (b := 6) h0l (by omega)
      have qp := (qd.1.2.2.1 h0l (by omega)).2
      rw [hlN, Int.toNat_natCast] at qp
      have hd6 := own_d255 (d := lN) (by omega)
      refine own_st (fun t_ k_ => XS.bipush X38.here hx rfl (hb hby at_114) (XS.iload X38.here hx rfl (hb hby at_116) rfl (XS.iadd X38.here hx rfl (hb hby at_118) rfl (XS.i2c X38.here hx rfl (hb hby at_119) rfl k_)))) ?_
      show own_Go p e below T38 (mkF m 120 #[.val (.int p0), .val (.int p1), .val (.int p2), .val (.int nI), .val (.int tc), .val (.int w0), .val (.int w1), .val (.ref b1), .val (.ref y_28), .val (.int p1), .val (.ref y_38), .val (.int (Int32.ofNat (48 + nN))), .unset, .unset] [(.int (((48 : Int32) + p1).toUInt32.toUInt16.toUInt32.toInt32))]) _
      rw [own_dI hlN (show lN ≤ 9 by omega)]
      show own_Go p e below T38 (mkF m 120 #[.val (.int p0), .val (.int p1), .val (.int p2), .val (.int nI), .val (.int tc), .val (.int w0), .val (.int w1), .val (.ref b1), .val (.ref y_28), .val (.int p1), .val (.ref y_38), .val (.int (Int32.ofNat (48 + nN))), .unset, .unset] [(.int (Int32.ofNat (48 + lN)))]) _
      refine own_st (fun t_ k_ => XS.istore X38.here hx rfl (hb hby at_120) rfl (l' := #[.val (.int p0), .val (.int p1), .val (.int p2), .val (.int nI), .val (.int tc), .val (.int w0), .val (.int w1), .val (.ref b1), .val (.ref y_28), .val (.int p1), .val (.ref y_38), .val (.int (Int32.ofNat (48 + nN))), .val (.int (Int32.ofNat (48 + lN))), .unset]) rfl k_) ?_
      show own_Go p e below T38 (mkF m 122 #[.val (.int p0), .val (.int p1), .val (.int p2), .val (.int nI), .val (.int tc), .val (.int w0), .val (.int w1), .val (.ref b1), .val (.ref y_28), .val (.int p1), .val (.ref y_38), .val (.int (Int32.ofNat (48 + nN))), .val (.int (Int32.ofNat (48 + lN))), .unset] []) _
      have f53 := (Nat.le_trans f32 Kq38.1)
      obtain ⟨T54, h54, X54, e54, E54, A54, D54, -, st54⟩ := newO X38 hx hZ hown (own_w hw 0 rfl) (own_w hw 1 rfl) (own_w hw 2 rfl) rfl (g := (mkF m 122 #[.val (.int p0), .val (.int p1), .val (.int p2), .val (.int nI), .val (.int tc), .val (.int w0), .val (.int w1), .val (.ref b1), .val (.ref y_28), .val (.int p1), .val (.ref y_38), .val (.int (Int32.ofNat (48 + nN))), .val (.int (Int32.ofNat (48 + lN))), .unset] [])) rfl (hb hby at_122) (by decide) (by decide)
      obtain ⟨b54, g54⟩ : ∃ z, z = T38.heap.size := ⟨_, rfl⟩
      rw [← g54] at A54 D54 st54
      have G54 : n0 ≤ b54 := Nat.le_trans f53 (Nat.le_of_eq g54.symm)
      have B54 : h0.size ≤ b54 := Nat.le_trans K40.1 (Nat.le_of_eq g54.symm)
      have CH55 := CH39.ext E54
      have CR55 := CHr.trans CR39 (CHr.ext E54 CH39)
      have K56 : Keep h0 h54 [] := K40.ext E54
      have SF54 : Safe Z own_EL T38.vm h54 b54 := Safe.ext E54 CH39 (Safe.new (x := b54) (Nat.le_of_eq g54.symm))
      have D54_coder : Fld Z h54 b54 "java/lang/String" "coder" "B" (.int (0 : Int32)) := D54 (Or.inr (own_w hw 27 rfl)) (ty := .byte) (by decide)
      have D54_value : Fld Z h54 b54 "java/lang/String" "value" "[B" .null := D54 (Or.inr (own_w hw 29 rfl)) (ty := (.array .byte)) (by decide)
      refine own_st st54 ?_
      show own_Go p e below T54 (mkF m 125 #[.val (.int p0), .val (.int p1), .val (.int p2), .val (.int nI), .val (.int tc), .val (.int w0), .val (.int w1), .val (.ref b1), .val (.ref y_28), .val (.int p1), .val (.ref y_38), .val (.int (Int32.ofNat (48 + nN))), .val (.int (Int32.ofNat (48 + lN))), .unset] [(.ref b54)]) _
      refine own_st (fun t_ k_ => XS.dup X54.here hx rfl (hb hby at_125) rfl rfl (XS.bipush X54.here hx rfl (hb hby at_126) k_)) ?_
      show own_Go p e below T54 (mkF m 128 #[.val (.int p0), .val (.int p1), .val (.int p2), .val (.int nI), .val (.int tc), .val (.int w0), .val (.int w1), .val (.ref b1), .val (.ref y_28), .val (.int p1), .val (.ref y_38), .val (.int (Int32.ofNat (48 + nN))), .val (.int (Int32.ofNat (48 + lN))), .unset] [(.int (57 : Int32)), (.ref b54), (.ref b54)]) _
      have f57 := (Nat.le_trans f53 E54.1)
      obtain ⟨T58, h58, k58, X58, e58, E58, A58, st58⟩ := newP X54 hx hZ (own_w hw 3 rfl) e54 (g := (mkF m 128 #[.val (.int p0), .val (.int p1), .val (.int p2), .val (.int nI), .val (.int tc), .val (.int w0), .val (.int w1), .val (.ref b1), .val (.ref y_28), .val (.int p1), .val (.ref y_38), .val (.int (Int32.ofNat (48 + nN))), .val (.int (Int32.ofNat (48 + lN))), .unset] [(.int (57 : Int32)), (.ref b54), (.ref b54)])) rfl (hb hby at_128) rfl (by decide) (cap := 57) (by decide) (by decide) (by decide) (by decide)
      obtain ⟨b58, g58⟩ : ∃ z, z = h54.size := ⟨_, rfl⟩
      rw [← g58] at A58 st58
      have G58 : n0 ≤ b58 := Nat.le_trans f57 (Nat.le_of_eq g58.symm)
      have B58 : h0.size ≤ b58 := Nat.le_trans K56.1 (Nat.le_of_eq g58.symm)
      have CH59 := CH55.ext E58
      have CR59 := CHr.trans CR55 (CHr.ext E58 CH55)
      have K60 : Keep h0 h58 [] := K56.ext E58
      have V58 : Arv Z h58 b58 k58 .char (57 : Int32) [(.int (0 : Int32)), (.int (0 : Int32)), (.int (0 : Int32)), (.int (0 : Int32)), (.int (0 : Int32)), (.int (0 : Int32)), (.int (0 : Int32)), (.int (0 : Int32)), (.int (0 : Int32)), (.int (0 : Int32)), (.int (0 : Int32)), (.int (0 : Int32)), (.int (0 : Int32)), (.int (0 : Int32)), (.int (0 : Int32)), (.int (0 : Int32)), (.int (0 : Int32)), (.int (0 : Int32)), (.int (0 : Int32)), (.int (0 : Int32)), (.int (0 : Int32)), (.int (0 : Int32)), (.int (0 : Int32)), (.int (0 : Int32)), (.int (0 : Int32)), (.int (0 : Int32)), (.int (0 : Int32)), (.int (0 : Int32)), (.int (0 : Int32)), (.int (0 : Int32)), (.int (0 : Int32)), (.int (0 : Int32)), (.int (0 : Int32)), (.int (0 : Int32)), (.int (0 : Int32)), (.int (0 : Int32)), (.int (0 : Int32)), (.int (0 : Int32)), (.int (0 : Int32)), (.int (0 : Int32)), (.int (0 : Int32)), (.int (0 : Int32)), (.int (0 : Int32)), (.int (0 : Int32)), (.int (0 : Int32)), (.int (0 : Int32)), (.int (0 : Int32)), (.int (0 : Int32)), (.int (0 : Int32)), (.int (0 : Int32)), (.int (0 : Int32)), (.int (0 : Int32)), (.int (0 : Int32)), (.int (0 : Int32)), (.int (0 : Int32)), (.int (0 : Int32)), (.int (0 : Int32))] (.int (0 : Int32)) := (Arv.new A58 (by decide)).pad (pad_rep [] (.int (0 : Int32)) 57)
      refine own_st st58 ?_
      show own_Go p e below T58 (mkF m 130 #[.val (.int p0), .val (.int p1), .val (.int p2), .val (.int nI), .val (.int tc), .val (.int w0), .val (.int w1), .val (.ref b1), .val (.ref y_28), .val (.int p1), .val (.ref y_38), .val (.int (Int32.ofNat (48 + nN))), .val (.int (Int32.ofNat (48 + lN))), .unset] [(.ref b58), (.ref b54), (.ref b54)]) _
      obtain ⟨Ls61, hLs61⟩ : ∃ l : List Int32, l = [] := ⟨_, rfl⟩
      have hl61 : Ls61.length = 0 := by rw [hLs61]; rfl
      have Vp61 : Arv Z h58 b58 k58 .char (57 : Int32) (Ls61.reverse.map Value.int ++ List.replicate 57 (.int (0 : Int32))) (.int (0 : Int32)) := by rw [hLs61]; exact V58
      refine own_st (fun t_ k_ => XS.dup X58.here hx rfl (hb hby at_130) rfl rfl (XS.iconst X58.here hx rfl (hb hby at_131) (XS.iload X58.here hx rfl (hb hby at_132) rfl k_))) ?_
      show own_Go p e below T58 (mkF m 134 #[.val (.int p0), .val (.int p1), .val (.int p2), .val (.int nI), .val (.int tc), .val (.int w0), .val (.int w1), .val (.ref b1), .val (.ref y_28), .val (.int p1), .val (.ref y_38), .val (.int (Int32.ofNat (48 + nN))), .val (.int (Int32.ofNat (48 + lN))), .unset] [(.int w0), (.int (0 : Int32)), (.ref b58), (.ref b58), (.ref b54), (.ref b54)]) _
      refine own_cst (r := 56) (i := 0) X58 hx hZ e58 Vp61 hl61 rfl ⟨by decide, by decide⟩ (own_nar h_w0) N38 (Keep.refl h58 [b58]) G58 (hb hby at_134) (fun T62 h62 L62 Ls62 X62 e62 hLs62 hl62 V62 N62 K62 => ?_)
      show own_Go p e below T62 (mkF m 135 #[.val (.int p0), .val (.int p1), .val (.int p2), .val (.int nI), .val (.int tc), .val (.int w0), .val (.int w1), .val (.ref b1), .val (.ref y_28), .val (.int p1), .val (.ref y_38), .val (.int (Int32.ofNat (48 + nN))), .val (.int (Int32.ofNat (48 + lN))), .unset] [(.ref b58), (.ref b54), (.ref b54)]) _
      refine own_st (fun t_ k_ => XS.dup X62.here hx rfl (hb hby at_135) rfl rfl (XS.iconst X62.here hx rfl (hb hby at_136) (XS.iload X62.here hx rfl (hb hby at_137) rfl k_))) ?_
      show own_Go p e below T62 (mkF m 139 #[.val (.int p0), .val (.int p1), .val (.int p2), .val (.int nI), .val (.int tc), .val (.int w0), .val (.int w1), .val (.ref b1), .val (.ref y_28), .val (.int p1), .val (.ref y_38), .val (.int (Int32.ofNat (48 + nN))), .val (.int (Int32.ofNat (48 + lN))), .unset] [(.int w1), (.int (1 : Int32)), (.ref b58), (.ref b58), (.ref b54), (.ref b54)]) _
      refine own_cst (r := 55) (i := 1) X62 hx hZ e62 V62 hl62 rfl ⟨by decide, by decide⟩ (own_nar h_w1) N62 K62 G58 (hb hby at_139) (fun T63 h63 L63 Ls63 X63 e63 hLs63 hl63 V63 N63 K63 => ?_)
      show own_Go p e below T63 (mkF m 140 #[.val (.int p0), .val (.int p1), .val (.int p2), .val (.int nI), .val (.int tc), .val (.int w0), .val (.int w1), .val (.ref b1), .val (.ref y_28), .val (.int p1), .val (.ref y_38), .val (.int (Int32.ofNat (48 + nN))), .val (.int (Int32.ofNat (48 + lN))), .unset] [(.ref b58), (.ref b54), (.ref b54)]) _
      refine own_st (fun t_ k_ => XS.dup X63.here hx rfl (hb hby at_140) rfl rfl (XS.iconst X63.here hx rfl (hb hby at_141) (XS.bipush X63.here hx rfl (hb hby at_142) k_))) ?_
      show own_Go p e below T63 (mkF m 144 #[.val (.int p0), .val (.int p1), .val (.int p2), .val (.int nI), .val (.int tc), .val (.int w0), .val (.int w1), .val (.ref b1), .val (.ref y_28), .val (.int p1), .val (.ref y_38), .val (.int (Int32.ofNat (48 + nN))), .val (.int (Int32.ofNat (48 + lN))), .unset] [(.int (32 : Int32)), (.int (2 : Int32)), (.ref b58), (.ref b58), (.ref b54), (.ref b54)]) _
      refine own_cst (r := 54) (i := 2) X63 hx hZ e63 V63 hl63 rfl ⟨by decide, by decide⟩ rfl N63 K63 G58 (hb hby at_144) (fun T64 h64 L64 Ls64 X64 e64 hLs64 hl64 V64 N64 K64 => ?_)
      show own_Go p e below T64 (mkF m 145 #[.val (.int p0), .val (.int p1), .val (.int p2), .val (.int nI), .val (.int tc), .val (.int w0), .val (.int w1), .val (.ref b1), .val (.ref y_28), .val (.int p1), .val (.ref y_38), .val (.int (Int32.ofNat (48 + nN))), .val (.int (Int32.ofNat (48 + lN))), .unset] [(.ref b58), (.ref b54), (.ref b54)]) _
      refine own_st (fun t_ k_ => XS.dup X64.here hx rfl (hb hby at_145) rfl rfl (XS.iconst X64.here hx rfl (hb hby at_146) (XS.bipush X64.here hx rfl (hb hby at_147) k_))) ?_
      show own_Go p e below T64 (mkF m 149 #[.val (.int p0), .val (.int p1), .val (.int p2), .val (.int nI), .val (.int tc), .val (.int w0), .val (.int w1), .val (.ref b1), .val (.ref y_28), .val (.int p1), .val (.ref y_38), .val (.int (Int32.ofNat (48 + nN))), .val (.int (Int32.ofNat (48 + lN))), .unset] [(.int (111 : Int32)), (.int (3 : Int32)), (.ref b58), (.ref b58), (.ref b54), (.ref b54)]) _
      refine own_cst (r := 53) (i := 3) X64 hx hZ e64 V64 hl64 rfl ⟨by decide, by decide⟩ rfl N64 K64 G58 (hb hby at_149) (fun T65 h65 L65 Ls65 X65 e65 hLs65 hl65 V65 N65 K65 => ?_)
      show own_Go p e below T65 (mkF m 150 #[.val (.int p0), .val (.int p1), .val (.int p2), .val (.int nI), .val (.int tc), .val (.int w0), .val (.int w1), .val (.ref b1), .val (.ref y_28), .val (.int p1), .val (.ref y_38), .val (.int (Int32.ofNat (48 + nN))), .val (.int (Int32.ofNat (48 + lN))), .unset] [(.ref b58), (.ref b54), (.ref b54)]) _
      refine own_st (fun t_ k_ => XS.dup X65.here hx rfl (hb hby at_150) rfl rfl (XS.iconst X65.here hx rfl (hb hby at_151) (XS.bipush X65.here hx rfl (hb hby at_152) k_))) ?_
      show own_Go p e below T65 (mkF m 154 #[.val (.int p0), .val (.int p1), .val (.int p2), .val (.int nI), .val (.int tc), .val (.int w0), .val (.int w1), .val (.ref b1), .val (.ref y_28), .val (.int p1), .val (.ref y_38), .val (.int (Int32.ofNat (48 + nN))), .val (.int (Int32.ofNat (48 + lN))), .unset] [(.int (102 : Int32)), (.int (4 : Int32)), (.ref b58), (.ref b58), (.ref b54), (.ref b54)]) _
      refine own_cst (r := 52) (i := 4) X65 hx hZ e65 V65 hl65 rfl ⟨by decide, by decide⟩ rfl N65 K65 G58 (hb hby at_154) (fun T66 h66 L66 Ls66 X66 e66 hLs66 hl66 V66 N66 K66 => ?_)
      show own_Go p e below T66 (mkF m 155 #[.val (.int p0), .val (.int p1), .val (.int p2), .val (.int nI), .val (.int tc), .val (.int w0), .val (.int w1), .val (.ref b1), .val (.ref y_28), .val (.int p1), .val (.ref y_38), .val (.int (Int32.ofNat (48 + nN))), .val (.int (Int32.ofNat (48 + lN))), .unset] [(.ref b58), (.ref b54), (.ref b54)]) _
      refine own_st (fun t_ k_ => XS.dup X66.here hx rfl (hb hby at_155) rfl rfl (XS.iconst X66.here hx rfl (hb hby at_156) (XS.bipush X66.here hx rfl (hb hby at_157) k_))) ?_
      show own_Go p e below T66 (mkF m 159 #[.val (.int p0), .val (.int p1), .val (.int p2), .val (.int nI), .val (.int tc), .val (.int w0), .val (.int w1), .val (.ref b1), .val (.ref y_28), .val (.int p1), .val (.ref y_38), .val (.int (Int32.ofNat (48 + nN))), .val (.int (Int32.ofNat (48 + lN))), .unset] [(.int (32 : Int32)), (.int (5 : Int32)), (.ref b58), (.ref b58), (.ref b54), (.ref b54)]) _
      refine own_cst (r := 51) (i := 5) X66 hx hZ e66 V66 hl66 rfl ⟨by decide, by decide⟩ rfl N66 K66 G58 (hb hby at_159) (fun T67 h67 L67 Ls67 X67 e67 hLs67 hl67 V67 N67 K67 => ?_)
      show own_Go p e below T67 (mkF m 160 #[.val (.int p0), .val (.int p1), .val (.int p2), .val (.int nI), .val (.int tc), .val (.int w0), .val (.int w1), .val (.ref b1), .val (.ref y_28), .val (.int p1), .val (.ref y_38), .val (.int (Int32.ofNat (48 + nN))), .val (.int (Int32.ofNat (48 + lN))), .unset] [(.ref b58), (.ref b54), (.ref b54)]) _
      refine own_st (fun t_ k_ => XS.dup X67.here hx rfl (hb hby at_160) rfl rfl (XS.bipush X67.here hx rfl (hb hby at_161) (XS.iload X67.here hx rfl (hb hby at_163) rfl k_))) ?_
      show own_Go p e below T67 (mkF m 165 #[.val (.int p0), .val (.int p1), .val (.int p2), .val (.int nI), .val (.int tc), .val (.int w0), .val (.int w1), .val (.ref b1), .val (.ref y_28), .val (.int p1), .val (.ref y_38), .val (.int (Int32.ofNat (48 + nN))), .val (.int (Int32.ofNat (48 + lN))), .unset] [(.int (Int32.ofNat (48 + nN))), (.int (6 : Int32)), (.ref b58), (.ref b58), (.ref b54), (.ref b54)]) _
      refine own_cst (r := 50) (i := 6) X67 hx hZ e67 V67 hl67 rfl ⟨by decide, by decide⟩ (own_nar hd7) N67 K67 G58 (hb hby at_165) (fun T68 h68 L68 Ls68 X68 e68 hLs68 hl68 V68 N68 K68 => ?_)
      show own_Go p e below T68 (mkF m 166 #[.val (.int p0), .val (.int p1), .val (.int p2), .val (.int nI), .val (.int tc), .val (.int w0), .val (.int w1), .val (.ref b1), .val (.ref y_28), .val (.int p1), .val (.ref y_38), .val (.int (Int32.ofNat (48 + nN))), .val (.int (Int32.ofNat (48 + lN))), .unset] [(.ref b58), (.ref b54), (.ref b54)]) _
      refine own_st (fun t_ k_ => XS.dup X68.here hx rfl (hb hby at_166) rfl rfl (XS.bipush X68.here hx rfl (hb hby at_167) (XS.bipush X68.here hx rfl (hb hby at_169) k_))) ?_
      show own_Go p e below T68 (mkF m 171 #[.val (.int p0), .val (.int p1), .val (.int p2), .val (.int nI), .val (.int tc), .val (.int w0), .val (.int w1), .val (.ref b1), .val (.ref y_28), .val (.int p1), .val (.ref y_38), .val (.int (Int32.ofNat (48 + nN))), .val (.int (Int32.ofNat (48 + lN))), .unset] [(.int (32 : Int32)), (.int (7 : Int32)), (.ref b58), (.ref b58), (.ref b54), (.ref b54)]) _
      refine own_cst (r := 49) (i := 7) X68 hx hZ e68 V68 hl68 rfl ⟨by decide, by decide⟩ rfl N68 K68 G58 (hb hby at_171) (fun T69 h69 L69 Ls69 X69 e69 hLs69 hl69 V69 N69 K69 => ?_)
      show own_Go p e below T69 (mkF m 172 #[.val (.int p0), .val (.int p1), .val (.int p2), .val (.int nI), .val (.int tc), .val (.int w0), .val (.int w1), .val (.ref b1), .val (.ref y_28), .val (.int p1), .val (.ref y_38), .val (.int (Int32.ofNat (48 + nN))), .val (.int (Int32.ofNat (48 + lN))), .unset] [(.ref b58), (.ref b54), (.ref b54)]) _
      refine own_st (fun t_ k_ => XS.dup X69.here hx rfl (hb hby at_172) rfl rfl (XS.bipush X69.here hx rfl (hb hby at_173) (XS.bipush X69.here hx rfl (hb hby at_175) k_))) ?_
      show own_Go p e below T69 (mkF m 177 #[.val (.int p0), .val (.int p1), .val (.int p2), .val (.int nI), .val (.int tc), .val (.int w0), .val (.int w1), .val (.ref b1), .val (.ref y_28), .val (.int p1), .val (.ref y_38), .val (.int (Int32.ofNat (48 + nN))), .val (.int (Int32.ofNat (48 + lN))), .unset] [(.int (99 : Int32)), (.int (8 : Int32)), (.ref b58), (.ref b58), (.ref b54), (.ref b54)]) _
      refine own_cst (r := 48) (i := 8) X69 hx hZ e69 V69 hl69 rfl ⟨by decide, by decide⟩ rfl N69 K69 G58 (hb hby at_177) (fun T70 h70 L70 Ls70 X70 e70 hLs70 hl70 V70 N70 K70 => ?_)
      show own_Go p e below T70 (mkF m 178 #[.val (.int p0), .val (.int p1), .val (.int p2), .val (.int nI), .val (.int tc), .val (.int w0), .val (.int w1), .val (.ref b1), .val (.ref y_28), .val (.int p1), .val (.ref y_38), .val (.int (Int32.ofNat (48 + nN))), .val (.int (Int32.ofNat (48 + lN))), .unset] [(.ref b58), (.ref b54), (.ref b54)]) _
      refine own_st (fun t_ k_ => XS.dup X70.here hx rfl (hb hby at_178) rfl rfl (XS.bipush X70.here hx rfl (hb hby at_179) (XS.bipush X70.here hx rfl (hb hby at_181) k_))) ?_
      show own_Go p e below T70 (mkF m 183 #[.val (.int p0), .val (.int p1), .val (.int p2), .val (.int nI), .val (.int tc), .val (.int w0), .val (.int w1), .val (.ref b1), .val (.ref y_28), .val (.int p1), .val (.ref y_38), .val (.int (Int32.ofNat (48 + nN))), .val (.int (Int32.ofNat (48 + lN))), .unset] [(.int (104 : Int32)), (.int (9 : Int32)), (.ref b58), (.ref b58), (.ref b54), (.ref b54)]) _
      refine own_cst (r := 47) (i := 9) X70 hx hZ e70 V70 hl70 rfl ⟨by decide, by decide⟩ rfl N70 K70 G58 (hb hby at_183) (fun T71 h71 L71 Ls71 X71 e71 hLs71 hl71 V71 N71 K71 => ?_)
      show own_Go p e below T71 (mkF m 184 #[.val (.int p0), .val (.int p1), .val (.int p2), .val (.int nI), .val (.int tc), .val (.int w0), .val (.int w1), .val (.ref b1), .val (.ref y_28), .val (.int p1), .val (.ref y_38), .val (.int (Int32.ofNat (48 + nN))), .val (.int (Int32.ofNat (48 + lN))), .unset] [(.ref b58), (.ref b54), (.ref b54)]) _
      refine own_st (fun t_ k_ => XS.dup X71.here hx rfl (hb hby at_184) rfl rfl (XS.bipush X71.here hx rfl (hb hby at_185) (XS.bipush X71.here hx rfl (hb hby at_187) k_))) ?_
      show own_Go p e below T71 (mkF m 189 #[.val (.int p0), .val (.int p1), .val (.int p2), .val (.int nI), .val (.int tc), .val (.int w0), .val (.int w1), .val (.ref b1), .val (.ref y_28), .val (.int p1), .val (.ref y_38), .val (.int (Int32.ofNat (48 + nN))), .val (.int (Int32.ofNat (48 + lN))), .unset] [(.int (97 : Int32)), (.int (10 : Int32)), (.ref b58), (.ref b58), (.ref b54), (.ref b54)]) _
      refine own_cst (r := 46) (i := 10) X71 hx hZ e71 V71 hl71 rfl ⟨by decide, by decide⟩ rfl N71 K71 G58 (hb hby at_189) (fun T72 h72 L72 Ls72 X72 e72 hLs72 hl72 V72 N72 K72 => ?_)
      show own_Go p e below T72 (mkF m 190 #[.val (.int p0), .val (.int p1), .val (.int p2), .val (.int nI), .val (.int tc), .val (.int w0), .val (.int w1), .val (.ref b1), .val (.ref y_28), .val (.int p1), .val (.ref y_38), .val (.int (Int32.ofNat (48 + nN))), .val (.int (Int32.ofNat (48 + lN))), .unset] [(.ref b58), (.ref b54), (.ref b54)]) _
      refine own_st (fun t_ k_ => XS.dup X72.here hx rfl (hb hby at_190) rfl rfl (XS.bipush X72.here hx rfl (hb hby at_191) (XS.bipush X72.here hx rfl (hb hby at_193) k_))) ?_
      show own_Go p e below T72 (mkF m 195 #[.val (.int p0), .val (.int p1), .val (.int p2), .val (.int nI), .val (.int tc), .val (.int w0), .val (.int w1), .val (.ref b1), .val (.ref y_28), .val (.int p1), .val (.ref y_38), .val (.int (Int32.ofNat (48 + nN))), .val (.int (Int32.ofNat (48 + lN))), .unset] [(.int (114 : Int32)), (.int (11 : Int32)), (.ref b58), (.ref b58), (.ref b54), (.ref b54)]) _
      refine own_cst (r := 45) (i := 11) X72 hx hZ e72 V72 hl72 rfl ⟨by decide, by decide⟩ rfl N72 K72 G58 (hb hby at_195) (fun T73 h73 L73 Ls73 X73 e73 hLs73 hl73 V73 N73 K73 => ?_)
      show own_Go p e below T73 (mkF m 196 #[.val (.int p0), .val (.int p1), .val (.int p2), .val (.int nI), .val (.int tc), .val (.int w0), .val (.int w1), .val (.ref b1), .val (.ref y_28), .val (.int p1), .val (.ref y_38), .val (.int (Int32.ofNat (48 + nN))), .val (.int (Int32.ofNat (48 + lN))), .unset] [(.ref b58), (.ref b54), (.ref b54)]) _
      refine own_st (fun t_ k_ => XS.dup X73.here hx rfl (hb hby at_196) rfl rfl (XS.bipush X73.here hx rfl (hb hby at_197) (XS.bipush X73.here hx rfl (hb hby at_199) k_))) ?_
      show own_Go p e below T73 (mkF m 201 #[.val (.int p0), .val (.int p1), .val (.int p2), .val (.int nI), .val (.int tc), .val (.int w0), .val (.int w1), .val (.ref b1), .val (.ref y_28), .val (.int p1), .val (.ref y_38), .val (.int (Int32.ofNat (48 + nN))), .val (.int (Int32.ofNat (48 + lN))), .unset] [(.int (97 : Int32)), (.int (12 : Int32)), (.ref b58), (.ref b58), (.ref b54), (.ref b54)]) _
      refine own_cst (r := 44) (i := 12) X73 hx hZ e73 V73 hl73 rfl ⟨by decide, by decide⟩ rfl N73 K73 G58 (hb hby at_201) (fun T74 h74 L74 Ls74 X74 e74 hLs74 hl74 V74 N74 K74 => ?_)
      show own_Go p e below T74 (mkF m 202 #[.val (.int p0), .val (.int p1), .val (.int p2), .val (.int nI), .val (.int tc), .val (.int w0), .val (.int w1), .val (.ref b1), .val (.ref y_28), .val (.int p1), .val (.ref y_38), .val (.int (Int32.ofNat (48 + nN))), .val (.int (Int32.ofNat (48 + lN))), .unset] [(.ref b58), (.ref b54), (.ref b54)]) _
      refine own_st (fun t_ k_ => XS.dup X74.here hx rfl (hb hby at_202) rfl rfl (XS.bipush X74.here hx rfl (hb hby at_203) (XS.bipush X74.here hx rfl (hb hby at_205) k_))) ?_
      show own_Go p e below T74 (mkF m 207 #[.val (.int p0), .val (.int p1), .val (.int p2), .val (.int nI), .val (.int tc), .val (.int w0), .val (.int w1), .val (.ref b1), .val (.ref y_28), .val (.int p1), .val (.ref y_38), .val (.int (Int32.ofNat (48 + nN))), .val (.int (Int32.ofNat (48 + lN))), .unset] [(.int (99 : Int32)), (.int (13 : Int32)), (.ref b58), (.ref b58), (.ref b54), (.ref b54)]) _
      refine own_cst (r := 43) (i := 13) X74 hx hZ e74 V74 hl74 rfl ⟨by decide, by decide⟩ rfl N74 K74 G58 (hb hby at_207) (fun T75 h75 L75 Ls75 X75 e75 hLs75 hl75 V75 N75 K75 => ?_)
      show own_Go p e below T75 (mkF m 208 #[.val (.int p0), .val (.int p1), .val (.int p2), .val (.int nI), .val (.int tc), .val (.int w0), .val (.int w1), .val (.ref b1), .val (.ref y_28), .val (.int p1), .val (.ref y_38), .val (.int (Int32.ofNat (48 + nN))), .val (.int (Int32.ofNat (48 + lN))), .unset] [(.ref b58), (.ref b54), (.ref b54)]) _
      refine own_st (fun t_ k_ => XS.dup X75.here hx rfl (hb hby at_208) rfl rfl (XS.bipush X75.here hx rfl (hb hby at_209) (XS.bipush X75.here hx rfl (hb hby at_211) k_))) ?_
      show own_Go p e below T75 (mkF m 213 #[.val (.int p0), .val (.int p1), .val (.int p2), .val (.int nI), .val (.int tc), .val (.int w0), .val (.int w1), .val (.ref b1), .val (.ref y_28), .val (.int p1), .val (.ref y_38), .val (.int (Int32.ofNat (48 + nN))), .val (.int (Int32.ofNat (48 + lN))), .unset] [(.int (116 : Int32)), (.int (14 : Int32)), (.ref b58), (.ref b58), (.ref b54), (.ref b54)]) _
      refine own_cst (r := 42) (i := 14) X75 hx hZ e75 V75 hl75 rfl ⟨by decide, by decide⟩ rfl N75 K75 G58 (hb hby at_213) (fun T76 h76 L76 Ls76 X76 e76 hLs76 hl76 V76 N76 K76 => ?_)
      show own_Go p e below T76 (mkF m 214 #[.val (.int p0), .val (.int p1), .val (.int p2), .val (.int nI), .val (.int tc), .val (.int w0), .val (.int w1), .val (.ref b1), .val (.ref y_28), .val (.int p1), .val (.ref y_38), .val (.int (Int32.ofNat (48 + nN))), .val (.int (Int32.ofNat (48 + lN))), .unset] [(.ref b58), (.ref b54), (.ref b54)]) _
      refine own_st (fun t_ k_ => XS.dup X76.here hx rfl (hb hby at_214) rfl rfl (XS.bipush X76.here hx rfl (hb hby at_215) (XS.bipush X76.here hx rfl (hb hby at_217) k_))) ?_
      show own_Go p e below T76 (mkF m 219 #[.val (.int p0), .val (.int p1), .val (.int p2), .val (.int nI), .val (.int tc), .val (.int w0), .val (.int w1), .val (.ref b1), .val (.ref y_28), .val (.int p1), .val (.ref y_38), .val (.int (Int32.ofNat (48 + nN))), .val (.int (Int32.ofNat (48 + lN))), .unset] [(.int (101 : Int32)), (.int (15 : Int32)), (.ref b58), (.ref b58), (.ref b54), (.ref b54)]) _
      refine own_cst (r := 41) (i := 15) X76 hx hZ e76 V76 hl76 rfl ⟨by decide, by decide⟩ rfl N76 K76 G58 (hb hby at_219) (fun T77 h77 L77 Ls77 X77 e77 hLs77 hl77 V77 N77 K77 => ?_)
      show own_Go p e below T77 (mkF m 220 #[.val (.int p0), .val (.int p1), .val (.int p2), .val (.int nI), .val (.int tc), .val (.int w0), .val (.int w1), .val (.ref b1), .val (.ref y_28), .val (.int p1), .val (.ref y_38), .val (.int (Int32.ofNat (48 + nN))), .val (.int (Int32.ofNat (48 + lN))), .unset] [(.ref b58), (.ref b54), (.ref b54)]) _
      refine own_st (fun t_ k_ => XS.dup X77.here hx rfl (hb hby at_220) rfl rfl (XS.bipush X77.here hx rfl (hb hby at_221) (XS.bipush X77.here hx rfl (hb hby at_223) k_))) ?_
      show own_Go p e below T77 (mkF m 225 #[.val (.int p0), .val (.int p1), .val (.int p2), .val (.int nI), .val (.int tc), .val (.int w0), .val (.int w1), .val (.ref b1), .val (.ref y_28), .val (.int p1), .val (.ref y_38), .val (.int (Int32.ofNat (48 + nN))), .val (.int (Int32.ofNat (48 + lN))), .unset] [(.int (114 : Int32)), (.int (16 : Int32)), (.ref b58), (.ref b58), (.ref b54), (.ref b54)]) _
      refine own_cst (r := 40) (i := 16) X77 hx hZ e77 V77 hl77 rfl ⟨by decide, by decide⟩ rfl N77 K77 G58 (hb hby at_225) (fun T78 h78 L78 Ls78 X78 e78 hLs78 hl78 V78 N78 K78 => ?_)
      show own_Go p e below T78 (mkF m 226 #[.val (.int p0), .val (.int p1), .val (.int p2), .val (.int nI), .val (.int tc), .val (.int w0), .val (.int w1), .val (.ref b1), .val (.ref y_28), .val (.int p1), .val (.ref y_38), .val (.int (Int32.ofNat (48 + nN))), .val (.int (Int32.ofNat (48 + lN))), .unset] [(.ref b58), (.ref b54), (.ref b54)]) _
      refine own_st (fun t_ k_ => XS.dup X78.here hx rfl (hb hby at_226) rfl rfl (XS.bipush X78.here hx rfl (hb hby at_227) (XS.bipush X78.here hx rfl (hb hby at_229) k_))) ?_
      show own_Go p e below T78 (mkF m 231 #[.val (.int p0), .val (.int p1), .val (.int p2), .val (.int nI), .val (.int tc), .val (.int w0), .val (.int w1), .val (.ref b1), .val (.ref y_28), .val (.int p1), .val (.ref y_38), .val (.int (Int32.ofNat (48 + nN))), .val (.int (Int32.ofNat (48 + lN))), .unset] [(.int (115 : Int32)), (.int (17 : Int32)), (.ref b58), (.ref b58), (.ref b54), (.ref b54)]) _
      refine own_cst (r := 39) (i := 17) X78 hx hZ e78 V78 hl78 rfl ⟨by decide, by decide⟩ rfl N78 K78 G58 (hb hby at_231) (fun T79 h79 L79 Ls79 X79 e79 hLs79 hl79 V79 N79 K79 => ?_)
      show own_Go p e below T79 (mkF m 232 #[.val (.int p0), .val (.int p1), .val (.int p2), .val (.int nI), .val (.int tc), .val (.int w0), .val (.int w1), .val (.ref b1), .val (.ref y_28), .val (.int p1), .val (.ref y_38), .val (.int (Int32.ofNat (48 + nN))), .val (.int (Int32.ofNat (48 + lN))), .unset] [(.ref b58), (.ref b54), (.ref b54)]) _
      refine own_st (fun t_ k_ => XS.dup X79.here hx rfl (hb hby at_232) rfl rfl (XS.bipush X79.here hx rfl (hb hby at_233) (XS.bipush X79.here hx rfl (hb hby at_235) k_))) ?_
      show own_Go p e below T79 (mkF m 237 #[.val (.int p0), .val (.int p1), .val (.int p2), .val (.int nI), .val (.int tc), .val (.int w0), .val (.int w1), .val (.ref b1), .val (.ref y_28), .val (.int p1), .val (.ref y_38), .val (.int (Int32.ofNat (48 + nN))), .val (.int (Int32.ofNat (48 + lN))), .unset] [(.int (44 : Int32)), (.int (18 : Int32)), (.ref b58), (.ref b58), (.ref b54), (.ref b54)]) _
      refine own_cst (r := 38) (i := 18) X79 hx hZ e79 V79 hl79 rfl ⟨by decide, by decide⟩ rfl N79 K79 G58 (hb hby at_237) (fun T80 h80 L80 Ls80 X80 e80 hLs80 hl80 V80 N80 K80 => ?_)
      show own_Go p e below T80 (mkF m 238 #[.val (.int p0), .val (.int p1), .val (.int p2), .val (.int nI), .val (.int tc), .val (.int w0), .val (.int w1), .val (.ref b1), .val (.ref y_28), .val (.int p1), .val (.ref y_38), .val (.int (Int32.ofNat (48 + nN))), .val (.int (Int32.ofNat (48 + lN))), .unset] [(.ref b58), (.ref b54), (.ref b54)]) _
      refine own_st (fun t_ k_ => XS.dup X80.here hx rfl (hb hby at_238) rfl rfl (XS.bipush X80.here hx rfl (hb hby at_239) (XS.bipush X80.here hx rfl (hb hby at_241) k_))) ?_
      show own_Go p e below T80 (mkF m 243 #[.val (.int p0), .val (.int p1), .val (.int p2), .val (.int nI), .val (.int tc), .val (.int w0), .val (.int w1), .val (.ref b1), .val (.ref y_28), .val (.int p1), .val (.ref y_38), .val (.int (Int32.ofNat (48 + nN))), .val (.int (Int32.ofNat (48 + lN))), .unset] [(.int (32 : Int32)), (.int (19 : Int32)), (.ref b58), (.ref b58), (.ref b54), (.ref b54)]) _
      refine own_cst (r := 37) (i := 19) X80 hx hZ e80 V80 hl80 rfl ⟨by decide, by decide⟩ rfl N80 K80 G58 (hb hby at_243) (fun T81 h81 L81 Ls81 X81 e81 hLs81 hl81 V81 N81 K81 => ?_)
      show own_Go p e below T81 (mkF m 244 #[.val (.int p0), .val (.int p1), .val (.int p2), .val (.int nI), .val (.int tc), .val (.int w0), .val (.int w1), .val (.ref b1), .val (.ref y_28), .val (.int p1), .val (.ref y_38), .val (.int (Int32.ofNat (48 + nN))), .val (.int (Int32.ofNat (48 + lN))), .unset] [(.ref b58), (.ref b54), (.ref b54)]) _
      refine own_st (fun t_ k_ => XS.dup X81.here hx rfl (hb hby at_244) rfl rfl (XS.bipush X81.here hx rfl (hb hby at_245) (XS.bipush X81.here hx rfl (hb hby at_247) k_))) ?_
      show own_Go p e below T81 (mkF m 249 #[.val (.int p0), .val (.int p1), .val (.int p2), .val (.int nI), .val (.int tc), .val (.int w0), .val (.int w1), .val (.ref b1), .val (.ref y_28), .val (.int p1), .val (.ref y_38), .val (.int (Int32.ofNat (48 + nN))), .val (.int (Int32.ofNat (48 + lN))), .unset] [(.int (109 : Int32)), (.int (20 : Int32)), (.ref b58), (.ref b58), (.ref b54), (.ref b54)]) _
      refine own_cst (r := 36) (i := 20) X81 hx hZ e81 V81 hl81 rfl ⟨by decide, by decide⟩ rfl N81 K81 G58 (hb hby at_249) (fun T82 h82 L82 Ls82 X82 e82 hLs82 hl82 V82 N82 K82 => ?_)
      show own_Go p e below T82 (mkF m 250 #[.val (.int p0), .val (.int p1), .val (.int p2), .val (.int nI), .val (.int tc), .val (.int w0), .val (.int w1), .val (.ref b1), .val (.ref y_28), .val (.int p1), .val (.ref y_38), .val (.int (Int32.ofNat (48 + nN))), .val (.int (Int32.ofNat (48 + lN))), .unset] [(.ref b58), (.ref b54), (.ref b54)]) _
      refine own_st (fun t_ k_ => XS.dup X82.here hx rfl (hb hby at_250) rfl rfl (XS.bipush X82.here hx rfl (hb hby at_251) (XS.bipush X82.here hx rfl (hb hby at_253) k_))) ?_
      show own_Go p e below T82 (mkF m 255 #[.val (.int p0), .val (.int p1), .val (.int p2), .val (.int nI), .val (.int tc), .val (.int w0), .val (.int w1), .val (.ref b1), .val (.ref y_28), .val (.int p1), .val (.ref y_38), .val (.int (Int32.ofNat (48 + nN))), .val (.int (Int32.ofNat (48 + lN))), .unset] [(.int (111 : Int32)), (.int (21 : Int32)), (.ref b58), (.ref b58), (.ref b54), (.ref b54)]) _
      refine own_cst (r := 35) (i := 21) X82 hx hZ e82 V82 hl82 rfl ⟨by decide, by decide⟩ rfl N82 K82 G58 (hb hby at_255) (fun T83 h83 L83 Ls83 X83 e83 hLs83 hl83 V83 N83 K83 => ?_)
      show own_Go p e below T83 (mkF m 256 #[.val (.int p0), .val (.int p1), .val (.int p2), .val (.int nI), .val (.int tc), .val (.int w0), .val (.int w1), .val (.ref b1), .val (.ref y_28), .val (.int p1), .val (.ref y_38), .val (.int (Int32.ofNat (48 + nN))), .val (.int (Int32.ofNat (48 + lN))), .unset] [(.ref b58), (.ref b54), (.ref b54)]) _
      refine own_st (fun t_ k_ => XS.dup X83.here hx rfl (hb hby at_256) rfl rfl (XS.bipush X83.here hx rfl (hb hby at_257) (XS.bipush X83.here hx rfl (hb hby at_259) k_))) ?_
      show own_Go p e below T83 (mkF m 261 #[.val (.int p0), .val (.int p1), .val (.int p2), .val (.int nI), .val (.int tc), .val (.int w0), .val (.int w1), .val (.ref b1), .val (.ref y_28), .val (.int p1), .val (.ref y_38), .val (.int (Int32.ofNat (48 + nN))), .val (.int (Int32.ofNat (48 + lN))), .unset] [(.int (114 : Int32)), (.int (22 : Int32)), (.ref b58), (.ref b58), (.ref b54), (.ref b54)]) _
      refine own_cst (r := 34) (i := 22) X83 hx hZ e83 V83 hl83 rfl ⟨by decide, by decide⟩ rfl N83 K83 G58 (hb hby at_261) (fun T84 h84 L84 Ls84 X84 e84 hLs84 hl84 V84 N84 K84 => ?_)
      show own_Go p e below T84 (mkF m 262 #[.val (.int p0), .val (.int p1), .val (.int p2), .val (.int nI), .val (.int tc), .val (.int w0), .val (.int w1), .val (.ref b1), .val (.ref y_28), .val (.int p1), .val (.ref y_38), .val (.int (Int32.ofNat (48 + nN))), .val (.int (Int32.ofNat (48 + lN))), .unset] [(.ref b58), (.ref b54), (.ref b54)]) _
      refine own_st (fun t_ k_ => XS.dup X84.here hx rfl (hb hby at_262) rfl rfl (XS.bipush X84.here hx rfl (hb hby at_263) (XS.bipush X84.here hx rfl (hb hby at_265) k_))) ?_
      show own_Go p e below T84 (mkF m 267 #[.val (.int p0), .val (.int p1), .val (.int p2), .val (.int nI), .val (.int tc), .val (.int w0), .val (.int w1), .val (.ref b1), .val (.ref y_28), .val (.int p1), .val (.ref y_38), .val (.int (Int32.ofNat (48 + nN))), .val (.int (Int32.ofNat (48 + lN))), .unset] [(.int (101 : Int32)), (.int (23 : Int32)), (.ref b58), (.ref b58), (.ref b54), (.ref b54)]) _
      refine own_cst (r := 33) (i := 23) X84 hx hZ e84 V84 hl84 rfl ⟨by decide, by decide⟩ rfl N84 K84 G58 (hb hby at_267) (fun T85 h85 L85 Ls85 X85 e85 hLs85 hl85 V85 N85 K85 => ?_)
      show own_Go p e below T85 (mkF m 268 #[.val (.int p0), .val (.int p1), .val (.int p2), .val (.int nI), .val (.int tc), .val (.int w0), .val (.int w1), .val (.ref b1), .val (.ref y_28), .val (.int p1), .val (.ref y_38), .val (.int (Int32.ofNat (48 + nN))), .val (.int (Int32.ofNat (48 + lN))), .unset] [(.ref b58), (.ref b54), (.ref b54)]) _
      refine own_st (fun t_ k_ => XS.dup X85.here hx rfl (hb hby at_268) rfl rfl (XS.bipush X85.here hx rfl (hb hby at_269) (XS.bipush X85.here hx rfl (hb hby at_271) k_))) ?_
      show own_Go p e below T85 (mkF m 273 #[.val (.int p0), .val (.int p1), .val (.int p2), .val (.int nI), .val (.int tc), .val (.int w0), .val (.int w1), .val (.ref b1), .val (.ref y_28), .val (.int p1), .val (.ref y_38), .val (.int (Int32.ofNat (48 + nN))), .val (.int (Int32.ofNat (48 + lN))), .unset] [(.int (32 : Int32)), (.int (24 : Int32)), (.ref b58), (.ref b58), (.ref b54), (.ref b54)]) _
      refine own_cst (r := 32) (i := 24) X85 hx hZ e85 V85 hl85 rfl ⟨by decide, by decide⟩ rfl N85 K85 G58 (hb hby at_273) (fun T86 h86 L86 Ls86 X86 e86 hLs86 hl86 V86 N86 K86 => ?_)
      show own_Go p e below T86 (mkF m 274 #[.val (.int p0), .val (.int p1), .val (.int p2), .val (.int nI), .val (.int tc), .val (.int w0), .val (.int w1), .val (.ref b1), .val (.ref y_28), .val (.int p1), .val (.ref y_38), .val (.int (Int32.ofNat (48 + nN))), .val (.int (Int32.ofNat (48 + lN))), .unset] [(.ref b58), (.ref b54), (.ref b54)]) _
      refine own_st (fun t_ k_ => XS.dup X86.here hx rfl (hb hby at_274) rfl rfl (XS.bipush X86.here hx rfl (hb hby at_275) (XS.bipush X86.here hx rfl (hb hby at_277) k_))) ?_
      show own_Go p e below T86 (mkF m 279 #[.val (.int p0), .val (.int p1), .val (.int p2), .val (.int nI), .val (.int tc), .val (.int w0), .val (.int w1), .val (.ref b1), .val (.ref y_28), .val (.int p1), .val (.ref y_38), .val (.int (Int32.ofNat (48 + nN))), .val (.int (Int32.ofNat (48 + lN))), .unset] [(.int (116 : Int32)), (.int (25 : Int32)), (.ref b58), (.ref b58), (.ref b54), (.ref b54)]) _
      refine own_cst (r := 31) (i := 25) X86 hx hZ e86 V86 hl86 rfl ⟨by decide, by decide⟩ rfl N86 K86 G58 (hb hby at_279) (fun T87 h87 L87 Ls87 X87 e87 hLs87 hl87 V87 N87 K87 => ?_)
      show own_Go p e below T87 (mkF m 280 #[.val (.int p0), .val (.int p1), .val (.int p2), .val (.int nI), .val (.int tc), .val (.int w0), .val (.int w1), .val (.ref b1), .val (.ref y_28), .val (.int p1), .val (.ref y_38), .val (.int (Int32.ofNat (48 + nN))), .val (.int (Int32.ofNat (48 + lN))), .unset] [(.ref b58), (.ref b54), (.ref b54)]) _
      refine own_st (fun t_ k_ => XS.dup X87.here hx rfl (hb hby at_280) rfl rfl (XS.bipush X87.here hx rfl (hb hby at_281) (XS.bipush X87.here hx rfl (hb hby at_283) k_))) ?_
      show own_Go p e below T87 (mkF m 285 #[.val (.int p0), .val (.int p1), .val (.int p2), .val (.int nI), .val (.int tc), .val (.int w0), .val (.int w1), .val (.ref b1), .val (.ref y_28), .val (.int p1), .val (.ref y_38), .val (.int (Int32.ofNat (48 + nN))), .val (.int (Int32.ofNat (48 + lN))), .unset] [(.int (104 : Int32)), (.int (26 : Int32)), (.ref b58), (.ref b58), (.ref b54), (.ref b54)]) _
      refine own_cst (r := 30) (i := 26) X87 hx hZ e87 V87 hl87 rfl ⟨by decide, by decide⟩ rfl N87 K87 G58 (hb hby at_285) (fun T88 h88 L88 Ls88 X88 e88 hLs88 hl88 V88 N88 K88 => ?_)
      show own_Go p e below T88 (mkF m 286 #[.val (.int p0), .val (.int p1), .val (.int p2), .val (.int nI), .val (.int tc), .val (.int w0), .val (.int w1), .val (.ref b1), .val (.ref y_28), .val (.int p1), .val (.ref y_38), .val (.int (Int32.ofNat (48 + nN))), .val (.int (Int32.ofNat (48 + lN))), .unset] [(.ref b58), (.ref b54), (.ref b54)]) _
      refine own_st (fun t_ k_ => XS.dup X88.here hx rfl (hb hby at_286) rfl rfl (XS.bipush X88.here hx rfl (hb hby at_287) (XS.bipush X88.here hx rfl (hb hby at_289) k_))) ?_
      show own_Go p e below T88 (mkF m 291 #[.val (.int p0), .val (.int p1), .val (.int p2), .val (.int nI), .val (.int tc), .val (.int w0), .val (.int w1), .val (.ref b1), .val (.ref y_28), .val (.int p1), .val (.ref y_38), .val (.int (Int32.ofNat (48 + nN))), .val (.int (Int32.ofNat (48 + lN))), .unset] [(.int (97 : Int32)), (.int (27 : Int32)), (.ref b58), (.ref b58), (.ref b54), (.ref b54)]) _
      refine own_cst (r := 29) (i := 27) X88 hx hZ e88 V88 hl88 rfl ⟨by decide, by decide⟩ rfl N88 K88 G58 (hb hby at_291) (fun T89 h89 L89 Ls89 X89 e89 hLs89 hl89 V89 N89 K89 => ?_)
      show own_Go p e below T89 (mkF m 292 #[.val (.int p0), .val (.int p1), .val (.int p2), .val (.int nI), .val (.int tc), .val (.int w0), .val (.int w1), .val (.ref b1), .val (.ref y_28), .val (.int p1), .val (.ref y_38), .val (.int (Int32.ofNat (48 + nN))), .val (.int (Int32.ofNat (48 + lN))), .unset] [(.ref b58), (.ref b54), (.ref b54)]) _
      refine own_st (fun t_ k_ => XS.dup X89.here hx rfl (hb hby at_292) rfl rfl (XS.bipush X89.here hx rfl (hb hby at_293) (XS.bipush X89.here hx rfl (hb hby at_295) k_))) ?_
      show own_Go p e below T89 (mkF m 297 #[.val (.int p0), .val (.int p1), .val (.int p2), .val (.int nI), .val (.int tc), .val (.int w0), .val (.int w1), .val (.ref b1), .val (.ref y_28), .val (.int p1), .val (.ref y_38), .val (.int (Int32.ofNat (48 + nN))), .val (.int (Int32.ofNat (48 + lN))), .unset] [(.int (110 : Int32)), (.int (28 : Int32)), (.ref b58), (.ref b58), (.ref b54), (.ref b54)]) _
      refine own_cst (r := 28) (i := 28) X89 hx hZ e89 V89 hl89 rfl ⟨by decide, by decide⟩ rfl N89 K89 G58 (hb hby at_297) (fun T90 h90 L90 Ls90 X90 e90 hLs90 hl90 V90 N90 K90 => ?_)
      show own_Go p e below T90 (mkF m 298 #[.val (.int p0), .val (.int p1), .val (.int p2), .val (.int nI), .val (.int tc), .val (.int w0), .val (.int w1), .val (.ref b1), .val (.ref y_28), .val (.int p1), .val (.ref y_38), .val (.int (Int32.ofNat (48 + nN))), .val (.int (Int32.ofNat (48 + lN))), .unset] [(.ref b58), (.ref b54), (.ref b54)]) _
      refine own_st (fun t_ k_ => XS.dup X90.here hx rfl (hb hby at_298) rfl rfl (XS.bipush X90.here hx rfl (hb hby at_299) (XS.bipush X90.here hx rfl (hb hby at_301) k_))) ?_
      show own_Go p e below T90 (mkF m 303 #[.val (.int p0), .val (.int p1), .val (.int p2), .val (.int nI), .val (.int tc), .val (.int w0), .val (.int w1), .val (.ref b1), .val (.ref y_28), .val (.int p1), .val (.ref y_38), .val (.int (Int32.ofNat (48 + nN))), .val (.int (Int32.ofNat (48 + lN))), .unset] [(.int (32 : Int32)), (.int (29 : Int32)), (.ref b58), (.ref b58), (.ref b54), (.ref b54)]) _
      refine own_cst (r := 27) (i := 29) X90 hx hZ e90 V90 hl90 rfl ⟨by decide, by decide⟩ rfl N90 K90 G58 (hb hby at_303) (fun T91 h91 L91 Ls91 X91 e91 hLs91 hl91 V91 N91 K91 => ?_)
      show own_Go p e below T91 (mkF m 304 #[.val (.int p0), .val (.int p1), .val (.int p2), .val (.int nI), .val (.int tc), .val (.int w0), .val (.int w1), .val (.ref b1), .val (.ref y_28), .val (.int p1), .val (.ref y_38), .val (.int (Int32.ofNat (48 + nN))), .val (.int (Int32.ofNat (48 + lN))), .unset] [(.ref b58), (.ref b54), (.ref b54)]) _
      refine own_st (fun t_ k_ => XS.dup X91.here hx rfl (hb hby at_304) rfl rfl (XS.bipush X91.here hx rfl (hb hby at_305) (XS.bipush X91.here hx rfl (hb hby at_307) k_))) ?_
      show own_Go p e below T91 (mkF m 309 #[.val (.int p0), .val (.int p1), .val (.int p2), .val (.int nI), .val (.int tc), .val (.int w0), .val (.int w1), .val (.ref b1), .val (.ref y_28), .val (.int p1), .val (.ref y_38), .val (.int (Int32.ofNat (48 + nN))), .val (.int (Int32.ofNat (48 + lN))), .unset] [(.int (116 : Int32)), (.int (30 : Int32)), (.ref b58), (.ref b58), (.ref b54), (.ref b54)]) _
      refine own_cst (r := 26) (i := 30) X91 hx hZ e91 V91 hl91 rfl ⟨by decide, by decide⟩ rfl N91 K91 G58 (hb hby at_309) (fun T92 h92 L92 Ls92 X92 e92 hLs92 hl92 V92 N92 K92 => ?_)
      show own_Go p e below T92 (mkF m 310 #[.val (.int p0), .val (.int p1), .val (.int p2), .val (.int nI), .val (.int tc), .val (.int w0), .val (.int w1), .val (.ref b1), .val (.ref y_28), .val (.int p1), .val (.ref y_38), .val (.int (Int32.ofNat (48 + nN))), .val (.int (Int32.ofNat (48 + lN))), .unset] [(.ref b58), (.ref b54), (.ref b54)]) _
      refine own_st (fun t_ k_ => XS.dup X92.here hx rfl (hb hby at_310) rfl rfl (XS.bipush X92.here hx rfl (hb hby at_311) (XS.bipush X92.here hx rfl (hb hby at_313) k_))) ?_
      show own_Go p e below T92 (mkF m 315 #[.val (.int p0), .val (.int p1), .val (.int p2), .val (.int nI), .val (.int tc), .val (.int w0), .val (.int w1), .val (.ref b1), .val (.ref y_28), .val (.int p1), .val (.ref y_38), .val (.int (Int32.ofNat (48 + nN))), .val (.int (Int32.ofNat (48 + lN))), .unset] [(.int (104 : Int32)), (.int (31 : Int32)), (.ref b58), (.ref b58), (.ref b54), (.ref b54)]) _
      refine own_cst (r := 25) (i := 31) X92 hx hZ e92 V92 hl92 rfl ⟨by decide, by decide⟩ rfl N92 K92 G58 (hb hby at_315) (fun T93 h93 L93 Ls93 X93 e93 hLs93 hl93 V93 N93 K93 => ?_)
      show own_Go p e below T93 (mkF m 316 #[.val (.int p0), .val (.int p1), .val (.int p2), .val (.int nI), .val (.int tc), .val (.int w0), .val (.int w1), .val (.ref b1), .val (.ref y_28), .val (.int p1), .val (.ref y_38), .val (.int (Int32.ofNat (48 + nN))), .val (.int (Int32.ofNat (48 + lN))), .unset] [(.ref b58), (.ref b54), (.ref b54)]) _
      refine own_st (fun t_ k_ => XS.dup X93.here hx rfl (hb hby at_316) rfl rfl (XS.bipush X93.here hx rfl (hb hby at_317) (XS.bipush X93.here hx rfl (hb hby at_319) k_))) ?_
      show own_Go p e below T93 (mkF m 321 #[.val (.int p0), .val (.int p1), .val (.int p2), .val (.int nI), .val (.int tc), .val (.int w0), .val (.int w1), .val (.ref b1), .val (.ref y_28), .val (.int p1), .val (.ref y_38), .val (.int (Int32.ofNat (48 + nN))), .val (.int (Int32.ofNat (48 + lN))), .unset] [(.int (101 : Int32)), (.int (32 : Int32)), (.ref b58), (.ref b58), (.ref b54), (.ref b54)]) _
      refine own_cst (r := 24) (i := 32) X93 hx hZ e93 V93 hl93 rfl ⟨by decide, by decide⟩ rfl N93 K93 G58 (hb hby at_321) (fun T94 h94 L94 Ls94 X94 e94 hLs94 hl94 V94 N94 K94 => ?_)
      show own_Go p e below T94 (mkF m 322 #[.val (.int p0), .val (.int p1), .val (.int p2), .val (.int nI), .val (.int tc), .val (.int w0), .val (.int w1), .val (.ref b1), .val (.ref y_28), .val (.int p1), .val (.ref y_38), .val (.int (Int32.ofNat (48 + nN))), .val (.int (Int32.ofNat (48 + lN))), .unset] [(.ref b58), (.ref b54), (.ref b54)]) _
      refine own_st (fun t_ k_ => XS.dup X94.here hx rfl (hb hby at_322) rfl rfl (XS.bipush X94.here hx rfl (hb hby at_323) (XS.bipush X94.here hx rfl (hb hby at_325) k_))) ?_
      show own_Go p e below T94 (mkF m 327 #[.val (.int p0), .val (.int p1), .val (.int p2), .val (.int nI), .val (.int tc), .val (.int w0), .val (.int w1), .val (.ref b1), .val (.ref y_28), .val (.int p1), .val (.ref y_38), .val (.int (Int32.ofNat (48 + nN))), .val (.int (Int32.ofNat (48 + lN))), .unset] [(.int (32 : Int32)), (.int (33 : Int32)), (.ref b58), (.ref b58), (.ref b54), (.ref b54)]) _
      refine own_cst (r := 23) (i := 33) X94 hx hZ e94 V94 hl94 rfl ⟨by decide, by decide⟩ rfl N94 K94 G58 (hb hby at_327) (fun T95 h95 L95 Ls95 X95 e95 hLs95 hl95 V95 N95 K95 => ?_)
      show own_Go p e below T95 (mkF m 328 #[.val (.int p0), .val (.int p1), .val (.int p2), .val (.int nI), .val (.int tc), .val (.int w0), .val (.int w1), .val (.ref b1), .val (.ref y_28), .val (.int p1), .val (.ref y_38), .val (.int (Int32.ofNat (48 + nN))), .val (.int (Int32.ofNat (48 + lN))), .unset] [(.ref b58), (.ref b54), (.ref b54)]) _
      refine own_st (fun t_ k_ => XS.dup X95.here hx rfl (hb hby at_328) rfl rfl (XS.bipush X95.here hx rfl (hb hby at_329) (XS.iload X95.here hx rfl (hb hby at_331) rfl k_))) ?_
      show own_Go p e below T95 (mkF m 333 #[.val (.int p0), .val (.int p1), .val (.int p2), .val (.int nI), .val (.int tc), .val (.int w0), .val (.int w1), .val (.ref b1), .val (.ref y_28), .val (.int p1), .val (.ref y_38), .val (.int (Int32.ofNat (48 + nN))), .val (.int (Int32.ofNat (48 + lN))), .unset] [(.int (Int32.ofNat (48 + lN))), (.int (34 : Int32)), (.ref b58), (.ref b58), (.ref b54), (.ref b54)]) _
      refine own_cst (r := 22) (i := 34) X95 hx hZ e95 V95 hl95 rfl ⟨by decide, by decide⟩ (own_nar hd6) N95 K95 G58 (hb hby at_333) (fun T96 h96 L96 Ls96 X96 e96 hLs96 hl96 V96 N96 K96 => ?_)
      show own_Go p e below T96 (mkF m 334 #[.val (.int p0), .val (.int p1), .val (.int p2), .val (.int nI), .val (.int tc), .val (.int w0), .val (.int w1), .val (.ref b1), .val (.ref y_28), .val (.int p1), .val (.ref y_38), .val (.int (Int32.ofNat (48 + nN))), .val (.int (Int32.ofNat (48 + lN))), .unset] [(.ref b58), (.ref b54), (.ref b54)]) _
      refine own_st (fun t_ k_ => XS.dup X96.here hx rfl (hb hby at_334) rfl rfl (XS.bipush X96.here hx rfl (hb hby at_335) (XS.bipush X96.here hx rfl (hb hby at_337) k_))) ?_
      show own_Go p e below T96 (mkF m 339 #[.val (.int p0), .val (.int p1), .val (.int p2), .val (.int nI), .val (.int tc), .val (.int w0), .val (.int w1), .val (.ref b1), .val (.ref y_28), .val (.int p1), .val (.ref y_38), .val (.int (Int32.ofNat (48 + nN))), .val (.int (Int32.ofNat (48 + lN))), .unset] [(.int (32 : Int32)), (.int (35 : Int32)), (.ref b58), (.ref b58), (.ref b54), (.ref b54)]) _
      refine own_cst (r := 21) (i := 35) X96 hx hZ e96 V96 hl96 rfl ⟨by decide, by decide⟩ rfl N96 K96 G58 (hb hby at_339) (fun T97 h97 L97 Ls97 X97 e97 hLs97 hl97 V97 N97 K97 => ?_)
      show own_Go p e below T97 (mkF m 340 #[.val (.int p0), .val (.int p1), .val (.int p2), .val (.int nI), .val (.int tc), .val (.int w0), .val (.int w1), .val (.ref b1), .val (.ref y_28), .val (.int p1), .val (.ref y_38), .val (.int (Int32.ofNat (48 + nN))), .val (.int (Int32.ofNat (48 + lN))), .unset] [(.ref b58), (.ref b54), (.ref b54)]) _
      refine own_st (fun t_ k_ => XS.dup X97.here hx rfl (hb hby at_340) rfl rfl (XS.bipush X97.here hx rfl (hb hby at_341) (XS.bipush X97.here hx rfl (hb hby at_343) k_))) ?_
      show own_Go p e below T97 (mkF m 345 #[.val (.int p0), .val (.int p1), .val (.int p2), .val (.int nI), .val (.int tc), .val (.int w0), .val (.int w1), .val (.ref b1), .val (.ref y_28), .val (.int p1), .val (.ref y_38), .val (.int (Int32.ofNat (48 + nN))), .val (.int (Int32.ofNat (48 + lN))), .unset] [(.int (116 : Int32)), (.int (36 : Int32)), (.ref b58), (.ref b58), (.ref b54), (.ref b54)]) _
      refine own_cst (r := 20) (i := 36) X97 hx hZ e97 V97 hl97 rfl ⟨by decide, by decide⟩ rfl N97 K97 G58 (hb hby at_345) (fun T98 h98 L98 Ls98 X98 e98 hLs98 hl98 V98 N98 K98 => ?_)
      show own_Go p e below T98 (mkF m 346 #[.val (.int p0), .val (.int p1), .val (.int p2), .val (.int nI), .val (.int tc), .val (.int w0), .val (.int w1), .val (.ref b1), .val (.ref y_28), .val (.int p1), .val (.ref y_38), .val (.int (Int32.ofNat (48 + nN))), .val (.int (Int32.ofNat (48 + lN))), .unset] [(.ref b58), (.ref b54), (.ref b54)]) _
      refine own_st (fun t_ k_ => XS.dup X98.here hx rfl (hb hby at_346) rfl rfl (XS.bipush X98.here hx rfl (hb hby at_347) (XS.bipush X98.here hx rfl (hb hby at_349) k_))) ?_
      show own_Go p e below T98 (mkF m 351 #[.val (.int p0), .val (.int p1), .val (.int p2), .val (.int nI), .val (.int tc), .val (.int w0), .val (.int w1), .val (.ref b1), .val (.ref y_28), .val (.int p1), .val (.ref y_38), .val (.int (Int32.ofNat (48 + nN))), .val (.int (Int32.ofNat (48 + lN))), .unset] [(.int (104 : Int32)), (.int (37 : Int32)), (.ref b58), (.ref b58), (.ref b54), (.ref b54)]) _
      refine own_cst (r := 19) (i := 37) X98 hx hZ e98 V98 hl98 rfl ⟨by decide, by decide⟩ rfl N98 K98 G58 (hb hby at_351) (fun T99 h99 L99 Ls99 X99 e99 hLs99 hl99 V99 N99 K99 => ?_)
      show own_Go p e below T99 (mkF m 352 #[.val (.int p0), .val (.int p1), .val (.int p2), .val (.int nI), .val (.int tc), .val (.int w0), .val (.int w1), .val (.ref b1), .val (.ref y_28), .val (.int p1), .val (.ref y_38), .val (.int (Int32.ofNat (48 + nN))), .val (.int (Int32.ofNat (48 + lN))), .unset] [(.ref b58), (.ref b54), (.ref b54)]) _
      refine own_st (fun t_ k_ => XS.dup X99.here hx rfl (hb hby at_352) rfl rfl (XS.bipush X99.here hx rfl (hb hby at_353) (XS.bipush X99.here hx rfl (hb hby at_355) k_))) ?_
      show own_Go p e below T99 (mkF m 357 #[.val (.int p0), .val (.int p1), .val (.int p2), .val (.int nI), .val (.int tc), .val (.int w0), .val (.int w1), .val (.ref b1), .val (.ref y_28), .val (.int p1), .val (.ref y_38), .val (.int (Int32.ofNat (48 + nN))), .val (.int (Int32.ofNat (48 + lN))), .unset] [(.int (101 : Int32)), (.int (38 : Int32)), (.ref b58), (.ref b58), (.ref b54), (.ref b54)]) _
      refine own_cst (r := 18) (i := 38) X99 hx hZ e99 V99 hl99 rfl ⟨by decide, by decide⟩ rfl N99 K99 G58 (hb hby at_357) (fun T100 h100 L100 Ls100 X100 e100 hLs100 hl100 V100 N100 K100 => ?_)
      show own_Go p e below T100 (mkF m 358 #[.val (.int p0), .val (.int p1), .val (.int p2), .val (.int nI), .val (.int tc), .val (.int w0), .val (.int w1), .val (.ref b1), .val (.ref y_28), .val (.int p1), .val (.ref y_38), .val (.int (Int32.ofNat (48 + nN))), .val (.int (Int32.ofNat (48 + lN))), .unset] [(.ref b58), (.ref b54), (.ref b54)]) _
      refine own_st (fun t_ k_ => XS.dup X100.here hx rfl (hb hby at_358) rfl rfl (XS.bipush X100.here hx rfl (hb hby at_359) (XS.bipush X100.here hx rfl (hb hby at_361) k_))) ?_
      show own_Go p e below T100 (mkF m 363 #[.val (.int p0), .val (.int p1), .val (.int p2), .val (.int nI), .val (.int tc), .val (.int w0), .val (.int w1), .val (.ref b1), .val (.ref y_28), .val (.int p1), .val (.ref y_38), .val (.int (Int32.ofNat (48 + nN))), .val (.int (Int32.ofNat (48 + lN))), .unset] [(.int (32 : Int32)), (.int (39 : Int32)), (.ref b58), (.ref b58), (.ref b54), (.ref b54)]) _
      refine own_cst (r := 17) (i := 39) X100 hx hZ e100 V100 hl100 rfl ⟨by decide, by decide⟩ rfl N100 K100 G58 (hb hby at_363) (fun T101 h101 L101 Ls101 X101 e101 hLs101 hl101 V101 N101 K101 => ?_)
      show own_Go p e below T101 (mkF m 364 #[.val (.int p0), .val (.int p1), .val (.int p2), .val (.int nI), .val (.int tc), .val (.int w0), .val (.int w1), .val (.ref b1), .val (.ref y_28), .val (.int p1), .val (.ref y_38), .val (.int (Int32.ofNat (48 + nN))), .val (.int (Int32.ofNat (48 + lN))), .unset] [(.ref b58), (.ref b54), (.ref b54)]) _
      refine own_st (fun t_ k_ => XS.dup X101.here hx rfl (hb hby at_364) rfl rfl (XS.bipush X101.here hx rfl (hb hby at_365) (XS.bipush X101.here hx rfl (hb hby at_367) k_))) ?_
      show own_Go p e below T101 (mkF m 369 #[.val (.int p0), .val (.int p1), .val (.int p2), .val (.int nI), .val (.int tc), .val (.int w0), .val (.int w1), .val (.ref b1), .val (.ref y_28), .val (.int p1), .val (.ref y_38), .val (.int (Int32.ofNat (48 + nN))), .val (.int (Int32.ofNat (48 + lN))), .unset] [(.int (100 : Int32)), (.int (40 : Int32)), (.ref b58), (.ref b58), (.ref b54), (.ref b54)]) _
      refine own_cst (r := 16) (i := 40) X101 hx hZ e101 V101 hl101 rfl ⟨by decide, by decide⟩ rfl N101 K101 G58 (hb hby at_369) (fun T102 h102 L102 Ls102 X102 e102 hLs102 hl102 V102 N102 K102 => ?_)
      show own_Go p e below T102 (mkF m 370 #[.val (.int p0), .val (.int p1), .val (.int p2), .val (.int nI), .val (.int tc), .val (.int w0), .val (.int w1), .val (.ref b1), .val (.ref y_28), .val (.int p1), .val (.ref y_38), .val (.int (Int32.ofNat (48 + nN))), .val (.int (Int32.ofNat (48 + lN))), .unset] [(.ref b58), (.ref b54), (.ref b54)]) _
      refine own_st (fun t_ k_ => XS.dup X102.here hx rfl (hb hby at_370) rfl rfl (XS.bipush X102.here hx rfl (hb hby at_371) (XS.bipush X102.here hx rfl (hb hby at_373) k_))) ?_
      show own_Go p e below T102 (mkF m 375 #[.val (.int p0), .val (.int p1), .val (.int p2), .val (.int nI), .val (.int tc), .val (.int w0), .val (.int w1), .val (.ref b1), .val (.ref y_28), .val (.int p1), .val (.ref y_38), .val (.int (Int32.ofNat (48 + nN))), .val (.int (Int32.ofNat (48 + lN))), .unset] [(.int (97 : Int32)), (.int (41 : Int32)), (.ref b58), (.ref b58), (.ref b54), (.ref b54)]) _
      refine own_cst (r := 15) (i := 41) X102 hx hZ e102 V102 hl102 rfl ⟨by decide, by decide⟩ rfl N102 K102 G58 (hb hby at_375) (fun T103 h103 L103 Ls103 X103 e103 hLs103 hl103 V103 N103 K103 => ?_)
      show own_Go p e below T103 (mkF m 376 #[.val (.int p0), .val (.int p1), .val (.int p2), .val (.int nI), .val (.int tc), .val (.int w0), .val (.int w1), .val (.ref b1), .val (.ref y_28), .val (.int p1), .val (.ref y_38), .val (.int (Int32.ofNat (48 + nN))), .val (.int (Int32.ofNat (48 + lN))), .unset] [(.ref b58), (.ref b54), (.ref b54)]) _
      refine own_st (fun t_ k_ => XS.dup X103.here hx rfl (hb hby at_376) rfl rfl (XS.bipush X103.here hx rfl (hb hby at_377) (XS.bipush X103.here hx rfl (hb hby at_379) k_))) ?_
      show own_Go p e below T103 (mkF m 381 #[.val (.int p0), .val (.int p1), .val (.int p2), .val (.int nI), .val (.int tc), .val (.int w0), .val (.int w1), .val (.ref b1), .val (.ref y_28), .val (.int p1), .val (.ref y_38), .val (.int (Int32.ofNat (48 + nN))), .val (.int (Int32.ofNat (48 + lN))), .unset] [(.int (116 : Int32)), (.int (42 : Int32)), (.ref b58), (.ref b58), (.ref b54), (.ref b54)]) _
      refine own_cst (r := 14) (i := 42) X103 hx hZ e103 V103 hl103 rfl ⟨by decide, by decide⟩ rfl N103 K103 G58 (hb hby at_381) (fun T104 h104 L104 Ls104 X104 e104 hLs104 hl104 V104 N104 K104 => ?_)
      show own_Go p e below T104 (mkF m 382 #[.val (.int p0), .val (.int p1), .val (.int p2), .val (.int nI), .val (.int tc), .val (.int w0), .val (.int w1), .val (.ref b1), .val (.ref y_28), .val (.int p1), .val (.ref y_38), .val (.int (Int32.ofNat (48 + nN))), .val (.int (Int32.ofNat (48 + lN))), .unset] [(.ref b58), (.ref b54), (.ref b54)]) _
      refine own_st (fun t_ k_ => XS.dup X104.here hx rfl (hb hby at_382) rfl rfl (XS.bipush X104.here hx rfl (hb hby at_383) (XS.bipush X104.here hx rfl (hb hby at_385) k_))) ?_
      show own_Go p e below T104 (mkF m 387 #[.val (.int p0), .val (.int p1), .val (.int p2), .val (.int nI), .val (.int tc), .val (.int w0), .val (.int w1), .val (.ref b1), .val (.ref y_28), .val (.int p1), .val (.ref y_38), .val (.int (Int32.ofNat (48 + nN))), .val (.int (Int32.ofNat (48 + lN))), .unset] [(.int (97 : Int32)), (.int (43 : Int32)), (.ref b58), (.ref b58), (.ref b54), (.ref b54)]) _
      refine own_cst (r := 13) (i := 43) X104 hx hZ e104 V104 hl104 rfl ⟨by decide, by decide⟩ rfl N104 K104 G58 (hb hby at_387) (fun T105 h105 L105 Ls105 X105 e105 hLs105 hl105 V105 N105 K105 => ?_)
      show own_Go p e below T105 (mkF m 388 #[.val (.int p0), .val (.int p1), .val (.int p2), .val (.int nI), .val (.int tc), .val (.int w0), .val (.int w1), .val (.ref b1), .val (.ref y_28), .val (.int p1), .val (.ref y_38), .val (.int (Int32.ofNat (48 + nN))), .val (.int (Int32.ofNat (48 + lN))), .unset] [(.ref b58), (.ref b54), (.ref b54)]) _
      refine own_st (fun t_ k_ => XS.dup X105.here hx rfl (hb hby at_388) rfl rfl (XS.bipush X105.here hx rfl (hb hby at_389) (XS.bipush X105.here hx rfl (hb hby at_391) k_))) ?_
      show own_Go p e below T105 (mkF m 393 #[.val (.int p0), .val (.int p1), .val (.int p2), .val (.int nI), .val (.int tc), .val (.int w0), .val (.int w1), .val (.ref b1), .val (.ref y_28), .val (.int p1), .val (.ref y_38), .val (.int (Int32.ofNat (48 + nN))), .val (.int (Int32.ofNat (48 + lN))), .unset] [(.int (32 : Int32)), (.int (44 : Int32)), (.ref b58), (.ref b58), (.ref b54), (.ref b54)]) _
      refine own_cst (r := 12) (i := 44) X105 hx hZ e105 V105 hl105 rfl ⟨by decide, by decide⟩ rfl N105 K105 G58 (hb hby at_393) (fun T106 h106 L106 Ls106 X106 e106 hLs106 hl106 V106 N106 K106 => ?_)
      show own_Go p e below T106 (mkF m 394 #[.val (.int p0), .val (.int p1), .val (.int p2), .val (.int nI), .val (.int tc), .val (.int w0), .val (.int w1), .val (.ref b1), .val (.ref y_28), .val (.int p1), .val (.ref y_38), .val (.int (Int32.ofNat (48 + nN))), .val (.int (Int32.ofNat (48 + lN))), .unset] [(.ref b58), (.ref b54), (.ref b54)]) _
      refine own_st (fun t_ k_ => XS.dup X106.here hx rfl (hb hby at_394) rfl rfl (XS.bipush X106.here hx rfl (hb hby at_395) (XS.bipush X106.here hx rfl (hb hby at_397) k_))) ?_
      show own_Go p e below T106 (mkF m 399 #[.val (.int p0), .val (.int p1), .val (.int p2), .val (.int nI), .val (.int tc), .val (.int w0), .val (.int w1), .val (.ref b1), .val (.ref y_28), .val (.int p1), .val (.ref y_38), .val (.int (Int32.ofNat (48 + nN))), .val (.int (Int32.ofNat (48 + lN))), .unset] [(.int (102 : Int32)), (.int (45 : Int32)), (.ref b58), (.ref b58), (.ref b54), (.ref b54)]) _
      refine own_cst (r := 11) (i := 45) X106 hx hZ e106 V106 hl106 rfl ⟨by decide, by decide⟩ rfl N106 K106 G58 (hb hby at_399) (fun T107 h107 L107 Ls107 X107 e107 hLs107 hl107 V107 N107 K107 => ?_)
      show own_Go p e below T107 (mkF m 400 #[.val (.int p0), .val (.int p1), .val (.int p2), .val (.int nI), .val (.int tc), .val (.int w0), .val (.int w1), .val (.ref b1), .val (.ref y_28), .val (.int p1), .val (.ref y_38), .val (.int (Int32.ofNat (48 + nN))), .val (.int (Int32.ofNat (48 + lN))), .unset] [(.ref b58), (.ref b54), (.ref b54)]) _
      refine own_st (fun t_ k_ => XS.dup X107.here hx rfl (hb hby at_400) rfl rfl (XS.bipush X107.here hx rfl (hb hby at_401) (XS.bipush X107.here hx rfl (hb hby at_403) k_))) ?_
      show own_Go p e below T107 (mkF m 405 #[.val (.int p0), .val (.int p1), .val (.int p2), .val (.int nI), .val (.int tc), .val (.int w0), .val (.int w1), .val (.ref b1), .val (.ref y_28), .val (.int p1), .val (.ref y_38), .val (.int (Int32.ofNat (48 + nN))), .val (.int (Int32.ofNat (48 + lN))), .unset] [(.int (111 : Int32)), (.int (46 : Int32)), (.ref b58), (.ref b58), (.ref b54), (.ref b54)]) _
      refine own_cst (r := 10) (i := 46) X107 hx hZ e107 V107 hl107 rfl ⟨by decide, by decide⟩ rfl N107 K107 G58 (hb hby at_405) (fun T108 h108 L108 Ls108 X108 e108 hLs108 hl108 V108 N108 K108 => ?_)
      show own_Go p e below T108 (mkF m 406 #[.val (.int p0), .val (.int p1), .val (.int p2), .val (.int nI), .val (.int tc), .val (.int w0), .val (.int w1), .val (.ref b1), .val (.ref y_28), .val (.int p1), .val (.ref y_38), .val (.int (Int32.ofNat (48 + nN))), .val (.int (Int32.ofNat (48 + lN))), .unset] [(.ref b58), (.ref b54), (.ref b54)]) _
      refine own_st (fun t_ k_ => XS.dup X108.here hx rfl (hb hby at_406) rfl rfl (XS.bipush X108.here hx rfl (hb hby at_407) (XS.bipush X108.here hx rfl (hb hby at_409) k_))) ?_
      show own_Go p e below T108 (mkF m 411 #[.val (.int p0), .val (.int p1), .val (.int p2), .val (.int nI), .val (.int tc), .val (.int w0), .val (.int w1), .val (.ref b1), .val (.ref y_28), .val (.int p1), .val (.ref y_38), .val (.int (Int32.ofNat (48 + nN))), .val (.int (Int32.ofNat (48 + lN))), .unset] [(.int (108 : Int32)), (.int (47 : Int32)), (.ref b58), (.ref b58), (.ref b54), (.ref b54)]) _
      refine own_cst (r := 9) (i := 47) X108 hx hZ e108 V108 hl108 rfl ⟨by decide, by decide⟩ rfl N108 K108 G58 (hb hby at_411) (fun T109 h109 L109 Ls109 X109 e109 hLs109 hl109 V109 N109 K109 => ?_)
      show own_Go p e below T109 (mkF m 412 #[.val (.int p0), .val (.int p1), .val (.int p2), .val (.int nI), .val (.int tc), .val (.int w0), .val (.int w1), .val (.ref b1), .val (.ref y_28), .val (.int p1), .val (.ref y_38), .val (.int (Int32.ofNat (48 + nN))), .val (.int (Int32.ofNat (48 + lN))), .unset] [(.ref b58), (.ref b54), (.ref b54)]) _
      refine own_st (fun t_ k_ => XS.dup X109.here hx rfl (hb hby at_412) rfl rfl (XS.bipush X109.here hx rfl (hb hby at_413) (XS.bipush X109.here hx rfl (hb hby at_415) k_))) ?_
      show own_Go p e below T109 (mkF m 417 #[.val (.int p0), .val (.int p1), .val (.int p2), .val (.int nI), .val (.int tc), .val (.int w0), .val (.int w1), .val (.ref b1), .val (.ref y_28), .val (.int p1), .val (.ref y_38), .val (.int (Int32.ofNat (48 + nN))), .val (.int (Int32.ofNat (48 + lN))), .unset] [(.int (100 : Int32)), (.int (48 : Int32)), (.ref b58), (.ref b58), (.ref b54), (.ref b54)]) _
      refine own_cst (r := 8) (i := 48) X109 hx hZ e109 V109 hl109 rfl ⟨by decide, by decide⟩ rfl N109 K109 G58 (hb hby at_417) (fun T110 h110 L110 Ls110 X110 e110 hLs110 hl110 V110 N110 K110 => ?_)
      show own_Go p e below T110 (mkF m 418 #[.val (.int p0), .val (.int p1), .val (.int p2), .val (.int nI), .val (.int tc), .val (.int w0), .val (.int w1), .val (.ref b1), .val (.ref y_28), .val (.int p1), .val (.ref y_38), .val (.int (Int32.ofNat (48 + nN))), .val (.int (Int32.ofNat (48 + lN))), .unset] [(.ref b58), (.ref b54), (.ref b54)]) _
      refine own_st (fun t_ k_ => XS.dup X110.here hx rfl (hb hby at_418) rfl rfl (XS.bipush X110.here hx rfl (hb hby at_419) (XS.bipush X110.here hx rfl (hb hby at_421) k_))) ?_
      show own_Go p e below T110 (mkF m 423 #[.val (.int p0), .val (.int p1), .val (.int p2), .val (.int nI), .val (.int tc), .val (.int w0), .val (.int w1), .val (.ref b1), .val (.ref y_28), .val (.int p1), .val (.ref y_38), .val (.int (Int32.ofNat (48 + nN))), .val (.int (Int32.ofNat (48 + lN))), .unset] [(.int (101 : Int32)), (.int (49 : Int32)), (.ref b58), (.ref b58), (.ref b54), (.ref b54)]) _
      refine own_cst (r := 7) (i := 49) X110 hx hZ e110 V110 hl110 rfl ⟨by decide, by decide⟩ rfl N110 K110 G58 (hb hby at_423) (fun T111 h111 L111 Ls111 X111 e111 hLs111 hl111 V111 N111 K111 => ?_)
      show own_Go p e below T111 (mkF m 424 #[.val (.int p0), .val (.int p1), .val (.int p2), .val (.int nI), .val (.int tc), .val (.int w0), .val (.int w1), .val (.ref b1), .val (.ref y_28), .val (.int p1), .val (.ref y_38), .val (.int (Int32.ofNat (48 + nN))), .val (.int (Int32.ofNat (48 + lN))), .unset] [(.ref b58), (.ref b54), (.ref b54)]) _
      refine own_st (fun t_ k_ => XS.dup X111.here hx rfl (hb hby at_424) rfl rfl (XS.bipush X111.here hx rfl (hb hby at_425) (XS.bipush X111.here hx rfl (hb hby at_427) k_))) ?_
      show own_Go p e below T111 (mkF m 429 #[.val (.int p0), .val (.int p1), .val (.int p2), .val (.int nI), .val (.int tc), .val (.int w0), .val (.int w1), .val (.ref b1), .val (.ref y_28), .val (.int p1), .val (.ref y_38), .val (.int (Int32.ofNat (48 + nN))), .val (.int (Int32.ofNat (48 + lN))), .unset] [(.int (114 : Int32)), (.int (50 : Int32)), (.ref b58), (.ref b58), (.ref b54), (.ref b54)]) _
      refine own_cst (r := 6) (i := 50) X111 hx hZ e111 V111 hl111 rfl ⟨by decide, by decide⟩ rfl N111 K111 G58 (hb hby at_429) (fun T112 h112 L112 Ls112 X112 e112 hLs112 hl112 V112 N112 K112 => ?_)
      show own_Go p e below T112 (mkF m 430 #[.val (.int p0), .val (.int p1), .val (.int p2), .val (.int nI), .val (.int tc), .val (.int w0), .val (.int w1), .val (.ref b1), .val (.ref y_28), .val (.int p1), .val (.ref y_38), .val (.int (Int32.ofNat (48 + nN))), .val (.int (Int32.ofNat (48 + lN))), .unset] [(.ref b58), (.ref b54), (.ref b54)]) _
      refine own_st (fun t_ k_ => XS.dup X112.here hx rfl (hb hby at_430) rfl rfl (XS.bipush X112.here hx rfl (hb hby at_431) (XS.bipush X112.here hx rfl (hb hby at_433) k_))) ?_
      show own_Go p e below T112 (mkF m 435 #[.val (.int p0), .val (.int p1), .val (.int p2), .val (.int nI), .val (.int tc), .val (.int w0), .val (.int w1), .val (.ref b1), .val (.ref y_28), .val (.int p1), .val (.ref y_38), .val (.int (Int32.ofNat (48 + nN))), .val (.int (Int32.ofNat (48 + lN))), .unset] [(.int (32 : Int32)), (.int (51 : Int32)), (.ref b58), (.ref b58), (.ref b54), (.ref b54)]) _
      refine own_cst (r := 5) (i := 51) X112 hx hZ e112 V112 hl112 rfl ⟨by decide, by decide⟩ rfl N112 K112 G58 (hb hby at_435) (fun T113 h113 L113 Ls113 X113 e113 hLs113 hl113 V113 N113 K113 => ?_)
      show own_Go p e below T113 (mkF m 436 #[.val (.int p0), .val (.int p1), .val (.int p2), .val (.int nI), .val (.int tc), .val (.int w0), .val (.int w1), .val (.ref b1), .val (.ref y_28), .val (.int p1), .val (.ref y_38), .val (.int (Int32.ofNat (48 + nN))), .val (.int (Int32.ofNat (48 + lN))), .unset] [(.ref b58), (.ref b54), (.ref b54)]) _
      refine own_st (fun t_ k_ => XS.dup X113.here hx rfl (hb hby at_436) rfl rfl (XS.bipush X113.here hx rfl (hb hby at_437) (XS.bipush X113.here hx rfl (hb hby at_439) k_))) ?_
      show own_Go p e below T113 (mkF m 441 #[.val (.int p0), .val (.int p1), .val (.int p2), .val (.int nI), .val (.int tc), .val (.int w0), .val (.int w1), .val (.ref b1), .val (.ref y_28), .val (.int p1), .val (.ref y_38), .val (.int (Int32.ofNat (48 + nN))), .val (.int (Int32.ofNat (48 + lN))), .unset] [(.int (107 : Int32)), (.int (52 : Int32)), (.ref b58), (.ref b58), (.ref b54), (.ref b54)]) _
      refine own_cst (r := 4) (i := 52) X113 hx hZ e113 V113 hl113 rfl ⟨by decide, by decide⟩ rfl N113 K113 G58 (hb hby at_441) (fun T114 h114 L114 Ls114 X114 e114 hLs114 hl114 V114 N114 K114 => ?_)
      show own_Go p e below T114 (mkF m 442 #[.val (.int p0), .val (.int p1), .val (.int p2), .val (.int nI), .val (.int tc), .val (.int w0), .val (.int w1), .val (.ref b1), .val (.ref y_28), .val (.int p1), .val (.ref y_38), .val (.int (Int32.ofNat (48 + nN))), .val (.int (Int32.ofNat (48 + lN))), .unset] [(.ref b58), (.ref b54), (.ref b54)]) _
      refine own_st (fun t_ k_ => XS.dup X114.here hx rfl (hb hby at_442) rfl rfl (XS.bipush X114.here hx rfl (hb hby at_443) (XS.bipush X114.here hx rfl (hb hby at_445) k_))) ?_
      show own_Go p e below T114 (mkF m 447 #[.val (.int p0), .val (.int p1), .val (.int p2), .val (.int nI), .val (.int tc), .val (.int w0), .val (.int w1), .val (.ref b1), .val (.ref y_28), .val (.int p1), .val (.ref y_38), .val (.int (Int32.ofNat (48 + nN))), .val (.int (Int32.ofNat (48 + lN))), .unset] [(.int (101 : Int32)), (.int (53 : Int32)), (.ref b58), (.ref b58), (.ref b54), (.ref b54)]) _
      refine own_cst (r := 3) (i := 53) X114 hx hZ e114 V114 hl114 rfl ⟨by decide, by decide⟩ rfl N114 K114 G58 (hb hby at_447) (fun T115 h115 L115 Ls115 X115 e115 hLs115 hl115 V115 N115 K115 => ?_)
      show own_Go p e below T115 (mkF m 448 #[.val (.int p0), .val (.int p1), .val (.int p2), .val (.int nI), .val (.int tc), .val (.int w0), .val (.int w1), .val (.ref b1), .val (.ref y_28), .val (.int p1), .val (.ref y_38), .val (.int (Int32.ofNat (48 + nN))), .val (.int (Int32.ofNat (48 + lN))), .unset] [(.ref b58), (.ref b54), (.ref b54)]) _
      refine own_st (fun t_ k_ => XS.dup X115.here hx rfl (hb hby at_448) rfl rfl (XS.bipush X115.here hx rfl (hb hby at_449) (XS.bipush X115.here hx rfl (hb hby at_451) k_))) ?_
      show own_Go p e below T115 (mkF m 453 #[.val (.int p0), .val (.int p1), .val (.int p2), .val (.int nI), .val (.int tc), .val (.int w0), .val (.int w1), .val (.ref b1), .val (.ref y_28), .val (.int p1), .val (.ref y_38), .val (.int (Int32.ofNat (48 + nN))), .val (.int (Int32.ofNat (48 + lN))), .unset] [(.int (101 : Int32)), (.int (54 : Int32)), (.ref b58), (.ref b58), (.ref b54), (.ref b54)]) _
      refine own_cst (r := 2) (i := 54) X115 hx hZ e115 V115 hl115 rfl ⟨by decide, by decide⟩ rfl N115 K115 G58 (hb hby at_453) (fun T116 h116 L116 Ls116 X116 e116 hLs116 hl116 V116 N116 K116 => ?_)
      show own_Go p e below T116 (mkF m 454 #[.val (.int p0), .val (.int p1), .val (.int p2), .val (.int nI), .val (.int tc), .val (.int w0), .val (.int w1), .val (.ref b1), .val (.ref y_28), .val (.int p1), .val (.ref y_38), .val (.int (Int32.ofNat (48 + nN))), .val (.int (Int32.ofNat (48 + lN))), .unset] [(.ref b58), (.ref b54), (.ref b54)]) _
      refine own_st (fun t_ k_ => XS.dup X116.here hx rfl (hb hby at_454) rfl rfl (XS.bipush X116.here hx rfl (hb hby at_455) (XS.bipush X116.here hx rfl (hb hby at_457) k_))) ?_
      show own_Go p e below T116 (mkF m 459 #[.val (.int p0), .val (.int p1), .val (.int p2), .val (.int nI), .val (.int tc), .val (.int w0), .val (.int w1), .val (.ref b1), .val (.ref y_28), .val (.int p1), .val (.ref y_38), .val (.int (Int32.ofNat (48 + nN))), .val (.int (Int32.ofNat (48 + lN))), .unset] [(.int (112 : Int32)), (.int (55 : Int32)), (.ref b58), (.ref b58), (.ref b54), (.ref b54)]) _
      refine own_cst (r := 1) (i := 55) X116 hx hZ e116 V116 hl116 rfl ⟨by decide, by decide⟩ rfl N116 K116 G58 (hb hby at_459) (fun T117 h117 L117 Ls117 X117 e117 hLs117 hl117 V117 N117 K117 => ?_)
      show own_Go p e below T117 (mkF m 460 #[.val (.int p0), .val (.int p1), .val (.int p2), .val (.int nI), .val (.int tc), .val (.int w0), .val (.int w1), .val (.ref b1), .val (.ref y_28), .val (.int p1), .val (.ref y_38), .val (.int (Int32.ofNat (48 + nN))), .val (.int (Int32.ofNat (48 + lN))), .unset] [(.ref b58), (.ref b54), (.ref b54)]) _
      refine own_st (fun t_ k_ => XS.dup X117.here hx rfl (hb hby at_460) rfl rfl (XS.bipush X117.here hx rfl (hb hby at_461) (XS.bipush X117.here hx rfl (hb hby at_463) k_))) ?_
      show own_Go p e below T117 (mkF m 465 #[.val (.int p0), .val (.int p1), .val (.int p2), .val (.int nI), .val (.int tc), .val (.int w0), .val (.int w1), .val (.ref b1), .val (.ref y_28), .val (.int p1), .val (.ref y_38), .val (.int (Int32.ofNat (48 + nN))), .val (.int (Int32.ofNat (48 + lN))), .unset] [(.int (115 : Int32)), (.int (56 : Int32)), (.ref b58), (.ref b58), (.ref b54), (.ref b54)]) _
      refine own_cst (r := 0) (i := 56) X117 hx hZ e117 V117 hl117 rfl ⟨by decide, by decide⟩ rfl N117 K117 G58 (hb hby at_465) (fun T118 h118 L118 Ls118 X118 e118 hLs118 hl118 V118 N118 K118 => ?_)
      show own_Go p e below T118 (mkF m 466 #[.val (.int p0), .val (.int p1), .val (.int p2), .val (.int nI), .val (.int tc), .val (.int w0), .val (.int w1), .val (.ref b1), .val (.ref y_28), .val (.int p1), .val (.ref y_38), .val (.int (Int32.ofNat (48 + nN))), .val (.int (Int32.ofNat (48 + lN))), .unset] [(.ref b58), (.ref b54), (.ref b54)]) _
      have Sa119 : ∀ y ∈ [b58], Safe Z own_EL T38.vm h58 y := (sfS (Safe.arv hZ.alike Vp61 (by decide)) sf0)
      have CH119 := CH59.keep K118 Sa119
      have CR119 := CHr.trans CR59 (CHr.keep K118 Sa119 CH59)
      have K120 : Keep h0 h118 [] := K60.trans K118 (allS (Or.inr B58) all0)
      have hf121 : Ls118.reverse = ((own_all [w0, w1] (Int32.ofNat (48 + nN)) [(Int32.ofNat (48 + lN))]) : List Int32) := by rw [hLs118, hLs117, hLs116, hLs115, hLs114, hLs113, hLs112, hLs111, hLs110, hLs109, hLs108, hLs107, hLs106, hLs105, hLs104, hLs103, hLs102, hLs101, hLs100, hLs99, hLs98, hLs97, hLs96, hLs95, hLs94, hLs93, hLs92, hLs91, hLs90, hLs89, hLs88, hLs87, hLs86, hLs85, hLs84, hLs83, hLs82, hLs81, hLs80, hLs79, hLs78, hLs77, hLs76, hLs75, hLs74, hLs73, hLs72, hLs71, hLs70, hLs69, hLs68, hLs67, hLs66, hLs65, hLs64, hLs63, hLs62, hLs61]; rfl
      have Vf121 := V118
      rw [hf121, show List.replicate 0 (Value.int (0 : Int32)) = [] from rfl, List.append_nil] at Vf121
      have hpE : own_P (own_all [w0, w1] (Int32.ofNat (48 + nN)) [(Int32.ofNat (48 + lN))]) := own_allP hpw hd7 (own_one hd6)
      have f122 := (Nat.le_trans (Nat.le_trans f57 E58.1) K118.1)
      have f123 := ((A54.ext E58).keep K118)
      have f124 := ((D54_value.ext E58).keep K118 (ninS (Nat.ne_of_lt (Nat.lt_of_lt_of_le A54.lt (Nat.le_of_eq g58.symm))) nin0))
      have f125 := ((D54_coder.ext E58).keep K118 (ninS (Nat.ne_of_lt (Nat.lt_of_lt_of_le A54.lt (Nat.le_of_eq g58.symm))) nin0))
      have f126 := ((((f37.keep Kq38 all0).ext E54).ext E58).keep K118 (allS G58 all0))
      obtain ⟨_, _, ⟨T127, L127, k127, n127⟩, -, X127, ⟨Lc127, hQ127, l127, y127, z127⟩, st127⟩ := X118.specialBack hx (y := (⟨"java/lang/String", "<init>", "([C)V"⟩ : MethodName)) rfl hown (mvT hZ (own_w hw 4 rfl)) (mvT hZ (own_w hw 5 rfl)) (mvT hZ (own_w hw 6 rfl)) (by decide) (StrChars.Road.backV (W := 1) hZ hws (kI := 4) (own_w hw 1 rfl) (cs := ((own_all [w0, w1] (Int32.ofNat (48 + nN)) [(Int32.ofNat (48 + lN))]) : List Int32)) (bs := (((own_all [w0, w1] (Int32.ofNat (48 + nN)) [(Int32.ofNat (48 + lN))]) : List Int32)).map (fun c => c.toInt8.toInt32)) (n := 57) G54 f122 f123 f124 f125 Vf121 (pS_COMPACT_STRINGS.ext f126.2) pP5 rfl rfl (by decide) (by decide) hpE rfl (by decide) (by decide)) (g := (mkF m 466 #[.val (.int p0), .val (.int p1), .val (.int p2), .val (.int nI), .val (.int tc), .val (.int w0), .val (.int w1), .val (.ref b1), .val (.ref y_28), .val (.int p1), .val (.ref y_38), .val (.int (Int32.ofNat (48 + nN))), .val (.int (Int32.ofNat (48 + lN))), .unset] [(.ref b58), (.ref b54), (.ref b54)])) rfl (by rw [hml]; rfl) (Steps.refl _) (a := b54) (argsL := [(.ref b58)]) (rest := [(.ref b54)]) (lenOf pd___C_V rfl) rfl (by show 2 * 0 + _ ≤ _; exact Nat.le_of_eq rfl) (hb hby at_466) (fun _ _ => ⟨rfl, e118, (by decide : 23 + 1 ≤ _), (by decide : 542 + 57 ≤ _)⟩)
      dsimp only [Pt.U, Pt.locs, Pt.cells, Pt.slots] at X127 l127 y127 z127 st127 hQ127
      try dsimp only [Nat.reduceAdd] at y127 z127
      rw [l127, y127, z127] at X127
      obtain ⟨rfl, Nq127, Kq127, q127_E, q127_c, t127, kb127, q127_g, q127_b, q127_n, q127_v, q127_V⟩ := hQ127
      have N127 := Fr.app N118 Nq127
      have f129 := (Safe.keep K118 Sa119 CH59 (Safe.ext E58 CH55 SF54))
      have Sa128 : ∀ y ∈ [b54], Safe Z own_EL T38.vm h118 y := (sfS f129 sf0)
      have CH128 := CH119.keep Kq127 Sa128
      have CR128 := CHr.trans CR119 (CHr.keep Kq127 Sa128 CH119)
      have K130 : Keep h0 T127.heap [] := K120.trans Kq127 (allS (Or.inr B54) all0)
      have Bf131 : h0.size ≤ t127 := Nat.le_trans K120.1 q127_b
      refine own_tr st127 ?_
      show own_Go p e below T127 (mkF m 469 #[.val (.int p0), .val (.int p1), .val (.int p2), .val (.int nI), .val (.int tc), .val (.int w0), .val (.int w1), .val (.ref b1), .val (.ref y_28), .val (.int p1), .val (.ref y_38), .val (.int (Int32.ofNat (48 + nN))), .val (.int (Int32.ofNat (48 + lN))), .unset] [(.ref b54)]) _
      refine own_st (fun t_ k_ => XS.astore X127.here hx rfl (hb hby at_469) rfl rfl (l' := #[.val (.int p0), .val (.int p1), .val (.int p2), .val (.int nI), .val (.int tc), .val (.int w0), .val (.int w1), .val (.ref b1), .val (.ref y_28), .val (.int p1), .val (.ref y_38), .val (.int (Int32.ofNat (48 + nN))), .val (.int (Int32.ofNat (48 + lN))), .val (.ref b54)]) rfl (XS.aload X127.here hx rfl (hb hby at_471) rfl rfl (XS.aload X127.here hx rfl (hb hby at_473) rfl rfl k_))) ?_
      show own_Go p e below T127 (mkF m 475 #[.val (.int p0), .val (.int p1), .val (.int p2), .val (.int nI), .val (.int tc), .val (.int w0), .val (.int w1), .val (.ref b1), .val (.ref y_28), .val (.int p1), .val (.ref y_38), .val (.int (Int32.ofNat (48 + nN))), .val (.int (Int32.ofNat (48 + lN))), .val (.ref b54)] [(.ref b54), (.ref y_38)]) _
      have hcd132 : StrChars.Road.CodA ((own_all [w0, w1] (Int32.ofNat (48 + nN)) cs_38) : List Int32) 0 (Int32.ofNat ((own_all [w0, w1] (Int32.ofNat (48 + nN)) cs_38) : List Int32).length) ((((own_all [w0, w1] (Int32.ofNat (48 + nN)) cs_38) : List Int32).map (fun c : Int32 => c.toInt8.toInt32)).map Value.int) := StrChars.Road.codOf rfl (fun x hx => (hpA x hx).2)
      have hbd132 : ∀ x ∈ ((own_all [w0, w1] (Int32.ofNat (48 + nN)) cs_38) : List Int32), ¬ x < 0 ∧ ¬ (65535 : Int32) < x := own_up _ hpA
      have hcd133 : StrChars.Road.CodA ((own_all [w0, w1] (Int32.ofNat (48 + nN)) [(Int32.ofNat (48 + lN))]) : List Int32) 0 (57 : Int32) ((((own_all [w0, w1] (Int32.ofNat (48 + nN)) [(Int32.ofNat (48 + lN))]) : List Int32).map (fun c : Int32 => c.toInt8.toInt32)).map Value.int) := StrChars.Road.codOf rfl (fun x hx => (hpE x hx).2)
      have hbd133 : ∀ x ∈ ((own_all [w0, w1] (Int32.ofNat (48 + nN)) [(Int32.ofNat (48 + lN))]) : List Int32), ¬ x < 0 ∧ ¬ (65535 : Int32) < x := own_up _ hpE
      have f134 := ((((q38_0.ext E54).ext E58).keep K118).keep Kq127)
      have f135 := ((((q38_1.ext E54).ext E58).keep K118 (ninS (Nat.ne_of_lt (Nat.lt_of_lt_of_le (q38_0.ext E54).lt (Nat.le_of_eq g58.symm))) nin0)).keep Kq127 (ninS (Nat.ne_of_lt (Nat.lt_of_lt_of_le q38_0.lt (Nat.le_of_eq g54.symm))) nin0))
      have f136 := ((((q38_2.ext E54).ext E58).keep K118 (ninS (Nat.ne_of_lt (Nat.lt_of_lt_of_le (q38_0.ext E54).lt (Nat.le_of_eq g58.symm))) nin0)).keep Kq127 (ninS (Nat.ne_of_lt (Nat.lt_of_lt_of_le q38_0.lt (Nat.le_of_eq g54.symm))) nin0))
      have f137 := ((((Vb.ext E54).ext E58).keep K118 (ninS (Nat.ne_of_lt (Nat.lt_of_lt_of_le (Vb.ext E54).lt (Nat.le_of_eq g58.symm))) nin0)).keep Kq127 (ninS (Nat.ne_of_lt (Nat.lt_of_lt_of_le Vb.lt (Nat.le_of_eq g54.symm))) nin0))
      have f138 := (f126.keep Kq127 (allS G54 all0))
      obtain ⟨cq139, kq139, qa139, qb139, qc139⟩ := isOf hZ rfl f134
      obtain ⟨_, _, ⟨T139, L139, k139, n139⟩, -, X139, ⟨Lc139, hQ139, l139, y139, z139⟩, st139⟩ := X127.virtualBack hx (y := (⟨"java/lang/String", "equals", "(Ljava/lang/Object;)Z"⟩ : MethodName)) (z := (⟨"java/lang/String", "equals", "(Ljava/lang/Object;)Z"⟩ : MethodName)) hown (mvT hZ (own_w hw 214 rfl)) (mvT hZ (own_w hw 215 rfl)) (notFace_of_selects (args := #[]) (mvT hZ (own_w hw 217 rfl))) (mvT hZ (own_w hw 217 rfl)) (mvT hZ (own_w hw 216 rfl)) (by decide) (StrChars.Road.eqW (W := 0) hZ heq (kI := 4) (own_w hw 1 rfl) f134 f135 f136 f137 hcd132 hbd132 q4A q127_E q127_v q127_c q127_V hcd133 hbd133 (Nat.le_of_ble_eq_true rfl) (pS_COMPACT_STRINGS.ext f138.2) pP5 (by decide) (by decide)) qa139 qc139 (g := (mkF m 475 #[.val (.int p0), .val (.int p1), .val (.int p2), .val (.int nI), .val (.int tc), .val (.int w0), .val (.int w1), .val (.ref b1), .val (.ref y_28), .val (.int p1), .val (.ref y_38), .val (.int (Int32.ofNat (48 + nN))), .val (.int (Int32.ofNat (48 + lN))), .val (.ref b54)] [(.ref b54), (.ref y_38)])) rfl (by rw [hml]; rfl) (Steps.refl _) (argsL := [(.ref b54)]) (rest := []) (lenOf pd__Ljava_lang_Object__Z rfl) rfl (by show 2 * 0 + _ ≤ _; exact Nat.le_of_eq rfl) (hb hby at_475) (fun _ _ => ⟨rfl, rfl, (by decide : 24 + 0 ≤ _), (by decide : 599 + 0 ≤ _)⟩)
      dsimp only [Pt.U, Pt.locs, Pt.cells, Pt.slots] at X139 l139 y139 z139 st139 hQ139
      try dsimp only [Nat.reduceAdd] at y139 z139
      rw [l139, y139, z139] at X139
      obtain ⟨hcase139, rfl, eH139⟩ := hQ139
      have N139 := Fr.app N127 (Fr.nil n0)
      have hv139 : _ = some (Value.int 1) := hcase139.elim (fun q => q.1) (fun q => absurd (by rw [qp]) q.2)
      subst hv139
      refine own_tr st139 ?_
      show own_Go p e below T139 (mkF m 478 #[.val (.int p0), .val (.int p1), .val (.int p2), .val (.int nI), .val (.int tc), .val (.int w0), .val (.int w1), .val (.ref b1), .val (.ref y_28), .val (.int p1), .val (.ref y_38), .val (.int (Int32.ofNat (48 + nN))), .val (.int (Int32.ofNat (48 + lN))), .val (.ref b54)] [(.int (1 : Int32))]) _
      have f140 := (Nat.le_trans (Nat.le_trans (Nat.le_trans (Nat.le_trans hK38 E54.1) E58.1) K118.1) Kq127.1)
      obtain ⟨fs, hr, hrun, hended, hRW⟩ := X139.leaveW hS (by rw [eH139]; exact f140) (v := some (.int (1 : Int32))) (fun h => by rw [Bd.returns] at h; cases h)
      have hCend : CHr Z own_EL s.vm s.heap T139.vm T139.heap := by
        rw [hh, eH139]
        exact CHr.trans CR128 (CHv.at X139 hZ hEL CH128)
      refine own_fin (retN X139 hx (t := .boolean) Bd.returns (by simp) (hb hby at_478) hr) ⟨hrun, hended, _, _, rfl, ?_, hCend, hRW.1, hRW.2.1, hRW.2.2.1, hRW.2.2.2.mono (by decide) (by decide)⟩
      show Q_rmLaw Z p0 p1 p2 zc fm dst dg1 DD1 dg2 DD2 h0 n0 _ T139.heap _
      rw [eH139]
      exact ⟨rfl, N139, K130⟩
  · skip
    have f141 := (Nat.le_trans f26 Kq28.1)
    have f142 := (f27.keep Kq28 all0)
    obtain ⟨_, _, ⟨T143, L143, k143, n143⟩, -, X143, ⟨Lc143, hQ143, l143, y143, z143⟩, st143⟩ := Jvm.LawKit.callS X28 hx (y := (⟨"com/example/envelope/envelope/io/KeptLength", "beyond", "(Ljava/lang/String;Ljava/lang/String;I)Ljava/lang/String;"⟩ : MethodName)) hown (mvT hZ (own_w hw 37 rfl)) (mvT hZ (own_w hw 38 rfl)) (mvT hZ (own_w hw 39 rfl)) (mvT hZ (own_w hw 40 rfl)) (by decide) (backOf (W := 0) (rmBn l Z a0 hw [] b1 y_28 t_28 kb_28 nI ((List.replicate nN tc)) p1 zc T28.heap n0 f141 q28_0 q28_1 q28_2 q28_3 cL pS_COMPACT_STRINGS pP5 f142) hZ (own_w hw 40 rfl) (own_w hw 39 rfl) (by decide) (by decide)) (g := (mkF m 73 #[.val (.int p0), .val (.int p1), .val (.int p2), .val (.int nI), .val (.int tc), .val (.int w0), .val (.int w1), .val (.ref b1), .val (.ref y_28), .val (.int p1), .unset, .unset, .unset, .unset] [(.int p1), (.ref y_28), (.ref b1)])) rfl (by rw [hml]; rfl) (argsL := [(.ref b1), (.ref y_28), (.int p1)]) (rest := []) (lenOf pd__Ljava_lang_String_Ljava_lang_String_I_Ljava_lang_String_ rfl) rfl (by show 2 * 0 + _ ≤ _; exact Nat.le_of_eq rfl) (hb hby at_73) (fun _ _ => ⟨rfl, rfl, (by decide : 9 + 0 ≤ _), (by decide : 26 + 0 ≤ _)⟩)
    dsimp only [Pt.U, Pt.locs, Pt.cells, Pt.slots] at X143 l143 y143 z143 st143 hQ143
    try dsimp only [Nat.reduceAdd] at y143 z143
    rw [l143, y143, z143] at X143
    obtain ⟨rfl, Nq143, eH143⟩ := hQ143
    have N143 := Fr.app N28 Nq143
    refine own_st st143 ?_
    show own_Go p e below T143 (mkF m 76 #[.val (.int p0), .val (.int p1), .val (.int p2), .val (.int nI), .val (.int tc), .val (.int w0), .val (.int w1), .val (.ref b1), .val (.ref y_28), .val (.int p1), .unset, .unset, .unset, .unset] [.null]) _
    refine own_st (fun t_ k_ => XS.astore X143.here hx rfl (hb hby at_76) rfl rfl (l' := #[.val (.int p0), .val (.int p1), .val (.int p2), .val (.int nI), .val (.int tc), .val (.int w0), .val (.int w1), .val (.ref b1), .val (.ref y_28), .val (.int p1), .val .null, .unset, .unset, .unset]) rfl (XS.iloadN X143.here hx rfl (hb hby at_78) rfl (XS.iload X143.here hx rfl (hb hby at_79) rfl (XS.icmpNo X143.here hx rfl (hb hby at_81) rfl (flt cL).2.2.1 (XS.aload X143.here hx rfl (hb hby at_84) rfl rfl (XS.ifnonnullNo X143.here hx rfl (hb hby at_86) rfl (XS.iconst X143.here hx rfl (hb hby at_89) (XS.goto X143.here hx rfl (pc0 := 90) (pc' := 94) rfl (hb hby at_90) (by decide) (by decide) k_)))))))) ?_
    show own_Go p e below T143 (mkF m 94 #[.val (.int p0), .val (.int p1), .val (.int p2), .val (.int nI), .val (.int tc), .val (.int w0), .val (.int w1), .val (.ref b1), .val (.ref y_28), .val (.int p1), .val .null, .unset, .unset, .unset] [(.int (1 : Int32))]) _
    obtain ⟨fs, hr, hrun, hended, hRW⟩ := X143.leaveW hS (by rw [eH143]; exact hK28) (v := some (.int (1 : Int32))) (fun h => by rw [Bd.returns] at h; cases h)
    have hCend : CHr Z own_EL s.vm s.heap T143.vm T143.heap := by
      rw [hh, eH143]
      exact CHr.trans CR30 (CHv.at X143 hZ hEL CH30)
    refine own_fin (retN X143 hx (t := .boolean) Bd.returns (by simp) (hb hby at_94) hr) ⟨hrun, hended, _, _, rfl, ?_, hCend, hRW.1, hRW.2.1, hRW.2.2.1, hRW.2.2.2.mono (by decide) (by decide)⟩
    show Q_rmLaw Z p0 p1 p2 zc fm dst dg1 DD1 dg2 DD2 h0 n0 _ T143.heap _
    rw [eH143]
    exact ⟨rfl, N143, K31⟩
set_option maxRecDepth 65536 in
set_option maxHeartbeats 40000000 in
theorem comes_1 {Post : Tables → Env → Array Value → State → Outcome → State → Prop} (hpost : ∀ tb e args s v u, (limb_1_1.after args s (.returned v) u = true ∧ limb_1_2.after args s (.returned v) u = true ∧ True) → ReturnedEndW s (.returned v) u (Jvm.fieldLocs frame_1_writes args s ++ Jvm.arrayLocs frame_1_arrays args s ++ Jvm.staticLocs frame_1_statics s) 48 4864 → Post tb e args s (.returned v) u) :
    ArmFor flags0 classFile x code maxLocals ret World_1 tables_1 room_1 Calls_1 rest_1 Pre_1 Post := by
  intro l hfl _ _ p e ha hc hk s m args below hf hA hF happ hP
  obtain ⟨hcalls, hrest, hpre⟩ := hP
  obtain ⟨-, -, -, hnamed, -, -, -, hat⟩ := (Spec.applies_iff hf).mp happ
  obtain ⟨hg, hn⟩ := and_e (Cond.before_iff.mp (show (Jvm.Cond.and given_1 narrow_1).before args s = true from hpre))
  obtain ⟨hc0, hg0⟩ := and_e hg
  obtain ⟨ga0, hg1⟩ := and_e hg0
  obtain ⟨ga1, hg2⟩ := and_e hg1
  have ga2 := hg2
  obtain ⟨w0, w1, w2, rfl⟩ : ∃ w0 w1 w2 : Value, args = #[w0, w1, w2] := by
    have hs : args.size = 3 := by simpa [Cond.value, given_1] using hc0
    obtain ⟨L⟩ := args
    match L, hs with
    | [w0, w1, w2], _ => exact ⟨w0, w1, w2, rfl⟩
  have hw := fun d (hd : d ∈ tables_1) => atoms_spec (ws := Jvm.Cond.code x code maxLocals ret :: tables_1) hat d (List.mem_cons_of_mem _ hd)
  have hfit : Fit s := fun {y c} hc i hi => by
    obtain ⟨ha, rfl⟩ := Array.getElem?_eq_some_iff.mp hc
    have q := List.all_eq_true.mp ((Array.all_eq_true_iff_forall_mem.mp hF) _ (Array.getElem_mem ha)) i (List.mem_range.mpr hi)
    simpa [Array.getElem?_eq_getElem hi] using q
  obtain ⟨hsets, hown0⟩ := atoms_of _ (rest_1_c_eq ▸ (show rest_1_c.before _ s = true from hrest))
  obtain ⟨i0, ei0⟩ := is_v ga0
  obtain rfl : w0 = (.int i0) := Option.some.inj ei0
  obtain ⟨i1, ei1⟩ := is_v ga1
  obtain rfl : w1 = (.int i1) := Option.some.inj ei1
  obtain ⟨i2, ei2⟩ := is_v ga2
  obtain rfl : w2 = (.int i2) := Option.some.inj ei2
  have n5 := not_v (Cond.before_iff.mp (hsets _ (List.mem_of_getElem? (i := 2) rfl)))
  obtain ⟨j1, e1⟩ := is_v (Cond.before_iff.mp (hsets _ (List.mem_of_getElem? (i := 1) rfl)))
  have S1 : Sta s s.heap "java/lang/String" "COMPACT_STRINGS" "Z" (.int j1) := Sta.start e1 (Or.inl (hsets _ (List.mem_of_getElem? (i := 0) rfl)))
  have c5 : ¬ (j1 = (0 : Int32)) := gotF (Cond.eq_ints e1 (Term.int_eval (0))) n5
  obtain ⟨v8, e8, r8⟩ := isR_v (Cond.before_iff.mp (hsets _ (List.mem_of_getElem? (i := 8) rfl)))
  have S2 : Sta s s.heap "jdk/internal/util/Preconditions" "SIOOBE_FORMATTER" "Ljava/util/function/BiFunction;" v8 := Sta.start e8 (Or.inl (hsets _ (List.mem_of_getElem? (i := 7) rfl)))
  have hCH0 : CHv s own_EL s.vm s.heap := CHv.start (own_EW hw) (fun p hp => hcalls.1 p hp) (hsets _ (List.mem_of_getElem? (i := 2) rfl)) (own_w hw 19 rfl) (own_w hw 1 rfl)
  obtain ⟨st, d1, D1, d2, D2, hT1, hO1, hT2, hO2⟩ := Jvm.SetKit.digits_of hfit (own_w hw 19 rfl) (hsets _ (List.mem_of_getElem? (i := 9) rfl)) (hsets _ (List.mem_of_getElem? (i := 10) rfl)) (hsets _ (List.mem_of_getElem? (i := 12) rfl)) (hsets _ (List.mem_of_getElem? (i := 13) rfl)) (hsets _ (List.mem_of_getElem? (i := 14) rfl)) (hsets _ (List.mem_of_getElem? (i := 15) rfl)) (hsets _ (List.mem_of_getElem? (i := 17) rfl)) (hsets _ (List.mem_of_getElem? (i := 18) rfl)) (hsets _ (List.mem_of_getElem? (i := 19) rfl))
  obtain ⟨n, o, h1, h2, h3, _, L, rfl, ⟨rfl, N, -⟩, -, hq⟩ := rmLaw l s _ hw tables_1 i0 i1 i2 j1 v8 st d1 D1 d2 D2 s.heap s.heap.size (Nat.le_refl _) S1 c5 S2 r8 hT1 hT2 hO1 (Old.start s) p e ha hc hk s m _ below hf ((Spec.applies_iff_loose hf).mp happ).1 ⟨rfl, State.Warmed39.refl s, rfl, hCH0⟩ trivial
  refine ⟨n, _, h1, h2, h3, hpost _ _ _ _ _ _ ⟨Cond.after_iff.mpr rfl, Cond.after_iff.mpr (eq_i res_at (Term.int_eval (1)) rfl), trivial⟩ ⟨hq.1, hq.2.1, hq.2.2.1, (hq.2.2.2.sift fun y hy => Or.inr (N y hy)).mono (by decide) (by decide)⟩⟩
theorem main_1_1 : Claimed_1_1 := comes_1 fun _ _ _ _ _ _ h hF => ⟨h.1, hF⟩
theorem main_1_2 : Claimed_1_2 := comes_1 fun _ _ _ _ _ _ h hF => ⟨h.2.1, hF⟩
end Jvm.Pilot.@@N@@
namespace Jvm.Pilot.@@N@@
open Jvm Jvm.ClassFile Sem Op Lib Jvm.Free Jvm.Stand Jvm.Pilot.@@N@@.Jvm.D
/-! MADE BY PROGRAM (witnessworld.py) out of the Statement's table words and the real class files: 28 classes; the members and pool entries that the words name. The judged class is class 1, her method 2. -/
namespace start1
open Jvm.ClassFile
def u (s : String) : CpInfo := .utf8 (stringToUtf16 s)
/-- a pool by its gaps: so many unusable entries, then the entry; so many at the end -/
def gap : Nat → List CpInfo → List CpInfo
  | 0, r => r
  | n + 1, r => .unusable :: gap n r
def poolList (es : List (Nat × CpInfo)) (last : Nat) : List CpInfo := es.foldr (fun e r => gap e.1 (e.2 :: r)) (gap last [])
def pool (es : List (Nat × CpInfo)) (last : Nat) : Array CpInfo := ⟨poolList es last⟩
def fileOf (pool : Array CpInfo) (this : Nat) (attrs : Array Attribute := #[]) (ms : Array MethodInfo := #[]) (fl : Nat := 33) (sup : Nat := 0) (ifs : Array Nat := #[]) (fds : Array FieldInfo := #[]) : ClassFile where
  minorVersion := 0
  majorVersion := 65
  constantPool := pool
  accessFlags := fl
  thisClass := this
  superClass := sup
  interfaces := ifs
  fields := fds
  methods := ms
  attributes := attrs
def plain (name : String) (sup : Option ClassId) : Class where
  name := name
  kind := .ordinary
  loader := none
  accessFlags := 33
  super := sup
  interfaces := #[]
  cf := none
  fields := #[]
  methods := #[]
  instanceTypes := #[]
  staticTypes := #[]
  resolved := #[]
  callSites := []
  init := .initialized
  statics := none
  mirror := none

def pool0 : Array CpInfo := pool [(5, u "<init>"), (0, u "()V"), (1, .class_ 10), (1, u "java/lang/Object")] 113

def k0c0 : Code := { maxStack := 0, maxLocals := 1, code := object_method_1_code, exceptionTable := #[], attributes := #[] }
def k0m0 : Method := { name := "<init>", desc := "()V", sig := { parameters := [], returnType := none }, accessFlags := 1, code := some k0c0 }
/-- java/lang/Object -/
def k0 : Class := { plain "java/lang/Object" none with
  accessFlags := 33
  interfaces := #[]
  cf := some (fileOf pool0 8 #[] #[{ accessFlags := 1, nameIndex := 5, descriptorIndex := 6, attributes := #[] }] 33 0 #[] #[])
  fields := #[]
  methods := #[k0m0]
  instanceTypes := #[]
  staticTypes := #[]
  resolved := Array.replicate 124 none
  statics := none }

def pool1 : Array CpInfo := pool [(2, .class_ 4), (1, u "java/lang/Object"), (0, u "<init>"), (0, u "()V"), (0, .class_ 8), (0, u "java/lang/String"), (0, .methodref 7 10), (0, .nameAndType 5 11), (0, u "([C)V"), (0, .methodref 13 14), (0, .class_ 15), (0, .nameAndType 16 17), (0, u "com/example/envelope/envelope/io/KeptLengthBeyondPinLaw"), (0, u "makeText"), (0, u "(IC)Ljava/lang/String;"), (0, .methodref 19 20), (0, .class_ 21), (0, .nameAndType 22 23), (0, u "com/example/envelope/envelope/io/KeptLength"), (0, u "beyond"), (0, u "(Ljava/lang/String;Ljava/lang/String;I)Ljava/lang/String;"), (0, .methodref 7 25), (0, .nameAndType 26 27), (0, u "equals"), (0, u "(Ljava/lang/Object;)Z"), (0, .methodref 7 29), (0, .nameAndType 30 31), (0, u "length"), (0, u "()I"), (0, .methodref 7 33), (0, .nameAndType 34 35), (0, u "charAt"), (0, u "(I)C"), (3, u "law"), (0, u "(III)Z")] 2

def k1m0 : Method := { name := "<init>", desc := "()V", sig := { parameters := [], returnType := none }, accessFlags := 2, code := none }
def k1c1 : Code := { maxStack := 6, maxLocals := 2, code := method_2_code, exceptionTable := #[], attributes := #[] }
def k1m1 : Method := { name := "makeText", desc := "(IC)Ljava/lang/String;", sig := { parameters := [.int, .char], returnType := some (.object "java/lang/String") }, accessFlags := 10, code := some k1c1 }
def k1c2 : Code := { maxStack := 6, maxLocals := 14, code := code, exceptionTable := #[], attributes := #[] }
def k1m2 : Method := { name := "law", desc := "(III)Z", sig := { parameters := [.int, .int, .int], returnType := some .boolean }, accessFlags := 9, code := some k1c2 }
/-- com/example/envelope/envelope/io/KeptLengthBeyondPinLaw -/
def k1 : Class := { plain "com/example/envelope/envelope/io/KeptLengthBeyondPinLaw" (some 0) with
  accessFlags := 49
  interfaces := #[]
  cf := some (fileOf pool1 13 #[] #[{ accessFlags := 2, nameIndex := 5, descriptorIndex := 6, attributes := #[] }, { accessFlags := 10, nameIndex := 16, descriptorIndex := 17, attributes := #[] }, { accessFlags := 9, nameIndex := 39, descriptorIndex := 40, attributes := #[] }] 49 2 #[] #[])
  fields := #[]
  methods := #[k1m0, k1m1, k1m2]
  instanceTypes := #[]
  staticTypes := #[]
  resolved := Array.replicate 43 none
  statics := none }

def pool2 : Array CpInfo := pool [(1, .class_ 2), (0, u "java/io/Serializable"), (0, .class_ 4), (0, u "java/lang/Object")] 2

/-- java/io/Serializable -/
def k2 : Class := { plain "java/io/Serializable" (some 0) with
  accessFlags := 1537
  interfaces := #[]
  cf := some (fileOf pool2 1 #[] #[] 1537 3 #[] #[])
  fields := #[]
  methods := #[]
  instanceTypes := #[]
  staticTypes := #[]
  resolved := Array.replicate 7 none
  statics := none }

def pool3 : Array CpInfo := pool [(1, .class_ 2), (0, u "java/lang/Comparable"), (0, .class_ 4), (0, u "java/lang/Object")] 7

/-- java/lang/Comparable -/
def k3 : Class := { plain "java/lang/Comparable" (some 0) with
  accessFlags := 1537
  interfaces := #[]
  cf := some (fileOf pool3 1 #[] #[] 1537 3 #[] #[])
  fields := #[]
  methods := #[]
  instanceTypes := #[]
  staticTypes := #[]
  resolved := Array.replicate 12 none
  statics := none }

def pool4 : Array CpInfo := pool [(2, .class_ 4), (1, u "java/lang/CharSequence"), (42, .class_ 48), (0, u "java/lang/CharSequence$1CodePointIterator"), (10, .class_ 60), (0, u "java/lang/CharSequence$1CharIterator"), (5, .class_ 67), (0, u "java/lang/Object")] 63

/-- java/lang/CharSequence -/
def k4 : Class := { plain "java/lang/CharSequence" (some 0) with
  accessFlags := 1537
  interfaces := #[]
  cf := some (fileOf pool4 2 #[.nestMembers #[47, 59]] #[] 1537 66 #[] #[])
  fields := #[]
  methods := #[]
  instanceTypes := #[]
  staticTypes := #[]
  resolved := Array.replicate 131 none
  statics := none }

def pool5 : Array CpInfo := pool [(1, .class_ 2), (0, u "java/lang/constant/Constable"), (0, .class_ 4), (0, u "java/lang/Object")] 6

/-- java/lang/constant/Constable -/
def k5 : Class := { plain "java/lang/constant/Constable" (some 0) with
  accessFlags := 1537
  interfaces := #[]
  cf := some (fileOf pool5 1 #[] #[] 1537 3 #[] #[])
  fields := #[]
  methods := #[]
  instanceTypes := #[]
  staticTypes := #[]
  resolved := Array.replicate 11 none
  statics := none }

def pool6 : Array CpInfo := pool [(1, .class_ 2), (0, u "java/lang/constant/ConstantDesc"), (0, .class_ 4), (0, u "java/lang/Object")] 32

/-- java/lang/constant/ConstantDesc -/
def k6 : Class := { plain "java/lang/constant/ConstantDesc" (some 0) with
  accessFlags := 1537
  interfaces := #[]
  cf := some (fileOf pool6 1 #[] #[] 1537 3 #[] #[])
  fields := #[]
  methods := #[]
  instanceTypes := #[]
  staticTypes := #[]
  resolved := Array.replicate 37 none
  statics := none }

def pool7 : Array CpInfo := pool [(1, .methodref 2 3), (0, .class_ 4), (0, .nameAndType 5 6), (0, u "java/lang/Object"), (0, u "<init>"), (0, u "()V"), (0, .string 8), (0, u ""), (0, .fieldref 10 11), (0, .class_ 12), (0, .nameAndType 13 14), (0, u "java/lang/String"), (0, u "value"), (0, u "[B"), (0, .fieldref 10 16), (0, .nameAndType 17 18), (0, u "coder"), (0, u "B"), (2, u "hash"), (0, u "I"), (2, u "hashIsZero"), (0, u "Z"), (0, .methodref 10 28), (0, .nameAndType 5 29), (0, u "([CIILjava/lang/Void;)V"), (8, .fieldref 10 39), (0, .nameAndType 40 26), (0, u "COMPACT_STRINGS"), (1, .class_ 44), (1, u "java/lang/StringUTF16"), (0, u "compress"), (1, .methodref 42 48), (0, .nameAndType 49 50), (0, u "coderFromArrayLen"), (0, u "([BI)B"), (3, .methodref 55 56), (0, .class_ 57), (0, .nameAndType 58 59), (0, u "java/util/Arrays"), (0, u "copyOfRange"), (0, u "([BII)[B"), (47, .class_ 109), (1, u "java/lang/StringLatin1"), (32, u "()Z"), (34, .methodref 42 178), (0, .nameAndType 45 179), (0, u "([CII)[B"), (13, .class_ 195), (1, u "java/lang/System"), (16, .methodref 193 213), (0, .nameAndType 214 215), (0, u "arraycopy"), (0, u "(Ljava/lang/Object;ILjava/lang/Object;II)V"), (118, u "()I"), (0, .methodref 10 336), (0, .nameAndType 17 337), (0, u "()B"), (2, u "()[B"), (22, u "([BI)C"), (27, u "(II)V"), (35, u "(I)C"), (61, .methodref 10 490), (0, .nameAndType 5 491), (0, u "(Ljava/lang/AbstractStringBuilder;Ljava/lang/Void;)V"), (0, .methodref 10 493), (0, .nameAndType 494 142), (0, u "isLatin1"), (0, .methodref 107 496), (0, .nameAndType 497 363), (0, u "charAt"), (3, u "checkIndex"), (4, .nameAndType 507 334), (0, u "length"), (24, u "getBytes"), (8, .methodref 107 542), (0, .nameAndType 543 544), (0, u "equals"), (0, u "([B[B)Z"), (4, .methodref 550 506), (0, .class_ 551), (0, u "java/lang/AbstractStringBuilder"), (0, .methodref 550 553), (0, .nameAndType 554 340), (0, u "getValue"), (18, u "(Ljava/lang/Object;)Z"), (1, .class_ 576), (0, u "java/lang/CharSequence"), (22, u "CASE_INSENSITIVE_ORDER"), (0, u "Ljava/util/Comparator;"), (220, u "([BIB)V"), (188, u "([C)V"), (36, .methodref 550 493), (5, .fieldref 1054 1055), (0, .class_ 1056), (0, .nameAndType 1057 1058), (0, u "jdk/internal/util/Preconditions"), (0, u "SIOOBE_FORMATTER"), (0, u "Ljava/util/function/BiFunction;"), (0, .methodref 1054 1060), (0, .nameAndType 501 1061), (0, u "(IILjava/util/function/BiFunction;)I"), (39, u "serialPersistentFields"), (0, u "[Ljava/io/ObjectStreamField;"), (0, .class_ 1104), (0, u "java/lang/String$CaseInsensitiveComparator"), (1, .class_ 1107), (0, u "java/io/Serializable"), (0, .class_ 1109), (0, u "java/lang/Comparable"), (0, .class_ 1111), (0, u "java/lang/constant/Constable"), (0, .class_ 1113), (0, u "java/lang/constant/ConstantDesc"), (2, u "serialVersionUID"), (0, u "J"), (3, u "REPL"), (0, u "C"), (2, u "LATIN1"), (1, u "UTF16"), (105, u "(Ljava/lang/StringBuilder;)V")] 217

def k7m0 : Method := { name := "<init>", desc := "()V", sig := { parameters := [], returnType := none }, accessFlags := 1, code := none }
def k7c1 : Code := { maxStack := 5, maxLocals := 2, code := jdk_42_method_3_code, exceptionTable := #[], attributes := #[] }
def k7m1 : Method := { name := "<init>", desc := "([C)V", sig := { parameters := [(.array .char)], returnType := none }, accessFlags := 1, code := some k7c1 }
def k7c2 : Code := { maxStack := 3, maxLocals := 2, code := jdk_42_method_53_code, exceptionTable := #[], attributes := #[] }
def k7m2 : Method := { name := "<init>", desc := "(Ljava/lang/StringBuilder;)V", sig := { parameters := [(.object "java/lang/StringBuilder")], returnType := none }, accessFlags := 1, code := some k7c2 }
def k7c3 : Code := { maxStack := 2, maxLocals := 1, code := jdk_42_method_54_code, exceptionTable := #[], attributes := #[] }
def k7m3 : Method := { name := "length", desc := "()I", sig := { parameters := [], returnType := some .int }, accessFlags := 1, code := some k7c3 }
def k7c4 : Code := { maxStack := 2, maxLocals := 2, code := jdk_42_method_56_code, exceptionTable := #[], attributes := #[] }
def k7m4 : Method := { name := "charAt", desc := "(I)C", sig := { parameters := [.int], returnType := some .char }, accessFlags := 1, code := some k7c4 }
def k7c5 : Code := { maxStack := 2, maxLocals := 3, code := jdk_42_method_66_code, exceptionTable := #[], attributes := #[] }
def k7m5 : Method := { name := "equals", desc := "(Ljava/lang/Object;)Z", sig := { parameters := [(.object "java/lang/Object")], returnType := some .boolean }, accessFlags := 1, code := some k7c5 }
def k7c6 : Code := { maxStack := 5, maxLocals := 4, code := jdk_42_method_147_code, exceptionTable := #[], attributes := #[] }
def k7m6 : Method := { name := "getBytes", desc := "([BIB)V", sig := { parameters := [(.array .byte), .int, .byte], returnType := none }, accessFlags := 0, code := some k7c6 }
def k7c7 : Code := { maxStack := 4, maxLocals := 6, code := jdk_42_method_149_code, exceptionTable := #[], attributes := #[] }
def k7m7 : Method := { name := "<init>", desc := "([CIILjava/lang/Void;)V", sig := { parameters := [(.array .char), .int, .int, (.object "java/lang/Void")], returnType := none }, accessFlags := 2, code := some k7c7 }
def k7c8 : Code := { maxStack := 5, maxLocals := 5, code := jdk_42_method_150_code, exceptionTable := #[], attributes := #[] }
def k7m8 : Method := { name := "<init>", desc := "(Ljava/lang/AbstractStringBuilder;Ljava/lang/Void;)V", sig := { parameters := [(.object "java/lang/AbstractStringBuilder"), (.object "java/lang/Void")], returnType := none }, accessFlags := 0, code := some k7c8 }
def k7c9 : Code := { maxStack := 1, maxLocals := 1, code := jdk_42_method_152_code, exceptionTable := #[], attributes := #[] }
def k7m9 : Method := { name := "coder", desc := "()B", sig := { parameters := [], returnType := some .byte }, accessFlags := 0, code := some k7c9 }
def k7c10 : Code := { maxStack := 1, maxLocals := 1, code := jdk_42_method_154_code, exceptionTable := #[], attributes := #[] }
def k7m10 : Method := { name := "isLatin1", desc := "()Z", sig := { parameters := [], returnType := some .boolean }, accessFlags := 0, code := some k7c10 }
def k7c11 : Code := { maxStack := 3, maxLocals := 2, code := jdk_42_method_155_code, exceptionTable := #[], attributes := #[] }
def k7m11 : Method := { name := "checkIndex", desc := "(II)V", sig := { parameters := [.int, .int], returnType := none }, accessFlags := 8, code := some k7c11 }
/-- java/lang/String -/
def k7 : Class := { plain "java/lang/String" (some 0) with
  accessFlags := 49
  interfaces := #[2, 3, 4, 5, 6]
  cf := some (fileOf pool7 10 #[.nestMembers #[1103]] #[{ accessFlags := 1, nameIndex := 5, descriptorIndex := 6, attributes := #[] }, { accessFlags := 1, nameIndex := 5, descriptorIndex := 1010, attributes := #[] }, { accessFlags := 1, nameIndex := 5, descriptorIndex := 1233, attributes := #[] }, { accessFlags := 1, nameIndex := 507, descriptorIndex := 334, attributes := #[] }, { accessFlags := 1, nameIndex := 497, descriptorIndex := 427, attributes := #[] }, { accessFlags := 1, nameIndex := 543, descriptorIndex := 573, attributes := #[] }, { accessFlags := 0, nameIndex := 532, descriptorIndex := 821, attributes := #[] }, { accessFlags := 2, nameIndex := 5, descriptorIndex := 29, attributes := #[] }, { accessFlags := 0, nameIndex := 5, descriptorIndex := 491, attributes := #[] }, { accessFlags := 0, nameIndex := 17, descriptorIndex := 337, attributes := #[] }, { accessFlags := 0, nameIndex := 494, descriptorIndex := 142, attributes := #[] }, { accessFlags := 8, nameIndex := 501, descriptorIndex := 391, attributes := #[] }] 49 2 #[1106, 1108, 575, 1110, 1112] #[{ accessFlags := 18, nameIndex := 13, descriptorIndex := 14, attributes := #[] }, { accessFlags := 18, nameIndex := 17, descriptorIndex := 18, attributes := #[] }, { accessFlags := 2, nameIndex := 21, descriptorIndex := 22, attributes := #[] }, { accessFlags := 2, nameIndex := 25, descriptorIndex := 26, attributes := #[] }, { accessFlags := 26, nameIndex := 1116, descriptorIndex := 1117, attributes := #[] }, { accessFlags := 24, nameIndex := 40, descriptorIndex := 26, attributes := #[] }, { accessFlags := 26, nameIndex := 1101, descriptorIndex := 1102, attributes := #[] }, { accessFlags := 26, nameIndex := 1121, descriptorIndex := 1122, attributes := #[] }, { accessFlags := 25, nameIndex := 599, descriptorIndex := 600, attributes := #[] }, { accessFlags := 24, nameIndex := 1125, descriptorIndex := 18, attributes := #[] }, { accessFlags := 24, nameIndex := 1127, descriptorIndex := 18, attributes := #[] }])
  fields := #[{ name := "value", type := (.array .byte), accessFlags := 18, slot := 0, constantValue := 0 }, { name := "coder", type := .byte, accessFlags := 18, slot := 1, constantValue := 0 }, { name := "hash", type := .int, accessFlags := 2, slot := 2, constantValue := 0 }, { name := "hashIsZero", type := .boolean, accessFlags := 2, slot := 3, constantValue := 0 }, { name := "serialVersionUID", type := .long, accessFlags := 26, slot := 0, constantValue := 0 }, { name := "COMPACT_STRINGS", type := .boolean, accessFlags := 24, slot := 1, constantValue := 0 }, { name := "serialPersistentFields", type := (.array (.object "java/io/ObjectStreamField")), accessFlags := 26, slot := 2, constantValue := 0 }, { name := "REPL", type := .char, accessFlags := 26, slot := 3, constantValue := 0 }, { name := "CASE_INSENSITIVE_ORDER", type := (.object "java/util/Comparator"), accessFlags := 25, slot := 4, constantValue := 0 }, { name := "LATIN1", type := .byte, accessFlags := 24, slot := 5, constantValue := 0 }, { name := "UTF16", type := .byte, accessFlags := 24, slot := 6, constantValue := 0 }]
  methods := #[k7m0, k7m1, k7m2, k7m3, k7m4, k7m5, k7m6, k7m7, k7m8, k7m9, k7m10, k7m11]
  instanceTypes := #[(.array .byte), .byte, .int, .boolean]
  staticTypes := #[.long, .boolean, (.array (.object "java/io/ObjectStreamField")), .char, (.object "java/util/Comparator"), .byte, .byte]
  resolved := Array.replicate 1451 none
  statics := some 0 }

def pool8 : Array CpInfo := pool [(6, .class_ 8), (1, u "java/lang/Object"), (0, u "<init>"), (0, u "()V"), (1, .class_ 14), (1, u "java/lang/StringUTF16"), (31, u "$assertionsDisabled"), (0, u "Z"), (13, u "HI_BYTE_SHIFT"), (0, u "I"), (2, u "LO_BYTE_SHIFT"), (49, .methodref 12 116), (0, .nameAndType 117 118), (0, u "compress"), (0, u "([CI[BII)I"), (3, u "([CII)[B"), (138, u "coderFromArrayLen"), (0, u "([BI)B"), (106, .class_ 371), (1, u "java/lang/StringUTF16$LinesSpliterator"), (58, u "MAX_LENGTH"), (196, .class_ 628), (0, u "java/lang/StringUTF16$CodePointsSpliterator"), (0, .class_ 630), (0, u "java/lang/StringUTF16$CharsSpliterator")] 4

def k8m0 : Method := { name := "<init>", desc := "()V", sig := { parameters := [], returnType := none }, accessFlags := 0, code := none }
def k8c1 : Code := { maxStack := 2, maxLocals := 2, code := jdk_52_method_15_code, exceptionTable := #[], attributes := #[] }
def k8m1 : Method := { name := "coderFromArrayLen", desc := "([BI)B", sig := { parameters := [(.array .byte), .int], returnType := some .byte }, accessFlags := 8, code := some k8c1 }
def k8c2 : Code := { maxStack := 5, maxLocals := 6, code := jdk_52_method_16_code, exceptionTable := #[], attributes := #[] }
def k8m2 : Method := { name := "compress", desc := "([CII)[B", sig := { parameters := [(.array .char), .int, .int], returnType := some (.array .byte) }, accessFlags := 9, code := some k8c2 }
def k8c3 : Code := { maxStack := 3, maxLocals := 7, code := jdk_52_method_21_code, exceptionTable := #[], attributes := #[] }
def k8m3 : Method := { name := "compress", desc := "([CI[BII)I", sig := { parameters := [(.array .char), .int, (.array .byte), .int, .int], returnType := some .int }, accessFlags := 9, code := some k8c3 }
/-- java/lang/StringUTF16 -/
def k8 : Class := { plain "java/lang/StringUTF16" (some 0) with
  accessFlags := 48
  interfaces := #[]
  cf := some (fileOf pool8 12 #[.nestMembers #[627, 629, 369]] #[{ accessFlags := 0, nameIndex := 9, descriptorIndex := 10, attributes := #[] }, { accessFlags := 8, nameIndex := 261, descriptorIndex := 262, attributes := #[] }, { accessFlags := 9, nameIndex := 117, descriptorIndex := 122, attributes := #[] }, { accessFlags := 9, nameIndex := 117, descriptorIndex := 118, attributes := #[] }] 48 6 #[] #[{ accessFlags := 26, nameIndex := 61, descriptorIndex := 62, attributes := #[] }, { accessFlags := 26, nameIndex := 65, descriptorIndex := 62, attributes := #[] }, { accessFlags := 24, nameIndex := 430, descriptorIndex := 62, attributes := #[] }, { accessFlags := 4120, nameIndex := 46, descriptorIndex := 47, attributes := #[] }])
  fields := #[{ name := "HI_BYTE_SHIFT", type := .int, accessFlags := 26, slot := 0, constantValue := 0 }, { name := "LO_BYTE_SHIFT", type := .int, accessFlags := 26, slot := 1, constantValue := 0 }, { name := "MAX_LENGTH", type := .int, accessFlags := 24, slot := 2, constantValue := 0 }, { name := "$assertionsDisabled", type := .boolean, accessFlags := 4120, slot := 3, constantValue := 0 }]
  methods := #[k8m0, k8m1, k8m2, k8m3]
  instanceTypes := #[]
  staticTypes := #[.int, .int, .int, .boolean]
  resolved := Array.replicate 635 none
  statics := none }

def pool9 : Array CpInfo := pool [(2, .class_ 4), (0, .nameAndType 5 6), (0, u "java/lang/Object"), (0, u "<init>"), (0, u "()V"), (0, .methodref 8 9), (0, .class_ 10), (0, .nameAndType 11 12), (0, u "java/lang/String"), (0, u "length"), (0, u "()I"), (0, .class_ 14), (0, u "java/lang/StringBuilder"), (0, .methodref 13 3), (0, .methodref 13 17), (0, .nameAndType 18 19), (0, u "append"), (0, u "(Ljava/lang/String;)Ljava/lang/StringBuilder;"), (0, .string 21), (0, u " of "), (0, .methodref 13 23), (0, .nameAndType 18 24), (0, u "(I)Ljava/lang/StringBuilder;"), (0, .string 26), (0, u " characters, more than the "), (0, .string 28), (0, u " the data folder keeps"), (0, .methodref 13 30), (0, .nameAndType 31 32), (0, u "toString"), (0, u "()Ljava/lang/String;"), (0, .class_ 34), (0, u "com/example/envelope/envelope/io/KeptLength"), (2, u "beyond"), (0, u "(Ljava/lang/String;Ljava/lang/String;I)Ljava/lang/String;")] 3

def k9m0 : Method := { name := "<init>", desc := "()V", sig := { parameters := [], returnType := none }, accessFlags := 2, code := none }
def k9c1 : Code := { maxStack := 2, maxLocals := 3, code := prog_5_method_2_code, exceptionTable := #[], attributes := #[] }
def k9m1 : Method := { name := "beyond", desc := "(Ljava/lang/String;Ljava/lang/String;I)Ljava/lang/String;", sig := { parameters := [(.object "java/lang/String"), (.object "java/lang/String"), .int], returnType := some (.object "java/lang/String") }, accessFlags := 8, code := some k9c1 }
/-- com/example/envelope/envelope/io/KeptLength -/
def k9 : Class := { plain "com/example/envelope/envelope/io/KeptLength" (some 0) with
  accessFlags := 48
  interfaces := #[]
  cf := some (fileOf pool9 33 #[] #[{ accessFlags := 2, nameIndex := 5, descriptorIndex := 6, attributes := #[] }, { accessFlags := 8, nameIndex := 37, descriptorIndex := 38, attributes := #[] }] 48 2 #[] #[])
  fields := #[]
  methods := #[k9m0, k9m1]
  instanceTypes := #[]
  staticTypes := #[]
  resolved := Array.replicate 42 none
  statics := none }

def pool10 : Array CpInfo := pool [(1, .class_ 2), (0, u "java/lang/Appendable"), (0, .class_ 4), (0, u "java/lang/Object")] 9

/-- java/lang/Appendable -/
def k10 : Class := { plain "java/lang/Appendable" (some 0) with
  accessFlags := 1537
  interfaces := #[]
  cf := some (fileOf pool10 1 #[] #[] 1537 3 #[] #[])
  fields := #[]
  methods := #[]
  instanceTypes := #[]
  staticTypes := #[]
  resolved := Array.replicate 14 none
  statics := none }

def pool11 : Array CpInfo := pool [(1, .class_ 2), (0, u "java/lang/String"), (0, .methodref 4 5), (0, .class_ 6), (0, .nameAndType 7 8), (0, u "java/lang/Object"), (0, u "<init>"), (0, u "()V"), (1, .class_ 12), (1, u "java/lang/AbstractStringBuilder"), (0, u "EMPTYVALUE"), (0, u "[B"), (0, .fieldref 10 16), (0, .nameAndType 17 14), (0, u "value"), (0, .fieldref 1 19), (0, .nameAndType 20 21), (0, u "COMPACT_STRINGS"), (0, u "Z"), (0, .fieldref 10 23), (0, .nameAndType 24 25), (0, u "coder"), (0, u "B"), (6, .methodref 1 33), (0, .nameAndType 34 35), (0, u "length"), (0, u "()I"), (0, .class_ 37), (0, u "java/lang/Integer"), (1, .integer 2147483647), (0, .methodref 1 41), (0, .nameAndType 24 42), (0, u "()B"), (2, u "append"), (0, u "(Ljava/lang/String;)Ljava/lang/AbstractStringBuilder;"), (1, .class_ 49), (0, u "java/lang/CharSequence"), (19, u "(Ljava/lang/String;)V"), (5, u "maybeLatin1"), (3, .fieldref 10 80), (0, .nameAndType 81 82), (0, u "count"), (0, u "I"), (0, .methodref 10 84), (0, .nameAndType 85 86), (0, u "isLatin1"), (0, u "()Z"), (13, .methodref 10 101), (0, .nameAndType 102 103), (0, u "ensureCapacityInternal"), (0, u "(I)V"), (0, .methodref 10 105), (0, .nameAndType 106 107), (0, u "newCapacity"), (0, u "(I)I"), (0, .methodref 109 110), (0, .class_ 111), (0, .nameAndType 112 113), (0, u "java/util/Arrays"), (0, u "copyOf"), (0, u "([BI)[B"), (0, .methodref 115 116), (0, .class_ 117), (0, .nameAndType 118 119), (0, u "jdk/internal/util/ArraysSupport"), (0, u "newLength"), (0, u "(III)I"), (68, u "getChars"), (19, .methodref 10 209), (0, .nameAndType 210 211), (0, u "putStringAt"), (0, u "(ILjava/lang/String;)V"), (5, u "inflateIfNeededFor"), (2, .nameAndType 221 222), (0, u "getBytes"), (0, u "([BIB)V"), (22, .methodref 36 246), (0, .nameAndType 247 107), (0, u "stringSize"), (0, .methodref 36 249), (0, .nameAndType 188 250), (0, u "(II[B)I"), (146, .methodref 10 398), (0, .nameAndType 217 69), (0, .methodref 1 220), (3, u "()[B"), (40, .class_ 445), (0, u "java/lang/Appendable"), (65, u "(I)Ljava/lang/AbstractStringBuilder;"), (40, u "getValue")] 56

def k11m0 : Method := { name := "<init>", desc := "()V", sig := { parameters := [], returnType := none }, accessFlags := 0, code := none }
def k11c1 : Code := { maxStack := 2, maxLocals := 2, code := jdk_68_method_2_code, exceptionTable := #[], attributes := #[] }
def k11m1 : Method := { name := "<init>", desc := "(I)V", sig := { parameters := [.int], returnType := none }, accessFlags := 0, code := some k11c1 }
def k11c2 : Code := { maxStack := 1, maxLocals := 1, code := jdk_68_method_6_code, exceptionTable := #[], attributes := #[] }
def k11m2 : Method := { name := "length", desc := "()I", sig := { parameters := [], returnType := some .int }, accessFlags := 1, code := some k11c2 }
def k11c3 : Code := { maxStack := 4, maxLocals := 3, code := jdk_68_method_9_code, exceptionTable := #[], attributes := #[] }
def k11m3 : Method := { name := "ensureCapacityInternal", desc := "(I)V", sig := { parameters := [.int], returnType := none }, accessFlags := 2, code := some k11c3 }
def k11c4 : Code := { maxStack := 5, maxLocals := 6, code := jdk_68_method_10_code, exceptionTable := #[], attributes := #[] }
def k11m4 : Method := { name := "newCapacity", desc := "(I)I", sig := { parameters := [.int], returnType := some .int }, accessFlags := 2, code := some k11c4 }
def k11c5 : Code := { maxStack := 3, maxLocals := 3, code := jdk_68_method_22_code, exceptionTable := #[], attributes := #[] }
def k11m5 : Method := { name := "append", desc := "(Ljava/lang/String;)Ljava/lang/AbstractStringBuilder;", sig := { parameters := [(.object "java/lang/String")], returnType := some (.object "java/lang/AbstractStringBuilder") }, accessFlags := 1, code := some k11c5 }
def k11c6 : Code := { maxStack := 4, maxLocals := 4, code := jdk_68_method_32_code, exceptionTable := #[], attributes := #[] }
def k11m6 : Method := { name := "append", desc := "(I)Ljava/lang/AbstractStringBuilder;", sig := { parameters := [.int], returnType := some (.object "java/lang/AbstractStringBuilder") }, accessFlags := 1, code := some k11c6 }
def k11c7 : Code := { maxStack := 1, maxLocals := 1, code := jdk_68_method_64_code, exceptionTable := #[], attributes := #[] }
def k11m7 : Method := { name := "getValue", desc := "()[B", sig := { parameters := [], returnType := some (.array .byte) }, accessFlags := 16, code := some k11c7 }
def k11c8 : Code := { maxStack := 1, maxLocals := 1, code := jdk_68_method_68_code, exceptionTable := #[], attributes := #[] }
def k11m8 : Method := { name := "isLatin1", desc := "()Z", sig := { parameters := [], returnType := some .boolean }, accessFlags := 16, code := some k11c8 }
def k11c9 : Code := { maxStack := 2, maxLocals := 2, code := jdk_68_method_71_code, exceptionTable := #[], attributes := #[] }
def k11m9 : Method := { name := "inflateIfNeededFor", desc := "(Ljava/lang/String;)V", sig := { parameters := [(.object "java/lang/String")], returnType := none }, accessFlags := 2, code := some k11c9 }
def k11c10 : Code := { maxStack := 4, maxLocals := 3, code := jdk_68_method_73_code, exceptionTable := #[], attributes := #[] }
def k11m10 : Method := { name := "putStringAt", desc := "(ILjava/lang/String;)V", sig := { parameters := [.int, (.object "java/lang/String")], returnType := none }, accessFlags := 2, code := some k11c10 }
/-- java/lang/AbstractStringBuilder -/
def k11 : Class := { plain "java/lang/AbstractStringBuilder" (some 0) with
  accessFlags := 1056
  interfaces := #[10, 4]
  cf := some (fileOf pool11 10 #[] #[{ accessFlags := 0, nameIndex := 7, descriptorIndex := 8, attributes := #[] }, { accessFlags := 0, nameIndex := 7, descriptorIndex := 103, attributes := #[] }, { accessFlags := 1, nameIndex := 34, descriptorIndex := 35, attributes := #[] }, { accessFlags := 2, nameIndex := 102, descriptorIndex := 103, attributes := #[] }, { accessFlags := 2, nameIndex := 106, descriptorIndex := 107, attributes := #[] }, { accessFlags := 1, nameIndex := 45, descriptorIndex := 46, attributes := #[] }, { accessFlags := 1, nameIndex := 45, descriptorIndex := 511, attributes := #[] }, { accessFlags := 16, nameIndex := 552, descriptorIndex := 403, attributes := #[] }, { accessFlags := 16, nameIndex := 85, descriptorIndex := 86, attributes := #[] }, { accessFlags := 2, nameIndex := 217, descriptorIndex := 69, attributes := #[] }, { accessFlags := 2, nameIndex := 210, descriptorIndex := 211, attributes := #[] }] 1056 4 #[444, 48] #[{ accessFlags := 0, nameIndex := 17, descriptorIndex := 14, attributes := #[] }, { accessFlags := 0, nameIndex := 24, descriptorIndex := 25, attributes := #[] }, { accessFlags := 0, nameIndex := 75, descriptorIndex := 21, attributes := #[] }, { accessFlags := 0, nameIndex := 81, descriptorIndex := 82, attributes := #[] }, { accessFlags := 26, nameIndex := 13, descriptorIndex := 14, attributes := #[] }])
  fields := #[{ name := "value", type := (.array .byte), accessFlags := 0, slot := 0, constantValue := 0 }, { name := "coder", type := .byte, accessFlags := 0, slot := 1, constantValue := 0 }, { name := "maybeLatin1", type := .boolean, accessFlags := 0, slot := 2, constantValue := 0 }, { name := "count", type := .int, accessFlags := 0, slot := 3, constantValue := 0 }, { name := "EMPTYVALUE", type := (.array .byte), accessFlags := 26, slot := 0, constantValue := 0 }]
  methods := #[k11m0, k11m1, k11m2, k11m3, k11m4, k11m5, k11m6, k11m7, k11m8, k11m9, k11m10]
  instanceTypes := #[(.array .byte), .byte, .boolean, .int]
  staticTypes := #[(.array .byte)]
  resolved := Array.replicate 609 none
  statics := none }

def pool12 : Array CpInfo := pool [(1, .methodref 2 3), (0, .class_ 4), (0, .nameAndType 5 6), (0, u "java/lang/AbstractStringBuilder"), (0, u "<init>"), (0, u "(I)V"), (11, .class_ 20), (1, u "java/lang/String"), (3, .class_ 26), (1, u "java/lang/StringBuilder"), (0, u "append"), (0, u "(Ljava/lang/String;)Ljava/lang/StringBuilder;"), (0, .methodref 2 30), (0, .nameAndType 27 31), (0, u "(Ljava/lang/String;)Ljava/lang/AbstractStringBuilder;"), (21, .methodref 2 54), (0, .nameAndType 27 55), (0, u "(I)Ljava/lang/AbstractStringBuilder;"), (81, .methodref 18 138), (0, .nameAndType 5 139), (0, u "(Ljava/lang/StringBuilder;)V"), (5, u "()V"), (10, u "()I"), (111, u "(I)Ljava/lang/StringBuilder;"), (74, .methodref 2 344), (0, .nameAndType 345 156), (0, u "length"), (3, .class_ 350), (0, u "java/lang/Appendable"), (0, .class_ 352), (0, u "java/io/Serializable"), (0, .class_ 354), (0, u "java/lang/Comparable"), (0, .class_ 356), (0, u "java/lang/CharSequence"), (0, u "serialVersionUID"), (0, u "J"), (40, u "toString"), (0, u "()Ljava/lang/String;")] 21

def k12c0 : Code := { maxStack := 2, maxLocals := 1, code := jdk_67_method_1_code, exceptionTable := #[], attributes := #[] }
def k12m0 : Method := { name := "<init>", desc := "()V", sig := { parameters := [], returnType := none }, accessFlags := 1, code := some k12c0 }
def k12c1 : Code := { maxStack := 2, maxLocals := 2, code := jdk_67_method_7_code, exceptionTable := #[], attributes := #[] }
def k12m1 : Method := { name := "append", desc := "(Ljava/lang/String;)Ljava/lang/StringBuilder;", sig := { parameters := [(.object "java/lang/String")], returnType := some (.object "java/lang/StringBuilder") }, accessFlags := 1, code := some k12c1 }
def k12c2 : Code := { maxStack := 2, maxLocals := 2, code := jdk_67_method_15_code, exceptionTable := #[], attributes := #[] }
def k12m2 : Method := { name := "append", desc := "(I)Ljava/lang/StringBuilder;", sig := { parameters := [.int], returnType := some (.object "java/lang/StringBuilder") }, accessFlags := 1, code := some k12c2 }
def k12c3 : Code := { maxStack := 3, maxLocals := 1, code := jdk_67_method_42_code, exceptionTable := #[], attributes := #[] }
def k12m3 : Method := { name := "toString", desc := "()Ljava/lang/String;", sig := { parameters := [], returnType := some (.object "java/lang/String") }, accessFlags := 1, code := some k12c3 }
def k12c4 : Code := { maxStack := 1, maxLocals := 1, code := jdk_67_method_93_code, exceptionTable := #[], attributes := #[] }
def k12m4 : Method := { name := "length", desc := "()I", sig := { parameters := [], returnType := some .int }, accessFlags := 4161, code := some k12c4 }
/-- java/lang/StringBuilder -/
def k12 : Class := { plain "java/lang/StringBuilder" (some 11) with
  accessFlags := 49
  interfaces := #[10, 2, 3, 4]
  cf := some (fileOf pool12 24 #[] #[{ accessFlags := 1, nameIndex := 5, descriptorIndex := 145, attributes := #[] }, { accessFlags := 1, nameIndex := 27, descriptorIndex := 28, attributes := #[] }, { accessFlags := 1, nameIndex := 27, descriptorIndex := 268, attributes := #[] }, { accessFlags := 1, nameIndex := 399, descriptorIndex := 400, attributes := #[] }, { accessFlags := 4161, nameIndex := 345, descriptorIndex := 156, attributes := #[] }] 49 2 #[349, 351, 353, 355] #[{ accessFlags := 24, nameIndex := 357, descriptorIndex := 358, attributes := #[] }])
  fields := #[{ name := "serialVersionUID", type := .long, accessFlags := 24, slot := 0, constantValue := 0 }]
  methods := #[k12m0, k12m1, k12m2, k12m3, k12m4]
  instanceTypes := #[(.array .byte), .byte, .boolean, .int]
  staticTypes := #[.long]
  resolved := Array.replicate 422 none
  statics := none }

def pool13 : Array CpInfo := pool [(2, .class_ 4), (1, u "java/lang/Object"), (0, u "<init>"), (0, u "()V"), (1, .class_ 10), (1, u "java/lang/System"), (0, u "allowSecurityManager"), (0, u "I"), (16, u "cons"), (0, u "Ljava/io/Console;"), (77, .class_ 110), (1, u "java/lang/System$CallersHolder"), (43, u "initialErrStream"), (0, u "Ljava/io/PrintStream;"), (19, u "security"), (0, u "Ljava/lang/SecurityManager;"), (31, .class_ 209), (0, u "java/lang/System$1"), (7, u "props"), (0, u "Ljava/util/Properties;"), (2, u "lineSeparator"), (0, u "Ljava/lang/String;"), (96, .class_ 321), (1, u "java/lang/System$LoggerFinder"), (5, .class_ 328), (0, u "java/lang/System$Logger"), (67, u "err"), (2, u "out"), (91, u "notSupportedJnuEncoding"), (15, u "in"), (17, u "initialIn"), (0, u "Ljava/io/InputStream;"), (35, u "bootLayer"), (0, u "Ljava/lang/ModuleLayer;"), (99, .class_ 664), (0, u "java/lang/System$2"), (9, u "NEVER"), (2, u "MAYBE"), (49, u "arraycopy"), (0, u "(Ljava/lang/Object;ILjava/lang/Object;II)V"), (72, .class_ 802), (0, u "java/lang/System$Logger$Level")] 31

def k13m0 : Method := { name := "<init>", desc := "()V", sig := { parameters := [], returnType := none }, accessFlags := 2, code := none }
def k13m1 : Method := { name := "arraycopy", desc := "(Ljava/lang/Object;ILjava/lang/Object;II)V", sig := { parameters := [(.object "java/lang/Object"), .int, (.object "java/lang/Object"), .int, .int], returnType := none }, accessFlags := 265, code := none }
/-- java/lang/System -/
def k13 : Class := { plain "java/lang/System" (some 0) with
  accessFlags := 49
  interfaces := #[]
  cf := some (fileOf pool13 8 #[.nestMembers #[319, 327, 801, 108, 663, 208]] #[{ accessFlags := 2, nameIndex := 5, descriptorIndex := 6, attributes := #[] }, { accessFlags := 265, nameIndex := 727, descriptorIndex := 728, attributes := #[] }] 49 2 #[] #[{ accessFlags := 25, nameIndex := 507, descriptorIndex := 526, attributes := #[] }, { accessFlags := 25, nameIndex := 399, descriptorIndex := 155, attributes := #[] }, { accessFlags := 25, nameIndex := 396, descriptorIndex := 155, attributes := #[] }, { accessFlags := 10, nameIndex := 525, descriptorIndex := 526, attributes := #[] }, { accessFlags := 26, nameIndex := 674, descriptorIndex := 12, attributes := #[] }, { accessFlags := 26, nameIndex := 677, descriptorIndex := 12, attributes := #[] }, { accessFlags := 10, nameIndex := 11, descriptorIndex := 12, attributes := #[] }, { accessFlags := 74, nameIndex := 175, descriptorIndex := 176, attributes := #[] }, { accessFlags := 10, nameIndex := 491, descriptorIndex := 222, attributes := #[] }, { accessFlags := 74, nameIndex := 29, descriptorIndex := 30, attributes := #[] }, { accessFlags := 74, nameIndex := 154, descriptorIndex := 155, attributes := #[] }, { accessFlags := 10, nameIndex := 217, descriptorIndex := 218, attributes := #[] }, { accessFlags := 10, nameIndex := 221, descriptorIndex := 222, attributes := #[] }, { accessFlags := 8, nameIndex := 562, descriptorIndex := 563, attributes := #[] }])
  fields := #[{ name := "in", type := (.object "java/io/InputStream"), accessFlags := 25, slot := 0, constantValue := 0 }, { name := "out", type := (.object "java/io/PrintStream"), accessFlags := 25, slot := 1, constantValue := 0 }, { name := "err", type := (.object "java/io/PrintStream"), accessFlags := 25, slot := 2, constantValue := 0 }, { name := "initialIn", type := (.object "java/io/InputStream"), accessFlags := 10, slot := 3, constantValue := 0 }, { name := "NEVER", type := .int, accessFlags := 26, slot := 4, constantValue := 0 }, { name := "MAYBE", type := .int, accessFlags := 26, slot := 5, constantValue := 0 }, { name := "allowSecurityManager", type := .int, accessFlags := 10, slot := 6, constantValue := 0 }, { name := "security", type := (.object "java/lang/SecurityManager"), accessFlags := 74, slot := 7, constantValue := 0 }, { name := "notSupportedJnuEncoding", type := (.object "java/lang/String"), accessFlags := 10, slot := 8, constantValue := 0 }, { name := "cons", type := (.object "java/io/Console"), accessFlags := 74, slot := 9, constantValue := 0 }, { name := "initialErrStream", type := (.object "java/io/PrintStream"), accessFlags := 74, slot := 10, constantValue := 0 }, { name := "props", type := (.object "java/util/Properties"), accessFlags := 10, slot := 11, constantValue := 0 }, { name := "lineSeparator", type := (.object "java/lang/String"), accessFlags := 10, slot := 12, constantValue := 0 }, { name := "bootLayer", type := (.object "java/lang/ModuleLayer"), accessFlags := 8, slot := 13, constantValue := 0 }]
  methods := #[k13m0, k13m1]
  instanceTypes := #[]
  staticTypes := #[(.object "java/io/InputStream"), (.object "java/io/PrintStream"), (.object "java/io/PrintStream"), (.object "java/io/InputStream"), .int, .int, .int, (.object "java/lang/SecurityManager"), (.object "java/lang/String"), (.object "java/io/Console"), (.object "java/io/PrintStream"), (.object "java/util/Properties"), (.object "java/lang/String"), (.object "java/lang/ModuleLayer")]
  resolved := Array.replicate 834 none
  statics := none }

def pool14 : Array CpInfo := pool [(2, .class_ 4), (1, u "java/lang/Object"), (0, u "<init>"), (0, u "()V"), (1, .class_ 10), (1, u "java/lang/Number"), (2, .class_ 14), (0, u "java/io/Serializable"), (0, u "serialVersionUID"), (0, u "J")] 20

def k14m0 : Method := { name := "<init>", desc := "()V", sig := { parameters := [], returnType := none }, accessFlags := 1, code := none }
/-- java/lang/Number -/
def k14 : Class := { plain "java/lang/Number" (some 0) with
  accessFlags := 1057
  interfaces := #[2]
  cf := some (fileOf pool14 8 #[] #[{ accessFlags := 1, nameIndex := 5, descriptorIndex := 6, attributes := #[] }] 1057 2 #[13] #[{ accessFlags := 26, nameIndex := 15, descriptorIndex := 16, attributes := #[] }])
  fields := #[{ name := "serialVersionUID", type := .long, accessFlags := 26, slot := 0, constantValue := 0 }]
  methods := #[k14m0]
  instanceTypes := #[]
  staticTypes := #[.long]
  resolved := Array.replicate 37 none
  statics := none }

def pool15 : Array CpInfo := pool [(1, .class_ 2), (0, u "java/lang/Integer"), (16, u "digits"), (0, u "[C"), (33, u "(I)I"), (19, u "stringSize"), (2, u "getChars"), (0, u "(II[B)I"), (4, .fieldref 1 84), (0, .nameAndType 85 86), (0, u "DigitOnes"), (0, u "[B"), (0, .fieldref 1 88), (0, .nameAndType 89 86), (0, u "DigitTens"), (99, .class_ 190), (0, u "java/lang/Integer$IntegerCache"), (3, u "I"), (8, .class_ 204), (0, u "java/lang/Number"), (2, u "value"), (94, u "TYPE"), (0, u "Ljava/lang/Class;"), (0, .class_ 305), (0, u "java/lang/Comparable"), (0, .class_ 307), (0, u "java/lang/constant/Constable"), (0, .class_ 309), (0, u "java/lang/constant/ConstantDesc"), (0, u "MIN_VALUE"), (1, u "MAX_VALUE"), (3, u "SIZE"), (1, u "BYTES"), (1, u "serialVersionUID"), (0, u "J")] 131

def k15c0 : Code := { maxStack := 4, maxLocals := 7, code := jdk_33_method_12_code, exceptionTable := #[], attributes := #[] }
def k15m0 : Method := { name := "getChars", desc := "(II[B)I", sig := { parameters := [.int, .int, (.array .byte)], returnType := some .int }, accessFlags := 8, code := some k15c0 }
def k15c1 : Code := { maxStack := 2, maxLocals := 4, code := jdk_33_method_13_code, exceptionTable := #[], attributes := #[] }
def k15m1 : Method := { name := "stringSize", desc := "(I)I", sig := { parameters := [.int], returnType := some .int }, accessFlags := 8, code := some k15c1 }
/-- java/lang/Integer -/
def k15 : Class := { plain "java/lang/Integer" (some 14) with
  accessFlags := 49
  interfaces := #[3, 5, 6]
  cf := some (fileOf pool15 1 #[.nestMembers #[189]] #[{ accessFlags := 8, nameIndex := 77, descriptorIndex := 78, attributes := #[] }, { accessFlags := 8, nameIndex := 74, descriptorIndex := 54, attributes := #[] }] 49 203 #[304, 306, 308] #[{ accessFlags := 25, nameIndex := 310, descriptorIndex := 194, attributes := #[] }, { accessFlags := 25, nameIndex := 312, descriptorIndex := 194, attributes := #[] }, { accessFlags := 25, nameIndex := 302, descriptorIndex := 303, attributes := #[] }, { accessFlags := 24, nameIndex := 19, descriptorIndex := 20, attributes := #[] }, { accessFlags := 24, nameIndex := 89, descriptorIndex := 86, attributes := #[] }, { accessFlags := 24, nameIndex := 85, descriptorIndex := 86, attributes := #[] }, { accessFlags := 18, nameIndex := 207, descriptorIndex := 194, attributes := #[] }, { accessFlags := 25, nameIndex := 316, descriptorIndex := 194, attributes := #[] }, { accessFlags := 25, nameIndex := 318, descriptorIndex := 194, attributes := #[] }, { accessFlags := 26, nameIndex := 320, descriptorIndex := 321, attributes := #[] }])
  fields := #[{ name := "MIN_VALUE", type := .int, accessFlags := 25, slot := 0, constantValue := 0 }, { name := "MAX_VALUE", type := .int, accessFlags := 25, slot := 1, constantValue := 0 }, { name := "TYPE", type := (.object "java/lang/Class"), accessFlags := 25, slot := 2, constantValue := 0 }, { name := "digits", type := (.array .char), accessFlags := 24, slot := 3, constantValue := 0 }, { name := "DigitTens", type := (.array .byte), accessFlags := 24, slot := 4, constantValue := 0 }, { name := "DigitOnes", type := (.array .byte), accessFlags := 24, slot := 5, constantValue := 0 }, { name := "value", type := .int, accessFlags := 18, slot := 0, constantValue := 0 }, { name := "SIZE", type := .int, accessFlags := 25, slot := 6, constantValue := 0 }, { name := "BYTES", type := .int, accessFlags := 25, slot := 7, constantValue := 0 }, { name := "serialVersionUID", type := .long, accessFlags := 26, slot := 8, constantValue := 0 }]
  methods := #[k15m0, k15m1]
  instanceTypes := #[.int]
  staticTypes := #[.int, .int, (.object "java/lang/Class"), (.array .char), (.array .byte), (.array .byte), .int, .int, .long]
  resolved := Array.replicate 453 none
  statics := some 1 }

def pool16 : Array CpInfo := pool [(9, u "<init>"), (6, .class_ 18), (1, u "java/lang/Object"), (0, u "()V"), (1, .class_ 23), (1, u "jdk/internal/util/ArraysSupport"), (0, u "LOG2_ARRAY_LONG_INDEX_SCALE"), (0, u "I"), (2, u "U"), (0, u "Ljdk/internal/misc/Unsafe;"), (8, u "BIG_ENDIAN"), (0, u "Z"), (8, u "LOG2_BYTE_BIT_SIZE"), (4, u "LOG2_ARRAY_INT_INDEX_SCALE"), (54, u "JLA"), (0, u "Ljdk/internal/access/JavaLangAccess;"), (11, u "LOG2_ARRAY_BOOLEAN_INDEX_SCALE"), (9, u "LOG2_ARRAY_BYTE_INDEX_SCALE"), (5, u "LOG2_ARRAY_CHAR_INDEX_SCALE"), (5, u "LOG2_ARRAY_SHORT_INDEX_SCALE"), (18, u "LOG2_ARRAY_FLOAT_INDEX_SCALE"), (24, u "LOG2_ARRAY_DOUBLE_INDEX_SCALE"), (6, .methodref 195 196), (0, .class_ 197), (0, .nameAndType 198 199), (0, u "java/lang/Math"), (0, u "max"), (0, u "(II)I"), (0, .integer 2147483639), (76, u "T_BOOLEAN"), (2, u "T_CHAR"), (1, u "T_FLOAT"), (1, u "T_DOUBLE"), (1, u "T_BYTE"), (1, u "T_SHORT"), (1, u "T_INT"), (1, u "T_LONG"), (1, u "SOFT_MAX_ARRAY_LENGTH"), (56, u "newLength"), (0, u "(III)I")] 25

def k16m0 : Method := { name := "<init>", desc := "()V", sig := { parameters := [], returnType := none }, accessFlags := 2, code := none }
def k16c1 : Code := { maxStack := 3, maxLocals := 4, code := jdk_48_method_27_code, exceptionTable := #[], attributes := #[] }
def k16m1 : Method := { name := "newLength", desc := "(III)I", sig := { parameters := [.int, .int, .int], returnType := some .int }, accessFlags := 9, code := some k16c1 }
/-- jdk/internal/util/ArraysSupport -/
def k16 : Class := { plain "jdk/internal/util/ArraysSupport" (some 0) with
  accessFlags := 33
  interfaces := #[]
  cf := some (fileOf pool16 21 #[] #[{ accessFlags := 2, nameIndex := 9, descriptorIndex := 19, attributes := #[] }, { accessFlags := 9, nameIndex := 351, descriptorIndex := 352, attributes := #[] }] 33 16 #[] #[{ accessFlags := 24, nameIndex := 28, descriptorIndex := 29, attributes := #[] }, { accessFlags := 26, nameIndex := 38, descriptorIndex := 39, attributes := #[] }, { accessFlags := 25, nameIndex := 121, descriptorIndex := 25, attributes := #[] }, { accessFlags := 25, nameIndex := 131, descriptorIndex := 25, attributes := #[] }, { accessFlags := 25, nameIndex := 137, descriptorIndex := 25, attributes := #[] }, { accessFlags := 25, nameIndex := 143, descriptorIndex := 25, attributes := #[] }, { accessFlags := 25, nameIndex := 53, descriptorIndex := 25, attributes := #[] }, { accessFlags := 25, nameIndex := 24, descriptorIndex := 25, attributes := #[] }, { accessFlags := 25, nameIndex := 162, descriptorIndex := 25, attributes := #[] }, { accessFlags := 25, nameIndex := 187, descriptorIndex := 25, attributes := #[] }, { accessFlags := 26, nameIndex := 48, descriptorIndex := 25, attributes := #[] }, { accessFlags := 25, nameIndex := 277, descriptorIndex := 25, attributes := #[] }, { accessFlags := 25, nameIndex := 280, descriptorIndex := 25, attributes := #[] }, { accessFlags := 25, nameIndex := 282, descriptorIndex := 25, attributes := #[] }, { accessFlags := 25, nameIndex := 284, descriptorIndex := 25, attributes := #[] }, { accessFlags := 25, nameIndex := 286, descriptorIndex := 25, attributes := #[] }, { accessFlags := 25, nameIndex := 288, descriptorIndex := 25, attributes := #[] }, { accessFlags := 25, nameIndex := 290, descriptorIndex := 25, attributes := #[] }, { accessFlags := 25, nameIndex := 292, descriptorIndex := 25, attributes := #[] }, { accessFlags := 26, nameIndex := 108, descriptorIndex := 109, attributes := #[] }, { accessFlags := 25, nameIndex := 294, descriptorIndex := 25, attributes := #[] }])
  fields := #[{ name := "U", type := (.object "jdk/internal/misc/Unsafe"), accessFlags := 24, slot := 0, constantValue := 0 }, { name := "BIG_ENDIAN", type := .boolean, accessFlags := 26, slot := 1, constantValue := 0 }, { name := "LOG2_ARRAY_BOOLEAN_INDEX_SCALE", type := .int, accessFlags := 25, slot := 2, constantValue := 0 }, { name := "LOG2_ARRAY_BYTE_INDEX_SCALE", type := .int, accessFlags := 25, slot := 3, constantValue := 0 }, { name := "LOG2_ARRAY_CHAR_INDEX_SCALE", type := .int, accessFlags := 25, slot := 4, constantValue := 0 }, { name := "LOG2_ARRAY_SHORT_INDEX_SCALE", type := .int, accessFlags := 25, slot := 5, constantValue := 0 }, { name := "LOG2_ARRAY_INT_INDEX_SCALE", type := .int, accessFlags := 25, slot := 6, constantValue := 0 }, { name := "LOG2_ARRAY_LONG_INDEX_SCALE", type := .int, accessFlags := 25, slot := 7, constantValue := 0 }, { name := "LOG2_ARRAY_FLOAT_INDEX_SCALE", type := .int, accessFlags := 25, slot := 8, constantValue := 0 }, { name := "LOG2_ARRAY_DOUBLE_INDEX_SCALE", type := .int, accessFlags := 25, slot := 9, constantValue := 0 }, { name := "LOG2_BYTE_BIT_SIZE", type := .int, accessFlags := 26, slot := 10, constantValue := 0 }, { name := "T_BOOLEAN", type := .int, accessFlags := 25, slot := 11, constantValue := 0 }, { name := "T_CHAR", type := .int, accessFlags := 25, slot := 12, constantValue := 0 }, { name := "T_FLOAT", type := .int, accessFlags := 25, slot := 13, constantValue := 0 }, { name := "T_DOUBLE", type := .int, accessFlags := 25, slot := 14, constantValue := 0 }, { name := "T_BYTE", type := .int, accessFlags := 25, slot := 15, constantValue := 0 }, { name := "T_SHORT", type := .int, accessFlags := 25, slot := 16, constantValue := 0 }, { name := "T_INT", type := .int, accessFlags := 25, slot := 17, constantValue := 0 }, { name := "T_LONG", type := .int, accessFlags := 25, slot := 18, constantValue := 0 }, { name := "JLA", type := (.object "jdk/internal/access/JavaLangAccess"), accessFlags := 26, slot := 19, constantValue := 0 }, { name := "SOFT_MAX_ARRAY_LENGTH", type := .int, accessFlags := 25, slot := 20, constantValue := 0 }]
  methods := #[k16m0, k16m1]
  instanceTypes := #[]
  staticTypes := #[(.object "jdk/internal/misc/Unsafe"), .boolean, .int, .int, .int, .int, .int, .int, .int, .int, .int, .int, .int, .int, .int, .int, .int, .int, .int, (.object "jdk/internal/access/JavaLangAccess"), .int]
  resolved := Array.replicate 378 none
  statics := none }

def pool17 : Array CpInfo := pool [(1, .class_ 2), (0, u "java/lang/Math"), (1, .class_ 6), (1, u "java/lang/Object"), (0, u "<init>"), (0, u "()V"), (89, .class_ 100), (1, u "java/lang/Math$RandomNumberGeneratorHolder"), (71, u "negativeZeroFloatBits"), (0, u "J"), (2, u "negativeZeroDoubleBits"), (21, u "max"), (2, u "min"), (43, u "$assertionsDisabled"), (0, u "Z"), (88, u "(II)I"), (2, u "twoToTheDoubleScaleDown"), (0, u "D"), (4, u "twoToTheDoubleScaleUp"), (9, u "E"), (3, u "PI"), (2, u "TAU"), (2, u "DEGREES_TO_RADIANS"), (0, u "RADIANS_TO_DEGREES")] 94

def k17m0 : Method := { name := "<init>", desc := "()V", sig := { parameters := [], returnType := none }, accessFlags := 2, code := none }
def k17c1 : Code := { maxStack := 2, maxLocals := 2, code := jdk_29_method_65_code, exceptionTable := #[], attributes := #[] }
def k17m1 : Method := { name := "max", desc := "(II)I", sig := { parameters := [.int, .int], returnType := some .int }, accessFlags := 9, code := some k17c1 }
def k17c2 : Code := { maxStack := 2, maxLocals := 2, code := jdk_29_method_69_code, exceptionTable := #[], attributes := #[] }
def k17m2 : Method := { name := "min", desc := "(II)I", sig := { parameters := [.int, .int], returnType := some .int }, accessFlags := 9, code := some k17c2 }
/-- java/lang/Math -/
def k17 : Class := { plain "java/lang/Math" (some 0) with
  accessFlags := 49
  interfaces := #[]
  cf := some (fileOf pool17 1 #[.nestMembers #[98]] #[{ accessFlags := 2, nameIndex := 7, descriptorIndex := 8, attributes := #[] }, { accessFlags := 9, nameIndex := 198, descriptorIndex := 335, attributes := #[] }, { accessFlags := 9, nameIndex := 201, descriptorIndex := 335, attributes := #[] }] 49 4 #[] #[{ accessFlags := 25, nameIndex := 354, descriptorIndex := 339, attributes := #[] }, { accessFlags := 25, nameIndex := 358, descriptorIndex := 339, attributes := #[] }, { accessFlags := 25, nameIndex := 361, descriptorIndex := 339, attributes := #[] }, { accessFlags := 26, nameIndex := 364, descriptorIndex := 339, attributes := #[] }, { accessFlags := 26, nameIndex := 365, descriptorIndex := 339, attributes := #[] }, { accessFlags := 26, nameIndex := 172, descriptorIndex := 173, attributes := #[] }, { accessFlags := 26, nameIndex := 176, descriptorIndex := 173, attributes := #[] }, { accessFlags := 8, nameIndex := 344, descriptorIndex := 339, attributes := #[] }, { accessFlags := 8, nameIndex := 338, descriptorIndex := 339, attributes := #[] }, { accessFlags := 4120, nameIndex := 245, descriptorIndex := 246, attributes := #[] }])
  fields := #[{ name := "E", type := .double, accessFlags := 25, slot := 0, constantValue := 0 }, { name := "PI", type := .double, accessFlags := 25, slot := 1, constantValue := 0 }, { name := "TAU", type := .double, accessFlags := 25, slot := 2, constantValue := 0 }, { name := "DEGREES_TO_RADIANS", type := .double, accessFlags := 26, slot := 3, constantValue := 0 }, { name := "RADIANS_TO_DEGREES", type := .double, accessFlags := 26, slot := 4, constantValue := 0 }, { name := "negativeZeroFloatBits", type := .long, accessFlags := 26, slot := 5, constantValue := 0 }, { name := "negativeZeroDoubleBits", type := .long, accessFlags := 26, slot := 6, constantValue := 0 }, { name := "twoToTheDoubleScaleUp", type := .double, accessFlags := 8, slot := 7, constantValue := 0 }, { name := "twoToTheDoubleScaleDown", type := .double, accessFlags := 8, slot := 8, constantValue := 0 }, { name := "$assertionsDisabled", type := .boolean, accessFlags := 4120, slot := 9, constantValue := 0 }]
  methods := #[k17m0, k17m1, k17m2]
  instanceTypes := #[]
  staticTypes := #[.double, .double, .double, .double, .double, .long, .long, .double, .double, .boolean]
  resolved := Array.replicate 460 none
  statics := none }

def pool18 : Array CpInfo := pool [(2, .class_ 4), (1, u "java/lang/Object"), (0, u "<init>"), (0, u "()V"), (7, .class_ 16), (1, u "java/util/Arrays"), (57, .class_ 76), (1, u "java/util/Arrays$NaturalOrder"), (36, .class_ 115), (1, u "java/util/Arrays$LegacyMergeSort"), (1, u "Z"), (21, u "copyOfRange"), (10, .methodref 151 152), (0, .class_ 153), (0, .nameAndType 154 155), (0, u "java/lang/System"), (0, u "arraycopy"), (0, u "(Ljava/lang/Object;ILjava/lang/Object;II)V"), (146, u "copyOf"), (1, .methodref 305 306), (0, .class_ 307), (0, .nameAndType 308 309), (0, u "java/lang/Math"), (0, u "min"), (0, u "(II)I"), (29, .methodref 14 340), (0, .nameAndType 341 342), (0, u "copyOfRangeByte"), (0, u "([BII)[B"), (0, .methodref 14 344), (0, .nameAndType 345 346), (0, u "checkLength"), (0, u "(II)V"), (28, .class_ 376), (0, u "java/util/Arrays$ArrayList"), (68, u "$assertionsDisabled"), (269, u "MIN_ARRAY_SORT_GRAN"), (0, u "I"), (2, u "INSERTIONSORT_THRESHOLD"), (149, u "([BI)[B"), (105, .class_ 976), (0, u "java/util/Arrays$ArrayItr")] 52

def k18m0 : Method := { name := "<init>", desc := "()V", sig := { parameters := [], returnType := none }, accessFlags := 2, code := none }
def k18c1 : Code := { maxStack := 6, maxLocals := 3, code := jdk_65_method_121_code, exceptionTable := #[], attributes := #[] }
def k18m1 : Method := { name := "copyOf", desc := "([BI)[B", sig := { parameters := [(.array .byte), .int], returnType := some (.array .byte) }, accessFlags := 9, code := some k18c1 }
def k18c2 : Code := { maxStack := 4, maxLocals := 2, code := jdk_65_method_131_code, exceptionTable := #[], attributes := #[] }
def k18m2 : Method := { name := "checkLength", desc := "(II)V", sig := { parameters := [.int, .int], returnType := none }, accessFlags := 10, code := some k18c2 }
def k18c3 : Code := { maxStack := 3, maxLocals := 3, code := jdk_65_method_132_code, exceptionTable := #[], attributes := #[] }
def k18m3 : Method := { name := "copyOfRange", desc := "([BII)[B", sig := { parameters := [(.array .byte), .int, .int], returnType := some (.array .byte) }, accessFlags := 9, code := some k18c3 }
def k18c4 : Code := { maxStack := 6, maxLocals := 5, code := jdk_65_method_133_code, exceptionTable := #[], attributes := #[] }
def k18m4 : Method := { name := "copyOfRangeByte", desc := "([BII)[B", sig := { parameters := [(.array .byte), .int, .int], returnType := some (.array .byte) }, accessFlags := 10, code := some k18c4 }
/-- java/util/Arrays -/
def k18 : Class := { plain "java/util/Arrays" (some 0) with
  accessFlags := 49
  interfaces := #[]
  cf := some (fileOf pool18 14 #[.nestMembers #[975, 375, 113, 74]] #[{ accessFlags := 2, nameIndex := 5, descriptorIndex := 6, attributes := #[] }, { accessFlags := 9, nameIndex := 302, descriptorIndex := 869, attributes := #[] }, { accessFlags := 10, nameIndex := 345, descriptorIndex := 346, attributes := #[] }, { accessFlags := 9, nameIndex := 139, descriptorIndex := 342, attributes := #[] }, { accessFlags := 10, nameIndex := 341, descriptorIndex := 342, attributes := #[] }] 49 2 #[] #[{ accessFlags := 26, nameIndex := 715, descriptorIndex := 716, attributes := #[] }, { accessFlags := 26, nameIndex := 719, descriptorIndex := 716, attributes := #[] }, { accessFlags := 4120, nameIndex := 445, descriptorIndex := 117, attributes := #[] }])
  fields := #[{ name := "MIN_ARRAY_SORT_GRAN", type := .int, accessFlags := 26, slot := 0, constantValue := 0 }, { name := "INSERTIONSORT_THRESHOLD", type := .int, accessFlags := 26, slot := 1, constantValue := 0 }, { name := "$assertionsDisabled", type := .boolean, accessFlags := 4120, slot := 2, constantValue := 0 }]
  methods := #[k18m0, k18m1, k18m2, k18m3, k18m4]
  instanceTypes := #[]
  staticTypes := #[.int, .int, .boolean]
  resolved := Array.replicate 1029 none
  statics := none }

def pool19 : Array CpInfo := pool [(1, .class_ 2), (0, u "java/lang/String"), (1, .class_ 6), (1, u "java/lang/Object"), (0, u "<init>"), (0, u "()V"), (0, .methodref 1 10), (0, .nameAndType 11 12), (0, u "checkIndex"), (0, u "(II)V"), (1, .class_ 16), (1, u "java/lang/StringLatin1"), (36, u "([BI)C"), (67, u "$assertionsDisabled"), (0, u "Z"), (98, .class_ 223), (1, u "java/lang/StringLatin1$LinesSpliterator"), (28, u "charAt"), (28, u "equals"), (0, u "([B[B)Z"), (107, .class_ 391), (0, u "java/lang/StringLatin1$CharsSpliterator")] 3

def k19m0 : Method := { name := "<init>", desc := "()V", sig := { parameters := [], returnType := none }, accessFlags := 0, code := none }
def k19c1 : Code := { maxStack := 2, maxLocals := 2, code := jdk_43_method_2_code, exceptionTable := #[], attributes := #[] }
def k19m1 : Method := { name := "charAt", desc := "([BI)C", sig := { parameters := [(.array .byte), .int], returnType := some .char }, accessFlags := 9, code := some k19c1 }
def k19c2 : Code := { maxStack := 3, maxLocals := 3, code := jdk_43_method_13_code, exceptionTable := #[], attributes := #[] }
def k19m2 : Method := { name := "equals", desc := "([B[B)Z", sig := { parameters := [(.array .byte), (.array .byte)], returnType := some .boolean }, accessFlags := 9, code := some k19c2 }
/-- java/lang/StringLatin1 -/
def k19 : Class := { plain "java/lang/StringLatin1" (some 0) with
  accessFlags := 48
  interfaces := #[]
  cf := some (fileOf pool19 14 #[.nestMembers #[390, 221]] #[{ accessFlags := 0, nameIndex := 7, descriptorIndex := 8, attributes := #[] }, { accessFlags := 9, nameIndex := 252, descriptorIndex := 53, attributes := #[] }, { accessFlags := 9, nameIndex := 281, descriptorIndex := 282, attributes := #[] }] 48 4 #[] #[{ accessFlags := 4120, nameIndex := 121, descriptorIndex := 122, attributes := #[] }])
  fields := #[{ name := "$assertionsDisabled", type := .boolean, accessFlags := 4120, slot := 0, constantValue := 0 }]
  methods := #[k19m0, k19m1, k19m2]
  instanceTypes := #[]
  staticTypes := #[.boolean]
  resolved := Array.replicate 395 none
  statics := none }

def pool20 : Array CpInfo := pool [(2, .class_ 4), (1, u "java/lang/Object"), (0, u "<init>"), (0, u "()V"), (17, .class_ 26), (1, u "jdk/internal/util/Preconditions"), (6, u "checkIndex"), (21, .class_ 56), (0, u "jdk/internal/util/Preconditions$4"), (57, .class_ 115), (0, u "jdk/internal/util/Preconditions$1"), (7, u "SIOOBE_FORMATTER"), (0, u "Ljava/util/function/BiFunction;"), (0, .class_ 126), (0, u "jdk/internal/util/Preconditions$2"), (3, u "AIOOBE_FORMATTER"), (0, .class_ 132), (0, u "jdk/internal/util/Preconditions$3"), (3, u "IOOBE_FORMATTER"), (41, u "(IILjava/util/function/BiFunction;)I")] 15

def k20m0 : Method := { name := "<init>", desc := "()V", sig := { parameters := [], returnType := none }, accessFlags := 1, code := none }
def k20c1 : Code := { maxStack := 3, maxLocals := 3, code := jdk_41_method_11_code, exceptionTable := #[], attributes := #[] }
def k20m1 : Method := { name := "checkIndex", desc := "(IILjava/util/function/BiFunction;)I", sig := { parameters := [.int, .int, (.object "java/util/function/BiFunction")], returnType := some .int }, accessFlags := 9, code := some k20c1 }
/-- jdk/internal/util/Preconditions -/
def k20 : Class := { plain "jdk/internal/util/Preconditions" (some 0) with
  accessFlags := 33
  interfaces := #[]
  cf := some (fileOf pool20 24 #[.nestMembers #[55, 131, 125, 114]] #[{ accessFlags := 1, nameIndex := 5, descriptorIndex := 6, attributes := #[] }, { accessFlags := 9, nameIndex := 33, descriptorIndex := 178, attributes := #[] }] 33 2 #[] #[{ accessFlags := 25, nameIndex := 123, descriptorIndex := 124, attributes := #[] }, { accessFlags := 25, nameIndex := 130, descriptorIndex := 124, attributes := #[] }, { accessFlags := 25, nameIndex := 136, descriptorIndex := 124, attributes := #[] }])
  fields := #[{ name := "SIOOBE_FORMATTER", type := (.object "java/util/function/BiFunction"), accessFlags := 25, slot := 0, constantValue := 0 }, { name := "AIOOBE_FORMATTER", type := (.object "java/util/function/BiFunction"), accessFlags := 25, slot := 1, constantValue := 0 }, { name := "IOOBE_FORMATTER", type := (.object "java/util/function/BiFunction"), accessFlags := 25, slot := 2, constantValue := 0 }]
  methods := #[k20m0, k20m1]
  instanceTypes := #[]
  staticTypes := #[(.object "java/util/function/BiFunction"), (.object "java/util/function/BiFunction"), (.object "java/util/function/BiFunction")]
  resolved := Array.replicate 194 none
  statics := some 2 }

def pool21 : Array CpInfo := pool [(1, u "java/lang/Cloneable"), (0, .class_ 1), (0, u "java/lang/Object"), (0, .class_ 3)] 3

/-- java/lang/Cloneable -/
def k21 : Class := { plain "java/lang/Cloneable" (some 0) with
  accessFlags := 1537
  interfaces := #[]
  cf := some (fileOf pool21 2 #[] #[] 1537 4 #[] #[])
  fields := #[]
  methods := #[]
  instanceTypes := #[]
  staticTypes := #[]
  resolved := Array.replicate 8 none
  statics := none }

/-- the primitive byte -/
def k22 : Class := { plain "byte" none with kind := .primitive 'B', accessFlags := 0x411 }
/-- [B -/
def k23 : Class := { plain "[B" (some 0) with kind := .array 22 .byte, interfaces := #[21, 2], accessFlags := 1041 }

/-- the primitive char -/
def k24 : Class := { plain "char" none with kind := .primitive 'C', accessFlags := 0x411 }
/-- [C -/
def k25 : Class := { plain "[C" (some 0) with kind := .array 24 .char, interfaces := #[21, 2], accessFlags := 1041 }

/-- the primitive int -/
def k26 : Class := { plain "int" none with kind := .primitive 'I', accessFlags := 0x411 }
/-- [I -/
def k27 : Class := { plain "[I" (some 0) with kind := .array 26 .int, interfaces := #[21, 2], accessFlags := 1041 }

def heap : Heap := #[{ cls := 7, slots := #[.long 0, .int 1, .null, .int 0, .null, .int 0, .int 0], vm := .statics 7 },
  { cls := 15, slots := #[.int 0, .int 0, .null, .null, .ref 4, .ref 3, .int 0, .int 0, .long 0], vm := .statics 15 },
  { cls := 20, slots := #[.null, .null, .null], vm := .statics 20 },
  { cls := 23, slots := #[.int 48, .int 49, .int 50, .int 51, .int 52, .int 53, .int 54, .int 55, .int 56, .int 57, .int 48, .int 49, .int 50, .int 51, .int 52, .int 53, .int 54, .int 55, .int 56, .int 57, .int 48, .int 49, .int 50, .int 51, .int 52, .int 53, .int 54, .int 55, .int 56, .int 57, .int 48, .int 49, .int 50, .int 51, .int 52, .int 53, .int 54, .int 55, .int 56, .int 57, .int 48, .int 49, .int 50, .int 51, .int 52, .int 53, .int 54, .int 55, .int 56, .int 57, .int 48, .int 49, .int 50, .int 51, .int 52, .int 53, .int 54, .int 55, .int 56, .int 57, .int 48, .int 49, .int 50, .int 51, .int 52, .int 53, .int 54, .int 55, .int 56, .int 57, .int 48, .int 49, .int 50, .int 51, .int 52, .int 53, .int 54, .int 55, .int 56, .int 57, .int 48, .int 49, .int 50, .int 51, .int 52, .int 53, .int 54, .int 55, .int 56, .int 57, .int 48, .int 49, .int 50, .int 51, .int 52, .int 53, .int 54, .int 55, .int 56, .int 57], vm := .none },
  { cls := 23, slots := #[.int 48, .int 48, .int 48, .int 48, .int 48, .int 48, .int 48, .int 48, .int 48, .int 48, .int 49, .int 49, .int 49, .int 49, .int 49, .int 49, .int 49, .int 49, .int 49, .int 49, .int 50, .int 50, .int 50, .int 50, .int 50, .int 50, .int 50, .int 50, .int 50, .int 50, .int 51, .int 51, .int 51, .int 51, .int 51, .int 51, .int 51, .int 51, .int 51, .int 51, .int 52, .int 52, .int 52, .int 52, .int 52, .int 52, .int 52, .int 52, .int 52, .int 52, .int 53, .int 53, .int 53, .int 53, .int 53, .int 53, .int 53, .int 53, .int 53, .int 53, .int 54, .int 54, .int 54, .int 54, .int 54, .int 54, .int 54, .int 54, .int 54, .int 54, .int 55, .int 55, .int 55, .int 55, .int 55, .int 55, .int 55, .int 55, .int 55, .int 55, .int 56, .int 56, .int 56, .int 56, .int 56, .int 56, .int 56, .int 56, .int 56, .int 56, .int 57, .int 57, .int 57, .int 57, .int 57, .int 57, .int 57, .int 57, .int 57, .int 57], vm := .none }]
def classes : Array Class := #[k0, k1, k2, k3, k4, k5, k6, k7, k8, k9, k10, k11, k12, k13, k14, k15, k16, k17, k18, k19, k20, k21, k22, k23, k24, k25, k26, k27]
def interned : List (Array UInt16 × Addr) := []
def slotsUsed : Nat := 219
def theMethod : MethodId := ⟨1, 2⟩
def args0 : Array Value := #[.int 5, .int 3, .int 7]
def aboutOver (below : List Frame) : State where
  vm := { classes := classes, interned := interned.toArray }
  heap := heap
  slotsUsed := slotsUsed
  threads := #[{ frames := .invoking theMethod args0 :: below }]
def below0 : List Frame := [.native { method := ⟨0, 0⟩, args := #[] }]
def about1 : State := aboutOver below0
def p0 : Program := .bare "" "" ""
def e0 : Env := launch0.env 0 0 0
theorem w_frames : about1.frames = Frame.invoking theMethod args0 :: below0 := rfl
set_option maxRecDepth 65536 in
theorem w_args : argsFit about1.vm theMethod args0 = true := by decide +kernel
set_option maxRecDepth 65536 in
theorem w_heap : heapFits about1 = true := by decide +kernel
set_option maxRecDepth 65536 in
theorem w_runnable : about1.curStatus? = some .runnable := by decide +kernel
set_option maxRecDepth 65536 in
theorem w_alone : about1.alone = true := by decide +kernel
set_option maxRecDepth 65536 in
theorem w_named : about1.methodNamed? x = some theMethod := by decide +kernel
set_option maxRecDepth 65536 in
theorem w_hears : about1.hears theMethod below0 = true := by decide +kernel
set_option maxRecDepth 65536 in
theorem w_ripe : about1.ripe theMethod args0 below0 = true := by decide +kernel
theorem w_running : about1.status = .running := rfl
set_option maxRecDepth 65536 in
theorem w_room : about1.hasRoom e0.platform room_1 = true :=
  launch0.hasRoom_least _ room_1 (by decide +kernel) (by decide +kernel) (by decide +kernel) (by decide +kernel) (by decide +kernel) (by decide +kernel)
theorem allAtoms_all (ts : List Jvm.Cond) (a : Array Jvm.Value) (st : Jvm.State) : (allAtoms ts).before a st = ts.all (fun c => c.before a st) := by
  induction ts with
  | nil => rfl
  | cons c t ih =>
    show (Jvm.Cond.and c (allAtoms t)).before a st = _
    rw [Jvm.Cond.before_and, ih, List.all_cons]
def words1 : List Jvm.Cond := Jvm.Cond.code x code maxLocals ret :: tables_1
/-- a 'code' word, met by the world's own term for the bytes: nothing is compared byte by byte -/
theorem code_word {y : MethodName} {bytes : ByteArray} {mx : Nat} {rt : Option FieldType} {a : Array Value} {s : State} {m : MethodId} {meth : Method} {c : Code} (h1 : s.methodNamed? y = some m) (h2 : s.vm.method? m = some meth) (h3 : meth.code = some c) (h4 : c.code = bytes)
    (h5 : (c.maxLocals == mx && c.exceptionTable.isEmpty && decide (c.maxStack ≤ mostOperands) && decide (meth.sig.returnType = rt) && !meth.locks && decide (parseMethodDescriptor y.desc = some meth.sig)) = true) : (Jvm.Cond.code y bytes mx rt).before a s = true := by
  simp only [Bool.and_eq_true, beq_iff_eq, Bool.not_eq_true', decide_eq_true_eq] at h5
  obtain ⟨⟨⟨⟨⟨g1, g2⟩, g3⟩, g4⟩, g5⟩, g6⟩ := h5
  simp [Cond.before, Cond.holds, Cond.value, h1, h2, h3, h4, g1, g2, g3, g4, g5, g6]
def isCode : Jvm.Cond → Bool
  | .code _ _ _ _ => true
  | _ => false
theorem all_split {L : List Jvm.Cond} {P : Jvm.Cond → Bool} (h1 : L.all (fun c => isCode c || P c) = true) (h2 : ∀ c ∈ L.filter isCode, P c = true) : L.all P = true := by
  refine List.all_eq_true.mpr fun c hc => ?_
  have h := List.all_eq_true.mp h1 c hc
  rcases Bool.eq_false_or_eq_true (isCode c) with hi | hi
  · exact h2 c (List.mem_filter.mpr ⟨hc, hi⟩)
  · simpa [hi] using h
set_option maxRecDepth 65536 in
theorem w_c0 : (Jvm.Cond.code x code maxLocals ret).before args0 about1 = true := code_word (m := ⟨1, 2⟩) (meth := k1m2) (c := k1c2) (by decide +kernel) rfl rfl rfl (by decide +kernel)
set_option maxRecDepth 65536 in
theorem w_c1 : (Jvm.Cond.code ({ cls := "java/lang/String", name := "<init>", desc := "([C)V" } : Jvm.MethodName) jdk_42_method_3_code (2 : Nat) (Option.none : Option Jvm.ClassFile.FieldType)).before args0 about1 = true := code_word (m := ⟨7, 1⟩) (meth := k7m1) (c := k7c1) (by decide +kernel) rfl rfl rfl (by decide +kernel)
set_option maxRecDepth 65536 in
theorem w_c2 : (Jvm.Cond.code ({ cls := "java/lang/String", name := "<init>", desc := "([CIILjava/lang/Void;)V" } : Jvm.MethodName) jdk_42_method_149_code (6 : Nat) (Option.none : Option Jvm.ClassFile.FieldType)).before args0 about1 = true := code_word (m := ⟨7, 7⟩) (meth := k7m7) (c := k7c7) (by decide +kernel) rfl rfl rfl (by decide +kernel)
set_option maxRecDepth 65536 in
theorem w_c3 : (Jvm.Cond.code ({ cls := "java/lang/Object", name := "<init>", desc := "()V" } : Jvm.MethodName) object_method_1_code (1 : Nat) (Option.none : Option Jvm.ClassFile.FieldType)).before args0 about1 = true := code_word (m := ⟨0, 0⟩) (meth := k0m0) (c := k0c0) (by decide +kernel) rfl rfl rfl (by decide +kernel)
set_option maxRecDepth 65536 in
theorem w_c4 : (Jvm.Cond.code ({ cls := "java/lang/StringUTF16", name := "compress", desc := "([CII)[B" } : Jvm.MethodName) jdk_52_method_16_code (6 : Nat) (Option.some (Jvm.ClassFile.FieldType.array Jvm.ClassFile.FieldType.byte))).before args0 about1 = true := code_word (m := ⟨8, 2⟩) (meth := k8m2) (c := k8c2) (by decide +kernel) rfl rfl rfl (by decide +kernel)
set_option maxRecDepth 65536 in
theorem w_c5 : (Jvm.Cond.code ({ cls := "java/lang/StringUTF16", name := "compress", desc := "([CI[BII)I" } : Jvm.MethodName) jdk_52_method_21_code (7 : Nat) (Option.some Jvm.ClassFile.FieldType.int)).before args0 about1 = true := code_word (m := ⟨8, 3⟩) (meth := k8m3) (c := k8c3) (by decide +kernel) rfl rfl rfl (by decide +kernel)
set_option maxRecDepth 65536 in
theorem w_c6 : (Jvm.Cond.code ({ cls := "java/lang/StringUTF16", name := "coderFromArrayLen", desc := "([BI)B" } : Jvm.MethodName) jdk_52_method_15_code (2 : Nat) (Option.some Jvm.ClassFile.FieldType.byte)).before args0 about1 = true := code_word (m := ⟨8, 1⟩) (meth := k8m1) (c := k8c1) (by decide +kernel) rfl rfl rfl (by decide +kernel)
set_option maxRecDepth 65536 in
theorem w_c7 : (Jvm.Cond.code ({ cls := "com/example/envelope/envelope/io/KeptLengthBeyondPinLaw", name := "makeText", desc := "(IC)Ljava/lang/String;" } : Jvm.MethodName) method_2_code (2 : Nat) (Option.some (Jvm.ClassFile.FieldType.object "java/lang/String"))).before args0 about1 = true := code_word (m := ⟨1, 1⟩) (meth := k1m1) (c := k1c1) (by decide +kernel) rfl rfl rfl (by decide +kernel)
set_option maxRecDepth 65536 in
theorem w_c8 : (Jvm.Cond.code ({ cls := "com/example/envelope/envelope/io/KeptLength", name := "beyond", desc := "(Ljava/lang/String;Ljava/lang/String;I)Ljava/lang/String;" } : Jvm.MethodName) prog_5_method_2_code (3 : Nat) (Option.some (Jvm.ClassFile.FieldType.object "java/lang/String"))).before args0 about1 = true := code_word (m := ⟨9, 1⟩) (meth := k9m1) (c := k9c1) (by decide +kernel) rfl rfl rfl (by decide +kernel)
set_option maxRecDepth 65536 in
theorem w_c9 : (Jvm.Cond.code ({ cls := "java/lang/String", name := "length", desc := "()I" } : Jvm.MethodName) jdk_42_method_54_code (1 : Nat) (Option.some Jvm.ClassFile.FieldType.int)).before args0 about1 = true := code_word (m := ⟨7, 3⟩) (meth := k7m3) (c := k7c3) (by decide +kernel) rfl rfl rfl (by decide +kernel)
set_option maxRecDepth 65536 in
theorem w_c10 : (Jvm.Cond.code ({ cls := "java/lang/String", name := "coder", desc := "()B" } : Jvm.MethodName) jdk_42_method_152_code (1 : Nat) (Option.some Jvm.ClassFile.FieldType.byte)).before args0 about1 = true := code_word (m := ⟨7, 9⟩) (meth := k7m9) (c := k7c9) (by decide +kernel) rfl rfl rfl (by decide +kernel)
set_option maxRecDepth 65536 in
theorem w_c11 : (Jvm.Cond.code ({ cls := "java/lang/StringBuilder", name := "<init>", desc := "()V" } : Jvm.MethodName) jdk_67_method_1_code (1 : Nat) (Option.none : Option Jvm.ClassFile.FieldType)).before args0 about1 = true := code_word (m := ⟨12, 0⟩) (meth := k12m0) (c := k12c0) (by decide +kernel) rfl rfl rfl (by decide +kernel)
set_option maxRecDepth 65536 in
theorem w_c12 : (Jvm.Cond.code ({ cls := "java/lang/AbstractStringBuilder", name := "<init>", desc := "(I)V" } : Jvm.MethodName) jdk_68_method_2_code (2 : Nat) (Option.none : Option Jvm.ClassFile.FieldType)).before args0 about1 = true := code_word (m := ⟨11, 1⟩) (meth := k11m1) (c := k11c1) (by decide +kernel) rfl rfl rfl (by decide +kernel)
set_option maxRecDepth 65536 in
theorem w_c13 : (Jvm.Cond.code ({ cls := "java/lang/StringBuilder", name := "append", desc := "(Ljava/lang/String;)Ljava/lang/StringBuilder;" } : Jvm.MethodName) jdk_67_method_7_code (2 : Nat) (Option.some (Jvm.ClassFile.FieldType.object "java/lang/StringBuilder"))).before args0 about1 = true := code_word (m := ⟨12, 1⟩) (meth := k12m1) (c := k12c1) (by decide +kernel) rfl rfl rfl (by decide +kernel)
set_option maxRecDepth 65536 in
theorem w_c14 : (Jvm.Cond.code ({ cls := "java/lang/AbstractStringBuilder", name := "append", desc := "(Ljava/lang/String;)Ljava/lang/AbstractStringBuilder;" } : Jvm.MethodName) jdk_68_method_22_code (3 : Nat) (Option.some (Jvm.ClassFile.FieldType.object "java/lang/AbstractStringBuilder"))).before args0 about1 = true := code_word (m := ⟨11, 5⟩) (meth := k11m5) (c := k11c5) (by decide +kernel) rfl rfl rfl (by decide +kernel)
set_option maxRecDepth 65536 in
theorem w_c15 : (Jvm.Cond.code ({ cls := "java/lang/AbstractStringBuilder", name := "ensureCapacityInternal", desc := "(I)V" } : Jvm.MethodName) jdk_68_method_9_code (3 : Nat) (Option.none : Option Jvm.ClassFile.FieldType)).before args0 about1 = true := code_word (m := ⟨11, 3⟩) (meth := k11m3) (c := k11c3) (by decide +kernel) rfl rfl rfl (by decide +kernel)
set_option maxRecDepth 65536 in
theorem w_c16 : (Jvm.Cond.code ({ cls := "java/lang/AbstractStringBuilder", name := "putStringAt", desc := "(ILjava/lang/String;)V" } : Jvm.MethodName) jdk_68_method_73_code (3 : Nat) (Option.none : Option Jvm.ClassFile.FieldType)).before args0 about1 = true := code_word (m := ⟨11, 10⟩) (meth := k11m10) (c := k11c10) (by decide +kernel) rfl rfl rfl (by decide +kernel)
set_option maxRecDepth 65536 in
theorem w_c17 : (Jvm.Cond.code ({ cls := "java/lang/AbstractStringBuilder", name := "inflateIfNeededFor", desc := "(Ljava/lang/String;)V" } : Jvm.MethodName) jdk_68_method_71_code (2 : Nat) (Option.none : Option Jvm.ClassFile.FieldType)).before args0 about1 = true := code_word (m := ⟨11, 9⟩) (meth := k11m9) (c := k11c9) (by decide +kernel) rfl rfl rfl (by decide +kernel)
set_option maxRecDepth 65536 in
theorem w_c18 : (Jvm.Cond.code ({ cls := "java/lang/String", name := "getBytes", desc := "([BIB)V" } : Jvm.MethodName) jdk_42_method_147_code (4 : Nat) (Option.none : Option Jvm.ClassFile.FieldType)).before args0 about1 = true := code_word (m := ⟨7, 6⟩) (meth := k7m6) (c := k7c6) (by decide +kernel) rfl rfl rfl (by decide +kernel)
set_option maxRecDepth 65536 in
theorem w_c19 : (Jvm.Cond.code ({ cls := "java/lang/StringBuilder", name := "append", desc := "(I)Ljava/lang/StringBuilder;" } : Jvm.MethodName) jdk_67_method_15_code (2 : Nat) (Option.some (Jvm.ClassFile.FieldType.object "java/lang/StringBuilder"))).before args0 about1 = true := code_word (m := ⟨12, 2⟩) (meth := k12m2) (c := k12c2) (by decide +kernel) rfl rfl rfl (by decide +kernel)
set_option maxRecDepth 65536 in
theorem w_c20 : (Jvm.Cond.code ({ cls := "java/lang/AbstractStringBuilder", name := "append", desc := "(I)Ljava/lang/AbstractStringBuilder;" } : Jvm.MethodName) jdk_68_method_32_code (4 : Nat) (Option.some (Jvm.ClassFile.FieldType.object "java/lang/AbstractStringBuilder"))).before args0 about1 = true := code_word (m := ⟨11, 6⟩) (meth := k11m6) (c := k11c6) (by decide +kernel) rfl rfl rfl (by decide +kernel)
set_option maxRecDepth 65536 in
theorem w_c21 : (Jvm.Cond.code ({ cls := "java/lang/Integer", name := "stringSize", desc := "(I)I" } : Jvm.MethodName) jdk_33_method_13_code (4 : Nat) (Option.some Jvm.ClassFile.FieldType.int)).before args0 about1 = true := code_word (m := ⟨15, 1⟩) (meth := k15m1) (c := k15c1) (by decide +kernel) rfl rfl rfl (by decide +kernel)
set_option maxRecDepth 65536 in
theorem w_c22 : (Jvm.Cond.code ({ cls := "java/lang/AbstractStringBuilder", name := "isLatin1", desc := "()Z" } : Jvm.MethodName) jdk_68_method_68_code (1 : Nat) (Option.some Jvm.ClassFile.FieldType.boolean)).before args0 about1 = true := code_word (m := ⟨11, 8⟩) (meth := k11m8) (c := k11c8) (by decide +kernel) rfl rfl rfl (by decide +kernel)
set_option maxRecDepth 65536 in
theorem w_c23 : (Jvm.Cond.code ({ cls := "java/lang/Integer", name := "getChars", desc := "(II[B)I" } : Jvm.MethodName) jdk_33_method_12_code (7 : Nat) (Option.some Jvm.ClassFile.FieldType.int)).before args0 about1 = true := code_word (m := ⟨15, 0⟩) (meth := k15m0) (c := k15c0) (by decide +kernel) rfl rfl rfl (by decide +kernel)
set_option maxRecDepth 65536 in
theorem w_c24 : (Jvm.Cond.code ({ cls := "java/lang/AbstractStringBuilder", name := "newCapacity", desc := "(I)I" } : Jvm.MethodName) jdk_68_method_10_code (6 : Nat) (Option.some Jvm.ClassFile.FieldType.int)).before args0 about1 = true := code_word (m := ⟨11, 4⟩) (meth := k11m4) (c := k11c4) (by decide +kernel) rfl rfl rfl (by decide +kernel)
set_option maxRecDepth 65536 in
theorem w_c25 : (Jvm.Cond.code ({ cls := "jdk/internal/util/ArraysSupport", name := "newLength", desc := "(III)I" } : Jvm.MethodName) jdk_48_method_27_code (4 : Nat) (Option.some Jvm.ClassFile.FieldType.int)).before args0 about1 = true := code_word (m := ⟨16, 1⟩) (meth := k16m1) (c := k16c1) (by decide +kernel) rfl rfl rfl (by decide +kernel)
set_option maxRecDepth 65536 in
theorem w_c26 : (Jvm.Cond.code ({ cls := "java/lang/Math", name := "max", desc := "(II)I" } : Jvm.MethodName) jdk_29_method_65_code (2 : Nat) (Option.some Jvm.ClassFile.FieldType.int)).before args0 about1 = true := code_word (m := ⟨17, 1⟩) (meth := k17m1) (c := k17c1) (by decide +kernel) rfl rfl rfl (by decide +kernel)
set_option maxRecDepth 65536 in
theorem w_c27 : (Jvm.Cond.code ({ cls := "java/util/Arrays", name := "copyOf", desc := "([BI)[B" } : Jvm.MethodName) jdk_65_method_121_code (3 : Nat) (Option.some (Jvm.ClassFile.FieldType.array Jvm.ClassFile.FieldType.byte))).before args0 about1 = true := code_word (m := ⟨18, 1⟩) (meth := k18m1) (c := k18c1) (by decide +kernel) rfl rfl rfl (by decide +kernel)
set_option maxRecDepth 65536 in
theorem w_c28 : (Jvm.Cond.code ({ cls := "java/lang/Math", name := "min", desc := "(II)I" } : Jvm.MethodName) jdk_29_method_69_code (2 : Nat) (Option.some Jvm.ClassFile.FieldType.int)).before args0 about1 = true := code_word (m := ⟨17, 2⟩) (meth := k17m2) (c := k17c2) (by decide +kernel) rfl rfl rfl (by decide +kernel)
set_option maxRecDepth 65536 in
theorem w_c29 : (Jvm.Cond.code ({ cls := "java/lang/StringBuilder", name := "toString", desc := "()Ljava/lang/String;" } : Jvm.MethodName) jdk_67_method_42_code (1 : Nat) (Option.some (Jvm.ClassFile.FieldType.object "java/lang/String"))).before args0 about1 = true := code_word (m := ⟨12, 3⟩) (meth := k12m3) (c := k12c3) (by decide +kernel) rfl rfl rfl (by decide +kernel)
set_option maxRecDepth 65536 in
theorem w_c30 : (Jvm.Cond.code ({ cls := "java/lang/String", name := "<init>", desc := "(Ljava/lang/StringBuilder;)V" } : Jvm.MethodName) jdk_42_method_53_code (2 : Nat) (Option.none : Option Jvm.ClassFile.FieldType)).before args0 about1 = true := code_word (m := ⟨7, 2⟩) (meth := k7m2) (c := k7c2) (by decide +kernel) rfl rfl rfl (by decide +kernel)
set_option maxRecDepth 65536 in
theorem w_c31 : (Jvm.Cond.code ({ cls := "java/lang/String", name := "<init>", desc := "(Ljava/lang/AbstractStringBuilder;Ljava/lang/Void;)V" } : Jvm.MethodName) jdk_42_method_150_code (5 : Nat) (Option.none : Option Jvm.ClassFile.FieldType)).before args0 about1 = true := code_word (m := ⟨7, 8⟩) (meth := k7m8) (c := k7c8) (by decide +kernel) rfl rfl rfl (by decide +kernel)
set_option maxRecDepth 65536 in
theorem w_c32 : (Jvm.Cond.code ({ cls := "java/lang/AbstractStringBuilder", name := "getValue", desc := "()[B" } : Jvm.MethodName) jdk_68_method_64_code (1 : Nat) (Option.some (Jvm.ClassFile.FieldType.array Jvm.ClassFile.FieldType.byte))).before args0 about1 = true := code_word (m := ⟨11, 7⟩) (meth := k11m7) (c := k11c7) (by decide +kernel) rfl rfl rfl (by decide +kernel)
set_option maxRecDepth 65536 in
theorem w_c33 : (Jvm.Cond.code ({ cls := "java/lang/StringBuilder", name := "length", desc := "()I" } : Jvm.MethodName) jdk_67_method_93_code (1 : Nat) (Option.some Jvm.ClassFile.FieldType.int)).before args0 about1 = true := code_word (m := ⟨12, 4⟩) (meth := k12m4) (c := k12c4) (by decide +kernel) rfl rfl rfl (by decide +kernel)
set_option maxRecDepth 65536 in
theorem w_c34 : (Jvm.Cond.code ({ cls := "java/lang/AbstractStringBuilder", name := "length", desc := "()I" } : Jvm.MethodName) jdk_68_method_6_code (1 : Nat) (Option.some Jvm.ClassFile.FieldType.int)).before args0 about1 = true := code_word (m := ⟨11, 2⟩) (meth := k11m2) (c := k11c2) (by decide +kernel) rfl rfl rfl (by decide +kernel)
set_option maxRecDepth 65536 in
theorem w_c35 : (Jvm.Cond.code ({ cls := "java/util/Arrays", name := "copyOfRange", desc := "([BII)[B" } : Jvm.MethodName) jdk_65_method_132_code (3 : Nat) (Option.some (Jvm.ClassFile.FieldType.array Jvm.ClassFile.FieldType.byte))).before args0 about1 = true := code_word (m := ⟨18, 3⟩) (meth := k18m3) (c := k18c3) (by decide +kernel) rfl rfl rfl (by decide +kernel)
set_option maxRecDepth 65536 in
theorem w_c36 : (Jvm.Cond.code ({ cls := "java/util/Arrays", name := "copyOfRangeByte", desc := "([BII)[B" } : Jvm.MethodName) jdk_65_method_133_code (5 : Nat) (Option.some (Jvm.ClassFile.FieldType.array Jvm.ClassFile.FieldType.byte))).before args0 about1 = true := code_word (m := ⟨18, 4⟩) (meth := k18m4) (c := k18c4) (by decide +kernel) rfl rfl rfl (by decide +kernel)
set_option maxRecDepth 65536 in
theorem w_c37 : (Jvm.Cond.code ({ cls := "java/util/Arrays", name := "checkLength", desc := "(II)V" } : Jvm.MethodName) jdk_65_method_131_code (2 : Nat) (Option.none : Option Jvm.ClassFile.FieldType)).before args0 about1 = true := code_word (m := ⟨18, 2⟩) (meth := k18m2) (c := k18c2) (by decide +kernel) rfl rfl rfl (by decide +kernel)
set_option maxRecDepth 65536 in
theorem w_c38 : (Jvm.Cond.code ({ cls := "java/lang/String", name := "charAt", desc := "(I)C" } : Jvm.MethodName) jdk_42_method_56_code (2 : Nat) (Option.some Jvm.ClassFile.FieldType.char)).before args0 about1 = true := code_word (m := ⟨7, 4⟩) (meth := k7m4) (c := k7c4) (by decide +kernel) rfl rfl rfl (by decide +kernel)
set_option maxRecDepth 65536 in
theorem w_c39 : (Jvm.Cond.code ({ cls := "java/lang/String", name := "isLatin1", desc := "()Z" } : Jvm.MethodName) jdk_42_method_154_code (1 : Nat) (Option.some Jvm.ClassFile.FieldType.boolean)).before args0 about1 = true := code_word (m := ⟨7, 10⟩) (meth := k7m10) (c := k7c10) (by decide +kernel) rfl rfl rfl (by decide +kernel)
set_option maxRecDepth 65536 in
theorem w_c40 : (Jvm.Cond.code ({ cls := "java/lang/StringLatin1", name := "charAt", desc := "([BI)C" } : Jvm.MethodName) jdk_43_method_2_code (2 : Nat) (Option.some Jvm.ClassFile.FieldType.char)).before args0 about1 = true := code_word (m := ⟨19, 1⟩) (meth := k19m1) (c := k19c1) (by decide +kernel) rfl rfl rfl (by decide +kernel)
set_option maxRecDepth 65536 in
theorem w_c41 : (Jvm.Cond.code ({ cls := "java/lang/String", name := "checkIndex", desc := "(II)V" } : Jvm.MethodName) jdk_42_method_155_code (2 : Nat) (Option.none : Option Jvm.ClassFile.FieldType)).before args0 about1 = true := code_word (m := ⟨7, 11⟩) (meth := k7m11) (c := k7c11) (by decide +kernel) rfl rfl rfl (by decide +kernel)
set_option maxRecDepth 65536 in
theorem w_c42 : (Jvm.Cond.code ({ cls := "jdk/internal/util/Preconditions", name := "checkIndex", desc := "(IILjava/util/function/BiFunction;)I" } : Jvm.MethodName) jdk_41_method_11_code (3 : Nat) (Option.some Jvm.ClassFile.FieldType.int)).before args0 about1 = true := code_word (m := ⟨20, 1⟩) (meth := k20m1) (c := k20c1) (by decide +kernel) rfl rfl rfl (by decide +kernel)
set_option maxRecDepth 65536 in
theorem w_c43 : (Jvm.Cond.code ({ cls := "java/lang/String", name := "equals", desc := "(Ljava/lang/Object;)Z" } : Jvm.MethodName) jdk_42_method_66_code (3 : Nat) (Option.some Jvm.ClassFile.FieldType.boolean)).before args0 about1 = true := code_word (m := ⟨7, 5⟩) (meth := k7m5) (c := k7c5) (by decide +kernel) rfl rfl rfl (by decide +kernel)
set_option maxRecDepth 65536 in
theorem w_c44 : (Jvm.Cond.code ({ cls := "java/lang/StringLatin1", name := "equals", desc := "([B[B)Z" } : Jvm.MethodName) jdk_43_method_13_code (3 : Nat) (Option.some Jvm.ClassFile.FieldType.boolean)).before args0 about1 = true := code_word (m := ⟨19, 2⟩) (meth := k19m2) (c := k19c2) (by decide +kernel) rfl rfl rfl (by decide +kernel)
def codes1 : List Jvm.Cond := [Jvm.Cond.code x code maxLocals ret, Jvm.Cond.code ({ cls := "java/lang/String", name := "<init>", desc := "([C)V" } : Jvm.MethodName) jdk_42_method_3_code (2 : Nat) (Option.none : Option Jvm.ClassFile.FieldType), Jvm.Cond.code ({ cls := "java/lang/String", name := "<init>", desc := "([CIILjava/lang/Void;)V" } : Jvm.MethodName) jdk_42_method_149_code (6 : Nat) (Option.none : Option Jvm.ClassFile.FieldType), Jvm.Cond.code ({ cls := "java/lang/Object", name := "<init>", desc := "()V" } : Jvm.MethodName) object_method_1_code (1 : Nat) (Option.none : Option Jvm.ClassFile.FieldType), Jvm.Cond.code ({ cls := "java/lang/StringUTF16", name := "compress", desc := "([CII)[B" } : Jvm.MethodName) jdk_52_method_16_code (6 : Nat) (Option.some (Jvm.ClassFile.FieldType.array Jvm.ClassFile.FieldType.byte)), Jvm.Cond.code ({ cls := "java/lang/StringUTF16", name := "compress", desc := "([CI[BII)I" } : Jvm.MethodName) jdk_52_method_21_code (7 : Nat) (Option.some Jvm.ClassFile.FieldType.int), Jvm.Cond.code ({ cls := "java/lang/StringUTF16", name := "coderFromArrayLen", desc := "([BI)B" } : Jvm.MethodName) jdk_52_method_15_code (2 : Nat) (Option.some Jvm.ClassFile.FieldType.byte), Jvm.Cond.code ({ cls := "com/example/envelope/envelope/io/KeptLengthBeyondPinLaw", name := "makeText", desc := "(IC)Ljava/lang/String;" } : Jvm.MethodName) method_2_code (2 : Nat) (Option.some (Jvm.ClassFile.FieldType.object "java/lang/String")), Jvm.Cond.code ({ cls := "com/example/envelope/envelope/io/KeptLength", name := "beyond", desc := "(Ljava/lang/String;Ljava/lang/String;I)Ljava/lang/String;" } : Jvm.MethodName) prog_5_method_2_code (3 : Nat) (Option.some (Jvm.ClassFile.FieldType.object "java/lang/String")), Jvm.Cond.code ({ cls := "java/lang/String", name := "length", desc := "()I" } : Jvm.MethodName) jdk_42_method_54_code (1 : Nat) (Option.some Jvm.ClassFile.FieldType.int), Jvm.Cond.code ({ cls := "java/lang/String", name := "coder", desc := "()B" } : Jvm.MethodName) jdk_42_method_152_code (1 : Nat) (Option.some Jvm.ClassFile.FieldType.byte), Jvm.Cond.code ({ cls := "java/lang/StringBuilder", name := "<init>", desc := "()V" } : Jvm.MethodName) jdk_67_method_1_code (1 : Nat) (Option.none : Option Jvm.ClassFile.FieldType), Jvm.Cond.code ({ cls := "java/lang/AbstractStringBuilder", name := "<init>", desc := "(I)V" } : Jvm.MethodName) jdk_68_method_2_code (2 : Nat) (Option.none : Option Jvm.ClassFile.FieldType), Jvm.Cond.code ({ cls := "java/lang/StringBuilder", name := "append", desc := "(Ljava/lang/String;)Ljava/lang/StringBuilder;" } : Jvm.MethodName) jdk_67_method_7_code (2 : Nat) (Option.some (Jvm.ClassFile.FieldType.object "java/lang/StringBuilder")), Jvm.Cond.code ({ cls := "java/lang/AbstractStringBuilder", name := "append", desc := "(Ljava/lang/String;)Ljava/lang/AbstractStringBuilder;" } : Jvm.MethodName) jdk_68_method_22_code (3 : Nat) (Option.some (Jvm.ClassFile.FieldType.object "java/lang/AbstractStringBuilder")), Jvm.Cond.code ({ cls := "java/lang/AbstractStringBuilder", name := "ensureCapacityInternal", desc := "(I)V" } : Jvm.MethodName) jdk_68_method_9_code (3 : Nat) (Option.none : Option Jvm.ClassFile.FieldType), Jvm.Cond.code ({ cls := "java/lang/AbstractStringBuilder", name := "putStringAt", desc := "(ILjava/lang/String;)V" } : Jvm.MethodName) jdk_68_method_73_code (3 : Nat) (Option.none : Option Jvm.ClassFile.FieldType), Jvm.Cond.code ({ cls := "java/lang/AbstractStringBuilder", name := "inflateIfNeededFor", desc := "(Ljava/lang/String;)V" } : Jvm.MethodName) jdk_68_method_71_code (2 : Nat) (Option.none : Option Jvm.ClassFile.FieldType), Jvm.Cond.code ({ cls := "java/lang/String", name := "getBytes", desc := "([BIB)V" } : Jvm.MethodName) jdk_42_method_147_code (4 : Nat) (Option.none : Option Jvm.ClassFile.FieldType), Jvm.Cond.code ({ cls := "java/lang/StringBuilder", name := "append", desc := "(I)Ljava/lang/StringBuilder;" } : Jvm.MethodName) jdk_67_method_15_code (2 : Nat) (Option.some (Jvm.ClassFile.FieldType.object "java/lang/StringBuilder")), Jvm.Cond.code ({ cls := "java/lang/AbstractStringBuilder", name := "append", desc := "(I)Ljava/lang/AbstractStringBuilder;" } : Jvm.MethodName) jdk_68_method_32_code (4 : Nat) (Option.some (Jvm.ClassFile.FieldType.object "java/lang/AbstractStringBuilder")), Jvm.Cond.code ({ cls := "java/lang/Integer", name := "stringSize", desc := "(I)I" } : Jvm.MethodName) jdk_33_method_13_code (4 : Nat) (Option.some Jvm.ClassFile.FieldType.int), Jvm.Cond.code ({ cls := "java/lang/AbstractStringBuilder", name := "isLatin1", desc := "()Z" } : Jvm.MethodName) jdk_68_method_68_code (1 : Nat) (Option.some Jvm.ClassFile.FieldType.boolean), Jvm.Cond.code ({ cls := "java/lang/Integer", name := "getChars", desc := "(II[B)I" } : Jvm.MethodName) jdk_33_method_12_code (7 : Nat) (Option.some Jvm.ClassFile.FieldType.int), Jvm.Cond.code ({ cls := "java/lang/AbstractStringBuilder", name := "newCapacity", desc := "(I)I" } : Jvm.MethodName) jdk_68_method_10_code (6 : Nat) (Option.some Jvm.ClassFile.FieldType.int), Jvm.Cond.code ({ cls := "jdk/internal/util/ArraysSupport", name := "newLength", desc := "(III)I" } : Jvm.MethodName) jdk_48_method_27_code (4 : Nat) (Option.some Jvm.ClassFile.FieldType.int), Jvm.Cond.code ({ cls := "java/lang/Math", name := "max", desc := "(II)I" } : Jvm.MethodName) jdk_29_method_65_code (2 : Nat) (Option.some Jvm.ClassFile.FieldType.int), Jvm.Cond.code ({ cls := "java/util/Arrays", name := "copyOf", desc := "([BI)[B" } : Jvm.MethodName) jdk_65_method_121_code (3 : Nat) (Option.some (Jvm.ClassFile.FieldType.array Jvm.ClassFile.FieldType.byte)), Jvm.Cond.code ({ cls := "java/lang/Math", name := "min", desc := "(II)I" } : Jvm.MethodName) jdk_29_method_69_code (2 : Nat) (Option.some Jvm.ClassFile.FieldType.int), Jvm.Cond.code ({ cls := "java/lang/StringBuilder", name := "toString", desc := "()Ljava/lang/String;" } : Jvm.MethodName) jdk_67_method_42_code (1 : Nat) (Option.some (Jvm.ClassFile.FieldType.object "java/lang/String")), Jvm.Cond.code ({ cls := "java/lang/String", name := "<init>", desc := "(Ljava/lang/StringBuilder;)V" } : Jvm.MethodName) jdk_42_method_53_code (2 : Nat) (Option.none : Option Jvm.ClassFile.FieldType), Jvm.Cond.code ({ cls := "java/lang/String", name := "<init>", desc := "(Ljava/lang/AbstractStringBuilder;Ljava/lang/Void;)V" } : Jvm.MethodName) jdk_42_method_150_code (5 : Nat) (Option.none : Option Jvm.ClassFile.FieldType), Jvm.Cond.code ({ cls := "java/lang/AbstractStringBuilder", name := "getValue", desc := "()[B" } : Jvm.MethodName) jdk_68_method_64_code (1 : Nat) (Option.some (Jvm.ClassFile.FieldType.array Jvm.ClassFile.FieldType.byte)), Jvm.Cond.code ({ cls := "java/lang/StringBuilder", name := "length", desc := "()I" } : Jvm.MethodName) jdk_67_method_93_code (1 : Nat) (Option.some Jvm.ClassFile.FieldType.int), Jvm.Cond.code ({ cls := "java/lang/AbstractStringBuilder", name := "length", desc := "()I" } : Jvm.MethodName) jdk_68_method_6_code (1 : Nat) (Option.some Jvm.ClassFile.FieldType.int), Jvm.Cond.code ({ cls := "java/util/Arrays", name := "copyOfRange", desc := "([BII)[B" } : Jvm.MethodName) jdk_65_method_132_code (3 : Nat) (Option.some (Jvm.ClassFile.FieldType.array Jvm.ClassFile.FieldType.byte)), Jvm.Cond.code ({ cls := "java/util/Arrays", name := "copyOfRangeByte", desc := "([BII)[B" } : Jvm.MethodName) jdk_65_method_133_code (5 : Nat) (Option.some (Jvm.ClassFile.FieldType.array Jvm.ClassFile.FieldType.byte)), Jvm.Cond.code ({ cls := "java/util/Arrays", name := "checkLength", desc := "(II)V" } : Jvm.MethodName) jdk_65_method_131_code (2 : Nat) (Option.none : Option Jvm.ClassFile.FieldType), Jvm.Cond.code ({ cls := "java/lang/String", name := "charAt", desc := "(I)C" } : Jvm.MethodName) jdk_42_method_56_code (2 : Nat) (Option.some Jvm.ClassFile.FieldType.char), Jvm.Cond.code ({ cls := "java/lang/String", name := "isLatin1", desc := "()Z" } : Jvm.MethodName) jdk_42_method_154_code (1 : Nat) (Option.some Jvm.ClassFile.FieldType.boolean), Jvm.Cond.code ({ cls := "java/lang/StringLatin1", name := "charAt", desc := "([BI)C" } : Jvm.MethodName) jdk_43_method_2_code (2 : Nat) (Option.some Jvm.ClassFile.FieldType.char), Jvm.Cond.code ({ cls := "java/lang/String", name := "checkIndex", desc := "(II)V" } : Jvm.MethodName) jdk_42_method_155_code (2 : Nat) (Option.none : Option Jvm.ClassFile.FieldType), Jvm.Cond.code ({ cls := "jdk/internal/util/Preconditions", name := "checkIndex", desc := "(IILjava/util/function/BiFunction;)I" } : Jvm.MethodName) jdk_41_method_11_code (3 : Nat) (Option.some Jvm.ClassFile.FieldType.int), Jvm.Cond.code ({ cls := "java/lang/String", name := "equals", desc := "(Ljava/lang/Object;)Z" } : Jvm.MethodName) jdk_42_method_66_code (3 : Nat) (Option.some Jvm.ClassFile.FieldType.boolean), Jvm.Cond.code ({ cls := "java/lang/StringLatin1", name := "equals", desc := "([B[B)Z" } : Jvm.MethodName) jdk_43_method_13_code (3 : Nat) (Option.some Jvm.ClassFile.FieldType.boolean)]
set_option maxRecDepth 65536 in
theorem codes_eq : words1.filter isCode = codes1 := rfl
theorem w_codes : ∀ c ∈ words1.filter isCode, c.before args0 about1 = true := by
  rw [codes_eq]
  intro c hc
  simp only [codes1, List.mem_cons, List.not_mem_nil, or_false] at hc
  rcases hc with rfl | rfl | rfl | rfl | rfl | rfl | rfl | rfl | rfl | rfl | rfl | rfl | rfl | rfl | rfl | rfl | rfl | rfl | rfl | rfl | rfl | rfl | rfl | rfl | rfl | rfl | rfl | rfl | rfl | rfl | rfl | rfl | rfl | rfl | rfl | rfl | rfl | rfl | rfl | rfl | rfl | rfl | rfl | rfl | rfl
  · exact w_c0
  · exact w_c1
  · exact w_c2
  · exact w_c3
  · exact w_c4
  · exact w_c5
  · exact w_c6
  · exact w_c7
  · exact w_c8
  · exact w_c9
  · exact w_c10
  · exact w_c11
  · exact w_c12
  · exact w_c13
  · exact w_c14
  · exact w_c15
  · exact w_c16
  · exact w_c17
  · exact w_c18
  · exact w_c19
  · exact w_c20
  · exact w_c21
  · exact w_c22
  · exact w_c23
  · exact w_c24
  · exact w_c25
  · exact w_c26
  · exact w_c27
  · exact w_c28
  · exact w_c29
  · exact w_c30
  · exact w_c31
  · exact w_c32
  · exact w_c33
  · exact w_c34
  · exact w_c35
  · exact w_c36
  · exact w_c37
  · exact w_c38
  · exact w_c39
  · exact w_c40
  · exact w_c41
  · exact w_c42
  · exact w_c43
  · exact w_c44
set_option maxRecDepth 65536 in
theorem w_t1 : (words1.take 24).all (fun c => isCode c || c.before args0 about1) = true := by decide +kernel
set_option maxRecDepth 65536 in
theorem w_t2 : ((words1.drop 24).take 24).all (fun c => isCode c || c.before args0 about1) = true := by decide +kernel
set_option maxRecDepth 65536 in
theorem w_t3 : (((words1.drop 24).drop 24).take 24).all (fun c => isCode c || c.before args0 about1) = true := by decide +kernel
set_option maxRecDepth 65536 in
theorem w_t4 : ((((words1.drop 24).drop 24).drop 24).take 24).all (fun c => isCode c || c.before args0 about1) = true := by decide +kernel
set_option maxRecDepth 65536 in
theorem w_t5 : (((((words1.drop 24).drop 24).drop 24).drop 24).take 24).all (fun c => isCode c || c.before args0 about1) = true := by decide +kernel
set_option maxRecDepth 65536 in
theorem w_t6 : ((((((words1.drop 24).drop 24).drop 24).drop 24).drop 24).take 24).all (fun c => isCode c || c.before args0 about1) = true := by decide +kernel
set_option maxRecDepth 65536 in
theorem w_t7 : (((((((words1.drop 24).drop 24).drop 24).drop 24).drop 24).drop 24).take 24).all (fun c => isCode c || c.before args0 about1) = true := by decide +kernel
set_option maxRecDepth 65536 in
theorem w_t8 : ((((((((words1.drop 24).drop 24).drop 24).drop 24).drop 24).drop 24).drop 24).take 24).all (fun c => isCode c || c.before args0 about1) = true := by decide +kernel
set_option maxRecDepth 65536 in
theorem w_t9 : (((((((((words1.drop 24).drop 24).drop 24).drop 24).drop 24).drop 24).drop 24).drop 24).take 24).all (fun c => isCode c || c.before args0 about1) = true := by decide +kernel
set_option maxRecDepth 65536 in
theorem w_t10 : (((((((((words1.drop 24).drop 24).drop 24).drop 24).drop 24).drop 24).drop 24).drop 24).drop 24).all (fun c => isCode c || c.before args0 about1) = true := by decide +kernel
theorem w_tables : (allAtoms (Jvm.Cond.code x code maxLocals ret :: tables_1)).before args0 about1 = true := by
  rw [allAtoms_all]
  show words1.all (fun c => c.before args0 about1) = true
  refine all_split ?_ w_codes
  rw [← List.take_append_drop 24 words1, List.all_append, w_t1, ← List.take_append_drop 24 (words1.drop 24), List.all_append, w_t2, ← List.take_append_drop 24 ((words1.drop 24).drop 24), List.all_append, w_t3, ← List.take_append_drop 24 (((words1.drop 24).drop 24).drop 24), List.all_append, w_t4, ← List.take_append_drop 24 ((((words1.drop 24).drop 24).drop 24).drop 24), List.all_append, w_t5, ← List.take_append_drop 24 (((((words1.drop 24).drop 24).drop 24).drop 24).drop 24), List.all_append, w_t6, ← List.take_append_drop 24 ((((((words1.drop 24).drop 24).drop 24).drop 24).drop 24).drop 24), List.all_append, w_t7, ← List.take_append_drop 24 (((((((words1.drop 24).drop 24).drop 24).drop 24).drop 24).drop 24).drop 24), List.all_append, w_t8, ← List.take_append_drop 24 ((((((((words1.drop 24).drop 24).drop 24).drop 24).drop 24).drop 24).drop 24).drop 24), List.all_append, w_t9, w_t10]
  rfl
set_option maxRecDepth 65536 in
theorem w_rest : rest_1_c.before args0 about1 = true := by decide +kernel
set_option maxRecDepth 65536 in
theorem w_case : (Jvm.Cond.and given_1 narrow_1).before args0 about1 = true := by decide +kernel
set_option maxRecDepth 65536 in
theorem w_consts : constsHeld consts_1 about1 := Jvm.Lit.constsHeldB_iff.mp (by decide +kernel)
theorem w_applies : (headSpec (Jvm.Cond.code x code maxLocals ret :: tables_1) room_1).applies x e0.platform about1 = true :=
  (Spec.applies_iff w_frames).mpr ⟨w_running, w_runnable, w_alone, w_named, w_hears, w_ripe, w_room, w_tables⟩
theorem atStart : AtStart classFile x code maxLocals ret World_1 tables_1 room_1 Calls_1 rest_1 Pre_1 launch0 p0 e0 about1 theMethod args0 below0 :=
  ⟨lists_1, trivial, launch0.admits_env _ _ _, launch0.least_env, fairChoices_fair.cas, fairChoices_fair.clock, w_frames, w_args, w_heap, w_applies, ⟨w_consts, trivial⟩, w_rest, w_case⟩
end start1
theorem witness_1 : WitnessClaimed_1 := ⟨start1.p0, start1.e0, start1.about1, start1.theMethod, start1.args0, start1.below0, start1.atStart⟩
end Jvm.Pilot.@@N@@
