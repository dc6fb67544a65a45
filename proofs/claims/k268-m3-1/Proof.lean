import JvmDerived
import JvmDerived.Pilot.@@N@@Statement
import JvmDerived.Pilot.@@N@@Code
set_option linter.unusedVariables false
set_option linter.unusedSimpArgs false
@@BLOCK:NumsL.lean.txt@@
/- laws to paste: Road.backV, Road.lenW, Road.codOf, StrChars.pair_says, StrChars.shr1, StrChars.lo8_mask, StrChars.shr0, Road.wide_lo, Road.wide_hi, Road.low_at (cut by pick.py; bodies as the Statement names them) -/
namespace Jvm.Pilot.@@N@@
namespace StrChars
open Jvm Sem ClassFile Op Lib Jvm.Stand Jvm.Free.XT Jvm.Free.ALB Jvm.Free.JM Jvm.Free
open Jvm.Lib.Cold (StaticIs)
/-- a char array whose places are chars -/
def Ch (a : Addr) (A : Cell) (U : State) : Prop := Arr .char a A U ∧ Typed .char A
theorem Ch.mv {a : Addr} {A : Cell} {U U' : State} (h : Ch a A U) (hal : U.vm.Alike U'.vm) (hh : U'.heap = U.heap) : Ch a A U' := ⟨h.1.mv hal hh, h.2⟩
theorem Ch.keep {a : Addr} {A : Cell} {U U' : State} (h : Ch a A U) (hal : U.vm.Alike U'.vm) (hk : U'.heap[a]? = some A) : Ch a A U' := ⟨h.1.keep hal hk, h.2⟩
/-- what place i of a char[]'s cell holds -/
def cv (A : Cell) (i : Nat) : Int32 := match A.slots[i]? with | some (.int x) => x | _ => 0
theorem Ch.get {a : Addr} {A : Cell} {U : State} (h : Ch a A U) {i : Nat} (hi : i < A.slots.size) : A.slots[i]? = some (.int (cv A i)) := by
  have e := Array.getElem?_eq_getElem hi
  have f := h.2 i _ e
  unfold cv; rw [e]
  generalize A.slots[i] = v at f
  cases v <;> simp [fits] at f ⊢
/-- the byte that i2b leaves of a char -/
def lo8 (x : Int32) : Int32 := x.toInt8.toInt32
theorem fits_lo8 (y : Int32) : fits .byte (.int (lo8 y)) = true := by
  have h1 := y.toInt8.le_toInt
  have h2 := y.toInt8.toInt_lt
  simp only [lo8, fits, Bool.and_eq_true, decide_eq_true_eq, Int32.le_iff_toInt_le, Int8.toInt_toInt32, show (-128 : Int32).toInt = -128 from by decide, show (127 : Int32).toInt = 127 from by decide]
  omega
/-- A' is A but that each place j of lo .. hi - 1 holds f j -/
def Laid (A A' : Cell) (lo hi : Nat) (f : Nat → Value) : Prop := A'.cls = A.cls ∧ A'.vm = A.vm ∧ A'.slots.size = A.slots.size ∧ ∀ i, A'.slots[i]? = if lo ≤ i ∧ i < hi then some (f i) else A.slots[i]?
theorem Laid.zero (A : Cell) (lo : Nat) (f : Nat → Value) : Laid A A lo (lo + 0) f := ⟨rfl, rfl, rfl, fun i => by rw [if_neg (by omega)]⟩
theorem Laid.step {A Ak : Cell} {lo k : Nat} {f : Nat → Value} {v : Value} (h : Laid A Ak lo k f) (hlo : lo ≤ k) (hk : k < Ak.slots.size) (hv : v = f k) : Laid A (Ak.setSlot k v) lo (k + 1) f := by
  refine ⟨h.1, h.2.1, by simpa [Cell.setSlot] using h.2.2.1, fun i => ?_⟩
  by_cases e : k = i
  · subst e; rw [Cell.slots_setSlot_self v hk, if_pos (by omega), hv]
  · rw [Cell.slots_setSlot_ne v e, h.2.2.2 i]
    by_cases q : lo ≤ i ∧ i < k
    · rw [if_pos q, if_pos (by omega)]
    · rw [if_neg q, if_neg (by omega)]
def U16 : String := "java/lang/StringUTF16"
namespace Cmp5
def yN : MethodName := ⟨"java/lang/StringUTF16", "compress", "([CI[BII)I"⟩
abbrev yB : ByteArray := jdk_52_method_21_code
theorem d0 : decode yB 0 = .ok (.iconst 0, 1) := by decide +kernel
theorem d1 : decode yB 1 = .ok (.istore 5, 2) := by decide +kernel
theorem d3 : decode yB 3 = .ok (.iload 5, 2) := by decide +kernel
theorem d5 : decode yB 5 = .ok (.iload 4, 2) := by decide +kernel
theorem d7 : decode yB 7 = .ok (.if_icmp (.ge) 37, 3) := by decide +kernel
theorem d10 : decode yB 10 = .ok (.aload_n 0, 1) := by decide +kernel
theorem d11 : decode yB 11 = .ok (.iload_n 1, 1) := by decide +kernel
theorem d12 : decode yB 12 = .ok (.caload, 1) := by decide +kernel
theorem d13 : decode yB 13 = .ok (.istore 6, 2) := by decide +kernel
theorem d15 : decode yB 15 = .ok (.iload 6, 2) := by decide +kernel
theorem d17 : decode yB 17 = .ok (.sipush 255, 3) := by decide +kernel
theorem d20 : decode yB 20 = .ok (.if_icmp (.le) 6, 3) := by decide +kernel
theorem d26 : decode yB 26 = .ok (.aload_n 2, 1) := by decide +kernel
theorem d27 : decode yB 27 = .ok (.iload_n 3, 1) := by decide +kernel
theorem d28 : decode yB 28 = .ok (.iload 6, 2) := by decide +kernel
theorem d30 : decode yB 30 = .ok (.i2b, 1) := by decide +kernel
theorem d31 : decode yB 31 = .ok (.bastore, 1) := by decide +kernel
theorem d32 : decode yB 32 = .ok (.iinc 1 1, 3) := by decide +kernel
theorem d35 : decode yB 35 = .ok (.iinc 3 1, 3) := by decide +kernel
theorem d38 : decode yB 38 = .ok (.iinc 5 1, 3) := by decide +kernel
theorem d41 : decode yB 41 = .ok (.goto (-38), 3) := by decide +kernel
theorem d44 : decode yB 44 = .ok (.iload 4, 2) := by decide +kernel
theorem d46 : decode yB 46 = .ok (.ireturn, 1) := by decide +kernel
def site : List Cond := []
def tab : Cond := tabOf yN yB 7 (some .int) site
def P (b : Addr) (A : Cell) (d : Addr) (B : Cell) (o q len : Nat) (args : Array Value) (s : State) : Prop := args = #[.ref b, .int (Int32.ofNat o), .ref d, .int (Int32.ofNat q), .int (Int32.ofNat len)] ∧ Ch b A s ∧ Arr .byte d B s ∧ b ≠ d ∧ o + len ≤ A.slots.size ∧ q + len ≤ B.slots.size ∧ ∀ i, i < len → ¬ 255 < cv A (o + i)
def E (b : Addr) (A : Cell) (d : Addr) (B : Cell) (o q len : Nat) (r : Option Value) (s u : State) : Prop := r = some (.int (Int32.ofNat len)) ∧ ∃ B', Put d B' s u ∧ Laid B B' q (q + len) (fun j => Value.int (lo8 (cv A (o + (j - q)))))
/-- no char of the range above 255: len; the places written hold each char's low byte -/
theorem law (l : Launch) (b : Addr) (A : Cell) (d : Addr) (B : Cell) (o q len : Nat) : Law l yN 5 5 0 0 yB 7 (some .int) site (P b A d B o q len) (E b A d B o q len) (copyLocs d q len) 0 0 := by
  refine Law.of_walk (plainFor_of_name (by decide +kernel)) (by decide +kernel) (by decide +kernel) (by decide) (fun _ _ h => by rw [h.1]; rfl) (fun _ U U' hal hh h => ⟨h.1, h.2.1.mv hal hh, h.2.2.1.mv hal hh, h.2.2.2⟩) (fun r U U' V V' h1 hal h2 h => ⟨h.1, h.2.elim fun B' q => ⟨B', q.1.mv h1 h2, q.2⟩⟩) ?_
  intro p e s m args below meth c s₁ X0 hexec hbytes hml hret hlk hnm hown hh0 W hP
  obtain ⟨rfl, hA, hB, hne, l1, l2, hp⟩ := hP
  have c1 : Steps p.tables e below (s₁.setTop (entryFrame m #[.ref b, .int (Int32.ofNat o), .ref d, .int (Int32.ofNat q), .int (Int32.ofNat len)] 7)) (s₁.setTop (mkF m 0 #[.val (.ref b), .val (.int (Int32.ofNat o)), .val (.ref d), .val (.int (Int32.ofNat q)), .val (.int (Int32.ofNat len)), .unset, .unset] [])) := entry rfl
  have hA0 := hA.1.mv X0.warmed.alike hh0
  have hB0 := hB.mv X0.warmed.alike hh0
  have a31 := hA.1.2.2.2
  have c2 : Steps p.tables e below (s₁.setTop (entryFrame m #[.ref b, .int (Int32.ofNat o), .ref d, .int (Int32.ofNat q), .int (Int32.ofNat len)] 7)) (s₁.setTop (mkF m 3 #[.val (.ref b), .val (.int (Int32.ofNat o)), .val (.ref d), .val (.int (Int32.ofNat q)), .val (.int (Int32.ofNat len)), .val (.int 0), .unset] [])) := c1.trans (by
    refine iconstV X0.here hexec rfl 0 (hb hbytes d0) (by decide) ?_
    refine XS.istore X0.here hexec rfl (hb hbytes d1) rfl rfl ?_
    exact Steps.refl _)
  have loop : ∀ (r i : Nat), i + r = len → ∀ (z : Slot), (z = .unset ∨ ∃ w, z = .val w ∧ w.category = 1) → ∀ (Tl : State) (Bk : Cell), Stand p l e { frames := 0, locals := 0, cells := 0, slots := 0 } s m #[.ref b, .int (Int32.ofNat o), .ref d, .int (Int32.ofNat q), .int (Int32.ofNat len)] below meth c Tl ([] ++ copyLocs d q i) 0 0 → Put d Bk s₁ Tl → Laid B Bk q (q + i) (fun j => Value.int (lo8 (cv A (o + (j - q))))) →
      Steps p.tables e below (s₁.setTop (entryFrame m #[.ref b, .int (Int32.ofNat o), .ref d, .int (Int32.ofNat q), .int (Int32.ofNat len)] 7)) (Tl.setTop (mkF m 3 #[.val (.ref b), .val (.int (Int32.ofNat (o + i))), .val (.ref d), .val (.int (Int32.ofNat (q + i))), .val (.int (Int32.ofNat len)), .val (.int (Int32.ofNat i)), z] [])) → ∃ (T' : State) (B' : Cell) (z' : Slot), Stand p l e { frames := 0, locals := 0, cells := 0, slots := 0 } s m #[.ref b, .int (Int32.ofNat o), .ref d, .int (Int32.ofNat q), .int (Int32.ofNat len)] below meth c T' ([] ++ copyLocs d q len) 0 0 ∧ Put d B' s₁ T' ∧ Laid B B' q (q + len) (fun j => Value.int (lo8 (cv A (o + (j - q))))) ∧
      Steps p.tables e below (s₁.setTop (entryFrame m #[.ref b, .int (Int32.ofNat o), .ref d, .int (Int32.ofNat q), .int (Int32.ofNat len)] 7)) (T'.setTop (mkF m 3 #[.val (.ref b), .val (.int (Int32.ofNat (o + len))), .val (.ref d), .val (.int (Int32.ofNat (q + len))), .val (.int (Int32.ofNat len)), .val (.int (Int32.ofNat len)), z'] [])) := by
    intro r
    induction r with
    | zero =>
      intro i hi z hz Tl Bk Xl pl fl cl
      have hil : i = len := by omega
      rw [hil] at Xl fl cl
      exact ⟨Tl, Bk, z, Xl, pl, fl, cl⟩
    | succ r ih =>
      intro i hi z hz Tl Bk Xl pl fl cl
      have all := X0.warmed.alike.symm.trans Xl.warmed.alike
      have hAl := hA0.keep all (pl.other hne hA0.1)
      have hBk := hB0.like all pl.1 fl.1 fl.2.1 fl.2.2.1
      have hlt : q + i < Bk.slots.size := by rw [fl.2.2.1]; omega
      have c3 : Steps p.tables e below (s₁.setTop (entryFrame m #[.ref b, .int (Int32.ofNat o), .ref d, .int (Int32.ofNat q), .int (Int32.ofNat len)] 7)) (Tl.setTop (mkF m 12 #[.val (.ref b), .val (.int (Int32.ofNat (o + i))), .val (.ref d), .val (.int (Int32.ofNat (q + i))), .val (.int (Int32.ofNat len)), .val (.int (Int32.ofNat i)), z] [.int (Int32.ofNat (o + i)), .ref b])) := cl.trans (by
        refine XS.iload Xl.here hexec rfl (hb hbytes d3) rfl ?_
        refine XS.iload Xl.here hexec rfl (hb hbytes d5) rfl ?_
        refine XS.icmpNo Xl.here hexec rfl (hb hbytes d7) rfl (ii_ge_f (lt32 (by omega) (by omega))) ?_
        refine XS.aloadN Xl.here hexec rfl (hb hbytes d10) rfl rfl ?_
        refine XS.iloadN Xl.here hexec rfl (hb hbytes d11) rfl ?_
        exact Steps.refl _)
      have c4 : Steps p.tables e below (s₁.setTop (entryFrame m #[.ref b, .int (Int32.ofNat o), .ref d, .int (Int32.ofNat q), .int (Int32.ofNat len)] 7)) (Tl.setTop (mkF m 13 #[.val (.ref b), .val (.int (Int32.ofNat (o + i))), .val (.ref d), .val (.int (Int32.ofNat (q + i))), .val (.int (Int32.ofNat len)), .val (.int (Int32.ofNat i)), z] [.int (cv A (o + i))])) := c3.trans (by
        refine Xl.aget hexec hAl rfl (hA.get (i := o + i) (by omega)) rfl rfl (hb hbytes d12) ?_
        exact Steps.refl _)
      have c5 : Steps p.tables e below (s₁.setTop (entryFrame m #[.ref b, .int (Int32.ofNat o), .ref d, .int (Int32.ofNat q), .int (Int32.ofNat len)] 7)) (Tl.setTop (mkF m 15 #[.val (.ref b), .val (.int (Int32.ofNat (o + i))), .val (.ref d), .val (.int (Int32.ofNat (q + i))), .val (.int (Int32.ofNat len)), .val (.int (Int32.ofNat i)), .val (.int (cv A (o + i)))] [])) := c4.trans (by
        refine XS.istoreS Xl.here hexec rfl (hb hbytes d13) rfl rfl hz ?_
        exact Steps.refl _)
      have c6 : Steps p.tables e below (s₁.setTop (entryFrame m #[.ref b, .int (Int32.ofNat o), .ref d, .int (Int32.ofNat q), .int (Int32.ofNat len)] 7)) (Tl.setTop (mkF m 31 #[.val (.ref b), .val (.int (Int32.ofNat (o + i))), .val (.ref d), .val (.int (Int32.ofNat (q + i))), .val (.int (Int32.ofNat len)), .val (.int (Int32.ofNat i)), .val (.int (cv A (o + i)))] [.int (lo8 (cv A (o + i))), .int (Int32.ofNat (q + i)), .ref d])) := c5.trans (by
        refine XS.iload Xl.here hexec rfl (hb hbytes d15) rfl ?_
        refine sipushV Xl.here hexec rfl 255 (hb hbytes d17) (by decide) ?_
        refine XS.icmpYes Xl.here hexec rfl (pc0 := 20) rfl (hb hbytes d20) rfl (ii_le_t (hp i (by omega))) (by decide) rfl ?_
        refine XS.aloadN Xl.here hexec rfl (hb hbytes d26) rfl rfl ?_
        refine XS.iloadN Xl.here hexec rfl (hb hbytes d27) rfl ?_
        refine XS.iload Xl.here hexec rfl (hb hbytes d28) rfl ?_
        refine i2b Xl.here hexec rfl (hb hbytes d30) rfl ?_
        exact Steps.refl _)
      obtain ⟨T7, X7, p7, st7⟩ := Xl.aput hexec hBk rfl hlt rfl (fits_lo8 (cv A (o + i))) (g := (mkF m 31 #[.val (.ref b), .val (.int (Int32.ofNat (o + i))), .val (.ref d), .val (.int (Int32.ofNat (q + i))), .val (.int (Int32.ofNat len)), .val (.int (Int32.ofNat i)), .val (.int (cv A (o + i)))] [.int (lo8 (cv A (o + i))), .int (Int32.ofNat (q + i)), .ref d])) rfl (rest := []) rfl (hb hbytes d31)
      have c8 : Steps p.tables e below (s₁.setTop (entryFrame m #[.ref b, .int (Int32.ofNat o), .ref d, .int (Int32.ofNat q), .int (Int32.ofNat len)] 7)) (T7.setTop (mkF m 32 #[.val (.ref b), .val (.int (Int32.ofNat (o + i))), .val (.ref d), .val (.int (Int32.ofNat (q + i))), .val (.int (Int32.ofNat len)), .val (.int (Int32.ofNat i)), .val (.int (cv A (o + i)))] [])) := c6.trans (st7 _ (Steps.refl _))
      have c9 : Steps p.tables e below (s₁.setTop (entryFrame m #[.ref b, .int (Int32.ofNat o), .ref d, .int (Int32.ofNat q), .int (Int32.ofNat len)] 7)) (T7.setTop (mkF m 3 #[.val (.ref b), .val (.int (Int32.ofNat (o + i) + 1)), .val (.ref d), .val (.int (Int32.ofNat (q + i) + 1)), .val (.int (Int32.ofNat len)), .val (.int (Int32.ofNat i + 1)), .val (.int (cv A (o + i)))] [])) := c8.trans (by
        refine iincV X7.here hexec rfl 1 (hb hbytes d32) (by decide) rfl rfl ?_
        refine iincV X7.here hexec rfl 1 (hb hbytes d35) (by decide) rfl rfl ?_
        refine iincV X7.here hexec rfl 1 (hb hbytes d38) (by decide) rfl rfl ?_
        refine XS.goto X7.here hexec rfl (pc0 := 41) rfl (hb hbytes d41) (by decide) rfl ?_
        exact Steps.refl _)
      have c10 : Steps p.tables e below (s₁.setTop (entryFrame m #[.ref b, .int (Int32.ofNat o), .ref d, .int (Int32.ofNat q), .int (Int32.ofNat len)] 7)) (T7.setTop (mkF m 3 #[.val (.ref b), .val (.int (Int32.ofNat (o + (i + 1)))), .val (.ref d), .val (.int (Int32.ofNat (q + (i + 1)))), .val (.int (Int32.ofNat len)), .val (.int (Int32.ofNat (i + 1))), .val (.int (cv A (o + i)))] [])) := by
        have := c9
        rw [succ32, succ32, succ32] at this
        exact this
      exact ih (i + 1) (by omega) _ (Or.inr ⟨_, rfl, rfl⟩) T7 _ (by rw [copyLocs_step, ← List.append_assoc]; exact X7) (pl.trans p7) (fl.step (by omega) hlt (by simp)) c10
  obtain ⟨T9, B9, z9, X9, p9, f9, g9⟩ := loop len 0 (by omega) .unset (Or.inl rfl) s₁ B (by simpa [copyLocs] using X0) ⟨hB0.1, fun _ _ => rfl, rfl⟩ (Laid.zero _ _ _) c2
  have c11 : Steps p.tables e below (s₁.setTop (entryFrame m #[.ref b, .int (Int32.ofNat o), .ref d, .int (Int32.ofNat q), .int (Int32.ofNat len)] 7)) (T9.setTop (mkF m 46 #[.val (.ref b), .val (.int (Int32.ofNat (o + len))), .val (.ref d), .val (.int (Int32.ofNat (q + len))), .val (.int (Int32.ofNat len)), .val (.int (Int32.ofNat len)), z9] [.int (Int32.ofNat len)])) := g9.trans (by
    refine XS.iload X9.here hexec rfl (hb hbytes d3) rfl ?_
    refine XS.iload X9.here hexec rfl (hb hbytes d5) rfl ?_
    refine XS.icmpYes X9.here hexec rfl (pc0 := 7) rfl (hb hbytes d7) rfl (ii_ge_t (nlt32 (by omega) (Nat.le_refl _))) (by decide) rfl ?_
    refine XS.iload X9.here hexec rfl (hb hbytes d44) rfl ?_
    exact Steps.refl _)
  exact ⟨T9, some (.int (Int32.ofNat len)), _, _, _, X9, by simp, rfl, rfl, (fun h => by cases h), ⟨rfl, B9, p9.from hh0, f9⟩, fun fs hl => c11.trans (X9.ireturnOut hexec hret rfl (Or.inl rfl) (hb hbytes d46) hl)⟩
end Cmp5
namespace Cmp3
def yN : MethodName := ⟨"java/lang/StringUTF16", "compress", "([CII)[B"⟩
abbrev yB : ByteArray := jdk_52_method_16_code
theorem d0 : decode yB 0 = .ok (.iload_n 2, 1) := by decide +kernel
theorem d1 : decode yB 1 = .ok (.newarray .byte, 2) := by decide +kernel
theorem d3 : decode yB 3 = .ok (.astore_n 3, 1) := by decide +kernel
theorem d4 : decode yB 4 = .ok (.aload_n 0, 1) := by decide +kernel
theorem d5 : decode yB 5 = .ok (.iload_n 1, 1) := by decide +kernel
theorem d6 : decode yB 6 = .ok (.aload_n 3, 1) := by decide +kernel
theorem d7 : decode yB 7 = .ok (.iconst 0, 1) := by decide +kernel
theorem d8 : decode yB 8 = .ok (.iload_n 2, 1) := by decide +kernel
theorem d9 : decode yB 9 = .ok (.invokestatic 115, 3) := by decide +kernel
theorem d12 : decode yB 12 = .ok (.istore 4, 2) := by decide +kernel
theorem d14 : decode yB 14 = .ok (.iload 4, 2) := by decide +kernel
theorem d16 : decode yB 16 = .ok (.iload_n 2, 1) := by decide +kernel
theorem d17 : decode yB 17 = .ok (.if_icmp (.eq) 40, 3) := by decide +kernel
theorem d57 : decode yB 57 = .ok (.aload_n 3, 1) := by decide +kernel
theorem d58 : decode yB 58 = .ok (.areturn, 1) := by decide +kernel
def site : List Cond := [.arrayClass .byte, Cmp5.tab] ++ staticW U16 115 Cmp5.yN
def tab : Cond := tabOf yN yB 6 (some (.array .byte)) site
def P (b : Addr) (A : Cell) (o len : Nat) (args : Array Value) (s : State) : Prop := args = #[.ref b, .int (Int32.ofNat o), .int (Int32.ofNat len)] ∧ Ch b A s ∧ o + len ≤ A.slots.size ∧ len ≤ 536870912 ∧ ∀ i, i < len → ¬ 255 < cv A (o + i)
def E (b : Addr) (A : Cell) (o len : Nat) (r : Option Value) (s u : State) : Prop := NewArr .byte "[B" len (fun j => .int (lo8 (cv A (o + j)))) r s u ∧ u.heap.size = s.heap.size + 1
/-- no char of the range above 255: a new byte[] of their low bytes -/
theorem law (l : Launch) (b : Addr) (A : Cell) (o len : Nat) : Law l yN 3 3 1 18 yB 6 (some (.array .byte)) site (P b A o len) (E b A o len) [] 1 len := by
  refine Law.of_walk (plainFor_of_name (by decide +kernel)) (by decide +kernel) (by decide +kernel) (by decide) (fun _ _ h => by rw [h.1]; rfl) (fun _ U U' hal hh h => ⟨h.1, h.2.1.mv hal hh, h.2.2⟩) (fun r U U' V V' h1 hal h2 h => ⟨NewArr.mv r U U' V V' h1 hal h2 h.1, by rw [h1, h2]; exact h.2⟩) ?_
  intro p e s m args below meth c s₁ X0 hexec hbytes hml hret hlk hnm hown hh0 W hP
  obtain ⟨rfl, hA, l1, l2, hp⟩ := hP
  have a31 := hA.1.2.2.2
  have c1 : Steps p.tables e below (s₁.setTop (entryFrame m #[.ref b, .int (Int32.ofNat o), .int (Int32.ofNat len)] 6)) (s₁.setTop (mkF m 0 #[.val (.ref b), .val (.int (Int32.ofNat o)), .val (.int (Int32.ofNat len)), .unset, .unset, .unset] [])) := entry rfl
  have c2 : Steps p.tables e below (s₁.setTop (entryFrame m #[.ref b, .int (Int32.ofNat o), .int (Int32.ofNat len)] 6)) (s₁.setTop (mkF m 1 #[.val (.ref b), .val (.int (Int32.ofNat o)), .val (.int (Int32.ofNat len)), .unset, .unset, .unset] [.int (Int32.ofNat len)])) := c1.trans (by
    refine XS.iloadN X0.here hexec rfl (hb hbytes d0) rfl ?_
    exact Steps.refl _)
  obtain ⟨T3, B3, X3, ba3, bs3, bv3, bh3, bf3, st3⟩ := X0.anew hexec (atype := .byte) (wk W (.arrayClass .byte)) rfl (by show len * 1 ≤ _; omega) (by omega) (g := (mkF m 1 #[.val (.ref b), .val (.int (Int32.ofNat o)), .val (.int (Int32.ofNat len)), .unset, .unset, .unset] [.int (Int32.ofNat len)])) rfl (hb hbytes d1) (rest := []) rfl (Nat.le_refl _) (by show 0 + len ≤ len; omega)
  rw [hh0] at ba3 st3
  have kp3 : XT.Kept s T3 := (XT.Kept.of_eq hh0).push bh3
  have hA3 := hA.keep X3.warmed.alike (kp3 _ _ hA.1.1)
  have hne : b ≠ s.heap.size := hA.1.ne
  have c4 : Steps p.tables e below (s₁.setTop (entryFrame m #[.ref b, .int (Int32.ofNat o), .int (Int32.ofNat len)] 6)) (T3.setTop (mkF m 3 #[.val (.ref b), .val (.int (Int32.ofNat o)), .val (.int (Int32.ofNat len)), .unset, .unset, .unset] [.ref s.heap.size])) := c2.trans (st3 _ (Steps.refl _))
  have c5 : Steps p.tables e below (s₁.setTop (entryFrame m #[.ref b, .int (Int32.ofNat o), .int (Int32.ofNat len)] 6)) (T3.setTop (mkF m 9 #[.val (.ref b), .val (.int (Int32.ofNat o)), .val (.int (Int32.ofNat len)), .val (.ref s.heap.size), .unset, .unset] [.int (Int32.ofNat len), .int 0, .ref s.heap.size, .int (Int32.ofNat o), .ref b])) := c4.trans (by
    refine XS.astoreN X3.here hexec rfl (hb hbytes d3) rfl rfl rfl ?_
    refine XS.aloadN X3.here hexec rfl (hb hbytes d4) rfl rfl ?_
    refine XS.iloadN X3.here hexec rfl (hb hbytes d5) rfl ?_
    refine XS.aloadN X3.here hexec rfl (hb hbytes d6) rfl rfl ?_
    refine iconstV X3.here hexec rfl 0 (hb hbytes d7) (by decide) ?_
    refine XS.iloadN X3.here hexec rfl (hb hbytes d8) rfl ?_
    exact Steps.refl _)
  obtain ⟨v6, T6, X6, E6, g6⟩ := X3.callS hexec (Cmp5.law l b A s.heap.size B3 o 0 len) hown (wks W (staticW U16 115 Cmp5.yN)) (wk W Cmp5.tab) (W := 0) (Nat.le_of_ble_eq_true rfl) (Nat.le_of_ble_eq_true rfl) (Nat.le_refl _) (by show 0 + len + 0 ≤ len; omega) (g := (mkF m 9 #[.val (.ref b), .val (.int (Int32.ofNat o)), .val (.int (Int32.ofNat len)), .val (.ref s.heap.size), .unset, .unset] [.int (Int32.ofNat len), .int (Int32.ofNat 0), .ref s.heap.size, .int (Int32.ofNat o), .ref b])) rfl (by rw [hml]; rfl) c5 (argsL := [.ref b, .int (Int32.ofNat o), .ref s.heap.size, .int (Int32.ofNat 0), .int (Int32.ofNat len)]) (rest := []) rfl rfl (by show 2 * 0 + 0 ≤ _; decide) (hb hbytes d9) (⟨rfl, hA3, ba3, hne, l1, by rw [bs3]; simp, hp⟩)
  obtain ⟨rfl, B6, p6, f6⟩ := E6
  have c7 : Steps p.tables e below (s₁.setTop (entryFrame m #[.ref b, .int (Int32.ofNat o), .int (Int32.ofNat len)] 6)) (T6.setTop (mkF m 12 #[.val (.ref b), .val (.int (Int32.ofNat o)), .val (.int (Int32.ofNat len)), .val (.ref s.heap.size), .unset, .unset] [.int (Int32.ofNat len)])) := g6
  have c8 : Steps p.tables e below (s₁.setTop (entryFrame m #[.ref b, .int (Int32.ofNat o), .int (Int32.ofNat len)] 6)) (T6.setTop (mkF m 58 #[.val (.ref b), .val (.int (Int32.ofNat o)), .val (.int (Int32.ofNat len)), .val (.ref s.heap.size), .val (.int (Int32.ofNat len)), .unset] [.ref s.heap.size])) := c7.trans (by
    refine XS.istore X6.here hexec rfl (hb hbytes d12) rfl rfl ?_
    refine XS.iload X6.here hexec rfl (hb hbytes d14) rfl ?_
    refine XS.iloadN X6.here hexec rfl (hb hbytes d16) rfl ?_
    refine XS.icmpYes X6.here hexec rfl (pc0 := 17) rfl (hb hbytes d17) rfl (ii_eq_t rfl) (by decide) rfl ?_
    refine XS.aloadN X6.here hexec rfl (hb hbytes d57) rfl rfl ?_
    exact Steps.refl _)
  have X8 := X6.wide (L' := []) (cells' := 1) (slots' := len) (fun x hx hlt => by
    simp only [List.nil_append, copyLocs, List.mem_map, List.mem_range] at hx
    obtain ⟨i, -, rfl⟩ := hx
    exact absurd hlt (Nat.lt_irrefl _)) (Nat.le_refl _) (by omega)
  exact ⟨T6, some (.ref s.heap.size), _, _, _, X8, rfl, rfl, rfl, (fun h => by cases h), ⟨⟨rfl, B6, ba3.like (X3.warmed.alike.symm.trans X6.warmed.alike) p6.1 f6.1 f6.2.1 f6.2.2.1, f6.2.1.trans bv3, by rw [X6.warmed.alike.findClass, f6.1]; exact bf3, by rw [f6.2.2.1, bs3]; simp, fun j hj => by rw [f6.2.2.2 j, if_pos (by omega)]; rfl, kp3.put p6 (Nat.le_refl _)⟩, by rw [p6.2.2, bh3, hh0]; simp⟩, fun fs hl => c8.trans (X8.areturnOut hexec rfl hret rfl (hb hbytes d58) hl)⟩
end Cmp3
namespace CodL
def yN : MethodName := ⟨"java/lang/StringUTF16", "coderFromArrayLen", "([BI)B"⟩
abbrev yB : ByteArray := jdk_52_method_15_code
theorem d0 : decode yB 0 = .ok (.iload_n 1, 1) := by decide +kernel
theorem d1 : decode yB 1 = .ok (.aload_n 0, 1) := by decide +kernel
theorem d2 : decode yB 2 = .ok (.arraylength, 1) := by decide +kernel
theorem d3 : decode yB 3 = .ok (.isub, 1) := by decide +kernel
theorem d4 : decode yB 4 = .ok (.bipush 31, 2) := by decide +kernel
theorem d6 : decode yB 6 = .ok (.iushr, 1) := by decide +kernel
theorem d7 : decode yB 7 = .ok (.i2b, 1) := by decide +kernel
theorem d8 : decode yB 8 = .ok (.ireturn, 1) := by decide +kernel
def site : List Cond := []
def tab : Cond := tabOf yN yB 2 (some .byte) site
def P (d : Addr) (B : Cell) (args : Array Value) (s : State) : Prop := args = #[.ref d, .int (Int32.ofNat B.slots.size)] ∧ Arr .byte d B s
def E (r : Option Value) (s u : State) : Prop := XT.PureE (some (.int 0)) r s u
/-- an array as long as the number of chars: LATIN1 -/
theorem law (l : Launch) (d : Addr) (B : Cell) : Law l yN 2 2 0 0 yB 2 (some .byte) site (P d B) E [] 0 0 := by
  refine Law.of_walk (plainFor_of_name (by decide +kernel)) (by decide +kernel) (by decide +kernel) (by decide) (fun _ _ h => by rw [h.1]; rfl) (fun _ U U' hal hh h => ⟨h.1, h.2.mv hal hh⟩) (fun r U U' V V' h1 hal h2 h => XT.PureE.mv r U U' V V' h1 hal h2 h) ?_
  intro p e s m args below meth c s₁ X0 hexec hbytes hml hret hlk hnm hown hh0 W hP
  obtain ⟨rfl, hB⟩ := hP
  have hB0 := hB.mv X0.warmed.alike hh0
  have c1 : Steps p.tables e below (s₁.setTop (entryFrame m #[.ref d, .int (Int32.ofNat B.slots.size)] 2)) (s₁.setTop (mkF m 0 #[.val (.ref d), .val (.int (Int32.ofNat B.slots.size))] [])) := entry rfl
  have c2 : Steps p.tables e below (s₁.setTop (entryFrame m #[.ref d, .int (Int32.ofNat B.slots.size)] 2)) (s₁.setTop (mkF m 2 #[.val (.ref d), .val (.int (Int32.ofNat B.slots.size))] [.ref d, .int (Int32.ofNat B.slots.size)])) := c1.trans (by
    refine XS.iloadN X0.here hexec rfl (hb hbytes d0) rfl ?_
    refine XS.aloadN X0.here hexec rfl (hb hbytes d1) rfl rfl ?_
    exact Steps.refl _)
  have c3 : Steps p.tables e below (s₁.setTop (entryFrame m #[.ref d, .int (Int32.ofNat B.slots.size)] 2)) (s₁.setTop (mkF m 8 #[.val (.ref d), .val (.int (Int32.ofNat B.slots.size))] [.int (lo8 (ushr (Int32.ofNat B.slots.size - Int32.ofNat B.slots.size) 31))])) := c2.trans (by
    refine X0.alen hexec hB0 rfl rfl (hb hbytes d2) ?_
    refine XS.isub X0.here hexec rfl (hb hbytes d3) rfl ?_
    refine bipushV X0.here hexec rfl 31 (hb hbytes d4) (by decide) ?_
    refine iushr X0.here hexec rfl (hb hbytes d6) rfl ?_
    refine i2b X0.here hexec rfl (hb hbytes d7) rfl ?_
    exact Steps.refl _)
  have e0 : lo8 (ushr (Int32.ofNat B.slots.size - Int32.ofNat B.slots.size) 31) = 0 := by rw [Int32.sub_self]; decide
  rw [e0] at c3
  exact ⟨s₁, some (.int 0), _, _, _, X0, rfl, rfl, rfl, (fun h => by cases h), ⟨rfl, hh0⟩, fun fs hl => c3.trans (X0.ireturnOut hexec hret rfl (Or.inr (Or.inr (Or.inl rfl))) (hb hbytes d8) hl)⟩
end CodL
/-- the String at a is Latin-1 over a new byte[] (the heap's one new cell): the low bytes of the len chars of A from o on; every cell but a is kept -/
def Got (a : Addr) (D : Cell) (fV fC : Field) (A : Cell) (o len : Nat) (r : Option Value) (s u : State) : Prop := r = none ∧ ∃ D' V : Cell, Blank "java/lang/String" a D' u ∧ Same D D' [fV.slot, fC.slot] ∧ D'.slots[fV.slot]? = some (.ref s.heap.size) ∧ D'.slots[fC.slot]? = some (.int 0) ∧ Arr .byte s.heap.size V u ∧ V.vm = .none ∧ u.vm.findClass "[B" = some V.cls ∧ V.slots.size = len ∧ (∀ j, j < len → V.slots[j]? = some (.int (lo8 (cv A (o + j))))) ∧ (∀ (y : Addr) (c : Cell), y ≠ a → s.heap[y]? = some c → u.heap[y]? = some c) ∧ u.heap.size = s.heap.size + 1
theorem Got.mv {a : Addr} {D A : Cell} {fV fC : Field} {o len : Nat} : ∀ r (U U' V V' : State), U'.heap = U.heap → V.vm.Alike V'.vm → V'.heap = V.heap → Got a D fV fC A o len r U V → Got a D fV fC A o len r U' V' :=
  fun r U U' V V' h1 hal h2 ⟨e0, D', X, a1, a2, a3, a4, a5, a6, a7, a8, a9, a10, a11⟩ => ⟨e0, D', X, a1.mv hal h2, a2, by rw [h1]; exact a3, a4, by rw [h1]; exact a5.mv hal h2, a6, by rw [hal.findClass]; exact a7, a8, a9, by rw [h1, h2]; exact a10, by rw [h1, h2]; exact a11⟩
namespace New4
def yN : MethodName := ⟨"java/lang/String", "<init>", "([CIILjava/lang/Void;)V"⟩
abbrev yB : ByteArray := jdk_42_method_149_code
theorem d0 : decode yB 0 = .ok (.aload_n 0, 1) := by decide +kernel
theorem d1 : decode yB 1 = .ok (.invokespecial 1, 3) := by decide +kernel
theorem d4 : decode yB 4 = .ok (.iload_n 3, 1) := by decide +kernel
theorem d5 : decode yB 5 = .ok (.ifCond (.ne) 22, 3) := by decide +kernel
theorem d27 : decode yB 27 = .ok (.getstatic 38, 3) := by decide +kernel
theorem d30 : decode yB 30 = .ok (.ifCond (.eq) 28, 3) := by decide +kernel
theorem d33 : decode yB 33 = .ok (.aload_n 1, 1) := by decide +kernel
theorem d34 : decode yB 34 = .ok (.iload_n 2, 1) := by decide +kernel
theorem d35 : decode yB 35 = .ok (.iload_n 3, 1) := by decide +kernel
theorem d36 : decode yB 36 = .ok (.invokestatic 177, 3) := by decide +kernel
theorem d39 : decode yB 39 = .ok (.astore 5, 2) := by decide +kernel
theorem d41 : decode yB 41 = .ok (.aload_n 0, 1) := by decide +kernel
theorem d42 : decode yB 42 = .ok (.aload 5, 2) := by decide +kernel
theorem d44 : decode yB 44 = .ok (.iload_n 3, 1) := by decide +kernel
theorem d45 : decode yB 45 = .ok (.invokestatic 47, 3) := by decide +kernel
theorem d48 : decode yB 48 = .ok (.putfield 15, 3) := by decide +kernel
theorem d51 : decode yB 51 = .ok (.aload_n 0, 1) := by decide +kernel
theorem d52 : decode yB 52 = .ok (.aload 5, 2) := by decide +kernel
theorem d54 : decode yB 54 = .ok (.putfield 9, 3) := by decide +kernel
theorem d57 : decode yB 57 = .ok (.return_, 1) := by decide +kernel
def site : List Cond := [.fieldLink "java/lang/String" 38 "java/lang/String" "COMPACT_STRINGS" "Z", Cmp3.tab, CodL.tab, .laysFinal "java/lang/String" "java/lang/String" "value" "[B", .fieldLink "java/lang/String" 9 "java/lang/String" "value" "[B", .laysFinal "java/lang/String" "java/lang/String" "coder" "B", .fieldLink "java/lang/String" 15 "java/lang/String" "coder" "B"] ++ objW "java/lang/String" 1 ++ staticW "java/lang/String" 177 Cmp3.yN ++ staticW "java/lang/String" 47 CodL.yN
def tab : Cond := tabOf yN yB 6 none site
def P (a : Addr) (D : Cell) (fV fC : Field) (b : Addr) (A : Cell) (z : Int32) (o len : Nat) (args : Array Value) (s : State) : Prop := args = #[.ref a, .ref b, .int (Int32.ofNat o), .int (Int32.ofNat len), .null] ∧ Blank "java/lang/String" a D s ∧ Found "java/lang/String" "value" "[B" fV s ∧ Found "java/lang/String" "coder" "B" fC s ∧ Ch b A s ∧ StaticIs s "java/lang/String" "COMPACT_STRINGS" "Z" (.int z) ∧ ¬ z = 0 ∧ 0 < len ∧ o + len ≤ A.slots.size ∧ len ≤ 536870912 ∧ ∀ i, i < len → ¬ 255 < cv A (o + i)
def E (a : Addr) (D : Cell) (fV fC : Field) (A : Cell) (o len : Nat) (r : Option Value) (s u : State) : Prop := Got a D fV fC A o len r s u
/-- len > 0, no char of the range above 255: a Latin-1 String of their low bytes -/
theorem law (l : Launch) (a : Addr) (D : Cell) (fV fC : Field) (b : Addr) (A : Cell) (z : Int32) (o len : Nat) : Law l yN 5 4 2 35 yB 6 none site (P a D fV fC b A z o len) (E a D fV fC A o len) [⟨a, fC.slot⟩, ⟨a, fV.slot⟩] 1 len := by
  refine Law.of_walk (plainFor_of_name (by decide +kernel)) (by decide +kernel) (by decide +kernel) (by decide) (fun _ _ h => by rw [h.1]; rfl) (fun _ U U' hal hh h => ⟨h.1, h.2.1.mv hal hh, h.2.2.1.al hal, h.2.2.2.1.al hal, h.2.2.2.2.1.mv hal hh, h.2.2.2.2.2.1.there hal hh, h.2.2.2.2.2.2⟩) (fun r U U' V V' h1 hal h2 h => Got.mv r U U' V V' h1 hal h2 h) ?_
  intro p e s m args below meth c s₁ X0 hexec hbytes hml hret hlk hnm hown hh0 W hP
  obtain ⟨rfl, hB, f1, f2, hA, s1, hz, l0, l1, l2, hp⟩ := hP
  have a31 := hA.1.2.2.2
  have c1 : Steps p.tables e below (s₁.setTop (entryFrame m #[.ref a, .ref b, .int (Int32.ofNat o), .int (Int32.ofNat len), .null] 6)) (s₁.setTop (mkF m 0 #[.val (.ref a), .val (.ref b), .val (.int (Int32.ofNat o)), .val (.int (Int32.ofNat len)), .val .null, .unset] [])) := entry rfl
  have c2 : Steps p.tables e below (s₁.setTop (entryFrame m #[.ref a, .ref b, .int (Int32.ofNat o), .int (Int32.ofNat len), .null] 6)) (s₁.setTop (mkF m 1 #[.val (.ref a), .val (.ref b), .val (.int (Int32.ofNat o)), .val (.int (Int32.ofNat len)), .val .null, .unset] [.ref a])) := c1.trans (by
    refine XS.aloadN X0.here hexec rfl (hb hbytes d0) rfl rfl ?_
    exact Steps.refl _)
  obtain ⟨T3, X3, q3, st3⟩ := X0.oinit hexec hown (wks W (objW "java/lang/String" 1)) (g := (mkF m 1 #[.val (.ref a), .val (.ref b), .val (.int (Int32.ofNat o)), .val (.int (Int32.ofNat len)), .val .null, .unset] [.ref a])) rfl (by rw [hml]; rfl) (rest := []) rfl (hb hbytes d1) (W := 0) (by show 2 * 0 + 0 ≤ _; decide) (Nat.le_of_ble_eq_true rfl) (Nat.le_of_ble_eq_true rfl)
  have hh3 := q3.trans hh0
  have c4 : Steps p.tables e below (s₁.setTop (entryFrame m #[.ref a, .ref b, .int (Int32.ofNat o), .int (Int32.ofNat len), .null] 6)) (T3.setTop (mkF m 27 #[.val (.ref a), .val (.ref b), .val (.int (Int32.ofNat o)), .val (.int (Int32.ofNat len)), .val .null, .unset] [])) := (c2.trans (st3 _ (Steps.refl _))).trans (by
    refine XS.iloadN X3.here hexec rfl (hb hbytes d4) rfl ?_
    refine XS.ifYes X3.here hexec rfl (pc0 := 5) rfl (hb hbytes d5) rfl (i0_ne_t (nz32 (by omega) l0)) (by decide) rfl ?_
    exact Steps.refl _)
  obtain ⟨T5, X5, q5, st5⟩ := X3.sget hexec hown (wk W (.fieldLink "java/lang/String" 38 "java/lang/String" "COMPACT_STRINGS" "Z")) s1 (fun _ _ h => by rw [hh3]; exact h) (g := (mkF m 27 #[.val (.ref a), .val (.ref b), .val (.int (Int32.ofNat o)), .val (.int (Int32.ofNat len)), .val .null, .unset] [])) rfl (hb hbytes d27)
  have hh5 := q5.trans hh3
  have c6 : Steps p.tables e below (s₁.setTop (entryFrame m #[.ref a, .ref b, .int (Int32.ofNat o), .int (Int32.ofNat len), .null] 6)) (T5.setTop (mkF m 30 #[.val (.ref a), .val (.ref b), .val (.int (Int32.ofNat o)), .val (.int (Int32.ofNat len)), .val .null, .unset] [.int z])) := c4.trans (st5 _ (Steps.refl _))
  have c7 : Steps p.tables e below (s₁.setTop (entryFrame m #[.ref a, .ref b, .int (Int32.ofNat o), .int (Int32.ofNat len), .null] 6)) (T5.setTop (mkF m 36 #[.val (.ref a), .val (.ref b), .val (.int (Int32.ofNat o)), .val (.int (Int32.ofNat len)), .val .null, .unset] [.int (Int32.ofNat len), .int (Int32.ofNat o), .ref b])) := c6.trans (by
    refine XS.ifNo X5.here hexec rfl (hb hbytes d30) rfl (i0_eq_f hz) ?_
    refine XS.aloadN X5.here hexec rfl (hb hbytes d33) rfl rfl ?_
    refine XS.iloadN X5.here hexec rfl (hb hbytes d34) rfl ?_
    refine XS.iloadN X5.here hexec rfl (hb hbytes d35) rfl ?_
    exact Steps.refl _)
  obtain ⟨v8, T8, X8, E8, g8⟩ := X5.callS hexec (Cmp3.law l b A o len) hown (wks W (staticW "java/lang/String" 177 Cmp3.yN)) (wk W Cmp3.tab) (W := 0) (Nat.le_of_ble_eq_true rfl) (Nat.le_of_ble_eq_true rfl) (Nat.le_refl _) (by show 0 + len ≤ len; omega) (g := (mkF m 36 #[.val (.ref a), .val (.ref b), .val (.int (Int32.ofNat o)), .val (.int (Int32.ofNat len)), .val .null, .unset] [.int (Int32.ofNat len), .int (Int32.ofNat o), .ref b])) rfl (by rw [hml]; rfl) c7 (argsL := [.ref b, .int (Int32.ofNat o), .int (Int32.ofNat len)]) (rest := []) rfl rfl (by show 2 * 0 + 0 ≤ _; decide) (hb hbytes d36) (⟨rfl, hA.mv X5.warmed.alike hh5, l1, l2, hp⟩)
  obtain ⟨e8, z8⟩ := E8
  obtain ⟨rfl, N, n1, n2, n3, n4, n5, n6⟩ := NewArr.mv _ T5 s _ _ hh5.symm (Vm.Alike.refl _) rfl e8
  rw [hh5] at z8
  have hB1 := hB.keep X8.warmed.alike (n6 _ _ hB.1)
  have hne : s.heap.size ≠ a := (Nat.ne_of_lt (Array.getElem?_eq_some_iff.mp hB.1).1).symm
  have c9 : Steps p.tables e below (s₁.setTop (entryFrame m #[.ref a, .ref b, .int (Int32.ofNat o), .int (Int32.ofNat len), .null] 6)) (T8.setTop (mkF m 39 #[.val (.ref a), .val (.ref b), .val (.int (Int32.ofNat o)), .val (.int (Int32.ofNat len)), .val .null, .unset] [.ref s.heap.size])) := g8
  have c10 : Steps p.tables e below (s₁.setTop (entryFrame m #[.ref a, .ref b, .int (Int32.ofNat o), .int (Int32.ofNat len), .null] 6)) (T8.setTop (mkF m 45 #[.val (.ref a), .val (.ref b), .val (.int (Int32.ofNat o)), .val (.int (Int32.ofNat len)), .val .null, .val (.ref s.heap.size)] [.int (Int32.ofNat N.slots.size), .ref s.heap.size, .ref a])) := by
    have hc : Steps p.tables e below (s₁.setTop (entryFrame m #[.ref a, .ref b, .int (Int32.ofNat o), .int (Int32.ofNat len), .null] 6)) (T8.setTop (mkF m 45 #[.val (.ref a), .val (.ref b), .val (.int (Int32.ofNat o)), .val (.int (Int32.ofNat len)), .val .null, .val (.ref s.heap.size)] [.int (Int32.ofNat len), .ref s.heap.size, .ref a])) := c9.trans (by
      refine XS.astore X8.here hexec rfl (hb hbytes d39) rfl rfl rfl ?_
      refine XS.aloadN X8.here hexec rfl (hb hbytes d41) rfl rfl ?_
      refine XS.aload X8.here hexec rfl (hb hbytes d42) rfl rfl ?_
      refine XS.iloadN X8.here hexec rfl (hb hbytes d44) rfl ?_
      exact Steps.refl _)
    rw [n4]; exact hc
  obtain ⟨v11, T11, X11, E11, g11⟩ := X8.callS hexec (CodL.law l s.heap.size N) hown (wks W (staticW "java/lang/String" 47 CodL.yN)) (wk W CodL.tab) (W := 1) (Nat.le_of_ble_eq_true rfl) (Nat.le_of_ble_eq_true rfl) (Nat.le_refl _) (by show 0 + len + 0 ≤ len; omega) (g := (mkF m 45 #[.val (.ref a), .val (.ref b), .val (.int (Int32.ofNat o)), .val (.int (Int32.ofNat len)), .val .null, .val (.ref s.heap.size)] [.int (Int32.ofNat N.slots.size), .ref s.heap.size, .ref a])) rfl (by rw [hml]; rfl) c10 (argsL := [.ref s.heap.size, .int (Int32.ofNat N.slots.size)]) (rest := [.ref a]) rfl rfl (by show 2 * 0 + (1 + 0) ≤ _; decide) (hb hbytes d45) (⟨rfl, n1⟩)
  obtain ⟨rfl, q11⟩ := E11
  have hB11 := hB1.mv (X8.warmed.alike.symm.trans X11.warmed.alike) q11
  have c12 : Steps p.tables e below (s₁.setTop (entryFrame m #[.ref a, .ref b, .int (Int32.ofNat o), .int (Int32.ofNat len), .null] 6)) (T11.setTop (mkF m 48 #[.val (.ref a), .val (.ref b), .val (.int (Int32.ofNat o)), .val (.int (Int32.ofNat len)), .val .null, .val (.ref s.heap.size)] [.int 0, .ref a])) := g11
  obtain ⟨T13, X13, p13, bl13, sl13, st13⟩ := X11.finit hexec hown (wk W (.fieldLink "java/lang/String" 15 "java/lang/String" "coder" "B")) (Or.inr ⟨_, (wk W (.laysFinal "java/lang/String" "java/lang/String" "coder" "B"))⟩) (Or.inl ⟨rfl, hnm⟩) f2 (Or.inl rfl) hB11 (t := .byte) (by decide +kernel) rfl (g := (mkF m 48 #[.val (.ref a), .val (.ref b), .val (.int (Int32.ofNat o)), .val (.int (Int32.ofNat len)), .val .null, .val (.ref s.heap.size)] [.int 0, .ref a])) rfl (rest := []) rfl (hb hbytes d48)
  have c14 : Steps p.tables e below (s₁.setTop (entryFrame m #[.ref a, .ref b, .int (Int32.ofNat o), .int (Int32.ofNat len), .null] 6)) (T13.setTop (mkF m 54 #[.val (.ref a), .val (.ref b), .val (.int (Int32.ofNat o)), .val (.int (Int32.ofNat len)), .val .null, .val (.ref s.heap.size)] [.ref s.heap.size, .ref a])) := (c12.trans (st13 _ (Steps.refl _))).trans (by
    refine XS.aloadN X13.here hexec rfl (hb hbytes d51) rfl rfl ?_
    refine XS.aload X13.here hexec rfl (hb hbytes d52) rfl rfl ?_
    exact Steps.refl _)
  obtain ⟨T15, X15, p15, bl15, sl15, st15⟩ := X13.finit hexec hown (wk W (.fieldLink "java/lang/String" 9 "java/lang/String" "value" "[B")) (Or.inr ⟨_, (wk W (.laysFinal "java/lang/String" "java/lang/String" "value" "[B"))⟩) (Or.inl ⟨rfl, hnm⟩) f1 (Or.inl rfl) bl13 (t := (.array .byte)) (by decide +kernel) rfl (g := (mkF m 54 #[.val (.ref a), .val (.ref b), .val (.int (Int32.ofNat o)), .val (.int (Int32.ofNat len)), .val .null, .val (.ref s.heap.size)] [.ref s.heap.size, .ref a])) rfl (rest := []) rfl (hb hbytes d54)
  have c16 : Steps p.tables e below (s₁.setTop (entryFrame m #[.ref a, .ref b, .int (Int32.ofNat o), .int (Int32.ofNat len), .null] 6)) (T15.setTop (mkF m 57 #[.val (.ref a), .val (.ref b), .val (.int (Int32.ofNat o)), .val (.int (Int32.ofNat len)), .val .null, .val (.ref s.heap.size)] [])) := c14.trans (st15 _ (Steps.refl _))
  have ap := apart (Or.inr ⟨_, (wk W (.laysFinal "java/lang/String" "java/lang/String" "value" "[B"))⟩) (Or.inr ⟨_, (wk W (.laysFinal "java/lang/String" "java/lang/String" "coder" "B"))⟩) f1 f2 (t₁ := .array .byte) (t₂ := .byte) (by decide +kernel) (by decide +kernel) (by decide)
  have al := X8.warmed.alike.symm.trans X15.warmed.alike
  have n7 : T11.heap[s.heap.size]? = some N := by rw [q11]; exact n1.1
  exact ⟨T15, none, _, _, _, X15, by simp, rfl, by omega, (fun _ => rfl), ⟨rfl, _, N, bl15, ((Same.refl D _).set _ (by simp)).set _ (by simp), sl15, (Cell.slots_setSlot_ne _ ap).trans sl13, n1.keep al (p15.other hne (p13.other hne n7)), n2, by rw [al.findClass]; exact n3, n4, n5, fun y c h1 h2 => p15.other h1 (p13.other h1 (by rw [q11]; exact n6 y c h2)), by rw [p15.2.2, p13.2.2, q11]; exact z8⟩, fun fs hl => c16.trans (X15.returnOut hexec hret (hb hbytes d57) hl)⟩
end New4
namespace New1
def yN : MethodName := ⟨"java/lang/String", "<init>", "([C)V"⟩
abbrev yB : ByteArray := jdk_42_method_3_code
theorem d0 : decode yB 0 = .ok (.aload_n 0, 1) := by decide +kernel
theorem d1 : decode yB 1 = .ok (.aload_n 1, 1) := by decide +kernel
theorem d2 : decode yB 2 = .ok (.iconst 0, 1) := by decide +kernel
theorem d3 : decode yB 3 = .ok (.aload_n 1, 1) := by decide +kernel
theorem d4 : decode yB 4 = .ok (.arraylength, 1) := by decide +kernel
theorem d5 : decode yB 5 = .ok (.aconst_null, 1) := by decide +kernel
theorem d6 : decode yB 6 = .ok (.invokespecial 27, 3) := by decide +kernel
theorem d9 : decode yB 9 = .ok (.return_, 1) := by decide +kernel
def site : List Cond := [New4.tab] ++ initW "java/lang/String" 27 New4.yN
def tab : Cond := tabOf yN yB 2 none site
def P (a : Addr) (D : Cell) (fV fC : Field) (b : Addr) (A : Cell) (z : Int32) (args : Array Value) (s : State) : Prop := args = #[.ref a, .ref b] ∧ Blank "java/lang/String" a D s ∧ Found "java/lang/String" "value" "[B" fV s ∧ Found "java/lang/String" "coder" "B" fC s ∧ Ch b A s ∧ StaticIs s "java/lang/String" "COMPACT_STRINGS" "Z" (.int z) ∧ ¬ z = 0 ∧ 0 < A.slots.size ∧ A.slots.size ≤ 536870912 ∧ ∀ i, i < A.slots.size → ¬ 255 < cv A i
def E (a : Addr) (D : Cell) (fV fC : Field) (A : Cell) (r : Option Value) (s u : State) : Prop := Got a D fV fC A 0 A.slots.size r s u
/-- new String(chars), not empty, no char above 255: a Latin-1 String of their low bytes -/
theorem law (l : Launch) (a : Addr) (D : Cell) (fV fC : Field) (b : Addr) (A : Cell) (z : Int32) : Law l yN 2 1 3 52 yB 2 none site (P a D fV fC b A z) (E a D fV fC A) [⟨a, fC.slot⟩, ⟨a, fV.slot⟩] 1 A.slots.size := by
  refine Law.of_walk (plainFor_of_name (by decide +kernel)) (by decide +kernel) (by decide +kernel) (by decide) (fun _ _ h => by rw [h.1]; rfl) (fun _ U U' hal hh h => ⟨h.1, h.2.1.mv hal hh, h.2.2.1.al hal, h.2.2.2.1.al hal, h.2.2.2.2.1.mv hal hh, h.2.2.2.2.2.1.there hal hh, h.2.2.2.2.2.2⟩) (fun r U U' V V' h1 hal h2 h => Got.mv r U U' V V' h1 hal h2 h) ?_
  intro p e s m args below meth c s₁ X0 hexec hbytes hml hret hlk hnm hown hh0 W hP
  obtain ⟨rfl, hB, f1, f2, hA, s1, hz, l0, l2, hp⟩ := hP
  have c1 : Steps p.tables e below (s₁.setTop (entryFrame m #[.ref a, .ref b] 2)) (s₁.setTop (mkF m 0 #[.val (.ref a), .val (.ref b)] [])) := entry rfl
  have c2 : Steps p.tables e below (s₁.setTop (entryFrame m #[.ref a, .ref b] 2)) (s₁.setTop (mkF m 6 #[.val (.ref a), .val (.ref b)] [.null, .int (Int32.ofNat A.slots.size), .int 0, .ref b, .ref a])) := c1.trans (by
    refine XS.aloadN X0.here hexec rfl (hb hbytes d0) rfl rfl ?_
    refine XS.aloadN X0.here hexec rfl (hb hbytes d1) rfl rfl ?_
    refine iconstV X0.here hexec rfl 0 (hb hbytes d2) (by decide) ?_
    refine XS.aloadN X0.here hexec rfl (hb hbytes d3) rfl rfl ?_
    refine X0.alen hexec (hA.1.mv X0.warmed.alike hh0) rfl rfl (hb hbytes d4) ?_
    refine XS.aconstNull X0.here hexec rfl (hb hbytes d5) ?_
    exact Steps.refl _)
  obtain ⟨v3, T3, X3, E3, g3⟩ := X0.callN hexec (New4.law l a D fV fC b A z 0 A.slots.size) rfl hown (wks W (initW "java/lang/String" 27 New4.yN)) (W New4.tab (by simp only [site, List.mem_cons, List.mem_append, true_or, or_true])) (W := 0) (Nat.le_of_ble_eq_true rfl) (Nat.le_of_ble_eq_true rfl) (Nat.le_refl _) (by show 0 + A.slots.size ≤ A.slots.size; omega) (g := (mkF m 6 #[.val (.ref a), .val (.ref b)] [.null, .int (Int32.ofNat A.slots.size), .int (Int32.ofNat 0), .ref b, .ref a])) rfl (by rw [hml]; rfl) c2 (argsL := [.ref b, .int (Int32.ofNat 0), .int (Int32.ofNat A.slots.size), .null]) (rest := []) rfl rfl (by show 2 * 0 + 0 ≤ _; decide) (hb hbytes d6) (⟨rfl, hB.mv X0.warmed.alike hh0, f1.al X0.warmed.alike, f2.al X0.warmed.alike, hA.mv X0.warmed.alike hh0, s1.there X0.warmed.alike hh0, hz, l0, by omega, l2, fun i hi => by rw [Nat.zero_add]; exact hp i hi⟩)
  have e0 := Got.mv _ s₁ s _ _ hh0.symm (Vm.Alike.refl _) rfl E3
  obtain rfl := e0.1
  have c4 : Steps p.tables e below (s₁.setTop (entryFrame m #[.ref a, .ref b] 2)) (T3.setTop (mkF m 9 #[.val (.ref a), .val (.ref b)] [])) := g3
  exact ⟨T3, none, _, _, _, X3, by simp, rfl, by omega, (fun _ => rfl), e0, fun fs hl => c4.trans (X3.returnOut hexec hret (hb hbytes d9) hl)⟩
theorem pays {l : Launch} {R : Room} {p : Program} {e : Env} {below : List Frame} {s : State} {sargs : Array Value} {len W : Nat} (a : Addr) (D : Cell) (fV fC : Field) (b : Addr) (A : Cell) (z : Int32) (htab : tab.before sargs s = true) (hfr : 4 ≤ R.frames) (hlo : W + 65 ≤ R.locals) :
    Back l R p e below s sargs yN len W (fun A₁ a₁ => A₁.cells + 1 ≤ R.cells ∧ A₁.slots + A.slots.size ≤ R.slots ∧ P a D fV fC b A z a₁ A₁.U) (fun A₁ _ v₁ B₁ => E a D fV fC A v₁ A₁.U B₁.U ∧ B₁.locs = A₁.locs ++ [⟨a, fC.slot⟩, ⟨a, fV.slot⟩] ∧ B₁.cells = A₁.cells + 1 ∧ B₁.slots = A₁.slots + A.slots.size) :=
  (law l a D fV fC b A z).pays htab hfr (by omega)
end New1
/-- the byte, read back as charAt reads it, is the char -/
theorem lo8_mask {x : Int32} (h0 : ¬ x < 0) (h1 : ¬ 255 < x) : lo8 x &&& 255 = x := by
  have t : ∀ k : Fin 256, lo8 (Int32.ofNat k.val) &&& 255 = Int32.ofNat k.val := by decide +kernel
  rw [Int32.lt_iff_toInt_lt] at h0 h1
  have e0 : (0 : Int32).toInt = 0 := rfl
  have e1 : (255 : Int32).toInt = 255 := rfl
  obtain ⟨k, hk⟩ : ∃ k : Nat, x.toInt = k := ⟨x.toInt.toNat, by omega⟩
  have hx : x = Int32.ofNat k := Int32.toInt_inj.mp (by rw [hk, Int32.toInt_ofNat_small (by omega)])
  rw [hx]
  exact t ⟨k, by omega⟩
end StrChars
namespace StrChars.Road
open Jvm Sem ClassFile Op Lib Jvm.Stand Jvm.Free Jvm.Free.XT
open Jvm.Lib.Cold (StaticIs)
abbrev ST : String := "java/lang/String"
/-- every table word that New1's law asks, flat -/
abbrev words : List Jvm.Cond := [.code New1.yN New1.yB 2 none, .initialized ST, .methodLink ST 27 New4.yN, .instanceMethod New4.yN,
  .code New4.yN New4.yB 6 none, .fieldLink ST 38 ST "COMPACT_STRINGS" "Z", .laysFinal ST ST "value" "[B", .fieldLink ST 9 ST "value" "[B", .laysFinal ST ST "coder" "B", .fieldLink ST 15 ST "coder" "B",
  .methodLink ST 1 Lib.objectInit, .instanceMethod Lib.objectInit, .code Lib.objectInit ⟨#[0xb1]⟩ 1 none, .methodLink ST 177 Cmp3.yN, .static Cmp3.yN, .methodLink ST 47 CodL.yN, .static CodL.yN,
  .code Cmp3.yN Cmp3.yB 6 (some (.array .byte)), .initialized U16, .arrayClass .byte, .methodLink U16 115 Cmp5.yN, .static Cmp5.yN, .code Cmp5.yN Cmp5.yB 7 (some .int), .code CodL.yN CodL.yB 2 (some .byte)]
theorem tab_of {a : Array Value} {s : State} (h : ∀ w ∈ words, w.before a s = true) : New1.tab.before a s = true := by
  have h5 : Cmp5.tab.before a s = true := unparts (wk h (.code Cmp5.yN Cmp5.yB 7 (some .int))) (wks h (.initialized Cmp5.yN.cls :: Cmp5.site))
  have hc : CodL.tab.before a s = true := unparts (wk h (.code CodL.yN CodL.yB 2 (some .byte))) (wks h (.initialized CodL.yN.cls :: CodL.site))
  have q5 : ∀ w ∈ Cmp5.tab :: words, w.before a s = true := fun w hw => (List.mem_cons.mp hw).elim (fun e => e ▸ h5) (h w)
  have h3 : Cmp3.tab.before a s = true := unparts (wk q5 (.code Cmp3.yN Cmp3.yB 6 (some (.array .byte)))) (wks q5 (.initialized Cmp3.yN.cls :: Cmp3.site))
  have q3 : ∀ w ∈ Cmp3.tab :: CodL.tab :: words, w.before a s = true := fun w hw => (List.mem_cons.mp hw).elim (fun e => e ▸ h3) fun hw => (List.mem_cons.mp hw).elim (fun e => e ▸ hc) (h w)
  have h4 : New4.tab.before a s = true := unparts (wk q3 (.code New4.yN New4.yB 6 none)) (wks q3 (.initialized New4.yN.cls :: New4.site))
  have q4 : ∀ w ∈ New4.tab :: words, w.before a s = true := fun w hw => (List.mem_cons.mp hw).elim (fun e => e ▸ h4) (h w)
  exact unparts (wk q4 (.code New1.yN New1.yB 2 none)) (wks q4 (.initialized New1.yN.cls :: New1.site))
/-- the words ride from the start Z to the walk's own state -/
theorem moved {Z s : State} {a0 args : Array Value} (hZ : Z.Warmed39 s.vm) (hw : ∀ d ∈ words, d.before a0 Z = true) : ∀ d ∈ words, d.before args s = true := fun d hd => by
  have q := hw d hd
  have t : ∀ d ∈ words, d = .arrayClass .byte ∨ (d.onTables && d.keepsFace) = true := by decide +kernel
  rcases t d hd with rfl | t
  · exact RoadKit.mvA hZ q
  · exact RoadKit.mv hZ q t
/-- WHAT COMES BACK, over the tables of the start Z: h the heap at the call, h' behind it -/
def Q (Z : State) (x : Addr) (A : Cell) (h : Heap) (v : Option Value) (h' : Heap) (L : List Loc) : Prop := v = none ∧ (∀ y ∈ L, y.base = x) ∧ RoadKit.Keep h h' [x] ∧ h'.size = h.size + 1 ∧ RoadKit.Exa Z h' x ST ∧ RoadKit.Fld Z h' x ST "value" "[B" (.ref h.size) ∧ RoadKit.Fld Z h' x ST "coder" "B" (.int 0) ∧
  (∃ V : Cell, RoadKit.Arr Z h' h.size V .byte ∧ V.vm = .none ∧ Z.vm.findClass "[B" = some V.cls ∧ V.slots.size = A.slots.size ∧ ∀ j, j < A.slots.size → V.slots[j]? = some (.int (lo8 (cv A j)))) ∧
  ∀ (O n d : String) (w : Value), RoadKit.Fld Z h x O n d w → RoadKit.slotOf Z O n d ≠ RoadKit.slotOf Z ST "value" "[B" → RoadKit.slotOf Z O n d ≠ RoadKit.slotOf Z ST "coder" "B" → RoadKit.Fld Z h' x O n d w
/-- **new String(chars) AT A CALL, IN THE ROAD'S FORM**: for specialBack behind newO: x the fresh String, b the char[] with the cell A -/
theorem back {p : Program} {l : Launch} {e : Env} {R : Room} {s : State} {args : Array Value} {below : List Frame} {len W : Nat} {Z : State} {a0 : Array Value} {h : Heap} (hZ : Z.Warmed39 s.vm) (hw : ∀ d ∈ words, d.before a0 Z = true) {kI : Nat} (wi : (Jvm.Cond.instantiable ST kI).before a0 Z = true)
    {x b : Addr} {A : Cell} {z : Int32} {v0 c0 : Value} (E : RoadKit.Exa Z h x ST) (V : RoadKit.Fld Z h x ST "value" "[B" v0) (C : RoadKit.Fld Z h x ST "coder" "B" c0) (K : RoadKit.Arr Z h b A .char) (hty : Typed .char A) (S : RoadKit.Sta Z h ST "COMPACT_STRINGS" "Z" (.int z)) (hz : ¬ z = 0)
    (l0 : 0 < A.slots.size) (l2 : A.slots.size ≤ 536870912) (hp : ∀ i, i < A.slots.size → ¬ 255 < cv A i) (hfr : 4 ≤ R.frames) (hlo : W + 65 ≤ R.locals) :
    Back l R p e below s args New1.yN len W (fun P a => a = #[.ref x, .ref b] ∧ P.U.heap = h ∧ P.cells + 1 ≤ R.cells ∧ P.slots + A.slots.size ≤ R.slots)
      (fun P _ v B => ∃ L, Q Z x A h v B.U.heap L ∧ B.locs = P.locs ++ L ∧ B.cells = P.cells + 1 ∧ B.slots = P.slots + A.slots.size) := by
  intro m meth c P g ig mk a X hg hsize hdg hW hn hp'
  obtain ⟨rfl, rfl, r1, r2⟩ := hp'
  have al : Z.vm.Alike P.U.vm := hZ.alike.trans X.warmed.alike
  obtain ⟨D, cfV, kV, iV, fV, hD, gV, stV, knV, obV, asV, slV⟩ := id V
  obtain ⟨D', cfC, kC, iC, fC, hD', gC, stC, -, -, asC, slC⟩ := id C
  cases hD.symm.trans hD'
  obtain ⟨D2, kD, e1, e2, e3, e4, e5⟩ := id E
  cases hD.symm.trans e1
  obtain ⟨c2, k2, i1, i2, i3, -⟩ := Cond.instantiable_spec wi
  cases e2.symm.trans i1
  cases e3.symm.trans i2
  obtain ⟨kU, u1, u2⟩ := al.2.2 _ _ e3
  have hB : Blank ST x D P.U := ⟨hD, ⟨knV, fun q hq => by rw [hq] at obV; cases obV⟩, by rw [al.findClass]; exact e2, kU, u1, by rw [u2]; exact i3, by rw [u2]; exact e5 i3⟩
  have F1 : Found ST "value" "[B" fV P.U := ⟨SBG.found_only al ⟨cfV, kV, iV, gV⟩, stV⟩
  have F2 : Found ST "coder" "B" fC P.U := ⟨SBG.found_only al ⟨cfC, kC, iC, gC⟩, stC⟩
  have hA : Ch b A P.U := ⟨⟨K.1, State.isArrayOf_alike al K.2.1, K.2.2, by omega⟩, hty⟩
  have hS : StaticIs P.U ST "COMPACT_STRINGS" "Z" (.int z) := by
    obtain ⟨cfS, iS, kS, fS, st, cS, t1, t2, t3, t4, t5, t6, t7⟩ := S
    exact StaticIs.there (s := { Z with heap := P.U.heap }) ⟨cfS, iS, kS, fS, st, cS, t1, t2, t3, t4, t5, (fun q => by rw [q] at t6; cases t6), t7⟩ al rfl
  obtain ⟨v, B, X', ⟨⟨hv, E', V', q1, q2, q3, q4, q5, q6, q7, q8, q9, q10, q11⟩, hl, hc, hs⟩, st⟩ := New1.pays x D fV fC b A z (tab_of (moved hZ hw)) hfr hlo m meth c P g ig mk _ X hg hsize hdg hW hn ⟨r1, r2, rfl, hB, F1, F2, hA, hS, hz, l0, l2, hp⟩
  have al' : Z.vm.Alike B.U.vm := hZ.alike.trans X'.warmed.alike
  have hsz : E'.slots.size = D.slots.size := by
    obtain ⟨-, -, -, kB, w1, w2, w3⟩ := q1
    obtain ⟨kB', y1, y2⟩ := al'.2.2 _ _ e3
    rw [q2.2.1] at w1
    cases w1.symm.trans y1
    rw [w3, e5 i3, y2]
  refine ⟨v, B, X', ⟨_, ⟨hv, ?_, ⟨by omega, fun y cy hy hn' => q10 y cy (by simpa using hn') hy, fun y cy hy => ?_⟩, q11, ⟨E', _, q1.1, by rw [q2.2.1]; exact e2, by rw [q2.2.1]; exact e3, by rw [q2.1]; exact obV, fun _ => by rw [hsz]; exact e5 i3⟩,
    ⟨E', cfV, kV, iV, fV, q1.1, gV, stV, by rw [q2.1]; exact knV, by rw [q2.1]; exact obV, by rw [q2.2.1]; exact asV, q3⟩, ⟨E', cfC, kC, iC, fC, q1.1, gC, stC, by rw [q2.1]; exact knV, by rw [q2.1]; exact obV, by rw [q2.2.1]; exact asC, q4⟩,
    ⟨V', ⟨q5.1, State.isArrayOf_alike al'.symm q5.2.1, q5.2.2.1⟩, q6, by rw [← al'.findClass]; exact q7, q8, fun j hj => by have := q9 j hj; rwa [Nat.zero_add] at this⟩, fun O n d w F n1 n2 => ?_⟩, hl, hc, hs⟩, st⟩
  · intro y hy
    simp only [List.mem_cons, List.not_mem_nil, or_false] at hy
    rcases hy with rfl | rfl <;> rfl
  · by_cases q : y = x
    · subst q
      cases hD.symm.trans hy
      exact ⟨E', q1.1, q2.2.1, q2.1, hsz⟩
    · exact ⟨cy, q10 y cy q hy, rfl, rfl, rfl⟩
  · obtain ⟨D3, cf, k, i, f, g1, g2, g3, g4, g5, g6, g7⟩ := F
    cases hD.symm.trans g1
    simp only [RoadKit.slotOf, g2, gV, gC, Option.map_some, Option.getD_some] at n1 n2
    exact ⟨E', cf, k, i, f, q1.1, g2, g3, by rw [q2.1]; exact g4, by rw [q2.1]; exact g5, by rw [q2.2.1]; exact g6, by rw [q2.2.2 f.slot (by simp [n1, n2])]; exact g7⟩
end StrChars.Road
namespace StrChars.Road
open Jvm Sem ClassFile Op Lib Jvm.Stand Jvm.Free Jvm.Free.XT
/-- WHAT COMES BACK, the byte[] as a list of values -/
def QA (Z : State) (x : Addr) (zn : Int32) (cs : List Int32) (h : Heap) (v : Option Value) (h' : Heap) (L : List Loc) : Prop := v = none ∧ (∀ y ∈ L, y.base = x) ∧ RoadKit.Keep h h' [x] ∧ h'.size = h.size + 1 ∧ RoadKit.Exa Z h' x ST ∧ RoadKit.Fld Z h' x ST "value" "[B" (.ref h.size) ∧ RoadKit.Fld Z h' x ST "coder" "B" (.int 0) ∧
  (∃ kb, Z.vm.findClass "[B" = some kb ∧ RoadKit.Arv Z h' h.size kb .byte zn (cs.map fun c => .int (lo8 c)) (.int 0)) ∧
  ∀ (O n d : String) (w : Value), RoadKit.Fld Z h x O n d w → RoadKit.slotOf Z O n d ≠ RoadKit.slotOf Z ST "value" "[B" → RoadKit.slotOf Z O n d ≠ RoadKit.slotOf Z ST "coder" "B" → RoadKit.Fld Z h' x O n d w
/-- **new String(chars) AT A CALL, THE ARRAYS AS LISTS**: the char[] at b holds cs, not empty, no char above 255 -/
theorem backArv {p : Program} {l : Launch} {e : Env} {R : Room} {s : State} {args : Array Value} {below : List Frame} {len W : Nat} {Z : State} {a0 : Array Value} {h : Heap} (hZ : Z.Warmed39 s.vm) (hw : ∀ d ∈ words, d.before a0 Z = true) {kI : Nat} (wi : (Jvm.Cond.instantiable ST kI).before a0 Z = true)
    {x b : Addr} {k : ClassId} {zn z : Int32} {cs : List Int32} {dv v0 c0 : Value} (E : RoadKit.Exa Z h x ST) (V : RoadKit.Fld Z h x ST "value" "[B" v0) (C : RoadKit.Fld Z h x ST "coder" "B" c0) (K : RoadKit.Arv Z h b k .char zn (cs.map Value.int) dv) (S : RoadKit.Sta Z h ST "COMPACT_STRINGS" "Z" (.int z)) (hz : ¬ z = 0)
    (hlen : zn.toNatClampNeg = cs.length) (h0 : 0 < cs.length) (hbig : cs.length ≤ 536870912) (hall : ∀ c ∈ cs, ¬ 255 < c) (hfr : 4 ≤ R.frames) (hlo : W + 65 ≤ R.locals) :
    Back l R p e below s args New1.yN len W (fun P a => a = #[.ref x, .ref b] ∧ P.U.heap = h ∧ P.cells + 1 ≤ R.cells ∧ P.slots + cs.length ≤ R.slots)
      (fun P _ v B => ∃ L, QA Z x zn cs h v B.U.heap L ∧ B.locs = P.locs ++ L ∧ B.cells = P.cells + 1 ∧ B.slots = P.slots + cs.length) := by
  obtain ⟨A, K1, K2, K3, K4, K5, K6⟩ := K
  have e : A.slots.size = cs.length := K3.trans hlen
  have hat : ∀ (i : Nat) (hi : i < cs.length), A.slots[i]? = some (.int cs[i]) := fun i hi => by rw [K5 i (by omega)]; simp [List.getD_eq_getElem?_getD, hi]
  have hcv : ∀ (i : Nat) (hi : i < cs.length), cv A i = cs[i] := fun i hi => by unfold cv; rw [hat i hi]
  have hty : Typed .char A := fun i v hv => by
    have hi : i < A.slots.size := (Array.getElem?_eq_some_iff.mp hv).1
    have q := K5 i hi
    rw [hv] at q
    rw [Option.some.inj q]
    exact K6 i hi
  refine Back.mono (back hZ hw wi E V C K1 hty S hz (by omega) (by omega) (fun i hi => by rw [hcv i (by omega)]; exact hall _ (List.getElem_mem _)) hfr hlo) (fun P a hp => ⟨hp.1, hp.2.1, hp.2.2.1, by rw [e]; exact hp.2.2.2⟩) (fun P a v B hp hq => ?_)
  obtain ⟨L, ⟨q1, q2, q3, q4, q5, q6, q7, ⟨V', v1, v2, v3, v4, v5⟩, q9⟩, hl, hc, hs⟩ := hq
  refine ⟨L, ⟨q1, q2, q3, q4, q5, q6, q7, ⟨V'.cls, v3, V', v1, rfl, by rw [v4, e, hlen], K4, fun i hi => ?_, fun i hi => ?_⟩, q9⟩, hl, hc, by rw [hs, e]⟩
  · have hi' : i < cs.length := by omega
    rw [v5 i (by omega), hcv i hi']; simp [List.getD_eq_getElem?_getD, hi']
  · have hi' : i < cs.length := by omega
    simp only [List.getD_eq_getElem?_getD, List.getElem?_map, List.getElem?_eq_getElem hi', Option.map_some, Option.getD_some]
    exact fits_lo8 _
end StrChars.Road
namespace StrChars.Road
open Jvm Sem ClassFile Op Lib Jvm.Stand Jvm.Free Jvm.Free.XT
/-- WHAT COMES BACK, in the writer's own shape -/
def QV (Z : State) (x : Addr) (N : Int32) (bs : List Int32) (h : Heap) (n0 : Nat) (v : Option Value) (h' : Heap) (L : List Loc) : Prop := v = none ∧ RoadKit.Fr n0 L ∧ RoadKit.Keep h h' [x] ∧ RoadKit.Exa Z h' x ST ∧ RoadKit.Fld Z h' x ST "coder" "B" (.int 0) ∧
  ∃ (t : Addr) (kb : ClassId), n0 ≤ t ∧ h.size ≤ t ∧ ¬ t = x ∧ RoadKit.Fld Z h' x ST "value" "[B" (.ref t) ∧ RoadKit.Arv Z h' t kb .byte N (bs.map Value.int) (.int 0)
/-- **new String(chars) AT A CALL, FOR THE WRITER**: a char[] of n known ints, each 0 to 255 -/
theorem backV {p : Program} {l : Launch} {e : Env} {R : Room} {s : State} {args : Array Value} {below : List Frame} {len W : Nat} {Z : State} {a0 : Array Value} {h : Heap} (hZ : Z.Warmed39 s.vm) (hw : ∀ d ∈ words, d.before a0 Z = true) {kI : Nat} (wi : (Jvm.Cond.instantiable ST kI).before a0 Z = true)
    {x b : Addr} {kC : ClassId} {cs bs : List Int32} {d v0 c0 : Value} {z N : Int32} {n n0 : Nat} (hx0 : n0 ≤ x) (hh0 : n0 ≤ h.size) (E : RoadKit.Exa Z h x ST) (V : RoadKit.Fld Z h x ST "value" "[B" v0) (C : RoadKit.Fld Z h x ST "coder" "B" c0) (K : RoadKit.Arv Z h b kC .char N (cs.map Value.int) d) (S : RoadKit.Sta Z h ST "COMPACT_STRINGS" "Z" (.int z)) (hz : ¬ z = 0)
    (hn : cs.length = n) (hN : N = Int32.ofNat n) (l0 : 0 < n) (l2 : n ≤ 4000) (hp : ∀ c ∈ cs, ¬ c < 0 ∧ ¬ (255 : Int32) < c) (hb : bs = cs.map (fun c => c.toInt8.toInt32)) (hfr : 4 ≤ R.frames) (hlo : W + 65 ≤ R.locals) :
    Back l R p e below s args (⟨"java/lang/String", "<init>", "([C)V"⟩ : MethodName) len W (fun P a => a = #[.ref x, .ref b] ∧ P.U.heap = h ∧ P.cells + 1 ≤ R.cells ∧ P.slots + n ≤ R.slots)
      (fun P _ v B => ∃ L, QV Z x N bs h n0 v B.U.heap L ∧ B.locs = P.locs ++ L ∧ B.cells = P.cells + 1 ∧ B.slots = P.slots + n) := by
  subst hn hN hb
  refine Back.mono (backArv hZ hw wi E V C K S hz (n32 (by omega)) l0 (by omega) (fun c hc => (hp c hc).2) hfr hlo) (fun P a hp => hp) (fun P a v B hp hq => ?_)
  obtain ⟨L, ⟨q1, q2, q3, q4, q5, q6, q7, ⟨kb, v1, v2⟩, q9⟩, hl, hc, hs⟩ := hq
  exact ⟨L, ⟨q1, fun y hy => by rw [q2 y hy]; exact hx0, q3, q5, q7, h.size, kb, hh0, Nat.le_refl _, Nat.ne_of_gt E.lt, q6, by rw [List.map_map]; exact v2⟩, hl, hc, hs⟩
end StrChars.Road
namespace StrChars
open Jvm Sem ClassFile Op Lib Jvm.Stand Jvm.Free.XT Jvm.Free.ALB Jvm.Free.JM Jvm.Free
open Jvm.Lib.Cold (StaticIs)
def hi8 (x : Int32) : Int32 := lo8 (x >>> ((8 : Int32) &&& 31))
/-- what StringUTF16.getChar makes of two bytes -/
def pairCh (u v : Int32) : Int32 := (((u &&& 255) <<< ((0 : Int32) &&& 31)) ||| ((v &&& 255) <<< ((8 : Int32) &&& 31))).toUInt32.toUInt16.toUInt32.toInt32
theorem shr0 (c : Int32) : c >>> ((0 : Int32) &&& 31) = c := by
  have e : ((0 : Int32) &&& 31) = 0 := by decide
  rw [e]
  apply Int32.toBitVec_inj.mp
  rw [Int32.toBitVec_shiftRight]
  have e1 : ((0 : Int32).toBitVec.smod 32) = 0#32 := by decide
  rw [e1, BitVec.sshiftRight_eq']
  exact BitVec.sshiftRight_zero
theorem lo8_and (x : Int32) : (lo8 x &&& 255).toBitVec.toNat = x.toBitVec.toNat % 256 := by
  have h : (lo8 x).toBitVec = (x.toBitVec.signExtend 8).signExtend 32 := by rw [lo8, Int8.toBitVec_toInt32, Int32.toBitVec_toInt8]
  rw [Int32.toBitVec_and, BitVec.toNat_and, h]
  have e : ((x.toBitVec.signExtend 8).signExtend 32).toNat % 256 = x.toBitVec.toNat % 256 := by
    rw [BitVec.toNat_signExtend]
    have hlt := x.toBitVec.isLt
    simp only [BitVec.toNat_setWidth, BitVec.toNat_signExtend]
    split <;> split <;> omega
  rw [← e]
  exact Nat.and_two_pow_sub_one_eq_mod _ 8
theorem pair_says {c : Int32} (h0 : ¬ c < 0) (h1 : ¬ 65535 < c) : pairCh (lo8 c) (hi8 c) = c := by
  rw [Int32.lt_iff_toInt_lt] at h0 h1
  have e0 : (0 : Int32).toInt = 0 := rfl
  have e1 : (65535 : Int32).toInt = 65535 := rfl
  have hc : c.toInt = c.toBitVec.toNat := by
    have := c.toBitVec.isLt
    have e : c.toInt = c.toBitVec.toInt := rfl
    rw [e] at h0 h1
    rw [e]
    rw [BitVec.toInt_eq_toNat_cond] at h0 h1 ⊢
    split at h0 <;> split <;> omega
  have hn : c.toBitVec.toNat < 65536 := by omega
  have a1 := lo8_and c
  have a2 : (hi8 c &&& 255).toBitVec.toNat = c.toBitVec.toNat / 256 := by
    rw [hi8, lo8_and]
    have e : ((8 : Int32) &&& 31) = 8 := by decide
    rw [e, Int32.toBitVec_shiftRight]
    have e2 : ((8 : Int32).toBitVec.smod 32) = 8#32 := by decide
    rw [e2, BitVec.sshiftRight_eq', BitVec.toNat_sshiftRight_of_msb_false (by rw [BitVec.msb_eq_false_iff_two_mul_lt]; omega)]
    show c.toBitVec.toNat >>> 8 % 256 = _
    rw [Nat.shiftRight_eq_div_pow]
    omega
  unfold pairCh
  apply Int32.toBitVec_inj.mp
  apply BitVec.eq_of_toNat_eq
  have f0 : ((0 : Int32) &&& 31) = 0 := by decide
  have f8 : ((8 : Int32) &&& 31) = 8 := by decide
  rw [f0, f8]
  have g : (((lo8 c &&& 255) <<< (0 : Int32)) ||| ((hi8 c &&& 255) <<< (8 : Int32))).toBitVec.toNat = c.toBitVec.toNat := by
    rw [Int32.toBitVec_or, Int32.toBitVec_shiftLeft, Int32.toBitVec_shiftLeft]
    have s0 : ((0 : Int32).toBitVec.smod 32) = 0#32 := by decide
    have s8 : ((8 : Int32).toBitVec.smod 32) = 8#32 := by decide
    rw [s0, s8, BitVec.toNat_or]
    simp only [BitVec.shiftLeft_eq', BitVec.toNat_shiftLeft, a1, a2]
    show (c.toBitVec.toNat % 256) <<< 0 % 2 ^ 32 ||| (c.toBitVec.toNat / 256) <<< 8 % 2 ^ 32 = _
    rw [Nat.shiftLeft_zero, Nat.mod_eq_of_lt (show c.toBitVec.toNat % 256 < 2 ^ 32 by omega), Nat.mod_eq_of_lt (show (c.toBitVec.toNat / 256) <<< 8 < 2 ^ 32 by rw [Nat.shiftLeft_eq]; omega), Nat.or_comm, ← Nat.shiftLeft_add_eq_or_of_lt (by omega), Nat.shiftLeft_eq]
    omega
  show BitVec.toNat (((((lo8 c &&& 255) <<< (0 : Int32)) ||| ((hi8 c &&& 255) <<< (8 : Int32))).toBitVec.setWidth 16).setWidth 32) = _
  rw [BitVec.toNat_setWidth, BitVec.toNat_setWidth, g]
  omega
end StrChars
namespace StrChars
open Jvm Sem ClassFile Op Lib Jvm.Stand Jvm.Free.XT Jvm.Free.ALB Jvm.Free.JM Jvm.Free
open Jvm.Lib.Cold (StaticIs)
theorem shr1 {n : Nat} (h : 2 * n < 2 ^ 31) : Int32.ofNat (2 * n) >>> ((1 : Int32) &&& 31) = Int32.ofNat n := by
  have e : ((1 : Int32) &&& 31) = 1 := by decide
  rw [e]
  apply Int32.toBitVec_inj.mp
  rw [Int32.toBitVec_shiftRight]
  have e1 : ((1 : Int32).toBitVec.smod 32) = 1#32 := by decide
  have hm : (BitVec.ofNat 32 (2 * n)).toNat = 2 * n := by rw [BitVec.toNat_ofNat, Nat.mod_eq_of_lt (by omega)]
  rw [e1, BitVec.sshiftRight_eq']
  apply BitVec.eq_of_toNat_eq
  show ((BitVec.ofNat 32 (2 * n)).sshiftRight 1).toNat = (BitVec.ofNat 32 n).toNat
  rw [BitVec.toNat_sshiftRight_of_msb_false (by rw [BitVec.msb_eq_false_iff_two_mul_lt, hm]; omega), hm, BitVec.toNat_ofNat, Nat.shiftRight_eq_div_pow]
  omega
/-- the array's cell V codes the n chars f 0 .. f (n - 1) by the coder cd, as the JDK does: coder 1 just where some char is above 255 -/
def Cod (cd : Int32) (n : Nat) (f : Nat → Int32) (V : Cell) : Prop := (cd = 0 ∧ V.slots.size = n ∧ ∀ j, j < n → V.slots[j]? = some (.int (lo8 (f j))) ∧ ¬ 255 < f j) ∨ (cd = 1 ∧ V.slots.size = 2 * n ∧ (∀ j, j < n → V.slots[2 * j]? = some (.int (lo8 (f j))) ∧ V.slots[2 * j + 1]? = some (.int (hi8 (f j)))) ∧ ∃ j, j < n ∧ 255 < f j)
theorem Cod.cd {cd : Int32} {n : Nat} {f : Nat → Int32} {V : Cell} (h : Cod cd n f V) : cd = 0 ∨ cd = 1 := h.imp (fun q => q.1) fun q => q.1
theorem Cod.len {cd : Int32} {n : Nat} {f : Nat → Int32} {V : Cell} (h : Cod cd n f V) (hs : V.slots.size < 2 ^ 31) : Int32.ofNat V.slots.size >>> (cd &&& 31) = Int32.ofNat n := by
  rcases h with ⟨rfl, h, -⟩ | ⟨rfl, h, -⟩
  · rw [shr0, h]
  · rw [h, shr1 (by omega)]
/-- **x is a String of the n chars f 0 .. f (n - 1)**, Latin-1 or UTF-16; its array at t has the cell V -/
def Txt (x t : Addr) (V : Cell) (cd : Int32) (n : Nat) (f : Nat → Int32) (U : State) : Prop := Exact "java/lang/String" x U ∧ Has x "java/lang/String" "value" "[B" (.ref t) U ∧ Has x "java/lang/String" "coder" "B" (.int cd) U ∧ XT.Arr .byte t V U ∧ Cod cd n f V ∧ ∀ j, j < n → ¬ f j < 0 ∧ ¬ 65535 < f j
theorem Txt.mv {x t : Addr} {V : Cell} {cd : Int32} {n : Nat} {f : Nat → Int32} {U U' : State} (h : Txt x t V cd n f U) (hal : U.vm.Alike U'.vm) (hh : U'.heap = U.heap) : Txt x t V cd n f U' := ⟨h.1.mv hal hh, h.2.1.mv hal hh, h.2.2.1.mv hal hh, h.2.2.2.1.mv hal hh, h.2.2.2.2⟩
namespace Cdr
def yN : MethodName := ⟨"java/lang/String", "coder", "()B"⟩
abbrev yB : ByteArray := jdk_42_method_152_code
theorem d0 : decode yB 0 = .ok (.getstatic 38, 3) := by decide +kernel
theorem d3 : decode yB 3 = .ok (.ifCond (.eq) 10, 3) := by decide +kernel
theorem d6 : decode yB 6 = .ok (.aload_n 0, 1) := by decide +kernel
theorem d7 : decode yB 7 = .ok (.getfield 15, 3) := by decide +kernel
theorem d10 : decode yB 10 = .ok (.goto 4, 3) := by decide +kernel
theorem d14 : decode yB 14 = .ok (.ireturn, 1) := by decide +kernel
def site : List Cond := [.fieldLink "java/lang/String" 38 "java/lang/String" "COMPACT_STRINGS" "Z", .fieldLink "java/lang/String" 15 "java/lang/String" "coder" "B"]
def tab : Cond := tabOf yN yB 1 (some .byte) site
def P (x : Addr) (cd z : Int32) (args : Array Value) (s : State) : Prop := args = #[.ref x] ∧ Has x "java/lang/String" "coder" "B" (.int cd) s ∧ (cd = 0 ∨ cd = 1) ∧ StaticIs s "java/lang/String" "COMPACT_STRINGS" "Z" (.int z) ∧ ¬ z = 0
def E (cd : Int32) (r : Option Value) (s u : State) : Prop := XT.PureE (some (.int cd)) r s u
theorem law (l : Launch) (x : Addr) (cd z : Int32) : Law l yN 1 0 0 0 yB 1 (some .byte) site (P x cd z) (E cd) [] 0 0 := by
  refine Law.of_walk (plainFor_of_name (by decide +kernel)) (by decide +kernel) (by decide +kernel) (by decide) (fun _ _ h => by rw [h.1]; rfl) (fun _ U U' hal hh h => ⟨h.1, h.2.1.mv hal hh, h.2.2.1, h.2.2.2.1.there hal hh, h.2.2.2.2⟩) (fun r U U' V V' h1 hal h2 h => XT.PureE.mv r U U' V V' h1 hal h2 h) ?_
  intro p e s m args below meth c s₁ X0 hexec hbytes hml hret hlk hnm hown hh0 W hP
  obtain ⟨rfl, hx, hc, s1, hz⟩ := hP
  have c1 : Steps p.tables e below (s₁.setTop (entryFrame m #[.ref x] 1)) (s₁.setTop (mkF m 0 #[.val (.ref x)] [])) := entry rfl
  obtain ⟨T2, X2, q2, st2⟩ := X0.sget hexec hown (wk W (.fieldLink "java/lang/String" 38 "java/lang/String" "COMPACT_STRINGS" "Z")) s1 (fun _ _ h => by rw [hh0]; exact h) (g := (mkF m 0 #[.val (.ref x)] [])) rfl (hb hbytes d0)
  have hh2 := q2.trans hh0
  have c3 : Steps p.tables e below (s₁.setTop (entryFrame m #[.ref x] 1)) (T2.setTop (mkF m 7 #[.val (.ref x)] [.ref x])) := (c1.trans (st2 _ (Steps.refl _))).trans (by
    refine XS.ifNo X2.here hexec rfl (hb hbytes d3) rfl (i0_eq_f hz) ?_
    refine XS.aloadN X2.here hexec rfl (hb hbytes d6) rfl rfl ?_
    exact Steps.refl _)
  obtain ⟨T4, X4, q4, st4⟩ := X2.hget hexec hown (wk W (.fieldLink "java/lang/String" 15 "java/lang/String" "coder" "B")) (hx.mv X2.warmed.alike hh2) (g := (mkF m 7 #[.val (.ref x)] [.ref x])) rfl (rest := []) rfl (hb hbytes d7)
  have c5 : Steps p.tables e below (s₁.setTop (entryFrame m #[.ref x] 1)) (T4.setTop (mkF m 14 #[.val (.ref x)] [.int cd])) := (c3.trans (st4 _ (Steps.refl _))).trans (by
    refine XS.goto X4.here hexec rfl (pc0 := 10) rfl (hb hbytes d10) (by decide) rfl ?_
    exact Steps.refl _)
  exact ⟨T4, some (.int cd), _, _, _, X4, rfl, rfl, rfl, (fun h => by cases h), ⟨rfl, q4.trans hh2⟩, fun fs hl => c5.trans (X4.ireturnOut hexec hret (by rcases hc with rfl | rfl <;> rfl) (Or.inr (Or.inr (Or.inl rfl))) (hb hbytes d14) hl)⟩
end Cdr
namespace Len
def yN : MethodName := ⟨"java/lang/String", "length", "()I"⟩
abbrev yB : ByteArray := jdk_42_method_54_code
theorem d0 : decode yB 0 = .ok (.aload_n 0, 1) := by decide +kernel
theorem d1 : decode yB 1 = .ok (.getfield 9, 3) := by decide +kernel
theorem d4 : decode yB 4 = .ok (.arraylength, 1) := by decide +kernel
theorem d5 : decode yB 5 = .ok (.aload_n 0, 1) := by decide +kernel
theorem d6 : decode yB 6 = .ok (.invokevirtual 335, 3) := by decide +kernel
theorem d9 : decode yB 9 = .ok (.ishr, 1) := by decide +kernel
theorem d10 : decode yB 10 = .ok (.ireturn, 1) := by decide +kernel
def site : List Cond := [.fieldLink "java/lang/String" 9 "java/lang/String" "value" "[B", Cdr.tab] ++ virtW "java/lang/String" 335 "java/lang/String" Cdr.yN Cdr.yN
def tab : Cond := tabOf yN yB 1 (some .int) site
def P (x t : Addr) (V : Cell) (cd : Int32) (n : Nat) (f : Nat → Int32) (z : Int32) (args : Array Value) (s : State) : Prop := args = #[.ref x] ∧ Txt x t V cd n f s ∧ StaticIs s "java/lang/String" "COMPACT_STRINGS" "Z" (.int z) ∧ ¬ z = 0
def E (n : Nat) (r : Option Value) (s u : State) : Prop := XT.PureE (some (.int (Int32.ofNat n))) r s u
/-- length() of a String of n chars, in either coding -/
theorem law (l : Launch) (x t : Addr) (V : Cell) (cd : Int32) (n : Nat) (f : Nat → Int32) (z : Int32) : Law l yN 1 0 1 13 yB 1 (some .int) site (P x t V cd n f z) (E n) [] 0 0 := by
  refine Law.of_walk (plainFor_of_name (by decide +kernel)) (by decide +kernel) (by decide +kernel) (by decide) (fun _ _ h => by rw [h.1]; rfl) (fun _ U U' hal hh h => ⟨h.1, h.2.1.mv hal hh, h.2.2.1.there hal hh, h.2.2.2⟩) (fun r U U' V V' h1 hal h2 h => XT.PureE.mv r U U' V V' h1 hal h2 h) ?_
  intro p e s m args below meth c s₁ X0 hexec hbytes hml hret hlk hnm hown hh0 W hP
  obtain ⟨rfl, hx, s1, hz⟩ := hP
  have v31 := hx.2.2.2.1.2.2.2
  have c1 : Steps p.tables e below (s₁.setTop (entryFrame m #[.ref x] 1)) (s₁.setTop (mkF m 1 #[.val (.ref x)] [.ref x])) := Steps.trans (entry rfl) (by
    show Steps p.tables e below (s₁.setTop (mkF m 0 #[.val (.ref x)] [])) _
    refine XS.aloadN X0.here hexec rfl (hb hbytes d0) rfl rfl ?_
    exact Steps.refl _)
  obtain ⟨T2, X2, q2, st2⟩ := X0.hget hexec hown (wk W (.fieldLink "java/lang/String" 9 "java/lang/String" "value" "[B")) (hx.mv X0.warmed.alike hh0).2.1 (g := (mkF m 1 #[.val (.ref x)] [.ref x])) rfl (rest := []) rfl (hb hbytes d1)
  have hh2 := q2.trans hh0
  have hx2 := hx.mv X2.warmed.alike hh2
  have c3 : Steps p.tables e below (s₁.setTop (entryFrame m #[.ref x] 1)) (T2.setTop (mkF m 6 #[.val (.ref x)] [.ref x, .int (Int32.ofNat V.slots.size)])) := (c1.trans (st2 _ (Steps.refl _))).trans (by
    refine X2.alen hexec hx2.2.2.2.1 rfl rfl (hb hbytes d4) ?_
    refine XS.aloadN X2.here hexec rfl (hb hbytes d5) rfl rfl ?_
    exact Steps.refl _)
  obtain ⟨v4, T4, X4, E4, g4⟩ := X2.callV hexec (Cdr.law l x cd z) hown (wks W (virtW "java/lang/String" 335 "java/lang/String" Cdr.yN Cdr.yN)) rfl (by decide) (wk W Cdr.tab) (W := 1) (Nat.le_of_ble_eq_true rfl) (Nat.le_of_ble_eq_true rfl) (Nat.le_refl _) (Nat.le_refl _) (hx2.1.fc X2.warmed.alike) hx2.1.is (g := (mkF m 6 #[.val (.ref x)] [.ref x, .int (Int32.ofNat V.slots.size)])) rfl (by rw [hml]; rfl) c3 (argsL := []) (rest := [.int (Int32.ofNat V.slots.size)]) rfl rfl (by show 2 * 0 + (1 + 0) ≤ _; decide) (hb hbytes d6) (⟨rfl, hx2.2.2.1, hx.2.2.2.2.1.cd, s1.there X2.warmed.alike hh2, hz⟩)
  obtain ⟨rfl, q4⟩ := E4
  have c5 : Steps p.tables e below (s₁.setTop (entryFrame m #[.ref x] 1)) (T4.setTop (mkF m 10 #[.val (.ref x)] [.int (Int32.ofNat V.slots.size >>> (cd &&& 31))])) := Steps.trans g4 (by
    refine ishr X4.here hexec rfl (hb hbytes d9) rfl ?_
    exact Steps.refl _)
  rw [hx.2.2.2.2.1.len v31] at c5
  exact ⟨T4, some (.int (Int32.ofNat n)), _, _, _, X4, rfl, rfl, rfl, (fun h => by cases h), ⟨rfl, q4.trans hh2⟩, fun fs hl => c5.trans (X4.ireturnOut hexec hret rfl (Or.inl rfl) (hb hbytes d10) hl)⟩
theorem pays {l : Launch} {R : Room} {p : Program} {e : Env} {below : List Frame} {s : State} {sargs : Array Value} {len W : Nat} (x t : Addr) (V : Cell) (cd : Int32) (n : Nat) (f : Nat → Int32) (z : Int32) (htab : tab.before sargs s = true) (hfr : 2 ≤ R.frames) (hlo : W + 25 ≤ R.locals) :
    Back l R p e below s sargs yN len W (fun A₁ a₁ => A₁.cells + 0 ≤ R.cells ∧ A₁.slots + 0 ≤ R.slots ∧ P x t V cd n f z a₁ A₁.U) (fun A₁ _ v₁ B₁ => E n v₁ A₁.U B₁.U ∧ B₁.locs = A₁.locs ++ [] ∧ B₁.cells = A₁.cells + 0 ∧ B₁.slots = A₁.slots + 0) :=
  (law l x t V cd n f z).pays htab hfr (by omega)
end Len
end StrChars
namespace StrChars.Road
open Jvm Sem ClassFile Op Lib Jvm.Stand Jvm.Free Jvm.Free.XT
open Jvm.Lib.Cold (StaticIs)
theorem consq {a : Array Value} {s : State} {c : Jvm.Cond} {L : List Jvm.Cond} (h0 : c.before a s = true) (h : ∀ w ∈ L, w.before a s = true) : ∀ w ∈ c :: L, w.before a s = true := fun w hw => (List.mem_cons.mp hw).elim (fun e => e ▸ h0) (h w)
/-- the words of String.length(), either coding -/
abbrev wordsLen : List Jvm.Cond := [.code Len.yN Len.yB 1 (some .int), .initialized ST, .fieldLink ST 9 ST "value" "[B", .fieldLink ST 38 ST "COMPACT_STRINGS" "Z", .fieldLink ST 15 ST "coder" "B", .code Cdr.yN Cdr.yB 1 (some .byte), .methodLink ST 335 Cdr.yN, .declares Cdr.yN, .selects ST Cdr.yN Cdr.yN, .instanceMethod Cdr.yN]
theorem tabLen_of {a : Array Value} {s : State} (h : ∀ w ∈ wordsLen, w.before a s = true) : Len.tab.before a s = true := by
  have hc : Cdr.tab.before a s = true := unparts (wk h (.code Cdr.yN Cdr.yB 1 (some .byte))) (wks h (.initialized Cdr.yN.cls :: Cdr.site))
  have q := consq hc h
  exact unparts (wk q (.code Len.yN Len.yB 1 (some .int))) (wks q (.initialized Len.yN.cls :: Len.site))
theorem movedLen {Z s : State} {a0 args : Array Value} (hZ : Z.Warmed39 s.vm) (hw : ∀ d ∈ wordsLen, d.before a0 Z = true) : ∀ d ∈ wordsLen, d.before args s = true := fun d hd => by
  have q := hw d hd
  have t : ∀ d ∈ wordsLen, d = .arrayClass .byte ∨ (d.onTables && d.keepsFace) = true := by decide +kernel
  rcases t d hd with rfl | t
  · exact RoadKit.mvA hZ q
  · exact RoadKit.mv hZ q t
/-- the bytes of the chars cs, low before high -/
def wideBytes : List Int32 → List Value
  | [] => []
  | c :: cs => .int (lo8 c) :: .int (hi8 c) :: wideBytes cs
theorem wide_lo (d : Value) : ∀ (cs : List Int32) (j : Nat), j < cs.length → (wideBytes cs).getD (2 * j) d = .int (lo8 (cs.getD j 0))
  | [], j, h => absurd h (Nat.not_lt_zero j)
  | c :: cs, 0, _ => rfl
  | c :: cs, j + 1, h => by
    have q := wide_lo d cs j (by simpa using h)
    rw [show 2 * (j + 1) = 2 * j + 1 + 1 from by omega]
    simpa [wideBytes] using q
theorem wide_hi (d : Value) : ∀ (cs : List Int32) (j : Nat), j < cs.length → (wideBytes cs).getD (2 * j + 1) d = .int (hi8 (cs.getD j 0))
  | [], j, h => absurd h (Nat.not_lt_zero j)
  | c :: cs, 0, _ => rfl
  | c :: cs, j + 1, h => by
    have q := wide_hi d cs j (by simpa using h)
    rw [show 2 * (j + 1) + 1 = 2 * j + 1 + 1 + 1 from by omega]
    simpa [wideBytes] using q
theorem low_at (d : Value) (cs : List Int32) (j : Nat) (h : j < cs.length) : (cs.map fun c => Value.int (lo8 c)).getD j d = .int (lo8 (cs.getD j 0)) := by
  simp [List.getD_eq_getElem?_getD, h]
/-- an array of N2 bytes vs codes the chars cs by the coder cd -/
def CodA (cs : List Int32) (cd N2 : Int32) (vs : List Value) : Prop := (cd = 0 ∧ N2 = Int32.ofNat cs.length ∧ vs = (cs.map fun c => Value.int (lo8 c)) ∧ ∀ c ∈ cs, ¬ 255 < c) ∨ (cd = 1 ∧ N2 = Int32.ofNat (2 * cs.length) ∧ vs = wideBytes cs ∧ ∃ c ∈ cs, 255 < c)
theorem CodA.cod {cs : List Int32} {cd N2 : Int32} {vs : List Value} {V : Cell} (h : CodA cs cd N2 vs) (hn : 2 * cs.length < 2 ^ 31) (hs : V.slots.size = N2.toNatClampNeg) (hv : RoadKit.Has V vs (.int 0)) : Cod cd cs.length (fun j => cs.getD j 0) V := by
  rcases h with ⟨rfl, rfl, rfl, h⟩ | ⟨rfl, rfl, rfl, c, hc, hw⟩
  · rw [n32 (by omega)] at hs
    exact Or.inl ⟨rfl, hs, fun j hj => ⟨by rw [hv j (by omega), low_at _ _ _ hj], by
      have e : cs.getD j 0 = cs[j] := by simp [List.getD_eq_getElem?_getD, hj]
      show ¬ 255 < cs.getD j 0
      rw [e]; exact h _ (List.getElem_mem _)⟩⟩
  · rw [n32 (by omega)] at hs
    obtain ⟨j, hj, rfl⟩ := List.getElem_of_mem hc
    exact Or.inr ⟨rfl, hs, fun j hj => ⟨by rw [hv _ (by omega), wide_lo _ _ _ hj], by rw [hv _ (by omega), wide_hi _ _ _ hj]⟩, j, hj, by
      have e : cs.getD j 0 = cs[j] := by simp [List.getD_eq_getElem?_getD, hj]
      show 255 < cs.getD j 0
      rw [e]; exact hw⟩
/-- an object of exactly java/lang/String, its two fields found: as the laws ask it -/
theorem strObj {Z U : State} {a0 : Array Value} {kI : Nat} (wi : (Jvm.Cond.instantiable ST kI).before a0 Z = true) (al : Z.vm.Alike U.vm) {x : Addr} {v0 c0 : Value} (E : RoadKit.Exa Z U.heap x ST) (V : RoadKit.Fld Z U.heap x ST "value" "[B" v0) (C : RoadKit.Fld Z U.heap x ST "coder" "B" c0) :
    ∃ (D : Cell) (fV fC : Field), Blank ST x D U ∧ Found ST "value" "[B" fV U ∧ Found ST "coder" "B" fC U ∧ D.slots[fV.slot]? = some v0 ∧ D.slots[fC.slot]? = some c0 ∧ RoadKit.slotOf Z ST "value" "[B" = fV.slot ∧ RoadKit.slotOf Z ST "coder" "B" = fC.slot := by
  obtain ⟨D, cfV, kV, iV, fV, hD, gV, stV, knV, obV, asV, slV⟩ := V
  obtain ⟨D', cfC, kC, iC, fC, hD', gC, stC, -, -, asC, slC⟩ := C
  cases hD.symm.trans hD'
  obtain ⟨D2, kD, e1, e2, e3, e4, e5⟩ := E
  cases hD.symm.trans e1
  obtain ⟨c2, k2, i1, i2, i3, -⟩ := Cond.instantiable_spec wi
  cases e2.symm.trans i1
  cases e3.symm.trans i2
  obtain ⟨kU, u1, u2⟩ := al.2.2 _ _ e3
  exact ⟨D, fV, fC, ⟨hD, ⟨knV, fun q hq => by rw [hq] at obV; cases obV⟩, by rw [al.findClass]; exact e2, kU, u1, by rw [u2]; exact i3, by rw [u2]; exact e5 i3⟩, ⟨SBG.found_only al ⟨cfV, kV, iV, gV⟩, stV⟩, ⟨SBG.found_only al ⟨cfC, kC, iC, gC⟩, stC⟩, slV, slC, by simp [RoadKit.slotOf, gV], by simp [RoadKit.slotOf, gC]⟩
theorem sta_is {Z U : State} (al : Z.vm.Alike U.vm) {C n d : String} {v : Value} (S : RoadKit.Sta Z U.heap C n d v) : StaticIs U C n d v := by
  obtain ⟨cfS, iS, kS, fS, st, cS, t1, t2, t3, t4, t5, t6, t7⟩ := S
  exact StaticIs.there (s := { Z with heap := U.heap }) ⟨cfS, iS, kS, fS, st, cS, t1, t2, t3, t4, t5, (fun q => by rw [q] at t6; cases t6), t7⟩ al rfl
/-- **length() OF SUCH A STRING** -/
theorem lenW {p : Program} {l : Launch} {e : Env} {R : Room} {s : State} {args : Array Value} {below : List Frame} {len W : Nat} {Z : State} {a0 : Array Value} {h : Heap} (hZ : Z.Warmed39 s.vm) (hw : ∀ d ∈ wordsLen, d.before a0 Z = true) {kI : Nat} (wi : (Jvm.Cond.instantiable ST kI).before a0 Z = true)
    {x t : Addr} {kb : ClassId} {cs : List Int32} {cd N2 z : Int32} {vs : List Value} (E : RoadKit.Exa Z h x ST) (V : RoadKit.Fld Z h x ST "value" "[B" (.ref t)) (C : RoadKit.Fld Z h x ST "coder" "B" (.int cd)) (K : RoadKit.Arv Z h t kb .byte N2 vs (.int 0)) (hc : CodA cs cd N2 vs) (hb : ∀ c ∈ cs, ¬ c < 0 ∧ ¬ (65535 : Int32) < c)
    (S : RoadKit.Sta Z h ST "COMPACT_STRINGS" "Z" (.int z)) (hz : ¬ z = 0) (l2 : cs.length ≤ 4000) (hfr : 2 ≤ R.frames) (hlo : W + 25 ≤ R.locals) :
    Back l R p e below s args (⟨"java/lang/String", "length", "()I"⟩ : MethodName) len W (fun P a => a = #[.ref x] ∧ P.U.heap = h ∧ P.cells + 0 ≤ R.cells ∧ P.slots + 0 ≤ R.slots)
      (fun P _ v B => ∃ L, (v = some (.int (Int32.ofNat cs.length)) ∧ L = [] ∧ B.U.heap = h) ∧ B.locs = P.locs ++ L ∧ B.cells = P.cells + 0 ∧ B.slots = P.slots + 0) := by
  obtain ⟨A, K1, K2, K3, K4, K5, K6⟩ := K
  have hcod := hc.cod (by omega) K3 K5
  intro m meth c P g ig mk a X hg hsize hdg hW hn hp'
  obtain ⟨rfl, rfl, r1, r2⟩ := hp'
  have al : Z.vm.Alike P.U.vm := hZ.alike.trans X.warmed.alike
  obtain ⟨D, fV, fC, hB, F1, F2, g1, g2, -, -⟩ := strObj wi al E V C
  have hx : Txt x t A cd cs.length (fun j => cs.getD j 0) P.U := ⟨⟨_, hB.2.2.1, D, hB.1, rfl, by cases q : D.vm <;> first | rfl | exact absurd q (hB.2.1.2 _)⟩, Has.of hB F1 g1, Has.of hB F2 g2, ⟨K1.1, State.isArrayOf_alike al K1.2.1, K1.2.2, by rcases hcod with ⟨-, q, -⟩ | ⟨-, q, -⟩ <;> omega⟩, hcod, fun j hj => by
    have e : cs.getD j 0 = cs[j] := by simp [List.getD_eq_getElem?_getD, hj]
    show ¬ cs.getD j 0 < 0 ∧ ¬ 65535 < cs.getD j 0
    rw [e]; exact hb _ (List.getElem_mem _)⟩
  obtain ⟨v, B, X', ⟨⟨hv, hh⟩, hl, hk, hs⟩, st⟩ := Len.pays x t A cd cs.length (fun j => cs.getD j 0) z (tabLen_of (movedLen hZ hw)) hfr hlo m meth c P g ig mk _ X hg hsize hdg hW hn ⟨r1, r2, rfl, hx, sta_is al S, hz⟩
  exact ⟨v, B, X', ⟨[], ⟨hv, rfl, hh⟩, hl, hk, hs⟩, st⟩
end StrChars.Road
namespace StrChars.Road
open Jvm Sem ClassFile Op Lib Jvm.Stand Jvm.Free Jvm.Free.XT
open Jvm.Lib.Cold (StaticIs)
/-- what backV says of its String, as the contracts of this text ask it: cs's low bytes, coder 0 -/
theorem codOf {cs : List Int32} {n : Nat} (hn : cs.length = n) (hb : ∀ c ∈ cs, ¬ 255 < c) : CodA cs 0 (Int32.ofNat n) ((cs.map lo8).map Value.int) := Or.inl ⟨rfl, by rw [hn], by simp [List.map_map, Function.comp_def], hb⟩
end StrChars.Road
end Jvm.Pilot.@@N@@

namespace Jvm.RoadKit
open Sem ClassFile Op Lib Jvm.Stand Jvm.Free Jvm.LawKit
section New
variable {p : Program} {l : Launch} {e : Env} {R : Room} {s : State} {m : MethodId} {args : Array Value} {below : List Frame} {meth : Method} {c : Code} {T : State} {locs : List Loc} {cells slots : Nat}
theorem retI (X : Stand p l e R s m args below meth c T locs cells slots) (hx : p.tables.exec = Jvm.exec) {pc : Nat} {Ls : Array Slot} {z : Int32} {rest : List Value} (hret : meth.sig.returnType = some .int) (hd : decode c.code pc = .ok (.ireturn, 1)) {fs : List Frame}
    (hl : ∀ (f : JFrame) (acts : List Action), f.method = m → f.locked = none → f.entered = [] → (doReturn e (T.setTop f) acts (some (.int z))).1 = T.setFrames fs) : Steps p.tables e below (T.setTop (mkF m pc Ls (.int z :: rest))) (T.setFrames fs) := by
  have hm' : T.vm.method? m = some meth := X.method'
  have hn : narrow .int (.int z) = .int z := rfl
  show Steps p.tables e below (T.setTop { method := m, pc := pc, locals := Ls, stack := _ :: rest, locked := none }) _
  jvm_step X.here [X.here.top, hx, hd, hm', hret, hn]
  first | (intro acts; rw [hl _ acts rfl rfl rfl]) | rw [hl _ _ rfl rfl rfl]
  exact Steps.refl _
end New
end Jvm.RoadKit
namespace Jvm.Pilot.@@N@@
open Jvm Jvm.ClassFile Sem Op Lib Jvm.Free Jvm.Stand Jvm.LawKit Jvm.RoadKit Bundle Jvm.Pilot.@@N@@.Jvm.D
theorem own_lclt {x y : Int64} (h : x < y) : lcmpW x y < 0 := by rw [lcW]; exact (lc_lt x y).2 h
theorem own_lcge {x y : Int64} (h : ¬ x < y) : ¬ (lcmpW x y < 0) := by rw [lcW]; exact fun k => h ((lc_lt x y).1 k)
theorem own_lcgt {x y : Int64} (h : y < x) : 0 < lcmpW x y := by rw [lcW]; exact (lc_gt x y).2 h
theorem own_lcle {x y : Int64} (h : ¬ y < x) : ¬ (0 < lcmpW x y) := by rw [lcW]; exact fun k => h ((lc_gt x y).1 k)
theorem own_lceq {x y : Int64} (h : x = y) : lcmpW x y = 0 := by rw [lcW]; exact (lc_eq x y).2 h
theorem own_lcne {x y : Int64} (h : ¬ (x = y)) : ¬ (lcmpW x y = 0) := by rw [lcW]; exact fun k => h ((lc_eq x y).1 k)
abbrev vI (x : Int32) : Slot := .val (.int x)
abbrev vJ (x : Int64) : Slot := .val (.long x)
abbrev vR (x : Addr) : Slot := .val (.ref x)
abbrev vD (x : UInt64) : Slot := .val (.double x)
abbrev vN : Slot := .val .null
abbrev uN : Slot := .unset
abbrev sD : Slot := .second
abbrev Sx (p : Program) (e : Env) (below : List Frame) (T : State) (g : JFrame) (t : State) : Prop := Steps p.tables e below (T.setTop g) t
theorem tw0 {Z : State} {a0 : Array Value} (hw : ∀ d ∈ tables_1, d.before a0 Z = true) : ((Jvm.Cond.methodLink "com/example/nuthatch/nuthatch/util/TextCompareCodePointsPinLaw" (7 : Nat) ({ cls := "com/example/nuthatch/nuthatch/util/TextCompareCodePointsPinLaw", name := "draw", desc := "(J)C" } : Jvm.MethodName)) : Jvm.Cond).before a0 Z = true := hw _ (List.mem_of_getElem? (i := 0) rfl)
theorem tw1 {Z : State} {a0 : Array Value} (hw : ∀ d ∈ tables_1, d.before a0 Z = true) : ((Jvm.Cond.static ({ cls := "com/example/nuthatch/nuthatch/util/TextCompareCodePointsPinLaw", name := "draw", desc := "(J)C" } : Jvm.MethodName)) : Jvm.Cond).before a0 Z = true := hw _ (List.mem_of_getElem? (i := 1) rfl)
theorem tw2 {Z : State} {a0 : Array Value} (hw : ∀ d ∈ tables_1, d.before a0 Z = true) : ((Jvm.Cond.initialized "com/example/nuthatch/nuthatch/util/TextCompareCodePointsPinLaw") : Jvm.Cond).before a0 Z = true := hw _ (List.mem_of_getElem? (i := 2) rfl)
theorem tw3 {Z : State} {a0 : Array Value} (hw : ∀ d ∈ tables_1, d.before a0 Z = true) : ((Jvm.Cond.code ({ cls := "com/example/nuthatch/nuthatch/util/TextCompareCodePointsPinLaw", name := "draw", desc := "(J)C" } : Jvm.MethodName) method_3_code (4 : Nat) (Option.some Jvm.ClassFile.FieldType.char)) : Jvm.Cond).before a0 Z = true := hw _ (List.mem_of_getElem? (i := 3) rfl)
theorem tw4 {Z : State} {a0 : Array Value} (hw : ∀ d ∈ tables_1, d.before a0 Z = true) : ((Jvm.Cond.constantLong "com/example/nuthatch/nuthatch/util/TextCompareCodePointsPinLaw" (13 : Nat) (3 : Int64)) : Jvm.Cond).before a0 Z = true := hw _ (List.mem_of_getElem? (i := 4) rfl)
theorem tw5 {Z : State} {a0 : Array Value} (hw : ∀ d ∈ tables_1, d.before a0 Z = true) : ((Jvm.Cond.constantLong "com/example/nuthatch/nuthatch/util/TextCompareCodePointsPinLaw" (33 : Nat) (65535 : Int64)) : Jvm.Cond).before a0 Z = true := hw _ (List.mem_of_getElem? (i := 5) rfl)
theorem tw6 {Z : State} {a0 : Array Value} (hw : ∀ d ∈ tables_1, d.before a0 Z = true) : ((Jvm.Cond.constant "com/example/nuthatch/nuthatch/util/TextCompareCodePointsPinLaw" (35 : Nat) (55296 : Int32)) : Jvm.Cond).before a0 Z = true := hw _ (List.mem_of_getElem? (i := 6) rfl)
theorem tw7 {Z : State} {a0 : Array Value} (hw : ∀ d ∈ tables_1, d.before a0 Z = true) : ((Jvm.Cond.methodLink "com/example/nuthatch/nuthatch/util/TextCompareCodePointsPinLaw" (15 : Nat) ({ cls := "com/example/nuthatch/nuthatch/util/TextCompareCodePointsPinLaw", name := "make", desc := "(CCCI)Ljava/lang/String;" } : Jvm.MethodName)) : Jvm.Cond).before a0 Z = true := hw _ (List.mem_of_getElem? (i := 7) rfl)
theorem tw8 {Z : State} {a0 : Array Value} (hw : ∀ d ∈ tables_1, d.before a0 Z = true) : ((Jvm.Cond.static ({ cls := "com/example/nuthatch/nuthatch/util/TextCompareCodePointsPinLaw", name := "make", desc := "(CCCI)Ljava/lang/String;" } : Jvm.MethodName)) : Jvm.Cond).before a0 Z = true := hw _ (List.mem_of_getElem? (i := 8) rfl)
theorem tw9 {Z : State} {a0 : Array Value} (hw : ∀ d ∈ tables_1, d.before a0 Z = true) : ((Jvm.Cond.code ({ cls := "com/example/nuthatch/nuthatch/util/TextCompareCodePointsPinLaw", name := "make", desc := "(CCCI)Ljava/lang/String;" } : Jvm.MethodName) method_4_code (4 : Nat) (Option.some (Jvm.ClassFile.FieldType.object "java/lang/String"))) : Jvm.Cond).before a0 Z = true := hw _ (List.mem_of_getElem? (i := 9) rfl)
theorem tw10 {Z : State} {a0 : Array Value} (hw : ∀ d ∈ tables_1, d.before a0 Z = true) : ((Jvm.Cond.classLink "com/example/nuthatch/nuthatch/util/TextCompareCodePointsPinLaw" (37 : Nat) "java/lang/String") : Jvm.Cond).before a0 Z = true := hw _ (List.mem_of_getElem? (i := 10) rfl)
theorem tw11 {Z : State} {a0 : Array Value} (hw : ∀ d ∈ tables_1, d.before a0 Z = true) : ((Jvm.Cond.instantiable "java/lang/String" (4 : Nat)) : Jvm.Cond).before a0 Z = true := hw _ (List.mem_of_getElem? (i := 11) rfl)
theorem tw12 {Z : State} {a0 : Array Value} (hw : ∀ d ∈ tables_1, d.before a0 Z = true) : ((Jvm.Cond.initialized "java/lang/String") : Jvm.Cond).before a0 Z = true := hw _ (List.mem_of_getElem? (i := 12) rfl)
theorem tw13 {Z : State} {a0 : Array Value} (hw : ∀ d ∈ tables_1, d.before a0 Z = true) : ((Jvm.Cond.arrayClass Jvm.ClassFile.FieldType.char) : Jvm.Cond).before a0 Z = true := hw _ (List.mem_of_getElem? (i := 13) rfl)
theorem tw14 {Z : State} {a0 : Array Value} (hw : ∀ d ∈ tables_1, d.before a0 Z = true) : ((Jvm.Cond.methodLink "com/example/nuthatch/nuthatch/util/TextCompareCodePointsPinLaw" (39 : Nat) ({ cls := "java/lang/String", name := "<init>", desc := "([C)V" } : Jvm.MethodName)) : Jvm.Cond).before a0 Z = true := hw _ (List.mem_of_getElem? (i := 14) rfl)
theorem tw15 {Z : State} {a0 : Array Value} (hw : ∀ d ∈ tables_1, d.before a0 Z = true) : ((Jvm.Cond.instanceMethod ({ cls := "java/lang/String", name := "<init>", desc := "([C)V" } : Jvm.MethodName)) : Jvm.Cond).before a0 Z = true := hw _ (List.mem_of_getElem? (i := 15) rfl)
theorem tw16 {Z : State} {a0 : Array Value} (hw : ∀ d ∈ tables_1, d.before a0 Z = true) : ((Jvm.Cond.code ({ cls := "java/lang/String", name := "<init>", desc := "([C)V" } : Jvm.MethodName) jdk_42_method_3_code (2 : Nat) (Option.none : Option Jvm.ClassFile.FieldType)) : Jvm.Cond).before a0 Z = true := hw _ (List.mem_of_getElem? (i := 16) rfl)
theorem tw17 {Z : State} {a0 : Array Value} (hw : ∀ d ∈ tables_1, d.before a0 Z = true) : ((Jvm.Cond.methodLink "java/lang/String" (27 : Nat) ({ cls := "java/lang/String", name := "<init>", desc := "([CIILjava/lang/Void;)V" } : Jvm.MethodName)) : Jvm.Cond).before a0 Z = true := hw _ (List.mem_of_getElem? (i := 17) rfl)
theorem tw18 {Z : State} {a0 : Array Value} (hw : ∀ d ∈ tables_1, d.before a0 Z = true) : ((Jvm.Cond.instanceMethod ({ cls := "java/lang/String", name := "<init>", desc := "([CIILjava/lang/Void;)V" } : Jvm.MethodName)) : Jvm.Cond).before a0 Z = true := hw _ (List.mem_of_getElem? (i := 18) rfl)
theorem tw20 {Z : State} {a0 : Array Value} (hw : ∀ d ∈ tables_1, d.before a0 Z = true) : ((Jvm.Cond.code ({ cls := "java/lang/String", name := "<init>", desc := "([CIILjava/lang/Void;)V" } : Jvm.MethodName) jdk_42_method_149_code (6 : Nat) (Option.none : Option Jvm.ClassFile.FieldType)) : Jvm.Cond).before a0 Z = true := hw _ (List.mem_of_getElem? (i := 20) rfl)
theorem tw21 {Z : State} {a0 : Array Value} (hw : ∀ d ∈ tables_1, d.before a0 Z = true) : ((Jvm.Cond.methodLink "java/lang/String" (1 : Nat) ({ cls := "java/lang/Object", name := "<init>", desc := "()V" } : Jvm.MethodName)) : Jvm.Cond).before a0 Z = true := hw _ (List.mem_of_getElem? (i := 21) rfl)
theorem tw22 {Z : State} {a0 : Array Value} (hw : ∀ d ∈ tables_1, d.before a0 Z = true) : ((Jvm.Cond.instanceMethod ({ cls := "java/lang/Object", name := "<init>", desc := "()V" } : Jvm.MethodName)) : Jvm.Cond).before a0 Z = true := hw _ (List.mem_of_getElem? (i := 22) rfl)
theorem tw23 {Z : State} {a0 : Array Value} (hw : ∀ d ∈ tables_1, d.before a0 Z = true) : ((Jvm.Cond.code ({ cls := "java/lang/Object", name := "<init>", desc := "()V" } : Jvm.MethodName) object_method_1_code (1 : Nat) (Option.none : Option Jvm.ClassFile.FieldType)) : Jvm.Cond).before a0 Z = true := hw _ (List.mem_of_getElem? (i := 23) rfl)
theorem tw24 {Z : State} {a0 : Array Value} (hw : ∀ d ∈ tables_1, d.before a0 Z = true) : ((Jvm.Cond.stringLink "java/lang/String" (7 : Nat) "") : Jvm.Cond).before a0 Z = true := hw _ (List.mem_of_getElem? (i := 24) rfl)
theorem tw25 {Z : State} {a0 : Array Value} (hw : ∀ d ∈ tables_1, d.before a0 Z = true) : ((Jvm.Cond.arrayClass Jvm.ClassFile.FieldType.byte) : Jvm.Cond).before a0 Z = true := hw _ (List.mem_of_getElem? (i := 25) rfl)
theorem tw26 {Z : State} {a0 : Array Value} (hw : ∀ d ∈ tables_1, d.before a0 Z = true) : ((Jvm.Cond.laysFinal "java/lang/String" "java/lang/String" "value" "[B") : Jvm.Cond).before a0 Z = true := hw _ (List.mem_of_getElem? (i := 26) rfl)
theorem tw27 {Z : State} {a0 : Array Value} (hw : ∀ d ∈ tables_1, d.before a0 Z = true) : ((Jvm.Cond.laysFinal "java/lang/String" "java/lang/String" "coder" "B") : Jvm.Cond).before a0 Z = true := hw _ (List.mem_of_getElem? (i := 27) rfl)
theorem tw30 {Z : State} {a0 : Array Value} (hw : ∀ d ∈ tables_1, d.before a0 Z = true) : ((Jvm.Cond.fieldLink "java/lang/String" (9 : Nat) "java/lang/String" "value" "[B") : Jvm.Cond).before a0 Z = true := hw _ (List.mem_of_getElem? (i := 30) rfl)
theorem tw31 {Z : State} {a0 : Array Value} (hw : ∀ d ∈ tables_1, d.before a0 Z = true) : ((Jvm.Cond.fieldLink "java/lang/String" (15 : Nat) "java/lang/String" "coder" "B") : Jvm.Cond).before a0 Z = true := hw _ (List.mem_of_getElem? (i := 31) rfl)
theorem tw32 {Z : State} {a0 : Array Value} (hw : ∀ d ∈ tables_1, d.before a0 Z = true) : ((Jvm.Cond.methodLink "com/example/nuthatch/nuthatch/util/TextCompareCodePointsPinLaw" (19 : Nat) ({ cls := "com/example/nuthatch/nuthatch/util/Text", name := "compareCodePoints", desc := "(Ljava/lang/String;Ljava/lang/String;)I" } : Jvm.MethodName)) : Jvm.Cond).before a0 Z = true := hw _ (List.mem_of_getElem? (i := 32) rfl)
theorem tw33 {Z : State} {a0 : Array Value} (hw : ∀ d ∈ tables_1, d.before a0 Z = true) : ((Jvm.Cond.static ({ cls := "com/example/nuthatch/nuthatch/util/Text", name := "compareCodePoints", desc := "(Ljava/lang/String;Ljava/lang/String;)I" } : Jvm.MethodName)) : Jvm.Cond).before a0 Z = true := hw _ (List.mem_of_getElem? (i := 33) rfl)
theorem tw34 {Z : State} {a0 : Array Value} (hw : ∀ d ∈ tables_1, d.before a0 Z = true) : ((Jvm.Cond.initialized "com/example/nuthatch/nuthatch/util/Text") : Jvm.Cond).before a0 Z = true := hw _ (List.mem_of_getElem? (i := 34) rfl)
theorem tw35 {Z : State} {a0 : Array Value} (hw : ∀ d ∈ tables_1, d.before a0 Z = true) : ((Jvm.Cond.code ({ cls := "com/example/nuthatch/nuthatch/util/Text", name := "compareCodePoints", desc := "(Ljava/lang/String;Ljava/lang/String;)I" } : Jvm.MethodName) prog_10_method_7_code (5 : Nat) (Option.some Jvm.ClassFile.FieldType.int)) : Jvm.Cond).before a0 Z = true := hw _ (List.mem_of_getElem? (i := 35) rfl)
theorem tw36 {Z : State} {a0 : Array Value} (hw : ∀ d ∈ tables_1, d.before a0 Z = true) : ((Jvm.Cond.methodLink "com/example/nuthatch/nuthatch/util/Text" (33 : Nat) ({ cls := "java/lang/String", name := "length", desc := "()I" } : Jvm.MethodName)) : Jvm.Cond).before a0 Z = true := hw _ (List.mem_of_getElem? (i := 36) rfl)
theorem tw37 {Z : State} {a0 : Array Value} (hw : ∀ d ∈ tables_1, d.before a0 Z = true) : ((Jvm.Cond.declares ({ cls := "java/lang/String", name := "length", desc := "()I" } : Jvm.MethodName)) : Jvm.Cond).before a0 Z = true := hw _ (List.mem_of_getElem? (i := 37) rfl)
theorem tw38 {Z : State} {a0 : Array Value} (hw : ∀ d ∈ tables_1, d.before a0 Z = true) : ((Jvm.Cond.instanceMethod ({ cls := "java/lang/String", name := "length", desc := "()I" } : Jvm.MethodName)) : Jvm.Cond).before a0 Z = true := hw _ (List.mem_of_getElem? (i := 38) rfl)
theorem tw39 {Z : State} {a0 : Array Value} (hw : ∀ d ∈ tables_1, d.before a0 Z = true) : ((Jvm.Cond.selects "java/lang/String" ({ cls := "java/lang/String", name := "length", desc := "()I" } : Jvm.MethodName) ({ cls := "java/lang/String", name := "length", desc := "()I" } : Jvm.MethodName)) : Jvm.Cond).before a0 Z = true := hw _ (List.mem_of_getElem? (i := 39) rfl)
theorem tw40 {Z : State} {a0 : Array Value} (hw : ∀ d ∈ tables_1, d.before a0 Z = true) : ((Jvm.Cond.code ({ cls := "java/lang/String", name := "length", desc := "()I" } : Jvm.MethodName) jdk_42_method_54_code (1 : Nat) (Option.some Jvm.ClassFile.FieldType.int)) : Jvm.Cond).before a0 Z = true := hw _ (List.mem_of_getElem? (i := 40) rfl)
theorem tw46 {Z : State} {a0 : Array Value} (hw : ∀ d ∈ tables_1, d.before a0 Z = true) : ((Jvm.Cond.fieldLink "java/lang/String" (38 : Nat) "java/lang/String" "COMPACT_STRINGS" "Z") : Jvm.Cond).before a0 Z = true := hw _ (List.mem_of_getElem? (i := 46) rfl)
theorem tw47 {Z : State} {a0 : Array Value} (hw : ∀ d ∈ tables_1, d.before a0 Z = true) : ((Jvm.Cond.methodLink "com/example/nuthatch/nuthatch/util/Text" (158 : Nat) ({ cls := "java/lang/Integer", name := "compare", desc := "(II)I" } : Jvm.MethodName)) : Jvm.Cond).before a0 Z = true := hw _ (List.mem_of_getElem? (i := 47) rfl)
theorem tw48 {Z : State} {a0 : Array Value} (hw : ∀ d ∈ tables_1, d.before a0 Z = true) : ((Jvm.Cond.static ({ cls := "java/lang/Integer", name := "compare", desc := "(II)I" } : Jvm.MethodName)) : Jvm.Cond).before a0 Z = true := hw _ (List.mem_of_getElem? (i := 48) rfl)
theorem tw49 {Z : State} {a0 : Array Value} (hw : ∀ d ∈ tables_1, d.before a0 Z = true) : ((Jvm.Cond.initialized "java/lang/Integer") : Jvm.Cond).before a0 Z = true := hw _ (List.mem_of_getElem? (i := 49) rfl)
theorem tw50 {Z : State} {a0 : Array Value} (hw : ∀ d ∈ tables_1, d.before a0 Z = true) : ((Jvm.Cond.code ({ cls := "java/lang/Integer", name := "compare", desc := "(II)I" } : Jvm.MethodName) jdk_33_method_40_code (2 : Nat) (Option.some Jvm.ClassFile.FieldType.int)) : Jvm.Cond).before a0 Z = true := hw _ (List.mem_of_getElem? (i := 50) rfl)
theorem tw51 {Z : State} {a0 : Array Value} (hw : ∀ d ∈ tables_1, d.before a0 Z = true) : ((Jvm.Cond.methodLink "com/example/nuthatch/nuthatch/util/TextCompareCodePointsPinLaw" (25 : Nat) ({ cls := "com/example/nuthatch/nuthatch/util/TextCompareCodePointsPinLaw", name := "reference", desc := "(CCCICCCI)I" } : Jvm.MethodName)) : Jvm.Cond).before a0 Z = true := hw _ (List.mem_of_getElem? (i := 51) rfl)
theorem tw52 {Z : State} {a0 : Array Value} (hw : ∀ d ∈ tables_1, d.before a0 Z = true) : ((Jvm.Cond.static ({ cls := "com/example/nuthatch/nuthatch/util/TextCompareCodePointsPinLaw", name := "reference", desc := "(CCCICCCI)I" } : Jvm.MethodName)) : Jvm.Cond).before a0 Z = true := hw _ (List.mem_of_getElem? (i := 52) rfl)
theorem tw53 {Z : State} {a0 : Array Value} (hw : ∀ d ∈ tables_1, d.before a0 Z = true) : ((Jvm.Cond.code ({ cls := "com/example/nuthatch/nuthatch/util/TextCompareCodePointsPinLaw", name := "reference", desc := "(CCCICCCI)I" } : Jvm.MethodName) method_11_code (18 : Nat) (Option.some Jvm.ClassFile.FieldType.int)) : Jvm.Cond).before a0 Z = true := hw _ (List.mem_of_getElem? (i := 53) rfl)
theorem tw54 {Z : State} {a0 : Array Value} (hw : ∀ d ∈ tables_1, d.before a0 Z = true) : ((Jvm.Cond.methodLink "com/example/nuthatch/nuthatch/util/TextCompareCodePointsPinLaw" (56 : Nat) ({ cls := "com/example/nuthatch/nuthatch/util/TextCompareCodePointsPinLaw", name := "point", desc := "(CCCII)I" } : Jvm.MethodName)) : Jvm.Cond).before a0 Z = true := hw _ (List.mem_of_getElem? (i := 54) rfl)
theorem tw55 {Z : State} {a0 : Array Value} (hw : ∀ d ∈ tables_1, d.before a0 Z = true) : ((Jvm.Cond.static ({ cls := "com/example/nuthatch/nuthatch/util/TextCompareCodePointsPinLaw", name := "point", desc := "(CCCII)I" } : Jvm.MethodName)) : Jvm.Cond).before a0 Z = true := hw _ (List.mem_of_getElem? (i := 55) rfl)
theorem tw56 {Z : State} {a0 : Array Value} (hw : ∀ d ∈ tables_1, d.before a0 Z = true) : ((Jvm.Cond.code ({ cls := "com/example/nuthatch/nuthatch/util/TextCompareCodePointsPinLaw", name := "point", desc := "(CCCII)I" } : Jvm.MethodName) method_8_code (7 : Nat) (Option.some Jvm.ClassFile.FieldType.int)) : Jvm.Cond).before a0 Z = true := hw _ (List.mem_of_getElem? (i := 56) rfl)
theorem tw57 {Z : State} {a0 : Array Value} (hw : ∀ d ∈ tables_1, d.before a0 Z = true) : ((Jvm.Cond.methodLink "com/example/nuthatch/nuthatch/util/TextCompareCodePointsPinLaw" (44 : Nat) ({ cls := "com/example/nuthatch/nuthatch/util/TextCompareCodePointsPinLaw", name := "unit", desc := "(CCCII)I" } : Jvm.MethodName)) : Jvm.Cond).before a0 Z = true := hw _ (List.mem_of_getElem? (i := 57) rfl)
theorem tw58 {Z : State} {a0 : Array Value} (hw : ∀ d ∈ tables_1, d.before a0 Z = true) : ((Jvm.Cond.static ({ cls := "com/example/nuthatch/nuthatch/util/TextCompareCodePointsPinLaw", name := "unit", desc := "(CCCII)I" } : Jvm.MethodName)) : Jvm.Cond).before a0 Z = true := hw _ (List.mem_of_getElem? (i := 58) rfl)
theorem tw59 {Z : State} {a0 : Array Value} (hw : ∀ d ∈ tables_1, d.before a0 Z = true) : ((Jvm.Cond.code ({ cls := "com/example/nuthatch/nuthatch/util/TextCompareCodePointsPinLaw", name := "unit", desc := "(CCCII)I" } : Jvm.MethodName) method_5_code (5 : Nat) (Option.some Jvm.ClassFile.FieldType.int)) : Jvm.Cond).before a0 Z = true := hw _ (List.mem_of_getElem? (i := 59) rfl)
theorem tw60 {Z : State} {a0 : Array Value} (hw : ∀ d ∈ tables_1, d.before a0 Z = true) : ((Jvm.Cond.methodLink "com/example/nuthatch/nuthatch/util/TextCompareCodePointsPinLaw" (59 : Nat) ({ cls := "com/example/nuthatch/nuthatch/util/TextCompareCodePointsPinLaw", name := "width", desc := "(I)I" } : Jvm.MethodName)) : Jvm.Cond).before a0 Z = true := hw _ (List.mem_of_getElem? (i := 60) rfl)
theorem tw61 {Z : State} {a0 : Array Value} (hw : ∀ d ∈ tables_1, d.before a0 Z = true) : ((Jvm.Cond.static ({ cls := "com/example/nuthatch/nuthatch/util/TextCompareCodePointsPinLaw", name := "width", desc := "(I)I" } : Jvm.MethodName)) : Jvm.Cond).before a0 Z = true := hw _ (List.mem_of_getElem? (i := 61) rfl)
theorem tw62 {Z : State} {a0 : Array Value} (hw : ∀ d ∈ tables_1, d.before a0 Z = true) : ((Jvm.Cond.code ({ cls := "com/example/nuthatch/nuthatch/util/TextCompareCodePointsPinLaw", name := "width", desc := "(I)I" } : Jvm.MethodName) method_9_code (1 : Nat) (Option.some Jvm.ClassFile.FieldType.int)) : Jvm.Cond).before a0 Z = true := hw _ (List.mem_of_getElem? (i := 62) rfl)
theorem tw63 {Z : State} {a0 : Array Value} (hw : ∀ d ∈ tables_1, d.before a0 Z = true) : ((Jvm.Cond.constant "com/example/nuthatch/nuthatch/util/TextCompareCodePointsPinLaw" (55 : Nat) (65536 : Int32)) : Jvm.Cond).before a0 Z = true := hw _ (List.mem_of_getElem? (i := 63) rfl)
theorem tw64 {Z : State} {a0 : Array Value} (hw : ∀ d ∈ tables_1, d.before a0 Z = true) : ((Jvm.Cond.methodLink "com/example/nuthatch/nuthatch/util/TextCompareCodePointsPinLaw" (29 : Nat) ({ cls := "com/example/nuthatch/nuthatch/util/TextCompareCodePointsPinLaw", name := "sign", desc := "(I)I" } : Jvm.MethodName)) : Jvm.Cond).before a0 Z = true := hw _ (List.mem_of_getElem? (i := 64) rfl)
theorem tw65 {Z : State} {a0 : Array Value} (hw : ∀ d ∈ tables_1, d.before a0 Z = true) : ((Jvm.Cond.static ({ cls := "com/example/nuthatch/nuthatch/util/TextCompareCodePointsPinLaw", name := "sign", desc := "(I)I" } : Jvm.MethodName)) : Jvm.Cond).before a0 Z = true := hw _ (List.mem_of_getElem? (i := 65) rfl)
theorem tw66 {Z : State} {a0 : Array Value} (hw : ∀ d ∈ tables_1, d.before a0 Z = true) : ((Jvm.Cond.code ({ cls := "com/example/nuthatch/nuthatch/util/TextCompareCodePointsPinLaw", name := "sign", desc := "(I)I" } : Jvm.MethodName) method_12_code (1 : Nat) (Option.some Jvm.ClassFile.FieldType.int)) : Jvm.Cond).before a0 Z = true := hw _ (List.mem_of_getElem? (i := 66) rfl)
theorem tw67 {Z : State} {a0 : Array Value} (hw : ∀ d ∈ tables_1, d.before a0 Z = true) : ((Jvm.Cond.constant "com/example/nuthatch/nuthatch/util/TextCompareCodePointsPinLaw" (36 : Nat) (56320 : Int32)) : Jvm.Cond).before a0 Z = true := hw _ (List.mem_of_getElem? (i := 67) rfl)
theorem tw68 {Z : State} {a0 : Array Value} (hw : ∀ d ∈ tables_1, d.before a0 Z = true) : ((Jvm.Cond.methodLink "java/lang/String" (177 : Nat) ({ cls := "java/lang/StringUTF16", name := "compress", desc := "([CII)[B" } : Jvm.MethodName)) : Jvm.Cond).before a0 Z = true := hw _ (List.mem_of_getElem? (i := 68) rfl)
theorem tw69 {Z : State} {a0 : Array Value} (hw : ∀ d ∈ tables_1, d.before a0 Z = true) : ((Jvm.Cond.static ({ cls := "java/lang/StringUTF16", name := "compress", desc := "([CII)[B" } : Jvm.MethodName)) : Jvm.Cond).before a0 Z = true := hw _ (List.mem_of_getElem? (i := 69) rfl)
theorem tw70 {Z : State} {a0 : Array Value} (hw : ∀ d ∈ tables_1, d.before a0 Z = true) : ((Jvm.Cond.initialized "java/lang/StringUTF16") : Jvm.Cond).before a0 Z = true := hw _ (List.mem_of_getElem? (i := 70) rfl)
theorem tw71 {Z : State} {a0 : Array Value} (hw : ∀ d ∈ tables_1, d.before a0 Z = true) : ((Jvm.Cond.code ({ cls := "java/lang/StringUTF16", name := "compress", desc := "([CII)[B" } : Jvm.MethodName) jdk_52_method_16_code (6 : Nat) (Option.some (Jvm.ClassFile.FieldType.array Jvm.ClassFile.FieldType.byte))) : Jvm.Cond).before a0 Z = true := hw _ (List.mem_of_getElem? (i := 71) rfl)
theorem tw72 {Z : State} {a0 : Array Value} (hw : ∀ d ∈ tables_1, d.before a0 Z = true) : ((Jvm.Cond.methodLink "java/lang/StringUTF16" (115 : Nat) ({ cls := "java/lang/StringUTF16", name := "compress", desc := "([CI[BII)I" } : Jvm.MethodName)) : Jvm.Cond).before a0 Z = true := hw _ (List.mem_of_getElem? (i := 72) rfl)
theorem tw73 {Z : State} {a0 : Array Value} (hw : ∀ d ∈ tables_1, d.before a0 Z = true) : ((Jvm.Cond.static ({ cls := "java/lang/StringUTF16", name := "compress", desc := "([CI[BII)I" } : Jvm.MethodName)) : Jvm.Cond).before a0 Z = true := hw _ (List.mem_of_getElem? (i := 73) rfl)
theorem tw74 {Z : State} {a0 : Array Value} (hw : ∀ d ∈ tables_1, d.before a0 Z = true) : ((Jvm.Cond.code ({ cls := "java/lang/StringUTF16", name := "compress", desc := "([CI[BII)I" } : Jvm.MethodName) jdk_52_method_21_code (7 : Nat) (Option.some Jvm.ClassFile.FieldType.int)) : Jvm.Cond).before a0 Z = true := hw _ (List.mem_of_getElem? (i := 74) rfl)
theorem tw75 {Z : State} {a0 : Array Value} (hw : ∀ d ∈ tables_1, d.before a0 Z = true) : ((Jvm.Cond.methodLink "java/lang/StringUTF16" (119 : Nat) ({ cls := "java/lang/StringUTF16", name := "toBytes", desc := "([CII)[B" } : Jvm.MethodName)) : Jvm.Cond).before a0 Z = true := hw _ (List.mem_of_getElem? (i := 75) rfl)
theorem tw76 {Z : State} {a0 : Array Value} (hw : ∀ d ∈ tables_1, d.before a0 Z = true) : ((Jvm.Cond.static ({ cls := "java/lang/StringUTF16", name := "toBytes", desc := "([CII)[B" } : Jvm.MethodName)) : Jvm.Cond).before a0 Z = true := hw _ (List.mem_of_getElem? (i := 76) rfl)
theorem tw77 {Z : State} {a0 : Array Value} (hw : ∀ d ∈ tables_1, d.before a0 Z = true) : ((Jvm.Cond.code ({ cls := "java/lang/StringUTF16", name := "toBytes", desc := "([CII)[B" } : Jvm.MethodName) jdk_52_method_14_code (5 : Nat) (Option.some (Jvm.ClassFile.FieldType.array Jvm.ClassFile.FieldType.byte))) : Jvm.Cond).before a0 Z = true := hw _ (List.mem_of_getElem? (i := 77) rfl)
theorem tw78 {Z : State} {a0 : Array Value} (hw : ∀ d ∈ tables_1, d.before a0 Z = true) : ((Jvm.Cond.methodLink "java/lang/StringUTF16" (107 : Nat) ({ cls := "java/lang/StringUTF16", name := "newBytesFor", desc := "(I)[B" } : Jvm.MethodName)) : Jvm.Cond).before a0 Z = true := hw _ (List.mem_of_getElem? (i := 78) rfl)
theorem tw79 {Z : State} {a0 : Array Value} (hw : ∀ d ∈ tables_1, d.before a0 Z = true) : ((Jvm.Cond.static ({ cls := "java/lang/StringUTF16", name := "newBytesFor", desc := "(I)[B" } : Jvm.MethodName)) : Jvm.Cond).before a0 Z = true := hw _ (List.mem_of_getElem? (i := 79) rfl)
theorem tw80 {Z : State} {a0 : Array Value} (hw : ∀ d ∈ tables_1, d.before a0 Z = true) : ((Jvm.Cond.code ({ cls := "java/lang/StringUTF16", name := "newBytesFor", desc := "(I)[B" } : Jvm.MethodName) jdk_52_method_2_code (1 : Nat) (Option.some (Jvm.ClassFile.FieldType.array Jvm.ClassFile.FieldType.byte))) : Jvm.Cond).before a0 Z = true := hw _ (List.mem_of_getElem? (i := 80) rfl)
theorem tw81 {Z : State} {a0 : Array Value} (hw : ∀ d ∈ tables_1, d.before a0 Z = true) : ((Jvm.Cond.methodLink "java/lang/StringUTF16" (11 : Nat) ({ cls := "java/lang/StringUTF16", name := "newBytesLength", desc := "(I)I" } : Jvm.MethodName)) : Jvm.Cond).before a0 Z = true := hw _ (List.mem_of_getElem? (i := 81) rfl)
theorem tw82 {Z : State} {a0 : Array Value} (hw : ∀ d ∈ tables_1, d.before a0 Z = true) : ((Jvm.Cond.static ({ cls := "java/lang/StringUTF16", name := "newBytesLength", desc := "(I)I" } : Jvm.MethodName)) : Jvm.Cond).before a0 Z = true := hw _ (List.mem_of_getElem? (i := 82) rfl)
theorem tw83 {Z : State} {a0 : Array Value} (hw : ∀ d ∈ tables_1, d.before a0 Z = true) : ((Jvm.Cond.code ({ cls := "java/lang/StringUTF16", name := "newBytesLength", desc := "(I)I" } : Jvm.MethodName) jdk_52_method_3_code (1 : Nat) (Option.some Jvm.ClassFile.FieldType.int)) : Jvm.Cond).before a0 Z = true := hw _ (List.mem_of_getElem? (i := 83) rfl)
theorem tw84 {Z : State} {a0 : Array Value} (hw : ∀ d ∈ tables_1, d.before a0 Z = true) : ((Jvm.Cond.constant "java/lang/StringUTF16" (20 : Nat) (1073741823 : Int32)) : Jvm.Cond).before a0 Z = true := hw _ (List.mem_of_getElem? (i := 84) rfl)
theorem tw85 {Z : State} {a0 : Array Value} (hw : ∀ d ∈ tables_1, d.before a0 Z = true) : ((Jvm.Cond.methodLink "java/lang/StringUTF16" (111 : Nat) ({ cls := "java/lang/StringUTF16", name := "putChar", desc := "([BII)V" } : Jvm.MethodName)) : Jvm.Cond).before a0 Z = true := hw _ (List.mem_of_getElem? (i := 85) rfl)
theorem tw86 {Z : State} {a0 : Array Value} (hw : ∀ d ∈ tables_1, d.before a0 Z = true) : ((Jvm.Cond.static ({ cls := "java/lang/StringUTF16", name := "putChar", desc := "([BII)V" } : Jvm.MethodName)) : Jvm.Cond).before a0 Z = true := hw _ (List.mem_of_getElem? (i := 86) rfl)
theorem tw87 {Z : State} {a0 : Array Value} (hw : ∀ d ∈ tables_1, d.before a0 Z = true) : ((Jvm.Cond.code ({ cls := "java/lang/StringUTF16", name := "putChar", desc := "([BII)V" } : Jvm.MethodName) jdk_52_method_4_code (3 : Nat) (Option.none : Option Jvm.ClassFile.FieldType)) : Jvm.Cond).before a0 Z = true := hw _ (List.mem_of_getElem? (i := 87) rfl)
theorem tw88 {Z : State} {a0 : Array Value} (hw : ∀ d ∈ tables_1, d.before a0 Z = true) : ((Jvm.Cond.fieldLink "java/lang/StringUTF16" (44 : Nat) "java/lang/StringUTF16" "$assertionsDisabled" "Z") : Jvm.Cond).before a0 Z = true := hw _ (List.mem_of_getElem? (i := 88) rfl)
theorem tw89 {Z : State} {a0 : Array Value} (hw : ∀ d ∈ tables_1, d.before a0 Z = true) : ((Jvm.Cond.fieldLink "java/lang/StringUTF16" (59 : Nat) "java/lang/StringUTF16" "HI_BYTE_SHIFT" "I") : Jvm.Cond).before a0 Z = true := hw _ (List.mem_of_getElem? (i := 89) rfl)
theorem tw90 {Z : State} {a0 : Array Value} (hw : ∀ d ∈ tables_1, d.before a0 Z = true) : ((Jvm.Cond.fieldLink "java/lang/StringUTF16" (63 : Nat) "java/lang/StringUTF16" "LO_BYTE_SHIFT" "I") : Jvm.Cond).before a0 Z = true := hw _ (List.mem_of_getElem? (i := 90) rfl)
theorem tw91 {Z : State} {a0 : Array Value} (hw : ∀ d ∈ tables_1, d.before a0 Z = true) : ((Jvm.Cond.methodLink "java/lang/StringUTF16" (71 : Nat) ({ cls := "java/lang/StringUTF16", name := "getChar", desc := "([BI)C" } : Jvm.MethodName)) : Jvm.Cond).before a0 Z = true := hw _ (List.mem_of_getElem? (i := 91) rfl)
theorem tw92 {Z : State} {a0 : Array Value} (hw : ∀ d ∈ tables_1, d.before a0 Z = true) : ((Jvm.Cond.static ({ cls := "java/lang/StringUTF16", name := "getChar", desc := "([BI)C" } : Jvm.MethodName)) : Jvm.Cond).before a0 Z = true := hw _ (List.mem_of_getElem? (i := 92) rfl)
theorem tw93 {Z : State} {a0 : Array Value} (hw : ∀ d ∈ tables_1, d.before a0 Z = true) : ((Jvm.Cond.code ({ cls := "java/lang/StringUTF16", name := "getChar", desc := "([BI)C" } : Jvm.MethodName) jdk_52_method_5_code (2 : Nat) (Option.some Jvm.ClassFile.FieldType.char)) : Jvm.Cond).before a0 Z = true := hw _ (List.mem_of_getElem? (i := 93) rfl)
theorem tw94 {Z : State} {a0 : Array Value} (hw : ∀ d ∈ tables_1, d.before a0 Z = true) : ((Jvm.Cond.methodLink "java/lang/String" (47 : Nat) ({ cls := "java/lang/StringUTF16", name := "coderFromArrayLen", desc := "([BI)B" } : Jvm.MethodName)) : Jvm.Cond).before a0 Z = true := hw _ (List.mem_of_getElem? (i := 94) rfl)
theorem tw95 {Z : State} {a0 : Array Value} (hw : ∀ d ∈ tables_1, d.before a0 Z = true) : ((Jvm.Cond.static ({ cls := "java/lang/StringUTF16", name := "coderFromArrayLen", desc := "([BI)B" } : Jvm.MethodName)) : Jvm.Cond).before a0 Z = true := hw _ (List.mem_of_getElem? (i := 95) rfl)
theorem tw96 {Z : State} {a0 : Array Value} (hw : ∀ d ∈ tables_1, d.before a0 Z = true) : ((Jvm.Cond.code ({ cls := "java/lang/StringUTF16", name := "coderFromArrayLen", desc := "([BI)B" } : Jvm.MethodName) jdk_52_method_15_code (2 : Nat) (Option.some Jvm.ClassFile.FieldType.byte)) : Jvm.Cond).before a0 Z = true := hw _ (List.mem_of_getElem? (i := 96) rfl)
theorem tw97 {Z : State} {a0 : Array Value} (hw : ∀ d ∈ tables_1, d.before a0 Z = true) : ((Jvm.Cond.methodLink "com/example/nuthatch/nuthatch/util/TextCompareCodePointsPinLaw" (48 : Nat) ({ cls := "com/example/nuthatch/nuthatch/util/TextCompareCodePointsPinLaw", name := "isHigh", desc := "(I)Z" } : Jvm.MethodName)) : Jvm.Cond).before a0 Z = true := hw _ (List.mem_of_getElem? (i := 97) rfl)
theorem tw98 {Z : State} {a0 : Array Value} (hw : ∀ d ∈ tables_1, d.before a0 Z = true) : ((Jvm.Cond.static ({ cls := "com/example/nuthatch/nuthatch/util/TextCompareCodePointsPinLaw", name := "isHigh", desc := "(I)Z" } : Jvm.MethodName)) : Jvm.Cond).before a0 Z = true := hw _ (List.mem_of_getElem? (i := 98) rfl)
theorem tw99 {Z : State} {a0 : Array Value} (hw : ∀ d ∈ tables_1, d.before a0 Z = true) : ((Jvm.Cond.code ({ cls := "com/example/nuthatch/nuthatch/util/TextCompareCodePointsPinLaw", name := "isHigh", desc := "(I)Z" } : Jvm.MethodName) method_6_code (1 : Nat) (Option.some Jvm.ClassFile.FieldType.boolean)) : Jvm.Cond).before a0 Z = true := hw _ (List.mem_of_getElem? (i := 99) rfl)
theorem tw100 {Z : State} {a0 : Array Value} (hw : ∀ d ∈ tables_1, d.before a0 Z = true) : ((Jvm.Cond.constant "com/example/nuthatch/nuthatch/util/TextCompareCodePointsPinLaw" (42 : Nat) (56319 : Int32)) : Jvm.Cond).before a0 Z = true := hw _ (List.mem_of_getElem? (i := 100) rfl)
theorem tw101 {Z : State} {a0 : Array Value} (hw : ∀ d ∈ tables_1, d.before a0 Z = true) : ((Jvm.Cond.methodLink "com/example/nuthatch/nuthatch/util/TextCompareCodePointsPinLaw" (62 : Nat) ({ cls := "com/example/nuthatch/nuthatch/util/TextCompareCodePointsPinLaw", name := "cmp", desc := "(II)I" } : Jvm.MethodName)) : Jvm.Cond).before a0 Z = true := hw _ (List.mem_of_getElem? (i := 101) rfl)
theorem tw102 {Z : State} {a0 : Array Value} (hw : ∀ d ∈ tables_1, d.before a0 Z = true) : ((Jvm.Cond.static ({ cls := "com/example/nuthatch/nuthatch/util/TextCompareCodePointsPinLaw", name := "cmp", desc := "(II)I" } : Jvm.MethodName)) : Jvm.Cond).before a0 Z = true := hw _ (List.mem_of_getElem? (i := 102) rfl)
theorem tw103 {Z : State} {a0 : Array Value} (hw : ∀ d ∈ tables_1, d.before a0 Z = true) : ((Jvm.Cond.code ({ cls := "com/example/nuthatch/nuthatch/util/TextCompareCodePointsPinLaw", name := "cmp", desc := "(II)I" } : Jvm.MethodName) method_10_code (2 : Nat) (Option.some Jvm.ClassFile.FieldType.int)) : Jvm.Cond).before a0 Z = true := hw _ (List.mem_of_getElem? (i := 103) rfl)
theorem tw104 {Z : State} {a0 : Array Value} (hw : ∀ d ∈ tables_1, d.before a0 Z = true) : ((Jvm.Cond.methodLink "com/example/nuthatch/nuthatch/util/Text" (155 : Nat) ({ cls := "java/lang/String", name := "codePointAt", desc := "(I)I" } : Jvm.MethodName)) : Jvm.Cond).before a0 Z = true := hw _ (List.mem_of_getElem? (i := 104) rfl)
theorem tw105 {Z : State} {a0 : Array Value} (hw : ∀ d ∈ tables_1, d.before a0 Z = true) : ((Jvm.Cond.declares ({ cls := "java/lang/String", name := "codePointAt", desc := "(I)I" } : Jvm.MethodName)) : Jvm.Cond).before a0 Z = true := hw _ (List.mem_of_getElem? (i := 105) rfl)
theorem tw106 {Z : State} {a0 : Array Value} (hw : ∀ d ∈ tables_1, d.before a0 Z = true) : ((Jvm.Cond.instanceMethod ({ cls := "java/lang/String", name := "codePointAt", desc := "(I)I" } : Jvm.MethodName)) : Jvm.Cond).before a0 Z = true := hw _ (List.mem_of_getElem? (i := 106) rfl)
theorem tw107 {Z : State} {a0 : Array Value} (hw : ∀ d ∈ tables_1, d.before a0 Z = true) : ((Jvm.Cond.selects "java/lang/String" ({ cls := "java/lang/String", name := "codePointAt", desc := "(I)I" } : Jvm.MethodName) ({ cls := "java/lang/String", name := "codePointAt", desc := "(I)I" } : Jvm.MethodName)) : Jvm.Cond).before a0 Z = true := hw _ (List.mem_of_getElem? (i := 107) rfl)
theorem tw108 {Z : State} {a0 : Array Value} (hw : ∀ d ∈ tables_1, d.before a0 Z = true) : ((Jvm.Cond.code ({ cls := "java/lang/String", name := "codePointAt", desc := "(I)I" } : Jvm.MethodName) jdk_42_method_57_code (3 : Nat) (Option.some Jvm.ClassFile.FieldType.int)) : Jvm.Cond).before a0 Z = true := hw _ (List.mem_of_getElem? (i := 108) rfl)
theorem tw109 {Z : State} {a0 : Array Value} (hw : ∀ d ∈ tables_1, d.before a0 Z = true) : ((Jvm.Cond.methodLink "java/lang/String" (492 : Nat) ({ cls := "java/lang/String", name := "isLatin1", desc := "()Z" } : Jvm.MethodName)) : Jvm.Cond).before a0 Z = true := hw _ (List.mem_of_getElem? (i := 109) rfl)
theorem tw110 {Z : State} {a0 : Array Value} (hw : ∀ d ∈ tables_1, d.before a0 Z = true) : ((Jvm.Cond.declares ({ cls := "java/lang/String", name := "isLatin1", desc := "()Z" } : Jvm.MethodName)) : Jvm.Cond).before a0 Z = true := hw _ (List.mem_of_getElem? (i := 110) rfl)
theorem tw111 {Z : State} {a0 : Array Value} (hw : ∀ d ∈ tables_1, d.before a0 Z = true) : ((Jvm.Cond.instanceMethod ({ cls := "java/lang/String", name := "isLatin1", desc := "()Z" } : Jvm.MethodName)) : Jvm.Cond).before a0 Z = true := hw _ (List.mem_of_getElem? (i := 111) rfl)
theorem tw112 {Z : State} {a0 : Array Value} (hw : ∀ d ∈ tables_1, d.before a0 Z = true) : ((Jvm.Cond.selects "java/lang/String" ({ cls := "java/lang/String", name := "isLatin1", desc := "()Z" } : Jvm.MethodName) ({ cls := "java/lang/String", name := "isLatin1", desc := "()Z" } : Jvm.MethodName)) : Jvm.Cond).before a0 Z = true := hw _ (List.mem_of_getElem? (i := 112) rfl)
theorem tw113 {Z : State} {a0 : Array Value} (hw : ∀ d ∈ tables_1, d.before a0 Z = true) : ((Jvm.Cond.code ({ cls := "java/lang/String", name := "isLatin1", desc := "()Z" } : Jvm.MethodName) jdk_42_method_154_code (1 : Nat) (Option.some Jvm.ClassFile.FieldType.boolean)) : Jvm.Cond).before a0 Z = true := hw _ (List.mem_of_getElem? (i := 113) rfl)
theorem tw114 {Z : State} {a0 : Array Value} (hw : ∀ d ∈ tables_1, d.before a0 Z = true) : ((Jvm.Cond.methodLink "java/lang/String" (499 : Nat) ({ cls := "java/lang/String", name := "checkIndex", desc := "(II)V" } : Jvm.MethodName)) : Jvm.Cond).before a0 Z = true := hw _ (List.mem_of_getElem? (i := 114) rfl)
theorem tw115 {Z : State} {a0 : Array Value} (hw : ∀ d ∈ tables_1, d.before a0 Z = true) : ((Jvm.Cond.static ({ cls := "java/lang/String", name := "checkIndex", desc := "(II)V" } : Jvm.MethodName)) : Jvm.Cond).before a0 Z = true := hw _ (List.mem_of_getElem? (i := 115) rfl)
theorem tw116 {Z : State} {a0 : Array Value} (hw : ∀ d ∈ tables_1, d.before a0 Z = true) : ((Jvm.Cond.code ({ cls := "java/lang/String", name := "checkIndex", desc := "(II)V" } : Jvm.MethodName) jdk_42_method_155_code (2 : Nat) (Option.none : Option Jvm.ClassFile.FieldType)) : Jvm.Cond).before a0 Z = true := hw _ (List.mem_of_getElem? (i := 116) rfl)
theorem tw117 {Z : State} {a0 : Array Value} (hw : ∀ d ∈ tables_1, d.before a0 Z = true) : ((Jvm.Cond.fieldLink "java/lang/String" (1053 : Nat) "jdk/internal/util/Preconditions" "SIOOBE_FORMATTER" "Ljava/util/function/BiFunction;") : Jvm.Cond).before a0 Z = true := hw _ (List.mem_of_getElem? (i := 117) rfl)
theorem tw118 {Z : State} {a0 : Array Value} (hw : ∀ d ∈ tables_1, d.before a0 Z = true) : ((Jvm.Cond.initialized "jdk/internal/util/Preconditions") : Jvm.Cond).before a0 Z = true := hw _ (List.mem_of_getElem? (i := 118) rfl)
theorem tw119 {Z : State} {a0 : Array Value} (hw : ∀ d ∈ tables_1, d.before a0 Z = true) : ((Jvm.Cond.methodLink "java/lang/String" (1059 : Nat) ({ cls := "jdk/internal/util/Preconditions", name := "checkIndex", desc := "(IILjava/util/function/BiFunction;)I" } : Jvm.MethodName)) : Jvm.Cond).before a0 Z = true := hw _ (List.mem_of_getElem? (i := 119) rfl)
theorem tw120 {Z : State} {a0 : Array Value} (hw : ∀ d ∈ tables_1, d.before a0 Z = true) : ((Jvm.Cond.static ({ cls := "jdk/internal/util/Preconditions", name := "checkIndex", desc := "(IILjava/util/function/BiFunction;)I" } : Jvm.MethodName)) : Jvm.Cond).before a0 Z = true := hw _ (List.mem_of_getElem? (i := 120) rfl)
theorem tw121 {Z : State} {a0 : Array Value} (hw : ∀ d ∈ tables_1, d.before a0 Z = true) : ((Jvm.Cond.code ({ cls := "jdk/internal/util/Preconditions", name := "checkIndex", desc := "(IILjava/util/function/BiFunction;)I" } : Jvm.MethodName) jdk_41_method_11_code (3 : Nat) (Option.some Jvm.ClassFile.FieldType.int)) : Jvm.Cond).before a0 Z = true := hw _ (List.mem_of_getElem? (i := 121) rfl)
theorem tw122 {Z : State} {a0 : Array Value} (hw : ∀ d ∈ tables_1, d.before a0 Z = true) : ((Jvm.Cond.methodLink "java/lang/String" (502 : Nat) ({ cls := "java/lang/StringUTF16", name := "codePointAt", desc := "([BII)I" } : Jvm.MethodName)) : Jvm.Cond).before a0 Z = true := hw _ (List.mem_of_getElem? (i := 122) rfl)
theorem tw123 {Z : State} {a0 : Array Value} (hw : ∀ d ∈ tables_1, d.before a0 Z = true) : ((Jvm.Cond.static ({ cls := "java/lang/StringUTF16", name := "codePointAt", desc := "([BII)I" } : Jvm.MethodName)) : Jvm.Cond).before a0 Z = true := hw _ (List.mem_of_getElem? (i := 123) rfl)
theorem tw124 {Z : State} {a0 : Array Value} (hw : ∀ d ∈ tables_1, d.before a0 Z = true) : ((Jvm.Cond.code ({ cls := "java/lang/StringUTF16", name := "codePointAt", desc := "([BII)I" } : Jvm.MethodName) jdk_52_method_8_code (3 : Nat) (Option.some Jvm.ClassFile.FieldType.int)) : Jvm.Cond).before a0 Z = true := hw _ (List.mem_of_getElem? (i := 124) rfl)
theorem tw125 {Z : State} {a0 : Array Value} (hw : ∀ d ∈ tables_1, d.before a0 Z = true) : ((Jvm.Cond.methodLink "java/lang/StringUTF16" (88 : Nat) ({ cls := "java/lang/StringUTF16", name := "codePointAt", desc := "([BIIZ)I" } : Jvm.MethodName)) : Jvm.Cond).before a0 Z = true := hw _ (List.mem_of_getElem? (i := 125) rfl)
theorem tw126 {Z : State} {a0 : Array Value} (hw : ∀ d ∈ tables_1, d.before a0 Z = true) : ((Jvm.Cond.static ({ cls := "java/lang/StringUTF16", name := "codePointAt", desc := "([BIIZ)I" } : Jvm.MethodName)) : Jvm.Cond).before a0 Z = true := hw _ (List.mem_of_getElem? (i := 126) rfl)
theorem tw127 {Z : State} {a0 : Array Value} (hw : ∀ d ∈ tables_1, d.before a0 Z = true) : ((Jvm.Cond.code ({ cls := "java/lang/StringUTF16", name := "codePointAt", desc := "([BIIZ)I" } : Jvm.MethodName) jdk_52_method_7_code (6 : Nat) (Option.some Jvm.ClassFile.FieldType.int)) : Jvm.Cond).before a0 Z = true := hw _ (List.mem_of_getElem? (i := 127) rfl)
theorem tw128 {Z : State} {a0 : Array Value} (hw : ∀ d ∈ tables_1, d.before a0 Z = true) : ((Jvm.Cond.methodLink "java/lang/StringUTF16" (75 : Nat) ({ cls := "java/lang/Character", name := "isHighSurrogate", desc := "(C)Z" } : Jvm.MethodName)) : Jvm.Cond).before a0 Z = true := hw _ (List.mem_of_getElem? (i := 128) rfl)
theorem tw129 {Z : State} {a0 : Array Value} (hw : ∀ d ∈ tables_1, d.before a0 Z = true) : ((Jvm.Cond.static ({ cls := "java/lang/Character", name := "isHighSurrogate", desc := "(C)Z" } : Jvm.MethodName)) : Jvm.Cond).before a0 Z = true := hw _ (List.mem_of_getElem? (i := 129) rfl)
theorem tw130 {Z : State} {a0 : Array Value} (hw : ∀ d ∈ tables_1, d.before a0 Z = true) : ((Jvm.Cond.initialized "java/lang/Character") : Jvm.Cond).before a0 Z = true := hw _ (List.mem_of_getElem? (i := 130) rfl)
theorem tw131 {Z : State} {a0 : Array Value} (hw : ∀ d ∈ tables_1, d.before a0 Z = true) : ((Jvm.Cond.code ({ cls := "java/lang/Character", name := "isHighSurrogate", desc := "(C)Z" } : Jvm.MethodName) jdk_89_method_14_code (1 : Nat) (Option.some Jvm.ClassFile.FieldType.boolean)) : Jvm.Cond).before a0 Z = true := hw _ (List.mem_of_getElem? (i := 131) rfl)
theorem tw132 {Z : State} {a0 : Array Value} (hw : ∀ d ∈ tables_1, d.before a0 Z = true) : ((Jvm.Cond.constant "java/lang/Character" (75 : Nat) (55296 : Int32)) : Jvm.Cond).before a0 Z = true := hw _ (List.mem_of_getElem? (i := 132) rfl)
theorem tw133 {Z : State} {a0 : Array Value} (hw : ∀ d ∈ tables_1, d.before a0 Z = true) : ((Jvm.Cond.methodLink "com/example/nuthatch/nuthatch/util/Text" (161 : Nat) ({ cls := "java/lang/Character", name := "charCount", desc := "(I)I" } : Jvm.MethodName)) : Jvm.Cond).before a0 Z = true := hw _ (List.mem_of_getElem? (i := 133) rfl)
theorem tw134 {Z : State} {a0 : Array Value} (hw : ∀ d ∈ tables_1, d.before a0 Z = true) : ((Jvm.Cond.static ({ cls := "java/lang/Character", name := "charCount", desc := "(I)I" } : Jvm.MethodName)) : Jvm.Cond).before a0 Z = true := hw _ (List.mem_of_getElem? (i := 134) rfl)
theorem tw135 {Z : State} {a0 : Array Value} (hw : ∀ d ∈ tables_1, d.before a0 Z = true) : ((Jvm.Cond.code ({ cls := "java/lang/Character", name := "charCount", desc := "(I)I" } : Jvm.MethodName) jdk_89_method_18_code (1 : Nat) (Option.some Jvm.ClassFile.FieldType.int)) : Jvm.Cond).before a0 Z = true := hw _ (List.mem_of_getElem? (i := 135) rfl)
theorem tw136 {Z : State} {a0 : Array Value} (hw : ∀ d ∈ tables_1, d.before a0 Z = true) : ((Jvm.Cond.constant "java/lang/Character" (73 : Nat) (65536 : Int32)) : Jvm.Cond).before a0 Z = true := hw _ (List.mem_of_getElem? (i := 136) rfl)
theorem tw137 {Z : State} {a0 : Array Value} (hw : ∀ d ∈ tables_1, d.before a0 Z = true) : ((Jvm.Cond.constant "java/lang/Character" (76 : Nat) (56320 : Int32)) : Jvm.Cond).before a0 Z = true := hw _ (List.mem_of_getElem? (i := 137) rfl)
theorem tw138 {Z : State} {a0 : Array Value} (hw : ∀ d ∈ tables_1, d.before a0 Z = true) : ((Jvm.Cond.methodLink "com/example/nuthatch/nuthatch/util/TextCompareCodePointsPinLaw" (52 : Nat) ({ cls := "com/example/nuthatch/nuthatch/util/TextCompareCodePointsPinLaw", name := "isLow", desc := "(I)Z" } : Jvm.MethodName)) : Jvm.Cond).before a0 Z = true := hw _ (List.mem_of_getElem? (i := 138) rfl)
theorem tw139 {Z : State} {a0 : Array Value} (hw : ∀ d ∈ tables_1, d.before a0 Z = true) : ((Jvm.Cond.static ({ cls := "com/example/nuthatch/nuthatch/util/TextCompareCodePointsPinLaw", name := "isLow", desc := "(I)Z" } : Jvm.MethodName)) : Jvm.Cond).before a0 Z = true := hw _ (List.mem_of_getElem? (i := 139) rfl)
theorem tw140 {Z : State} {a0 : Array Value} (hw : ∀ d ∈ tables_1, d.before a0 Z = true) : ((Jvm.Cond.code ({ cls := "com/example/nuthatch/nuthatch/util/TextCompareCodePointsPinLaw", name := "isLow", desc := "(I)Z" } : Jvm.MethodName) method_7_code (1 : Nat) (Option.some Jvm.ClassFile.FieldType.boolean)) : Jvm.Cond).before a0 Z = true := hw _ (List.mem_of_getElem? (i := 140) rfl)
theorem tw141 {Z : State} {a0 : Array Value} (hw : ∀ d ∈ tables_1, d.before a0 Z = true) : ((Jvm.Cond.constant "com/example/nuthatch/nuthatch/util/TextCompareCodePointsPinLaw" (43 : Nat) (57343 : Int32)) : Jvm.Cond).before a0 Z = true := hw _ (List.mem_of_getElem? (i := 141) rfl)
theorem tw142 {Z : State} {a0 : Array Value} (hw : ∀ d ∈ tables_1, d.before a0 Z = true) : ((Jvm.Cond.methodLink "java/lang/StringUTF16" (81 : Nat) ({ cls := "java/lang/Character", name := "isLowSurrogate", desc := "(C)Z" } : Jvm.MethodName)) : Jvm.Cond).before a0 Z = true := hw _ (List.mem_of_getElem? (i := 142) rfl)
theorem tw143 {Z : State} {a0 : Array Value} (hw : ∀ d ∈ tables_1, d.before a0 Z = true) : ((Jvm.Cond.static ({ cls := "java/lang/Character", name := "isLowSurrogate", desc := "(C)Z" } : Jvm.MethodName)) : Jvm.Cond).before a0 Z = true := hw _ (List.mem_of_getElem? (i := 143) rfl)
theorem tw144 {Z : State} {a0 : Array Value} (hw : ∀ d ∈ tables_1, d.before a0 Z = true) : ((Jvm.Cond.code ({ cls := "java/lang/Character", name := "isLowSurrogate", desc := "(C)Z" } : Jvm.MethodName) jdk_89_method_15_code (1 : Nat) (Option.some Jvm.ClassFile.FieldType.boolean)) : Jvm.Cond).before a0 Z = true := hw _ (List.mem_of_getElem? (i := 144) rfl)
theorem tw145 {Z : State} {a0 : Array Value} (hw : ∀ d ∈ tables_1, d.before a0 Z = true) : ((Jvm.Cond.constant "java/lang/Character" (77 : Nat) (57344 : Int32)) : Jvm.Cond).before a0 Z = true := hw _ (List.mem_of_getElem? (i := 145) rfl)
theorem tw146 {Z : State} {a0 : Array Value} (hw : ∀ d ∈ tables_1, d.before a0 Z = true) : ((Jvm.Cond.methodLink "java/lang/StringUTF16" (84 : Nat) ({ cls := "java/lang/Character", name := "toCodePoint", desc := "(CC)I" } : Jvm.MethodName)) : Jvm.Cond).before a0 Z = true := hw _ (List.mem_of_getElem? (i := 146) rfl)
theorem tw147 {Z : State} {a0 : Array Value} (hw : ∀ d ∈ tables_1, d.before a0 Z = true) : ((Jvm.Cond.static ({ cls := "java/lang/Character", name := "toCodePoint", desc := "(CC)I" } : Jvm.MethodName)) : Jvm.Cond).before a0 Z = true := hw _ (List.mem_of_getElem? (i := 147) rfl)
theorem tw148 {Z : State} {a0 : Array Value} (hw : ∀ d ∈ tables_1, d.before a0 Z = true) : ((Jvm.Cond.code ({ cls := "java/lang/Character", name := "toCodePoint", desc := "(CC)I" } : Jvm.MethodName) jdk_89_method_19_code (2 : Nat) (Option.some Jvm.ClassFile.FieldType.int)) : Jvm.Cond).before a0 Z = true := hw _ (List.mem_of_getElem? (i := 148) rfl)
theorem tw149 {Z : State} {a0 : Array Value} (hw : ∀ d ∈ tables_1, d.before a0 Z = true) : ((Jvm.Cond.constant "java/lang/Character" (85 : Nat) (-56613888 : Int32)) : Jvm.Cond).before a0 Z = true := hw _ (List.mem_of_getElem? (i := 149) rfl)
def JJ (Z : State) (h : Heap) (vm : Vm) : Prop := IB Z vm [] ∨ ∃ (a b : Addr) (k : ClassId), Lit (Z.setVm vm) "java/lang/String" 7 a ∧ Exa Z h a "java/lang/String" ∧ Fld Z h a "java/lang/String" "coder" "B" (.int 0) ∧ Fld Z h a "java/lang/String" "value" "[B" (.ref b) ∧ Arv Z h b k .byte (0 : Int32) [] (.int 0)
theorem own_lit {Z s : State} {vm : Vm} {own : String} {i : Nat} {a : Addr} (L : Lit (Z.setVm vm) own i a) : Lit (s.setVm vm) own i a := L
theorem JJ.warm {Z s : State} {h : Heap} {vm' : Vm} (J : JJ Z h s.vm) (W : s.WarmedH vm') : JJ Z h vm' := by
  rcases J with ⟨more, h1, h2⟩ | ⟨a, b, k, L, r⟩
  · exact Or.inl ⟨more, by rw [W.interned_eq]; exact h1, h2⟩
  · exact Or.inr ⟨a, b, k, own_lit (Z := s) (Lit.stays (s := s) (vm0 := s.vm) (own_lit (Z := Z) L) W.wide), r⟩
theorem JJ.keep {Z : State} {h h' : Heap} {vm : Vm} (J : JJ Z h vm) (K : Keep h h' []) : JJ Z h' vm := by
  rcases J with I | ⟨a, b, k, L, E, F, V, A⟩
  · exact Or.inl I
  · exact Or.inr ⟨a, b, k, L, E.keep K, F.keep K nin0, V.keep K nin0, A.keep K nin0⟩
section BackV
variable {p : Program} {l : Launch} {e : Env} {R : Room} {s : State} {args : Array Value} {below : List Frame} {Z : State} {a0 : Array Value} {h : Heap}
theorem own_backV {y : MethodName} {bytes : ByteArray} {maxL : Nat} {ret : Option FieldType} {rm : Room} {len W : Nat} {as' : Array Value} {Q : Option Value → Heap → Vm → List Loc → Prop}
    (hM : MetFree l y (head1 [Jvm.Cond.code y bytes maxL ret] rm) (fun a U => a = as' ∧ Z.Warmed39 U.vm ∧ U.heap = h ∧ JJ Z h U.vm) (fun _ _ _ _ _ => True) (fun _ U o U' => ∃ v L, o = .returned v ∧ Q v U'.heap U'.vm L ∧ ReturnedEndW U o U' L rm.cells rm.slots))
    (hZ : Z.Warmed39 s.vm) (hJ : JJ Z h s.vm) (wc : (Jvm.Cond.code y bytes maxL ret).before a0 Z = true) (wz : (Jvm.Cond.initialized y.cls).before a0 Z = true) (hf : rm.frames + 1 ≤ R.frames) (hl : W + (maxL + 11) + rm.locals ≤ R.locals) :
    BackS l R p e below s args y len W (fun A a => a = as' ∧ A.U.heap = h ∧ A.cells + rm.cells ≤ R.cells ∧ A.slots + rm.slots ≤ R.slots)
      (fun A _ v B => ∃ L, Q v B.U.heap B.U.vm L ∧ B.locs = A.locs ++ L ∧ B.cells = A.cells + rm.cells ∧ B.slots = A.slots + rm.slots) :=
  BackS.of_freeW (bytes := bytes) (maxL := maxL) (ret := ret) (E := fun _ _ o t L k n => k = rm.cells ∧ n = rm.slots ∧ ∃ v, o = .returned v ∧ Q v t.heap t.vm L) hM hf hl
    (fun m meth c A a Y hp => have hU : Z.Warmed39 A.U.vm := wtrans hZ Y.warmed
      ⟨by show (Jvm.Cond.and _ .tt).before a A.U = true; rw [Cond.before_and, mv hU wc]; rfl, mv hU wc, mv hU wz, hp.2.2.1, hp.2.2.2⟩)
    (fun m meth c A a g mk Y hp => ⟨hp.1, wtrans hZ Y.warmed, hp.2.1, JJ.warm hJ Y.warmed⟩) (fun _ _ _ _ _ _ _ _ _ => trivial)
    (fun _ _ _ _ ⟨v, L, h1, h2, h3⟩ => ⟨L, _, _, h3, rfl, rfl, v, h1, h2⟩)
    (fun m meth c A a g mk v t L k n Y hp _ _ ⟨e1, e2, v', e3, e4⟩ => by cases e3; subst e1 e2; exact ⟨L, e4, rfl, rfl, rfl⟩)
end BackV
def C16 (c : Int32) : Prop := ¬ c < 0 ∧ ¬ (65535 : Int32) < c ∧ nar .char c = c
theorem own_at {cs : List Int32} {P : Int32 → Prop} (h : ∀ c ∈ cs, P c) {k : Nat} (hk : k < cs.length) : P (cs.getD k 0) := by
  rw [List.getD_eq_getElem?_getD, List.getElem?_eq_getElem hk]; exact h _ (List.getElem_mem hk)
theorem own_inc (i : Nat) : Int32.ofNat i + (1 : Int32) = Int32.ofNat (i + 1) := (Int32.ofNat_add i 1).symm
theorem own_inc2 (i : Nat) : Int32.ofNat i + (2 : Int32) = Int32.ofNat (i + 2) := (Int32.ofNat_add i 2).symm
theorem own_shl {k m : Nat} (h : k < m) (hm : m ≤ 3) : (Int32.ofNat k <<< ((1 : Int32) &&& 31)) = Int32.ofNat (2 * k) := by
  have t : ∀ k : Fin 3, (Int32.ofNat k.val <<< ((1 : Int32) &&& 31)) = Int32.ofNat (2 * k.val) := by decide +kernel
  exact t ⟨k, by omega⟩
theorem own_num : ∀ k : Fin 8, ¬ Int32.ofNat k.val < 0 ∧ (Int32.ofNat k.val).toNatClampNeg = k.val := by decide +kernel
theorem own_ltn : ∀ k n : Fin 8, (Int32.ofNat k.val < Int32.ofNat n.val) ↔ k.val < n.val := by decide +kernel
theorem own_nn {k : Nat} (h : k < 8) : ¬ Int32.ofNat k < 0 := (own_num ⟨k, h⟩).1
theorem own_cl {k : Nat} (h : k < 8) : (Int32.ofNat k).toNatClampNeg = k := (own_num ⟨k, h⟩).2
theorem own_lt {k n : Nat} (hn : n < 8) (h : k < n) : Int32.ofNat k < Int32.ofNat n := (own_ltn ⟨k, by omega⟩ ⟨n, hn⟩).mpr h
theorem own_nlt {k n : Nat} (hk : k < 8) (hn : n < 8) (h : ¬ k < n) : ¬ (Int32.ofNat k < Int32.ofNat n) := fun q => h ((own_ltn ⟨k, hk⟩ ⟨n, hn⟩).mp q)
theorem own_narb (x : Int32) : nar .byte (x.toInt8.toInt32) = x.toInt8.toInt32 := by
  have h : x.toInt8.toInt32.toInt8 = x.toInt8 := by simp
  show x.toInt8.toInt32.toInt8.toInt32 = _
  rw [h]
theorem own_lo (c : Int32) : nar .byte ((c >>> ((0 : Int32) &&& 31)).toInt8.toInt32) = StrChars.lo8 c := by rw [StrChars.shr0]; exact own_narb c
theorem own_hi (c : Int32) : nar .byte ((c >>> ((8 : Int32) &&& 31)).toInt8.toInt32) = StrChars.hi8 c := own_narb _
theorem own_gc {c : Int32} (h : C16 c) : nar .char (((((StrChars.lo8 c) &&& (255 : Int32)) <<< ((0 : Int32) &&& 31)) ||| (((StrChars.hi8 c) &&& (255 : Int32)) <<< ((8 : Int32) &&& 31))).toUInt32.toUInt16.toUInt32.toInt32) = c :=
  (congrArg (nar .char) (show StrChars.pairCh (StrChars.lo8 c) (StrChars.hi8 c) = c from StrChars.pair_says h.1 h.2.1)).trans h.2.2
abbrev G_gC (m : MethodId) (a1 : Addr) (k : Nat) : JFrame := (entryFrame m #[(.ref a1), (.int (Int32.ofNat k))] 2)
theorem d21_0 : decode jdk_52_method_5_code 0 = .ok (.getstatic 44, 3) := by decide +kernel
theorem d21_3 : decode jdk_52_method_5_code 3 = .ok (.ifCond .ne 25, 3) := by decide +kernel
theorem d21_28 : decode jdk_52_method_5_code 28 = .ok (.iload_n 1, 1) := by decide +kernel
theorem d21_29 : decode jdk_52_method_5_code 29 = .ok (.iconst 1, 1) := by decide +kernel
theorem d21_30 : decode jdk_52_method_5_code 30 = .ok (.ishl, 1) := by decide +kernel
theorem d21_31 : decode jdk_52_method_5_code 31 = .ok (.istore_n 1, 1) := by decide +kernel
theorem d21_32 : decode jdk_52_method_5_code 32 = .ok (.aload_n 0, 1) := by decide +kernel
theorem d21_33 : decode jdk_52_method_5_code 33 = .ok (.iload_n 1, 1) := by decide +kernel
theorem d21_34 : decode jdk_52_method_5_code 34 = .ok (.iinc 1 1, 3) := by decide +kernel
theorem d21_37 : decode jdk_52_method_5_code 37 = .ok (.baload, 1) := by decide +kernel
theorem d21_38 : decode jdk_52_method_5_code 38 = .ok (.sipush 255, 3) := by decide +kernel
theorem d21_41 : decode jdk_52_method_5_code 41 = .ok (.iand, 1) := by decide +kernel
theorem d21_42 : decode jdk_52_method_5_code 42 = .ok (.getstatic 59, 3) := by decide +kernel
theorem d21_45 : decode jdk_52_method_5_code 45 = .ok (.ishl, 1) := by decide +kernel
theorem d21_46 : decode jdk_52_method_5_code 46 = .ok (.aload_n 0, 1) := by decide +kernel
theorem d21_47 : decode jdk_52_method_5_code 47 = .ok (.iload_n 1, 1) := by decide +kernel
theorem d21_48 : decode jdk_52_method_5_code 48 = .ok (.baload, 1) := by decide +kernel
theorem d21_49 : decode jdk_52_method_5_code 49 = .ok (.sipush 255, 3) := by decide +kernel
theorem d21_52 : decode jdk_52_method_5_code 52 = .ok (.iand, 1) := by decide +kernel
theorem d21_53 : decode jdk_52_method_5_code 53 = .ok (.getstatic 63, 3) := by decide +kernel
theorem d21_56 : decode jdk_52_method_5_code 56 = .ok (.ishl, 1) := by decide +kernel
theorem d21_57 : decode jdk_52_method_5_code 57 = .ok (.ior, 1) := by decide +kernel
theorem d21_58 : decode jdk_52_method_5_code 58 = .ok (.i2c, 1) := by decide +kernel
theorem d21_59 : decode jdk_52_method_5_code 59 = .ok (.ireturn, 1) := by decide +kernel
def Q_gC (Z : State) (a1 : Addr) (k mz : Nat) (cc : Int32) (kB : ClassId) (vs : List Value) (h0 : Heap) (n0 : Nat) (v : Option Value) (h : Heap) (L : List Loc) : Prop := v = some (.int cc) ∧ Fr n0 L ∧ h = h0
theorem pn_java_lang_StringUTF16 : plainName "java/lang/StringUTF16" = true := by first | (simp [plainName, overriddenIn]; done) | decide +kernel
set_option maxRecDepth 65536 in
set_option maxHeartbeats 40000000 in
theorem gC (l : Launch) (Z : State) (a0 : Array Value) (hw : ∀ d ∈ tables_1, d.before a0 Z = true) (ws : List Jvm.Cond) (a1 : Addr) (k mz : Nat) (cc : Int32) (kB : ClassId) (vs : List Value) (h0 : Heap) (n0 : Nat) (Z0 : n0 ≤ h0.size) (O0 : Old Z n0 h0) (AD : Sta Z Z.heap "java/lang/StringUTF16" "$assertionsDisabled" "Z" (.int (1 : Int32))) (HI : Sta Z Z.heap "java/lang/StringUTF16" "HI_BYTE_SHIFT" "I" (.int (0 : Int32))) (LO : Sta Z Z.heap "java/lang/StringUTF16" "LO_BYTE_SHIFT" "I" (.int (8 : Int32))) (VA : Arv Z h0 a1 kB .byte (Int32.ofNat (2 * mz)) vs (.int (0 : Int32))) (hkm : k < mz) (hm : mz ≤ 3) (hlo : vs.getD (2 * k) (.int 0) = .int (StrChars.lo8 cc)) (hhi : vs.getD (2 * k + 1) (.int 0) = .int (StrChars.hi8 cc)) (hc : C16 cc) :
    MetFree l (⟨"java/lang/StringUTF16", "getChar", "([BI)C"⟩ : MethodName) (head1 (Jvm.Cond.code (⟨"java/lang/StringUTF16", "getChar", "([BI)C"⟩ : MethodName) jdk_52_method_5_code 2 (some .char) :: ws) ({ frames := 0, cells := 0, slots := 0, locals := 0 } : Room)) (fun a U => a = #[(.ref a1), (.int (Int32.ofNat k))] ∧ Z.Warmed39 U.vm ∧ U.heap = h0) (fun _ _ _ _ _ => True) (fun _ U o U' => ∃ v L, o = .returned v ∧ Q_gC Z a1 k mz cc kB vs h0 n0 v U'.heap L ∧ FrameEnd U o U' L ({ frames := 0, cells := 0, slots := 0, locals := 0 } : Room).cells ({ frames := 0, cells := 0, slots := 0, locals := 0 } : Room).slots) := by
  refine MetFree.of_bodySF (plainFor_of_name pn_java_lang_StringUTF16) hisR ?_
  intro p e s m args below meth c s₁ Bd hml0 hP hK
  obtain ⟨rfl, hZ, hh⟩ := hP
  have hx := Bd.exec
  have hby := Bd.bytes
  have hml : c.maxLocals = 2 := hml0
  have hown : s.vm.findClass "java/lang/StringUTF16" = some m.cls := findClass_of_methodNamed Bd.named
  have hnm := (name_of_methodNamed Bd.named Bd.method).1
  have X0 : Stand p l e ({ frames := 0, cells := 0, slots := 0, locals := 0 } : Room) s m #[(.ref a1), (.int (Int32.ofNat k))] below meth c s₁ [] 0 0 := Stand.of_body Bd
  have e0 : s₁.heap = h0 := by rw [← hh, Bd.state]; rfl
  have N0 := Fr.nil n0
  have go0 : Goes p e below s₁ (G_gC m a1 k) s₁ (mkF m 0 #[vR a1, vI (Int32.ofNat k)] []) := fun tq kq => castTop (by first | (simp [entryFrame, mkF, argsToLocals, Value.category, vI, vJ, vR, vD, vN, uN, sD, G_gC]; done) | rfl) kq
  obtain ⟨T1, X1, e1, st1⟩ := getS2 X0 hx hZ hown (host := "") (Or.inl (tw88 hw)) Via.refl e0 (AD.ext O0.2) (g := (mkF m 0 #[vR a1, vI (Int32.ofNat k)] [])) rfl (hb hby d21_0)
  have go1 : Goes p e below s₁ (G_gC m a1 k) T1 (mkF m 3 #[vR a1, vI (Int32.ofNat k)] [(.int (1 : Int32))]) := fun tq kq => go0 tq (st1 _ kq)
  have go2 : Goes p e below s₁ (G_gC m a1 k) T1 (mkF m 32 #[vR a1, vI ((Int32.ofNat k) <<< ((1 : Int32) &&& 31))] []) := fun tq kq => go1 tq (by
    show Sx p e below T1 (mkF m 3 #[vR a1, vI (Int32.ofNat k)] [(.int (1 : Int32))]) _
    refine XS.ifYes X1.here hx rfl (pc0 := 3) (pc' := 28) rfl (hb hby d21_3) rfl ((if0 _ _).trans (feq (by decide)).2) (by decide) (by decide) ?_
    refine XS.iloadN X1.here hx rfl (hb hby d21_28) rfl ?_
    show Sx p e below T1 (mkF m 29 #[vR a1, vI (Int32.ofNat k)] [(.int (Int32.ofNat k))]) _
    refine XS.iconst X1.here hx rfl (hb hby d21_29) ?_
    refine XS.ishl X1.here hx rfl (hb hby d21_30) rfl ?_
    show Sx p e below T1 (mkF m 31 #[vR a1, vI (Int32.ofNat k)] [(.int ((Int32.ofNat k) <<< ((1 : Int32) &&& 31)))]) _
    refine XS.istoreN X1.here hx rfl (hb hby d21_31) rfl (l' := #[vR a1, vI ((Int32.ofNat k) <<< ((1 : Int32) &&& 31))]) rfl ?_
    exact kq)
  rw [own_shl hkm hm] at go2
  have go3 : Goes p e below s₁ (G_gC m a1 k) T1 (mkF m 37 #[vR a1, vI ((Int32.ofNat (2 * k)) + (1 : Int32))] [(.int (Int32.ofNat (2 * k))), (.ref a1)]) := fun tq kq => go2 tq (by
    show Sx p e below T1 (mkF m 32 #[vR a1, vI (Int32.ofNat (2 * k))] []) _
    refine XS.aloadN X1.here hx rfl (hb hby d21_32) rfl rfl ?_
    show Sx p e below T1 (mkF m 33 #[vR a1, vI (Int32.ofNat (2 * k))] [(.ref a1)]) _
    refine XS.iloadN X1.here hx rfl (hb hby d21_33) rfl ?_
    refine XS.iinc X1.here hx rfl (hb hby d21_34) rfl (l' := #[vR a1, vI ((Int32.ofNat (2 * k)) + (1 : Int32))]) rfl ?_
    exact kq)
  rw [own_inc] at go3
  obtain ⟨cl4, Ar4, q4, S4, N_4, H4, G4⟩ := id (VA)
  have hin4 : ¬ ((Int32.ofNat (2 * k)) < 0 ∨ cl4.slots.size ≤ ((Int32.ofNat (2 * k))).toNatClampNeg) := inb_of S4 ⟨own_nn (by omega), own_lt (by omega) (by omega)⟩
  have hat4 := Has.at H4 hin4 (v := (.int (StrChars.lo8 cc))) (by rw [own_cl (by omega)]; exact hlo)
  have go5 : Goes p e below s₁ (G_gC m a1 k) T1 (mkF m 42 #[vR a1, vI (Int32.ofNat (2 * k + 1))] [(.int ((StrChars.lo8 cc) &&& (255 : Int32)))]) := fun tq kq => go3 tq (by
    show Sx p e below T1 (mkF m 37 #[vR a1, vI (Int32.ofNat (2 * k + 1))] [(.int (Int32.ofNat (2 * k))), (.ref a1)]) _
    refine X1.baloadBytes hx (j := (Int32.ofNat (2 * k))) (v := (.int (StrChars.lo8 cc))) (by rw [e1]; exact Ar4.1) (State.isArrayOf_alike hZ.alike Ar4.2.1) Ar4.2.2 hin4 hat4 (g := (mkF m 37 #[vR a1, vI (Int32.ofNat (2 * k + 1))] [(.int (Int32.ofNat (2 * k))), (.ref a1)])) rfl rfl (hb hby d21_37) _ ?_
    refine XS.sipush X1.here hx rfl (hb hby d21_38) ?_
    show Sx p e below T1 (mkF m 41 #[vR a1, vI (Int32.ofNat (2 * k + 1))] [(.int (255 : Int32)), (.int (StrChars.lo8 cc))]) _
    refine XS.iand X1.here hx rfl (hb hby d21_41) rfl ?_
    exact kq)
  obtain ⟨T6, X6, e6, st6⟩ := getS2 X1 hx hZ hown (host := "") (Or.inl (tw89 hw)) Via.refl e1 (HI.ext O0.2) (g := (mkF m 42 #[vR a1, vI (Int32.ofNat (2 * k + 1))] [(.int ((StrChars.lo8 cc) &&& (255 : Int32)))])) rfl (hb hby d21_42)
  have go6 : Goes p e below s₁ (G_gC m a1 k) T6 (mkF m 45 #[vR a1, vI (Int32.ofNat (2 * k + 1))] [(.int (0 : Int32)), (.int ((StrChars.lo8 cc) &&& (255 : Int32)))]) := fun tq kq => go5 tq (st6 _ kq)
  have go7 : Goes p e below s₁ (G_gC m a1 k) T6 (mkF m 48 #[vR a1, vI (Int32.ofNat (2 * k + 1))] [(.int (Int32.ofNat (2 * k + 1))), (.ref a1), (.int (((StrChars.lo8 cc) &&& (255 : Int32)) <<< ((0 : Int32) &&& 31)))]) := fun tq kq => go6 tq (by
    show Sx p e below T6 (mkF m 45 #[vR a1, vI (Int32.ofNat (2 * k + 1))] [(.int (0 : Int32)), (.int ((StrChars.lo8 cc) &&& (255 : Int32)))]) _
    refine XS.ishl X6.here hx rfl (hb hby d21_45) rfl ?_
    show Sx p e below T6 (mkF m 46 #[vR a1, vI (Int32.ofNat (2 * k + 1))] [(.int (((StrChars.lo8 cc) &&& (255 : Int32)) <<< ((0 : Int32) &&& 31)))]) _
    refine XS.aloadN X6.here hx rfl (hb hby d21_46) rfl rfl ?_
    refine XS.iloadN X6.here hx rfl (hb hby d21_47) rfl ?_
    exact kq)
  obtain ⟨cl8, Ar8, q8, S8, N_8, H8, G8⟩ := id (VA)
  have hin8 : ¬ ((Int32.ofNat (2 * k + 1)) < 0 ∨ cl8.slots.size ≤ ((Int32.ofNat (2 * k + 1))).toNatClampNeg) := inb_of S8 ⟨own_nn (by omega), own_lt (by omega) (by omega)⟩
  have hat8 := Has.at H8 hin8 (v := (.int (StrChars.hi8 cc))) (by rw [own_cl (by omega)]; exact hhi)
  have go9 : Goes p e below s₁ (G_gC m a1 k) T6 (mkF m 53 #[vR a1, vI (Int32.ofNat (2 * k + 1))] [(.int ((StrChars.hi8 cc) &&& (255 : Int32))), (.int (((StrChars.lo8 cc) &&& (255 : Int32)) <<< ((0 : Int32) &&& 31)))]) := fun tq kq => go7 tq (by
    show Sx p e below T6 (mkF m 48 #[vR a1, vI (Int32.ofNat (2 * k + 1))] [(.int (Int32.ofNat (2 * k + 1))), (.ref a1), (.int (((StrChars.lo8 cc) &&& (255 : Int32)) <<< ((0 : Int32) &&& 31)))]) _
    refine X6.baloadBytes hx (j := (Int32.ofNat (2 * k + 1))) (v := (.int (StrChars.hi8 cc))) (by rw [e6]; exact Ar8.1) (State.isArrayOf_alike hZ.alike Ar8.2.1) Ar8.2.2 hin8 hat8 (g := (mkF m 48 #[vR a1, vI (Int32.ofNat (2 * k + 1))] [(.int (Int32.ofNat (2 * k + 1))), (.ref a1), (.int (((StrChars.lo8 cc) &&& (255 : Int32)) <<< ((0 : Int32) &&& 31)))])) rfl rfl (hb hby d21_48) _ ?_
    refine XS.sipush X6.here hx rfl (hb hby d21_49) ?_
    show Sx p e below T6 (mkF m 52 #[vR a1, vI (Int32.ofNat (2 * k + 1))] [(.int (255 : Int32)), (.int (StrChars.hi8 cc)), (.int (((StrChars.lo8 cc) &&& (255 : Int32)) <<< ((0 : Int32) &&& 31)))]) _
    refine XS.iand X6.here hx rfl (hb hby d21_52) rfl ?_
    exact kq)
  obtain ⟨T10, X10, e10, st10⟩ := getS2 X6 hx hZ hown (host := "") (Or.inl (tw90 hw)) Via.refl e6 (LO.ext O0.2) (g := (mkF m 53 #[vR a1, vI (Int32.ofNat (2 * k + 1))] [(.int ((StrChars.hi8 cc) &&& (255 : Int32))), (.int (((StrChars.lo8 cc) &&& (255 : Int32)) <<< ((0 : Int32) &&& 31)))])) rfl (hb hby d21_53)
  have go10 : Goes p e below s₁ (G_gC m a1 k) T10 (mkF m 56 #[vR a1, vI (Int32.ofNat (2 * k + 1))] [(.int (8 : Int32)), (.int ((StrChars.hi8 cc) &&& (255 : Int32))), (.int (((StrChars.lo8 cc) &&& (255 : Int32)) <<< ((0 : Int32) &&& 31)))]) := fun tq kq => go9 tq (st10 _ kq)
  have go11 : Goes p e below s₁ (G_gC m a1 k) T10 (mkF m 59 #[vR a1, vI (Int32.ofNat (2 * k + 1))] [(.int ((((((StrChars.lo8 cc) &&& (255 : Int32)) <<< ((0 : Int32) &&& 31)) ||| (((StrChars.hi8 cc) &&& (255 : Int32)) <<< ((8 : Int32) &&& 31)))).toUInt32.toUInt16.toUInt32.toInt32))]) := fun tq kq => go10 tq (by
    show Sx p e below T10 (mkF m 56 #[vR a1, vI (Int32.ofNat (2 * k + 1))] [(.int (8 : Int32)), (.int ((StrChars.hi8 cc) &&& (255 : Int32))), (.int (((StrChars.lo8 cc) &&& (255 : Int32)) <<< ((0 : Int32) &&& 31)))]) _
    refine XS.ishl X10.here hx rfl (hb hby d21_56) rfl ?_
    show Sx p e below T10 (mkF m 57 #[vR a1, vI (Int32.ofNat (2 * k + 1))] [(.int (((StrChars.hi8 cc) &&& (255 : Int32)) <<< ((8 : Int32) &&& 31))), (.int (((StrChars.lo8 cc) &&& (255 : Int32)) <<< ((0 : Int32) &&& 31)))]) _
    refine XS.ior X10.here hx rfl (hb hby d21_57) rfl ?_
    refine XS.i2c X10.here hx rfl (hb hby d21_58) rfl ?_
    exact kq)
  obtain ⟨fs, hr, hrun, hended, hW, hsame⟩ := X10.leave (v := some (.int (nar .char ((((((StrChars.lo8 cc) &&& (255 : Int32)) <<< ((0 : Int32) &&& 31)) ||| (((StrChars.hi8 cc) &&& (255 : Int32)) <<< ((8 : Int32) &&& 31)))).toUInt32.toUInt16.toUInt32.toInt32)))) (fun h => by rw [Bd.returns] at h; cases h)
  refine ⟨_, _, go11 _ ?_, hrun, hended, _, _, rfl, ?_, ⟨_, rfl⟩, hW, hsame.mono (by decide) (by decide)⟩
  · exact retN X10 hx (t := .char) Bd.returns (by simp) (hb hby d21_59) hr
  · show Q_gC Z a1 k mz cc kB vs h0 n0 _ T10.heap _
    rw [e10]
    exact ⟨congrArg (fun z => some (Value.int z)) (own_gc hc), N0, rfl⟩
abbrev G_nbl1 (m : MethodId)  : JFrame := (entryFrame m #[(.int (1 : Int32))] 1)
theorem d19_0 : decode jdk_52_method_3_code 0 = .ok (.iload_n 0, 1) := by decide +kernel
theorem d19_1 : decode jdk_52_method_3_code 1 = .ok (.ifCond .ge 11, 3) := by decide +kernel
theorem d19_12 : decode jdk_52_method_3_code 12 = .ok (.iload_n 0, 1) := by decide +kernel
theorem d19_13 : decode jdk_52_method_3_code 13 = .ok (.ldc 20, 2) := by decide +kernel
theorem d19_15 : decode jdk_52_method_3_code 15 = .ok (.if_icmp .lt 40, 3) := by decide +kernel
theorem d19_55 : decode jdk_52_method_3_code 55 = .ok (.iload_n 0, 1) := by decide +kernel
theorem d19_56 : decode jdk_52_method_3_code 56 = .ok (.iconst 1, 1) := by decide +kernel
theorem d19_57 : decode jdk_52_method_3_code 57 = .ok (.ishl, 1) := by decide +kernel
theorem d19_58 : decode jdk_52_method_3_code 58 = .ok (.ireturn, 1) := by decide +kernel
def Q_nbl1 (Z : State)   (h0 : Heap) (n0 : Nat) (v : Option Value) (h : Heap) (L : List Loc) : Prop := v = some (.int (2 : Int32)) ∧ Fr n0 L ∧ h = h0
set_option maxRecDepth 65536 in
set_option maxHeartbeats 40000000 in
theorem nbl1 (l : Launch) (Z : State) (a0 : Array Value) (hw : ∀ d ∈ tables_1, d.before a0 Z = true) (ws : List Jvm.Cond)   (h0 : Heap) (n0 : Nat) (Z0 : n0 ≤ h0.size)  :
    MetFree l (⟨"java/lang/StringUTF16", "newBytesLength", "(I)I"⟩ : MethodName) (head1 (Jvm.Cond.code (⟨"java/lang/StringUTF16", "newBytesLength", "(I)I"⟩ : MethodName) jdk_52_method_3_code 1 (some .int) :: ws) ({ frames := 0, cells := 0, slots := 0, locals := 0 } : Room)) (fun a U => a = #[(.int (1 : Int32))] ∧ Z.Warmed39 U.vm ∧ U.heap = h0) (fun _ _ _ _ _ => True) (fun _ U o U' => ∃ v L, o = .returned v ∧ Q_nbl1 Z  h0 n0 v U'.heap L ∧ FrameEnd U o U' L ({ frames := 0, cells := 0, slots := 0, locals := 0 } : Room).cells ({ frames := 0, cells := 0, slots := 0, locals := 0 } : Room).slots) := by
  refine MetFree.of_bodySF (plainFor_of_name pn_java_lang_StringUTF16) hisR ?_
  intro p e s m args below meth c s₁ Bd hml0 hP hK
  obtain ⟨rfl, hZ, hh⟩ := hP
  have hx := Bd.exec
  have hby := Bd.bytes
  have hml : c.maxLocals = 1 := hml0
  have hown : s.vm.findClass "java/lang/StringUTF16" = some m.cls := findClass_of_methodNamed Bd.named
  have hnm := (name_of_methodNamed Bd.named Bd.method).1
  have X0 : Stand p l e ({ frames := 0, cells := 0, slots := 0, locals := 0 } : Room) s m #[(.int (1 : Int32))] below meth c s₁ [] 0 0 := Stand.of_body Bd
  have e0 : s₁.heap = h0 := by rw [← hh, Bd.state]; rfl
  have N0 := Fr.nil n0
  have go0 : Goes p e below s₁ (G_nbl1 m) s₁ (mkF m 0 #[vI (1 : Int32)] []) := fun tq kq => castTop (by first | (simp [entryFrame, mkF, argsToLocals, Value.category, vI, vJ, vR, vD, vN, uN, sD, G_nbl1]; done) | rfl) kq
  have go12 : Goes p e below s₁ (G_nbl1 m) s₁ (mkF m 1 #[vI (1 : Int32)] [(.int (1 : Int32))]) := fun tq kq => go0 tq (by
    show Sx p e below s₁ (mkF m 0 #[vI (1 : Int32)] []) _
    refine XS.iloadN X0.here hx rfl (hb hby d19_0) rfl ?_
    exact kq)
  have go13 : Goes p e below s₁ (G_nbl1 m) s₁ (mkF m 15 #[vI (1 : Int32)] [(.int (1073741823 : Int32)), (.int (1 : Int32))]) := fun tq kq => go12 tq (by
    show Sx p e below s₁ (mkF m 1 #[vI (1 : Int32)] [(.int (1 : Int32))]) _
    refine XS.ifYes X0.here hx rfl (pc0 := 1) (pc' := 12) rfl (hb hby d19_1) rfl ((if0 _ _).trans (flt (by decide)).2.1) (by decide) (by decide) ?_
    show Sx p e below s₁ (mkF m 12 #[vI (1 : Int32)] []) _
    refine XS.iloadN X0.here hx rfl (hb hby d19_12) rfl ?_
    refine X0.ldcInt hx hown (mvT hZ (tw84 hw)) (g := (mkF m 13 #[vI (1 : Int32)] [(.int (1 : Int32))])) rfl (hb hby d19_13) _ ?_
    exact kq)
  have go14 : Goes p e below s₁ (G_nbl1 m) s₁ (mkF m 58 #[vI (1 : Int32)] [(.int ((1 : Int32) <<< ((1 : Int32) &&& 31)))]) := fun tq kq => go13 tq (by
    show Sx p e below s₁ (mkF m 15 #[vI (1 : Int32)] [(.int (1073741823 : Int32)), (.int (1 : Int32))]) _
    refine XS.icmpYes X0.here hx rfl (pc0 := 15) (pc' := 55) rfl (hb hby d19_15) rfl (tlt (by decide)).1 (by decide) (by decide) ?_
    refine XS.iloadN X0.here hx rfl (hb hby d19_55) rfl ?_
    show Sx p e below s₁ (mkF m 56 #[vI (1 : Int32)] [(.int (1 : Int32))]) _
    refine XS.iconst X0.here hx rfl (hb hby d19_56) ?_
    refine XS.ishl X0.here hx rfl (hb hby d19_57) rfl ?_
    exact kq)
  obtain ⟨fs, hr, hrun, hended, hW, hsame⟩ := X0.leave (v := some (.int ((1 : Int32) <<< ((1 : Int32) &&& 31)))) (fun h => by rw [Bd.returns] at h; cases h)
  refine ⟨_, _, go14 _ ?_, hrun, hended, _, _, rfl, ?_, ⟨_, rfl⟩, hW, hsame.mono (by decide) (by decide)⟩
  · exact retI X0 hx Bd.returns (hb hby d19_58) hr
  · show Q_nbl1 Z  h0 n0 _ s₁.heap _
    rw [e0]
    exact ⟨congrArg (fun z => some (Value.int z)) (by decide +kernel), N0, rfl⟩
abbrev G_nbf1 (m : MethodId)  : JFrame := (entryFrame m #[(.int (1 : Int32))] 1)
theorem d18_0 : decode jdk_52_method_2_code 0 = .ok (.iload_n 0, 1) := by decide +kernel
theorem d18_1 : decode jdk_52_method_2_code 1 = .ok (.invokestatic 11, 3) := by decide +kernel
theorem pd_0 : parseMethodDescriptor "(I)I" = some ⟨[.int], some .int⟩ := by decide +kernel
theorem d18_4 : decode jdk_52_method_2_code 4 = .ok (.newarray .byte, 2) := by decide +kernel
theorem d18_6 : decode jdk_52_method_2_code 6 = .ok (.areturn, 1) := by decide +kernel
def Q_nbf1 (Z : State)   (h0 : Heap) (n0 : Nat) (v : Option Value) (h : Heap) (L : List Loc) : Prop := ∃ (t : Addr) (k : ClassId), v = some (.ref t) ∧ Fr n0 L ∧ Keep h0 h [] ∧ h0.size ≤ t ∧ Arv Z h t k .byte (2 : Int32) [(.int (0 : Int32)), (.int (0 : Int32))] (.int (0 : Int32))
set_option maxRecDepth 65536 in
set_option maxHeartbeats 40000000 in
theorem nbf1 (l : Launch) (Z : State) (a0 : Array Value) (hw : ∀ d ∈ tables_1, d.before a0 Z = true) (ws : List Jvm.Cond)   (h0 : Heap) (n0 : Nat) (Z0 : n0 ≤ h0.size)  :
    MetFree l (⟨"java/lang/StringUTF16", "newBytesFor", "(I)[B"⟩ : MethodName) (head1 (Jvm.Cond.code (⟨"java/lang/StringUTF16", "newBytesFor", "(I)[B"⟩ : MethodName) jdk_52_method_2_code 1 (some (.array .byte)) :: ws) ({ frames := 1, cells := 1, slots := 2, locals := 12 } : Room)) (fun a U => a = #[(.int (1 : Int32))] ∧ Z.Warmed39 U.vm ∧ U.heap = h0) (fun _ _ _ _ _ => True) (fun _ U o U' => ∃ v L, o = .returned v ∧ Q_nbf1 Z  h0 n0 v U'.heap L ∧ FrameEnd U o U' L ({ frames := 1, cells := 1, slots := 2, locals := 12 } : Room).cells ({ frames := 1, cells := 1, slots := 2, locals := 12 } : Room).slots) := by
  refine MetFree.of_bodySF (plainFor_of_name pn_java_lang_StringUTF16) hisR ?_
  intro p e s m args below meth c s₁ Bd hml0 hP hK
  obtain ⟨rfl, hZ, hh⟩ := hP
  have hx := Bd.exec
  have hby := Bd.bytes
  have hml : c.maxLocals = 1 := hml0
  have hown : s.vm.findClass "java/lang/StringUTF16" = some m.cls := findClass_of_methodNamed Bd.named
  have hnm := (name_of_methodNamed Bd.named Bd.method).1
  have X0 : Stand p l e ({ frames := 1, cells := 1, slots := 2, locals := 12 } : Room) s m #[(.int (1 : Int32))] below meth c s₁ [] 0 0 := Stand.of_body Bd
  have e0 : s₁.heap = h0 := by rw [← hh, Bd.state]; rfl
  have N0 := Fr.nil n0
  have KP0 : Keep h0 h0 [] := Keep.refl h0 []
  have go0 : Goes p e below s₁ (G_nbf1 m) s₁ (mkF m 0 #[vI (1 : Int32)] []) := fun tq kq => castTop (by first | (simp [entryFrame, mkF, argsToLocals, Value.category, vI, vJ, vR, vD, vN, uN, sD, G_nbf1]; done) | rfl) kq
  have go15 : Goes p e below s₁ (G_nbf1 m) s₁ (mkF m 1 #[vI (1 : Int32)] [(.int (1 : Int32))]) := fun tq kq => go0 tq (by
    show Sx p e below s₁ (mkF m 0 #[vI (1 : Int32)] []) _
    refine XS.iloadN X0.here hx rfl (hb hby d18_0) rfl ?_
    exact kq)
  obtain ⟨vv16, _, ⟨T16, L16, k16, n16⟩, -, X16, ⟨Lc16, hQ16, l16, y16, z16⟩, st16⟩ := Jvm.LawKit.callS X0 hx (y := (⟨"java/lang/StringUTF16", "newBytesLength", "(I)I"⟩ : MethodName)) hown (mvT hZ (tw81 hw)) (mvT hZ (tw82 hw)) (mvT hZ (tw70 hw)) (mvT hZ (tw83 hw)) (by decide) (backOf (W := 0) (nbl1 l Z a0 hw []   h0 n0 Z0 ) hZ (tw83 hw) (tw70 hw) (by decide) (by decide)) (g := (mkF m 1 #[vI (1 : Int32)] [(.int (1 : Int32))])) rfl (by rw [hml]; rfl) (argsL := [(.int (1 : Int32))]) (rest := []) (lenOf pd_0 rfl) rfl (by show 2 * 0 + _ ≤ _; exact Nat.le_of_eq rfl) (hb hby d18_1) (fun _ _ => ⟨rfl, e0, (by decide : 0 + 0 ≤ _), (by decide : 0 + 0 ≤ _)⟩)
  dsimp only [Pt.U, Pt.locs, Pt.cells, Pt.slots] at X16 l16 y16 z16 st16 hQ16
  subst l16 y16 z16
  obtain ⟨rfl, Nq16, eq16⟩ := hQ16
  have N16 := Fr.app N0 Nq16
  have go16 : Goes p e below s₁ (G_nbf1 m) T16 (mkF m 4 #[vI (1 : Int32)] [(.int (2 : Int32))]) := fun tq kq => go15 tq (st16 _ kq)
  obtain ⟨T17, h17, k17, X17, e17, E17, A17, st17⟩ := newP X16 hx hZ (aty := .byte) (tw25 hw) eq16 (g := (mkF m 4 #[vI (1 : Int32)] [(.int (2 : Int32))])) rfl (hb hby d18_4) rfl (by decide) (cap := 2) (by decide) (by decide) (by decide) (by decide)
  obtain ⟨b17, g17⟩ : ∃ z, z = h0.size := ⟨_, rfl⟩
  rw [← g17] at A17 st17
  have g_b17 : n0 ≤ b17 := Nat.le_trans Z0 (Nat.le_of_eq g17.symm)
  have sz_b17 : h0.size ≤ b17 := Nat.le_trans KP0.1 (Nat.le_of_eq g17.symm)
  have KP17 : Keep h0 h17 [] := KP0.ext E17
  have ZS17 : n0 ≤ h17.size := Nat.le_trans Z0 E17.1
  have V17 : Arv Z h17 b17 k17 .byte (2 : Int32) [(.int (0 : Int32)), (.int (0 : Int32))] (.int (0 : Int32)) := (Arv.new A17 (by decide)).pad (pad_rep [] (.int (0 : Int32)) 2)
  have go17 : Goes p e below s₁ (G_nbf1 m) T17 (mkF m 6 #[vI (1 : Int32)] [(.ref b17)]) := fun tq kq => go16 tq (st17 _ kq)
  obtain ⟨fs, hr, hrun, hended, hW, hsame⟩ := X17.leave (v := some (.ref b17)) (fun h => by rw [Bd.returns] at h; cases h)
  refine ⟨_, _, go17 _ ?_, hrun, hended, _, _, rfl, ?_, ⟨_, rfl⟩, hW, hsame.mono (by decide) (by decide)⟩
  · jvm_step X17.here [X17.here.top, hx, (hb hby d18_6), X17.method', Bd.returns, Value.isRef, FieldType.isReference]
    first | (intro acts; rw [hr _ acts rfl rfl rfl]) | rw [hr _ _ rfl rfl rfl]
    exact Steps.refl _
  · show Q_nbf1 Z  h0 n0 _ T17.heap _
    rw [e17]
    exact ⟨b17, _, rfl, N16, KP17, sz_b17, V17⟩
abbrev G_pc10 (m : MethodId) (a1 : Addr) (p3 : Int32) : JFrame := (entryFrame m #[(.ref a1), (.int (0 : Int32)), (.int p3)] 3)
theorem d20_0 : decode jdk_52_method_4_code 0 = .ok (.getstatic 44, 3) := by decide +kernel
theorem d20_3 : decode jdk_52_method_4_code 3 = .ok (.ifCond .ne 25, 3) := by decide +kernel
theorem d20_28 : decode jdk_52_method_4_code 28 = .ok (.iload_n 1, 1) := by decide +kernel
theorem d20_29 : decode jdk_52_method_4_code 29 = .ok (.iconst 1, 1) := by decide +kernel
theorem d20_30 : decode jdk_52_method_4_code 30 = .ok (.ishl, 1) := by decide +kernel
theorem d20_31 : decode jdk_52_method_4_code 31 = .ok (.istore_n 1, 1) := by decide +kernel
theorem d20_32 : decode jdk_52_method_4_code 32 = .ok (.aload_n 0, 1) := by decide +kernel
theorem d20_33 : decode jdk_52_method_4_code 33 = .ok (.iload_n 1, 1) := by decide +kernel
theorem d20_34 : decode jdk_52_method_4_code 34 = .ok (.iinc 1 1, 3) := by decide +kernel
theorem d20_37 : decode jdk_52_method_4_code 37 = .ok (.iload_n 2, 1) := by decide +kernel
theorem d20_38 : decode jdk_52_method_4_code 38 = .ok (.getstatic 59, 3) := by decide +kernel
theorem d20_41 : decode jdk_52_method_4_code 41 = .ok (.ishr, 1) := by decide +kernel
theorem d20_42 : decode jdk_52_method_4_code 42 = .ok (.i2b, 1) := by decide +kernel
theorem d20_43 : decode jdk_52_method_4_code 43 = .ok (.bastore, 1) := by decide +kernel
theorem d20_44 : decode jdk_52_method_4_code 44 = .ok (.aload_n 0, 1) := by decide +kernel
theorem d20_45 : decode jdk_52_method_4_code 45 = .ok (.iload_n 1, 1) := by decide +kernel
theorem d20_46 : decode jdk_52_method_4_code 46 = .ok (.iload_n 2, 1) := by decide +kernel
theorem d20_47 : decode jdk_52_method_4_code 47 = .ok (.getstatic 63, 3) := by decide +kernel
theorem d20_50 : decode jdk_52_method_4_code 50 = .ok (.ishr, 1) := by decide +kernel
theorem d20_51 : decode jdk_52_method_4_code 51 = .ok (.i2b, 1) := by decide +kernel
theorem d20_52 : decode jdk_52_method_4_code 52 = .ok (.bastore, 1) := by decide +kernel
theorem d20_53 : decode jdk_52_method_4_code 53 = .ok (.return_, 1) := by decide +kernel
def Q_pc10 (Z : State) (a1 : Addr) (p3 : Int32) (kB : ClassId) (v0 v1 : Value) (h0 : Heap) (n0 : Nat) (v : Option Value) (h : Heap) (L : List Loc) : Prop := v = none ∧ Fr n0 L ∧ Keep h0 h [a1] ∧ Arv Z h a1 kB .byte (2 : Int32) [(.int (StrChars.lo8 p3)), (.int (StrChars.hi8 p3))] (.int (0 : Int32))
set_option maxRecDepth 65536 in
set_option maxHeartbeats 40000000 in
theorem pc10 (l : Launch) (Z : State) (a0 : Array Value) (hw : ∀ d ∈ tables_1, d.before a0 Z = true) (ws : List Jvm.Cond) (a1 : Addr) (p3 : Int32) (kB : ClassId) (v0 v1 : Value) (h0 : Heap) (n0 : Nat) (Z0 : n0 ≤ h0.size) (O0 : Old Z n0 h0) (g_a1 : n0 ≤ a1) (AD : Sta Z Z.heap "java/lang/StringUTF16" "$assertionsDisabled" "Z" (.int (1 : Int32))) (HI : Sta Z Z.heap "java/lang/StringUTF16" "HI_BYTE_SHIFT" "I" (.int (0 : Int32))) (LO : Sta Z Z.heap "java/lang/StringUTF16" "LO_BYTE_SHIFT" "I" (.int (8 : Int32))) (VA : Arv Z h0 a1 kB .byte (2 : Int32) [v0, v1] (.int (0 : Int32))) :
    MetFree l (⟨"java/lang/StringUTF16", "putChar", "([BII)V"⟩ : MethodName) (head1 (Jvm.Cond.code (⟨"java/lang/StringUTF16", "putChar", "([BII)V"⟩ : MethodName) jdk_52_method_4_code 3 none :: ws) ({ frames := 0, cells := 0, slots := 0, locals := 0 } : Room)) (fun a U => a = #[(.ref a1), (.int (0 : Int32)), (.int p3)] ∧ Z.Warmed39 U.vm ∧ U.heap = h0) (fun _ _ _ _ _ => True) (fun _ U o U' => ∃ v L, o = .returned v ∧ Q_pc10 Z a1 p3 kB v0 v1 h0 n0 v U'.heap L ∧ FrameEnd U o U' L ({ frames := 0, cells := 0, slots := 0, locals := 0 } : Room).cells ({ frames := 0, cells := 0, slots := 0, locals := 0 } : Room).slots) := by
  refine MetFree.of_bodySF (plainFor_of_name pn_java_lang_StringUTF16) hisR ?_
  intro p e s m args below meth c s₁ Bd hml0 hP hK
  obtain ⟨rfl, hZ, hh⟩ := hP
  have hx := Bd.exec
  have hby := Bd.bytes
  have hml : c.maxLocals = 3 := hml0
  have hown : s.vm.findClass "java/lang/StringUTF16" = some m.cls := findClass_of_methodNamed Bd.named
  have hnm := (name_of_methodNamed Bd.named Bd.method).1
  have X0 : Stand p l e ({ frames := 0, cells := 0, slots := 0, locals := 0 } : Room) s m #[(.ref a1), (.int (0 : Int32)), (.int p3)] below meth c s₁ [] 0 0 := Stand.of_body Bd
  have e0 : s₁.heap = h0 := by rw [← hh, Bd.state]; rfl
  have N0 := Fr.nil n0
  have KP0 : Keep h0 h0 [a1] := Keep.refl h0 [a1]
  have go0 : Goes p e below s₁ (G_pc10 m a1 p3) s₁ (mkF m 0 #[vR a1, vI (0 : Int32), vI p3] []) := fun tq kq => castTop (by first | (simp [entryFrame, mkF, argsToLocals, Value.category, vI, vJ, vR, vD, vN, uN, sD, G_pc10]; done) | rfl) kq
  obtain ⟨T18, X18, e18, st18⟩ := getS2 X0 hx hZ hown (host := "") (Or.inl (tw88 hw)) Via.refl e0 (AD.ext O0.2) (g := (mkF m 0 #[vR a1, vI (0 : Int32), vI p3] [])) rfl (hb hby d20_0)
  have go18 : Goes p e below s₁ (G_pc10 m a1 p3) T18 (mkF m 3 #[vR a1, vI (0 : Int32), vI p3] [(.int (1 : Int32))]) := fun tq kq => go0 tq (st18 _ kq)
  have go19 : Goes p e below s₁ (G_pc10 m a1 p3) T18 (mkF m 32 #[vR a1, vI ((0 : Int32) <<< ((1 : Int32) &&& 31)), vI p3] []) := fun tq kq => go18 tq (by
    show Sx p e below T18 (mkF m 3 #[vR a1, vI (0 : Int32), vI p3] [(.int (1 : Int32))]) _
    refine XS.ifYes X18.here hx rfl (pc0 := 3) (pc' := 28) rfl (hb hby d20_3) rfl ((if0 _ _).trans (feq (by decide)).2) (by decide) (by decide) ?_
    refine XS.iloadN X18.here hx rfl (hb hby d20_28) rfl ?_
    show Sx p e below T18 (mkF m 29 #[vR a1, vI (0 : Int32), vI p3] [(.int (0 : Int32))]) _
    refine XS.iconst X18.here hx rfl (hb hby d20_29) ?_
    refine XS.ishl X18.here hx rfl (hb hby d20_30) rfl ?_
    show Sx p e below T18 (mkF m 31 #[vR a1, vI (0 : Int32), vI p3] [(.int ((0 : Int32) <<< ((1 : Int32) &&& 31)))]) _
    refine XS.istoreN X18.here hx rfl (hb hby d20_31) rfl (l' := #[vR a1, vI ((0 : Int32) <<< ((1 : Int32) &&& 31)), vI p3]) rfl ?_
    exact kq)
  rw [show ((0 : Int32) <<< ((1 : Int32) &&& 31)) = (0 : Int32) by decide +kernel] at go19
  have go20 : Goes p e below s₁ (G_pc10 m a1 p3) T18 (mkF m 38 #[vR a1, vI (1 : Int32), vI p3] [(.int p3), (.int (0 : Int32)), (.ref a1)]) := fun tq kq => go19 tq (by
    show Sx p e below T18 (mkF m 32 #[vR a1, vI (0 : Int32), vI p3] []) _
    refine XS.aloadN X18.here hx rfl (hb hby d20_32) rfl rfl ?_
    show Sx p e below T18 (mkF m 33 #[vR a1, vI (0 : Int32), vI p3] [(.ref a1)]) _
    refine XS.iloadN X18.here hx rfl (hb hby d20_33) rfl ?_
    refine XS.iinc X18.here hx rfl (hb hby d20_34) rfl (l' := #[vR a1, vI (1 : Int32), vI p3]) rfl ?_
    show Sx p e below T18 (mkF m 37 #[vR a1, vI (1 : Int32), vI p3] [(.int (0 : Int32)), (.ref a1)]) _
    refine XS.iloadN X18.here hx rfl (hb hby d20_37) rfl ?_
    exact kq)
  obtain ⟨T21, X21, e21, st21⟩ := getS2 X18 hx hZ hown (host := "") (Or.inl (tw89 hw)) Via.refl e18 (HI.ext O0.2) (g := (mkF m 38 #[vR a1, vI (1 : Int32), vI p3] [(.int p3), (.int (0 : Int32)), (.ref a1)])) rfl (hb hby d20_38)
  have go21 : Goes p e below s₁ (G_pc10 m a1 p3) T21 (mkF m 41 #[vR a1, vI (1 : Int32), vI p3] [(.int (0 : Int32)), (.int p3), (.int (0 : Int32)), (.ref a1)]) := fun tq kq => go20 tq (st21 _ kq)
  have go23 : Goes p e below s₁ (G_pc10 m a1 p3) T21 (mkF m 43 #[vR a1, vI (1 : Int32), vI p3] [(.int ((p3 >>> ((0 : Int32) &&& 31)).toInt8.toInt32)), (.int (0 : Int32)), (.ref a1)]) := fun tq kq => go21 tq (by
    show Sx p e below T21 (mkF m 41 #[vR a1, vI (1 : Int32), vI p3] [(.int (0 : Int32)), (.int p3), (.int (0 : Int32)), (.ref a1)]) _
    refine XS.ishr X21.here hx rfl (hb hby d20_41) rfl ?_
    show Sx p e below T21 (mkF m 42 #[vR a1, vI (1 : Int32), vI p3] [(.int (p3 >>> ((0 : Int32) &&& 31))), (.int (0 : Int32)), (.ref a1)]) _
    refine XS.i2b X21.here hx rfl (hb hby d20_42) rfl ?_
    exact kq)
  obtain ⟨cl22, Ar22, q22, S22, N_22, H22, G22⟩ := VA
  have hin22 : ¬ ((0 : Int32) < 0 ∨ cl22.slots.size ≤ ((0 : Int32)).toNatClampNeg) := inb_of S22 ⟨by decide, by decide⟩
  obtain ⟨T24, h24, X24, e24, W24, st24⟩ := stB X21 hx hZ e21 Ar22 (j := (0 : Int32)) hin22 (g := (mkF m 43 #[vR a1, vI (1 : Int32), vI p3] [(.int ((p3 >>> ((0 : Int32) &&& 31)).toInt8.toInt32)), (.int (0 : Int32)), (.ref a1)])) rfl rfl (hb hby d20_43)
  have N24 := Fr.snoc X24 N0 g_a1
  have KP24 : Keep h0 h24 [a1] := KP0.wr W24 (Or.inl (List.mem_of_getElem? (i := 0) rfl))
  have O24 := O0.wr W24 g_a1
  have ZS24 : n0 ≤ h24.size := Nat.le_trans Z0 (Keep.of_wr W24).1
  have V24 : Arv Z h24 a1 kB .byte (2 : Int32) [(.int (nar .byte ((p3 >>> ((0 : Int32) &&& 31)).toInt8.toInt32))), v1] (.int (0 : Int32)) := Arv.set Ar22 q22 S22 N_22 H22 G22 (fits_nar_byte _) W24 0 rfl (Nat.le_of_ble_eq_true rfl)
  have go24 : Goes p e below s₁ (G_pc10 m a1 p3) T24 (mkF m 44 #[vR a1, vI (1 : Int32), vI p3] []) := fun tq kq => go23 tq (st24 _ kq)
  have go25 : Goes p e below s₁ (G_pc10 m a1 p3) T24 (mkF m 47 #[vR a1, vI (1 : Int32), vI p3] [(.int p3), (.int (1 : Int32)), (.ref a1)]) := fun tq kq => go24 tq (by
    show Sx p e below T24 (mkF m 44 #[vR a1, vI (1 : Int32), vI p3] []) _
    refine XS.aloadN X24.here hx rfl (hb hby d20_44) rfl rfl ?_
    show Sx p e below T24 (mkF m 45 #[vR a1, vI (1 : Int32), vI p3] [(.ref a1)]) _
    refine XS.iloadN X24.here hx rfl (hb hby d20_45) rfl ?_
    refine XS.iloadN X24.here hx rfl (hb hby d20_46) rfl ?_
    exact kq)
  obtain ⟨T26, X26, e26, st26⟩ := getS2 X24 hx hZ hown (host := "") (Or.inl (tw90 hw)) Via.refl e24 (LO.ext O24.2) (g := (mkF m 47 #[vR a1, vI (1 : Int32), vI p3] [(.int p3), (.int (1 : Int32)), (.ref a1)])) rfl (hb hby d20_47)
  have go26 : Goes p e below s₁ (G_pc10 m a1 p3) T26 (mkF m 50 #[vR a1, vI (1 : Int32), vI p3] [(.int (8 : Int32)), (.int p3), (.int (1 : Int32)), (.ref a1)]) := fun tq kq => go25 tq (st26 _ kq)
  have go28 : Goes p e below s₁ (G_pc10 m a1 p3) T26 (mkF m 52 #[vR a1, vI (1 : Int32), vI p3] [(.int ((p3 >>> ((8 : Int32) &&& 31)).toInt8.toInt32)), (.int (1 : Int32)), (.ref a1)]) := fun tq kq => go26 tq (by
    show Sx p e below T26 (mkF m 50 #[vR a1, vI (1 : Int32), vI p3] [(.int (8 : Int32)), (.int p3), (.int (1 : Int32)), (.ref a1)]) _
    refine XS.ishr X26.here hx rfl (hb hby d20_50) rfl ?_
    refine XS.i2b X26.here hx rfl (hb hby d20_51) rfl ?_
    exact kq)
  obtain ⟨cl27, Ar27, q27, S27, N_27, H27, G27⟩ := V24
  have hin27 : ¬ ((1 : Int32) < 0 ∨ cl27.slots.size ≤ ((1 : Int32)).toNatClampNeg) := inb_of S27 ⟨by decide, by decide⟩
  obtain ⟨T29, h29, X29, e29, W29, st29⟩ := stB X26 hx hZ e26 Ar27 (j := (1 : Int32)) hin27 (g := (mkF m 52 #[vR a1, vI (1 : Int32), vI p3] [(.int ((p3 >>> ((8 : Int32) &&& 31)).toInt8.toInt32)), (.int (1 : Int32)), (.ref a1)])) rfl rfl (hb hby d20_52)
  have N29 := Fr.snoc X29 N24 g_a1
  have KP29 : Keep h0 h29 [a1] := KP24.wr W29 (Or.inl (List.mem_of_getElem? (i := 0) rfl))
  have O29 := O24.wr W29 g_a1
  have ZS29 : n0 ≤ h29.size := Nat.le_trans ZS24 (Keep.of_wr W29).1
  have V29 : Arv Z h29 a1 kB .byte (2 : Int32) [(.int (nar .byte ((p3 >>> ((0 : Int32) &&& 31)).toInt8.toInt32))), (.int (nar .byte ((p3 >>> ((8 : Int32) &&& 31)).toInt8.toInt32)))] (.int (0 : Int32)) := Arv.set Ar27 q27 S27 N_27 H27 G27 (fits_nar_byte _) W29 1 rfl (Nat.le_of_ble_eq_true rfl)
  have go29 : Goes p e below s₁ (G_pc10 m a1 p3) T29 (mkF m 53 #[vR a1, vI (1 : Int32), vI p3] []) := fun tq kq => go28 tq (st29 _ kq)
  have VQ := V29
  rw [own_lo, own_hi] at VQ
  obtain ⟨fs, hr, hrun, hended, hW, hsame⟩ := X29.leave (v := none) (fun _ => rfl)
  refine ⟨_, _, go29 _ ?_, hrun, hended, _, _, rfl, ?_, ⟨_, rfl⟩, hW, hsame.mono (by decide) (by decide)⟩
  · exact X29.returnOut hx Bd.returns (hb hby d20_53) hr
  · show Q_pc10 Z a1 p3 kB v0 v1 h0 n0 _ T29.heap _
    rw [e29]
    exact ⟨rfl, N29, KP29, VQ⟩
abbrev G_tb1 (m : MethodId) (a1 : Addr) : JFrame := (entryFrame m #[(.ref a1), (.int (0 : Int32)), (.int (1 : Int32))] 5)
theorem d17_0 : decode jdk_52_method_14_code 0 = .ok (.iload_n 2, 1) := by decide +kernel
theorem d17_1 : decode jdk_52_method_14_code 1 = .ok (.invokestatic 107, 3) := by decide +kernel
theorem pd_1 : parseMethodDescriptor "(I)[B" = some ⟨[.int], some (.array .byte)⟩ := by decide +kernel
theorem d17_4 : decode jdk_52_method_14_code 4 = .ok (.astore_n 3, 1) := by decide +kernel
theorem d17_5 : decode jdk_52_method_14_code 5 = .ok (.iconst 0, 1) := by decide +kernel
theorem d17_6 : decode jdk_52_method_14_code 6 = .ok (.istore 4, 2) := by decide +kernel
theorem d17_8 : decode jdk_52_method_14_code 8 = .ok (.iload 4, 2) := by decide +kernel
theorem d17_10 : decode jdk_52_method_14_code 10 = .ok (.iload_n 2, 1) := by decide +kernel
theorem d17_11 : decode jdk_52_method_14_code 11 = .ok (.if_icmp .ge 21, 3) := by decide +kernel
theorem d17_14 : decode jdk_52_method_14_code 14 = .ok (.aload_n 3, 1) := by decide +kernel
theorem d17_15 : decode jdk_52_method_14_code 15 = .ok (.iload 4, 2) := by decide +kernel
theorem d17_17 : decode jdk_52_method_14_code 17 = .ok (.aload_n 0, 1) := by decide +kernel
theorem d17_18 : decode jdk_52_method_14_code 18 = .ok (.iload_n 1, 1) := by decide +kernel
theorem d17_19 : decode jdk_52_method_14_code 19 = .ok (.caload, 1) := by decide +kernel
theorem d17_20 : decode jdk_52_method_14_code 20 = .ok (.invokestatic 111, 3) := by decide +kernel
theorem pd_2 : parseMethodDescriptor "([BII)V" = some ⟨[(.array .byte), .int, .int], none⟩ := by decide +kernel
theorem d17_23 : decode jdk_52_method_14_code 23 = .ok (.iinc 1 1, 3) := by decide +kernel
theorem d17_26 : decode jdk_52_method_14_code 26 = .ok (.iinc 4 1, 3) := by decide +kernel
theorem d17_29 : decode jdk_52_method_14_code 29 = .ok (.goto (-21), 3) := by decide +kernel
theorem d17_32 : decode jdk_52_method_14_code 32 = .ok (.aload_n 3, 1) := by decide +kernel
theorem d17_33 : decode jdk_52_method_14_code 33 = .ok (.areturn, 1) := by decide +kernel
def Q_tb1 (Z : State) (a1 : Addr) (c0 : Int32) (kC : ClassId) (h0 : Heap) (n0 : Nat) (v : Option Value) (h : Heap) (L : List Loc) : Prop := ∃ (t : Addr) (k : ClassId), v = some (.ref t) ∧ Fr n0 L ∧ Keep h0 h [] ∧ h0.size ≤ t ∧ Arv Z h t k .byte (2 : Int32) [(.int (StrChars.lo8 c0)), (.int (StrChars.hi8 c0))] (.int (0 : Int32))
set_option maxRecDepth 65536 in
set_option maxHeartbeats 40000000 in
theorem tb1 (l : Launch) (Z : State) (a0 : Array Value) (hw : ∀ d ∈ tables_1, d.before a0 Z = true) (ws : List Jvm.Cond) (a1 : Addr) (c0 : Int32) (kC : ClassId) (h0 : Heap) (n0 : Nat) (Z0 : n0 ≤ h0.size) (O0 : Old Z n0 h0) (AD : Sta Z Z.heap "java/lang/StringUTF16" "$assertionsDisabled" "Z" (.int (1 : Int32))) (HI : Sta Z Z.heap "java/lang/StringUTF16" "HI_BYTE_SHIFT" "I" (.int (0 : Int32))) (LO : Sta Z Z.heap "java/lang/StringUTF16" "LO_BYTE_SHIFT" "I" (.int (8 : Int32))) (VA : Arv Z h0 a1 kC .char (1 : Int32) [(.int c0)] (.int (0 : Int32))) :
    MetFree l (⟨"java/lang/StringUTF16", "toBytes", "([CII)[B"⟩ : MethodName) (head1 (Jvm.Cond.code (⟨"java/lang/StringUTF16", "toBytes", "([CII)[B"⟩ : MethodName) jdk_52_method_14_code 5 (some (.array .byte)) :: ws) ({ frames := 2, cells := 1, slots := 2, locals := 24 } : Room)) (fun a U => a = #[(.ref a1), (.int (0 : Int32)), (.int (1 : Int32))] ∧ Z.Warmed39 U.vm ∧ U.heap = h0) (fun _ _ _ _ _ => True) (fun _ U o U' => ∃ v L, o = .returned v ∧ Q_tb1 Z a1 c0 kC h0 n0 v U'.heap L ∧ FrameEnd U o U' L ({ frames := 2, cells := 1, slots := 2, locals := 24 } : Room).cells ({ frames := 2, cells := 1, slots := 2, locals := 24 } : Room).slots) := by
  refine MetFree.of_bodySF (plainFor_of_name pn_java_lang_StringUTF16) hisR ?_
  intro p e s m args below meth c s₁ Bd hml0 hP hK
  obtain ⟨rfl, hZ, hh⟩ := hP
  have hx := Bd.exec
  have hby := Bd.bytes
  have hml : c.maxLocals = 5 := hml0
  have hown : s.vm.findClass "java/lang/StringUTF16" = some m.cls := findClass_of_methodNamed Bd.named
  have hnm := (name_of_methodNamed Bd.named Bd.method).1
  have X0 : Stand p l e ({ frames := 2, cells := 1, slots := 2, locals := 24 } : Room) s m #[(.ref a1), (.int (0 : Int32)), (.int (1 : Int32))] below meth c s₁ [] 0 0 := Stand.of_body Bd
  have e0 : s₁.heap = h0 := by rw [← hh, Bd.state]; rfl
  have N0 := Fr.nil n0
  have KP0 : Keep h0 h0 [] := Keep.refl h0 []
  have go0 : Goes p e below s₁ (G_tb1 m a1) s₁ (mkF m 0 #[vR a1, vI (0 : Int32), vI (1 : Int32), uN, uN] []) := fun tq kq => castTop (by first | (simp [entryFrame, mkF, argsToLocals, Value.category, vI, vJ, vR, vD, vN, uN, sD, G_tb1]; done) | rfl) kq
  have go30 : Goes p e below s₁ (G_tb1 m a1) s₁ (mkF m 1 #[vR a1, vI (0 : Int32), vI (1 : Int32), uN, uN] [(.int (1 : Int32))]) := fun tq kq => go0 tq (by
    show Sx p e below s₁ (mkF m 0 #[vR a1, vI (0 : Int32), vI (1 : Int32), uN, uN] []) _
    refine XS.iloadN X0.here hx rfl (hb hby d17_0) rfl ?_
    exact kq)
  obtain ⟨vv31, _, ⟨T31, L31, k31, n31⟩, -, X31, ⟨Lc31, hQ31, l31, y31, z31⟩, st31⟩ := Jvm.LawKit.callS X0 hx (y := (⟨"java/lang/StringUTF16", "newBytesFor", "(I)[B"⟩ : MethodName)) hown (mvT hZ (tw78 hw)) (mvT hZ (tw79 hw)) (mvT hZ (tw70 hw)) (mvT hZ (tw80 hw)) (by decide) (backOf (W := 0) (nbf1 l Z a0 hw []   h0 n0 Z0 ) hZ (tw80 hw) (tw70 hw) (by decide) (by decide)) (g := (mkF m 1 #[vR a1, vI (0 : Int32), vI (1 : Int32), uN, uN] [(.int (1 : Int32))])) rfl (by rw [hml]; rfl) (argsL := [(.int (1 : Int32))]) (rest := []) (lenOf pd_1 rfl) rfl (by show 2 * 0 + _ ≤ _; exact Nat.le_of_eq rfl) (hb hby d17_1) (fun _ _ => ⟨rfl, e0, (by decide : 0 + 1 ≤ _), (by decide : 0 + 2 ≤ _)⟩)
  dsimp only [Pt.U, Pt.locs, Pt.cells, Pt.slots] at X31 l31 y31 z31 st31 hQ31
  subst l31 y31 z31
  obtain ⟨t31, kt31, rfl, Nq31, K31, sz31, V31⟩ := hQ31
  have N31 := Fr.app N0 Nq31
  have ZS31 : n0 ≤ T31.heap.size := Nat.le_trans Z0 K31.1
  have KP31 : Keep h0 T31.heap [] := KP0.trans K31 all0
  have O31 := O0.keep K31 all0
  have ne32 : a1 ≠ t31 := Nat.ne_of_lt (Nat.lt_of_lt_of_le VA.lt sz31)
  have go31 : Goes p e below s₁ (G_tb1 m a1) T31 (mkF m 4 #[vR a1, vI (0 : Int32), vI (1 : Int32), uN, uN] [(.ref t31)]) := fun tq kq => go30 tq (st31 _ kq)
  have g_t31 : n0 ≤ t31 := Nat.le_trans Z0 sz31
  have sz_t31 : h0.size ≤ t31 := sz31
  have go33 : Goes p e below s₁ (G_tb1 m a1) T31 (mkF m 11 #[vR a1, vI (0 : Int32), vI (1 : Int32), vR t31, vI (0 : Int32)] [(.int (1 : Int32)), (.int (0 : Int32))]) := fun tq kq => go31 tq (by
    show Sx p e below T31 (mkF m 4 #[vR a1, vI (0 : Int32), vI (1 : Int32), uN, uN] [(.ref t31)]) _
    refine XS.astoreN X31.here hx rfl (hb hby d17_4) rfl rfl (l' := #[vR a1, vI (0 : Int32), vI (1 : Int32), vR t31, uN]) rfl ?_
    show Sx p e below T31 (mkF m 5 #[vR a1, vI (0 : Int32), vI (1 : Int32), vR t31, uN] []) _
    refine XS.iconst X31.here hx rfl (hb hby d17_5) ?_
    refine XS.istore X31.here hx rfl (hb hby d17_6) rfl (l' := #[vR a1, vI (0 : Int32), vI (1 : Int32), vR t31, vI (0 : Int32)]) rfl ?_
    show Sx p e below T31 (mkF m 8 #[vR a1, vI (0 : Int32), vI (1 : Int32), vR t31, vI (0 : Int32)] []) _
    refine XS.iload X31.here hx rfl (hb hby d17_8) rfl ?_
    refine XS.iloadN X31.here hx rfl (hb hby d17_10) rfl ?_
    exact kq)
  have go34 : Goes p e below s₁ (G_tb1 m a1) T31 (mkF m 19 #[vR a1, vI (0 : Int32), vI (1 : Int32), vR t31, vI (0 : Int32)] [(.int (0 : Int32)), (.ref a1), (.int (0 : Int32)), (.ref t31)]) := fun tq kq => go33 tq (by
    show Sx p e below T31 (mkF m 11 #[vR a1, vI (0 : Int32), vI (1 : Int32), vR t31, vI (0 : Int32)] [(.int (1 : Int32)), (.int (0 : Int32))]) _
    refine XS.icmpNo X31.here hx rfl (hb hby d17_11) rfl (tlt (by decide)).2.1 ?_
    refine XS.aloadN X31.here hx rfl (hb hby d17_14) rfl rfl ?_
    show Sx p e below T31 (mkF m 15 #[vR a1, vI (0 : Int32), vI (1 : Int32), vR t31, vI (0 : Int32)] [(.ref t31)]) _
    refine XS.iload X31.here hx rfl (hb hby d17_15) rfl ?_
    refine XS.aloadN X31.here hx rfl (hb hby d17_17) rfl rfl ?_
    show Sx p e below T31 (mkF m 18 #[vR a1, vI (0 : Int32), vI (1 : Int32), vR t31, vI (0 : Int32)] [(.ref a1), (.int (0 : Int32)), (.ref t31)]) _
    refine XS.iloadN X31.here hx rfl (hb hby d17_18) rfl ?_
    exact kq)
  obtain ⟨cl35, Ar35, q35, S35, N_35, H35, G35⟩ := id ((VA.keep K31 nin0))
  have hin35 : ¬ ((0 : Int32) < 0 ∨ cl35.slots.size ≤ ((0 : Int32)).toNatClampNeg) := inb_of S35 ⟨by decide, by decide⟩
  have hat35 := Has.at H35 hin35 (v := (.int c0)) rfl
  have go36 : Goes p e below s₁ (G_tb1 m a1) T31 (mkF m 20 #[vR a1, vI (0 : Int32), vI (1 : Int32), vR t31, vI (0 : Int32)] [(.int c0), (.int (0 : Int32)), (.ref t31)]) := fun tq kq => go34 tq (by
    show Sx p e below T31 (mkF m 19 #[vR a1, vI (0 : Int32), vI (1 : Int32), vR t31, vI (0 : Int32)] [(.int (0 : Int32)), (.ref a1), (.int (0 : Int32)), (.ref t31)]) _
    refine X31.caload hx (j := (0 : Int32)) (v := (.int c0)) Ar35.1 (State.isArrayOf_alike hZ.alike Ar35.2.1) Ar35.2.2 hin35 hat35 (g := (mkF m 19 #[vR a1, vI (0 : Int32), vI (1 : Int32), vR t31, vI (0 : Int32)] [(.int (0 : Int32)), (.ref a1), (.int (0 : Int32)), (.ref t31)])) rfl rfl (hb hby d17_19) _ ?_
    exact kq)
  obtain ⟨vv37, _, ⟨T37, L37, k37, n37⟩, -, X37, ⟨Lc37, hQ37, l37, y37, z37⟩, st37⟩ := Jvm.LawKit.callS X31 hx (y := (⟨"java/lang/StringUTF16", "putChar", "([BII)V"⟩ : MethodName)) hown (mvT hZ (tw85 hw)) (mvT hZ (tw86 hw)) (mvT hZ (tw70 hw)) (mvT hZ (tw87 hw)) (by decide) (backOf (W := 0) (pc10 l Z a0 hw [] t31 c0 kt31 (.int (0 : Int32)) (.int (0 : Int32)) T31.heap n0 ZS31 O31 g_t31 AD HI LO V31) hZ (tw87 hw) (tw70 hw) (by decide) (by decide)) (g := (mkF m 20 #[vR a1, vI (0 : Int32), vI (1 : Int32), vR t31, vI (0 : Int32)] [(.int c0), (.int (0 : Int32)), (.ref t31)])) rfl (by rw [hml]; rfl) (argsL := [(.ref t31), (.int (0 : Int32)), (.int c0)]) (rest := []) (lenOf pd_2 rfl) rfl (by show 2 * 0 + _ ≤ _; exact Nat.le_of_eq rfl) (hb hby d17_20) (fun _ _ => ⟨rfl, rfl, (by decide : 1 + 0 ≤ _), (by decide : 2 + 0 ≤ _)⟩)
  dsimp only [Pt.U, Pt.locs, Pt.cells, Pt.slots] at X37 l37 y37 z37 st37 hQ37
  subst l37 y37 z37
  obtain ⟨rfl, Nq37, K37, V37⟩ := hQ37
  have N37 := Fr.app N31 Nq37
  have ZS37 : n0 ≤ T37.heap.size := Nat.le_trans ZS31 K37.1
  have KP37 : Keep h0 T37.heap [] := KP31.trans K37 (allS (Or.inr sz_t31) all0)
  have O37 := O31.keep K37 (allS g_t31 all0)
  have go37 : Goes p e below s₁ (G_tb1 m a1) T37 (mkF m 23 #[vR a1, vI (0 : Int32), vI (1 : Int32), vR t31, vI (0 : Int32)] []) := fun tq kq => go36 tq (st37 _ kq)
  have go38 : Goes p e below s₁ (G_tb1 m a1) T37 (mkF m 11 #[vR a1, vI (1 : Int32), vI (1 : Int32), vR t31, vI (1 : Int32)] [(.int (1 : Int32)), (.int (1 : Int32))]) := fun tq kq => go37 tq (by
    show Sx p e below T37 (mkF m 23 #[vR a1, vI (0 : Int32), vI (1 : Int32), vR t31, vI (0 : Int32)] []) _
    refine XS.iinc X37.here hx rfl (hb hby d17_23) rfl (l' := #[vR a1, vI (1 : Int32), vI (1 : Int32), vR t31, vI (0 : Int32)]) rfl ?_
    refine XS.iinc X37.here hx rfl (hb hby d17_26) rfl (l' := #[vR a1, vI (1 : Int32), vI (1 : Int32), vR t31, vI (1 : Int32)]) rfl ?_
    show Sx p e below T37 (mkF m 29 #[vR a1, vI (1 : Int32), vI (1 : Int32), vR t31, vI (1 : Int32)] []) _
    refine XS.goto X37.here hx rfl (pc0 := 29) (pc' := 8) rfl (hb hby d17_29) (by decide) (by decide) ?_
    refine XS.iload X37.here hx rfl (hb hby d17_8) rfl ?_
    show Sx p e below T37 (mkF m 10 #[vR a1, vI (1 : Int32), vI (1 : Int32), vR t31, vI (1 : Int32)] [(.int (1 : Int32))]) _
    refine XS.iloadN X37.here hx rfl (hb hby d17_10) rfl ?_
    exact kq)
  have go39 : Goes p e below s₁ (G_tb1 m a1) T37 (mkF m 33 #[vR a1, vI (1 : Int32), vI (1 : Int32), vR t31, vI (1 : Int32)] [(.ref t31)]) := fun tq kq => go38 tq (by
    show Sx p e below T37 (mkF m 11 #[vR a1, vI (1 : Int32), vI (1 : Int32), vR t31, vI (1 : Int32)] [(.int (1 : Int32)), (.int (1 : Int32))]) _
    refine XS.icmpYes X37.here hx rfl (pc0 := 11) (pc' := 32) rfl (hb hby d17_11) rfl (flt (by decide)).2.1 (by decide) (by decide) ?_
    show Sx p e below T37 (mkF m 32 #[vR a1, vI (1 : Int32), vI (1 : Int32), vR t31, vI (1 : Int32)] []) _
    refine XS.aloadN X37.here hx rfl (hb hby d17_32) rfl rfl ?_
    exact kq)
  obtain ⟨fs, hr, hrun, hended, hW, hsame⟩ := X37.leave (v := some (.ref t31)) (fun h => by rw [Bd.returns] at h; cases h)
  refine ⟨_, _, go39 _ ?_, hrun, hended, _, _, rfl, ?_, ⟨_, rfl⟩, hW, hsame.mono (by decide) (by decide)⟩
  · jvm_step X37.here [X37.here.top, hx, (hb hby d17_33), X37.method', Bd.returns, Value.isRef, FieldType.isReference]
    first | (intro acts; rw [hr _ acts rfl rfl rfl]) | rw [hr _ _ rfl rfl rfl]
    exact Steps.refl _
  · show Q_tb1 Z a1 c0 kC h0 n0 _ T37.heap _
    exact ⟨t31, kt31, rfl, N37, KP37, sz_t31, V37⟩
abbrev G_cx1 (m : MethodId) (a1 : Addr) (a3 : Addr) : JFrame := (entryFrame m #[(.ref a1), (.int (0 : Int32)), (.ref a3), (.int (0 : Int32)), (.int (1 : Int32))] 7)
theorem d16_0 : decode jdk_52_method_21_code 0 = .ok (.iconst 0, 1) := by decide +kernel
theorem d16_1 : decode jdk_52_method_21_code 1 = .ok (.istore 5, 2) := by decide +kernel
theorem d16_3 : decode jdk_52_method_21_code 3 = .ok (.iload 5, 2) := by decide +kernel
theorem d16_5 : decode jdk_52_method_21_code 5 = .ok (.iload 4, 2) := by decide +kernel
theorem d16_7 : decode jdk_52_method_21_code 7 = .ok (.if_icmp .ge 37, 3) := by decide +kernel
theorem d16_10 : decode jdk_52_method_21_code 10 = .ok (.aload_n 0, 1) := by decide +kernel
theorem d16_11 : decode jdk_52_method_21_code 11 = .ok (.iload_n 1, 1) := by decide +kernel
theorem d16_12 : decode jdk_52_method_21_code 12 = .ok (.caload, 1) := by decide +kernel
theorem d16_13 : decode jdk_52_method_21_code 13 = .ok (.istore 6, 2) := by decide +kernel
theorem d16_15 : decode jdk_52_method_21_code 15 = .ok (.iload 6, 2) := by decide +kernel
theorem d16_17 : decode jdk_52_method_21_code 17 = .ok (.sipush 255, 3) := by decide +kernel
theorem d16_20 : decode jdk_52_method_21_code 20 = .ok (.if_icmp .le 6, 3) := by decide +kernel
theorem d16_23 : decode jdk_52_method_21_code 23 = .ok (.iload 5, 2) := by decide +kernel
theorem d16_25 : decode jdk_52_method_21_code 25 = .ok (.ireturn, 1) := by decide +kernel
def Q_cx1 (Z : State) (a1 : Addr) (a3 : Addr) (c0 : Int32) (kC kB : ClassId) (h0 : Heap) (n0 : Nat) (v : Option Value) (h : Heap) (L : List Loc) : Prop := ∃ k : Nat, k < 1 ∧ v = some (.int (Int32.ofNat k)) ∧ Fr n0 L ∧ Keep h0 h [a3] ∧ (255 : Int32) < ([c0] : List Int32).getD k 0
set_option maxRecDepth 65536 in
set_option maxHeartbeats 40000000 in
theorem cx1 (l : Launch) (Z : State) (a0 : Array Value) (hw : ∀ d ∈ tables_1, d.before a0 Z = true) (ws : List Jvm.Cond) (a1 : Addr) (a3 : Addr) (c0 : Int32) (kC kB : ClassId) (h0 : Heap) (n0 : Nat) (Z0 : n0 ≤ h0.size) (g_a3 : n0 ≤ a3) (VA : Arv Z h0 a1 kC .char (1 : Int32) [(.int c0)] (.int (0 : Int32))) (VB : Arv Z h0 a3 kB .byte (1 : Int32) [(.int (0 : Int32))] (.int (0 : Int32))) (ne13 : a1 ≠ a3) (hbad : ∃ c ∈ ([c0] : List Int32), (255 : Int32) < c) :
    MetFree l (⟨"java/lang/StringUTF16", "compress", "([CI[BII)I"⟩ : MethodName) (head1 (Jvm.Cond.code (⟨"java/lang/StringUTF16", "compress", "([CI[BII)I"⟩ : MethodName) jdk_52_method_21_code 7 (some .int) :: ws) ({ frames := 0, cells := 0, slots := 0, locals := 0 } : Room)) (fun a U => a = #[(.ref a1), (.int (0 : Int32)), (.ref a3), (.int (0 : Int32)), (.int (1 : Int32))] ∧ Z.Warmed39 U.vm ∧ U.heap = h0) (fun _ _ _ _ _ => True) (fun _ U o U' => ∃ v L, o = .returned v ∧ Q_cx1 Z a1 a3 c0 kC kB h0 n0 v U'.heap L ∧ FrameEnd U o U' L ({ frames := 0, cells := 0, slots := 0, locals := 0 } : Room).cells ({ frames := 0, cells := 0, slots := 0, locals := 0 } : Room).slots) := by
  refine MetFree.of_bodySF (plainFor_of_name pn_java_lang_StringUTF16) hisR ?_
  intro p e s m args below meth c s₁ Bd hml0 hP hK
  obtain ⟨rfl, hZ, hh⟩ := hP
  have hx := Bd.exec
  have hby := Bd.bytes
  have hml : c.maxLocals = 7 := hml0
  have hown : s.vm.findClass "java/lang/StringUTF16" = some m.cls := findClass_of_methodNamed Bd.named
  have hnm := (name_of_methodNamed Bd.named Bd.method).1
  have X0 : Stand p l e ({ frames := 0, cells := 0, slots := 0, locals := 0 } : Room) s m #[(.ref a1), (.int (0 : Int32)), (.ref a3), (.int (0 : Int32)), (.int (1 : Int32))] below meth c s₁ [] 0 0 := Stand.of_body Bd
  have e0 : s₁.heap = h0 := by rw [← hh, Bd.state]; rfl
  have N0 := Fr.nil n0
  have KP0 : Keep h0 h0 [a3] := Keep.refl h0 [a3]
  have go0 : Goes p e below s₁ (G_cx1 m a1 a3) s₁ (mkF m 0 #[vR a1, vI (0 : Int32), vR a3, vI (0 : Int32), vI (1 : Int32), uN, uN] []) := fun tq kq => castTop (by first | (simp [entryFrame, mkF, argsToLocals, Value.category, vI, vJ, vR, vD, vN, uN, sD, G_cx1]; done) | rfl) kq
  have go40 : Goes p e below s₁ (G_cx1 m a1 a3) s₁ (mkF m 7 #[vR a1, vI (0 : Int32), vR a3, vI (0 : Int32), vI (1 : Int32), vI (0 : Int32), uN] [(.int (1 : Int32)), (.int (0 : Int32))]) := fun tq kq => go0 tq (by
    show Sx p e below s₁ (mkF m 0 #[vR a1, vI (0 : Int32), vR a3, vI (0 : Int32), vI (1 : Int32), uN, uN] []) _
    refine XS.iconst X0.here hx rfl (hb hby d16_0) ?_
    refine XS.istore X0.here hx rfl (hb hby d16_1) rfl (l' := #[vR a1, vI (0 : Int32), vR a3, vI (0 : Int32), vI (1 : Int32), vI (0 : Int32), uN]) rfl ?_
    show Sx p e below s₁ (mkF m 3 #[vR a1, vI (0 : Int32), vR a3, vI (0 : Int32), vI (1 : Int32), vI (0 : Int32), uN] []) _
    refine XS.iload X0.here hx rfl (hb hby d16_3) rfl ?_
    refine XS.iload X0.here hx rfl (hb hby d16_5) rfl ?_
    exact kq)
  have go41 : Goes p e below s₁ (G_cx1 m a1 a3) s₁ (mkF m 12 #[vR a1, vI (0 : Int32), vR a3, vI (0 : Int32), vI (1 : Int32), vI (0 : Int32), uN] [(.int (0 : Int32)), (.ref a1)]) := fun tq kq => go40 tq (by
    show Sx p e below s₁ (mkF m 7 #[vR a1, vI (0 : Int32), vR a3, vI (0 : Int32), vI (1 : Int32), vI (0 : Int32), uN] [(.int (1 : Int32)), (.int (0 : Int32))]) _
    refine XS.icmpNo X0.here hx rfl (hb hby d16_7) rfl (tlt (by decide)).2.1 ?_
    refine XS.aloadN X0.here hx rfl (hb hby d16_10) rfl rfl ?_
    show Sx p e below s₁ (mkF m 11 #[vR a1, vI (0 : Int32), vR a3, vI (0 : Int32), vI (1 : Int32), vI (0 : Int32), uN] [(.ref a1)]) _
    refine XS.iloadN X0.here hx rfl (hb hby d16_11) rfl ?_
    exact kq)
  obtain ⟨cl42, Ar42, q42, S42, N_42, H42, G42⟩ := id (VA)
  have hin42 : ¬ ((0 : Int32) < 0 ∨ cl42.slots.size ≤ ((0 : Int32)).toNatClampNeg) := inb_of S42 ⟨by decide, by decide⟩
  have hat42 := Has.at H42 hin42 (v := (.int c0)) rfl
  have go43 : Goes p e below s₁ (G_cx1 m a1 a3) s₁ (mkF m 20 #[vR a1, vI (0 : Int32), vR a3, vI (0 : Int32), vI (1 : Int32), vI (0 : Int32), vI c0] [(.int (255 : Int32)), (.int c0)]) := fun tq kq => go41 tq (by
    show Sx p e below s₁ (mkF m 12 #[vR a1, vI (0 : Int32), vR a3, vI (0 : Int32), vI (1 : Int32), vI (0 : Int32), uN] [(.int (0 : Int32)), (.ref a1)]) _
    refine X0.caload hx (j := (0 : Int32)) (v := (.int c0)) (by rw [e0]; exact Ar42.1) (State.isArrayOf_alike hZ.alike Ar42.2.1) Ar42.2.2 hin42 hat42 (g := (mkF m 12 #[vR a1, vI (0 : Int32), vR a3, vI (0 : Int32), vI (1 : Int32), vI (0 : Int32), uN] [(.int (0 : Int32)), (.ref a1)])) rfl rfl (hb hby d16_12) _ ?_
    show Sx p e below s₁ (mkF m 13 #[vR a1, vI (0 : Int32), vR a3, vI (0 : Int32), vI (1 : Int32), vI (0 : Int32), uN] [(.int c0)]) _
    refine XS.istore X0.here hx rfl (hb hby d16_13) rfl (l' := #[vR a1, vI (0 : Int32), vR a3, vI (0 : Int32), vI (1 : Int32), vI (0 : Int32), vI c0]) rfl ?_
    refine XS.iload X0.here hx rfl (hb hby d16_15) rfl ?_
    show Sx p e below s₁ (mkF m 17 #[vR a1, vI (0 : Int32), vR a3, vI (0 : Int32), vI (1 : Int32), vI (0 : Int32), vI c0] [(.int c0)]) _
    refine XS.sipush X0.here hx rfl (hb hby d16_17) ?_
    exact kq)
  by_cases hq0 : (255 : Int32) < c0
  · have go44 : Goes p e below s₁ (G_cx1 m a1 a3) s₁ (mkF m 25 #[vR a1, vI (0 : Int32), vR a3, vI (0 : Int32), vI (1 : Int32), vI (0 : Int32), vI c0] [(.int (0 : Int32))]) := fun tq kq => go43 tq (by
      show Sx p e below s₁ (mkF m 20 #[vR a1, vI (0 : Int32), vR a3, vI (0 : Int32), vI (1 : Int32), vI (0 : Int32), vI c0] [(.int (255 : Int32)), (.int c0)]) _
      refine XS.icmpNo X0.here hx rfl (hb hby d16_20) rfl (tlt hq0).2.2.2 ?_
      show Sx p e below s₁ (mkF m 23 #[vR a1, vI (0 : Int32), vR a3, vI (0 : Int32), vI (1 : Int32), vI (0 : Int32), vI c0] []) _
      refine XS.iload X0.here hx rfl (hb hby d16_23) rfl ?_
      exact kq)
    obtain ⟨fs, hr, hrun, hended, hW, hsame⟩ := X0.leave (v := some (.int (0 : Int32))) (fun h => by rw [Bd.returns] at h; cases h)
    refine ⟨_, _, go44 _ ?_, hrun, hended, _, _, rfl, ?_, ⟨_, rfl⟩, hW, hsame.mono (by decide) (by decide)⟩
    · exact retI X0 hx Bd.returns (hb hby d16_25) hr
    · show Q_cx1 Z a1 a3 c0 kC kB h0 n0 _ s₁.heap _
      rw [e0]
      exact ⟨0, by decide, rfl, N0, KP0, (show (255 : Int32) < ([c0] : List Int32).getD 0 0 from hq0)⟩
  · have go45 : Goes p e below s₁ (G_cx1 m a1 a3) s₁ (mkF m 26 #[vR a1, vI (0 : Int32), vR a3, vI (0 : Int32), vI (1 : Int32), vI (0 : Int32), vI c0] []) := fun tq kq => go43 tq (by
      show Sx p e below s₁ (mkF m 20 #[vR a1, vI (0 : Int32), vR a3, vI (0 : Int32), vI (1 : Int32), vI (0 : Int32), vI c0] [(.int (255 : Int32)), (.int c0)]) _
      refine XS.icmpYes X0.here hx rfl (pc0 := 20) (pc' := 26) rfl (hb hby d16_20) rfl (flt hq0).2.2.2 (by decide) (by decide) ?_
      exact kq)
    obtain ⟨c, hc, hq⟩ := hbad
    simp only [List.mem_cons, List.not_mem_nil, or_false] at hc
    exfalso
    rcases hc with rfl <;> contradiction
abbrev G_cq1 (m : MethodId) (a1 : Addr) : JFrame := (entryFrame m #[(.ref a1), (.int (0 : Int32)), (.int (1 : Int32))] 6)
theorem d15_0 : decode jdk_52_method_16_code 0 = .ok (.iload_n 2, 1) := by decide +kernel
theorem d15_1 : decode jdk_52_method_16_code 1 = .ok (.newarray .byte, 2) := by decide +kernel
theorem d15_3 : decode jdk_52_method_16_code 3 = .ok (.astore_n 3, 1) := by decide +kernel
theorem d15_4 : decode jdk_52_method_16_code 4 = .ok (.aload_n 0, 1) := by decide +kernel
theorem d15_5 : decode jdk_52_method_16_code 5 = .ok (.iload_n 1, 1) := by decide +kernel
theorem d15_6 : decode jdk_52_method_16_code 6 = .ok (.aload_n 3, 1) := by decide +kernel
theorem d15_7 : decode jdk_52_method_16_code 7 = .ok (.iconst 0, 1) := by decide +kernel
theorem d15_8 : decode jdk_52_method_16_code 8 = .ok (.iload_n 2, 1) := by decide +kernel
theorem d15_9 : decode jdk_52_method_16_code 9 = .ok (.invokestatic 115, 3) := by decide +kernel
theorem pd_3 : parseMethodDescriptor "([CI[BII)I" = some ⟨[(.array .char), .int, (.array .byte), .int, .int], some .int⟩ := by decide +kernel
theorem d15_12 : decode jdk_52_method_16_code 12 = .ok (.istore 4, 2) := by decide +kernel
theorem d15_14 : decode jdk_52_method_16_code 14 = .ok (.iload 4, 2) := by decide +kernel
theorem d15_16 : decode jdk_52_method_16_code 16 = .ok (.iload_n 2, 1) := by decide +kernel
theorem d15_17 : decode jdk_52_method_16_code 17 = .ok (.if_icmp .eq 40, 3) := by decide +kernel
theorem d15_20 : decode jdk_52_method_16_code 20 = .ok (.aload_n 0, 1) := by decide +kernel
theorem d15_21 : decode jdk_52_method_16_code 21 = .ok (.iload_n 1, 1) := by decide +kernel
theorem d15_22 : decode jdk_52_method_16_code 22 = .ok (.iload_n 2, 1) := by decide +kernel
theorem d15_23 : decode jdk_52_method_16_code 23 = .ok (.invokestatic 119, 3) := by decide +kernel
theorem pd_4 : parseMethodDescriptor "([CII)[B" = some ⟨[(.array .char), .int, .int], some (.array .byte)⟩ := by decide +kernel
theorem d15_26 : decode jdk_52_method_16_code 26 = .ok (.astore 5, 2) := by decide +kernel
theorem d15_28 : decode jdk_52_method_16_code 28 = .ok (.aload 5, 2) := by decide +kernel
theorem d15_30 : decode jdk_52_method_16_code 30 = .ok (.iload 4, 2) := by decide +kernel
theorem d15_32 : decode jdk_52_method_16_code 32 = .ok (.invokestatic 71, 3) := by decide +kernel
theorem pd_5 : parseMethodDescriptor "([BI)C" = some ⟨[(.array .byte), .int], some .char⟩ := by decide +kernel
theorem d15_35 : decode jdk_52_method_16_code 35 = .ok (.sipush 255, 3) := by decide +kernel
theorem d15_38 : decode jdk_52_method_16_code 38 = .ok (.if_icmp .gt 16, 3) := by decide +kernel
theorem d15_54 : decode jdk_52_method_16_code 54 = .ok (.aload 5, 2) := by decide +kernel
theorem d15_56 : decode jdk_52_method_16_code 56 = .ok (.areturn, 1) := by decide +kernel
def Q_cq1 (Z : State) (a1 : Addr) (c0 : Int32) (kC : ClassId) (h0 : Heap) (n0 : Nat) (v : Option Value) (h : Heap) (L : List Loc) : Prop := ∃ (t : Addr) (k : ClassId), v = some (.ref t) ∧ Fr n0 L ∧ Keep h0 h [] ∧ Arv Z h t k .byte (2 : Int32) [(.int (StrChars.lo8 c0)), (.int (StrChars.hi8 c0))] (.int (0 : Int32))
set_option maxRecDepth 65536 in
set_option maxHeartbeats 40000000 in
theorem cq1 (l : Launch) (Z : State) (a0 : Array Value) (hw : ∀ d ∈ tables_1, d.before a0 Z = true) (ws : List Jvm.Cond) (a1 : Addr) (c0 : Int32) (kC : ClassId) (h0 : Heap) (n0 : Nat) (Z0 : n0 ≤ h0.size) (O0 : Old Z n0 h0) (AD : Sta Z Z.heap "java/lang/StringUTF16" "$assertionsDisabled" "Z" (.int (1 : Int32))) (HI : Sta Z Z.heap "java/lang/StringUTF16" "HI_BYTE_SHIFT" "I" (.int (0 : Int32))) (LO : Sta Z Z.heap "java/lang/StringUTF16" "LO_BYTE_SHIFT" "I" (.int (8 : Int32))) (VA : Arv Z h0 a1 kC .char (1 : Int32) [(.int c0)] (.int (0 : Int32))) (hbad : ∃ c ∈ ([c0] : List Int32), (255 : Int32) < c) (hcs : ∀ c ∈ ([c0] : List Int32), C16 c) :
    MetFree l (⟨"java/lang/StringUTF16", "compress", "([CII)[B"⟩ : MethodName) (head1 (Jvm.Cond.code (⟨"java/lang/StringUTF16", "compress", "([CII)[B"⟩ : MethodName) jdk_52_method_16_code 6 (some (.array .byte)) :: ws) ({ frames := 3, cells := 2, slots := 3, locals := 40 } : Room)) (fun a U => a = #[(.ref a1), (.int (0 : Int32)), (.int (1 : Int32))] ∧ Z.Warmed39 U.vm ∧ U.heap = h0) (fun _ _ _ _ _ => True) (fun _ U o U' => ∃ v L, o = .returned v ∧ Q_cq1 Z a1 c0 kC h0 n0 v U'.heap L ∧ FrameEnd U o U' L ({ frames := 3, cells := 2, slots := 3, locals := 40 } : Room).cells ({ frames := 3, cells := 2, slots := 3, locals := 40 } : Room).slots) := by
  refine MetFree.of_bodySF (plainFor_of_name pn_java_lang_StringUTF16) hisR ?_
  intro p e s m args below meth c s₁ Bd hml0 hP hK
  obtain ⟨rfl, hZ, hh⟩ := hP
  have hx := Bd.exec
  have hby := Bd.bytes
  have hml : c.maxLocals = 6 := hml0
  have hown : s.vm.findClass "java/lang/StringUTF16" = some m.cls := findClass_of_methodNamed Bd.named
  have hnm := (name_of_methodNamed Bd.named Bd.method).1
  have X0 : Stand p l e ({ frames := 3, cells := 2, slots := 3, locals := 40 } : Room) s m #[(.ref a1), (.int (0 : Int32)), (.int (1 : Int32))] below meth c s₁ [] 0 0 := Stand.of_body Bd
  have e0 : s₁.heap = h0 := by rw [← hh, Bd.state]; rfl
  have N0 := Fr.nil n0
  have KP0 : Keep h0 h0 [] := Keep.refl h0 []
  have go0 : Goes p e below s₁ (G_cq1 m a1) s₁ (mkF m 0 #[vR a1, vI (0 : Int32), vI (1 : Int32), uN, uN, uN] []) := fun tq kq => castTop (by first | (simp [entryFrame, mkF, argsToLocals, Value.category, vI, vJ, vR, vD, vN, uN, sD, G_cq1]; done) | rfl) kq
  have go46 : Goes p e below s₁ (G_cq1 m a1) s₁ (mkF m 1 #[vR a1, vI (0 : Int32), vI (1 : Int32), uN, uN, uN] [(.int (1 : Int32))]) := fun tq kq => go0 tq (by
    show Sx p e below s₁ (mkF m 0 #[vR a1, vI (0 : Int32), vI (1 : Int32), uN, uN, uN] []) _
    refine XS.iloadN X0.here hx rfl (hb hby d15_0) rfl ?_
    exact kq)
  obtain ⟨T47, h47, k47, X47, e47, E47, A47, st47⟩ := newP X0 hx hZ (aty := .byte) (tw25 hw) e0 (g := (mkF m 1 #[vR a1, vI (0 : Int32), vI (1 : Int32), uN, uN, uN] [(.int (1 : Int32))])) rfl (hb hby d15_1) rfl (by decide) (cap := 1) (by decide) (by decide) (by decide) (by decide)
  obtain ⟨b47, g47⟩ : ∃ z, z = h0.size := ⟨_, rfl⟩
  rw [← g47] at A47 st47
  have g_b47 : n0 ≤ b47 := Nat.le_trans Z0 (Nat.le_of_eq g47.symm)
  have sz_b47 : h0.size ≤ b47 := Nat.le_trans KP0.1 (Nat.le_of_eq g47.symm)
  have KP47 : Keep h0 h47 [] := KP0.ext E47
  have O47 := O0.ext E47
  have ZS47 : n0 ≤ h47.size := Nat.le_trans Z0 E47.1
  have V47 : Arv Z h47 b47 k47 .byte (1 : Int32) [(.int (0 : Int32))] (.int (0 : Int32)) := (Arv.new A47 (by decide)).pad (pad_rep [] (.int (0 : Int32)) 1)
  have ne48 : a1 ≠ b47 := Nat.ne_of_lt (Nat.lt_of_lt_of_le VA.lt (Nat.le_of_eq g47.symm))
  have go47 : Goes p e below s₁ (G_cq1 m a1) T47 (mkF m 3 #[vR a1, vI (0 : Int32), vI (1 : Int32), uN, uN, uN] [(.ref b47)]) := fun tq kq => go46 tq (st47 _ kq)
  have go49 : Goes p e below s₁ (G_cq1 m a1) T47 (mkF m 9 #[vR a1, vI (0 : Int32), vI (1 : Int32), vR b47, uN, uN] [(.int (1 : Int32)), (.int (0 : Int32)), (.ref b47), (.int (0 : Int32)), (.ref a1)]) := fun tq kq => go47 tq (by
    show Sx p e below T47 (mkF m 3 #[vR a1, vI (0 : Int32), vI (1 : Int32), uN, uN, uN] [(.ref b47)]) _
    refine XS.astoreN X47.here hx rfl (hb hby d15_3) rfl rfl (l' := #[vR a1, vI (0 : Int32), vI (1 : Int32), vR b47, uN, uN]) rfl ?_
    show Sx p e below T47 (mkF m 4 #[vR a1, vI (0 : Int32), vI (1 : Int32), vR b47, uN, uN] []) _
    refine XS.aloadN X47.here hx rfl (hb hby d15_4) rfl rfl ?_
    refine XS.iloadN X47.here hx rfl (hb hby d15_5) rfl ?_
    show Sx p e below T47 (mkF m 6 #[vR a1, vI (0 : Int32), vI (1 : Int32), vR b47, uN, uN] [(.int (0 : Int32)), (.ref a1)]) _
    refine XS.aloadN X47.here hx rfl (hb hby d15_6) rfl rfl ?_
    refine XS.iconst X47.here hx rfl (hb hby d15_7) ?_
    show Sx p e below T47 (mkF m 8 #[vR a1, vI (0 : Int32), vI (1 : Int32), vR b47, uN, uN] [(.int (0 : Int32)), (.ref b47), (.int (0 : Int32)), (.ref a1)]) _
    refine XS.iloadN X47.here hx rfl (hb hby d15_8) rfl ?_
    exact kq)
  obtain ⟨vv50, _, ⟨T50, L50, k50, n50⟩, -, X50, ⟨Lc50, hQ50, l50, y50, z50⟩, st50⟩ := Jvm.LawKit.callS X47 hx (y := (⟨"java/lang/StringUTF16", "compress", "([CI[BII)I"⟩ : MethodName)) hown (mvT hZ (tw72 hw)) (mvT hZ (tw73 hw)) (mvT hZ (tw70 hw)) (mvT hZ (tw74 hw)) (by decide) (backOf (W := 0) (cx1 l Z a0 hw [] a1 b47 c0 kC k47 h47 n0 ZS47 g_b47 (VA.ext E47) V47 ne48 hbad) hZ (tw74 hw) (tw70 hw) (by decide) (by decide)) (g := (mkF m 9 #[vR a1, vI (0 : Int32), vI (1 : Int32), vR b47, uN, uN] [(.int (1 : Int32)), (.int (0 : Int32)), (.ref b47), (.int (0 : Int32)), (.ref a1)])) rfl (by rw [hml]; rfl) (argsL := [(.ref a1), (.int (0 : Int32)), (.ref b47), (.int (0 : Int32)), (.int (1 : Int32))]) (rest := []) (lenOf pd_3 rfl) rfl (by show 2 * 0 + _ ≤ _; exact Nat.le_of_eq rfl) (hb hby d15_9) (fun _ _ => ⟨rfl, e47, (by decide : 1 + 0 ≤ _), (by decide : 1 + 0 ≤ _)⟩)
  dsimp only [Pt.U, Pt.locs, Pt.cells, Pt.slots] at X50 l50 y50 z50 st50 hQ50
  subst l50 y50 z50
  obtain ⟨kr, hkr, rfl, Nq50, K50, hgt⟩ := hQ50
  have N50 := Fr.app N0 Nq50
  have ZS50 : n0 ≤ T50.heap.size := Nat.le_trans ZS47 K50.1
  have KP50 : Keep h0 T50.heap [] := KP47.trans K50 (allS (Or.inr sz_b47) all0)
  have O50 := O47.keep K50 (allS g_b47 all0)
  have go50 : Goes p e below s₁ (G_cq1 m a1) T50 (mkF m 12 #[vR a1, vI (0 : Int32), vI (1 : Int32), vR b47, uN, uN] [(.int (Int32.ofNat kr))]) := fun tq kq => go49 tq (st50 _ kq)
  have go51 : Goes p e below s₁ (G_cq1 m a1) T50 (mkF m 17 #[vR a1, vI (0 : Int32), vI (1 : Int32), vR b47, vI (Int32.ofNat kr), uN] [(.int (1 : Int32)), (.int (Int32.ofNat kr))]) := fun tq kq => go50 tq (by
    show Sx p e below T50 (mkF m 12 #[vR a1, vI (0 : Int32), vI (1 : Int32), vR b47, uN, uN] [(.int (Int32.ofNat kr))]) _
    refine XS.istore X50.here hx rfl (hb hby d15_12) rfl (l' := #[vR a1, vI (0 : Int32), vI (1 : Int32), vR b47, vI (Int32.ofNat kr), uN]) rfl ?_
    show Sx p e below T50 (mkF m 14 #[vR a1, vI (0 : Int32), vI (1 : Int32), vR b47, vI (Int32.ofNat kr), uN] []) _
    refine XS.iload X50.here hx rfl (hb hby d15_14) rfl ?_
    refine XS.iloadN X50.here hx rfl (hb hby d15_16) rfl ?_
    exact kq)
  have go52 : Goes p e below s₁ (G_cq1 m a1) T50 (mkF m 23 #[vR a1, vI (0 : Int32), vI (1 : Int32), vR b47, vI (Int32.ofNat kr), uN] [(.int (1 : Int32)), (.int (0 : Int32)), (.ref a1)]) := fun tq kq => go51 tq (by
    show Sx p e below T50 (mkF m 17 #[vR a1, vI (0 : Int32), vI (1 : Int32), vR b47, vI (Int32.ofNat kr), uN] [(.int (1 : Int32)), (.int (Int32.ofNat kr))]) _
    refine XS.icmpNo X50.here hx rfl (hb hby d15_17) rfl (feq (fun q => by have z := own_lt (k := kr) (n := 1) (by decide) hkr; rw [q] at z; exact absurd z (by decide))).1 ?_
    refine XS.aloadN X50.here hx rfl (hb hby d15_20) rfl rfl ?_
    show Sx p e below T50 (mkF m 21 #[vR a1, vI (0 : Int32), vI (1 : Int32), vR b47, vI (Int32.ofNat kr), uN] [(.ref a1)]) _
    refine XS.iloadN X50.here hx rfl (hb hby d15_21) rfl ?_
    refine XS.iloadN X50.here hx rfl (hb hby d15_22) rfl ?_
    exact kq)
  obtain ⟨vv53, _, ⟨T53, L53, k53, n53⟩, -, X53, ⟨Lc53, hQ53, l53, y53, z53⟩, st53⟩ := Jvm.LawKit.callS X50 hx (y := (⟨"java/lang/StringUTF16", "toBytes", "([CII)[B"⟩ : MethodName)) hown (mvT hZ (tw75 hw)) (mvT hZ (tw76 hw)) (mvT hZ (tw70 hw)) (mvT hZ (tw77 hw)) (by decide) (backOf (W := 0) (tb1 l Z a0 hw [] a1 c0 kC T50.heap n0 ZS50 O50 AD HI LO ((VA.ext E47).keep K50 (ninS ne48 nin0))) hZ (tw77 hw) (tw70 hw) (by decide) (by decide)) (g := (mkF m 23 #[vR a1, vI (0 : Int32), vI (1 : Int32), vR b47, vI (Int32.ofNat kr), uN] [(.int (1 : Int32)), (.int (0 : Int32)), (.ref a1)])) rfl (by rw [hml]; rfl) (argsL := [(.ref a1), (.int (0 : Int32)), (.int (1 : Int32))]) (rest := []) (lenOf pd_4 rfl) rfl (by show 2 * 0 + _ ≤ _; exact Nat.le_of_eq rfl) (hb hby d15_23) (fun _ _ => ⟨rfl, rfl, (by decide : 1 + 1 ≤ _), (by decide : 1 + 2 ≤ _)⟩)
  dsimp only [Pt.U, Pt.locs, Pt.cells, Pt.slots] at X53 l53 y53 z53 st53 hQ53
  subst l53 y53 z53
  obtain ⟨t53, kt53, rfl, Nq53, K53, sz53, V53⟩ := hQ53
  have N53 := Fr.app N50 Nq53
  have ZS53 : n0 ≤ T53.heap.size := Nat.le_trans ZS50 K53.1
  have KP53 : Keep h0 T53.heap [] := KP50.trans K53 all0
  have O53 := O50.keep K53 all0
  have go53 : Goes p e below s₁ (G_cq1 m a1) T53 (mkF m 26 #[vR a1, vI (0 : Int32), vI (1 : Int32), vR b47, vI (Int32.ofNat kr), uN] [(.ref t53)]) := fun tq kq => go52 tq (st53 _ kq)
  have go54 : Goes p e below s₁ (G_cq1 m a1) T53 (mkF m 32 #[vR a1, vI (0 : Int32), vI (1 : Int32), vR b47, vI (Int32.ofNat kr), vR t53] [(.int (Int32.ofNat kr)), (.ref t53)]) := fun tq kq => go53 tq (by
    show Sx p e below T53 (mkF m 26 #[vR a1, vI (0 : Int32), vI (1 : Int32), vR b47, vI (Int32.ofNat kr), uN] [(.ref t53)]) _
    refine XS.astore X53.here hx rfl (hb hby d15_26) rfl rfl (l' := #[vR a1, vI (0 : Int32), vI (1 : Int32), vR b47, vI (Int32.ofNat kr), vR t53]) rfl ?_
    refine XS.aload X53.here hx rfl (hb hby d15_28) rfl rfl ?_
    show Sx p e below T53 (mkF m 30 #[vR a1, vI (0 : Int32), vI (1 : Int32), vR b47, vI (Int32.ofNat kr), vR t53] [(.ref t53)]) _
    refine XS.iload X53.here hx rfl (hb hby d15_30) rfl ?_
    exact kq)
  obtain ⟨vv55, _, ⟨T55, L55, k55, n55⟩, -, X55, ⟨Lc55, hQ55, l55, y55, z55⟩, st55⟩ := Jvm.LawKit.callS X53 hx (y := (⟨"java/lang/StringUTF16", "getChar", "([BI)C"⟩ : MethodName)) hown (mvT hZ (tw91 hw)) (mvT hZ (tw92 hw)) (mvT hZ (tw70 hw)) (mvT hZ (tw93 hw)) (by decide) (backOf (W := 0) (gC l Z a0 hw [] t53 kr 1 (([c0] : List Int32).getD kr 0) kt53 (StrChars.Road.wideBytes ([c0] : List Int32)) T53.heap n0 ZS53 O53 AD HI LO V53 hkr (by decide) (StrChars.Road.wide_lo _ ([c0] : List Int32) kr hkr) (StrChars.Road.wide_hi _ ([c0] : List Int32) kr hkr) (own_at hcs hkr)) hZ (tw93 hw) (tw70 hw) (by decide) (by decide)) (g := (mkF m 32 #[vR a1, vI (0 : Int32), vI (1 : Int32), vR b47, vI (Int32.ofNat kr), vR t53] [(.int (Int32.ofNat kr)), (.ref t53)])) rfl (by rw [hml]; rfl) (argsL := [(.ref t53), (.int (Int32.ofNat kr))]) (rest := []) (lenOf pd_5 rfl) rfl (by show 2 * 0 + _ ≤ _; exact Nat.le_of_eq rfl) (hb hby d15_32) (fun _ _ => ⟨rfl, rfl, (by decide : 2 + 0 ≤ _), (by decide : 3 + 0 ≤ _)⟩)
  dsimp only [Pt.U, Pt.locs, Pt.cells, Pt.slots] at X55 l55 y55 z55 st55 hQ55
  subst l55 y55 z55
  obtain ⟨rfl, Nq55, eq55⟩ := hQ55
  have N55 := Fr.app N53 Nq55
  have go55 : Goes p e below s₁ (G_cq1 m a1) T55 (mkF m 35 #[vR a1, vI (0 : Int32), vI (1 : Int32), vR b47, vI (Int32.ofNat kr), vR t53] [(.int (([c0] : List Int32).getD kr 0))]) := fun tq kq => go54 tq (st55 _ kq)
  have go56 : Goes p e below s₁ (G_cq1 m a1) T55 (mkF m 38 #[vR a1, vI (0 : Int32), vI (1 : Int32), vR b47, vI (Int32.ofNat kr), vR t53] [(.int (255 : Int32)), (.int (([c0] : List Int32).getD kr 0))]) := fun tq kq => go55 tq (by
    show Sx p e below T55 (mkF m 35 #[vR a1, vI (0 : Int32), vI (1 : Int32), vR b47, vI (Int32.ofNat kr), vR t53] [(.int (([c0] : List Int32).getD kr 0))]) _
    refine XS.sipush X55.here hx rfl (hb hby d15_35) ?_
    exact kq)
  have go57 : Goes p e below s₁ (G_cq1 m a1) T55 (mkF m 56 #[vR a1, vI (0 : Int32), vI (1 : Int32), vR b47, vI (Int32.ofNat kr), vR t53] [(.ref t53)]) := fun tq kq => go56 tq (by
    show Sx p e below T55 (mkF m 38 #[vR a1, vI (0 : Int32), vI (1 : Int32), vR b47, vI (Int32.ofNat kr), vR t53] [(.int (255 : Int32)), (.int (([c0] : List Int32).getD kr 0))]) _
    refine XS.icmpYes X55.here hx rfl (pc0 := 38) (pc' := 54) rfl (hb hby d15_38) rfl (tlt hgt).2.2.1 (by decide) (by decide) ?_
    refine XS.aload X55.here hx rfl (hb hby d15_54) rfl rfl ?_
    exact kq)
  obtain ⟨fs, hr, hrun, hended, hW, hsame⟩ := X55.leave (v := some (.ref t53)) (fun h => by rw [Bd.returns] at h; cases h)
  refine ⟨_, _, go57 _ ?_, hrun, hended, _, _, rfl, ?_, ⟨_, rfl⟩, hW, hsame.mono (by decide) (by decide)⟩
  · jvm_step X55.here [X55.here.top, hx, (hb hby d15_56), X55.method', Bd.returns, Value.isRef, FieldType.isReference]
    first | (intro acts; rw [hr _ acts rfl rfl rfl]) | rw [hr _ _ rfl rfl rfl]
    exact Steps.refl _
  · show Q_cq1 Z a1 c0 kC h0 n0 _ T55.heap _
    rw [eq55]
    exact ⟨t53, kt53, rfl, N55, KP53, V53⟩
abbrev G_cf1 (m : MethodId) (a1 : Addr) : JFrame := (entryFrame m #[(.ref a1), (.int (1 : Int32))] 2)
theorem d22_0 : decode jdk_52_method_15_code 0 = .ok (.iload_n 1, 1) := by decide +kernel
theorem d22_1 : decode jdk_52_method_15_code 1 = .ok (.aload_n 0, 1) := by decide +kernel
theorem d22_2 : decode jdk_52_method_15_code 2 = .ok (.arraylength, 1) := by decide +kernel
theorem d22_3 : decode jdk_52_method_15_code 3 = .ok (.isub, 1) := by decide +kernel
theorem d22_4 : decode jdk_52_method_15_code 4 = .ok (.bipush 31, 2) := by decide +kernel
theorem d22_6 : decode jdk_52_method_15_code 6 = .ok (.iushr, 1) := by decide +kernel
theorem d22_7 : decode jdk_52_method_15_code 7 = .ok (.i2b, 1) := by decide +kernel
theorem d22_8 : decode jdk_52_method_15_code 8 = .ok (.ireturn, 1) := by decide +kernel
def Q_cf1 (Z : State) (a1 : Addr) (kB : ClassId) (vs : List Value) (h0 : Heap) (n0 : Nat) (v : Option Value) (h : Heap) (L : List Loc) : Prop := v = some (.int (1 : Int32)) ∧ Fr n0 L ∧ h = h0
set_option maxRecDepth 65536 in
set_option maxHeartbeats 40000000 in
theorem cf1 (l : Launch) (Z : State) (a0 : Array Value) (hw : ∀ d ∈ tables_1, d.before a0 Z = true) (ws : List Jvm.Cond) (a1 : Addr) (kB : ClassId) (vs : List Value) (h0 : Heap) (n0 : Nat) (Z0 : n0 ≤ h0.size) (VA : Arv Z h0 a1 kB .byte (2 : Int32) vs (.int (0 : Int32))) :
    MetFree l (⟨"java/lang/StringUTF16", "coderFromArrayLen", "([BI)B"⟩ : MethodName) (head1 (Jvm.Cond.code (⟨"java/lang/StringUTF16", "coderFromArrayLen", "([BI)B"⟩ : MethodName) jdk_52_method_15_code 2 (some .byte) :: ws) ({ frames := 0, cells := 0, slots := 0, locals := 0 } : Room)) (fun a U => a = #[(.ref a1), (.int (1 : Int32))] ∧ Z.Warmed39 U.vm ∧ U.heap = h0) (fun _ _ _ _ _ => True) (fun _ U o U' => ∃ v L, o = .returned v ∧ Q_cf1 Z a1 kB vs h0 n0 v U'.heap L ∧ FrameEnd U o U' L ({ frames := 0, cells := 0, slots := 0, locals := 0 } : Room).cells ({ frames := 0, cells := 0, slots := 0, locals := 0 } : Room).slots) := by
  refine MetFree.of_bodySF (plainFor_of_name pn_java_lang_StringUTF16) hisR ?_
  intro p e s m args below meth c s₁ Bd hml0 hP hK
  obtain ⟨rfl, hZ, hh⟩ := hP
  have hx := Bd.exec
  have hby := Bd.bytes
  have hml : c.maxLocals = 2 := hml0
  have hown : s.vm.findClass "java/lang/StringUTF16" = some m.cls := findClass_of_methodNamed Bd.named
  have hnm := (name_of_methodNamed Bd.named Bd.method).1
  have X0 : Stand p l e ({ frames := 0, cells := 0, slots := 0, locals := 0 } : Room) s m #[(.ref a1), (.int (1 : Int32))] below meth c s₁ [] 0 0 := Stand.of_body Bd
  have e0 : s₁.heap = h0 := by rw [← hh, Bd.state]; rfl
  have N0 := Fr.nil n0
  have go0 : Goes p e below s₁ (G_cf1 m a1) s₁ (mkF m 0 #[vR a1, vI (1 : Int32)] []) := fun tq kq => castTop (by first | (simp [entryFrame, mkF, argsToLocals, Value.category, vI, vJ, vR, vD, vN, uN, sD, G_cf1]; done) | rfl) kq
  have go58 : Goes p e below s₁ (G_cf1 m a1) s₁ (mkF m 2 #[vR a1, vI (1 : Int32)] [(.ref a1), (.int (1 : Int32))]) := fun tq kq => go0 tq (by
    show Sx p e below s₁ (mkF m 0 #[vR a1, vI (1 : Int32)] []) _
    refine XS.iloadN X0.here hx rfl (hb hby d22_0) rfl ?_
    refine XS.aloadN X0.here hx rfl (hb hby d22_1) rfl rfl ?_
    exact kq)
  obtain ⟨cl59, Ar59, q59, S59, N_59, H59, G59⟩ := id (VA)
  have go60 : Goes p e below s₁ (G_cf1 m a1) s₁ (mkF m 8 #[vR a1, vI (1 : Int32)] [(.int ((((((1 : Int32) - (2 : Int32)).toUInt32 >>> ((31 : Int32) &&& 31).toUInt32).toInt32)).toInt8.toInt32))]) := fun tq kq => go58 tq (by
    show Sx p e below s₁ (mkF m 2 #[vR a1, vI (1 : Int32)] [(.ref a1), (.int (1 : Int32))]) _
    refine X0.arraylength hx (by rw [e0]; exact Ar59.1) (State.isArrayOf_alike hZ.alike Ar59.2.1) (g := (mkF m 2 #[vR a1, vI (1 : Int32)] [(.ref a1), (.int (1 : Int32))])) rfl rfl (hb hby d22_2) _ ?_
    rw [len_of S59 N_59]
    refine XS.isub X0.here hx rfl (hb hby d22_3) rfl ?_
    show Sx p e below s₁ (mkF m 4 #[vR a1, vI (1 : Int32)] [(.int ((1 : Int32) - (2 : Int32)))]) _
    refine XS.bipush X0.here hx rfl (hb hby d22_4) ?_
    refine XS.iushr X0.here hx rfl (hb hby d22_6) rfl ?_
    show Sx p e below s₁ (mkF m 7 #[vR a1, vI (1 : Int32)] [(.int ((((1 : Int32) - (2 : Int32)).toUInt32 >>> ((31 : Int32) &&& 31).toUInt32).toInt32))]) _
    refine XS.i2b X0.here hx rfl (hb hby d22_7) rfl ?_
    exact kq)
  obtain ⟨fs, hr, hrun, hended, hW, hsame⟩ := X0.leave (v := some (.int (nar .byte ((((((1 : Int32) - (2 : Int32)).toUInt32 >>> ((31 : Int32) &&& 31).toUInt32).toInt32)).toInt8.toInt32)))) (fun h => by rw [Bd.returns] at h; cases h)
  refine ⟨_, _, go60 _ ?_, hrun, hended, _, _, rfl, ?_, ⟨_, rfl⟩, hW, hsame.mono (by decide) (by decide)⟩
  · exact retN X0 hx (t := .byte) Bd.returns (by simp) (hb hby d22_8) hr
  · show Q_cf1 Z a1 kB vs h0 n0 _ s₁.heap _
    rw [e0]
    exact ⟨congrArg (fun z => some (Value.int z)) (by decide +kernel), N0, rfl⟩
abbrev G_cw1 (m : MethodId) (a1 : Addr) (a2 : Addr) : JFrame := (entryFrame m #[(.ref a1), (.ref a2), (.int (0 : Int32)), (.int (1 : Int32)), .null] 6)
theorem d4_0 : decode jdk_42_method_149_code 0 = .ok (.aload_n 0, 1) := by decide +kernel
theorem d4_1 : decode jdk_42_method_149_code 1 = .ok (.invokespecial 1, 3) := by decide +kernel
theorem d4_4 : decode jdk_42_method_149_code 4 = .ok (.iload_n 3, 1) := by decide +kernel
theorem d4_5 : decode jdk_42_method_149_code 5 = .ok (.ifCond .ne 22, 3) := by decide +kernel
theorem d4_27 : decode jdk_42_method_149_code 27 = .ok (.getstatic 38, 3) := by decide +kernel
theorem d4_30 : decode jdk_42_method_149_code 30 = .ok (.ifCond .eq 28, 3) := by decide +kernel
theorem d4_33 : decode jdk_42_method_149_code 33 = .ok (.aload_n 1, 1) := by decide +kernel
theorem d4_34 : decode jdk_42_method_149_code 34 = .ok (.iload_n 2, 1) := by decide +kernel
theorem d4_35 : decode jdk_42_method_149_code 35 = .ok (.iload_n 3, 1) := by decide +kernel
theorem d4_36 : decode jdk_42_method_149_code 36 = .ok (.invokestatic 177, 3) := by decide +kernel
theorem d4_39 : decode jdk_42_method_149_code 39 = .ok (.astore 5, 2) := by decide +kernel
theorem d4_41 : decode jdk_42_method_149_code 41 = .ok (.aload_n 0, 1) := by decide +kernel
theorem d4_42 : decode jdk_42_method_149_code 42 = .ok (.aload 5, 2) := by decide +kernel
theorem d4_44 : decode jdk_42_method_149_code 44 = .ok (.iload_n 3, 1) := by decide +kernel
theorem d4_45 : decode jdk_42_method_149_code 45 = .ok (.invokestatic 47, 3) := by decide +kernel
theorem pd_6 : parseMethodDescriptor "([BI)B" = some ⟨[(.array .byte), .int], some .byte⟩ := by decide +kernel
theorem d4_48 : decode jdk_42_method_149_code 48 = .ok (.putfield 15, 3) := by decide +kernel
theorem d4_51 : decode jdk_42_method_149_code 51 = .ok (.aload_n 0, 1) := by decide +kernel
theorem d4_52 : decode jdk_42_method_149_code 52 = .ok (.aload 5, 2) := by decide +kernel
theorem d4_54 : decode jdk_42_method_149_code 54 = .ok (.putfield 9, 3) := by decide +kernel
theorem d4_57 : decode jdk_42_method_149_code 57 = .ok (.return_, 1) := by decide +kernel
def Q_cw1 (Z : State) (a1 : Addr) (a2 : Addr) (c0 : Int32) (kC : ClassId) (cz : Int32) (h0 : Heap) (n0 : Nat) (v : Option Value) (h : Heap) (L : List Loc) : Prop := v = none ∧ Fr n0 L ∧ Keep h0 h [a1] ∧ Exa Z h a1 "java/lang/String" ∧ Fld Z h a1 "java/lang/String" "coder" "B" (.int (1 : Int32)) ∧ ∃ (t : Addr) (k : ClassId), Fld Z h a1 "java/lang/String" "value" "[B" (.ref t) ∧ Arv Z h t k .byte (2 : Int32) [(.int (StrChars.lo8 c0)), (.int (StrChars.hi8 c0))] (.int (0 : Int32))
theorem pn_java_lang_String : plainName "java/lang/String" = true := by first | (simp [plainName, overriddenIn]; done) | decide +kernel
set_option maxRecDepth 65536 in
set_option maxHeartbeats 40000000 in
theorem cw1 (l : Launch) (Z : State) (a0 : Array Value) (hw : ∀ d ∈ tables_1, d.before a0 Z = true) (ws : List Jvm.Cond) (a1 : Addr) (a2 : Addr) (c0 : Int32) (kC : ClassId) (cz : Int32) (h0 : Heap) (n0 : Nat) (Z0 : n0 ≤ h0.size) (O0 : Old Z n0 h0) (g_a1 : n0 ≤ a1) (Ex : Exa Z h0 a1 "java/lang/String") (Fv : Fld Z h0 a1 "java/lang/String" "value" "[B" .null) (Fc : Fld Z h0 a1 "java/lang/String" "coder" "B" (.int (0 : Int32))) (AD : Sta Z Z.heap "java/lang/StringUTF16" "$assertionsDisabled" "Z" (.int (1 : Int32))) (HI : Sta Z Z.heap "java/lang/StringUTF16" "HI_BYTE_SHIFT" "I" (.int (0 : Int32))) (LO : Sta Z Z.heap "java/lang/StringUTF16" "LO_BYTE_SHIFT" "I" (.int (8 : Int32))) (SC : Sta Z Z.heap "java/lang/String" "COMPACT_STRINGS" "Z" (.int cz)) (hz : ¬ (cz = (0 : Int32))) (VA : Arv Z h0 a2 kC .char (1 : Int32) [(.int c0)] (.int (0 : Int32))) (hbad : ∃ c ∈ ([c0] : List Int32), (255 : Int32) < c) (hcs : ∀ c ∈ ([c0] : List Int32), C16 c) :
    MetFree l (⟨"java/lang/String", "<init>", "([CIILjava/lang/Void;)V"⟩ : MethodName) (head1 (Jvm.Cond.code (⟨"java/lang/String", "<init>", "([CIILjava/lang/Void;)V"⟩ : MethodName) jdk_42_method_149_code 6 none :: ws) ({ frames := 4, cells := 2, slots := 3, locals := 57 } : Room)) (fun a U => a = #[(.ref a1), (.ref a2), (.int (0 : Int32)), (.int (1 : Int32)), .null] ∧ Z.Warmed39 U.vm ∧ U.heap = h0) (fun _ _ _ _ _ => True) (fun _ U o U' => ∃ v L, o = .returned v ∧ Q_cw1 Z a1 a2 c0 kC cz h0 n0 v U'.heap L ∧ FrameEnd U o U' L ({ frames := 4, cells := 2, slots := 3, locals := 57 } : Room).cells ({ frames := 4, cells := 2, slots := 3, locals := 57 } : Room).slots) := by
  refine MetFree.of_bodySF (plainFor_of_name pn_java_lang_String) hisR ?_
  intro p e s m args below meth c s₁ Bd hml0 hP hK
  obtain ⟨rfl, hZ, hh⟩ := hP
  have hx := Bd.exec
  have hby := Bd.bytes
  have hml : c.maxLocals = 6 := hml0
  have hown : s.vm.findClass "java/lang/String" = some m.cls := findClass_of_methodNamed Bd.named
  have hnm := (name_of_methodNamed Bd.named Bd.method).1
  have X0 : Stand p l e ({ frames := 4, cells := 2, slots := 3, locals := 57 } : Room) s m #[(.ref a1), (.ref a2), (.int (0 : Int32)), (.int (1 : Int32)), .null] below meth c s₁ [] 0 0 := Stand.of_body Bd
  have e0 : s₁.heap = h0 := by rw [← hh, Bd.state]; rfl
  have N0 := Fr.nil n0
  have KP0 : Keep h0 h0 [a1] := Keep.refl h0 [a1]
  have go0 : Goes p e below s₁ (G_cw1 m a1 a2) s₁ (mkF m 0 #[vR a1, vR a2, vI (0 : Int32), vI (1 : Int32), vN, uN] []) := fun tq kq => castTop (by first | (simp [entryFrame, mkF, argsToLocals, Value.category, vI, vJ, vR, vD, vN, uN, sD, G_cw1]; done) | rfl) kq
  have go61 : Goes p e below s₁ (G_cw1 m a1 a2) s₁ (mkF m 1 #[vR a1, vR a2, vI (0 : Int32), vI (1 : Int32), vN, uN] [(.ref a1)]) := fun tq kq => go0 tq (by
    show Sx p e below s₁ (mkF m 0 #[vR a1, vR a2, vI (0 : Int32), vI (1 : Int32), vN, uN] []) _
    refine XS.aloadN X0.here hx rfl (hb hby d4_0) rfl rfl ?_
    exact kq)
  obtain ⟨T62, X62, e62, st62⟩ := initO X0 hx hZ hown (tw21 hw) (tw22 hw) (tw23 hw) e0 (g := (mkF m 1 #[vR a1, vR a2, vI (0 : Int32), vI (1 : Int32), vN, uN] [(.ref a1)])) rfl (by rw [hml]; rfl) rfl (hb hby d4_1) (by decide) (W := 0) (by show 2 * 0 + _ ≤ _; exact Nat.le_of_eq rfl) (by decide)
  have go62 : Goes p e below s₁ (G_cw1 m a1 a2) T62 (mkF m 4 #[vR a1, vR a2, vI (0 : Int32), vI (1 : Int32), vN, uN] []) := fun tq kq => go61 tq (st62 _ kq)
  have go63 : Goes p e below s₁ (G_cw1 m a1 a2) T62 (mkF m 5 #[vR a1, vR a2, vI (0 : Int32), vI (1 : Int32), vN, uN] [(.int (1 : Int32))]) := fun tq kq => go62 tq (by
    show Sx p e below T62 (mkF m 4 #[vR a1, vR a2, vI (0 : Int32), vI (1 : Int32), vN, uN] []) _
    refine XS.iloadN X62.here hx rfl (hb hby d4_4) rfl ?_
    exact kq)
  have go64 : Goes p e below s₁ (G_cw1 m a1 a2) T62 (mkF m 27 #[vR a1, vR a2, vI (0 : Int32), vI (1 : Int32), vN, uN] []) := fun tq kq => go63 tq (by
    show Sx p e below T62 (mkF m 5 #[vR a1, vR a2, vI (0 : Int32), vI (1 : Int32), vN, uN] [(.int (1 : Int32))]) _
    refine XS.ifYes X62.here hx rfl (pc0 := 5) (pc' := 27) rfl (hb hby d4_5) rfl ((if0 _ _).trans (feq (by decide)).2) (by decide) (by decide) ?_
    exact kq)
  obtain ⟨T65, X65, e65, st65⟩ := getS2 X62 hx hZ hown (host := "") (Or.inl (tw46 hw)) Via.refl e62 (SC.ext O0.2) (g := (mkF m 27 #[vR a1, vR a2, vI (0 : Int32), vI (1 : Int32), vN, uN] [])) rfl (hb hby d4_27)
  have go65 : Goes p e below s₁ (G_cw1 m a1 a2) T65 (mkF m 30 #[vR a1, vR a2, vI (0 : Int32), vI (1 : Int32), vN, uN] [(.int cz)]) := fun tq kq => go64 tq (st65 _ kq)
  have go66 : Goes p e below s₁ (G_cw1 m a1 a2) T65 (mkF m 36 #[vR a1, vR a2, vI (0 : Int32), vI (1 : Int32), vN, uN] [(.int (1 : Int32)), (.int (0 : Int32)), (.ref a2)]) := fun tq kq => go65 tq (by
    show Sx p e below T65 (mkF m 30 #[vR a1, vR a2, vI (0 : Int32), vI (1 : Int32), vN, uN] [(.int cz)]) _
    refine XS.ifNo X65.here hx rfl (hb hby d4_30) rfl ((if0 _ _).trans (feq hz).1) ?_
    show Sx p e below T65 (mkF m 33 #[vR a1, vR a2, vI (0 : Int32), vI (1 : Int32), vN, uN] []) _
    refine XS.aloadN X65.here hx rfl (hb hby d4_33) rfl rfl ?_
    refine XS.iloadN X65.here hx rfl (hb hby d4_34) rfl ?_
    show Sx p e below T65 (mkF m 35 #[vR a1, vR a2, vI (0 : Int32), vI (1 : Int32), vN, uN] [(.int (0 : Int32)), (.ref a2)]) _
    refine XS.iloadN X65.here hx rfl (hb hby d4_35) rfl ?_
    exact kq)
  obtain ⟨vv67, _, ⟨T67, L67, k67, n67⟩, -, X67, ⟨Lc67, hQ67, l67, y67, z67⟩, st67⟩ := Jvm.LawKit.callS X65 hx (y := (⟨"java/lang/StringUTF16", "compress", "([CII)[B"⟩ : MethodName)) hown (mvT hZ (tw68 hw)) (mvT hZ (tw69 hw)) (mvT hZ (tw70 hw)) (mvT hZ (tw71 hw)) (by decide) (backOf (W := 0) (cq1 l Z a0 hw [] a2 c0 kC h0 n0 Z0 O0 AD HI LO VA hbad hcs) hZ (tw71 hw) (tw70 hw) (by decide) (by decide)) (g := (mkF m 36 #[vR a1, vR a2, vI (0 : Int32), vI (1 : Int32), vN, uN] [(.int (1 : Int32)), (.int (0 : Int32)), (.ref a2)])) rfl (by rw [hml]; rfl) (argsL := [(.ref a2), (.int (0 : Int32)), (.int (1 : Int32))]) (rest := []) (lenOf pd_4 rfl) rfl (by show 2 * 0 + _ ≤ _; exact Nat.le_of_eq rfl) (hb hby d4_36) (fun _ _ => ⟨rfl, e65, (by decide : 0 + 2 ≤ _), (by decide : 0 + 3 ≤ _)⟩)
  dsimp only [Pt.U, Pt.locs, Pt.cells, Pt.slots] at X67 l67 y67 z67 st67 hQ67
  subst l67 y67 z67
  obtain ⟨t67, kt67, rfl, Nq67, K67, V67⟩ := hQ67
  have N67 := Fr.app N0 Nq67
  have ZS67 : n0 ≤ T67.heap.size := Nat.le_trans Z0 K67.1
  have KP67 : Keep h0 T67.heap [a1] := KP0.trans K67 all0
  have O67 := O0.keep K67 all0
  have go67 : Goes p e below s₁ (G_cw1 m a1 a2) T67 (mkF m 39 #[vR a1, vR a2, vI (0 : Int32), vI (1 : Int32), vN, uN] [(.ref t67)]) := fun tq kq => go66 tq (st67 _ kq)
  have nat : a1 ≠ t67 := Exa.neArv (Ex.keep K67) V67 (tw11 hw)
  have go68 : Goes p e below s₁ (G_cw1 m a1 a2) T67 (mkF m 45 #[vR a1, vR a2, vI (0 : Int32), vI (1 : Int32), vN, vR t67] [(.int (1 : Int32)), (.ref t67), (.ref a1)]) := fun tq kq => go67 tq (by
    show Sx p e below T67 (mkF m 39 #[vR a1, vR a2, vI (0 : Int32), vI (1 : Int32), vN, uN] [(.ref t67)]) _
    refine XS.astore X67.here hx rfl (hb hby d4_39) rfl rfl (l' := #[vR a1, vR a2, vI (0 : Int32), vI (1 : Int32), vN, vR t67]) rfl ?_
    show Sx p e below T67 (mkF m 41 #[vR a1, vR a2, vI (0 : Int32), vI (1 : Int32), vN, vR t67] []) _
    refine XS.aloadN X67.here hx rfl (hb hby d4_41) rfl rfl ?_
    refine XS.aload X67.here hx rfl (hb hby d4_42) rfl rfl ?_
    show Sx p e below T67 (mkF m 44 #[vR a1, vR a2, vI (0 : Int32), vI (1 : Int32), vN, vR t67] [(.ref t67), (.ref a1)]) _
    refine XS.iloadN X67.here hx rfl (hb hby d4_44) rfl ?_
    exact kq)
  obtain ⟨vv69, _, ⟨T69, L69, k69, n69⟩, -, X69, ⟨Lc69, hQ69, l69, y69, z69⟩, st69⟩ := Jvm.LawKit.callS X67 hx (y := (⟨"java/lang/StringUTF16", "coderFromArrayLen", "([BI)B"⟩ : MethodName)) hown (mvT hZ (tw94 hw)) (mvT hZ (tw95 hw)) (mvT hZ (tw70 hw)) (mvT hZ (tw96 hw)) (by decide) (backOf (W := 1) (cf1 l Z a0 hw [] t67 kt67 [(.int (StrChars.lo8 c0)), (.int (StrChars.hi8 c0))] T67.heap n0 ZS67 V67) hZ (tw96 hw) (tw70 hw) (by decide) (by decide)) (g := (mkF m 45 #[vR a1, vR a2, vI (0 : Int32), vI (1 : Int32), vN, vR t67] [(.int (1 : Int32)), (.ref t67), (.ref a1)])) rfl (by rw [hml]; rfl) (argsL := [(.ref t67), (.int (1 : Int32))]) (rest := [(.ref a1)]) (lenOf pd_6 rfl) rfl (by show 2 * 0 + _ ≤ _; exact Nat.le_of_eq rfl) (hb hby d4_45) (fun _ _ => ⟨rfl, rfl, (by decide : 2 + 0 ≤ _), (by decide : 3 + 0 ≤ _)⟩)
  dsimp only [Pt.U, Pt.locs, Pt.cells, Pt.slots] at X69 l69 y69 z69 st69 hQ69
  subst l69 y69 z69
  obtain ⟨rfl, Nq69, eq69⟩ := hQ69
  have N69 := Fr.app N67 Nq69
  have go69 : Goes p e below s₁ (G_cw1 m a1 a2) T69 (mkF m 48 #[vR a1, vR a2, vI (0 : Int32), vI (1 : Int32), vN, vR t67] [(.int (1 : Int32)), (.ref a1)]) := fun tq kq => go68 tq (st69 _ kq)
  obtain ⟨T70, h70, X70, e70, W70, st70⟩ := putFN X69 hx hZ hown (tw31 hw) Via.refl eq69 (Fc.keep K67 nin0) (Ex.keep K67) (Or.inr ⟨(tw27 hw), rfl, hnm⟩) (tw11 hw) (ty := .byte) (v' := (.int (1 : Int32))) (by decide) rfl (by decide) (g := (mkF m 48 #[vR a1, vR a2, vI (0 : Int32), vI (1 : Int32), vN, vR t67] [(.int (1 : Int32)), (.ref a1)])) rfl rfl (hb hby d4_48)
  have N70 := Fr.snoc X70 N69 g_a1
  have KP70 : Keep h0 h70 [a1] := KP67.wr W70 (Or.inl (List.mem_of_getElem? (i := 0) rfl))
  have O70 := O67.wr W70 g_a1
  have ZS70 : n0 ≤ h70.size := Nat.le_trans ZS67 (Keep.of_wr W70).1
  have F70 := Fld.same W70 (Fc.keep K67 nin0)
  have go70 : Goes p e below s₁ (G_cw1 m a1 a2) T70 (mkF m 51 #[vR a1, vR a2, vI (0 : Int32), vI (1 : Int32), vN, vR t67] []) := fun tq kq => go69 tq (st70 _ kq)
  have f71 := (Fld.other W70 (Fv.keep K67 nin0) (Or.inr (slot_ne (Or.inr (tw26 hw)) (Or.inr (tw27 hw)) (by decide) (t := (.array .byte)) (t' := .byte) (by decide) (by decide))))
  have go72 : Goes p e below s₁ (G_cw1 m a1 a2) T70 (mkF m 54 #[vR a1, vR a2, vI (0 : Int32), vI (1 : Int32), vN, vR t67] [(.ref t67), (.ref a1)]) := fun tq kq => go70 tq (by
    show Sx p e below T70 (mkF m 51 #[vR a1, vR a2, vI (0 : Int32), vI (1 : Int32), vN, vR t67] []) _
    refine XS.aloadN X70.here hx rfl (hb hby d4_51) rfl rfl ?_
    show Sx p e below T70 (mkF m 52 #[vR a1, vR a2, vI (0 : Int32), vI (1 : Int32), vN, vR t67] [(.ref a1)]) _
    refine XS.aload X70.here hx rfl (hb hby d4_52) rfl rfl ?_
    exact kq)
  obtain ⟨T73, h73, X73, e73, W73, st73⟩ := putF X70 hx hZ hown (host := "") (Or.inl (tw30 hw)) Via.refl e70 f71 (Exa.wr W70 (Ex.keep K67)) (Or.inr ⟨(tw26 hw), rfl, hnm⟩) (tw11 hw) (ty := (.array .byte)) (by decide) rfl rfl (g := (mkF m 54 #[vR a1, vR a2, vI (0 : Int32), vI (1 : Int32), vN, vR t67] [(.ref t67), (.ref a1)])) rfl rfl (hb hby d4_54)
  have N73 := Fr.snoc X73 N70 g_a1
  have KP73 : Keep h0 h73 [a1] := KP70.wr W73 (Or.inl (List.mem_of_getElem? (i := 0) rfl))
  have O73 := O70.wr W73 g_a1
  have ZS73 : n0 ≤ h73.size := Nat.le_trans ZS70 (Keep.of_wr W73).1
  have F73 := Fld.same W73 f71
  have go73 : Goes p e below s₁ (G_cw1 m a1 a2) T73 (mkF m 57 #[vR a1, vR a2, vI (0 : Int32), vI (1 : Int32), vN, vR t67] []) := fun tq kq => go72 tq (st73 _ kq)
  have f74 := (Fld.other W73 F70 (Or.inr (slot_ne (Or.inr (tw27 hw)) (Or.inr (tw26 hw)) (by decide) (t := .byte) (t' := (.array .byte)) (by decide) (by decide))))
  obtain ⟨fs, hr, hrun, hended, hW, hsame⟩ := X73.leave (v := none) (fun _ => rfl)
  refine ⟨_, _, go73 _ ?_, hrun, hended, _, _, rfl, ?_, ⟨_, rfl⟩, hW, hsame.mono (by decide) (by decide)⟩
  · exact X73.returnOut hx Bd.returns (hb hby d4_57) hr
  · show Q_cw1 Z a1 a2 c0 kC cz h0 n0 _ T73.heap _
    rw [e73]
    exact ⟨rfl, N73, KP73, (Exa.wr W73 (Exa.wr W70 (Ex.keep K67))), f74, t67, kt67, F73, ((V67.other W70 (Ne.symm nat)).other W73 (Ne.symm nat))⟩
abbrev G_c1w1 (m : MethodId) (a1 : Addr) (a2 : Addr) : JFrame := (entryFrame m #[(.ref a1), (.ref a2)] 2)
theorem d3_0 : decode jdk_42_method_3_code 0 = .ok (.aload_n 0, 1) := by decide +kernel
theorem d3_1 : decode jdk_42_method_3_code 1 = .ok (.aload_n 1, 1) := by decide +kernel
theorem d3_2 : decode jdk_42_method_3_code 2 = .ok (.iconst 0, 1) := by decide +kernel
theorem d3_3 : decode jdk_42_method_3_code 3 = .ok (.aload_n 1, 1) := by decide +kernel
theorem d3_4 : decode jdk_42_method_3_code 4 = .ok (.arraylength, 1) := by decide +kernel
theorem d3_5 : decode jdk_42_method_3_code 5 = .ok (.aconst_null, 1) := by decide +kernel
theorem d3_6 : decode jdk_42_method_3_code 6 = .ok (.invokespecial 27, 3) := by decide +kernel
theorem pd_7 : parseMethodDescriptor "([CIILjava/lang/Void;)V" = some ⟨[(.array .char), .int, .int, (.object "java/lang/Void")], none⟩ := by decide +kernel
theorem d3_9 : decode jdk_42_method_3_code 9 = .ok (.return_, 1) := by decide +kernel
def Q_c1w1 (Z : State) (a1 : Addr) (a2 : Addr) (c0 : Int32) (kC : ClassId) (cz : Int32) (h0 : Heap) (n0 : Nat) (v : Option Value) (h : Heap) (L : List Loc) : Prop := v = none ∧ Fr n0 L ∧ Keep h0 h [a1] ∧ Exa Z h a1 "java/lang/String" ∧ Fld Z h a1 "java/lang/String" "coder" "B" (.int (1 : Int32)) ∧ ∃ (t : Addr) (k : ClassId), Fld Z h a1 "java/lang/String" "value" "[B" (.ref t) ∧ Arv Z h t k .byte (2 : Int32) [(.int (StrChars.lo8 c0)), (.int (StrChars.hi8 c0))] (.int (0 : Int32))
set_option maxRecDepth 65536 in
set_option maxHeartbeats 40000000 in
theorem c1w1 (l : Launch) (Z : State) (a0 : Array Value) (hw : ∀ d ∈ tables_1, d.before a0 Z = true) (ws : List Jvm.Cond) (a1 : Addr) (a2 : Addr) (c0 : Int32) (kC : ClassId) (cz : Int32) (h0 : Heap) (n0 : Nat) (Z0 : n0 ≤ h0.size) (O0 : Old Z n0 h0) (g_a1 : n0 ≤ a1) (Ex : Exa Z h0 a1 "java/lang/String") (Fv : Fld Z h0 a1 "java/lang/String" "value" "[B" .null) (Fc : Fld Z h0 a1 "java/lang/String" "coder" "B" (.int (0 : Int32))) (AD : Sta Z Z.heap "java/lang/StringUTF16" "$assertionsDisabled" "Z" (.int (1 : Int32))) (HI : Sta Z Z.heap "java/lang/StringUTF16" "HI_BYTE_SHIFT" "I" (.int (0 : Int32))) (LO : Sta Z Z.heap "java/lang/StringUTF16" "LO_BYTE_SHIFT" "I" (.int (8 : Int32))) (SC : Sta Z Z.heap "java/lang/String" "COMPACT_STRINGS" "Z" (.int cz)) (hz : ¬ (cz = (0 : Int32))) (VA : Arv Z h0 a2 kC .char (1 : Int32) [(.int c0)] (.int (0 : Int32))) (hbad : ∃ c ∈ ([c0] : List Int32), (255 : Int32) < c) (hcs : ∀ c ∈ ([c0] : List Int32), C16 c) :
    MetFree l (⟨"java/lang/String", "<init>", "([C)V"⟩ : MethodName) (head1 (Jvm.Cond.code (⟨"java/lang/String", "<init>", "([C)V"⟩ : MethodName) jdk_42_method_3_code 2 none :: ws) ({ frames := 5, cells := 2, slots := 3, locals := 74 } : Room)) (fun a U => a = #[(.ref a1), (.ref a2)] ∧ Z.Warmed39 U.vm ∧ U.heap = h0) (fun _ _ _ _ _ => True) (fun _ U o U' => ∃ v L, o = .returned v ∧ Q_c1w1 Z a1 a2 c0 kC cz h0 n0 v U'.heap L ∧ FrameEnd U o U' L ({ frames := 5, cells := 2, slots := 3, locals := 74 } : Room).cells ({ frames := 5, cells := 2, slots := 3, locals := 74 } : Room).slots) := by
  refine MetFree.of_bodySF (plainFor_of_name pn_java_lang_String) hisR ?_
  intro p e s m args below meth c s₁ Bd hml0 hP hK
  obtain ⟨rfl, hZ, hh⟩ := hP
  have hx := Bd.exec
  have hby := Bd.bytes
  have hml : c.maxLocals = 2 := hml0
  have hown : s.vm.findClass "java/lang/String" = some m.cls := findClass_of_methodNamed Bd.named
  have hnm := (name_of_methodNamed Bd.named Bd.method).1
  have X0 : Stand p l e ({ frames := 5, cells := 2, slots := 3, locals := 74 } : Room) s m #[(.ref a1), (.ref a2)] below meth c s₁ [] 0 0 := Stand.of_body Bd
  have e0 : s₁.heap = h0 := by rw [← hh, Bd.state]; rfl
  have N0 := Fr.nil n0
  have KP0 : Keep h0 h0 [a1] := Keep.refl h0 [a1]
  have go0 : Goes p e below s₁ (G_c1w1 m a1 a2) s₁ (mkF m 0 #[vR a1, vR a2] []) := fun tq kq => castTop (by first | (simp [entryFrame, mkF, argsToLocals, Value.category, vI, vJ, vR, vD, vN, uN, sD, G_c1w1]; done) | rfl) kq
  have go75 : Goes p e below s₁ (G_c1w1 m a1 a2) s₁ (mkF m 4 #[vR a1, vR a2] [(.ref a2), (.int (0 : Int32)), (.ref a2), (.ref a1)]) := fun tq kq => go0 tq (by
    show Sx p e below s₁ (mkF m 0 #[vR a1, vR a2] []) _
    refine XS.aloadN X0.here hx rfl (hb hby d3_0) rfl rfl ?_
    refine XS.aloadN X0.here hx rfl (hb hby d3_1) rfl rfl ?_
    show Sx p e below s₁ (mkF m 2 #[vR a1, vR a2] [(.ref a2), (.ref a1)]) _
    refine XS.iconst X0.here hx rfl (hb hby d3_2) ?_
    refine XS.aloadN X0.here hx rfl (hb hby d3_3) rfl rfl ?_
    exact kq)
  obtain ⟨cl76, Ar76, q76, S76, N_76, H76, G76⟩ := id (VA)
  have go77 : Goes p e below s₁ (G_c1w1 m a1 a2) s₁ (mkF m 6 #[vR a1, vR a2] [.null, (.int (1 : Int32)), (.int (0 : Int32)), (.ref a2), (.ref a1)]) := fun tq kq => go75 tq (by
    show Sx p e below s₁ (mkF m 4 #[vR a1, vR a2] [(.ref a2), (.int (0 : Int32)), (.ref a2), (.ref a1)]) _
    refine X0.arraylength hx (by rw [e0]; exact Ar76.1) (State.isArrayOf_alike hZ.alike Ar76.2.1) (g := (mkF m 4 #[vR a1, vR a2] [(.ref a2), (.int (0 : Int32)), (.ref a2), (.ref a1)])) rfl rfl (hb hby d3_4) _ ?_
    rw [len_of S76 N_76]
    refine XS.aconstNull X0.here hx rfl (hb hby d3_5) ?_
    exact kq)
  obtain ⟨vv78, _, ⟨T78, L78, k78, n78⟩, -, X78, ⟨Lc78, hQ78, l78, y78, z78⟩, st78⟩ := X0.specialBack hx (y := (⟨"java/lang/String", "<init>", "([CIILjava/lang/Void;)V"⟩ : MethodName)) rfl hown (mvT hZ (tw17 hw)) (mvT hZ (tw18 hw)) (mvT hZ (tw20 hw)) (by decide) (backOf (W := 0) (cw1 l Z a0 hw [] a1 a2 c0 kC cz h0 n0 Z0 O0 g_a1 Ex Fv Fc AD HI LO SC hz VA hbad hcs) hZ (tw20 hw) (tw12 hw) (by decide) (by decide)) (g := (mkF m 6 #[vR a1, vR a2] [.null, (.int (1 : Int32)), (.int (0 : Int32)), (.ref a2), (.ref a1)])) rfl (by rw [hml]; rfl) (Steps.refl _) (a := a1) (argsL := [(.ref a2), (.int (0 : Int32)), (.int (1 : Int32)), .null]) (rest := []) (lenOf pd_7 rfl) rfl (by show 2 * 0 + _ ≤ _; exact Nat.le_of_eq rfl) (hb hby d3_6) (fun _ _ => ⟨rfl, e0, (by decide : 0 + 2 ≤ _), (by decide : 0 + 3 ≤ _)⟩)
  dsimp only [Pt.U, Pt.locs, Pt.cells, Pt.slots] at X78 l78 y78 z78 st78 hQ78
  subst l78 y78 z78
  obtain ⟨rfl, Nq78, K78, rest78⟩ := hQ78
  have N78 := Fr.app N0 Nq78
  have ZS78 : n0 ≤ T78.heap.size := Nat.le_trans Z0 K78.1
  have KP78 : Keep h0 T78.heap [a1] := KP0.trans K78 (allS (Or.inl (List.mem_of_getElem? (i := 0) rfl)) all0)
  have O78 := O0.keep K78 (allS g_a1 all0)
  have go78 : Goes p e below s₁ (G_c1w1 m a1 a2) T78 (mkF m 9 #[vR a1, vR a2] []) := fun tq kq => go77 tq (st78.trans kq)
  obtain ⟨fs, hr, hrun, hended, hW, hsame⟩ := X78.leave (v := none) (fun _ => rfl)
  refine ⟨_, _, go78 _ ?_, hrun, hended, _, _, rfl, ?_, ⟨_, rfl⟩, hW, hsame.mono (by decide) (by decide)⟩
  · exact X78.returnOut hx Bd.returns (hb hby d3_9) hr
  · show Q_c1w1 Z a1 a2 c0 kC cz h0 n0 _ T78.heap _
    exact ⟨rfl, N78, KP78, rest78⟩
abbrev G_nbl2 (m : MethodId)  : JFrame := (entryFrame m #[(.int (2 : Int32))] 1)
def Q_nbl2 (Z : State)   (h0 : Heap) (n0 : Nat) (v : Option Value) (h : Heap) (L : List Loc) : Prop := v = some (.int (4 : Int32)) ∧ Fr n0 L ∧ h = h0
set_option maxRecDepth 65536 in
set_option maxHeartbeats 40000000 in
theorem nbl2 (l : Launch) (Z : State) (a0 : Array Value) (hw : ∀ d ∈ tables_1, d.before a0 Z = true) (ws : List Jvm.Cond)   (h0 : Heap) (n0 : Nat) (Z0 : n0 ≤ h0.size)  :
    MetFree l (⟨"java/lang/StringUTF16", "newBytesLength", "(I)I"⟩ : MethodName) (head1 (Jvm.Cond.code (⟨"java/lang/StringUTF16", "newBytesLength", "(I)I"⟩ : MethodName) jdk_52_method_3_code 1 (some .int) :: ws) ({ frames := 0, cells := 0, slots := 0, locals := 0 } : Room)) (fun a U => a = #[(.int (2 : Int32))] ∧ Z.Warmed39 U.vm ∧ U.heap = h0) (fun _ _ _ _ _ => True) (fun _ U o U' => ∃ v L, o = .returned v ∧ Q_nbl2 Z  h0 n0 v U'.heap L ∧ FrameEnd U o U' L ({ frames := 0, cells := 0, slots := 0, locals := 0 } : Room).cells ({ frames := 0, cells := 0, slots := 0, locals := 0 } : Room).slots) := by
  refine MetFree.of_bodySF (plainFor_of_name pn_java_lang_StringUTF16) hisR ?_
  intro p e s m args below meth c s₁ Bd hml0 hP hK
  obtain ⟨rfl, hZ, hh⟩ := hP
  have hx := Bd.exec
  have hby := Bd.bytes
  have hml : c.maxLocals = 1 := hml0
  have hown : s.vm.findClass "java/lang/StringUTF16" = some m.cls := findClass_of_methodNamed Bd.named
  have hnm := (name_of_methodNamed Bd.named Bd.method).1
  have X0 : Stand p l e ({ frames := 0, cells := 0, slots := 0, locals := 0 } : Room) s m #[(.int (2 : Int32))] below meth c s₁ [] 0 0 := Stand.of_body Bd
  have e0 : s₁.heap = h0 := by rw [← hh, Bd.state]; rfl
  have N0 := Fr.nil n0
  have go0 : Goes p e below s₁ (G_nbl2 m) s₁ (mkF m 0 #[vI (2 : Int32)] []) := fun tq kq => castTop (by first | (simp [entryFrame, mkF, argsToLocals, Value.category, vI, vJ, vR, vD, vN, uN, sD, G_nbl2]; done) | rfl) kq
  have go79 : Goes p e below s₁ (G_nbl2 m) s₁ (mkF m 1 #[vI (2 : Int32)] [(.int (2 : Int32))]) := fun tq kq => go0 tq (by
    show Sx p e below s₁ (mkF m 0 #[vI (2 : Int32)] []) _
    refine XS.iloadN X0.here hx rfl (hb hby d19_0) rfl ?_
    exact kq)
  have go80 : Goes p e below s₁ (G_nbl2 m) s₁ (mkF m 15 #[vI (2 : Int32)] [(.int (1073741823 : Int32)), (.int (2 : Int32))]) := fun tq kq => go79 tq (by
    show Sx p e below s₁ (mkF m 1 #[vI (2 : Int32)] [(.int (2 : Int32))]) _
    refine XS.ifYes X0.here hx rfl (pc0 := 1) (pc' := 12) rfl (hb hby d19_1) rfl ((if0 _ _).trans (flt (by decide)).2.1) (by decide) (by decide) ?_
    show Sx p e below s₁ (mkF m 12 #[vI (2 : Int32)] []) _
    refine XS.iloadN X0.here hx rfl (hb hby d19_12) rfl ?_
    refine X0.ldcInt hx hown (mvT hZ (tw84 hw)) (g := (mkF m 13 #[vI (2 : Int32)] [(.int (2 : Int32))])) rfl (hb hby d19_13) _ ?_
    exact kq)
  have go81 : Goes p e below s₁ (G_nbl2 m) s₁ (mkF m 58 #[vI (2 : Int32)] [(.int ((2 : Int32) <<< ((1 : Int32) &&& 31)))]) := fun tq kq => go80 tq (by
    show Sx p e below s₁ (mkF m 15 #[vI (2 : Int32)] [(.int (1073741823 : Int32)), (.int (2 : Int32))]) _
    refine XS.icmpYes X0.here hx rfl (pc0 := 15) (pc' := 55) rfl (hb hby d19_15) rfl (tlt (by decide)).1 (by decide) (by decide) ?_
    refine XS.iloadN X0.here hx rfl (hb hby d19_55) rfl ?_
    show Sx p e below s₁ (mkF m 56 #[vI (2 : Int32)] [(.int (2 : Int32))]) _
    refine XS.iconst X0.here hx rfl (hb hby d19_56) ?_
    refine XS.ishl X0.here hx rfl (hb hby d19_57) rfl ?_
    exact kq)
  obtain ⟨fs, hr, hrun, hended, hW, hsame⟩ := X0.leave (v := some (.int ((2 : Int32) <<< ((1 : Int32) &&& 31)))) (fun h => by rw [Bd.returns] at h; cases h)
  refine ⟨_, _, go81 _ ?_, hrun, hended, _, _, rfl, ?_, ⟨_, rfl⟩, hW, hsame.mono (by decide) (by decide)⟩
  · exact retI X0 hx Bd.returns (hb hby d19_58) hr
  · show Q_nbl2 Z  h0 n0 _ s₁.heap _
    rw [e0]
    exact ⟨congrArg (fun z => some (Value.int z)) (by decide +kernel), N0, rfl⟩
abbrev G_nbf2 (m : MethodId)  : JFrame := (entryFrame m #[(.int (2 : Int32))] 1)
def Q_nbf2 (Z : State)   (h0 : Heap) (n0 : Nat) (v : Option Value) (h : Heap) (L : List Loc) : Prop := ∃ (t : Addr) (k : ClassId), v = some (.ref t) ∧ Fr n0 L ∧ Keep h0 h [] ∧ h0.size ≤ t ∧ Arv Z h t k .byte (4 : Int32) [(.int (0 : Int32)), (.int (0 : Int32)), (.int (0 : Int32)), (.int (0 : Int32))] (.int (0 : Int32))
set_option maxRecDepth 65536 in
set_option maxHeartbeats 40000000 in
theorem nbf2 (l : Launch) (Z : State) (a0 : Array Value) (hw : ∀ d ∈ tables_1, d.before a0 Z = true) (ws : List Jvm.Cond)   (h0 : Heap) (n0 : Nat) (Z0 : n0 ≤ h0.size)  :
    MetFree l (⟨"java/lang/StringUTF16", "newBytesFor", "(I)[B"⟩ : MethodName) (head1 (Jvm.Cond.code (⟨"java/lang/StringUTF16", "newBytesFor", "(I)[B"⟩ : MethodName) jdk_52_method_2_code 1 (some (.array .byte)) :: ws) ({ frames := 1, cells := 1, slots := 4, locals := 12 } : Room)) (fun a U => a = #[(.int (2 : Int32))] ∧ Z.Warmed39 U.vm ∧ U.heap = h0) (fun _ _ _ _ _ => True) (fun _ U o U' => ∃ v L, o = .returned v ∧ Q_nbf2 Z  h0 n0 v U'.heap L ∧ FrameEnd U o U' L ({ frames := 1, cells := 1, slots := 4, locals := 12 } : Room).cells ({ frames := 1, cells := 1, slots := 4, locals := 12 } : Room).slots) := by
  refine MetFree.of_bodySF (plainFor_of_name pn_java_lang_StringUTF16) hisR ?_
  intro p e s m args below meth c s₁ Bd hml0 hP hK
  obtain ⟨rfl, hZ, hh⟩ := hP
  have hx := Bd.exec
  have hby := Bd.bytes
  have hml : c.maxLocals = 1 := hml0
  have hown : s.vm.findClass "java/lang/StringUTF16" = some m.cls := findClass_of_methodNamed Bd.named
  have hnm := (name_of_methodNamed Bd.named Bd.method).1
  have X0 : Stand p l e ({ frames := 1, cells := 1, slots := 4, locals := 12 } : Room) s m #[(.int (2 : Int32))] below meth c s₁ [] 0 0 := Stand.of_body Bd
  have e0 : s₁.heap = h0 := by rw [← hh, Bd.state]; rfl
  have N0 := Fr.nil n0
  have KP0 : Keep h0 h0 [] := Keep.refl h0 []
  have go0 : Goes p e below s₁ (G_nbf2 m) s₁ (mkF m 0 #[vI (2 : Int32)] []) := fun tq kq => castTop (by first | (simp [entryFrame, mkF, argsToLocals, Value.category, vI, vJ, vR, vD, vN, uN, sD, G_nbf2]; done) | rfl) kq
  have go82 : Goes p e below s₁ (G_nbf2 m) s₁ (mkF m 1 #[vI (2 : Int32)] [(.int (2 : Int32))]) := fun tq kq => go0 tq (by
    show Sx p e below s₁ (mkF m 0 #[vI (2 : Int32)] []) _
    refine XS.iloadN X0.here hx rfl (hb hby d18_0) rfl ?_
    exact kq)
  obtain ⟨vv83, _, ⟨T83, L83, k83, n83⟩, -, X83, ⟨Lc83, hQ83, l83, y83, z83⟩, st83⟩ := Jvm.LawKit.callS X0 hx (y := (⟨"java/lang/StringUTF16", "newBytesLength", "(I)I"⟩ : MethodName)) hown (mvT hZ (tw81 hw)) (mvT hZ (tw82 hw)) (mvT hZ (tw70 hw)) (mvT hZ (tw83 hw)) (by decide) (backOf (W := 0) (nbl2 l Z a0 hw []   h0 n0 Z0 ) hZ (tw83 hw) (tw70 hw) (by decide) (by decide)) (g := (mkF m 1 #[vI (2 : Int32)] [(.int (2 : Int32))])) rfl (by rw [hml]; rfl) (argsL := [(.int (2 : Int32))]) (rest := []) (lenOf pd_0 rfl) rfl (by show 2 * 0 + _ ≤ _; exact Nat.le_of_eq rfl) (hb hby d18_1) (fun _ _ => ⟨rfl, e0, (by decide : 0 + 0 ≤ _), (by decide : 0 + 0 ≤ _)⟩)
  dsimp only [Pt.U, Pt.locs, Pt.cells, Pt.slots] at X83 l83 y83 z83 st83 hQ83
  subst l83 y83 z83
  obtain ⟨rfl, Nq83, eq83⟩ := hQ83
  have N83 := Fr.app N0 Nq83
  have go83 : Goes p e below s₁ (G_nbf2 m) T83 (mkF m 4 #[vI (2 : Int32)] [(.int (4 : Int32))]) := fun tq kq => go82 tq (st83 _ kq)
  obtain ⟨T84, h84, k84, X84, e84, E84, A84, st84⟩ := newP X83 hx hZ (aty := .byte) (tw25 hw) eq83 (g := (mkF m 4 #[vI (2 : Int32)] [(.int (4 : Int32))])) rfl (hb hby d18_4) rfl (by decide) (cap := 4) (by decide) (by decide) (by decide) (by decide)
  obtain ⟨b84, g84⟩ : ∃ z, z = h0.size := ⟨_, rfl⟩
  rw [← g84] at A84 st84
  have g_b84 : n0 ≤ b84 := Nat.le_trans Z0 (Nat.le_of_eq g84.symm)
  have sz_b84 : h0.size ≤ b84 := Nat.le_trans KP0.1 (Nat.le_of_eq g84.symm)
  have KP84 : Keep h0 h84 [] := KP0.ext E84
  have ZS84 : n0 ≤ h84.size := Nat.le_trans Z0 E84.1
  have V84 : Arv Z h84 b84 k84 .byte (4 : Int32) [(.int (0 : Int32)), (.int (0 : Int32)), (.int (0 : Int32)), (.int (0 : Int32))] (.int (0 : Int32)) := (Arv.new A84 (by decide)).pad (pad_rep [] (.int (0 : Int32)) 4)
  have go84 : Goes p e below s₁ (G_nbf2 m) T84 (mkF m 6 #[vI (2 : Int32)] [(.ref b84)]) := fun tq kq => go83 tq (st84 _ kq)
  obtain ⟨fs, hr, hrun, hended, hW, hsame⟩ := X84.leave (v := some (.ref b84)) (fun h => by rw [Bd.returns] at h; cases h)
  refine ⟨_, _, go84 _ ?_, hrun, hended, _, _, rfl, ?_, ⟨_, rfl⟩, hW, hsame.mono (by decide) (by decide)⟩
  · jvm_step X84.here [X84.here.top, hx, (hb hby d18_6), X84.method', Bd.returns, Value.isRef, FieldType.isReference]
    first | (intro acts; rw [hr _ acts rfl rfl rfl]) | rw [hr _ _ rfl rfl rfl]
    exact Steps.refl _
  · show Q_nbf2 Z  h0 n0 _ T84.heap _
    rw [e84]
    exact ⟨b84, _, rfl, N83, KP84, sz_b84, V84⟩
abbrev G_pc20 (m : MethodId) (a1 : Addr) (p3 : Int32) : JFrame := (entryFrame m #[(.ref a1), (.int (0 : Int32)), (.int p3)] 3)
def Q_pc20 (Z : State) (a1 : Addr) (p3 : Int32) (kB : ClassId) (v0 v1 v2 v3 : Value) (h0 : Heap) (n0 : Nat) (v : Option Value) (h : Heap) (L : List Loc) : Prop := v = none ∧ Fr n0 L ∧ Keep h0 h [a1] ∧ Arv Z h a1 kB .byte (4 : Int32) [(.int (StrChars.lo8 p3)), (.int (StrChars.hi8 p3)), v2, v3] (.int (0 : Int32))
set_option maxRecDepth 65536 in
set_option maxHeartbeats 40000000 in
theorem pc20 (l : Launch) (Z : State) (a0 : Array Value) (hw : ∀ d ∈ tables_1, d.before a0 Z = true) (ws : List Jvm.Cond) (a1 : Addr) (p3 : Int32) (kB : ClassId) (v0 v1 v2 v3 : Value) (h0 : Heap) (n0 : Nat) (Z0 : n0 ≤ h0.size) (O0 : Old Z n0 h0) (g_a1 : n0 ≤ a1) (AD : Sta Z Z.heap "java/lang/StringUTF16" "$assertionsDisabled" "Z" (.int (1 : Int32))) (HI : Sta Z Z.heap "java/lang/StringUTF16" "HI_BYTE_SHIFT" "I" (.int (0 : Int32))) (LO : Sta Z Z.heap "java/lang/StringUTF16" "LO_BYTE_SHIFT" "I" (.int (8 : Int32))) (VA : Arv Z h0 a1 kB .byte (4 : Int32) [v0, v1, v2, v3] (.int (0 : Int32))) :
    MetFree l (⟨"java/lang/StringUTF16", "putChar", "([BII)V"⟩ : MethodName) (head1 (Jvm.Cond.code (⟨"java/lang/StringUTF16", "putChar", "([BII)V"⟩ : MethodName) jdk_52_method_4_code 3 none :: ws) ({ frames := 0, cells := 0, slots := 0, locals := 0 } : Room)) (fun a U => a = #[(.ref a1), (.int (0 : Int32)), (.int p3)] ∧ Z.Warmed39 U.vm ∧ U.heap = h0) (fun _ _ _ _ _ => True) (fun _ U o U' => ∃ v L, o = .returned v ∧ Q_pc20 Z a1 p3 kB v0 v1 v2 v3 h0 n0 v U'.heap L ∧ FrameEnd U o U' L ({ frames := 0, cells := 0, slots := 0, locals := 0 } : Room).cells ({ frames := 0, cells := 0, slots := 0, locals := 0 } : Room).slots) := by
  refine MetFree.of_bodySF (plainFor_of_name pn_java_lang_StringUTF16) hisR ?_
  intro p e s m args below meth c s₁ Bd hml0 hP hK
  obtain ⟨rfl, hZ, hh⟩ := hP
  have hx := Bd.exec
  have hby := Bd.bytes
  have hml : c.maxLocals = 3 := hml0
  have hown : s.vm.findClass "java/lang/StringUTF16" = some m.cls := findClass_of_methodNamed Bd.named
  have hnm := (name_of_methodNamed Bd.named Bd.method).1
  have X0 : Stand p l e ({ frames := 0, cells := 0, slots := 0, locals := 0 } : Room) s m #[(.ref a1), (.int (0 : Int32)), (.int p3)] below meth c s₁ [] 0 0 := Stand.of_body Bd
  have e0 : s₁.heap = h0 := by rw [← hh, Bd.state]; rfl
  have N0 := Fr.nil n0
  have KP0 : Keep h0 h0 [a1] := Keep.refl h0 [a1]
  have go0 : Goes p e below s₁ (G_pc20 m a1 p3) s₁ (mkF m 0 #[vR a1, vI (0 : Int32), vI p3] []) := fun tq kq => castTop (by first | (simp [entryFrame, mkF, argsToLocals, Value.category, vI, vJ, vR, vD, vN, uN, sD, G_pc20]; done) | rfl) kq
  obtain ⟨T85, X85, e85, st85⟩ := getS2 X0 hx hZ hown (host := "") (Or.inl (tw88 hw)) Via.refl e0 (AD.ext O0.2) (g := (mkF m 0 #[vR a1, vI (0 : Int32), vI p3] [])) rfl (hb hby d20_0)
  have go85 : Goes p e below s₁ (G_pc20 m a1 p3) T85 (mkF m 3 #[vR a1, vI (0 : Int32), vI p3] [(.int (1 : Int32))]) := fun tq kq => go0 tq (st85 _ kq)
  have go86 : Goes p e below s₁ (G_pc20 m a1 p3) T85 (mkF m 32 #[vR a1, vI ((0 : Int32) <<< ((1 : Int32) &&& 31)), vI p3] []) := fun tq kq => go85 tq (by
    show Sx p e below T85 (mkF m 3 #[vR a1, vI (0 : Int32), vI p3] [(.int (1 : Int32))]) _
    refine XS.ifYes X85.here hx rfl (pc0 := 3) (pc' := 28) rfl (hb hby d20_3) rfl ((if0 _ _).trans (feq (by decide)).2) (by decide) (by decide) ?_
    refine XS.iloadN X85.here hx rfl (hb hby d20_28) rfl ?_
    show Sx p e below T85 (mkF m 29 #[vR a1, vI (0 : Int32), vI p3] [(.int (0 : Int32))]) _
    refine XS.iconst X85.here hx rfl (hb hby d20_29) ?_
    refine XS.ishl X85.here hx rfl (hb hby d20_30) rfl ?_
    show Sx p e below T85 (mkF m 31 #[vR a1, vI (0 : Int32), vI p3] [(.int ((0 : Int32) <<< ((1 : Int32) &&& 31)))]) _
    refine XS.istoreN X85.here hx rfl (hb hby d20_31) rfl (l' := #[vR a1, vI ((0 : Int32) <<< ((1 : Int32) &&& 31)), vI p3]) rfl ?_
    exact kq)
  rw [show ((0 : Int32) <<< ((1 : Int32) &&& 31)) = (0 : Int32) by decide +kernel] at go86
  have go87 : Goes p e below s₁ (G_pc20 m a1 p3) T85 (mkF m 38 #[vR a1, vI (1 : Int32), vI p3] [(.int p3), (.int (0 : Int32)), (.ref a1)]) := fun tq kq => go86 tq (by
    show Sx p e below T85 (mkF m 32 #[vR a1, vI (0 : Int32), vI p3] []) _
    refine XS.aloadN X85.here hx rfl (hb hby d20_32) rfl rfl ?_
    show Sx p e below T85 (mkF m 33 #[vR a1, vI (0 : Int32), vI p3] [(.ref a1)]) _
    refine XS.iloadN X85.here hx rfl (hb hby d20_33) rfl ?_
    refine XS.iinc X85.here hx rfl (hb hby d20_34) rfl (l' := #[vR a1, vI (1 : Int32), vI p3]) rfl ?_
    show Sx p e below T85 (mkF m 37 #[vR a1, vI (1 : Int32), vI p3] [(.int (0 : Int32)), (.ref a1)]) _
    refine XS.iloadN X85.here hx rfl (hb hby d20_37) rfl ?_
    exact kq)
  obtain ⟨T88, X88, e88, st88⟩ := getS2 X85 hx hZ hown (host := "") (Or.inl (tw89 hw)) Via.refl e85 (HI.ext O0.2) (g := (mkF m 38 #[vR a1, vI (1 : Int32), vI p3] [(.int p3), (.int (0 : Int32)), (.ref a1)])) rfl (hb hby d20_38)
  have go88 : Goes p e below s₁ (G_pc20 m a1 p3) T88 (mkF m 41 #[vR a1, vI (1 : Int32), vI p3] [(.int (0 : Int32)), (.int p3), (.int (0 : Int32)), (.ref a1)]) := fun tq kq => go87 tq (st88 _ kq)
  have go90 : Goes p e below s₁ (G_pc20 m a1 p3) T88 (mkF m 43 #[vR a1, vI (1 : Int32), vI p3] [(.int ((p3 >>> ((0 : Int32) &&& 31)).toInt8.toInt32)), (.int (0 : Int32)), (.ref a1)]) := fun tq kq => go88 tq (by
    show Sx p e below T88 (mkF m 41 #[vR a1, vI (1 : Int32), vI p3] [(.int (0 : Int32)), (.int p3), (.int (0 : Int32)), (.ref a1)]) _
    refine XS.ishr X88.here hx rfl (hb hby d20_41) rfl ?_
    show Sx p e below T88 (mkF m 42 #[vR a1, vI (1 : Int32), vI p3] [(.int (p3 >>> ((0 : Int32) &&& 31))), (.int (0 : Int32)), (.ref a1)]) _
    refine XS.i2b X88.here hx rfl (hb hby d20_42) rfl ?_
    exact kq)
  obtain ⟨cl89, Ar89, q89, S89, N_89, H89, G89⟩ := VA
  have hin89 : ¬ ((0 : Int32) < 0 ∨ cl89.slots.size ≤ ((0 : Int32)).toNatClampNeg) := inb_of S89 ⟨by decide, by decide⟩
  obtain ⟨T91, h91, X91, e91, W91, st91⟩ := stB X88 hx hZ e88 Ar89 (j := (0 : Int32)) hin89 (g := (mkF m 43 #[vR a1, vI (1 : Int32), vI p3] [(.int ((p3 >>> ((0 : Int32) &&& 31)).toInt8.toInt32)), (.int (0 : Int32)), (.ref a1)])) rfl rfl (hb hby d20_43)
  have N91 := Fr.snoc X91 N0 g_a1
  have KP91 : Keep h0 h91 [a1] := KP0.wr W91 (Or.inl (List.mem_of_getElem? (i := 0) rfl))
  have O91 := O0.wr W91 g_a1
  have ZS91 : n0 ≤ h91.size := Nat.le_trans Z0 (Keep.of_wr W91).1
  have V91 : Arv Z h91 a1 kB .byte (4 : Int32) [(.int (nar .byte ((p3 >>> ((0 : Int32) &&& 31)).toInt8.toInt32))), v1, v2, v3] (.int (0 : Int32)) := Arv.set Ar89 q89 S89 N_89 H89 G89 (fits_nar_byte _) W91 0 rfl (Nat.le_of_ble_eq_true rfl)
  have go91 : Goes p e below s₁ (G_pc20 m a1 p3) T91 (mkF m 44 #[vR a1, vI (1 : Int32), vI p3] []) := fun tq kq => go90 tq (st91 _ kq)
  have go92 : Goes p e below s₁ (G_pc20 m a1 p3) T91 (mkF m 47 #[vR a1, vI (1 : Int32), vI p3] [(.int p3), (.int (1 : Int32)), (.ref a1)]) := fun tq kq => go91 tq (by
    show Sx p e below T91 (mkF m 44 #[vR a1, vI (1 : Int32), vI p3] []) _
    refine XS.aloadN X91.here hx rfl (hb hby d20_44) rfl rfl ?_
    show Sx p e below T91 (mkF m 45 #[vR a1, vI (1 : Int32), vI p3] [(.ref a1)]) _
    refine XS.iloadN X91.here hx rfl (hb hby d20_45) rfl ?_
    refine XS.iloadN X91.here hx rfl (hb hby d20_46) rfl ?_
    exact kq)
  obtain ⟨T93, X93, e93, st93⟩ := getS2 X91 hx hZ hown (host := "") (Or.inl (tw90 hw)) Via.refl e91 (LO.ext O91.2) (g := (mkF m 47 #[vR a1, vI (1 : Int32), vI p3] [(.int p3), (.int (1 : Int32)), (.ref a1)])) rfl (hb hby d20_47)
  have go93 : Goes p e below s₁ (G_pc20 m a1 p3) T93 (mkF m 50 #[vR a1, vI (1 : Int32), vI p3] [(.int (8 : Int32)), (.int p3), (.int (1 : Int32)), (.ref a1)]) := fun tq kq => go92 tq (st93 _ kq)
  have go95 : Goes p e below s₁ (G_pc20 m a1 p3) T93 (mkF m 52 #[vR a1, vI (1 : Int32), vI p3] [(.int ((p3 >>> ((8 : Int32) &&& 31)).toInt8.toInt32)), (.int (1 : Int32)), (.ref a1)]) := fun tq kq => go93 tq (by
    show Sx p e below T93 (mkF m 50 #[vR a1, vI (1 : Int32), vI p3] [(.int (8 : Int32)), (.int p3), (.int (1 : Int32)), (.ref a1)]) _
    refine XS.ishr X93.here hx rfl (hb hby d20_50) rfl ?_
    refine XS.i2b X93.here hx rfl (hb hby d20_51) rfl ?_
    exact kq)
  obtain ⟨cl94, Ar94, q94, S94, N_94, H94, G94⟩ := V91
  have hin94 : ¬ ((1 : Int32) < 0 ∨ cl94.slots.size ≤ ((1 : Int32)).toNatClampNeg) := inb_of S94 ⟨by decide, by decide⟩
  obtain ⟨T96, h96, X96, e96, W96, st96⟩ := stB X93 hx hZ e93 Ar94 (j := (1 : Int32)) hin94 (g := (mkF m 52 #[vR a1, vI (1 : Int32), vI p3] [(.int ((p3 >>> ((8 : Int32) &&& 31)).toInt8.toInt32)), (.int (1 : Int32)), (.ref a1)])) rfl rfl (hb hby d20_52)
  have N96 := Fr.snoc X96 N91 g_a1
  have KP96 : Keep h0 h96 [a1] := KP91.wr W96 (Or.inl (List.mem_of_getElem? (i := 0) rfl))
  have O96 := O91.wr W96 g_a1
  have ZS96 : n0 ≤ h96.size := Nat.le_trans ZS91 (Keep.of_wr W96).1
  have V96 : Arv Z h96 a1 kB .byte (4 : Int32) [(.int (nar .byte ((p3 >>> ((0 : Int32) &&& 31)).toInt8.toInt32))), (.int (nar .byte ((p3 >>> ((8 : Int32) &&& 31)).toInt8.toInt32))), v2, v3] (.int (0 : Int32)) := Arv.set Ar94 q94 S94 N_94 H94 G94 (fits_nar_byte _) W96 1 rfl (Nat.le_of_ble_eq_true rfl)
  have go96 : Goes p e below s₁ (G_pc20 m a1 p3) T96 (mkF m 53 #[vR a1, vI (1 : Int32), vI p3] []) := fun tq kq => go95 tq (st96 _ kq)
  have VQ := V96
  rw [own_lo, own_hi] at VQ
  obtain ⟨fs, hr, hrun, hended, hW, hsame⟩ := X96.leave (v := none) (fun _ => rfl)
  refine ⟨_, _, go96 _ ?_, hrun, hended, _, _, rfl, ?_, ⟨_, rfl⟩, hW, hsame.mono (by decide) (by decide)⟩
  · exact X96.returnOut hx Bd.returns (hb hby d20_53) hr
  · show Q_pc20 Z a1 p3 kB v0 v1 v2 v3 h0 n0 _ T96.heap _
    rw [e96]
    exact ⟨rfl, N96, KP96, VQ⟩
abbrev G_pc21 (m : MethodId) (a1 : Addr) (p3 : Int32) : JFrame := (entryFrame m #[(.ref a1), (.int (1 : Int32)), (.int p3)] 3)
def Q_pc21 (Z : State) (a1 : Addr) (p3 : Int32) (kB : ClassId) (v0 v1 v2 v3 : Value) (h0 : Heap) (n0 : Nat) (v : Option Value) (h : Heap) (L : List Loc) : Prop := v = none ∧ Fr n0 L ∧ Keep h0 h [a1] ∧ Arv Z h a1 kB .byte (4 : Int32) [v0, v1, (.int (StrChars.lo8 p3)), (.int (StrChars.hi8 p3))] (.int (0 : Int32))
set_option maxRecDepth 65536 in
set_option maxHeartbeats 40000000 in
theorem pc21 (l : Launch) (Z : State) (a0 : Array Value) (hw : ∀ d ∈ tables_1, d.before a0 Z = true) (ws : List Jvm.Cond) (a1 : Addr) (p3 : Int32) (kB : ClassId) (v0 v1 v2 v3 : Value) (h0 : Heap) (n0 : Nat) (Z0 : n0 ≤ h0.size) (O0 : Old Z n0 h0) (g_a1 : n0 ≤ a1) (AD : Sta Z Z.heap "java/lang/StringUTF16" "$assertionsDisabled" "Z" (.int (1 : Int32))) (HI : Sta Z Z.heap "java/lang/StringUTF16" "HI_BYTE_SHIFT" "I" (.int (0 : Int32))) (LO : Sta Z Z.heap "java/lang/StringUTF16" "LO_BYTE_SHIFT" "I" (.int (8 : Int32))) (VA : Arv Z h0 a1 kB .byte (4 : Int32) [v0, v1, v2, v3] (.int (0 : Int32))) :
    MetFree l (⟨"java/lang/StringUTF16", "putChar", "([BII)V"⟩ : MethodName) (head1 (Jvm.Cond.code (⟨"java/lang/StringUTF16", "putChar", "([BII)V"⟩ : MethodName) jdk_52_method_4_code 3 none :: ws) ({ frames := 0, cells := 0, slots := 0, locals := 0 } : Room)) (fun a U => a = #[(.ref a1), (.int (1 : Int32)), (.int p3)] ∧ Z.Warmed39 U.vm ∧ U.heap = h0) (fun _ _ _ _ _ => True) (fun _ U o U' => ∃ v L, o = .returned v ∧ Q_pc21 Z a1 p3 kB v0 v1 v2 v3 h0 n0 v U'.heap L ∧ FrameEnd U o U' L ({ frames := 0, cells := 0, slots := 0, locals := 0 } : Room).cells ({ frames := 0, cells := 0, slots := 0, locals := 0 } : Room).slots) := by
  refine MetFree.of_bodySF (plainFor_of_name pn_java_lang_StringUTF16) hisR ?_
  intro p e s m args below meth c s₁ Bd hml0 hP hK
  obtain ⟨rfl, hZ, hh⟩ := hP
  have hx := Bd.exec
  have hby := Bd.bytes
  have hml : c.maxLocals = 3 := hml0
  have hown : s.vm.findClass "java/lang/StringUTF16" = some m.cls := findClass_of_methodNamed Bd.named
  have hnm := (name_of_methodNamed Bd.named Bd.method).1
  have X0 : Stand p l e ({ frames := 0, cells := 0, slots := 0, locals := 0 } : Room) s m #[(.ref a1), (.int (1 : Int32)), (.int p3)] below meth c s₁ [] 0 0 := Stand.of_body Bd
  have e0 : s₁.heap = h0 := by rw [← hh, Bd.state]; rfl
  have N0 := Fr.nil n0
  have KP0 : Keep h0 h0 [a1] := Keep.refl h0 [a1]
  have go0 : Goes p e below s₁ (G_pc21 m a1 p3) s₁ (mkF m 0 #[vR a1, vI (1 : Int32), vI p3] []) := fun tq kq => castTop (by first | (simp [entryFrame, mkF, argsToLocals, Value.category, vI, vJ, vR, vD, vN, uN, sD, G_pc21]; done) | rfl) kq
  obtain ⟨T97, X97, e97, st97⟩ := getS2 X0 hx hZ hown (host := "") (Or.inl (tw88 hw)) Via.refl e0 (AD.ext O0.2) (g := (mkF m 0 #[vR a1, vI (1 : Int32), vI p3] [])) rfl (hb hby d20_0)
  have go97 : Goes p e below s₁ (G_pc21 m a1 p3) T97 (mkF m 3 #[vR a1, vI (1 : Int32), vI p3] [(.int (1 : Int32))]) := fun tq kq => go0 tq (st97 _ kq)
  have go98 : Goes p e below s₁ (G_pc21 m a1 p3) T97 (mkF m 32 #[vR a1, vI ((1 : Int32) <<< ((1 : Int32) &&& 31)), vI p3] []) := fun tq kq => go97 tq (by
    show Sx p e below T97 (mkF m 3 #[vR a1, vI (1 : Int32), vI p3] [(.int (1 : Int32))]) _
    refine XS.ifYes X97.here hx rfl (pc0 := 3) (pc' := 28) rfl (hb hby d20_3) rfl ((if0 _ _).trans (feq (by decide)).2) (by decide) (by decide) ?_
    refine XS.iloadN X97.here hx rfl (hb hby d20_28) rfl ?_
    show Sx p e below T97 (mkF m 29 #[vR a1, vI (1 : Int32), vI p3] [(.int (1 : Int32))]) _
    refine XS.iconst X97.here hx rfl (hb hby d20_29) ?_
    refine XS.ishl X97.here hx rfl (hb hby d20_30) rfl ?_
    show Sx p e below T97 (mkF m 31 #[vR a1, vI (1 : Int32), vI p3] [(.int ((1 : Int32) <<< ((1 : Int32) &&& 31)))]) _
    refine XS.istoreN X97.here hx rfl (hb hby d20_31) rfl (l' := #[vR a1, vI ((1 : Int32) <<< ((1 : Int32) &&& 31)), vI p3]) rfl ?_
    exact kq)
  rw [show ((1 : Int32) <<< ((1 : Int32) &&& 31)) = (2 : Int32) by decide +kernel] at go98
  have go99 : Goes p e below s₁ (G_pc21 m a1 p3) T97 (mkF m 38 #[vR a1, vI (3 : Int32), vI p3] [(.int p3), (.int (2 : Int32)), (.ref a1)]) := fun tq kq => go98 tq (by
    show Sx p e below T97 (mkF m 32 #[vR a1, vI (2 : Int32), vI p3] []) _
    refine XS.aloadN X97.here hx rfl (hb hby d20_32) rfl rfl ?_
    show Sx p e below T97 (mkF m 33 #[vR a1, vI (2 : Int32), vI p3] [(.ref a1)]) _
    refine XS.iloadN X97.here hx rfl (hb hby d20_33) rfl ?_
    refine XS.iinc X97.here hx rfl (hb hby d20_34) rfl (l' := #[vR a1, vI (3 : Int32), vI p3]) rfl ?_
    show Sx p e below T97 (mkF m 37 #[vR a1, vI (3 : Int32), vI p3] [(.int (2 : Int32)), (.ref a1)]) _
    refine XS.iloadN X97.here hx rfl (hb hby d20_37) rfl ?_
    exact kq)
  obtain ⟨T100, X100, e100, st100⟩ := getS2 X97 hx hZ hown (host := "") (Or.inl (tw89 hw)) Via.refl e97 (HI.ext O0.2) (g := (mkF m 38 #[vR a1, vI (3 : Int32), vI p3] [(.int p3), (.int (2 : Int32)), (.ref a1)])) rfl (hb hby d20_38)
  have go100 : Goes p e below s₁ (G_pc21 m a1 p3) T100 (mkF m 41 #[vR a1, vI (3 : Int32), vI p3] [(.int (0 : Int32)), (.int p3), (.int (2 : Int32)), (.ref a1)]) := fun tq kq => go99 tq (st100 _ kq)
  have go102 : Goes p e below s₁ (G_pc21 m a1 p3) T100 (mkF m 43 #[vR a1, vI (3 : Int32), vI p3] [(.int ((p3 >>> ((0 : Int32) &&& 31)).toInt8.toInt32)), (.int (2 : Int32)), (.ref a1)]) := fun tq kq => go100 tq (by
    show Sx p e below T100 (mkF m 41 #[vR a1, vI (3 : Int32), vI p3] [(.int (0 : Int32)), (.int p3), (.int (2 : Int32)), (.ref a1)]) _
    refine XS.ishr X100.here hx rfl (hb hby d20_41) rfl ?_
    show Sx p e below T100 (mkF m 42 #[vR a1, vI (3 : Int32), vI p3] [(.int (p3 >>> ((0 : Int32) &&& 31))), (.int (2 : Int32)), (.ref a1)]) _
    refine XS.i2b X100.here hx rfl (hb hby d20_42) rfl ?_
    exact kq)
  obtain ⟨cl101, Ar101, q101, S101, N_101, H101, G101⟩ := VA
  have hin101 : ¬ ((2 : Int32) < 0 ∨ cl101.slots.size ≤ ((2 : Int32)).toNatClampNeg) := inb_of S101 ⟨by decide, by decide⟩
  obtain ⟨T103, h103, X103, e103, W103, st103⟩ := stB X100 hx hZ e100 Ar101 (j := (2 : Int32)) hin101 (g := (mkF m 43 #[vR a1, vI (3 : Int32), vI p3] [(.int ((p3 >>> ((0 : Int32) &&& 31)).toInt8.toInt32)), (.int (2 : Int32)), (.ref a1)])) rfl rfl (hb hby d20_43)
  have N103 := Fr.snoc X103 N0 g_a1
  have KP103 : Keep h0 h103 [a1] := KP0.wr W103 (Or.inl (List.mem_of_getElem? (i := 0) rfl))
  have O103 := O0.wr W103 g_a1
  have ZS103 : n0 ≤ h103.size := Nat.le_trans Z0 (Keep.of_wr W103).1
  have V103 : Arv Z h103 a1 kB .byte (4 : Int32) [v0, v1, (.int (nar .byte ((p3 >>> ((0 : Int32) &&& 31)).toInt8.toInt32))), v3] (.int (0 : Int32)) := Arv.set Ar101 q101 S101 N_101 H101 G101 (fits_nar_byte _) W103 2 rfl (Nat.le_of_ble_eq_true rfl)
  have go103 : Goes p e below s₁ (G_pc21 m a1 p3) T103 (mkF m 44 #[vR a1, vI (3 : Int32), vI p3] []) := fun tq kq => go102 tq (st103 _ kq)
  have go104 : Goes p e below s₁ (G_pc21 m a1 p3) T103 (mkF m 47 #[vR a1, vI (3 : Int32), vI p3] [(.int p3), (.int (3 : Int32)), (.ref a1)]) := fun tq kq => go103 tq (by
    show Sx p e below T103 (mkF m 44 #[vR a1, vI (3 : Int32), vI p3] []) _
    refine XS.aloadN X103.here hx rfl (hb hby d20_44) rfl rfl ?_
    show Sx p e below T103 (mkF m 45 #[vR a1, vI (3 : Int32), vI p3] [(.ref a1)]) _
    refine XS.iloadN X103.here hx rfl (hb hby d20_45) rfl ?_
    refine XS.iloadN X103.here hx rfl (hb hby d20_46) rfl ?_
    exact kq)
  obtain ⟨T105, X105, e105, st105⟩ := getS2 X103 hx hZ hown (host := "") (Or.inl (tw90 hw)) Via.refl e103 (LO.ext O103.2) (g := (mkF m 47 #[vR a1, vI (3 : Int32), vI p3] [(.int p3), (.int (3 : Int32)), (.ref a1)])) rfl (hb hby d20_47)
  have go105 : Goes p e below s₁ (G_pc21 m a1 p3) T105 (mkF m 50 #[vR a1, vI (3 : Int32), vI p3] [(.int (8 : Int32)), (.int p3), (.int (3 : Int32)), (.ref a1)]) := fun tq kq => go104 tq (st105 _ kq)
  have go107 : Goes p e below s₁ (G_pc21 m a1 p3) T105 (mkF m 52 #[vR a1, vI (3 : Int32), vI p3] [(.int ((p3 >>> ((8 : Int32) &&& 31)).toInt8.toInt32)), (.int (3 : Int32)), (.ref a1)]) := fun tq kq => go105 tq (by
    show Sx p e below T105 (mkF m 50 #[vR a1, vI (3 : Int32), vI p3] [(.int (8 : Int32)), (.int p3), (.int (3 : Int32)), (.ref a1)]) _
    refine XS.ishr X105.here hx rfl (hb hby d20_50) rfl ?_
    refine XS.i2b X105.here hx rfl (hb hby d20_51) rfl ?_
    exact kq)
  obtain ⟨cl106, Ar106, q106, S106, N_106, H106, G106⟩ := V103
  have hin106 : ¬ ((3 : Int32) < 0 ∨ cl106.slots.size ≤ ((3 : Int32)).toNatClampNeg) := inb_of S106 ⟨by decide, by decide⟩
  obtain ⟨T108, h108, X108, e108, W108, st108⟩ := stB X105 hx hZ e105 Ar106 (j := (3 : Int32)) hin106 (g := (mkF m 52 #[vR a1, vI (3 : Int32), vI p3] [(.int ((p3 >>> ((8 : Int32) &&& 31)).toInt8.toInt32)), (.int (3 : Int32)), (.ref a1)])) rfl rfl (hb hby d20_52)
  have N108 := Fr.snoc X108 N103 g_a1
  have KP108 : Keep h0 h108 [a1] := KP103.wr W108 (Or.inl (List.mem_of_getElem? (i := 0) rfl))
  have O108 := O103.wr W108 g_a1
  have ZS108 : n0 ≤ h108.size := Nat.le_trans ZS103 (Keep.of_wr W108).1
  have V108 : Arv Z h108 a1 kB .byte (4 : Int32) [v0, v1, (.int (nar .byte ((p3 >>> ((0 : Int32) &&& 31)).toInt8.toInt32))), (.int (nar .byte ((p3 >>> ((8 : Int32) &&& 31)).toInt8.toInt32)))] (.int (0 : Int32)) := Arv.set Ar106 q106 S106 N_106 H106 G106 (fits_nar_byte _) W108 3 rfl (Nat.le_of_ble_eq_true rfl)
  have go108 : Goes p e below s₁ (G_pc21 m a1 p3) T108 (mkF m 53 #[vR a1, vI (3 : Int32), vI p3] []) := fun tq kq => go107 tq (st108 _ kq)
  have VQ := V108
  rw [own_lo, own_hi] at VQ
  obtain ⟨fs, hr, hrun, hended, hW, hsame⟩ := X108.leave (v := none) (fun _ => rfl)
  refine ⟨_, _, go108 _ ?_, hrun, hended, _, _, rfl, ?_, ⟨_, rfl⟩, hW, hsame.mono (by decide) (by decide)⟩
  · exact X108.returnOut hx Bd.returns (hb hby d20_53) hr
  · show Q_pc21 Z a1 p3 kB v0 v1 v2 v3 h0 n0 _ T108.heap _
    rw [e108]
    exact ⟨rfl, N108, KP108, VQ⟩
abbrev G_tb2 (m : MethodId) (a1 : Addr) : JFrame := (entryFrame m #[(.ref a1), (.int (0 : Int32)), (.int (2 : Int32))] 5)
def Q_tb2 (Z : State) (a1 : Addr) (c0 c1 : Int32) (kC : ClassId) (h0 : Heap) (n0 : Nat) (v : Option Value) (h : Heap) (L : List Loc) : Prop := ∃ (t : Addr) (k : ClassId), v = some (.ref t) ∧ Fr n0 L ∧ Keep h0 h [] ∧ h0.size ≤ t ∧ Arv Z h t k .byte (4 : Int32) [(.int (StrChars.lo8 c0)), (.int (StrChars.hi8 c0)), (.int (StrChars.lo8 c1)), (.int (StrChars.hi8 c1))] (.int (0 : Int32))
set_option maxRecDepth 65536 in
set_option maxHeartbeats 40000000 in
theorem tb2 (l : Launch) (Z : State) (a0 : Array Value) (hw : ∀ d ∈ tables_1, d.before a0 Z = true) (ws : List Jvm.Cond) (a1 : Addr) (c0 c1 : Int32) (kC : ClassId) (h0 : Heap) (n0 : Nat) (Z0 : n0 ≤ h0.size) (O0 : Old Z n0 h0) (AD : Sta Z Z.heap "java/lang/StringUTF16" "$assertionsDisabled" "Z" (.int (1 : Int32))) (HI : Sta Z Z.heap "java/lang/StringUTF16" "HI_BYTE_SHIFT" "I" (.int (0 : Int32))) (LO : Sta Z Z.heap "java/lang/StringUTF16" "LO_BYTE_SHIFT" "I" (.int (8 : Int32))) (VA : Arv Z h0 a1 kC .char (2 : Int32) [(.int c0), (.int c1)] (.int (0 : Int32))) :
    MetFree l (⟨"java/lang/StringUTF16", "toBytes", "([CII)[B"⟩ : MethodName) (head1 (Jvm.Cond.code (⟨"java/lang/StringUTF16", "toBytes", "([CII)[B"⟩ : MethodName) jdk_52_method_14_code 5 (some (.array .byte)) :: ws) ({ frames := 2, cells := 1, slots := 4, locals := 24 } : Room)) (fun a U => a = #[(.ref a1), (.int (0 : Int32)), (.int (2 : Int32))] ∧ Z.Warmed39 U.vm ∧ U.heap = h0) (fun _ _ _ _ _ => True) (fun _ U o U' => ∃ v L, o = .returned v ∧ Q_tb2 Z a1 c0 c1 kC h0 n0 v U'.heap L ∧ FrameEnd U o U' L ({ frames := 2, cells := 1, slots := 4, locals := 24 } : Room).cells ({ frames := 2, cells := 1, slots := 4, locals := 24 } : Room).slots) := by
  refine MetFree.of_bodySF (plainFor_of_name pn_java_lang_StringUTF16) hisR ?_
  intro p e s m args below meth c s₁ Bd hml0 hP hK
  obtain ⟨rfl, hZ, hh⟩ := hP
  have hx := Bd.exec
  have hby := Bd.bytes
  have hml : c.maxLocals = 5 := hml0
  have hown : s.vm.findClass "java/lang/StringUTF16" = some m.cls := findClass_of_methodNamed Bd.named
  have hnm := (name_of_methodNamed Bd.named Bd.method).1
  have X0 : Stand p l e ({ frames := 2, cells := 1, slots := 4, locals := 24 } : Room) s m #[(.ref a1), (.int (0 : Int32)), (.int (2 : Int32))] below meth c s₁ [] 0 0 := Stand.of_body Bd
  have e0 : s₁.heap = h0 := by rw [← hh, Bd.state]; rfl
  have N0 := Fr.nil n0
  have KP0 : Keep h0 h0 [] := Keep.refl h0 []
  have go0 : Goes p e below s₁ (G_tb2 m a1) s₁ (mkF m 0 #[vR a1, vI (0 : Int32), vI (2 : Int32), uN, uN] []) := fun tq kq => castTop (by first | (simp [entryFrame, mkF, argsToLocals, Value.category, vI, vJ, vR, vD, vN, uN, sD, G_tb2]; done) | rfl) kq
  have go109 : Goes p e below s₁ (G_tb2 m a1) s₁ (mkF m 1 #[vR a1, vI (0 : Int32), vI (2 : Int32), uN, uN] [(.int (2 : Int32))]) := fun tq kq => go0 tq (by
    show Sx p e below s₁ (mkF m 0 #[vR a1, vI (0 : Int32), vI (2 : Int32), uN, uN] []) _
    refine XS.iloadN X0.here hx rfl (hb hby d17_0) rfl ?_
    exact kq)
  obtain ⟨vv110, _, ⟨T110, L110, k110, n110⟩, -, X110, ⟨Lc110, hQ110, l110, y110, z110⟩, st110⟩ := Jvm.LawKit.callS X0 hx (y := (⟨"java/lang/StringUTF16", "newBytesFor", "(I)[B"⟩ : MethodName)) hown (mvT hZ (tw78 hw)) (mvT hZ (tw79 hw)) (mvT hZ (tw70 hw)) (mvT hZ (tw80 hw)) (by decide) (backOf (W := 0) (nbf2 l Z a0 hw []   h0 n0 Z0 ) hZ (tw80 hw) (tw70 hw) (by decide) (by decide)) (g := (mkF m 1 #[vR a1, vI (0 : Int32), vI (2 : Int32), uN, uN] [(.int (2 : Int32))])) rfl (by rw [hml]; rfl) (argsL := [(.int (2 : Int32))]) (rest := []) (lenOf pd_1 rfl) rfl (by show 2 * 0 + _ ≤ _; exact Nat.le_of_eq rfl) (hb hby d17_1) (fun _ _ => ⟨rfl, e0, (by decide : 0 + 1 ≤ _), (by decide : 0 + 4 ≤ _)⟩)
  dsimp only [Pt.U, Pt.locs, Pt.cells, Pt.slots] at X110 l110 y110 z110 st110 hQ110
  subst l110 y110 z110
  obtain ⟨t110, kt110, rfl, Nq110, K110, sz110, V110⟩ := hQ110
  have N110 := Fr.app N0 Nq110
  have ZS110 : n0 ≤ T110.heap.size := Nat.le_trans Z0 K110.1
  have KP110 : Keep h0 T110.heap [] := KP0.trans K110 all0
  have O110 := O0.keep K110 all0
  have ne111 : a1 ≠ t110 := Nat.ne_of_lt (Nat.lt_of_lt_of_le VA.lt sz110)
  have go110 : Goes p e below s₁ (G_tb2 m a1) T110 (mkF m 4 #[vR a1, vI (0 : Int32), vI (2 : Int32), uN, uN] [(.ref t110)]) := fun tq kq => go109 tq (st110 _ kq)
  have g_t110 : n0 ≤ t110 := Nat.le_trans Z0 sz110
  have sz_t110 : h0.size ≤ t110 := sz110
  have go112 : Goes p e below s₁ (G_tb2 m a1) T110 (mkF m 11 #[vR a1, vI (0 : Int32), vI (2 : Int32), vR t110, vI (0 : Int32)] [(.int (2 : Int32)), (.int (0 : Int32))]) := fun tq kq => go110 tq (by
    show Sx p e below T110 (mkF m 4 #[vR a1, vI (0 : Int32), vI (2 : Int32), uN, uN] [(.ref t110)]) _
    refine XS.astoreN X110.here hx rfl (hb hby d17_4) rfl rfl (l' := #[vR a1, vI (0 : Int32), vI (2 : Int32), vR t110, uN]) rfl ?_
    show Sx p e below T110 (mkF m 5 #[vR a1, vI (0 : Int32), vI (2 : Int32), vR t110, uN] []) _
    refine XS.iconst X110.here hx rfl (hb hby d17_5) ?_
    refine XS.istore X110.here hx rfl (hb hby d17_6) rfl (l' := #[vR a1, vI (0 : Int32), vI (2 : Int32), vR t110, vI (0 : Int32)]) rfl ?_
    show Sx p e below T110 (mkF m 8 #[vR a1, vI (0 : Int32), vI (2 : Int32), vR t110, vI (0 : Int32)] []) _
    refine XS.iload X110.here hx rfl (hb hby d17_8) rfl ?_
    refine XS.iloadN X110.here hx rfl (hb hby d17_10) rfl ?_
    exact kq)
  have go113 : Goes p e below s₁ (G_tb2 m a1) T110 (mkF m 19 #[vR a1, vI (0 : Int32), vI (2 : Int32), vR t110, vI (0 : Int32)] [(.int (0 : Int32)), (.ref a1), (.int (0 : Int32)), (.ref t110)]) := fun tq kq => go112 tq (by
    show Sx p e below T110 (mkF m 11 #[vR a1, vI (0 : Int32), vI (2 : Int32), vR t110, vI (0 : Int32)] [(.int (2 : Int32)), (.int (0 : Int32))]) _
    refine XS.icmpNo X110.here hx rfl (hb hby d17_11) rfl (tlt (by decide)).2.1 ?_
    refine XS.aloadN X110.here hx rfl (hb hby d17_14) rfl rfl ?_
    show Sx p e below T110 (mkF m 15 #[vR a1, vI (0 : Int32), vI (2 : Int32), vR t110, vI (0 : Int32)] [(.ref t110)]) _
    refine XS.iload X110.here hx rfl (hb hby d17_15) rfl ?_
    refine XS.aloadN X110.here hx rfl (hb hby d17_17) rfl rfl ?_
    show Sx p e below T110 (mkF m 18 #[vR a1, vI (0 : Int32), vI (2 : Int32), vR t110, vI (0 : Int32)] [(.ref a1), (.int (0 : Int32)), (.ref t110)]) _
    refine XS.iloadN X110.here hx rfl (hb hby d17_18) rfl ?_
    exact kq)
  obtain ⟨cl114, Ar114, q114, S114, N_114, H114, G114⟩ := id ((VA.keep K110 nin0))
  have hin114 : ¬ ((0 : Int32) < 0 ∨ cl114.slots.size ≤ ((0 : Int32)).toNatClampNeg) := inb_of S114 ⟨by decide, by decide⟩
  have hat114 := Has.at H114 hin114 (v := (.int c0)) rfl
  have go115 : Goes p e below s₁ (G_tb2 m a1) T110 (mkF m 20 #[vR a1, vI (0 : Int32), vI (2 : Int32), vR t110, vI (0 : Int32)] [(.int c0), (.int (0 : Int32)), (.ref t110)]) := fun tq kq => go113 tq (by
    show Sx p e below T110 (mkF m 19 #[vR a1, vI (0 : Int32), vI (2 : Int32), vR t110, vI (0 : Int32)] [(.int (0 : Int32)), (.ref a1), (.int (0 : Int32)), (.ref t110)]) _
    refine X110.caload hx (j := (0 : Int32)) (v := (.int c0)) Ar114.1 (State.isArrayOf_alike hZ.alike Ar114.2.1) Ar114.2.2 hin114 hat114 (g := (mkF m 19 #[vR a1, vI (0 : Int32), vI (2 : Int32), vR t110, vI (0 : Int32)] [(.int (0 : Int32)), (.ref a1), (.int (0 : Int32)), (.ref t110)])) rfl rfl (hb hby d17_19) _ ?_
    exact kq)
  obtain ⟨vv116, _, ⟨T116, L116, k116, n116⟩, -, X116, ⟨Lc116, hQ116, l116, y116, z116⟩, st116⟩ := Jvm.LawKit.callS X110 hx (y := (⟨"java/lang/StringUTF16", "putChar", "([BII)V"⟩ : MethodName)) hown (mvT hZ (tw85 hw)) (mvT hZ (tw86 hw)) (mvT hZ (tw70 hw)) (mvT hZ (tw87 hw)) (by decide) (backOf (W := 0) (pc20 l Z a0 hw [] t110 c0 kt110 (.int (0 : Int32)) (.int (0 : Int32)) (.int (0 : Int32)) (.int (0 : Int32)) T110.heap n0 ZS110 O110 g_t110 AD HI LO V110) hZ (tw87 hw) (tw70 hw) (by decide) (by decide)) (g := (mkF m 20 #[vR a1, vI (0 : Int32), vI (2 : Int32), vR t110, vI (0 : Int32)] [(.int c0), (.int (0 : Int32)), (.ref t110)])) rfl (by rw [hml]; rfl) (argsL := [(.ref t110), (.int (0 : Int32)), (.int c0)]) (rest := []) (lenOf pd_2 rfl) rfl (by show 2 * 0 + _ ≤ _; exact Nat.le_of_eq rfl) (hb hby d17_20) (fun _ _ => ⟨rfl, rfl, (by decide : 1 + 0 ≤ _), (by decide : 4 + 0 ≤ _)⟩)
  dsimp only [Pt.U, Pt.locs, Pt.cells, Pt.slots] at X116 l116 y116 z116 st116 hQ116
  subst l116 y116 z116
  obtain ⟨rfl, Nq116, K116, V116⟩ := hQ116
  have N116 := Fr.app N110 Nq116
  have ZS116 : n0 ≤ T116.heap.size := Nat.le_trans ZS110 K116.1
  have KP116 : Keep h0 T116.heap [] := KP110.trans K116 (allS (Or.inr sz_t110) all0)
  have O116 := O110.keep K116 (allS g_t110 all0)
  have go116 : Goes p e below s₁ (G_tb2 m a1) T116 (mkF m 23 #[vR a1, vI (0 : Int32), vI (2 : Int32), vR t110, vI (0 : Int32)] []) := fun tq kq => go115 tq (st116 _ kq)
  have go117 : Goes p e below s₁ (G_tb2 m a1) T116 (mkF m 11 #[vR a1, vI (1 : Int32), vI (2 : Int32), vR t110, vI (1 : Int32)] [(.int (2 : Int32)), (.int (1 : Int32))]) := fun tq kq => go116 tq (by
    show Sx p e below T116 (mkF m 23 #[vR a1, vI (0 : Int32), vI (2 : Int32), vR t110, vI (0 : Int32)] []) _
    refine XS.iinc X116.here hx rfl (hb hby d17_23) rfl (l' := #[vR a1, vI (1 : Int32), vI (2 : Int32), vR t110, vI (0 : Int32)]) rfl ?_
    refine XS.iinc X116.here hx rfl (hb hby d17_26) rfl (l' := #[vR a1, vI (1 : Int32), vI (2 : Int32), vR t110, vI (1 : Int32)]) rfl ?_
    show Sx p e below T116 (mkF m 29 #[vR a1, vI (1 : Int32), vI (2 : Int32), vR t110, vI (1 : Int32)] []) _
    refine XS.goto X116.here hx rfl (pc0 := 29) (pc' := 8) rfl (hb hby d17_29) (by decide) (by decide) ?_
    refine XS.iload X116.here hx rfl (hb hby d17_8) rfl ?_
    show Sx p e below T116 (mkF m 10 #[vR a1, vI (1 : Int32), vI (2 : Int32), vR t110, vI (1 : Int32)] [(.int (1 : Int32))]) _
    refine XS.iloadN X116.here hx rfl (hb hby d17_10) rfl ?_
    exact kq)
  have go118 : Goes p e below s₁ (G_tb2 m a1) T116 (mkF m 19 #[vR a1, vI (1 : Int32), vI (2 : Int32), vR t110, vI (1 : Int32)] [(.int (1 : Int32)), (.ref a1), (.int (1 : Int32)), (.ref t110)]) := fun tq kq => go117 tq (by
    show Sx p e below T116 (mkF m 11 #[vR a1, vI (1 : Int32), vI (2 : Int32), vR t110, vI (1 : Int32)] [(.int (2 : Int32)), (.int (1 : Int32))]) _
    refine XS.icmpNo X116.here hx rfl (hb hby d17_11) rfl (tlt (by decide)).2.1 ?_
    show Sx p e below T116 (mkF m 14 #[vR a1, vI (1 : Int32), vI (2 : Int32), vR t110, vI (1 : Int32)] []) _
    refine XS.aloadN X116.here hx rfl (hb hby d17_14) rfl rfl ?_
    refine XS.iload X116.here hx rfl (hb hby d17_15) rfl ?_
    show Sx p e below T116 (mkF m 17 #[vR a1, vI (1 : Int32), vI (2 : Int32), vR t110, vI (1 : Int32)] [(.int (1 : Int32)), (.ref t110)]) _
    refine XS.aloadN X116.here hx rfl (hb hby d17_17) rfl rfl ?_
    refine XS.iloadN X116.here hx rfl (hb hby d17_18) rfl ?_
    exact kq)
  obtain ⟨cl119, Ar119, q119, S119, N_119, H119, G119⟩ := id (((VA.keep K110 nin0).keep K116 (ninS ne111 nin0)))
  have hin119 : ¬ ((1 : Int32) < 0 ∨ cl119.slots.size ≤ ((1 : Int32)).toNatClampNeg) := inb_of S119 ⟨by decide, by decide⟩
  have hat119 := Has.at H119 hin119 (v := (.int c1)) rfl
  have go120 : Goes p e below s₁ (G_tb2 m a1) T116 (mkF m 20 #[vR a1, vI (1 : Int32), vI (2 : Int32), vR t110, vI (1 : Int32)] [(.int c1), (.int (1 : Int32)), (.ref t110)]) := fun tq kq => go118 tq (by
    show Sx p e below T116 (mkF m 19 #[vR a1, vI (1 : Int32), vI (2 : Int32), vR t110, vI (1 : Int32)] [(.int (1 : Int32)), (.ref a1), (.int (1 : Int32)), (.ref t110)]) _
    refine X116.caload hx (j := (1 : Int32)) (v := (.int c1)) Ar119.1 (State.isArrayOf_alike hZ.alike Ar119.2.1) Ar119.2.2 hin119 hat119 (g := (mkF m 19 #[vR a1, vI (1 : Int32), vI (2 : Int32), vR t110, vI (1 : Int32)] [(.int (1 : Int32)), (.ref a1), (.int (1 : Int32)), (.ref t110)])) rfl rfl (hb hby d17_19) _ ?_
    exact kq)
  obtain ⟨vv121, _, ⟨T121, L121, k121, n121⟩, -, X121, ⟨Lc121, hQ121, l121, y121, z121⟩, st121⟩ := Jvm.LawKit.callS X116 hx (y := (⟨"java/lang/StringUTF16", "putChar", "([BII)V"⟩ : MethodName)) hown (mvT hZ (tw85 hw)) (mvT hZ (tw86 hw)) (mvT hZ (tw70 hw)) (mvT hZ (tw87 hw)) (by decide) (backOf (W := 0) (pc21 l Z a0 hw [] t110 c1 kt110 (.int (StrChars.lo8 c0)) (.int (StrChars.hi8 c0)) (.int (0 : Int32)) (.int (0 : Int32)) T116.heap n0 ZS116 O116 g_t110 AD HI LO V116) hZ (tw87 hw) (tw70 hw) (by decide) (by decide)) (g := (mkF m 20 #[vR a1, vI (1 : Int32), vI (2 : Int32), vR t110, vI (1 : Int32)] [(.int c1), (.int (1 : Int32)), (.ref t110)])) rfl (by rw [hml]; rfl) (argsL := [(.ref t110), (.int (1 : Int32)), (.int c1)]) (rest := []) (lenOf pd_2 rfl) rfl (by show 2 * 0 + _ ≤ _; exact Nat.le_of_eq rfl) (hb hby d17_20) (fun _ _ => ⟨rfl, rfl, (by decide : 1 + 0 ≤ _), (by decide : 4 + 0 ≤ _)⟩)
  dsimp only [Pt.U, Pt.locs, Pt.cells, Pt.slots] at X121 l121 y121 z121 st121 hQ121
  subst l121 y121 z121
  obtain ⟨rfl, Nq121, K121, V121⟩ := hQ121
  have N121 := Fr.app N116 Nq121
  have ZS121 : n0 ≤ T121.heap.size := Nat.le_trans ZS116 K121.1
  have KP121 : Keep h0 T121.heap [] := KP116.trans K121 (allS (Or.inr sz_t110) all0)
  have O121 := O116.keep K121 (allS g_t110 all0)
  have go121 : Goes p e below s₁ (G_tb2 m a1) T121 (mkF m 23 #[vR a1, vI (1 : Int32), vI (2 : Int32), vR t110, vI (1 : Int32)] []) := fun tq kq => go120 tq (st121 _ kq)
  have go122 : Goes p e below s₁ (G_tb2 m a1) T121 (mkF m 11 #[vR a1, vI (2 : Int32), vI (2 : Int32), vR t110, vI (2 : Int32)] [(.int (2 : Int32)), (.int (2 : Int32))]) := fun tq kq => go121 tq (by
    show Sx p e below T121 (mkF m 23 #[vR a1, vI (1 : Int32), vI (2 : Int32), vR t110, vI (1 : Int32)] []) _
    refine XS.iinc X121.here hx rfl (hb hby d17_23) rfl (l' := #[vR a1, vI (2 : Int32), vI (2 : Int32), vR t110, vI (1 : Int32)]) rfl ?_
    show Sx p e below T121 (mkF m 26 #[vR a1, vI (2 : Int32), vI (2 : Int32), vR t110, vI (1 : Int32)] []) _
    refine XS.iinc X121.here hx rfl (hb hby d17_26) rfl (l' := #[vR a1, vI (2 : Int32), vI (2 : Int32), vR t110, vI (2 : Int32)]) rfl ?_
    refine XS.goto X121.here hx rfl (pc0 := 29) (pc' := 8) rfl (hb hby d17_29) (by decide) (by decide) ?_
    show Sx p e below T121 (mkF m 8 #[vR a1, vI (2 : Int32), vI (2 : Int32), vR t110, vI (2 : Int32)] []) _
    refine XS.iload X121.here hx rfl (hb hby d17_8) rfl ?_
    refine XS.iloadN X121.here hx rfl (hb hby d17_10) rfl ?_
    exact kq)
  have go123 : Goes p e below s₁ (G_tb2 m a1) T121 (mkF m 33 #[vR a1, vI (2 : Int32), vI (2 : Int32), vR t110, vI (2 : Int32)] [(.ref t110)]) := fun tq kq => go122 tq (by
    show Sx p e below T121 (mkF m 11 #[vR a1, vI (2 : Int32), vI (2 : Int32), vR t110, vI (2 : Int32)] [(.int (2 : Int32)), (.int (2 : Int32))]) _
    refine XS.icmpYes X121.here hx rfl (pc0 := 11) (pc' := 32) rfl (hb hby d17_11) rfl (flt (by decide)).2.1 (by decide) (by decide) ?_
    refine XS.aloadN X121.here hx rfl (hb hby d17_32) rfl rfl ?_
    exact kq)
  obtain ⟨fs, hr, hrun, hended, hW, hsame⟩ := X121.leave (v := some (.ref t110)) (fun h => by rw [Bd.returns] at h; cases h)
  refine ⟨_, _, go123 _ ?_, hrun, hended, _, _, rfl, ?_, ⟨_, rfl⟩, hW, hsame.mono (by decide) (by decide)⟩
  · jvm_step X121.here [X121.here.top, hx, (hb hby d17_33), X121.method', Bd.returns, Value.isRef, FieldType.isReference]
    first | (intro acts; rw [hr _ acts rfl rfl rfl]) | rw [hr _ _ rfl rfl rfl]
    exact Steps.refl _
  · show Q_tb2 Z a1 c0 c1 kC h0 n0 _ T121.heap _
    exact ⟨t110, kt110, rfl, N121, KP121, sz_t110, V121⟩
abbrev G_cx2 (m : MethodId) (a1 : Addr) (a3 : Addr) : JFrame := (entryFrame m #[(.ref a1), (.int (0 : Int32)), (.ref a3), (.int (0 : Int32)), (.int (2 : Int32))] 7)
theorem d16_26 : decode jdk_52_method_21_code 26 = .ok (.aload_n 2, 1) := by decide +kernel
theorem d16_27 : decode jdk_52_method_21_code 27 = .ok (.iload_n 3, 1) := by decide +kernel
theorem d16_28 : decode jdk_52_method_21_code 28 = .ok (.iload 6, 2) := by decide +kernel
theorem d16_30 : decode jdk_52_method_21_code 30 = .ok (.i2b, 1) := by decide +kernel
theorem d16_31 : decode jdk_52_method_21_code 31 = .ok (.bastore, 1) := by decide +kernel
theorem d16_32 : decode jdk_52_method_21_code 32 = .ok (.iinc 1 1, 3) := by decide +kernel
theorem d16_35 : decode jdk_52_method_21_code 35 = .ok (.iinc 3 1, 3) := by decide +kernel
theorem d16_38 : decode jdk_52_method_21_code 38 = .ok (.iinc 5 1, 3) := by decide +kernel
theorem d16_41 : decode jdk_52_method_21_code 41 = .ok (.goto (-38), 3) := by decide +kernel
def Q_cx2 (Z : State) (a1 : Addr) (a3 : Addr) (c0 c1 : Int32) (kC kB : ClassId) (h0 : Heap) (n0 : Nat) (v : Option Value) (h : Heap) (L : List Loc) : Prop := ∃ k : Nat, k < 2 ∧ v = some (.int (Int32.ofNat k)) ∧ Fr n0 L ∧ Keep h0 h [a3] ∧ (255 : Int32) < ([c0, c1] : List Int32).getD k 0
set_option maxRecDepth 65536 in
set_option maxHeartbeats 40000000 in
theorem cx2 (l : Launch) (Z : State) (a0 : Array Value) (hw : ∀ d ∈ tables_1, d.before a0 Z = true) (ws : List Jvm.Cond) (a1 : Addr) (a3 : Addr) (c0 c1 : Int32) (kC kB : ClassId) (h0 : Heap) (n0 : Nat) (Z0 : n0 ≤ h0.size) (g_a3 : n0 ≤ a3) (VA : Arv Z h0 a1 kC .char (2 : Int32) [(.int c0), (.int c1)] (.int (0 : Int32))) (VB : Arv Z h0 a3 kB .byte (2 : Int32) [(.int (0 : Int32)), (.int (0 : Int32))] (.int (0 : Int32))) (ne13 : a1 ≠ a3) (hbad : ∃ c ∈ ([c0, c1] : List Int32), (255 : Int32) < c) :
    MetFree l (⟨"java/lang/StringUTF16", "compress", "([CI[BII)I"⟩ : MethodName) (head1 (Jvm.Cond.code (⟨"java/lang/StringUTF16", "compress", "([CI[BII)I"⟩ : MethodName) jdk_52_method_21_code 7 (some .int) :: ws) ({ frames := 0, cells := 0, slots := 0, locals := 0 } : Room)) (fun a U => a = #[(.ref a1), (.int (0 : Int32)), (.ref a3), (.int (0 : Int32)), (.int (2 : Int32))] ∧ Z.Warmed39 U.vm ∧ U.heap = h0) (fun _ _ _ _ _ => True) (fun _ U o U' => ∃ v L, o = .returned v ∧ Q_cx2 Z a1 a3 c0 c1 kC kB h0 n0 v U'.heap L ∧ FrameEnd U o U' L ({ frames := 0, cells := 0, slots := 0, locals := 0 } : Room).cells ({ frames := 0, cells := 0, slots := 0, locals := 0 } : Room).slots) := by
  refine MetFree.of_bodySF (plainFor_of_name pn_java_lang_StringUTF16) hisR ?_
  intro p e s m args below meth c s₁ Bd hml0 hP hK
  obtain ⟨rfl, hZ, hh⟩ := hP
  have hx := Bd.exec
  have hby := Bd.bytes
  have hml : c.maxLocals = 7 := hml0
  have hown : s.vm.findClass "java/lang/StringUTF16" = some m.cls := findClass_of_methodNamed Bd.named
  have hnm := (name_of_methodNamed Bd.named Bd.method).1
  have X0 : Stand p l e ({ frames := 0, cells := 0, slots := 0, locals := 0 } : Room) s m #[(.ref a1), (.int (0 : Int32)), (.ref a3), (.int (0 : Int32)), (.int (2 : Int32))] below meth c s₁ [] 0 0 := Stand.of_body Bd
  have e0 : s₁.heap = h0 := by rw [← hh, Bd.state]; rfl
  have N0 := Fr.nil n0
  have KP0 : Keep h0 h0 [a3] := Keep.refl h0 [a3]
  have go0 : Goes p e below s₁ (G_cx2 m a1 a3) s₁ (mkF m 0 #[vR a1, vI (0 : Int32), vR a3, vI (0 : Int32), vI (2 : Int32), uN, uN] []) := fun tq kq => castTop (by first | (simp [entryFrame, mkF, argsToLocals, Value.category, vI, vJ, vR, vD, vN, uN, sD, G_cx2]; done) | rfl) kq
  have go124 : Goes p e below s₁ (G_cx2 m a1 a3) s₁ (mkF m 7 #[vR a1, vI (0 : Int32), vR a3, vI (0 : Int32), vI (2 : Int32), vI (0 : Int32), uN] [(.int (2 : Int32)), (.int (0 : Int32))]) := fun tq kq => go0 tq (by
    show Sx p e below s₁ (mkF m 0 #[vR a1, vI (0 : Int32), vR a3, vI (0 : Int32), vI (2 : Int32), uN, uN] []) _
    refine XS.iconst X0.here hx rfl (hb hby d16_0) ?_
    refine XS.istore X0.here hx rfl (hb hby d16_1) rfl (l' := #[vR a1, vI (0 : Int32), vR a3, vI (0 : Int32), vI (2 : Int32), vI (0 : Int32), uN]) rfl ?_
    show Sx p e below s₁ (mkF m 3 #[vR a1, vI (0 : Int32), vR a3, vI (0 : Int32), vI (2 : Int32), vI (0 : Int32), uN] []) _
    refine XS.iload X0.here hx rfl (hb hby d16_3) rfl ?_
    refine XS.iload X0.here hx rfl (hb hby d16_5) rfl ?_
    exact kq)
  have go125 : Goes p e below s₁ (G_cx2 m a1 a3) s₁ (mkF m 12 #[vR a1, vI (0 : Int32), vR a3, vI (0 : Int32), vI (2 : Int32), vI (0 : Int32), uN] [(.int (0 : Int32)), (.ref a1)]) := fun tq kq => go124 tq (by
    show Sx p e below s₁ (mkF m 7 #[vR a1, vI (0 : Int32), vR a3, vI (0 : Int32), vI (2 : Int32), vI (0 : Int32), uN] [(.int (2 : Int32)), (.int (0 : Int32))]) _
    refine XS.icmpNo X0.here hx rfl (hb hby d16_7) rfl (tlt (by decide)).2.1 ?_
    refine XS.aloadN X0.here hx rfl (hb hby d16_10) rfl rfl ?_
    show Sx p e below s₁ (mkF m 11 #[vR a1, vI (0 : Int32), vR a3, vI (0 : Int32), vI (2 : Int32), vI (0 : Int32), uN] [(.ref a1)]) _
    refine XS.iloadN X0.here hx rfl (hb hby d16_11) rfl ?_
    exact kq)
  obtain ⟨cl126, Ar126, q126, S126, N_126, H126, G126⟩ := id (VA)
  have hin126 : ¬ ((0 : Int32) < 0 ∨ cl126.slots.size ≤ ((0 : Int32)).toNatClampNeg) := inb_of S126 ⟨by decide, by decide⟩
  have hat126 := Has.at H126 hin126 (v := (.int c0)) rfl
  have go127 : Goes p e below s₁ (G_cx2 m a1 a3) s₁ (mkF m 20 #[vR a1, vI (0 : Int32), vR a3, vI (0 : Int32), vI (2 : Int32), vI (0 : Int32), vI c0] [(.int (255 : Int32)), (.int c0)]) := fun tq kq => go125 tq (by
    show Sx p e below s₁ (mkF m 12 #[vR a1, vI (0 : Int32), vR a3, vI (0 : Int32), vI (2 : Int32), vI (0 : Int32), uN] [(.int (0 : Int32)), (.ref a1)]) _
    refine X0.caload hx (j := (0 : Int32)) (v := (.int c0)) (by rw [e0]; exact Ar126.1) (State.isArrayOf_alike hZ.alike Ar126.2.1) Ar126.2.2 hin126 hat126 (g := (mkF m 12 #[vR a1, vI (0 : Int32), vR a3, vI (0 : Int32), vI (2 : Int32), vI (0 : Int32), uN] [(.int (0 : Int32)), (.ref a1)])) rfl rfl (hb hby d16_12) _ ?_
    show Sx p e below s₁ (mkF m 13 #[vR a1, vI (0 : Int32), vR a3, vI (0 : Int32), vI (2 : Int32), vI (0 : Int32), uN] [(.int c0)]) _
    refine XS.istore X0.here hx rfl (hb hby d16_13) rfl (l' := #[vR a1, vI (0 : Int32), vR a3, vI (0 : Int32), vI (2 : Int32), vI (0 : Int32), vI c0]) rfl ?_
    refine XS.iload X0.here hx rfl (hb hby d16_15) rfl ?_
    show Sx p e below s₁ (mkF m 17 #[vR a1, vI (0 : Int32), vR a3, vI (0 : Int32), vI (2 : Int32), vI (0 : Int32), vI c0] [(.int c0)]) _
    refine XS.sipush X0.here hx rfl (hb hby d16_17) ?_
    exact kq)
  by_cases hq0 : (255 : Int32) < c0
  · have go128 : Goes p e below s₁ (G_cx2 m a1 a3) s₁ (mkF m 25 #[vR a1, vI (0 : Int32), vR a3, vI (0 : Int32), vI (2 : Int32), vI (0 : Int32), vI c0] [(.int (0 : Int32))]) := fun tq kq => go127 tq (by
      show Sx p e below s₁ (mkF m 20 #[vR a1, vI (0 : Int32), vR a3, vI (0 : Int32), vI (2 : Int32), vI (0 : Int32), vI c0] [(.int (255 : Int32)), (.int c0)]) _
      refine XS.icmpNo X0.here hx rfl (hb hby d16_20) rfl (tlt hq0).2.2.2 ?_
      show Sx p e below s₁ (mkF m 23 #[vR a1, vI (0 : Int32), vR a3, vI (0 : Int32), vI (2 : Int32), vI (0 : Int32), vI c0] []) _
      refine XS.iload X0.here hx rfl (hb hby d16_23) rfl ?_
      exact kq)
    obtain ⟨fs, hr, hrun, hended, hW, hsame⟩ := X0.leave (v := some (.int (0 : Int32))) (fun h => by rw [Bd.returns] at h; cases h)
    refine ⟨_, _, go128 _ ?_, hrun, hended, _, _, rfl, ?_, ⟨_, rfl⟩, hW, hsame.mono (by decide) (by decide)⟩
    · exact retI X0 hx Bd.returns (hb hby d16_25) hr
    · show Q_cx2 Z a1 a3 c0 c1 kC kB h0 n0 _ s₁.heap _
      rw [e0]
      exact ⟨0, by decide, rfl, N0, KP0, (show (255 : Int32) < ([c0, c1] : List Int32).getD 0 0 from hq0)⟩
  · have go130 : Goes p e below s₁ (G_cx2 m a1 a3) s₁ (mkF m 31 #[vR a1, vI (0 : Int32), vR a3, vI (0 : Int32), vI (2 : Int32), vI (0 : Int32), vI c0] [(.int (c0.toInt8.toInt32)), (.int (0 : Int32)), (.ref a3)]) := fun tq kq => go127 tq (by
      show Sx p e below s₁ (mkF m 20 #[vR a1, vI (0 : Int32), vR a3, vI (0 : Int32), vI (2 : Int32), vI (0 : Int32), vI c0] [(.int (255 : Int32)), (.int c0)]) _
      refine XS.icmpYes X0.here hx rfl (pc0 := 20) (pc' := 26) rfl (hb hby d16_20) rfl (flt hq0).2.2.2 (by decide) (by decide) ?_
      show Sx p e below s₁ (mkF m 26 #[vR a1, vI (0 : Int32), vR a3, vI (0 : Int32), vI (2 : Int32), vI (0 : Int32), vI c0] []) _
      refine XS.aloadN X0.here hx rfl (hb hby d16_26) rfl rfl ?_
      refine XS.iloadN X0.here hx rfl (hb hby d16_27) rfl ?_
      show Sx p e below s₁ (mkF m 28 #[vR a1, vI (0 : Int32), vR a3, vI (0 : Int32), vI (2 : Int32), vI (0 : Int32), vI c0] [(.int (0 : Int32)), (.ref a3)]) _
      refine XS.iload X0.here hx rfl (hb hby d16_28) rfl ?_
      refine XS.i2b X0.here hx rfl (hb hby d16_30) rfl ?_
      exact kq)
    obtain ⟨cl129, Ar129, q129, S129, N_129, H129, G129⟩ := VB
    have hin129 : ¬ ((0 : Int32) < 0 ∨ cl129.slots.size ≤ ((0 : Int32)).toNatClampNeg) := inb_of S129 ⟨by decide, by decide⟩
    obtain ⟨T131, h131, X131, e131, W131, st131⟩ := stB X0 hx hZ e0 Ar129 (j := (0 : Int32)) hin129 (g := (mkF m 31 #[vR a1, vI (0 : Int32), vR a3, vI (0 : Int32), vI (2 : Int32), vI (0 : Int32), vI c0] [(.int (c0.toInt8.toInt32)), (.int (0 : Int32)), (.ref a3)])) rfl rfl (hb hby d16_31)
    have N131 := Fr.snoc X131 N0 g_a3
    have KP131 : Keep h0 h131 [a3] := KP0.wr W131 (Or.inl (List.mem_of_getElem? (i := 0) rfl))
    have ZS131 : n0 ≤ h131.size := Nat.le_trans Z0 (Keep.of_wr W131).1
    have V131 : Arv Z h131 a3 kB .byte (2 : Int32) [(.int (nar .byte (c0.toInt8.toInt32))), (.int (0 : Int32))] (.int (0 : Int32)) := Arv.set Ar129 q129 S129 N_129 H129 G129 (fits_nar_byte _) W131 0 rfl (Nat.le_of_ble_eq_true rfl)
    have go131 : Goes p e below s₁ (G_cx2 m a1 a3) T131 (mkF m 32 #[vR a1, vI (0 : Int32), vR a3, vI (0 : Int32), vI (2 : Int32), vI (0 : Int32), vI c0] []) := fun tq kq => go130 tq (st131 _ kq)
    have go132 : Goes p e below s₁ (G_cx2 m a1 a3) T131 (mkF m 7 #[vR a1, vI (1 : Int32), vR a3, vI (1 : Int32), vI (2 : Int32), vI (1 : Int32), vI c0] [(.int (2 : Int32)), (.int (1 : Int32))]) := fun tq kq => go131 tq (by
      show Sx p e below T131 (mkF m 32 #[vR a1, vI (0 : Int32), vR a3, vI (0 : Int32), vI (2 : Int32), vI (0 : Int32), vI c0] []) _
      refine XS.iinc X131.here hx rfl (hb hby d16_32) rfl (l' := #[vR a1, vI (1 : Int32), vR a3, vI (0 : Int32), vI (2 : Int32), vI (0 : Int32), vI c0]) rfl ?_
      refine XS.iinc X131.here hx rfl (hb hby d16_35) rfl (l' := #[vR a1, vI (1 : Int32), vR a3, vI (1 : Int32), vI (2 : Int32), vI (0 : Int32), vI c0]) rfl ?_
      show Sx p e below T131 (mkF m 38 #[vR a1, vI (1 : Int32), vR a3, vI (1 : Int32), vI (2 : Int32), vI (0 : Int32), vI c0] []) _
      refine XS.iinc X131.here hx rfl (hb hby d16_38) rfl (l' := #[vR a1, vI (1 : Int32), vR a3, vI (1 : Int32), vI (2 : Int32), vI (1 : Int32), vI c0]) rfl ?_
      refine XS.goto X131.here hx rfl (pc0 := 41) (pc' := 3) rfl (hb hby d16_41) (by decide) (by decide) ?_
      show Sx p e below T131 (mkF m 3 #[vR a1, vI (1 : Int32), vR a3, vI (1 : Int32), vI (2 : Int32), vI (1 : Int32), vI c0] []) _
      refine XS.iload X131.here hx rfl (hb hby d16_3) rfl ?_
      refine XS.iload X131.here hx rfl (hb hby d16_5) rfl ?_
      exact kq)
    have go133 : Goes p e below s₁ (G_cx2 m a1 a3) T131 (mkF m 12 #[vR a1, vI (1 : Int32), vR a3, vI (1 : Int32), vI (2 : Int32), vI (1 : Int32), vI c0] [(.int (1 : Int32)), (.ref a1)]) := fun tq kq => go132 tq (by
      show Sx p e below T131 (mkF m 7 #[vR a1, vI (1 : Int32), vR a3, vI (1 : Int32), vI (2 : Int32), vI (1 : Int32), vI c0] [(.int (2 : Int32)), (.int (1 : Int32))]) _
      refine XS.icmpNo X131.here hx rfl (hb hby d16_7) rfl (tlt (by decide)).2.1 ?_
      refine XS.aloadN X131.here hx rfl (hb hby d16_10) rfl rfl ?_
      show Sx p e below T131 (mkF m 11 #[vR a1, vI (1 : Int32), vR a3, vI (1 : Int32), vI (2 : Int32), vI (1 : Int32), vI c0] [(.ref a1)]) _
      refine XS.iloadN X131.here hx rfl (hb hby d16_11) rfl ?_
      exact kq)
    obtain ⟨cl134, Ar134, q134, S134, N_134, H134, G134⟩ := id ((VA.other W131 ne13))
    have hin134 : ¬ ((1 : Int32) < 0 ∨ cl134.slots.size ≤ ((1 : Int32)).toNatClampNeg) := inb_of S134 ⟨by decide, by decide⟩
    have hat134 := Has.at H134 hin134 (v := (.int c1)) rfl
    have go135 : Goes p e below s₁ (G_cx2 m a1 a3) T131 (mkF m 20 #[vR a1, vI (1 : Int32), vR a3, vI (1 : Int32), vI (2 : Int32), vI (1 : Int32), vI c1] [(.int (255 : Int32)), (.int c1)]) := fun tq kq => go133 tq (by
      show Sx p e below T131 (mkF m 12 #[vR a1, vI (1 : Int32), vR a3, vI (1 : Int32), vI (2 : Int32), vI (1 : Int32), vI c0] [(.int (1 : Int32)), (.ref a1)]) _
      refine X131.caload hx (j := (1 : Int32)) (v := (.int c1)) (by rw [e131]; exact Ar134.1) (State.isArrayOf_alike hZ.alike Ar134.2.1) Ar134.2.2 hin134 hat134 (g := (mkF m 12 #[vR a1, vI (1 : Int32), vR a3, vI (1 : Int32), vI (2 : Int32), vI (1 : Int32), vI c0] [(.int (1 : Int32)), (.ref a1)])) rfl rfl (hb hby d16_12) _ ?_
      show Sx p e below T131 (mkF m 13 #[vR a1, vI (1 : Int32), vR a3, vI (1 : Int32), vI (2 : Int32), vI (1 : Int32), vI c0] [(.int c1)]) _
      refine XS.istore X131.here hx rfl (hb hby d16_13) rfl (l' := #[vR a1, vI (1 : Int32), vR a3, vI (1 : Int32), vI (2 : Int32), vI (1 : Int32), vI c1]) rfl ?_
      refine XS.iload X131.here hx rfl (hb hby d16_15) rfl ?_
      show Sx p e below T131 (mkF m 17 #[vR a1, vI (1 : Int32), vR a3, vI (1 : Int32), vI (2 : Int32), vI (1 : Int32), vI c1] [(.int c1)]) _
      refine XS.sipush X131.here hx rfl (hb hby d16_17) ?_
      exact kq)
    by_cases hq1 : (255 : Int32) < c1
    · have go136 : Goes p e below s₁ (G_cx2 m a1 a3) T131 (mkF m 25 #[vR a1, vI (1 : Int32), vR a3, vI (1 : Int32), vI (2 : Int32), vI (1 : Int32), vI c1] [(.int (1 : Int32))]) := fun tq kq => go135 tq (by
        show Sx p e below T131 (mkF m 20 #[vR a1, vI (1 : Int32), vR a3, vI (1 : Int32), vI (2 : Int32), vI (1 : Int32), vI c1] [(.int (255 : Int32)), (.int c1)]) _
        refine XS.icmpNo X131.here hx rfl (hb hby d16_20) rfl (tlt hq1).2.2.2 ?_
        show Sx p e below T131 (mkF m 23 #[vR a1, vI (1 : Int32), vR a3, vI (1 : Int32), vI (2 : Int32), vI (1 : Int32), vI c1] []) _
        refine XS.iload X131.here hx rfl (hb hby d16_23) rfl ?_
        exact kq)
      obtain ⟨fs, hr, hrun, hended, hW, hsame⟩ := X131.leave (v := some (.int (1 : Int32))) (fun h => by rw [Bd.returns] at h; cases h)
      refine ⟨_, _, go136 _ ?_, hrun, hended, _, _, rfl, ?_, ⟨_, rfl⟩, hW, hsame.mono (by decide) (by decide)⟩
      · exact retI X131 hx Bd.returns (hb hby d16_25) hr
      · show Q_cx2 Z a1 a3 c0 c1 kC kB h0 n0 _ T131.heap _
        rw [e131]
        exact ⟨1, by decide, rfl, N131, KP131, (show (255 : Int32) < ([c0, c1] : List Int32).getD 1 0 from hq1)⟩
    · have go137 : Goes p e below s₁ (G_cx2 m a1 a3) T131 (mkF m 26 #[vR a1, vI (1 : Int32), vR a3, vI (1 : Int32), vI (2 : Int32), vI (1 : Int32), vI c1] []) := fun tq kq => go135 tq (by
        show Sx p e below T131 (mkF m 20 #[vR a1, vI (1 : Int32), vR a3, vI (1 : Int32), vI (2 : Int32), vI (1 : Int32), vI c1] [(.int (255 : Int32)), (.int c1)]) _
        refine XS.icmpYes X131.here hx rfl (pc0 := 20) (pc' := 26) rfl (hb hby d16_20) rfl (flt hq1).2.2.2 (by decide) (by decide) ?_
        exact kq)
      obtain ⟨c, hc, hq⟩ := hbad
      simp only [List.mem_cons, List.not_mem_nil, or_false] at hc
      exfalso
      rcases hc with rfl | rfl <;> contradiction
abbrev G_cq2 (m : MethodId) (a1 : Addr) : JFrame := (entryFrame m #[(.ref a1), (.int (0 : Int32)), (.int (2 : Int32))] 6)
def Q_cq2 (Z : State) (a1 : Addr) (c0 c1 : Int32) (kC : ClassId) (h0 : Heap) (n0 : Nat) (v : Option Value) (h : Heap) (L : List Loc) : Prop := ∃ (t : Addr) (k : ClassId), v = some (.ref t) ∧ Fr n0 L ∧ Keep h0 h [] ∧ Arv Z h t k .byte (4 : Int32) [(.int (StrChars.lo8 c0)), (.int (StrChars.hi8 c0)), (.int (StrChars.lo8 c1)), (.int (StrChars.hi8 c1))] (.int (0 : Int32))
set_option maxRecDepth 65536 in
set_option maxHeartbeats 40000000 in
theorem cq2 (l : Launch) (Z : State) (a0 : Array Value) (hw : ∀ d ∈ tables_1, d.before a0 Z = true) (ws : List Jvm.Cond) (a1 : Addr) (c0 c1 : Int32) (kC : ClassId) (h0 : Heap) (n0 : Nat) (Z0 : n0 ≤ h0.size) (O0 : Old Z n0 h0) (AD : Sta Z Z.heap "java/lang/StringUTF16" "$assertionsDisabled" "Z" (.int (1 : Int32))) (HI : Sta Z Z.heap "java/lang/StringUTF16" "HI_BYTE_SHIFT" "I" (.int (0 : Int32))) (LO : Sta Z Z.heap "java/lang/StringUTF16" "LO_BYTE_SHIFT" "I" (.int (8 : Int32))) (VA : Arv Z h0 a1 kC .char (2 : Int32) [(.int c0), (.int c1)] (.int (0 : Int32))) (hbad : ∃ c ∈ ([c0, c1] : List Int32), (255 : Int32) < c) (hcs : ∀ c ∈ ([c0, c1] : List Int32), C16 c) :
    MetFree l (⟨"java/lang/StringUTF16", "compress", "([CII)[B"⟩ : MethodName) (head1 (Jvm.Cond.code (⟨"java/lang/StringUTF16", "compress", "([CII)[B"⟩ : MethodName) jdk_52_method_16_code 6 (some (.array .byte)) :: ws) ({ frames := 3, cells := 2, slots := 6, locals := 40 } : Room)) (fun a U => a = #[(.ref a1), (.int (0 : Int32)), (.int (2 : Int32))] ∧ Z.Warmed39 U.vm ∧ U.heap = h0) (fun _ _ _ _ _ => True) (fun _ U o U' => ∃ v L, o = .returned v ∧ Q_cq2 Z a1 c0 c1 kC h0 n0 v U'.heap L ∧ FrameEnd U o U' L ({ frames := 3, cells := 2, slots := 6, locals := 40 } : Room).cells ({ frames := 3, cells := 2, slots := 6, locals := 40 } : Room).slots) := by
  refine MetFree.of_bodySF (plainFor_of_name pn_java_lang_StringUTF16) hisR ?_
  intro p e s m args below meth c s₁ Bd hml0 hP hK
  obtain ⟨rfl, hZ, hh⟩ := hP
  have hx := Bd.exec
  have hby := Bd.bytes
  have hml : c.maxLocals = 6 := hml0
  have hown : s.vm.findClass "java/lang/StringUTF16" = some m.cls := findClass_of_methodNamed Bd.named
  have hnm := (name_of_methodNamed Bd.named Bd.method).1
  have X0 : Stand p l e ({ frames := 3, cells := 2, slots := 6, locals := 40 } : Room) s m #[(.ref a1), (.int (0 : Int32)), (.int (2 : Int32))] below meth c s₁ [] 0 0 := Stand.of_body Bd
  have e0 : s₁.heap = h0 := by rw [← hh, Bd.state]; rfl
  have N0 := Fr.nil n0
  have KP0 : Keep h0 h0 [] := Keep.refl h0 []
  have go0 : Goes p e below s₁ (G_cq2 m a1) s₁ (mkF m 0 #[vR a1, vI (0 : Int32), vI (2 : Int32), uN, uN, uN] []) := fun tq kq => castTop (by first | (simp [entryFrame, mkF, argsToLocals, Value.category, vI, vJ, vR, vD, vN, uN, sD, G_cq2]; done) | rfl) kq
  have go138 : Goes p e below s₁ (G_cq2 m a1) s₁ (mkF m 1 #[vR a1, vI (0 : Int32), vI (2 : Int32), uN, uN, uN] [(.int (2 : Int32))]) := fun tq kq => go0 tq (by
    show Sx p e below s₁ (mkF m 0 #[vR a1, vI (0 : Int32), vI (2 : Int32), uN, uN, uN] []) _
    refine XS.iloadN X0.here hx rfl (hb hby d15_0) rfl ?_
    exact kq)
  obtain ⟨T139, h139, k139, X139, e139, E139, A139, st139⟩ := newP X0 hx hZ (aty := .byte) (tw25 hw) e0 (g := (mkF m 1 #[vR a1, vI (0 : Int32), vI (2 : Int32), uN, uN, uN] [(.int (2 : Int32))])) rfl (hb hby d15_1) rfl (by decide) (cap := 2) (by decide) (by decide) (by decide) (by decide)
  obtain ⟨b139, g139⟩ : ∃ z, z = h0.size := ⟨_, rfl⟩
  rw [← g139] at A139 st139
  have g_b139 : n0 ≤ b139 := Nat.le_trans Z0 (Nat.le_of_eq g139.symm)
  have sz_b139 : h0.size ≤ b139 := Nat.le_trans KP0.1 (Nat.le_of_eq g139.symm)
  have KP139 : Keep h0 h139 [] := KP0.ext E139
  have O139 := O0.ext E139
  have ZS139 : n0 ≤ h139.size := Nat.le_trans Z0 E139.1
  have V139 : Arv Z h139 b139 k139 .byte (2 : Int32) [(.int (0 : Int32)), (.int (0 : Int32))] (.int (0 : Int32)) := (Arv.new A139 (by decide)).pad (pad_rep [] (.int (0 : Int32)) 2)
  have ne140 : a1 ≠ b139 := Nat.ne_of_lt (Nat.lt_of_lt_of_le VA.lt (Nat.le_of_eq g139.symm))
  have go139 : Goes p e below s₁ (G_cq2 m a1) T139 (mkF m 3 #[vR a1, vI (0 : Int32), vI (2 : Int32), uN, uN, uN] [(.ref b139)]) := fun tq kq => go138 tq (st139 _ kq)
  have go141 : Goes p e below s₁ (G_cq2 m a1) T139 (mkF m 9 #[vR a1, vI (0 : Int32), vI (2 : Int32), vR b139, uN, uN] [(.int (2 : Int32)), (.int (0 : Int32)), (.ref b139), (.int (0 : Int32)), (.ref a1)]) := fun tq kq => go139 tq (by
    show Sx p e below T139 (mkF m 3 #[vR a1, vI (0 : Int32), vI (2 : Int32), uN, uN, uN] [(.ref b139)]) _
    refine XS.astoreN X139.here hx rfl (hb hby d15_3) rfl rfl (l' := #[vR a1, vI (0 : Int32), vI (2 : Int32), vR b139, uN, uN]) rfl ?_
    show Sx p e below T139 (mkF m 4 #[vR a1, vI (0 : Int32), vI (2 : Int32), vR b139, uN, uN] []) _
    refine XS.aloadN X139.here hx rfl (hb hby d15_4) rfl rfl ?_
    refine XS.iloadN X139.here hx rfl (hb hby d15_5) rfl ?_
    show Sx p e below T139 (mkF m 6 #[vR a1, vI (0 : Int32), vI (2 : Int32), vR b139, uN, uN] [(.int (0 : Int32)), (.ref a1)]) _
    refine XS.aloadN X139.here hx rfl (hb hby d15_6) rfl rfl ?_
    refine XS.iconst X139.here hx rfl (hb hby d15_7) ?_
    show Sx p e below T139 (mkF m 8 #[vR a1, vI (0 : Int32), vI (2 : Int32), vR b139, uN, uN] [(.int (0 : Int32)), (.ref b139), (.int (0 : Int32)), (.ref a1)]) _
    refine XS.iloadN X139.here hx rfl (hb hby d15_8) rfl ?_
    exact kq)
  obtain ⟨vv142, _, ⟨T142, L142, k142, n142⟩, -, X142, ⟨Lc142, hQ142, l142, y142, z142⟩, st142⟩ := Jvm.LawKit.callS X139 hx (y := (⟨"java/lang/StringUTF16", "compress", "([CI[BII)I"⟩ : MethodName)) hown (mvT hZ (tw72 hw)) (mvT hZ (tw73 hw)) (mvT hZ (tw70 hw)) (mvT hZ (tw74 hw)) (by decide) (backOf (W := 0) (cx2 l Z a0 hw [] a1 b139 c0 c1 kC k139 h139 n0 ZS139 g_b139 (VA.ext E139) V139 ne140 hbad) hZ (tw74 hw) (tw70 hw) (by decide) (by decide)) (g := (mkF m 9 #[vR a1, vI (0 : Int32), vI (2 : Int32), vR b139, uN, uN] [(.int (2 : Int32)), (.int (0 : Int32)), (.ref b139), (.int (0 : Int32)), (.ref a1)])) rfl (by rw [hml]; rfl) (argsL := [(.ref a1), (.int (0 : Int32)), (.ref b139), (.int (0 : Int32)), (.int (2 : Int32))]) (rest := []) (lenOf pd_3 rfl) rfl (by show 2 * 0 + _ ≤ _; exact Nat.le_of_eq rfl) (hb hby d15_9) (fun _ _ => ⟨rfl, e139, (by decide : 1 + 0 ≤ _), (by decide : 2 + 0 ≤ _)⟩)
  dsimp only [Pt.U, Pt.locs, Pt.cells, Pt.slots] at X142 l142 y142 z142 st142 hQ142
  subst l142 y142 z142
  obtain ⟨kr, hkr, rfl, Nq142, K142, hgt⟩ := hQ142
  have N142 := Fr.app N0 Nq142
  have ZS142 : n0 ≤ T142.heap.size := Nat.le_trans ZS139 K142.1
  have KP142 : Keep h0 T142.heap [] := KP139.trans K142 (allS (Or.inr sz_b139) all0)
  have O142 := O139.keep K142 (allS g_b139 all0)
  have go142 : Goes p e below s₁ (G_cq2 m a1) T142 (mkF m 12 #[vR a1, vI (0 : Int32), vI (2 : Int32), vR b139, uN, uN] [(.int (Int32.ofNat kr))]) := fun tq kq => go141 tq (st142 _ kq)
  have go143 : Goes p e below s₁ (G_cq2 m a1) T142 (mkF m 17 #[vR a1, vI (0 : Int32), vI (2 : Int32), vR b139, vI (Int32.ofNat kr), uN] [(.int (2 : Int32)), (.int (Int32.ofNat kr))]) := fun tq kq => go142 tq (by
    show Sx p e below T142 (mkF m 12 #[vR a1, vI (0 : Int32), vI (2 : Int32), vR b139, uN, uN] [(.int (Int32.ofNat kr))]) _
    refine XS.istore X142.here hx rfl (hb hby d15_12) rfl (l' := #[vR a1, vI (0 : Int32), vI (2 : Int32), vR b139, vI (Int32.ofNat kr), uN]) rfl ?_
    show Sx p e below T142 (mkF m 14 #[vR a1, vI (0 : Int32), vI (2 : Int32), vR b139, vI (Int32.ofNat kr), uN] []) _
    refine XS.iload X142.here hx rfl (hb hby d15_14) rfl ?_
    refine XS.iloadN X142.here hx rfl (hb hby d15_16) rfl ?_
    exact kq)
  have go144 : Goes p e below s₁ (G_cq2 m a1) T142 (mkF m 23 #[vR a1, vI (0 : Int32), vI (2 : Int32), vR b139, vI (Int32.ofNat kr), uN] [(.int (2 : Int32)), (.int (0 : Int32)), (.ref a1)]) := fun tq kq => go143 tq (by
    show Sx p e below T142 (mkF m 17 #[vR a1, vI (0 : Int32), vI (2 : Int32), vR b139, vI (Int32.ofNat kr), uN] [(.int (2 : Int32)), (.int (Int32.ofNat kr))]) _
    refine XS.icmpNo X142.here hx rfl (hb hby d15_17) rfl (feq (fun q => by have z := own_lt (k := kr) (n := 2) (by decide) hkr; rw [q] at z; exact absurd z (by decide))).1 ?_
    refine XS.aloadN X142.here hx rfl (hb hby d15_20) rfl rfl ?_
    show Sx p e below T142 (mkF m 21 #[vR a1, vI (0 : Int32), vI (2 : Int32), vR b139, vI (Int32.ofNat kr), uN] [(.ref a1)]) _
    refine XS.iloadN X142.here hx rfl (hb hby d15_21) rfl ?_
    refine XS.iloadN X142.here hx rfl (hb hby d15_22) rfl ?_
    exact kq)
  obtain ⟨vv145, _, ⟨T145, L145, k145, n145⟩, -, X145, ⟨Lc145, hQ145, l145, y145, z145⟩, st145⟩ := Jvm.LawKit.callS X142 hx (y := (⟨"java/lang/StringUTF16", "toBytes", "([CII)[B"⟩ : MethodName)) hown (mvT hZ (tw75 hw)) (mvT hZ (tw76 hw)) (mvT hZ (tw70 hw)) (mvT hZ (tw77 hw)) (by decide) (backOf (W := 0) (tb2 l Z a0 hw [] a1 c0 c1 kC T142.heap n0 ZS142 O142 AD HI LO ((VA.ext E139).keep K142 (ninS ne140 nin0))) hZ (tw77 hw) (tw70 hw) (by decide) (by decide)) (g := (mkF m 23 #[vR a1, vI (0 : Int32), vI (2 : Int32), vR b139, vI (Int32.ofNat kr), uN] [(.int (2 : Int32)), (.int (0 : Int32)), (.ref a1)])) rfl (by rw [hml]; rfl) (argsL := [(.ref a1), (.int (0 : Int32)), (.int (2 : Int32))]) (rest := []) (lenOf pd_4 rfl) rfl (by show 2 * 0 + _ ≤ _; exact Nat.le_of_eq rfl) (hb hby d15_23) (fun _ _ => ⟨rfl, rfl, (by decide : 1 + 1 ≤ _), (by decide : 2 + 4 ≤ _)⟩)
  dsimp only [Pt.U, Pt.locs, Pt.cells, Pt.slots] at X145 l145 y145 z145 st145 hQ145
  subst l145 y145 z145
  obtain ⟨t145, kt145, rfl, Nq145, K145, sz145, V145⟩ := hQ145
  have N145 := Fr.app N142 Nq145
  have ZS145 : n0 ≤ T145.heap.size := Nat.le_trans ZS142 K145.1
  have KP145 : Keep h0 T145.heap [] := KP142.trans K145 all0
  have O145 := O142.keep K145 all0
  have go145 : Goes p e below s₁ (G_cq2 m a1) T145 (mkF m 26 #[vR a1, vI (0 : Int32), vI (2 : Int32), vR b139, vI (Int32.ofNat kr), uN] [(.ref t145)]) := fun tq kq => go144 tq (st145 _ kq)
  have go146 : Goes p e below s₁ (G_cq2 m a1) T145 (mkF m 32 #[vR a1, vI (0 : Int32), vI (2 : Int32), vR b139, vI (Int32.ofNat kr), vR t145] [(.int (Int32.ofNat kr)), (.ref t145)]) := fun tq kq => go145 tq (by
    show Sx p e below T145 (mkF m 26 #[vR a1, vI (0 : Int32), vI (2 : Int32), vR b139, vI (Int32.ofNat kr), uN] [(.ref t145)]) _
    refine XS.astore X145.here hx rfl (hb hby d15_26) rfl rfl (l' := #[vR a1, vI (0 : Int32), vI (2 : Int32), vR b139, vI (Int32.ofNat kr), vR t145]) rfl ?_
    refine XS.aload X145.here hx rfl (hb hby d15_28) rfl rfl ?_
    show Sx p e below T145 (mkF m 30 #[vR a1, vI (0 : Int32), vI (2 : Int32), vR b139, vI (Int32.ofNat kr), vR t145] [(.ref t145)]) _
    refine XS.iload X145.here hx rfl (hb hby d15_30) rfl ?_
    exact kq)
  obtain ⟨vv147, _, ⟨T147, L147, k147, n147⟩, -, X147, ⟨Lc147, hQ147, l147, y147, z147⟩, st147⟩ := Jvm.LawKit.callS X145 hx (y := (⟨"java/lang/StringUTF16", "getChar", "([BI)C"⟩ : MethodName)) hown (mvT hZ (tw91 hw)) (mvT hZ (tw92 hw)) (mvT hZ (tw70 hw)) (mvT hZ (tw93 hw)) (by decide) (backOf (W := 0) (gC l Z a0 hw [] t145 kr 2 (([c0, c1] : List Int32).getD kr 0) kt145 (StrChars.Road.wideBytes ([c0, c1] : List Int32)) T145.heap n0 ZS145 O145 AD HI LO V145 hkr (by decide) (StrChars.Road.wide_lo _ ([c0, c1] : List Int32) kr hkr) (StrChars.Road.wide_hi _ ([c0, c1] : List Int32) kr hkr) (own_at hcs hkr)) hZ (tw93 hw) (tw70 hw) (by decide) (by decide)) (g := (mkF m 32 #[vR a1, vI (0 : Int32), vI (2 : Int32), vR b139, vI (Int32.ofNat kr), vR t145] [(.int (Int32.ofNat kr)), (.ref t145)])) rfl (by rw [hml]; rfl) (argsL := [(.ref t145), (.int (Int32.ofNat kr))]) (rest := []) (lenOf pd_5 rfl) rfl (by show 2 * 0 + _ ≤ _; exact Nat.le_of_eq rfl) (hb hby d15_32) (fun _ _ => ⟨rfl, rfl, (by decide : 2 + 0 ≤ _), (by decide : 6 + 0 ≤ _)⟩)
  dsimp only [Pt.U, Pt.locs, Pt.cells, Pt.slots] at X147 l147 y147 z147 st147 hQ147
  subst l147 y147 z147
  obtain ⟨rfl, Nq147, eq147⟩ := hQ147
  have N147 := Fr.app N145 Nq147
  have go147 : Goes p e below s₁ (G_cq2 m a1) T147 (mkF m 35 #[vR a1, vI (0 : Int32), vI (2 : Int32), vR b139, vI (Int32.ofNat kr), vR t145] [(.int (([c0, c1] : List Int32).getD kr 0))]) := fun tq kq => go146 tq (st147 _ kq)
  have go148 : Goes p e below s₁ (G_cq2 m a1) T147 (mkF m 38 #[vR a1, vI (0 : Int32), vI (2 : Int32), vR b139, vI (Int32.ofNat kr), vR t145] [(.int (255 : Int32)), (.int (([c0, c1] : List Int32).getD kr 0))]) := fun tq kq => go147 tq (by
    show Sx p e below T147 (mkF m 35 #[vR a1, vI (0 : Int32), vI (2 : Int32), vR b139, vI (Int32.ofNat kr), vR t145] [(.int (([c0, c1] : List Int32).getD kr 0))]) _
    refine XS.sipush X147.here hx rfl (hb hby d15_35) ?_
    exact kq)
  have go149 : Goes p e below s₁ (G_cq2 m a1) T147 (mkF m 56 #[vR a1, vI (0 : Int32), vI (2 : Int32), vR b139, vI (Int32.ofNat kr), vR t145] [(.ref t145)]) := fun tq kq => go148 tq (by
    show Sx p e below T147 (mkF m 38 #[vR a1, vI (0 : Int32), vI (2 : Int32), vR b139, vI (Int32.ofNat kr), vR t145] [(.int (255 : Int32)), (.int (([c0, c1] : List Int32).getD kr 0))]) _
    refine XS.icmpYes X147.here hx rfl (pc0 := 38) (pc' := 54) rfl (hb hby d15_38) rfl (tlt hgt).2.2.1 (by decide) (by decide) ?_
    refine XS.aload X147.here hx rfl (hb hby d15_54) rfl rfl ?_
    exact kq)
  obtain ⟨fs, hr, hrun, hended, hW, hsame⟩ := X147.leave (v := some (.ref t145)) (fun h => by rw [Bd.returns] at h; cases h)
  refine ⟨_, _, go149 _ ?_, hrun, hended, _, _, rfl, ?_, ⟨_, rfl⟩, hW, hsame.mono (by decide) (by decide)⟩
  · jvm_step X147.here [X147.here.top, hx, (hb hby d15_56), X147.method', Bd.returns, Value.isRef, FieldType.isReference]
    first | (intro acts; rw [hr _ acts rfl rfl rfl]) | rw [hr _ _ rfl rfl rfl]
    exact Steps.refl _
  · show Q_cq2 Z a1 c0 c1 kC h0 n0 _ T147.heap _
    rw [eq147]
    exact ⟨t145, kt145, rfl, N147, KP145, V145⟩
abbrev G_cf2 (m : MethodId) (a1 : Addr) : JFrame := (entryFrame m #[(.ref a1), (.int (2 : Int32))] 2)
def Q_cf2 (Z : State) (a1 : Addr) (kB : ClassId) (vs : List Value) (h0 : Heap) (n0 : Nat) (v : Option Value) (h : Heap) (L : List Loc) : Prop := v = some (.int (1 : Int32)) ∧ Fr n0 L ∧ h = h0
set_option maxRecDepth 65536 in
set_option maxHeartbeats 40000000 in
theorem cf2 (l : Launch) (Z : State) (a0 : Array Value) (hw : ∀ d ∈ tables_1, d.before a0 Z = true) (ws : List Jvm.Cond) (a1 : Addr) (kB : ClassId) (vs : List Value) (h0 : Heap) (n0 : Nat) (Z0 : n0 ≤ h0.size) (VA : Arv Z h0 a1 kB .byte (4 : Int32) vs (.int (0 : Int32))) :
    MetFree l (⟨"java/lang/StringUTF16", "coderFromArrayLen", "([BI)B"⟩ : MethodName) (head1 (Jvm.Cond.code (⟨"java/lang/StringUTF16", "coderFromArrayLen", "([BI)B"⟩ : MethodName) jdk_52_method_15_code 2 (some .byte) :: ws) ({ frames := 0, cells := 0, slots := 0, locals := 0 } : Room)) (fun a U => a = #[(.ref a1), (.int (2 : Int32))] ∧ Z.Warmed39 U.vm ∧ U.heap = h0) (fun _ _ _ _ _ => True) (fun _ U o U' => ∃ v L, o = .returned v ∧ Q_cf2 Z a1 kB vs h0 n0 v U'.heap L ∧ FrameEnd U o U' L ({ frames := 0, cells := 0, slots := 0, locals := 0 } : Room).cells ({ frames := 0, cells := 0, slots := 0, locals := 0 } : Room).slots) := by
  refine MetFree.of_bodySF (plainFor_of_name pn_java_lang_StringUTF16) hisR ?_
  intro p e s m args below meth c s₁ Bd hml0 hP hK
  obtain ⟨rfl, hZ, hh⟩ := hP
  have hx := Bd.exec
  have hby := Bd.bytes
  have hml : c.maxLocals = 2 := hml0
  have hown : s.vm.findClass "java/lang/StringUTF16" = some m.cls := findClass_of_methodNamed Bd.named
  have hnm := (name_of_methodNamed Bd.named Bd.method).1
  have X0 : Stand p l e ({ frames := 0, cells := 0, slots := 0, locals := 0 } : Room) s m #[(.ref a1), (.int (2 : Int32))] below meth c s₁ [] 0 0 := Stand.of_body Bd
  have e0 : s₁.heap = h0 := by rw [← hh, Bd.state]; rfl
  have N0 := Fr.nil n0
  have go0 : Goes p e below s₁ (G_cf2 m a1) s₁ (mkF m 0 #[vR a1, vI (2 : Int32)] []) := fun tq kq => castTop (by first | (simp [entryFrame, mkF, argsToLocals, Value.category, vI, vJ, vR, vD, vN, uN, sD, G_cf2]; done) | rfl) kq
  have go150 : Goes p e below s₁ (G_cf2 m a1) s₁ (mkF m 2 #[vR a1, vI (2 : Int32)] [(.ref a1), (.int (2 : Int32))]) := fun tq kq => go0 tq (by
    show Sx p e below s₁ (mkF m 0 #[vR a1, vI (2 : Int32)] []) _
    refine XS.iloadN X0.here hx rfl (hb hby d22_0) rfl ?_
    refine XS.aloadN X0.here hx rfl (hb hby d22_1) rfl rfl ?_
    exact kq)
  obtain ⟨cl151, Ar151, q151, S151, N_151, H151, G151⟩ := id (VA)
  have go152 : Goes p e below s₁ (G_cf2 m a1) s₁ (mkF m 8 #[vR a1, vI (2 : Int32)] [(.int ((((((2 : Int32) - (4 : Int32)).toUInt32 >>> ((31 : Int32) &&& 31).toUInt32).toInt32)).toInt8.toInt32))]) := fun tq kq => go150 tq (by
    show Sx p e below s₁ (mkF m 2 #[vR a1, vI (2 : Int32)] [(.ref a1), (.int (2 : Int32))]) _
    refine X0.arraylength hx (by rw [e0]; exact Ar151.1) (State.isArrayOf_alike hZ.alike Ar151.2.1) (g := (mkF m 2 #[vR a1, vI (2 : Int32)] [(.ref a1), (.int (2 : Int32))])) rfl rfl (hb hby d22_2) _ ?_
    rw [len_of S151 N_151]
    refine XS.isub X0.here hx rfl (hb hby d22_3) rfl ?_
    show Sx p e below s₁ (mkF m 4 #[vR a1, vI (2 : Int32)] [(.int ((2 : Int32) - (4 : Int32)))]) _
    refine XS.bipush X0.here hx rfl (hb hby d22_4) ?_
    refine XS.iushr X0.here hx rfl (hb hby d22_6) rfl ?_
    show Sx p e below s₁ (mkF m 7 #[vR a1, vI (2 : Int32)] [(.int ((((2 : Int32) - (4 : Int32)).toUInt32 >>> ((31 : Int32) &&& 31).toUInt32).toInt32))]) _
    refine XS.i2b X0.here hx rfl (hb hby d22_7) rfl ?_
    exact kq)
  obtain ⟨fs, hr, hrun, hended, hW, hsame⟩ := X0.leave (v := some (.int (nar .byte ((((((2 : Int32) - (4 : Int32)).toUInt32 >>> ((31 : Int32) &&& 31).toUInt32).toInt32)).toInt8.toInt32)))) (fun h => by rw [Bd.returns] at h; cases h)
  refine ⟨_, _, go152 _ ?_, hrun, hended, _, _, rfl, ?_, ⟨_, rfl⟩, hW, hsame.mono (by decide) (by decide)⟩
  · exact retN X0 hx (t := .byte) Bd.returns (by simp) (hb hby d22_8) hr
  · show Q_cf2 Z a1 kB vs h0 n0 _ s₁.heap _
    rw [e0]
    exact ⟨congrArg (fun z => some (Value.int z)) (by decide +kernel), N0, rfl⟩
abbrev G_cw2 (m : MethodId) (a1 : Addr) (a2 : Addr) : JFrame := (entryFrame m #[(.ref a1), (.ref a2), (.int (0 : Int32)), (.int (2 : Int32)), .null] 6)
def Q_cw2 (Z : State) (a1 : Addr) (a2 : Addr) (c0 c1 : Int32) (kC : ClassId) (cz : Int32) (h0 : Heap) (n0 : Nat) (v : Option Value) (h : Heap) (L : List Loc) : Prop := v = none ∧ Fr n0 L ∧ Keep h0 h [a1] ∧ Exa Z h a1 "java/lang/String" ∧ Fld Z h a1 "java/lang/String" "coder" "B" (.int (1 : Int32)) ∧ ∃ (t : Addr) (k : ClassId), Fld Z h a1 "java/lang/String" "value" "[B" (.ref t) ∧ Arv Z h t k .byte (4 : Int32) [(.int (StrChars.lo8 c0)), (.int (StrChars.hi8 c0)), (.int (StrChars.lo8 c1)), (.int (StrChars.hi8 c1))] (.int (0 : Int32))
set_option maxRecDepth 65536 in
set_option maxHeartbeats 40000000 in
theorem cw2 (l : Launch) (Z : State) (a0 : Array Value) (hw : ∀ d ∈ tables_1, d.before a0 Z = true) (ws : List Jvm.Cond) (a1 : Addr) (a2 : Addr) (c0 c1 : Int32) (kC : ClassId) (cz : Int32) (h0 : Heap) (n0 : Nat) (Z0 : n0 ≤ h0.size) (O0 : Old Z n0 h0) (g_a1 : n0 ≤ a1) (Ex : Exa Z h0 a1 "java/lang/String") (Fv : Fld Z h0 a1 "java/lang/String" "value" "[B" .null) (Fc : Fld Z h0 a1 "java/lang/String" "coder" "B" (.int (0 : Int32))) (AD : Sta Z Z.heap "java/lang/StringUTF16" "$assertionsDisabled" "Z" (.int (1 : Int32))) (HI : Sta Z Z.heap "java/lang/StringUTF16" "HI_BYTE_SHIFT" "I" (.int (0 : Int32))) (LO : Sta Z Z.heap "java/lang/StringUTF16" "LO_BYTE_SHIFT" "I" (.int (8 : Int32))) (SC : Sta Z Z.heap "java/lang/String" "COMPACT_STRINGS" "Z" (.int cz)) (hz : ¬ (cz = (0 : Int32))) (VA : Arv Z h0 a2 kC .char (2 : Int32) [(.int c0), (.int c1)] (.int (0 : Int32))) (hbad : ∃ c ∈ ([c0, c1] : List Int32), (255 : Int32) < c) (hcs : ∀ c ∈ ([c0, c1] : List Int32), C16 c) :
    MetFree l (⟨"java/lang/String", "<init>", "([CIILjava/lang/Void;)V"⟩ : MethodName) (head1 (Jvm.Cond.code (⟨"java/lang/String", "<init>", "([CIILjava/lang/Void;)V"⟩ : MethodName) jdk_42_method_149_code 6 none :: ws) ({ frames := 4, cells := 2, slots := 6, locals := 57 } : Room)) (fun a U => a = #[(.ref a1), (.ref a2), (.int (0 : Int32)), (.int (2 : Int32)), .null] ∧ Z.Warmed39 U.vm ∧ U.heap = h0) (fun _ _ _ _ _ => True) (fun _ U o U' => ∃ v L, o = .returned v ∧ Q_cw2 Z a1 a2 c0 c1 kC cz h0 n0 v U'.heap L ∧ FrameEnd U o U' L ({ frames := 4, cells := 2, slots := 6, locals := 57 } : Room).cells ({ frames := 4, cells := 2, slots := 6, locals := 57 } : Room).slots) := by
  refine MetFree.of_bodySF (plainFor_of_name pn_java_lang_String) hisR ?_
  intro p e s m args below meth c s₁ Bd hml0 hP hK
  obtain ⟨rfl, hZ, hh⟩ := hP
  have hx := Bd.exec
  have hby := Bd.bytes
  have hml : c.maxLocals = 6 := hml0
  have hown : s.vm.findClass "java/lang/String" = some m.cls := findClass_of_methodNamed Bd.named
  have hnm := (name_of_methodNamed Bd.named Bd.method).1
  have X0 : Stand p l e ({ frames := 4, cells := 2, slots := 6, locals := 57 } : Room) s m #[(.ref a1), (.ref a2), (.int (0 : Int32)), (.int (2 : Int32)), .null] below meth c s₁ [] 0 0 := Stand.of_body Bd
  have e0 : s₁.heap = h0 := by rw [← hh, Bd.state]; rfl
  have N0 := Fr.nil n0
  have KP0 : Keep h0 h0 [a1] := Keep.refl h0 [a1]
  have go0 : Goes p e below s₁ (G_cw2 m a1 a2) s₁ (mkF m 0 #[vR a1, vR a2, vI (0 : Int32), vI (2 : Int32), vN, uN] []) := fun tq kq => castTop (by first | (simp [entryFrame, mkF, argsToLocals, Value.category, vI, vJ, vR, vD, vN, uN, sD, G_cw2]; done) | rfl) kq
  have go153 : Goes p e below s₁ (G_cw2 m a1 a2) s₁ (mkF m 1 #[vR a1, vR a2, vI (0 : Int32), vI (2 : Int32), vN, uN] [(.ref a1)]) := fun tq kq => go0 tq (by
    show Sx p e below s₁ (mkF m 0 #[vR a1, vR a2, vI (0 : Int32), vI (2 : Int32), vN, uN] []) _
    refine XS.aloadN X0.here hx rfl (hb hby d4_0) rfl rfl ?_
    exact kq)
  obtain ⟨T154, X154, e154, st154⟩ := initO X0 hx hZ hown (tw21 hw) (tw22 hw) (tw23 hw) e0 (g := (mkF m 1 #[vR a1, vR a2, vI (0 : Int32), vI (2 : Int32), vN, uN] [(.ref a1)])) rfl (by rw [hml]; rfl) rfl (hb hby d4_1) (by decide) (W := 0) (by show 2 * 0 + _ ≤ _; exact Nat.le_of_eq rfl) (by decide)
  have go154 : Goes p e below s₁ (G_cw2 m a1 a2) T154 (mkF m 4 #[vR a1, vR a2, vI (0 : Int32), vI (2 : Int32), vN, uN] []) := fun tq kq => go153 tq (st154 _ kq)
  have go155 : Goes p e below s₁ (G_cw2 m a1 a2) T154 (mkF m 5 #[vR a1, vR a2, vI (0 : Int32), vI (2 : Int32), vN, uN] [(.int (2 : Int32))]) := fun tq kq => go154 tq (by
    show Sx p e below T154 (mkF m 4 #[vR a1, vR a2, vI (0 : Int32), vI (2 : Int32), vN, uN] []) _
    refine XS.iloadN X154.here hx rfl (hb hby d4_4) rfl ?_
    exact kq)
  have go156 : Goes p e below s₁ (G_cw2 m a1 a2) T154 (mkF m 27 #[vR a1, vR a2, vI (0 : Int32), vI (2 : Int32), vN, uN] []) := fun tq kq => go155 tq (by
    show Sx p e below T154 (mkF m 5 #[vR a1, vR a2, vI (0 : Int32), vI (2 : Int32), vN, uN] [(.int (2 : Int32))]) _
    refine XS.ifYes X154.here hx rfl (pc0 := 5) (pc' := 27) rfl (hb hby d4_5) rfl ((if0 _ _).trans (feq (by decide)).2) (by decide) (by decide) ?_
    exact kq)
  obtain ⟨T157, X157, e157, st157⟩ := getS2 X154 hx hZ hown (host := "") (Or.inl (tw46 hw)) Via.refl e154 (SC.ext O0.2) (g := (mkF m 27 #[vR a1, vR a2, vI (0 : Int32), vI (2 : Int32), vN, uN] [])) rfl (hb hby d4_27)
  have go157 : Goes p e below s₁ (G_cw2 m a1 a2) T157 (mkF m 30 #[vR a1, vR a2, vI (0 : Int32), vI (2 : Int32), vN, uN] [(.int cz)]) := fun tq kq => go156 tq (st157 _ kq)
  have go158 : Goes p e below s₁ (G_cw2 m a1 a2) T157 (mkF m 36 #[vR a1, vR a2, vI (0 : Int32), vI (2 : Int32), vN, uN] [(.int (2 : Int32)), (.int (0 : Int32)), (.ref a2)]) := fun tq kq => go157 tq (by
    show Sx p e below T157 (mkF m 30 #[vR a1, vR a2, vI (0 : Int32), vI (2 : Int32), vN, uN] [(.int cz)]) _
    refine XS.ifNo X157.here hx rfl (hb hby d4_30) rfl ((if0 _ _).trans (feq hz).1) ?_
    show Sx p e below T157 (mkF m 33 #[vR a1, vR a2, vI (0 : Int32), vI (2 : Int32), vN, uN] []) _
    refine XS.aloadN X157.here hx rfl (hb hby d4_33) rfl rfl ?_
    refine XS.iloadN X157.here hx rfl (hb hby d4_34) rfl ?_
    show Sx p e below T157 (mkF m 35 #[vR a1, vR a2, vI (0 : Int32), vI (2 : Int32), vN, uN] [(.int (0 : Int32)), (.ref a2)]) _
    refine XS.iloadN X157.here hx rfl (hb hby d4_35) rfl ?_
    exact kq)
  obtain ⟨vv159, _, ⟨T159, L159, k159, n159⟩, -, X159, ⟨Lc159, hQ159, l159, y159, z159⟩, st159⟩ := Jvm.LawKit.callS X157 hx (y := (⟨"java/lang/StringUTF16", "compress", "([CII)[B"⟩ : MethodName)) hown (mvT hZ (tw68 hw)) (mvT hZ (tw69 hw)) (mvT hZ (tw70 hw)) (mvT hZ (tw71 hw)) (by decide) (backOf (W := 0) (cq2 l Z a0 hw [] a2 c0 c1 kC h0 n0 Z0 O0 AD HI LO VA hbad hcs) hZ (tw71 hw) (tw70 hw) (by decide) (by decide)) (g := (mkF m 36 #[vR a1, vR a2, vI (0 : Int32), vI (2 : Int32), vN, uN] [(.int (2 : Int32)), (.int (0 : Int32)), (.ref a2)])) rfl (by rw [hml]; rfl) (argsL := [(.ref a2), (.int (0 : Int32)), (.int (2 : Int32))]) (rest := []) (lenOf pd_4 rfl) rfl (by show 2 * 0 + _ ≤ _; exact Nat.le_of_eq rfl) (hb hby d4_36) (fun _ _ => ⟨rfl, e157, (by decide : 0 + 2 ≤ _), (by decide : 0 + 6 ≤ _)⟩)
  dsimp only [Pt.U, Pt.locs, Pt.cells, Pt.slots] at X159 l159 y159 z159 st159 hQ159
  subst l159 y159 z159
  obtain ⟨t159, kt159, rfl, Nq159, K159, V159⟩ := hQ159
  have N159 := Fr.app N0 Nq159
  have ZS159 : n0 ≤ T159.heap.size := Nat.le_trans Z0 K159.1
  have KP159 : Keep h0 T159.heap [a1] := KP0.trans K159 all0
  have O159 := O0.keep K159 all0
  have go159 : Goes p e below s₁ (G_cw2 m a1 a2) T159 (mkF m 39 #[vR a1, vR a2, vI (0 : Int32), vI (2 : Int32), vN, uN] [(.ref t159)]) := fun tq kq => go158 tq (st159 _ kq)
  have nat : a1 ≠ t159 := Exa.neArv (Ex.keep K159) V159 (tw11 hw)
  have go160 : Goes p e below s₁ (G_cw2 m a1 a2) T159 (mkF m 45 #[vR a1, vR a2, vI (0 : Int32), vI (2 : Int32), vN, vR t159] [(.int (2 : Int32)), (.ref t159), (.ref a1)]) := fun tq kq => go159 tq (by
    show Sx p e below T159 (mkF m 39 #[vR a1, vR a2, vI (0 : Int32), vI (2 : Int32), vN, uN] [(.ref t159)]) _
    refine XS.astore X159.here hx rfl (hb hby d4_39) rfl rfl (l' := #[vR a1, vR a2, vI (0 : Int32), vI (2 : Int32), vN, vR t159]) rfl ?_
    show Sx p e below T159 (mkF m 41 #[vR a1, vR a2, vI (0 : Int32), vI (2 : Int32), vN, vR t159] []) _
    refine XS.aloadN X159.here hx rfl (hb hby d4_41) rfl rfl ?_
    refine XS.aload X159.here hx rfl (hb hby d4_42) rfl rfl ?_
    show Sx p e below T159 (mkF m 44 #[vR a1, vR a2, vI (0 : Int32), vI (2 : Int32), vN, vR t159] [(.ref t159), (.ref a1)]) _
    refine XS.iloadN X159.here hx rfl (hb hby d4_44) rfl ?_
    exact kq)
  obtain ⟨vv161, _, ⟨T161, L161, k161, n161⟩, -, X161, ⟨Lc161, hQ161, l161, y161, z161⟩, st161⟩ := Jvm.LawKit.callS X159 hx (y := (⟨"java/lang/StringUTF16", "coderFromArrayLen", "([BI)B"⟩ : MethodName)) hown (mvT hZ (tw94 hw)) (mvT hZ (tw95 hw)) (mvT hZ (tw70 hw)) (mvT hZ (tw96 hw)) (by decide) (backOf (W := 1) (cf2 l Z a0 hw [] t159 kt159 [(.int (StrChars.lo8 c0)), (.int (StrChars.hi8 c0)), (.int (StrChars.lo8 c1)), (.int (StrChars.hi8 c1))] T159.heap n0 ZS159 V159) hZ (tw96 hw) (tw70 hw) (by decide) (by decide)) (g := (mkF m 45 #[vR a1, vR a2, vI (0 : Int32), vI (2 : Int32), vN, vR t159] [(.int (2 : Int32)), (.ref t159), (.ref a1)])) rfl (by rw [hml]; rfl) (argsL := [(.ref t159), (.int (2 : Int32))]) (rest := [(.ref a1)]) (lenOf pd_6 rfl) rfl (by show 2 * 0 + _ ≤ _; exact Nat.le_of_eq rfl) (hb hby d4_45) (fun _ _ => ⟨rfl, rfl, (by decide : 2 + 0 ≤ _), (by decide : 6 + 0 ≤ _)⟩)
  dsimp only [Pt.U, Pt.locs, Pt.cells, Pt.slots] at X161 l161 y161 z161 st161 hQ161
  subst l161 y161 z161
  obtain ⟨rfl, Nq161, eq161⟩ := hQ161
  have N161 := Fr.app N159 Nq161
  have go161 : Goes p e below s₁ (G_cw2 m a1 a2) T161 (mkF m 48 #[vR a1, vR a2, vI (0 : Int32), vI (2 : Int32), vN, vR t159] [(.int (1 : Int32)), (.ref a1)]) := fun tq kq => go160 tq (st161 _ kq)
  obtain ⟨T162, h162, X162, e162, W162, st162⟩ := putFN X161 hx hZ hown (tw31 hw) Via.refl eq161 (Fc.keep K159 nin0) (Ex.keep K159) (Or.inr ⟨(tw27 hw), rfl, hnm⟩) (tw11 hw) (ty := .byte) (v' := (.int (1 : Int32))) (by decide) rfl (by decide) (g := (mkF m 48 #[vR a1, vR a2, vI (0 : Int32), vI (2 : Int32), vN, vR t159] [(.int (1 : Int32)), (.ref a1)])) rfl rfl (hb hby d4_48)
  have N162 := Fr.snoc X162 N161 g_a1
  have KP162 : Keep h0 h162 [a1] := KP159.wr W162 (Or.inl (List.mem_of_getElem? (i := 0) rfl))
  have O162 := O159.wr W162 g_a1
  have ZS162 : n0 ≤ h162.size := Nat.le_trans ZS159 (Keep.of_wr W162).1
  have F162 := Fld.same W162 (Fc.keep K159 nin0)
  have go162 : Goes p e below s₁ (G_cw2 m a1 a2) T162 (mkF m 51 #[vR a1, vR a2, vI (0 : Int32), vI (2 : Int32), vN, vR t159] []) := fun tq kq => go161 tq (st162 _ kq)
  have f163 := (Fld.other W162 (Fv.keep K159 nin0) (Or.inr (slot_ne (Or.inr (tw26 hw)) (Or.inr (tw27 hw)) (by decide) (t := (.array .byte)) (t' := .byte) (by decide) (by decide))))
  have go164 : Goes p e below s₁ (G_cw2 m a1 a2) T162 (mkF m 54 #[vR a1, vR a2, vI (0 : Int32), vI (2 : Int32), vN, vR t159] [(.ref t159), (.ref a1)]) := fun tq kq => go162 tq (by
    show Sx p e below T162 (mkF m 51 #[vR a1, vR a2, vI (0 : Int32), vI (2 : Int32), vN, vR t159] []) _
    refine XS.aloadN X162.here hx rfl (hb hby d4_51) rfl rfl ?_
    show Sx p e below T162 (mkF m 52 #[vR a1, vR a2, vI (0 : Int32), vI (2 : Int32), vN, vR t159] [(.ref a1)]) _
    refine XS.aload X162.here hx rfl (hb hby d4_52) rfl rfl ?_
    exact kq)
  obtain ⟨T165, h165, X165, e165, W165, st165⟩ := putF X162 hx hZ hown (host := "") (Or.inl (tw30 hw)) Via.refl e162 f163 (Exa.wr W162 (Ex.keep K159)) (Or.inr ⟨(tw26 hw), rfl, hnm⟩) (tw11 hw) (ty := (.array .byte)) (by decide) rfl rfl (g := (mkF m 54 #[vR a1, vR a2, vI (0 : Int32), vI (2 : Int32), vN, vR t159] [(.ref t159), (.ref a1)])) rfl rfl (hb hby d4_54)
  have N165 := Fr.snoc X165 N162 g_a1
  have KP165 : Keep h0 h165 [a1] := KP162.wr W165 (Or.inl (List.mem_of_getElem? (i := 0) rfl))
  have O165 := O162.wr W165 g_a1
  have ZS165 : n0 ≤ h165.size := Nat.le_trans ZS162 (Keep.of_wr W165).1
  have F165 := Fld.same W165 f163
  have go165 : Goes p e below s₁ (G_cw2 m a1 a2) T165 (mkF m 57 #[vR a1, vR a2, vI (0 : Int32), vI (2 : Int32), vN, vR t159] []) := fun tq kq => go164 tq (st165 _ kq)
  have f166 := (Fld.other W165 F162 (Or.inr (slot_ne (Or.inr (tw27 hw)) (Or.inr (tw26 hw)) (by decide) (t := .byte) (t' := (.array .byte)) (by decide) (by decide))))
  obtain ⟨fs, hr, hrun, hended, hW, hsame⟩ := X165.leave (v := none) (fun _ => rfl)
  refine ⟨_, _, go165 _ ?_, hrun, hended, _, _, rfl, ?_, ⟨_, rfl⟩, hW, hsame.mono (by decide) (by decide)⟩
  · exact X165.returnOut hx Bd.returns (hb hby d4_57) hr
  · show Q_cw2 Z a1 a2 c0 c1 kC cz h0 n0 _ T165.heap _
    rw [e165]
    exact ⟨rfl, N165, KP165, (Exa.wr W165 (Exa.wr W162 (Ex.keep K159))), f166, t159, kt159, F165, ((V159.other W162 (Ne.symm nat)).other W165 (Ne.symm nat))⟩
abbrev G_c1w2 (m : MethodId) (a1 : Addr) (a2 : Addr) : JFrame := (entryFrame m #[(.ref a1), (.ref a2)] 2)
def Q_c1w2 (Z : State) (a1 : Addr) (a2 : Addr) (c0 c1 : Int32) (kC : ClassId) (cz : Int32) (h0 : Heap) (n0 : Nat) (v : Option Value) (h : Heap) (L : List Loc) : Prop := v = none ∧ Fr n0 L ∧ Keep h0 h [a1] ∧ Exa Z h a1 "java/lang/String" ∧ Fld Z h a1 "java/lang/String" "coder" "B" (.int (1 : Int32)) ∧ ∃ (t : Addr) (k : ClassId), Fld Z h a1 "java/lang/String" "value" "[B" (.ref t) ∧ Arv Z h t k .byte (4 : Int32) [(.int (StrChars.lo8 c0)), (.int (StrChars.hi8 c0)), (.int (StrChars.lo8 c1)), (.int (StrChars.hi8 c1))] (.int (0 : Int32))
set_option maxRecDepth 65536 in
set_option maxHeartbeats 40000000 in
theorem c1w2 (l : Launch) (Z : State) (a0 : Array Value) (hw : ∀ d ∈ tables_1, d.before a0 Z = true) (ws : List Jvm.Cond) (a1 : Addr) (a2 : Addr) (c0 c1 : Int32) (kC : ClassId) (cz : Int32) (h0 : Heap) (n0 : Nat) (Z0 : n0 ≤ h0.size) (O0 : Old Z n0 h0) (g_a1 : n0 ≤ a1) (Ex : Exa Z h0 a1 "java/lang/String") (Fv : Fld Z h0 a1 "java/lang/String" "value" "[B" .null) (Fc : Fld Z h0 a1 "java/lang/String" "coder" "B" (.int (0 : Int32))) (AD : Sta Z Z.heap "java/lang/StringUTF16" "$assertionsDisabled" "Z" (.int (1 : Int32))) (HI : Sta Z Z.heap "java/lang/StringUTF16" "HI_BYTE_SHIFT" "I" (.int (0 : Int32))) (LO : Sta Z Z.heap "java/lang/StringUTF16" "LO_BYTE_SHIFT" "I" (.int (8 : Int32))) (SC : Sta Z Z.heap "java/lang/String" "COMPACT_STRINGS" "Z" (.int cz)) (hz : ¬ (cz = (0 : Int32))) (VA : Arv Z h0 a2 kC .char (2 : Int32) [(.int c0), (.int c1)] (.int (0 : Int32))) (hbad : ∃ c ∈ ([c0, c1] : List Int32), (255 : Int32) < c) (hcs : ∀ c ∈ ([c0, c1] : List Int32), C16 c) :
    MetFree l (⟨"java/lang/String", "<init>", "([C)V"⟩ : MethodName) (head1 (Jvm.Cond.code (⟨"java/lang/String", "<init>", "([C)V"⟩ : MethodName) jdk_42_method_3_code 2 none :: ws) ({ frames := 5, cells := 2, slots := 6, locals := 74 } : Room)) (fun a U => a = #[(.ref a1), (.ref a2)] ∧ Z.Warmed39 U.vm ∧ U.heap = h0) (fun _ _ _ _ _ => True) (fun _ U o U' => ∃ v L, o = .returned v ∧ Q_c1w2 Z a1 a2 c0 c1 kC cz h0 n0 v U'.heap L ∧ FrameEnd U o U' L ({ frames := 5, cells := 2, slots := 6, locals := 74 } : Room).cells ({ frames := 5, cells := 2, slots := 6, locals := 74 } : Room).slots) := by
  refine MetFree.of_bodySF (plainFor_of_name pn_java_lang_String) hisR ?_
  intro p e s m args below meth c s₁ Bd hml0 hP hK
  obtain ⟨rfl, hZ, hh⟩ := hP
  have hx := Bd.exec
  have hby := Bd.bytes
  have hml : c.maxLocals = 2 := hml0
  have hown : s.vm.findClass "java/lang/String" = some m.cls := findClass_of_methodNamed Bd.named
  have hnm := (name_of_methodNamed Bd.named Bd.method).1
  have X0 : Stand p l e ({ frames := 5, cells := 2, slots := 6, locals := 74 } : Room) s m #[(.ref a1), (.ref a2)] below meth c s₁ [] 0 0 := Stand.of_body Bd
  have e0 : s₁.heap = h0 := by rw [← hh, Bd.state]; rfl
  have N0 := Fr.nil n0
  have KP0 : Keep h0 h0 [a1] := Keep.refl h0 [a1]
  have go0 : Goes p e below s₁ (G_c1w2 m a1 a2) s₁ (mkF m 0 #[vR a1, vR a2] []) := fun tq kq => castTop (by first | (simp [entryFrame, mkF, argsToLocals, Value.category, vI, vJ, vR, vD, vN, uN, sD, G_c1w2]; done) | rfl) kq
  have go167 : Goes p e below s₁ (G_c1w2 m a1 a2) s₁ (mkF m 4 #[vR a1, vR a2] [(.ref a2), (.int (0 : Int32)), (.ref a2), (.ref a1)]) := fun tq kq => go0 tq (by
    show Sx p e below s₁ (mkF m 0 #[vR a1, vR a2] []) _
    refine XS.aloadN X0.here hx rfl (hb hby d3_0) rfl rfl ?_
    refine XS.aloadN X0.here hx rfl (hb hby d3_1) rfl rfl ?_
    show Sx p e below s₁ (mkF m 2 #[vR a1, vR a2] [(.ref a2), (.ref a1)]) _
    refine XS.iconst X0.here hx rfl (hb hby d3_2) ?_
    refine XS.aloadN X0.here hx rfl (hb hby d3_3) rfl rfl ?_
    exact kq)
  obtain ⟨cl168, Ar168, q168, S168, N_168, H168, G168⟩ := id (VA)
  have go169 : Goes p e below s₁ (G_c1w2 m a1 a2) s₁ (mkF m 6 #[vR a1, vR a2] [.null, (.int (2 : Int32)), (.int (0 : Int32)), (.ref a2), (.ref a1)]) := fun tq kq => go167 tq (by
    show Sx p e below s₁ (mkF m 4 #[vR a1, vR a2] [(.ref a2), (.int (0 : Int32)), (.ref a2), (.ref a1)]) _
    refine X0.arraylength hx (by rw [e0]; exact Ar168.1) (State.isArrayOf_alike hZ.alike Ar168.2.1) (g := (mkF m 4 #[vR a1, vR a2] [(.ref a2), (.int (0 : Int32)), (.ref a2), (.ref a1)])) rfl rfl (hb hby d3_4) _ ?_
    rw [len_of S168 N_168]
    refine XS.aconstNull X0.here hx rfl (hb hby d3_5) ?_
    exact kq)
  obtain ⟨vv170, _, ⟨T170, L170, k170, n170⟩, -, X170, ⟨Lc170, hQ170, l170, y170, z170⟩, st170⟩ := X0.specialBack hx (y := (⟨"java/lang/String", "<init>", "([CIILjava/lang/Void;)V"⟩ : MethodName)) rfl hown (mvT hZ (tw17 hw)) (mvT hZ (tw18 hw)) (mvT hZ (tw20 hw)) (by decide) (backOf (W := 0) (cw2 l Z a0 hw [] a1 a2 c0 c1 kC cz h0 n0 Z0 O0 g_a1 Ex Fv Fc AD HI LO SC hz VA hbad hcs) hZ (tw20 hw) (tw12 hw) (by decide) (by decide)) (g := (mkF m 6 #[vR a1, vR a2] [.null, (.int (2 : Int32)), (.int (0 : Int32)), (.ref a2), (.ref a1)])) rfl (by rw [hml]; rfl) (Steps.refl _) (a := a1) (argsL := [(.ref a2), (.int (0 : Int32)), (.int (2 : Int32)), .null]) (rest := []) (lenOf pd_7 rfl) rfl (by show 2 * 0 + _ ≤ _; exact Nat.le_of_eq rfl) (hb hby d3_6) (fun _ _ => ⟨rfl, e0, (by decide : 0 + 2 ≤ _), (by decide : 0 + 6 ≤ _)⟩)
  dsimp only [Pt.U, Pt.locs, Pt.cells, Pt.slots] at X170 l170 y170 z170 st170 hQ170
  subst l170 y170 z170
  obtain ⟨rfl, Nq170, K170, rest170⟩ := hQ170
  have N170 := Fr.app N0 Nq170
  have ZS170 : n0 ≤ T170.heap.size := Nat.le_trans Z0 K170.1
  have KP170 : Keep h0 T170.heap [a1] := KP0.trans K170 (allS (Or.inl (List.mem_of_getElem? (i := 0) rfl)) all0)
  have O170 := O0.keep K170 (allS g_a1 all0)
  have go170 : Goes p e below s₁ (G_c1w2 m a1 a2) T170 (mkF m 9 #[vR a1, vR a2] []) := fun tq kq => go169 tq (st170.trans kq)
  obtain ⟨fs, hr, hrun, hended, hW, hsame⟩ := X170.leave (v := none) (fun _ => rfl)
  refine ⟨_, _, go170 _ ?_, hrun, hended, _, _, rfl, ?_, ⟨_, rfl⟩, hW, hsame.mono (by decide) (by decide)⟩
  · exact X170.returnOut hx Bd.returns (hb hby d3_9) hr
  · show Q_c1w2 Z a1 a2 c0 c1 kC cz h0 n0 _ T170.heap _
    exact ⟨rfl, N170, KP170, rest170⟩
abbrev G_nbl3 (m : MethodId)  : JFrame := (entryFrame m #[(.int (3 : Int32))] 1)
def Q_nbl3 (Z : State)   (h0 : Heap) (n0 : Nat) (v : Option Value) (h : Heap) (L : List Loc) : Prop := v = some (.int (6 : Int32)) ∧ Fr n0 L ∧ h = h0
set_option maxRecDepth 65536 in
set_option maxHeartbeats 40000000 in
theorem nbl3 (l : Launch) (Z : State) (a0 : Array Value) (hw : ∀ d ∈ tables_1, d.before a0 Z = true) (ws : List Jvm.Cond)   (h0 : Heap) (n0 : Nat) (Z0 : n0 ≤ h0.size)  :
    MetFree l (⟨"java/lang/StringUTF16", "newBytesLength", "(I)I"⟩ : MethodName) (head1 (Jvm.Cond.code (⟨"java/lang/StringUTF16", "newBytesLength", "(I)I"⟩ : MethodName) jdk_52_method_3_code 1 (some .int) :: ws) ({ frames := 0, cells := 0, slots := 0, locals := 0 } : Room)) (fun a U => a = #[(.int (3 : Int32))] ∧ Z.Warmed39 U.vm ∧ U.heap = h0) (fun _ _ _ _ _ => True) (fun _ U o U' => ∃ v L, o = .returned v ∧ Q_nbl3 Z  h0 n0 v U'.heap L ∧ FrameEnd U o U' L ({ frames := 0, cells := 0, slots := 0, locals := 0 } : Room).cells ({ frames := 0, cells := 0, slots := 0, locals := 0 } : Room).slots) := by
  refine MetFree.of_bodySF (plainFor_of_name pn_java_lang_StringUTF16) hisR ?_
  intro p e s m args below meth c s₁ Bd hml0 hP hK
  obtain ⟨rfl, hZ, hh⟩ := hP
  have hx := Bd.exec
  have hby := Bd.bytes
  have hml : c.maxLocals = 1 := hml0
  have hown : s.vm.findClass "java/lang/StringUTF16" = some m.cls := findClass_of_methodNamed Bd.named
  have hnm := (name_of_methodNamed Bd.named Bd.method).1
  have X0 : Stand p l e ({ frames := 0, cells := 0, slots := 0, locals := 0 } : Room) s m #[(.int (3 : Int32))] below meth c s₁ [] 0 0 := Stand.of_body Bd
  have e0 : s₁.heap = h0 := by rw [← hh, Bd.state]; rfl
  have N0 := Fr.nil n0
  have go0 : Goes p e below s₁ (G_nbl3 m) s₁ (mkF m 0 #[vI (3 : Int32)] []) := fun tq kq => castTop (by first | (simp [entryFrame, mkF, argsToLocals, Value.category, vI, vJ, vR, vD, vN, uN, sD, G_nbl3]; done) | rfl) kq
  have go171 : Goes p e below s₁ (G_nbl3 m) s₁ (mkF m 1 #[vI (3 : Int32)] [(.int (3 : Int32))]) := fun tq kq => go0 tq (by
    show Sx p e below s₁ (mkF m 0 #[vI (3 : Int32)] []) _
    refine XS.iloadN X0.here hx rfl (hb hby d19_0) rfl ?_
    exact kq)
  have go172 : Goes p e below s₁ (G_nbl3 m) s₁ (mkF m 15 #[vI (3 : Int32)] [(.int (1073741823 : Int32)), (.int (3 : Int32))]) := fun tq kq => go171 tq (by
    show Sx p e below s₁ (mkF m 1 #[vI (3 : Int32)] [(.int (3 : Int32))]) _
    refine XS.ifYes X0.here hx rfl (pc0 := 1) (pc' := 12) rfl (hb hby d19_1) rfl ((if0 _ _).trans (flt (by decide)).2.1) (by decide) (by decide) ?_
    show Sx p e below s₁ (mkF m 12 #[vI (3 : Int32)] []) _
    refine XS.iloadN X0.here hx rfl (hb hby d19_12) rfl ?_
    refine X0.ldcInt hx hown (mvT hZ (tw84 hw)) (g := (mkF m 13 #[vI (3 : Int32)] [(.int (3 : Int32))])) rfl (hb hby d19_13) _ ?_
    exact kq)
  have go173 : Goes p e below s₁ (G_nbl3 m) s₁ (mkF m 58 #[vI (3 : Int32)] [(.int ((3 : Int32) <<< ((1 : Int32) &&& 31)))]) := fun tq kq => go172 tq (by
    show Sx p e below s₁ (mkF m 15 #[vI (3 : Int32)] [(.int (1073741823 : Int32)), (.int (3 : Int32))]) _
    refine XS.icmpYes X0.here hx rfl (pc0 := 15) (pc' := 55) rfl (hb hby d19_15) rfl (tlt (by decide)).1 (by decide) (by decide) ?_
    refine XS.iloadN X0.here hx rfl (hb hby d19_55) rfl ?_
    show Sx p e below s₁ (mkF m 56 #[vI (3 : Int32)] [(.int (3 : Int32))]) _
    refine XS.iconst X0.here hx rfl (hb hby d19_56) ?_
    refine XS.ishl X0.here hx rfl (hb hby d19_57) rfl ?_
    exact kq)
  obtain ⟨fs, hr, hrun, hended, hW, hsame⟩ := X0.leave (v := some (.int ((3 : Int32) <<< ((1 : Int32) &&& 31)))) (fun h => by rw [Bd.returns] at h; cases h)
  refine ⟨_, _, go173 _ ?_, hrun, hended, _, _, rfl, ?_, ⟨_, rfl⟩, hW, hsame.mono (by decide) (by decide)⟩
  · exact retI X0 hx Bd.returns (hb hby d19_58) hr
  · show Q_nbl3 Z  h0 n0 _ s₁.heap _
    rw [e0]
    exact ⟨congrArg (fun z => some (Value.int z)) (by decide +kernel), N0, rfl⟩
abbrev G_nbf3 (m : MethodId)  : JFrame := (entryFrame m #[(.int (3 : Int32))] 1)
def Q_nbf3 (Z : State)   (h0 : Heap) (n0 : Nat) (v : Option Value) (h : Heap) (L : List Loc) : Prop := ∃ (t : Addr) (k : ClassId), v = some (.ref t) ∧ Fr n0 L ∧ Keep h0 h [] ∧ h0.size ≤ t ∧ Arv Z h t k .byte (6 : Int32) [(.int (0 : Int32)), (.int (0 : Int32)), (.int (0 : Int32)), (.int (0 : Int32)), (.int (0 : Int32)), (.int (0 : Int32))] (.int (0 : Int32))
set_option maxRecDepth 65536 in
set_option maxHeartbeats 40000000 in
theorem nbf3 (l : Launch) (Z : State) (a0 : Array Value) (hw : ∀ d ∈ tables_1, d.before a0 Z = true) (ws : List Jvm.Cond)   (h0 : Heap) (n0 : Nat) (Z0 : n0 ≤ h0.size)  :
    MetFree l (⟨"java/lang/StringUTF16", "newBytesFor", "(I)[B"⟩ : MethodName) (head1 (Jvm.Cond.code (⟨"java/lang/StringUTF16", "newBytesFor", "(I)[B"⟩ : MethodName) jdk_52_method_2_code 1 (some (.array .byte)) :: ws) ({ frames := 1, cells := 1, slots := 6, locals := 12 } : Room)) (fun a U => a = #[(.int (3 : Int32))] ∧ Z.Warmed39 U.vm ∧ U.heap = h0) (fun _ _ _ _ _ => True) (fun _ U o U' => ∃ v L, o = .returned v ∧ Q_nbf3 Z  h0 n0 v U'.heap L ∧ FrameEnd U o U' L ({ frames := 1, cells := 1, slots := 6, locals := 12 } : Room).cells ({ frames := 1, cells := 1, slots := 6, locals := 12 } : Room).slots) := by
  refine MetFree.of_bodySF (plainFor_of_name pn_java_lang_StringUTF16) hisR ?_
  intro p e s m args below meth c s₁ Bd hml0 hP hK
  obtain ⟨rfl, hZ, hh⟩ := hP
  have hx := Bd.exec
  have hby := Bd.bytes
  have hml : c.maxLocals = 1 := hml0
  have hown : s.vm.findClass "java/lang/StringUTF16" = some m.cls := findClass_of_methodNamed Bd.named
  have hnm := (name_of_methodNamed Bd.named Bd.method).1
  have X0 : Stand p l e ({ frames := 1, cells := 1, slots := 6, locals := 12 } : Room) s m #[(.int (3 : Int32))] below meth c s₁ [] 0 0 := Stand.of_body Bd
  have e0 : s₁.heap = h0 := by rw [← hh, Bd.state]; rfl
  have N0 := Fr.nil n0
  have KP0 : Keep h0 h0 [] := Keep.refl h0 []
  have go0 : Goes p e below s₁ (G_nbf3 m) s₁ (mkF m 0 #[vI (3 : Int32)] []) := fun tq kq => castTop (by first | (simp [entryFrame, mkF, argsToLocals, Value.category, vI, vJ, vR, vD, vN, uN, sD, G_nbf3]; done) | rfl) kq
  have go174 : Goes p e below s₁ (G_nbf3 m) s₁ (mkF m 1 #[vI (3 : Int32)] [(.int (3 : Int32))]) := fun tq kq => go0 tq (by
    show Sx p e below s₁ (mkF m 0 #[vI (3 : Int32)] []) _
    refine XS.iloadN X0.here hx rfl (hb hby d18_0) rfl ?_
    exact kq)
  obtain ⟨vv175, _, ⟨T175, L175, k175, n175⟩, -, X175, ⟨Lc175, hQ175, l175, y175, z175⟩, st175⟩ := Jvm.LawKit.callS X0 hx (y := (⟨"java/lang/StringUTF16", "newBytesLength", "(I)I"⟩ : MethodName)) hown (mvT hZ (tw81 hw)) (mvT hZ (tw82 hw)) (mvT hZ (tw70 hw)) (mvT hZ (tw83 hw)) (by decide) (backOf (W := 0) (nbl3 l Z a0 hw []   h0 n0 Z0 ) hZ (tw83 hw) (tw70 hw) (by decide) (by decide)) (g := (mkF m 1 #[vI (3 : Int32)] [(.int (3 : Int32))])) rfl (by rw [hml]; rfl) (argsL := [(.int (3 : Int32))]) (rest := []) (lenOf pd_0 rfl) rfl (by show 2 * 0 + _ ≤ _; exact Nat.le_of_eq rfl) (hb hby d18_1) (fun _ _ => ⟨rfl, e0, (by decide : 0 + 0 ≤ _), (by decide : 0 + 0 ≤ _)⟩)
  dsimp only [Pt.U, Pt.locs, Pt.cells, Pt.slots] at X175 l175 y175 z175 st175 hQ175
  subst l175 y175 z175
  obtain ⟨rfl, Nq175, eq175⟩ := hQ175
  have N175 := Fr.app N0 Nq175
  have go175 : Goes p e below s₁ (G_nbf3 m) T175 (mkF m 4 #[vI (3 : Int32)] [(.int (6 : Int32))]) := fun tq kq => go174 tq (st175 _ kq)
  obtain ⟨T176, h176, k176, X176, e176, E176, A176, st176⟩ := newP X175 hx hZ (aty := .byte) (tw25 hw) eq175 (g := (mkF m 4 #[vI (3 : Int32)] [(.int (6 : Int32))])) rfl (hb hby d18_4) rfl (by decide) (cap := 6) (by decide) (by decide) (by decide) (by decide)
  obtain ⟨b176, g176⟩ : ∃ z, z = h0.size := ⟨_, rfl⟩
  rw [← g176] at A176 st176
  have g_b176 : n0 ≤ b176 := Nat.le_trans Z0 (Nat.le_of_eq g176.symm)
  have sz_b176 : h0.size ≤ b176 := Nat.le_trans KP0.1 (Nat.le_of_eq g176.symm)
  have KP176 : Keep h0 h176 [] := KP0.ext E176
  have ZS176 : n0 ≤ h176.size := Nat.le_trans Z0 E176.1
  have V176 : Arv Z h176 b176 k176 .byte (6 : Int32) [(.int (0 : Int32)), (.int (0 : Int32)), (.int (0 : Int32)), (.int (0 : Int32)), (.int (0 : Int32)), (.int (0 : Int32))] (.int (0 : Int32)) := (Arv.new A176 (by decide)).pad (pad_rep [] (.int (0 : Int32)) 6)
  have go176 : Goes p e below s₁ (G_nbf3 m) T176 (mkF m 6 #[vI (3 : Int32)] [(.ref b176)]) := fun tq kq => go175 tq (st176 _ kq)
  obtain ⟨fs, hr, hrun, hended, hW, hsame⟩ := X176.leave (v := some (.ref b176)) (fun h => by rw [Bd.returns] at h; cases h)
  refine ⟨_, _, go176 _ ?_, hrun, hended, _, _, rfl, ?_, ⟨_, rfl⟩, hW, hsame.mono (by decide) (by decide)⟩
  · jvm_step X176.here [X176.here.top, hx, (hb hby d18_6), X176.method', Bd.returns, Value.isRef, FieldType.isReference]
    first | (intro acts; rw [hr _ acts rfl rfl rfl]) | rw [hr _ _ rfl rfl rfl]
    exact Steps.refl _
  · show Q_nbf3 Z  h0 n0 _ T176.heap _
    rw [e176]
    exact ⟨b176, _, rfl, N175, KP176, sz_b176, V176⟩
abbrev G_pc30 (m : MethodId) (a1 : Addr) (p3 : Int32) : JFrame := (entryFrame m #[(.ref a1), (.int (0 : Int32)), (.int p3)] 3)
def Q_pc30 (Z : State) (a1 : Addr) (p3 : Int32) (kB : ClassId) (v0 v1 v2 v3 v4 v5 : Value) (h0 : Heap) (n0 : Nat) (v : Option Value) (h : Heap) (L : List Loc) : Prop := v = none ∧ Fr n0 L ∧ Keep h0 h [a1] ∧ Arv Z h a1 kB .byte (6 : Int32) [(.int (StrChars.lo8 p3)), (.int (StrChars.hi8 p3)), v2, v3, v4, v5] (.int (0 : Int32))
set_option maxRecDepth 65536 in
set_option maxHeartbeats 40000000 in
theorem pc30 (l : Launch) (Z : State) (a0 : Array Value) (hw : ∀ d ∈ tables_1, d.before a0 Z = true) (ws : List Jvm.Cond) (a1 : Addr) (p3 : Int32) (kB : ClassId) (v0 v1 v2 v3 v4 v5 : Value) (h0 : Heap) (n0 : Nat) (Z0 : n0 ≤ h0.size) (O0 : Old Z n0 h0) (g_a1 : n0 ≤ a1) (AD : Sta Z Z.heap "java/lang/StringUTF16" "$assertionsDisabled" "Z" (.int (1 : Int32))) (HI : Sta Z Z.heap "java/lang/StringUTF16" "HI_BYTE_SHIFT" "I" (.int (0 : Int32))) (LO : Sta Z Z.heap "java/lang/StringUTF16" "LO_BYTE_SHIFT" "I" (.int (8 : Int32))) (VA : Arv Z h0 a1 kB .byte (6 : Int32) [v0, v1, v2, v3, v4, v5] (.int (0 : Int32))) :
    MetFree l (⟨"java/lang/StringUTF16", "putChar", "([BII)V"⟩ : MethodName) (head1 (Jvm.Cond.code (⟨"java/lang/StringUTF16", "putChar", "([BII)V"⟩ : MethodName) jdk_52_method_4_code 3 none :: ws) ({ frames := 0, cells := 0, slots := 0, locals := 0 } : Room)) (fun a U => a = #[(.ref a1), (.int (0 : Int32)), (.int p3)] ∧ Z.Warmed39 U.vm ∧ U.heap = h0) (fun _ _ _ _ _ => True) (fun _ U o U' => ∃ v L, o = .returned v ∧ Q_pc30 Z a1 p3 kB v0 v1 v2 v3 v4 v5 h0 n0 v U'.heap L ∧ FrameEnd U o U' L ({ frames := 0, cells := 0, slots := 0, locals := 0 } : Room).cells ({ frames := 0, cells := 0, slots := 0, locals := 0 } : Room).slots) := by
  refine MetFree.of_bodySF (plainFor_of_name pn_java_lang_StringUTF16) hisR ?_
  intro p e s m args below meth c s₁ Bd hml0 hP hK
  obtain ⟨rfl, hZ, hh⟩ := hP
  have hx := Bd.exec
  have hby := Bd.bytes
  have hml : c.maxLocals = 3 := hml0
  have hown : s.vm.findClass "java/lang/StringUTF16" = some m.cls := findClass_of_methodNamed Bd.named
  have hnm := (name_of_methodNamed Bd.named Bd.method).1
  have X0 : Stand p l e ({ frames := 0, cells := 0, slots := 0, locals := 0 } : Room) s m #[(.ref a1), (.int (0 : Int32)), (.int p3)] below meth c s₁ [] 0 0 := Stand.of_body Bd
  have e0 : s₁.heap = h0 := by rw [← hh, Bd.state]; rfl
  have N0 := Fr.nil n0
  have KP0 : Keep h0 h0 [a1] := Keep.refl h0 [a1]
  have go0 : Goes p e below s₁ (G_pc30 m a1 p3) s₁ (mkF m 0 #[vR a1, vI (0 : Int32), vI p3] []) := fun tq kq => castTop (by first | (simp [entryFrame, mkF, argsToLocals, Value.category, vI, vJ, vR, vD, vN, uN, sD, G_pc30]; done) | rfl) kq
  obtain ⟨T177, X177, e177, st177⟩ := getS2 X0 hx hZ hown (host := "") (Or.inl (tw88 hw)) Via.refl e0 (AD.ext O0.2) (g := (mkF m 0 #[vR a1, vI (0 : Int32), vI p3] [])) rfl (hb hby d20_0)
  have go177 : Goes p e below s₁ (G_pc30 m a1 p3) T177 (mkF m 3 #[vR a1, vI (0 : Int32), vI p3] [(.int (1 : Int32))]) := fun tq kq => go0 tq (st177 _ kq)
  have go178 : Goes p e below s₁ (G_pc30 m a1 p3) T177 (mkF m 32 #[vR a1, vI ((0 : Int32) <<< ((1 : Int32) &&& 31)), vI p3] []) := fun tq kq => go177 tq (by
    show Sx p e below T177 (mkF m 3 #[vR a1, vI (0 : Int32), vI p3] [(.int (1 : Int32))]) _
    refine XS.ifYes X177.here hx rfl (pc0 := 3) (pc' := 28) rfl (hb hby d20_3) rfl ((if0 _ _).trans (feq (by decide)).2) (by decide) (by decide) ?_
    refine XS.iloadN X177.here hx rfl (hb hby d20_28) rfl ?_
    show Sx p e below T177 (mkF m 29 #[vR a1, vI (0 : Int32), vI p3] [(.int (0 : Int32))]) _
    refine XS.iconst X177.here hx rfl (hb hby d20_29) ?_
    refine XS.ishl X177.here hx rfl (hb hby d20_30) rfl ?_
    show Sx p e below T177 (mkF m 31 #[vR a1, vI (0 : Int32), vI p3] [(.int ((0 : Int32) <<< ((1 : Int32) &&& 31)))]) _
    refine XS.istoreN X177.here hx rfl (hb hby d20_31) rfl (l' := #[vR a1, vI ((0 : Int32) <<< ((1 : Int32) &&& 31)), vI p3]) rfl ?_
    exact kq)
  rw [show ((0 : Int32) <<< ((1 : Int32) &&& 31)) = (0 : Int32) by decide +kernel] at go178
  have go179 : Goes p e below s₁ (G_pc30 m a1 p3) T177 (mkF m 38 #[vR a1, vI (1 : Int32), vI p3] [(.int p3), (.int (0 : Int32)), (.ref a1)]) := fun tq kq => go178 tq (by
    show Sx p e below T177 (mkF m 32 #[vR a1, vI (0 : Int32), vI p3] []) _
    refine XS.aloadN X177.here hx rfl (hb hby d20_32) rfl rfl ?_
    show Sx p e below T177 (mkF m 33 #[vR a1, vI (0 : Int32), vI p3] [(.ref a1)]) _
    refine XS.iloadN X177.here hx rfl (hb hby d20_33) rfl ?_
    refine XS.iinc X177.here hx rfl (hb hby d20_34) rfl (l' := #[vR a1, vI (1 : Int32), vI p3]) rfl ?_
    show Sx p e below T177 (mkF m 37 #[vR a1, vI (1 : Int32), vI p3] [(.int (0 : Int32)), (.ref a1)]) _
    refine XS.iloadN X177.here hx rfl (hb hby d20_37) rfl ?_
    exact kq)
  obtain ⟨T180, X180, e180, st180⟩ := getS2 X177 hx hZ hown (host := "") (Or.inl (tw89 hw)) Via.refl e177 (HI.ext O0.2) (g := (mkF m 38 #[vR a1, vI (1 : Int32), vI p3] [(.int p3), (.int (0 : Int32)), (.ref a1)])) rfl (hb hby d20_38)
  have go180 : Goes p e below s₁ (G_pc30 m a1 p3) T180 (mkF m 41 #[vR a1, vI (1 : Int32), vI p3] [(.int (0 : Int32)), (.int p3), (.int (0 : Int32)), (.ref a1)]) := fun tq kq => go179 tq (st180 _ kq)
  have go182 : Goes p e below s₁ (G_pc30 m a1 p3) T180 (mkF m 43 #[vR a1, vI (1 : Int32), vI p3] [(.int ((p3 >>> ((0 : Int32) &&& 31)).toInt8.toInt32)), (.int (0 : Int32)), (.ref a1)]) := fun tq kq => go180 tq (by
    show Sx p e below T180 (mkF m 41 #[vR a1, vI (1 : Int32), vI p3] [(.int (0 : Int32)), (.int p3), (.int (0 : Int32)), (.ref a1)]) _
    refine XS.ishr X180.here hx rfl (hb hby d20_41) rfl ?_
    show Sx p e below T180 (mkF m 42 #[vR a1, vI (1 : Int32), vI p3] [(.int (p3 >>> ((0 : Int32) &&& 31))), (.int (0 : Int32)), (.ref a1)]) _
    refine XS.i2b X180.here hx rfl (hb hby d20_42) rfl ?_
    exact kq)
  obtain ⟨cl181, Ar181, q181, S181, N_181, H181, G181⟩ := VA
  have hin181 : ¬ ((0 : Int32) < 0 ∨ cl181.slots.size ≤ ((0 : Int32)).toNatClampNeg) := inb_of S181 ⟨by decide, by decide⟩
  obtain ⟨T183, h183, X183, e183, W183, st183⟩ := stB X180 hx hZ e180 Ar181 (j := (0 : Int32)) hin181 (g := (mkF m 43 #[vR a1, vI (1 : Int32), vI p3] [(.int ((p3 >>> ((0 : Int32) &&& 31)).toInt8.toInt32)), (.int (0 : Int32)), (.ref a1)])) rfl rfl (hb hby d20_43)
  have N183 := Fr.snoc X183 N0 g_a1
  have KP183 : Keep h0 h183 [a1] := KP0.wr W183 (Or.inl (List.mem_of_getElem? (i := 0) rfl))
  have O183 := O0.wr W183 g_a1
  have ZS183 : n0 ≤ h183.size := Nat.le_trans Z0 (Keep.of_wr W183).1
  have V183 : Arv Z h183 a1 kB .byte (6 : Int32) [(.int (nar .byte ((p3 >>> ((0 : Int32) &&& 31)).toInt8.toInt32))), v1, v2, v3, v4, v5] (.int (0 : Int32)) := Arv.set Ar181 q181 S181 N_181 H181 G181 (fits_nar_byte _) W183 0 rfl (Nat.le_of_ble_eq_true rfl)
  have go183 : Goes p e below s₁ (G_pc30 m a1 p3) T183 (mkF m 44 #[vR a1, vI (1 : Int32), vI p3] []) := fun tq kq => go182 tq (st183 _ kq)
  have go184 : Goes p e below s₁ (G_pc30 m a1 p3) T183 (mkF m 47 #[vR a1, vI (1 : Int32), vI p3] [(.int p3), (.int (1 : Int32)), (.ref a1)]) := fun tq kq => go183 tq (by
    show Sx p e below T183 (mkF m 44 #[vR a1, vI (1 : Int32), vI p3] []) _
    refine XS.aloadN X183.here hx rfl (hb hby d20_44) rfl rfl ?_
    show Sx p e below T183 (mkF m 45 #[vR a1, vI (1 : Int32), vI p3] [(.ref a1)]) _
    refine XS.iloadN X183.here hx rfl (hb hby d20_45) rfl ?_
    refine XS.iloadN X183.here hx rfl (hb hby d20_46) rfl ?_
    exact kq)
  obtain ⟨T185, X185, e185, st185⟩ := getS2 X183 hx hZ hown (host := "") (Or.inl (tw90 hw)) Via.refl e183 (LO.ext O183.2) (g := (mkF m 47 #[vR a1, vI (1 : Int32), vI p3] [(.int p3), (.int (1 : Int32)), (.ref a1)])) rfl (hb hby d20_47)
  have go185 : Goes p e below s₁ (G_pc30 m a1 p3) T185 (mkF m 50 #[vR a1, vI (1 : Int32), vI p3] [(.int (8 : Int32)), (.int p3), (.int (1 : Int32)), (.ref a1)]) := fun tq kq => go184 tq (st185 _ kq)
  have go187 : Goes p e below s₁ (G_pc30 m a1 p3) T185 (mkF m 52 #[vR a1, vI (1 : Int32), vI p3] [(.int ((p3 >>> ((8 : Int32) &&& 31)).toInt8.toInt32)), (.int (1 : Int32)), (.ref a1)]) := fun tq kq => go185 tq (by
    show Sx p e below T185 (mkF m 50 #[vR a1, vI (1 : Int32), vI p3] [(.int (8 : Int32)), (.int p3), (.int (1 : Int32)), (.ref a1)]) _
    refine XS.ishr X185.here hx rfl (hb hby d20_50) rfl ?_
    refine XS.i2b X185.here hx rfl (hb hby d20_51) rfl ?_
    exact kq)
  obtain ⟨cl186, Ar186, q186, S186, N_186, H186, G186⟩ := V183
  have hin186 : ¬ ((1 : Int32) < 0 ∨ cl186.slots.size ≤ ((1 : Int32)).toNatClampNeg) := inb_of S186 ⟨by decide, by decide⟩
  obtain ⟨T188, h188, X188, e188, W188, st188⟩ := stB X185 hx hZ e185 Ar186 (j := (1 : Int32)) hin186 (g := (mkF m 52 #[vR a1, vI (1 : Int32), vI p3] [(.int ((p3 >>> ((8 : Int32) &&& 31)).toInt8.toInt32)), (.int (1 : Int32)), (.ref a1)])) rfl rfl (hb hby d20_52)
  have N188 := Fr.snoc X188 N183 g_a1
  have KP188 : Keep h0 h188 [a1] := KP183.wr W188 (Or.inl (List.mem_of_getElem? (i := 0) rfl))
  have O188 := O183.wr W188 g_a1
  have ZS188 : n0 ≤ h188.size := Nat.le_trans ZS183 (Keep.of_wr W188).1
  have V188 : Arv Z h188 a1 kB .byte (6 : Int32) [(.int (nar .byte ((p3 >>> ((0 : Int32) &&& 31)).toInt8.toInt32))), (.int (nar .byte ((p3 >>> ((8 : Int32) &&& 31)).toInt8.toInt32))), v2, v3, v4, v5] (.int (0 : Int32)) := Arv.set Ar186 q186 S186 N_186 H186 G186 (fits_nar_byte _) W188 1 rfl (Nat.le_of_ble_eq_true rfl)
  have go188 : Goes p e below s₁ (G_pc30 m a1 p3) T188 (mkF m 53 #[vR a1, vI (1 : Int32), vI p3] []) := fun tq kq => go187 tq (st188 _ kq)
  have VQ := V188
  rw [own_lo, own_hi] at VQ
  obtain ⟨fs, hr, hrun, hended, hW, hsame⟩ := X188.leave (v := none) (fun _ => rfl)
  refine ⟨_, _, go188 _ ?_, hrun, hended, _, _, rfl, ?_, ⟨_, rfl⟩, hW, hsame.mono (by decide) (by decide)⟩
  · exact X188.returnOut hx Bd.returns (hb hby d20_53) hr
  · show Q_pc30 Z a1 p3 kB v0 v1 v2 v3 v4 v5 h0 n0 _ T188.heap _
    rw [e188]
    exact ⟨rfl, N188, KP188, VQ⟩
abbrev G_pc31 (m : MethodId) (a1 : Addr) (p3 : Int32) : JFrame := (entryFrame m #[(.ref a1), (.int (1 : Int32)), (.int p3)] 3)
def Q_pc31 (Z : State) (a1 : Addr) (p3 : Int32) (kB : ClassId) (v0 v1 v2 v3 v4 v5 : Value) (h0 : Heap) (n0 : Nat) (v : Option Value) (h : Heap) (L : List Loc) : Prop := v = none ∧ Fr n0 L ∧ Keep h0 h [a1] ∧ Arv Z h a1 kB .byte (6 : Int32) [v0, v1, (.int (StrChars.lo8 p3)), (.int (StrChars.hi8 p3)), v4, v5] (.int (0 : Int32))
set_option maxRecDepth 65536 in
set_option maxHeartbeats 40000000 in
theorem pc31 (l : Launch) (Z : State) (a0 : Array Value) (hw : ∀ d ∈ tables_1, d.before a0 Z = true) (ws : List Jvm.Cond) (a1 : Addr) (p3 : Int32) (kB : ClassId) (v0 v1 v2 v3 v4 v5 : Value) (h0 : Heap) (n0 : Nat) (Z0 : n0 ≤ h0.size) (O0 : Old Z n0 h0) (g_a1 : n0 ≤ a1) (AD : Sta Z Z.heap "java/lang/StringUTF16" "$assertionsDisabled" "Z" (.int (1 : Int32))) (HI : Sta Z Z.heap "java/lang/StringUTF16" "HI_BYTE_SHIFT" "I" (.int (0 : Int32))) (LO : Sta Z Z.heap "java/lang/StringUTF16" "LO_BYTE_SHIFT" "I" (.int (8 : Int32))) (VA : Arv Z h0 a1 kB .byte (6 : Int32) [v0, v1, v2, v3, v4, v5] (.int (0 : Int32))) :
    MetFree l (⟨"java/lang/StringUTF16", "putChar", "([BII)V"⟩ : MethodName) (head1 (Jvm.Cond.code (⟨"java/lang/StringUTF16", "putChar", "([BII)V"⟩ : MethodName) jdk_52_method_4_code 3 none :: ws) ({ frames := 0, cells := 0, slots := 0, locals := 0 } : Room)) (fun a U => a = #[(.ref a1), (.int (1 : Int32)), (.int p3)] ∧ Z.Warmed39 U.vm ∧ U.heap = h0) (fun _ _ _ _ _ => True) (fun _ U o U' => ∃ v L, o = .returned v ∧ Q_pc31 Z a1 p3 kB v0 v1 v2 v3 v4 v5 h0 n0 v U'.heap L ∧ FrameEnd U o U' L ({ frames := 0, cells := 0, slots := 0, locals := 0 } : Room).cells ({ frames := 0, cells := 0, slots := 0, locals := 0 } : Room).slots) := by
  refine MetFree.of_bodySF (plainFor_of_name pn_java_lang_StringUTF16) hisR ?_
  intro p e s m args below meth c s₁ Bd hml0 hP hK
  obtain ⟨rfl, hZ, hh⟩ := hP
  have hx := Bd.exec
  have hby := Bd.bytes
  have hml : c.maxLocals = 3 := hml0
  have hown : s.vm.findClass "java/lang/StringUTF16" = some m.cls := findClass_of_methodNamed Bd.named
  have hnm := (name_of_methodNamed Bd.named Bd.method).1
  have X0 : Stand p l e ({ frames := 0, cells := 0, slots := 0, locals := 0 } : Room) s m #[(.ref a1), (.int (1 : Int32)), (.int p3)] below meth c s₁ [] 0 0 := Stand.of_body Bd
  have e0 : s₁.heap = h0 := by rw [← hh, Bd.state]; rfl
  have N0 := Fr.nil n0
  have KP0 : Keep h0 h0 [a1] := Keep.refl h0 [a1]
  have go0 : Goes p e below s₁ (G_pc31 m a1 p3) s₁ (mkF m 0 #[vR a1, vI (1 : Int32), vI p3] []) := fun tq kq => castTop (by first | (simp [entryFrame, mkF, argsToLocals, Value.category, vI, vJ, vR, vD, vN, uN, sD, G_pc31]; done) | rfl) kq
  obtain ⟨T189, X189, e189, st189⟩ := getS2 X0 hx hZ hown (host := "") (Or.inl (tw88 hw)) Via.refl e0 (AD.ext O0.2) (g := (mkF m 0 #[vR a1, vI (1 : Int32), vI p3] [])) rfl (hb hby d20_0)
  have go189 : Goes p e below s₁ (G_pc31 m a1 p3) T189 (mkF m 3 #[vR a1, vI (1 : Int32), vI p3] [(.int (1 : Int32))]) := fun tq kq => go0 tq (st189 _ kq)
  have go190 : Goes p e below s₁ (G_pc31 m a1 p3) T189 (mkF m 32 #[vR a1, vI ((1 : Int32) <<< ((1 : Int32) &&& 31)), vI p3] []) := fun tq kq => go189 tq (by
    show Sx p e below T189 (mkF m 3 #[vR a1, vI (1 : Int32), vI p3] [(.int (1 : Int32))]) _
    refine XS.ifYes X189.here hx rfl (pc0 := 3) (pc' := 28) rfl (hb hby d20_3) rfl ((if0 _ _).trans (feq (by decide)).2) (by decide) (by decide) ?_
    refine XS.iloadN X189.here hx rfl (hb hby d20_28) rfl ?_
    show Sx p e below T189 (mkF m 29 #[vR a1, vI (1 : Int32), vI p3] [(.int (1 : Int32))]) _
    refine XS.iconst X189.here hx rfl (hb hby d20_29) ?_
    refine XS.ishl X189.here hx rfl (hb hby d20_30) rfl ?_
    show Sx p e below T189 (mkF m 31 #[vR a1, vI (1 : Int32), vI p3] [(.int ((1 : Int32) <<< ((1 : Int32) &&& 31)))]) _
    refine XS.istoreN X189.here hx rfl (hb hby d20_31) rfl (l' := #[vR a1, vI ((1 : Int32) <<< ((1 : Int32) &&& 31)), vI p3]) rfl ?_
    exact kq)
  rw [show ((1 : Int32) <<< ((1 : Int32) &&& 31)) = (2 : Int32) by decide +kernel] at go190
  have go191 : Goes p e below s₁ (G_pc31 m a1 p3) T189 (mkF m 38 #[vR a1, vI (3 : Int32), vI p3] [(.int p3), (.int (2 : Int32)), (.ref a1)]) := fun tq kq => go190 tq (by
    show Sx p e below T189 (mkF m 32 #[vR a1, vI (2 : Int32), vI p3] []) _
    refine XS.aloadN X189.here hx rfl (hb hby d20_32) rfl rfl ?_
    show Sx p e below T189 (mkF m 33 #[vR a1, vI (2 : Int32), vI p3] [(.ref a1)]) _
    refine XS.iloadN X189.here hx rfl (hb hby d20_33) rfl ?_
    refine XS.iinc X189.here hx rfl (hb hby d20_34) rfl (l' := #[vR a1, vI (3 : Int32), vI p3]) rfl ?_
    show Sx p e below T189 (mkF m 37 #[vR a1, vI (3 : Int32), vI p3] [(.int (2 : Int32)), (.ref a1)]) _
    refine XS.iloadN X189.here hx rfl (hb hby d20_37) rfl ?_
    exact kq)
  obtain ⟨T192, X192, e192, st192⟩ := getS2 X189 hx hZ hown (host := "") (Or.inl (tw89 hw)) Via.refl e189 (HI.ext O0.2) (g := (mkF m 38 #[vR a1, vI (3 : Int32), vI p3] [(.int p3), (.int (2 : Int32)), (.ref a1)])) rfl (hb hby d20_38)
  have go192 : Goes p e below s₁ (G_pc31 m a1 p3) T192 (mkF m 41 #[vR a1, vI (3 : Int32), vI p3] [(.int (0 : Int32)), (.int p3), (.int (2 : Int32)), (.ref a1)]) := fun tq kq => go191 tq (st192 _ kq)
  have go194 : Goes p e below s₁ (G_pc31 m a1 p3) T192 (mkF m 43 #[vR a1, vI (3 : Int32), vI p3] [(.int ((p3 >>> ((0 : Int32) &&& 31)).toInt8.toInt32)), (.int (2 : Int32)), (.ref a1)]) := fun tq kq => go192 tq (by
    show Sx p e below T192 (mkF m 41 #[vR a1, vI (3 : Int32), vI p3] [(.int (0 : Int32)), (.int p3), (.int (2 : Int32)), (.ref a1)]) _
    refine XS.ishr X192.here hx rfl (hb hby d20_41) rfl ?_
    show Sx p e below T192 (mkF m 42 #[vR a1, vI (3 : Int32), vI p3] [(.int (p3 >>> ((0 : Int32) &&& 31))), (.int (2 : Int32)), (.ref a1)]) _
    refine XS.i2b X192.here hx rfl (hb hby d20_42) rfl ?_
    exact kq)
  obtain ⟨cl193, Ar193, q193, S193, N_193, H193, G193⟩ := VA
  have hin193 : ¬ ((2 : Int32) < 0 ∨ cl193.slots.size ≤ ((2 : Int32)).toNatClampNeg) := inb_of S193 ⟨by decide, by decide⟩
  obtain ⟨T195, h195, X195, e195, W195, st195⟩ := stB X192 hx hZ e192 Ar193 (j := (2 : Int32)) hin193 (g := (mkF m 43 #[vR a1, vI (3 : Int32), vI p3] [(.int ((p3 >>> ((0 : Int32) &&& 31)).toInt8.toInt32)), (.int (2 : Int32)), (.ref a1)])) rfl rfl (hb hby d20_43)
  have N195 := Fr.snoc X195 N0 g_a1
  have KP195 : Keep h0 h195 [a1] := KP0.wr W195 (Or.inl (List.mem_of_getElem? (i := 0) rfl))
  have O195 := O0.wr W195 g_a1
  have ZS195 : n0 ≤ h195.size := Nat.le_trans Z0 (Keep.of_wr W195).1
  have V195 : Arv Z h195 a1 kB .byte (6 : Int32) [v0, v1, (.int (nar .byte ((p3 >>> ((0 : Int32) &&& 31)).toInt8.toInt32))), v3, v4, v5] (.int (0 : Int32)) := Arv.set Ar193 q193 S193 N_193 H193 G193 (fits_nar_byte _) W195 2 rfl (Nat.le_of_ble_eq_true rfl)
  have go195 : Goes p e below s₁ (G_pc31 m a1 p3) T195 (mkF m 44 #[vR a1, vI (3 : Int32), vI p3] []) := fun tq kq => go194 tq (st195 _ kq)
  have go196 : Goes p e below s₁ (G_pc31 m a1 p3) T195 (mkF m 47 #[vR a1, vI (3 : Int32), vI p3] [(.int p3), (.int (3 : Int32)), (.ref a1)]) := fun tq kq => go195 tq (by
    show Sx p e below T195 (mkF m 44 #[vR a1, vI (3 : Int32), vI p3] []) _
    refine XS.aloadN X195.here hx rfl (hb hby d20_44) rfl rfl ?_
    show Sx p e below T195 (mkF m 45 #[vR a1, vI (3 : Int32), vI p3] [(.ref a1)]) _
    refine XS.iloadN X195.here hx rfl (hb hby d20_45) rfl ?_
    refine XS.iloadN X195.here hx rfl (hb hby d20_46) rfl ?_
    exact kq)
  obtain ⟨T197, X197, e197, st197⟩ := getS2 X195 hx hZ hown (host := "") (Or.inl (tw90 hw)) Via.refl e195 (LO.ext O195.2) (g := (mkF m 47 #[vR a1, vI (3 : Int32), vI p3] [(.int p3), (.int (3 : Int32)), (.ref a1)])) rfl (hb hby d20_47)
  have go197 : Goes p e below s₁ (G_pc31 m a1 p3) T197 (mkF m 50 #[vR a1, vI (3 : Int32), vI p3] [(.int (8 : Int32)), (.int p3), (.int (3 : Int32)), (.ref a1)]) := fun tq kq => go196 tq (st197 _ kq)
  have go199 : Goes p e below s₁ (G_pc31 m a1 p3) T197 (mkF m 52 #[vR a1, vI (3 : Int32), vI p3] [(.int ((p3 >>> ((8 : Int32) &&& 31)).toInt8.toInt32)), (.int (3 : Int32)), (.ref a1)]) := fun tq kq => go197 tq (by
    show Sx p e below T197 (mkF m 50 #[vR a1, vI (3 : Int32), vI p3] [(.int (8 : Int32)), (.int p3), (.int (3 : Int32)), (.ref a1)]) _
    refine XS.ishr X197.here hx rfl (hb hby d20_50) rfl ?_
    refine XS.i2b X197.here hx rfl (hb hby d20_51) rfl ?_
    exact kq)
  obtain ⟨cl198, Ar198, q198, S198, N_198, H198, G198⟩ := V195
  have hin198 : ¬ ((3 : Int32) < 0 ∨ cl198.slots.size ≤ ((3 : Int32)).toNatClampNeg) := inb_of S198 ⟨by decide, by decide⟩
  obtain ⟨T200, h200, X200, e200, W200, st200⟩ := stB X197 hx hZ e197 Ar198 (j := (3 : Int32)) hin198 (g := (mkF m 52 #[vR a1, vI (3 : Int32), vI p3] [(.int ((p3 >>> ((8 : Int32) &&& 31)).toInt8.toInt32)), (.int (3 : Int32)), (.ref a1)])) rfl rfl (hb hby d20_52)
  have N200 := Fr.snoc X200 N195 g_a1
  have KP200 : Keep h0 h200 [a1] := KP195.wr W200 (Or.inl (List.mem_of_getElem? (i := 0) rfl))
  have O200 := O195.wr W200 g_a1
  have ZS200 : n0 ≤ h200.size := Nat.le_trans ZS195 (Keep.of_wr W200).1
  have V200 : Arv Z h200 a1 kB .byte (6 : Int32) [v0, v1, (.int (nar .byte ((p3 >>> ((0 : Int32) &&& 31)).toInt8.toInt32))), (.int (nar .byte ((p3 >>> ((8 : Int32) &&& 31)).toInt8.toInt32))), v4, v5] (.int (0 : Int32)) := Arv.set Ar198 q198 S198 N_198 H198 G198 (fits_nar_byte _) W200 3 rfl (Nat.le_of_ble_eq_true rfl)
  have go200 : Goes p e below s₁ (G_pc31 m a1 p3) T200 (mkF m 53 #[vR a1, vI (3 : Int32), vI p3] []) := fun tq kq => go199 tq (st200 _ kq)
  have VQ := V200
  rw [own_lo, own_hi] at VQ
  obtain ⟨fs, hr, hrun, hended, hW, hsame⟩ := X200.leave (v := none) (fun _ => rfl)
  refine ⟨_, _, go200 _ ?_, hrun, hended, _, _, rfl, ?_, ⟨_, rfl⟩, hW, hsame.mono (by decide) (by decide)⟩
  · exact X200.returnOut hx Bd.returns (hb hby d20_53) hr
  · show Q_pc31 Z a1 p3 kB v0 v1 v2 v3 v4 v5 h0 n0 _ T200.heap _
    rw [e200]
    exact ⟨rfl, N200, KP200, VQ⟩
abbrev G_pc32 (m : MethodId) (a1 : Addr) (p3 : Int32) : JFrame := (entryFrame m #[(.ref a1), (.int (2 : Int32)), (.int p3)] 3)
def Q_pc32 (Z : State) (a1 : Addr) (p3 : Int32) (kB : ClassId) (v0 v1 v2 v3 v4 v5 : Value) (h0 : Heap) (n0 : Nat) (v : Option Value) (h : Heap) (L : List Loc) : Prop := v = none ∧ Fr n0 L ∧ Keep h0 h [a1] ∧ Arv Z h a1 kB .byte (6 : Int32) [v0, v1, v2, v3, (.int (StrChars.lo8 p3)), (.int (StrChars.hi8 p3))] (.int (0 : Int32))
set_option maxRecDepth 65536 in
set_option maxHeartbeats 40000000 in
theorem pc32 (l : Launch) (Z : State) (a0 : Array Value) (hw : ∀ d ∈ tables_1, d.before a0 Z = true) (ws : List Jvm.Cond) (a1 : Addr) (p3 : Int32) (kB : ClassId) (v0 v1 v2 v3 v4 v5 : Value) (h0 : Heap) (n0 : Nat) (Z0 : n0 ≤ h0.size) (O0 : Old Z n0 h0) (g_a1 : n0 ≤ a1) (AD : Sta Z Z.heap "java/lang/StringUTF16" "$assertionsDisabled" "Z" (.int (1 : Int32))) (HI : Sta Z Z.heap "java/lang/StringUTF16" "HI_BYTE_SHIFT" "I" (.int (0 : Int32))) (LO : Sta Z Z.heap "java/lang/StringUTF16" "LO_BYTE_SHIFT" "I" (.int (8 : Int32))) (VA : Arv Z h0 a1 kB .byte (6 : Int32) [v0, v1, v2, v3, v4, v5] (.int (0 : Int32))) :
    MetFree l (⟨"java/lang/StringUTF16", "putChar", "([BII)V"⟩ : MethodName) (head1 (Jvm.Cond.code (⟨"java/lang/StringUTF16", "putChar", "([BII)V"⟩ : MethodName) jdk_52_method_4_code 3 none :: ws) ({ frames := 0, cells := 0, slots := 0, locals := 0 } : Room)) (fun a U => a = #[(.ref a1), (.int (2 : Int32)), (.int p3)] ∧ Z.Warmed39 U.vm ∧ U.heap = h0) (fun _ _ _ _ _ => True) (fun _ U o U' => ∃ v L, o = .returned v ∧ Q_pc32 Z a1 p3 kB v0 v1 v2 v3 v4 v5 h0 n0 v U'.heap L ∧ FrameEnd U o U' L ({ frames := 0, cells := 0, slots := 0, locals := 0 } : Room).cells ({ frames := 0, cells := 0, slots := 0, locals := 0 } : Room).slots) := by
  refine MetFree.of_bodySF (plainFor_of_name pn_java_lang_StringUTF16) hisR ?_
  intro p e s m args below meth c s₁ Bd hml0 hP hK
  obtain ⟨rfl, hZ, hh⟩ := hP
  have hx := Bd.exec
  have hby := Bd.bytes
  have hml : c.maxLocals = 3 := hml0
  have hown : s.vm.findClass "java/lang/StringUTF16" = some m.cls := findClass_of_methodNamed Bd.named
  have hnm := (name_of_methodNamed Bd.named Bd.method).1
  have X0 : Stand p l e ({ frames := 0, cells := 0, slots := 0, locals := 0 } : Room) s m #[(.ref a1), (.int (2 : Int32)), (.int p3)] below meth c s₁ [] 0 0 := Stand.of_body Bd
  have e0 : s₁.heap = h0 := by rw [← hh, Bd.state]; rfl
  have N0 := Fr.nil n0
  have KP0 : Keep h0 h0 [a1] := Keep.refl h0 [a1]
  have go0 : Goes p e below s₁ (G_pc32 m a1 p3) s₁ (mkF m 0 #[vR a1, vI (2 : Int32), vI p3] []) := fun tq kq => castTop (by first | (simp [entryFrame, mkF, argsToLocals, Value.category, vI, vJ, vR, vD, vN, uN, sD, G_pc32]; done) | rfl) kq
  obtain ⟨T201, X201, e201, st201⟩ := getS2 X0 hx hZ hown (host := "") (Or.inl (tw88 hw)) Via.refl e0 (AD.ext O0.2) (g := (mkF m 0 #[vR a1, vI (2 : Int32), vI p3] [])) rfl (hb hby d20_0)
  have go201 : Goes p e below s₁ (G_pc32 m a1 p3) T201 (mkF m 3 #[vR a1, vI (2 : Int32), vI p3] [(.int (1 : Int32))]) := fun tq kq => go0 tq (st201 _ kq)
  have go202 : Goes p e below s₁ (G_pc32 m a1 p3) T201 (mkF m 32 #[vR a1, vI ((2 : Int32) <<< ((1 : Int32) &&& 31)), vI p3] []) := fun tq kq => go201 tq (by
    show Sx p e below T201 (mkF m 3 #[vR a1, vI (2 : Int32), vI p3] [(.int (1 : Int32))]) _
    refine XS.ifYes X201.here hx rfl (pc0 := 3) (pc' := 28) rfl (hb hby d20_3) rfl ((if0 _ _).trans (feq (by decide)).2) (by decide) (by decide) ?_
    refine XS.iloadN X201.here hx rfl (hb hby d20_28) rfl ?_
    show Sx p e below T201 (mkF m 29 #[vR a1, vI (2 : Int32), vI p3] [(.int (2 : Int32))]) _
    refine XS.iconst X201.here hx rfl (hb hby d20_29) ?_
    refine XS.ishl X201.here hx rfl (hb hby d20_30) rfl ?_
    show Sx p e below T201 (mkF m 31 #[vR a1, vI (2 : Int32), vI p3] [(.int ((2 : Int32) <<< ((1 : Int32) &&& 31)))]) _
    refine XS.istoreN X201.here hx rfl (hb hby d20_31) rfl (l' := #[vR a1, vI ((2 : Int32) <<< ((1 : Int32) &&& 31)), vI p3]) rfl ?_
    exact kq)
  rw [show ((2 : Int32) <<< ((1 : Int32) &&& 31)) = (4 : Int32) by decide +kernel] at go202
  have go203 : Goes p e below s₁ (G_pc32 m a1 p3) T201 (mkF m 38 #[vR a1, vI (5 : Int32), vI p3] [(.int p3), (.int (4 : Int32)), (.ref a1)]) := fun tq kq => go202 tq (by
    show Sx p e below T201 (mkF m 32 #[vR a1, vI (4 : Int32), vI p3] []) _
    refine XS.aloadN X201.here hx rfl (hb hby d20_32) rfl rfl ?_
    show Sx p e below T201 (mkF m 33 #[vR a1, vI (4 : Int32), vI p3] [(.ref a1)]) _
    refine XS.iloadN X201.here hx rfl (hb hby d20_33) rfl ?_
    refine XS.iinc X201.here hx rfl (hb hby d20_34) rfl (l' := #[vR a1, vI (5 : Int32), vI p3]) rfl ?_
    show Sx p e below T201 (mkF m 37 #[vR a1, vI (5 : Int32), vI p3] [(.int (4 : Int32)), (.ref a1)]) _
    refine XS.iloadN X201.here hx rfl (hb hby d20_37) rfl ?_
    exact kq)
  obtain ⟨T204, X204, e204, st204⟩ := getS2 X201 hx hZ hown (host := "") (Or.inl (tw89 hw)) Via.refl e201 (HI.ext O0.2) (g := (mkF m 38 #[vR a1, vI (5 : Int32), vI p3] [(.int p3), (.int (4 : Int32)), (.ref a1)])) rfl (hb hby d20_38)
  have go204 : Goes p e below s₁ (G_pc32 m a1 p3) T204 (mkF m 41 #[vR a1, vI (5 : Int32), vI p3] [(.int (0 : Int32)), (.int p3), (.int (4 : Int32)), (.ref a1)]) := fun tq kq => go203 tq (st204 _ kq)
  have go206 : Goes p e below s₁ (G_pc32 m a1 p3) T204 (mkF m 43 #[vR a1, vI (5 : Int32), vI p3] [(.int ((p3 >>> ((0 : Int32) &&& 31)).toInt8.toInt32)), (.int (4 : Int32)), (.ref a1)]) := fun tq kq => go204 tq (by
    show Sx p e below T204 (mkF m 41 #[vR a1, vI (5 : Int32), vI p3] [(.int (0 : Int32)), (.int p3), (.int (4 : Int32)), (.ref a1)]) _
    refine XS.ishr X204.here hx rfl (hb hby d20_41) rfl ?_
    show Sx p e below T204 (mkF m 42 #[vR a1, vI (5 : Int32), vI p3] [(.int (p3 >>> ((0 : Int32) &&& 31))), (.int (4 : Int32)), (.ref a1)]) _
    refine XS.i2b X204.here hx rfl (hb hby d20_42) rfl ?_
    exact kq)
  obtain ⟨cl205, Ar205, q205, S205, N_205, H205, G205⟩ := VA
  have hin205 : ¬ ((4 : Int32) < 0 ∨ cl205.slots.size ≤ ((4 : Int32)).toNatClampNeg) := inb_of S205 ⟨by decide, by decide⟩
  obtain ⟨T207, h207, X207, e207, W207, st207⟩ := stB X204 hx hZ e204 Ar205 (j := (4 : Int32)) hin205 (g := (mkF m 43 #[vR a1, vI (5 : Int32), vI p3] [(.int ((p3 >>> ((0 : Int32) &&& 31)).toInt8.toInt32)), (.int (4 : Int32)), (.ref a1)])) rfl rfl (hb hby d20_43)
  have N207 := Fr.snoc X207 N0 g_a1
  have KP207 : Keep h0 h207 [a1] := KP0.wr W207 (Or.inl (List.mem_of_getElem? (i := 0) rfl))
  have O207 := O0.wr W207 g_a1
  have ZS207 : n0 ≤ h207.size := Nat.le_trans Z0 (Keep.of_wr W207).1
  have V207 : Arv Z h207 a1 kB .byte (6 : Int32) [v0, v1, v2, v3, (.int (nar .byte ((p3 >>> ((0 : Int32) &&& 31)).toInt8.toInt32))), v5] (.int (0 : Int32)) := Arv.set Ar205 q205 S205 N_205 H205 G205 (fits_nar_byte _) W207 4 rfl (Nat.le_of_ble_eq_true rfl)
  have go207 : Goes p e below s₁ (G_pc32 m a1 p3) T207 (mkF m 44 #[vR a1, vI (5 : Int32), vI p3] []) := fun tq kq => go206 tq (st207 _ kq)
  have go208 : Goes p e below s₁ (G_pc32 m a1 p3) T207 (mkF m 47 #[vR a1, vI (5 : Int32), vI p3] [(.int p3), (.int (5 : Int32)), (.ref a1)]) := fun tq kq => go207 tq (by
    show Sx p e below T207 (mkF m 44 #[vR a1, vI (5 : Int32), vI p3] []) _
    refine XS.aloadN X207.here hx rfl (hb hby d20_44) rfl rfl ?_
    show Sx p e below T207 (mkF m 45 #[vR a1, vI (5 : Int32), vI p3] [(.ref a1)]) _
    refine XS.iloadN X207.here hx rfl (hb hby d20_45) rfl ?_
    refine XS.iloadN X207.here hx rfl (hb hby d20_46) rfl ?_
    exact kq)
  obtain ⟨T209, X209, e209, st209⟩ := getS2 X207 hx hZ hown (host := "") (Or.inl (tw90 hw)) Via.refl e207 (LO.ext O207.2) (g := (mkF m 47 #[vR a1, vI (5 : Int32), vI p3] [(.int p3), (.int (5 : Int32)), (.ref a1)])) rfl (hb hby d20_47)
  have go209 : Goes p e below s₁ (G_pc32 m a1 p3) T209 (mkF m 50 #[vR a1, vI (5 : Int32), vI p3] [(.int (8 : Int32)), (.int p3), (.int (5 : Int32)), (.ref a1)]) := fun tq kq => go208 tq (st209 _ kq)
  have go211 : Goes p e below s₁ (G_pc32 m a1 p3) T209 (mkF m 52 #[vR a1, vI (5 : Int32), vI p3] [(.int ((p3 >>> ((8 : Int32) &&& 31)).toInt8.toInt32)), (.int (5 : Int32)), (.ref a1)]) := fun tq kq => go209 tq (by
    show Sx p e below T209 (mkF m 50 #[vR a1, vI (5 : Int32), vI p3] [(.int (8 : Int32)), (.int p3), (.int (5 : Int32)), (.ref a1)]) _
    refine XS.ishr X209.here hx rfl (hb hby d20_50) rfl ?_
    refine XS.i2b X209.here hx rfl (hb hby d20_51) rfl ?_
    exact kq)
  obtain ⟨cl210, Ar210, q210, S210, N_210, H210, G210⟩ := V207
  have hin210 : ¬ ((5 : Int32) < 0 ∨ cl210.slots.size ≤ ((5 : Int32)).toNatClampNeg) := inb_of S210 ⟨by decide, by decide⟩
  obtain ⟨T212, h212, X212, e212, W212, st212⟩ := stB X209 hx hZ e209 Ar210 (j := (5 : Int32)) hin210 (g := (mkF m 52 #[vR a1, vI (5 : Int32), vI p3] [(.int ((p3 >>> ((8 : Int32) &&& 31)).toInt8.toInt32)), (.int (5 : Int32)), (.ref a1)])) rfl rfl (hb hby d20_52)
  have N212 := Fr.snoc X212 N207 g_a1
  have KP212 : Keep h0 h212 [a1] := KP207.wr W212 (Or.inl (List.mem_of_getElem? (i := 0) rfl))
  have O212 := O207.wr W212 g_a1
  have ZS212 : n0 ≤ h212.size := Nat.le_trans ZS207 (Keep.of_wr W212).1
  have V212 : Arv Z h212 a1 kB .byte (6 : Int32) [v0, v1, v2, v3, (.int (nar .byte ((p3 >>> ((0 : Int32) &&& 31)).toInt8.toInt32))), (.int (nar .byte ((p3 >>> ((8 : Int32) &&& 31)).toInt8.toInt32)))] (.int (0 : Int32)) := Arv.set Ar210 q210 S210 N_210 H210 G210 (fits_nar_byte _) W212 5 rfl (Nat.le_of_ble_eq_true rfl)
  have go212 : Goes p e below s₁ (G_pc32 m a1 p3) T212 (mkF m 53 #[vR a1, vI (5 : Int32), vI p3] []) := fun tq kq => go211 tq (st212 _ kq)
  have VQ := V212
  rw [own_lo, own_hi] at VQ
  obtain ⟨fs, hr, hrun, hended, hW, hsame⟩ := X212.leave (v := none) (fun _ => rfl)
  refine ⟨_, _, go212 _ ?_, hrun, hended, _, _, rfl, ?_, ⟨_, rfl⟩, hW, hsame.mono (by decide) (by decide)⟩
  · exact X212.returnOut hx Bd.returns (hb hby d20_53) hr
  · show Q_pc32 Z a1 p3 kB v0 v1 v2 v3 v4 v5 h0 n0 _ T212.heap _
    rw [e212]
    exact ⟨rfl, N212, KP212, VQ⟩
abbrev G_tb3 (m : MethodId) (a1 : Addr) : JFrame := (entryFrame m #[(.ref a1), (.int (0 : Int32)), (.int (3 : Int32))] 5)
def Q_tb3 (Z : State) (a1 : Addr) (c0 c1 c2 : Int32) (kC : ClassId) (h0 : Heap) (n0 : Nat) (v : Option Value) (h : Heap) (L : List Loc) : Prop := ∃ (t : Addr) (k : ClassId), v = some (.ref t) ∧ Fr n0 L ∧ Keep h0 h [] ∧ h0.size ≤ t ∧ Arv Z h t k .byte (6 : Int32) [(.int (StrChars.lo8 c0)), (.int (StrChars.hi8 c0)), (.int (StrChars.lo8 c1)), (.int (StrChars.hi8 c1)), (.int (StrChars.lo8 c2)), (.int (StrChars.hi8 c2))] (.int (0 : Int32))
set_option maxRecDepth 65536 in
set_option maxHeartbeats 40000000 in
theorem tb3 (l : Launch) (Z : State) (a0 : Array Value) (hw : ∀ d ∈ tables_1, d.before a0 Z = true) (ws : List Jvm.Cond) (a1 : Addr) (c0 c1 c2 : Int32) (kC : ClassId) (h0 : Heap) (n0 : Nat) (Z0 : n0 ≤ h0.size) (O0 : Old Z n0 h0) (AD : Sta Z Z.heap "java/lang/StringUTF16" "$assertionsDisabled" "Z" (.int (1 : Int32))) (HI : Sta Z Z.heap "java/lang/StringUTF16" "HI_BYTE_SHIFT" "I" (.int (0 : Int32))) (LO : Sta Z Z.heap "java/lang/StringUTF16" "LO_BYTE_SHIFT" "I" (.int (8 : Int32))) (VA : Arv Z h0 a1 kC .char (3 : Int32) [(.int c0), (.int c1), (.int c2)] (.int (0 : Int32))) :
    MetFree l (⟨"java/lang/StringUTF16", "toBytes", "([CII)[B"⟩ : MethodName) (head1 (Jvm.Cond.code (⟨"java/lang/StringUTF16", "toBytes", "([CII)[B"⟩ : MethodName) jdk_52_method_14_code 5 (some (.array .byte)) :: ws) ({ frames := 2, cells := 1, slots := 6, locals := 24 } : Room)) (fun a U => a = #[(.ref a1), (.int (0 : Int32)), (.int (3 : Int32))] ∧ Z.Warmed39 U.vm ∧ U.heap = h0) (fun _ _ _ _ _ => True) (fun _ U o U' => ∃ v L, o = .returned v ∧ Q_tb3 Z a1 c0 c1 c2 kC h0 n0 v U'.heap L ∧ FrameEnd U o U' L ({ frames := 2, cells := 1, slots := 6, locals := 24 } : Room).cells ({ frames := 2, cells := 1, slots := 6, locals := 24 } : Room).slots) := by
  refine MetFree.of_bodySF (plainFor_of_name pn_java_lang_StringUTF16) hisR ?_
  intro p e s m args below meth c s₁ Bd hml0 hP hK
  obtain ⟨rfl, hZ, hh⟩ := hP
  have hx := Bd.exec
  have hby := Bd.bytes
  have hml : c.maxLocals = 5 := hml0
  have hown : s.vm.findClass "java/lang/StringUTF16" = some m.cls := findClass_of_methodNamed Bd.named
  have hnm := (name_of_methodNamed Bd.named Bd.method).1
  have X0 : Stand p l e ({ frames := 2, cells := 1, slots := 6, locals := 24 } : Room) s m #[(.ref a1), (.int (0 : Int32)), (.int (3 : Int32))] below meth c s₁ [] 0 0 := Stand.of_body Bd
  have e0 : s₁.heap = h0 := by rw [← hh, Bd.state]; rfl
  have N0 := Fr.nil n0
  have KP0 : Keep h0 h0 [] := Keep.refl h0 []
  have go0 : Goes p e below s₁ (G_tb3 m a1) s₁ (mkF m 0 #[vR a1, vI (0 : Int32), vI (3 : Int32), uN, uN] []) := fun tq kq => castTop (by first | (simp [entryFrame, mkF, argsToLocals, Value.category, vI, vJ, vR, vD, vN, uN, sD, G_tb3]; done) | rfl) kq
  have go213 : Goes p e below s₁ (G_tb3 m a1) s₁ (mkF m 1 #[vR a1, vI (0 : Int32), vI (3 : Int32), uN, uN] [(.int (3 : Int32))]) := fun tq kq => go0 tq (by
    show Sx p e below s₁ (mkF m 0 #[vR a1, vI (0 : Int32), vI (3 : Int32), uN, uN] []) _
    refine XS.iloadN X0.here hx rfl (hb hby d17_0) rfl ?_
    exact kq)
  obtain ⟨vv214, _, ⟨T214, L214, k214, n214⟩, -, X214, ⟨Lc214, hQ214, l214, y214, z214⟩, st214⟩ := Jvm.LawKit.callS X0 hx (y := (⟨"java/lang/StringUTF16", "newBytesFor", "(I)[B"⟩ : MethodName)) hown (mvT hZ (tw78 hw)) (mvT hZ (tw79 hw)) (mvT hZ (tw70 hw)) (mvT hZ (tw80 hw)) (by decide) (backOf (W := 0) (nbf3 l Z a0 hw []   h0 n0 Z0 ) hZ (tw80 hw) (tw70 hw) (by decide) (by decide)) (g := (mkF m 1 #[vR a1, vI (0 : Int32), vI (3 : Int32), uN, uN] [(.int (3 : Int32))])) rfl (by rw [hml]; rfl) (argsL := [(.int (3 : Int32))]) (rest := []) (lenOf pd_1 rfl) rfl (by show 2 * 0 + _ ≤ _; exact Nat.le_of_eq rfl) (hb hby d17_1) (fun _ _ => ⟨rfl, e0, (by decide : 0 + 1 ≤ _), (by decide : 0 + 6 ≤ _)⟩)
  dsimp only [Pt.U, Pt.locs, Pt.cells, Pt.slots] at X214 l214 y214 z214 st214 hQ214
  subst l214 y214 z214
  obtain ⟨t214, kt214, rfl, Nq214, K214, sz214, V214⟩ := hQ214
  have N214 := Fr.app N0 Nq214
  have ZS214 : n0 ≤ T214.heap.size := Nat.le_trans Z0 K214.1
  have KP214 : Keep h0 T214.heap [] := KP0.trans K214 all0
  have O214 := O0.keep K214 all0
  have ne215 : a1 ≠ t214 := Nat.ne_of_lt (Nat.lt_of_lt_of_le VA.lt sz214)
  have go214 : Goes p e below s₁ (G_tb3 m a1) T214 (mkF m 4 #[vR a1, vI (0 : Int32), vI (3 : Int32), uN, uN] [(.ref t214)]) := fun tq kq => go213 tq (st214 _ kq)
  have g_t214 : n0 ≤ t214 := Nat.le_trans Z0 sz214
  have sz_t214 : h0.size ≤ t214 := sz214
  have go216 : Goes p e below s₁ (G_tb3 m a1) T214 (mkF m 11 #[vR a1, vI (0 : Int32), vI (3 : Int32), vR t214, vI (0 : Int32)] [(.int (3 : Int32)), (.int (0 : Int32))]) := fun tq kq => go214 tq (by
    show Sx p e below T214 (mkF m 4 #[vR a1, vI (0 : Int32), vI (3 : Int32), uN, uN] [(.ref t214)]) _
    refine XS.astoreN X214.here hx rfl (hb hby d17_4) rfl rfl (l' := #[vR a1, vI (0 : Int32), vI (3 : Int32), vR t214, uN]) rfl ?_
    show Sx p e below T214 (mkF m 5 #[vR a1, vI (0 : Int32), vI (3 : Int32), vR t214, uN] []) _
    refine XS.iconst X214.here hx rfl (hb hby d17_5) ?_
    refine XS.istore X214.here hx rfl (hb hby d17_6) rfl (l' := #[vR a1, vI (0 : Int32), vI (3 : Int32), vR t214, vI (0 : Int32)]) rfl ?_
    show Sx p e below T214 (mkF m 8 #[vR a1, vI (0 : Int32), vI (3 : Int32), vR t214, vI (0 : Int32)] []) _
    refine XS.iload X214.here hx rfl (hb hby d17_8) rfl ?_
    refine XS.iloadN X214.here hx rfl (hb hby d17_10) rfl ?_
    exact kq)
  have go217 : Goes p e below s₁ (G_tb3 m a1) T214 (mkF m 19 #[vR a1, vI (0 : Int32), vI (3 : Int32), vR t214, vI (0 : Int32)] [(.int (0 : Int32)), (.ref a1), (.int (0 : Int32)), (.ref t214)]) := fun tq kq => go216 tq (by
    show Sx p e below T214 (mkF m 11 #[vR a1, vI (0 : Int32), vI (3 : Int32), vR t214, vI (0 : Int32)] [(.int (3 : Int32)), (.int (0 : Int32))]) _
    refine XS.icmpNo X214.here hx rfl (hb hby d17_11) rfl (tlt (by decide)).2.1 ?_
    refine XS.aloadN X214.here hx rfl (hb hby d17_14) rfl rfl ?_
    show Sx p e below T214 (mkF m 15 #[vR a1, vI (0 : Int32), vI (3 : Int32), vR t214, vI (0 : Int32)] [(.ref t214)]) _
    refine XS.iload X214.here hx rfl (hb hby d17_15) rfl ?_
    refine XS.aloadN X214.here hx rfl (hb hby d17_17) rfl rfl ?_
    show Sx p e below T214 (mkF m 18 #[vR a1, vI (0 : Int32), vI (3 : Int32), vR t214, vI (0 : Int32)] [(.ref a1), (.int (0 : Int32)), (.ref t214)]) _
    refine XS.iloadN X214.here hx rfl (hb hby d17_18) rfl ?_
    exact kq)
  obtain ⟨cl218, Ar218, q218, S218, N_218, H218, G218⟩ := id ((VA.keep K214 nin0))
  have hin218 : ¬ ((0 : Int32) < 0 ∨ cl218.slots.size ≤ ((0 : Int32)).toNatClampNeg) := inb_of S218 ⟨by decide, by decide⟩
  have hat218 := Has.at H218 hin218 (v := (.int c0)) rfl
  have go219 : Goes p e below s₁ (G_tb3 m a1) T214 (mkF m 20 #[vR a1, vI (0 : Int32), vI (3 : Int32), vR t214, vI (0 : Int32)] [(.int c0), (.int (0 : Int32)), (.ref t214)]) := fun tq kq => go217 tq (by
    show Sx p e below T214 (mkF m 19 #[vR a1, vI (0 : Int32), vI (3 : Int32), vR t214, vI (0 : Int32)] [(.int (0 : Int32)), (.ref a1), (.int (0 : Int32)), (.ref t214)]) _
    refine X214.caload hx (j := (0 : Int32)) (v := (.int c0)) Ar218.1 (State.isArrayOf_alike hZ.alike Ar218.2.1) Ar218.2.2 hin218 hat218 (g := (mkF m 19 #[vR a1, vI (0 : Int32), vI (3 : Int32), vR t214, vI (0 : Int32)] [(.int (0 : Int32)), (.ref a1), (.int (0 : Int32)), (.ref t214)])) rfl rfl (hb hby d17_19) _ ?_
    exact kq)
  obtain ⟨vv220, _, ⟨T220, L220, k220, n220⟩, -, X220, ⟨Lc220, hQ220, l220, y220, z220⟩, st220⟩ := Jvm.LawKit.callS X214 hx (y := (⟨"java/lang/StringUTF16", "putChar", "([BII)V"⟩ : MethodName)) hown (mvT hZ (tw85 hw)) (mvT hZ (tw86 hw)) (mvT hZ (tw70 hw)) (mvT hZ (tw87 hw)) (by decide) (backOf (W := 0) (pc30 l Z a0 hw [] t214 c0 kt214 (.int (0 : Int32)) (.int (0 : Int32)) (.int (0 : Int32)) (.int (0 : Int32)) (.int (0 : Int32)) (.int (0 : Int32)) T214.heap n0 ZS214 O214 g_t214 AD HI LO V214) hZ (tw87 hw) (tw70 hw) (by decide) (by decide)) (g := (mkF m 20 #[vR a1, vI (0 : Int32), vI (3 : Int32), vR t214, vI (0 : Int32)] [(.int c0), (.int (0 : Int32)), (.ref t214)])) rfl (by rw [hml]; rfl) (argsL := [(.ref t214), (.int (0 : Int32)), (.int c0)]) (rest := []) (lenOf pd_2 rfl) rfl (by show 2 * 0 + _ ≤ _; exact Nat.le_of_eq rfl) (hb hby d17_20) (fun _ _ => ⟨rfl, rfl, (by decide : 1 + 0 ≤ _), (by decide : 6 + 0 ≤ _)⟩)
  dsimp only [Pt.U, Pt.locs, Pt.cells, Pt.slots] at X220 l220 y220 z220 st220 hQ220
  subst l220 y220 z220
  obtain ⟨rfl, Nq220, K220, V220⟩ := hQ220
  have N220 := Fr.app N214 Nq220
  have ZS220 : n0 ≤ T220.heap.size := Nat.le_trans ZS214 K220.1
  have KP220 : Keep h0 T220.heap [] := KP214.trans K220 (allS (Or.inr sz_t214) all0)
  have O220 := O214.keep K220 (allS g_t214 all0)
  have go220 : Goes p e below s₁ (G_tb3 m a1) T220 (mkF m 23 #[vR a1, vI (0 : Int32), vI (3 : Int32), vR t214, vI (0 : Int32)] []) := fun tq kq => go219 tq (st220 _ kq)
  have go221 : Goes p e below s₁ (G_tb3 m a1) T220 (mkF m 11 #[vR a1, vI (1 : Int32), vI (3 : Int32), vR t214, vI (1 : Int32)] [(.int (3 : Int32)), (.int (1 : Int32))]) := fun tq kq => go220 tq (by
    show Sx p e below T220 (mkF m 23 #[vR a1, vI (0 : Int32), vI (3 : Int32), vR t214, vI (0 : Int32)] []) _
    refine XS.iinc X220.here hx rfl (hb hby d17_23) rfl (l' := #[vR a1, vI (1 : Int32), vI (3 : Int32), vR t214, vI (0 : Int32)]) rfl ?_
    refine XS.iinc X220.here hx rfl (hb hby d17_26) rfl (l' := #[vR a1, vI (1 : Int32), vI (3 : Int32), vR t214, vI (1 : Int32)]) rfl ?_
    show Sx p e below T220 (mkF m 29 #[vR a1, vI (1 : Int32), vI (3 : Int32), vR t214, vI (1 : Int32)] []) _
    refine XS.goto X220.here hx rfl (pc0 := 29) (pc' := 8) rfl (hb hby d17_29) (by decide) (by decide) ?_
    refine XS.iload X220.here hx rfl (hb hby d17_8) rfl ?_
    show Sx p e below T220 (mkF m 10 #[vR a1, vI (1 : Int32), vI (3 : Int32), vR t214, vI (1 : Int32)] [(.int (1 : Int32))]) _
    refine XS.iloadN X220.here hx rfl (hb hby d17_10) rfl ?_
    exact kq)
  have go222 : Goes p e below s₁ (G_tb3 m a1) T220 (mkF m 19 #[vR a1, vI (1 : Int32), vI (3 : Int32), vR t214, vI (1 : Int32)] [(.int (1 : Int32)), (.ref a1), (.int (1 : Int32)), (.ref t214)]) := fun tq kq => go221 tq (by
    show Sx p e below T220 (mkF m 11 #[vR a1, vI (1 : Int32), vI (3 : Int32), vR t214, vI (1 : Int32)] [(.int (3 : Int32)), (.int (1 : Int32))]) _
    refine XS.icmpNo X220.here hx rfl (hb hby d17_11) rfl (tlt (by decide)).2.1 ?_
    show Sx p e below T220 (mkF m 14 #[vR a1, vI (1 : Int32), vI (3 : Int32), vR t214, vI (1 : Int32)] []) _
    refine XS.aloadN X220.here hx rfl (hb hby d17_14) rfl rfl ?_
    refine XS.iload X220.here hx rfl (hb hby d17_15) rfl ?_
    show Sx p e below T220 (mkF m 17 #[vR a1, vI (1 : Int32), vI (3 : Int32), vR t214, vI (1 : Int32)] [(.int (1 : Int32)), (.ref t214)]) _
    refine XS.aloadN X220.here hx rfl (hb hby d17_17) rfl rfl ?_
    refine XS.iloadN X220.here hx rfl (hb hby d17_18) rfl ?_
    exact kq)
  obtain ⟨cl223, Ar223, q223, S223, N_223, H223, G223⟩ := id (((VA.keep K214 nin0).keep K220 (ninS ne215 nin0)))
  have hin223 : ¬ ((1 : Int32) < 0 ∨ cl223.slots.size ≤ ((1 : Int32)).toNatClampNeg) := inb_of S223 ⟨by decide, by decide⟩
  have hat223 := Has.at H223 hin223 (v := (.int c1)) rfl
  have go224 : Goes p e below s₁ (G_tb3 m a1) T220 (mkF m 20 #[vR a1, vI (1 : Int32), vI (3 : Int32), vR t214, vI (1 : Int32)] [(.int c1), (.int (1 : Int32)), (.ref t214)]) := fun tq kq => go222 tq (by
    show Sx p e below T220 (mkF m 19 #[vR a1, vI (1 : Int32), vI (3 : Int32), vR t214, vI (1 : Int32)] [(.int (1 : Int32)), (.ref a1), (.int (1 : Int32)), (.ref t214)]) _
    refine X220.caload hx (j := (1 : Int32)) (v := (.int c1)) Ar223.1 (State.isArrayOf_alike hZ.alike Ar223.2.1) Ar223.2.2 hin223 hat223 (g := (mkF m 19 #[vR a1, vI (1 : Int32), vI (3 : Int32), vR t214, vI (1 : Int32)] [(.int (1 : Int32)), (.ref a1), (.int (1 : Int32)), (.ref t214)])) rfl rfl (hb hby d17_19) _ ?_
    exact kq)
  obtain ⟨vv225, _, ⟨T225, L225, k225, n225⟩, -, X225, ⟨Lc225, hQ225, l225, y225, z225⟩, st225⟩ := Jvm.LawKit.callS X220 hx (y := (⟨"java/lang/StringUTF16", "putChar", "([BII)V"⟩ : MethodName)) hown (mvT hZ (tw85 hw)) (mvT hZ (tw86 hw)) (mvT hZ (tw70 hw)) (mvT hZ (tw87 hw)) (by decide) (backOf (W := 0) (pc31 l Z a0 hw [] t214 c1 kt214 (.int (StrChars.lo8 c0)) (.int (StrChars.hi8 c0)) (.int (0 : Int32)) (.int (0 : Int32)) (.int (0 : Int32)) (.int (0 : Int32)) T220.heap n0 ZS220 O220 g_t214 AD HI LO V220) hZ (tw87 hw) (tw70 hw) (by decide) (by decide)) (g := (mkF m 20 #[vR a1, vI (1 : Int32), vI (3 : Int32), vR t214, vI (1 : Int32)] [(.int c1), (.int (1 : Int32)), (.ref t214)])) rfl (by rw [hml]; rfl) (argsL := [(.ref t214), (.int (1 : Int32)), (.int c1)]) (rest := []) (lenOf pd_2 rfl) rfl (by show 2 * 0 + _ ≤ _; exact Nat.le_of_eq rfl) (hb hby d17_20) (fun _ _ => ⟨rfl, rfl, (by decide : 1 + 0 ≤ _), (by decide : 6 + 0 ≤ _)⟩)
  dsimp only [Pt.U, Pt.locs, Pt.cells, Pt.slots] at X225 l225 y225 z225 st225 hQ225
  subst l225 y225 z225
  obtain ⟨rfl, Nq225, K225, V225⟩ := hQ225
  have N225 := Fr.app N220 Nq225
  have ZS225 : n0 ≤ T225.heap.size := Nat.le_trans ZS220 K225.1
  have KP225 : Keep h0 T225.heap [] := KP220.trans K225 (allS (Or.inr sz_t214) all0)
  have O225 := O220.keep K225 (allS g_t214 all0)
  have go225 : Goes p e below s₁ (G_tb3 m a1) T225 (mkF m 23 #[vR a1, vI (1 : Int32), vI (3 : Int32), vR t214, vI (1 : Int32)] []) := fun tq kq => go224 tq (st225 _ kq)
  have go226 : Goes p e below s₁ (G_tb3 m a1) T225 (mkF m 11 #[vR a1, vI (2 : Int32), vI (3 : Int32), vR t214, vI (2 : Int32)] [(.int (3 : Int32)), (.int (2 : Int32))]) := fun tq kq => go225 tq (by
    show Sx p e below T225 (mkF m 23 #[vR a1, vI (1 : Int32), vI (3 : Int32), vR t214, vI (1 : Int32)] []) _
    refine XS.iinc X225.here hx rfl (hb hby d17_23) rfl (l' := #[vR a1, vI (2 : Int32), vI (3 : Int32), vR t214, vI (1 : Int32)]) rfl ?_
    show Sx p e below T225 (mkF m 26 #[vR a1, vI (2 : Int32), vI (3 : Int32), vR t214, vI (1 : Int32)] []) _
    refine XS.iinc X225.here hx rfl (hb hby d17_26) rfl (l' := #[vR a1, vI (2 : Int32), vI (3 : Int32), vR t214, vI (2 : Int32)]) rfl ?_
    refine XS.goto X225.here hx rfl (pc0 := 29) (pc' := 8) rfl (hb hby d17_29) (by decide) (by decide) ?_
    show Sx p e below T225 (mkF m 8 #[vR a1, vI (2 : Int32), vI (3 : Int32), vR t214, vI (2 : Int32)] []) _
    refine XS.iload X225.here hx rfl (hb hby d17_8) rfl ?_
    refine XS.iloadN X225.here hx rfl (hb hby d17_10) rfl ?_
    exact kq)
  have go227 : Goes p e below s₁ (G_tb3 m a1) T225 (mkF m 19 #[vR a1, vI (2 : Int32), vI (3 : Int32), vR t214, vI (2 : Int32)] [(.int (2 : Int32)), (.ref a1), (.int (2 : Int32)), (.ref t214)]) := fun tq kq => go226 tq (by
    show Sx p e below T225 (mkF m 11 #[vR a1, vI (2 : Int32), vI (3 : Int32), vR t214, vI (2 : Int32)] [(.int (3 : Int32)), (.int (2 : Int32))]) _
    refine XS.icmpNo X225.here hx rfl (hb hby d17_11) rfl (tlt (by decide)).2.1 ?_
    refine XS.aloadN X225.here hx rfl (hb hby d17_14) rfl rfl ?_
    show Sx p e below T225 (mkF m 15 #[vR a1, vI (2 : Int32), vI (3 : Int32), vR t214, vI (2 : Int32)] [(.ref t214)]) _
    refine XS.iload X225.here hx rfl (hb hby d17_15) rfl ?_
    refine XS.aloadN X225.here hx rfl (hb hby d17_17) rfl rfl ?_
    show Sx p e below T225 (mkF m 18 #[vR a1, vI (2 : Int32), vI (3 : Int32), vR t214, vI (2 : Int32)] [(.ref a1), (.int (2 : Int32)), (.ref t214)]) _
    refine XS.iloadN X225.here hx rfl (hb hby d17_18) rfl ?_
    exact kq)
  have f229 := (((VA.keep K214 nin0).keep K220 (ninS ne215 nin0)).keep K225 (ninS ne215 nin0))
  obtain ⟨cl228, Ar228, q228, S228, N_228, H228, G228⟩ := id (f229)
  have hin228 : ¬ ((2 : Int32) < 0 ∨ cl228.slots.size ≤ ((2 : Int32)).toNatClampNeg) := inb_of S228 ⟨by decide, by decide⟩
  have hat228 := Has.at H228 hin228 (v := (.int c2)) rfl
  have go230 : Goes p e below s₁ (G_tb3 m a1) T225 (mkF m 20 #[vR a1, vI (2 : Int32), vI (3 : Int32), vR t214, vI (2 : Int32)] [(.int c2), (.int (2 : Int32)), (.ref t214)]) := fun tq kq => go227 tq (by
    show Sx p e below T225 (mkF m 19 #[vR a1, vI (2 : Int32), vI (3 : Int32), vR t214, vI (2 : Int32)] [(.int (2 : Int32)), (.ref a1), (.int (2 : Int32)), (.ref t214)]) _
    refine X225.caload hx (j := (2 : Int32)) (v := (.int c2)) Ar228.1 (State.isArrayOf_alike hZ.alike Ar228.2.1) Ar228.2.2 hin228 hat228 (g := (mkF m 19 #[vR a1, vI (2 : Int32), vI (3 : Int32), vR t214, vI (2 : Int32)] [(.int (2 : Int32)), (.ref a1), (.int (2 : Int32)), (.ref t214)])) rfl rfl (hb hby d17_19) _ ?_
    exact kq)
  obtain ⟨vv231, _, ⟨T231, L231, k231, n231⟩, -, X231, ⟨Lc231, hQ231, l231, y231, z231⟩, st231⟩ := Jvm.LawKit.callS X225 hx (y := (⟨"java/lang/StringUTF16", "putChar", "([BII)V"⟩ : MethodName)) hown (mvT hZ (tw85 hw)) (mvT hZ (tw86 hw)) (mvT hZ (tw70 hw)) (mvT hZ (tw87 hw)) (by decide) (backOf (W := 0) (pc32 l Z a0 hw [] t214 c2 kt214 (.int (StrChars.lo8 c0)) (.int (StrChars.hi8 c0)) (.int (StrChars.lo8 c1)) (.int (StrChars.hi8 c1)) (.int (0 : Int32)) (.int (0 : Int32)) T225.heap n0 ZS225 O225 g_t214 AD HI LO V225) hZ (tw87 hw) (tw70 hw) (by decide) (by decide)) (g := (mkF m 20 #[vR a1, vI (2 : Int32), vI (3 : Int32), vR t214, vI (2 : Int32)] [(.int c2), (.int (2 : Int32)), (.ref t214)])) rfl (by rw [hml]; rfl) (argsL := [(.ref t214), (.int (2 : Int32)), (.int c2)]) (rest := []) (lenOf pd_2 rfl) rfl (by show 2 * 0 + _ ≤ _; exact Nat.le_of_eq rfl) (hb hby d17_20) (fun _ _ => ⟨rfl, rfl, (by decide : 1 + 0 ≤ _), (by decide : 6 + 0 ≤ _)⟩)
  dsimp only [Pt.U, Pt.locs, Pt.cells, Pt.slots] at X231 l231 y231 z231 st231 hQ231
  subst l231 y231 z231
  obtain ⟨rfl, Nq231, K231, V231⟩ := hQ231
  have N231 := Fr.app N225 Nq231
  have ZS231 : n0 ≤ T231.heap.size := Nat.le_trans ZS225 K231.1
  have KP231 : Keep h0 T231.heap [] := KP225.trans K231 (allS (Or.inr sz_t214) all0)
  have O231 := O225.keep K231 (allS g_t214 all0)
  have go231 : Goes p e below s₁ (G_tb3 m a1) T231 (mkF m 23 #[vR a1, vI (2 : Int32), vI (3 : Int32), vR t214, vI (2 : Int32)] []) := fun tq kq => go230 tq (st231 _ kq)
  have go232 : Goes p e below s₁ (G_tb3 m a1) T231 (mkF m 11 #[vR a1, vI (3 : Int32), vI (3 : Int32), vR t214, vI (3 : Int32)] [(.int (3 : Int32)), (.int (3 : Int32))]) := fun tq kq => go231 tq (by
    show Sx p e below T231 (mkF m 23 #[vR a1, vI (2 : Int32), vI (3 : Int32), vR t214, vI (2 : Int32)] []) _
    refine XS.iinc X231.here hx rfl (hb hby d17_23) rfl (l' := #[vR a1, vI (3 : Int32), vI (3 : Int32), vR t214, vI (2 : Int32)]) rfl ?_
    refine XS.iinc X231.here hx rfl (hb hby d17_26) rfl (l' := #[vR a1, vI (3 : Int32), vI (3 : Int32), vR t214, vI (3 : Int32)]) rfl ?_
    show Sx p e below T231 (mkF m 29 #[vR a1, vI (3 : Int32), vI (3 : Int32), vR t214, vI (3 : Int32)] []) _
    refine XS.goto X231.here hx rfl (pc0 := 29) (pc' := 8) rfl (hb hby d17_29) (by decide) (by decide) ?_
    refine XS.iload X231.here hx rfl (hb hby d17_8) rfl ?_
    show Sx p e below T231 (mkF m 10 #[vR a1, vI (3 : Int32), vI (3 : Int32), vR t214, vI (3 : Int32)] [(.int (3 : Int32))]) _
    refine XS.iloadN X231.here hx rfl (hb hby d17_10) rfl ?_
    exact kq)
  have go233 : Goes p e below s₁ (G_tb3 m a1) T231 (mkF m 33 #[vR a1, vI (3 : Int32), vI (3 : Int32), vR t214, vI (3 : Int32)] [(.ref t214)]) := fun tq kq => go232 tq (by
    show Sx p e below T231 (mkF m 11 #[vR a1, vI (3 : Int32), vI (3 : Int32), vR t214, vI (3 : Int32)] [(.int (3 : Int32)), (.int (3 : Int32))]) _
    refine XS.icmpYes X231.here hx rfl (pc0 := 11) (pc' := 32) rfl (hb hby d17_11) rfl (flt (by decide)).2.1 (by decide) (by decide) ?_
    show Sx p e below T231 (mkF m 32 #[vR a1, vI (3 : Int32), vI (3 : Int32), vR t214, vI (3 : Int32)] []) _
    refine XS.aloadN X231.here hx rfl (hb hby d17_32) rfl rfl ?_
    exact kq)
  obtain ⟨fs, hr, hrun, hended, hW, hsame⟩ := X231.leave (v := some (.ref t214)) (fun h => by rw [Bd.returns] at h; cases h)
  refine ⟨_, _, go233 _ ?_, hrun, hended, _, _, rfl, ?_, ⟨_, rfl⟩, hW, hsame.mono (by decide) (by decide)⟩
  · jvm_step X231.here [X231.here.top, hx, (hb hby d17_33), X231.method', Bd.returns, Value.isRef, FieldType.isReference]
    first | (intro acts; rw [hr _ acts rfl rfl rfl]) | rw [hr _ _ rfl rfl rfl]
    exact Steps.refl _
  · show Q_tb3 Z a1 c0 c1 c2 kC h0 n0 _ T231.heap _
    exact ⟨t214, kt214, rfl, N231, KP231, sz_t214, V231⟩
abbrev G_cx3 (m : MethodId) (a1 : Addr) (a3 : Addr) : JFrame := (entryFrame m #[(.ref a1), (.int (0 : Int32)), (.ref a3), (.int (0 : Int32)), (.int (3 : Int32))] 7)
def Q_cx3 (Z : State) (a1 : Addr) (a3 : Addr) (c0 c1 c2 : Int32) (kC kB : ClassId) (h0 : Heap) (n0 : Nat) (v : Option Value) (h : Heap) (L : List Loc) : Prop := ∃ k : Nat, k < 3 ∧ v = some (.int (Int32.ofNat k)) ∧ Fr n0 L ∧ Keep h0 h [a3] ∧ (255 : Int32) < ([c0, c1, c2] : List Int32).getD k 0
set_option maxRecDepth 65536 in
set_option maxHeartbeats 40000000 in
theorem cx3 (l : Launch) (Z : State) (a0 : Array Value) (hw : ∀ d ∈ tables_1, d.before a0 Z = true) (ws : List Jvm.Cond) (a1 : Addr) (a3 : Addr) (c0 c1 c2 : Int32) (kC kB : ClassId) (h0 : Heap) (n0 : Nat) (Z0 : n0 ≤ h0.size) (g_a3 : n0 ≤ a3) (VA : Arv Z h0 a1 kC .char (3 : Int32) [(.int c0), (.int c1), (.int c2)] (.int (0 : Int32))) (VB : Arv Z h0 a3 kB .byte (3 : Int32) [(.int (0 : Int32)), (.int (0 : Int32)), (.int (0 : Int32))] (.int (0 : Int32))) (ne13 : a1 ≠ a3) (hbad : ∃ c ∈ ([c0, c1, c2] : List Int32), (255 : Int32) < c) :
    MetFree l (⟨"java/lang/StringUTF16", "compress", "([CI[BII)I"⟩ : MethodName) (head1 (Jvm.Cond.code (⟨"java/lang/StringUTF16", "compress", "([CI[BII)I"⟩ : MethodName) jdk_52_method_21_code 7 (some .int) :: ws) ({ frames := 0, cells := 0, slots := 0, locals := 0 } : Room)) (fun a U => a = #[(.ref a1), (.int (0 : Int32)), (.ref a3), (.int (0 : Int32)), (.int (3 : Int32))] ∧ Z.Warmed39 U.vm ∧ U.heap = h0) (fun _ _ _ _ _ => True) (fun _ U o U' => ∃ v L, o = .returned v ∧ Q_cx3 Z a1 a3 c0 c1 c2 kC kB h0 n0 v U'.heap L ∧ FrameEnd U o U' L ({ frames := 0, cells := 0, slots := 0, locals := 0 } : Room).cells ({ frames := 0, cells := 0, slots := 0, locals := 0 } : Room).slots) := by
  refine MetFree.of_bodySF (plainFor_of_name pn_java_lang_StringUTF16) hisR ?_
  intro p e s m args below meth c s₁ Bd hml0 hP hK
  obtain ⟨rfl, hZ, hh⟩ := hP
  have hx := Bd.exec
  have hby := Bd.bytes
  have hml : c.maxLocals = 7 := hml0
  have hown : s.vm.findClass "java/lang/StringUTF16" = some m.cls := findClass_of_methodNamed Bd.named
  have hnm := (name_of_methodNamed Bd.named Bd.method).1
  have X0 : Stand p l e ({ frames := 0, cells := 0, slots := 0, locals := 0 } : Room) s m #[(.ref a1), (.int (0 : Int32)), (.ref a3), (.int (0 : Int32)), (.int (3 : Int32))] below meth c s₁ [] 0 0 := Stand.of_body Bd
  have e0 : s₁.heap = h0 := by rw [← hh, Bd.state]; rfl
  have N0 := Fr.nil n0
  have KP0 : Keep h0 h0 [a3] := Keep.refl h0 [a3]
  have go0 : Goes p e below s₁ (G_cx3 m a1 a3) s₁ (mkF m 0 #[vR a1, vI (0 : Int32), vR a3, vI (0 : Int32), vI (3 : Int32), uN, uN] []) := fun tq kq => castTop (by first | (simp [entryFrame, mkF, argsToLocals, Value.category, vI, vJ, vR, vD, vN, uN, sD, G_cx3]; done) | rfl) kq
  have go234 : Goes p e below s₁ (G_cx3 m a1 a3) s₁ (mkF m 7 #[vR a1, vI (0 : Int32), vR a3, vI (0 : Int32), vI (3 : Int32), vI (0 : Int32), uN] [(.int (3 : Int32)), (.int (0 : Int32))]) := fun tq kq => go0 tq (by
    show Sx p e below s₁ (mkF m 0 #[vR a1, vI (0 : Int32), vR a3, vI (0 : Int32), vI (3 : Int32), uN, uN] []) _
    refine XS.iconst X0.here hx rfl (hb hby d16_0) ?_
    refine XS.istore X0.here hx rfl (hb hby d16_1) rfl (l' := #[vR a1, vI (0 : Int32), vR a3, vI (0 : Int32), vI (3 : Int32), vI (0 : Int32), uN]) rfl ?_
    show Sx p e below s₁ (mkF m 3 #[vR a1, vI (0 : Int32), vR a3, vI (0 : Int32), vI (3 : Int32), vI (0 : Int32), uN] []) _
    refine XS.iload X0.here hx rfl (hb hby d16_3) rfl ?_
    refine XS.iload X0.here hx rfl (hb hby d16_5) rfl ?_
    exact kq)
  have go235 : Goes p e below s₁ (G_cx3 m a1 a3) s₁ (mkF m 12 #[vR a1, vI (0 : Int32), vR a3, vI (0 : Int32), vI (3 : Int32), vI (0 : Int32), uN] [(.int (0 : Int32)), (.ref a1)]) := fun tq kq => go234 tq (by
    show Sx p e below s₁ (mkF m 7 #[vR a1, vI (0 : Int32), vR a3, vI (0 : Int32), vI (3 : Int32), vI (0 : Int32), uN] [(.int (3 : Int32)), (.int (0 : Int32))]) _
    refine XS.icmpNo X0.here hx rfl (hb hby d16_7) rfl (tlt (by decide)).2.1 ?_
    refine XS.aloadN X0.here hx rfl (hb hby d16_10) rfl rfl ?_
    show Sx p e below s₁ (mkF m 11 #[vR a1, vI (0 : Int32), vR a3, vI (0 : Int32), vI (3 : Int32), vI (0 : Int32), uN] [(.ref a1)]) _
    refine XS.iloadN X0.here hx rfl (hb hby d16_11) rfl ?_
    exact kq)
  obtain ⟨cl236, Ar236, q236, S236, N_236, H236, G236⟩ := id (VA)
  have hin236 : ¬ ((0 : Int32) < 0 ∨ cl236.slots.size ≤ ((0 : Int32)).toNatClampNeg) := inb_of S236 ⟨by decide, by decide⟩
  have hat236 := Has.at H236 hin236 (v := (.int c0)) rfl
  have go237 : Goes p e below s₁ (G_cx3 m a1 a3) s₁ (mkF m 20 #[vR a1, vI (0 : Int32), vR a3, vI (0 : Int32), vI (3 : Int32), vI (0 : Int32), vI c0] [(.int (255 : Int32)), (.int c0)]) := fun tq kq => go235 tq (by
    show Sx p e below s₁ (mkF m 12 #[vR a1, vI (0 : Int32), vR a3, vI (0 : Int32), vI (3 : Int32), vI (0 : Int32), uN] [(.int (0 : Int32)), (.ref a1)]) _
    refine X0.caload hx (j := (0 : Int32)) (v := (.int c0)) (by rw [e0]; exact Ar236.1) (State.isArrayOf_alike hZ.alike Ar236.2.1) Ar236.2.2 hin236 hat236 (g := (mkF m 12 #[vR a1, vI (0 : Int32), vR a3, vI (0 : Int32), vI (3 : Int32), vI (0 : Int32), uN] [(.int (0 : Int32)), (.ref a1)])) rfl rfl (hb hby d16_12) _ ?_
    show Sx p e below s₁ (mkF m 13 #[vR a1, vI (0 : Int32), vR a3, vI (0 : Int32), vI (3 : Int32), vI (0 : Int32), uN] [(.int c0)]) _
    refine XS.istore X0.here hx rfl (hb hby d16_13) rfl (l' := #[vR a1, vI (0 : Int32), vR a3, vI (0 : Int32), vI (3 : Int32), vI (0 : Int32), vI c0]) rfl ?_
    refine XS.iload X0.here hx rfl (hb hby d16_15) rfl ?_
    show Sx p e below s₁ (mkF m 17 #[vR a1, vI (0 : Int32), vR a3, vI (0 : Int32), vI (3 : Int32), vI (0 : Int32), vI c0] [(.int c0)]) _
    refine XS.sipush X0.here hx rfl (hb hby d16_17) ?_
    exact kq)
  by_cases hq0 : (255 : Int32) < c0
  · have go238 : Goes p e below s₁ (G_cx3 m a1 a3) s₁ (mkF m 25 #[vR a1, vI (0 : Int32), vR a3, vI (0 : Int32), vI (3 : Int32), vI (0 : Int32), vI c0] [(.int (0 : Int32))]) := fun tq kq => go237 tq (by
      show Sx p e below s₁ (mkF m 20 #[vR a1, vI (0 : Int32), vR a3, vI (0 : Int32), vI (3 : Int32), vI (0 : Int32), vI c0] [(.int (255 : Int32)), (.int c0)]) _
      refine XS.icmpNo X0.here hx rfl (hb hby d16_20) rfl (tlt hq0).2.2.2 ?_
      show Sx p e below s₁ (mkF m 23 #[vR a1, vI (0 : Int32), vR a3, vI (0 : Int32), vI (3 : Int32), vI (0 : Int32), vI c0] []) _
      refine XS.iload X0.here hx rfl (hb hby d16_23) rfl ?_
      exact kq)
    obtain ⟨fs, hr, hrun, hended, hW, hsame⟩ := X0.leave (v := some (.int (0 : Int32))) (fun h => by rw [Bd.returns] at h; cases h)
    refine ⟨_, _, go238 _ ?_, hrun, hended, _, _, rfl, ?_, ⟨_, rfl⟩, hW, hsame.mono (by decide) (by decide)⟩
    · exact retI X0 hx Bd.returns (hb hby d16_25) hr
    · show Q_cx3 Z a1 a3 c0 c1 c2 kC kB h0 n0 _ s₁.heap _
      rw [e0]
      exact ⟨0, by decide, rfl, N0, KP0, (show (255 : Int32) < ([c0, c1, c2] : List Int32).getD 0 0 from hq0)⟩
  · have go240 : Goes p e below s₁ (G_cx3 m a1 a3) s₁ (mkF m 31 #[vR a1, vI (0 : Int32), vR a3, vI (0 : Int32), vI (3 : Int32), vI (0 : Int32), vI c0] [(.int (c0.toInt8.toInt32)), (.int (0 : Int32)), (.ref a3)]) := fun tq kq => go237 tq (by
      show Sx p e below s₁ (mkF m 20 #[vR a1, vI (0 : Int32), vR a3, vI (0 : Int32), vI (3 : Int32), vI (0 : Int32), vI c0] [(.int (255 : Int32)), (.int c0)]) _
      refine XS.icmpYes X0.here hx rfl (pc0 := 20) (pc' := 26) rfl (hb hby d16_20) rfl (flt hq0).2.2.2 (by decide) (by decide) ?_
      show Sx p e below s₁ (mkF m 26 #[vR a1, vI (0 : Int32), vR a3, vI (0 : Int32), vI (3 : Int32), vI (0 : Int32), vI c0] []) _
      refine XS.aloadN X0.here hx rfl (hb hby d16_26) rfl rfl ?_
      refine XS.iloadN X0.here hx rfl (hb hby d16_27) rfl ?_
      show Sx p e below s₁ (mkF m 28 #[vR a1, vI (0 : Int32), vR a3, vI (0 : Int32), vI (3 : Int32), vI (0 : Int32), vI c0] [(.int (0 : Int32)), (.ref a3)]) _
      refine XS.iload X0.here hx rfl (hb hby d16_28) rfl ?_
      refine XS.i2b X0.here hx rfl (hb hby d16_30) rfl ?_
      exact kq)
    obtain ⟨cl239, Ar239, q239, S239, N_239, H239, G239⟩ := VB
    have hin239 : ¬ ((0 : Int32) < 0 ∨ cl239.slots.size ≤ ((0 : Int32)).toNatClampNeg) := inb_of S239 ⟨by decide, by decide⟩
    obtain ⟨T241, h241, X241, e241, W241, st241⟩ := stB X0 hx hZ e0 Ar239 (j := (0 : Int32)) hin239 (g := (mkF m 31 #[vR a1, vI (0 : Int32), vR a3, vI (0 : Int32), vI (3 : Int32), vI (0 : Int32), vI c0] [(.int (c0.toInt8.toInt32)), (.int (0 : Int32)), (.ref a3)])) rfl rfl (hb hby d16_31)
    have N241 := Fr.snoc X241 N0 g_a3
    have KP241 : Keep h0 h241 [a3] := KP0.wr W241 (Or.inl (List.mem_of_getElem? (i := 0) rfl))
    have ZS241 : n0 ≤ h241.size := Nat.le_trans Z0 (Keep.of_wr W241).1
    have V241 : Arv Z h241 a3 kB .byte (3 : Int32) [(.int (nar .byte (c0.toInt8.toInt32))), (.int (0 : Int32)), (.int (0 : Int32))] (.int (0 : Int32)) := Arv.set Ar239 q239 S239 N_239 H239 G239 (fits_nar_byte _) W241 0 rfl (Nat.le_of_ble_eq_true rfl)
    have go241 : Goes p e below s₁ (G_cx3 m a1 a3) T241 (mkF m 32 #[vR a1, vI (0 : Int32), vR a3, vI (0 : Int32), vI (3 : Int32), vI (0 : Int32), vI c0] []) := fun tq kq => go240 tq (st241 _ kq)
    have go242 : Goes p e below s₁ (G_cx3 m a1 a3) T241 (mkF m 7 #[vR a1, vI (1 : Int32), vR a3, vI (1 : Int32), vI (3 : Int32), vI (1 : Int32), vI c0] [(.int (3 : Int32)), (.int (1 : Int32))]) := fun tq kq => go241 tq (by
      show Sx p e below T241 (mkF m 32 #[vR a1, vI (0 : Int32), vR a3, vI (0 : Int32), vI (3 : Int32), vI (0 : Int32), vI c0] []) _
      refine XS.iinc X241.here hx rfl (hb hby d16_32) rfl (l' := #[vR a1, vI (1 : Int32), vR a3, vI (0 : Int32), vI (3 : Int32), vI (0 : Int32), vI c0]) rfl ?_
      refine XS.iinc X241.here hx rfl (hb hby d16_35) rfl (l' := #[vR a1, vI (1 : Int32), vR a3, vI (1 : Int32), vI (3 : Int32), vI (0 : Int32), vI c0]) rfl ?_
      show Sx p e below T241 (mkF m 38 #[vR a1, vI (1 : Int32), vR a3, vI (1 : Int32), vI (3 : Int32), vI (0 : Int32), vI c0] []) _
      refine XS.iinc X241.here hx rfl (hb hby d16_38) rfl (l' := #[vR a1, vI (1 : Int32), vR a3, vI (1 : Int32), vI (3 : Int32), vI (1 : Int32), vI c0]) rfl ?_
      refine XS.goto X241.here hx rfl (pc0 := 41) (pc' := 3) rfl (hb hby d16_41) (by decide) (by decide) ?_
      show Sx p e below T241 (mkF m 3 #[vR a1, vI (1 : Int32), vR a3, vI (1 : Int32), vI (3 : Int32), vI (1 : Int32), vI c0] []) _
      refine XS.iload X241.here hx rfl (hb hby d16_3) rfl ?_
      refine XS.iload X241.here hx rfl (hb hby d16_5) rfl ?_
      exact kq)
    have go243 : Goes p e below s₁ (G_cx3 m a1 a3) T241 (mkF m 12 #[vR a1, vI (1 : Int32), vR a3, vI (1 : Int32), vI (3 : Int32), vI (1 : Int32), vI c0] [(.int (1 : Int32)), (.ref a1)]) := fun tq kq => go242 tq (by
      show Sx p e below T241 (mkF m 7 #[vR a1, vI (1 : Int32), vR a3, vI (1 : Int32), vI (3 : Int32), vI (1 : Int32), vI c0] [(.int (3 : Int32)), (.int (1 : Int32))]) _
      refine XS.icmpNo X241.here hx rfl (hb hby d16_7) rfl (tlt (by decide)).2.1 ?_
      refine XS.aloadN X241.here hx rfl (hb hby d16_10) rfl rfl ?_
      show Sx p e below T241 (mkF m 11 #[vR a1, vI (1 : Int32), vR a3, vI (1 : Int32), vI (3 : Int32), vI (1 : Int32), vI c0] [(.ref a1)]) _
      refine XS.iloadN X241.here hx rfl (hb hby d16_11) rfl ?_
      exact kq)
    obtain ⟨cl244, Ar244, q244, S244, N_244, H244, G244⟩ := id ((VA.other W241 ne13))
    have hin244 : ¬ ((1 : Int32) < 0 ∨ cl244.slots.size ≤ ((1 : Int32)).toNatClampNeg) := inb_of S244 ⟨by decide, by decide⟩
    have hat244 := Has.at H244 hin244 (v := (.int c1)) rfl
    have go245 : Goes p e below s₁ (G_cx3 m a1 a3) T241 (mkF m 20 #[vR a1, vI (1 : Int32), vR a3, vI (1 : Int32), vI (3 : Int32), vI (1 : Int32), vI c1] [(.int (255 : Int32)), (.int c1)]) := fun tq kq => go243 tq (by
      show Sx p e below T241 (mkF m 12 #[vR a1, vI (1 : Int32), vR a3, vI (1 : Int32), vI (3 : Int32), vI (1 : Int32), vI c0] [(.int (1 : Int32)), (.ref a1)]) _
      refine X241.caload hx (j := (1 : Int32)) (v := (.int c1)) (by rw [e241]; exact Ar244.1) (State.isArrayOf_alike hZ.alike Ar244.2.1) Ar244.2.2 hin244 hat244 (g := (mkF m 12 #[vR a1, vI (1 : Int32), vR a3, vI (1 : Int32), vI (3 : Int32), vI (1 : Int32), vI c0] [(.int (1 : Int32)), (.ref a1)])) rfl rfl (hb hby d16_12) _ ?_
      show Sx p e below T241 (mkF m 13 #[vR a1, vI (1 : Int32), vR a3, vI (1 : Int32), vI (3 : Int32), vI (1 : Int32), vI c0] [(.int c1)]) _
      refine XS.istore X241.here hx rfl (hb hby d16_13) rfl (l' := #[vR a1, vI (1 : Int32), vR a3, vI (1 : Int32), vI (3 : Int32), vI (1 : Int32), vI c1]) rfl ?_
      refine XS.iload X241.here hx rfl (hb hby d16_15) rfl ?_
      show Sx p e below T241 (mkF m 17 #[vR a1, vI (1 : Int32), vR a3, vI (1 : Int32), vI (3 : Int32), vI (1 : Int32), vI c1] [(.int c1)]) _
      refine XS.sipush X241.here hx rfl (hb hby d16_17) ?_
      exact kq)
    by_cases hq1 : (255 : Int32) < c1
    · have go246 : Goes p e below s₁ (G_cx3 m a1 a3) T241 (mkF m 25 #[vR a1, vI (1 : Int32), vR a3, vI (1 : Int32), vI (3 : Int32), vI (1 : Int32), vI c1] [(.int (1 : Int32))]) := fun tq kq => go245 tq (by
        show Sx p e below T241 (mkF m 20 #[vR a1, vI (1 : Int32), vR a3, vI (1 : Int32), vI (3 : Int32), vI (1 : Int32), vI c1] [(.int (255 : Int32)), (.int c1)]) _
        refine XS.icmpNo X241.here hx rfl (hb hby d16_20) rfl (tlt hq1).2.2.2 ?_
        show Sx p e below T241 (mkF m 23 #[vR a1, vI (1 : Int32), vR a3, vI (1 : Int32), vI (3 : Int32), vI (1 : Int32), vI c1] []) _
        refine XS.iload X241.here hx rfl (hb hby d16_23) rfl ?_
        exact kq)
      obtain ⟨fs, hr, hrun, hended, hW, hsame⟩ := X241.leave (v := some (.int (1 : Int32))) (fun h => by rw [Bd.returns] at h; cases h)
      refine ⟨_, _, go246 _ ?_, hrun, hended, _, _, rfl, ?_, ⟨_, rfl⟩, hW, hsame.mono (by decide) (by decide)⟩
      · exact retI X241 hx Bd.returns (hb hby d16_25) hr
      · show Q_cx3 Z a1 a3 c0 c1 c2 kC kB h0 n0 _ T241.heap _
        rw [e241]
        exact ⟨1, by decide, rfl, N241, KP241, (show (255 : Int32) < ([c0, c1, c2] : List Int32).getD 1 0 from hq1)⟩
    · have go248 : Goes p e below s₁ (G_cx3 m a1 a3) T241 (mkF m 31 #[vR a1, vI (1 : Int32), vR a3, vI (1 : Int32), vI (3 : Int32), vI (1 : Int32), vI c1] [(.int (c1.toInt8.toInt32)), (.int (1 : Int32)), (.ref a3)]) := fun tq kq => go245 tq (by
        show Sx p e below T241 (mkF m 20 #[vR a1, vI (1 : Int32), vR a3, vI (1 : Int32), vI (3 : Int32), vI (1 : Int32), vI c1] [(.int (255 : Int32)), (.int c1)]) _
        refine XS.icmpYes X241.here hx rfl (pc0 := 20) (pc' := 26) rfl (hb hby d16_20) rfl (flt hq1).2.2.2 (by decide) (by decide) ?_
        show Sx p e below T241 (mkF m 26 #[vR a1, vI (1 : Int32), vR a3, vI (1 : Int32), vI (3 : Int32), vI (1 : Int32), vI c1] []) _
        refine XS.aloadN X241.here hx rfl (hb hby d16_26) rfl rfl ?_
        refine XS.iloadN X241.here hx rfl (hb hby d16_27) rfl ?_
        show Sx p e below T241 (mkF m 28 #[vR a1, vI (1 : Int32), vR a3, vI (1 : Int32), vI (3 : Int32), vI (1 : Int32), vI c1] [(.int (1 : Int32)), (.ref a3)]) _
        refine XS.iload X241.here hx rfl (hb hby d16_28) rfl ?_
        refine XS.i2b X241.here hx rfl (hb hby d16_30) rfl ?_
        exact kq)
      obtain ⟨cl247, Ar247, q247, S247, N_247, H247, G247⟩ := V241
      have hin247 : ¬ ((1 : Int32) < 0 ∨ cl247.slots.size ≤ ((1 : Int32)).toNatClampNeg) := inb_of S247 ⟨by decide, by decide⟩
      obtain ⟨T249, h249, X249, e249, W249, st249⟩ := stB X241 hx hZ e241 Ar247 (j := (1 : Int32)) hin247 (g := (mkF m 31 #[vR a1, vI (1 : Int32), vR a3, vI (1 : Int32), vI (3 : Int32), vI (1 : Int32), vI c1] [(.int (c1.toInt8.toInt32)), (.int (1 : Int32)), (.ref a3)])) rfl rfl (hb hby d16_31)
      have N249 := Fr.snoc X249 N241 g_a3
      have KP249 : Keep h0 h249 [a3] := KP241.wr W249 (Or.inl (List.mem_of_getElem? (i := 0) rfl))
      have ZS249 : n0 ≤ h249.size := Nat.le_trans ZS241 (Keep.of_wr W249).1
      have V249 : Arv Z h249 a3 kB .byte (3 : Int32) [(.int (nar .byte (c0.toInt8.toInt32))), (.int (nar .byte (c1.toInt8.toInt32))), (.int (0 : Int32))] (.int (0 : Int32)) := Arv.set Ar247 q247 S247 N_247 H247 G247 (fits_nar_byte _) W249 1 rfl (Nat.le_of_ble_eq_true rfl)
      have go249 : Goes p e below s₁ (G_cx3 m a1 a3) T249 (mkF m 32 #[vR a1, vI (1 : Int32), vR a3, vI (1 : Int32), vI (3 : Int32), vI (1 : Int32), vI c1] []) := fun tq kq => go248 tq (st249 _ kq)
      have go250 : Goes p e below s₁ (G_cx3 m a1 a3) T249 (mkF m 7 #[vR a1, vI (2 : Int32), vR a3, vI (2 : Int32), vI (3 : Int32), vI (2 : Int32), vI c1] [(.int (3 : Int32)), (.int (2 : Int32))]) := fun tq kq => go249 tq (by
        show Sx p e below T249 (mkF m 32 #[vR a1, vI (1 : Int32), vR a3, vI (1 : Int32), vI (3 : Int32), vI (1 : Int32), vI c1] []) _
        refine XS.iinc X249.here hx rfl (hb hby d16_32) rfl (l' := #[vR a1, vI (2 : Int32), vR a3, vI (1 : Int32), vI (3 : Int32), vI (1 : Int32), vI c1]) rfl ?_
        refine XS.iinc X249.here hx rfl (hb hby d16_35) rfl (l' := #[vR a1, vI (2 : Int32), vR a3, vI (2 : Int32), vI (3 : Int32), vI (1 : Int32), vI c1]) rfl ?_
        show Sx p e below T249 (mkF m 38 #[vR a1, vI (2 : Int32), vR a3, vI (2 : Int32), vI (3 : Int32), vI (1 : Int32), vI c1] []) _
        refine XS.iinc X249.here hx rfl (hb hby d16_38) rfl (l' := #[vR a1, vI (2 : Int32), vR a3, vI (2 : Int32), vI (3 : Int32), vI (2 : Int32), vI c1]) rfl ?_
        refine XS.goto X249.here hx rfl (pc0 := 41) (pc' := 3) rfl (hb hby d16_41) (by decide) (by decide) ?_
        show Sx p e below T249 (mkF m 3 #[vR a1, vI (2 : Int32), vR a3, vI (2 : Int32), vI (3 : Int32), vI (2 : Int32), vI c1] []) _
        refine XS.iload X249.here hx rfl (hb hby d16_3) rfl ?_
        refine XS.iload X249.here hx rfl (hb hby d16_5) rfl ?_
        exact kq)
      have go251 : Goes p e below s₁ (G_cx3 m a1 a3) T249 (mkF m 12 #[vR a1, vI (2 : Int32), vR a3, vI (2 : Int32), vI (3 : Int32), vI (2 : Int32), vI c1] [(.int (2 : Int32)), (.ref a1)]) := fun tq kq => go250 tq (by
        show Sx p e below T249 (mkF m 7 #[vR a1, vI (2 : Int32), vR a3, vI (2 : Int32), vI (3 : Int32), vI (2 : Int32), vI c1] [(.int (3 : Int32)), (.int (2 : Int32))]) _
        refine XS.icmpNo X249.here hx rfl (hb hby d16_7) rfl (tlt (by decide)).2.1 ?_
        refine XS.aloadN X249.here hx rfl (hb hby d16_10) rfl rfl ?_
        show Sx p e below T249 (mkF m 11 #[vR a1, vI (2 : Int32), vR a3, vI (2 : Int32), vI (3 : Int32), vI (2 : Int32), vI c1] [(.ref a1)]) _
        refine XS.iloadN X249.here hx rfl (hb hby d16_11) rfl ?_
        exact kq)
      obtain ⟨cl252, Ar252, q252, S252, N_252, H252, G252⟩ := id (((VA.other W241 ne13).other W249 ne13))
      have hin252 : ¬ ((2 : Int32) < 0 ∨ cl252.slots.size ≤ ((2 : Int32)).toNatClampNeg) := inb_of S252 ⟨by decide, by decide⟩
      have hat252 := Has.at H252 hin252 (v := (.int c2)) rfl
      have go253 : Goes p e below s₁ (G_cx3 m a1 a3) T249 (mkF m 20 #[vR a1, vI (2 : Int32), vR a3, vI (2 : Int32), vI (3 : Int32), vI (2 : Int32), vI c2] [(.int (255 : Int32)), (.int c2)]) := fun tq kq => go251 tq (by
        show Sx p e below T249 (mkF m 12 #[vR a1, vI (2 : Int32), vR a3, vI (2 : Int32), vI (3 : Int32), vI (2 : Int32), vI c1] [(.int (2 : Int32)), (.ref a1)]) _
        refine X249.caload hx (j := (2 : Int32)) (v := (.int c2)) (by rw [e249]; exact Ar252.1) (State.isArrayOf_alike hZ.alike Ar252.2.1) Ar252.2.2 hin252 hat252 (g := (mkF m 12 #[vR a1, vI (2 : Int32), vR a3, vI (2 : Int32), vI (3 : Int32), vI (2 : Int32), vI c1] [(.int (2 : Int32)), (.ref a1)])) rfl rfl (hb hby d16_12) _ ?_
        show Sx p e below T249 (mkF m 13 #[vR a1, vI (2 : Int32), vR a3, vI (2 : Int32), vI (3 : Int32), vI (2 : Int32), vI c1] [(.int c2)]) _
        refine XS.istore X249.here hx rfl (hb hby d16_13) rfl (l' := #[vR a1, vI (2 : Int32), vR a3, vI (2 : Int32), vI (3 : Int32), vI (2 : Int32), vI c2]) rfl ?_
        refine XS.iload X249.here hx rfl (hb hby d16_15) rfl ?_
        show Sx p e below T249 (mkF m 17 #[vR a1, vI (2 : Int32), vR a3, vI (2 : Int32), vI (3 : Int32), vI (2 : Int32), vI c2] [(.int c2)]) _
        refine XS.sipush X249.here hx rfl (hb hby d16_17) ?_
        exact kq)
      by_cases hq2 : (255 : Int32) < c2
      · have go254 : Goes p e below s₁ (G_cx3 m a1 a3) T249 (mkF m 25 #[vR a1, vI (2 : Int32), vR a3, vI (2 : Int32), vI (3 : Int32), vI (2 : Int32), vI c2] [(.int (2 : Int32))]) := fun tq kq => go253 tq (by
          show Sx p e below T249 (mkF m 20 #[vR a1, vI (2 : Int32), vR a3, vI (2 : Int32), vI (3 : Int32), vI (2 : Int32), vI c2] [(.int (255 : Int32)), (.int c2)]) _
          refine XS.icmpNo X249.here hx rfl (hb hby d16_20) rfl (tlt hq2).2.2.2 ?_
          show Sx p e below T249 (mkF m 23 #[vR a1, vI (2 : Int32), vR a3, vI (2 : Int32), vI (3 : Int32), vI (2 : Int32), vI c2] []) _
          refine XS.iload X249.here hx rfl (hb hby d16_23) rfl ?_
          exact kq)
        obtain ⟨fs, hr, hrun, hended, hW, hsame⟩ := X249.leave (v := some (.int (2 : Int32))) (fun h => by rw [Bd.returns] at h; cases h)
        refine ⟨_, _, go254 _ ?_, hrun, hended, _, _, rfl, ?_, ⟨_, rfl⟩, hW, hsame.mono (by decide) (by decide)⟩
        · exact retI X249 hx Bd.returns (hb hby d16_25) hr
        · show Q_cx3 Z a1 a3 c0 c1 c2 kC kB h0 n0 _ T249.heap _
          rw [e249]
          exact ⟨2, by decide, rfl, N249, KP249, (show (255 : Int32) < ([c0, c1, c2] : List Int32).getD 2 0 from hq2)⟩
      · have go255 : Goes p e below s₁ (G_cx3 m a1 a3) T249 (mkF m 26 #[vR a1, vI (2 : Int32), vR a3, vI (2 : Int32), vI (3 : Int32), vI (2 : Int32), vI c2] []) := fun tq kq => go253 tq (by
          show Sx p e below T249 (mkF m 20 #[vR a1, vI (2 : Int32), vR a3, vI (2 : Int32), vI (3 : Int32), vI (2 : Int32), vI c2] [(.int (255 : Int32)), (.int c2)]) _
          refine XS.icmpYes X249.here hx rfl (pc0 := 20) (pc' := 26) rfl (hb hby d16_20) rfl (flt hq2).2.2.2 (by decide) (by decide) ?_
          exact kq)
        obtain ⟨c, hc, hq⟩ := hbad
        simp only [List.mem_cons, List.not_mem_nil, or_false] at hc
        exfalso
        rcases hc with rfl | rfl | rfl <;> contradiction
abbrev G_cq3 (m : MethodId) (a1 : Addr) : JFrame := (entryFrame m #[(.ref a1), (.int (0 : Int32)), (.int (3 : Int32))] 6)
def Q_cq3 (Z : State) (a1 : Addr) (c0 c1 c2 : Int32) (kC : ClassId) (h0 : Heap) (n0 : Nat) (v : Option Value) (h : Heap) (L : List Loc) : Prop := ∃ (t : Addr) (k : ClassId), v = some (.ref t) ∧ Fr n0 L ∧ Keep h0 h [] ∧ Arv Z h t k .byte (6 : Int32) [(.int (StrChars.lo8 c0)), (.int (StrChars.hi8 c0)), (.int (StrChars.lo8 c1)), (.int (StrChars.hi8 c1)), (.int (StrChars.lo8 c2)), (.int (StrChars.hi8 c2))] (.int (0 : Int32))
set_option maxRecDepth 65536 in
set_option maxHeartbeats 40000000 in
theorem cq3 (l : Launch) (Z : State) (a0 : Array Value) (hw : ∀ d ∈ tables_1, d.before a0 Z = true) (ws : List Jvm.Cond) (a1 : Addr) (c0 c1 c2 : Int32) (kC : ClassId) (h0 : Heap) (n0 : Nat) (Z0 : n0 ≤ h0.size) (O0 : Old Z n0 h0) (AD : Sta Z Z.heap "java/lang/StringUTF16" "$assertionsDisabled" "Z" (.int (1 : Int32))) (HI : Sta Z Z.heap "java/lang/StringUTF16" "HI_BYTE_SHIFT" "I" (.int (0 : Int32))) (LO : Sta Z Z.heap "java/lang/StringUTF16" "LO_BYTE_SHIFT" "I" (.int (8 : Int32))) (VA : Arv Z h0 a1 kC .char (3 : Int32) [(.int c0), (.int c1), (.int c2)] (.int (0 : Int32))) (hbad : ∃ c ∈ ([c0, c1, c2] : List Int32), (255 : Int32) < c) (hcs : ∀ c ∈ ([c0, c1, c2] : List Int32), C16 c) :
    MetFree l (⟨"java/lang/StringUTF16", "compress", "([CII)[B"⟩ : MethodName) (head1 (Jvm.Cond.code (⟨"java/lang/StringUTF16", "compress", "([CII)[B"⟩ : MethodName) jdk_52_method_16_code 6 (some (.array .byte)) :: ws) ({ frames := 3, cells := 2, slots := 9, locals := 40 } : Room)) (fun a U => a = #[(.ref a1), (.int (0 : Int32)), (.int (3 : Int32))] ∧ Z.Warmed39 U.vm ∧ U.heap = h0) (fun _ _ _ _ _ => True) (fun _ U o U' => ∃ v L, o = .returned v ∧ Q_cq3 Z a1 c0 c1 c2 kC h0 n0 v U'.heap L ∧ FrameEnd U o U' L ({ frames := 3, cells := 2, slots := 9, locals := 40 } : Room).cells ({ frames := 3, cells := 2, slots := 9, locals := 40 } : Room).slots) := by
  refine MetFree.of_bodySF (plainFor_of_name pn_java_lang_StringUTF16) hisR ?_
  intro p e s m args below meth c s₁ Bd hml0 hP hK
  obtain ⟨rfl, hZ, hh⟩ := hP
  have hx := Bd.exec
  have hby := Bd.bytes
  have hml : c.maxLocals = 6 := hml0
  have hown : s.vm.findClass "java/lang/StringUTF16" = some m.cls := findClass_of_methodNamed Bd.named
  have hnm := (name_of_methodNamed Bd.named Bd.method).1
  have X0 : Stand p l e ({ frames := 3, cells := 2, slots := 9, locals := 40 } : Room) s m #[(.ref a1), (.int (0 : Int32)), (.int (3 : Int32))] below meth c s₁ [] 0 0 := Stand.of_body Bd
  have e0 : s₁.heap = h0 := by rw [← hh, Bd.state]; rfl
  have N0 := Fr.nil n0
  have KP0 : Keep h0 h0 [] := Keep.refl h0 []
  have go0 : Goes p e below s₁ (G_cq3 m a1) s₁ (mkF m 0 #[vR a1, vI (0 : Int32), vI (3 : Int32), uN, uN, uN] []) := fun tq kq => castTop (by first | (simp [entryFrame, mkF, argsToLocals, Value.category, vI, vJ, vR, vD, vN, uN, sD, G_cq3]; done) | rfl) kq
  have go256 : Goes p e below s₁ (G_cq3 m a1) s₁ (mkF m 1 #[vR a1, vI (0 : Int32), vI (3 : Int32), uN, uN, uN] [(.int (3 : Int32))]) := fun tq kq => go0 tq (by
    show Sx p e below s₁ (mkF m 0 #[vR a1, vI (0 : Int32), vI (3 : Int32), uN, uN, uN] []) _
    refine XS.iloadN X0.here hx rfl (hb hby d15_0) rfl ?_
    exact kq)
  obtain ⟨T257, h257, k257, X257, e257, E257, A257, st257⟩ := newP X0 hx hZ (aty := .byte) (tw25 hw) e0 (g := (mkF m 1 #[vR a1, vI (0 : Int32), vI (3 : Int32), uN, uN, uN] [(.int (3 : Int32))])) rfl (hb hby d15_1) rfl (by decide) (cap := 3) (by decide) (by decide) (by decide) (by decide)
  obtain ⟨b257, g257⟩ : ∃ z, z = h0.size := ⟨_, rfl⟩
  rw [← g257] at A257 st257
  have g_b257 : n0 ≤ b257 := Nat.le_trans Z0 (Nat.le_of_eq g257.symm)
  have sz_b257 : h0.size ≤ b257 := Nat.le_trans KP0.1 (Nat.le_of_eq g257.symm)
  have KP257 : Keep h0 h257 [] := KP0.ext E257
  have O257 := O0.ext E257
  have ZS257 : n0 ≤ h257.size := Nat.le_trans Z0 E257.1
  have V257 : Arv Z h257 b257 k257 .byte (3 : Int32) [(.int (0 : Int32)), (.int (0 : Int32)), (.int (0 : Int32))] (.int (0 : Int32)) := (Arv.new A257 (by decide)).pad (pad_rep [] (.int (0 : Int32)) 3)
  have ne258 : a1 ≠ b257 := Nat.ne_of_lt (Nat.lt_of_lt_of_le VA.lt (Nat.le_of_eq g257.symm))
  have go257 : Goes p e below s₁ (G_cq3 m a1) T257 (mkF m 3 #[vR a1, vI (0 : Int32), vI (3 : Int32), uN, uN, uN] [(.ref b257)]) := fun tq kq => go256 tq (st257 _ kq)
  have go259 : Goes p e below s₁ (G_cq3 m a1) T257 (mkF m 9 #[vR a1, vI (0 : Int32), vI (3 : Int32), vR b257, uN, uN] [(.int (3 : Int32)), (.int (0 : Int32)), (.ref b257), (.int (0 : Int32)), (.ref a1)]) := fun tq kq => go257 tq (by
    show Sx p e below T257 (mkF m 3 #[vR a1, vI (0 : Int32), vI (3 : Int32), uN, uN, uN] [(.ref b257)]) _
    refine XS.astoreN X257.here hx rfl (hb hby d15_3) rfl rfl (l' := #[vR a1, vI (0 : Int32), vI (3 : Int32), vR b257, uN, uN]) rfl ?_
    show Sx p e below T257 (mkF m 4 #[vR a1, vI (0 : Int32), vI (3 : Int32), vR b257, uN, uN] []) _
    refine XS.aloadN X257.here hx rfl (hb hby d15_4) rfl rfl ?_
    refine XS.iloadN X257.here hx rfl (hb hby d15_5) rfl ?_
    show Sx p e below T257 (mkF m 6 #[vR a1, vI (0 : Int32), vI (3 : Int32), vR b257, uN, uN] [(.int (0 : Int32)), (.ref a1)]) _
    refine XS.aloadN X257.here hx rfl (hb hby d15_6) rfl rfl ?_
    refine XS.iconst X257.here hx rfl (hb hby d15_7) ?_
    show Sx p e below T257 (mkF m 8 #[vR a1, vI (0 : Int32), vI (3 : Int32), vR b257, uN, uN] [(.int (0 : Int32)), (.ref b257), (.int (0 : Int32)), (.ref a1)]) _
    refine XS.iloadN X257.here hx rfl (hb hby d15_8) rfl ?_
    exact kq)
  obtain ⟨vv260, _, ⟨T260, L260, k260, n260⟩, -, X260, ⟨Lc260, hQ260, l260, y260, z260⟩, st260⟩ := Jvm.LawKit.callS X257 hx (y := (⟨"java/lang/StringUTF16", "compress", "([CI[BII)I"⟩ : MethodName)) hown (mvT hZ (tw72 hw)) (mvT hZ (tw73 hw)) (mvT hZ (tw70 hw)) (mvT hZ (tw74 hw)) (by decide) (backOf (W := 0) (cx3 l Z a0 hw [] a1 b257 c0 c1 c2 kC k257 h257 n0 ZS257 g_b257 (VA.ext E257) V257 ne258 hbad) hZ (tw74 hw) (tw70 hw) (by decide) (by decide)) (g := (mkF m 9 #[vR a1, vI (0 : Int32), vI (3 : Int32), vR b257, uN, uN] [(.int (3 : Int32)), (.int (0 : Int32)), (.ref b257), (.int (0 : Int32)), (.ref a1)])) rfl (by rw [hml]; rfl) (argsL := [(.ref a1), (.int (0 : Int32)), (.ref b257), (.int (0 : Int32)), (.int (3 : Int32))]) (rest := []) (lenOf pd_3 rfl) rfl (by show 2 * 0 + _ ≤ _; exact Nat.le_of_eq rfl) (hb hby d15_9) (fun _ _ => ⟨rfl, e257, (by decide : 1 + 0 ≤ _), (by decide : 3 + 0 ≤ _)⟩)
  dsimp only [Pt.U, Pt.locs, Pt.cells, Pt.slots] at X260 l260 y260 z260 st260 hQ260
  subst l260 y260 z260
  obtain ⟨kr, hkr, rfl, Nq260, K260, hgt⟩ := hQ260
  have N260 := Fr.app N0 Nq260
  have ZS260 : n0 ≤ T260.heap.size := Nat.le_trans ZS257 K260.1
  have KP260 : Keep h0 T260.heap [] := KP257.trans K260 (allS (Or.inr sz_b257) all0)
  have O260 := O257.keep K260 (allS g_b257 all0)
  have go260 : Goes p e below s₁ (G_cq3 m a1) T260 (mkF m 12 #[vR a1, vI (0 : Int32), vI (3 : Int32), vR b257, uN, uN] [(.int (Int32.ofNat kr))]) := fun tq kq => go259 tq (st260 _ kq)
  have go261 : Goes p e below s₁ (G_cq3 m a1) T260 (mkF m 17 #[vR a1, vI (0 : Int32), vI (3 : Int32), vR b257, vI (Int32.ofNat kr), uN] [(.int (3 : Int32)), (.int (Int32.ofNat kr))]) := fun tq kq => go260 tq (by
    show Sx p e below T260 (mkF m 12 #[vR a1, vI (0 : Int32), vI (3 : Int32), vR b257, uN, uN] [(.int (Int32.ofNat kr))]) _
    refine XS.istore X260.here hx rfl (hb hby d15_12) rfl (l' := #[vR a1, vI (0 : Int32), vI (3 : Int32), vR b257, vI (Int32.ofNat kr), uN]) rfl ?_
    show Sx p e below T260 (mkF m 14 #[vR a1, vI (0 : Int32), vI (3 : Int32), vR b257, vI (Int32.ofNat kr), uN] []) _
    refine XS.iload X260.here hx rfl (hb hby d15_14) rfl ?_
    refine XS.iloadN X260.here hx rfl (hb hby d15_16) rfl ?_
    exact kq)
  have go262 : Goes p e below s₁ (G_cq3 m a1) T260 (mkF m 23 #[vR a1, vI (0 : Int32), vI (3 : Int32), vR b257, vI (Int32.ofNat kr), uN] [(.int (3 : Int32)), (.int (0 : Int32)), (.ref a1)]) := fun tq kq => go261 tq (by
    show Sx p e below T260 (mkF m 17 #[vR a1, vI (0 : Int32), vI (3 : Int32), vR b257, vI (Int32.ofNat kr), uN] [(.int (3 : Int32)), (.int (Int32.ofNat kr))]) _
    refine XS.icmpNo X260.here hx rfl (hb hby d15_17) rfl (feq (fun q => by have z := own_lt (k := kr) (n := 3) (by decide) hkr; rw [q] at z; exact absurd z (by decide))).1 ?_
    refine XS.aloadN X260.here hx rfl (hb hby d15_20) rfl rfl ?_
    show Sx p e below T260 (mkF m 21 #[vR a1, vI (0 : Int32), vI (3 : Int32), vR b257, vI (Int32.ofNat kr), uN] [(.ref a1)]) _
    refine XS.iloadN X260.here hx rfl (hb hby d15_21) rfl ?_
    refine XS.iloadN X260.here hx rfl (hb hby d15_22) rfl ?_
    exact kq)
  obtain ⟨vv263, _, ⟨T263, L263, k263, n263⟩, -, X263, ⟨Lc263, hQ263, l263, y263, z263⟩, st263⟩ := Jvm.LawKit.callS X260 hx (y := (⟨"java/lang/StringUTF16", "toBytes", "([CII)[B"⟩ : MethodName)) hown (mvT hZ (tw75 hw)) (mvT hZ (tw76 hw)) (mvT hZ (tw70 hw)) (mvT hZ (tw77 hw)) (by decide) (backOf (W := 0) (tb3 l Z a0 hw [] a1 c0 c1 c2 kC T260.heap n0 ZS260 O260 AD HI LO ((VA.ext E257).keep K260 (ninS ne258 nin0))) hZ (tw77 hw) (tw70 hw) (by decide) (by decide)) (g := (mkF m 23 #[vR a1, vI (0 : Int32), vI (3 : Int32), vR b257, vI (Int32.ofNat kr), uN] [(.int (3 : Int32)), (.int (0 : Int32)), (.ref a1)])) rfl (by rw [hml]; rfl) (argsL := [(.ref a1), (.int (0 : Int32)), (.int (3 : Int32))]) (rest := []) (lenOf pd_4 rfl) rfl (by show 2 * 0 + _ ≤ _; exact Nat.le_of_eq rfl) (hb hby d15_23) (fun _ _ => ⟨rfl, rfl, (by decide : 1 + 1 ≤ _), (by decide : 3 + 6 ≤ _)⟩)
  dsimp only [Pt.U, Pt.locs, Pt.cells, Pt.slots] at X263 l263 y263 z263 st263 hQ263
  subst l263 y263 z263
  obtain ⟨t263, kt263, rfl, Nq263, K263, sz263, V263⟩ := hQ263
  have N263 := Fr.app N260 Nq263
  have ZS263 : n0 ≤ T263.heap.size := Nat.le_trans ZS260 K263.1
  have KP263 : Keep h0 T263.heap [] := KP260.trans K263 all0
  have O263 := O260.keep K263 all0
  have go263 : Goes p e below s₁ (G_cq3 m a1) T263 (mkF m 26 #[vR a1, vI (0 : Int32), vI (3 : Int32), vR b257, vI (Int32.ofNat kr), uN] [(.ref t263)]) := fun tq kq => go262 tq (st263 _ kq)
  have go264 : Goes p e below s₁ (G_cq3 m a1) T263 (mkF m 32 #[vR a1, vI (0 : Int32), vI (3 : Int32), vR b257, vI (Int32.ofNat kr), vR t263] [(.int (Int32.ofNat kr)), (.ref t263)]) := fun tq kq => go263 tq (by
    show Sx p e below T263 (mkF m 26 #[vR a1, vI (0 : Int32), vI (3 : Int32), vR b257, vI (Int32.ofNat kr), uN] [(.ref t263)]) _
    refine XS.astore X263.here hx rfl (hb hby d15_26) rfl rfl (l' := #[vR a1, vI (0 : Int32), vI (3 : Int32), vR b257, vI (Int32.ofNat kr), vR t263]) rfl ?_
    refine XS.aload X263.here hx rfl (hb hby d15_28) rfl rfl ?_
    show Sx p e below T263 (mkF m 30 #[vR a1, vI (0 : Int32), vI (3 : Int32), vR b257, vI (Int32.ofNat kr), vR t263] [(.ref t263)]) _
    refine XS.iload X263.here hx rfl (hb hby d15_30) rfl ?_
    exact kq)
  obtain ⟨vv265, _, ⟨T265, L265, k265, n265⟩, -, X265, ⟨Lc265, hQ265, l265, y265, z265⟩, st265⟩ := Jvm.LawKit.callS X263 hx (y := (⟨"java/lang/StringUTF16", "getChar", "([BI)C"⟩ : MethodName)) hown (mvT hZ (tw91 hw)) (mvT hZ (tw92 hw)) (mvT hZ (tw70 hw)) (mvT hZ (tw93 hw)) (by decide) (backOf (W := 0) (gC l Z a0 hw [] t263 kr 3 (([c0, c1, c2] : List Int32).getD kr 0) kt263 (StrChars.Road.wideBytes ([c0, c1, c2] : List Int32)) T263.heap n0 ZS263 O263 AD HI LO V263 hkr (by decide) (StrChars.Road.wide_lo _ ([c0, c1, c2] : List Int32) kr hkr) (StrChars.Road.wide_hi _ ([c0, c1, c2] : List Int32) kr hkr) (own_at hcs hkr)) hZ (tw93 hw) (tw70 hw) (by decide) (by decide)) (g := (mkF m 32 #[vR a1, vI (0 : Int32), vI (3 : Int32), vR b257, vI (Int32.ofNat kr), vR t263] [(.int (Int32.ofNat kr)), (.ref t263)])) rfl (by rw [hml]; rfl) (argsL := [(.ref t263), (.int (Int32.ofNat kr))]) (rest := []) (lenOf pd_5 rfl) rfl (by show 2 * 0 + _ ≤ _; exact Nat.le_of_eq rfl) (hb hby d15_32) (fun _ _ => ⟨rfl, rfl, (by decide : 2 + 0 ≤ _), (by decide : 9 + 0 ≤ _)⟩)
  dsimp only [Pt.U, Pt.locs, Pt.cells, Pt.slots] at X265 l265 y265 z265 st265 hQ265
  subst l265 y265 z265
  obtain ⟨rfl, Nq265, eq265⟩ := hQ265
  have N265 := Fr.app N263 Nq265
  have go265 : Goes p e below s₁ (G_cq3 m a1) T265 (mkF m 35 #[vR a1, vI (0 : Int32), vI (3 : Int32), vR b257, vI (Int32.ofNat kr), vR t263] [(.int (([c0, c1, c2] : List Int32).getD kr 0))]) := fun tq kq => go264 tq (st265 _ kq)
  have go266 : Goes p e below s₁ (G_cq3 m a1) T265 (mkF m 38 #[vR a1, vI (0 : Int32), vI (3 : Int32), vR b257, vI (Int32.ofNat kr), vR t263] [(.int (255 : Int32)), (.int (([c0, c1, c2] : List Int32).getD kr 0))]) := fun tq kq => go265 tq (by
    show Sx p e below T265 (mkF m 35 #[vR a1, vI (0 : Int32), vI (3 : Int32), vR b257, vI (Int32.ofNat kr), vR t263] [(.int (([c0, c1, c2] : List Int32).getD kr 0))]) _
    refine XS.sipush X265.here hx rfl (hb hby d15_35) ?_
    exact kq)
  have go267 : Goes p e below s₁ (G_cq3 m a1) T265 (mkF m 56 #[vR a1, vI (0 : Int32), vI (3 : Int32), vR b257, vI (Int32.ofNat kr), vR t263] [(.ref t263)]) := fun tq kq => go266 tq (by
    show Sx p e below T265 (mkF m 38 #[vR a1, vI (0 : Int32), vI (3 : Int32), vR b257, vI (Int32.ofNat kr), vR t263] [(.int (255 : Int32)), (.int (([c0, c1, c2] : List Int32).getD kr 0))]) _
    refine XS.icmpYes X265.here hx rfl (pc0 := 38) (pc' := 54) rfl (hb hby d15_38) rfl (tlt hgt).2.2.1 (by decide) (by decide) ?_
    refine XS.aload X265.here hx rfl (hb hby d15_54) rfl rfl ?_
    exact kq)
  obtain ⟨fs, hr, hrun, hended, hW, hsame⟩ := X265.leave (v := some (.ref t263)) (fun h => by rw [Bd.returns] at h; cases h)
  refine ⟨_, _, go267 _ ?_, hrun, hended, _, _, rfl, ?_, ⟨_, rfl⟩, hW, hsame.mono (by decide) (by decide)⟩
  · jvm_step X265.here [X265.here.top, hx, (hb hby d15_56), X265.method', Bd.returns, Value.isRef, FieldType.isReference]
    first | (intro acts; rw [hr _ acts rfl rfl rfl]) | rw [hr _ _ rfl rfl rfl]
    exact Steps.refl _
  · show Q_cq3 Z a1 c0 c1 c2 kC h0 n0 _ T265.heap _
    rw [eq265]
    exact ⟨t263, kt263, rfl, N265, KP263, V263⟩
abbrev G_cf3 (m : MethodId) (a1 : Addr) : JFrame := (entryFrame m #[(.ref a1), (.int (3 : Int32))] 2)
def Q_cf3 (Z : State) (a1 : Addr) (kB : ClassId) (vs : List Value) (h0 : Heap) (n0 : Nat) (v : Option Value) (h : Heap) (L : List Loc) : Prop := v = some (.int (1 : Int32)) ∧ Fr n0 L ∧ h = h0
set_option maxRecDepth 65536 in
set_option maxHeartbeats 40000000 in
theorem cf3 (l : Launch) (Z : State) (a0 : Array Value) (hw : ∀ d ∈ tables_1, d.before a0 Z = true) (ws : List Jvm.Cond) (a1 : Addr) (kB : ClassId) (vs : List Value) (h0 : Heap) (n0 : Nat) (Z0 : n0 ≤ h0.size) (VA : Arv Z h0 a1 kB .byte (6 : Int32) vs (.int (0 : Int32))) :
    MetFree l (⟨"java/lang/StringUTF16", "coderFromArrayLen", "([BI)B"⟩ : MethodName) (head1 (Jvm.Cond.code (⟨"java/lang/StringUTF16", "coderFromArrayLen", "([BI)B"⟩ : MethodName) jdk_52_method_15_code 2 (some .byte) :: ws) ({ frames := 0, cells := 0, slots := 0, locals := 0 } : Room)) (fun a U => a = #[(.ref a1), (.int (3 : Int32))] ∧ Z.Warmed39 U.vm ∧ U.heap = h0) (fun _ _ _ _ _ => True) (fun _ U o U' => ∃ v L, o = .returned v ∧ Q_cf3 Z a1 kB vs h0 n0 v U'.heap L ∧ FrameEnd U o U' L ({ frames := 0, cells := 0, slots := 0, locals := 0 } : Room).cells ({ frames := 0, cells := 0, slots := 0, locals := 0 } : Room).slots) := by
  refine MetFree.of_bodySF (plainFor_of_name pn_java_lang_StringUTF16) hisR ?_
  intro p e s m args below meth c s₁ Bd hml0 hP hK
  obtain ⟨rfl, hZ, hh⟩ := hP
  have hx := Bd.exec
  have hby := Bd.bytes
  have hml : c.maxLocals = 2 := hml0
  have hown : s.vm.findClass "java/lang/StringUTF16" = some m.cls := findClass_of_methodNamed Bd.named
  have hnm := (name_of_methodNamed Bd.named Bd.method).1
  have X0 : Stand p l e ({ frames := 0, cells := 0, slots := 0, locals := 0 } : Room) s m #[(.ref a1), (.int (3 : Int32))] below meth c s₁ [] 0 0 := Stand.of_body Bd
  have e0 : s₁.heap = h0 := by rw [← hh, Bd.state]; rfl
  have N0 := Fr.nil n0
  have go0 : Goes p e below s₁ (G_cf3 m a1) s₁ (mkF m 0 #[vR a1, vI (3 : Int32)] []) := fun tq kq => castTop (by first | (simp [entryFrame, mkF, argsToLocals, Value.category, vI, vJ, vR, vD, vN, uN, sD, G_cf3]; done) | rfl) kq
  have go268 : Goes p e below s₁ (G_cf3 m a1) s₁ (mkF m 2 #[vR a1, vI (3 : Int32)] [(.ref a1), (.int (3 : Int32))]) := fun tq kq => go0 tq (by
    show Sx p e below s₁ (mkF m 0 #[vR a1, vI (3 : Int32)] []) _
    refine XS.iloadN X0.here hx rfl (hb hby d22_0) rfl ?_
    refine XS.aloadN X0.here hx rfl (hb hby d22_1) rfl rfl ?_
    exact kq)
  obtain ⟨cl269, Ar269, q269, S269, N_269, H269, G269⟩ := id (VA)
  have go270 : Goes p e below s₁ (G_cf3 m a1) s₁ (mkF m 8 #[vR a1, vI (3 : Int32)] [(.int ((((((3 : Int32) - (6 : Int32)).toUInt32 >>> ((31 : Int32) &&& 31).toUInt32).toInt32)).toInt8.toInt32))]) := fun tq kq => go268 tq (by
    show Sx p e below s₁ (mkF m 2 #[vR a1, vI (3 : Int32)] [(.ref a1), (.int (3 : Int32))]) _
    refine X0.arraylength hx (by rw [e0]; exact Ar269.1) (State.isArrayOf_alike hZ.alike Ar269.2.1) (g := (mkF m 2 #[vR a1, vI (3 : Int32)] [(.ref a1), (.int (3 : Int32))])) rfl rfl (hb hby d22_2) _ ?_
    rw [len_of S269 N_269]
    refine XS.isub X0.here hx rfl (hb hby d22_3) rfl ?_
    show Sx p e below s₁ (mkF m 4 #[vR a1, vI (3 : Int32)] [(.int ((3 : Int32) - (6 : Int32)))]) _
    refine XS.bipush X0.here hx rfl (hb hby d22_4) ?_
    refine XS.iushr X0.here hx rfl (hb hby d22_6) rfl ?_
    show Sx p e below s₁ (mkF m 7 #[vR a1, vI (3 : Int32)] [(.int ((((3 : Int32) - (6 : Int32)).toUInt32 >>> ((31 : Int32) &&& 31).toUInt32).toInt32))]) _
    refine XS.i2b X0.here hx rfl (hb hby d22_7) rfl ?_
    exact kq)
  obtain ⟨fs, hr, hrun, hended, hW, hsame⟩ := X0.leave (v := some (.int (nar .byte ((((((3 : Int32) - (6 : Int32)).toUInt32 >>> ((31 : Int32) &&& 31).toUInt32).toInt32)).toInt8.toInt32)))) (fun h => by rw [Bd.returns] at h; cases h)
  refine ⟨_, _, go270 _ ?_, hrun, hended, _, _, rfl, ?_, ⟨_, rfl⟩, hW, hsame.mono (by decide) (by decide)⟩
  · exact retN X0 hx (t := .byte) Bd.returns (by simp) (hb hby d22_8) hr
  · show Q_cf3 Z a1 kB vs h0 n0 _ s₁.heap _
    rw [e0]
    exact ⟨congrArg (fun z => some (Value.int z)) (by decide +kernel), N0, rfl⟩
abbrev G_cw3 (m : MethodId) (a1 : Addr) (a2 : Addr) : JFrame := (entryFrame m #[(.ref a1), (.ref a2), (.int (0 : Int32)), (.int (3 : Int32)), .null] 6)
def Q_cw3 (Z : State) (a1 : Addr) (a2 : Addr) (c0 c1 c2 : Int32) (kC : ClassId) (cz : Int32) (h0 : Heap) (n0 : Nat) (v : Option Value) (h : Heap) (L : List Loc) : Prop := v = none ∧ Fr n0 L ∧ Keep h0 h [a1] ∧ Exa Z h a1 "java/lang/String" ∧ Fld Z h a1 "java/lang/String" "coder" "B" (.int (1 : Int32)) ∧ ∃ (t : Addr) (k : ClassId), Fld Z h a1 "java/lang/String" "value" "[B" (.ref t) ∧ Arv Z h t k .byte (6 : Int32) [(.int (StrChars.lo8 c0)), (.int (StrChars.hi8 c0)), (.int (StrChars.lo8 c1)), (.int (StrChars.hi8 c1)), (.int (StrChars.lo8 c2)), (.int (StrChars.hi8 c2))] (.int (0 : Int32))
set_option maxRecDepth 65536 in
set_option maxHeartbeats 40000000 in
theorem cw3 (l : Launch) (Z : State) (a0 : Array Value) (hw : ∀ d ∈ tables_1, d.before a0 Z = true) (ws : List Jvm.Cond) (a1 : Addr) (a2 : Addr) (c0 c1 c2 : Int32) (kC : ClassId) (cz : Int32) (h0 : Heap) (n0 : Nat) (Z0 : n0 ≤ h0.size) (O0 : Old Z n0 h0) (g_a1 : n0 ≤ a1) (Ex : Exa Z h0 a1 "java/lang/String") (Fv : Fld Z h0 a1 "java/lang/String" "value" "[B" .null) (Fc : Fld Z h0 a1 "java/lang/String" "coder" "B" (.int (0 : Int32))) (AD : Sta Z Z.heap "java/lang/StringUTF16" "$assertionsDisabled" "Z" (.int (1 : Int32))) (HI : Sta Z Z.heap "java/lang/StringUTF16" "HI_BYTE_SHIFT" "I" (.int (0 : Int32))) (LO : Sta Z Z.heap "java/lang/StringUTF16" "LO_BYTE_SHIFT" "I" (.int (8 : Int32))) (SC : Sta Z Z.heap "java/lang/String" "COMPACT_STRINGS" "Z" (.int cz)) (hz : ¬ (cz = (0 : Int32))) (VA : Arv Z h0 a2 kC .char (3 : Int32) [(.int c0), (.int c1), (.int c2)] (.int (0 : Int32))) (hbad : ∃ c ∈ ([c0, c1, c2] : List Int32), (255 : Int32) < c) (hcs : ∀ c ∈ ([c0, c1, c2] : List Int32), C16 c) :
    MetFree l (⟨"java/lang/String", "<init>", "([CIILjava/lang/Void;)V"⟩ : MethodName) (head1 (Jvm.Cond.code (⟨"java/lang/String", "<init>", "([CIILjava/lang/Void;)V"⟩ : MethodName) jdk_42_method_149_code 6 none :: ws) ({ frames := 4, cells := 2, slots := 9, locals := 57 } : Room)) (fun a U => a = #[(.ref a1), (.ref a2), (.int (0 : Int32)), (.int (3 : Int32)), .null] ∧ Z.Warmed39 U.vm ∧ U.heap = h0) (fun _ _ _ _ _ => True) (fun _ U o U' => ∃ v L, o = .returned v ∧ Q_cw3 Z a1 a2 c0 c1 c2 kC cz h0 n0 v U'.heap L ∧ FrameEnd U o U' L ({ frames := 4, cells := 2, slots := 9, locals := 57 } : Room).cells ({ frames := 4, cells := 2, slots := 9, locals := 57 } : Room).slots) := by
  refine MetFree.of_bodySF (plainFor_of_name pn_java_lang_String) hisR ?_
  intro p e s m args below meth c s₁ Bd hml0 hP hK
  obtain ⟨rfl, hZ, hh⟩ := hP
  have hx := Bd.exec
  have hby := Bd.bytes
  have hml : c.maxLocals = 6 := hml0
  have hown : s.vm.findClass "java/lang/String" = some m.cls := findClass_of_methodNamed Bd.named
  have hnm := (name_of_methodNamed Bd.named Bd.method).1
  have X0 : Stand p l e ({ frames := 4, cells := 2, slots := 9, locals := 57 } : Room) s m #[(.ref a1), (.ref a2), (.int (0 : Int32)), (.int (3 : Int32)), .null] below meth c s₁ [] 0 0 := Stand.of_body Bd
  have e0 : s₁.heap = h0 := by rw [← hh, Bd.state]; rfl
  have N0 := Fr.nil n0
  have KP0 : Keep h0 h0 [a1] := Keep.refl h0 [a1]
  have go0 : Goes p e below s₁ (G_cw3 m a1 a2) s₁ (mkF m 0 #[vR a1, vR a2, vI (0 : Int32), vI (3 : Int32), vN, uN] []) := fun tq kq => castTop (by first | (simp [entryFrame, mkF, argsToLocals, Value.category, vI, vJ, vR, vD, vN, uN, sD, G_cw3]; done) | rfl) kq
  have go271 : Goes p e below s₁ (G_cw3 m a1 a2) s₁ (mkF m 1 #[vR a1, vR a2, vI (0 : Int32), vI (3 : Int32), vN, uN] [(.ref a1)]) := fun tq kq => go0 tq (by
    show Sx p e below s₁ (mkF m 0 #[vR a1, vR a2, vI (0 : Int32), vI (3 : Int32), vN, uN] []) _
    refine XS.aloadN X0.here hx rfl (hb hby d4_0) rfl rfl ?_
    exact kq)
  obtain ⟨T272, X272, e272, st272⟩ := initO X0 hx hZ hown (tw21 hw) (tw22 hw) (tw23 hw) e0 (g := (mkF m 1 #[vR a1, vR a2, vI (0 : Int32), vI (3 : Int32), vN, uN] [(.ref a1)])) rfl (by rw [hml]; rfl) rfl (hb hby d4_1) (by decide) (W := 0) (by show 2 * 0 + _ ≤ _; exact Nat.le_of_eq rfl) (by decide)
  have go272 : Goes p e below s₁ (G_cw3 m a1 a2) T272 (mkF m 4 #[vR a1, vR a2, vI (0 : Int32), vI (3 : Int32), vN, uN] []) := fun tq kq => go271 tq (st272 _ kq)
  have go273 : Goes p e below s₁ (G_cw3 m a1 a2) T272 (mkF m 5 #[vR a1, vR a2, vI (0 : Int32), vI (3 : Int32), vN, uN] [(.int (3 : Int32))]) := fun tq kq => go272 tq (by
    show Sx p e below T272 (mkF m 4 #[vR a1, vR a2, vI (0 : Int32), vI (3 : Int32), vN, uN] []) _
    refine XS.iloadN X272.here hx rfl (hb hby d4_4) rfl ?_
    exact kq)
  have go274 : Goes p e below s₁ (G_cw3 m a1 a2) T272 (mkF m 27 #[vR a1, vR a2, vI (0 : Int32), vI (3 : Int32), vN, uN] []) := fun tq kq => go273 tq (by
    show Sx p e below T272 (mkF m 5 #[vR a1, vR a2, vI (0 : Int32), vI (3 : Int32), vN, uN] [(.int (3 : Int32))]) _
    refine XS.ifYes X272.here hx rfl (pc0 := 5) (pc' := 27) rfl (hb hby d4_5) rfl ((if0 _ _).trans (feq (by decide)).2) (by decide) (by decide) ?_
    exact kq)
  obtain ⟨T275, X275, e275, st275⟩ := getS2 X272 hx hZ hown (host := "") (Or.inl (tw46 hw)) Via.refl e272 (SC.ext O0.2) (g := (mkF m 27 #[vR a1, vR a2, vI (0 : Int32), vI (3 : Int32), vN, uN] [])) rfl (hb hby d4_27)
  have go275 : Goes p e below s₁ (G_cw3 m a1 a2) T275 (mkF m 30 #[vR a1, vR a2, vI (0 : Int32), vI (3 : Int32), vN, uN] [(.int cz)]) := fun tq kq => go274 tq (st275 _ kq)
  have go276 : Goes p e below s₁ (G_cw3 m a1 a2) T275 (mkF m 36 #[vR a1, vR a2, vI (0 : Int32), vI (3 : Int32), vN, uN] [(.int (3 : Int32)), (.int (0 : Int32)), (.ref a2)]) := fun tq kq => go275 tq (by
    show Sx p e below T275 (mkF m 30 #[vR a1, vR a2, vI (0 : Int32), vI (3 : Int32), vN, uN] [(.int cz)]) _
    refine XS.ifNo X275.here hx rfl (hb hby d4_30) rfl ((if0 _ _).trans (feq hz).1) ?_
    show Sx p e below T275 (mkF m 33 #[vR a1, vR a2, vI (0 : Int32), vI (3 : Int32), vN, uN] []) _
    refine XS.aloadN X275.here hx rfl (hb hby d4_33) rfl rfl ?_
    refine XS.iloadN X275.here hx rfl (hb hby d4_34) rfl ?_
    show Sx p e below T275 (mkF m 35 #[vR a1, vR a2, vI (0 : Int32), vI (3 : Int32), vN, uN] [(.int (0 : Int32)), (.ref a2)]) _
    refine XS.iloadN X275.here hx rfl (hb hby d4_35) rfl ?_
    exact kq)
  obtain ⟨vv277, _, ⟨T277, L277, k277, n277⟩, -, X277, ⟨Lc277, hQ277, l277, y277, z277⟩, st277⟩ := Jvm.LawKit.callS X275 hx (y := (⟨"java/lang/StringUTF16", "compress", "([CII)[B"⟩ : MethodName)) hown (mvT hZ (tw68 hw)) (mvT hZ (tw69 hw)) (mvT hZ (tw70 hw)) (mvT hZ (tw71 hw)) (by decide) (backOf (W := 0) (cq3 l Z a0 hw [] a2 c0 c1 c2 kC h0 n0 Z0 O0 AD HI LO VA hbad hcs) hZ (tw71 hw) (tw70 hw) (by decide) (by decide)) (g := (mkF m 36 #[vR a1, vR a2, vI (0 : Int32), vI (3 : Int32), vN, uN] [(.int (3 : Int32)), (.int (0 : Int32)), (.ref a2)])) rfl (by rw [hml]; rfl) (argsL := [(.ref a2), (.int (0 : Int32)), (.int (3 : Int32))]) (rest := []) (lenOf pd_4 rfl) rfl (by show 2 * 0 + _ ≤ _; exact Nat.le_of_eq rfl) (hb hby d4_36) (fun _ _ => ⟨rfl, e275, (by decide : 0 + 2 ≤ _), (by decide : 0 + 9 ≤ _)⟩)
  dsimp only [Pt.U, Pt.locs, Pt.cells, Pt.slots] at X277 l277 y277 z277 st277 hQ277
  subst l277 y277 z277
  obtain ⟨t277, kt277, rfl, Nq277, K277, V277⟩ := hQ277
  have N277 := Fr.app N0 Nq277
  have ZS277 : n0 ≤ T277.heap.size := Nat.le_trans Z0 K277.1
  have KP277 : Keep h0 T277.heap [a1] := KP0.trans K277 all0
  have O277 := O0.keep K277 all0
  have go277 : Goes p e below s₁ (G_cw3 m a1 a2) T277 (mkF m 39 #[vR a1, vR a2, vI (0 : Int32), vI (3 : Int32), vN, uN] [(.ref t277)]) := fun tq kq => go276 tq (st277 _ kq)
  have nat : a1 ≠ t277 := Exa.neArv (Ex.keep K277) V277 (tw11 hw)
  have go278 : Goes p e below s₁ (G_cw3 m a1 a2) T277 (mkF m 45 #[vR a1, vR a2, vI (0 : Int32), vI (3 : Int32), vN, vR t277] [(.int (3 : Int32)), (.ref t277), (.ref a1)]) := fun tq kq => go277 tq (by
    show Sx p e below T277 (mkF m 39 #[vR a1, vR a2, vI (0 : Int32), vI (3 : Int32), vN, uN] [(.ref t277)]) _
    refine XS.astore X277.here hx rfl (hb hby d4_39) rfl rfl (l' := #[vR a1, vR a2, vI (0 : Int32), vI (3 : Int32), vN, vR t277]) rfl ?_
    show Sx p e below T277 (mkF m 41 #[vR a1, vR a2, vI (0 : Int32), vI (3 : Int32), vN, vR t277] []) _
    refine XS.aloadN X277.here hx rfl (hb hby d4_41) rfl rfl ?_
    refine XS.aload X277.here hx rfl (hb hby d4_42) rfl rfl ?_
    show Sx p e below T277 (mkF m 44 #[vR a1, vR a2, vI (0 : Int32), vI (3 : Int32), vN, vR t277] [(.ref t277), (.ref a1)]) _
    refine XS.iloadN X277.here hx rfl (hb hby d4_44) rfl ?_
    exact kq)
  obtain ⟨vv279, _, ⟨T279, L279, k279, n279⟩, -, X279, ⟨Lc279, hQ279, l279, y279, z279⟩, st279⟩ := Jvm.LawKit.callS X277 hx (y := (⟨"java/lang/StringUTF16", "coderFromArrayLen", "([BI)B"⟩ : MethodName)) hown (mvT hZ (tw94 hw)) (mvT hZ (tw95 hw)) (mvT hZ (tw70 hw)) (mvT hZ (tw96 hw)) (by decide) (backOf (W := 1) (cf3 l Z a0 hw [] t277 kt277 [(.int (StrChars.lo8 c0)), (.int (StrChars.hi8 c0)), (.int (StrChars.lo8 c1)), (.int (StrChars.hi8 c1)), (.int (StrChars.lo8 c2)), (.int (StrChars.hi8 c2))] T277.heap n0 ZS277 V277) hZ (tw96 hw) (tw70 hw) (by decide) (by decide)) (g := (mkF m 45 #[vR a1, vR a2, vI (0 : Int32), vI (3 : Int32), vN, vR t277] [(.int (3 : Int32)), (.ref t277), (.ref a1)])) rfl (by rw [hml]; rfl) (argsL := [(.ref t277), (.int (3 : Int32))]) (rest := [(.ref a1)]) (lenOf pd_6 rfl) rfl (by show 2 * 0 + _ ≤ _; exact Nat.le_of_eq rfl) (hb hby d4_45) (fun _ _ => ⟨rfl, rfl, (by decide : 2 + 0 ≤ _), (by decide : 9 + 0 ≤ _)⟩)
  dsimp only [Pt.U, Pt.locs, Pt.cells, Pt.slots] at X279 l279 y279 z279 st279 hQ279
  subst l279 y279 z279
  obtain ⟨rfl, Nq279, eq279⟩ := hQ279
  have N279 := Fr.app N277 Nq279
  have go279 : Goes p e below s₁ (G_cw3 m a1 a2) T279 (mkF m 48 #[vR a1, vR a2, vI (0 : Int32), vI (3 : Int32), vN, vR t277] [(.int (1 : Int32)), (.ref a1)]) := fun tq kq => go278 tq (st279 _ kq)
  obtain ⟨T280, h280, X280, e280, W280, st280⟩ := putFN X279 hx hZ hown (tw31 hw) Via.refl eq279 (Fc.keep K277 nin0) (Ex.keep K277) (Or.inr ⟨(tw27 hw), rfl, hnm⟩) (tw11 hw) (ty := .byte) (v' := (.int (1 : Int32))) (by decide) rfl (by decide) (g := (mkF m 48 #[vR a1, vR a2, vI (0 : Int32), vI (3 : Int32), vN, vR t277] [(.int (1 : Int32)), (.ref a1)])) rfl rfl (hb hby d4_48)
  have N280 := Fr.snoc X280 N279 g_a1
  have KP280 : Keep h0 h280 [a1] := KP277.wr W280 (Or.inl (List.mem_of_getElem? (i := 0) rfl))
  have O280 := O277.wr W280 g_a1
  have ZS280 : n0 ≤ h280.size := Nat.le_trans ZS277 (Keep.of_wr W280).1
  have F280 := Fld.same W280 (Fc.keep K277 nin0)
  have go280 : Goes p e below s₁ (G_cw3 m a1 a2) T280 (mkF m 51 #[vR a1, vR a2, vI (0 : Int32), vI (3 : Int32), vN, vR t277] []) := fun tq kq => go279 tq (st280 _ kq)
  have f281 := (Fld.other W280 (Fv.keep K277 nin0) (Or.inr (slot_ne (Or.inr (tw26 hw)) (Or.inr (tw27 hw)) (by decide) (t := (.array .byte)) (t' := .byte) (by decide) (by decide))))
  have go282 : Goes p e below s₁ (G_cw3 m a1 a2) T280 (mkF m 54 #[vR a1, vR a2, vI (0 : Int32), vI (3 : Int32), vN, vR t277] [(.ref t277), (.ref a1)]) := fun tq kq => go280 tq (by
    show Sx p e below T280 (mkF m 51 #[vR a1, vR a2, vI (0 : Int32), vI (3 : Int32), vN, vR t277] []) _
    refine XS.aloadN X280.here hx rfl (hb hby d4_51) rfl rfl ?_
    show Sx p e below T280 (mkF m 52 #[vR a1, vR a2, vI (0 : Int32), vI (3 : Int32), vN, vR t277] [(.ref a1)]) _
    refine XS.aload X280.here hx rfl (hb hby d4_52) rfl rfl ?_
    exact kq)
  obtain ⟨T283, h283, X283, e283, W283, st283⟩ := putF X280 hx hZ hown (host := "") (Or.inl (tw30 hw)) Via.refl e280 f281 (Exa.wr W280 (Ex.keep K277)) (Or.inr ⟨(tw26 hw), rfl, hnm⟩) (tw11 hw) (ty := (.array .byte)) (by decide) rfl rfl (g := (mkF m 54 #[vR a1, vR a2, vI (0 : Int32), vI (3 : Int32), vN, vR t277] [(.ref t277), (.ref a1)])) rfl rfl (hb hby d4_54)
  have N283 := Fr.snoc X283 N280 g_a1
  have KP283 : Keep h0 h283 [a1] := KP280.wr W283 (Or.inl (List.mem_of_getElem? (i := 0) rfl))
  have O283 := O280.wr W283 g_a1
  have ZS283 : n0 ≤ h283.size := Nat.le_trans ZS280 (Keep.of_wr W283).1
  have F283 := Fld.same W283 f281
  have go283 : Goes p e below s₁ (G_cw3 m a1 a2) T283 (mkF m 57 #[vR a1, vR a2, vI (0 : Int32), vI (3 : Int32), vN, vR t277] []) := fun tq kq => go282 tq (st283 _ kq)
  have f284 := (Fld.other W283 F280 (Or.inr (slot_ne (Or.inr (tw27 hw)) (Or.inr (tw26 hw)) (by decide) (t := .byte) (t' := (.array .byte)) (by decide) (by decide))))
  obtain ⟨fs, hr, hrun, hended, hW, hsame⟩ := X283.leave (v := none) (fun _ => rfl)
  refine ⟨_, _, go283 _ ?_, hrun, hended, _, _, rfl, ?_, ⟨_, rfl⟩, hW, hsame.mono (by decide) (by decide)⟩
  · exact X283.returnOut hx Bd.returns (hb hby d4_57) hr
  · show Q_cw3 Z a1 a2 c0 c1 c2 kC cz h0 n0 _ T283.heap _
    rw [e283]
    exact ⟨rfl, N283, KP283, (Exa.wr W283 (Exa.wr W280 (Ex.keep K277))), f284, t277, kt277, F283, ((V277.other W280 (Ne.symm nat)).other W283 (Ne.symm nat))⟩
abbrev G_c1w3 (m : MethodId) (a1 : Addr) (a2 : Addr) : JFrame := (entryFrame m #[(.ref a1), (.ref a2)] 2)
def Q_c1w3 (Z : State) (a1 : Addr) (a2 : Addr) (c0 c1 c2 : Int32) (kC : ClassId) (cz : Int32) (h0 : Heap) (n0 : Nat) (v : Option Value) (h : Heap) (L : List Loc) : Prop := v = none ∧ Fr n0 L ∧ Keep h0 h [a1] ∧ Exa Z h a1 "java/lang/String" ∧ Fld Z h a1 "java/lang/String" "coder" "B" (.int (1 : Int32)) ∧ ∃ (t : Addr) (k : ClassId), Fld Z h a1 "java/lang/String" "value" "[B" (.ref t) ∧ Arv Z h t k .byte (6 : Int32) [(.int (StrChars.lo8 c0)), (.int (StrChars.hi8 c0)), (.int (StrChars.lo8 c1)), (.int (StrChars.hi8 c1)), (.int (StrChars.lo8 c2)), (.int (StrChars.hi8 c2))] (.int (0 : Int32))
set_option maxRecDepth 65536 in
set_option maxHeartbeats 40000000 in
theorem c1w3 (l : Launch) (Z : State) (a0 : Array Value) (hw : ∀ d ∈ tables_1, d.before a0 Z = true) (ws : List Jvm.Cond) (a1 : Addr) (a2 : Addr) (c0 c1 c2 : Int32) (kC : ClassId) (cz : Int32) (h0 : Heap) (n0 : Nat) (Z0 : n0 ≤ h0.size) (O0 : Old Z n0 h0) (g_a1 : n0 ≤ a1) (Ex : Exa Z h0 a1 "java/lang/String") (Fv : Fld Z h0 a1 "java/lang/String" "value" "[B" .null) (Fc : Fld Z h0 a1 "java/lang/String" "coder" "B" (.int (0 : Int32))) (AD : Sta Z Z.heap "java/lang/StringUTF16" "$assertionsDisabled" "Z" (.int (1 : Int32))) (HI : Sta Z Z.heap "java/lang/StringUTF16" "HI_BYTE_SHIFT" "I" (.int (0 : Int32))) (LO : Sta Z Z.heap "java/lang/StringUTF16" "LO_BYTE_SHIFT" "I" (.int (8 : Int32))) (SC : Sta Z Z.heap "java/lang/String" "COMPACT_STRINGS" "Z" (.int cz)) (hz : ¬ (cz = (0 : Int32))) (VA : Arv Z h0 a2 kC .char (3 : Int32) [(.int c0), (.int c1), (.int c2)] (.int (0 : Int32))) (hbad : ∃ c ∈ ([c0, c1, c2] : List Int32), (255 : Int32) < c) (hcs : ∀ c ∈ ([c0, c1, c2] : List Int32), C16 c) :
    MetFree l (⟨"java/lang/String", "<init>", "([C)V"⟩ : MethodName) (head1 (Jvm.Cond.code (⟨"java/lang/String", "<init>", "([C)V"⟩ : MethodName) jdk_42_method_3_code 2 none :: ws) ({ frames := 5, cells := 2, slots := 9, locals := 74 } : Room)) (fun a U => a = #[(.ref a1), (.ref a2)] ∧ Z.Warmed39 U.vm ∧ U.heap = h0) (fun _ _ _ _ _ => True) (fun _ U o U' => ∃ v L, o = .returned v ∧ Q_c1w3 Z a1 a2 c0 c1 c2 kC cz h0 n0 v U'.heap L ∧ FrameEnd U o U' L ({ frames := 5, cells := 2, slots := 9, locals := 74 } : Room).cells ({ frames := 5, cells := 2, slots := 9, locals := 74 } : Room).slots) := by
  refine MetFree.of_bodySF (plainFor_of_name pn_java_lang_String) hisR ?_
  intro p e s m args below meth c s₁ Bd hml0 hP hK
  obtain ⟨rfl, hZ, hh⟩ := hP
  have hx := Bd.exec
  have hby := Bd.bytes
  have hml : c.maxLocals = 2 := hml0
  have hown : s.vm.findClass "java/lang/String" = some m.cls := findClass_of_methodNamed Bd.named
  have hnm := (name_of_methodNamed Bd.named Bd.method).1
  have X0 : Stand p l e ({ frames := 5, cells := 2, slots := 9, locals := 74 } : Room) s m #[(.ref a1), (.ref a2)] below meth c s₁ [] 0 0 := Stand.of_body Bd
  have e0 : s₁.heap = h0 := by rw [← hh, Bd.state]; rfl
  have N0 := Fr.nil n0
  have KP0 : Keep h0 h0 [a1] := Keep.refl h0 [a1]
  have go0 : Goes p e below s₁ (G_c1w3 m a1 a2) s₁ (mkF m 0 #[vR a1, vR a2] []) := fun tq kq => castTop (by first | (simp [entryFrame, mkF, argsToLocals, Value.category, vI, vJ, vR, vD, vN, uN, sD, G_c1w3]; done) | rfl) kq
  have go285 : Goes p e below s₁ (G_c1w3 m a1 a2) s₁ (mkF m 4 #[vR a1, vR a2] [(.ref a2), (.int (0 : Int32)), (.ref a2), (.ref a1)]) := fun tq kq => go0 tq (by
    show Sx p e below s₁ (mkF m 0 #[vR a1, vR a2] []) _
    refine XS.aloadN X0.here hx rfl (hb hby d3_0) rfl rfl ?_
    refine XS.aloadN X0.here hx rfl (hb hby d3_1) rfl rfl ?_
    show Sx p e below s₁ (mkF m 2 #[vR a1, vR a2] [(.ref a2), (.ref a1)]) _
    refine XS.iconst X0.here hx rfl (hb hby d3_2) ?_
    refine XS.aloadN X0.here hx rfl (hb hby d3_3) rfl rfl ?_
    exact kq)
  obtain ⟨cl286, Ar286, q286, S286, N_286, H286, G286⟩ := id (VA)
  have go287 : Goes p e below s₁ (G_c1w3 m a1 a2) s₁ (mkF m 6 #[vR a1, vR a2] [.null, (.int (3 : Int32)), (.int (0 : Int32)), (.ref a2), (.ref a1)]) := fun tq kq => go285 tq (by
    show Sx p e below s₁ (mkF m 4 #[vR a1, vR a2] [(.ref a2), (.int (0 : Int32)), (.ref a2), (.ref a1)]) _
    refine X0.arraylength hx (by rw [e0]; exact Ar286.1) (State.isArrayOf_alike hZ.alike Ar286.2.1) (g := (mkF m 4 #[vR a1, vR a2] [(.ref a2), (.int (0 : Int32)), (.ref a2), (.ref a1)])) rfl rfl (hb hby d3_4) _ ?_
    rw [len_of S286 N_286]
    refine XS.aconstNull X0.here hx rfl (hb hby d3_5) ?_
    exact kq)
  obtain ⟨vv288, _, ⟨T288, L288, k288, n288⟩, -, X288, ⟨Lc288, hQ288, l288, y288, z288⟩, st288⟩ := X0.specialBack hx (y := (⟨"java/lang/String", "<init>", "([CIILjava/lang/Void;)V"⟩ : MethodName)) rfl hown (mvT hZ (tw17 hw)) (mvT hZ (tw18 hw)) (mvT hZ (tw20 hw)) (by decide) (backOf (W := 0) (cw3 l Z a0 hw [] a1 a2 c0 c1 c2 kC cz h0 n0 Z0 O0 g_a1 Ex Fv Fc AD HI LO SC hz VA hbad hcs) hZ (tw20 hw) (tw12 hw) (by decide) (by decide)) (g := (mkF m 6 #[vR a1, vR a2] [.null, (.int (3 : Int32)), (.int (0 : Int32)), (.ref a2), (.ref a1)])) rfl (by rw [hml]; rfl) (Steps.refl _) (a := a1) (argsL := [(.ref a2), (.int (0 : Int32)), (.int (3 : Int32)), .null]) (rest := []) (lenOf pd_7 rfl) rfl (by show 2 * 0 + _ ≤ _; exact Nat.le_of_eq rfl) (hb hby d3_6) (fun _ _ => ⟨rfl, e0, (by decide : 0 + 2 ≤ _), (by decide : 0 + 9 ≤ _)⟩)
  dsimp only [Pt.U, Pt.locs, Pt.cells, Pt.slots] at X288 l288 y288 z288 st288 hQ288
  subst l288 y288 z288
  obtain ⟨rfl, Nq288, K288, rest288⟩ := hQ288
  have N288 := Fr.app N0 Nq288
  have ZS288 : n0 ≤ T288.heap.size := Nat.le_trans Z0 K288.1
  have KP288 : Keep h0 T288.heap [a1] := KP0.trans K288 (allS (Or.inl (List.mem_of_getElem? (i := 0) rfl)) all0)
  have O288 := O0.keep K288 (allS g_a1 all0)
  have go288 : Goes p e below s₁ (G_c1w3 m a1 a2) T288 (mkF m 9 #[vR a1, vR a2] []) := fun tq kq => go287 tq (st288.trans kq)
  obtain ⟨fs, hr, hrun, hended, hW, hsame⟩ := X288.leave (v := none) (fun _ => rfl)
  refine ⟨_, _, go288 _ ?_, hrun, hended, _, _, rfl, ?_, ⟨_, rfl⟩, hW, hsame.mono (by decide) (by decide)⟩
  · exact X288.returnOut hx Bd.returns (hb hby d3_9) hr
  · show Q_c1w3 Z a1 a2 c0 c1 c2 kC cz h0 n0 _ T288.heap _
    exact ⟨rfl, N288, KP288, rest288⟩
abbrev G_rmCV (m : MethodId) (a1 : Addr) (a2 : Addr) : JFrame := (entryFrame m #[(.ref a1), (.ref a2), (.int (0 : Int32)), (.int (0 : Int32)), .null] 6)
theorem d4_8 : decode jdk_42_method_149_code 8 = .ok (.aload_n 0, 1) := by decide +kernel
theorem d4_9 : decode jdk_42_method_149_code 9 = .ok (.ldc 7, 2) := by decide +kernel
theorem d4_11 : decode jdk_42_method_149_code 11 = .ok (.getfield 9, 3) := by decide +kernel
theorem d4_14 : decode jdk_42_method_149_code 14 = .ok (.putfield 9, 3) := by decide +kernel
theorem d4_17 : decode jdk_42_method_149_code 17 = .ok (.aload_n 0, 1) := by decide +kernel
theorem d4_18 : decode jdk_42_method_149_code 18 = .ok (.ldc 7, 2) := by decide +kernel
theorem d4_20 : decode jdk_42_method_149_code 20 = .ok (.getfield 15, 3) := by decide +kernel
theorem d4_23 : decode jdk_42_method_149_code 23 = .ok (.putfield 15, 3) := by decide +kernel
theorem d4_26 : decode jdk_42_method_149_code 26 = .ok (.return_, 1) := by decide +kernel
def Q_rmCV (Z : State) (a1 : Addr) (a2 : Addr)  (h0 : Heap) (n0 : Nat) (v : Option Value) (h : Heap) (vm : Vm) (L : List Loc) : Prop := v = none ∧ Fr n0 L ∧ Keep h0 h [a1] ∧ JJ Z h vm ∧ Exa Z h a1 "java/lang/String" ∧ Fld Z h a1 "java/lang/String" "coder" "B" (.int (0 : Int32)) ∧ ∃ (t : Addr) (k : ClassId), Fld Z h a1 "java/lang/String" "value" "[B" (.ref t) ∧ Arv Z h t k .byte (0 : Int32) [] (.int 0)
set_option maxRecDepth 65536 in
set_option maxHeartbeats 40000000 in
theorem rmCV (l : Launch) (Z : State) (a0 : Array Value) (hw : ∀ d ∈ tables_1, d.before a0 Z = true) (ws : List Jvm.Cond) (a1 : Addr) (a2 : Addr)  (h0 : Heap) (n0 : Nat) (Z0 : n0 ≤ h0.size) (O0 : Old Z n0 h0) (g_a1 : n0 ≤ a1) (Ex : Exa Z h0 a1 "java/lang/String") (Fv : Fld Z h0 a1 "java/lang/String" "value" "[B" .null) (Fc : Fld Z h0 a1 "java/lang/String" "coder" "B" (.int (0 : Int32))) (hcw : Jvm.Lit.compactW.before a0 Z = true) (hld : Jvm.Lit.constHeld Z "java/lang/String" 7) :
    MetFree l (⟨"java/lang/String", "<init>", "([CIILjava/lang/Void;)V"⟩ : MethodName) (head1 (Jvm.Cond.code (⟨"java/lang/String", "<init>", "([CIILjava/lang/Void;)V"⟩ : MethodName) jdk_42_method_149_code 6 none :: ws) ({ frames := 1, cells := 2, slots := 4, locals := 12 } : Room)) (fun a U => a = #[(.ref a1), (.ref a2), (.int (0 : Int32)), (.int (0 : Int32)), .null] ∧ Z.Warmed39 U.vm ∧ U.heap = h0 ∧ JJ Z h0 U.vm) (fun _ _ _ _ _ => True) (fun _ U o U' => ∃ v L, o = .returned v ∧ Q_rmCV Z a1 a2 h0 n0 v U'.heap U'.vm L ∧ ReturnedEndW U o U' L ({ frames := 1, cells := 2, slots := 4, locals := 12 } : Room).cells ({ frames := 1, cells := 2, slots := 4, locals := 12 } : Room).slots) := by
  refine MetFree.of_bodySF (plainFor_of_name pn_java_lang_String) hisR ?_
  intro p e s m args below meth c s₁ Bd hml0 hP hK
  obtain ⟨rfl, hZ, hh, hJ⟩ := hP
  have hx := Bd.exec
  have hby := Bd.bytes
  have hml : c.maxLocals = 6 := hml0
  have hown : s.vm.findClass "java/lang/String" = some m.cls := findClass_of_methodNamed Bd.named
  have hnm := (name_of_methodNamed Bd.named Bd.method).1
  have X0 : Stand p l e ({ frames := 1, cells := 2, slots := 4, locals := 12 } : Room) s m #[(.ref a1), (.ref a2), (.int (0 : Int32)), (.int (0 : Int32)), .null] below meth c s₁ [] 0 0 := Stand.of_body Bd
  have e0 : s₁.heap = h0 := by rw [← hh, Bd.state]; rfl
  have N0 := Fr.nil n0
  have wS : ∀ a ∈ Bundle.stringAtoms, a.before a0 Z = true := fun d hd => hw d ((by decide +kernel : ∀ d ∈ Bundle.stringAtoms, d ∈ tables_1) d hd)
  have hkeep : ∀ (b : Addr) (cl : Cell), Z.heap[b]? = some cl → s.heap[b]? = some cl := fun b cl q => by rw [hh]; exact O0.2.2 b cl q
  have KP0 : Keep h0 h0 [a1] := Keep.refl h0 [a1]
  have go0 : Goes p e below s₁ (G_rmCV m a1 a2) s₁ (mkF m 0 #[vR a1, vR a2, vI (0 : Int32), vI (0 : Int32), vN, uN] []) := fun tq kq => castTop (by first | (simp [entryFrame, mkF, argsToLocals, Value.category, vI, vJ, vR, vD, vN, uN, sD, G_rmCV]; done) | rfl) kq
  have go289 : Goes p e below s₁ (G_rmCV m a1 a2) s₁ (mkF m 1 #[vR a1, vR a2, vI (0 : Int32), vI (0 : Int32), vN, uN] [(.ref a1)]) := fun tq kq => go0 tq (by
    show Sx p e below s₁ (mkF m 0 #[vR a1, vR a2, vI (0 : Int32), vI (0 : Int32), vN, uN] []) _
    refine XS.aloadN X0.here hx rfl (hb hby d4_0) rfl rfl ?_
    exact kq)
  obtain ⟨T290, X290, e290, st290⟩ := initO X0 hx hZ hown (tw21 hw) (tw22 hw) (tw23 hw) e0 (g := (mkF m 1 #[vR a1, vR a2, vI (0 : Int32), vI (0 : Int32), vN, uN] [(.ref a1)])) rfl (by rw [hml]; rfl) rfl (hb hby d4_1) (by decide) (W := 0) (by show 2 * 0 + _ ≤ _; exact Nat.le_of_eq rfl) (by decide)
  have go290 : Goes p e below s₁ (G_rmCV m a1 a2) T290 (mkF m 4 #[vR a1, vR a2, vI (0 : Int32), vI (0 : Int32), vN, uN] []) := fun tq kq => go289 tq (st290 _ kq)
  have go291 : Goes p e below s₁ (G_rmCV m a1 a2) T290 (mkF m 5 #[vR a1, vR a2, vI (0 : Int32), vI (0 : Int32), vN, uN] [(.int (0 : Int32))]) := fun tq kq => go290 tq (by
    show Sx p e below T290 (mkF m 4 #[vR a1, vR a2, vI (0 : Int32), vI (0 : Int32), vN, uN] []) _
    refine XS.iloadN X290.here hx rfl (hb hby d4_4) rfl ?_
    exact kq)
  have go292 : Goes p e below s₁ (G_rmCV m a1 a2) T290 (mkF m 9 #[vR a1, vR a2, vI (0 : Int32), vI (0 : Int32), vN, uN] [(.ref a1)]) := fun tq kq => go291 tq (by
    show Sx p e below T290 (mkF m 5 #[vR a1, vR a2, vI (0 : Int32), vI (0 : Int32), vN, uN] [(.int (0 : Int32))]) _
    refine XS.ifNo X290.here hx rfl (hb hby d4_5) rfl ((if0 _ _).trans (teq rfl).2) ?_
    refine XS.aloadN X290.here hx rfl (hb hby d4_8) rfl rfl ?_
    exact kq)
  rcases hJ with hIB | ⟨ua, ub, uk, Lu, Eu, Cu, Vu, Ku⟩
  · obtain ⟨a293, T293, h293, ks293, b293, kb293, X293, e293, E293, hS293, hk293, hZ293, hown293, A293, Fc293, Fv293, V293, la293, lb293, IB293, Lt293, st293⟩ := ldcSVL (s := s) (vm0 := s.vm) X290 hx hZ hown (tw24 hw) wS e290 ((State.WarmedH.refl s).since 0) (Nat.zero_le _) (Fr.nil _) hkeep hIB (by decide) hld hcw (vs := []) (z := (0 : Int32)) ⟨by decide, by first | rfl | decide⟩ (by decide) rfl (g := (mkF m 9 #[vR a1, vR a2, vI (0 : Int32), vI (0 : Int32), vN, uN] [(.ref a1)])) rfl (hb hby d4_9) (n := 0) (by decide) (by decide) (by decide) (by decide)
    have KP293 : Keep h0 h293 [a1] := KP0.ext E293
    have O293 := O0.ext E293
    have ZS293 : n0 ≤ h293.size := Nat.le_trans Z0 E293.1
    have hZ := hZ293
    have hown := hown293
    have go293 : Goes p e below s₁ (G_rmCV m a1 a2) T293 (mkF m 11 #[vR a1, vR a2, vI (0 : Int32), vI (0 : Int32), vN, uN] [(.ref a293), (.ref a1)]) := fun tq kq => go292 tq (st293 _ kq)
    have nea : a1 ≠ a293 := Fld.ne (Fv.ext E293) Fv293 (by nofun)
    have net : a1 ≠ b293 := Exa.neArv (Ex.ext E293) V293 (tw11 hw)
    obtain ⟨T294, X294, e294, st294⟩ := getF X293 hx hZ hown (host := "") (Or.inl (tw30 hw)) Via.refl e293 Fv293 (g := (mkF m 11 #[vR a1, vR a2, vI (0 : Int32), vI (0 : Int32), vN, uN] [(.ref a293), (.ref a1)])) rfl rfl (hb hby d4_11)
    have go294 : Goes p e below s₁ (G_rmCV m a1 a2) T294 (mkF m 14 #[vR a1, vR a2, vI (0 : Int32), vI (0 : Int32), vN, uN] [(.ref b293), (.ref a1)]) := fun tq kq => go293 tq (st294 _ kq)
    obtain ⟨T295, h295, X295, e295, W295, st295⟩ := putF X294 hx hZ hown (host := "") (Or.inl (tw30 hw)) Via.refl e294 (Fv.ext E293) (Ex.ext E293) (Or.inr ⟨(tw26 hw), rfl, hnm⟩) (tw11 hw) (ty := (.array .byte)) (by decide) rfl rfl (g := (mkF m 14 #[vR a1, vR a2, vI (0 : Int32), vI (0 : Int32), vN, uN] [(.ref b293), (.ref a1)])) rfl rfl (hb hby d4_14)
    have N295 := Fr.snoc X295 N0 g_a1
    have KP295 : Keep h0 h295 [a1] := KP293.wr W295 (Or.inl (List.mem_of_getElem? (i := 0) rfl))
    have O295 := O293.wr W295 g_a1
    have ZS295 : n0 ≤ h295.size := Nat.le_trans ZS293 (Keep.of_wr W295).1
    have F295 := Fld.same W295 (Fv.ext E293)
    have go295 : Goes p e below s₁ (G_rmCV m a1 a2) T295 (mkF m 17 #[vR a1, vR a2, vI (0 : Int32), vI (0 : Int32), vN, uN] []) := fun tq kq => go294 tq (st295 _ kq)
    have go296 : Goes p e below s₁ (G_rmCV m a1 a2) T295 (mkF m 18 #[vR a1, vR a2, vI (0 : Int32), vI (0 : Int32), vN, uN] [(.ref a1)]) := fun tq kq => go295 tq (by
      show Sx p e below T295 (mkF m 17 #[vR a1, vR a2, vI (0 : Int32), vI (0 : Int32), vN, uN] []) _
      refine XS.aloadN X295.here hx rfl (hb hby d4_17) rfl rfl ?_
      exact kq)
    have go297 : Goes p e below s₁ (G_rmCV m a1 a2) T295 (mkF m 20 #[vR a1, vR a2, vI (0 : Int32), vI (0 : Int32), vN, uN] [(.ref a293), (.ref a1)]) := fun tq kq => go296 tq (by
      show Sx p e below T295 (mkF m 18 #[vR a1, vR a2, vI (0 : Int32), vI (0 : Int32), vN, uN] [(.ref a1)]) _
      refine ldcAgain (s := s) (vm0 := T293.vm) X295 hx hZ hown (tw24 hw) Lt293 (g := (mkF m 18 #[vR a1, vR a2, vI (0 : Int32), vI (0 : Int32), vN, uN] [(.ref a1)])) rfl (hb hby d4_18) _ ?_
      exact kq)
    obtain ⟨T298, X298, e298, st298⟩ := getF X295 hx hZ hown (host := "") (Or.inl (tw31 hw)) Via.refl e295 (Fld.other W295 Fc293 (Or.inl (Ne.symm nea))) (g := (mkF m 20 #[vR a1, vR a2, vI (0 : Int32), vI (0 : Int32), vN, uN] [(.ref a293), (.ref a1)])) rfl rfl (hb hby d4_20)
    have go298 : Goes p e below s₁ (G_rmCV m a1 a2) T298 (mkF m 23 #[vR a1, vR a2, vI (0 : Int32), vI (0 : Int32), vN, uN] [(.int 0), (.ref a1)]) := fun tq kq => go297 tq (st298 _ kq)
    have f299 := (Fld.other W295 (Fc.ext E293) (Or.inr (slot_ne (Or.inr (tw27 hw)) (Or.inr (tw26 hw)) (by decide) (t := .byte) (t' := (.array .byte)) (by decide) (by decide))))
    obtain ⟨T300, h300, X300, e300, W300, st300⟩ := putFN X298 hx hZ hown (tw31 hw) Via.refl e298 f299 (Exa.wr W295 (Ex.ext E293)) (Or.inr ⟨(tw27 hw), rfl, hnm⟩) (tw11 hw) (ty := .byte) (v' := (.int (0 : Int32))) (by decide) rfl (by decide) (g := (mkF m 23 #[vR a1, vR a2, vI (0 : Int32), vI (0 : Int32), vN, uN] [(.int 0), (.ref a1)])) rfl rfl (hb hby d4_23)
    have N300 := Fr.snoc X300 N295 g_a1
    have KP300 : Keep h0 h300 [a1] := KP295.wr W300 (Or.inl (List.mem_of_getElem? (i := 0) rfl))
    have O300 := O295.wr W300 g_a1
    have ZS300 : n0 ≤ h300.size := Nat.le_trans ZS295 (Keep.of_wr W300).1
    have F300 := Fld.same W300 f299
    have go300 : Goes p e below s₁ (G_rmCV m a1 a2) T300 (mkF m 26 #[vR a1, vR a2, vI (0 : Int32), vI (0 : Int32), vN, uN] []) := fun tq kq => go298 tq (st300 _ kq)
    have f301 := (Fld.other W300 (Fld.other W295 Fc293 (Or.inl (Ne.symm nea))) (Or.inl (Ne.symm nea)))
    have f302 := (Fld.other W300 (Fld.other W295 Fv293 (Or.inl (Ne.symm nea))) (Or.inl (Ne.symm nea)))
    have f303 := (Fld.other W300 F295 (Or.inr (slot_ne (Or.inr (tw26 hw)) (Or.inr (tw27 hw)) (by decide) (t := (.array .byte)) (t' := .byte) (by decide) (by decide))))
    obtain ⟨fs, hr, hrun, hended, hEW⟩ := Stand.leaveW (s := s) X300 hS293 (by rw [e300]; exact (Nat.le_trans (Nat.le_trans hk293 (Keep.of_wr W295).1) (Keep.of_wr W300).1)) (v := none) (fun _ => rfl)
    refine ⟨_, _, go300 _ ?_, hrun, hended, _, _, rfl, ?_, hEW.1, hEW.2.1, hEW.2.2.1, hEW.2.2.2.mono (by decide) (by decide)⟩
    · exact X300.returnOut hx Bd.returns (hb hby d4_26) hr
    · show Q_rmCV Z a1 a2 h0 n0 _ T300.heap T300.vm _
      rw [e300]
      exact ⟨rfl, N300, KP300, Or.inr ⟨a293, b293, kb293, own_lit (Z := s) (Lit.stays (s := s) (vm0 := T293.vm) Lt293 X300.warmed.wide), (Exa.wr W300 (Exa.wr W295 A293)), f301, f302, ((V293.other W295 (Ne.symm net)).other W300 (Ne.symm net))⟩, (Exa.wr W300 (Exa.wr W295 (Ex.ext E293))), F300, b293, kb293, f303, ((V293.other W295 (Ne.symm net)).other W300 (Ne.symm net))⟩
  · have go304 : Goes p e below s₁ (G_rmCV m a1 a2) T290 (mkF m 11 #[vR a1, vR a2, vI (0 : Int32), vI (0 : Int32), vN, uN] [(.ref ua), (.ref a1)]) := fun tq kq => go292 tq (by
      show Sx p e below T290 (mkF m 9 #[vR a1, vR a2, vI (0 : Int32), vI (0 : Int32), vN, uN] [(.ref a1)]) _
      refine ldcAgain (s := s) (vm0 := s.vm) X290 hx hZ hown (tw24 hw) (own_lit (Z := Z) Lu) (g := (mkF m 9 #[vR a1, vR a2, vI (0 : Int32), vI (0 : Int32), vN, uN] [(.ref a1)])) rfl (hb hby d4_9) _ ?_
      exact kq)
    have nea : a1 ≠ ua := Fld.ne Fv Vu (by nofun)
    have net : a1 ≠ ub := Exa.neArv Ex Ku (tw11 hw)
    obtain ⟨T305, X305, e305, st305⟩ := getF X290 hx hZ hown (host := "") (Or.inl (tw30 hw)) Via.refl e290 Vu (g := (mkF m 11 #[vR a1, vR a2, vI (0 : Int32), vI (0 : Int32), vN, uN] [(.ref ua), (.ref a1)])) rfl rfl (hb hby d4_11)
    have go305 : Goes p e below s₁ (G_rmCV m a1 a2) T305 (mkF m 14 #[vR a1, vR a2, vI (0 : Int32), vI (0 : Int32), vN, uN] [(.ref ub), (.ref a1)]) := fun tq kq => go304 tq (st305 _ kq)
    obtain ⟨T306, h306, X306, e306, W306, st306⟩ := putF X305 hx hZ hown (host := "") (Or.inl (tw30 hw)) Via.refl e305 Fv Ex (Or.inr ⟨(tw26 hw), rfl, hnm⟩) (tw11 hw) (ty := (.array .byte)) (by decide) rfl rfl (g := (mkF m 14 #[vR a1, vR a2, vI (0 : Int32), vI (0 : Int32), vN, uN] [(.ref ub), (.ref a1)])) rfl rfl (hb hby d4_14)
    have N306 := Fr.snoc X306 N0 g_a1
    have KP306 : Keep h0 h306 [a1] := KP0.wr W306 (Or.inl (List.mem_of_getElem? (i := 0) rfl))
    have O306 := O0.wr W306 g_a1
    have ZS306 : n0 ≤ h306.size := Nat.le_trans Z0 (Keep.of_wr W306).1
    have F306 := Fld.same W306 Fv
    have go306 : Goes p e below s₁ (G_rmCV m a1 a2) T306 (mkF m 17 #[vR a1, vR a2, vI (0 : Int32), vI (0 : Int32), vN, uN] []) := fun tq kq => go305 tq (st306 _ kq)
    have go307 : Goes p e below s₁ (G_rmCV m a1 a2) T306 (mkF m 18 #[vR a1, vR a2, vI (0 : Int32), vI (0 : Int32), vN, uN] [(.ref a1)]) := fun tq kq => go306 tq (by
      show Sx p e below T306 (mkF m 17 #[vR a1, vR a2, vI (0 : Int32), vI (0 : Int32), vN, uN] []) _
      refine XS.aloadN X306.here hx rfl (hb hby d4_17) rfl rfl ?_
      exact kq)
    have go308 : Goes p e below s₁ (G_rmCV m a1 a2) T306 (mkF m 20 #[vR a1, vR a2, vI (0 : Int32), vI (0 : Int32), vN, uN] [(.ref ua), (.ref a1)]) := fun tq kq => go307 tq (by
      show Sx p e below T306 (mkF m 18 #[vR a1, vR a2, vI (0 : Int32), vI (0 : Int32), vN, uN] [(.ref a1)]) _
      refine ldcAgain (s := s) (vm0 := s.vm) X306 hx hZ hown (tw24 hw) (own_lit (Z := Z) Lu) (g := (mkF m 18 #[vR a1, vR a2, vI (0 : Int32), vI (0 : Int32), vN, uN] [(.ref a1)])) rfl (hb hby d4_18) _ ?_
      exact kq)
    obtain ⟨T309, X309, e309, st309⟩ := getF X306 hx hZ hown (host := "") (Or.inl (tw31 hw)) Via.refl e306 (Fld.other W306 Cu (Or.inl (Ne.symm nea))) (g := (mkF m 20 #[vR a1, vR a2, vI (0 : Int32), vI (0 : Int32), vN, uN] [(.ref ua), (.ref a1)])) rfl rfl (hb hby d4_20)
    have go309 : Goes p e below s₁ (G_rmCV m a1 a2) T309 (mkF m 23 #[vR a1, vR a2, vI (0 : Int32), vI (0 : Int32), vN, uN] [(.int 0), (.ref a1)]) := fun tq kq => go308 tq (st309 _ kq)
    have f310 := (Fld.other W306 Fc (Or.inr (slot_ne (Or.inr (tw27 hw)) (Or.inr (tw26 hw)) (by decide) (t := .byte) (t' := (.array .byte)) (by decide) (by decide))))
    obtain ⟨T311, h311, X311, e311, W311, st311⟩ := putFN X309 hx hZ hown (tw31 hw) Via.refl e309 f310 (Exa.wr W306 Ex) (Or.inr ⟨(tw27 hw), rfl, hnm⟩) (tw11 hw) (ty := .byte) (v' := (.int (0 : Int32))) (by decide) rfl (by decide) (g := (mkF m 23 #[vR a1, vR a2, vI (0 : Int32), vI (0 : Int32), vN, uN] [(.int 0), (.ref a1)])) rfl rfl (hb hby d4_23)
    have N311 := Fr.snoc X311 N306 g_a1
    have KP311 : Keep h0 h311 [a1] := KP306.wr W311 (Or.inl (List.mem_of_getElem? (i := 0) rfl))
    have O311 := O306.wr W311 g_a1
    have ZS311 : n0 ≤ h311.size := Nat.le_trans ZS306 (Keep.of_wr W311).1
    have F311 := Fld.same W311 f310
    have go311 : Goes p e below s₁ (G_rmCV m a1 a2) T311 (mkF m 26 #[vR a1, vR a2, vI (0 : Int32), vI (0 : Int32), vN, uN] []) := fun tq kq => go309 tq (st311 _ kq)
    have f312 := (Fld.other W311 (Fld.other W306 Cu (Or.inl (Ne.symm nea))) (Or.inl (Ne.symm nea)))
    have f313 := (Fld.other W311 (Fld.other W306 Vu (Or.inl (Ne.symm nea))) (Or.inl (Ne.symm nea)))
    have f314 := (Fld.other W311 F306 (Or.inr (slot_ne (Or.inr (tw26 hw)) (Or.inr (tw27 hw)) (by decide) (t := (.array .byte)) (t' := .byte) (by decide) (by decide))))
    obtain ⟨fs, hr, hrun, hended, hW, hsame⟩ := X311.leave (v := none) (fun _ => rfl)
    refine ⟨_, _, go311 _ ?_, hrun, hended, _, _, rfl, ?_, ReturnedEndW.of_narrow ⟨_, rfl⟩ hW (hsame.mono (by decide) (by decide))⟩
    · exact X311.returnOut hx Bd.returns (hb hby d4_26) hr
    · show Q_rmCV Z a1 a2 h0 n0 _ T311.heap T311.vm _
      rw [e311]
      exact ⟨rfl, N311, KP311, Or.inr ⟨ua, ub, uk, own_lit (Z := s) (Lit.stays (s := s) (vm0 := s.vm) (own_lit (Z := Z) Lu) X311.warmed.wide), (Exa.wr W311 (Exa.wr W306 Eu)), f312, f313, ((Ku.other W306 (Ne.symm net)).other W311 (Ne.symm net))⟩, (Exa.wr W311 (Exa.wr W306 Ex)), F311, ub, uk, f314, ((Ku.other W306 (Ne.symm net)).other W311 (Ne.symm net))⟩
abbrev G_rmC1 (m : MethodId) (a1 : Addr) (a2 : Addr) : JFrame := (entryFrame m #[(.ref a1), (.ref a2)] 2)
def Q_rmC1 (Z : State) (a1 : Addr) (a2 : Addr) (kC : ClassId) (h0 : Heap) (n0 : Nat) (v : Option Value) (h : Heap) (vm : Vm) (L : List Loc) : Prop := v = none ∧ Fr n0 L ∧ Keep h0 h [a1] ∧ JJ Z h vm ∧ Exa Z h a1 "java/lang/String" ∧ Fld Z h a1 "java/lang/String" "coder" "B" (.int (0 : Int32)) ∧ ∃ (t : Addr) (k : ClassId), Fld Z h a1 "java/lang/String" "value" "[B" (.ref t) ∧ Arv Z h t k .byte (0 : Int32) [] (.int 0)
set_option maxRecDepth 65536 in
set_option maxHeartbeats 40000000 in
theorem rmC1 (l : Launch) (Z : State) (a0 : Array Value) (hw : ∀ d ∈ tables_1, d.before a0 Z = true) (ws : List Jvm.Cond) (a1 : Addr) (a2 : Addr) (kC : ClassId) (h0 : Heap) (n0 : Nat) (Z0 : n0 ≤ h0.size) (O0 : Old Z n0 h0) (g_a1 : n0 ≤ a1) (Ex : Exa Z h0 a1 "java/lang/String") (Fv : Fld Z h0 a1 "java/lang/String" "value" "[B" .null) (Fc : Fld Z h0 a1 "java/lang/String" "coder" "B" (.int (0 : Int32))) (hcw : Jvm.Lit.compactW.before a0 Z = true) (hld : Jvm.Lit.constHeld Z "java/lang/String" 7) (VA : Arv Z h0 a2 kC .char (0 : Int32) [] (.int (0 : Int32))) :
    MetFree l (⟨"java/lang/String", "<init>", "([C)V"⟩ : MethodName) (head1 (Jvm.Cond.code (⟨"java/lang/String", "<init>", "([C)V"⟩ : MethodName) jdk_42_method_3_code 2 none :: ws) ({ frames := 2, cells := 2, slots := 4, locals := 29 } : Room)) (fun a U => a = #[(.ref a1), (.ref a2)] ∧ Z.Warmed39 U.vm ∧ U.heap = h0 ∧ JJ Z h0 U.vm) (fun _ _ _ _ _ => True) (fun _ U o U' => ∃ v L, o = .returned v ∧ Q_rmC1 Z a1 a2 kC h0 n0 v U'.heap U'.vm L ∧ ReturnedEndW U o U' L ({ frames := 2, cells := 2, slots := 4, locals := 29 } : Room).cells ({ frames := 2, cells := 2, slots := 4, locals := 29 } : Room).slots) := by
  refine MetFree.of_bodySF (plainFor_of_name pn_java_lang_String) hisR ?_
  intro p e s m args below meth c s₁ Bd hml0 hP hK
  obtain ⟨rfl, hZ, hh, hJ⟩ := hP
  have hx := Bd.exec
  have hby := Bd.bytes
  have hml : c.maxLocals = 2 := hml0
  have hown : s.vm.findClass "java/lang/String" = some m.cls := findClass_of_methodNamed Bd.named
  have hnm := (name_of_methodNamed Bd.named Bd.method).1
  have X0 : Stand p l e ({ frames := 2, cells := 2, slots := 4, locals := 29 } : Room) s m #[(.ref a1), (.ref a2)] below meth c s₁ [] 0 0 := Stand.of_body Bd
  have e0 : s₁.heap = h0 := by rw [← hh, Bd.state]; rfl
  have N0 := Fr.nil n0
  have wS : ∀ a ∈ Bundle.stringAtoms, a.before a0 Z = true := fun d hd => hw d ((by decide +kernel : ∀ d ∈ Bundle.stringAtoms, d ∈ tables_1) d hd)
  have hkeep : ∀ (b : Addr) (cl : Cell), Z.heap[b]? = some cl → s.heap[b]? = some cl := fun b cl q => by rw [hh]; exact O0.2.2 b cl q
  have KP0 : Keep h0 h0 [a1] := Keep.refl h0 [a1]
  have go0 : Goes p e below s₁ (G_rmC1 m a1 a2) s₁ (mkF m 0 #[vR a1, vR a2] []) := fun tq kq => castTop (by first | (simp [entryFrame, mkF, argsToLocals, Value.category, vI, vJ, vR, vD, vN, uN, sD, G_rmC1]; done) | rfl) kq
  have go315 : Goes p e below s₁ (G_rmC1 m a1 a2) s₁ (mkF m 4 #[vR a1, vR a2] [(.ref a2), (.int (0 : Int32)), (.ref a2), (.ref a1)]) := fun tq kq => go0 tq (by
    show Sx p e below s₁ (mkF m 0 #[vR a1, vR a2] []) _
    refine XS.aloadN X0.here hx rfl (hb hby d3_0) rfl rfl ?_
    refine XS.aloadN X0.here hx rfl (hb hby d3_1) rfl rfl ?_
    show Sx p e below s₁ (mkF m 2 #[vR a1, vR a2] [(.ref a2), (.ref a1)]) _
    refine XS.iconst X0.here hx rfl (hb hby d3_2) ?_
    refine XS.aloadN X0.here hx rfl (hb hby d3_3) rfl rfl ?_
    exact kq)
  obtain ⟨cl316, Ar316, q316, S316, N_316, H316, G316⟩ := id (VA)
  have go317 : Goes p e below s₁ (G_rmC1 m a1 a2) s₁ (mkF m 6 #[vR a1, vR a2] [.null, (.int (0 : Int32)), (.int (0 : Int32)), (.ref a2), (.ref a1)]) := fun tq kq => go315 tq (by
    show Sx p e below s₁ (mkF m 4 #[vR a1, vR a2] [(.ref a2), (.int (0 : Int32)), (.ref a2), (.ref a1)]) _
    refine X0.arraylength hx (by rw [e0]; exact Ar316.1) (State.isArrayOf_alike hZ.alike Ar316.2.1) (g := (mkF m 4 #[vR a1, vR a2] [(.ref a2), (.int (0 : Int32)), (.ref a2), (.ref a1)])) rfl rfl (hb hby d3_4) _ ?_
    rw [len_of S316 N_316]
    refine XS.aconstNull X0.here hx rfl (hb hby d3_5) ?_
    exact kq)
  obtain ⟨vv318, _, ⟨T318, L318, k318, n318⟩, -, X318, hs318, gr318, ⟨Lc318, hQ318, l318, y318, z318⟩, st318⟩ := X0.specialBackS hx (y := (⟨"java/lang/String", "<init>", "([CIILjava/lang/Void;)V"⟩ : MethodName)) rfl hown (mvT hZ (tw17 hw)) (mvT hZ (tw18 hw)) (mvT hZ (tw20 hw)) (by decide) (own_backV (W := 0) (rmCV l Z a0 hw [] a1 a2  h0 n0 Z0 O0 g_a1 Ex Fv Fc hcw hld) hZ hJ (tw20 hw) (tw12 hw) (by decide) (by decide)) (g := (mkF m 6 #[vR a1, vR a2] [.null, (.int (0 : Int32)), (.int (0 : Int32)), (.ref a2), (.ref a1)])) rfl (by rw [hml]; rfl) (Steps.refl _) (a := a1) (argsL := [(.ref a2), (.int (0 : Int32)), (.int (0 : Int32)), .null]) (rest := []) (lenOf pd_7 rfl) rfl (by show 2 * 0 + _ ≤ _; exact Nat.le_of_eq rfl) (hb hby d3_6) (fun _ _ => ⟨rfl, e0, (by decide : 0 + 2 ≤ _), (by decide : 0 + 4 ≤ _)⟩)
  dsimp only [Pt.U, Pt.locs, Pt.cells, Pt.slots] at X318 hs318 gr318 l318 y318 z318 st318 hQ318
  subst l318 y318 z318
  obtain ⟨Y318, hS318, hZ318, hown318⟩ := rebS (s := s) (vm0 := s.vm) ((State.WarmedH.refl s).since 0) (Nat.zero_le _) X318 hs318 gr318 hZ hown
  have hZ := hZ318
  have hown := hown318
  obtain ⟨rfl, Nq318, K318, rest318⟩ := hQ318
  have N318 := Fr.app N0 Nq318
  have ZS318 : n0 ≤ T318.heap.size := Nat.le_trans Z0 K318.1
  have KP318 : Keep h0 T318.heap [a1] := KP0.trans K318 (allS (Or.inl (List.mem_of_getElem? (i := 0) rfl)) all0)
  have O318 := O0.keep K318 (allS g_a1 all0)
  have go318 : Goes p e below s₁ (G_rmC1 m a1 a2) T318 (mkF m 9 #[vR a1, vR a2] []) := fun tq kq => go317 tq (st318.trans kq)
  obtain ⟨fs, hr, hrun, hended, hEW⟩ := Stand.leaveW (s := s) Y318 hS318 (Nat.le_refl _) (v := none) (fun _ => rfl)
  refine ⟨_, _, go318 _ ?_, hrun, hended, _, _, rfl, ?_, hEW.1, hEW.2.1, hEW.2.2.1, hEW.2.2.2.mono (by decide) (by decide)⟩
  · exact Y318.returnOut hx Bd.returns (hb hby d3_9) hr
  · show Q_rmC1 Z a1 a2 kC h0 n0 _ T318.heap T318.vm _
    exact ⟨rfl, N318, KP318, JJ.warm (s := s.setVm T318.vm) rest318.1 Y318.warmed, rest318.2⟩
def csv (n a b c : Int32) : List Int32 := if n = 0 then [] else if n = 1 then [a] else if n = 2 then [a, b] else [a, b, c]
def Q4 (n : Int32) : Prop := n = 0 ∨ n = 1 ∨ n = 2 ∨ n = 3
theorem own_cdd {cs ds : List Int32} (h : cs = ds) (hb : ∀ c ∈ cs, ¬ (255 : Int32) < c) : StrChars.Road.CodA cs 0 (Int32.ofNat cs.length) ((cs.map (fun c => c.toInt8.toInt32)).map Value.int) := StrChars.Road.codOf (cs := cs) (n := cs.length) rfl hb
theorem own_ex {cs : List Int32} (h : ¬ ∀ c ∈ cs, ¬ (255 : Int32) < c) : ∃ c ∈ cs, (255 : Int32) < c := by
  exact Classical.byContradiction fun q => h fun c hc k => q ⟨c, hc, k⟩
abbrev G_rmMk (m : MethodId) (p1 : Int32) (p2 : Int32) (p3 : Int32) (p4 : Int32) : JFrame := (entryFrame m #[(.int p1), (.int p2), (.int p3), (.int p4)] 4)
theorem d2_0 : decode method_4_code 0 = .ok (.iload_n 3, 1) := by decide +kernel
theorem d2_1 : decode method_4_code 1 = .ok (.ifCond .ne 14, 3) := by decide +kernel
theorem d2_4 : decode method_4_code 4 = .ok (.new 37, 3) := by decide +kernel
theorem d2_7 : decode method_4_code 7 = .ok (.dup, 1) := by decide +kernel
theorem d2_8 : decode method_4_code 8 = .ok (.iconst 0, 1) := by decide +kernel
theorem d2_9 : decode method_4_code 9 = .ok (.newarray .char, 2) := by decide +kernel
theorem d2_11 : decode method_4_code 11 = .ok (.invokespecial 39, 3) := by decide +kernel
theorem pd_8 : parseMethodDescriptor "([C)V" = some ⟨[(.array .char)], none⟩ := by decide +kernel
theorem d2_14 : decode method_4_code 14 = .ok (.areturn, 1) := by decide +kernel
theorem d2_15 : decode method_4_code 15 = .ok (.iload_n 3, 1) := by decide +kernel
theorem d2_16 : decode method_4_code 16 = .ok (.iconst 1, 1) := by decide +kernel
theorem d2_17 : decode method_4_code 17 = .ok (.if_icmp .ne 18, 3) := by decide +kernel
theorem d2_20 : decode method_4_code 20 = .ok (.new 37, 3) := by decide +kernel
theorem d2_23 : decode method_4_code 23 = .ok (.dup, 1) := by decide +kernel
theorem d2_24 : decode method_4_code 24 = .ok (.iconst 1, 1) := by decide +kernel
theorem d2_25 : decode method_4_code 25 = .ok (.newarray .char, 2) := by decide +kernel
theorem d2_27 : decode method_4_code 27 = .ok (.dup, 1) := by decide +kernel
theorem d2_28 : decode method_4_code 28 = .ok (.iconst 0, 1) := by decide +kernel
theorem d2_29 : decode method_4_code 29 = .ok (.iload_n 0, 1) := by decide +kernel
theorem d2_30 : decode method_4_code 30 = .ok (.castore, 1) := by decide +kernel
theorem d2_31 : decode method_4_code 31 = .ok (.invokespecial 39, 3) := by decide +kernel
theorem d2_34 : decode method_4_code 34 = .ok (.areturn, 1) := by decide +kernel
theorem d2_35 : decode method_4_code 35 = .ok (.iload_n 3, 1) := by decide +kernel
theorem d2_36 : decode method_4_code 36 = .ok (.iconst 2, 1) := by decide +kernel
theorem d2_37 : decode method_4_code 37 = .ok (.if_icmp .ne 22, 3) := by decide +kernel
theorem d2_40 : decode method_4_code 40 = .ok (.new 37, 3) := by decide +kernel
theorem d2_43 : decode method_4_code 43 = .ok (.dup, 1) := by decide +kernel
theorem d2_44 : decode method_4_code 44 = .ok (.iconst 2, 1) := by decide +kernel
theorem d2_45 : decode method_4_code 45 = .ok (.newarray .char, 2) := by decide +kernel
theorem d2_47 : decode method_4_code 47 = .ok (.dup, 1) := by decide +kernel
theorem d2_48 : decode method_4_code 48 = .ok (.iconst 0, 1) := by decide +kernel
theorem d2_49 : decode method_4_code 49 = .ok (.iload_n 0, 1) := by decide +kernel
theorem d2_50 : decode method_4_code 50 = .ok (.castore, 1) := by decide +kernel
theorem d2_51 : decode method_4_code 51 = .ok (.dup, 1) := by decide +kernel
theorem d2_52 : decode method_4_code 52 = .ok (.iconst 1, 1) := by decide +kernel
theorem d2_53 : decode method_4_code 53 = .ok (.iload_n 1, 1) := by decide +kernel
theorem d2_54 : decode method_4_code 54 = .ok (.castore, 1) := by decide +kernel
theorem d2_55 : decode method_4_code 55 = .ok (.invokespecial 39, 3) := by decide +kernel
theorem d2_58 : decode method_4_code 58 = .ok (.areturn, 1) := by decide +kernel
theorem d2_59 : decode method_4_code 59 = .ok (.new 37, 3) := by decide +kernel
theorem d2_62 : decode method_4_code 62 = .ok (.dup, 1) := by decide +kernel
theorem d2_63 : decode method_4_code 63 = .ok (.iconst 3, 1) := by decide +kernel
theorem d2_64 : decode method_4_code 64 = .ok (.newarray .char, 2) := by decide +kernel
theorem d2_66 : decode method_4_code 66 = .ok (.dup, 1) := by decide +kernel
theorem d2_67 : decode method_4_code 67 = .ok (.iconst 0, 1) := by decide +kernel
theorem d2_68 : decode method_4_code 68 = .ok (.iload_n 0, 1) := by decide +kernel
theorem d2_69 : decode method_4_code 69 = .ok (.castore, 1) := by decide +kernel
theorem d2_70 : decode method_4_code 70 = .ok (.dup, 1) := by decide +kernel
theorem d2_71 : decode method_4_code 71 = .ok (.iconst 1, 1) := by decide +kernel
theorem d2_72 : decode method_4_code 72 = .ok (.iload_n 1, 1) := by decide +kernel
theorem d2_73 : decode method_4_code 73 = .ok (.castore, 1) := by decide +kernel
theorem d2_74 : decode method_4_code 74 = .ok (.dup, 1) := by decide +kernel
theorem d2_75 : decode method_4_code 75 = .ok (.iconst 2, 1) := by decide +kernel
theorem d2_76 : decode method_4_code 76 = .ok (.iload_n 2, 1) := by decide +kernel
theorem d2_77 : decode method_4_code 77 = .ok (.castore, 1) := by decide +kernel
theorem d2_78 : decode method_4_code 78 = .ok (.invokespecial 39, 3) := by decide +kernel
theorem d2_81 : decode method_4_code 81 = .ok (.areturn, 1) := by decide +kernel
def Q_rmMk (Z : State) (p1 : Int32) (p2 : Int32) (p3 : Int32) (p4 : Int32) (cz : Int32) (h0 : Heap) (n0 : Nat) (v : Option Value) (h : Heap) (vm : Vm) (L : List Loc) : Prop := ∃ (x t : Addr) (k : ClassId) (cd N : Int32) (vs : List Value), v = some (.ref x) ∧ Fr n0 L ∧ Keep h0 h [] ∧ JJ Z h vm ∧ Exa Z h x "java/lang/String" ∧ Fld Z h x "java/lang/String" "coder" "B" (.int cd) ∧ Fld Z h x "java/lang/String" "value" "[B" (.ref t) ∧ Arv Z h t k .byte N vs (.int 0) ∧ StrChars.Road.CodA (csv p4 p1 p2 p3) cd N vs
theorem pn_com_example_nuthatch_nuthatch_util_TextCompareCodePointsPinLaw : plainName "com/example/nuthatch/nuthatch/util/TextCompareCodePointsPinLaw" = true := by first | (simp [plainName, overriddenIn]; done) | decide +kernel
set_option maxRecDepth 65536 in
set_option maxHeartbeats 40000000 in
theorem rmMk (l : Launch) (Z : State) (a0 : Array Value) (hw : ∀ d ∈ tables_1, d.before a0 Z = true) (ws : List Jvm.Cond) (p1 : Int32) (p2 : Int32) (p3 : Int32) (p4 : Int32) (cz : Int32) (h0 : Heap) (n0 : Nat) (Z0 : n0 ≤ h0.size) (O0 : Old Z n0 h0) (hcw : Jvm.Lit.compactW.before a0 Z = true) (hld : Jvm.Lit.constHeld Z "java/lang/String" 7) (AD : Sta Z Z.heap "java/lang/StringUTF16" "$assertionsDisabled" "Z" (.int (1 : Int32))) (HI : Sta Z Z.heap "java/lang/StringUTF16" "HI_BYTE_SHIFT" "I" (.int (0 : Int32))) (LO : Sta Z Z.heap "java/lang/StringUTF16" "LO_BYTE_SHIFT" "I" (.int (8 : Int32))) (SC : Sta Z Z.heap "java/lang/String" "COMPACT_STRINGS" "Z" (.int cz)) (hz : ¬ (cz = (0 : Int32))) (hka : C16 p1) (hkb : C16 p2) (hkc : C16 p3) :
    MetFree l (⟨"com/example/nuthatch/nuthatch/util/TextCompareCodePointsPinLaw", "make", "(CCCI)Ljava/lang/String;"⟩ : MethodName) (head1 (Jvm.Cond.code (⟨"com/example/nuthatch/nuthatch/util/TextCompareCodePointsPinLaw", "make", "(CCCI)Ljava/lang/String;"⟩ : MethodName) method_4_code 4 (some (.object "java/lang/String")) :: ws) ({ frames := 6, cells := 4, slots := 16, locals := 88 } : Room)) (fun a U => a = #[(.int p1), (.int p2), (.int p3), (.int p4)] ∧ Z.Warmed39 U.vm ∧ U.heap = h0 ∧ JJ Z h0 U.vm) (fun _ _ _ _ _ => True) (fun _ U o U' => ∃ v L, o = .returned v ∧ Q_rmMk Z p1 p2 p3 p4 cz h0 n0 v U'.heap U'.vm L ∧ ReturnedEndW U o U' L ({ frames := 6, cells := 4, slots := 16, locals := 88 } : Room).cells ({ frames := 6, cells := 4, slots := 16, locals := 88 } : Room).slots) := by
  refine MetFree.of_bodySF (plainFor_of_name pn_com_example_nuthatch_nuthatch_util_TextCompareCodePointsPinLaw) hisR ?_
  intro p e s m args below meth c s₁ Bd hml0 hP hK
  obtain ⟨rfl, hZ, hh, hJ⟩ := hP
  have hx := Bd.exec
  have hby := Bd.bytes
  have hml : c.maxLocals = 4 := hml0
  have hown : s.vm.findClass "com/example/nuthatch/nuthatch/util/TextCompareCodePointsPinLaw" = some m.cls := findClass_of_methodNamed Bd.named
  have hnm := (name_of_methodNamed Bd.named Bd.method).1
  have X0 : Stand p l e ({ frames := 6, cells := 4, slots := 16, locals := 88 } : Room) s m #[(.int p1), (.int p2), (.int p3), (.int p4)] below meth c s₁ [] 0 0 := Stand.of_body Bd
  have e0 : s₁.heap = h0 := by rw [← hh, Bd.state]; rfl
  have N0 := Fr.nil n0
  have wS : ∀ a ∈ Bundle.stringAtoms, a.before a0 Z = true := fun d hd => hw d ((by decide +kernel : ∀ d ∈ Bundle.stringAtoms, d ∈ tables_1) d hd)
  have hkeep : ∀ (b : Addr) (cl : Cell), Z.heap[b]? = some cl → s.heap[b]? = some cl := fun b cl q => by rw [hh]; exact O0.2.2 b cl q
  have KP0 : Keep h0 h0 [] := Keep.refl h0 []
  have go0 : Goes p e below s₁ (G_rmMk m p1 p2 p3 p4) s₁ (mkF m 0 #[vI p1, vI p2, vI p3, vI p4] []) := fun tq kq => castTop (by first | (simp [entryFrame, mkF, argsToLocals, Value.category, vI, vJ, vR, vD, vN, uN, sD, G_rmMk]; done) | rfl) kq
  have hws : ∀ d ∈ StrChars.Road.words, d.before a0 Z = true := fun d hd => hw d ((by decide +kernel : ∀ d ∈ StrChars.Road.words, d ∈ tables_1) d hd)
  have go319 : Goes p e below s₁ (G_rmMk m p1 p2 p3 p4) s₁ (mkF m 1 #[vI p1, vI p2, vI p3, vI p4] [(.int p4)]) := fun tq kq => go0 tq (by
    show Sx p e below s₁ (mkF m 0 #[vI p1, vI p2, vI p3, vI p4] []) _
    refine XS.iloadN X0.here hx rfl (hb hby d2_0) rfl ?_
    exact kq)
  by_cases hm0 : p4 = (0 : Int32)
  · have go320 : Goes p e below s₁ (G_rmMk m p1 p2 p3 p4) s₁ (mkF m 4 #[vI p1, vI p2, vI p3, vI p4] []) := fun tq kq => go319 tq (by
      show Sx p e below s₁ (mkF m 1 #[vI p1, vI p2, vI p3, vI p4] [(.int p4)]) _
      refine XS.ifNo X0.here hx rfl (hb hby d2_1) rfl ((if0 _ _).trans (teq hm0).2) ?_
      exact kq)
    obtain ⟨T321, h321, X321, e321, E321, A321, D321, -, st321⟩ := newO X0 hx hZ hown (tw10 hw) (tw11 hw) (tw12 hw) e0 (g := (mkF m 4 #[vI p1, vI p2, vI p3, vI p4] [])) rfl (hb hby d2_4) (by decide) (by decide)
    obtain ⟨b321, g321⟩ : ∃ z, z = h0.size := ⟨_, rfl⟩
    rw [← g321] at A321 D321 st321
    have g_b321 : n0 ≤ b321 := Nat.le_trans Z0 (Nat.le_of_eq g321.symm)
    have sz_b321 : h0.size ≤ b321 := Nat.le_trans KP0.1 (Nat.le_of_eq g321.symm)
    have KP321 : Keep h0 h321 [] := KP0.ext E321
    have O321 := O0.ext E321
    have ZS321 : n0 ≤ h321.size := Nat.le_trans Z0 E321.1
    have F321_value : Fld Z h321 b321 "java/lang/String" "value" "[B" .null := D321 (Or.inr (tw26 hw)) (ty := (.array .byte)) (by decide)
    have F321_coder : Fld Z h321 b321 "java/lang/String" "coder" "B" (.int (0 : Int32)) := D321 (Or.inr (tw27 hw)) (ty := .byte) (by decide)
    have go321 : Goes p e below s₁ (G_rmMk m p1 p2 p3 p4) T321 (mkF m 7 #[vI p1, vI p2, vI p3, vI p4] [(.ref b321)]) := fun tq kq => go320 tq (st321 _ kq)
    have go322 : Goes p e below s₁ (G_rmMk m p1 p2 p3 p4) T321 (mkF m 9 #[vI p1, vI p2, vI p3, vI p4] [(.int (0 : Int32)), (.ref b321), (.ref b321)]) := fun tq kq => go321 tq (by
      show Sx p e below T321 (mkF m 7 #[vI p1, vI p2, vI p3, vI p4] [(.ref b321)]) _
      refine XS.dup X321.here hx rfl (hb hby d2_7) rfl rfl ?_
      refine XS.iconst X321.here hx rfl (hb hby d2_8) ?_
      exact kq)
    obtain ⟨T323, h323, k323, X323, e323, E323, A323, st323⟩ := newP X321 hx hZ (aty := .char) (tw13 hw) e321 (g := (mkF m 9 #[vI p1, vI p2, vI p3, vI p4] [(.int (0 : Int32)), (.ref b321), (.ref b321)])) rfl (hb hby d2_9) rfl (by decide) (cap := 0) (by decide) (by decide) (by decide) (by decide)
    obtain ⟨b323, g323⟩ : ∃ z, z = h321.size := ⟨_, rfl⟩
    rw [← g323] at A323 st323
    have g_b323 : n0 ≤ b323 := Nat.le_trans ZS321 (Nat.le_of_eq g323.symm)
    have sz_b323 : h0.size ≤ b323 := Nat.le_trans KP321.1 (Nat.le_of_eq g323.symm)
    have KP323 : Keep h0 h323 [] := KP321.ext E323
    have O323 := O321.ext E323
    have ZS323 : n0 ≤ h323.size := Nat.le_trans ZS321 E323.1
    have V323 : Arv Z h323 b323 k323 .char (0 : Int32) [] (.int (0 : Int32)) := (Arv.new A323 (by decide))
    have ne324 : b321 ≠ b323 := Nat.ne_of_lt (Nat.lt_of_lt_of_le A321.lt (Nat.le_of_eq g323.symm))
    have go323 : Goes p e below s₁ (G_rmMk m p1 p2 p3 p4) T323 (mkF m 11 #[vI p1, vI p2, vI p3, vI p4] [(.ref b323), (.ref b321), (.ref b321)]) := fun tq kq => go322 tq (st323 _ kq)
    have J1 := JJ.keep hJ KP323
    obtain ⟨vv325, _, ⟨T325, L325, k325, n325⟩, -, X325, hs325, gr325, ⟨Lc325, hQ325, l325, y325, z325⟩, st325⟩ := X323.specialBackS hx (y := (⟨"java/lang/String", "<init>", "([C)V"⟩ : MethodName)) rfl hown (mvT hZ (tw14 hw)) (mvT hZ (tw15 hw)) (mvT hZ (tw16 hw)) (by decide) (own_backV (W := 1) (rmC1 l Z a0 hw [] b321 b323 k323 h323 n0 ZS323 O323 g_b321 (A321.ext E323) (F321_value.ext E323) (F321_coder.ext E323) hcw hld V323) hZ J1 (tw16 hw) (tw12 hw) (by decide) (by decide)) (g := (mkF m 11 #[vI p1, vI p2, vI p3, vI p4] [(.ref b323), (.ref b321), (.ref b321)])) rfl (by rw [hml]; rfl) (Steps.refl _) (a := b321) (argsL := [(.ref b323)]) (rest := [(.ref b321)]) (lenOf pd_8 rfl) rfl (by show 2 * 0 + _ ≤ _; exact Nat.le_of_eq rfl) (hb hby d2_11) (fun _ _ => ⟨rfl, e323, (by decide : 2 + 2 ≤ _), (by decide : 4 + 4 ≤ _)⟩)
    dsimp only [Pt.U, Pt.locs, Pt.cells, Pt.slots] at X325 hs325 gr325 l325 y325 z325 st325 hQ325
    subst l325 y325 z325
    obtain ⟨Y325, hS325, hZ325, hown325⟩ := rebS (s := s) (vm0 := s.vm) ((State.WarmedH.refl s).since 0) (Nat.zero_le _) X325 hs325 gr325 hZ hown
    have hZ := hZ325
    have hown := hown325
    obtain ⟨rfl, Nq325, K325, J325, A325, Fc325, t325, kb325, Fv325, V325⟩ := hQ325
    have N325 := Fr.app N0 Nq325
    have ZS325 : n0 ≤ T325.heap.size := Nat.le_trans ZS323 K325.1
    have KP325 : Keep h0 T325.heap [] := KP323.trans K325 (allS (Or.inr sz_b321) all0)
    have O325 := O323.keep K325 (allS g_b321 all0)
    have go325 : Goes p e below s₁ (G_rmMk m p1 p2 p3 p4) T325 (mkF m 14 #[vI p1, vI p2, vI p3, vI p4] [(.ref b321)]) := fun tq kq => go323 tq (st325.trans kq)
    obtain ⟨fs, hr, hrun, hended, hEW⟩ := Stand.leaveW (s := s) Y325 hS325 (Nat.le_refl _) (v := some (.ref b321)) (fun h => by rw [Bd.returns] at h; cases h)
    refine ⟨_, _, go325 _ ?_, hrun, hended, _, _, rfl, ?_, hEW.1, hEW.2.1, hEW.2.2.1, hEW.2.2.2.mono (by decide) (by decide)⟩
    · jvm_step Y325.here [Y325.here.top, hx, (hb hby d2_14), Y325.method', Bd.returns, Value.isRef, FieldType.isReference]
      first | (intro acts; rw [hr _ acts rfl rfl rfl]) | rw [hr _ _ rfl rfl rfl]
      exact Steps.refl _
    · show Q_rmMk Z p1 p2 p3 p4 cz h0 n0 _ T325.heap T325.vm _
      exact ⟨b321, t325, kb325, 0, 0, [], rfl, N325, KP325, JJ.warm (s := s.setVm T325.vm) J325 Y325.warmed, A325, Fc325, Fv325, V325, by rw [show csv p4 p1 p2 p3 = [] from if_pos hm0]; exact Or.inl ⟨rfl, rfl, rfl, by simp⟩⟩
  · have go326 : Goes p e below s₁ (G_rmMk m p1 p2 p3 p4) s₁ (mkF m 17 #[vI p1, vI p2, vI p3, vI p4] [(.int (1 : Int32)), (.int p4)]) := fun tq kq => go319 tq (by
      show Sx p e below s₁ (mkF m 1 #[vI p1, vI p2, vI p3, vI p4] [(.int p4)]) _
      refine XS.ifYes X0.here hx rfl (pc0 := 1) (pc' := 15) rfl (hb hby d2_1) rfl ((if0 _ _).trans (feq hm0).2) (by decide) (by decide) ?_
      show Sx p e below s₁ (mkF m 15 #[vI p1, vI p2, vI p3, vI p4] []) _
      refine XS.iloadN X0.here hx rfl (hb hby d2_15) rfl ?_
      refine XS.iconst X0.here hx rfl (hb hby d2_16) ?_
      exact kq)
    by_cases hm1 : p4 = (1 : Int32)
    · have go327 : Goes p e below s₁ (G_rmMk m p1 p2 p3 p4) s₁ (mkF m 20 #[vI p1, vI p2, vI p3, vI p4] []) := fun tq kq => go326 tq (by
        show Sx p e below s₁ (mkF m 17 #[vI p1, vI p2, vI p3, vI p4] [(.int (1 : Int32)), (.int p4)]) _
        refine XS.icmpNo X0.here hx rfl (hb hby d2_17) rfl (teq hm1).2 ?_
        exact kq)
      obtain ⟨T328, h328, X328, e328, E328, A328, D328, -, st328⟩ := newO X0 hx hZ hown (tw10 hw) (tw11 hw) (tw12 hw) e0 (g := (mkF m 20 #[vI p1, vI p2, vI p3, vI p4] [])) rfl (hb hby d2_20) (by decide) (by decide)
      obtain ⟨b328, g328⟩ : ∃ z, z = h0.size := ⟨_, rfl⟩
      rw [← g328] at A328 D328 st328
      have g_b328 : n0 ≤ b328 := Nat.le_trans Z0 (Nat.le_of_eq g328.symm)
      have sz_b328 : h0.size ≤ b328 := Nat.le_trans KP0.1 (Nat.le_of_eq g328.symm)
      have KP328 : Keep h0 h328 [] := KP0.ext E328
      have O328 := O0.ext E328
      have ZS328 : n0 ≤ h328.size := Nat.le_trans Z0 E328.1
      have F328_value : Fld Z h328 b328 "java/lang/String" "value" "[B" .null := D328 (Or.inr (tw26 hw)) (ty := (.array .byte)) (by decide)
      have F328_coder : Fld Z h328 b328 "java/lang/String" "coder" "B" (.int (0 : Int32)) := D328 (Or.inr (tw27 hw)) (ty := .byte) (by decide)
      have go328 : Goes p e below s₁ (G_rmMk m p1 p2 p3 p4) T328 (mkF m 23 #[vI p1, vI p2, vI p3, vI p4] [(.ref b328)]) := fun tq kq => go327 tq (st328 _ kq)
      have go329 : Goes p e below s₁ (G_rmMk m p1 p2 p3 p4) T328 (mkF m 25 #[vI p1, vI p2, vI p3, vI p4] [(.int (1 : Int32)), (.ref b328), (.ref b328)]) := fun tq kq => go328 tq (by
        show Sx p e below T328 (mkF m 23 #[vI p1, vI p2, vI p3, vI p4] [(.ref b328)]) _
        refine XS.dup X328.here hx rfl (hb hby d2_23) rfl rfl ?_
        show Sx p e below T328 (mkF m 24 #[vI p1, vI p2, vI p3, vI p4] [(.ref b328), (.ref b328)]) _
        refine XS.iconst X328.here hx rfl (hb hby d2_24) ?_
        exact kq)
      obtain ⟨T330, h330, k330, X330, e330, E330, A330, st330⟩ := newP X328 hx hZ (aty := .char) (tw13 hw) e328 (g := (mkF m 25 #[vI p1, vI p2, vI p3, vI p4] [(.int (1 : Int32)), (.ref b328), (.ref b328)])) rfl (hb hby d2_25) rfl (by decide) (cap := 1) (by decide) (by decide) (by decide) (by decide)
      obtain ⟨b330, g330⟩ : ∃ z, z = h328.size := ⟨_, rfl⟩
      rw [← g330] at A330 st330
      have g_b330 : n0 ≤ b330 := Nat.le_trans ZS328 (Nat.le_of_eq g330.symm)
      have sz_b330 : h0.size ≤ b330 := Nat.le_trans KP328.1 (Nat.le_of_eq g330.symm)
      have KP330 : Keep h0 h330 [] := KP328.ext E330
      have O330 := O328.ext E330
      have ZS330 : n0 ≤ h330.size := Nat.le_trans ZS328 E330.1
      have V330 : Arv Z h330 b330 k330 .char (1 : Int32) [(.int (0 : Int32))] (.int (0 : Int32)) := (Arv.new A330 (by decide)).pad (pad_rep [] (.int (0 : Int32)) 1)
      have ne331 : b328 ≠ b330 := Nat.ne_of_lt (Nat.lt_of_lt_of_le A328.lt (Nat.le_of_eq g330.symm))
      have go330 : Goes p e below s₁ (G_rmMk m p1 p2 p3 p4) T330 (mkF m 27 #[vI p1, vI p2, vI p3, vI p4] [(.ref b330), (.ref b328), (.ref b328)]) := fun tq kq => go329 tq (st330 _ kq)
      have go333 : Goes p e below s₁ (G_rmMk m p1 p2 p3 p4) T330 (mkF m 30 #[vI p1, vI p2, vI p3, vI p4] [(.int p1), (.int (0 : Int32)), (.ref b330), (.ref b330), (.ref b328), (.ref b328)]) := fun tq kq => go330 tq (by
        show Sx p e below T330 (mkF m 27 #[vI p1, vI p2, vI p3, vI p4] [(.ref b330), (.ref b328), (.ref b328)]) _
        refine XS.dup X330.here hx rfl (hb hby d2_27) rfl rfl ?_
        show Sx p e below T330 (mkF m 28 #[vI p1, vI p2, vI p3, vI p4] [(.ref b330), (.ref b330), (.ref b328), (.ref b328)]) _
        refine XS.iconst X330.here hx rfl (hb hby d2_28) ?_
        refine XS.iloadN X330.here hx rfl (hb hby d2_29) rfl ?_
        exact kq)
      obtain ⟨cl332, Ar332, q332, S332, N_332, H332, G332⟩ := V330
      have hin332 : ¬ ((0 : Int32) < 0 ∨ cl332.slots.size ≤ ((0 : Int32)).toNatClampNeg) := inb_of S332 ⟨by decide, by decide⟩
      obtain ⟨T334, h334, X334, e334, W334, st334⟩ := stC X330 hx hZ e330 Ar332 (j := (0 : Int32)) hin332 (g := (mkF m 30 #[vI p1, vI p2, vI p3, vI p4] [(.int p1), (.int (0 : Int32)), (.ref b330), (.ref b330), (.ref b328), (.ref b328)])) rfl rfl (hb hby d2_30)
      have N334 := Fr.snoc X334 N0 g_b330
      have KP334 : Keep h0 h334 [] := KP330.wr W334 (Or.inr sz_b330)
      have O334 := O330.wr W334 g_b330
      have ZS334 : n0 ≤ h334.size := Nat.le_trans ZS330 (Keep.of_wr W334).1
      have V334 : Arv Z h334 b330 k330 .char (1 : Int32) [(.int (nar .char p1))] (.int (0 : Int32)) := Arv.set Ar332 q332 S332 N_332 H332 G332 (fits_nar_char _) W334 0 rfl (Nat.le_of_ble_eq_true rfl)
      have go334 : Goes p e below s₁ (G_rmMk m p1 p2 p3 p4) T334 (mkF m 31 #[vI p1, vI p2, vI p3, vI p4] [(.ref b330), (.ref b328), (.ref b328)]) := fun tq kq => go333 tq (st334 _ kq)
      have VP := V334
      rw [hka.2.2] at VP
      have hcv : csv p4 p1 p2 p3 = [p1] := ((if_neg hm0).trans (if_pos hm1))
      by_cases hlat : ∀ c ∈ ([p1] : List Int32), ¬ (255 : Int32) < c
      · have hpc : ∀ c ∈ ([p1] : List Int32), ¬ c < 0 ∧ ¬ (255 : Int32) < c := by
          intro c hc
          refine ⟨?_, hlat c hc⟩
          simp only [List.mem_cons, List.not_mem_nil, or_false] at hc
          rcases hc with rfl
          · exact hka.1
        obtain ⟨vv335, _, ⟨T335, L335, k335, n335⟩, -, X335, ⟨Lc335, hQ335, l335, y335, z335⟩, st335⟩ := X334.specialBack hx (y := (⟨"java/lang/String", "<init>", "([C)V"⟩ : MethodName)) rfl hown (mvT hZ (tw14 hw)) (mvT hZ (tw15 hw)) (mvT hZ (tw16 hw)) (by decide) (StrChars.Road.backV (W := 1) hZ hws (kI := 4) (tw11 hw) (cs := ([p1] : List Int32)) (bs := ([p1] : List Int32).map (fun c => c.toInt8.toInt32)) (n := 1) g_b328 ZS334 (Exa.wr W334 (A328.ext E330)) (Fld.other W334 (F328_value.ext E330) (Or.inl ne331)) (Fld.other W334 (F328_coder.ext E330) (Or.inl ne331)) VP (SC.ext O334.2) hz rfl rfl (by decide) (by decide) hpc rfl (by decide) (by decide)) (g := (mkF m 31 #[vI p1, vI p2, vI p3, vI p4] [(.ref b330), (.ref b328), (.ref b328)])) rfl (by rw [hml]; rfl) (Steps.refl _) (a := b328) (argsL := [(.ref b330)]) (rest := [(.ref b328)]) (lenOf pd_8 rfl) rfl (by show 2 * 0 + _ ≤ _; exact Nat.le_of_eq rfl) (hb hby d2_31) (fun _ _ => ⟨rfl, e334, (by decide : 2 + 1 ≤ _), (by decide : 5 + 1 ≤ _)⟩)
        dsimp only [Pt.U, Pt.locs, Pt.cells, Pt.slots] at X335 l335 y335 z335 st335 hQ335
        subst l335 y335 z335
        obtain ⟨rfl, Nq335, K335, A335, Fc335, t335, kb335, -, -, -, Fv335, V335⟩ := hQ335
        have N335 := Fr.app N334 Nq335
        have ZS335 : n0 ≤ T335.heap.size := Nat.le_trans ZS334 K335.1
        have KP335 : Keep h0 T335.heap [] := KP334.trans K335 (allS (Or.inr sz_b328) all0)
        have O335 := O334.keep K335 (allS g_b328 all0)
        have go335 : Goes p e below s₁ (G_rmMk m p1 p2 p3 p4) T335 (mkF m 34 #[vI p1, vI p2, vI p3, vI p4] [(.ref b328)]) := fun tq kq => go334 tq (st335.trans kq)
        obtain ⟨fs, hr, hrun, hended, hW, hsame⟩ := X335.leave (v := some (.ref b328)) (fun h => by rw [Bd.returns] at h; cases h)
        refine ⟨_, _, go335 _ ?_, hrun, hended, _, _, rfl, ?_, ReturnedEndW.of_narrow ⟨_, rfl⟩ hW (hsame.mono (by decide) (by decide))⟩
        · jvm_step X335.here [X335.here.top, hx, (hb hby d2_34), X335.method', Bd.returns, Value.isRef, FieldType.isReference]
          first | (intro acts; rw [hr _ acts rfl rfl rfl]) | rw [hr _ _ rfl rfl rfl]
          exact Steps.refl _
        · show Q_rmMk Z p1 p2 p3 p4 cz h0 n0 _ T335.heap T335.vm _
          exact ⟨b328, t335, kb335, 0, _, _, rfl, N335, KP335, JJ.warm (s := s) (JJ.keep hJ KP335) X335.warmed, A335, Fc335, Fv335, V335, by rw [hcv]; exact own_cdd rfl hlat⟩
      · have hcs : ∀ c ∈ ([p1] : List Int32), C16 c := by
          intro c hc
          simp only [List.mem_cons, List.not_mem_nil, or_false] at hc
          rcases hc with rfl
          · exact hka
        obtain ⟨vv336, _, ⟨T336, L336, k336, n336⟩, -, X336, ⟨Lc336, hQ336, l336, y336, z336⟩, st336⟩ := X334.specialBack hx (y := (⟨"java/lang/String", "<init>", "([C)V"⟩ : MethodName)) rfl hown (mvT hZ (tw14 hw)) (mvT hZ (tw15 hw)) (mvT hZ (tw16 hw)) (by decide) (backOf (W := 1) (c1w1 l Z a0 hw [] b328 b330 p1 k330 cz h334 n0 ZS334 O334 g_b328 (Exa.wr W334 (A328.ext E330)) (Fld.other W334 (F328_value.ext E330) (Or.inl ne331)) (Fld.other W334 (F328_coder.ext E330) (Or.inl ne331)) AD HI LO SC hz VP (own_ex hlat) hcs) hZ (tw16 hw) (tw12 hw) (by decide) (by decide)) (g := (mkF m 31 #[vI p1, vI p2, vI p3, vI p4] [(.ref b330), (.ref b328), (.ref b328)])) rfl (by rw [hml]; rfl) (Steps.refl _) (a := b328) (argsL := [(.ref b330)]) (rest := [(.ref b328)]) (lenOf pd_8 rfl) rfl (by show 2 * 0 + _ ≤ _; exact Nat.le_of_eq rfl) (hb hby d2_31) (fun _ _ => ⟨rfl, e334, (by decide : 2 + 2 ≤ _), (by decide : 5 + 3 ≤ _)⟩)
        dsimp only [Pt.U, Pt.locs, Pt.cells, Pt.slots] at X336 l336 y336 z336 st336 hQ336
        subst l336 y336 z336
        obtain ⟨rfl, Nq336, K336, A336, Fc336, t336, kb336, Fv336, V336⟩ := hQ336
        have N336 := Fr.app N334 Nq336
        have ZS336 : n0 ≤ T336.heap.size := Nat.le_trans ZS334 K336.1
        have KP336 : Keep h0 T336.heap [] := KP334.trans K336 (allS (Or.inr sz_b328) all0)
        have O336 := O334.keep K336 (allS g_b328 all0)
        have go336 : Goes p e below s₁ (G_rmMk m p1 p2 p3 p4) T336 (mkF m 34 #[vI p1, vI p2, vI p3, vI p4] [(.ref b328)]) := fun tq kq => go334 tq (st336.trans kq)
        obtain ⟨fs, hr, hrun, hended, hW, hsame⟩ := X336.leave (v := some (.ref b328)) (fun h => by rw [Bd.returns] at h; cases h)
        refine ⟨_, _, go336 _ ?_, hrun, hended, _, _, rfl, ?_, ReturnedEndW.of_narrow ⟨_, rfl⟩ hW (hsame.mono (by decide) (by decide))⟩
        · jvm_step X336.here [X336.here.top, hx, (hb hby d2_34), X336.method', Bd.returns, Value.isRef, FieldType.isReference]
          first | (intro acts; rw [hr _ acts rfl rfl rfl]) | rw [hr _ _ rfl rfl rfl]
          exact Steps.refl _
        · show Q_rmMk Z p1 p2 p3 p4 cz h0 n0 _ T336.heap T336.vm _
          exact ⟨b328, t336, kb336, 1, (2 : Int32), _, rfl, N336, KP336, JJ.warm (s := s) (JJ.keep hJ KP336) X336.warmed, A336, Fc336, Fv336, V336, by rw [hcv]; exact Or.inr ⟨rfl, rfl, rfl, own_ex hlat⟩⟩
    · have go337 : Goes p e below s₁ (G_rmMk m p1 p2 p3 p4) s₁ (mkF m 37 #[vI p1, vI p2, vI p3, vI p4] [(.int (2 : Int32)), (.int p4)]) := fun tq kq => go326 tq (by
        show Sx p e below s₁ (mkF m 17 #[vI p1, vI p2, vI p3, vI p4] [(.int (1 : Int32)), (.int p4)]) _
        refine XS.icmpYes X0.here hx rfl (pc0 := 17) (pc' := 35) rfl (hb hby d2_17) rfl (feq hm1).2 (by decide) (by decide) ?_
        refine XS.iloadN X0.here hx rfl (hb hby d2_35) rfl ?_
        show Sx p e below s₁ (mkF m 36 #[vI p1, vI p2, vI p3, vI p4] [(.int p4)]) _
        refine XS.iconst X0.here hx rfl (hb hby d2_36) ?_
        exact kq)
      by_cases hm2 : p4 = (2 : Int32)
      · have go338 : Goes p e below s₁ (G_rmMk m p1 p2 p3 p4) s₁ (mkF m 40 #[vI p1, vI p2, vI p3, vI p4] []) := fun tq kq => go337 tq (by
          show Sx p e below s₁ (mkF m 37 #[vI p1, vI p2, vI p3, vI p4] [(.int (2 : Int32)), (.int p4)]) _
          refine XS.icmpNo X0.here hx rfl (hb hby d2_37) rfl (teq hm2).2 ?_
          exact kq)
        obtain ⟨T339, h339, X339, e339, E339, A339, D339, -, st339⟩ := newO X0 hx hZ hown (tw10 hw) (tw11 hw) (tw12 hw) e0 (g := (mkF m 40 #[vI p1, vI p2, vI p3, vI p4] [])) rfl (hb hby d2_40) (by decide) (by decide)
        obtain ⟨b339, g339⟩ : ∃ z, z = h0.size := ⟨_, rfl⟩
        rw [← g339] at A339 D339 st339
        have g_b339 : n0 ≤ b339 := Nat.le_trans Z0 (Nat.le_of_eq g339.symm)
        have sz_b339 : h0.size ≤ b339 := Nat.le_trans KP0.1 (Nat.le_of_eq g339.symm)
        have KP339 : Keep h0 h339 [] := KP0.ext E339
        have O339 := O0.ext E339
        have ZS339 : n0 ≤ h339.size := Nat.le_trans Z0 E339.1
        have F339_value : Fld Z h339 b339 "java/lang/String" "value" "[B" .null := D339 (Or.inr (tw26 hw)) (ty := (.array .byte)) (by decide)
        have F339_coder : Fld Z h339 b339 "java/lang/String" "coder" "B" (.int (0 : Int32)) := D339 (Or.inr (tw27 hw)) (ty := .byte) (by decide)
        have go339 : Goes p e below s₁ (G_rmMk m p1 p2 p3 p4) T339 (mkF m 43 #[vI p1, vI p2, vI p3, vI p4] [(.ref b339)]) := fun tq kq => go338 tq (st339 _ kq)
        have go340 : Goes p e below s₁ (G_rmMk m p1 p2 p3 p4) T339 (mkF m 45 #[vI p1, vI p2, vI p3, vI p4] [(.int (2 : Int32)), (.ref b339), (.ref b339)]) := fun tq kq => go339 tq (by
          show Sx p e below T339 (mkF m 43 #[vI p1, vI p2, vI p3, vI p4] [(.ref b339)]) _
          refine XS.dup X339.here hx rfl (hb hby d2_43) rfl rfl ?_
          refine XS.iconst X339.here hx rfl (hb hby d2_44) ?_
          exact kq)
        obtain ⟨T341, h341, k341, X341, e341, E341, A341, st341⟩ := newP X339 hx hZ (aty := .char) (tw13 hw) e339 (g := (mkF m 45 #[vI p1, vI p2, vI p3, vI p4] [(.int (2 : Int32)), (.ref b339), (.ref b339)])) rfl (hb hby d2_45) rfl (by decide) (cap := 2) (by decide) (by decide) (by decide) (by decide)
        obtain ⟨b341, g341⟩ : ∃ z, z = h339.size := ⟨_, rfl⟩
        rw [← g341] at A341 st341
        have g_b341 : n0 ≤ b341 := Nat.le_trans ZS339 (Nat.le_of_eq g341.symm)
        have sz_b341 : h0.size ≤ b341 := Nat.le_trans KP339.1 (Nat.le_of_eq g341.symm)
        have KP341 : Keep h0 h341 [] := KP339.ext E341
        have O341 := O339.ext E341
        have ZS341 : n0 ≤ h341.size := Nat.le_trans ZS339 E341.1
        have V341 : Arv Z h341 b341 k341 .char (2 : Int32) [(.int (0 : Int32)), (.int (0 : Int32))] (.int (0 : Int32)) := (Arv.new A341 (by decide)).pad (pad_rep [] (.int (0 : Int32)) 2)
        have ne342 : b339 ≠ b341 := Nat.ne_of_lt (Nat.lt_of_lt_of_le A339.lt (Nat.le_of_eq g341.symm))
        have go341 : Goes p e below s₁ (G_rmMk m p1 p2 p3 p4) T341 (mkF m 47 #[vI p1, vI p2, vI p3, vI p4] [(.ref b341), (.ref b339), (.ref b339)]) := fun tq kq => go340 tq (st341 _ kq)
        have go344 : Goes p e below s₁ (G_rmMk m p1 p2 p3 p4) T341 (mkF m 50 #[vI p1, vI p2, vI p3, vI p4] [(.int p1), (.int (0 : Int32)), (.ref b341), (.ref b341), (.ref b339), (.ref b339)]) := fun tq kq => go341 tq (by
          show Sx p e below T341 (mkF m 47 #[vI p1, vI p2, vI p3, vI p4] [(.ref b341), (.ref b339), (.ref b339)]) _
          refine XS.dup X341.here hx rfl (hb hby d2_47) rfl rfl ?_
          refine XS.iconst X341.here hx rfl (hb hby d2_48) ?_
          show Sx p e below T341 (mkF m 49 #[vI p1, vI p2, vI p3, vI p4] [(.int (0 : Int32)), (.ref b341), (.ref b341), (.ref b339), (.ref b339)]) _
          refine XS.iloadN X341.here hx rfl (hb hby d2_49) rfl ?_
          exact kq)
        obtain ⟨cl343, Ar343, q343, S343, N_343, H343, G343⟩ := V341
        have hin343 : ¬ ((0 : Int32) < 0 ∨ cl343.slots.size ≤ ((0 : Int32)).toNatClampNeg) := inb_of S343 ⟨by decide, by decide⟩
        obtain ⟨T345, h345, X345, e345, W345, st345⟩ := stC X341 hx hZ e341 Ar343 (j := (0 : Int32)) hin343 (g := (mkF m 50 #[vI p1, vI p2, vI p3, vI p4] [(.int p1), (.int (0 : Int32)), (.ref b341), (.ref b341), (.ref b339), (.ref b339)])) rfl rfl (hb hby d2_50)
        have N345 := Fr.snoc X345 N0 g_b341
        have KP345 : Keep h0 h345 [] := KP341.wr W345 (Or.inr sz_b341)
        have O345 := O341.wr W345 g_b341
        have ZS345 : n0 ≤ h345.size := Nat.le_trans ZS341 (Keep.of_wr W345).1
        have V345 : Arv Z h345 b341 k341 .char (2 : Int32) [(.int (nar .char p1)), (.int (0 : Int32))] (.int (0 : Int32)) := Arv.set Ar343 q343 S343 N_343 H343 G343 (fits_nar_char _) W345 0 rfl (Nat.le_of_ble_eq_true rfl)
        have go345 : Goes p e below s₁ (G_rmMk m p1 p2 p3 p4) T345 (mkF m 51 #[vI p1, vI p2, vI p3, vI p4] [(.ref b341), (.ref b339), (.ref b339)]) := fun tq kq => go344 tq (st345 _ kq)
        have go347 : Goes p e below s₁ (G_rmMk m p1 p2 p3 p4) T345 (mkF m 54 #[vI p1, vI p2, vI p3, vI p4] [(.int p2), (.int (1 : Int32)), (.ref b341), (.ref b341), (.ref b339), (.ref b339)]) := fun tq kq => go345 tq (by
          show Sx p e below T345 (mkF m 51 #[vI p1, vI p2, vI p3, vI p4] [(.ref b341), (.ref b339), (.ref b339)]) _
          refine XS.dup X345.here hx rfl (hb hby d2_51) rfl rfl ?_
          show Sx p e below T345 (mkF m 52 #[vI p1, vI p2, vI p3, vI p4] [(.ref b341), (.ref b341), (.ref b339), (.ref b339)]) _
          refine XS.iconst X345.here hx rfl (hb hby d2_52) ?_
          refine XS.iloadN X345.here hx rfl (hb hby d2_53) rfl ?_
          exact kq)
        obtain ⟨cl346, Ar346, q346, S346, N_346, H346, G346⟩ := V345
        have hin346 : ¬ ((1 : Int32) < 0 ∨ cl346.slots.size ≤ ((1 : Int32)).toNatClampNeg) := inb_of S346 ⟨by decide, by decide⟩
        obtain ⟨T348, h348, X348, e348, W348, st348⟩ := stC X345 hx hZ e345 Ar346 (j := (1 : Int32)) hin346 (g := (mkF m 54 #[vI p1, vI p2, vI p3, vI p4] [(.int p2), (.int (1 : Int32)), (.ref b341), (.ref b341), (.ref b339), (.ref b339)])) rfl rfl (hb hby d2_54)
        have N348 := Fr.snoc X348 N345 g_b341
        have KP348 : Keep h0 h348 [] := KP345.wr W348 (Or.inr sz_b341)
        have O348 := O345.wr W348 g_b341
        have ZS348 : n0 ≤ h348.size := Nat.le_trans ZS345 (Keep.of_wr W348).1
        have V348 : Arv Z h348 b341 k341 .char (2 : Int32) [(.int (nar .char p1)), (.int (nar .char p2))] (.int (0 : Int32)) := Arv.set Ar346 q346 S346 N_346 H346 G346 (fits_nar_char _) W348 1 rfl (Nat.le_of_ble_eq_true rfl)
        have go348 : Goes p e below s₁ (G_rmMk m p1 p2 p3 p4) T348 (mkF m 55 #[vI p1, vI p2, vI p3, vI p4] [(.ref b341), (.ref b339), (.ref b339)]) := fun tq kq => go347 tq (st348 _ kq)
        have VP := V348
        rw [hka.2.2, hkb.2.2] at VP
        have hcv : csv p4 p1 p2 p3 = [p1, p2] := ((if_neg hm0).trans ((if_neg hm1).trans (if_pos hm2)))
        by_cases hlat : ∀ c ∈ ([p1, p2] : List Int32), ¬ (255 : Int32) < c
        · have hpc : ∀ c ∈ ([p1, p2] : List Int32), ¬ c < 0 ∧ ¬ (255 : Int32) < c := by
            intro c hc
            refine ⟨?_, hlat c hc⟩
            simp only [List.mem_cons, List.not_mem_nil, or_false] at hc
            rcases hc with rfl | rfl
            · exact hka.1
            · exact hkb.1
          have f349 := (Fld.other W348 (Fld.other W345 (F339_value.ext E341) (Or.inl ne342)) (Or.inl ne342))
          have f350 := (Fld.other W348 (Fld.other W345 (F339_coder.ext E341) (Or.inl ne342)) (Or.inl ne342))
          obtain ⟨vv351, _, ⟨T351, L351, k351, n351⟩, -, X351, ⟨Lc351, hQ351, l351, y351, z351⟩, st351⟩ := X348.specialBack hx (y := (⟨"java/lang/String", "<init>", "([C)V"⟩ : MethodName)) rfl hown (mvT hZ (tw14 hw)) (mvT hZ (tw15 hw)) (mvT hZ (tw16 hw)) (by decide) (StrChars.Road.backV (W := 1) hZ hws (kI := 4) (tw11 hw) (cs := ([p1, p2] : List Int32)) (bs := ([p1, p2] : List Int32).map (fun c => c.toInt8.toInt32)) (n := 2) g_b339 ZS348 (Exa.wr W348 (Exa.wr W345 (A339.ext E341))) f349 f350 VP (SC.ext O348.2) hz rfl rfl (by decide) (by decide) hpc rfl (by decide) (by decide)) (g := (mkF m 55 #[vI p1, vI p2, vI p3, vI p4] [(.ref b341), (.ref b339), (.ref b339)])) rfl (by rw [hml]; rfl) (Steps.refl _) (a := b339) (argsL := [(.ref b341)]) (rest := [(.ref b339)]) (lenOf pd_8 rfl) rfl (by show 2 * 0 + _ ≤ _; exact Nat.le_of_eq rfl) (hb hby d2_55) (fun _ _ => ⟨rfl, e348, (by decide : 2 + 1 ≤ _), (by decide : 6 + 2 ≤ _)⟩)
          dsimp only [Pt.U, Pt.locs, Pt.cells, Pt.slots] at X351 l351 y351 z351 st351 hQ351
          subst l351 y351 z351
          obtain ⟨rfl, Nq351, K351, A351, Fc351, t351, kb351, -, -, -, Fv351, V351⟩ := hQ351
          have N351 := Fr.app N348 Nq351
          have ZS351 : n0 ≤ T351.heap.size := Nat.le_trans ZS348 K351.1
          have KP351 : Keep h0 T351.heap [] := KP348.trans K351 (allS (Or.inr sz_b339) all0)
          have O351 := O348.keep K351 (allS g_b339 all0)
          have go351 : Goes p e below s₁ (G_rmMk m p1 p2 p3 p4) T351 (mkF m 58 #[vI p1, vI p2, vI p3, vI p4] [(.ref b339)]) := fun tq kq => go348 tq (st351.trans kq)
          obtain ⟨fs, hr, hrun, hended, hW, hsame⟩ := X351.leave (v := some (.ref b339)) (fun h => by rw [Bd.returns] at h; cases h)
          refine ⟨_, _, go351 _ ?_, hrun, hended, _, _, rfl, ?_, ReturnedEndW.of_narrow ⟨_, rfl⟩ hW (hsame.mono (by decide) (by decide))⟩
          · jvm_step X351.here [X351.here.top, hx, (hb hby d2_58), X351.method', Bd.returns, Value.isRef, FieldType.isReference]
            first | (intro acts; rw [hr _ acts rfl rfl rfl]) | rw [hr _ _ rfl rfl rfl]
            exact Steps.refl _
          · show Q_rmMk Z p1 p2 p3 p4 cz h0 n0 _ T351.heap T351.vm _
            exact ⟨b339, t351, kb351, 0, _, _, rfl, N351, KP351, JJ.warm (s := s) (JJ.keep hJ KP351) X351.warmed, A351, Fc351, Fv351, V351, by rw [hcv]; exact own_cdd rfl hlat⟩
        · have hcs : ∀ c ∈ ([p1, p2] : List Int32), C16 c := by
            intro c hc
            simp only [List.mem_cons, List.not_mem_nil, or_false] at hc
            rcases hc with rfl | rfl
            · exact hka
            · exact hkb
          have f352 := (Fld.other W348 (Fld.other W345 (F339_value.ext E341) (Or.inl ne342)) (Or.inl ne342))
          have f353 := (Fld.other W348 (Fld.other W345 (F339_coder.ext E341) (Or.inl ne342)) (Or.inl ne342))
          obtain ⟨vv354, _, ⟨T354, L354, k354, n354⟩, -, X354, ⟨Lc354, hQ354, l354, y354, z354⟩, st354⟩ := X348.specialBack hx (y := (⟨"java/lang/String", "<init>", "([C)V"⟩ : MethodName)) rfl hown (mvT hZ (tw14 hw)) (mvT hZ (tw15 hw)) (mvT hZ (tw16 hw)) (by decide) (backOf (W := 1) (c1w2 l Z a0 hw [] b339 b341 p1 p2 k341 cz h348 n0 ZS348 O348 g_b339 (Exa.wr W348 (Exa.wr W345 (A339.ext E341))) f352 f353 AD HI LO SC hz VP (own_ex hlat) hcs) hZ (tw16 hw) (tw12 hw) (by decide) (by decide)) (g := (mkF m 55 #[vI p1, vI p2, vI p3, vI p4] [(.ref b341), (.ref b339), (.ref b339)])) rfl (by rw [hml]; rfl) (Steps.refl _) (a := b339) (argsL := [(.ref b341)]) (rest := [(.ref b339)]) (lenOf pd_8 rfl) rfl (by show 2 * 0 + _ ≤ _; exact Nat.le_of_eq rfl) (hb hby d2_55) (fun _ _ => ⟨rfl, e348, (by decide : 2 + 2 ≤ _), (by decide : 6 + 6 ≤ _)⟩)
          dsimp only [Pt.U, Pt.locs, Pt.cells, Pt.slots] at X354 l354 y354 z354 st354 hQ354
          subst l354 y354 z354
          obtain ⟨rfl, Nq354, K354, A354, Fc354, t354, kb354, Fv354, V354⟩ := hQ354
          have N354 := Fr.app N348 Nq354
          have ZS354 : n0 ≤ T354.heap.size := Nat.le_trans ZS348 K354.1
          have KP354 : Keep h0 T354.heap [] := KP348.trans K354 (allS (Or.inr sz_b339) all0)
          have O354 := O348.keep K354 (allS g_b339 all0)
          have go354 : Goes p e below s₁ (G_rmMk m p1 p2 p3 p4) T354 (mkF m 58 #[vI p1, vI p2, vI p3, vI p4] [(.ref b339)]) := fun tq kq => go348 tq (st354.trans kq)
          obtain ⟨fs, hr, hrun, hended, hW, hsame⟩ := X354.leave (v := some (.ref b339)) (fun h => by rw [Bd.returns] at h; cases h)
          refine ⟨_, _, go354 _ ?_, hrun, hended, _, _, rfl, ?_, ReturnedEndW.of_narrow ⟨_, rfl⟩ hW (hsame.mono (by decide) (by decide))⟩
          · jvm_step X354.here [X354.here.top, hx, (hb hby d2_58), X354.method', Bd.returns, Value.isRef, FieldType.isReference]
            first | (intro acts; rw [hr _ acts rfl rfl rfl]) | rw [hr _ _ rfl rfl rfl]
            exact Steps.refl _
          · show Q_rmMk Z p1 p2 p3 p4 cz h0 n0 _ T354.heap T354.vm _
            exact ⟨b339, t354, kb354, 1, (4 : Int32), _, rfl, N354, KP354, JJ.warm (s := s) (JJ.keep hJ KP354) X354.warmed, A354, Fc354, Fv354, V354, by rw [hcv]; exact Or.inr ⟨rfl, rfl, rfl, own_ex hlat⟩⟩
      · have go355 : Goes p e below s₁ (G_rmMk m p1 p2 p3 p4) s₁ (mkF m 59 #[vI p1, vI p2, vI p3, vI p4] []) := fun tq kq => go337 tq (by
          show Sx p e below s₁ (mkF m 37 #[vI p1, vI p2, vI p3, vI p4] [(.int (2 : Int32)), (.int p4)]) _
          refine XS.icmpYes X0.here hx rfl (pc0 := 37) (pc' := 59) rfl (hb hby d2_37) rfl (feq hm2).2 (by decide) (by decide) ?_
          exact kq)
        obtain ⟨T356, h356, X356, e356, E356, A356, D356, -, st356⟩ := newO X0 hx hZ hown (tw10 hw) (tw11 hw) (tw12 hw) e0 (g := (mkF m 59 #[vI p1, vI p2, vI p3, vI p4] [])) rfl (hb hby d2_59) (by decide) (by decide)
        obtain ⟨b356, g356⟩ : ∃ z, z = h0.size := ⟨_, rfl⟩
        rw [← g356] at A356 D356 st356
        have g_b356 : n0 ≤ b356 := Nat.le_trans Z0 (Nat.le_of_eq g356.symm)
        have sz_b356 : h0.size ≤ b356 := Nat.le_trans KP0.1 (Nat.le_of_eq g356.symm)
        have KP356 : Keep h0 h356 [] := KP0.ext E356
        have O356 := O0.ext E356
        have ZS356 : n0 ≤ h356.size := Nat.le_trans Z0 E356.1
        have F356_value : Fld Z h356 b356 "java/lang/String" "value" "[B" .null := D356 (Or.inr (tw26 hw)) (ty := (.array .byte)) (by decide)
        have F356_coder : Fld Z h356 b356 "java/lang/String" "coder" "B" (.int (0 : Int32)) := D356 (Or.inr (tw27 hw)) (ty := .byte) (by decide)
        have go356 : Goes p e below s₁ (G_rmMk m p1 p2 p3 p4) T356 (mkF m 62 #[vI p1, vI p2, vI p3, vI p4] [(.ref b356)]) := fun tq kq => go355 tq (st356 _ kq)
        have go357 : Goes p e below s₁ (G_rmMk m p1 p2 p3 p4) T356 (mkF m 64 #[vI p1, vI p2, vI p3, vI p4] [(.int (3 : Int32)), (.ref b356), (.ref b356)]) := fun tq kq => go356 tq (by
          show Sx p e below T356 (mkF m 62 #[vI p1, vI p2, vI p3, vI p4] [(.ref b356)]) _
          refine XS.dup X356.here hx rfl (hb hby d2_62) rfl rfl ?_
          refine XS.iconst X356.here hx rfl (hb hby d2_63) ?_
          exact kq)
        obtain ⟨T358, h358, k358, X358, e358, E358, A358, st358⟩ := newP X356 hx hZ (aty := .char) (tw13 hw) e356 (g := (mkF m 64 #[vI p1, vI p2, vI p3, vI p4] [(.int (3 : Int32)), (.ref b356), (.ref b356)])) rfl (hb hby d2_64) rfl (by decide) (cap := 3) (by decide) (by decide) (by decide) (by decide)
        obtain ⟨b358, g358⟩ : ∃ z, z = h356.size := ⟨_, rfl⟩
        rw [← g358] at A358 st358
        have g_b358 : n0 ≤ b358 := Nat.le_trans ZS356 (Nat.le_of_eq g358.symm)
        have sz_b358 : h0.size ≤ b358 := Nat.le_trans KP356.1 (Nat.le_of_eq g358.symm)
        have KP358 : Keep h0 h358 [] := KP356.ext E358
        have O358 := O356.ext E358
        have ZS358 : n0 ≤ h358.size := Nat.le_trans ZS356 E358.1
        have V358 : Arv Z h358 b358 k358 .char (3 : Int32) [(.int (0 : Int32)), (.int (0 : Int32)), (.int (0 : Int32))] (.int (0 : Int32)) := (Arv.new A358 (by decide)).pad (pad_rep [] (.int (0 : Int32)) 3)
        have ne359 : b356 ≠ b358 := Nat.ne_of_lt (Nat.lt_of_lt_of_le A356.lt (Nat.le_of_eq g358.symm))
        have go358 : Goes p e below s₁ (G_rmMk m p1 p2 p3 p4) T358 (mkF m 66 #[vI p1, vI p2, vI p3, vI p4] [(.ref b358), (.ref b356), (.ref b356)]) := fun tq kq => go357 tq (st358 _ kq)
        have go361 : Goes p e below s₁ (G_rmMk m p1 p2 p3 p4) T358 (mkF m 69 #[vI p1, vI p2, vI p3, vI p4] [(.int p1), (.int (0 : Int32)), (.ref b358), (.ref b358), (.ref b356), (.ref b356)]) := fun tq kq => go358 tq (by
          show Sx p e below T358 (mkF m 66 #[vI p1, vI p2, vI p3, vI p4] [(.ref b358), (.ref b356), (.ref b356)]) _
          refine XS.dup X358.here hx rfl (hb hby d2_66) rfl rfl ?_
          refine XS.iconst X358.here hx rfl (hb hby d2_67) ?_
          show Sx p e below T358 (mkF m 68 #[vI p1, vI p2, vI p3, vI p4] [(.int (0 : Int32)), (.ref b358), (.ref b358), (.ref b356), (.ref b356)]) _
          refine XS.iloadN X358.here hx rfl (hb hby d2_68) rfl ?_
          exact kq)
        obtain ⟨cl360, Ar360, q360, S360, N_360, H360, G360⟩ := V358
        have hin360 : ¬ ((0 : Int32) < 0 ∨ cl360.slots.size ≤ ((0 : Int32)).toNatClampNeg) := inb_of S360 ⟨by decide, by decide⟩
        obtain ⟨T362, h362, X362, e362, W362, st362⟩ := stC X358 hx hZ e358 Ar360 (j := (0 : Int32)) hin360 (g := (mkF m 69 #[vI p1, vI p2, vI p3, vI p4] [(.int p1), (.int (0 : Int32)), (.ref b358), (.ref b358), (.ref b356), (.ref b356)])) rfl rfl (hb hby d2_69)
        have N362 := Fr.snoc X362 N0 g_b358
        have KP362 : Keep h0 h362 [] := KP358.wr W362 (Or.inr sz_b358)
        have O362 := O358.wr W362 g_b358
        have ZS362 : n0 ≤ h362.size := Nat.le_trans ZS358 (Keep.of_wr W362).1
        have V362 : Arv Z h362 b358 k358 .char (3 : Int32) [(.int (nar .char p1)), (.int (0 : Int32)), (.int (0 : Int32))] (.int (0 : Int32)) := Arv.set Ar360 q360 S360 N_360 H360 G360 (fits_nar_char _) W362 0 rfl (Nat.le_of_ble_eq_true rfl)
        have go362 : Goes p e below s₁ (G_rmMk m p1 p2 p3 p4) T362 (mkF m 70 #[vI p1, vI p2, vI p3, vI p4] [(.ref b358), (.ref b356), (.ref b356)]) := fun tq kq => go361 tq (st362 _ kq)
        have go364 : Goes p e below s₁ (G_rmMk m p1 p2 p3 p4) T362 (mkF m 73 #[vI p1, vI p2, vI p3, vI p4] [(.int p2), (.int (1 : Int32)), (.ref b358), (.ref b358), (.ref b356), (.ref b356)]) := fun tq kq => go362 tq (by
          show Sx p e below T362 (mkF m 70 #[vI p1, vI p2, vI p3, vI p4] [(.ref b358), (.ref b356), (.ref b356)]) _
          refine XS.dup X362.here hx rfl (hb hby d2_70) rfl rfl ?_
          show Sx p e below T362 (mkF m 71 #[vI p1, vI p2, vI p3, vI p4] [(.ref b358), (.ref b358), (.ref b356), (.ref b356)]) _
          refine XS.iconst X362.here hx rfl (hb hby d2_71) ?_
          refine XS.iloadN X362.here hx rfl (hb hby d2_72) rfl ?_
          exact kq)
        obtain ⟨cl363, Ar363, q363, S363, N_363, H363, G363⟩ := V362
        have hin363 : ¬ ((1 : Int32) < 0 ∨ cl363.slots.size ≤ ((1 : Int32)).toNatClampNeg) := inb_of S363 ⟨by decide, by decide⟩
        obtain ⟨T365, h365, X365, e365, W365, st365⟩ := stC X362 hx hZ e362 Ar363 (j := (1 : Int32)) hin363 (g := (mkF m 73 #[vI p1, vI p2, vI p3, vI p4] [(.int p2), (.int (1 : Int32)), (.ref b358), (.ref b358), (.ref b356), (.ref b356)])) rfl rfl (hb hby d2_73)
        have N365 := Fr.snoc X365 N362 g_b358
        have KP365 : Keep h0 h365 [] := KP362.wr W365 (Or.inr sz_b358)
        have O365 := O362.wr W365 g_b358
        have ZS365 : n0 ≤ h365.size := Nat.le_trans ZS362 (Keep.of_wr W365).1
        have V365 : Arv Z h365 b358 k358 .char (3 : Int32) [(.int (nar .char p1)), (.int (nar .char p2)), (.int (0 : Int32))] (.int (0 : Int32)) := Arv.set Ar363 q363 S363 N_363 H363 G363 (fits_nar_char _) W365 1 rfl (Nat.le_of_ble_eq_true rfl)
        have go365 : Goes p e below s₁ (G_rmMk m p1 p2 p3 p4) T365 (mkF m 74 #[vI p1, vI p2, vI p3, vI p4] [(.ref b358), (.ref b356), (.ref b356)]) := fun tq kq => go364 tq (st365 _ kq)
        have go367 : Goes p e below s₁ (G_rmMk m p1 p2 p3 p4) T365 (mkF m 77 #[vI p1, vI p2, vI p3, vI p4] [(.int p3), (.int (2 : Int32)), (.ref b358), (.ref b358), (.ref b356), (.ref b356)]) := fun tq kq => go365 tq (by
          show Sx p e below T365 (mkF m 74 #[vI p1, vI p2, vI p3, vI p4] [(.ref b358), (.ref b356), (.ref b356)]) _
          refine XS.dup X365.here hx rfl (hb hby d2_74) rfl rfl ?_
          refine XS.iconst X365.here hx rfl (hb hby d2_75) ?_
          show Sx p e below T365 (mkF m 76 #[vI p1, vI p2, vI p3, vI p4] [(.int (2 : Int32)), (.ref b358), (.ref b358), (.ref b356), (.ref b356)]) _
          refine XS.iloadN X365.here hx rfl (hb hby d2_76) rfl ?_
          exact kq)
        obtain ⟨cl366, Ar366, q366, S366, N_366, H366, G366⟩ := V365
        have hin366 : ¬ ((2 : Int32) < 0 ∨ cl366.slots.size ≤ ((2 : Int32)).toNatClampNeg) := inb_of S366 ⟨by decide, by decide⟩
        obtain ⟨T368, h368, X368, e368, W368, st368⟩ := stC X365 hx hZ e365 Ar366 (j := (2 : Int32)) hin366 (g := (mkF m 77 #[vI p1, vI p2, vI p3, vI p4] [(.int p3), (.int (2 : Int32)), (.ref b358), (.ref b358), (.ref b356), (.ref b356)])) rfl rfl (hb hby d2_77)
        have N368 := Fr.snoc X368 N365 g_b358
        have KP368 : Keep h0 h368 [] := KP365.wr W368 (Or.inr sz_b358)
        have O368 := O365.wr W368 g_b358
        have ZS368 : n0 ≤ h368.size := Nat.le_trans ZS365 (Keep.of_wr W368).1
        have V368 : Arv Z h368 b358 k358 .char (3 : Int32) [(.int (nar .char p1)), (.int (nar .char p2)), (.int (nar .char p3))] (.int (0 : Int32)) := Arv.set Ar366 q366 S366 N_366 H366 G366 (fits_nar_char _) W368 2 rfl (Nat.le_of_ble_eq_true rfl)
        have go368 : Goes p e below s₁ (G_rmMk m p1 p2 p3 p4) T368 (mkF m 78 #[vI p1, vI p2, vI p3, vI p4] [(.ref b358), (.ref b356), (.ref b356)]) := fun tq kq => go367 tq (st368 _ kq)
        have VP := V368
        rw [hka.2.2, hkb.2.2, hkc.2.2] at VP
        have hcv : csv p4 p1 p2 p3 = [p1, p2, p3] := ((if_neg hm0).trans ((if_neg hm1).trans (if_neg hm2)))
        by_cases hlat : ∀ c ∈ ([p1, p2, p3] : List Int32), ¬ (255 : Int32) < c
        · have hpc : ∀ c ∈ ([p1, p2, p3] : List Int32), ¬ c < 0 ∧ ¬ (255 : Int32) < c := by
            intro c hc
            refine ⟨?_, hlat c hc⟩
            simp only [List.mem_cons, List.not_mem_nil, or_false] at hc
            rcases hc with rfl | rfl | rfl
            · exact hka.1
            · exact hkb.1
            · exact hkc.1
          have f369 := (Fld.other W368 (Fld.other W365 (Fld.other W362 (F356_value.ext E358) (Or.inl ne359)) (Or.inl ne359)) (Or.inl ne359))
          have f370 := (Fld.other W368 (Fld.other W365 (Fld.other W362 (F356_coder.ext E358) (Or.inl ne359)) (Or.inl ne359)) (Or.inl ne359))
          obtain ⟨vv371, _, ⟨T371, L371, k371, n371⟩, -, X371, ⟨Lc371, hQ371, l371, y371, z371⟩, st371⟩ := X368.specialBack hx (y := (⟨"java/lang/String", "<init>", "([C)V"⟩ : MethodName)) rfl hown (mvT hZ (tw14 hw)) (mvT hZ (tw15 hw)) (mvT hZ (tw16 hw)) (by decide) (StrChars.Road.backV (W := 1) hZ hws (kI := 4) (tw11 hw) (cs := ([p1, p2, p3] : List Int32)) (bs := ([p1, p2, p3] : List Int32).map (fun c => c.toInt8.toInt32)) (n := 3) g_b356 ZS368 (Exa.wr W368 (Exa.wr W365 (Exa.wr W362 (A356.ext E358)))) f369 f370 VP (SC.ext O368.2) hz rfl rfl (by decide) (by decide) hpc rfl (by decide) (by decide)) (g := (mkF m 78 #[vI p1, vI p2, vI p3, vI p4] [(.ref b358), (.ref b356), (.ref b356)])) rfl (by rw [hml]; rfl) (Steps.refl _) (a := b356) (argsL := [(.ref b358)]) (rest := [(.ref b356)]) (lenOf pd_8 rfl) rfl (by show 2 * 0 + _ ≤ _; exact Nat.le_of_eq rfl) (hb hby d2_78) (fun _ _ => ⟨rfl, e368, (by decide : 2 + 1 ≤ _), (by decide : 7 + 3 ≤ _)⟩)
          dsimp only [Pt.U, Pt.locs, Pt.cells, Pt.slots] at X371 l371 y371 z371 st371 hQ371
          subst l371 y371 z371
          obtain ⟨rfl, Nq371, K371, A371, Fc371, t371, kb371, -, -, -, Fv371, V371⟩ := hQ371
          have N371 := Fr.app N368 Nq371
          have ZS371 : n0 ≤ T371.heap.size := Nat.le_trans ZS368 K371.1
          have KP371 : Keep h0 T371.heap [] := KP368.trans K371 (allS (Or.inr sz_b356) all0)
          have O371 := O368.keep K371 (allS g_b356 all0)
          have go371 : Goes p e below s₁ (G_rmMk m p1 p2 p3 p4) T371 (mkF m 81 #[vI p1, vI p2, vI p3, vI p4] [(.ref b356)]) := fun tq kq => go368 tq (st371.trans kq)
          obtain ⟨fs, hr, hrun, hended, hW, hsame⟩ := X371.leave (v := some (.ref b356)) (fun h => by rw [Bd.returns] at h; cases h)
          refine ⟨_, _, go371 _ ?_, hrun, hended, _, _, rfl, ?_, ReturnedEndW.of_narrow ⟨_, rfl⟩ hW (hsame.mono (by decide) (by decide))⟩
          · jvm_step X371.here [X371.here.top, hx, (hb hby d2_81), X371.method', Bd.returns, Value.isRef, FieldType.isReference]
            first | (intro acts; rw [hr _ acts rfl rfl rfl]) | rw [hr _ _ rfl rfl rfl]
            exact Steps.refl _
          · show Q_rmMk Z p1 p2 p3 p4 cz h0 n0 _ T371.heap T371.vm _
            exact ⟨b356, t371, kb371, 0, _, _, rfl, N371, KP371, JJ.warm (s := s) (JJ.keep hJ KP371) X371.warmed, A371, Fc371, Fv371, V371, by rw [hcv]; exact own_cdd rfl hlat⟩
        · have hcs : ∀ c ∈ ([p1, p2, p3] : List Int32), C16 c := by
            intro c hc
            simp only [List.mem_cons, List.not_mem_nil, or_false] at hc
            rcases hc with rfl | rfl | rfl
            · exact hka
            · exact hkb
            · exact hkc
          have f372 := (Fld.other W368 (Fld.other W365 (Fld.other W362 (F356_value.ext E358) (Or.inl ne359)) (Or.inl ne359)) (Or.inl ne359))
          have f373 := (Fld.other W368 (Fld.other W365 (Fld.other W362 (F356_coder.ext E358) (Or.inl ne359)) (Or.inl ne359)) (Or.inl ne359))
          obtain ⟨vv374, _, ⟨T374, L374, k374, n374⟩, -, X374, ⟨Lc374, hQ374, l374, y374, z374⟩, st374⟩ := X368.specialBack hx (y := (⟨"java/lang/String", "<init>", "([C)V"⟩ : MethodName)) rfl hown (mvT hZ (tw14 hw)) (mvT hZ (tw15 hw)) (mvT hZ (tw16 hw)) (by decide) (backOf (W := 1) (c1w3 l Z a0 hw [] b356 b358 p1 p2 p3 k358 cz h368 n0 ZS368 O368 g_b356 (Exa.wr W368 (Exa.wr W365 (Exa.wr W362 (A356.ext E358)))) f372 f373 AD HI LO SC hz VP (own_ex hlat) hcs) hZ (tw16 hw) (tw12 hw) (by decide) (by decide)) (g := (mkF m 78 #[vI p1, vI p2, vI p3, vI p4] [(.ref b358), (.ref b356), (.ref b356)])) rfl (by rw [hml]; rfl) (Steps.refl _) (a := b356) (argsL := [(.ref b358)]) (rest := [(.ref b356)]) (lenOf pd_8 rfl) rfl (by show 2 * 0 + _ ≤ _; exact Nat.le_of_eq rfl) (hb hby d2_78) (fun _ _ => ⟨rfl, e368, (by decide : 2 + 2 ≤ _), (by decide : 7 + 9 ≤ _)⟩)
          dsimp only [Pt.U, Pt.locs, Pt.cells, Pt.slots] at X374 l374 y374 z374 st374 hQ374
          subst l374 y374 z374
          obtain ⟨rfl, Nq374, K374, A374, Fc374, t374, kb374, Fv374, V374⟩ := hQ374
          have N374 := Fr.app N368 Nq374
          have ZS374 : n0 ≤ T374.heap.size := Nat.le_trans ZS368 K374.1
          have KP374 : Keep h0 T374.heap [] := KP368.trans K374 (allS (Or.inr sz_b356) all0)
          have O374 := O368.keep K374 (allS g_b356 all0)
          have go374 : Goes p e below s₁ (G_rmMk m p1 p2 p3 p4) T374 (mkF m 81 #[vI p1, vI p2, vI p3, vI p4] [(.ref b356)]) := fun tq kq => go368 tq (st374.trans kq)
          obtain ⟨fs, hr, hrun, hended, hW, hsame⟩ := X374.leave (v := some (.ref b356)) (fun h => by rw [Bd.returns] at h; cases h)
          refine ⟨_, _, go374 _ ?_, hrun, hended, _, _, rfl, ?_, ReturnedEndW.of_narrow ⟨_, rfl⟩ hW (hsame.mono (by decide) (by decide))⟩
          · jvm_step X374.here [X374.here.top, hx, (hb hby d2_81), X374.method', Bd.returns, Value.isRef, FieldType.isReference]
            first | (intro acts; rw [hr _ acts rfl rfl rfl]) | rw [hr _ _ rfl rfl rfl]
            exact Steps.refl _
          · show Q_rmMk Z p1 p2 p3 p4 cz h0 n0 _ T374.heap T374.vm _
            exact ⟨b356, t374, kb374, 1, (6 : Int32), _, rfl, N374, KP374, JJ.warm (s := s) (JJ.keep hJ KP374) X374.warmed, A374, Fc374, Fv374, V374, by rw [hcv]; exact Or.inr ⟨rfl, rfl, rfl, own_ex hlat⟩⟩
abbrev G_il0 (m : MethodId) (a1 : Addr) : JFrame := (entryFrame m #[(.ref a1)] 1)
theorem d26_0 : decode jdk_42_method_154_code 0 = .ok (.getstatic 38, 3) := by decide +kernel
theorem d26_3 : decode jdk_42_method_154_code 3 = .ok (.ifCond .eq 14, 3) := by decide +kernel
theorem d26_6 : decode jdk_42_method_154_code 6 = .ok (.aload_n 0, 1) := by decide +kernel
theorem d26_7 : decode jdk_42_method_154_code 7 = .ok (.getfield 15, 3) := by decide +kernel
theorem d26_10 : decode jdk_42_method_154_code 10 = .ok (.ifCond .ne 7, 3) := by decide +kernel
theorem d26_13 : decode jdk_42_method_154_code 13 = .ok (.iconst 1, 1) := by decide +kernel
theorem d26_14 : decode jdk_42_method_154_code 14 = .ok (.goto 4, 3) := by decide +kernel
theorem d26_18 : decode jdk_42_method_154_code 18 = .ok (.ireturn, 1) := by decide +kernel
def Q_il0 (Z : State) (a1 : Addr) (cz : Int32) (h0 : Heap) (n0 : Nat) (v : Option Value) (h : Heap) (L : List Loc) : Prop := v = some (.int (1 : Int32)) ∧ Fr n0 L ∧ h = h0
set_option maxRecDepth 65536 in
set_option maxHeartbeats 40000000 in
theorem il0 (l : Launch) (Z : State) (a0 : Array Value) (hw : ∀ d ∈ tables_1, d.before a0 Z = true) (ws : List Jvm.Cond) (a1 : Addr) (cz : Int32) (h0 : Heap) (n0 : Nat) (Z0 : n0 ≤ h0.size) (O0 : Old Z n0 h0) (SC : Sta Z Z.heap "java/lang/String" "COMPACT_STRINGS" "Z" (.int cz)) (hz : ¬ (cz = (0 : Int32))) (F : Fld Z h0 a1 "java/lang/String" "coder" "B" (.int (0 : Int32))) :
    MetFree l (⟨"java/lang/String", "isLatin1", "()Z"⟩ : MethodName) (head1 (Jvm.Cond.code (⟨"java/lang/String", "isLatin1", "()Z"⟩ : MethodName) jdk_42_method_154_code 1 (some .boolean) :: ws) ({ frames := 0, cells := 0, slots := 0, locals := 0 } : Room)) (fun a U => a = #[(.ref a1)] ∧ Z.Warmed39 U.vm ∧ U.heap = h0) (fun _ _ _ _ _ => True) (fun _ U o U' => ∃ v L, o = .returned v ∧ Q_il0 Z a1 cz h0 n0 v U'.heap L ∧ FrameEnd U o U' L ({ frames := 0, cells := 0, slots := 0, locals := 0 } : Room).cells ({ frames := 0, cells := 0, slots := 0, locals := 0 } : Room).slots) := by
  refine MetFree.of_bodySF (plainFor_of_name pn_java_lang_String) hisR ?_
  intro p e s m args below meth c s₁ Bd hml0 hP hK
  obtain ⟨rfl, hZ, hh⟩ := hP
  have hx := Bd.exec
  have hby := Bd.bytes
  have hml : c.maxLocals = 1 := hml0
  have hown : s.vm.findClass "java/lang/String" = some m.cls := findClass_of_methodNamed Bd.named
  have hnm := (name_of_methodNamed Bd.named Bd.method).1
  have X0 : Stand p l e ({ frames := 0, cells := 0, slots := 0, locals := 0 } : Room) s m #[(.ref a1)] below meth c s₁ [] 0 0 := Stand.of_body Bd
  have e0 : s₁.heap = h0 := by rw [← hh, Bd.state]; rfl
  have N0 := Fr.nil n0
  have go0 : Goes p e below s₁ (G_il0 m a1) s₁ (mkF m 0 #[vR a1] []) := fun tq kq => castTop (by first | (simp [entryFrame, mkF, argsToLocals, Value.category, vI, vJ, vR, vD, vN, uN, sD, G_il0]; done) | rfl) kq
  obtain ⟨T375, X375, e375, st375⟩ := getS2 X0 hx hZ hown (host := "") (Or.inl (tw46 hw)) Via.refl e0 (SC.ext O0.2) (g := (mkF m 0 #[vR a1] [])) rfl (hb hby d26_0)
  have go375 : Goes p e below s₁ (G_il0 m a1) T375 (mkF m 3 #[vR a1] [(.int cz)]) := fun tq kq => go0 tq (st375 _ kq)
  have go376 : Goes p e below s₁ (G_il0 m a1) T375 (mkF m 7 #[vR a1] [(.ref a1)]) := fun tq kq => go375 tq (by
    show Sx p e below T375 (mkF m 3 #[vR a1] [(.int cz)]) _
    refine XS.ifNo X375.here hx rfl (hb hby d26_3) rfl ((if0 _ _).trans (feq hz).1) ?_
    refine XS.aloadN X375.here hx rfl (hb hby d26_6) rfl rfl ?_
    exact kq)
  obtain ⟨T377, X377, e377, st377⟩ := getF X375 hx hZ hown (host := "") (Or.inl (tw31 hw)) Via.refl e375 F (g := (mkF m 7 #[vR a1] [(.ref a1)])) rfl rfl (hb hby d26_7)
  have go377 : Goes p e below s₁ (G_il0 m a1) T377 (mkF m 10 #[vR a1] [(.int (0 : Int32))]) := fun tq kq => go376 tq (st377 _ kq)
  have go378 : Goes p e below s₁ (G_il0 m a1) T377 (mkF m 18 #[vR a1] [(.int (1 : Int32))]) := fun tq kq => go377 tq (by
    show Sx p e below T377 (mkF m 10 #[vR a1] [(.int (0 : Int32))]) _
    refine XS.ifNo X377.here hx rfl (hb hby d26_10) rfl ((if0 _ _).trans (teq (by decide)).2) ?_
    refine XS.iconst X377.here hx rfl (hb hby d26_13) ?_
    show Sx p e below T377 (mkF m 14 #[vR a1] [(.int (1 : Int32))]) _
    refine XS.goto X377.here hx rfl (pc0 := 14) (pc' := 18) rfl (hb hby d26_14) (by decide) (by decide) ?_
    exact kq)
  obtain ⟨fs, hr, hrun, hended, hW, hsame⟩ := X377.leave (v := some (.int (1 : Int32))) (fun h => by rw [Bd.returns] at h; cases h)
  refine ⟨_, _, go378 _ ?_, hrun, hended, _, _, rfl, ?_, ⟨_, rfl⟩, hW, hsame.mono (by decide) (by decide)⟩
  · exact retN X377 hx (t := .boolean) Bd.returns (by simp) (hb hby d26_18) hr
  · show Q_il0 Z a1 cz h0 n0 _ T377.heap _
    rw [e377]
    exact ⟨rfl, N0, rfl⟩
abbrev G_il1 (m : MethodId) (a1 : Addr) : JFrame := (entryFrame m #[(.ref a1)] 1)
theorem d26_17 : decode jdk_42_method_154_code 17 = .ok (.iconst 0, 1) := by decide +kernel
def Q_il1 (Z : State) (a1 : Addr) (cz : Int32) (h0 : Heap) (n0 : Nat) (v : Option Value) (h : Heap) (L : List Loc) : Prop := v = some (.int (0 : Int32)) ∧ Fr n0 L ∧ h = h0
set_option maxRecDepth 65536 in
set_option maxHeartbeats 40000000 in
theorem il1 (l : Launch) (Z : State) (a0 : Array Value) (hw : ∀ d ∈ tables_1, d.before a0 Z = true) (ws : List Jvm.Cond) (a1 : Addr) (cz : Int32) (h0 : Heap) (n0 : Nat) (Z0 : n0 ≤ h0.size) (O0 : Old Z n0 h0) (SC : Sta Z Z.heap "java/lang/String" "COMPACT_STRINGS" "Z" (.int cz)) (hz : ¬ (cz = (0 : Int32))) (F : Fld Z h0 a1 "java/lang/String" "coder" "B" (.int (1 : Int32))) :
    MetFree l (⟨"java/lang/String", "isLatin1", "()Z"⟩ : MethodName) (head1 (Jvm.Cond.code (⟨"java/lang/String", "isLatin1", "()Z"⟩ : MethodName) jdk_42_method_154_code 1 (some .boolean) :: ws) ({ frames := 0, cells := 0, slots := 0, locals := 0 } : Room)) (fun a U => a = #[(.ref a1)] ∧ Z.Warmed39 U.vm ∧ U.heap = h0) (fun _ _ _ _ _ => True) (fun _ U o U' => ∃ v L, o = .returned v ∧ Q_il1 Z a1 cz h0 n0 v U'.heap L ∧ FrameEnd U o U' L ({ frames := 0, cells := 0, slots := 0, locals := 0 } : Room).cells ({ frames := 0, cells := 0, slots := 0, locals := 0 } : Room).slots) := by
  refine MetFree.of_bodySF (plainFor_of_name pn_java_lang_String) hisR ?_
  intro p e s m args below meth c s₁ Bd hml0 hP hK
  obtain ⟨rfl, hZ, hh⟩ := hP
  have hx := Bd.exec
  have hby := Bd.bytes
  have hml : c.maxLocals = 1 := hml0
  have hown : s.vm.findClass "java/lang/String" = some m.cls := findClass_of_methodNamed Bd.named
  have hnm := (name_of_methodNamed Bd.named Bd.method).1
  have X0 : Stand p l e ({ frames := 0, cells := 0, slots := 0, locals := 0 } : Room) s m #[(.ref a1)] below meth c s₁ [] 0 0 := Stand.of_body Bd
  have e0 : s₁.heap = h0 := by rw [← hh, Bd.state]; rfl
  have N0 := Fr.nil n0
  have go0 : Goes p e below s₁ (G_il1 m a1) s₁ (mkF m 0 #[vR a1] []) := fun tq kq => castTop (by first | (simp [entryFrame, mkF, argsToLocals, Value.category, vI, vJ, vR, vD, vN, uN, sD, G_il1]; done) | rfl) kq
  obtain ⟨T379, X379, e379, st379⟩ := getS2 X0 hx hZ hown (host := "") (Or.inl (tw46 hw)) Via.refl e0 (SC.ext O0.2) (g := (mkF m 0 #[vR a1] [])) rfl (hb hby d26_0)
  have go379 : Goes p e below s₁ (G_il1 m a1) T379 (mkF m 3 #[vR a1] [(.int cz)]) := fun tq kq => go0 tq (st379 _ kq)
  have go380 : Goes p e below s₁ (G_il1 m a1) T379 (mkF m 7 #[vR a1] [(.ref a1)]) := fun tq kq => go379 tq (by
    show Sx p e below T379 (mkF m 3 #[vR a1] [(.int cz)]) _
    refine XS.ifNo X379.here hx rfl (hb hby d26_3) rfl ((if0 _ _).trans (feq hz).1) ?_
    refine XS.aloadN X379.here hx rfl (hb hby d26_6) rfl rfl ?_
    exact kq)
  obtain ⟨T381, X381, e381, st381⟩ := getF X379 hx hZ hown (host := "") (Or.inl (tw31 hw)) Via.refl e379 F (g := (mkF m 7 #[vR a1] [(.ref a1)])) rfl rfl (hb hby d26_7)
  have go381 : Goes p e below s₁ (G_il1 m a1) T381 (mkF m 10 #[vR a1] [(.int (1 : Int32))]) := fun tq kq => go380 tq (st381 _ kq)
  have go382 : Goes p e below s₁ (G_il1 m a1) T381 (mkF m 18 #[vR a1] [(.int (0 : Int32))]) := fun tq kq => go381 tq (by
    show Sx p e below T381 (mkF m 10 #[vR a1] [(.int (1 : Int32))]) _
    refine XS.ifYes X381.here hx rfl (pc0 := 10) (pc' := 17) rfl (hb hby d26_10) rfl ((if0 _ _).trans (feq (by decide)).2) (by decide) (by decide) ?_
    refine XS.iconst X381.here hx rfl (hb hby d26_17) ?_
    exact kq)
  obtain ⟨fs, hr, hrun, hended, hW, hsame⟩ := X381.leave (v := some (.int (0 : Int32))) (fun h => by rw [Bd.returns] at h; cases h)
  refine ⟨_, _, go382 _ ?_, hrun, hended, _, _, rfl, ?_, ⟨_, rfl⟩, hW, hsame.mono (by decide) (by decide)⟩
  · exact retN X381 hx (t := .boolean) Bd.returns (by simp) (hb hby d26_18) hr
  · show Q_il1 Z a1 cz h0 n0 _ T381.heap _
    rw [e381]
    exact ⟨rfl, N0, rfl⟩
abbrev G_ckn (m : MethodId) (p1 : Int32) (p2 : Int32) : JFrame := (entryFrame m #[(.int p1), (.int p2), .null] 3)
theorem d28_0 : decode jdk_41_method_11_code 0 = .ok (.iload_n 0, 1) := by decide +kernel
theorem d28_1 : decode jdk_41_method_11_code 1 = .ok (.ifCond .lt 8, 3) := by decide +kernel
theorem d28_4 : decode jdk_41_method_11_code 4 = .ok (.iload_n 0, 1) := by decide +kernel
theorem d28_5 : decode jdk_41_method_11_code 5 = .ok (.iload_n 1, 1) := by decide +kernel
theorem d28_6 : decode jdk_41_method_11_code 6 = .ok (.if_icmp .lt 10, 3) := by decide +kernel
theorem d28_16 : decode jdk_41_method_11_code 16 = .ok (.iload_n 0, 1) := by decide +kernel
theorem d28_17 : decode jdk_41_method_11_code 17 = .ok (.ireturn, 1) := by decide +kernel
def Q_ckn (Z : State) (p1 : Int32) (p2 : Int32)  (h0 : Heap) (n0 : Nat) (v : Option Value) (h : Heap) (L : List Loc) : Prop := v = some (.int p1) ∧ Fr n0 L ∧ h = h0
theorem pn_jdk_internal_util_Preconditions : plainName "jdk/internal/util/Preconditions" = true := by first | (simp [plainName, overriddenIn]; done) | decide +kernel
set_option maxRecDepth 65536 in
set_option maxHeartbeats 40000000 in
theorem ckn (l : Launch) (Z : State) (a0 : Array Value) (hw : ∀ d ∈ tables_1, d.before a0 Z = true) (ws : List Jvm.Cond) (p1 : Int32) (p2 : Int32)  (h0 : Heap) (n0 : Nat) (Z0 : n0 ≤ h0.size) (hge : ¬ p1 < (0 : Int32)) (hlt : p1 < p2) :
    MetFree l (⟨"jdk/internal/util/Preconditions", "checkIndex", "(IILjava/util/function/BiFunction;)I"⟩ : MethodName) (head1 (Jvm.Cond.code (⟨"jdk/internal/util/Preconditions", "checkIndex", "(IILjava/util/function/BiFunction;)I"⟩ : MethodName) jdk_41_method_11_code 3 (some .int) :: ws) ({ frames := 0, cells := 0, slots := 0, locals := 0 } : Room)) (fun a U => a = #[(.int p1), (.int p2), .null] ∧ Z.Warmed39 U.vm ∧ U.heap = h0) (fun _ _ _ _ _ => True) (fun _ U o U' => ∃ v L, o = .returned v ∧ Q_ckn Z p1 p2 h0 n0 v U'.heap L ∧ FrameEnd U o U' L ({ frames := 0, cells := 0, slots := 0, locals := 0 } : Room).cells ({ frames := 0, cells := 0, slots := 0, locals := 0 } : Room).slots) := by
  refine MetFree.of_bodySF (plainFor_of_name pn_jdk_internal_util_Preconditions) hisR ?_
  intro p e s m args below meth c s₁ Bd hml0 hP hK
  obtain ⟨rfl, hZ, hh⟩ := hP
  have hx := Bd.exec
  have hby := Bd.bytes
  have hml : c.maxLocals = 3 := hml0
  have hown : s.vm.findClass "jdk/internal/util/Preconditions" = some m.cls := findClass_of_methodNamed Bd.named
  have hnm := (name_of_methodNamed Bd.named Bd.method).1
  have X0 : Stand p l e ({ frames := 0, cells := 0, slots := 0, locals := 0 } : Room) s m #[(.int p1), (.int p2), .null] below meth c s₁ [] 0 0 := Stand.of_body Bd
  have e0 : s₁.heap = h0 := by rw [← hh, Bd.state]; rfl
  have N0 := Fr.nil n0
  have go0 : Goes p e below s₁ (G_ckn m p1 p2) s₁ (mkF m 0 #[vI p1, vI p2, vN] []) := fun tq kq => castTop (by first | (simp [entryFrame, mkF, argsToLocals, Value.category, vI, vJ, vR, vD, vN, uN, sD, G_ckn]; done) | rfl) kq
  have go383 : Goes p e below s₁ (G_ckn m p1 p2) s₁ (mkF m 1 #[vI p1, vI p2, vN] [(.int p1)]) := fun tq kq => go0 tq (by
    show Sx p e below s₁ (mkF m 0 #[vI p1, vI p2, vN] []) _
    refine XS.iloadN X0.here hx rfl (hb hby d28_0) rfl ?_
    exact kq)
  have go384 : Goes p e below s₁ (G_ckn m p1 p2) s₁ (mkF m 6 #[vI p1, vI p2, vN] [(.int p2), (.int p1)]) := fun tq kq => go383 tq (by
    show Sx p e below s₁ (mkF m 1 #[vI p1, vI p2, vN] [(.int p1)]) _
    refine XS.ifNo X0.here hx rfl (hb hby d28_1) rfl ((if0 _ _).trans (flt hge).1) ?_
    show Sx p e below s₁ (mkF m 4 #[vI p1, vI p2, vN] []) _
    refine XS.iloadN X0.here hx rfl (hb hby d28_4) rfl ?_
    refine XS.iloadN X0.here hx rfl (hb hby d28_5) rfl ?_
    exact kq)
  have go385 : Goes p e below s₁ (G_ckn m p1 p2) s₁ (mkF m 17 #[vI p1, vI p2, vN] [(.int p1)]) := fun tq kq => go384 tq (by
    show Sx p e below s₁ (mkF m 6 #[vI p1, vI p2, vN] [(.int p2), (.int p1)]) _
    refine XS.icmpYes X0.here hx rfl (pc0 := 6) (pc' := 16) rfl (hb hby d28_6) rfl (tlt hlt).1 (by decide) (by decide) ?_
    refine XS.iloadN X0.here hx rfl (hb hby d28_16) rfl ?_
    exact kq)
  obtain ⟨fs, hr, hrun, hended, hW, hsame⟩ := X0.leave (v := some (.int p1)) (fun h => by rw [Bd.returns] at h; cases h)
  refine ⟨_, _, go385 _ ?_, hrun, hended, _, _, rfl, ?_, ⟨_, rfl⟩, hW, hsame.mono (by decide) (by decide)⟩
  · exact retI X0 hx Bd.returns (hb hby d28_17) hr
  · show Q_ckn Z p1 p2 h0 n0 _ s₁.heap _
    rw [e0]
    exact ⟨rfl, N0, rfl⟩
abbrev G_ckr (m : MethodId) (p1 : Int32) (p2 : Int32) (a3 : Addr) : JFrame := (entryFrame m #[(.int p1), (.int p2), (.ref a3)] 3)
def Q_ckr (Z : State) (p1 : Int32) (p2 : Int32) (a3 : Addr)  (h0 : Heap) (n0 : Nat) (v : Option Value) (h : Heap) (L : List Loc) : Prop := v = some (.int p1) ∧ Fr n0 L ∧ h = h0
set_option maxRecDepth 65536 in
set_option maxHeartbeats 40000000 in
theorem ckr (l : Launch) (Z : State) (a0 : Array Value) (hw : ∀ d ∈ tables_1, d.before a0 Z = true) (ws : List Jvm.Cond) (p1 : Int32) (p2 : Int32) (a3 : Addr)  (h0 : Heap) (n0 : Nat) (Z0 : n0 ≤ h0.size) (hge : ¬ p1 < (0 : Int32)) (hlt : p1 < p2) :
    MetFree l (⟨"jdk/internal/util/Preconditions", "checkIndex", "(IILjava/util/function/BiFunction;)I"⟩ : MethodName) (head1 (Jvm.Cond.code (⟨"jdk/internal/util/Preconditions", "checkIndex", "(IILjava/util/function/BiFunction;)I"⟩ : MethodName) jdk_41_method_11_code 3 (some .int) :: ws) ({ frames := 0, cells := 0, slots := 0, locals := 0 } : Room)) (fun a U => a = #[(.int p1), (.int p2), (.ref a3)] ∧ Z.Warmed39 U.vm ∧ U.heap = h0) (fun _ _ _ _ _ => True) (fun _ U o U' => ∃ v L, o = .returned v ∧ Q_ckr Z p1 p2 a3 h0 n0 v U'.heap L ∧ FrameEnd U o U' L ({ frames := 0, cells := 0, slots := 0, locals := 0 } : Room).cells ({ frames := 0, cells := 0, slots := 0, locals := 0 } : Room).slots) := by
  refine MetFree.of_bodySF (plainFor_of_name pn_jdk_internal_util_Preconditions) hisR ?_
  intro p e s m args below meth c s₁ Bd hml0 hP hK
  obtain ⟨rfl, hZ, hh⟩ := hP
  have hx := Bd.exec
  have hby := Bd.bytes
  have hml : c.maxLocals = 3 := hml0
  have hown : s.vm.findClass "jdk/internal/util/Preconditions" = some m.cls := findClass_of_methodNamed Bd.named
  have hnm := (name_of_methodNamed Bd.named Bd.method).1
  have X0 : Stand p l e ({ frames := 0, cells := 0, slots := 0, locals := 0 } : Room) s m #[(.int p1), (.int p2), (.ref a3)] below meth c s₁ [] 0 0 := Stand.of_body Bd
  have e0 : s₁.heap = h0 := by rw [← hh, Bd.state]; rfl
  have N0 := Fr.nil n0
  have go0 : Goes p e below s₁ (G_ckr m p1 p2 a3) s₁ (mkF m 0 #[vI p1, vI p2, vR a3] []) := fun tq kq => castTop (by first | (simp [entryFrame, mkF, argsToLocals, Value.category, vI, vJ, vR, vD, vN, uN, sD, G_ckr]; done) | rfl) kq
  have go386 : Goes p e below s₁ (G_ckr m p1 p2 a3) s₁ (mkF m 1 #[vI p1, vI p2, vR a3] [(.int p1)]) := fun tq kq => go0 tq (by
    show Sx p e below s₁ (mkF m 0 #[vI p1, vI p2, vR a3] []) _
    refine XS.iloadN X0.here hx rfl (hb hby d28_0) rfl ?_
    exact kq)
  have go387 : Goes p e below s₁ (G_ckr m p1 p2 a3) s₁ (mkF m 6 #[vI p1, vI p2, vR a3] [(.int p2), (.int p1)]) := fun tq kq => go386 tq (by
    show Sx p e below s₁ (mkF m 1 #[vI p1, vI p2, vR a3] [(.int p1)]) _
    refine XS.ifNo X0.here hx rfl (hb hby d28_1) rfl ((if0 _ _).trans (flt hge).1) ?_
    show Sx p e below s₁ (mkF m 4 #[vI p1, vI p2, vR a3] []) _
    refine XS.iloadN X0.here hx rfl (hb hby d28_4) rfl ?_
    refine XS.iloadN X0.here hx rfl (hb hby d28_5) rfl ?_
    exact kq)
  have go388 : Goes p e below s₁ (G_ckr m p1 p2 a3) s₁ (mkF m 17 #[vI p1, vI p2, vR a3] [(.int p1)]) := fun tq kq => go387 tq (by
    show Sx p e below s₁ (mkF m 6 #[vI p1, vI p2, vR a3] [(.int p2), (.int p1)]) _
    refine XS.icmpYes X0.here hx rfl (pc0 := 6) (pc' := 16) rfl (hb hby d28_6) rfl (tlt hlt).1 (by decide) (by decide) ?_
    refine XS.iloadN X0.here hx rfl (hb hby d28_16) rfl ?_
    exact kq)
  obtain ⟨fs, hr, hrun, hended, hW, hsame⟩ := X0.leave (v := some (.int p1)) (fun h => by rw [Bd.returns] at h; cases h)
  refine ⟨_, _, go388 _ ?_, hrun, hended, _, _, rfl, ?_, ⟨_, rfl⟩, hW, hsame.mono (by decide) (by decide)⟩
  · exact retI X0 hx Bd.returns (hb hby d28_17) hr
  · show Q_ckr Z p1 p2 a3 h0 n0 _ s₁.heap _
    rw [e0]
    exact ⟨rfl, N0, rfl⟩
abbrev G_cks (m : MethodId) (p1 : Int32) (p2 : Int32) : JFrame := (entryFrame m #[(.int p1), (.int p2)] 2)
theorem d27_0 : decode jdk_42_method_155_code 0 = .ok (.iload_n 0, 1) := by decide +kernel
theorem d27_1 : decode jdk_42_method_155_code 1 = .ok (.iload_n 1, 1) := by decide +kernel
theorem d27_2 : decode jdk_42_method_155_code 2 = .ok (.getstatic 1053, 3) := by decide +kernel
theorem d27_5 : decode jdk_42_method_155_code 5 = .ok (.invokestatic 1059, 3) := by decide +kernel
theorem pd_9 : parseMethodDescriptor "(IILjava/util/function/BiFunction;)I" = some ⟨[.int, .int, (.object "java/util/function/BiFunction")], some .int⟩ := by decide +kernel
theorem d27_8 : decode jdk_42_method_155_code 8 = .ok (.pop, 1) := by decide +kernel
theorem d27_9 : decode jdk_42_method_155_code 9 = .ok (.return_, 1) := by decide +kernel
def Q_cks (Z : State) (p1 : Int32) (p2 : Int32) (fm : Value) (h0 : Heap) (n0 : Nat) (v : Option Value) (h : Heap) (L : List Loc) : Prop := v = none ∧ Fr n0 L ∧ h = h0
set_option maxRecDepth 65536 in
set_option maxHeartbeats 40000000 in
theorem cks (l : Launch) (Z : State) (a0 : Array Value) (hw : ∀ d ∈ tables_1, d.before a0 Z = true) (ws : List Jvm.Cond) (p1 : Int32) (p2 : Int32) (fm : Value) (h0 : Heap) (n0 : Nat) (Z0 : n0 ≤ h0.size) (O0 : Old Z n0 h0) (FM : Sta Z Z.heap "jdk/internal/util/Preconditions" "SIOOBE_FORMATTER" "Ljava/util/function/BiFunction;" fm) (hfm : fm = .null ∨ ∃ f : Addr, fm = .ref f) (hge : ¬ p1 < (0 : Int32)) (hlt : p1 < p2) :
    MetFree l (⟨"java/lang/String", "checkIndex", "(II)V"⟩ : MethodName) (head1 (Jvm.Cond.code (⟨"java/lang/String", "checkIndex", "(II)V"⟩ : MethodName) jdk_42_method_155_code 2 none :: ws) ({ frames := 1, cells := 0, slots := 0, locals := 14 } : Room)) (fun a U => a = #[(.int p1), (.int p2)] ∧ Z.Warmed39 U.vm ∧ U.heap = h0) (fun _ _ _ _ _ => True) (fun _ U o U' => ∃ v L, o = .returned v ∧ Q_cks Z p1 p2 fm h0 n0 v U'.heap L ∧ FrameEnd U o U' L ({ frames := 1, cells := 0, slots := 0, locals := 14 } : Room).cells ({ frames := 1, cells := 0, slots := 0, locals := 14 } : Room).slots) := by
  refine MetFree.of_bodySF (plainFor_of_name pn_java_lang_String) hisR ?_
  intro p e s m args below meth c s₁ Bd hml0 hP hK
  obtain ⟨rfl, hZ, hh⟩ := hP
  have hx := Bd.exec
  have hby := Bd.bytes
  have hml : c.maxLocals = 2 := hml0
  have hown : s.vm.findClass "java/lang/String" = some m.cls := findClass_of_methodNamed Bd.named
  have hnm := (name_of_methodNamed Bd.named Bd.method).1
  have X0 : Stand p l e ({ frames := 1, cells := 0, slots := 0, locals := 14 } : Room) s m #[(.int p1), (.int p2)] below meth c s₁ [] 0 0 := Stand.of_body Bd
  have e0 : s₁.heap = h0 := by rw [← hh, Bd.state]; rfl
  have N0 := Fr.nil n0
  have go0 : Goes p e below s₁ (G_cks m p1 p2) s₁ (mkF m 0 #[vI p1, vI p2] []) := fun tq kq => castTop (by first | (simp [entryFrame, mkF, argsToLocals, Value.category, vI, vJ, vR, vD, vN, uN, sD, G_cks]; done) | rfl) kq
  rcases hfm with efm | ⟨ff, efm⟩
  · rw [efm] at FM
    have go389 : Goes p e below s₁ (G_cks m p1 p2) s₁ (mkF m 2 #[vI p1, vI p2] [(.int p2), (.int p1)]) := fun tq kq => go0 tq (by
      show Sx p e below s₁ (mkF m 0 #[vI p1, vI p2] []) _
      refine XS.iloadN X0.here hx rfl (hb hby d27_0) rfl ?_
      refine XS.iloadN X0.here hx rfl (hb hby d27_1) rfl ?_
      exact kq)
    obtain ⟨T390, X390, e390, st390⟩ := getS2 X0 hx hZ hown (host := "") (Or.inl (tw117 hw)) Via.refl e0 (FM.ext O0.2) (g := (mkF m 2 #[vI p1, vI p2] [(.int p2), (.int p1)])) rfl (hb hby d27_2)
    have go390 : Goes p e below s₁ (G_cks m p1 p2) T390 (mkF m 5 #[vI p1, vI p2] [.null, (.int p2), (.int p1)]) := fun tq kq => go389 tq (st390 _ kq)
    obtain ⟨vv391, _, ⟨T391, L391, k391, n391⟩, -, X391, ⟨Lc391, hQ391, l391, y391, z391⟩, st391⟩ := Jvm.LawKit.callS X390 hx (y := (⟨"jdk/internal/util/Preconditions", "checkIndex", "(IILjava/util/function/BiFunction;)I"⟩ : MethodName)) hown (mvT hZ (tw119 hw)) (mvT hZ (tw120 hw)) (mvT hZ (tw118 hw)) (mvT hZ (tw121 hw)) (by decide) (backOf (W := 0) (ckn l Z a0 hw [] p1 p2   h0 n0 Z0 hge hlt) hZ (tw121 hw) (tw118 hw) (by decide) (by decide)) (g := (mkF m 5 #[vI p1, vI p2] [.null, (.int p2), (.int p1)])) rfl (by rw [hml]; rfl) (argsL := [(.int p1), (.int p2), .null]) (rest := []) (lenOf pd_9 rfl) rfl (by show 2 * 0 + _ ≤ _; exact Nat.le_of_eq rfl) (hb hby d27_5) (fun _ _ => ⟨rfl, e390, (by decide : 0 + 0 ≤ _), (by decide : 0 + 0 ≤ _)⟩)
    dsimp only [Pt.U, Pt.locs, Pt.cells, Pt.slots] at X391 l391 y391 z391 st391 hQ391
    subst l391 y391 z391
    obtain ⟨rfl, Nq391, eq391⟩ := hQ391
    have N391 := Fr.app N0 Nq391
    have go391 : Goes p e below s₁ (G_cks m p1 p2) T391 (mkF m 8 #[vI p1, vI p2] [(.int p1)]) := fun tq kq => go390 tq (st391 _ kq)
    have go392 : Goes p e below s₁ (G_cks m p1 p2) T391 (mkF m 9 #[vI p1, vI p2] []) := fun tq kq => go391 tq (by
      show Sx p e below T391 (mkF m 8 #[vI p1, vI p2] [(.int p1)]) _
      refine XS.pop X391.here hx rfl (hb hby d27_8) rfl rfl ?_
      exact kq)
    obtain ⟨fs, hr, hrun, hended, hW, hsame⟩ := X391.leave (v := none) (fun _ => rfl)
    refine ⟨_, _, go392 _ ?_, hrun, hended, _, _, rfl, ?_, ⟨_, rfl⟩, hW, hsame.mono (by decide) (by decide)⟩
    · exact X391.returnOut hx Bd.returns (hb hby d27_9) hr
    · show Q_cks Z p1 p2 fm h0 n0 _ T391.heap _
      rw [eq391]
      exact ⟨rfl, N391, rfl⟩
  · rw [efm] at FM
    have go393 : Goes p e below s₁ (G_cks m p1 p2) s₁ (mkF m 2 #[vI p1, vI p2] [(.int p2), (.int p1)]) := fun tq kq => go0 tq (by
      show Sx p e below s₁ (mkF m 0 #[vI p1, vI p2] []) _
      refine XS.iloadN X0.here hx rfl (hb hby d27_0) rfl ?_
      refine XS.iloadN X0.here hx rfl (hb hby d27_1) rfl ?_
      exact kq)
    obtain ⟨T394, X394, e394, st394⟩ := getS2 X0 hx hZ hown (host := "") (Or.inl (tw117 hw)) Via.refl e0 (FM.ext O0.2) (g := (mkF m 2 #[vI p1, vI p2] [(.int p2), (.int p1)])) rfl (hb hby d27_2)
    have go394 : Goes p e below s₁ (G_cks m p1 p2) T394 (mkF m 5 #[vI p1, vI p2] [(.ref ff), (.int p2), (.int p1)]) := fun tq kq => go393 tq (st394 _ kq)
    obtain ⟨vv395, _, ⟨T395, L395, k395, n395⟩, -, X395, ⟨Lc395, hQ395, l395, y395, z395⟩, st395⟩ := Jvm.LawKit.callS X394 hx (y := (⟨"jdk/internal/util/Preconditions", "checkIndex", "(IILjava/util/function/BiFunction;)I"⟩ : MethodName)) hown (mvT hZ (tw119 hw)) (mvT hZ (tw120 hw)) (mvT hZ (tw118 hw)) (mvT hZ (tw121 hw)) (by decide) (backOf (W := 0) (ckr l Z a0 hw [] p1 p2 ff  h0 n0 Z0 hge hlt) hZ (tw121 hw) (tw118 hw) (by decide) (by decide)) (g := (mkF m 5 #[vI p1, vI p2] [(.ref ff), (.int p2), (.int p1)])) rfl (by rw [hml]; rfl) (argsL := [(.int p1), (.int p2), (.ref ff)]) (rest := []) (lenOf pd_9 rfl) rfl (by show 2 * 0 + _ ≤ _; exact Nat.le_of_eq rfl) (hb hby d27_5) (fun _ _ => ⟨rfl, e394, (by decide : 0 + 0 ≤ _), (by decide : 0 + 0 ≤ _)⟩)
    dsimp only [Pt.U, Pt.locs, Pt.cells, Pt.slots] at X395 l395 y395 z395 st395 hQ395
    subst l395 y395 z395
    obtain ⟨rfl, Nq395, eq395⟩ := hQ395
    have N395 := Fr.app N0 Nq395
    have go395 : Goes p e below s₁ (G_cks m p1 p2) T395 (mkF m 8 #[vI p1, vI p2] [(.int p1)]) := fun tq kq => go394 tq (st395 _ kq)
    have go396 : Goes p e below s₁ (G_cks m p1 p2) T395 (mkF m 9 #[vI p1, vI p2] []) := fun tq kq => go395 tq (by
      show Sx p e below T395 (mkF m 8 #[vI p1, vI p2] [(.int p1)]) _
      refine XS.pop X395.here hx rfl (hb hby d27_8) rfl rfl ?_
      exact kq)
    obtain ⟨fs, hr, hrun, hended, hW, hsame⟩ := X395.leave (v := none) (fun _ => rfl)
    refine ⟨_, _, go396 _ ?_, hrun, hended, _, _, rfl, ?_, ⟨_, rfl⟩, hW, hsame.mono (by decide) (by decide)⟩
    · exact X395.returnOut hx Bd.returns (hb hby d27_9) hr
    · show Q_cks Z p1 p2 fm h0 n0 _ T395.heap _
      rw [eq395]
      exact ⟨rfl, N395, rfl⟩
def hsv (p1 : Int32) : Int32 := (if p1 < (55296 : Int32) then (0 : Int32) else (if p1 < (56320 : Int32) then (1 : Int32) else (0 : Int32)))
abbrev G_rmHs (m : MethodId) (p1 : Int32) : JFrame := (entryFrame m #[(.int p1)] 1)
theorem d31_0 : decode jdk_89_method_14_code 0 = .ok (.iload_n 0, 1) := by decide +kernel
theorem d31_1 : decode jdk_89_method_14_code 1 = .ok (.ldc 75, 2) := by decide +kernel
theorem d31_3 : decode jdk_89_method_14_code 3 = .ok (.if_icmp .lt 13, 3) := by decide +kernel
theorem d31_16 : decode jdk_89_method_14_code 16 = .ok (.iconst 0, 1) := by decide +kernel
theorem d31_17 : decode jdk_89_method_14_code 17 = .ok (.ireturn, 1) := by decide +kernel
theorem d31_6 : decode jdk_89_method_14_code 6 = .ok (.iload_n 0, 1) := by decide +kernel
theorem d31_7 : decode jdk_89_method_14_code 7 = .ok (.ldc 76, 2) := by decide +kernel
theorem d31_9 : decode jdk_89_method_14_code 9 = .ok (.if_icmp .ge 7, 3) := by decide +kernel
theorem d31_12 : decode jdk_89_method_14_code 12 = .ok (.iconst 1, 1) := by decide +kernel
theorem d31_13 : decode jdk_89_method_14_code 13 = .ok (.goto 4, 3) := by decide +kernel
def Q_rmHs (Z : State) (p1 : Int32)  (h0 : Heap) (n0 : Nat) (v : Option Value) (h : Heap) (L : List Loc) : Prop := v = some (.int (hsv p1)) ∧ Fr n0 L ∧ h = h0
theorem pn_java_lang_Character : plainName "java/lang/Character" = true := by first | (simp [plainName, overriddenIn]; done) | decide +kernel
set_option maxRecDepth 65536 in
set_option maxHeartbeats 40000000 in
theorem rmHs (l : Launch) (Z : State) (a0 : Array Value) (hw : ∀ d ∈ tables_1, d.before a0 Z = true) (ws : List Jvm.Cond) (p1 : Int32)  (h0 : Heap) (n0 : Nat) (Z0 : n0 ≤ h0.size)  :
    MetFree l (⟨"java/lang/Character", "isHighSurrogate", "(C)Z"⟩ : MethodName) (head1 (Jvm.Cond.code (⟨"java/lang/Character", "isHighSurrogate", "(C)Z"⟩ : MethodName) jdk_89_method_14_code 1 (some .boolean) :: ws) ({ frames := 0, cells := 0, slots := 0, locals := 0 } : Room)) (fun a U => a = #[(.int p1)] ∧ Z.Warmed39 U.vm ∧ U.heap = h0) (fun _ _ _ _ _ => True) (fun _ U o U' => ∃ v L, o = .returned v ∧ Q_rmHs Z p1 h0 n0 v U'.heap L ∧ FrameEnd U o U' L ({ frames := 0, cells := 0, slots := 0, locals := 0 } : Room).cells ({ frames := 0, cells := 0, slots := 0, locals := 0 } : Room).slots) := by
  refine MetFree.of_bodySF (plainFor_of_name pn_java_lang_Character) hisR ?_
  intro p e s m args below meth c s₁ Bd hml0 hP hK
  obtain ⟨rfl, hZ, hh⟩ := hP
  have hx := Bd.exec
  have hby := Bd.bytes
  have hml : c.maxLocals = 1 := hml0
  have hown : s.vm.findClass "java/lang/Character" = some m.cls := findClass_of_methodNamed Bd.named
  have hnm := (name_of_methodNamed Bd.named Bd.method).1
  have X0 : Stand p l e ({ frames := 0, cells := 0, slots := 0, locals := 0 } : Room) s m #[(.int p1)] below meth c s₁ [] 0 0 := Stand.of_body Bd
  have e0 : s₁.heap = h0 := by rw [← hh, Bd.state]; rfl
  have N0 := Fr.nil n0
  have go0 : Goes p e below s₁ (G_rmHs m p1) s₁ (mkF m 0 #[vI p1] []) := fun tq kq => castTop (by first | (simp [entryFrame, mkF, argsToLocals, Value.category, vI, vJ, vR, vD, vN, uN, sD, G_rmHs]; done) | rfl) kq
  have go397 : Goes p e below s₁ (G_rmHs m p1) s₁ (mkF m 3 #[vI p1] [(.int (55296 : Int32)), (.int p1)]) := fun tq kq => go0 tq (by
    show Sx p e below s₁ (mkF m 0 #[vI p1] []) _
    refine XS.iloadN X0.here hx rfl (hb hby d31_0) rfl ?_
    refine X0.ldcInt hx hown (mvT hZ (tw132 hw)) (g := (mkF m 1 #[vI p1] [(.int p1)])) rfl (hb hby d31_1) _ ?_
    exact kq)
  by_cases hc3_398 : p1 < (55296 : Int32)
  · have go399 : Goes p e below s₁ (G_rmHs m p1) s₁ (mkF m 17 #[vI p1] [(.int (0 : Int32))]) := fun tq kq => go397 tq (by
      show Sx p e below s₁ (mkF m 3 #[vI p1] [(.int (55296 : Int32)), (.int p1)]) _
      refine XS.icmpYes X0.here hx rfl (pc0 := 3) (pc' := 16) rfl (hb hby d31_3) rfl (tlt hc3_398).1 (by decide) (by decide) ?_
      refine XS.iconst X0.here hx rfl (hb hby d31_16) ?_
      exact kq)
    obtain ⟨fs, hr, hrun, hended, hW, hsame⟩ := X0.leave (v := some (.int (0 : Int32))) (fun h => by rw [Bd.returns] at h; cases h)
    refine ⟨_, _, go399 _ ?_, hrun, hended, _, _, rfl, ?_, ⟨_, rfl⟩, hW, hsame.mono (by decide) (by decide)⟩
    · exact retN X0 hx (t := .boolean) Bd.returns (by simp) (hb hby d31_17) hr
    · show Q_rmHs Z p1 h0 n0 _ s₁.heap _
      rw [e0]
      exact ⟨congrArg (fun z => some (Value.int z)) (Eq.symm (show (hsv p1) = (0 : Int32) from (if_pos hc3_398))), N0, rfl⟩
  · have go400 : Goes p e below s₁ (G_rmHs m p1) s₁ (mkF m 9 #[vI p1] [(.int (56320 : Int32)), (.int p1)]) := fun tq kq => go397 tq (by
      show Sx p e below s₁ (mkF m 3 #[vI p1] [(.int (55296 : Int32)), (.int p1)]) _
      refine XS.icmpNo X0.here hx rfl (hb hby d31_3) rfl (flt hc3_398).1 ?_
      refine XS.iloadN X0.here hx rfl (hb hby d31_6) rfl ?_
      show Sx p e below s₁ (mkF m 7 #[vI p1] [(.int p1)]) _
      refine X0.ldcInt hx hown (mvT hZ (tw137 hw)) (g := (mkF m 7 #[vI p1] [(.int p1)])) rfl (hb hby d31_7) _ ?_
      exact kq)
    by_cases hc9_401 : p1 < (56320 : Int32)
    · have go403 : Goes p e below s₁ (G_rmHs m p1) s₁ (mkF m 17 #[vI p1] [(.int (1 : Int32))]) := fun tq kq => go400 tq (by
        show Sx p e below s₁ (mkF m 9 #[vI p1] [(.int (56320 : Int32)), (.int p1)]) _
        refine XS.icmpNo X0.here hx rfl (hb hby d31_9) rfl (tlt hc9_401).2.1 ?_
        show Sx p e below s₁ (mkF m 12 #[vI p1] []) _
        refine XS.iconst X0.here hx rfl (hb hby d31_12) ?_
        refine XS.goto X0.here hx rfl (pc0 := 13) (pc' := 17) rfl (hb hby d31_13) (by decide) (by decide) ?_
        exact kq)
      obtain ⟨fs, hr, hrun, hended, hW, hsame⟩ := X0.leave (v := some (.int (1 : Int32))) (fun h => by rw [Bd.returns] at h; cases h)
      refine ⟨_, _, go403 _ ?_, hrun, hended, _, _, rfl, ?_, ⟨_, rfl⟩, hW, hsame.mono (by decide) (by decide)⟩
      · exact retN X0 hx (t := .boolean) Bd.returns (by simp) (hb hby d31_17) hr
      · show Q_rmHs Z p1 h0 n0 _ s₁.heap _
        rw [e0]
        exact ⟨congrArg (fun z => some (Value.int z)) (Eq.symm (show (hsv p1) = (1 : Int32) from ((if_neg hc3_398).trans (if_pos hc9_401)))), N0, rfl⟩
    · have go402 : Goes p e below s₁ (G_rmHs m p1) s₁ (mkF m 17 #[vI p1] [(.int (0 : Int32))]) := fun tq kq => go400 tq (by
        show Sx p e below s₁ (mkF m 9 #[vI p1] [(.int (56320 : Int32)), (.int p1)]) _
        refine XS.icmpYes X0.here hx rfl (pc0 := 9) (pc' := 16) rfl (hb hby d31_9) rfl (flt hc9_401).2.1 (by decide) (by decide) ?_
        show Sx p e below s₁ (mkF m 16 #[vI p1] []) _
        refine XS.iconst X0.here hx rfl (hb hby d31_16) ?_
        exact kq)
      obtain ⟨fs, hr, hrun, hended, hW, hsame⟩ := X0.leave (v := some (.int (0 : Int32))) (fun h => by rw [Bd.returns] at h; cases h)
      refine ⟨_, _, go402 _ ?_, hrun, hended, _, _, rfl, ?_, ⟨_, rfl⟩, hW, hsame.mono (by decide) (by decide)⟩
      · exact retN X0 hx (t := .boolean) Bd.returns (by simp) (hb hby d31_17) hr
      · show Q_rmHs Z p1 h0 n0 _ s₁.heap _
        rw [e0]
        exact ⟨congrArg (fun z => some (Value.int z)) (Eq.symm (show (hsv p1) = (0 : Int32) from ((if_neg hc3_398).trans (if_neg hc9_401)))), N0, rfl⟩
def lsv (p1 : Int32) : Int32 := (if p1 < (56320 : Int32) then (0 : Int32) else (if p1 < (57344 : Int32) then (1 : Int32) else (0 : Int32)))
abbrev G_rmLs (m : MethodId) (p1 : Int32) : JFrame := (entryFrame m #[(.int p1)] 1)
theorem d34_0 : decode jdk_89_method_15_code 0 = .ok (.iload_n 0, 1) := by decide +kernel
theorem d34_1 : decode jdk_89_method_15_code 1 = .ok (.ldc 76, 2) := by decide +kernel
theorem d34_3 : decode jdk_89_method_15_code 3 = .ok (.if_icmp .lt 13, 3) := by decide +kernel
theorem d34_16 : decode jdk_89_method_15_code 16 = .ok (.iconst 0, 1) := by decide +kernel
theorem d34_17 : decode jdk_89_method_15_code 17 = .ok (.ireturn, 1) := by decide +kernel
theorem d34_6 : decode jdk_89_method_15_code 6 = .ok (.iload_n 0, 1) := by decide +kernel
theorem d34_7 : decode jdk_89_method_15_code 7 = .ok (.ldc 77, 2) := by decide +kernel
theorem d34_9 : decode jdk_89_method_15_code 9 = .ok (.if_icmp .ge 7, 3) := by decide +kernel
theorem d34_12 : decode jdk_89_method_15_code 12 = .ok (.iconst 1, 1) := by decide +kernel
theorem d34_13 : decode jdk_89_method_15_code 13 = .ok (.goto 4, 3) := by decide +kernel
def Q_rmLs (Z : State) (p1 : Int32)  (h0 : Heap) (n0 : Nat) (v : Option Value) (h : Heap) (L : List Loc) : Prop := v = some (.int (lsv p1)) ∧ Fr n0 L ∧ h = h0
set_option maxRecDepth 65536 in
set_option maxHeartbeats 40000000 in
theorem rmLs (l : Launch) (Z : State) (a0 : Array Value) (hw : ∀ d ∈ tables_1, d.before a0 Z = true) (ws : List Jvm.Cond) (p1 : Int32)  (h0 : Heap) (n0 : Nat) (Z0 : n0 ≤ h0.size)  :
    MetFree l (⟨"java/lang/Character", "isLowSurrogate", "(C)Z"⟩ : MethodName) (head1 (Jvm.Cond.code (⟨"java/lang/Character", "isLowSurrogate", "(C)Z"⟩ : MethodName) jdk_89_method_15_code 1 (some .boolean) :: ws) ({ frames := 0, cells := 0, slots := 0, locals := 0 } : Room)) (fun a U => a = #[(.int p1)] ∧ Z.Warmed39 U.vm ∧ U.heap = h0) (fun _ _ _ _ _ => True) (fun _ U o U' => ∃ v L, o = .returned v ∧ Q_rmLs Z p1 h0 n0 v U'.heap L ∧ FrameEnd U o U' L ({ frames := 0, cells := 0, slots := 0, locals := 0 } : Room).cells ({ frames := 0, cells := 0, slots := 0, locals := 0 } : Room).slots) := by
  refine MetFree.of_bodySF (plainFor_of_name pn_java_lang_Character) hisR ?_
  intro p e s m args below meth c s₁ Bd hml0 hP hK
  obtain ⟨rfl, hZ, hh⟩ := hP
  have hx := Bd.exec
  have hby := Bd.bytes
  have hml : c.maxLocals = 1 := hml0
  have hown : s.vm.findClass "java/lang/Character" = some m.cls := findClass_of_methodNamed Bd.named
  have hnm := (name_of_methodNamed Bd.named Bd.method).1
  have X0 : Stand p l e ({ frames := 0, cells := 0, slots := 0, locals := 0 } : Room) s m #[(.int p1)] below meth c s₁ [] 0 0 := Stand.of_body Bd
  have e0 : s₁.heap = h0 := by rw [← hh, Bd.state]; rfl
  have N0 := Fr.nil n0
  have go0 : Goes p e below s₁ (G_rmLs m p1) s₁ (mkF m 0 #[vI p1] []) := fun tq kq => castTop (by first | (simp [entryFrame, mkF, argsToLocals, Value.category, vI, vJ, vR, vD, vN, uN, sD, G_rmLs]; done) | rfl) kq
  have go404 : Goes p e below s₁ (G_rmLs m p1) s₁ (mkF m 3 #[vI p1] [(.int (56320 : Int32)), (.int p1)]) := fun tq kq => go0 tq (by
    show Sx p e below s₁ (mkF m 0 #[vI p1] []) _
    refine XS.iloadN X0.here hx rfl (hb hby d34_0) rfl ?_
    refine X0.ldcInt hx hown (mvT hZ (tw137 hw)) (g := (mkF m 1 #[vI p1] [(.int p1)])) rfl (hb hby d34_1) _ ?_
    exact kq)
  by_cases hc3_405 : p1 < (56320 : Int32)
  · have go406 : Goes p e below s₁ (G_rmLs m p1) s₁ (mkF m 17 #[vI p1] [(.int (0 : Int32))]) := fun tq kq => go404 tq (by
      show Sx p e below s₁ (mkF m 3 #[vI p1] [(.int (56320 : Int32)), (.int p1)]) _
      refine XS.icmpYes X0.here hx rfl (pc0 := 3) (pc' := 16) rfl (hb hby d34_3) rfl (tlt hc3_405).1 (by decide) (by decide) ?_
      refine XS.iconst X0.here hx rfl (hb hby d34_16) ?_
      exact kq)
    obtain ⟨fs, hr, hrun, hended, hW, hsame⟩ := X0.leave (v := some (.int (0 : Int32))) (fun h => by rw [Bd.returns] at h; cases h)
    refine ⟨_, _, go406 _ ?_, hrun, hended, _, _, rfl, ?_, ⟨_, rfl⟩, hW, hsame.mono (by decide) (by decide)⟩
    · exact retN X0 hx (t := .boolean) Bd.returns (by simp) (hb hby d34_17) hr
    · show Q_rmLs Z p1 h0 n0 _ s₁.heap _
      rw [e0]
      exact ⟨congrArg (fun z => some (Value.int z)) (Eq.symm (show (lsv p1) = (0 : Int32) from (if_pos hc3_405))), N0, rfl⟩
  · have go407 : Goes p e below s₁ (G_rmLs m p1) s₁ (mkF m 9 #[vI p1] [(.int (57344 : Int32)), (.int p1)]) := fun tq kq => go404 tq (by
      show Sx p e below s₁ (mkF m 3 #[vI p1] [(.int (56320 : Int32)), (.int p1)]) _
      refine XS.icmpNo X0.here hx rfl (hb hby d34_3) rfl (flt hc3_405).1 ?_
      refine XS.iloadN X0.here hx rfl (hb hby d34_6) rfl ?_
      show Sx p e below s₁ (mkF m 7 #[vI p1] [(.int p1)]) _
      refine X0.ldcInt hx hown (mvT hZ (tw145 hw)) (g := (mkF m 7 #[vI p1] [(.int p1)])) rfl (hb hby d34_7) _ ?_
      exact kq)
    by_cases hc9_408 : p1 < (57344 : Int32)
    · have go410 : Goes p e below s₁ (G_rmLs m p1) s₁ (mkF m 17 #[vI p1] [(.int (1 : Int32))]) := fun tq kq => go407 tq (by
        show Sx p e below s₁ (mkF m 9 #[vI p1] [(.int (57344 : Int32)), (.int p1)]) _
        refine XS.icmpNo X0.here hx rfl (hb hby d34_9) rfl (tlt hc9_408).2.1 ?_
        show Sx p e below s₁ (mkF m 12 #[vI p1] []) _
        refine XS.iconst X0.here hx rfl (hb hby d34_12) ?_
        refine XS.goto X0.here hx rfl (pc0 := 13) (pc' := 17) rfl (hb hby d34_13) (by decide) (by decide) ?_
        exact kq)
      obtain ⟨fs, hr, hrun, hended, hW, hsame⟩ := X0.leave (v := some (.int (1 : Int32))) (fun h => by rw [Bd.returns] at h; cases h)
      refine ⟨_, _, go410 _ ?_, hrun, hended, _, _, rfl, ?_, ⟨_, rfl⟩, hW, hsame.mono (by decide) (by decide)⟩
      · exact retN X0 hx (t := .boolean) Bd.returns (by simp) (hb hby d34_17) hr
      · show Q_rmLs Z p1 h0 n0 _ s₁.heap _
        rw [e0]
        exact ⟨congrArg (fun z => some (Value.int z)) (Eq.symm (show (lsv p1) = (1 : Int32) from ((if_neg hc3_405).trans (if_pos hc9_408)))), N0, rfl⟩
    · have go409 : Goes p e below s₁ (G_rmLs m p1) s₁ (mkF m 17 #[vI p1] [(.int (0 : Int32))]) := fun tq kq => go407 tq (by
        show Sx p e below s₁ (mkF m 9 #[vI p1] [(.int (57344 : Int32)), (.int p1)]) _
        refine XS.icmpYes X0.here hx rfl (pc0 := 9) (pc' := 16) rfl (hb hby d34_9) rfl (flt hc9_408).2.1 (by decide) (by decide) ?_
        show Sx p e below s₁ (mkF m 16 #[vI p1] []) _
        refine XS.iconst X0.here hx rfl (hb hby d34_16) ?_
        exact kq)
      obtain ⟨fs, hr, hrun, hended, hW, hsame⟩ := X0.leave (v := some (.int (0 : Int32))) (fun h => by rw [Bd.returns] at h; cases h)
      refine ⟨_, _, go409 _ ?_, hrun, hended, _, _, rfl, ?_, ⟨_, rfl⟩, hW, hsame.mono (by decide) (by decide)⟩
      · exact retN X0 hx (t := .boolean) Bd.returns (by simp) (hb hby d34_17) hr
      · show Q_rmLs Z p1 h0 n0 _ s₁.heap _
        rw [e0]
        exact ⟨congrArg (fun z => some (Value.int z)) (Eq.symm (show (lsv p1) = (0 : Int32) from ((if_neg hc3_405).trans (if_neg hc9_408)))), N0, rfl⟩
def tcv (p1 : Int32) (p2 : Int32) : Int32 := (((p1 <<< ((10 : Int32) &&& 31)) + p2) + (-56613888 : Int32))
abbrev G_rmTc (m : MethodId) (p1 : Int32) (p2 : Int32) : JFrame := (entryFrame m #[(.int p1), (.int p2)] 2)
theorem d35_0 : decode jdk_89_method_19_code 0 = .ok (.iload_n 0, 1) := by decide +kernel
theorem d35_1 : decode jdk_89_method_19_code 1 = .ok (.bipush 10, 2) := by decide +kernel
theorem d35_3 : decode jdk_89_method_19_code 3 = .ok (.ishl, 1) := by decide +kernel
theorem d35_4 : decode jdk_89_method_19_code 4 = .ok (.iload_n 1, 1) := by decide +kernel
theorem d35_5 : decode jdk_89_method_19_code 5 = .ok (.iadd, 1) := by decide +kernel
theorem d35_6 : decode jdk_89_method_19_code 6 = .ok (.ldc 85, 2) := by decide +kernel
theorem d35_8 : decode jdk_89_method_19_code 8 = .ok (.iadd, 1) := by decide +kernel
theorem d35_9 : decode jdk_89_method_19_code 9 = .ok (.ireturn, 1) := by decide +kernel
def Q_rmTc (Z : State) (p1 : Int32) (p2 : Int32)  (h0 : Heap) (n0 : Nat) (v : Option Value) (h : Heap) (L : List Loc) : Prop := v = some (.int (tcv p1 p2)) ∧ Fr n0 L ∧ h = h0
set_option maxRecDepth 65536 in
set_option maxHeartbeats 40000000 in
theorem rmTc (l : Launch) (Z : State) (a0 : Array Value) (hw : ∀ d ∈ tables_1, d.before a0 Z = true) (ws : List Jvm.Cond) (p1 : Int32) (p2 : Int32)  (h0 : Heap) (n0 : Nat) (Z0 : n0 ≤ h0.size)  :
    MetFree l (⟨"java/lang/Character", "toCodePoint", "(CC)I"⟩ : MethodName) (head1 (Jvm.Cond.code (⟨"java/lang/Character", "toCodePoint", "(CC)I"⟩ : MethodName) jdk_89_method_19_code 2 (some .int) :: ws) ({ frames := 0, cells := 0, slots := 0, locals := 0 } : Room)) (fun a U => a = #[(.int p1), (.int p2)] ∧ Z.Warmed39 U.vm ∧ U.heap = h0) (fun _ _ _ _ _ => True) (fun _ U o U' => ∃ v L, o = .returned v ∧ Q_rmTc Z p1 p2 h0 n0 v U'.heap L ∧ FrameEnd U o U' L ({ frames := 0, cells := 0, slots := 0, locals := 0 } : Room).cells ({ frames := 0, cells := 0, slots := 0, locals := 0 } : Room).slots) := by
  refine MetFree.of_bodySF (plainFor_of_name pn_java_lang_Character) hisR ?_
  intro p e s m args below meth c s₁ Bd hml0 hP hK
  obtain ⟨rfl, hZ, hh⟩ := hP
  have hx := Bd.exec
  have hby := Bd.bytes
  have hml : c.maxLocals = 2 := hml0
  have hown : s.vm.findClass "java/lang/Character" = some m.cls := findClass_of_methodNamed Bd.named
  have hnm := (name_of_methodNamed Bd.named Bd.method).1
  have X0 : Stand p l e ({ frames := 0, cells := 0, slots := 0, locals := 0 } : Room) s m #[(.int p1), (.int p2)] below meth c s₁ [] 0 0 := Stand.of_body Bd
  have e0 : s₁.heap = h0 := by rw [← hh, Bd.state]; rfl
  have N0 := Fr.nil n0
  have go0 : Goes p e below s₁ (G_rmTc m p1 p2) s₁ (mkF m 0 #[vI p1, vI p2] []) := fun tq kq => castTop (by first | (simp [entryFrame, mkF, argsToLocals, Value.category, vI, vJ, vR, vD, vN, uN, sD, G_rmTc]; done) | rfl) kq
  have go411 : Goes p e below s₁ (G_rmTc m p1 p2) s₁ (mkF m 9 #[vI p1, vI p2] [(.int (((p1 <<< ((10 : Int32) &&& 31)) + p2) + (-56613888 : Int32)))]) := fun tq kq => go0 tq (by
    show Sx p e below s₁ (mkF m 0 #[vI p1, vI p2] []) _
    refine XS.iloadN X0.here hx rfl (hb hby d35_0) rfl ?_
    refine XS.bipush X0.here hx rfl (hb hby d35_1) ?_
    show Sx p e below s₁ (mkF m 3 #[vI p1, vI p2] [(.int (10 : Int32)), (.int p1)]) _
    refine XS.ishl X0.here hx rfl (hb hby d35_3) rfl ?_
    refine XS.iloadN X0.here hx rfl (hb hby d35_4) rfl ?_
    show Sx p e below s₁ (mkF m 5 #[vI p1, vI p2] [(.int p2), (.int (p1 <<< ((10 : Int32) &&& 31)))]) _
    refine XS.iadd X0.here hx rfl (hb hby d35_5) rfl ?_
    refine X0.ldcInt hx hown (mvT hZ (tw149 hw)) (g := (mkF m 6 #[vI p1, vI p2] [(.int ((p1 <<< ((10 : Int32) &&& 31)) + p2))])) rfl (hb hby d35_6) _ ?_
    show Sx p e below s₁ (mkF m 8 #[vI p1, vI p2] [(.int (-56613888 : Int32)), (.int ((p1 <<< ((10 : Int32) &&& 31)) + p2))]) _
    refine XS.iadd X0.here hx rfl (hb hby d35_8) rfl ?_
    exact kq)
  obtain ⟨fs, hr, hrun, hended, hW, hsame⟩ := X0.leave (v := some (.int (((p1 <<< ((10 : Int32) &&& 31)) + p2) + (-56613888 : Int32)))) (fun h => by rw [Bd.returns] at h; cases h)
  refine ⟨_, _, go411 _ ?_, hrun, hended, _, _, rfl, ?_, ⟨_, rfl⟩, hW, hsame.mono (by decide) (by decide)⟩
  · exact retI X0 hx Bd.returns (hb hby d35_9) hr
  · show Q_rmTc Z p1 p2 h0 n0 _ s₁.heap _
    rw [e0]
    exact ⟨rfl, N0, rfl⟩
def ccv (p1 : Int32) : Int32 := (if p1 < (65536 : Int32) then (1 : Int32) else (2 : Int32))
abbrev G_rmCc (m : MethodId) (p1 : Int32) : JFrame := (entryFrame m #[(.int p1)] 1)
theorem d32_0 : decode jdk_89_method_18_code 0 = .ok (.iload_n 0, 1) := by decide +kernel
theorem d32_1 : decode jdk_89_method_18_code 1 = .ok (.ldc 73, 2) := by decide +kernel
theorem d32_3 : decode jdk_89_method_18_code 3 = .ok (.if_icmp .lt 7, 3) := by decide +kernel
theorem d32_10 : decode jdk_89_method_18_code 10 = .ok (.iconst 1, 1) := by decide +kernel
theorem d32_11 : decode jdk_89_method_18_code 11 = .ok (.ireturn, 1) := by decide +kernel
theorem d32_6 : decode jdk_89_method_18_code 6 = .ok (.iconst 2, 1) := by decide +kernel
theorem d32_7 : decode jdk_89_method_18_code 7 = .ok (.goto 4, 3) := by decide +kernel
def Q_rmCc (Z : State) (p1 : Int32)  (h0 : Heap) (n0 : Nat) (v : Option Value) (h : Heap) (L : List Loc) : Prop := v = some (.int (ccv p1)) ∧ Fr n0 L ∧ h = h0
set_option maxRecDepth 65536 in
set_option maxHeartbeats 40000000 in
theorem rmCc (l : Launch) (Z : State) (a0 : Array Value) (hw : ∀ d ∈ tables_1, d.before a0 Z = true) (ws : List Jvm.Cond) (p1 : Int32)  (h0 : Heap) (n0 : Nat) (Z0 : n0 ≤ h0.size)  :
    MetFree l (⟨"java/lang/Character", "charCount", "(I)I"⟩ : MethodName) (head1 (Jvm.Cond.code (⟨"java/lang/Character", "charCount", "(I)I"⟩ : MethodName) jdk_89_method_18_code 1 (some .int) :: ws) ({ frames := 0, cells := 0, slots := 0, locals := 0 } : Room)) (fun a U => a = #[(.int p1)] ∧ Z.Warmed39 U.vm ∧ U.heap = h0) (fun _ _ _ _ _ => True) (fun _ U o U' => ∃ v L, o = .returned v ∧ Q_rmCc Z p1 h0 n0 v U'.heap L ∧ FrameEnd U o U' L ({ frames := 0, cells := 0, slots := 0, locals := 0 } : Room).cells ({ frames := 0, cells := 0, slots := 0, locals := 0 } : Room).slots) := by
  refine MetFree.of_bodySF (plainFor_of_name pn_java_lang_Character) hisR ?_
  intro p e s m args below meth c s₁ Bd hml0 hP hK
  obtain ⟨rfl, hZ, hh⟩ := hP
  have hx := Bd.exec
  have hby := Bd.bytes
  have hml : c.maxLocals = 1 := hml0
  have hown : s.vm.findClass "java/lang/Character" = some m.cls := findClass_of_methodNamed Bd.named
  have hnm := (name_of_methodNamed Bd.named Bd.method).1
  have X0 : Stand p l e ({ frames := 0, cells := 0, slots := 0, locals := 0 } : Room) s m #[(.int p1)] below meth c s₁ [] 0 0 := Stand.of_body Bd
  have e0 : s₁.heap = h0 := by rw [← hh, Bd.state]; rfl
  have N0 := Fr.nil n0
  have go0 : Goes p e below s₁ (G_rmCc m p1) s₁ (mkF m 0 #[vI p1] []) := fun tq kq => castTop (by first | (simp [entryFrame, mkF, argsToLocals, Value.category, vI, vJ, vR, vD, vN, uN, sD, G_rmCc]; done) | rfl) kq
  have go412 : Goes p e below s₁ (G_rmCc m p1) s₁ (mkF m 3 #[vI p1] [(.int (65536 : Int32)), (.int p1)]) := fun tq kq => go0 tq (by
    show Sx p e below s₁ (mkF m 0 #[vI p1] []) _
    refine XS.iloadN X0.here hx rfl (hb hby d32_0) rfl ?_
    refine X0.ldcInt hx hown (mvT hZ (tw136 hw)) (g := (mkF m 1 #[vI p1] [(.int p1)])) rfl (hb hby d32_1) _ ?_
    exact kq)
  by_cases hc3_413 : p1 < (65536 : Int32)
  · have go414 : Goes p e below s₁ (G_rmCc m p1) s₁ (mkF m 11 #[vI p1] [(.int (1 : Int32))]) := fun tq kq => go412 tq (by
      show Sx p e below s₁ (mkF m 3 #[vI p1] [(.int (65536 : Int32)), (.int p1)]) _
      refine XS.icmpYes X0.here hx rfl (pc0 := 3) (pc' := 10) rfl (hb hby d32_3) rfl (tlt hc3_413).1 (by decide) (by decide) ?_
      refine XS.iconst X0.here hx rfl (hb hby d32_10) ?_
      exact kq)
    obtain ⟨fs, hr, hrun, hended, hW, hsame⟩ := X0.leave (v := some (.int (1 : Int32))) (fun h => by rw [Bd.returns] at h; cases h)
    refine ⟨_, _, go414 _ ?_, hrun, hended, _, _, rfl, ?_, ⟨_, rfl⟩, hW, hsame.mono (by decide) (by decide)⟩
    · exact retI X0 hx Bd.returns (hb hby d32_11) hr
    · show Q_rmCc Z p1 h0 n0 _ s₁.heap _
      rw [e0]
      exact ⟨congrArg (fun z => some (Value.int z)) (Eq.symm (show (ccv p1) = (1 : Int32) from (if_pos hc3_413))), N0, rfl⟩
  · have go415 : Goes p e below s₁ (G_rmCc m p1) s₁ (mkF m 11 #[vI p1] [(.int (2 : Int32))]) := fun tq kq => go412 tq (by
      show Sx p e below s₁ (mkF m 3 #[vI p1] [(.int (65536 : Int32)), (.int p1)]) _
      refine XS.icmpNo X0.here hx rfl (hb hby d32_3) rfl (flt hc3_413).1 ?_
      refine XS.iconst X0.here hx rfl (hb hby d32_6) ?_
      show Sx p e below s₁ (mkF m 7 #[vI p1] [(.int (2 : Int32))]) _
      refine XS.goto X0.here hx rfl (pc0 := 7) (pc' := 11) rfl (hb hby d32_7) (by decide) (by decide) ?_
      exact kq)
    obtain ⟨fs, hr, hrun, hended, hW, hsame⟩ := X0.leave (v := some (.int (2 : Int32))) (fun h => by rw [Bd.returns] at h; cases h)
    refine ⟨_, _, go415 _ ?_, hrun, hended, _, _, rfl, ?_, ⟨_, rfl⟩, hW, hsame.mono (by decide) (by decide)⟩
    · exact retI X0 hx Bd.returns (hb hby d32_11) hr
    · show Q_rmCc Z p1 h0 n0 _ s₁.heap _
      rw [e0]
      exact ⟨congrArg (fun z => some (Value.int z)) (Eq.symm (show (ccv p1) = (2 : Int32) from (if_neg hc3_413))), N0, rfl⟩
def icv (p1 : Int32) (p2 : Int32) : Int32 := (if p1 < p2 then (-1 : Int32) else (if p1 = p2 then (0 : Int32) else (1 : Int32)))
abbrev G_rmIc (m : MethodId) (p1 : Int32) (p2 : Int32) : JFrame := (entryFrame m #[(.int p1), (.int p2)] 2)
theorem d9_0 : decode jdk_33_method_40_code 0 = .ok (.iload_n 0, 1) := by decide +kernel
theorem d9_1 : decode jdk_33_method_40_code 1 = .ok (.iload_n 1, 1) := by decide +kernel
theorem d9_2 : decode jdk_33_method_40_code 2 = .ok (.if_icmp .ge 7, 3) := by decide +kernel
theorem d9_9 : decode jdk_33_method_40_code 9 = .ok (.iload_n 0, 1) := by decide +kernel
theorem d9_10 : decode jdk_33_method_40_code 10 = .ok (.iload_n 1, 1) := by decide +kernel
theorem d9_11 : decode jdk_33_method_40_code 11 = .ok (.if_icmp .ne 7, 3) := by decide +kernel
theorem d9_18 : decode jdk_33_method_40_code 18 = .ok (.iconst 1, 1) := by decide +kernel
theorem d9_19 : decode jdk_33_method_40_code 19 = .ok (.ireturn, 1) := by decide +kernel
theorem d9_14 : decode jdk_33_method_40_code 14 = .ok (.iconst 0, 1) := by decide +kernel
theorem d9_15 : decode jdk_33_method_40_code 15 = .ok (.goto 4, 3) := by decide +kernel
theorem d9_5 : decode jdk_33_method_40_code 5 = .ok (.iconst (-1), 1) := by decide +kernel
theorem d9_6 : decode jdk_33_method_40_code 6 = .ok (.goto 13, 3) := by decide +kernel
def Q_rmIc (Z : State) (p1 : Int32) (p2 : Int32)  (h0 : Heap) (n0 : Nat) (v : Option Value) (h : Heap) (L : List Loc) : Prop := v = some (.int (icv p1 p2)) ∧ Fr n0 L ∧ h = h0
theorem pn_java_lang_Integer : plainName "java/lang/Integer" = true := by first | (simp [plainName, overriddenIn]; done) | decide +kernel
set_option maxRecDepth 65536 in
set_option maxHeartbeats 40000000 in
theorem rmIc (l : Launch) (Z : State) (a0 : Array Value) (hw : ∀ d ∈ tables_1, d.before a0 Z = true) (ws : List Jvm.Cond) (p1 : Int32) (p2 : Int32)  (h0 : Heap) (n0 : Nat) (Z0 : n0 ≤ h0.size)  :
    MetFree l (⟨"java/lang/Integer", "compare", "(II)I"⟩ : MethodName) (head1 (Jvm.Cond.code (⟨"java/lang/Integer", "compare", "(II)I"⟩ : MethodName) jdk_33_method_40_code 2 (some .int) :: ws) ({ frames := 0, cells := 0, slots := 0, locals := 0 } : Room)) (fun a U => a = #[(.int p1), (.int p2)] ∧ Z.Warmed39 U.vm ∧ U.heap = h0) (fun _ _ _ _ _ => True) (fun _ U o U' => ∃ v L, o = .returned v ∧ Q_rmIc Z p1 p2 h0 n0 v U'.heap L ∧ FrameEnd U o U' L ({ frames := 0, cells := 0, slots := 0, locals := 0 } : Room).cells ({ frames := 0, cells := 0, slots := 0, locals := 0 } : Room).slots) := by
  refine MetFree.of_bodySF (plainFor_of_name pn_java_lang_Integer) hisR ?_
  intro p e s m args below meth c s₁ Bd hml0 hP hK
  obtain ⟨rfl, hZ, hh⟩ := hP
  have hx := Bd.exec
  have hby := Bd.bytes
  have hml : c.maxLocals = 2 := hml0
  have hown : s.vm.findClass "java/lang/Integer" = some m.cls := findClass_of_methodNamed Bd.named
  have hnm := (name_of_methodNamed Bd.named Bd.method).1
  have X0 : Stand p l e ({ frames := 0, cells := 0, slots := 0, locals := 0 } : Room) s m #[(.int p1), (.int p2)] below meth c s₁ [] 0 0 := Stand.of_body Bd
  have e0 : s₁.heap = h0 := by rw [← hh, Bd.state]; rfl
  have N0 := Fr.nil n0
  have go0 : Goes p e below s₁ (G_rmIc m p1 p2) s₁ (mkF m 0 #[vI p1, vI p2] []) := fun tq kq => castTop (by first | (simp [entryFrame, mkF, argsToLocals, Value.category, vI, vJ, vR, vD, vN, uN, sD, G_rmIc]; done) | rfl) kq
  have go416 : Goes p e below s₁ (G_rmIc m p1 p2) s₁ (mkF m 2 #[vI p1, vI p2] [(.int p2), (.int p1)]) := fun tq kq => go0 tq (by
    show Sx p e below s₁ (mkF m 0 #[vI p1, vI p2] []) _
    refine XS.iloadN X0.here hx rfl (hb hby d9_0) rfl ?_
    refine XS.iloadN X0.here hx rfl (hb hby d9_1) rfl ?_
    exact kq)
  by_cases hc2_417 : p1 < p2
  · have go422 : Goes p e below s₁ (G_rmIc m p1 p2) s₁ (mkF m 19 #[vI p1, vI p2] [(.int (-1 : Int32))]) := fun tq kq => go416 tq (by
      show Sx p e below s₁ (mkF m 2 #[vI p1, vI p2] [(.int p2), (.int p1)]) _
      refine XS.icmpNo X0.here hx rfl (hb hby d9_2) rfl (tlt hc2_417).2.1 ?_
      refine XS.iconst X0.here hx rfl (hb hby d9_5) ?_
      show Sx p e below s₁ (mkF m 6 #[vI p1, vI p2] [(.int (-1 : Int32))]) _
      refine XS.goto X0.here hx rfl (pc0 := 6) (pc' := 19) rfl (hb hby d9_6) (by decide) (by decide) ?_
      exact kq)
    obtain ⟨fs, hr, hrun, hended, hW, hsame⟩ := X0.leave (v := some (.int (-1 : Int32))) (fun h => by rw [Bd.returns] at h; cases h)
    refine ⟨_, _, go422 _ ?_, hrun, hended, _, _, rfl, ?_, ⟨_, rfl⟩, hW, hsame.mono (by decide) (by decide)⟩
    · exact retI X0 hx Bd.returns (hb hby d9_19) hr
    · show Q_rmIc Z p1 p2 h0 n0 _ s₁.heap _
      rw [e0]
      exact ⟨congrArg (fun z => some (Value.int z)) (Eq.symm (show (icv p1 p2) = (-1 : Int32) from (if_pos hc2_417))), N0, rfl⟩
  · have go418 : Goes p e below s₁ (G_rmIc m p1 p2) s₁ (mkF m 11 #[vI p1, vI p2] [(.int p2), (.int p1)]) := fun tq kq => go416 tq (by
      show Sx p e below s₁ (mkF m 2 #[vI p1, vI p2] [(.int p2), (.int p1)]) _
      refine XS.icmpYes X0.here hx rfl (pc0 := 2) (pc' := 9) rfl (hb hby d9_2) rfl (flt hc2_417).2.1 (by decide) (by decide) ?_
      refine XS.iloadN X0.here hx rfl (hb hby d9_9) rfl ?_
      show Sx p e below s₁ (mkF m 10 #[vI p1, vI p2] [(.int p1)]) _
      refine XS.iloadN X0.here hx rfl (hb hby d9_10) rfl ?_
      exact kq)
    by_cases hc11_419 : p1 = p2
    · have go421 : Goes p e below s₁ (G_rmIc m p1 p2) s₁ (mkF m 19 #[vI p1, vI p2] [(.int (0 : Int32))]) := fun tq kq => go418 tq (by
        show Sx p e below s₁ (mkF m 11 #[vI p1, vI p2] [(.int p2), (.int p1)]) _
        refine XS.icmpNo X0.here hx rfl (hb hby d9_11) rfl (teq hc11_419).2 ?_
        show Sx p e below s₁ (mkF m 14 #[vI p1, vI p2] []) _
        refine XS.iconst X0.here hx rfl (hb hby d9_14) ?_
        refine XS.goto X0.here hx rfl (pc0 := 15) (pc' := 19) rfl (hb hby d9_15) (by decide) (by decide) ?_
        exact kq)
      obtain ⟨fs, hr, hrun, hended, hW, hsame⟩ := X0.leave (v := some (.int (0 : Int32))) (fun h => by rw [Bd.returns] at h; cases h)
      refine ⟨_, _, go421 _ ?_, hrun, hended, _, _, rfl, ?_, ⟨_, rfl⟩, hW, hsame.mono (by decide) (by decide)⟩
      · exact retI X0 hx Bd.returns (hb hby d9_19) hr
      · show Q_rmIc Z p1 p2 h0 n0 _ s₁.heap _
        rw [e0]
        exact ⟨congrArg (fun z => some (Value.int z)) (Eq.symm (show (icv p1 p2) = (0 : Int32) from ((if_neg hc2_417).trans (if_pos hc11_419)))), N0, rfl⟩
    · have go420 : Goes p e below s₁ (G_rmIc m p1 p2) s₁ (mkF m 19 #[vI p1, vI p2] [(.int (1 : Int32))]) := fun tq kq => go418 tq (by
        show Sx p e below s₁ (mkF m 11 #[vI p1, vI p2] [(.int p2), (.int p1)]) _
        refine XS.icmpYes X0.here hx rfl (pc0 := 11) (pc' := 18) rfl (hb hby d9_11) rfl (feq hc11_419).2 (by decide) (by decide) ?_
        show Sx p e below s₁ (mkF m 18 #[vI p1, vI p2] []) _
        refine XS.iconst X0.here hx rfl (hb hby d9_18) ?_
        exact kq)
      obtain ⟨fs, hr, hrun, hended, hW, hsame⟩ := X0.leave (v := some (.int (1 : Int32))) (fun h => by rw [Bd.returns] at h; cases h)
      refine ⟨_, _, go420 _ ?_, hrun, hended, _, _, rfl, ?_, ⟨_, rfl⟩, hW, hsame.mono (by decide) (by decide)⟩
      · exact retI X0 hx Bd.returns (hb hby d9_19) hr
      · show Q_rmIc Z p1 p2 h0 n0 _ s₁.heap _
        rw [e0]
        exact ⟨congrArg (fun z => some (Value.int z)) (Eq.symm (show (icv p1 p2) = (1 : Int32) from ((if_neg hc2_417).trans (if_neg hc11_419)))), N0, rfl⟩
def cpv (cs : List Int32) (k : Nat) : Int32 := if hsv (cs.getD k 0) = 0 then cs.getD k 0 else if k + 1 < cs.length then (if lsv (cs.getD (k + 1) 0) = 0 then cs.getD k 0 else tcv (cs.getD k 0) (cs.getD (k + 1) 0)) else cs.getD k 0
theorem own_hs0 {c : Int32} (h : ¬ (255 : Int32) < c) : hsv c = 0 := by
  have q : c < (55296 : Int32) := by
    have e : (255 : Int32).toInt = 255 := by decide
    have e2 : (55296 : Int32).toInt = 55296 := by decide
    rw [Int32.lt_iff_toInt_lt, e] at h
    rw [Int32.lt_iff_toInt_lt, e2]; omega
  unfold hsv
  first | (rw [if_pos q]; done) | (simp only [q, if_true]; done) | simp [q]
theorem d30_0 : decode jdk_52_method_7_code 0 = .ok (.getstatic 44, 3) := by decide +kernel
theorem d30_3 : decode jdk_52_method_7_code 3 = .ok (.ifCond .ne 16, 3) := by decide +kernel
theorem d30_19 : decode jdk_52_method_7_code 19 = .ok (.iload_n 3, 1) := by decide +kernel
theorem d30_20 : decode jdk_52_method_7_code 20 = .ok (.ifCond .eq 8, 3) := by decide +kernel
theorem d30_28 : decode jdk_52_method_7_code 28 = .ok (.aload_n 0, 1) := by decide +kernel
theorem d30_29 : decode jdk_52_method_7_code 29 = .ok (.iload_n 1, 1) := by decide +kernel
theorem d30_30 : decode jdk_52_method_7_code 30 = .ok (.invokestatic 71, 3) := by decide +kernel
theorem d30_33 : decode jdk_52_method_7_code 33 = .ok (.istore 4, 2) := by decide +kernel
theorem d30_35 : decode jdk_52_method_7_code 35 = .ok (.iload 4, 2) := by decide +kernel
theorem d30_37 : decode jdk_52_method_7_code 37 = .ok (.invokestatic 75, 3) := by decide +kernel
theorem pd_10 : parseMethodDescriptor "(C)Z" = some ⟨[.char], some .boolean⟩ := by decide +kernel
theorem d30_40 : decode jdk_52_method_7_code 40 = .ok (.ifCond .eq 43, 3) := by decide +kernel
theorem d30_83 : decode jdk_52_method_7_code 83 = .ok (.iload 4, 2) := by decide +kernel
theorem d30_85 : decode jdk_52_method_7_code 85 = .ok (.ireturn, 1) := by decide +kernel
theorem d30_43 : decode jdk_52_method_7_code 43 = .ok (.iinc 1 1, 3) := by decide +kernel
theorem d30_46 : decode jdk_52_method_7_code 46 = .ok (.iload_n 1, 1) := by decide +kernel
theorem d30_47 : decode jdk_52_method_7_code 47 = .ok (.iload_n 2, 1) := by decide +kernel
theorem d30_48 : decode jdk_52_method_7_code 48 = .ok (.if_icmp .ge 35, 3) := by decide +kernel
theorem d30_51 : decode jdk_52_method_7_code 51 = .ok (.iload_n 3, 1) := by decide +kernel
theorem d30_52 : decode jdk_52_method_7_code 52 = .ok (.ifCond .eq 8, 3) := by decide +kernel
theorem d30_60 : decode jdk_52_method_7_code 60 = .ok (.aload_n 0, 1) := by decide +kernel
theorem d30_61 : decode jdk_52_method_7_code 61 = .ok (.iload_n 1, 1) := by decide +kernel
theorem d30_62 : decode jdk_52_method_7_code 62 = .ok (.invokestatic 71, 3) := by decide +kernel
theorem d30_65 : decode jdk_52_method_7_code 65 = .ok (.istore 5, 2) := by decide +kernel
theorem d30_67 : decode jdk_52_method_7_code 67 = .ok (.iload 5, 2) := by decide +kernel
theorem d30_69 : decode jdk_52_method_7_code 69 = .ok (.invokestatic 81, 3) := by decide +kernel
theorem d30_72 : decode jdk_52_method_7_code 72 = .ok (.ifCond .eq 11, 3) := by decide +kernel
theorem d30_75 : decode jdk_52_method_7_code 75 = .ok (.iload 4, 2) := by decide +kernel
theorem d30_77 : decode jdk_52_method_7_code 77 = .ok (.iload 5, 2) := by decide +kernel
theorem d30_79 : decode jdk_52_method_7_code 79 = .ok (.invokestatic 84, 3) := by decide +kernel
theorem pd_11 : parseMethodDescriptor "(CC)I" = some ⟨[.char, .char], some .int⟩ := by decide +kernel
theorem d30_82 : decode jdk_52_method_7_code 82 = .ok (.ireturn, 1) := by decide +kernel
def Q_u7 (Z : State) (a1 : Addr) (k : Nat) (cs : List Int32) (kB : ClassId) (h0 : Heap) (n0 : Nat) (v : Option Value) (h : Heap) (L : List Loc) : Prop := v = some (.int (cpv cs k)) ∧ Fr n0 L ∧ h = h0
set_option maxRecDepth 65536 in
set_option maxHeartbeats 40000000 in
theorem u7 (l : Launch) (Z : State) (a0 : Array Value) (hw : ∀ d ∈ tables_1, d.before a0 Z = true) (ws : List Jvm.Cond) (a1 : Addr) (k : Nat) (cs : List Int32) (kB : ClassId) (h0 : Heap) (n0 : Nat) (Z0 : n0 ≤ h0.size) (O0 : Old Z n0 h0) (AD : Sta Z Z.heap "java/lang/StringUTF16" "$assertionsDisabled" "Z" (.int (1 : Int32))) (HI : Sta Z Z.heap "java/lang/StringUTF16" "HI_BYTE_SHIFT" "I" (.int (0 : Int32))) (LO : Sta Z Z.heap "java/lang/StringUTF16" "LO_BYTE_SHIFT" "I" (.int (8 : Int32))) (VA : Arv Z h0 a1 kB .byte (Int32.ofNat (2 * cs.length)) (StrChars.Road.wideBytes cs) (.int (0 : Int32))) (hk : k < cs.length) (hl : cs.length ≤ 3) (hcs : ∀ c ∈ cs, C16 c) :
    MetFree l (⟨"java/lang/StringUTF16", "codePointAt", "([BIIZ)I"⟩ : MethodName) (head1 (Jvm.Cond.code (⟨"java/lang/StringUTF16", "codePointAt", "([BIIZ)I"⟩ : MethodName) jdk_52_method_7_code 6 (some .int) :: ws) ({ frames := 1, cells := 0, slots := 0, locals := 13 } : Room)) (fun a U => a = #[(.ref a1), (.int (Int32.ofNat k)), (.int (Int32.ofNat cs.length)), (.int (0 : Int32))] ∧ Z.Warmed39 U.vm ∧ U.heap = h0) (fun _ _ _ _ _ => True) (fun _ U o U' => ∃ v L, o = .returned v ∧ Q_u7 Z a1 k cs kB h0 n0 v U'.heap L ∧ FrameEnd U o U' L ({ frames := 1, cells := 0, slots := 0, locals := 13 } : Room).cells ({ frames := 1, cells := 0, slots := 0, locals := 13 } : Room).slots) := by
  refine MetFree.of_bodySF (plainFor_of_name pn_java_lang_StringUTF16) hisR ?_
  intro p e s m args below meth c s₁ Bd hml0 hP hK
  obtain ⟨rfl, hZ, hh⟩ := hP
  have hx := Bd.exec
  have hby := Bd.bytes
  have hml : c.maxLocals = 6 := hml0
  have hown : s.vm.findClass "java/lang/StringUTF16" = some m.cls := findClass_of_methodNamed Bd.named
  have hnm := (name_of_methodNamed Bd.named Bd.method).1
  have X0 : Stand p l e ({ frames := 1, cells := 0, slots := 0, locals := 13 } : Room) s m #[(.ref a1), (.int (Int32.ofNat k)), (.int (Int32.ofNat cs.length)), (.int (0 : Int32))] below meth c s₁ [] 0 0 := Stand.of_body Bd
  have e0 : s₁.heap = h0 := by rw [← hh, Bd.state]; rfl
  have N0 := Fr.nil n0
  have go0 : Goes p e below s₁ (entryFrame m #[(.ref a1), (.int (Int32.ofNat k)), (.int (Int32.ofNat cs.length)), (.int (0 : Int32))] 6) s₁ (mkF m 0 #[vR a1, vI (Int32.ofNat k), vI (Int32.ofNat cs.length), vI (0 : Int32), uN, uN] []) := fun tq kq => castTop (by first | (simp [entryFrame, mkF, argsToLocals, Value.category, vI, vJ, vR, vD, vN, uN, sD]; done) | rfl) kq
  obtain ⟨T423, X423, e423, st423⟩ := getS2 X0 hx hZ hown (host := "") (Or.inl (tw88 hw)) Via.refl e0 (AD.ext O0.2) (g := (mkF m 0 #[vR a1, vI (Int32.ofNat k), vI (Int32.ofNat cs.length), vI (0 : Int32), uN, uN] [])) rfl (hb hby d30_0)
  have go423 : Goes p e below s₁ (entryFrame m #[(.ref a1), (.int (Int32.ofNat k)), (.int (Int32.ofNat cs.length)), (.int (0 : Int32))] 6) T423 (mkF m 3 #[vR a1, vI (Int32.ofNat k), vI (Int32.ofNat cs.length), vI (0 : Int32), uN, uN] [(.int (1 : Int32))]) := fun tq kq => go0 tq (st423 _ kq)
  have go424 : Goes p e below s₁ (entryFrame m #[(.ref a1), (.int (Int32.ofNat k)), (.int (Int32.ofNat cs.length)), (.int (0 : Int32))] 6) T423 (mkF m 20 #[vR a1, vI (Int32.ofNat k), vI (Int32.ofNat cs.length), vI (0 : Int32), uN, uN] [(.int (0 : Int32))]) := fun tq kq => go423 tq (by
    show Sx p e below T423 (mkF m 3 #[vR a1, vI (Int32.ofNat k), vI (Int32.ofNat cs.length), vI (0 : Int32), uN, uN] [(.int (1 : Int32))]) _
    refine XS.ifYes X423.here hx rfl (pc0 := 3) (pc' := 19) rfl (hb hby d30_3) rfl ((if0 _ _).trans (feq (by decide)).2) (by decide) (by decide) ?_
    refine XS.iloadN X423.here hx rfl (hb hby d30_19) rfl ?_
    exact kq)
  have go425 : Goes p e below s₁ (entryFrame m #[(.ref a1), (.int (Int32.ofNat k)), (.int (Int32.ofNat cs.length)), (.int (0 : Int32))] 6) T423 (mkF m 30 #[vR a1, vI (Int32.ofNat k), vI (Int32.ofNat cs.length), vI (0 : Int32), uN, uN] [(.int (Int32.ofNat k)), (.ref a1)]) := fun tq kq => go424 tq (by
    show Sx p e below T423 (mkF m 20 #[vR a1, vI (Int32.ofNat k), vI (Int32.ofNat cs.length), vI (0 : Int32), uN, uN] [(.int (0 : Int32))]) _
    refine XS.ifYes X423.here hx rfl (pc0 := 20) (pc' := 28) rfl (hb hby d30_20) rfl ((if0 _ _).trans (teq (by decide)).1) (by decide) (by decide) ?_
    refine XS.aloadN X423.here hx rfl (hb hby d30_28) rfl rfl ?_
    show Sx p e below T423 (mkF m 29 #[vR a1, vI (Int32.ofNat k), vI (Int32.ofNat cs.length), vI (0 : Int32), uN, uN] [(.ref a1)]) _
    refine XS.iloadN X423.here hx rfl (hb hby d30_29) rfl ?_
    exact kq)
  obtain ⟨vv426, _, ⟨T426, L426, k426, n426⟩, -, X426, ⟨Lc426, hQ426, l426, y426, z426⟩, st426⟩ := Jvm.LawKit.callS X423 hx (y := (⟨"java/lang/StringUTF16", "getChar", "([BI)C"⟩ : MethodName)) hown (mvT hZ (tw91 hw)) (mvT hZ (tw92 hw)) (mvT hZ (tw70 hw)) (mvT hZ (tw93 hw)) (by decide) (backOf (W := 0) (gC l Z a0 hw [] a1 k cs.length (cs.getD k 0) kB (StrChars.Road.wideBytes cs) h0 n0 Z0 O0 AD HI LO VA hk hl (StrChars.Road.wide_lo _ cs k hk) (StrChars.Road.wide_hi _ cs k hk) (own_at hcs hk)) hZ (tw93 hw) (tw70 hw) (by decide) (by decide)) (g := (mkF m 30 #[vR a1, vI (Int32.ofNat k), vI (Int32.ofNat cs.length), vI (0 : Int32), uN, uN] [(.int (Int32.ofNat k)), (.ref a1)])) rfl (by rw [hml]; rfl) (argsL := [(.ref a1), (.int (Int32.ofNat k))]) (rest := []) (lenOf pd_5 rfl) rfl (by show 2 * 0 + _ ≤ _; exact Nat.le_of_eq rfl) (hb hby d30_30) (fun _ _ => ⟨rfl, e423, (by decide : 0 + 0 ≤ _), (by decide : 0 + 0 ≤ _)⟩)
  dsimp only [Pt.U, Pt.locs, Pt.cells, Pt.slots] at X426 l426 y426 z426 st426 hQ426
  subst l426 y426 z426
  obtain ⟨rfl, Nq426, eq426⟩ := hQ426
  have N426 := Fr.app N0 Nq426
  have go426 : Goes p e below s₁ (entryFrame m #[(.ref a1), (.int (Int32.ofNat k)), (.int (Int32.ofNat cs.length)), (.int (0 : Int32))] 6) T426 (mkF m 33 #[vR a1, vI (Int32.ofNat k), vI (Int32.ofNat cs.length), vI (0 : Int32), uN, uN] [(.int (cs.getD k 0))]) := fun tq kq => go425 tq (st426 _ kq)
  have go427 : Goes p e below s₁ (entryFrame m #[(.ref a1), (.int (Int32.ofNat k)), (.int (Int32.ofNat cs.length)), (.int (0 : Int32))] 6) T426 (mkF m 37 #[vR a1, vI (Int32.ofNat k), vI (Int32.ofNat cs.length), vI (0 : Int32), vI (cs.getD k 0), uN] [(.int (cs.getD k 0))]) := fun tq kq => go426 tq (by
    show Sx p e below T426 (mkF m 33 #[vR a1, vI (Int32.ofNat k), vI (Int32.ofNat cs.length), vI (0 : Int32), uN, uN] [(.int (cs.getD k 0))]) _
    refine XS.istore X426.here hx rfl (hb hby d30_33) rfl (l' := #[vR a1, vI (Int32.ofNat k), vI (Int32.ofNat cs.length), vI (0 : Int32), vI (cs.getD k 0), uN]) rfl ?_
    show Sx p e below T426 (mkF m 35 #[vR a1, vI (Int32.ofNat k), vI (Int32.ofNat cs.length), vI (0 : Int32), vI (cs.getD k 0), uN] []) _
    refine XS.iload X426.here hx rfl (hb hby d30_35) rfl ?_
    exact kq)
  obtain ⟨vv428, _, ⟨T428, L428, k428, n428⟩, -, X428, ⟨Lc428, hQ428, l428, y428, z428⟩, st428⟩ := Jvm.LawKit.callS X426 hx (y := (⟨"java/lang/Character", "isHighSurrogate", "(C)Z"⟩ : MethodName)) hown (mvT hZ (tw128 hw)) (mvT hZ (tw129 hw)) (mvT hZ (tw130 hw)) (mvT hZ (tw131 hw)) (by decide) (backOf (W := 0) (rmHs l Z a0 hw [] (cs.getD k 0)  h0 n0 Z0 ) hZ (tw131 hw) (tw130 hw) (by decide) (by decide)) (g := (mkF m 37 #[vR a1, vI (Int32.ofNat k), vI (Int32.ofNat cs.length), vI (0 : Int32), vI (cs.getD k 0), uN] [(.int (cs.getD k 0))])) rfl (by rw [hml]; rfl) (argsL := [(.int (cs.getD k 0))]) (rest := []) (lenOf pd_10 rfl) rfl (by show 2 * 0 + _ ≤ _; exact Nat.le_of_eq rfl) (hb hby d30_37) (fun _ _ => ⟨rfl, eq426, (by decide : 0 + 0 ≤ _), (by decide : 0 + 0 ≤ _)⟩)
  dsimp only [Pt.U, Pt.locs, Pt.cells, Pt.slots] at X428 l428 y428 z428 st428 hQ428
  subst l428 y428 z428
  obtain ⟨rfl, Nq428, eq428⟩ := hQ428
  have N428 := Fr.app N426 Nq428
  have go428 : Goes p e below s₁ (entryFrame m #[(.ref a1), (.int (Int32.ofNat k)), (.int (Int32.ofNat cs.length)), (.int (0 : Int32))] 6) T428 (mkF m 40 #[vR a1, vI (Int32.ofNat k), vI (Int32.ofNat cs.length), vI (0 : Int32), vI (cs.getD k 0), uN] [(.int (hsv (cs.getD k 0)))]) := fun tq kq => go427 tq (st428 _ kq)
  by_cases hh : (hsv (cs.getD k 0)) = (0 : Int32)
  · have go429 : Goes p e below s₁ (entryFrame m #[(.ref a1), (.int (Int32.ofNat k)), (.int (Int32.ofNat cs.length)), (.int (0 : Int32))] 6) T428 (mkF m 85 #[vR a1, vI (Int32.ofNat k), vI (Int32.ofNat cs.length), vI (0 : Int32), vI (cs.getD k 0), uN] [(.int (cs.getD k 0))]) := fun tq kq => go428 tq (by
      show Sx p e below T428 (mkF m 40 #[vR a1, vI (Int32.ofNat k), vI (Int32.ofNat cs.length), vI (0 : Int32), vI (cs.getD k 0), uN] [(.int (hsv (cs.getD k 0)))]) _
      refine XS.ifYes X428.here hx rfl (pc0 := 40) (pc' := 83) rfl (hb hby d30_40) rfl ((if0 _ _).trans (teq hh).1) (by decide) (by decide) ?_
      show Sx p e below T428 (mkF m 83 #[vR a1, vI (Int32.ofNat k), vI (Int32.ofNat cs.length), vI (0 : Int32), vI (cs.getD k 0), uN] []) _
      refine XS.iload X428.here hx rfl (hb hby d30_83) rfl ?_
      exact kq)
    obtain ⟨fs, hr, hrun, hended, hW, hsame⟩ := X428.leave (v := some (.int (cs.getD k 0))) (fun h => by rw [Bd.returns] at h; cases h)
    refine ⟨_, _, go429 _ ?_, hrun, hended, _, _, rfl, ?_, ⟨_, rfl⟩, hW, hsame.mono (by decide) (by decide)⟩
    · exact retI X428 hx Bd.returns (hb hby d30_85) hr
    · show Q_u7 Z a1 k cs kB h0 n0 _ T428.heap _
      rw [eq428]
      exact ⟨congrArg (fun z => some (Value.int z)) (if_pos hh).symm, N428, rfl⟩
  · have go430 : Goes p e below s₁ (entryFrame m #[(.ref a1), (.int (Int32.ofNat k)), (.int (Int32.ofNat cs.length)), (.int (0 : Int32))] 6) T428 (mkF m 46 #[vR a1, vI ((Int32.ofNat k) + (1 : Int32)), vI (Int32.ofNat cs.length), vI (0 : Int32), vI (cs.getD k 0), uN] []) := fun tq kq => go428 tq (by
      show Sx p e below T428 (mkF m 40 #[vR a1, vI (Int32.ofNat k), vI (Int32.ofNat cs.length), vI (0 : Int32), vI (cs.getD k 0), uN] [(.int (hsv (cs.getD k 0)))]) _
      refine XS.ifNo X428.here hx rfl (hb hby d30_40) rfl ((if0 _ _).trans (feq hh).1) ?_
      show Sx p e below T428 (mkF m 43 #[vR a1, vI (Int32.ofNat k), vI (Int32.ofNat cs.length), vI (0 : Int32), vI (cs.getD k 0), uN] []) _
      refine XS.iinc X428.here hx rfl (hb hby d30_43) rfl (l' := #[vR a1, vI ((Int32.ofNat k) + (1 : Int32)), vI (Int32.ofNat cs.length), vI (0 : Int32), vI (cs.getD k 0), uN]) rfl ?_
      exact kq)
    rw [own_inc] at go430
    have go431 : Goes p e below s₁ (entryFrame m #[(.ref a1), (.int (Int32.ofNat k)), (.int (Int32.ofNat cs.length)), (.int (0 : Int32))] 6) T428 (mkF m 48 #[vR a1, vI (Int32.ofNat (k + 1)), vI (Int32.ofNat cs.length), vI (0 : Int32), vI (cs.getD k 0), uN] [(.int (Int32.ofNat cs.length)), (.int (Int32.ofNat (k + 1)))]) := fun tq kq => go430 tq (by
      show Sx p e below T428 (mkF m 46 #[vR a1, vI (Int32.ofNat (k + 1)), vI (Int32.ofNat cs.length), vI (0 : Int32), vI (cs.getD k 0), uN] []) _
      refine XS.iloadN X428.here hx rfl (hb hby d30_46) rfl ?_
      show Sx p e below T428 (mkF m 47 #[vR a1, vI (Int32.ofNat (k + 1)), vI (Int32.ofNat cs.length), vI (0 : Int32), vI (cs.getD k 0), uN] [(.int (Int32.ofNat (k + 1)))]) _
      refine XS.iloadN X428.here hx rfl (hb hby d30_47) rfl ?_
      exact kq)
    by_cases hk1 : k + 1 < cs.length
    · have go433 : Goes p e below s₁ (entryFrame m #[(.ref a1), (.int (Int32.ofNat k)), (.int (Int32.ofNat cs.length)), (.int (0 : Int32))] 6) T428 (mkF m 52 #[vR a1, vI (Int32.ofNat (k + 1)), vI (Int32.ofNat cs.length), vI (0 : Int32), vI (cs.getD k 0), uN] [(.int (0 : Int32))]) := fun tq kq => go431 tq (by
        show Sx p e below T428 (mkF m 48 #[vR a1, vI (Int32.ofNat (k + 1)), vI (Int32.ofNat cs.length), vI (0 : Int32), vI (cs.getD k 0), uN] [(.int (Int32.ofNat cs.length)), (.int (Int32.ofNat (k + 1)))]) _
        refine XS.icmpNo X428.here hx rfl (hb hby d30_48) rfl (tlt (own_lt (by omega) hk1)).2.1 ?_
        show Sx p e below T428 (mkF m 51 #[vR a1, vI (Int32.ofNat (k + 1)), vI (Int32.ofNat cs.length), vI (0 : Int32), vI (cs.getD k 0), uN] []) _
        refine XS.iloadN X428.here hx rfl (hb hby d30_51) rfl ?_
        exact kq)
      have go434 : Goes p e below s₁ (entryFrame m #[(.ref a1), (.int (Int32.ofNat k)), (.int (Int32.ofNat cs.length)), (.int (0 : Int32))] 6) T428 (mkF m 62 #[vR a1, vI (Int32.ofNat (k + 1)), vI (Int32.ofNat cs.length), vI (0 : Int32), vI (cs.getD k 0), uN] [(.int (Int32.ofNat (k + 1))), (.ref a1)]) := fun tq kq => go433 tq (by
        show Sx p e below T428 (mkF m 52 #[vR a1, vI (Int32.ofNat (k + 1)), vI (Int32.ofNat cs.length), vI (0 : Int32), vI (cs.getD k 0), uN] [(.int (0 : Int32))]) _
        refine XS.ifYes X428.here hx rfl (pc0 := 52) (pc' := 60) rfl (hb hby d30_52) rfl ((if0 _ _).trans (teq (by decide)).1) (by decide) (by decide) ?_
        show Sx p e below T428 (mkF m 60 #[vR a1, vI (Int32.ofNat (k + 1)), vI (Int32.ofNat cs.length), vI (0 : Int32), vI (cs.getD k 0), uN] []) _
        refine XS.aloadN X428.here hx rfl (hb hby d30_60) rfl rfl ?_
        refine XS.iloadN X428.here hx rfl (hb hby d30_61) rfl ?_
        exact kq)
      obtain ⟨vv435, _, ⟨T435, L435, k435, n435⟩, -, X435, ⟨Lc435, hQ435, l435, y435, z435⟩, st435⟩ := Jvm.LawKit.callS X428 hx (y := (⟨"java/lang/StringUTF16", "getChar", "([BI)C"⟩ : MethodName)) hown (mvT hZ (tw91 hw)) (mvT hZ (tw92 hw)) (mvT hZ (tw70 hw)) (mvT hZ (tw93 hw)) (by decide) (backOf (W := 0) (gC l Z a0 hw [] a1 (k + 1) cs.length (cs.getD (k + 1) 0) kB (StrChars.Road.wideBytes cs) h0 n0 Z0 O0 AD HI LO VA hk1 hl (StrChars.Road.wide_lo _ cs (k + 1) hk1) (StrChars.Road.wide_hi _ cs (k + 1) hk1) (own_at hcs hk1)) hZ (tw93 hw) (tw70 hw) (by decide) (by decide)) (g := (mkF m 62 #[vR a1, vI (Int32.ofNat (k + 1)), vI (Int32.ofNat cs.length), vI (0 : Int32), vI (cs.getD k 0), uN] [(.int (Int32.ofNat (k + 1))), (.ref a1)])) rfl (by rw [hml]; rfl) (argsL := [(.ref a1), (.int (Int32.ofNat (k + 1)))]) (rest := []) (lenOf pd_5 rfl) rfl (by show 2 * 0 + _ ≤ _; exact Nat.le_of_eq rfl) (hb hby d30_62) (fun _ _ => ⟨rfl, eq428, (by decide : 0 + 0 ≤ _), (by decide : 0 + 0 ≤ _)⟩)
      dsimp only [Pt.U, Pt.locs, Pt.cells, Pt.slots] at X435 l435 y435 z435 st435 hQ435
      subst l435 y435 z435
      obtain ⟨rfl, Nq435, eq435⟩ := hQ435
      have N435 := Fr.app N428 Nq435
      have go435 : Goes p e below s₁ (entryFrame m #[(.ref a1), (.int (Int32.ofNat k)), (.int (Int32.ofNat cs.length)), (.int (0 : Int32))] 6) T435 (mkF m 65 #[vR a1, vI (Int32.ofNat (k + 1)), vI (Int32.ofNat cs.length), vI (0 : Int32), vI (cs.getD k 0), uN] [(.int (cs.getD (k + 1) 0))]) := fun tq kq => go434 tq (st435 _ kq)
      have go436 : Goes p e below s₁ (entryFrame m #[(.ref a1), (.int (Int32.ofNat k)), (.int (Int32.ofNat cs.length)), (.int (0 : Int32))] 6) T435 (mkF m 69 #[vR a1, vI (Int32.ofNat (k + 1)), vI (Int32.ofNat cs.length), vI (0 : Int32), vI (cs.getD k 0), vI (cs.getD (k + 1) 0)] [(.int (cs.getD (k + 1) 0))]) := fun tq kq => go435 tq (by
        show Sx p e below T435 (mkF m 65 #[vR a1, vI (Int32.ofNat (k + 1)), vI (Int32.ofNat cs.length), vI (0 : Int32), vI (cs.getD k 0), uN] [(.int (cs.getD (k + 1) 0))]) _
        refine XS.istore X435.here hx rfl (hb hby d30_65) rfl (l' := #[vR a1, vI (Int32.ofNat (k + 1)), vI (Int32.ofNat cs.length), vI (0 : Int32), vI (cs.getD k 0), vI (cs.getD (k + 1) 0)]) rfl ?_
        refine XS.iload X435.here hx rfl (hb hby d30_67) rfl ?_
        exact kq)
      obtain ⟨vv437, _, ⟨T437, L437, k437, n437⟩, -, X437, ⟨Lc437, hQ437, l437, y437, z437⟩, st437⟩ := Jvm.LawKit.callS X435 hx (y := (⟨"java/lang/Character", "isLowSurrogate", "(C)Z"⟩ : MethodName)) hown (mvT hZ (tw142 hw)) (mvT hZ (tw143 hw)) (mvT hZ (tw130 hw)) (mvT hZ (tw144 hw)) (by decide) (backOf (W := 0) (rmLs l Z a0 hw [] (cs.getD (k + 1) 0)  h0 n0 Z0 ) hZ (tw144 hw) (tw130 hw) (by decide) (by decide)) (g := (mkF m 69 #[vR a1, vI (Int32.ofNat (k + 1)), vI (Int32.ofNat cs.length), vI (0 : Int32), vI (cs.getD k 0), vI (cs.getD (k + 1) 0)] [(.int (cs.getD (k + 1) 0))])) rfl (by rw [hml]; rfl) (argsL := [(.int (cs.getD (k + 1) 0))]) (rest := []) (lenOf pd_10 rfl) rfl (by show 2 * 0 + _ ≤ _; exact Nat.le_of_eq rfl) (hb hby d30_69) (fun _ _ => ⟨rfl, eq435, (by decide : 0 + 0 ≤ _), (by decide : 0 + 0 ≤ _)⟩)
      dsimp only [Pt.U, Pt.locs, Pt.cells, Pt.slots] at X437 l437 y437 z437 st437 hQ437
      subst l437 y437 z437
      obtain ⟨rfl, Nq437, eq437⟩ := hQ437
      have N437 := Fr.app N435 Nq437
      have go437 : Goes p e below s₁ (entryFrame m #[(.ref a1), (.int (Int32.ofNat k)), (.int (Int32.ofNat cs.length)), (.int (0 : Int32))] 6) T437 (mkF m 72 #[vR a1, vI (Int32.ofNat (k + 1)), vI (Int32.ofNat cs.length), vI (0 : Int32), vI (cs.getD k 0), vI (cs.getD (k + 1) 0)] [(.int (lsv (cs.getD (k + 1) 0)))]) := fun tq kq => go436 tq (st437 _ kq)
      by_cases hlw : (lsv (cs.getD (k + 1) 0)) = (0 : Int32)
      · have go438 : Goes p e below s₁ (entryFrame m #[(.ref a1), (.int (Int32.ofNat k)), (.int (Int32.ofNat cs.length)), (.int (0 : Int32))] 6) T437 (mkF m 85 #[vR a1, vI (Int32.ofNat (k + 1)), vI (Int32.ofNat cs.length), vI (0 : Int32), vI (cs.getD k 0), vI (cs.getD (k + 1) 0)] [(.int (cs.getD k 0))]) := fun tq kq => go437 tq (by
          show Sx p e below T437 (mkF m 72 #[vR a1, vI (Int32.ofNat (k + 1)), vI (Int32.ofNat cs.length), vI (0 : Int32), vI (cs.getD k 0), vI (cs.getD (k + 1) 0)] [(.int (lsv (cs.getD (k + 1) 0)))]) _
          refine XS.ifYes X437.here hx rfl (pc0 := 72) (pc' := 83) rfl (hb hby d30_72) rfl ((if0 _ _).trans (teq hlw).1) (by decide) (by decide) ?_
          refine XS.iload X437.here hx rfl (hb hby d30_83) rfl ?_
          exact kq)
        obtain ⟨fs, hr, hrun, hended, hW, hsame⟩ := X437.leave (v := some (.int (cs.getD k 0))) (fun h => by rw [Bd.returns] at h; cases h)
        refine ⟨_, _, go438 _ ?_, hrun, hended, _, _, rfl, ?_, ⟨_, rfl⟩, hW, hsame.mono (by decide) (by decide)⟩
        · exact retI X437 hx Bd.returns (hb hby d30_85) hr
        · show Q_u7 Z a1 k cs kB h0 n0 _ T437.heap _
          rw [eq437]
          exact ⟨congrArg (fun z => some (Value.int z)) ((if_neg hh).trans ((if_pos hk1).trans (if_pos hlw))).symm, N437, rfl⟩
      · have go439 : Goes p e below s₁ (entryFrame m #[(.ref a1), (.int (Int32.ofNat k)), (.int (Int32.ofNat cs.length)), (.int (0 : Int32))] 6) T437 (mkF m 79 #[vR a1, vI (Int32.ofNat (k + 1)), vI (Int32.ofNat cs.length), vI (0 : Int32), vI (cs.getD k 0), vI (cs.getD (k + 1) 0)] [(.int (cs.getD (k + 1) 0)), (.int (cs.getD k 0))]) := fun tq kq => go437 tq (by
          show Sx p e below T437 (mkF m 72 #[vR a1, vI (Int32.ofNat (k + 1)), vI (Int32.ofNat cs.length), vI (0 : Int32), vI (cs.getD k 0), vI (cs.getD (k + 1) 0)] [(.int (lsv (cs.getD (k + 1) 0)))]) _
          refine XS.ifNo X437.here hx rfl (hb hby d30_72) rfl ((if0 _ _).trans (feq hlw).1) ?_
          refine XS.iload X437.here hx rfl (hb hby d30_75) rfl ?_
          show Sx p e below T437 (mkF m 77 #[vR a1, vI (Int32.ofNat (k + 1)), vI (Int32.ofNat cs.length), vI (0 : Int32), vI (cs.getD k 0), vI (cs.getD (k + 1) 0)] [(.int (cs.getD k 0))]) _
          refine XS.iload X437.here hx rfl (hb hby d30_77) rfl ?_
          exact kq)
        obtain ⟨vv440, _, ⟨T440, L440, k440, n440⟩, -, X440, ⟨Lc440, hQ440, l440, y440, z440⟩, st440⟩ := Jvm.LawKit.callS X437 hx (y := (⟨"java/lang/Character", "toCodePoint", "(CC)I"⟩ : MethodName)) hown (mvT hZ (tw146 hw)) (mvT hZ (tw147 hw)) (mvT hZ (tw130 hw)) (mvT hZ (tw148 hw)) (by decide) (backOf (W := 0) (rmTc l Z a0 hw [] (cs.getD k 0) (cs.getD (k + 1) 0)  h0 n0 Z0 ) hZ (tw148 hw) (tw130 hw) (by decide) (by decide)) (g := (mkF m 79 #[vR a1, vI (Int32.ofNat (k + 1)), vI (Int32.ofNat cs.length), vI (0 : Int32), vI (cs.getD k 0), vI (cs.getD (k + 1) 0)] [(.int (cs.getD (k + 1) 0)), (.int (cs.getD k 0))])) rfl (by rw [hml]; rfl) (argsL := [(.int (cs.getD k 0)), (.int (cs.getD (k + 1) 0))]) (rest := []) (lenOf pd_11 rfl) rfl (by show 2 * 0 + _ ≤ _; exact Nat.le_of_eq rfl) (hb hby d30_79) (fun _ _ => ⟨rfl, eq437, (by decide : 0 + 0 ≤ _), (by decide : 0 + 0 ≤ _)⟩)
        dsimp only [Pt.U, Pt.locs, Pt.cells, Pt.slots] at X440 l440 y440 z440 st440 hQ440
        subst l440 y440 z440
        obtain ⟨rfl, Nq440, eq440⟩ := hQ440
        have N440 := Fr.app N437 Nq440
        have go440 : Goes p e below s₁ (entryFrame m #[(.ref a1), (.int (Int32.ofNat k)), (.int (Int32.ofNat cs.length)), (.int (0 : Int32))] 6) T440 (mkF m 82 #[vR a1, vI (Int32.ofNat (k + 1)), vI (Int32.ofNat cs.length), vI (0 : Int32), vI (cs.getD k 0), vI (cs.getD (k + 1) 0)] [(.int (tcv (cs.getD k 0) (cs.getD (k + 1) 0)))]) := fun tq kq => go439 tq (st440 _ kq)
        obtain ⟨fs, hr, hrun, hended, hW, hsame⟩ := X440.leave (v := some (.int (tcv (cs.getD k 0) (cs.getD (k + 1) 0)))) (fun h => by rw [Bd.returns] at h; cases h)
        refine ⟨_, _, go440 _ ?_, hrun, hended, _, _, rfl, ?_, ⟨_, rfl⟩, hW, hsame.mono (by decide) (by decide)⟩
        · exact retI X440 hx Bd.returns (hb hby d30_82) hr
        · show Q_u7 Z a1 k cs kB h0 n0 _ T440.heap _
          rw [eq440]
          exact ⟨congrArg (fun z => some (Value.int z)) ((if_neg hh).trans ((if_pos hk1).trans (if_neg hlw))).symm, N440, rfl⟩
    · have go432 : Goes p e below s₁ (entryFrame m #[(.ref a1), (.int (Int32.ofNat k)), (.int (Int32.ofNat cs.length)), (.int (0 : Int32))] 6) T428 (mkF m 85 #[vR a1, vI (Int32.ofNat (k + 1)), vI (Int32.ofNat cs.length), vI (0 : Int32), vI (cs.getD k 0), uN] [(.int (cs.getD k 0))]) := fun tq kq => go431 tq (by
        show Sx p e below T428 (mkF m 48 #[vR a1, vI (Int32.ofNat (k + 1)), vI (Int32.ofNat cs.length), vI (0 : Int32), vI (cs.getD k 0), uN] [(.int (Int32.ofNat cs.length)), (.int (Int32.ofNat (k + 1)))]) _
        refine XS.icmpYes X428.here hx rfl (pc0 := 48) (pc' := 83) rfl (hb hby d30_48) rfl (flt (own_nlt (by omega) (by omega) hk1)).2.1 (by decide) (by decide) ?_
        show Sx p e below T428 (mkF m 83 #[vR a1, vI (Int32.ofNat (k + 1)), vI (Int32.ofNat cs.length), vI (0 : Int32), vI (cs.getD k 0), uN] []) _
        refine XS.iload X428.here hx rfl (hb hby d30_83) rfl ?_
        exact kq)
      obtain ⟨fs, hr, hrun, hended, hW, hsame⟩ := X428.leave (v := some (.int (cs.getD k 0))) (fun h => by rw [Bd.returns] at h; cases h)
      refine ⟨_, _, go432 _ ?_, hrun, hended, _, _, rfl, ?_, ⟨_, rfl⟩, hW, hsame.mono (by decide) (by decide)⟩
      · exact retI X428 hx Bd.returns (hb hby d30_85) hr
      · show Q_u7 Z a1 k cs kB h0 n0 _ T428.heap _
        rw [eq428]
        exact ⟨congrArg (fun z => some (Value.int z)) ((if_neg hh).trans (if_neg hk1)).symm, N428, rfl⟩
theorem d29_0 : decode jdk_52_method_8_code 0 = .ok (.aload_n 0, 1) := by decide +kernel
theorem d29_1 : decode jdk_52_method_8_code 1 = .ok (.iload_n 1, 1) := by decide +kernel
theorem d29_2 : decode jdk_52_method_8_code 2 = .ok (.iload_n 2, 1) := by decide +kernel
theorem d29_3 : decode jdk_52_method_8_code 3 = .ok (.iconst 0, 1) := by decide +kernel
theorem d29_4 : decode jdk_52_method_8_code 4 = .ok (.invokestatic 88, 3) := by decide +kernel
theorem pd_12 : parseMethodDescriptor "([BIIZ)I" = some ⟨[(.array .byte), .int, .int, .boolean], some .int⟩ := by decide +kernel
theorem d29_7 : decode jdk_52_method_8_code 7 = .ok (.ireturn, 1) := by decide +kernel
def Q_u8 (Z : State) (a1 : Addr) (k : Nat) (cs : List Int32) (kB : ClassId) (h0 : Heap) (n0 : Nat) (v : Option Value) (h : Heap) (L : List Loc) : Prop := v = some (.int (cpv cs k)) ∧ Fr n0 L ∧ h = h0
set_option maxRecDepth 65536 in
set_option maxHeartbeats 40000000 in
theorem u8 (l : Launch) (Z : State) (a0 : Array Value) (hw : ∀ d ∈ tables_1, d.before a0 Z = true) (ws : List Jvm.Cond) (a1 : Addr) (k : Nat) (cs : List Int32) (kB : ClassId) (h0 : Heap) (n0 : Nat) (Z0 : n0 ≤ h0.size) (O0 : Old Z n0 h0) (AD : Sta Z Z.heap "java/lang/StringUTF16" "$assertionsDisabled" "Z" (.int (1 : Int32))) (HI : Sta Z Z.heap "java/lang/StringUTF16" "HI_BYTE_SHIFT" "I" (.int (0 : Int32))) (LO : Sta Z Z.heap "java/lang/StringUTF16" "LO_BYTE_SHIFT" "I" (.int (8 : Int32))) (VA : Arv Z h0 a1 kB .byte (Int32.ofNat (2 * cs.length)) (StrChars.Road.wideBytes cs) (.int (0 : Int32))) (hk : k < cs.length) (hl : cs.length ≤ 3) (hcs : ∀ c ∈ cs, C16 c) :
    MetFree l (⟨"java/lang/StringUTF16", "codePointAt", "([BII)I"⟩ : MethodName) (head1 (Jvm.Cond.code (⟨"java/lang/StringUTF16", "codePointAt", "([BII)I"⟩ : MethodName) jdk_52_method_8_code 3 (some .int) :: ws) ({ frames := 2, cells := 0, slots := 0, locals := 30 } : Room)) (fun a U => a = #[(.ref a1), (.int (Int32.ofNat k)), (.int (Int32.ofNat cs.length))] ∧ Z.Warmed39 U.vm ∧ U.heap = h0) (fun _ _ _ _ _ => True) (fun _ U o U' => ∃ v L, o = .returned v ∧ Q_u8 Z a1 k cs kB h0 n0 v U'.heap L ∧ FrameEnd U o U' L ({ frames := 2, cells := 0, slots := 0, locals := 30 } : Room).cells ({ frames := 2, cells := 0, slots := 0, locals := 30 } : Room).slots) := by
  refine MetFree.of_bodySF (plainFor_of_name pn_java_lang_StringUTF16) hisR ?_
  intro p e s m args below meth c s₁ Bd hml0 hP hK
  obtain ⟨rfl, hZ, hh⟩ := hP
  have hx := Bd.exec
  have hby := Bd.bytes
  have hml : c.maxLocals = 3 := hml0
  have hown : s.vm.findClass "java/lang/StringUTF16" = some m.cls := findClass_of_methodNamed Bd.named
  have hnm := (name_of_methodNamed Bd.named Bd.method).1
  have X0 : Stand p l e ({ frames := 2, cells := 0, slots := 0, locals := 30 } : Room) s m #[(.ref a1), (.int (Int32.ofNat k)), (.int (Int32.ofNat cs.length))] below meth c s₁ [] 0 0 := Stand.of_body Bd
  have e0 : s₁.heap = h0 := by rw [← hh, Bd.state]; rfl
  have N0 := Fr.nil n0
  have go0 : Goes p e below s₁ (entryFrame m #[(.ref a1), (.int (Int32.ofNat k)), (.int (Int32.ofNat cs.length))] 3) s₁ (mkF m 0 #[vR a1, vI (Int32.ofNat k), vI (Int32.ofNat cs.length)] []) := fun tq kq => castTop (by first | (simp [entryFrame, mkF, argsToLocals, Value.category, vI, vJ, vR, vD, vN, uN, sD]; done) | rfl) kq
  have go441 : Goes p e below s₁ (entryFrame m #[(.ref a1), (.int (Int32.ofNat k)), (.int (Int32.ofNat cs.length))] 3) s₁ (mkF m 4 #[vR a1, vI (Int32.ofNat k), vI (Int32.ofNat cs.length)] [(.int (0 : Int32)), (.int (Int32.ofNat cs.length)), (.int (Int32.ofNat k)), (.ref a1)]) := fun tq kq => go0 tq (by
    show Sx p e below s₁ (mkF m 0 #[vR a1, vI (Int32.ofNat k), vI (Int32.ofNat cs.length)] []) _
    refine XS.aloadN X0.here hx rfl (hb hby d29_0) rfl rfl ?_
    refine XS.iloadN X0.here hx rfl (hb hby d29_1) rfl ?_
    show Sx p e below s₁ (mkF m 2 #[vR a1, vI (Int32.ofNat k), vI (Int32.ofNat cs.length)] [(.int (Int32.ofNat k)), (.ref a1)]) _
    refine XS.iloadN X0.here hx rfl (hb hby d29_2) rfl ?_
    refine XS.iconst X0.here hx rfl (hb hby d29_3) ?_
    exact kq)
  obtain ⟨vv442, _, ⟨T442, L442, k442, n442⟩, -, X442, ⟨Lc442, hQ442, l442, y442, z442⟩, st442⟩ := Jvm.LawKit.callS X0 hx (y := (⟨"java/lang/StringUTF16", "codePointAt", "([BIIZ)I"⟩ : MethodName)) hown (mvT hZ (tw125 hw)) (mvT hZ (tw126 hw)) (mvT hZ (tw70 hw)) (mvT hZ (tw127 hw)) (by decide) (backOf (W := 0) (u7 l Z a0 hw [] a1 k cs kB h0 n0 Z0 O0 AD HI LO VA hk hl hcs) hZ (tw127 hw) (tw70 hw) (by decide) (by decide)) (g := (mkF m 4 #[vR a1, vI (Int32.ofNat k), vI (Int32.ofNat cs.length)] [(.int (0 : Int32)), (.int (Int32.ofNat cs.length)), (.int (Int32.ofNat k)), (.ref a1)])) rfl (by rw [hml]; rfl) (argsL := [(.ref a1), (.int (Int32.ofNat k)), (.int (Int32.ofNat cs.length)), (.int (0 : Int32))]) (rest := []) (lenOf pd_12 rfl) rfl (by show 2 * 0 + _ ≤ _; exact Nat.le_of_eq rfl) (hb hby d29_4) (fun _ _ => ⟨rfl, e0, (by decide : 0 + 0 ≤ _), (by decide : 0 + 0 ≤ _)⟩)
  dsimp only [Pt.U, Pt.locs, Pt.cells, Pt.slots] at X442 l442 y442 z442 st442 hQ442
  subst l442 y442 z442
  obtain ⟨rfl, Nq442, eq442⟩ := hQ442
  have N442 := Fr.app N0 Nq442
  have go442 : Goes p e below s₁ (entryFrame m #[(.ref a1), (.int (Int32.ofNat k)), (.int (Int32.ofNat cs.length))] 3) T442 (mkF m 7 #[vR a1, vI (Int32.ofNat k), vI (Int32.ofNat cs.length)] [(.int (cpv cs k))]) := fun tq kq => go441 tq (st442 _ kq)
  obtain ⟨fs, hr, hrun, hended, hW, hsame⟩ := X442.leave (v := some (.int (cpv cs k))) (fun h => by rw [Bd.returns] at h; cases h)
  refine ⟨_, _, go442 _ ?_, hrun, hended, _, _, rfl, ?_, ⟨_, rfl⟩, hW, hsame.mono (by decide) (by decide)⟩
  · exact retI X442 hx Bd.returns (hb hby d29_7) hr
  · show Q_u8 Z a1 k cs kB h0 n0 _ T442.heap _
    rw [eq442]
    exact ⟨rfl, N442, rfl⟩
abbrev G_cpA (m : MethodId) (a1 : Addr) (k : Nat) : JFrame := (entryFrame m #[(.ref a1), (.int (Int32.ofNat k))] 3)
theorem d25_0 : decode jdk_42_method_57_code 0 = .ok (.aload_n 0, 1) := by decide +kernel
theorem d25_1 : decode jdk_42_method_57_code 1 = .ok (.invokevirtual 492, 3) := by decide +kernel
theorem pd_13 : parseMethodDescriptor "()Z" = some ⟨[], some .boolean⟩ := by decide +kernel
theorem d25_4 : decode jdk_42_method_57_code 4 = .ok (.ifCond .eq 23, 3) := by decide +kernel
theorem d25_7 : decode jdk_42_method_57_code 7 = .ok (.iload_n 1, 1) := by decide +kernel
theorem d25_8 : decode jdk_42_method_57_code 8 = .ok (.aload_n 0, 1) := by decide +kernel
theorem d25_9 : decode jdk_42_method_57_code 9 = .ok (.getfield 9, 3) := by decide +kernel
theorem d25_12 : decode jdk_42_method_57_code 12 = .ok (.arraylength, 1) := by decide +kernel
theorem d25_13 : decode jdk_42_method_57_code 13 = .ok (.invokestatic 499, 3) := by decide +kernel
theorem pd_14 : parseMethodDescriptor "(II)V" = some ⟨[.int, .int], none⟩ := by decide +kernel
theorem d25_16 : decode jdk_42_method_57_code 16 = .ok (.aload_n 0, 1) := by decide +kernel
theorem d25_17 : decode jdk_42_method_57_code 17 = .ok (.getfield 9, 3) := by decide +kernel
theorem d25_20 : decode jdk_42_method_57_code 20 = .ok (.iload_n 1, 1) := by decide +kernel
theorem d25_21 : decode jdk_42_method_57_code 21 = .ok (.baload, 1) := by decide +kernel
theorem d25_22 : decode jdk_42_method_57_code 22 = .ok (.sipush 255, 3) := by decide +kernel
theorem d25_25 : decode jdk_42_method_57_code 25 = .ok (.iand, 1) := by decide +kernel
theorem d25_26 : decode jdk_42_method_57_code 26 = .ok (.ireturn, 1) := by decide +kernel
theorem d25_27 : decode jdk_42_method_57_code 27 = .ok (.aload_n 0, 1) := by decide +kernel
theorem d25_28 : decode jdk_42_method_57_code 28 = .ok (.getfield 9, 3) := by decide +kernel
theorem d25_31 : decode jdk_42_method_57_code 31 = .ok (.arraylength, 1) := by decide +kernel
theorem d25_32 : decode jdk_42_method_57_code 32 = .ok (.iconst 1, 1) := by decide +kernel
theorem d25_33 : decode jdk_42_method_57_code 33 = .ok (.ishr, 1) := by decide +kernel
theorem d25_34 : decode jdk_42_method_57_code 34 = .ok (.istore_n 2, 1) := by decide +kernel
theorem d25_35 : decode jdk_42_method_57_code 35 = .ok (.iload_n 1, 1) := by decide +kernel
theorem d25_36 : decode jdk_42_method_57_code 36 = .ok (.iload_n 2, 1) := by decide +kernel
theorem d25_37 : decode jdk_42_method_57_code 37 = .ok (.invokestatic 499, 3) := by decide +kernel
theorem d25_40 : decode jdk_42_method_57_code 40 = .ok (.aload_n 0, 1) := by decide +kernel
theorem d25_41 : decode jdk_42_method_57_code 41 = .ok (.getfield 9, 3) := by decide +kernel
theorem d25_44 : decode jdk_42_method_57_code 44 = .ok (.iload_n 1, 1) := by decide +kernel
theorem d25_45 : decode jdk_42_method_57_code 45 = .ok (.iload_n 2, 1) := by decide +kernel
theorem d25_46 : decode jdk_42_method_57_code 46 = .ok (.invokestatic 502, 3) := by decide +kernel
theorem pd_15 : parseMethodDescriptor "([BII)I" = some ⟨[(.array .byte), .int, .int], some .int⟩ := by decide +kernel
theorem d25_49 : decode jdk_42_method_57_code 49 = .ok (.ireturn, 1) := by decide +kernel
def Q_cpA (Z : State) (a1 : Addr) (k : Nat) (tt : Addr) (kB : ClassId) (cd N cz : Int32) (vs : List Value) (cs : List Int32) (fm : Value) (h0 : Heap) (n0 : Nat) (v : Option Value) (h : Heap) (L : List Loc) : Prop := v = some (.int (cpv cs k)) ∧ Fr n0 L ∧ h = h0
set_option maxRecDepth 65536 in
set_option maxHeartbeats 40000000 in
theorem cpA (l : Launch) (Z : State) (a0 : Array Value) (hw : ∀ d ∈ tables_1, d.before a0 Z = true) (ws : List Jvm.Cond) (a1 : Addr) (k : Nat) (tt : Addr) (kB : ClassId) (cd N cz : Int32) (vs : List Value) (cs : List Int32) (fm : Value) (h0 : Heap) (n0 : Nat) (Z0 : n0 ≤ h0.size) (O0 : Old Z n0 h0) (AD : Sta Z Z.heap "java/lang/StringUTF16" "$assertionsDisabled" "Z" (.int (1 : Int32))) (HI : Sta Z Z.heap "java/lang/StringUTF16" "HI_BYTE_SHIFT" "I" (.int (0 : Int32))) (LO : Sta Z Z.heap "java/lang/StringUTF16" "LO_BYTE_SHIFT" "I" (.int (8 : Int32))) (SC : Sta Z Z.heap "java/lang/String" "COMPACT_STRINGS" "Z" (.int cz)) (hz : ¬ (cz = (0 : Int32))) (FM : Sta Z Z.heap "jdk/internal/util/Preconditions" "SIOOBE_FORMATTER" "Ljava/util/function/BiFunction;" fm) (hfm : fm = .null ∨ ∃ f : Addr, fm = .ref f) (hk : k < cs.length) (eee : Exa Z h0 a1 "java/lang/String") (eec : Fld Z h0 a1 "java/lang/String" "coder" "B" (.int cd)) (eev : Fld Z h0 a1 "java/lang/String" "value" "[B" (.ref tt)) (eew : Arv Z h0 tt kB .byte N vs (.int 0)) (eed : StrChars.Road.CodA cs cd N vs) (eeb : ∀ c ∈ cs, C16 c) (eel : cs.length ≤ 3) :
    MetFree l (⟨"java/lang/String", "codePointAt", "(I)I"⟩ : MethodName) (head1 (Jvm.Cond.code (⟨"java/lang/String", "codePointAt", "(I)I"⟩ : MethodName) jdk_42_method_57_code 3 (some .int) :: ws) ({ frames := 3, cells := 0, slots := 0, locals := 44 } : Room)) (fun a U => a = #[(.ref a1), (.int (Int32.ofNat k))] ∧ Z.Warmed39 U.vm ∧ U.heap = h0) (fun _ _ _ _ _ => True) (fun _ U o U' => ∃ v L, o = .returned v ∧ Q_cpA Z a1 k tt kB cd N cz vs cs fm h0 n0 v U'.heap L ∧ FrameEnd U o U' L ({ frames := 3, cells := 0, slots := 0, locals := 44 } : Room).cells ({ frames := 3, cells := 0, slots := 0, locals := 44 } : Room).slots) := by
  refine MetFree.of_bodySF (plainFor_of_name pn_java_lang_String) hisR ?_
  intro p e s m args below meth c s₁ Bd hml0 hP hK
  obtain ⟨rfl, hZ, hh⟩ := hP
  have hx := Bd.exec
  have hby := Bd.bytes
  have hml : c.maxLocals = 3 := hml0
  have hown : s.vm.findClass "java/lang/String" = some m.cls := findClass_of_methodNamed Bd.named
  have hnm := (name_of_methodNamed Bd.named Bd.method).1
  have X0 : Stand p l e ({ frames := 3, cells := 0, slots := 0, locals := 44 } : Room) s m #[(.ref a1), (.int (Int32.ofNat k))] below meth c s₁ [] 0 0 := Stand.of_body Bd
  have e0 : s₁.heap = h0 := by rw [← hh, Bd.state]; rfl
  have N0 := Fr.nil n0
  have go0 : Goes p e below s₁ (G_cpA m a1 k) s₁ (mkF m 0 #[vR a1, vI (Int32.ofNat k), uN] []) := fun tq kq => castTop (by first | (simp [entryFrame, mkF, argsToLocals, Value.category, vI, vJ, vR, vD, vN, uN, sD, G_cpA]; done) | rfl) kq
  rcases eed with ⟨ecd, eN, evs, hle⟩ | ⟨ecd, eN, evs, hgt⟩
  · have Fcd : Fld Z h0 a1 "java/lang/String" "coder" "B" (.int (0 : Int32)) := by have q := eec; rw [ecd] at q; exact q
    have Ved : Arv Z h0 tt kB .byte (Int32.ofNat cs.length) (cs.map fun c => Value.int (StrChars.lo8 c)) (.int (0 : Int32)) := by have q := eew; rw [eN, evs] at q; exact q
    have go443 : Goes p e below s₁ (G_cpA m a1 k) s₁ (mkF m 1 #[vR a1, vI (Int32.ofNat k), uN] [(.ref a1)]) := fun tq kq => go0 tq (by
      show Sx p e below s₁ (mkF m 0 #[vR a1, vI (Int32.ofNat k), uN] []) _
      refine XS.aloadN X0.here hx rfl (hb hby d25_0) rfl rfl ?_
      exact kq)
    obtain ⟨cq444, kq444, q444a, q444b, q444c⟩ := isOf hZ e0 eee
    obtain ⟨vv444, _, ⟨T444, L444, k444, n444⟩, -, X444, ⟨Lc444, hQ444, l444, y444, z444⟩, st444⟩ := X0.virtualBack hx (y := (⟨"java/lang/String", "isLatin1", "()Z"⟩ : MethodName)) (z := (⟨"java/lang/String", "isLatin1", "()Z"⟩ : MethodName)) hown (mvT hZ (tw109 hw)) (mvT hZ (tw110 hw)) (notFace_of_selects (args := #[]) (mvT hZ (tw112 hw))) (mvT hZ (tw112 hw)) (mvT hZ (tw111 hw)) (by decide) (backOf (W := 0) (il0 l Z a0 hw [] a1 cz h0 n0 Z0 O0 SC hz Fcd) hZ (tw113 hw) (tw12 hw) (by decide) (by decide)) q444a q444c (g := (mkF m 1 #[vR a1, vI (Int32.ofNat k), uN] [(.ref a1)])) rfl (by rw [hml]; rfl) (Steps.refl _) (argsL := []) (rest := []) (lenOf pd_13 rfl) rfl (by show 2 * 0 + _ ≤ _; exact Nat.le_of_eq rfl) (hb hby d25_1) (fun _ _ => ⟨rfl, e0, (by decide : 0 + 0 ≤ _), (by decide : 0 + 0 ≤ _)⟩)
    dsimp only [Pt.U, Pt.locs, Pt.cells, Pt.slots] at X444 l444 y444 z444 st444 hQ444
    subst l444 y444 z444
    obtain ⟨rfl, Nq444, eq444⟩ := hQ444
    have N444 := Fr.app N0 Nq444
    have go444 : Goes p e below s₁ (G_cpA m a1 k) T444 (mkF m 4 #[vR a1, vI (Int32.ofNat k), uN] [(.int (1 : Int32))]) := fun tq kq => go443 tq (st444.trans kq)
    have go445 : Goes p e below s₁ (G_cpA m a1 k) T444 (mkF m 9 #[vR a1, vI (Int32.ofNat k), uN] [(.ref a1), (.int (Int32.ofNat k))]) := fun tq kq => go444 tq (by
      show Sx p e below T444 (mkF m 4 #[vR a1, vI (Int32.ofNat k), uN] [(.int (1 : Int32))]) _
      refine XS.ifNo X444.here hx rfl (hb hby d25_4) rfl ((if0 _ _).trans (feq (by decide)).1) ?_
      show Sx p e below T444 (mkF m 7 #[vR a1, vI (Int32.ofNat k), uN] []) _
      refine XS.iloadN X444.here hx rfl (hb hby d25_7) rfl ?_
      refine XS.aloadN X444.here hx rfl (hb hby d25_8) rfl rfl ?_
      exact kq)
    obtain ⟨T446, X446, e446, st446⟩ := getF X444 hx hZ hown (host := "") (Or.inl (tw30 hw)) Via.refl eq444 eev (g := (mkF m 9 #[vR a1, vI (Int32.ofNat k), uN] [(.ref a1), (.int (Int32.ofNat k))])) rfl rfl (hb hby d25_9)
    have go446 : Goes p e below s₁ (G_cpA m a1 k) T446 (mkF m 12 #[vR a1, vI (Int32.ofNat k), uN] [(.ref tt), (.int (Int32.ofNat k))]) := fun tq kq => go445 tq (st446 _ kq)
    obtain ⟨cl447, Ar447, q447, S447, N_447, H447, G447⟩ := id (Ved)
    have go448 : Goes p e below s₁ (G_cpA m a1 k) T446 (mkF m 13 #[vR a1, vI (Int32.ofNat k), uN] [(.int (Int32.ofNat cs.length)), (.int (Int32.ofNat k))]) := fun tq kq => go446 tq (by
      show Sx p e below T446 (mkF m 12 #[vR a1, vI (Int32.ofNat k), uN] [(.ref tt), (.int (Int32.ofNat k))]) _
      refine X446.arraylength hx (by rw [e446]; exact Ar447.1) (State.isArrayOf_alike hZ.alike Ar447.2.1) (g := (mkF m 12 #[vR a1, vI (Int32.ofNat k), uN] [(.ref tt), (.int (Int32.ofNat k))])) rfl rfl (hb hby d25_12) _ ?_
      rw [len_of S447 N_447]
      exact kq)
    obtain ⟨vv449, _, ⟨T449, L449, k449, n449⟩, -, X449, ⟨Lc449, hQ449, l449, y449, z449⟩, st449⟩ := Jvm.LawKit.callS X446 hx (y := (⟨"java/lang/String", "checkIndex", "(II)V"⟩ : MethodName)) hown (mvT hZ (tw114 hw)) (mvT hZ (tw115 hw)) (mvT hZ (tw12 hw)) (mvT hZ (tw116 hw)) (by decide) (backOf (W := 0) (cks l Z a0 hw [] (Int32.ofNat k) (Int32.ofNat cs.length) fm h0 n0 Z0 O0 FM hfm (own_nn (by omega)) (own_lt (by omega) hk)) hZ (tw116 hw) (tw12 hw) (by decide) (by decide)) (g := (mkF m 13 #[vR a1, vI (Int32.ofNat k), uN] [(.int (Int32.ofNat cs.length)), (.int (Int32.ofNat k))])) rfl (by rw [hml]; rfl) (argsL := [(.int (Int32.ofNat k)), (.int (Int32.ofNat cs.length))]) (rest := []) (lenOf pd_14 rfl) rfl (by show 2 * 0 + _ ≤ _; exact Nat.le_of_eq rfl) (hb hby d25_13) (fun _ _ => ⟨rfl, e446, (by decide : 0 + 0 ≤ _), (by decide : 0 + 0 ≤ _)⟩)
    dsimp only [Pt.U, Pt.locs, Pt.cells, Pt.slots] at X449 l449 y449 z449 st449 hQ449
    subst l449 y449 z449
    obtain ⟨rfl, Nq449, eq449⟩ := hQ449
    have N449 := Fr.app N444 Nq449
    have go449 : Goes p e below s₁ (G_cpA m a1 k) T449 (mkF m 16 #[vR a1, vI (Int32.ofNat k), uN] []) := fun tq kq => go448 tq (st449 _ kq)
    have go450 : Goes p e below s₁ (G_cpA m a1 k) T449 (mkF m 17 #[vR a1, vI (Int32.ofNat k), uN] [(.ref a1)]) := fun tq kq => go449 tq (by
      show Sx p e below T449 (mkF m 16 #[vR a1, vI (Int32.ofNat k), uN] []) _
      refine XS.aloadN X449.here hx rfl (hb hby d25_16) rfl rfl ?_
      exact kq)
    obtain ⟨T451, X451, e451, st451⟩ := getF X449 hx hZ hown (host := "") (Or.inl (tw30 hw)) Via.refl eq449 eev (g := (mkF m 17 #[vR a1, vI (Int32.ofNat k), uN] [(.ref a1)])) rfl rfl (hb hby d25_17)
    have go451 : Goes p e below s₁ (G_cpA m a1 k) T451 (mkF m 20 #[vR a1, vI (Int32.ofNat k), uN] [(.ref tt)]) := fun tq kq => go450 tq (st451 _ kq)
    have go452 : Goes p e below s₁ (G_cpA m a1 k) T451 (mkF m 21 #[vR a1, vI (Int32.ofNat k), uN] [(.int (Int32.ofNat k)), (.ref tt)]) := fun tq kq => go451 tq (by
      show Sx p e below T451 (mkF m 20 #[vR a1, vI (Int32.ofNat k), uN] [(.ref tt)]) _
      refine XS.iloadN X451.here hx rfl (hb hby d25_20) rfl ?_
      exact kq)
    obtain ⟨cl453, Ar453, q453, S453, N_453, H453, G453⟩ := id (Ved)
    have hin453 : ¬ ((Int32.ofNat k) < 0 ∨ cl453.slots.size ≤ ((Int32.ofNat k)).toNatClampNeg) := inb_of S453 ⟨own_nn (by omega), own_lt (by omega) hk⟩
    have hat453 := Has.at H453 hin453 (v := (.int (StrChars.lo8 (cs.getD k 0)))) (by rw [own_cl (by omega)]; exact StrChars.Road.low_at _ cs k hk)
    have go454 : Goes p e below s₁ (G_cpA m a1 k) T451 (mkF m 26 #[vR a1, vI (Int32.ofNat k), uN] [(.int ((StrChars.lo8 (cs.getD k 0)) &&& (255 : Int32)))]) := fun tq kq => go452 tq (by
      show Sx p e below T451 (mkF m 21 #[vR a1, vI (Int32.ofNat k), uN] [(.int (Int32.ofNat k)), (.ref tt)]) _
      refine X451.baloadBytes hx (j := (Int32.ofNat k)) (v := (.int (StrChars.lo8 (cs.getD k 0)))) (by rw [e451]; exact Ar453.1) (State.isArrayOf_alike hZ.alike Ar453.2.1) Ar453.2.2 hin453 hat453 (g := (mkF m 21 #[vR a1, vI (Int32.ofNat k), uN] [(.int (Int32.ofNat k)), (.ref tt)])) rfl rfl (hb hby d25_21) _ ?_
      show Sx p e below T451 (mkF m 22 #[vR a1, vI (Int32.ofNat k), uN] [(.int (StrChars.lo8 (cs.getD k 0)))]) _
      refine XS.sipush X451.here hx rfl (hb hby d25_22) ?_
      refine XS.iand X451.here hx rfl (hb hby d25_25) rfl ?_
      exact kq)
    have hcA := own_at eeb hk
    have hlA : ¬ (255 : Int32) < (cs.getD k 0) := own_at (P := fun c => ¬ (255 : Int32) < c) hle hk
    obtain ⟨fs, hr, hrun, hended, hW, hsame⟩ := X451.leave (v := some (.int ((StrChars.lo8 (cs.getD k 0)) &&& (255 : Int32)))) (fun h => by rw [Bd.returns] at h; cases h)
    refine ⟨_, _, go454 _ ?_, hrun, hended, _, _, rfl, ?_, ⟨_, rfl⟩, hW, hsame.mono (by decide) (by decide)⟩
    · exact retI X451 hx Bd.returns (hb hby d25_26) hr
    · show Q_cpA Z a1 k tt kB cd N cz vs cs fm h0 n0 _ T451.heap _
      rw [e451]
      exact ⟨congrArg (fun z => some (Value.int z)) ((StrChars.lo8_mask hcA.1 hlA).trans (if_pos (own_hs0 hlA)).symm), N449, rfl⟩
  · have Fcd : Fld Z h0 a1 "java/lang/String" "coder" "B" (.int (1 : Int32)) := by have q := eec; rw [ecd] at q; exact q
    have Ved : Arv Z h0 tt kB .byte (Int32.ofNat (2 * cs.length)) (StrChars.Road.wideBytes cs) (.int (0 : Int32)) := by have q := eew; rw [eN, evs] at q; exact q
    have go455 : Goes p e below s₁ (G_cpA m a1 k) s₁ (mkF m 1 #[vR a1, vI (Int32.ofNat k), uN] [(.ref a1)]) := fun tq kq => go0 tq (by
      show Sx p e below s₁ (mkF m 0 #[vR a1, vI (Int32.ofNat k), uN] []) _
      refine XS.aloadN X0.here hx rfl (hb hby d25_0) rfl rfl ?_
      exact kq)
    obtain ⟨cq456, kq456, q456a, q456b, q456c⟩ := isOf hZ e0 eee
    obtain ⟨vv456, _, ⟨T456, L456, k456, n456⟩, -, X456, ⟨Lc456, hQ456, l456, y456, z456⟩, st456⟩ := X0.virtualBack hx (y := (⟨"java/lang/String", "isLatin1", "()Z"⟩ : MethodName)) (z := (⟨"java/lang/String", "isLatin1", "()Z"⟩ : MethodName)) hown (mvT hZ (tw109 hw)) (mvT hZ (tw110 hw)) (notFace_of_selects (args := #[]) (mvT hZ (tw112 hw))) (mvT hZ (tw112 hw)) (mvT hZ (tw111 hw)) (by decide) (backOf (W := 0) (il1 l Z a0 hw [] a1 cz h0 n0 Z0 O0 SC hz Fcd) hZ (tw113 hw) (tw12 hw) (by decide) (by decide)) q456a q456c (g := (mkF m 1 #[vR a1, vI (Int32.ofNat k), uN] [(.ref a1)])) rfl (by rw [hml]; rfl) (Steps.refl _) (argsL := []) (rest := []) (lenOf pd_13 rfl) rfl (by show 2 * 0 + _ ≤ _; exact Nat.le_of_eq rfl) (hb hby d25_1) (fun _ _ => ⟨rfl, e0, (by decide : 0 + 0 ≤ _), (by decide : 0 + 0 ≤ _)⟩)
    dsimp only [Pt.U, Pt.locs, Pt.cells, Pt.slots] at X456 l456 y456 z456 st456 hQ456
    subst l456 y456 z456
    obtain ⟨rfl, Nq456, eq456⟩ := hQ456
    have N456 := Fr.app N0 Nq456
    have go456 : Goes p e below s₁ (G_cpA m a1 k) T456 (mkF m 4 #[vR a1, vI (Int32.ofNat k), uN] [(.int (0 : Int32))]) := fun tq kq => go455 tq (st456.trans kq)
    have go457 : Goes p e below s₁ (G_cpA m a1 k) T456 (mkF m 28 #[vR a1, vI (Int32.ofNat k), uN] [(.ref a1)]) := fun tq kq => go456 tq (by
      show Sx p e below T456 (mkF m 4 #[vR a1, vI (Int32.ofNat k), uN] [(.int (0 : Int32))]) _
      refine XS.ifYes X456.here hx rfl (pc0 := 4) (pc' := 27) rfl (hb hby d25_4) rfl ((if0 _ _).trans (teq (by decide)).1) (by decide) (by decide) ?_
      show Sx p e below T456 (mkF m 27 #[vR a1, vI (Int32.ofNat k), uN] []) _
      refine XS.aloadN X456.here hx rfl (hb hby d25_27) rfl rfl ?_
      exact kq)
    obtain ⟨T458, X458, e458, st458⟩ := getF X456 hx hZ hown (host := "") (Or.inl (tw30 hw)) Via.refl eq456 eev (g := (mkF m 28 #[vR a1, vI (Int32.ofNat k), uN] [(.ref a1)])) rfl rfl (hb hby d25_28)
    have go458 : Goes p e below s₁ (G_cpA m a1 k) T458 (mkF m 31 #[vR a1, vI (Int32.ofNat k), uN] [(.ref tt)]) := fun tq kq => go457 tq (st458 _ kq)
    obtain ⟨cl459, Ar459, q459, S459, N_459, H459, G459⟩ := id (Ved)
    have go460 : Goes p e below s₁ (G_cpA m a1 k) T458 (mkF m 35 #[vR a1, vI (Int32.ofNat k), vI ((Int32.ofNat (2 * cs.length)) >>> ((1 : Int32) &&& 31))] []) := fun tq kq => go458 tq (by
      show Sx p e below T458 (mkF m 31 #[vR a1, vI (Int32.ofNat k), uN] [(.ref tt)]) _
      refine X458.arraylength hx (by rw [e458]; exact Ar459.1) (State.isArrayOf_alike hZ.alike Ar459.2.1) (g := (mkF m 31 #[vR a1, vI (Int32.ofNat k), uN] [(.ref tt)])) rfl rfl (hb hby d25_31) _ ?_
      rw [len_of S459 N_459]
      show Sx p e below T458 (mkF m 32 #[vR a1, vI (Int32.ofNat k), uN] [(.int (Int32.ofNat (2 * cs.length)))]) _
      refine XS.iconst X458.here hx rfl (hb hby d25_32) ?_
      refine XS.ishr X458.here hx rfl (hb hby d25_33) rfl ?_
      show Sx p e below T458 (mkF m 34 #[vR a1, vI (Int32.ofNat k), uN] [(.int ((Int32.ofNat (2 * cs.length)) >>> ((1 : Int32) &&& 31)))]) _
      refine XS.istoreN X458.here hx rfl (hb hby d25_34) rfl (l' := #[vR a1, vI (Int32.ofNat k), vI ((Int32.ofNat (2 * cs.length)) >>> ((1 : Int32) &&& 31))]) rfl ?_
      exact kq)
    rw [StrChars.shr1 (by omega)] at go460
    have go461 : Goes p e below s₁ (G_cpA m a1 k) T458 (mkF m 37 #[vR a1, vI (Int32.ofNat k), vI (Int32.ofNat cs.length)] [(.int (Int32.ofNat cs.length)), (.int (Int32.ofNat k))]) := fun tq kq => go460 tq (by
      show Sx p e below T458 (mkF m 35 #[vR a1, vI (Int32.ofNat k), vI (Int32.ofNat cs.length)] []) _
      refine XS.iloadN X458.here hx rfl (hb hby d25_35) rfl ?_
      show Sx p e below T458 (mkF m 36 #[vR a1, vI (Int32.ofNat k), vI (Int32.ofNat cs.length)] [(.int (Int32.ofNat k))]) _
      refine XS.iloadN X458.here hx rfl (hb hby d25_36) rfl ?_
      exact kq)
    obtain ⟨vv462, _, ⟨T462, L462, k462, n462⟩, -, X462, ⟨Lc462, hQ462, l462, y462, z462⟩, st462⟩ := Jvm.LawKit.callS X458 hx (y := (⟨"java/lang/String", "checkIndex", "(II)V"⟩ : MethodName)) hown (mvT hZ (tw114 hw)) (mvT hZ (tw115 hw)) (mvT hZ (tw12 hw)) (mvT hZ (tw116 hw)) (by decide) (backOf (W := 0) (cks l Z a0 hw [] (Int32.ofNat k) (Int32.ofNat cs.length) fm h0 n0 Z0 O0 FM hfm (own_nn (by omega)) (own_lt (by omega) hk)) hZ (tw116 hw) (tw12 hw) (by decide) (by decide)) (g := (mkF m 37 #[vR a1, vI (Int32.ofNat k), vI (Int32.ofNat cs.length)] [(.int (Int32.ofNat cs.length)), (.int (Int32.ofNat k))])) rfl (by rw [hml]; rfl) (argsL := [(.int (Int32.ofNat k)), (.int (Int32.ofNat cs.length))]) (rest := []) (lenOf pd_14 rfl) rfl (by show 2 * 0 + _ ≤ _; exact Nat.le_of_eq rfl) (hb hby d25_37) (fun _ _ => ⟨rfl, e458, (by decide : 0 + 0 ≤ _), (by decide : 0 + 0 ≤ _)⟩)
    dsimp only [Pt.U, Pt.locs, Pt.cells, Pt.slots] at X462 l462 y462 z462 st462 hQ462
    subst l462 y462 z462
    obtain ⟨rfl, Nq462, eq462⟩ := hQ462
    have N462 := Fr.app N456 Nq462
    have go462 : Goes p e below s₁ (G_cpA m a1 k) T462 (mkF m 40 #[vR a1, vI (Int32.ofNat k), vI (Int32.ofNat cs.length)] []) := fun tq kq => go461 tq (st462 _ kq)
    have go463 : Goes p e below s₁ (G_cpA m a1 k) T462 (mkF m 41 #[vR a1, vI (Int32.ofNat k), vI (Int32.ofNat cs.length)] [(.ref a1)]) := fun tq kq => go462 tq (by
      show Sx p e below T462 (mkF m 40 #[vR a1, vI (Int32.ofNat k), vI (Int32.ofNat cs.length)] []) _
      refine XS.aloadN X462.here hx rfl (hb hby d25_40) rfl rfl ?_
      exact kq)
    obtain ⟨T464, X464, e464, st464⟩ := getF X462 hx hZ hown (host := "") (Or.inl (tw30 hw)) Via.refl eq462 eev (g := (mkF m 41 #[vR a1, vI (Int32.ofNat k), vI (Int32.ofNat cs.length)] [(.ref a1)])) rfl rfl (hb hby d25_41)
    have go464 : Goes p e below s₁ (G_cpA m a1 k) T464 (mkF m 44 #[vR a1, vI (Int32.ofNat k), vI (Int32.ofNat cs.length)] [(.ref tt)]) := fun tq kq => go463 tq (st464 _ kq)
    have go465 : Goes p e below s₁ (G_cpA m a1 k) T464 (mkF m 46 #[vR a1, vI (Int32.ofNat k), vI (Int32.ofNat cs.length)] [(.int (Int32.ofNat cs.length)), (.int (Int32.ofNat k)), (.ref tt)]) := fun tq kq => go464 tq (by
      show Sx p e below T464 (mkF m 44 #[vR a1, vI (Int32.ofNat k), vI (Int32.ofNat cs.length)] [(.ref tt)]) _
      refine XS.iloadN X464.here hx rfl (hb hby d25_44) rfl ?_
      refine XS.iloadN X464.here hx rfl (hb hby d25_45) rfl ?_
      exact kq)
    obtain ⟨vv466, _, ⟨T466, L466, k466, n466⟩, -, X466, ⟨Lc466, hQ466, l466, y466, z466⟩, st466⟩ := Jvm.LawKit.callS X464 hx (y := (⟨"java/lang/StringUTF16", "codePointAt", "([BII)I"⟩ : MethodName)) hown (mvT hZ (tw122 hw)) (mvT hZ (tw123 hw)) (mvT hZ (tw70 hw)) (mvT hZ (tw124 hw)) (by decide) (backOf (W := 0) (u8 l Z a0 hw [] tt k cs kB h0 n0 Z0 O0 AD HI LO Ved hk eel eeb) hZ (tw124 hw) (tw70 hw) (by decide) (by decide)) (g := (mkF m 46 #[vR a1, vI (Int32.ofNat k), vI (Int32.ofNat cs.length)] [(.int (Int32.ofNat cs.length)), (.int (Int32.ofNat k)), (.ref tt)])) rfl (by rw [hml]; rfl) (argsL := [(.ref tt), (.int (Int32.ofNat k)), (.int (Int32.ofNat cs.length))]) (rest := []) (lenOf pd_15 rfl) rfl (by show 2 * 0 + _ ≤ _; exact Nat.le_of_eq rfl) (hb hby d25_46) (fun _ _ => ⟨rfl, e464, (by decide : 0 + 0 ≤ _), (by decide : 0 + 0 ≤ _)⟩)
    dsimp only [Pt.U, Pt.locs, Pt.cells, Pt.slots] at X466 l466 y466 z466 st466 hQ466
    subst l466 y466 z466
    obtain ⟨rfl, Nq466, eq466⟩ := hQ466
    have N466 := Fr.app N462 Nq466
    have go466 : Goes p e below s₁ (G_cpA m a1 k) T466 (mkF m 49 #[vR a1, vI (Int32.ofNat k), vI (Int32.ofNat cs.length)] [(.int (cpv cs k))]) := fun tq kq => go465 tq (st466 _ kq)
    obtain ⟨fs, hr, hrun, hended, hW, hsame⟩ := X466.leave (v := some (.int (cpv cs k))) (fun h => by rw [Bd.returns] at h; cases h)
    refine ⟨_, _, go466 _ ?_, hrun, hended, _, _, rfl, ?_, ⟨_, rfl⟩, hW, hsame.mono (by decide) (by decide)⟩
    · exact retI X466 hx Bd.returns (hb hby d25_49) hr
    · show Q_cpA Z a1 k tt kB cd N cz vs cs fm h0 n0 _ T466.heap _
      rw [eq466]
      exact ⟨rfl, N466, rfl⟩
def cmpv (cs ds : List Int32) : Nat → Nat → Int32
  | 0, _ => 0
  | f + 1, k => if k < cs.length ∧ k < ds.length then (if cpv cs k = cpv ds k then (if cpv cs k < (65536 : Int32) then cmpv cs ds f (k + 1) else cmpv cs ds f (k + 2)) else icv (cpv cs k) (cpv ds k)) else icv (Int32.ofNat cs.length) (Int32.ofNat ds.length)
section Cm
variable {cs ds : List Int32} {f k : Nat}
theorem cm_x (h : ¬ (k < cs.length ∧ k < ds.length)) : cmpv cs ds (f + 1) k = icv (Int32.ofNat cs.length) (Int32.ofNat ds.length) := by unfold cmpv; exact if_neg h
theorem cm_n (h : k < cs.length ∧ k < ds.length) (e : ¬ cpv cs k = cpv ds k) : cmpv cs ds (f + 1) k = icv (cpv cs k) (cpv ds k) := by
  have q : cmpv cs ds (f + 1) k = if k < cs.length ∧ k < ds.length then (if cpv cs k = cpv ds k then (if cpv cs k < (65536 : Int32) then cmpv cs ds f (k + 1) else cmpv cs ds f (k + 2)) else icv (cpv cs k) (cpv ds k)) else icv (Int32.ofNat cs.length) (Int32.ofNat ds.length) := by rw [cmpv]
  exact q.trans ((if_pos h).trans (if_neg e))
theorem cm_1 (h : k < cs.length ∧ k < ds.length) (e : cpv cs k = cpv ds k) (w : cpv cs k < (65536 : Int32)) : cmpv cs ds (f + 1) k = cmpv cs ds f (k + 1) := by
  have q : cmpv cs ds (f + 1) k = if k < cs.length ∧ k < ds.length then (if cpv cs k = cpv ds k then (if cpv cs k < (65536 : Int32) then cmpv cs ds f (k + 1) else cmpv cs ds f (k + 2)) else icv (cpv cs k) (cpv ds k)) else icv (Int32.ofNat cs.length) (Int32.ofNat ds.length) := by rw [cmpv]
  exact q.trans ((if_pos h).trans ((if_pos e).trans (if_pos w)))
theorem cm_2 (h : k < cs.length ∧ k < ds.length) (e : cpv cs k = cpv ds k) (w : ¬ cpv cs k < (65536 : Int32)) : cmpv cs ds (f + 1) k = cmpv cs ds f (k + 2) := by
  have q : cmpv cs ds (f + 1) k = if k < cs.length ∧ k < ds.length then (if cpv cs k = cpv ds k then (if cpv cs k < (65536 : Int32) then cmpv cs ds f (k + 1) else cmpv cs ds f (k + 2)) else icv (cpv cs k) (cpv ds k)) else icv (Int32.ofNat cs.length) (Int32.ofNat ds.length) := by rw [cmpv]
  exact q.trans ((if_pos h).trans ((if_pos e).trans (if_neg w)))
end Cm
theorem own_c16lt {c : Int32} (h : C16 c) : c < (65536 : Int32) := by
  have e : (65535 : Int32).toInt = 65535 := by decide
  have e2 : (65536 : Int32).toInt = 65536 := by decide
  have q := h.2.1
  rw [Int32.lt_iff_toInt_lt, e] at q
  rw [Int32.lt_iff_toInt_lt, e2]; omega
theorem own_pair {cs : List Int32} {k : Nat} (hk : k < cs.length) (hcs : ∀ c ∈ cs, C16 c) (h : ¬ cpv cs k < (65536 : Int32)) : k + 1 < cs.length := by
  by_cases q : k + 1 < cs.length
  · exact q
  · exfalso
    apply h
    have e : cpv cs k = cs.getD k 0 := by
      unfold cpv
      by_cases a : hsv (cs.getD k 0) = 0
      · exact if_pos a
      · exact (if_neg a).trans (if_neg q)
    rw [e]; exact own_c16lt (own_at hcs hk)
def SlU (u3 u4 : Slot) : Prop := (u3 = .unset ∧ u4 = .unset) ∨ ∃ x y : Int32, u3 = .val (.int x) ∧ u4 = .val (.int y)
theorem own_sl3 {a1 a2 : Addr} {i p : Int32} {u3 u4 : Slot} (h : SlU u3 u4) : storeLocals #[.val (.ref a1), .val (.ref a2), .val (.int i), u3, u4] 3 (.int p) = some #[.val (.ref a1), .val (.ref a2), .val (.int i), .val (.int p), u4] := by
  rcases h with ⟨rfl, rfl⟩ | ⟨x, y, rfl, rfl⟩ <;> rfl
theorem own_sl4 {a1 a2 : Addr} {i p q : Int32} {u3 u4 : Slot} (h : SlU u3 u4) : storeLocals #[.val (.ref a1), .val (.ref a2), .val (.int i), .val (.int p), u4] 4 (.int q) = some #[.val (.ref a1), .val (.ref a2), .val (.int i), .val (.int p), .val (.int q)] := by
  rcases h with ⟨rfl, rfl⟩ | ⟨x, y, rfl, rfl⟩ <;> rfl
abbrev G_rmCmp (m : MethodId) (a1 : Addr) (a2 : Addr) : JFrame := (entryFrame m #[(.ref a1), (.ref a2)] 5)
theorem d6_0 : decode prog_10_method_7_code 0 = .ok (.iconst 0, 1) := by decide +kernel
theorem d6_1 : decode prog_10_method_7_code 1 = .ok (.istore_n 2, 1) := by decide +kernel
theorem d6_2 : decode prog_10_method_7_code 2 = .ok (.iload_n 2, 1) := by decide +kernel
theorem d6_3 : decode prog_10_method_7_code 3 = .ok (.aload_n 0, 1) := by decide +kernel
theorem d6_4 : decode prog_10_method_7_code 4 = .ok (.invokevirtual 33, 3) := by decide +kernel
theorem pd_16 : parseMethodDescriptor "()I" = some ⟨[], some .int⟩ := by decide +kernel
theorem d6_7 : decode prog_10_method_7_code 7 = .ok (.if_icmp .ge 47, 3) := by decide +kernel
theorem d6_54 : decode prog_10_method_7_code 54 = .ok (.aload_n 0, 1) := by decide +kernel
theorem d6_55 : decode prog_10_method_7_code 55 = .ok (.invokevirtual 33, 3) := by decide +kernel
theorem d6_58 : decode prog_10_method_7_code 58 = .ok (.aload_n 1, 1) := by decide +kernel
theorem d6_59 : decode prog_10_method_7_code 59 = .ok (.invokevirtual 33, 3) := by decide +kernel
theorem d6_62 : decode prog_10_method_7_code 62 = .ok (.invokestatic 158, 3) := by decide +kernel
theorem pd_17 : parseMethodDescriptor "(II)I" = some ⟨[.int, .int], some .int⟩ := by decide +kernel
theorem d6_65 : decode prog_10_method_7_code 65 = .ok (.ireturn, 1) := by decide +kernel
theorem d6_10 : decode prog_10_method_7_code 10 = .ok (.iload_n 2, 1) := by decide +kernel
theorem d6_11 : decode prog_10_method_7_code 11 = .ok (.aload_n 1, 1) := by decide +kernel
theorem d6_12 : decode prog_10_method_7_code 12 = .ok (.invokevirtual 33, 3) := by decide +kernel
theorem d6_15 : decode prog_10_method_7_code 15 = .ok (.if_icmp .ge 39, 3) := by decide +kernel
theorem d6_18 : decode prog_10_method_7_code 18 = .ok (.aload_n 0, 1) := by decide +kernel
theorem d6_19 : decode prog_10_method_7_code 19 = .ok (.iload_n 2, 1) := by decide +kernel
theorem d6_20 : decode prog_10_method_7_code 20 = .ok (.invokevirtual 155, 3) := by decide +kernel
theorem d6_23 : decode prog_10_method_7_code 23 = .ok (.istore_n 3, 1) := by decide +kernel
theorem d6_24 : decode prog_10_method_7_code 24 = .ok (.aload_n 1, 1) := by decide +kernel
theorem d6_25 : decode prog_10_method_7_code 25 = .ok (.iload_n 2, 1) := by decide +kernel
theorem d6_26 : decode prog_10_method_7_code 26 = .ok (.invokevirtual 155, 3) := by decide +kernel
theorem d6_29 : decode prog_10_method_7_code 29 = .ok (.istore 4, 2) := by decide +kernel
theorem d6_31 : decode prog_10_method_7_code 31 = .ok (.iload_n 3, 1) := by decide +kernel
theorem d6_32 : decode prog_10_method_7_code 32 = .ok (.iload 4, 2) := by decide +kernel
theorem d6_34 : decode prog_10_method_7_code 34 = .ok (.if_icmp .eq 10, 3) := by decide +kernel
theorem d6_37 : decode prog_10_method_7_code 37 = .ok (.iload_n 3, 1) := by decide +kernel
theorem d6_38 : decode prog_10_method_7_code 38 = .ok (.iload 4, 2) := by decide +kernel
theorem d6_40 : decode prog_10_method_7_code 40 = .ok (.invokestatic 158, 3) := by decide +kernel
theorem d6_43 : decode prog_10_method_7_code 43 = .ok (.ireturn, 1) := by decide +kernel
theorem d6_44 : decode prog_10_method_7_code 44 = .ok (.iload_n 2, 1) := by decide +kernel
theorem d6_45 : decode prog_10_method_7_code 45 = .ok (.iload_n 3, 1) := by decide +kernel
theorem d6_46 : decode prog_10_method_7_code 46 = .ok (.invokestatic 161, 3) := by decide +kernel
theorem d6_49 : decode prog_10_method_7_code 49 = .ok (.iadd, 1) := by decide +kernel
theorem d6_50 : decode prog_10_method_7_code 50 = .ok (.istore_n 2, 1) := by decide +kernel
theorem d6_51 : decode prog_10_method_7_code 51 = .ok (.goto (-49), 3) := by decide +kernel
def Q_rmCmp (Z : State) (a1 : Addr) (a2 : Addr) (ta tb : Addr) (ka kb : ClassId) (da Na db Nb cz : Int32) (va vb : List Value) (cs ds : List Int32) (fm : Value) (h0 : Heap) (n0 : Nat) (v : Option Value) (h : Heap) (L : List Loc) : Prop := v = some (.int (cmpv cs ds 4 0)) ∧ Fr n0 L ∧ h = h0
theorem pn_com_example_nuthatch_nuthatch_util_Text : plainName "com/example/nuthatch/nuthatch/util/Text" = true := by first | (simp [plainName, overriddenIn]; done) | decide +kernel
set_option maxRecDepth 65536 in
set_option maxHeartbeats 40000000 in
theorem rmCmp (l : Launch) (Z : State) (a0 : Array Value) (hw : ∀ d ∈ tables_1, d.before a0 Z = true) (ws : List Jvm.Cond) (a1 : Addr) (a2 : Addr) (ta tb : Addr) (ka kb : ClassId) (da Na db Nb cz : Int32) (va vb : List Value) (cs ds : List Int32) (fm : Value) (h0 : Heap) (n0 : Nat) (Z0 : n0 ≤ h0.size) (O0 : Old Z n0 h0) (AD : Sta Z Z.heap "java/lang/StringUTF16" "$assertionsDisabled" "Z" (.int (1 : Int32))) (HI : Sta Z Z.heap "java/lang/StringUTF16" "HI_BYTE_SHIFT" "I" (.int (0 : Int32))) (LO : Sta Z Z.heap "java/lang/StringUTF16" "LO_BYTE_SHIFT" "I" (.int (8 : Int32))) (SC : Sta Z Z.heap "java/lang/String" "COMPACT_STRINGS" "Z" (.int cz)) (hz : ¬ (cz = (0 : Int32))) (FM : Sta Z Z.heap "jdk/internal/util/Preconditions" "SIOOBE_FORMATTER" "Ljava/util/function/BiFunction;" fm) (hfm : fm = .null ∨ ∃ f : Addr, fm = .ref f) (uae : Exa Z h0 a1 "java/lang/String") (uac : Fld Z h0 a1 "java/lang/String" "coder" "B" (.int da)) (uav : Fld Z h0 a1 "java/lang/String" "value" "[B" (.ref ta)) (uaw : Arv Z h0 ta ka .byte Na va (.int 0)) (uad : StrChars.Road.CodA cs da Na va) (uab : ∀ c ∈ cs, C16 c) (ual : cs.length ≤ 3) (ube : Exa Z h0 a2 "java/lang/String") (ubc : Fld Z h0 a2 "java/lang/String" "coder" "B" (.int db)) (ubv : Fld Z h0 a2 "java/lang/String" "value" "[B" (.ref tb)) (ubw : Arv Z h0 tb kb .byte Nb vb (.int 0)) (ubd : StrChars.Road.CodA ds db Nb vb) (ubb : ∀ c ∈ ds, C16 c) (ubl : ds.length ≤ 3) :
    MetFree l (⟨"com/example/nuthatch/nuthatch/util/Text", "compareCodePoints", "(Ljava/lang/String;Ljava/lang/String;)I"⟩ : MethodName) (head1 (Jvm.Cond.code (⟨"com/example/nuthatch/nuthatch/util/Text", "compareCodePoints", "(Ljava/lang/String;Ljava/lang/String;)I"⟩ : MethodName) prog_10_method_7_code 5 (some .int) :: ws) ({ frames := 4, cells := 0, slots := 0, locals := 58 } : Room)) (fun a U => a = #[(.ref a1), (.ref a2)] ∧ Z.Warmed39 U.vm ∧ U.heap = h0) (fun _ _ _ _ _ => True) (fun _ U o U' => ∃ v L, o = .returned v ∧ Q_rmCmp Z a1 a2 ta tb ka kb da Na db Nb cz va vb cs ds fm h0 n0 v U'.heap L ∧ FrameEnd U o U' L ({ frames := 4, cells := 0, slots := 0, locals := 58 } : Room).cells ({ frames := 4, cells := 0, slots := 0, locals := 58 } : Room).slots) := by
  refine MetFree.of_bodySF (plainFor_of_name pn_com_example_nuthatch_nuthatch_util_Text) hisR ?_
  intro p e s m args below meth c s₁ Bd hml0 hP hK
  obtain ⟨rfl, hZ, hh⟩ := hP
  have hx := Bd.exec
  have hby := Bd.bytes
  have hml : c.maxLocals = 5 := hml0
  have hown : s.vm.findClass "com/example/nuthatch/nuthatch/util/Text" = some m.cls := findClass_of_methodNamed Bd.named
  have hnm := (name_of_methodNamed Bd.named Bd.method).1
  have X0 : Stand p l e ({ frames := 4, cells := 0, slots := 0, locals := 58 } : Room) s m #[(.ref a1), (.ref a2)] below meth c s₁ [] 0 0 := Stand.of_body Bd
  have e0 : s₁.heap = h0 := by rw [← hh, Bd.state]; rfl
  have N0 := Fr.nil n0
  have go0 : Goes p e below s₁ (G_rmCmp m a1 a2) s₁ (mkF m 0 #[vR a1, vR a2, uN, uN, uN] []) := fun tq kq => castTop (by first | (simp [entryFrame, mkF, argsToLocals, Value.category, vI, vJ, vR, vD, vN, uN, sD, G_rmCmp]; done) | rfl) kq
  have hwl : ∀ d ∈ StrChars.Road.wordsLen, d.before a0 Z = true := fun d hd => hw d ((by decide +kernel : ∀ d ∈ StrChars.Road.wordsLen, d ∈ tables_1) d hd)
  have go467 : Goes p e below s₁ (G_rmCmp m a1 a2) s₁ (mkF m 2 #[vR a1, vR a2, vI (0 : Int32), uN, uN] []) := fun tq kq => go0 tq (by
    show Sx p e below s₁ (mkF m 0 #[vR a1, vR a2, uN, uN, uN] []) _
    refine XS.iconst X0.here hx rfl (hb hby d6_0) ?_
    refine XS.istoreN X0.here hx rfl (hb hby d6_1) rfl (l' := #[vR a1, vR a2, vI (0 : Int32), uN, uN]) rfl ?_
    exact kq)
  refine (fun (key : ∀ (f k : Nat) (T : State) (locs : List Loc) (u3 u4 : Slot), 4 ≤ f + k → k ≤ 3 → SlU u3 u4 → cmpv cs ds 4 0 = cmpv cs ds f k → Stand p l e ({ frames := 4, cells := 0, slots := 0, locals := 58 } : Room) s m #[(.ref a1), (.ref a2)] below meth c T locs 0 0 → T.heap = h0 → Fr n0 locs → Goes p e below s₁ (G_rmCmp m a1 a2) T (mkF m 2 #[vR a1, vR a2, vI (Int32.ofNat k), u3, u4] []) → _) => key 4 0 s₁ [] .unset .unset (by decide) (by decide) (Or.inl ⟨rfl, rfl⟩) rfl X0 e0 N0 go467) ?_
  intro f
  induction f with
  | zero => intro k T locs u3 u4 hfk hk3; omega
  | succ f ih =>
    intro k T locs u3 u4 hfk hk3 hSl hval XK eK NK goK
    have go468 : Goes p e below s₁ (G_rmCmp m a1 a2) T (mkF m 4 #[vR a1, vR a2, vI (Int32.ofNat k), u3, u4] [(.ref a1), (.int (Int32.ofNat k))]) := fun tq kq => goK tq (by
      show Sx p e below T (mkF m 2 #[vR a1, vR a2, vI (Int32.ofNat k), u3, u4] []) _
      refine XS.iloadN XK.here hx rfl (hb hby d6_2) rfl ?_
      refine XS.aloadN XK.here hx rfl (hb hby d6_3) rfl rfl ?_
      exact kq)
    obtain ⟨cq469, kq469, q469a, q469b, q469c⟩ := isOf hZ eK uae
    obtain ⟨vv469, _, ⟨T469, L469, k469, n469⟩, -, X469, ⟨Lc469, hQ469, l469, y469, z469⟩, st469⟩ := XK.virtualBack hx (y := (⟨"java/lang/String", "length", "()I"⟩ : MethodName)) (z := (⟨"java/lang/String", "length", "()I"⟩ : MethodName)) hown (mvT hZ (tw36 hw)) (mvT hZ (tw37 hw)) (notFace_of_selects (args := #[]) (mvT hZ (tw39 hw))) (mvT hZ (tw39 hw)) (mvT hZ (tw38 hw)) (by decide) (StrChars.Road.lenW (W := 1) hZ hwl (kI := 4) (tw11 hw) uae uav uac uaw uad (fun c hc => ⟨(uab c hc).1, (uab c hc).2.1⟩) (SC.ext O0.2) hz (Nat.le_trans ual (by decide)) (by decide) (by decide)) q469a q469c (g := (mkF m 4 #[vR a1, vR a2, vI (Int32.ofNat k), u3, u4] [(.ref a1), (.int (Int32.ofNat k))])) rfl (by rw [hml]; rfl) (Steps.refl _) (argsL := []) (rest := [(.int (Int32.ofNat k))]) (lenOf pd_16 rfl) rfl (by show 2 * 0 + _ ≤ _; exact Nat.le_of_eq rfl) (hb hby d6_4) (fun _ _ => ⟨rfl, eK, (by decide : 0 + 0 ≤ _), (by decide : 0 + 0 ≤ _)⟩)
    dsimp only [Pt.U, Pt.locs, Pt.cells, Pt.slots] at X469 l469 y469 z469 st469 hQ469
    subst l469 y469 z469
    obtain ⟨rfl, hl469, eq469⟩ := hQ469
    have Nq469 : Fr n0 Lc469 := by rw [hl469]; exact Fr.nil n0
    have N469 := Fr.app NK Nq469
    have go469 : Goes p e below s₁ (G_rmCmp m a1 a2) T469 (mkF m 7 #[vR a1, vR a2, vI (Int32.ofNat k), u3, u4] [(.int (Int32.ofNat cs.length)), (.int (Int32.ofNat k))]) := fun tq kq => go468 tq (st469.trans kq)
    by_cases hA : k < cs.length
    · have go475 : Goes p e below s₁ (G_rmCmp m a1 a2) T469 (mkF m 12 #[vR a1, vR a2, vI (Int32.ofNat k), u3, u4] [(.ref a2), (.int (Int32.ofNat k))]) := fun tq kq => go469 tq (by
        show Sx p e below T469 (mkF m 7 #[vR a1, vR a2, vI (Int32.ofNat k), u3, u4] [(.int (Int32.ofNat cs.length)), (.int (Int32.ofNat k))]) _
        refine XS.icmpNo X469.here hx rfl (hb hby d6_7) rfl (tlt (own_lt (by omega) hA)).2.1 ?_
        refine XS.iloadN X469.here hx rfl (hb hby d6_10) rfl ?_
        show Sx p e below T469 (mkF m 11 #[vR a1, vR a2, vI (Int32.ofNat k), u3, u4] [(.int (Int32.ofNat k))]) _
        refine XS.aloadN X469.here hx rfl (hb hby d6_11) rfl rfl ?_
        exact kq)
      obtain ⟨cq476, kq476, q476a, q476b, q476c⟩ := isOf hZ eq469 ube
      obtain ⟨vv476, _, ⟨T476, L476, k476, n476⟩, -, X476, ⟨Lc476, hQ476, l476, y476, z476⟩, st476⟩ := X469.virtualBack hx (y := (⟨"java/lang/String", "length", "()I"⟩ : MethodName)) (z := (⟨"java/lang/String", "length", "()I"⟩ : MethodName)) hown (mvT hZ (tw36 hw)) (mvT hZ (tw37 hw)) (notFace_of_selects (args := #[]) (mvT hZ (tw39 hw))) (mvT hZ (tw39 hw)) (mvT hZ (tw38 hw)) (by decide) (StrChars.Road.lenW (W := 1) hZ hwl (kI := 4) (tw11 hw) ube ubv ubc ubw ubd (fun c hc => ⟨(ubb c hc).1, (ubb c hc).2.1⟩) (SC.ext O0.2) hz (Nat.le_trans ubl (by decide)) (by decide) (by decide)) q476a q476c (g := (mkF m 12 #[vR a1, vR a2, vI (Int32.ofNat k), u3, u4] [(.ref a2), (.int (Int32.ofNat k))])) rfl (by rw [hml]; rfl) (Steps.refl _) (argsL := []) (rest := [(.int (Int32.ofNat k))]) (lenOf pd_16 rfl) rfl (by show 2 * 0 + _ ≤ _; exact Nat.le_of_eq rfl) (hb hby d6_12) (fun _ _ => ⟨rfl, eq469, (by decide : 0 + 0 ≤ _), (by decide : 0 + 0 ≤ _)⟩)
      dsimp only [Pt.U, Pt.locs, Pt.cells, Pt.slots] at X476 l476 y476 z476 st476 hQ476
      subst l476 y476 z476
      obtain ⟨rfl, hl476, eq476⟩ := hQ476
      have Nq476 : Fr n0 Lc476 := by rw [hl476]; exact Fr.nil n0
      have N476 := Fr.app N469 Nq476
      have go476 : Goes p e below s₁ (G_rmCmp m a1 a2) T476 (mkF m 15 #[vR a1, vR a2, vI (Int32.ofNat k), u3, u4] [(.int (Int32.ofNat ds.length)), (.int (Int32.ofNat k))]) := fun tq kq => go475 tq (st476.trans kq)
      by_cases hB : k < ds.length
      · have go482 : Goes p e below s₁ (G_rmCmp m a1 a2) T476 (mkF m 20 #[vR a1, vR a2, vI (Int32.ofNat k), u3, u4] [(.int (Int32.ofNat k)), (.ref a1)]) := fun tq kq => go476 tq (by
          show Sx p e below T476 (mkF m 15 #[vR a1, vR a2, vI (Int32.ofNat k), u3, u4] [(.int (Int32.ofNat ds.length)), (.int (Int32.ofNat k))]) _
          refine XS.icmpNo X476.here hx rfl (hb hby d6_15) rfl (tlt (own_lt (by omega) hB)).2.1 ?_
          show Sx p e below T476 (mkF m 18 #[vR a1, vR a2, vI (Int32.ofNat k), u3, u4] []) _
          refine XS.aloadN X476.here hx rfl (hb hby d6_18) rfl rfl ?_
          refine XS.iloadN X476.here hx rfl (hb hby d6_19) rfl ?_
          exact kq)
        obtain ⟨cq483, kq483, q483a, q483b, q483c⟩ := isOf hZ eq476 uae
        obtain ⟨vv483, _, ⟨T483, L483, k483, n483⟩, -, X483, ⟨Lc483, hQ483, l483, y483, z483⟩, st483⟩ := X476.virtualBack hx (y := (⟨"java/lang/String", "codePointAt", "(I)I"⟩ : MethodName)) (z := (⟨"java/lang/String", "codePointAt", "(I)I"⟩ : MethodName)) hown (mvT hZ (tw104 hw)) (mvT hZ (tw105 hw)) (notFace_of_selects (args := #[]) (mvT hZ (tw107 hw))) (mvT hZ (tw107 hw)) (mvT hZ (tw106 hw)) (by decide) (backOf (W := 0) (cpA l Z a0 hw [] a1 k ta ka da Na cz va cs fm h0 n0 Z0 O0 AD HI LO SC hz FM hfm hA uae uac uav uaw uad uab ual) hZ (tw108 hw) (tw12 hw) (by decide) (by decide)) q483a q483c (g := (mkF m 20 #[vR a1, vR a2, vI (Int32.ofNat k), u3, u4] [(.int (Int32.ofNat k)), (.ref a1)])) rfl (by rw [hml]; rfl) (Steps.refl _) (argsL := [(.int (Int32.ofNat k))]) (rest := []) (lenOf pd_0 rfl) rfl (by show 2 * 0 + _ ≤ _; exact Nat.le_of_eq rfl) (hb hby d6_20) (fun _ _ => ⟨rfl, eq476, (by decide : 0 + 0 ≤ _), (by decide : 0 + 0 ≤ _)⟩)
        dsimp only [Pt.U, Pt.locs, Pt.cells, Pt.slots] at X483 l483 y483 z483 st483 hQ483
        subst l483 y483 z483
        obtain ⟨rfl, Nq483, eq483⟩ := hQ483
        have N483 := Fr.app N476 Nq483
        have go483 : Goes p e below s₁ (G_rmCmp m a1 a2) T483 (mkF m 23 #[vR a1, vR a2, vI (Int32.ofNat k), u3, u4] [(.int (cpv cs k))]) := fun tq kq => go482 tq (st483.trans kq)
        have go484 : Goes p e below s₁ (G_rmCmp m a1 a2) T483 (mkF m 26 #[vR a1, vR a2, vI (Int32.ofNat k), vI (cpv cs k), u4] [(.int (Int32.ofNat k)), (.ref a2)]) := fun tq kq => go483 tq (by
          show Sx p e below T483 (mkF m 23 #[vR a1, vR a2, vI (Int32.ofNat k), u3, u4] [(.int (cpv cs k))]) _
          refine XS.istoreN X483.here hx rfl (hb hby d6_23) rfl (l' := #[vR a1, vR a2, vI (Int32.ofNat k), vI (cpv cs k), u4]) (own_sl3 hSl) ?_
          refine XS.aloadN X483.here hx rfl (hb hby d6_24) rfl rfl ?_
          show Sx p e below T483 (mkF m 25 #[vR a1, vR a2, vI (Int32.ofNat k), vI (cpv cs k), u4] [(.ref a2)]) _
          refine XS.iloadN X483.here hx rfl (hb hby d6_25) rfl ?_
          exact kq)
        obtain ⟨cq485, kq485, q485a, q485b, q485c⟩ := isOf hZ eq483 ube
        obtain ⟨vv485, _, ⟨T485, L485, k485, n485⟩, -, X485, ⟨Lc485, hQ485, l485, y485, z485⟩, st485⟩ := X483.virtualBack hx (y := (⟨"java/lang/String", "codePointAt", "(I)I"⟩ : MethodName)) (z := (⟨"java/lang/String", "codePointAt", "(I)I"⟩ : MethodName)) hown (mvT hZ (tw104 hw)) (mvT hZ (tw105 hw)) (notFace_of_selects (args := #[]) (mvT hZ (tw107 hw))) (mvT hZ (tw107 hw)) (mvT hZ (tw106 hw)) (by decide) (backOf (W := 0) (cpA l Z a0 hw [] a2 k tb kb db Nb cz vb ds fm h0 n0 Z0 O0 AD HI LO SC hz FM hfm hB ube ubc ubv ubw ubd ubb ubl) hZ (tw108 hw) (tw12 hw) (by decide) (by decide)) q485a q485c (g := (mkF m 26 #[vR a1, vR a2, vI (Int32.ofNat k), vI (cpv cs k), u4] [(.int (Int32.ofNat k)), (.ref a2)])) rfl (by rw [hml]; rfl) (Steps.refl _) (argsL := [(.int (Int32.ofNat k))]) (rest := []) (lenOf pd_0 rfl) rfl (by show 2 * 0 + _ ≤ _; exact Nat.le_of_eq rfl) (hb hby d6_26) (fun _ _ => ⟨rfl, eq483, (by decide : 0 + 0 ≤ _), (by decide : 0 + 0 ≤ _)⟩)
        dsimp only [Pt.U, Pt.locs, Pt.cells, Pt.slots] at X485 l485 y485 z485 st485 hQ485
        subst l485 y485 z485
        obtain ⟨rfl, Nq485, eq485⟩ := hQ485
        have N485 := Fr.app N483 Nq485
        have go485 : Goes p e below s₁ (G_rmCmp m a1 a2) T485 (mkF m 29 #[vR a1, vR a2, vI (Int32.ofNat k), vI (cpv cs k), u4] [(.int (cpv ds k))]) := fun tq kq => go484 tq (st485.trans kq)
        have go486 : Goes p e below s₁ (G_rmCmp m a1 a2) T485 (mkF m 34 #[vR a1, vR a2, vI (Int32.ofNat k), vI (cpv cs k), vI (cpv ds k)] [(.int (cpv ds k)), (.int (cpv cs k))]) := fun tq kq => go485 tq (by
          show Sx p e below T485 (mkF m 29 #[vR a1, vR a2, vI (Int32.ofNat k), vI (cpv cs k), u4] [(.int (cpv ds k))]) _
          refine XS.istore X485.here hx rfl (hb hby d6_29) rfl (l' := #[vR a1, vR a2, vI (Int32.ofNat k), vI (cpv cs k), vI (cpv ds k)]) (own_sl4 hSl) ?_
          show Sx p e below T485 (mkF m 31 #[vR a1, vR a2, vI (Int32.ofNat k), vI (cpv cs k), vI (cpv ds k)] []) _
          refine XS.iloadN X485.here hx rfl (hb hby d6_31) rfl ?_
          refine XS.iload X485.here hx rfl (hb hby d6_32) rfl ?_
          exact kq)
        by_cases he : (cpv cs k) = (cpv ds k)
        · have go489 : Goes p e below s₁ (G_rmCmp m a1 a2) T485 (mkF m 46 #[vR a1, vR a2, vI (Int32.ofNat k), vI (cpv cs k), vI (cpv ds k)] [(.int (cpv cs k)), (.int (Int32.ofNat k))]) := fun tq kq => go486 tq (by
            show Sx p e below T485 (mkF m 34 #[vR a1, vR a2, vI (Int32.ofNat k), vI (cpv cs k), vI (cpv ds k)] [(.int (cpv ds k)), (.int (cpv cs k))]) _
            refine XS.icmpYes X485.here hx rfl (pc0 := 34) (pc' := 44) rfl (hb hby d6_34) rfl (teq he).1 (by decide) (by decide) ?_
            refine XS.iloadN X485.here hx rfl (hb hby d6_44) rfl ?_
            show Sx p e below T485 (mkF m 45 #[vR a1, vR a2, vI (Int32.ofNat k), vI (cpv cs k), vI (cpv ds k)] [(.int (Int32.ofNat k))]) _
            refine XS.iloadN X485.here hx rfl (hb hby d6_45) rfl ?_
            exact kq)
          obtain ⟨vv490, _, ⟨T490, L490, k490, n490⟩, -, X490, ⟨Lc490, hQ490, l490, y490, z490⟩, st490⟩ := Jvm.LawKit.callS X485 hx (y := (⟨"java/lang/Character", "charCount", "(I)I"⟩ : MethodName)) hown (mvT hZ (tw133 hw)) (mvT hZ (tw134 hw)) (mvT hZ (tw130 hw)) (mvT hZ (tw135 hw)) (by decide) (backOf (W := 1) (rmCc l Z a0 hw [] (cpv cs k)  h0 n0 Z0 ) hZ (tw135 hw) (tw130 hw) (by decide) (by decide)) (g := (mkF m 46 #[vR a1, vR a2, vI (Int32.ofNat k), vI (cpv cs k), vI (cpv ds k)] [(.int (cpv cs k)), (.int (Int32.ofNat k))])) rfl (by rw [hml]; rfl) (argsL := [(.int (cpv cs k))]) (rest := [(.int (Int32.ofNat k))]) (lenOf pd_0 rfl) rfl (by show 2 * 0 + _ ≤ _; exact Nat.le_of_eq rfl) (hb hby d6_46) (fun _ _ => ⟨rfl, eq485, (by decide : 0 + 0 ≤ _), (by decide : 0 + 0 ≤ _)⟩)
          dsimp only [Pt.U, Pt.locs, Pt.cells, Pt.slots] at X490 l490 y490 z490 st490 hQ490
          subst l490 y490 z490
          obtain ⟨rfl, Nq490, eq490⟩ := hQ490
          have N490 := Fr.app N485 Nq490
          have go490 : Goes p e below s₁ (G_rmCmp m a1 a2) T490 (mkF m 49 #[vR a1, vR a2, vI (Int32.ofNat k), vI (cpv cs k), vI (cpv ds k)] [(.int (ccv (cpv cs k))), (.int (Int32.ofNat k))]) := fun tq kq => go489 tq (st490 _ kq)
          by_cases hw_ : cpv cs k < (65536 : Int32)
          · have hcc : ccv (cpv cs k) = (1 : Int32) := if_pos hw_
            rw [hcc] at go490
            have go491 : Goes p e below s₁ (G_rmCmp m a1 a2) T490 (mkF m 50 #[vR a1, vR a2, vI (Int32.ofNat k), vI (cpv cs k), vI (cpv ds k)] [(.int ((Int32.ofNat k) + (1 : Int32)))]) := fun tq kq => go490 tq (by
              show Sx p e below T490 (mkF m 49 #[vR a1, vR a2, vI (Int32.ofNat k), vI (cpv cs k), vI (cpv ds k)] [(.int (1 : Int32)), (.int (Int32.ofNat k))]) _
              refine XS.iadd X490.here hx rfl (hb hby d6_49) rfl ?_
              exact kq)
            rw [own_inc] at go491
            have go492 : Goes p e below s₁ (G_rmCmp m a1 a2) T490 (mkF m 2 #[vR a1, vR a2, vI (Int32.ofNat (k + 1)), vI (cpv cs k), vI (cpv ds k)] []) := fun tq kq => go491 tq (by
              show Sx p e below T490 (mkF m 50 #[vR a1, vR a2, vI (Int32.ofNat k), vI (cpv cs k), vI (cpv ds k)] [(.int (Int32.ofNat (k + 1)))]) _
              refine XS.istoreN X490.here hx rfl (hb hby d6_50) rfl (l' := #[vR a1, vR a2, vI (Int32.ofNat (k + 1)), vI (cpv cs k), vI (cpv ds k)]) rfl ?_
              refine XS.goto X490.here hx rfl (pc0 := 51) (pc' := 2) rfl (hb hby d6_51) (by decide) (by decide) ?_
              exact kq)
            exact ih (k + 1) T490 _ _ _ (by omega) (by omega) (Or.inr ⟨_, _, rfl, rfl⟩) (hval.trans (cm_1 ⟨hA, hB⟩ he hw_)) X490 eq490 N490 go492
          · have hcc : ccv (cpv cs k) = (2 : Int32) := if_neg hw_
            rw [hcc] at go490
            have go493 : Goes p e below s₁ (G_rmCmp m a1 a2) T490 (mkF m 50 #[vR a1, vR a2, vI (Int32.ofNat k), vI (cpv cs k), vI (cpv ds k)] [(.int ((Int32.ofNat k) + (2 : Int32)))]) := fun tq kq => go490 tq (by
              show Sx p e below T490 (mkF m 49 #[vR a1, vR a2, vI (Int32.ofNat k), vI (cpv cs k), vI (cpv ds k)] [(.int (2 : Int32)), (.int (Int32.ofNat k))]) _
              refine XS.iadd X490.here hx rfl (hb hby d6_49) rfl ?_
              exact kq)
            rw [own_inc2] at go493
            have go494 : Goes p e below s₁ (G_rmCmp m a1 a2) T490 (mkF m 2 #[vR a1, vR a2, vI (Int32.ofNat (k + 2)), vI (cpv cs k), vI (cpv ds k)] []) := fun tq kq => go493 tq (by
              show Sx p e below T490 (mkF m 50 #[vR a1, vR a2, vI (Int32.ofNat k), vI (cpv cs k), vI (cpv ds k)] [(.int (Int32.ofNat (k + 2)))]) _
              refine XS.istoreN X490.here hx rfl (hb hby d6_50) rfl (l' := #[vR a1, vR a2, vI (Int32.ofNat (k + 2)), vI (cpv cs k), vI (cpv ds k)]) rfl ?_
              refine XS.goto X490.here hx rfl (pc0 := 51) (pc' := 2) rfl (hb hby d6_51) (by decide) (by decide) ?_
              exact kq)
            have hp2 := own_pair hA uab hw_
            exact ih (k + 2) T490 _ _ _ (by omega) (by omega) (Or.inr ⟨_, _, rfl, rfl⟩) (hval.trans (cm_2 ⟨hA, hB⟩ he hw_)) X490 eq490 N490 go494
        · have go487 : Goes p e below s₁ (G_rmCmp m a1 a2) T485 (mkF m 40 #[vR a1, vR a2, vI (Int32.ofNat k), vI (cpv cs k), vI (cpv ds k)] [(.int (cpv ds k)), (.int (cpv cs k))]) := fun tq kq => go486 tq (by
            show Sx p e below T485 (mkF m 34 #[vR a1, vR a2, vI (Int32.ofNat k), vI (cpv cs k), vI (cpv ds k)] [(.int (cpv ds k)), (.int (cpv cs k))]) _
            refine XS.icmpNo X485.here hx rfl (hb hby d6_34) rfl (feq he).1 ?_
            refine XS.iloadN X485.here hx rfl (hb hby d6_37) rfl ?_
            show Sx p e below T485 (mkF m 38 #[vR a1, vR a2, vI (Int32.ofNat k), vI (cpv cs k), vI (cpv ds k)] [(.int (cpv cs k))]) _
            refine XS.iload X485.here hx rfl (hb hby d6_38) rfl ?_
            exact kq)
          obtain ⟨vv488, _, ⟨T488, L488, k488, n488⟩, -, X488, ⟨Lc488, hQ488, l488, y488, z488⟩, st488⟩ := Jvm.LawKit.callS X485 hx (y := (⟨"java/lang/Integer", "compare", "(II)I"⟩ : MethodName)) hown (mvT hZ (tw47 hw)) (mvT hZ (tw48 hw)) (mvT hZ (tw49 hw)) (mvT hZ (tw50 hw)) (by decide) (backOf (W := 0) (rmIc l Z a0 hw [] (cpv cs k) (cpv ds k)  h0 n0 Z0 ) hZ (tw50 hw) (tw49 hw) (by decide) (by decide)) (g := (mkF m 40 #[vR a1, vR a2, vI (Int32.ofNat k), vI (cpv cs k), vI (cpv ds k)] [(.int (cpv ds k)), (.int (cpv cs k))])) rfl (by rw [hml]; rfl) (argsL := [(.int (cpv cs k)), (.int (cpv ds k))]) (rest := []) (lenOf pd_17 rfl) rfl (by show 2 * 0 + _ ≤ _; exact Nat.le_of_eq rfl) (hb hby d6_40) (fun _ _ => ⟨rfl, eq485, (by decide : 0 + 0 ≤ _), (by decide : 0 + 0 ≤ _)⟩)
          dsimp only [Pt.U, Pt.locs, Pt.cells, Pt.slots] at X488 l488 y488 z488 st488 hQ488
          subst l488 y488 z488
          obtain ⟨rfl, Nq488, eq488⟩ := hQ488
          have N488 := Fr.app N485 Nq488
          have go488 : Goes p e below s₁ (G_rmCmp m a1 a2) T488 (mkF m 43 #[vR a1, vR a2, vI (Int32.ofNat k), vI (cpv cs k), vI (cpv ds k)] [(.int (icv (cpv cs k) (cpv ds k)))]) := fun tq kq => go487 tq (st488 _ kq)
          obtain ⟨fs, hr, hrun, hended, hW, hsame⟩ := X488.leave (v := some (.int (icv (cpv cs k) (cpv ds k)))) (fun h => by rw [Bd.returns] at h; cases h)
          refine ⟨_, _, go488 _ ?_, hrun, hended, _, _, rfl, ?_, ⟨_, rfl⟩, hW, hsame.mono (by decide) (by decide)⟩
          · exact retI X488 hx Bd.returns (hb hby d6_43) hr
          · show Q_rmCmp Z a1 a2 ta tb ka kb da Na db Nb cz va vb cs ds fm h0 n0 _ T488.heap _
            rw [eq488]
            exact ⟨congrArg (fun z => some (Value.int z)) (hval.trans (cm_n ⟨hA, hB⟩ he)).symm, N488, rfl⟩
      · have go477 : Goes p e below s₁ (G_rmCmp m a1 a2) T476 (mkF m 55 #[vR a1, vR a2, vI (Int32.ofNat k), u3, u4] [(.ref a1)]) := fun tq kq => go476 tq (by
          show Sx p e below T476 (mkF m 15 #[vR a1, vR a2, vI (Int32.ofNat k), u3, u4] [(.int (Int32.ofNat ds.length)), (.int (Int32.ofNat k))]) _
          refine XS.icmpYes X476.here hx rfl (pc0 := 15) (pc' := 54) rfl (hb hby d6_15) rfl (flt (own_nlt (by omega) (by omega) hB)).2.1 (by decide) (by decide) ?_
          show Sx p e below T476 (mkF m 54 #[vR a1, vR a2, vI (Int32.ofNat k), u3, u4] []) _
          refine XS.aloadN X476.here hx rfl (hb hby d6_54) rfl rfl ?_
          exact kq)
        obtain ⟨cq478, kq478, q478a, q478b, q478c⟩ := isOf hZ eq476 uae
        obtain ⟨vv478, _, ⟨T478, L478, k478, n478⟩, -, X478, ⟨Lc478, hQ478, l478, y478, z478⟩, st478⟩ := X476.virtualBack hx (y := (⟨"java/lang/String", "length", "()I"⟩ : MethodName)) (z := (⟨"java/lang/String", "length", "()I"⟩ : MethodName)) hown (mvT hZ (tw36 hw)) (mvT hZ (tw37 hw)) (notFace_of_selects (args := #[]) (mvT hZ (tw39 hw))) (mvT hZ (tw39 hw)) (mvT hZ (tw38 hw)) (by decide) (StrChars.Road.lenW (W := 0) hZ hwl (kI := 4) (tw11 hw) uae uav uac uaw uad (fun c hc => ⟨(uab c hc).1, (uab c hc).2.1⟩) (SC.ext O0.2) hz (Nat.le_trans ual (by decide)) (by decide) (by decide)) q478a q478c (g := (mkF m 55 #[vR a1, vR a2, vI (Int32.ofNat k), u3, u4] [(.ref a1)])) rfl (by rw [hml]; rfl) (Steps.refl _) (argsL := []) (rest := []) (lenOf pd_16 rfl) rfl (by show 2 * 0 + _ ≤ _; exact Nat.le_of_eq rfl) (hb hby d6_55) (fun _ _ => ⟨rfl, eq476, (by decide : 0 + 0 ≤ _), (by decide : 0 + 0 ≤ _)⟩)
        dsimp only [Pt.U, Pt.locs, Pt.cells, Pt.slots] at X478 l478 y478 z478 st478 hQ478
        subst l478 y478 z478
        obtain ⟨rfl, hl478, eq478⟩ := hQ478
        have Nq478 : Fr n0 Lc478 := by rw [hl478]; exact Fr.nil n0
        have N478 := Fr.app N476 Nq478
        have go478 : Goes p e below s₁ (G_rmCmp m a1 a2) T478 (mkF m 58 #[vR a1, vR a2, vI (Int32.ofNat k), u3, u4] [(.int (Int32.ofNat cs.length))]) := fun tq kq => go477 tq (st478.trans kq)
        have go479 : Goes p e below s₁ (G_rmCmp m a1 a2) T478 (mkF m 59 #[vR a1, vR a2, vI (Int32.ofNat k), u3, u4] [(.ref a2), (.int (Int32.ofNat cs.length))]) := fun tq kq => go478 tq (by
          show Sx p e below T478 (mkF m 58 #[vR a1, vR a2, vI (Int32.ofNat k), u3, u4] [(.int (Int32.ofNat cs.length))]) _
          refine XS.aloadN X478.here hx rfl (hb hby d6_58) rfl rfl ?_
          exact kq)
        obtain ⟨cq480, kq480, q480a, q480b, q480c⟩ := isOf hZ eq478 ube
        obtain ⟨vv480, _, ⟨T480, L480, k480, n480⟩, -, X480, ⟨Lc480, hQ480, l480, y480, z480⟩, st480⟩ := X478.virtualBack hx (y := (⟨"java/lang/String", "length", "()I"⟩ : MethodName)) (z := (⟨"java/lang/String", "length", "()I"⟩ : MethodName)) hown (mvT hZ (tw36 hw)) (mvT hZ (tw37 hw)) (notFace_of_selects (args := #[]) (mvT hZ (tw39 hw))) (mvT hZ (tw39 hw)) (mvT hZ (tw38 hw)) (by decide) (StrChars.Road.lenW (W := 1) hZ hwl (kI := 4) (tw11 hw) ube ubv ubc ubw ubd (fun c hc => ⟨(ubb c hc).1, (ubb c hc).2.1⟩) (SC.ext O0.2) hz (Nat.le_trans ubl (by decide)) (by decide) (by decide)) q480a q480c (g := (mkF m 59 #[vR a1, vR a2, vI (Int32.ofNat k), u3, u4] [(.ref a2), (.int (Int32.ofNat cs.length))])) rfl (by rw [hml]; rfl) (Steps.refl _) (argsL := []) (rest := [(.int (Int32.ofNat cs.length))]) (lenOf pd_16 rfl) rfl (by show 2 * 0 + _ ≤ _; exact Nat.le_of_eq rfl) (hb hby d6_59) (fun _ _ => ⟨rfl, eq478, (by decide : 0 + 0 ≤ _), (by decide : 0 + 0 ≤ _)⟩)
        dsimp only [Pt.U, Pt.locs, Pt.cells, Pt.slots] at X480 l480 y480 z480 st480 hQ480
        subst l480 y480 z480
        obtain ⟨rfl, hl480, eq480⟩ := hQ480
        have Nq480 : Fr n0 Lc480 := by rw [hl480]; exact Fr.nil n0
        have N480 := Fr.app N478 Nq480
        have go480 : Goes p e below s₁ (G_rmCmp m a1 a2) T480 (mkF m 62 #[vR a1, vR a2, vI (Int32.ofNat k), u3, u4] [(.int (Int32.ofNat ds.length)), (.int (Int32.ofNat cs.length))]) := fun tq kq => go479 tq (st480.trans kq)
        obtain ⟨vv481, _, ⟨T481, L481, k481, n481⟩, -, X481, ⟨Lc481, hQ481, l481, y481, z481⟩, st481⟩ := Jvm.LawKit.callS X480 hx (y := (⟨"java/lang/Integer", "compare", "(II)I"⟩ : MethodName)) hown (mvT hZ (tw47 hw)) (mvT hZ (tw48 hw)) (mvT hZ (tw49 hw)) (mvT hZ (tw50 hw)) (by decide) (backOf (W := 0) (rmIc l Z a0 hw [] (Int32.ofNat cs.length) (Int32.ofNat ds.length)  h0 n0 Z0 ) hZ (tw50 hw) (tw49 hw) (by decide) (by decide)) (g := (mkF m 62 #[vR a1, vR a2, vI (Int32.ofNat k), u3, u4] [(.int (Int32.ofNat ds.length)), (.int (Int32.ofNat cs.length))])) rfl (by rw [hml]; rfl) (argsL := [(.int (Int32.ofNat cs.length)), (.int (Int32.ofNat ds.length))]) (rest := []) (lenOf pd_17 rfl) rfl (by show 2 * 0 + _ ≤ _; exact Nat.le_of_eq rfl) (hb hby d6_62) (fun _ _ => ⟨rfl, eq480, (by decide : 0 + 0 ≤ _), (by decide : 0 + 0 ≤ _)⟩)
        dsimp only [Pt.U, Pt.locs, Pt.cells, Pt.slots] at X481 l481 y481 z481 st481 hQ481
        subst l481 y481 z481
        obtain ⟨rfl, Nq481, eq481⟩ := hQ481
        have N481 := Fr.app N480 Nq481
        have go481 : Goes p e below s₁ (G_rmCmp m a1 a2) T481 (mkF m 65 #[vR a1, vR a2, vI (Int32.ofNat k), u3, u4] [(.int (icv (Int32.ofNat cs.length) (Int32.ofNat ds.length)))]) := fun tq kq => go480 tq (st481 _ kq)
        obtain ⟨fs, hr, hrun, hended, hW, hsame⟩ := X481.leave (v := some (.int (icv (Int32.ofNat cs.length) (Int32.ofNat ds.length)))) (fun h => by rw [Bd.returns] at h; cases h)
        refine ⟨_, _, go481 _ ?_, hrun, hended, _, _, rfl, ?_, ⟨_, rfl⟩, hW, hsame.mono (by decide) (by decide)⟩
        · exact retI X481 hx Bd.returns (hb hby d6_65) hr
        · show Q_rmCmp Z a1 a2 ta tb ka kb da Na db Nb cz va vb cs ds fm h0 n0 _ T481.heap _
          rw [eq481]
          exact ⟨congrArg (fun z => some (Value.int z)) (hval.trans (cm_x (fun q => hB q.2))).symm, N481, rfl⟩
    · have go470 : Goes p e below s₁ (G_rmCmp m a1 a2) T469 (mkF m 55 #[vR a1, vR a2, vI (Int32.ofNat k), u3, u4] [(.ref a1)]) := fun tq kq => go469 tq (by
        show Sx p e below T469 (mkF m 7 #[vR a1, vR a2, vI (Int32.ofNat k), u3, u4] [(.int (Int32.ofNat cs.length)), (.int (Int32.ofNat k))]) _
        refine XS.icmpYes X469.here hx rfl (pc0 := 7) (pc' := 54) rfl (hb hby d6_7) rfl (flt (own_nlt (by omega) (by omega) hA)).2.1 (by decide) (by decide) ?_
        refine XS.aloadN X469.here hx rfl (hb hby d6_54) rfl rfl ?_
        exact kq)
      obtain ⟨cq471, kq471, q471a, q471b, q471c⟩ := isOf hZ eq469 uae
      obtain ⟨vv471, _, ⟨T471, L471, k471, n471⟩, -, X471, ⟨Lc471, hQ471, l471, y471, z471⟩, st471⟩ := X469.virtualBack hx (y := (⟨"java/lang/String", "length", "()I"⟩ : MethodName)) (z := (⟨"java/lang/String", "length", "()I"⟩ : MethodName)) hown (mvT hZ (tw36 hw)) (mvT hZ (tw37 hw)) (notFace_of_selects (args := #[]) (mvT hZ (tw39 hw))) (mvT hZ (tw39 hw)) (mvT hZ (tw38 hw)) (by decide) (StrChars.Road.lenW (W := 0) hZ hwl (kI := 4) (tw11 hw) uae uav uac uaw uad (fun c hc => ⟨(uab c hc).1, (uab c hc).2.1⟩) (SC.ext O0.2) hz (Nat.le_trans ual (by decide)) (by decide) (by decide)) q471a q471c (g := (mkF m 55 #[vR a1, vR a2, vI (Int32.ofNat k), u3, u4] [(.ref a1)])) rfl (by rw [hml]; rfl) (Steps.refl _) (argsL := []) (rest := []) (lenOf pd_16 rfl) rfl (by show 2 * 0 + _ ≤ _; exact Nat.le_of_eq rfl) (hb hby d6_55) (fun _ _ => ⟨rfl, eq469, (by decide : 0 + 0 ≤ _), (by decide : 0 + 0 ≤ _)⟩)
      dsimp only [Pt.U, Pt.locs, Pt.cells, Pt.slots] at X471 l471 y471 z471 st471 hQ471
      subst l471 y471 z471
      obtain ⟨rfl, hl471, eq471⟩ := hQ471
      have Nq471 : Fr n0 Lc471 := by rw [hl471]; exact Fr.nil n0
      have N471 := Fr.app N469 Nq471
      have go471 : Goes p e below s₁ (G_rmCmp m a1 a2) T471 (mkF m 58 #[vR a1, vR a2, vI (Int32.ofNat k), u3, u4] [(.int (Int32.ofNat cs.length))]) := fun tq kq => go470 tq (st471.trans kq)
      have go472 : Goes p e below s₁ (G_rmCmp m a1 a2) T471 (mkF m 59 #[vR a1, vR a2, vI (Int32.ofNat k), u3, u4] [(.ref a2), (.int (Int32.ofNat cs.length))]) := fun tq kq => go471 tq (by
        show Sx p e below T471 (mkF m 58 #[vR a1, vR a2, vI (Int32.ofNat k), u3, u4] [(.int (Int32.ofNat cs.length))]) _
        refine XS.aloadN X471.here hx rfl (hb hby d6_58) rfl rfl ?_
        exact kq)
      obtain ⟨cq473, kq473, q473a, q473b, q473c⟩ := isOf hZ eq471 ube
      obtain ⟨vv473, _, ⟨T473, L473, k473, n473⟩, -, X473, ⟨Lc473, hQ473, l473, y473, z473⟩, st473⟩ := X471.virtualBack hx (y := (⟨"java/lang/String", "length", "()I"⟩ : MethodName)) (z := (⟨"java/lang/String", "length", "()I"⟩ : MethodName)) hown (mvT hZ (tw36 hw)) (mvT hZ (tw37 hw)) (notFace_of_selects (args := #[]) (mvT hZ (tw39 hw))) (mvT hZ (tw39 hw)) (mvT hZ (tw38 hw)) (by decide) (StrChars.Road.lenW (W := 1) hZ hwl (kI := 4) (tw11 hw) ube ubv ubc ubw ubd (fun c hc => ⟨(ubb c hc).1, (ubb c hc).2.1⟩) (SC.ext O0.2) hz (Nat.le_trans ubl (by decide)) (by decide) (by decide)) q473a q473c (g := (mkF m 59 #[vR a1, vR a2, vI (Int32.ofNat k), u3, u4] [(.ref a2), (.int (Int32.ofNat cs.length))])) rfl (by rw [hml]; rfl) (Steps.refl _) (argsL := []) (rest := [(.int (Int32.ofNat cs.length))]) (lenOf pd_16 rfl) rfl (by show 2 * 0 + _ ≤ _; exact Nat.le_of_eq rfl) (hb hby d6_59) (fun _ _ => ⟨rfl, eq471, (by decide : 0 + 0 ≤ _), (by decide : 0 + 0 ≤ _)⟩)
      dsimp only [Pt.U, Pt.locs, Pt.cells, Pt.slots] at X473 l473 y473 z473 st473 hQ473
      subst l473 y473 z473
      obtain ⟨rfl, hl473, eq473⟩ := hQ473
      have Nq473 : Fr n0 Lc473 := by rw [hl473]; exact Fr.nil n0
      have N473 := Fr.app N471 Nq473
      have go473 : Goes p e below s₁ (G_rmCmp m a1 a2) T473 (mkF m 62 #[vR a1, vR a2, vI (Int32.ofNat k), u3, u4] [(.int (Int32.ofNat ds.length)), (.int (Int32.ofNat cs.length))]) := fun tq kq => go472 tq (st473.trans kq)
      obtain ⟨vv474, _, ⟨T474, L474, k474, n474⟩, -, X474, ⟨Lc474, hQ474, l474, y474, z474⟩, st474⟩ := Jvm.LawKit.callS X473 hx (y := (⟨"java/lang/Integer", "compare", "(II)I"⟩ : MethodName)) hown (mvT hZ (tw47 hw)) (mvT hZ (tw48 hw)) (mvT hZ (tw49 hw)) (mvT hZ (tw50 hw)) (by decide) (backOf (W := 0) (rmIc l Z a0 hw [] (Int32.ofNat cs.length) (Int32.ofNat ds.length)  h0 n0 Z0 ) hZ (tw50 hw) (tw49 hw) (by decide) (by decide)) (g := (mkF m 62 #[vR a1, vR a2, vI (Int32.ofNat k), u3, u4] [(.int (Int32.ofNat ds.length)), (.int (Int32.ofNat cs.length))])) rfl (by rw [hml]; rfl) (argsL := [(.int (Int32.ofNat cs.length)), (.int (Int32.ofNat ds.length))]) (rest := []) (lenOf pd_17 rfl) rfl (by show 2 * 0 + _ ≤ _; exact Nat.le_of_eq rfl) (hb hby d6_62) (fun _ _ => ⟨rfl, eq473, (by decide : 0 + 0 ≤ _), (by decide : 0 + 0 ≤ _)⟩)
      dsimp only [Pt.U, Pt.locs, Pt.cells, Pt.slots] at X474 l474 y474 z474 st474 hQ474
      subst l474 y474 z474
      obtain ⟨rfl, Nq474, eq474⟩ := hQ474
      have N474 := Fr.app N473 Nq474
      have go474 : Goes p e below s₁ (G_rmCmp m a1 a2) T474 (mkF m 65 #[vR a1, vR a2, vI (Int32.ofNat k), u3, u4] [(.int (icv (Int32.ofNat cs.length) (Int32.ofNat ds.length)))]) := fun tq kq => go473 tq (st474 _ kq)
      obtain ⟨fs, hr, hrun, hended, hW, hsame⟩ := X474.leave (v := some (.int (icv (Int32.ofNat cs.length) (Int32.ofNat ds.length)))) (fun h => by rw [Bd.returns] at h; cases h)
      refine ⟨_, _, go474 _ ?_, hrun, hended, _, _, rfl, ?_, ⟨_, rfl⟩, hW, hsame.mono (by decide) (by decide)⟩
      · exact retI X474 hx Bd.returns (hb hby d6_65) hr
      · show Q_rmCmp Z a1 a2 ta tb ka kb da Na db Nb cz va vb cs ds fm h0 n0 _ T474.heap _
        rw [eq474]
        exact ⟨congrArg (fun z => some (Value.int z)) (hval.trans (cm_x (fun q => hA q.1))).symm, N474, rfl⟩
def unv (p1 : Int32) (p2 : Int32) (p3 : Int32) (p4 : Int32) (p5 : Int32) : Int32 := (if p5 < p4 then (if p5 = (0 : Int32) then p1 else (if p5 = (1 : Int32) then p2 else p3)) else (-1 : Int32))
abbrev G_rmUn (m : MethodId) (p1 : Int32) (p2 : Int32) (p3 : Int32) (p4 : Int32) (p5 : Int32) : JFrame := (entryFrame m #[(.int p1), (.int p2), (.int p3), (.int p4), (.int p5)] 5)
theorem d12_0 : decode method_5_code 0 = .ok (.iload 4, 2) := by decide +kernel
theorem d12_2 : decode method_5_code 2 = .ok (.iload_n 3, 1) := by decide +kernel
theorem d12_3 : decode method_5_code 3 = .ok (.if_icmp .lt 5, 3) := by decide +kernel
theorem d12_8 : decode method_5_code 8 = .ok (.iload 4, 2) := by decide +kernel
theorem d12_10 : decode method_5_code 10 = .ok (.ifCond .ne 5, 3) := by decide +kernel
theorem d12_15 : decode method_5_code 15 = .ok (.iload 4, 2) := by decide +kernel
theorem d12_17 : decode method_5_code 17 = .ok (.iconst 1, 1) := by decide +kernel
theorem d12_18 : decode method_5_code 18 = .ok (.if_icmp .ne 5, 3) := by decide +kernel
theorem d12_23 : decode method_5_code 23 = .ok (.iload_n 2, 1) := by decide +kernel
theorem d12_24 : decode method_5_code 24 = .ok (.ireturn, 1) := by decide +kernel
theorem d12_21 : decode method_5_code 21 = .ok (.iload_n 1, 1) := by decide +kernel
theorem d12_22 : decode method_5_code 22 = .ok (.ireturn, 1) := by decide +kernel
theorem d12_13 : decode method_5_code 13 = .ok (.iload_n 0, 1) := by decide +kernel
theorem d12_14 : decode method_5_code 14 = .ok (.ireturn, 1) := by decide +kernel
theorem d12_6 : decode method_5_code 6 = .ok (.iconst (-1), 1) := by decide +kernel
theorem d12_7 : decode method_5_code 7 = .ok (.ireturn, 1) := by decide +kernel
def Q_rmUn (Z : State) (p1 : Int32) (p2 : Int32) (p3 : Int32) (p4 : Int32) (p5 : Int32)  (h0 : Heap) (n0 : Nat) (v : Option Value) (h : Heap) (L : List Loc) : Prop := v = some (.int (unv p1 p2 p3 p4 p5)) ∧ Fr n0 L ∧ h = h0
set_option maxRecDepth 65536 in
set_option maxHeartbeats 40000000 in
theorem rmUn (l : Launch) (Z : State) (a0 : Array Value) (hw : ∀ d ∈ tables_1, d.before a0 Z = true) (ws : List Jvm.Cond) (p1 : Int32) (p2 : Int32) (p3 : Int32) (p4 : Int32) (p5 : Int32)  (h0 : Heap) (n0 : Nat) (Z0 : n0 ≤ h0.size)  :
    MetFree l (⟨"com/example/nuthatch/nuthatch/util/TextCompareCodePointsPinLaw", "unit", "(CCCII)I"⟩ : MethodName) (head1 (Jvm.Cond.code (⟨"com/example/nuthatch/nuthatch/util/TextCompareCodePointsPinLaw", "unit", "(CCCII)I"⟩ : MethodName) method_5_code 5 (some .int) :: ws) ({ frames := 0, cells := 0, slots := 0, locals := 0 } : Room)) (fun a U => a = #[(.int p1), (.int p2), (.int p3), (.int p4), (.int p5)] ∧ Z.Warmed39 U.vm ∧ U.heap = h0) (fun _ _ _ _ _ => True) (fun _ U o U' => ∃ v L, o = .returned v ∧ Q_rmUn Z p1 p2 p3 p4 p5 h0 n0 v U'.heap L ∧ FrameEnd U o U' L ({ frames := 0, cells := 0, slots := 0, locals := 0 } : Room).cells ({ frames := 0, cells := 0, slots := 0, locals := 0 } : Room).slots) := by
  refine MetFree.of_bodySF (plainFor_of_name pn_com_example_nuthatch_nuthatch_util_TextCompareCodePointsPinLaw) hisR ?_
  intro p e s m args below meth c s₁ Bd hml0 hP hK
  obtain ⟨rfl, hZ, hh⟩ := hP
  have hx := Bd.exec
  have hby := Bd.bytes
  have hml : c.maxLocals = 5 := hml0
  have hown : s.vm.findClass "com/example/nuthatch/nuthatch/util/TextCompareCodePointsPinLaw" = some m.cls := findClass_of_methodNamed Bd.named
  have hnm := (name_of_methodNamed Bd.named Bd.method).1
  have X0 : Stand p l e ({ frames := 0, cells := 0, slots := 0, locals := 0 } : Room) s m #[(.int p1), (.int p2), (.int p3), (.int p4), (.int p5)] below meth c s₁ [] 0 0 := Stand.of_body Bd
  have e0 : s₁.heap = h0 := by rw [← hh, Bd.state]; rfl
  have N0 := Fr.nil n0
  have go0 : Goes p e below s₁ (G_rmUn m p1 p2 p3 p4 p5) s₁ (mkF m 0 #[vI p1, vI p2, vI p3, vI p4, vI p5] []) := fun tq kq => castTop (by first | (simp [entryFrame, mkF, argsToLocals, Value.category, vI, vJ, vR, vD, vN, uN, sD, G_rmUn]; done) | rfl) kq
  have go495 : Goes p e below s₁ (G_rmUn m p1 p2 p3 p4 p5) s₁ (mkF m 3 #[vI p1, vI p2, vI p3, vI p4, vI p5] [(.int p4), (.int p5)]) := fun tq kq => go0 tq (by
    show Sx p e below s₁ (mkF m 0 #[vI p1, vI p2, vI p3, vI p4, vI p5] []) _
    refine XS.iload X0.here hx rfl (hb hby d12_0) rfl ?_
    refine XS.iloadN X0.here hx rfl (hb hby d12_2) rfl ?_
    exact kq)
  by_cases hc3_496 : p5 < p4
  · have go497 : Goes p e below s₁ (G_rmUn m p1 p2 p3 p4 p5) s₁ (mkF m 10 #[vI p1, vI p2, vI p3, vI p4, vI p5] [(.int p5)]) := fun tq kq => go495 tq (by
      show Sx p e below s₁ (mkF m 3 #[vI p1, vI p2, vI p3, vI p4, vI p5] [(.int p4), (.int p5)]) _
      refine XS.icmpYes X0.here hx rfl (pc0 := 3) (pc' := 8) rfl (hb hby d12_3) rfl (tlt hc3_496).1 (by decide) (by decide) ?_
      refine XS.iload X0.here hx rfl (hb hby d12_8) rfl ?_
      exact kq)
    by_cases hc10_498 : p5 = (0 : Int32)
    · have go503 : Goes p e below s₁ (G_rmUn m p1 p2 p3 p4 p5) s₁ (mkF m 14 #[vI p1, vI p2, vI p3, vI p4, vI p5] [(.int p1)]) := fun tq kq => go497 tq (by
        show Sx p e below s₁ (mkF m 10 #[vI p1, vI p2, vI p3, vI p4, vI p5] [(.int p5)]) _
        refine XS.ifNo X0.here hx rfl (hb hby d12_10) rfl ((if0 _ _).trans (teq hc10_498).2) ?_
        refine XS.iloadN X0.here hx rfl (hb hby d12_13) rfl ?_
        exact kq)
      obtain ⟨fs, hr, hrun, hended, hW, hsame⟩ := X0.leave (v := some (.int p1)) (fun h => by rw [Bd.returns] at h; cases h)
      refine ⟨_, _, go503 _ ?_, hrun, hended, _, _, rfl, ?_, ⟨_, rfl⟩, hW, hsame.mono (by decide) (by decide)⟩
      · exact retI X0 hx Bd.returns (hb hby d12_14) hr
      · show Q_rmUn Z p1 p2 p3 p4 p5 h0 n0 _ s₁.heap _
        rw [e0]
        exact ⟨congrArg (fun z => some (Value.int z)) (Eq.symm (show (unv p1 p2 p3 p4 p5) = p1 from ((if_pos hc3_496).trans (if_pos hc10_498)))), N0, rfl⟩
    · have go499 : Goes p e below s₁ (G_rmUn m p1 p2 p3 p4 p5) s₁ (mkF m 18 #[vI p1, vI p2, vI p3, vI p4, vI p5] [(.int (1 : Int32)), (.int p5)]) := fun tq kq => go497 tq (by
        show Sx p e below s₁ (mkF m 10 #[vI p1, vI p2, vI p3, vI p4, vI p5] [(.int p5)]) _
        refine XS.ifYes X0.here hx rfl (pc0 := 10) (pc' := 15) rfl (hb hby d12_10) rfl ((if0 _ _).trans (feq hc10_498).2) (by decide) (by decide) ?_
        refine XS.iload X0.here hx rfl (hb hby d12_15) rfl ?_
        show Sx p e below s₁ (mkF m 17 #[vI p1, vI p2, vI p3, vI p4, vI p5] [(.int p5)]) _
        refine XS.iconst X0.here hx rfl (hb hby d12_17) ?_
        exact kq)
      by_cases hc18_500 : p5 = (1 : Int32)
      · have go502 : Goes p e below s₁ (G_rmUn m p1 p2 p3 p4 p5) s₁ (mkF m 22 #[vI p1, vI p2, vI p3, vI p4, vI p5] [(.int p2)]) := fun tq kq => go499 tq (by
          show Sx p e below s₁ (mkF m 18 #[vI p1, vI p2, vI p3, vI p4, vI p5] [(.int (1 : Int32)), (.int p5)]) _
          refine XS.icmpNo X0.here hx rfl (hb hby d12_18) rfl (teq hc18_500).2 ?_
          show Sx p e below s₁ (mkF m 21 #[vI p1, vI p2, vI p3, vI p4, vI p5] []) _
          refine XS.iloadN X0.here hx rfl (hb hby d12_21) rfl ?_
          exact kq)
        obtain ⟨fs, hr, hrun, hended, hW, hsame⟩ := X0.leave (v := some (.int p2)) (fun h => by rw [Bd.returns] at h; cases h)
        refine ⟨_, _, go502 _ ?_, hrun, hended, _, _, rfl, ?_, ⟨_, rfl⟩, hW, hsame.mono (by decide) (by decide)⟩
        · exact retI X0 hx Bd.returns (hb hby d12_22) hr
        · show Q_rmUn Z p1 p2 p3 p4 p5 h0 n0 _ s₁.heap _
          rw [e0]
          exact ⟨congrArg (fun z => some (Value.int z)) (Eq.symm (show (unv p1 p2 p3 p4 p5) = p2 from ((if_pos hc3_496).trans ((if_neg hc10_498).trans (if_pos hc18_500))))), N0, rfl⟩
      · have go501 : Goes p e below s₁ (G_rmUn m p1 p2 p3 p4 p5) s₁ (mkF m 24 #[vI p1, vI p2, vI p3, vI p4, vI p5] [(.int p3)]) := fun tq kq => go499 tq (by
          show Sx p e below s₁ (mkF m 18 #[vI p1, vI p2, vI p3, vI p4, vI p5] [(.int (1 : Int32)), (.int p5)]) _
          refine XS.icmpYes X0.here hx rfl (pc0 := 18) (pc' := 23) rfl (hb hby d12_18) rfl (feq hc18_500).2 (by decide) (by decide) ?_
          show Sx p e below s₁ (mkF m 23 #[vI p1, vI p2, vI p3, vI p4, vI p5] []) _
          refine XS.iloadN X0.here hx rfl (hb hby d12_23) rfl ?_
          exact kq)
        obtain ⟨fs, hr, hrun, hended, hW, hsame⟩ := X0.leave (v := some (.int p3)) (fun h => by rw [Bd.returns] at h; cases h)
        refine ⟨_, _, go501 _ ?_, hrun, hended, _, _, rfl, ?_, ⟨_, rfl⟩, hW, hsame.mono (by decide) (by decide)⟩
        · exact retI X0 hx Bd.returns (hb hby d12_24) hr
        · show Q_rmUn Z p1 p2 p3 p4 p5 h0 n0 _ s₁.heap _
          rw [e0]
          exact ⟨congrArg (fun z => some (Value.int z)) (Eq.symm (show (unv p1 p2 p3 p4 p5) = p3 from ((if_pos hc3_496).trans ((if_neg hc10_498).trans (if_neg hc18_500))))), N0, rfl⟩
  · have go504 : Goes p e below s₁ (G_rmUn m p1 p2 p3 p4 p5) s₁ (mkF m 7 #[vI p1, vI p2, vI p3, vI p4, vI p5] [(.int (-1 : Int32))]) := fun tq kq => go495 tq (by
      show Sx p e below s₁ (mkF m 3 #[vI p1, vI p2, vI p3, vI p4, vI p5] [(.int p4), (.int p5)]) _
      refine XS.icmpNo X0.here hx rfl (hb hby d12_3) rfl (flt hc3_496).1 ?_
      refine XS.iconst X0.here hx rfl (hb hby d12_6) ?_
      exact kq)
    obtain ⟨fs, hr, hrun, hended, hW, hsame⟩ := X0.leave (v := some (.int (-1 : Int32))) (fun h => by rw [Bd.returns] at h; cases h)
    refine ⟨_, _, go504 _ ?_, hrun, hended, _, _, rfl, ?_, ⟨_, rfl⟩, hW, hsame.mono (by decide) (by decide)⟩
    · exact retI X0 hx Bd.returns (hb hby d12_7) hr
    · show Q_rmUn Z p1 p2 p3 p4 p5 h0 n0 _ s₁.heap _
      rw [e0]
      exact ⟨congrArg (fun z => some (Value.int z)) (Eq.symm (show (unv p1 p2 p3 p4 p5) = (-1 : Int32) from (if_neg hc3_496))), N0, rfl⟩
def ihv (p1 : Int32) : Int32 := (if p1 < (55296 : Int32) then (0 : Int32) else (if (56319 : Int32) < p1 then (0 : Int32) else (1 : Int32)))
abbrev G_rmIh (m : MethodId) (p1 : Int32) : JFrame := (entryFrame m #[(.int p1)] 1)
theorem d23_0 : decode method_6_code 0 = .ok (.iload_n 0, 1) := by decide +kernel
theorem d23_1 : decode method_6_code 1 = .ok (.ldc 35, 2) := by decide +kernel
theorem d23_3 : decode method_6_code 3 = .ok (.if_icmp .lt 13, 3) := by decide +kernel
theorem d23_16 : decode method_6_code 16 = .ok (.iconst 0, 1) := by decide +kernel
theorem d23_17 : decode method_6_code 17 = .ok (.ireturn, 1) := by decide +kernel
theorem d23_6 : decode method_6_code 6 = .ok (.iload_n 0, 1) := by decide +kernel
theorem d23_7 : decode method_6_code 7 = .ok (.ldc 42, 2) := by decide +kernel
theorem d23_9 : decode method_6_code 9 = .ok (.if_icmp .gt 7, 3) := by decide +kernel
theorem d23_12 : decode method_6_code 12 = .ok (.iconst 1, 1) := by decide +kernel
theorem d23_13 : decode method_6_code 13 = .ok (.goto 4, 3) := by decide +kernel
def Q_rmIh (Z : State) (p1 : Int32)  (h0 : Heap) (n0 : Nat) (v : Option Value) (h : Heap) (L : List Loc) : Prop := v = some (.int (ihv p1)) ∧ Fr n0 L ∧ h = h0
set_option maxRecDepth 65536 in
set_option maxHeartbeats 40000000 in
theorem rmIh (l : Launch) (Z : State) (a0 : Array Value) (hw : ∀ d ∈ tables_1, d.before a0 Z = true) (ws : List Jvm.Cond) (p1 : Int32)  (h0 : Heap) (n0 : Nat) (Z0 : n0 ≤ h0.size)  :
    MetFree l (⟨"com/example/nuthatch/nuthatch/util/TextCompareCodePointsPinLaw", "isHigh", "(I)Z"⟩ : MethodName) (head1 (Jvm.Cond.code (⟨"com/example/nuthatch/nuthatch/util/TextCompareCodePointsPinLaw", "isHigh", "(I)Z"⟩ : MethodName) method_6_code 1 (some .boolean) :: ws) ({ frames := 0, cells := 0, slots := 0, locals := 0 } : Room)) (fun a U => a = #[(.int p1)] ∧ Z.Warmed39 U.vm ∧ U.heap = h0) (fun _ _ _ _ _ => True) (fun _ U o U' => ∃ v L, o = .returned v ∧ Q_rmIh Z p1 h0 n0 v U'.heap L ∧ FrameEnd U o U' L ({ frames := 0, cells := 0, slots := 0, locals := 0 } : Room).cells ({ frames := 0, cells := 0, slots := 0, locals := 0 } : Room).slots) := by
  refine MetFree.of_bodySF (plainFor_of_name pn_com_example_nuthatch_nuthatch_util_TextCompareCodePointsPinLaw) hisR ?_
  intro p e s m args below meth c s₁ Bd hml0 hP hK
  obtain ⟨rfl, hZ, hh⟩ := hP
  have hx := Bd.exec
  have hby := Bd.bytes
  have hml : c.maxLocals = 1 := hml0
  have hown : s.vm.findClass "com/example/nuthatch/nuthatch/util/TextCompareCodePointsPinLaw" = some m.cls := findClass_of_methodNamed Bd.named
  have hnm := (name_of_methodNamed Bd.named Bd.method).1
  have X0 : Stand p l e ({ frames := 0, cells := 0, slots := 0, locals := 0 } : Room) s m #[(.int p1)] below meth c s₁ [] 0 0 := Stand.of_body Bd
  have e0 : s₁.heap = h0 := by rw [← hh, Bd.state]; rfl
  have N0 := Fr.nil n0
  have go0 : Goes p e below s₁ (G_rmIh m p1) s₁ (mkF m 0 #[vI p1] []) := fun tq kq => castTop (by first | (simp [entryFrame, mkF, argsToLocals, Value.category, vI, vJ, vR, vD, vN, uN, sD, G_rmIh]; done) | rfl) kq
  have go505 : Goes p e below s₁ (G_rmIh m p1) s₁ (mkF m 3 #[vI p1] [(.int (55296 : Int32)), (.int p1)]) := fun tq kq => go0 tq (by
    show Sx p e below s₁ (mkF m 0 #[vI p1] []) _
    refine XS.iloadN X0.here hx rfl (hb hby d23_0) rfl ?_
    refine X0.ldcInt hx hown (mvT hZ (tw6 hw)) (g := (mkF m 1 #[vI p1] [(.int p1)])) rfl (hb hby d23_1) _ ?_
    exact kq)
  by_cases hc3_506 : p1 < (55296 : Int32)
  · have go507 : Goes p e below s₁ (G_rmIh m p1) s₁ (mkF m 17 #[vI p1] [(.int (0 : Int32))]) := fun tq kq => go505 tq (by
      show Sx p e below s₁ (mkF m 3 #[vI p1] [(.int (55296 : Int32)), (.int p1)]) _
      refine XS.icmpYes X0.here hx rfl (pc0 := 3) (pc' := 16) rfl (hb hby d23_3) rfl (tlt hc3_506).1 (by decide) (by decide) ?_
      refine XS.iconst X0.here hx rfl (hb hby d23_16) ?_
      exact kq)
    obtain ⟨fs, hr, hrun, hended, hW, hsame⟩ := X0.leave (v := some (.int (0 : Int32))) (fun h => by rw [Bd.returns] at h; cases h)
    refine ⟨_, _, go507 _ ?_, hrun, hended, _, _, rfl, ?_, ⟨_, rfl⟩, hW, hsame.mono (by decide) (by decide)⟩
    · exact retN X0 hx (t := .boolean) Bd.returns (by simp) (hb hby d23_17) hr
    · show Q_rmIh Z p1 h0 n0 _ s₁.heap _
      rw [e0]
      exact ⟨congrArg (fun z => some (Value.int z)) (Eq.symm (show (ihv p1) = (0 : Int32) from (if_pos hc3_506))), N0, rfl⟩
  · have go508 : Goes p e below s₁ (G_rmIh m p1) s₁ (mkF m 9 #[vI p1] [(.int (56319 : Int32)), (.int p1)]) := fun tq kq => go505 tq (by
      show Sx p e below s₁ (mkF m 3 #[vI p1] [(.int (55296 : Int32)), (.int p1)]) _
      refine XS.icmpNo X0.here hx rfl (hb hby d23_3) rfl (flt hc3_506).1 ?_
      refine XS.iloadN X0.here hx rfl (hb hby d23_6) rfl ?_
      show Sx p e below s₁ (mkF m 7 #[vI p1] [(.int p1)]) _
      refine X0.ldcInt hx hown (mvT hZ (tw100 hw)) (g := (mkF m 7 #[vI p1] [(.int p1)])) rfl (hb hby d23_7) _ ?_
      exact kq)
    by_cases hc9_509 : (56319 : Int32) < p1
    · have go510 : Goes p e below s₁ (G_rmIh m p1) s₁ (mkF m 17 #[vI p1] [(.int (0 : Int32))]) := fun tq kq => go508 tq (by
        show Sx p e below s₁ (mkF m 9 #[vI p1] [(.int (56319 : Int32)), (.int p1)]) _
        refine XS.icmpYes X0.here hx rfl (pc0 := 9) (pc' := 16) rfl (hb hby d23_9) rfl (tlt hc9_509).2.2.1 (by decide) (by decide) ?_
        show Sx p e below s₁ (mkF m 16 #[vI p1] []) _
        refine XS.iconst X0.here hx rfl (hb hby d23_16) ?_
        exact kq)
      obtain ⟨fs, hr, hrun, hended, hW, hsame⟩ := X0.leave (v := some (.int (0 : Int32))) (fun h => by rw [Bd.returns] at h; cases h)
      refine ⟨_, _, go510 _ ?_, hrun, hended, _, _, rfl, ?_, ⟨_, rfl⟩, hW, hsame.mono (by decide) (by decide)⟩
      · exact retN X0 hx (t := .boolean) Bd.returns (by simp) (hb hby d23_17) hr
      · show Q_rmIh Z p1 h0 n0 _ s₁.heap _
        rw [e0]
        exact ⟨congrArg (fun z => some (Value.int z)) (Eq.symm (show (ihv p1) = (0 : Int32) from ((if_neg hc3_506).trans (if_pos hc9_509)))), N0, rfl⟩
    · have go511 : Goes p e below s₁ (G_rmIh m p1) s₁ (mkF m 17 #[vI p1] [(.int (1 : Int32))]) := fun tq kq => go508 tq (by
        show Sx p e below s₁ (mkF m 9 #[vI p1] [(.int (56319 : Int32)), (.int p1)]) _
        refine XS.icmpNo X0.here hx rfl (hb hby d23_9) rfl (flt hc9_509).2.2.1 ?_
        show Sx p e below s₁ (mkF m 12 #[vI p1] []) _
        refine XS.iconst X0.here hx rfl (hb hby d23_12) ?_
        refine XS.goto X0.here hx rfl (pc0 := 13) (pc' := 17) rfl (hb hby d23_13) (by decide) (by decide) ?_
        exact kq)
      obtain ⟨fs, hr, hrun, hended, hW, hsame⟩ := X0.leave (v := some (.int (1 : Int32))) (fun h => by rw [Bd.returns] at h; cases h)
      refine ⟨_, _, go511 _ ?_, hrun, hended, _, _, rfl, ?_, ⟨_, rfl⟩, hW, hsame.mono (by decide) (by decide)⟩
      · exact retN X0 hx (t := .boolean) Bd.returns (by simp) (hb hby d23_17) hr
      · show Q_rmIh Z p1 h0 n0 _ s₁.heap _
        rw [e0]
        exact ⟨congrArg (fun z => some (Value.int z)) (Eq.symm (show (ihv p1) = (1 : Int32) from ((if_neg hc3_506).trans (if_neg hc9_509)))), N0, rfl⟩
def ilv (p1 : Int32) : Int32 := (if p1 < (56320 : Int32) then (0 : Int32) else (if (57343 : Int32) < p1 then (0 : Int32) else (1 : Int32)))
abbrev G_rmIl (m : MethodId) (p1 : Int32) : JFrame := (entryFrame m #[(.int p1)] 1)
theorem d33_0 : decode method_7_code 0 = .ok (.iload_n 0, 1) := by decide +kernel
theorem d33_1 : decode method_7_code 1 = .ok (.ldc 36, 2) := by decide +kernel
theorem d33_3 : decode method_7_code 3 = .ok (.if_icmp .lt 13, 3) := by decide +kernel
theorem d33_16 : decode method_7_code 16 = .ok (.iconst 0, 1) := by decide +kernel
theorem d33_17 : decode method_7_code 17 = .ok (.ireturn, 1) := by decide +kernel
theorem d33_6 : decode method_7_code 6 = .ok (.iload_n 0, 1) := by decide +kernel
theorem d33_7 : decode method_7_code 7 = .ok (.ldc 43, 2) := by decide +kernel
theorem d33_9 : decode method_7_code 9 = .ok (.if_icmp .gt 7, 3) := by decide +kernel
theorem d33_12 : decode method_7_code 12 = .ok (.iconst 1, 1) := by decide +kernel
theorem d33_13 : decode method_7_code 13 = .ok (.goto 4, 3) := by decide +kernel
def Q_rmIl (Z : State) (p1 : Int32)  (h0 : Heap) (n0 : Nat) (v : Option Value) (h : Heap) (L : List Loc) : Prop := v = some (.int (ilv p1)) ∧ Fr n0 L ∧ h = h0
set_option maxRecDepth 65536 in
set_option maxHeartbeats 40000000 in
theorem rmIl (l : Launch) (Z : State) (a0 : Array Value) (hw : ∀ d ∈ tables_1, d.before a0 Z = true) (ws : List Jvm.Cond) (p1 : Int32)  (h0 : Heap) (n0 : Nat) (Z0 : n0 ≤ h0.size)  :
    MetFree l (⟨"com/example/nuthatch/nuthatch/util/TextCompareCodePointsPinLaw", "isLow", "(I)Z"⟩ : MethodName) (head1 (Jvm.Cond.code (⟨"com/example/nuthatch/nuthatch/util/TextCompareCodePointsPinLaw", "isLow", "(I)Z"⟩ : MethodName) method_7_code 1 (some .boolean) :: ws) ({ frames := 0, cells := 0, slots := 0, locals := 0 } : Room)) (fun a U => a = #[(.int p1)] ∧ Z.Warmed39 U.vm ∧ U.heap = h0) (fun _ _ _ _ _ => True) (fun _ U o U' => ∃ v L, o = .returned v ∧ Q_rmIl Z p1 h0 n0 v U'.heap L ∧ FrameEnd U o U' L ({ frames := 0, cells := 0, slots := 0, locals := 0 } : Room).cells ({ frames := 0, cells := 0, slots := 0, locals := 0 } : Room).slots) := by
  refine MetFree.of_bodySF (plainFor_of_name pn_com_example_nuthatch_nuthatch_util_TextCompareCodePointsPinLaw) hisR ?_
  intro p e s m args below meth c s₁ Bd hml0 hP hK
  obtain ⟨rfl, hZ, hh⟩ := hP
  have hx := Bd.exec
  have hby := Bd.bytes
  have hml : c.maxLocals = 1 := hml0
  have hown : s.vm.findClass "com/example/nuthatch/nuthatch/util/TextCompareCodePointsPinLaw" = some m.cls := findClass_of_methodNamed Bd.named
  have hnm := (name_of_methodNamed Bd.named Bd.method).1
  have X0 : Stand p l e ({ frames := 0, cells := 0, slots := 0, locals := 0 } : Room) s m #[(.int p1)] below meth c s₁ [] 0 0 := Stand.of_body Bd
  have e0 : s₁.heap = h0 := by rw [← hh, Bd.state]; rfl
  have N0 := Fr.nil n0
  have go0 : Goes p e below s₁ (G_rmIl m p1) s₁ (mkF m 0 #[vI p1] []) := fun tq kq => castTop (by first | (simp [entryFrame, mkF, argsToLocals, Value.category, vI, vJ, vR, vD, vN, uN, sD, G_rmIl]; done) | rfl) kq
  have go512 : Goes p e below s₁ (G_rmIl m p1) s₁ (mkF m 3 #[vI p1] [(.int (56320 : Int32)), (.int p1)]) := fun tq kq => go0 tq (by
    show Sx p e below s₁ (mkF m 0 #[vI p1] []) _
    refine XS.iloadN X0.here hx rfl (hb hby d33_0) rfl ?_
    refine X0.ldcInt hx hown (mvT hZ (tw67 hw)) (g := (mkF m 1 #[vI p1] [(.int p1)])) rfl (hb hby d33_1) _ ?_
    exact kq)
  by_cases hc3_513 : p1 < (56320 : Int32)
  · have go514 : Goes p e below s₁ (G_rmIl m p1) s₁ (mkF m 17 #[vI p1] [(.int (0 : Int32))]) := fun tq kq => go512 tq (by
      show Sx p e below s₁ (mkF m 3 #[vI p1] [(.int (56320 : Int32)), (.int p1)]) _
      refine XS.icmpYes X0.here hx rfl (pc0 := 3) (pc' := 16) rfl (hb hby d33_3) rfl (tlt hc3_513).1 (by decide) (by decide) ?_
      refine XS.iconst X0.here hx rfl (hb hby d33_16) ?_
      exact kq)
    obtain ⟨fs, hr, hrun, hended, hW, hsame⟩ := X0.leave (v := some (.int (0 : Int32))) (fun h => by rw [Bd.returns] at h; cases h)
    refine ⟨_, _, go514 _ ?_, hrun, hended, _, _, rfl, ?_, ⟨_, rfl⟩, hW, hsame.mono (by decide) (by decide)⟩
    · exact retN X0 hx (t := .boolean) Bd.returns (by simp) (hb hby d33_17) hr
    · show Q_rmIl Z p1 h0 n0 _ s₁.heap _
      rw [e0]
      exact ⟨congrArg (fun z => some (Value.int z)) (Eq.symm (show (ilv p1) = (0 : Int32) from (if_pos hc3_513))), N0, rfl⟩
  · have go515 : Goes p e below s₁ (G_rmIl m p1) s₁ (mkF m 9 #[vI p1] [(.int (57343 : Int32)), (.int p1)]) := fun tq kq => go512 tq (by
      show Sx p e below s₁ (mkF m 3 #[vI p1] [(.int (56320 : Int32)), (.int p1)]) _
      refine XS.icmpNo X0.here hx rfl (hb hby d33_3) rfl (flt hc3_513).1 ?_
      refine XS.iloadN X0.here hx rfl (hb hby d33_6) rfl ?_
      show Sx p e below s₁ (mkF m 7 #[vI p1] [(.int p1)]) _
      refine X0.ldcInt hx hown (mvT hZ (tw141 hw)) (g := (mkF m 7 #[vI p1] [(.int p1)])) rfl (hb hby d33_7) _ ?_
      exact kq)
    by_cases hc9_516 : (57343 : Int32) < p1
    · have go517 : Goes p e below s₁ (G_rmIl m p1) s₁ (mkF m 17 #[vI p1] [(.int (0 : Int32))]) := fun tq kq => go515 tq (by
        show Sx p e below s₁ (mkF m 9 #[vI p1] [(.int (57343 : Int32)), (.int p1)]) _
        refine XS.icmpYes X0.here hx rfl (pc0 := 9) (pc' := 16) rfl (hb hby d33_9) rfl (tlt hc9_516).2.2.1 (by decide) (by decide) ?_
        show Sx p e below s₁ (mkF m 16 #[vI p1] []) _
        refine XS.iconst X0.here hx rfl (hb hby d33_16) ?_
        exact kq)
      obtain ⟨fs, hr, hrun, hended, hW, hsame⟩ := X0.leave (v := some (.int (0 : Int32))) (fun h => by rw [Bd.returns] at h; cases h)
      refine ⟨_, _, go517 _ ?_, hrun, hended, _, _, rfl, ?_, ⟨_, rfl⟩, hW, hsame.mono (by decide) (by decide)⟩
      · exact retN X0 hx (t := .boolean) Bd.returns (by simp) (hb hby d33_17) hr
      · show Q_rmIl Z p1 h0 n0 _ s₁.heap _
        rw [e0]
        exact ⟨congrArg (fun z => some (Value.int z)) (Eq.symm (show (ilv p1) = (0 : Int32) from ((if_neg hc3_513).trans (if_pos hc9_516)))), N0, rfl⟩
    · have go518 : Goes p e below s₁ (G_rmIl m p1) s₁ (mkF m 17 #[vI p1] [(.int (1 : Int32))]) := fun tq kq => go515 tq (by
        show Sx p e below s₁ (mkF m 9 #[vI p1] [(.int (57343 : Int32)), (.int p1)]) _
        refine XS.icmpNo X0.here hx rfl (hb hby d33_9) rfl (flt hc9_516).2.2.1 ?_
        show Sx p e below s₁ (mkF m 12 #[vI p1] []) _
        refine XS.iconst X0.here hx rfl (hb hby d33_12) ?_
        refine XS.goto X0.here hx rfl (pc0 := 13) (pc' := 17) rfl (hb hby d33_13) (by decide) (by decide) ?_
        exact kq)
      obtain ⟨fs, hr, hrun, hended, hW, hsame⟩ := X0.leave (v := some (.int (1 : Int32))) (fun h => by rw [Bd.returns] at h; cases h)
      refine ⟨_, _, go518 _ ?_, hrun, hended, _, _, rfl, ?_, ⟨_, rfl⟩, hW, hsame.mono (by decide) (by decide)⟩
      · exact retN X0 hx (t := .boolean) Bd.returns (by simp) (hb hby d33_17) hr
      · show Q_rmIl Z p1 h0 n0 _ s₁.heap _
        rw [e0]
        exact ⟨congrArg (fun z => some (Value.int z)) (Eq.symm (show (ilv p1) = (1 : Int32) from ((if_neg hc3_513).trans (if_neg hc9_516)))), N0, rfl⟩
def wdv (p1 : Int32) : Int32 := (if p1 < (65536 : Int32) then (1 : Int32) else (2 : Int32))
abbrev G_rmWd (m : MethodId) (p1 : Int32) : JFrame := (entryFrame m #[(.int p1)] 1)
theorem d13_0 : decode method_9_code 0 = .ok (.iload_n 0, 1) := by decide +kernel
theorem d13_1 : decode method_9_code 1 = .ok (.ldc 55, 2) := by decide +kernel
theorem d13_3 : decode method_9_code 3 = .ok (.if_icmp .lt 7, 3) := by decide +kernel
theorem d13_10 : decode method_9_code 10 = .ok (.iconst 1, 1) := by decide +kernel
theorem d13_11 : decode method_9_code 11 = .ok (.ireturn, 1) := by decide +kernel
theorem d13_6 : decode method_9_code 6 = .ok (.iconst 2, 1) := by decide +kernel
theorem d13_7 : decode method_9_code 7 = .ok (.goto 4, 3) := by decide +kernel
def Q_rmWd (Z : State) (p1 : Int32)  (h0 : Heap) (n0 : Nat) (v : Option Value) (h : Heap) (L : List Loc) : Prop := v = some (.int (wdv p1)) ∧ Fr n0 L ∧ h = h0
set_option maxRecDepth 65536 in
set_option maxHeartbeats 40000000 in
theorem rmWd (l : Launch) (Z : State) (a0 : Array Value) (hw : ∀ d ∈ tables_1, d.before a0 Z = true) (ws : List Jvm.Cond) (p1 : Int32)  (h0 : Heap) (n0 : Nat) (Z0 : n0 ≤ h0.size)  :
    MetFree l (⟨"com/example/nuthatch/nuthatch/util/TextCompareCodePointsPinLaw", "width", "(I)I"⟩ : MethodName) (head1 (Jvm.Cond.code (⟨"com/example/nuthatch/nuthatch/util/TextCompareCodePointsPinLaw", "width", "(I)I"⟩ : MethodName) method_9_code 1 (some .int) :: ws) ({ frames := 0, cells := 0, slots := 0, locals := 0 } : Room)) (fun a U => a = #[(.int p1)] ∧ Z.Warmed39 U.vm ∧ U.heap = h0) (fun _ _ _ _ _ => True) (fun _ U o U' => ∃ v L, o = .returned v ∧ Q_rmWd Z p1 h0 n0 v U'.heap L ∧ FrameEnd U o U' L ({ frames := 0, cells := 0, slots := 0, locals := 0 } : Room).cells ({ frames := 0, cells := 0, slots := 0, locals := 0 } : Room).slots) := by
  refine MetFree.of_bodySF (plainFor_of_name pn_com_example_nuthatch_nuthatch_util_TextCompareCodePointsPinLaw) hisR ?_
  intro p e s m args below meth c s₁ Bd hml0 hP hK
  obtain ⟨rfl, hZ, hh⟩ := hP
  have hx := Bd.exec
  have hby := Bd.bytes
  have hml : c.maxLocals = 1 := hml0
  have hown : s.vm.findClass "com/example/nuthatch/nuthatch/util/TextCompareCodePointsPinLaw" = some m.cls := findClass_of_methodNamed Bd.named
  have hnm := (name_of_methodNamed Bd.named Bd.method).1
  have X0 : Stand p l e ({ frames := 0, cells := 0, slots := 0, locals := 0 } : Room) s m #[(.int p1)] below meth c s₁ [] 0 0 := Stand.of_body Bd
  have e0 : s₁.heap = h0 := by rw [← hh, Bd.state]; rfl
  have N0 := Fr.nil n0
  have go0 : Goes p e below s₁ (G_rmWd m p1) s₁ (mkF m 0 #[vI p1] []) := fun tq kq => castTop (by first | (simp [entryFrame, mkF, argsToLocals, Value.category, vI, vJ, vR, vD, vN, uN, sD, G_rmWd]; done) | rfl) kq
  have go519 : Goes p e below s₁ (G_rmWd m p1) s₁ (mkF m 3 #[vI p1] [(.int (65536 : Int32)), (.int p1)]) := fun tq kq => go0 tq (by
    show Sx p e below s₁ (mkF m 0 #[vI p1] []) _
    refine XS.iloadN X0.here hx rfl (hb hby d13_0) rfl ?_
    refine X0.ldcInt hx hown (mvT hZ (tw63 hw)) (g := (mkF m 1 #[vI p1] [(.int p1)])) rfl (hb hby d13_1) _ ?_
    exact kq)
  by_cases hc3_520 : p1 < (65536 : Int32)
  · have go521 : Goes p e below s₁ (G_rmWd m p1) s₁ (mkF m 11 #[vI p1] [(.int (1 : Int32))]) := fun tq kq => go519 tq (by
      show Sx p e below s₁ (mkF m 3 #[vI p1] [(.int (65536 : Int32)), (.int p1)]) _
      refine XS.icmpYes X0.here hx rfl (pc0 := 3) (pc' := 10) rfl (hb hby d13_3) rfl (tlt hc3_520).1 (by decide) (by decide) ?_
      refine XS.iconst X0.here hx rfl (hb hby d13_10) ?_
      exact kq)
    obtain ⟨fs, hr, hrun, hended, hW, hsame⟩ := X0.leave (v := some (.int (1 : Int32))) (fun h => by rw [Bd.returns] at h; cases h)
    refine ⟨_, _, go521 _ ?_, hrun, hended, _, _, rfl, ?_, ⟨_, rfl⟩, hW, hsame.mono (by decide) (by decide)⟩
    · exact retI X0 hx Bd.returns (hb hby d13_11) hr
    · show Q_rmWd Z p1 h0 n0 _ s₁.heap _
      rw [e0]
      exact ⟨congrArg (fun z => some (Value.int z)) (Eq.symm (show (wdv p1) = (1 : Int32) from (if_pos hc3_520))), N0, rfl⟩
  · have go522 : Goes p e below s₁ (G_rmWd m p1) s₁ (mkF m 11 #[vI p1] [(.int (2 : Int32))]) := fun tq kq => go519 tq (by
      show Sx p e below s₁ (mkF m 3 #[vI p1] [(.int (65536 : Int32)), (.int p1)]) _
      refine XS.icmpNo X0.here hx rfl (hb hby d13_3) rfl (flt hc3_520).1 ?_
      refine XS.iconst X0.here hx rfl (hb hby d13_6) ?_
      show Sx p e below s₁ (mkF m 7 #[vI p1] [(.int (2 : Int32))]) _
      refine XS.goto X0.here hx rfl (pc0 := 7) (pc' := 11) rfl (hb hby d13_7) (by decide) (by decide) ?_
      exact kq)
    obtain ⟨fs, hr, hrun, hended, hW, hsame⟩ := X0.leave (v := some (.int (2 : Int32))) (fun h => by rw [Bd.returns] at h; cases h)
    refine ⟨_, _, go522 _ ?_, hrun, hended, _, _, rfl, ?_, ⟨_, rfl⟩, hW, hsame.mono (by decide) (by decide)⟩
    · exact retI X0 hx Bd.returns (hb hby d13_11) hr
    · show Q_rmWd Z p1 h0 n0 _ s₁.heap _
      rw [e0]
      exact ⟨congrArg (fun z => some (Value.int z)) (Eq.symm (show (wdv p1) = (2 : Int32) from (if_neg hc3_520))), N0, rfl⟩
def cpw (p1 : Int32) (p2 : Int32) : Int32 := (if p1 < p2 then (-1 : Int32) else (1 : Int32))
abbrev G_rmCp (m : MethodId) (p1 : Int32) (p2 : Int32) : JFrame := (entryFrame m #[(.int p1), (.int p2)] 2)
theorem d24_0 : decode method_10_code 0 = .ok (.iload_n 0, 1) := by decide +kernel
theorem d24_1 : decode method_10_code 1 = .ok (.iload_n 1, 1) := by decide +kernel
theorem d24_2 : decode method_10_code 2 = .ok (.if_icmp .ge 7, 3) := by decide +kernel
theorem d24_9 : decode method_10_code 9 = .ok (.iconst 1, 1) := by decide +kernel
theorem d24_10 : decode method_10_code 10 = .ok (.ireturn, 1) := by decide +kernel
theorem d24_5 : decode method_10_code 5 = .ok (.iconst (-1), 1) := by decide +kernel
theorem d24_6 : decode method_10_code 6 = .ok (.goto 4, 3) := by decide +kernel
def Q_rmCp (Z : State) (p1 : Int32) (p2 : Int32)  (h0 : Heap) (n0 : Nat) (v : Option Value) (h : Heap) (L : List Loc) : Prop := v = some (.int (cpw p1 p2)) ∧ Fr n0 L ∧ h = h0
set_option maxRecDepth 65536 in
set_option maxHeartbeats 40000000 in
theorem rmCp (l : Launch) (Z : State) (a0 : Array Value) (hw : ∀ d ∈ tables_1, d.before a0 Z = true) (ws : List Jvm.Cond) (p1 : Int32) (p2 : Int32)  (h0 : Heap) (n0 : Nat) (Z0 : n0 ≤ h0.size)  :
    MetFree l (⟨"com/example/nuthatch/nuthatch/util/TextCompareCodePointsPinLaw", "cmp", "(II)I"⟩ : MethodName) (head1 (Jvm.Cond.code (⟨"com/example/nuthatch/nuthatch/util/TextCompareCodePointsPinLaw", "cmp", "(II)I"⟩ : MethodName) method_10_code 2 (some .int) :: ws) ({ frames := 0, cells := 0, slots := 0, locals := 0 } : Room)) (fun a U => a = #[(.int p1), (.int p2)] ∧ Z.Warmed39 U.vm ∧ U.heap = h0) (fun _ _ _ _ _ => True) (fun _ U o U' => ∃ v L, o = .returned v ∧ Q_rmCp Z p1 p2 h0 n0 v U'.heap L ∧ FrameEnd U o U' L ({ frames := 0, cells := 0, slots := 0, locals := 0 } : Room).cells ({ frames := 0, cells := 0, slots := 0, locals := 0 } : Room).slots) := by
  refine MetFree.of_bodySF (plainFor_of_name pn_com_example_nuthatch_nuthatch_util_TextCompareCodePointsPinLaw) hisR ?_
  intro p e s m args below meth c s₁ Bd hml0 hP hK
  obtain ⟨rfl, hZ, hh⟩ := hP
  have hx := Bd.exec
  have hby := Bd.bytes
  have hml : c.maxLocals = 2 := hml0
  have hown : s.vm.findClass "com/example/nuthatch/nuthatch/util/TextCompareCodePointsPinLaw" = some m.cls := findClass_of_methodNamed Bd.named
  have hnm := (name_of_methodNamed Bd.named Bd.method).1
  have X0 : Stand p l e ({ frames := 0, cells := 0, slots := 0, locals := 0 } : Room) s m #[(.int p1), (.int p2)] below meth c s₁ [] 0 0 := Stand.of_body Bd
  have e0 : s₁.heap = h0 := by rw [← hh, Bd.state]; rfl
  have N0 := Fr.nil n0
  have go0 : Goes p e below s₁ (G_rmCp m p1 p2) s₁ (mkF m 0 #[vI p1, vI p2] []) := fun tq kq => castTop (by first | (simp [entryFrame, mkF, argsToLocals, Value.category, vI, vJ, vR, vD, vN, uN, sD, G_rmCp]; done) | rfl) kq
  have go523 : Goes p e below s₁ (G_rmCp m p1 p2) s₁ (mkF m 2 #[vI p1, vI p2] [(.int p2), (.int p1)]) := fun tq kq => go0 tq (by
    show Sx p e below s₁ (mkF m 0 #[vI p1, vI p2] []) _
    refine XS.iloadN X0.here hx rfl (hb hby d24_0) rfl ?_
    refine XS.iloadN X0.here hx rfl (hb hby d24_1) rfl ?_
    exact kq)
  by_cases hc2_524 : p1 < p2
  · have go526 : Goes p e below s₁ (G_rmCp m p1 p2) s₁ (mkF m 10 #[vI p1, vI p2] [(.int (-1 : Int32))]) := fun tq kq => go523 tq (by
      show Sx p e below s₁ (mkF m 2 #[vI p1, vI p2] [(.int p2), (.int p1)]) _
      refine XS.icmpNo X0.here hx rfl (hb hby d24_2) rfl (tlt hc2_524).2.1 ?_
      refine XS.iconst X0.here hx rfl (hb hby d24_5) ?_
      show Sx p e below s₁ (mkF m 6 #[vI p1, vI p2] [(.int (-1 : Int32))]) _
      refine XS.goto X0.here hx rfl (pc0 := 6) (pc' := 10) rfl (hb hby d24_6) (by decide) (by decide) ?_
      exact kq)
    obtain ⟨fs, hr, hrun, hended, hW, hsame⟩ := X0.leave (v := some (.int (-1 : Int32))) (fun h => by rw [Bd.returns] at h; cases h)
    refine ⟨_, _, go526 _ ?_, hrun, hended, _, _, rfl, ?_, ⟨_, rfl⟩, hW, hsame.mono (by decide) (by decide)⟩
    · exact retI X0 hx Bd.returns (hb hby d24_10) hr
    · show Q_rmCp Z p1 p2 h0 n0 _ s₁.heap _
      rw [e0]
      exact ⟨congrArg (fun z => some (Value.int z)) (Eq.symm (show (cpw p1 p2) = (-1 : Int32) from (if_pos hc2_524))), N0, rfl⟩
  · have go525 : Goes p e below s₁ (G_rmCp m p1 p2) s₁ (mkF m 10 #[vI p1, vI p2] [(.int (1 : Int32))]) := fun tq kq => go523 tq (by
      show Sx p e below s₁ (mkF m 2 #[vI p1, vI p2] [(.int p2), (.int p1)]) _
      refine XS.icmpYes X0.here hx rfl (pc0 := 2) (pc' := 9) rfl (hb hby d24_2) rfl (flt hc2_524).2.1 (by decide) (by decide) ?_
      refine XS.iconst X0.here hx rfl (hb hby d24_9) ?_
      exact kq)
    obtain ⟨fs, hr, hrun, hended, hW, hsame⟩ := X0.leave (v := some (.int (1 : Int32))) (fun h => by rw [Bd.returns] at h; cases h)
    refine ⟨_, _, go525 _ ?_, hrun, hended, _, _, rfl, ?_, ⟨_, rfl⟩, hW, hsame.mono (by decide) (by decide)⟩
    · exact retI X0 hx Bd.returns (hb hby d24_10) hr
    · show Q_rmCp Z p1 p2 h0 n0 _ s₁.heap _
      rw [e0]
      exact ⟨congrArg (fun z => some (Value.int z)) (Eq.symm (show (cpw p1 p2) = (1 : Int32) from (if_neg hc2_524))), N0, rfl⟩
def sgv (p1 : Int32) : Int32 := (if p1 < (0 : Int32) then (-1 : Int32) else (if (0 : Int32) < p1 then (1 : Int32) else (0 : Int32)))
abbrev G_rmSg (m : MethodId) (p1 : Int32) : JFrame := (entryFrame m #[(.int p1)] 1)
theorem d14_0 : decode method_12_code 0 = .ok (.iload_n 0, 1) := by decide +kernel
theorem d14_1 : decode method_12_code 1 = .ok (.ifCond .ge 5, 3) := by decide +kernel
theorem d14_6 : decode method_12_code 6 = .ok (.iload_n 0, 1) := by decide +kernel
theorem d14_7 : decode method_12_code 7 = .ok (.ifCond .le 5, 3) := by decide +kernel
theorem d14_12 : decode method_12_code 12 = .ok (.iconst 0, 1) := by decide +kernel
theorem d14_13 : decode method_12_code 13 = .ok (.ireturn, 1) := by decide +kernel
theorem d14_10 : decode method_12_code 10 = .ok (.iconst 1, 1) := by decide +kernel
theorem d14_11 : decode method_12_code 11 = .ok (.ireturn, 1) := by decide +kernel
theorem d14_4 : decode method_12_code 4 = .ok (.iconst (-1), 1) := by decide +kernel
theorem d14_5 : decode method_12_code 5 = .ok (.ireturn, 1) := by decide +kernel
def Q_rmSg (Z : State) (p1 : Int32)  (h0 : Heap) (n0 : Nat) (v : Option Value) (h : Heap) (L : List Loc) : Prop := v = some (.int (sgv p1)) ∧ Fr n0 L ∧ h = h0
set_option maxRecDepth 65536 in
set_option maxHeartbeats 40000000 in
theorem rmSg (l : Launch) (Z : State) (a0 : Array Value) (hw : ∀ d ∈ tables_1, d.before a0 Z = true) (ws : List Jvm.Cond) (p1 : Int32)  (h0 : Heap) (n0 : Nat) (Z0 : n0 ≤ h0.size)  :
    MetFree l (⟨"com/example/nuthatch/nuthatch/util/TextCompareCodePointsPinLaw", "sign", "(I)I"⟩ : MethodName) (head1 (Jvm.Cond.code (⟨"com/example/nuthatch/nuthatch/util/TextCompareCodePointsPinLaw", "sign", "(I)I"⟩ : MethodName) method_12_code 1 (some .int) :: ws) ({ frames := 0, cells := 0, slots := 0, locals := 0 } : Room)) (fun a U => a = #[(.int p1)] ∧ Z.Warmed39 U.vm ∧ U.heap = h0) (fun _ _ _ _ _ => True) (fun _ U o U' => ∃ v L, o = .returned v ∧ Q_rmSg Z p1 h0 n0 v U'.heap L ∧ FrameEnd U o U' L ({ frames := 0, cells := 0, slots := 0, locals := 0 } : Room).cells ({ frames := 0, cells := 0, slots := 0, locals := 0 } : Room).slots) := by
  refine MetFree.of_bodySF (plainFor_of_name pn_com_example_nuthatch_nuthatch_util_TextCompareCodePointsPinLaw) hisR ?_
  intro p e s m args below meth c s₁ Bd hml0 hP hK
  obtain ⟨rfl, hZ, hh⟩ := hP
  have hx := Bd.exec
  have hby := Bd.bytes
  have hml : c.maxLocals = 1 := hml0
  have hown : s.vm.findClass "com/example/nuthatch/nuthatch/util/TextCompareCodePointsPinLaw" = some m.cls := findClass_of_methodNamed Bd.named
  have hnm := (name_of_methodNamed Bd.named Bd.method).1
  have X0 : Stand p l e ({ frames := 0, cells := 0, slots := 0, locals := 0 } : Room) s m #[(.int p1)] below meth c s₁ [] 0 0 := Stand.of_body Bd
  have e0 : s₁.heap = h0 := by rw [← hh, Bd.state]; rfl
  have N0 := Fr.nil n0
  have go0 : Goes p e below s₁ (G_rmSg m p1) s₁ (mkF m 0 #[vI p1] []) := fun tq kq => castTop (by first | (simp [entryFrame, mkF, argsToLocals, Value.category, vI, vJ, vR, vD, vN, uN, sD, G_rmSg]; done) | rfl) kq
  have go527 : Goes p e below s₁ (G_rmSg m p1) s₁ (mkF m 1 #[vI p1] [(.int p1)]) := fun tq kq => go0 tq (by
    show Sx p e below s₁ (mkF m 0 #[vI p1] []) _
    refine XS.iloadN X0.here hx rfl (hb hby d14_0) rfl ?_
    exact kq)
  by_cases hc1_528 : p1 < (0 : Int32)
  · have go533 : Goes p e below s₁ (G_rmSg m p1) s₁ (mkF m 5 #[vI p1] [(.int (-1 : Int32))]) := fun tq kq => go527 tq (by
      show Sx p e below s₁ (mkF m 1 #[vI p1] [(.int p1)]) _
      refine XS.ifNo X0.here hx rfl (hb hby d14_1) rfl ((if0 _ _).trans (tlt hc1_528).2.1) ?_
      show Sx p e below s₁ (mkF m 4 #[vI p1] []) _
      refine XS.iconst X0.here hx rfl (hb hby d14_4) ?_
      exact kq)
    obtain ⟨fs, hr, hrun, hended, hW, hsame⟩ := X0.leave (v := some (.int (-1 : Int32))) (fun h => by rw [Bd.returns] at h; cases h)
    refine ⟨_, _, go533 _ ?_, hrun, hended, _, _, rfl, ?_, ⟨_, rfl⟩, hW, hsame.mono (by decide) (by decide)⟩
    · exact retI X0 hx Bd.returns (hb hby d14_5) hr
    · show Q_rmSg Z p1 h0 n0 _ s₁.heap _
      rw [e0]
      exact ⟨congrArg (fun z => some (Value.int z)) (Eq.symm (show (sgv p1) = (-1 : Int32) from (if_pos hc1_528))), N0, rfl⟩
  · have go529 : Goes p e below s₁ (G_rmSg m p1) s₁ (mkF m 7 #[vI p1] [(.int p1)]) := fun tq kq => go527 tq (by
      show Sx p e below s₁ (mkF m 1 #[vI p1] [(.int p1)]) _
      refine XS.ifYes X0.here hx rfl (pc0 := 1) (pc' := 6) rfl (hb hby d14_1) rfl ((if0 _ _).trans (flt hc1_528).2.1) (by decide) (by decide) ?_
      show Sx p e below s₁ (mkF m 6 #[vI p1] []) _
      refine XS.iloadN X0.here hx rfl (hb hby d14_6) rfl ?_
      exact kq)
    by_cases hc7_530 : (0 : Int32) < p1
    · have go532 : Goes p e below s₁ (G_rmSg m p1) s₁ (mkF m 11 #[vI p1] [(.int (1 : Int32))]) := fun tq kq => go529 tq (by
        show Sx p e below s₁ (mkF m 7 #[vI p1] [(.int p1)]) _
        refine XS.ifNo X0.here hx rfl (hb hby d14_7) rfl ((if0 _ _).trans (tlt hc7_530).2.2.2) ?_
        show Sx p e below s₁ (mkF m 10 #[vI p1] []) _
        refine XS.iconst X0.here hx rfl (hb hby d14_10) ?_
        exact kq)
      obtain ⟨fs, hr, hrun, hended, hW, hsame⟩ := X0.leave (v := some (.int (1 : Int32))) (fun h => by rw [Bd.returns] at h; cases h)
      refine ⟨_, _, go532 _ ?_, hrun, hended, _, _, rfl, ?_, ⟨_, rfl⟩, hW, hsame.mono (by decide) (by decide)⟩
      · exact retI X0 hx Bd.returns (hb hby d14_11) hr
      · show Q_rmSg Z p1 h0 n0 _ s₁.heap _
        rw [e0]
        exact ⟨congrArg (fun z => some (Value.int z)) (Eq.symm (show (sgv p1) = (1 : Int32) from ((if_neg hc1_528).trans (if_pos hc7_530)))), N0, rfl⟩
    · have go531 : Goes p e below s₁ (G_rmSg m p1) s₁ (mkF m 13 #[vI p1] [(.int (0 : Int32))]) := fun tq kq => go529 tq (by
        show Sx p e below s₁ (mkF m 7 #[vI p1] [(.int p1)]) _
        refine XS.ifYes X0.here hx rfl (pc0 := 7) (pc' := 12) rfl (hb hby d14_7) rfl ((if0 _ _).trans (flt hc7_530).2.2.2) (by decide) (by decide) ?_
        show Sx p e below s₁ (mkF m 12 #[vI p1] []) _
        refine XS.iconst X0.here hx rfl (hb hby d14_12) ?_
        exact kq)
      obtain ⟨fs, hr, hrun, hended, hW, hsame⟩ := X0.leave (v := some (.int (0 : Int32))) (fun h => by rw [Bd.returns] at h; cases h)
      refine ⟨_, _, go531 _ ?_, hrun, hended, _, _, rfl, ?_, ⟨_, rfl⟩, hW, hsame.mono (by decide) (by decide)⟩
      · exact retI X0 hx Bd.returns (hb hby d14_13) hr
      · show Q_rmSg Z p1 h0 n0 _ s₁.heap _
        rw [e0]
        exact ⟨congrArg (fun z => some (Value.int z)) (Eq.symm (show (sgv p1) = (0 : Int32) from ((if_neg hc1_528).trans (if_neg hc7_530)))), N0, rfl⟩
def drv (q1 : Int64) : Int32 := (if ((q1 &&& (3 : Int64)).toInt32) = (0 : Int32) then (nar .char ((((((((q1.toUInt64 >>> ((2 : Int32) &&& 63).toInt64.toUInt64).toInt64) &&& (65535 : Int64))).toInt32) &&& (255 : Int32))).toUInt32.toUInt16.toUInt32.toInt32)) else (if ((q1 &&& (3 : Int64)).toInt32) = (1 : Int32) then (nar .char ((((55296 : Int32) + ((((((q1.toUInt64 >>> ((2 : Int32) &&& 63).toInt64.toUInt64).toInt64) &&& (65535 : Int64))).toInt32) &&& (1023 : Int32)))).toUInt32.toUInt16.toUInt32.toInt32)) else (if ((q1 &&& (3 : Int64)).toInt32) = (2 : Int32) then (nar .char ((((56320 : Int32) + ((((((q1.toUInt64 >>> ((2 : Int32) &&& 63).toInt64.toUInt64).toInt64) &&& (65535 : Int64))).toInt32) &&& (1023 : Int32)))).toUInt32.toUInt16.toUInt32.toInt32)) else (nar .char (((((((q1.toUInt64 >>> ((2 : Int32) &&& 63).toInt64.toUInt64).toInt64) &&& (65535 : Int64))).toInt32)).toUInt32.toUInt16.toUInt32.toInt32)))))
abbrev G_rmDr (m : MethodId) (q1 : Int64) : JFrame := (entryFrame m #[(.long q1)] 4)
theorem d1_0 : decode method_3_code 0 = .ok (.lload_n 0, 1) := by decide +kernel
theorem d1_1 : decode method_3_code 1 = .ok (.ldc2_w 13, 3) := by decide +kernel
theorem d1_4 : decode method_3_code 4 = .ok (.land, 1) := by decide +kernel
theorem d1_5 : decode method_3_code 5 = .ok (.l2i, 1) := by decide +kernel
theorem d1_6 : decode method_3_code 6 = .ok (.istore_n 2, 1) := by decide +kernel
theorem d1_7 : decode method_3_code 7 = .ok (.lload_n 0, 1) := by decide +kernel
theorem d1_8 : decode method_3_code 8 = .ok (.iconst 2, 1) := by decide +kernel
theorem d1_9 : decode method_3_code 9 = .ok (.lushr, 1) := by decide +kernel
theorem d1_10 : decode method_3_code 10 = .ok (.ldc2_w 33, 3) := by decide +kernel
theorem d1_13 : decode method_3_code 13 = .ok (.land, 1) := by decide +kernel
theorem d1_14 : decode method_3_code 14 = .ok (.l2i, 1) := by decide +kernel
theorem d1_15 : decode method_3_code 15 = .ok (.istore_n 3, 1) := by decide +kernel
theorem d1_16 : decode method_3_code 16 = .ok (.iload_n 2, 1) := by decide +kernel
theorem d1_17 : decode method_3_code 17 = .ok (.ifCond .ne 10, 3) := by decide +kernel
theorem d1_27 : decode method_3_code 27 = .ok (.iload_n 2, 1) := by decide +kernel
theorem d1_28 : decode method_3_code 28 = .ok (.iconst 1, 1) := by decide +kernel
theorem d1_29 : decode method_3_code 29 = .ok (.if_icmp .ne 13, 3) := by decide +kernel
theorem d1_42 : decode method_3_code 42 = .ok (.iload_n 2, 1) := by decide +kernel
theorem d1_43 : decode method_3_code 43 = .ok (.iconst 2, 1) := by decide +kernel
theorem d1_44 : decode method_3_code 44 = .ok (.if_icmp .ne 13, 3) := by decide +kernel
theorem d1_57 : decode method_3_code 57 = .ok (.iload_n 3, 1) := by decide +kernel
theorem d1_58 : decode method_3_code 58 = .ok (.i2c, 1) := by decide +kernel
theorem d1_59 : decode method_3_code 59 = .ok (.ireturn, 1) := by decide +kernel
theorem d1_47 : decode method_3_code 47 = .ok (.ldc 36, 2) := by decide +kernel
theorem d1_49 : decode method_3_code 49 = .ok (.iload_n 3, 1) := by decide +kernel
theorem d1_50 : decode method_3_code 50 = .ok (.sipush 1023, 3) := by decide +kernel
theorem d1_53 : decode method_3_code 53 = .ok (.iand, 1) := by decide +kernel
theorem d1_54 : decode method_3_code 54 = .ok (.iadd, 1) := by decide +kernel
theorem d1_55 : decode method_3_code 55 = .ok (.i2c, 1) := by decide +kernel
theorem d1_56 : decode method_3_code 56 = .ok (.ireturn, 1) := by decide +kernel
theorem d1_32 : decode method_3_code 32 = .ok (.ldc 35, 2) := by decide +kernel
theorem d1_34 : decode method_3_code 34 = .ok (.iload_n 3, 1) := by decide +kernel
theorem d1_35 : decode method_3_code 35 = .ok (.sipush 1023, 3) := by decide +kernel
theorem d1_38 : decode method_3_code 38 = .ok (.iand, 1) := by decide +kernel
theorem d1_39 : decode method_3_code 39 = .ok (.iadd, 1) := by decide +kernel
theorem d1_40 : decode method_3_code 40 = .ok (.i2c, 1) := by decide +kernel
theorem d1_41 : decode method_3_code 41 = .ok (.ireturn, 1) := by decide +kernel
theorem d1_20 : decode method_3_code 20 = .ok (.iload_n 3, 1) := by decide +kernel
theorem d1_21 : decode method_3_code 21 = .ok (.sipush 255, 3) := by decide +kernel
theorem d1_24 : decode method_3_code 24 = .ok (.iand, 1) := by decide +kernel
theorem d1_25 : decode method_3_code 25 = .ok (.i2c, 1) := by decide +kernel
theorem d1_26 : decode method_3_code 26 = .ok (.ireturn, 1) := by decide +kernel
def Q_rmDr (Z : State) (q1 : Int64)  (h0 : Heap) (n0 : Nat) (v : Option Value) (h : Heap) (L : List Loc) : Prop := v = some (.int (drv q1)) ∧ Fr n0 L ∧ h = h0
set_option maxRecDepth 65536 in
set_option maxHeartbeats 40000000 in
theorem rmDr (l : Launch) (Z : State) (a0 : Array Value) (hw : ∀ d ∈ tables_1, d.before a0 Z = true) (ws : List Jvm.Cond) (q1 : Int64)  (h0 : Heap) (n0 : Nat) (Z0 : n0 ≤ h0.size)  :
    MetFree l (⟨"com/example/nuthatch/nuthatch/util/TextCompareCodePointsPinLaw", "draw", "(J)C"⟩ : MethodName) (head1 (Jvm.Cond.code (⟨"com/example/nuthatch/nuthatch/util/TextCompareCodePointsPinLaw", "draw", "(J)C"⟩ : MethodName) method_3_code 4 (some .char) :: ws) ({ frames := 0, cells := 0, slots := 0, locals := 0 } : Room)) (fun a U => a = #[(.long q1)] ∧ Z.Warmed39 U.vm ∧ U.heap = h0) (fun _ _ _ _ _ => True) (fun _ U o U' => ∃ v L, o = .returned v ∧ Q_rmDr Z q1 h0 n0 v U'.heap L ∧ FrameEnd U o U' L ({ frames := 0, cells := 0, slots := 0, locals := 0 } : Room).cells ({ frames := 0, cells := 0, slots := 0, locals := 0 } : Room).slots) := by
  refine MetFree.of_bodySF (plainFor_of_name pn_com_example_nuthatch_nuthatch_util_TextCompareCodePointsPinLaw) hisR ?_
  intro p e s m args below meth c s₁ Bd hml0 hP hK
  obtain ⟨rfl, hZ, hh⟩ := hP
  have hx := Bd.exec
  have hby := Bd.bytes
  have hml : c.maxLocals = 4 := hml0
  have hown : s.vm.findClass "com/example/nuthatch/nuthatch/util/TextCompareCodePointsPinLaw" = some m.cls := findClass_of_methodNamed Bd.named
  have hnm := (name_of_methodNamed Bd.named Bd.method).1
  have X0 : Stand p l e ({ frames := 0, cells := 0, slots := 0, locals := 0 } : Room) s m #[(.long q1)] below meth c s₁ [] 0 0 := Stand.of_body Bd
  have e0 : s₁.heap = h0 := by rw [← hh, Bd.state]; rfl
  have N0 := Fr.nil n0
  have go0 : Goes p e below s₁ (G_rmDr m q1) s₁ (mkF m 0 #[vJ q1, sD, uN, uN] []) := fun tq kq => castTop (by first | (simp [entryFrame, mkF, argsToLocals, Value.category, vI, vJ, vR, vD, vN, uN, sD, G_rmDr]; done) | rfl) kq
  have go534 : Goes p e below s₁ (G_rmDr m q1) s₁ (mkF m 17 #[vJ q1, sD, vI ((q1 &&& (3 : Int64)).toInt32), vI (((((q1.toUInt64 >>> ((2 : Int32) &&& 63).toInt64.toUInt64).toInt64) &&& (65535 : Int64))).toInt32)] [(.int ((q1 &&& (3 : Int64)).toInt32))]) := fun tq kq => go0 tq (by
    show Sx p e below s₁ (mkF m 0 #[vJ q1, sD, uN, uN] []) _
    refine XS.lloadN X0.here hx rfl (hb hby d1_0) rfl ?_
    refine X0.ldc2Long hx hown (mvT hZ (tw4 hw)) (g := (mkF m 1 #[vJ q1, sD, uN, uN] [(.long q1)])) rfl (hb hby d1_1) _ ?_
    show Sx p e below s₁ (mkF m 4 #[vJ q1, sD, uN, uN] [(.long (3 : Int64)), (.long q1)]) _
    refine XS.land X0.here hx rfl (hb hby d1_4) rfl ?_
    refine XS.l2i X0.here hx rfl (hb hby d1_5) rfl ?_
    show Sx p e below s₁ (mkF m 6 #[vJ q1, sD, uN, uN] [(.int ((q1 &&& (3 : Int64)).toInt32))]) _
    refine XS.istoreN X0.here hx rfl (hb hby d1_6) rfl (l' := #[vJ q1, sD, vI ((q1 &&& (3 : Int64)).toInt32), uN]) rfl ?_
    refine XS.lloadN X0.here hx rfl (hb hby d1_7) rfl ?_
    show Sx p e below s₁ (mkF m 8 #[vJ q1, sD, vI ((q1 &&& (3 : Int64)).toInt32), uN] [(.long q1)]) _
    refine XS.iconst X0.here hx rfl (hb hby d1_8) ?_
    refine XS.lushr X0.here hx rfl (hb hby d1_9) rfl ?_
    show Sx p e below s₁ (mkF m 10 #[vJ q1, sD, vI ((q1 &&& (3 : Int64)).toInt32), uN] [(.long ((q1.toUInt64 >>> ((2 : Int32) &&& 63).toInt64.toUInt64).toInt64))]) _
    refine X0.ldc2Long hx hown (mvT hZ (tw5 hw)) (g := (mkF m 10 #[vJ q1, sD, vI ((q1 &&& (3 : Int64)).toInt32), uN] [(.long ((q1.toUInt64 >>> ((2 : Int32) &&& 63).toInt64.toUInt64).toInt64))])) rfl (hb hby d1_10) _ ?_
    refine XS.land X0.here hx rfl (hb hby d1_13) rfl ?_
    show Sx p e below s₁ (mkF m 14 #[vJ q1, sD, vI ((q1 &&& (3 : Int64)).toInt32), uN] [(.long (((q1.toUInt64 >>> ((2 : Int32) &&& 63).toInt64.toUInt64).toInt64) &&& (65535 : Int64)))]) _
    refine XS.l2i X0.here hx rfl (hb hby d1_14) rfl ?_
    refine XS.istoreN X0.here hx rfl (hb hby d1_15) rfl (l' := #[vJ q1, sD, vI ((q1 &&& (3 : Int64)).toInt32), vI (((((q1.toUInt64 >>> ((2 : Int32) &&& 63).toInt64.toUInt64).toInt64) &&& (65535 : Int64))).toInt32)]) rfl ?_
    show Sx p e below s₁ (mkF m 16 #[vJ q1, sD, vI ((q1 &&& (3 : Int64)).toInt32), vI (((((q1.toUInt64 >>> ((2 : Int32) &&& 63).toInt64.toUInt64).toInt64) &&& (65535 : Int64))).toInt32)] []) _
    refine XS.iloadN X0.here hx rfl (hb hby d1_16) rfl ?_
    exact kq)
  by_cases hc17_535 : ((q1 &&& (3 : Int64)).toInt32) = (0 : Int32)
  · have go543 : Goes p e below s₁ (G_rmDr m q1) s₁ (mkF m 26 #[vJ q1, sD, vI ((q1 &&& (3 : Int64)).toInt32), vI (((((q1.toUInt64 >>> ((2 : Int32) &&& 63).toInt64.toUInt64).toInt64) &&& (65535 : Int64))).toInt32)] [(.int ((((((((q1.toUInt64 >>> ((2 : Int32) &&& 63).toInt64.toUInt64).toInt64) &&& (65535 : Int64))).toInt32) &&& (255 : Int32))).toUInt32.toUInt16.toUInt32.toInt32))]) := fun tq kq => go534 tq (by
      show Sx p e below s₁ (mkF m 17 #[vJ q1, sD, vI ((q1 &&& (3 : Int64)).toInt32), vI (((((q1.toUInt64 >>> ((2 : Int32) &&& 63).toInt64.toUInt64).toInt64) &&& (65535 : Int64))).toInt32)] [(.int ((q1 &&& (3 : Int64)).toInt32))]) _
      refine XS.ifNo X0.here hx rfl (hb hby d1_17) rfl ((if0 _ _).trans (teq hc17_535).2) ?_
      show Sx p e below s₁ (mkF m 20 #[vJ q1, sD, vI ((q1 &&& (3 : Int64)).toInt32), vI (((((q1.toUInt64 >>> ((2 : Int32) &&& 63).toInt64.toUInt64).toInt64) &&& (65535 : Int64))).toInt32)] []) _
      refine XS.iloadN X0.here hx rfl (hb hby d1_20) rfl ?_
      refine XS.sipush X0.here hx rfl (hb hby d1_21) ?_
      show Sx p e below s₁ (mkF m 24 #[vJ q1, sD, vI ((q1 &&& (3 : Int64)).toInt32), vI (((((q1.toUInt64 >>> ((2 : Int32) &&& 63).toInt64.toUInt64).toInt64) &&& (65535 : Int64))).toInt32)] [(.int (255 : Int32)), (.int (((((q1.toUInt64 >>> ((2 : Int32) &&& 63).toInt64.toUInt64).toInt64) &&& (65535 : Int64))).toInt32))]) _
      refine XS.iand X0.here hx rfl (hb hby d1_24) rfl ?_
      refine XS.i2c X0.here hx rfl (hb hby d1_25) rfl ?_
      exact kq)
    obtain ⟨fs, hr, hrun, hended, hW, hsame⟩ := X0.leave (v := some (.int (nar .char ((((((((q1.toUInt64 >>> ((2 : Int32) &&& 63).toInt64.toUInt64).toInt64) &&& (65535 : Int64))).toInt32) &&& (255 : Int32))).toUInt32.toUInt16.toUInt32.toInt32)))) (fun h => by rw [Bd.returns] at h; cases h)
    refine ⟨_, _, go543 _ ?_, hrun, hended, _, _, rfl, ?_, ⟨_, rfl⟩, hW, hsame.mono (by decide) (by decide)⟩
    · exact retN X0 hx (t := .char) Bd.returns (by simp) (hb hby d1_26) hr
    · show Q_rmDr Z q1 h0 n0 _ s₁.heap _
      rw [e0]
      exact ⟨congrArg (fun z => some (Value.int z)) (Eq.symm (show (drv q1) = (nar .char ((((((((q1.toUInt64 >>> ((2 : Int32) &&& 63).toInt64.toUInt64).toInt64) &&& (65535 : Int64))).toInt32) &&& (255 : Int32))).toUInt32.toUInt16.toUInt32.toInt32)) from (if_pos hc17_535))), N0, rfl⟩
  · have go536 : Goes p e below s₁ (G_rmDr m q1) s₁ (mkF m 29 #[vJ q1, sD, vI ((q1 &&& (3 : Int64)).toInt32), vI (((((q1.toUInt64 >>> ((2 : Int32) &&& 63).toInt64.toUInt64).toInt64) &&& (65535 : Int64))).toInt32)] [(.int (1 : Int32)), (.int ((q1 &&& (3 : Int64)).toInt32))]) := fun tq kq => go534 tq (by
      show Sx p e below s₁ (mkF m 17 #[vJ q1, sD, vI ((q1 &&& (3 : Int64)).toInt32), vI (((((q1.toUInt64 >>> ((2 : Int32) &&& 63).toInt64.toUInt64).toInt64) &&& (65535 : Int64))).toInt32)] [(.int ((q1 &&& (3 : Int64)).toInt32))]) _
      refine XS.ifYes X0.here hx rfl (pc0 := 17) (pc' := 27) rfl (hb hby d1_17) rfl ((if0 _ _).trans (feq hc17_535).2) (by decide) (by decide) ?_
      show Sx p e below s₁ (mkF m 27 #[vJ q1, sD, vI ((q1 &&& (3 : Int64)).toInt32), vI (((((q1.toUInt64 >>> ((2 : Int32) &&& 63).toInt64.toUInt64).toInt64) &&& (65535 : Int64))).toInt32)] []) _
      refine XS.iloadN X0.here hx rfl (hb hby d1_27) rfl ?_
      refine XS.iconst X0.here hx rfl (hb hby d1_28) ?_
      exact kq)
    by_cases hc29_537 : ((q1 &&& (3 : Int64)).toInt32) = (1 : Int32)
    · have go542 : Goes p e below s₁ (G_rmDr m q1) s₁ (mkF m 41 #[vJ q1, sD, vI ((q1 &&& (3 : Int64)).toInt32), vI (((((q1.toUInt64 >>> ((2 : Int32) &&& 63).toInt64.toUInt64).toInt64) &&& (65535 : Int64))).toInt32)] [(.int ((((55296 : Int32) + ((((((q1.toUInt64 >>> ((2 : Int32) &&& 63).toInt64.toUInt64).toInt64) &&& (65535 : Int64))).toInt32) &&& (1023 : Int32)))).toUInt32.toUInt16.toUInt32.toInt32))]) := fun tq kq => go536 tq (by
        show Sx p e below s₁ (mkF m 29 #[vJ q1, sD, vI ((q1 &&& (3 : Int64)).toInt32), vI (((((q1.toUInt64 >>> ((2 : Int32) &&& 63).toInt64.toUInt64).toInt64) &&& (65535 : Int64))).toInt32)] [(.int (1 : Int32)), (.int ((q1 &&& (3 : Int64)).toInt32))]) _
        refine XS.icmpNo X0.here hx rfl (hb hby d1_29) rfl (teq hc29_537).2 ?_
        refine X0.ldcInt hx hown (mvT hZ (tw6 hw)) (g := (mkF m 32 #[vJ q1, sD, vI ((q1 &&& (3 : Int64)).toInt32), vI (((((q1.toUInt64 >>> ((2 : Int32) &&& 63).toInt64.toUInt64).toInt64) &&& (65535 : Int64))).toInt32)] [])) rfl (hb hby d1_32) _ ?_
        show Sx p e below s₁ (mkF m 34 #[vJ q1, sD, vI ((q1 &&& (3 : Int64)).toInt32), vI (((((q1.toUInt64 >>> ((2 : Int32) &&& 63).toInt64.toUInt64).toInt64) &&& (65535 : Int64))).toInt32)] [(.int (55296 : Int32))]) _
        refine XS.iloadN X0.here hx rfl (hb hby d1_34) rfl ?_
        refine XS.sipush X0.here hx rfl (hb hby d1_35) ?_
        show Sx p e below s₁ (mkF m 38 #[vJ q1, sD, vI ((q1 &&& (3 : Int64)).toInt32), vI (((((q1.toUInt64 >>> ((2 : Int32) &&& 63).toInt64.toUInt64).toInt64) &&& (65535 : Int64))).toInt32)] [(.int (1023 : Int32)), (.int (((((q1.toUInt64 >>> ((2 : Int32) &&& 63).toInt64.toUInt64).toInt64) &&& (65535 : Int64))).toInt32)), (.int (55296 : Int32))]) _
        refine XS.iand X0.here hx rfl (hb hby d1_38) rfl ?_
        refine XS.iadd X0.here hx rfl (hb hby d1_39) rfl ?_
        show Sx p e below s₁ (mkF m 40 #[vJ q1, sD, vI ((q1 &&& (3 : Int64)).toInt32), vI (((((q1.toUInt64 >>> ((2 : Int32) &&& 63).toInt64.toUInt64).toInt64) &&& (65535 : Int64))).toInt32)] [(.int ((55296 : Int32) + ((((((q1.toUInt64 >>> ((2 : Int32) &&& 63).toInt64.toUInt64).toInt64) &&& (65535 : Int64))).toInt32) &&& (1023 : Int32))))]) _
        refine XS.i2c X0.here hx rfl (hb hby d1_40) rfl ?_
        exact kq)
      obtain ⟨fs, hr, hrun, hended, hW, hsame⟩ := X0.leave (v := some (.int (nar .char ((((55296 : Int32) + ((((((q1.toUInt64 >>> ((2 : Int32) &&& 63).toInt64.toUInt64).toInt64) &&& (65535 : Int64))).toInt32) &&& (1023 : Int32)))).toUInt32.toUInt16.toUInt32.toInt32)))) (fun h => by rw [Bd.returns] at h; cases h)
      refine ⟨_, _, go542 _ ?_, hrun, hended, _, _, rfl, ?_, ⟨_, rfl⟩, hW, hsame.mono (by decide) (by decide)⟩
      · exact retN X0 hx (t := .char) Bd.returns (by simp) (hb hby d1_41) hr
      · show Q_rmDr Z q1 h0 n0 _ s₁.heap _
        rw [e0]
        exact ⟨congrArg (fun z => some (Value.int z)) (Eq.symm (show (drv q1) = (nar .char ((((55296 : Int32) + ((((((q1.toUInt64 >>> ((2 : Int32) &&& 63).toInt64.toUInt64).toInt64) &&& (65535 : Int64))).toInt32) &&& (1023 : Int32)))).toUInt32.toUInt16.toUInt32.toInt32)) from ((if_neg hc17_535).trans (if_pos hc29_537)))), N0, rfl⟩
    · have go538 : Goes p e below s₁ (G_rmDr m q1) s₁ (mkF m 44 #[vJ q1, sD, vI ((q1 &&& (3 : Int64)).toInt32), vI (((((q1.toUInt64 >>> ((2 : Int32) &&& 63).toInt64.toUInt64).toInt64) &&& (65535 : Int64))).toInt32)] [(.int (2 : Int32)), (.int ((q1 &&& (3 : Int64)).toInt32))]) := fun tq kq => go536 tq (by
        show Sx p e below s₁ (mkF m 29 #[vJ q1, sD, vI ((q1 &&& (3 : Int64)).toInt32), vI (((((q1.toUInt64 >>> ((2 : Int32) &&& 63).toInt64.toUInt64).toInt64) &&& (65535 : Int64))).toInt32)] [(.int (1 : Int32)), (.int ((q1 &&& (3 : Int64)).toInt32))]) _
        refine XS.icmpYes X0.here hx rfl (pc0 := 29) (pc' := 42) rfl (hb hby d1_29) rfl (feq hc29_537).2 (by decide) (by decide) ?_
        refine XS.iloadN X0.here hx rfl (hb hby d1_42) rfl ?_
        show Sx p e below s₁ (mkF m 43 #[vJ q1, sD, vI ((q1 &&& (3 : Int64)).toInt32), vI (((((q1.toUInt64 >>> ((2 : Int32) &&& 63).toInt64.toUInt64).toInt64) &&& (65535 : Int64))).toInt32)] [(.int ((q1 &&& (3 : Int64)).toInt32))]) _
        refine XS.iconst X0.here hx rfl (hb hby d1_43) ?_
        exact kq)
      by_cases hc44_539 : ((q1 &&& (3 : Int64)).toInt32) = (2 : Int32)
      · have go541 : Goes p e below s₁ (G_rmDr m q1) s₁ (mkF m 56 #[vJ q1, sD, vI ((q1 &&& (3 : Int64)).toInt32), vI (((((q1.toUInt64 >>> ((2 : Int32) &&& 63).toInt64.toUInt64).toInt64) &&& (65535 : Int64))).toInt32)] [(.int ((((56320 : Int32) + ((((((q1.toUInt64 >>> ((2 : Int32) &&& 63).toInt64.toUInt64).toInt64) &&& (65535 : Int64))).toInt32) &&& (1023 : Int32)))).toUInt32.toUInt16.toUInt32.toInt32))]) := fun tq kq => go538 tq (by
          show Sx p e below s₁ (mkF m 44 #[vJ q1, sD, vI ((q1 &&& (3 : Int64)).toInt32), vI (((((q1.toUInt64 >>> ((2 : Int32) &&& 63).toInt64.toUInt64).toInt64) &&& (65535 : Int64))).toInt32)] [(.int (2 : Int32)), (.int ((q1 &&& (3 : Int64)).toInt32))]) _
          refine XS.icmpNo X0.here hx rfl (hb hby d1_44) rfl (teq hc44_539).2 ?_
          show Sx p e below s₁ (mkF m 47 #[vJ q1, sD, vI ((q1 &&& (3 : Int64)).toInt32), vI (((((q1.toUInt64 >>> ((2 : Int32) &&& 63).toInt64.toUInt64).toInt64) &&& (65535 : Int64))).toInt32)] []) _
          refine X0.ldcInt hx hown (mvT hZ (tw67 hw)) (g := (mkF m 47 #[vJ q1, sD, vI ((q1 &&& (3 : Int64)).toInt32), vI (((((q1.toUInt64 >>> ((2 : Int32) &&& 63).toInt64.toUInt64).toInt64) &&& (65535 : Int64))).toInt32)] [])) rfl (hb hby d1_47) _ ?_
          refine XS.iloadN X0.here hx rfl (hb hby d1_49) rfl ?_
          show Sx p e below s₁ (mkF m 50 #[vJ q1, sD, vI ((q1 &&& (3 : Int64)).toInt32), vI (((((q1.toUInt64 >>> ((2 : Int32) &&& 63).toInt64.toUInt64).toInt64) &&& (65535 : Int64))).toInt32)] [(.int (((((q1.toUInt64 >>> ((2 : Int32) &&& 63).toInt64.toUInt64).toInt64) &&& (65535 : Int64))).toInt32)), (.int (56320 : Int32))]) _
          refine XS.sipush X0.here hx rfl (hb hby d1_50) ?_
          refine XS.iand X0.here hx rfl (hb hby d1_53) rfl ?_
          show Sx p e below s₁ (mkF m 54 #[vJ q1, sD, vI ((q1 &&& (3 : Int64)).toInt32), vI (((((q1.toUInt64 >>> ((2 : Int32) &&& 63).toInt64.toUInt64).toInt64) &&& (65535 : Int64))).toInt32)] [(.int ((((((q1.toUInt64 >>> ((2 : Int32) &&& 63).toInt64.toUInt64).toInt64) &&& (65535 : Int64))).toInt32) &&& (1023 : Int32))), (.int (56320 : Int32))]) _
          refine XS.iadd X0.here hx rfl (hb hby d1_54) rfl ?_
          refine XS.i2c X0.here hx rfl (hb hby d1_55) rfl ?_
          exact kq)
        obtain ⟨fs, hr, hrun, hended, hW, hsame⟩ := X0.leave (v := some (.int (nar .char ((((56320 : Int32) + ((((((q1.toUInt64 >>> ((2 : Int32) &&& 63).toInt64.toUInt64).toInt64) &&& (65535 : Int64))).toInt32) &&& (1023 : Int32)))).toUInt32.toUInt16.toUInt32.toInt32)))) (fun h => by rw [Bd.returns] at h; cases h)
        refine ⟨_, _, go541 _ ?_, hrun, hended, _, _, rfl, ?_, ⟨_, rfl⟩, hW, hsame.mono (by decide) (by decide)⟩
        · exact retN X0 hx (t := .char) Bd.returns (by simp) (hb hby d1_56) hr
        · show Q_rmDr Z q1 h0 n0 _ s₁.heap _
          rw [e0]
          exact ⟨congrArg (fun z => some (Value.int z)) (Eq.symm (show (drv q1) = (nar .char ((((56320 : Int32) + ((((((q1.toUInt64 >>> ((2 : Int32) &&& 63).toInt64.toUInt64).toInt64) &&& (65535 : Int64))).toInt32) &&& (1023 : Int32)))).toUInt32.toUInt16.toUInt32.toInt32)) from ((if_neg hc17_535).trans ((if_neg hc29_537).trans (if_pos hc44_539))))), N0, rfl⟩
      · have go540 : Goes p e below s₁ (G_rmDr m q1) s₁ (mkF m 59 #[vJ q1, sD, vI ((q1 &&& (3 : Int64)).toInt32), vI (((((q1.toUInt64 >>> ((2 : Int32) &&& 63).toInt64.toUInt64).toInt64) &&& (65535 : Int64))).toInt32)] [(.int (((((((q1.toUInt64 >>> ((2 : Int32) &&& 63).toInt64.toUInt64).toInt64) &&& (65535 : Int64))).toInt32)).toUInt32.toUInt16.toUInt32.toInt32))]) := fun tq kq => go538 tq (by
          show Sx p e below s₁ (mkF m 44 #[vJ q1, sD, vI ((q1 &&& (3 : Int64)).toInt32), vI (((((q1.toUInt64 >>> ((2 : Int32) &&& 63).toInt64.toUInt64).toInt64) &&& (65535 : Int64))).toInt32)] [(.int (2 : Int32)), (.int ((q1 &&& (3 : Int64)).toInt32))]) _
          refine XS.icmpYes X0.here hx rfl (pc0 := 44) (pc' := 57) rfl (hb hby d1_44) rfl (feq hc44_539).2 (by decide) (by decide) ?_
          show Sx p e below s₁ (mkF m 57 #[vJ q1, sD, vI ((q1 &&& (3 : Int64)).toInt32), vI (((((q1.toUInt64 >>> ((2 : Int32) &&& 63).toInt64.toUInt64).toInt64) &&& (65535 : Int64))).toInt32)] []) _
          refine XS.iloadN X0.here hx rfl (hb hby d1_57) rfl ?_
          refine XS.i2c X0.here hx rfl (hb hby d1_58) rfl ?_
          exact kq)
        obtain ⟨fs, hr, hrun, hended, hW, hsame⟩ := X0.leave (v := some (.int (nar .char (((((((q1.toUInt64 >>> ((2 : Int32) &&& 63).toInt64.toUInt64).toInt64) &&& (65535 : Int64))).toInt32)).toUInt32.toUInt16.toUInt32.toInt32)))) (fun h => by rw [Bd.returns] at h; cases h)
        refine ⟨_, _, go540 _ ?_, hrun, hended, _, _, rfl, ?_, ⟨_, rfl⟩, hW, hsame.mono (by decide) (by decide)⟩
        · exact retN X0 hx (t := .char) Bd.returns (by simp) (hb hby d1_59) hr
        · show Q_rmDr Z q1 h0 n0 _ s₁.heap _
          rw [e0]
          exact ⟨congrArg (fun z => some (Value.int z)) (Eq.symm (show (drv q1) = (nar .char (((((((q1.toUInt64 >>> ((2 : Int32) &&& 63).toInt64.toUInt64).toInt64) &&& (65535 : Int64))).toInt32)).toUInt32.toUInt16.toUInt32.toInt32)) from ((if_neg hc17_535).trans ((if_neg hc29_537).trans (if_neg hc44_539))))), N0, rfl⟩
def ptv (p1 p2 p3 p4 p5 : Int32) : Int32 := if (unv p1 p2 p3 p4 p5) < (0 : Int32) then (-1 : Int32) else (if ihv (unv p1 p2 p3 p4 p5) = (0 : Int32) then (unv p1 p2 p3 p4 p5) else (if ilv (unv p1 p2 p3 p4 (p5 + (1 : Int32))) = (0 : Int32) then (unv p1 p2 p3 p4 p5) else (((((unv p1 p2 p3 p4 p5) - (55296 : Int32)) <<< ((10 : Int32) &&& 31)) + ((unv p1 p2 p3 p4 (p5 + (1 : Int32))) - (56320 : Int32))) + (65536 : Int32))))
abbrev G_rmPt (m : MethodId) (p1 : Int32) (p2 : Int32) (p3 : Int32) (p4 : Int32) (p5 : Int32) : JFrame := (entryFrame m #[(.int p1), (.int p2), (.int p3), (.int p4), (.int p5)] 7)
theorem d11_0 : decode method_8_code 0 = .ok (.iload_n 0, 1) := by decide +kernel
theorem d11_1 : decode method_8_code 1 = .ok (.iload_n 1, 1) := by decide +kernel
theorem d11_2 : decode method_8_code 2 = .ok (.iload_n 2, 1) := by decide +kernel
theorem d11_3 : decode method_8_code 3 = .ok (.iload_n 3, 1) := by decide +kernel
theorem d11_4 : decode method_8_code 4 = .ok (.iload 4, 2) := by decide +kernel
theorem d11_6 : decode method_8_code 6 = .ok (.invokestatic 44, 3) := by decide +kernel
theorem pd_18 : parseMethodDescriptor "(CCCII)I" = some ⟨[.char, .char, .char, .int, .int], some .int⟩ := by decide +kernel
theorem d11_9 : decode method_8_code 9 = .ok (.istore 5, 2) := by decide +kernel
theorem d11_11 : decode method_8_code 11 = .ok (.iload 5, 2) := by decide +kernel
theorem d11_13 : decode method_8_code 13 = .ok (.ifCond .ge 5, 3) := by decide +kernel
theorem d11_16 : decode method_8_code 16 = .ok (.iconst (-1), 1) := by decide +kernel
theorem d11_17 : decode method_8_code 17 = .ok (.ireturn, 1) := by decide +kernel
theorem d11_18 : decode method_8_code 18 = .ok (.iload_n 0, 1) := by decide +kernel
theorem d11_19 : decode method_8_code 19 = .ok (.iload_n 1, 1) := by decide +kernel
theorem d11_20 : decode method_8_code 20 = .ok (.iload_n 2, 1) := by decide +kernel
theorem d11_21 : decode method_8_code 21 = .ok (.iload_n 3, 1) := by decide +kernel
theorem d11_22 : decode method_8_code 22 = .ok (.iload 4, 2) := by decide +kernel
theorem d11_24 : decode method_8_code 24 = .ok (.iconst 1, 1) := by decide +kernel
theorem d11_25 : decode method_8_code 25 = .ok (.iadd, 1) := by decide +kernel
theorem d11_26 : decode method_8_code 26 = .ok (.invokestatic 44, 3) := by decide +kernel
theorem d11_29 : decode method_8_code 29 = .ok (.istore 6, 2) := by decide +kernel
theorem d11_31 : decode method_8_code 31 = .ok (.iload 5, 2) := by decide +kernel
theorem d11_33 : decode method_8_code 33 = .ok (.invokestatic 48, 3) := by decide +kernel
theorem pd_19 : parseMethodDescriptor "(I)Z" = some ⟨[.int], some .boolean⟩ := by decide +kernel
theorem d11_36 : decode method_8_code 36 = .ok (.ifCond .eq 29, 3) := by decide +kernel
theorem d11_65 : decode method_8_code 65 = .ok (.iload 5, 2) := by decide +kernel
theorem d11_67 : decode method_8_code 67 = .ok (.ireturn, 1) := by decide +kernel
theorem d11_39 : decode method_8_code 39 = .ok (.iload 6, 2) := by decide +kernel
theorem d11_41 : decode method_8_code 41 = .ok (.invokestatic 52, 3) := by decide +kernel
theorem d11_44 : decode method_8_code 44 = .ok (.ifCond .eq 21, 3) := by decide +kernel
theorem d11_47 : decode method_8_code 47 = .ok (.iload 5, 2) := by decide +kernel
theorem d11_49 : decode method_8_code 49 = .ok (.ldc 35, 2) := by decide +kernel
theorem d11_51 : decode method_8_code 51 = .ok (.isub, 1) := by decide +kernel
theorem d11_52 : decode method_8_code 52 = .ok (.bipush 10, 2) := by decide +kernel
theorem d11_54 : decode method_8_code 54 = .ok (.ishl, 1) := by decide +kernel
theorem d11_55 : decode method_8_code 55 = .ok (.iload 6, 2) := by decide +kernel
theorem d11_57 : decode method_8_code 57 = .ok (.ldc 36, 2) := by decide +kernel
theorem d11_59 : decode method_8_code 59 = .ok (.isub, 1) := by decide +kernel
theorem d11_60 : decode method_8_code 60 = .ok (.iadd, 1) := by decide +kernel
theorem d11_61 : decode method_8_code 61 = .ok (.ldc 55, 2) := by decide +kernel
theorem d11_63 : decode method_8_code 63 = .ok (.iadd, 1) := by decide +kernel
theorem d11_64 : decode method_8_code 64 = .ok (.ireturn, 1) := by decide +kernel
def Q_rmPt (Z : State) (p1 : Int32) (p2 : Int32) (p3 : Int32) (p4 : Int32) (p5 : Int32)  (h0 : Heap) (n0 : Nat) (v : Option Value) (h : Heap) (L : List Loc) : Prop := v = some (.int (ptv p1 p2 p3 p4 p5)) ∧ Fr n0 L ∧ h = h0
set_option maxRecDepth 65536 in
set_option maxHeartbeats 40000000 in
theorem rmPt (l : Launch) (Z : State) (a0 : Array Value) (hw : ∀ d ∈ tables_1, d.before a0 Z = true) (ws : List Jvm.Cond) (p1 : Int32) (p2 : Int32) (p3 : Int32) (p4 : Int32) (p5 : Int32)  (h0 : Heap) (n0 : Nat) (Z0 : n0 ≤ h0.size)  :
    MetFree l (⟨"com/example/nuthatch/nuthatch/util/TextCompareCodePointsPinLaw", "point", "(CCCII)I"⟩ : MethodName) (head1 (Jvm.Cond.code (⟨"com/example/nuthatch/nuthatch/util/TextCompareCodePointsPinLaw", "point", "(CCCII)I"⟩ : MethodName) method_8_code 7 (some .int) :: ws) ({ frames := 1, cells := 0, slots := 0, locals := 16 } : Room)) (fun a U => a = #[(.int p1), (.int p2), (.int p3), (.int p4), (.int p5)] ∧ Z.Warmed39 U.vm ∧ U.heap = h0) (fun _ _ _ _ _ => True) (fun _ U o U' => ∃ v L, o = .returned v ∧ Q_rmPt Z p1 p2 p3 p4 p5 h0 n0 v U'.heap L ∧ FrameEnd U o U' L ({ frames := 1, cells := 0, slots := 0, locals := 16 } : Room).cells ({ frames := 1, cells := 0, slots := 0, locals := 16 } : Room).slots) := by
  refine MetFree.of_bodySF (plainFor_of_name pn_com_example_nuthatch_nuthatch_util_TextCompareCodePointsPinLaw) hisR ?_
  intro p e s m args below meth c s₁ Bd hml0 hP hK
  obtain ⟨rfl, hZ, hh⟩ := hP
  have hx := Bd.exec
  have hby := Bd.bytes
  have hml : c.maxLocals = 7 := hml0
  have hown : s.vm.findClass "com/example/nuthatch/nuthatch/util/TextCompareCodePointsPinLaw" = some m.cls := findClass_of_methodNamed Bd.named
  have hnm := (name_of_methodNamed Bd.named Bd.method).1
  have X0 : Stand p l e ({ frames := 1, cells := 0, slots := 0, locals := 16 } : Room) s m #[(.int p1), (.int p2), (.int p3), (.int p4), (.int p5)] below meth c s₁ [] 0 0 := Stand.of_body Bd
  have e0 : s₁.heap = h0 := by rw [← hh, Bd.state]; rfl
  have N0 := Fr.nil n0
  have go0 : Goes p e below s₁ (G_rmPt m p1 p2 p3 p4 p5) s₁ (mkF m 0 #[vI p1, vI p2, vI p3, vI p4, vI p5, uN, uN] []) := fun tq kq => castTop (by first | (simp [entryFrame, mkF, argsToLocals, Value.category, vI, vJ, vR, vD, vN, uN, sD, G_rmPt]; done) | rfl) kq
  have go544 : Goes p e below s₁ (G_rmPt m p1 p2 p3 p4 p5) s₁ (mkF m 6 #[vI p1, vI p2, vI p3, vI p4, vI p5, uN, uN] [(.int p5), (.int p4), (.int p3), (.int p2), (.int p1)]) := fun tq kq => go0 tq (by
    show Sx p e below s₁ (mkF m 0 #[vI p1, vI p2, vI p3, vI p4, vI p5, uN, uN] []) _
    refine XS.iloadN X0.here hx rfl (hb hby d11_0) rfl ?_
    refine XS.iloadN X0.here hx rfl (hb hby d11_1) rfl ?_
    show Sx p e below s₁ (mkF m 2 #[vI p1, vI p2, vI p3, vI p4, vI p5, uN, uN] [(.int p2), (.int p1)]) _
    refine XS.iloadN X0.here hx rfl (hb hby d11_2) rfl ?_
    refine XS.iloadN X0.here hx rfl (hb hby d11_3) rfl ?_
    show Sx p e below s₁ (mkF m 4 #[vI p1, vI p2, vI p3, vI p4, vI p5, uN, uN] [(.int p4), (.int p3), (.int p2), (.int p1)]) _
    refine XS.iload X0.here hx rfl (hb hby d11_4) rfl ?_
    exact kq)
  obtain ⟨vv545, _, ⟨T545, L545, k545, n545⟩, -, X545, ⟨Lc545, hQ545, l545, y545, z545⟩, st545⟩ := Jvm.LawKit.callS X0 hx (y := (⟨"com/example/nuthatch/nuthatch/util/TextCompareCodePointsPinLaw", "unit", "(CCCII)I"⟩ : MethodName)) hown (mvT hZ (tw57 hw)) (mvT hZ (tw58 hw)) (mvT hZ (tw2 hw)) (mvT hZ (tw59 hw)) (by decide) (backOf (W := 0) (rmUn l Z a0 hw [] p1 p2 p3 p4 p5  h0 n0 Z0 ) hZ (tw59 hw) (tw2 hw) (by decide) (by decide)) (g := (mkF m 6 #[vI p1, vI p2, vI p3, vI p4, vI p5, uN, uN] [(.int p5), (.int p4), (.int p3), (.int p2), (.int p1)])) rfl (by rw [hml]; rfl) (argsL := [(.int p1), (.int p2), (.int p3), (.int p4), (.int p5)]) (rest := []) (lenOf pd_18 rfl) rfl (by show 2 * 0 + _ ≤ _; exact Nat.le_of_eq rfl) (hb hby d11_6) (fun _ _ => ⟨rfl, e0, (by decide : 0 + 0 ≤ _), (by decide : 0 + 0 ≤ _)⟩)
  dsimp only [Pt.U, Pt.locs, Pt.cells, Pt.slots] at X545 l545 y545 z545 st545 hQ545
  subst l545 y545 z545
  obtain ⟨rfl, Nq545, eq545⟩ := hQ545
  have N545 := Fr.app N0 Nq545
  have go545 : Goes p e below s₁ (G_rmPt m p1 p2 p3 p4 p5) T545 (mkF m 9 #[vI p1, vI p2, vI p3, vI p4, vI p5, uN, uN] [(.int (unv p1 p2 p3 p4 p5))]) := fun tq kq => go544 tq (st545 _ kq)
  have go546 : Goes p e below s₁ (G_rmPt m p1 p2 p3 p4 p5) T545 (mkF m 13 #[vI p1, vI p2, vI p3, vI p4, vI p5, vI (unv p1 p2 p3 p4 p5), uN] [(.int (unv p1 p2 p3 p4 p5))]) := fun tq kq => go545 tq (by
    show Sx p e below T545 (mkF m 9 #[vI p1, vI p2, vI p3, vI p4, vI p5, uN, uN] [(.int (unv p1 p2 p3 p4 p5))]) _
    refine XS.istore X545.here hx rfl (hb hby d11_9) rfl (l' := #[vI p1, vI p2, vI p3, vI p4, vI p5, vI (unv p1 p2 p3 p4 p5), uN]) rfl ?_
    show Sx p e below T545 (mkF m 11 #[vI p1, vI p2, vI p3, vI p4, vI p5, vI (unv p1 p2 p3 p4 p5), uN] []) _
    refine XS.iload X545.here hx rfl (hb hby d11_11) rfl ?_
    exact kq)
  by_cases hu : (unv p1 p2 p3 p4 p5) < (0 : Int32)
  · have go547 : Goes p e below s₁ (G_rmPt m p1 p2 p3 p4 p5) T545 (mkF m 17 #[vI p1, vI p2, vI p3, vI p4, vI p5, vI (unv p1 p2 p3 p4 p5), uN] [(.int (-1 : Int32))]) := fun tq kq => go546 tq (by
      show Sx p e below T545 (mkF m 13 #[vI p1, vI p2, vI p3, vI p4, vI p5, vI (unv p1 p2 p3 p4 p5), uN] [(.int (unv p1 p2 p3 p4 p5))]) _
      refine XS.ifNo X545.here hx rfl (hb hby d11_13) rfl ((if0 _ _).trans (tlt hu).2.1) ?_
      show Sx p e below T545 (mkF m 16 #[vI p1, vI p2, vI p3, vI p4, vI p5, vI (unv p1 p2 p3 p4 p5), uN] []) _
      refine XS.iconst X545.here hx rfl (hb hby d11_16) ?_
      exact kq)
    obtain ⟨fs, hr, hrun, hended, hW, hsame⟩ := X545.leave (v := some (.int (-1 : Int32))) (fun h => by rw [Bd.returns] at h; cases h)
    refine ⟨_, _, go547 _ ?_, hrun, hended, _, _, rfl, ?_, ⟨_, rfl⟩, hW, hsame.mono (by decide) (by decide)⟩
    · exact retI X545 hx Bd.returns (hb hby d11_17) hr
    · show Q_rmPt Z p1 p2 p3 p4 p5 h0 n0 _ T545.heap _
      rw [eq545]
      exact ⟨congrArg (fun z => some (Value.int z)) (if_pos hu).symm, N545, rfl⟩
  · have go548 : Goes p e below s₁ (G_rmPt m p1 p2 p3 p4 p5) T545 (mkF m 26 #[vI p1, vI p2, vI p3, vI p4, vI p5, vI (unv p1 p2 p3 p4 p5), uN] [(.int (p5 + (1 : Int32))), (.int p4), (.int p3), (.int p2), (.int p1)]) := fun tq kq => go546 tq (by
      show Sx p e below T545 (mkF m 13 #[vI p1, vI p2, vI p3, vI p4, vI p5, vI (unv p1 p2 p3 p4 p5), uN] [(.int (unv p1 p2 p3 p4 p5))]) _
      refine XS.ifYes X545.here hx rfl (pc0 := 13) (pc' := 18) rfl (hb hby d11_13) rfl ((if0 _ _).trans (flt hu).2.1) (by decide) (by decide) ?_
      show Sx p e below T545 (mkF m 18 #[vI p1, vI p2, vI p3, vI p4, vI p5, vI (unv p1 p2 p3 p4 p5), uN] []) _
      refine XS.iloadN X545.here hx rfl (hb hby d11_18) rfl ?_
      refine XS.iloadN X545.here hx rfl (hb hby d11_19) rfl ?_
      show Sx p e below T545 (mkF m 20 #[vI p1, vI p2, vI p3, vI p4, vI p5, vI (unv p1 p2 p3 p4 p5), uN] [(.int p2), (.int p1)]) _
      refine XS.iloadN X545.here hx rfl (hb hby d11_20) rfl ?_
      refine XS.iloadN X545.here hx rfl (hb hby d11_21) rfl ?_
      show Sx p e below T545 (mkF m 22 #[vI p1, vI p2, vI p3, vI p4, vI p5, vI (unv p1 p2 p3 p4 p5), uN] [(.int p4), (.int p3), (.int p2), (.int p1)]) _
      refine XS.iload X545.here hx rfl (hb hby d11_22) rfl ?_
      refine XS.iconst X545.here hx rfl (hb hby d11_24) ?_
      show Sx p e below T545 (mkF m 25 #[vI p1, vI p2, vI p3, vI p4, vI p5, vI (unv p1 p2 p3 p4 p5), uN] [(.int (1 : Int32)), (.int p5), (.int p4), (.int p3), (.int p2), (.int p1)]) _
      refine XS.iadd X545.here hx rfl (hb hby d11_25) rfl ?_
      exact kq)
    obtain ⟨vv549, _, ⟨T549, L549, k549, n549⟩, -, X549, ⟨Lc549, hQ549, l549, y549, z549⟩, st549⟩ := Jvm.LawKit.callS X545 hx (y := (⟨"com/example/nuthatch/nuthatch/util/TextCompareCodePointsPinLaw", "unit", "(CCCII)I"⟩ : MethodName)) hown (mvT hZ (tw57 hw)) (mvT hZ (tw58 hw)) (mvT hZ (tw2 hw)) (mvT hZ (tw59 hw)) (by decide) (backOf (W := 0) (rmUn l Z a0 hw [] p1 p2 p3 p4 (p5 + (1 : Int32))  h0 n0 Z0 ) hZ (tw59 hw) (tw2 hw) (by decide) (by decide)) (g := (mkF m 26 #[vI p1, vI p2, vI p3, vI p4, vI p5, vI (unv p1 p2 p3 p4 p5), uN] [(.int (p5 + (1 : Int32))), (.int p4), (.int p3), (.int p2), (.int p1)])) rfl (by rw [hml]; rfl) (argsL := [(.int p1), (.int p2), (.int p3), (.int p4), (.int (p5 + (1 : Int32)))]) (rest := []) (lenOf pd_18 rfl) rfl (by show 2 * 0 + _ ≤ _; exact Nat.le_of_eq rfl) (hb hby d11_26) (fun _ _ => ⟨rfl, eq545, (by decide : 0 + 0 ≤ _), (by decide : 0 + 0 ≤ _)⟩)
    dsimp only [Pt.U, Pt.locs, Pt.cells, Pt.slots] at X549 l549 y549 z549 st549 hQ549
    subst l549 y549 z549
    obtain ⟨rfl, Nq549, eq549⟩ := hQ549
    have N549 := Fr.app N545 Nq549
    have go549 : Goes p e below s₁ (G_rmPt m p1 p2 p3 p4 p5) T549 (mkF m 29 #[vI p1, vI p2, vI p3, vI p4, vI p5, vI (unv p1 p2 p3 p4 p5), uN] [(.int (unv p1 p2 p3 p4 (p5 + (1 : Int32))))]) := fun tq kq => go548 tq (st549 _ kq)
    have go550 : Goes p e below s₁ (G_rmPt m p1 p2 p3 p4 p5) T549 (mkF m 33 #[vI p1, vI p2, vI p3, vI p4, vI p5, vI (unv p1 p2 p3 p4 p5), vI (unv p1 p2 p3 p4 (p5 + (1 : Int32)))] [(.int (unv p1 p2 p3 p4 p5))]) := fun tq kq => go549 tq (by
      show Sx p e below T549 (mkF m 29 #[vI p1, vI p2, vI p3, vI p4, vI p5, vI (unv p1 p2 p3 p4 p5), uN] [(.int (unv p1 p2 p3 p4 (p5 + (1 : Int32))))]) _
      refine XS.istore X549.here hx rfl (hb hby d11_29) rfl (l' := #[vI p1, vI p2, vI p3, vI p4, vI p5, vI (unv p1 p2 p3 p4 p5), vI (unv p1 p2 p3 p4 (p5 + (1 : Int32)))]) rfl ?_
      show Sx p e below T549 (mkF m 31 #[vI p1, vI p2, vI p3, vI p4, vI p5, vI (unv p1 p2 p3 p4 p5), vI (unv p1 p2 p3 p4 (p5 + (1 : Int32)))] []) _
      refine XS.iload X549.here hx rfl (hb hby d11_31) rfl ?_
      exact kq)
    obtain ⟨vv551, _, ⟨T551, L551, k551, n551⟩, -, X551, ⟨Lc551, hQ551, l551, y551, z551⟩, st551⟩ := Jvm.LawKit.callS X549 hx (y := (⟨"com/example/nuthatch/nuthatch/util/TextCompareCodePointsPinLaw", "isHigh", "(I)Z"⟩ : MethodName)) hown (mvT hZ (tw97 hw)) (mvT hZ (tw98 hw)) (mvT hZ (tw2 hw)) (mvT hZ (tw99 hw)) (by decide) (backOf (W := 0) (rmIh l Z a0 hw [] (unv p1 p2 p3 p4 p5)  h0 n0 Z0 ) hZ (tw99 hw) (tw2 hw) (by decide) (by decide)) (g := (mkF m 33 #[vI p1, vI p2, vI p3, vI p4, vI p5, vI (unv p1 p2 p3 p4 p5), vI (unv p1 p2 p3 p4 (p5 + (1 : Int32)))] [(.int (unv p1 p2 p3 p4 p5))])) rfl (by rw [hml]; rfl) (argsL := [(.int (unv p1 p2 p3 p4 p5))]) (rest := []) (lenOf pd_19 rfl) rfl (by show 2 * 0 + _ ≤ _; exact Nat.le_of_eq rfl) (hb hby d11_33) (fun _ _ => ⟨rfl, eq549, (by decide : 0 + 0 ≤ _), (by decide : 0 + 0 ≤ _)⟩)
    dsimp only [Pt.U, Pt.locs, Pt.cells, Pt.slots] at X551 l551 y551 z551 st551 hQ551
    subst l551 y551 z551
    obtain ⟨rfl, Nq551, eq551⟩ := hQ551
    have N551 := Fr.app N549 Nq551
    have go551 : Goes p e below s₁ (G_rmPt m p1 p2 p3 p4 p5) T551 (mkF m 36 #[vI p1, vI p2, vI p3, vI p4, vI p5, vI (unv p1 p2 p3 p4 p5), vI (unv p1 p2 p3 p4 (p5 + (1 : Int32)))] [(.int (ihv (unv p1 p2 p3 p4 p5)))]) := fun tq kq => go550 tq (st551 _ kq)
    by_cases hi_ : (ihv (unv p1 p2 p3 p4 p5)) = (0 : Int32)
    · have go552 : Goes p e below s₁ (G_rmPt m p1 p2 p3 p4 p5) T551 (mkF m 67 #[vI p1, vI p2, vI p3, vI p4, vI p5, vI (unv p1 p2 p3 p4 p5), vI (unv p1 p2 p3 p4 (p5 + (1 : Int32)))] [(.int (unv p1 p2 p3 p4 p5))]) := fun tq kq => go551 tq (by
        show Sx p e below T551 (mkF m 36 #[vI p1, vI p2, vI p3, vI p4, vI p5, vI (unv p1 p2 p3 p4 p5), vI (unv p1 p2 p3 p4 (p5 + (1 : Int32)))] [(.int (ihv (unv p1 p2 p3 p4 p5)))]) _
        refine XS.ifYes X551.here hx rfl (pc0 := 36) (pc' := 65) rfl (hb hby d11_36) rfl ((if0 _ _).trans (teq hi_).1) (by decide) (by decide) ?_
        show Sx p e below T551 (mkF m 65 #[vI p1, vI p2, vI p3, vI p4, vI p5, vI (unv p1 p2 p3 p4 p5), vI (unv p1 p2 p3 p4 (p5 + (1 : Int32)))] []) _
        refine XS.iload X551.here hx rfl (hb hby d11_65) rfl ?_
        exact kq)
      obtain ⟨fs, hr, hrun, hended, hW, hsame⟩ := X551.leave (v := some (.int (unv p1 p2 p3 p4 p5))) (fun h => by rw [Bd.returns] at h; cases h)
      refine ⟨_, _, go552 _ ?_, hrun, hended, _, _, rfl, ?_, ⟨_, rfl⟩, hW, hsame.mono (by decide) (by decide)⟩
      · exact retI X551 hx Bd.returns (hb hby d11_67) hr
      · show Q_rmPt Z p1 p2 p3 p4 p5 h0 n0 _ T551.heap _
        rw [eq551]
        exact ⟨congrArg (fun z => some (Value.int z)) ((if_neg hu).trans (if_pos hi_)).symm, N551, rfl⟩
    · have go553 : Goes p e below s₁ (G_rmPt m p1 p2 p3 p4 p5) T551 (mkF m 41 #[vI p1, vI p2, vI p3, vI p4, vI p5, vI (unv p1 p2 p3 p4 p5), vI (unv p1 p2 p3 p4 (p5 + (1 : Int32)))] [(.int (unv p1 p2 p3 p4 (p5 + (1 : Int32))))]) := fun tq kq => go551 tq (by
        show Sx p e below T551 (mkF m 36 #[vI p1, vI p2, vI p3, vI p4, vI p5, vI (unv p1 p2 p3 p4 p5), vI (unv p1 p2 p3 p4 (p5 + (1 : Int32)))] [(.int (ihv (unv p1 p2 p3 p4 p5)))]) _
        refine XS.ifNo X551.here hx rfl (hb hby d11_36) rfl ((if0 _ _).trans (feq hi_).1) ?_
        show Sx p e below T551 (mkF m 39 #[vI p1, vI p2, vI p3, vI p4, vI p5, vI (unv p1 p2 p3 p4 p5), vI (unv p1 p2 p3 p4 (p5 + (1 : Int32)))] []) _
        refine XS.iload X551.here hx rfl (hb hby d11_39) rfl ?_
        exact kq)
      obtain ⟨vv554, _, ⟨T554, L554, k554, n554⟩, -, X554, ⟨Lc554, hQ554, l554, y554, z554⟩, st554⟩ := Jvm.LawKit.callS X551 hx (y := (⟨"com/example/nuthatch/nuthatch/util/TextCompareCodePointsPinLaw", "isLow", "(I)Z"⟩ : MethodName)) hown (mvT hZ (tw138 hw)) (mvT hZ (tw139 hw)) (mvT hZ (tw2 hw)) (mvT hZ (tw140 hw)) (by decide) (backOf (W := 0) (rmIl l Z a0 hw [] (unv p1 p2 p3 p4 (p5 + (1 : Int32)))  h0 n0 Z0 ) hZ (tw140 hw) (tw2 hw) (by decide) (by decide)) (g := (mkF m 41 #[vI p1, vI p2, vI p3, vI p4, vI p5, vI (unv p1 p2 p3 p4 p5), vI (unv p1 p2 p3 p4 (p5 + (1 : Int32)))] [(.int (unv p1 p2 p3 p4 (p5 + (1 : Int32))))])) rfl (by rw [hml]; rfl) (argsL := [(.int (unv p1 p2 p3 p4 (p5 + (1 : Int32))))]) (rest := []) (lenOf pd_19 rfl) rfl (by show 2 * 0 + _ ≤ _; exact Nat.le_of_eq rfl) (hb hby d11_41) (fun _ _ => ⟨rfl, eq551, (by decide : 0 + 0 ≤ _), (by decide : 0 + 0 ≤ _)⟩)
      dsimp only [Pt.U, Pt.locs, Pt.cells, Pt.slots] at X554 l554 y554 z554 st554 hQ554
      subst l554 y554 z554
      obtain ⟨rfl, Nq554, eq554⟩ := hQ554
      have N554 := Fr.app N551 Nq554
      have go554 : Goes p e below s₁ (G_rmPt m p1 p2 p3 p4 p5) T554 (mkF m 44 #[vI p1, vI p2, vI p3, vI p4, vI p5, vI (unv p1 p2 p3 p4 p5), vI (unv p1 p2 p3 p4 (p5 + (1 : Int32)))] [(.int (ilv (unv p1 p2 p3 p4 (p5 + (1 : Int32)))))]) := fun tq kq => go553 tq (st554 _ kq)
      by_cases hl_ : (ilv (unv p1 p2 p3 p4 (p5 + (1 : Int32)))) = (0 : Int32)
      · have go555 : Goes p e below s₁ (G_rmPt m p1 p2 p3 p4 p5) T554 (mkF m 67 #[vI p1, vI p2, vI p3, vI p4, vI p5, vI (unv p1 p2 p3 p4 p5), vI (unv p1 p2 p3 p4 (p5 + (1 : Int32)))] [(.int (unv p1 p2 p3 p4 p5))]) := fun tq kq => go554 tq (by
          show Sx p e below T554 (mkF m 44 #[vI p1, vI p2, vI p3, vI p4, vI p5, vI (unv p1 p2 p3 p4 p5), vI (unv p1 p2 p3 p4 (p5 + (1 : Int32)))] [(.int (ilv (unv p1 p2 p3 p4 (p5 + (1 : Int32)))))]) _
          refine XS.ifYes X554.here hx rfl (pc0 := 44) (pc' := 65) rfl (hb hby d11_44) rfl ((if0 _ _).trans (teq hl_).1) (by decide) (by decide) ?_
          show Sx p e below T554 (mkF m 65 #[vI p1, vI p2, vI p3, vI p4, vI p5, vI (unv p1 p2 p3 p4 p5), vI (unv p1 p2 p3 p4 (p5 + (1 : Int32)))] []) _
          refine XS.iload X554.here hx rfl (hb hby d11_65) rfl ?_
          exact kq)
        obtain ⟨fs, hr, hrun, hended, hW, hsame⟩ := X554.leave (v := some (.int (unv p1 p2 p3 p4 p5))) (fun h => by rw [Bd.returns] at h; cases h)
        refine ⟨_, _, go555 _ ?_, hrun, hended, _, _, rfl, ?_, ⟨_, rfl⟩, hW, hsame.mono (by decide) (by decide)⟩
        · exact retI X554 hx Bd.returns (hb hby d11_67) hr
        · show Q_rmPt Z p1 p2 p3 p4 p5 h0 n0 _ T554.heap _
          rw [eq554]
          exact ⟨congrArg (fun z => some (Value.int z)) ((if_neg hu).trans ((if_neg hi_).trans (if_pos hl_))).symm, N554, rfl⟩
      · have go556 : Goes p e below s₁ (G_rmPt m p1 p2 p3 p4 p5) T554 (mkF m 64 #[vI p1, vI p2, vI p3, vI p4, vI p5, vI (unv p1 p2 p3 p4 p5), vI (unv p1 p2 p3 p4 (p5 + (1 : Int32)))] [(.int (((((unv p1 p2 p3 p4 p5) - (55296 : Int32)) <<< ((10 : Int32) &&& 31)) + ((unv p1 p2 p3 p4 (p5 + (1 : Int32))) - (56320 : Int32))) + (65536 : Int32)))]) := fun tq kq => go554 tq (by
          show Sx p e below T554 (mkF m 44 #[vI p1, vI p2, vI p3, vI p4, vI p5, vI (unv p1 p2 p3 p4 p5), vI (unv p1 p2 p3 p4 (p5 + (1 : Int32)))] [(.int (ilv (unv p1 p2 p3 p4 (p5 + (1 : Int32)))))]) _
          refine XS.ifNo X554.here hx rfl (hb hby d11_44) rfl ((if0 _ _).trans (feq hl_).1) ?_
          show Sx p e below T554 (mkF m 47 #[vI p1, vI p2, vI p3, vI p4, vI p5, vI (unv p1 p2 p3 p4 p5), vI (unv p1 p2 p3 p4 (p5 + (1 : Int32)))] []) _
          refine XS.iload X554.here hx rfl (hb hby d11_47) rfl ?_
          refine X554.ldcInt hx hown (mvT hZ (tw6 hw)) (g := (mkF m 49 #[vI p1, vI p2, vI p3, vI p4, vI p5, vI (unv p1 p2 p3 p4 p5), vI (unv p1 p2 p3 p4 (p5 + (1 : Int32)))] [(.int (unv p1 p2 p3 p4 p5))])) rfl (hb hby d11_49) _ ?_
          show Sx p e below T554 (mkF m 51 #[vI p1, vI p2, vI p3, vI p4, vI p5, vI (unv p1 p2 p3 p4 p5), vI (unv p1 p2 p3 p4 (p5 + (1 : Int32)))] [(.int (55296 : Int32)), (.int (unv p1 p2 p3 p4 p5))]) _
          refine XS.isub X554.here hx rfl (hb hby d11_51) rfl ?_
          refine XS.bipush X554.here hx rfl (hb hby d11_52) ?_
          show Sx p e below T554 (mkF m 54 #[vI p1, vI p2, vI p3, vI p4, vI p5, vI (unv p1 p2 p3 p4 p5), vI (unv p1 p2 p3 p4 (p5 + (1 : Int32)))] [(.int (10 : Int32)), (.int ((unv p1 p2 p3 p4 p5) - (55296 : Int32)))]) _
          refine XS.ishl X554.here hx rfl (hb hby d11_54) rfl ?_
          refine XS.iload X554.here hx rfl (hb hby d11_55) rfl ?_
          show Sx p e below T554 (mkF m 57 #[vI p1, vI p2, vI p3, vI p4, vI p5, vI (unv p1 p2 p3 p4 p5), vI (unv p1 p2 p3 p4 (p5 + (1 : Int32)))] [(.int (unv p1 p2 p3 p4 (p5 + (1 : Int32)))), (.int (((unv p1 p2 p3 p4 p5) - (55296 : Int32)) <<< ((10 : Int32) &&& 31)))]) _
          refine X554.ldcInt hx hown (mvT hZ (tw67 hw)) (g := (mkF m 57 #[vI p1, vI p2, vI p3, vI p4, vI p5, vI (unv p1 p2 p3 p4 p5), vI (unv p1 p2 p3 p4 (p5 + (1 : Int32)))] [(.int (unv p1 p2 p3 p4 (p5 + (1 : Int32)))), (.int (((unv p1 p2 p3 p4 p5) - (55296 : Int32)) <<< ((10 : Int32) &&& 31)))])) rfl (hb hby d11_57) _ ?_
          refine XS.isub X554.here hx rfl (hb hby d11_59) rfl ?_
          show Sx p e below T554 (mkF m 60 #[vI p1, vI p2, vI p3, vI p4, vI p5, vI (unv p1 p2 p3 p4 p5), vI (unv p1 p2 p3 p4 (p5 + (1 : Int32)))] [(.int ((unv p1 p2 p3 p4 (p5 + (1 : Int32))) - (56320 : Int32))), (.int (((unv p1 p2 p3 p4 p5) - (55296 : Int32)) <<< ((10 : Int32) &&& 31)))]) _
          refine XS.iadd X554.here hx rfl (hb hby d11_60) rfl ?_
          refine X554.ldcInt hx hown (mvT hZ (tw63 hw)) (g := (mkF m 61 #[vI p1, vI p2, vI p3, vI p4, vI p5, vI (unv p1 p2 p3 p4 p5), vI (unv p1 p2 p3 p4 (p5 + (1 : Int32)))] [(.int ((((unv p1 p2 p3 p4 p5) - (55296 : Int32)) <<< ((10 : Int32) &&& 31)) + ((unv p1 p2 p3 p4 (p5 + (1 : Int32))) - (56320 : Int32))))])) rfl (hb hby d11_61) _ ?_
          show Sx p e below T554 (mkF m 63 #[vI p1, vI p2, vI p3, vI p4, vI p5, vI (unv p1 p2 p3 p4 p5), vI (unv p1 p2 p3 p4 (p5 + (1 : Int32)))] [(.int (65536 : Int32)), (.int ((((unv p1 p2 p3 p4 p5) - (55296 : Int32)) <<< ((10 : Int32) &&& 31)) + ((unv p1 p2 p3 p4 (p5 + (1 : Int32))) - (56320 : Int32))))]) _
          refine XS.iadd X554.here hx rfl (hb hby d11_63) rfl ?_
          exact kq)
        obtain ⟨fs, hr, hrun, hended, hW, hsame⟩ := X554.leave (v := some (.int (((((unv p1 p2 p3 p4 p5) - (55296 : Int32)) <<< ((10 : Int32) &&& 31)) + ((unv p1 p2 p3 p4 (p5 + (1 : Int32))) - (56320 : Int32))) + (65536 : Int32)))) (fun h => by rw [Bd.returns] at h; cases h)
        refine ⟨_, _, go556 _ ?_, hrun, hended, _, _, rfl, ?_, ⟨_, rfl⟩, hW, hsame.mono (by decide) (by decide)⟩
        · exact retI X554 hx Bd.returns (hb hby d11_64) hr
        · show Q_rmPt Z p1 p2 p3 p4 p5 h0 n0 _ T554.heap _
          rw [eq554]
          exact ⟨congrArg (fun z => some (Value.int z)) ((if_neg hu).trans ((if_neg hi_).trans (if_neg hl_))).symm, N554, rfl⟩
def pt1 (a b c l : Int32) : Int32 := ptv a b c l (wdv (ptv a b c l (0 : Int32)))
def pt2 (a b c l : Int32) : Int32 := ptv a b c l (wdv (ptv a b c l (0 : Int32)) + wdv (pt1 a b c l))
def rfv (p1 p2 p3 p4 p5 p6 p7 p8 : Int32) : Int32 := if ptv p1 p2 p3 p4 (0 : Int32) = ptv p5 p6 p7 p8 (0 : Int32) then (if pt1 p1 p2 p3 p4 = pt1 p5 p6 p7 p8 then (if pt2 p1 p2 p3 p4 = pt2 p5 p6 p7 p8 then (0 : Int32) else cpw (pt2 p1 p2 p3 p4) (pt2 p5 p6 p7 p8)) else cpw (pt1 p1 p2 p3 p4) (pt1 p5 p6 p7 p8)) else cpw (ptv p1 p2 p3 p4 (0 : Int32)) (ptv p5 p6 p7 p8 (0 : Int32))
theorem own_rf {p1 p2 p3 p4 p5 p6 p7 p8 xa ya xb yb xc ua va ub vb uc : Int32} (h_xa : xa = ptv p1 p2 p3 p4 (0 : Int32)) (h_ya : ya = wdv xa) (h_xb : xb = ptv p1 p2 p3 p4 ya) (h_yb : yb = wdv xb) (h_xc : xc = ptv p1 p2 p3 p4 (ya + yb)) (h_ua : ua = ptv p5 p6 p7 p8 (0 : Int32)) (h_va : va = wdv ua) (h_ub : ub = ptv p5 p6 p7 p8 va) (h_vb : vb = wdv ub) (h_uc : uc = ptv p5 p6 p7 p8 (va + vb)) :
    (if xa = ua then (if xb = ub then (if xc = uc then (0 : Int32) else cpw xc uc) else cpw xb ub) else cpw xa ua) = rfv p1 p2 p3 p4 p5 p6 p7 p8 := by
  subst h_xc h_yb h_xb h_ya h_xa h_uc h_vb h_ub h_va h_ua
  rfl
abbrev G_rmRf (m : MethodId) (p1 : Int32) (p2 : Int32) (p3 : Int32) (p4 : Int32) (p5 : Int32) (p6 : Int32) (p7 : Int32) (p8 : Int32) : JFrame := (entryFrame m #[(.int p1), (.int p2), (.int p3), (.int p4), (.int p5), (.int p6), (.int p7), (.int p8)] 18)
theorem d10_0 : decode method_11_code 0 = .ok (.iload_n 0, 1) := by decide +kernel
theorem d10_1 : decode method_11_code 1 = .ok (.iload_n 1, 1) := by decide +kernel
theorem d10_2 : decode method_11_code 2 = .ok (.iload_n 2, 1) := by decide +kernel
theorem d10_3 : decode method_11_code 3 = .ok (.iload_n 3, 1) := by decide +kernel
theorem d10_4 : decode method_11_code 4 = .ok (.iconst 0, 1) := by decide +kernel
theorem d10_5 : decode method_11_code 5 = .ok (.invokestatic 56, 3) := by decide +kernel
theorem d10_8 : decode method_11_code 8 = .ok (.istore 8, 2) := by decide +kernel
theorem d10_10 : decode method_11_code 10 = .ok (.iload 8, 2) := by decide +kernel
theorem d10_12 : decode method_11_code 12 = .ok (.invokestatic 59, 3) := by decide +kernel
theorem d10_15 : decode method_11_code 15 = .ok (.istore 9, 2) := by decide +kernel
theorem d10_17 : decode method_11_code 17 = .ok (.iload_n 0, 1) := by decide +kernel
theorem d10_18 : decode method_11_code 18 = .ok (.iload_n 1, 1) := by decide +kernel
theorem d10_19 : decode method_11_code 19 = .ok (.iload_n 2, 1) := by decide +kernel
theorem d10_20 : decode method_11_code 20 = .ok (.iload_n 3, 1) := by decide +kernel
theorem d10_21 : decode method_11_code 21 = .ok (.iload 9, 2) := by decide +kernel
theorem d10_23 : decode method_11_code 23 = .ok (.invokestatic 56, 3) := by decide +kernel
theorem d10_26 : decode method_11_code 26 = .ok (.istore 10, 2) := by decide +kernel
theorem d10_28 : decode method_11_code 28 = .ok (.iload 10, 2) := by decide +kernel
theorem d10_30 : decode method_11_code 30 = .ok (.invokestatic 59, 3) := by decide +kernel
theorem d10_33 : decode method_11_code 33 = .ok (.istore 11, 2) := by decide +kernel
theorem d10_35 : decode method_11_code 35 = .ok (.iload_n 0, 1) := by decide +kernel
theorem d10_36 : decode method_11_code 36 = .ok (.iload_n 1, 1) := by decide +kernel
theorem d10_37 : decode method_11_code 37 = .ok (.iload_n 2, 1) := by decide +kernel
theorem d10_38 : decode method_11_code 38 = .ok (.iload_n 3, 1) := by decide +kernel
theorem d10_39 : decode method_11_code 39 = .ok (.iload 9, 2) := by decide +kernel
theorem d10_41 : decode method_11_code 41 = .ok (.iload 11, 2) := by decide +kernel
theorem d10_43 : decode method_11_code 43 = .ok (.iadd, 1) := by decide +kernel
theorem d10_44 : decode method_11_code 44 = .ok (.invokestatic 56, 3) := by decide +kernel
theorem d10_47 : decode method_11_code 47 = .ok (.istore 12, 2) := by decide +kernel
theorem d10_49 : decode method_11_code 49 = .ok (.iload 4, 2) := by decide +kernel
theorem d10_51 : decode method_11_code 51 = .ok (.iload 5, 2) := by decide +kernel
theorem d10_53 : decode method_11_code 53 = .ok (.iload 6, 2) := by decide +kernel
theorem d10_55 : decode method_11_code 55 = .ok (.iload 7, 2) := by decide +kernel
theorem d10_57 : decode method_11_code 57 = .ok (.iconst 0, 1) := by decide +kernel
theorem d10_58 : decode method_11_code 58 = .ok (.invokestatic 56, 3) := by decide +kernel
theorem d10_61 : decode method_11_code 61 = .ok (.istore 13, 2) := by decide +kernel
theorem d10_63 : decode method_11_code 63 = .ok (.iload 13, 2) := by decide +kernel
theorem d10_65 : decode method_11_code 65 = .ok (.invokestatic 59, 3) := by decide +kernel
theorem d10_68 : decode method_11_code 68 = .ok (.istore 14, 2) := by decide +kernel
theorem d10_70 : decode method_11_code 70 = .ok (.iload 4, 2) := by decide +kernel
theorem d10_72 : decode method_11_code 72 = .ok (.iload 5, 2) := by decide +kernel
theorem d10_74 : decode method_11_code 74 = .ok (.iload 6, 2) := by decide +kernel
theorem d10_76 : decode method_11_code 76 = .ok (.iload 7, 2) := by decide +kernel
theorem d10_78 : decode method_11_code 78 = .ok (.iload 14, 2) := by decide +kernel
theorem d10_80 : decode method_11_code 80 = .ok (.invokestatic 56, 3) := by decide +kernel
theorem d10_83 : decode method_11_code 83 = .ok (.istore 15, 2) := by decide +kernel
theorem d10_85 : decode method_11_code 85 = .ok (.iload 15, 2) := by decide +kernel
theorem d10_87 : decode method_11_code 87 = .ok (.invokestatic 59, 3) := by decide +kernel
theorem d10_90 : decode method_11_code 90 = .ok (.istore 16, 2) := by decide +kernel
theorem d10_92 : decode method_11_code 92 = .ok (.iload 4, 2) := by decide +kernel
theorem d10_94 : decode method_11_code 94 = .ok (.iload 5, 2) := by decide +kernel
theorem d10_96 : decode method_11_code 96 = .ok (.iload 6, 2) := by decide +kernel
theorem d10_98 : decode method_11_code 98 = .ok (.iload 7, 2) := by decide +kernel
theorem d10_100 : decode method_11_code 100 = .ok (.iload 14, 2) := by decide +kernel
theorem d10_102 : decode method_11_code 102 = .ok (.iload 16, 2) := by decide +kernel
theorem d10_104 : decode method_11_code 104 = .ok (.iadd, 1) := by decide +kernel
theorem d10_105 : decode method_11_code 105 = .ok (.invokestatic 56, 3) := by decide +kernel
theorem d10_108 : decode method_11_code 108 = .ok (.istore 17, 2) := by decide +kernel
theorem d10_110 : decode method_11_code 110 = .ok (.iload 8, 2) := by decide +kernel
theorem d10_112 : decode method_11_code 112 = .ok (.iload 13, 2) := by decide +kernel
theorem d10_114 : decode method_11_code 114 = .ok (.if_icmp .eq 11, 3) := by decide +kernel
theorem d10_117 : decode method_11_code 117 = .ok (.iload 8, 2) := by decide +kernel
theorem d10_119 : decode method_11_code 119 = .ok (.iload 13, 2) := by decide +kernel
theorem d10_121 : decode method_11_code 121 = .ok (.invokestatic 62, 3) := by decide +kernel
theorem d10_124 : decode method_11_code 124 = .ok (.ireturn, 1) := by decide +kernel
theorem d10_125 : decode method_11_code 125 = .ok (.iload 10, 2) := by decide +kernel
theorem d10_127 : decode method_11_code 127 = .ok (.iload 15, 2) := by decide +kernel
theorem d10_129 : decode method_11_code 129 = .ok (.if_icmp .eq 11, 3) := by decide +kernel
theorem d10_132 : decode method_11_code 132 = .ok (.iload 10, 2) := by decide +kernel
theorem d10_134 : decode method_11_code 134 = .ok (.iload 15, 2) := by decide +kernel
theorem d10_136 : decode method_11_code 136 = .ok (.invokestatic 62, 3) := by decide +kernel
theorem d10_139 : decode method_11_code 139 = .ok (.ireturn, 1) := by decide +kernel
theorem d10_140 : decode method_11_code 140 = .ok (.iload 12, 2) := by decide +kernel
theorem d10_142 : decode method_11_code 142 = .ok (.iload 17, 2) := by decide +kernel
theorem d10_144 : decode method_11_code 144 = .ok (.if_icmp .eq 11, 3) := by decide +kernel
theorem d10_147 : decode method_11_code 147 = .ok (.iload 12, 2) := by decide +kernel
theorem d10_149 : decode method_11_code 149 = .ok (.iload 17, 2) := by decide +kernel
theorem d10_151 : decode method_11_code 151 = .ok (.invokestatic 62, 3) := by decide +kernel
theorem d10_154 : decode method_11_code 154 = .ok (.ireturn, 1) := by decide +kernel
theorem d10_155 : decode method_11_code 155 = .ok (.iconst 0, 1) := by decide +kernel
theorem d10_156 : decode method_11_code 156 = .ok (.ireturn, 1) := by decide +kernel
def Q_rmRf (Z : State) (p1 : Int32) (p2 : Int32) (p3 : Int32) (p4 : Int32) (p5 : Int32) (p6 : Int32) (p7 : Int32) (p8 : Int32)  (h0 : Heap) (n0 : Nat) (v : Option Value) (h : Heap) (L : List Loc) : Prop := v = some (.int (rfv p1 p2 p3 p4 p5 p6 p7 p8)) ∧ Fr n0 L ∧ h = h0
set_option maxRecDepth 65536 in
set_option maxHeartbeats 40000000 in
theorem rmRf (l : Launch) (Z : State) (a0 : Array Value) (hw : ∀ d ∈ tables_1, d.before a0 Z = true) (ws : List Jvm.Cond) (p1 : Int32) (p2 : Int32) (p3 : Int32) (p4 : Int32) (p5 : Int32) (p6 : Int32) (p7 : Int32) (p8 : Int32)  (h0 : Heap) (n0 : Nat) (Z0 : n0 ≤ h0.size)  :
    MetFree l (⟨"com/example/nuthatch/nuthatch/util/TextCompareCodePointsPinLaw", "reference", "(CCCICCCI)I"⟩ : MethodName) (head1 (Jvm.Cond.code (⟨"com/example/nuthatch/nuthatch/util/TextCompareCodePointsPinLaw", "reference", "(CCCICCCI)I"⟩ : MethodName) method_11_code 18 (some .int) :: ws) ({ frames := 2, cells := 0, slots := 0, locals := 34 } : Room)) (fun a U => a = #[(.int p1), (.int p2), (.int p3), (.int p4), (.int p5), (.int p6), (.int p7), (.int p8)] ∧ Z.Warmed39 U.vm ∧ U.heap = h0) (fun _ _ _ _ _ => True) (fun _ U o U' => ∃ v L, o = .returned v ∧ Q_rmRf Z p1 p2 p3 p4 p5 p6 p7 p8 h0 n0 v U'.heap L ∧ FrameEnd U o U' L ({ frames := 2, cells := 0, slots := 0, locals := 34 } : Room).cells ({ frames := 2, cells := 0, slots := 0, locals := 34 } : Room).slots) := by
  refine MetFree.of_bodySF (plainFor_of_name pn_com_example_nuthatch_nuthatch_util_TextCompareCodePointsPinLaw) hisR ?_
  intro p e s m args below meth c s₁ Bd hml0 hP hK
  obtain ⟨rfl, hZ, hh⟩ := hP
  have hx := Bd.exec
  have hby := Bd.bytes
  have hml : c.maxLocals = 18 := hml0
  have hown : s.vm.findClass "com/example/nuthatch/nuthatch/util/TextCompareCodePointsPinLaw" = some m.cls := findClass_of_methodNamed Bd.named
  have hnm := (name_of_methodNamed Bd.named Bd.method).1
  have X0 : Stand p l e ({ frames := 2, cells := 0, slots := 0, locals := 34 } : Room) s m #[(.int p1), (.int p2), (.int p3), (.int p4), (.int p5), (.int p6), (.int p7), (.int p8)] below meth c s₁ [] 0 0 := Stand.of_body Bd
  have e0 : s₁.heap = h0 := by rw [← hh, Bd.state]; rfl
  have N0 := Fr.nil n0
  have go0 : Goes p e below s₁ (G_rmRf m p1 p2 p3 p4 p5 p6 p7 p8) s₁ (mkF m 0 #[vI p1, vI p2, vI p3, vI p4, vI p5, vI p6, vI p7, vI p8, uN, uN, uN, uN, uN, uN, uN, uN, uN, uN] []) := fun tq kq => castTop (by first | (simp [entryFrame, mkF, argsToLocals, Value.category, vI, vJ, vR, vD, vN, uN, sD, G_rmRf]; done) | rfl) kq
  have go557 : Goes p e below s₁ (G_rmRf m p1 p2 p3 p4 p5 p6 p7 p8) s₁ (mkF m 5 #[vI p1, vI p2, vI p3, vI p4, vI p5, vI p6, vI p7, vI p8, uN, uN, uN, uN, uN, uN, uN, uN, uN, uN] [(.int (0 : Int32)), (.int p4), (.int p3), (.int p2), (.int p1)]) := fun tq kq => go0 tq (by
    show Sx p e below s₁ (mkF m 0 #[vI p1, vI p2, vI p3, vI p4, vI p5, vI p6, vI p7, vI p8, uN, uN, uN, uN, uN, uN, uN, uN, uN, uN] []) _
    refine XS.iloadN X0.here hx rfl (hb hby d10_0) rfl ?_
    refine XS.iloadN X0.here hx rfl (hb hby d10_1) rfl ?_
    show Sx p e below s₁ (mkF m 2 #[vI p1, vI p2, vI p3, vI p4, vI p5, vI p6, vI p7, vI p8, uN, uN, uN, uN, uN, uN, uN, uN, uN, uN] [(.int p2), (.int p1)]) _
    refine XS.iloadN X0.here hx rfl (hb hby d10_2) rfl ?_
    refine XS.iloadN X0.here hx rfl (hb hby d10_3) rfl ?_
    show Sx p e below s₁ (mkF m 4 #[vI p1, vI p2, vI p3, vI p4, vI p5, vI p6, vI p7, vI p8, uN, uN, uN, uN, uN, uN, uN, uN, uN, uN] [(.int p4), (.int p3), (.int p2), (.int p1)]) _
    refine XS.iconst X0.here hx rfl (hb hby d10_4) ?_
    exact kq)
  obtain ⟨vv558, _, ⟨T558, L558, k558, n558⟩, -, X558, ⟨Lc558, hQ558, l558, y558, z558⟩, st558⟩ := Jvm.LawKit.callS X0 hx (y := (⟨"com/example/nuthatch/nuthatch/util/TextCompareCodePointsPinLaw", "point", "(CCCII)I"⟩ : MethodName)) hown (mvT hZ (tw54 hw)) (mvT hZ (tw55 hw)) (mvT hZ (tw2 hw)) (mvT hZ (tw56 hw)) (by decide) (backOf (W := 0) (rmPt l Z a0 hw [] p1 p2 p3 p4 (0 : Int32)  h0 n0 Z0 ) hZ (tw56 hw) (tw2 hw) (by decide) (by decide)) (g := (mkF m 5 #[vI p1, vI p2, vI p3, vI p4, vI p5, vI p6, vI p7, vI p8, uN, uN, uN, uN, uN, uN, uN, uN, uN, uN] [(.int (0 : Int32)), (.int p4), (.int p3), (.int p2), (.int p1)])) rfl (by rw [hml]; rfl) (argsL := [(.int p1), (.int p2), (.int p3), (.int p4), (.int (0 : Int32))]) (rest := []) (lenOf pd_18 rfl) rfl (by show 2 * 0 + _ ≤ _; exact Nat.le_of_eq rfl) (hb hby d10_5) (fun _ _ => ⟨rfl, e0, (by decide : 0 + 0 ≤ _), (by decide : 0 + 0 ≤ _)⟩)
  dsimp only [Pt.U, Pt.locs, Pt.cells, Pt.slots] at X558 l558 y558 z558 st558 hQ558
  subst l558 y558 z558
  obtain ⟨rfl, Nq558, eq558⟩ := hQ558
  have N558 := Fr.app N0 Nq558
  have go558 : Goes p e below s₁ (G_rmRf m p1 p2 p3 p4 p5 p6 p7 p8) T558 (mkF m 8 #[vI p1, vI p2, vI p3, vI p4, vI p5, vI p6, vI p7, vI p8, uN, uN, uN, uN, uN, uN, uN, uN, uN, uN] [(.int (ptv p1 p2 p3 p4 (0 : Int32)))]) := fun tq kq => go557 tq (st558 _ kq)
  obtain ⟨xa, h_xa⟩ : ∃ z, z = (ptv p1 p2 p3 p4 (0 : Int32)) := ⟨_, rfl⟩
  rw [← h_xa] at go558
  have go559 : Goes p e below s₁ (G_rmRf m p1 p2 p3 p4 p5 p6 p7 p8) T558 (mkF m 12 #[vI p1, vI p2, vI p3, vI p4, vI p5, vI p6, vI p7, vI p8, vI xa, uN, uN, uN, uN, uN, uN, uN, uN, uN] [(.int xa)]) := fun tq kq => go558 tq (by
    show Sx p e below T558 (mkF m 8 #[vI p1, vI p2, vI p3, vI p4, vI p5, vI p6, vI p7, vI p8, uN, uN, uN, uN, uN, uN, uN, uN, uN, uN] [(.int xa)]) _
    refine XS.istore X558.here hx rfl (hb hby d10_8) rfl (l' := #[vI p1, vI p2, vI p3, vI p4, vI p5, vI p6, vI p7, vI p8, vI xa, uN, uN, uN, uN, uN, uN, uN, uN, uN]) rfl ?_
    show Sx p e below T558 (mkF m 10 #[vI p1, vI p2, vI p3, vI p4, vI p5, vI p6, vI p7, vI p8, vI xa, uN, uN, uN, uN, uN, uN, uN, uN, uN] []) _
    refine XS.iload X558.here hx rfl (hb hby d10_10) rfl ?_
    exact kq)
  obtain ⟨vv560, _, ⟨T560, L560, k560, n560⟩, -, X560, ⟨Lc560, hQ560, l560, y560, z560⟩, st560⟩ := Jvm.LawKit.callS X558 hx (y := (⟨"com/example/nuthatch/nuthatch/util/TextCompareCodePointsPinLaw", "width", "(I)I"⟩ : MethodName)) hown (mvT hZ (tw60 hw)) (mvT hZ (tw61 hw)) (mvT hZ (tw2 hw)) (mvT hZ (tw62 hw)) (by decide) (backOf (W := 0) (rmWd l Z a0 hw [] xa  h0 n0 Z0 ) hZ (tw62 hw) (tw2 hw) (by decide) (by decide)) (g := (mkF m 12 #[vI p1, vI p2, vI p3, vI p4, vI p5, vI p6, vI p7, vI p8, vI xa, uN, uN, uN, uN, uN, uN, uN, uN, uN] [(.int xa)])) rfl (by rw [hml]; rfl) (argsL := [(.int xa)]) (rest := []) (lenOf pd_0 rfl) rfl (by show 2 * 0 + _ ≤ _; exact Nat.le_of_eq rfl) (hb hby d10_12) (fun _ _ => ⟨rfl, eq558, (by decide : 0 + 0 ≤ _), (by decide : 0 + 0 ≤ _)⟩)
  dsimp only [Pt.U, Pt.locs, Pt.cells, Pt.slots] at X560 l560 y560 z560 st560 hQ560
  subst l560 y560 z560
  obtain ⟨rfl, Nq560, eq560⟩ := hQ560
  have N560 := Fr.app N558 Nq560
  have go560 : Goes p e below s₁ (G_rmRf m p1 p2 p3 p4 p5 p6 p7 p8) T560 (mkF m 15 #[vI p1, vI p2, vI p3, vI p4, vI p5, vI p6, vI p7, vI p8, vI xa, uN, uN, uN, uN, uN, uN, uN, uN, uN] [(.int (wdv xa))]) := fun tq kq => go559 tq (st560 _ kq)
  obtain ⟨ya, h_ya⟩ : ∃ z, z = (wdv xa) := ⟨_, rfl⟩
  rw [← h_ya] at go560
  have go561 : Goes p e below s₁ (G_rmRf m p1 p2 p3 p4 p5 p6 p7 p8) T560 (mkF m 23 #[vI p1, vI p2, vI p3, vI p4, vI p5, vI p6, vI p7, vI p8, vI xa, vI ya, uN, uN, uN, uN, uN, uN, uN, uN] [(.int ya), (.int p4), (.int p3), (.int p2), (.int p1)]) := fun tq kq => go560 tq (by
    show Sx p e below T560 (mkF m 15 #[vI p1, vI p2, vI p3, vI p4, vI p5, vI p6, vI p7, vI p8, vI xa, uN, uN, uN, uN, uN, uN, uN, uN, uN] [(.int ya)]) _
    refine XS.istore X560.here hx rfl (hb hby d10_15) rfl (l' := #[vI p1, vI p2, vI p3, vI p4, vI p5, vI p6, vI p7, vI p8, vI xa, vI ya, uN, uN, uN, uN, uN, uN, uN, uN]) rfl ?_
    show Sx p e below T560 (mkF m 17 #[vI p1, vI p2, vI p3, vI p4, vI p5, vI p6, vI p7, vI p8, vI xa, vI ya, uN, uN, uN, uN, uN, uN, uN, uN] []) _
    refine XS.iloadN X560.here hx rfl (hb hby d10_17) rfl ?_
    refine XS.iloadN X560.here hx rfl (hb hby d10_18) rfl ?_
    show Sx p e below T560 (mkF m 19 #[vI p1, vI p2, vI p3, vI p4, vI p5, vI p6, vI p7, vI p8, vI xa, vI ya, uN, uN, uN, uN, uN, uN, uN, uN] [(.int p2), (.int p1)]) _
    refine XS.iloadN X560.here hx rfl (hb hby d10_19) rfl ?_
    refine XS.iloadN X560.here hx rfl (hb hby d10_20) rfl ?_
    show Sx p e below T560 (mkF m 21 #[vI p1, vI p2, vI p3, vI p4, vI p5, vI p6, vI p7, vI p8, vI xa, vI ya, uN, uN, uN, uN, uN, uN, uN, uN] [(.int p4), (.int p3), (.int p2), (.int p1)]) _
    refine XS.iload X560.here hx rfl (hb hby d10_21) rfl ?_
    exact kq)
  obtain ⟨vv562, _, ⟨T562, L562, k562, n562⟩, -, X562, ⟨Lc562, hQ562, l562, y562, z562⟩, st562⟩ := Jvm.LawKit.callS X560 hx (y := (⟨"com/example/nuthatch/nuthatch/util/TextCompareCodePointsPinLaw", "point", "(CCCII)I"⟩ : MethodName)) hown (mvT hZ (tw54 hw)) (mvT hZ (tw55 hw)) (mvT hZ (tw2 hw)) (mvT hZ (tw56 hw)) (by decide) (backOf (W := 0) (rmPt l Z a0 hw [] p1 p2 p3 p4 ya  h0 n0 Z0 ) hZ (tw56 hw) (tw2 hw) (by decide) (by decide)) (g := (mkF m 23 #[vI p1, vI p2, vI p3, vI p4, vI p5, vI p6, vI p7, vI p8, vI xa, vI ya, uN, uN, uN, uN, uN, uN, uN, uN] [(.int ya), (.int p4), (.int p3), (.int p2), (.int p1)])) rfl (by rw [hml]; rfl) (argsL := [(.int p1), (.int p2), (.int p3), (.int p4), (.int ya)]) (rest := []) (lenOf pd_18 rfl) rfl (by show 2 * 0 + _ ≤ _; exact Nat.le_of_eq rfl) (hb hby d10_23) (fun _ _ => ⟨rfl, eq560, (by decide : 0 + 0 ≤ _), (by decide : 0 + 0 ≤ _)⟩)
  dsimp only [Pt.U, Pt.locs, Pt.cells, Pt.slots] at X562 l562 y562 z562 st562 hQ562
  subst l562 y562 z562
  obtain ⟨rfl, Nq562, eq562⟩ := hQ562
  have N562 := Fr.app N560 Nq562
  have go562 : Goes p e below s₁ (G_rmRf m p1 p2 p3 p4 p5 p6 p7 p8) T562 (mkF m 26 #[vI p1, vI p2, vI p3, vI p4, vI p5, vI p6, vI p7, vI p8, vI xa, vI ya, uN, uN, uN, uN, uN, uN, uN, uN] [(.int (ptv p1 p2 p3 p4 ya))]) := fun tq kq => go561 tq (st562 _ kq)
  obtain ⟨xb, h_xb⟩ : ∃ z, z = (ptv p1 p2 p3 p4 ya) := ⟨_, rfl⟩
  rw [← h_xb] at go562
  have go563 : Goes p e below s₁ (G_rmRf m p1 p2 p3 p4 p5 p6 p7 p8) T562 (mkF m 30 #[vI p1, vI p2, vI p3, vI p4, vI p5, vI p6, vI p7, vI p8, vI xa, vI ya, vI xb, uN, uN, uN, uN, uN, uN, uN] [(.int xb)]) := fun tq kq => go562 tq (by
    show Sx p e below T562 (mkF m 26 #[vI p1, vI p2, vI p3, vI p4, vI p5, vI p6, vI p7, vI p8, vI xa, vI ya, uN, uN, uN, uN, uN, uN, uN, uN] [(.int xb)]) _
    refine XS.istore X562.here hx rfl (hb hby d10_26) rfl (l' := #[vI p1, vI p2, vI p3, vI p4, vI p5, vI p6, vI p7, vI p8, vI xa, vI ya, vI xb, uN, uN, uN, uN, uN, uN, uN]) rfl ?_
    show Sx p e below T562 (mkF m 28 #[vI p1, vI p2, vI p3, vI p4, vI p5, vI p6, vI p7, vI p8, vI xa, vI ya, vI xb, uN, uN, uN, uN, uN, uN, uN] []) _
    refine XS.iload X562.here hx rfl (hb hby d10_28) rfl ?_
    exact kq)
  obtain ⟨vv564, _, ⟨T564, L564, k564, n564⟩, -, X564, ⟨Lc564, hQ564, l564, y564, z564⟩, st564⟩ := Jvm.LawKit.callS X562 hx (y := (⟨"com/example/nuthatch/nuthatch/util/TextCompareCodePointsPinLaw", "width", "(I)I"⟩ : MethodName)) hown (mvT hZ (tw60 hw)) (mvT hZ (tw61 hw)) (mvT hZ (tw2 hw)) (mvT hZ (tw62 hw)) (by decide) (backOf (W := 0) (rmWd l Z a0 hw [] xb  h0 n0 Z0 ) hZ (tw62 hw) (tw2 hw) (by decide) (by decide)) (g := (mkF m 30 #[vI p1, vI p2, vI p3, vI p4, vI p5, vI p6, vI p7, vI p8, vI xa, vI ya, vI xb, uN, uN, uN, uN, uN, uN, uN] [(.int xb)])) rfl (by rw [hml]; rfl) (argsL := [(.int xb)]) (rest := []) (lenOf pd_0 rfl) rfl (by show 2 * 0 + _ ≤ _; exact Nat.le_of_eq rfl) (hb hby d10_30) (fun _ _ => ⟨rfl, eq562, (by decide : 0 + 0 ≤ _), (by decide : 0 + 0 ≤ _)⟩)
  dsimp only [Pt.U, Pt.locs, Pt.cells, Pt.slots] at X564 l564 y564 z564 st564 hQ564
  subst l564 y564 z564
  obtain ⟨rfl, Nq564, eq564⟩ := hQ564
  have N564 := Fr.app N562 Nq564
  have go564 : Goes p e below s₁ (G_rmRf m p1 p2 p3 p4 p5 p6 p7 p8) T564 (mkF m 33 #[vI p1, vI p2, vI p3, vI p4, vI p5, vI p6, vI p7, vI p8, vI xa, vI ya, vI xb, uN, uN, uN, uN, uN, uN, uN] [(.int (wdv xb))]) := fun tq kq => go563 tq (st564 _ kq)
  obtain ⟨yb, h_yb⟩ : ∃ z, z = (wdv xb) := ⟨_, rfl⟩
  rw [← h_yb] at go564
  have go565 : Goes p e below s₁ (G_rmRf m p1 p2 p3 p4 p5 p6 p7 p8) T564 (mkF m 44 #[vI p1, vI p2, vI p3, vI p4, vI p5, vI p6, vI p7, vI p8, vI xa, vI ya, vI xb, vI yb, uN, uN, uN, uN, uN, uN] [(.int (ya + yb)), (.int p4), (.int p3), (.int p2), (.int p1)]) := fun tq kq => go564 tq (by
    show Sx p e below T564 (mkF m 33 #[vI p1, vI p2, vI p3, vI p4, vI p5, vI p6, vI p7, vI p8, vI xa, vI ya, vI xb, uN, uN, uN, uN, uN, uN, uN] [(.int yb)]) _
    refine XS.istore X564.here hx rfl (hb hby d10_33) rfl (l' := #[vI p1, vI p2, vI p3, vI p4, vI p5, vI p6, vI p7, vI p8, vI xa, vI ya, vI xb, vI yb, uN, uN, uN, uN, uN, uN]) rfl ?_
    show Sx p e below T564 (mkF m 35 #[vI p1, vI p2, vI p3, vI p4, vI p5, vI p6, vI p7, vI p8, vI xa, vI ya, vI xb, vI yb, uN, uN, uN, uN, uN, uN] []) _
    refine XS.iloadN X564.here hx rfl (hb hby d10_35) rfl ?_
    refine XS.iloadN X564.here hx rfl (hb hby d10_36) rfl ?_
    show Sx p e below T564 (mkF m 37 #[vI p1, vI p2, vI p3, vI p4, vI p5, vI p6, vI p7, vI p8, vI xa, vI ya, vI xb, vI yb, uN, uN, uN, uN, uN, uN] [(.int p2), (.int p1)]) _
    refine XS.iloadN X564.here hx rfl (hb hby d10_37) rfl ?_
    refine XS.iloadN X564.here hx rfl (hb hby d10_38) rfl ?_
    show Sx p e below T564 (mkF m 39 #[vI p1, vI p2, vI p3, vI p4, vI p5, vI p6, vI p7, vI p8, vI xa, vI ya, vI xb, vI yb, uN, uN, uN, uN, uN, uN] [(.int p4), (.int p3), (.int p2), (.int p1)]) _
    refine XS.iload X564.here hx rfl (hb hby d10_39) rfl ?_
    refine XS.iload X564.here hx rfl (hb hby d10_41) rfl ?_
    show Sx p e below T564 (mkF m 43 #[vI p1, vI p2, vI p3, vI p4, vI p5, vI p6, vI p7, vI p8, vI xa, vI ya, vI xb, vI yb, uN, uN, uN, uN, uN, uN] [(.int yb), (.int ya), (.int p4), (.int p3), (.int p2), (.int p1)]) _
    refine XS.iadd X564.here hx rfl (hb hby d10_43) rfl ?_
    exact kq)
  obtain ⟨vv566, _, ⟨T566, L566, k566, n566⟩, -, X566, ⟨Lc566, hQ566, l566, y566, z566⟩, st566⟩ := Jvm.LawKit.callS X564 hx (y := (⟨"com/example/nuthatch/nuthatch/util/TextCompareCodePointsPinLaw", "point", "(CCCII)I"⟩ : MethodName)) hown (mvT hZ (tw54 hw)) (mvT hZ (tw55 hw)) (mvT hZ (tw2 hw)) (mvT hZ (tw56 hw)) (by decide) (backOf (W := 0) (rmPt l Z a0 hw [] p1 p2 p3 p4 (ya + yb)  h0 n0 Z0 ) hZ (tw56 hw) (tw2 hw) (by decide) (by decide)) (g := (mkF m 44 #[vI p1, vI p2, vI p3, vI p4, vI p5, vI p6, vI p7, vI p8, vI xa, vI ya, vI xb, vI yb, uN, uN, uN, uN, uN, uN] [(.int (ya + yb)), (.int p4), (.int p3), (.int p2), (.int p1)])) rfl (by rw [hml]; rfl) (argsL := [(.int p1), (.int p2), (.int p3), (.int p4), (.int (ya + yb))]) (rest := []) (lenOf pd_18 rfl) rfl (by show 2 * 0 + _ ≤ _; exact Nat.le_of_eq rfl) (hb hby d10_44) (fun _ _ => ⟨rfl, eq564, (by decide : 0 + 0 ≤ _), (by decide : 0 + 0 ≤ _)⟩)
  dsimp only [Pt.U, Pt.locs, Pt.cells, Pt.slots] at X566 l566 y566 z566 st566 hQ566
  subst l566 y566 z566
  obtain ⟨rfl, Nq566, eq566⟩ := hQ566
  have N566 := Fr.app N564 Nq566
  have go566 : Goes p e below s₁ (G_rmRf m p1 p2 p3 p4 p5 p6 p7 p8) T566 (mkF m 47 #[vI p1, vI p2, vI p3, vI p4, vI p5, vI p6, vI p7, vI p8, vI xa, vI ya, vI xb, vI yb, uN, uN, uN, uN, uN, uN] [(.int (ptv p1 p2 p3 p4 (ya + yb)))]) := fun tq kq => go565 tq (st566 _ kq)
  obtain ⟨xc, h_xc⟩ : ∃ z, z = (ptv p1 p2 p3 p4 (ya + yb)) := ⟨_, rfl⟩
  rw [← h_xc] at go566
  have go567 : Goes p e below s₁ (G_rmRf m p1 p2 p3 p4 p5 p6 p7 p8) T566 (mkF m 58 #[vI p1, vI p2, vI p3, vI p4, vI p5, vI p6, vI p7, vI p8, vI xa, vI ya, vI xb, vI yb, vI xc, uN, uN, uN, uN, uN] [(.int (0 : Int32)), (.int p8), (.int p7), (.int p6), (.int p5)]) := fun tq kq => go566 tq (by
    show Sx p e below T566 (mkF m 47 #[vI p1, vI p2, vI p3, vI p4, vI p5, vI p6, vI p7, vI p8, vI xa, vI ya, vI xb, vI yb, uN, uN, uN, uN, uN, uN] [(.int xc)]) _
    refine XS.istore X566.here hx rfl (hb hby d10_47) rfl (l' := #[vI p1, vI p2, vI p3, vI p4, vI p5, vI p6, vI p7, vI p8, vI xa, vI ya, vI xb, vI yb, vI xc, uN, uN, uN, uN, uN]) rfl ?_
    show Sx p e below T566 (mkF m 49 #[vI p1, vI p2, vI p3, vI p4, vI p5, vI p6, vI p7, vI p8, vI xa, vI ya, vI xb, vI yb, vI xc, uN, uN, uN, uN, uN] []) _
    refine XS.iload X566.here hx rfl (hb hby d10_49) rfl ?_
    refine XS.iload X566.here hx rfl (hb hby d10_51) rfl ?_
    show Sx p e below T566 (mkF m 53 #[vI p1, vI p2, vI p3, vI p4, vI p5, vI p6, vI p7, vI p8, vI xa, vI ya, vI xb, vI yb, vI xc, uN, uN, uN, uN, uN] [(.int p6), (.int p5)]) _
    refine XS.iload X566.here hx rfl (hb hby d10_53) rfl ?_
    refine XS.iload X566.here hx rfl (hb hby d10_55) rfl ?_
    show Sx p e below T566 (mkF m 57 #[vI p1, vI p2, vI p3, vI p4, vI p5, vI p6, vI p7, vI p8, vI xa, vI ya, vI xb, vI yb, vI xc, uN, uN, uN, uN, uN] [(.int p8), (.int p7), (.int p6), (.int p5)]) _
    refine XS.iconst X566.here hx rfl (hb hby d10_57) ?_
    exact kq)
  obtain ⟨vv568, _, ⟨T568, L568, k568, n568⟩, -, X568, ⟨Lc568, hQ568, l568, y568, z568⟩, st568⟩ := Jvm.LawKit.callS X566 hx (y := (⟨"com/example/nuthatch/nuthatch/util/TextCompareCodePointsPinLaw", "point", "(CCCII)I"⟩ : MethodName)) hown (mvT hZ (tw54 hw)) (mvT hZ (tw55 hw)) (mvT hZ (tw2 hw)) (mvT hZ (tw56 hw)) (by decide) (backOf (W := 0) (rmPt l Z a0 hw [] p5 p6 p7 p8 (0 : Int32)  h0 n0 Z0 ) hZ (tw56 hw) (tw2 hw) (by decide) (by decide)) (g := (mkF m 58 #[vI p1, vI p2, vI p3, vI p4, vI p5, vI p6, vI p7, vI p8, vI xa, vI ya, vI xb, vI yb, vI xc, uN, uN, uN, uN, uN] [(.int (0 : Int32)), (.int p8), (.int p7), (.int p6), (.int p5)])) rfl (by rw [hml]; rfl) (argsL := [(.int p5), (.int p6), (.int p7), (.int p8), (.int (0 : Int32))]) (rest := []) (lenOf pd_18 rfl) rfl (by show 2 * 0 + _ ≤ _; exact Nat.le_of_eq rfl) (hb hby d10_58) (fun _ _ => ⟨rfl, eq566, (by decide : 0 + 0 ≤ _), (by decide : 0 + 0 ≤ _)⟩)
  dsimp only [Pt.U, Pt.locs, Pt.cells, Pt.slots] at X568 l568 y568 z568 st568 hQ568
  subst l568 y568 z568
  obtain ⟨rfl, Nq568, eq568⟩ := hQ568
  have N568 := Fr.app N566 Nq568
  have go568 : Goes p e below s₁ (G_rmRf m p1 p2 p3 p4 p5 p6 p7 p8) T568 (mkF m 61 #[vI p1, vI p2, vI p3, vI p4, vI p5, vI p6, vI p7, vI p8, vI xa, vI ya, vI xb, vI yb, vI xc, uN, uN, uN, uN, uN] [(.int (ptv p5 p6 p7 p8 (0 : Int32)))]) := fun tq kq => go567 tq (st568 _ kq)
  obtain ⟨ua, h_ua⟩ : ∃ z, z = (ptv p5 p6 p7 p8 (0 : Int32)) := ⟨_, rfl⟩
  rw [← h_ua] at go568
  have go569 : Goes p e below s₁ (G_rmRf m p1 p2 p3 p4 p5 p6 p7 p8) T568 (mkF m 65 #[vI p1, vI p2, vI p3, vI p4, vI p5, vI p6, vI p7, vI p8, vI xa, vI ya, vI xb, vI yb, vI xc, vI ua, uN, uN, uN, uN] [(.int ua)]) := fun tq kq => go568 tq (by
    show Sx p e below T568 (mkF m 61 #[vI p1, vI p2, vI p3, vI p4, vI p5, vI p6, vI p7, vI p8, vI xa, vI ya, vI xb, vI yb, vI xc, uN, uN, uN, uN, uN] [(.int ua)]) _
    refine XS.istore X568.here hx rfl (hb hby d10_61) rfl (l' := #[vI p1, vI p2, vI p3, vI p4, vI p5, vI p6, vI p7, vI p8, vI xa, vI ya, vI xb, vI yb, vI xc, vI ua, uN, uN, uN, uN]) rfl ?_
    show Sx p e below T568 (mkF m 63 #[vI p1, vI p2, vI p3, vI p4, vI p5, vI p6, vI p7, vI p8, vI xa, vI ya, vI xb, vI yb, vI xc, vI ua, uN, uN, uN, uN] []) _
    refine XS.iload X568.here hx rfl (hb hby d10_63) rfl ?_
    exact kq)
  obtain ⟨vv570, _, ⟨T570, L570, k570, n570⟩, -, X570, ⟨Lc570, hQ570, l570, y570, z570⟩, st570⟩ := Jvm.LawKit.callS X568 hx (y := (⟨"com/example/nuthatch/nuthatch/util/TextCompareCodePointsPinLaw", "width", "(I)I"⟩ : MethodName)) hown (mvT hZ (tw60 hw)) (mvT hZ (tw61 hw)) (mvT hZ (tw2 hw)) (mvT hZ (tw62 hw)) (by decide) (backOf (W := 0) (rmWd l Z a0 hw [] ua  h0 n0 Z0 ) hZ (tw62 hw) (tw2 hw) (by decide) (by decide)) (g := (mkF m 65 #[vI p1, vI p2, vI p3, vI p4, vI p5, vI p6, vI p7, vI p8, vI xa, vI ya, vI xb, vI yb, vI xc, vI ua, uN, uN, uN, uN] [(.int ua)])) rfl (by rw [hml]; rfl) (argsL := [(.int ua)]) (rest := []) (lenOf pd_0 rfl) rfl (by show 2 * 0 + _ ≤ _; exact Nat.le_of_eq rfl) (hb hby d10_65) (fun _ _ => ⟨rfl, eq568, (by decide : 0 + 0 ≤ _), (by decide : 0 + 0 ≤ _)⟩)
  dsimp only [Pt.U, Pt.locs, Pt.cells, Pt.slots] at X570 l570 y570 z570 st570 hQ570
  subst l570 y570 z570
  obtain ⟨rfl, Nq570, eq570⟩ := hQ570
  have N570 := Fr.app N568 Nq570
  have go570 : Goes p e below s₁ (G_rmRf m p1 p2 p3 p4 p5 p6 p7 p8) T570 (mkF m 68 #[vI p1, vI p2, vI p3, vI p4, vI p5, vI p6, vI p7, vI p8, vI xa, vI ya, vI xb, vI yb, vI xc, vI ua, uN, uN, uN, uN] [(.int (wdv ua))]) := fun tq kq => go569 tq (st570 _ kq)
  obtain ⟨va, h_va⟩ : ∃ z, z = (wdv ua) := ⟨_, rfl⟩
  rw [← h_va] at go570
  have go571 : Goes p e below s₁ (G_rmRf m p1 p2 p3 p4 p5 p6 p7 p8) T570 (mkF m 80 #[vI p1, vI p2, vI p3, vI p4, vI p5, vI p6, vI p7, vI p8, vI xa, vI ya, vI xb, vI yb, vI xc, vI ua, vI va, uN, uN, uN] [(.int va), (.int p8), (.int p7), (.int p6), (.int p5)]) := fun tq kq => go570 tq (by
    show Sx p e below T570 (mkF m 68 #[vI p1, vI p2, vI p3, vI p4, vI p5, vI p6, vI p7, vI p8, vI xa, vI ya, vI xb, vI yb, vI xc, vI ua, uN, uN, uN, uN] [(.int va)]) _
    refine XS.istore X570.here hx rfl (hb hby d10_68) rfl (l' := #[vI p1, vI p2, vI p3, vI p4, vI p5, vI p6, vI p7, vI p8, vI xa, vI ya, vI xb, vI yb, vI xc, vI ua, vI va, uN, uN, uN]) rfl ?_
    show Sx p e below T570 (mkF m 70 #[vI p1, vI p2, vI p3, vI p4, vI p5, vI p6, vI p7, vI p8, vI xa, vI ya, vI xb, vI yb, vI xc, vI ua, vI va, uN, uN, uN] []) _
    refine XS.iload X570.here hx rfl (hb hby d10_70) rfl ?_
    refine XS.iload X570.here hx rfl (hb hby d10_72) rfl ?_
    show Sx p e below T570 (mkF m 74 #[vI p1, vI p2, vI p3, vI p4, vI p5, vI p6, vI p7, vI p8, vI xa, vI ya, vI xb, vI yb, vI xc, vI ua, vI va, uN, uN, uN] [(.int p6), (.int p5)]) _
    refine XS.iload X570.here hx rfl (hb hby d10_74) rfl ?_
    refine XS.iload X570.here hx rfl (hb hby d10_76) rfl ?_
    show Sx p e below T570 (mkF m 78 #[vI p1, vI p2, vI p3, vI p4, vI p5, vI p6, vI p7, vI p8, vI xa, vI ya, vI xb, vI yb, vI xc, vI ua, vI va, uN, uN, uN] [(.int p8), (.int p7), (.int p6), (.int p5)]) _
    refine XS.iload X570.here hx rfl (hb hby d10_78) rfl ?_
    exact kq)
  obtain ⟨vv572, _, ⟨T572, L572, k572, n572⟩, -, X572, ⟨Lc572, hQ572, l572, y572, z572⟩, st572⟩ := Jvm.LawKit.callS X570 hx (y := (⟨"com/example/nuthatch/nuthatch/util/TextCompareCodePointsPinLaw", "point", "(CCCII)I"⟩ : MethodName)) hown (mvT hZ (tw54 hw)) (mvT hZ (tw55 hw)) (mvT hZ (tw2 hw)) (mvT hZ (tw56 hw)) (by decide) (backOf (W := 0) (rmPt l Z a0 hw [] p5 p6 p7 p8 va  h0 n0 Z0 ) hZ (tw56 hw) (tw2 hw) (by decide) (by decide)) (g := (mkF m 80 #[vI p1, vI p2, vI p3, vI p4, vI p5, vI p6, vI p7, vI p8, vI xa, vI ya, vI xb, vI yb, vI xc, vI ua, vI va, uN, uN, uN] [(.int va), (.int p8), (.int p7), (.int p6), (.int p5)])) rfl (by rw [hml]; rfl) (argsL := [(.int p5), (.int p6), (.int p7), (.int p8), (.int va)]) (rest := []) (lenOf pd_18 rfl) rfl (by show 2 * 0 + _ ≤ _; exact Nat.le_of_eq rfl) (hb hby d10_80) (fun _ _ => ⟨rfl, eq570, (by decide : 0 + 0 ≤ _), (by decide : 0 + 0 ≤ _)⟩)
  dsimp only [Pt.U, Pt.locs, Pt.cells, Pt.slots] at X572 l572 y572 z572 st572 hQ572
  subst l572 y572 z572
  obtain ⟨rfl, Nq572, eq572⟩ := hQ572
  have N572 := Fr.app N570 Nq572
  have go572 : Goes p e below s₁ (G_rmRf m p1 p2 p3 p4 p5 p6 p7 p8) T572 (mkF m 83 #[vI p1, vI p2, vI p3, vI p4, vI p5, vI p6, vI p7, vI p8, vI xa, vI ya, vI xb, vI yb, vI xc, vI ua, vI va, uN, uN, uN] [(.int (ptv p5 p6 p7 p8 va))]) := fun tq kq => go571 tq (st572 _ kq)
  obtain ⟨ub, h_ub⟩ : ∃ z, z = (ptv p5 p6 p7 p8 va) := ⟨_, rfl⟩
  rw [← h_ub] at go572
  have go573 : Goes p e below s₁ (G_rmRf m p1 p2 p3 p4 p5 p6 p7 p8) T572 (mkF m 87 #[vI p1, vI p2, vI p3, vI p4, vI p5, vI p6, vI p7, vI p8, vI xa, vI ya, vI xb, vI yb, vI xc, vI ua, vI va, vI ub, uN, uN] [(.int ub)]) := fun tq kq => go572 tq (by
    show Sx p e below T572 (mkF m 83 #[vI p1, vI p2, vI p3, vI p4, vI p5, vI p6, vI p7, vI p8, vI xa, vI ya, vI xb, vI yb, vI xc, vI ua, vI va, uN, uN, uN] [(.int ub)]) _
    refine XS.istore X572.here hx rfl (hb hby d10_83) rfl (l' := #[vI p1, vI p2, vI p3, vI p4, vI p5, vI p6, vI p7, vI p8, vI xa, vI ya, vI xb, vI yb, vI xc, vI ua, vI va, vI ub, uN, uN]) rfl ?_
    show Sx p e below T572 (mkF m 85 #[vI p1, vI p2, vI p3, vI p4, vI p5, vI p6, vI p7, vI p8, vI xa, vI ya, vI xb, vI yb, vI xc, vI ua, vI va, vI ub, uN, uN] []) _
    refine XS.iload X572.here hx rfl (hb hby d10_85) rfl ?_
    exact kq)
  obtain ⟨vv574, _, ⟨T574, L574, k574, n574⟩, -, X574, ⟨Lc574, hQ574, l574, y574, z574⟩, st574⟩ := Jvm.LawKit.callS X572 hx (y := (⟨"com/example/nuthatch/nuthatch/util/TextCompareCodePointsPinLaw", "width", "(I)I"⟩ : MethodName)) hown (mvT hZ (tw60 hw)) (mvT hZ (tw61 hw)) (mvT hZ (tw2 hw)) (mvT hZ (tw62 hw)) (by decide) (backOf (W := 0) (rmWd l Z a0 hw [] ub  h0 n0 Z0 ) hZ (tw62 hw) (tw2 hw) (by decide) (by decide)) (g := (mkF m 87 #[vI p1, vI p2, vI p3, vI p4, vI p5, vI p6, vI p7, vI p8, vI xa, vI ya, vI xb, vI yb, vI xc, vI ua, vI va, vI ub, uN, uN] [(.int ub)])) rfl (by rw [hml]; rfl) (argsL := [(.int ub)]) (rest := []) (lenOf pd_0 rfl) rfl (by show 2 * 0 + _ ≤ _; exact Nat.le_of_eq rfl) (hb hby d10_87) (fun _ _ => ⟨rfl, eq572, (by decide : 0 + 0 ≤ _), (by decide : 0 + 0 ≤ _)⟩)
  dsimp only [Pt.U, Pt.locs, Pt.cells, Pt.slots] at X574 l574 y574 z574 st574 hQ574
  subst l574 y574 z574
  obtain ⟨rfl, Nq574, eq574⟩ := hQ574
  have N574 := Fr.app N572 Nq574
  have go574 : Goes p e below s₁ (G_rmRf m p1 p2 p3 p4 p5 p6 p7 p8) T574 (mkF m 90 #[vI p1, vI p2, vI p3, vI p4, vI p5, vI p6, vI p7, vI p8, vI xa, vI ya, vI xb, vI yb, vI xc, vI ua, vI va, vI ub, uN, uN] [(.int (wdv ub))]) := fun tq kq => go573 tq (st574 _ kq)
  obtain ⟨vb, h_vb⟩ : ∃ z, z = (wdv ub) := ⟨_, rfl⟩
  rw [← h_vb] at go574
  have go575 : Goes p e below s₁ (G_rmRf m p1 p2 p3 p4 p5 p6 p7 p8) T574 (mkF m 105 #[vI p1, vI p2, vI p3, vI p4, vI p5, vI p6, vI p7, vI p8, vI xa, vI ya, vI xb, vI yb, vI xc, vI ua, vI va, vI ub, vI vb, uN] [(.int (va + vb)), (.int p8), (.int p7), (.int p6), (.int p5)]) := fun tq kq => go574 tq (by
    show Sx p e below T574 (mkF m 90 #[vI p1, vI p2, vI p3, vI p4, vI p5, vI p6, vI p7, vI p8, vI xa, vI ya, vI xb, vI yb, vI xc, vI ua, vI va, vI ub, uN, uN] [(.int vb)]) _
    refine XS.istore X574.here hx rfl (hb hby d10_90) rfl (l' := #[vI p1, vI p2, vI p3, vI p4, vI p5, vI p6, vI p7, vI p8, vI xa, vI ya, vI xb, vI yb, vI xc, vI ua, vI va, vI ub, vI vb, uN]) rfl ?_
    show Sx p e below T574 (mkF m 92 #[vI p1, vI p2, vI p3, vI p4, vI p5, vI p6, vI p7, vI p8, vI xa, vI ya, vI xb, vI yb, vI xc, vI ua, vI va, vI ub, vI vb, uN] []) _
    refine XS.iload X574.here hx rfl (hb hby d10_92) rfl ?_
    refine XS.iload X574.here hx rfl (hb hby d10_94) rfl ?_
    show Sx p e below T574 (mkF m 96 #[vI p1, vI p2, vI p3, vI p4, vI p5, vI p6, vI p7, vI p8, vI xa, vI ya, vI xb, vI yb, vI xc, vI ua, vI va, vI ub, vI vb, uN] [(.int p6), (.int p5)]) _
    refine XS.iload X574.here hx rfl (hb hby d10_96) rfl ?_
    refine XS.iload X574.here hx rfl (hb hby d10_98) rfl ?_
    show Sx p e below T574 (mkF m 100 #[vI p1, vI p2, vI p3, vI p4, vI p5, vI p6, vI p7, vI p8, vI xa, vI ya, vI xb, vI yb, vI xc, vI ua, vI va, vI ub, vI vb, uN] [(.int p8), (.int p7), (.int p6), (.int p5)]) _
    refine XS.iload X574.here hx rfl (hb hby d10_100) rfl ?_
    refine XS.iload X574.here hx rfl (hb hby d10_102) rfl ?_
    show Sx p e below T574 (mkF m 104 #[vI p1, vI p2, vI p3, vI p4, vI p5, vI p6, vI p7, vI p8, vI xa, vI ya, vI xb, vI yb, vI xc, vI ua, vI va, vI ub, vI vb, uN] [(.int vb), (.int va), (.int p8), (.int p7), (.int p6), (.int p5)]) _
    refine XS.iadd X574.here hx rfl (hb hby d10_104) rfl ?_
    exact kq)
  obtain ⟨vv576, _, ⟨T576, L576, k576, n576⟩, -, X576, ⟨Lc576, hQ576, l576, y576, z576⟩, st576⟩ := Jvm.LawKit.callS X574 hx (y := (⟨"com/example/nuthatch/nuthatch/util/TextCompareCodePointsPinLaw", "point", "(CCCII)I"⟩ : MethodName)) hown (mvT hZ (tw54 hw)) (mvT hZ (tw55 hw)) (mvT hZ (tw2 hw)) (mvT hZ (tw56 hw)) (by decide) (backOf (W := 0) (rmPt l Z a0 hw [] p5 p6 p7 p8 (va + vb)  h0 n0 Z0 ) hZ (tw56 hw) (tw2 hw) (by decide) (by decide)) (g := (mkF m 105 #[vI p1, vI p2, vI p3, vI p4, vI p5, vI p6, vI p7, vI p8, vI xa, vI ya, vI xb, vI yb, vI xc, vI ua, vI va, vI ub, vI vb, uN] [(.int (va + vb)), (.int p8), (.int p7), (.int p6), (.int p5)])) rfl (by rw [hml]; rfl) (argsL := [(.int p5), (.int p6), (.int p7), (.int p8), (.int (va + vb))]) (rest := []) (lenOf pd_18 rfl) rfl (by show 2 * 0 + _ ≤ _; exact Nat.le_of_eq rfl) (hb hby d10_105) (fun _ _ => ⟨rfl, eq574, (by decide : 0 + 0 ≤ _), (by decide : 0 + 0 ≤ _)⟩)
  dsimp only [Pt.U, Pt.locs, Pt.cells, Pt.slots] at X576 l576 y576 z576 st576 hQ576
  subst l576 y576 z576
  obtain ⟨rfl, Nq576, eq576⟩ := hQ576
  have N576 := Fr.app N574 Nq576
  have go576 : Goes p e below s₁ (G_rmRf m p1 p2 p3 p4 p5 p6 p7 p8) T576 (mkF m 108 #[vI p1, vI p2, vI p3, vI p4, vI p5, vI p6, vI p7, vI p8, vI xa, vI ya, vI xb, vI yb, vI xc, vI ua, vI va, vI ub, vI vb, uN] [(.int (ptv p5 p6 p7 p8 (va + vb)))]) := fun tq kq => go575 tq (st576 _ kq)
  obtain ⟨uc, h_uc⟩ : ∃ z, z = (ptv p5 p6 p7 p8 (va + vb)) := ⟨_, rfl⟩
  rw [← h_uc] at go576
  have go577 : Goes p e below s₁ (G_rmRf m p1 p2 p3 p4 p5 p6 p7 p8) T576 (mkF m 114 #[vI p1, vI p2, vI p3, vI p4, vI p5, vI p6, vI p7, vI p8, vI xa, vI ya, vI xb, vI yb, vI xc, vI ua, vI va, vI ub, vI vb, vI uc] [(.int ua), (.int xa)]) := fun tq kq => go576 tq (by
    show Sx p e below T576 (mkF m 108 #[vI p1, vI p2, vI p3, vI p4, vI p5, vI p6, vI p7, vI p8, vI xa, vI ya, vI xb, vI yb, vI xc, vI ua, vI va, vI ub, vI vb, uN] [(.int uc)]) _
    refine XS.istore X576.here hx rfl (hb hby d10_108) rfl (l' := #[vI p1, vI p2, vI p3, vI p4, vI p5, vI p6, vI p7, vI p8, vI xa, vI ya, vI xb, vI yb, vI xc, vI ua, vI va, vI ub, vI vb, vI uc]) rfl ?_
    show Sx p e below T576 (mkF m 110 #[vI p1, vI p2, vI p3, vI p4, vI p5, vI p6, vI p7, vI p8, vI xa, vI ya, vI xb, vI yb, vI xc, vI ua, vI va, vI ub, vI vb, vI uc] []) _
    refine XS.iload X576.here hx rfl (hb hby d10_110) rfl ?_
    refine XS.iload X576.here hx rfl (hb hby d10_112) rfl ?_
    exact kq)
  by_cases hqa : xa = ua
  · have go580 : Goes p e below s₁ (G_rmRf m p1 p2 p3 p4 p5 p6 p7 p8) T576 (mkF m 129 #[vI p1, vI p2, vI p3, vI p4, vI p5, vI p6, vI p7, vI p8, vI xa, vI ya, vI xb, vI yb, vI xc, vI ua, vI va, vI ub, vI vb, vI uc] [(.int ub), (.int xb)]) := fun tq kq => go577 tq (by
      show Sx p e below T576 (mkF m 114 #[vI p1, vI p2, vI p3, vI p4, vI p5, vI p6, vI p7, vI p8, vI xa, vI ya, vI xb, vI yb, vI xc, vI ua, vI va, vI ub, vI vb, vI uc] [(.int ua), (.int xa)]) _
      refine XS.icmpYes X576.here hx rfl (pc0 := 114) (pc' := 125) rfl (hb hby d10_114) rfl (teq hqa).1 (by decide) (by decide) ?_
      refine XS.iload X576.here hx rfl (hb hby d10_125) rfl ?_
      show Sx p e below T576 (mkF m 127 #[vI p1, vI p2, vI p3, vI p4, vI p5, vI p6, vI p7, vI p8, vI xa, vI ya, vI xb, vI yb, vI xc, vI ua, vI va, vI ub, vI vb, vI uc] [(.int xb)]) _
      refine XS.iload X576.here hx rfl (hb hby d10_127) rfl ?_
      exact kq)
    by_cases hqb : xb = ub
    · have go583 : Goes p e below s₁ (G_rmRf m p1 p2 p3 p4 p5 p6 p7 p8) T576 (mkF m 144 #[vI p1, vI p2, vI p3, vI p4, vI p5, vI p6, vI p7, vI p8, vI xa, vI ya, vI xb, vI yb, vI xc, vI ua, vI va, vI ub, vI vb, vI uc] [(.int uc), (.int xc)]) := fun tq kq => go580 tq (by
        show Sx p e below T576 (mkF m 129 #[vI p1, vI p2, vI p3, vI p4, vI p5, vI p6, vI p7, vI p8, vI xa, vI ya, vI xb, vI yb, vI xc, vI ua, vI va, vI ub, vI vb, vI uc] [(.int ub), (.int xb)]) _
        refine XS.icmpYes X576.here hx rfl (pc0 := 129) (pc' := 140) rfl (hb hby d10_129) rfl (teq hqb).1 (by decide) (by decide) ?_
        show Sx p e below T576 (mkF m 140 #[vI p1, vI p2, vI p3, vI p4, vI p5, vI p6, vI p7, vI p8, vI xa, vI ya, vI xb, vI yb, vI xc, vI ua, vI va, vI ub, vI vb, vI uc] []) _
        refine XS.iload X576.here hx rfl (hb hby d10_140) rfl ?_
        refine XS.iload X576.here hx rfl (hb hby d10_142) rfl ?_
        exact kq)
      by_cases hqc : xc = uc
      · have go586 : Goes p e below s₁ (G_rmRf m p1 p2 p3 p4 p5 p6 p7 p8) T576 (mkF m 156 #[vI p1, vI p2, vI p3, vI p4, vI p5, vI p6, vI p7, vI p8, vI xa, vI ya, vI xb, vI yb, vI xc, vI ua, vI va, vI ub, vI vb, vI uc] [(.int (0 : Int32))]) := fun tq kq => go583 tq (by
          show Sx p e below T576 (mkF m 144 #[vI p1, vI p2, vI p3, vI p4, vI p5, vI p6, vI p7, vI p8, vI xa, vI ya, vI xb, vI yb, vI xc, vI ua, vI va, vI ub, vI vb, vI uc] [(.int uc), (.int xc)]) _
          refine XS.icmpYes X576.here hx rfl (pc0 := 144) (pc' := 155) rfl (hb hby d10_144) rfl (teq hqc).1 (by decide) (by decide) ?_
          refine XS.iconst X576.here hx rfl (hb hby d10_155) ?_
          exact kq)
        obtain ⟨fs, hr, hrun, hended, hW, hsame⟩ := X576.leave (v := some (.int (0 : Int32))) (fun h => by rw [Bd.returns] at h; cases h)
        refine ⟨_, _, go586 _ ?_, hrun, hended, _, _, rfl, ?_, ⟨_, rfl⟩, hW, hsame.mono (by decide) (by decide)⟩
        · exact retI X576 hx Bd.returns (hb hby d10_156) hr
        · show Q_rmRf Z p1 p2 p3 p4 p5 p6 p7 p8 h0 n0 _ T576.heap _
          rw [eq576]
          exact ⟨congrArg (fun z => some (Value.int z)) (((if_pos hqa).trans ((if_pos hqb).trans (if_pos hqc))).symm.trans (own_rf h_xa h_ya h_xb h_yb h_xc h_ua h_va h_ub h_vb h_uc)), N576, rfl⟩
      · have go584 : Goes p e below s₁ (G_rmRf m p1 p2 p3 p4 p5 p6 p7 p8) T576 (mkF m 151 #[vI p1, vI p2, vI p3, vI p4, vI p5, vI p6, vI p7, vI p8, vI xa, vI ya, vI xb, vI yb, vI xc, vI ua, vI va, vI ub, vI vb, vI uc] [(.int uc), (.int xc)]) := fun tq kq => go583 tq (by
          show Sx p e below T576 (mkF m 144 #[vI p1, vI p2, vI p3, vI p4, vI p5, vI p6, vI p7, vI p8, vI xa, vI ya, vI xb, vI yb, vI xc, vI ua, vI va, vI ub, vI vb, vI uc] [(.int uc), (.int xc)]) _
          refine XS.icmpNo X576.here hx rfl (hb hby d10_144) rfl (feq hqc).1 ?_
          refine XS.iload X576.here hx rfl (hb hby d10_147) rfl ?_
          show Sx p e below T576 (mkF m 149 #[vI p1, vI p2, vI p3, vI p4, vI p5, vI p6, vI p7, vI p8, vI xa, vI ya, vI xb, vI yb, vI xc, vI ua, vI va, vI ub, vI vb, vI uc] [(.int xc)]) _
          refine XS.iload X576.here hx rfl (hb hby d10_149) rfl ?_
          exact kq)
        obtain ⟨vv585, _, ⟨T585, L585, k585, n585⟩, -, X585, ⟨Lc585, hQ585, l585, y585, z585⟩, st585⟩ := Jvm.LawKit.callS X576 hx (y := (⟨"com/example/nuthatch/nuthatch/util/TextCompareCodePointsPinLaw", "cmp", "(II)I"⟩ : MethodName)) hown (mvT hZ (tw101 hw)) (mvT hZ (tw102 hw)) (mvT hZ (tw2 hw)) (mvT hZ (tw103 hw)) (by decide) (backOf (W := 0) (rmCp l Z a0 hw [] xc uc  h0 n0 Z0 ) hZ (tw103 hw) (tw2 hw) (by decide) (by decide)) (g := (mkF m 151 #[vI p1, vI p2, vI p3, vI p4, vI p5, vI p6, vI p7, vI p8, vI xa, vI ya, vI xb, vI yb, vI xc, vI ua, vI va, vI ub, vI vb, vI uc] [(.int uc), (.int xc)])) rfl (by rw [hml]; rfl) (argsL := [(.int xc), (.int uc)]) (rest := []) (lenOf pd_17 rfl) rfl (by show 2 * 0 + _ ≤ _; exact Nat.le_of_eq rfl) (hb hby d10_151) (fun _ _ => ⟨rfl, eq576, (by decide : 0 + 0 ≤ _), (by decide : 0 + 0 ≤ _)⟩)
        dsimp only [Pt.U, Pt.locs, Pt.cells, Pt.slots] at X585 l585 y585 z585 st585 hQ585
        subst l585 y585 z585
        obtain ⟨rfl, Nq585, eq585⟩ := hQ585
        have N585 := Fr.app N576 Nq585
        have go585 : Goes p e below s₁ (G_rmRf m p1 p2 p3 p4 p5 p6 p7 p8) T585 (mkF m 154 #[vI p1, vI p2, vI p3, vI p4, vI p5, vI p6, vI p7, vI p8, vI xa, vI ya, vI xb, vI yb, vI xc, vI ua, vI va, vI ub, vI vb, vI uc] [(.int (cpw xc uc))]) := fun tq kq => go584 tq (st585 _ kq)
        obtain ⟨fs, hr, hrun, hended, hW, hsame⟩ := X585.leave (v := some (.int (cpw xc uc))) (fun h => by rw [Bd.returns] at h; cases h)
        refine ⟨_, _, go585 _ ?_, hrun, hended, _, _, rfl, ?_, ⟨_, rfl⟩, hW, hsame.mono (by decide) (by decide)⟩
        · exact retI X585 hx Bd.returns (hb hby d10_154) hr
        · show Q_rmRf Z p1 p2 p3 p4 p5 p6 p7 p8 h0 n0 _ T585.heap _
          rw [eq585]
          exact ⟨congrArg (fun z => some (Value.int z)) (((if_pos hqa).trans ((if_pos hqb).trans (if_neg hqc))).symm.trans (own_rf h_xa h_ya h_xb h_yb h_xc h_ua h_va h_ub h_vb h_uc)), N585, rfl⟩
    · have go581 : Goes p e below s₁ (G_rmRf m p1 p2 p3 p4 p5 p6 p7 p8) T576 (mkF m 136 #[vI p1, vI p2, vI p3, vI p4, vI p5, vI p6, vI p7, vI p8, vI xa, vI ya, vI xb, vI yb, vI xc, vI ua, vI va, vI ub, vI vb, vI uc] [(.int ub), (.int xb)]) := fun tq kq => go580 tq (by
        show Sx p e below T576 (mkF m 129 #[vI p1, vI p2, vI p3, vI p4, vI p5, vI p6, vI p7, vI p8, vI xa, vI ya, vI xb, vI yb, vI xc, vI ua, vI va, vI ub, vI vb, vI uc] [(.int ub), (.int xb)]) _
        refine XS.icmpNo X576.here hx rfl (hb hby d10_129) rfl (feq hqb).1 ?_
        show Sx p e below T576 (mkF m 132 #[vI p1, vI p2, vI p3, vI p4, vI p5, vI p6, vI p7, vI p8, vI xa, vI ya, vI xb, vI yb, vI xc, vI ua, vI va, vI ub, vI vb, vI uc] []) _
        refine XS.iload X576.here hx rfl (hb hby d10_132) rfl ?_
        refine XS.iload X576.here hx rfl (hb hby d10_134) rfl ?_
        exact kq)
      obtain ⟨vv582, _, ⟨T582, L582, k582, n582⟩, -, X582, ⟨Lc582, hQ582, l582, y582, z582⟩, st582⟩ := Jvm.LawKit.callS X576 hx (y := (⟨"com/example/nuthatch/nuthatch/util/TextCompareCodePointsPinLaw", "cmp", "(II)I"⟩ : MethodName)) hown (mvT hZ (tw101 hw)) (mvT hZ (tw102 hw)) (mvT hZ (tw2 hw)) (mvT hZ (tw103 hw)) (by decide) (backOf (W := 0) (rmCp l Z a0 hw [] xb ub  h0 n0 Z0 ) hZ (tw103 hw) (tw2 hw) (by decide) (by decide)) (g := (mkF m 136 #[vI p1, vI p2, vI p3, vI p4, vI p5, vI p6, vI p7, vI p8, vI xa, vI ya, vI xb, vI yb, vI xc, vI ua, vI va, vI ub, vI vb, vI uc] [(.int ub), (.int xb)])) rfl (by rw [hml]; rfl) (argsL := [(.int xb), (.int ub)]) (rest := []) (lenOf pd_17 rfl) rfl (by show 2 * 0 + _ ≤ _; exact Nat.le_of_eq rfl) (hb hby d10_136) (fun _ _ => ⟨rfl, eq576, (by decide : 0 + 0 ≤ _), (by decide : 0 + 0 ≤ _)⟩)
      dsimp only [Pt.U, Pt.locs, Pt.cells, Pt.slots] at X582 l582 y582 z582 st582 hQ582
      subst l582 y582 z582
      obtain ⟨rfl, Nq582, eq582⟩ := hQ582
      have N582 := Fr.app N576 Nq582
      have go582 : Goes p e below s₁ (G_rmRf m p1 p2 p3 p4 p5 p6 p7 p8) T582 (mkF m 139 #[vI p1, vI p2, vI p3, vI p4, vI p5, vI p6, vI p7, vI p8, vI xa, vI ya, vI xb, vI yb, vI xc, vI ua, vI va, vI ub, vI vb, vI uc] [(.int (cpw xb ub))]) := fun tq kq => go581 tq (st582 _ kq)
      obtain ⟨fs, hr, hrun, hended, hW, hsame⟩ := X582.leave (v := some (.int (cpw xb ub))) (fun h => by rw [Bd.returns] at h; cases h)
      refine ⟨_, _, go582 _ ?_, hrun, hended, _, _, rfl, ?_, ⟨_, rfl⟩, hW, hsame.mono (by decide) (by decide)⟩
      · exact retI X582 hx Bd.returns (hb hby d10_139) hr
      · show Q_rmRf Z p1 p2 p3 p4 p5 p6 p7 p8 h0 n0 _ T582.heap _
        rw [eq582]
        exact ⟨congrArg (fun z => some (Value.int z)) (((if_pos hqa).trans (if_neg hqb)).symm.trans (own_rf h_xa h_ya h_xb h_yb h_xc h_ua h_va h_ub h_vb h_uc)), N582, rfl⟩
  · have go578 : Goes p e below s₁ (G_rmRf m p1 p2 p3 p4 p5 p6 p7 p8) T576 (mkF m 121 #[vI p1, vI p2, vI p3, vI p4, vI p5, vI p6, vI p7, vI p8, vI xa, vI ya, vI xb, vI yb, vI xc, vI ua, vI va, vI ub, vI vb, vI uc] [(.int ua), (.int xa)]) := fun tq kq => go577 tq (by
      show Sx p e below T576 (mkF m 114 #[vI p1, vI p2, vI p3, vI p4, vI p5, vI p6, vI p7, vI p8, vI xa, vI ya, vI xb, vI yb, vI xc, vI ua, vI va, vI ub, vI vb, vI uc] [(.int ua), (.int xa)]) _
      refine XS.icmpNo X576.here hx rfl (hb hby d10_114) rfl (feq hqa).1 ?_
      refine XS.iload X576.here hx rfl (hb hby d10_117) rfl ?_
      show Sx p e below T576 (mkF m 119 #[vI p1, vI p2, vI p3, vI p4, vI p5, vI p6, vI p7, vI p8, vI xa, vI ya, vI xb, vI yb, vI xc, vI ua, vI va, vI ub, vI vb, vI uc] [(.int xa)]) _
      refine XS.iload X576.here hx rfl (hb hby d10_119) rfl ?_
      exact kq)
    obtain ⟨vv579, _, ⟨T579, L579, k579, n579⟩, -, X579, ⟨Lc579, hQ579, l579, y579, z579⟩, st579⟩ := Jvm.LawKit.callS X576 hx (y := (⟨"com/example/nuthatch/nuthatch/util/TextCompareCodePointsPinLaw", "cmp", "(II)I"⟩ : MethodName)) hown (mvT hZ (tw101 hw)) (mvT hZ (tw102 hw)) (mvT hZ (tw2 hw)) (mvT hZ (tw103 hw)) (by decide) (backOf (W := 0) (rmCp l Z a0 hw [] xa ua  h0 n0 Z0 ) hZ (tw103 hw) (tw2 hw) (by decide) (by decide)) (g := (mkF m 121 #[vI p1, vI p2, vI p3, vI p4, vI p5, vI p6, vI p7, vI p8, vI xa, vI ya, vI xb, vI yb, vI xc, vI ua, vI va, vI ub, vI vb, vI uc] [(.int ua), (.int xa)])) rfl (by rw [hml]; rfl) (argsL := [(.int xa), (.int ua)]) (rest := []) (lenOf pd_17 rfl) rfl (by show 2 * 0 + _ ≤ _; exact Nat.le_of_eq rfl) (hb hby d10_121) (fun _ _ => ⟨rfl, eq576, (by decide : 0 + 0 ≤ _), (by decide : 0 + 0 ≤ _)⟩)
    dsimp only [Pt.U, Pt.locs, Pt.cells, Pt.slots] at X579 l579 y579 z579 st579 hQ579
    subst l579 y579 z579
    obtain ⟨rfl, Nq579, eq579⟩ := hQ579
    have N579 := Fr.app N576 Nq579
    have go579 : Goes p e below s₁ (G_rmRf m p1 p2 p3 p4 p5 p6 p7 p8) T579 (mkF m 124 #[vI p1, vI p2, vI p3, vI p4, vI p5, vI p6, vI p7, vI p8, vI xa, vI ya, vI xb, vI yb, vI xc, vI ua, vI va, vI ub, vI vb, vI uc] [(.int (cpw xa ua))]) := fun tq kq => go578 tq (st579 _ kq)
    obtain ⟨fs, hr, hrun, hended, hW, hsame⟩ := X579.leave (v := some (.int (cpw xa ua))) (fun h => by rw [Bd.returns] at h; cases h)
    refine ⟨_, _, go579 _ ?_, hrun, hended, _, _, rfl, ?_, ⟨_, rfl⟩, hW, hsame.mono (by decide) (by decide)⟩
    · exact retI X579 hx Bd.returns (hb hby d10_124) hr
    · show Q_rmRf Z p1 p2 p3 p4 p5 p6 p7 p8 h0 n0 _ T579.heap _
      rw [eq579]
      exact ⟨congrArg (fun z => some (Value.int z)) ((if_neg hqa).symm.trans (own_rf h_xa h_ya h_xb h_yb h_xc h_ua h_va h_ub h_vb h_uc)), N579, rfl⟩
theorem own_i2c (y : Int32) : C16 (nar .char (y.toUInt32.toUInt16.toUInt32.toInt32)) := by
  have h : ∀ u : UInt16, (u.toUInt32.toInt32).toInt = u.toNat := fun u => by
    have hu := u.toNat_lt
    show ((u.toUInt32).toBitVec).toInt = _
    rw [BitVec.toInt_eq_toNat_of_lt (by show 2 * u.toUInt32.toNat < _; rw [UInt16.toNat_toUInt32]; omega)]
    show ((u.toUInt32.toNat : Nat) : Int) = _
    rw [UInt16.toNat_toUInt32]
  have e : nar .char (y.toUInt32.toUInt16.toUInt32.toInt32) = y.toUInt32.toUInt16.toUInt32.toInt32 := by
    show (y.toUInt32.toUInt16.toUInt32.toInt32).toUInt32.toUInt16.toUInt32.toInt32 = _
    simp only [UInt32.toUInt32_toInt32, UInt16.toUInt16_toUInt32]
  rw [e]
  have hu := y.toUInt32.toUInt16.toNat_lt
  have q := h y.toUInt32.toUInt16
  have e0 : (0 : Int32).toInt = 0 := by decide
  have e1 : (65535 : Int32).toInt = 65535 := by decide
  refine ⟨?_, ?_, e⟩
  · rw [Int32.lt_iff_toInt_lt, q, e0]; omega
  · rw [Int32.lt_iff_toInt_lt, q, e1]; omega
theorem own_dr (q : Int64) : C16 (drv q) := by
  unfold drv
  split
  · exact own_i2c _
  · split
    · exact own_i2c _
    · split <;> exact own_i2c _
theorem own_q4l (z : Int64) : Q4 ((z &&& (3 : Int64)).toInt32) := by
  have h := Jvm.Kit.i64_mask z 3 (k := 2) (by decide) (by decide)
  have e : (z &&& (3 : Int64)).toInt32.toInt = (z &&& (3 : Int64)).toInt := Jvm.Kit.i32_of_i64 (by rw [h]; omega) (by rw [h]; omega)
  rw [h] at e
  have c : ∀ w : Int32, w.toInt = 0 ∨ w.toInt = 1 ∨ w.toInt = 2 ∨ w.toInt = 3 → Q4 w := by
    intro w hw
    rcases hw with q | q | q | q
    · exact Or.inl (Int32.toInt_inj.mp q)
    · exact Or.inr (Or.inl (Int32.toInt_inj.mp q))
    · exact Or.inr (Or.inr (Or.inl (Int32.toInt_inj.mp q)))
    · exact Or.inr (Or.inr (Or.inr (Int32.toInt_inj.mp q)))
  exact c _ (by rw [e]; omega)
theorem own_all {n a b c : Int32} {P : Int32 → Prop} (ha : P a) (hb : P b) (hc : P c) : ∀ z ∈ csv n a b c, P z := by
  intro z hz
  unfold csv at hz
  split at hz
  · simp at hz
  · split at hz
    · simp at hz; subst hz; exact ha
    · split at hz
      · simp at hz; rcases hz with rfl | rfl <;> assumption
      · simp at hz; rcases hz with rfl | rfl | rfl <;> assumption
theorem own_l3 (n a b c : Int32) : (csv n a b c).length ≤ 3 := by
  unfold csv
  split
  · simp
  · split
    · simp
    · split <;> simp
def unl (cs : List Int32) (i : Nat) : Int32 := if i < cs.length then cs.getD i 0 else (-1 : Int32)
theorem own_un {a b c l : Int32} (hl : Q4 l) : ∀ i : Nat, i < 6 → unv a b c l (Int32.ofNat i) = unl (csv l a b c) i := by
  intro i hi
  rcases hl with rfl | rfl | rfl | rfl <;> (match i, hi with
    | 0, _ => first | rfl | simp +decide [unv, unl, csv]
    | 1, _ => first | rfl | simp +decide [unv, unl, csv]
    | 2, _ => first | rfl | simp +decide [unv, unl, csv]
    | 3, _ => first | rfl | simp +decide [unv, unl, csv]
    | 4, _ => first | rfl | simp +decide [unv, unl, csv]
    | 5, _ => first | rfl | simp +decide [unv, unl, csv])
theorem own_hh (x : Int32) : (ihv x = 0) ↔ (hsv x = 0) := by
  have e1 : (55296 : Int32).toInt = 55296 := by decide
  have e2 : (56319 : Int32).toInt = 56319 := by decide
  have e3 : (56320 : Int32).toInt = 56320 := by decide
  by_cases h1 : x < (55296 : Int32)
  · simp +decide [ihv, hsv, h1]
  · by_cases h2 : (56319 : Int32) < x
    · have h3 : ¬ x < (56320 : Int32) := by
        rw [Int32.lt_iff_toInt_lt, e2] at h2
        rw [Int32.lt_iff_toInt_lt, e3]; omega
      simp +decide [ihv, hsv, h1, h2, h3]
    · have h3 : x < (56320 : Int32) := by
        rw [Int32.lt_iff_toInt_lt, e2] at h2
        rw [Int32.lt_iff_toInt_lt, e3]; omega
      simp +decide [ihv, hsv, h1, h2, h3]
theorem own_hhr {x : Int32} (h : ¬ hsv x = 0) : 55296 ≤ x.toInt ∧ x.toInt ≤ 56319 := by
  have e1 : (55296 : Int32).toInt = 55296 := by decide
  have e3 : (56320 : Int32).toInt = 56320 := by decide
  by_cases h1 : x < (55296 : Int32)
  · exact absurd (by simp +decide [hsv, h1]) h
  · by_cases h3 : x < (56320 : Int32)
    · rw [Int32.lt_iff_toInt_lt, e1] at h1
      rw [Int32.lt_iff_toInt_lt, e3] at h3
      omega
    · exact absurd (by simp +decide [hsv, h1, h3]) h
theorem own_ll (x : Int32) : (ilv x = 0) ↔ (lsv x = 0) := by
  have e2 : (57343 : Int32).toInt = 57343 := by decide
  have e3 : (57344 : Int32).toInt = 57344 := by decide
  by_cases h1 : x < (56320 : Int32)
  · simp +decide [ilv, lsv, h1]
  · by_cases h2 : (57343 : Int32) < x
    · have h3 : ¬ x < (57344 : Int32) := by
        rw [Int32.lt_iff_toInt_lt, e2] at h2
        rw [Int32.lt_iff_toInt_lt, e3]; omega
      simp +decide [ilv, lsv, h1, h2, h3]
    · have h3 : x < (57344 : Int32) := by
        rw [Int32.lt_iff_toInt_lt, e2] at h2
        rw [Int32.lt_iff_toInt_lt, e3]; omega
      simp +decide [ilv, lsv, h1, h2, h3]
theorem own_llr {x : Int32} (h : ¬ lsv x = 0) : 56320 ≤ x.toInt ∧ x.toInt ≤ 57343 := by
  have e1 : (56320 : Int32).toInt = 56320 := by decide
  have e3 : (57344 : Int32).toInt = 57344 := by decide
  by_cases h1 : x < (56320 : Int32)
  · exact absurd (by simp +decide [lsv, h1]) h
  · by_cases h3 : x < (57344 : Int32)
    · rw [Int32.lt_iff_toInt_lt, e1] at h1
      rw [Int32.lt_iff_toInt_lt, e3] at h3
      omega
    · exact absurd (by simp +decide [lsv, h1, h3]) h
theorem own_tc {h l : Int32} (hh : ¬ hsv h = 0) (hl : ¬ lsv l = 0) : ((((h - (55296 : Int32)) <<< ((10 : Int32) &&& 31)) + (l - (56320 : Int32))) + (65536 : Int32)) = tcv h l ∧ (tcv h l).toInt = (h.toInt - 55296) * 1024 + (l.toInt - 56320) + 65536 := by
  obtain ⟨a1, a2⟩ := own_hhr hh
  obtain ⟨b1, b2⟩ := own_llr hl
  have e1 : (55296 : Int32).toInt = 55296 := by decide
  have e2 : (56320 : Int32).toInt = 56320 := by decide
  have e3 : (65536 : Int32).toInt = 65536 := by decide
  have e4 : (-56613888 : Int32).toInt = -56613888 := by decide
  have s1 : (h - (55296 : Int32)).toInt = h.toInt - 55296 := by rw [Jvm.Kit.i32_sub (by rw [e1]; omega) (by rw [e1]; omega), e1]
  have s2 : (l - (56320 : Int32)).toInt = l.toInt - 56320 := by rw [Jvm.Kit.i32_sub (by rw [e2]; omega) (by rw [e2]; omega), e2]
  have s3 : ((h - (55296 : Int32)) <<< ((10 : Int32) &&& 31)).toInt = (h.toInt - 55296) * 1024 := by
    rw [Jvm.Kit.i32_shl _ _ (k := 10) (by decide) (by rw [s1]; omega) (by rw [s1]; omega), s1]; omega
  have s4 : (h <<< ((10 : Int32) &&& 31)).toInt = h.toInt * 1024 := by
    rw [Jvm.Kit.i32_shl _ _ (k := 10) (by decide) (by omega) (by omega)]; omega
  have t1 : (((h - (55296 : Int32)) <<< ((10 : Int32) &&& 31)) + (l - (56320 : Int32))).toInt = (h.toInt - 55296) * 1024 + (l.toInt - 56320) := by
    rw [Jvm.Kit.i32_add (by rw [s3, s2]; omega) (by rw [s3, s2]; omega), s3, s2]
  have t2 : ((((h - (55296 : Int32)) <<< ((10 : Int32) &&& 31)) + (l - (56320 : Int32))) + (65536 : Int32)).toInt = (h.toInt - 55296) * 1024 + (l.toInt - 56320) + 65536 := by
    rw [Jvm.Kit.i32_add (by rw [t1, e3]; omega) (by rw [t1, e3]; omega), t1, e3]
  have u1 : ((h <<< ((10 : Int32) &&& 31)) + l).toInt = h.toInt * 1024 + l.toInt := by
    rw [Jvm.Kit.i32_add (by rw [s4]; omega) (by rw [s4]; omega), s4]
  have u2 : (tcv h l).toInt = (h.toInt - 55296) * 1024 + (l.toInt - 56320) + 65536 := by
    unfold tcv
    rw [Jvm.Kit.i32_add (by rw [u1, e4]; omega) (by rw [u1, e4]; omega), u1, e4]; omega
  exact ⟨Int32.toInt_inj.mp (by rw [t2, u2]), u2⟩
theorem own_c0 {c : Int32} (h : C16 c) : 0 ≤ c.toInt := by
  have q := h.1
  have e0 : (0 : Int32).toInt = 0 := by decide
  rw [Int32.lt_iff_toInt_lt, e0] at q; omega
/-- the code point at i, or -1 -/
def plv (cs : List Int32) (i : Nat) : Int32 := if i < cs.length then cpv cs i else (-1 : Int32)
theorem own_cp0 {cs : List Int32} (hcs : ∀ c ∈ cs, C16 c) {i : Nat} (hi : i < cs.length) : 0 ≤ (cpv cs i).toInt := by
  have h0 := own_c0 (own_at hcs hi)
  unfold cpv
  by_cases a : hsv (cs.getD i 0) = 0
  · rw [if_pos a]; exact h0
  · rw [if_neg a]
    by_cases q : i + 1 < cs.length
    · rw [if_pos q]
      by_cases b : lsv (cs.getD (i + 1) 0) = 0
      · rw [if_pos b]; exact h0
      · rw [if_neg b, (own_tc a b).2]
        have r1 := own_hhr a
        have r2 := own_llr b
        omega
    · rw [if_neg q]; exact h0
theorem own_pt {a b c l : Int32} (ha : C16 a) (hb : C16 b) (hc : C16 c) (hl : Q4 l) (i : Nat) (hi : i < 5) : ptv a b c l (Int32.ofNat i) = plv (csv l a b c) i := by
  have hcs : ∀ z ∈ csv l a b c, C16 z := own_all ha hb hc
  have e0 := own_un (a := a) (b := b) (c := c) hl i (by omega)
  have e1 := own_un (a := a) (b := b) (c := c) hl (i + 1) (by omega)
  unfold ptv
  rw [own_inc, e0, e1]
  generalize csv l a b c = cs at hcs ⊢
  by_cases q : i < cs.length
  · have u : unl cs i = cs.getD i 0 := if_pos q
    have p : plv cs i = cpv cs i := if_pos q
    have n : ¬ (cs.getD i 0) < (0 : Int32) := (own_at hcs q).1
    rw [u, p, if_neg n]
    unfold cpv
    by_cases hh : hsv (cs.getD i 0) = 0
    · rw [if_pos hh, if_pos ((own_hh _).mpr hh)]
    · rw [if_neg hh, if_neg (fun k => hh ((own_hh _).mp k))]
      by_cases r : i + 1 < cs.length
      · have v : unl cs (i + 1) = cs.getD (i + 1) 0 := if_pos r
        rw [v, if_pos r]
        by_cases hw : lsv (cs.getD (i + 1) 0) = 0
        · rw [if_pos hw, if_pos ((own_ll _).mpr hw)]
        · rw [if_neg hw, if_neg (fun k => hw ((own_ll _).mp k))]
          exact (own_tc hh hw).1
      · have v : unl cs (i + 1) = (-1 : Int32) := if_neg r
        rw [v, if_neg r, if_pos (by decide +kernel)]
  · have u : unl cs i = (-1 : Int32) := if_neg q
    have p : plv cs i = (-1 : Int32) := if_neg q
    rw [u, p, if_pos (by decide)]
def wn (p : Int32) : Nat := if p < (65536 : Int32) then 1 else 2
theorem own_wd (p : Int32) : wdv p = Int32.ofNat (wn p) := by
  unfold wdv wn
  by_cases h : p < (65536 : Int32)
  · simp only [h, if_true]; rfl
  · simp only [h, if_false]; rfl
theorem own_wn (p : Int32) : 1 ≤ wn p ∧ wn p ≤ 2 := by
  unfold wn
  split <;> omega
def rfp (cs ds : List Int32) : Nat → Nat → Int32
  | 0, _ => 0
  | m + 1, k => if plv cs k = plv ds k then rfp cs ds m (k + wn (plv cs k)) else cpw (plv cs k) (plv ds k)
theorem rfp_s (cs ds : List Int32) (m k : Nat) : rfp cs ds (m + 1) k = if plv cs k = plv ds k then rfp cs ds m (k + wn (plv cs k)) else cpw (plv cs k) (plv ds k) := by rw [rfp]
theorem own_sgic {p q : Int32} (h : ¬ p = q) : sgv (icv p q) = cpw p q := by
  by_cases c : p < q
  · simp +decide [sgv, icv, cpw, c]
  · simp +decide [sgv, icv, cpw, c, h]
theorem own_sgeq (p : Int32) : sgv (icv p p) = 0 := by
  have c : ¬ p < p := Int32.lt_irrefl
  simp +decide [sgv, icv, c]
theorem own_end (cs ds : List Int32) : ∀ m k : Nat, cs.length ≤ k → ds.length ≤ k → rfp cs ds m k = 0 := by
  intro m
  induction m with
  | zero => intro k _ _; rw [rfp]
  | succ m ih =>
    intro k h1 h2
    have p1 : plv cs k = (-1 : Int32) := if_neg (by omega)
    have p2 : plv ds k = (-1 : Int32) := if_neg (by omega)
    rw [rfp_s, if_pos (p1.trans p2.symm)]
    exact ih _ (by omega) (by omega)
theorem own_neg1 {p : Int32} (h : 0 ≤ p.toInt) : (-1 : Int32) < p := by
  have e : (-1 : Int32).toInt = -1 := by decide
  rw [Int32.lt_iff_toInt_lt, e]; omega
theorem own_loop {cs ds : List Int32} (hc : ∀ c ∈ cs, C16 c) (hd : ∀ c ∈ ds, C16 c) (lc : cs.length ≤ 3) (ld : ds.length ≤ 3) : ∀ m k : Nat, 3 ≤ m + k → k ≤ cs.length → k ≤ ds.length → sgv (cmpv cs ds (m + 1) k) = rfp cs ds m k := by
  intro m
  induction m with
  | zero =>
    intro k h1 h2 h3
    have e : cs.length = ds.length := by omega
    rw [cm_x (fun q => absurd q.1 (by omega)), e, own_sgeq, rfp]
  | succ m ih =>
    intro k h1 h2 h3
    rw [rfp_s]
    by_cases a : k < cs.length ∧ k < ds.length
    · have p1 : plv cs k = cpv cs k := if_pos a.1
      have p2 : plv ds k = cpv ds k := if_pos a.2
      rw [p1, p2]
      by_cases e : cpv cs k = cpv ds k
      · rw [if_pos e]
        by_cases w : cpv cs k < (65536 : Int32)
        · have q : wn (cpv cs k) = 1 := if_pos w
          rw [cm_1 a e w, q]
          exact ih (k + 1) (by omega) (by omega) (by omega)
        · have q : wn (cpv cs k) = 2 := if_neg w
          have r1 := own_pair a.1 hc w
          have r2 := own_pair a.2 hd (by rw [← e]; exact w)
          rw [cm_2 a e w, q]
          exact ih (k + 2) (by omega) (by omega) (by omega)
      · rw [if_neg e, cm_n a e, own_sgic e]
    · rw [cm_x a]
      by_cases c1 : k < cs.length
      · have c2 : ds.length = k := by
          have : ¬ k < ds.length := fun q => a ⟨c1, q⟩
          omega
        have p1 : plv cs k = cpv cs k := if_pos c1
        have p2 : plv ds k = (-1 : Int32) := if_neg (by omega)
        have lt := own_neg1 (own_cp0 hc c1)
        have ne : ¬ cpv cs k = (-1 : Int32) := fun q => by rw [q] at lt; exact absurd lt (by decide)
        have nl : ¬ cpv cs k < (-1 : Int32) := fun q => absurd (Int32.lt_trans lt q) (by decide)
        rw [p1, p2, if_neg ne]
        have n1 : ¬ Int32.ofNat cs.length < Int32.ofNat ds.length := own_nlt (by omega) (by omega) (by omega)
        have n2 : ¬ Int32.ofNat cs.length = Int32.ofNat ds.length := fun q => by
          have z := own_lt (k := ds.length) (n := cs.length) (by omega) (by omega)
          rw [q] at z; exact absurd z Int32.lt_irrefl
        rw [own_sgic n2]
        simp +decide [cpw, n1, nl]
      · by_cases c2 : k < ds.length
        · have c3 : cs.length = k := by omega
          have p1 : plv cs k = (-1 : Int32) := if_neg (by omega)
          have p2 : plv ds k = cpv ds k := if_pos c2
          have lt := own_neg1 (own_cp0 hd c2)
          have ne : ¬ (-1 : Int32) = cpv ds k := fun q => by rw [← q] at lt; exact absurd lt (by decide)
          rw [p1, p2, if_neg ne]
          have n1 : Int32.ofNat cs.length < Int32.ofNat ds.length := own_lt (by omega) (by omega)
          have n2 : ¬ Int32.ofNat cs.length = Int32.ofNat ds.length := fun q => by rw [q] at n1; exact absurd n1 Int32.lt_irrefl
          rw [own_sgic n2]
          simp +decide [cpw, n1, lt]
        · have e : cs.length = ds.length := by omega
          have p1 : plv cs k = (-1 : Int32) := if_neg c1
          have p2 : plv ds k = (-1 : Int32) := if_neg c2
          rw [e, own_sgeq, if_pos (p1.trans p2.symm), own_end cs ds m _ (by omega) (by omega)]
theorem own_main {a b c a' b' c' l l' : Int32} (ha : C16 a) (hb : C16 b) (hc : C16 c) (ha' : C16 a') (hb' : C16 b') (hc' : C16 c') (hl : Q4 l) (hl' : Q4 l') : sgv (cmpv (csv l a b c) (csv l' a' b' c') 4 0) = rfv a b c l a' b' c' l' := by
  have A := own_pt ha hb hc hl
  have B := own_pt ha' hb' hc' hl'
  have hcs : ∀ z ∈ csv l a b c, C16 z := own_all ha hb hc
  have hds : ∀ z ∈ csv l' a' b' c', C16 z := own_all ha' hb' hc'
  rw [own_loop hcs hds (own_l3 _ _ _ _) (own_l3 _ _ _ _) 3 0 (by omega) (by omega) (by omega)]
  unfold rfv pt2 pt1
  rw [show (0 : Int32) = Int32.ofNat 0 from rfl, A 0 (by omega), B 0 (by omega)]
  rw [own_wd, own_wd, A _ (by have := own_wn (plv (csv l a b c) 0); omega), B _ (by have := own_wn (plv (csv l' a' b' c') 0); omega)]
  rw [own_wd, own_wd, ← Int32.ofNat_add, ← Int32.ofNat_add]
  rw [A _ (by have h1 := own_wn (plv (csv l a b c) 0); have h2 := own_wn (plv (csv l a b c) (wn (plv (csv l a b c) 0))); omega), B _ (by have h1 := own_wn (plv (csv l' a' b' c') 0); have h2 := own_wn (plv (csv l' a' b' c') (wn (plv (csv l' a' b' c') 0))); omega)]
  generalize csv l a b c = cs
  generalize csv l' a' b' c' = ds
  rw [rfp_s]
  by_cases e : plv cs 0 = plv ds 0
  · rw [if_pos e, if_pos e, rfp_s, Nat.zero_add, ← e]
    by_cases e1 : plv cs (wn (plv cs 0)) = plv ds (wn (plv cs 0))
    · rw [if_pos e1, if_pos e1, rfp_s, ← e1]
      by_cases e2 : plv cs (wn (plv cs 0) + wn (plv cs (wn (plv cs 0)))) = plv ds (wn (plv cs 0) + wn (plv cs (wn (plv cs 0))))
      · rw [if_pos e2, if_pos e2, rfp]; rfl
      · rw [if_neg e2, if_neg e2]
    · rw [if_neg e1, if_neg e1]
  · rw [if_neg e, if_neg e]
abbrev G_rm0 (m : MethodId) (q1 : Int64) (q2 : Int64) (p3 : Int32) : JFrame := (entryFrame m #[(.long q1), (.long q2), (.int p3)] maxLocals)
theorem pd_20 : parseMethodDescriptor "(J)C" = some ⟨[.long], some .char⟩ := by decide +kernel
theorem pd_21 : parseMethodDescriptor "(CCCI)Ljava/lang/String;" = some ⟨[.char, .char, .char, .int], some (.object "java/lang/String")⟩ := by decide +kernel
theorem pd_22 : parseMethodDescriptor "(Ljava/lang/String;Ljava/lang/String;)I" = some ⟨[(.object "java/lang/String"), (.object "java/lang/String")], some .int⟩ := by decide +kernel
theorem pd_23 : parseMethodDescriptor "(CCCICCCI)I" = some ⟨[.char, .char, .char, .int, .char, .char, .char, .int], some .int⟩ := by decide +kernel
def Q_rm0 (Z : State) (q1 : Int64) (q2 : Int64) (p3 : Int32) (cz : Int32) (fm : Value) (h0 : Heap) (n0 : Nat) (v : Option Value) (h : Heap) (L : List Loc) : Prop := v = some (.int (1 : Int32)) ∧ Fr n0 L
set_option maxRecDepth 65536 in
set_option maxHeartbeats 40000000 in
theorem rm0 (l : Launch) (Z : State) (a0 : Array Value) (hw : ∀ d ∈ tables_1, d.before a0 Z = true) (ws : List Jvm.Cond) (q1 : Int64) (q2 : Int64) (p3 : Int32) (cz : Int32) (fm : Value) (h0 : Heap) (n0 : Nat) (Z0 : n0 ≤ h0.size) (O0 : Old Z n0 h0) (hcw : Jvm.Lit.compactW.before a0 Z = true) (hld : Jvm.Lit.constHeld Z "java/lang/String" 7) (AD : Sta Z Z.heap "java/lang/StringUTF16" "$assertionsDisabled" "Z" (.int (1 : Int32))) (HI : Sta Z Z.heap "java/lang/StringUTF16" "HI_BYTE_SHIFT" "I" (.int (0 : Int32))) (LO : Sta Z Z.heap "java/lang/StringUTF16" "LO_BYTE_SHIFT" "I" (.int (8 : Int32))) (SC : Sta Z Z.heap "java/lang/String" "COMPACT_STRINGS" "Z" (.int cz)) (hz : ¬ (cz = (0 : Int32))) (FM : Sta Z Z.heap "jdk/internal/util/Preconditions" "SIOOBE_FORMATTER" "Ljava/util/function/BiFunction;" fm) (hfm : fm = .null ∨ ∃ f : Addr, fm = .ref f) :
    MetFree l x (head1 (Jvm.Cond.code x code maxLocals ret :: ws) room_1) (fun a U => a = #[(.long q1), (.long q2), (.int p3)] ∧ Z.Warmed39 U.vm ∧ U.heap = h0 ∧ IB Z U.vm []) (fun _ _ _ _ _ => True) (fun _ U o U' => ∃ v L, o = .returned v ∧ Q_rm0 Z q1 q2 p3 cz fm h0 n0 v U'.heap L ∧ ReturnedEndW U o U' L room_1.cells room_1.slots) := by
  refine MetFree.of_bodySF (plainFor_of_name pn_com_example_nuthatch_nuthatch_util_TextCompareCodePointsPinLaw) hisR ?_
  intro p e s m args below meth c s₁ Bd hml0 hP hK
  obtain ⟨rfl, hZ, hh, hIB⟩ := hP
  have hx := Bd.exec
  have hby := Bd.bytes
  have hml : c.maxLocals = 18 := hml0
  have hown : s.vm.findClass "com/example/nuthatch/nuthatch/util/TextCompareCodePointsPinLaw" = some m.cls := findClass_of_methodNamed Bd.named
  have hnm := (name_of_methodNamed Bd.named Bd.method).1
  have X0 : Stand p l e room_1 s m #[(.long q1), (.long q2), (.int p3)] below meth c s₁ [] 0 0 := Stand.of_body Bd
  have e0 : s₁.heap = h0 := by rw [← hh, Bd.state]; rfl
  have N0 := Fr.nil n0
  have wS : ∀ a ∈ Bundle.stringAtoms, a.before a0 Z = true := fun d hd => hw d ((by decide +kernel : ∀ d ∈ Bundle.stringAtoms, d ∈ tables_1) d hd)
  have hkeep : ∀ (b : Addr) (cl : Cell), Z.heap[b]? = some cl → s.heap[b]? = some cl := fun b cl q => by rw [hh]; exact O0.2.2 b cl q
  have go0 : Goes p e below s₁ (G_rm0 m q1 q2 p3) s₁ (mkF m 0 #[vJ q1, sD, vJ q2, sD, vI p3, uN, uN, uN, uN, uN, uN, uN, uN, uN, uN, uN, uN, uN] []) := fun tq kq => castTop (by first | (simp [entryFrame, mkF, argsToLocals, Value.category, vI, vJ, vR, vD, vN, uN, sD, G_rm0, maxLocals]; done) | rfl) kq
  have hJ : JJ Z h0 s.vm := Or.inl hIB
  have go587 : Goes p e below s₁ (G_rm0 m q1 q2 p3) s₁ (mkF m 1 #[vJ q1, sD, vJ q2, sD, vI p3, uN, uN, uN, uN, uN, uN, uN, uN, uN, uN, uN, uN, uN] [(.long q1)]) := fun tq kq => go0 tq (by
    show Sx p e below s₁ (mkF m 0 #[vJ q1, sD, vJ q2, sD, vI p3, uN, uN, uN, uN, uN, uN, uN, uN, uN, uN, uN, uN, uN] []) _
    refine XS.lloadN X0.here hx rfl (hb hby at_0) rfl ?_
    exact kq)
  obtain ⟨vv588, _, ⟨T588, L588, k588, n588⟩, -, X588, ⟨Lc588, hQ588, l588, y588, z588⟩, st588⟩ := Jvm.LawKit.callS X0 hx (y := (⟨"com/example/nuthatch/nuthatch/util/TextCompareCodePointsPinLaw", "draw", "(J)C"⟩ : MethodName)) hown (mvT hZ (tw0 hw)) (mvT hZ (tw1 hw)) (mvT hZ (tw2 hw)) (mvT hZ (tw3 hw)) (by decide) (backOf (W := 0) (rmDr l Z a0 hw [] q1  h0 n0 Z0 ) hZ (tw3 hw) (tw2 hw) (by decide) (by decide)) (g := (mkF m 1 #[vJ q1, sD, vJ q2, sD, vI p3, uN, uN, uN, uN, uN, uN, uN, uN, uN, uN, uN, uN, uN] [(.long q1)])) rfl (by rw [hml]; rfl) (argsL := [(.long q1)]) (rest := []) (lenOf pd_20 rfl) rfl (by show 2 * 0 + _ ≤ _; exact Nat.le_of_eq rfl) (hb hby at_1) (fun _ _ => ⟨rfl, e0, (by decide : 0 + 0 ≤ _), (by decide : 0 + 0 ≤ _)⟩)
  dsimp only [Pt.U, Pt.locs, Pt.cells, Pt.slots] at X588 l588 y588 z588 st588 hQ588
  subst l588 y588 z588
  obtain ⟨rfl, Nq588, eq588⟩ := hQ588
  have N588 := Fr.app N0 Nq588
  have go588 : Goes p e below s₁ (G_rm0 m q1 q2 p3) T588 (mkF m 4 #[vJ q1, sD, vJ q2, sD, vI p3, uN, uN, uN, uN, uN, uN, uN, uN, uN, uN, uN, uN, uN] [(.int (drv q1))]) := fun tq kq => go587 tq (st588 _ kq)
  obtain ⟨xa, h_xa⟩ : ∃ z, z = (drv q1) := ⟨_, rfl⟩
  rw [← h_xa] at go588
  have k_xa : C16 xa := by rw [h_xa]; exact own_dr _
  clear h_xa
  have go589 : Goes p e below s₁ (G_rm0 m q1 q2 p3) T588 (mkF m 10 #[vJ q1, sD, vJ q2, sD, vI p3, vI xa, uN, uN, uN, uN, uN, uN, uN, uN, uN, uN, uN, uN] [(.long ((q1.toUInt64 >>> ((18 : Int32) &&& 63).toInt64.toUInt64).toInt64))]) := fun tq kq => go588 tq (by
    show Sx p e below T588 (mkF m 4 #[vJ q1, sD, vJ q2, sD, vI p3, uN, uN, uN, uN, uN, uN, uN, uN, uN, uN, uN, uN, uN] [(.int xa)]) _
    refine XS.istore X588.here hx rfl (hb hby at_4) rfl (l' := #[vJ q1, sD, vJ q2, sD, vI p3, vI xa, uN, uN, uN, uN, uN, uN, uN, uN, uN, uN, uN, uN]) rfl ?_
    show Sx p e below T588 (mkF m 6 #[vJ q1, sD, vJ q2, sD, vI p3, vI xa, uN, uN, uN, uN, uN, uN, uN, uN, uN, uN, uN, uN] []) _
    refine XS.lloadN X588.here hx rfl (hb hby at_6) rfl ?_
    refine XS.bipush X588.here hx rfl (hb hby at_7) ?_
    show Sx p e below T588 (mkF m 9 #[vJ q1, sD, vJ q2, sD, vI p3, vI xa, uN, uN, uN, uN, uN, uN, uN, uN, uN, uN, uN, uN] [(.int (18 : Int32)), (.long q1)]) _
    refine XS.lushr X588.here hx rfl (hb hby at_9) rfl ?_
    exact kq)
  obtain ⟨vv590, _, ⟨T590, L590, k590, n590⟩, -, X590, ⟨Lc590, hQ590, l590, y590, z590⟩, st590⟩ := Jvm.LawKit.callS X588 hx (y := (⟨"com/example/nuthatch/nuthatch/util/TextCompareCodePointsPinLaw", "draw", "(J)C"⟩ : MethodName)) hown (mvT hZ (tw0 hw)) (mvT hZ (tw1 hw)) (mvT hZ (tw2 hw)) (mvT hZ (tw3 hw)) (by decide) (backOf (W := 0) (rmDr l Z a0 hw [] ((q1.toUInt64 >>> ((18 : Int32) &&& 63).toInt64.toUInt64).toInt64)  h0 n0 Z0 ) hZ (tw3 hw) (tw2 hw) (by decide) (by decide)) (g := (mkF m 10 #[vJ q1, sD, vJ q2, sD, vI p3, vI xa, uN, uN, uN, uN, uN, uN, uN, uN, uN, uN, uN, uN] [(.long ((q1.toUInt64 >>> ((18 : Int32) &&& 63).toInt64.toUInt64).toInt64))])) rfl (by rw [hml]; rfl) (argsL := [(.long ((q1.toUInt64 >>> ((18 : Int32) &&& 63).toInt64.toUInt64).toInt64))]) (rest := []) (lenOf pd_20 rfl) rfl (by show 2 * 0 + _ ≤ _; exact Nat.le_of_eq rfl) (hb hby at_10) (fun _ _ => ⟨rfl, eq588, (by decide : 0 + 0 ≤ _), (by decide : 0 + 0 ≤ _)⟩)
  dsimp only [Pt.U, Pt.locs, Pt.cells, Pt.slots] at X590 l590 y590 z590 st590 hQ590
  subst l590 y590 z590
  obtain ⟨rfl, Nq590, eq590⟩ := hQ590
  have N590 := Fr.app N588 Nq590
  have go590 : Goes p e below s₁ (G_rm0 m q1 q2 p3) T590 (mkF m 13 #[vJ q1, sD, vJ q2, sD, vI p3, vI xa, uN, uN, uN, uN, uN, uN, uN, uN, uN, uN, uN, uN] [(.int (drv ((q1.toUInt64 >>> ((18 : Int32) &&& 63).toInt64.toUInt64).toInt64)))]) := fun tq kq => go589 tq (st590 _ kq)
  obtain ⟨xb, h_xb⟩ : ∃ z, z = (drv ((q1.toUInt64 >>> ((18 : Int32) &&& 63).toInt64.toUInt64).toInt64)) := ⟨_, rfl⟩
  rw [← h_xb] at go590
  have k_xb : C16 xb := by rw [h_xb]; exact own_dr _
  clear h_xb
  have go591 : Goes p e below s₁ (G_rm0 m q1 q2 p3) T590 (mkF m 19 #[vJ q1, sD, vJ q2, sD, vI p3, vI xa, vI xb, uN, uN, uN, uN, uN, uN, uN, uN, uN, uN, uN] [(.long ((q1.toUInt64 >>> ((36 : Int32) &&& 63).toInt64.toUInt64).toInt64))]) := fun tq kq => go590 tq (by
    show Sx p e below T590 (mkF m 13 #[vJ q1, sD, vJ q2, sD, vI p3, vI xa, uN, uN, uN, uN, uN, uN, uN, uN, uN, uN, uN, uN] [(.int xb)]) _
    refine XS.istore X590.here hx rfl (hb hby at_13) rfl (l' := #[vJ q1, sD, vJ q2, sD, vI p3, vI xa, vI xb, uN, uN, uN, uN, uN, uN, uN, uN, uN, uN, uN]) rfl ?_
    show Sx p e below T590 (mkF m 15 #[vJ q1, sD, vJ q2, sD, vI p3, vI xa, vI xb, uN, uN, uN, uN, uN, uN, uN, uN, uN, uN, uN] []) _
    refine XS.lloadN X590.here hx rfl (hb hby at_15) rfl ?_
    refine XS.bipush X590.here hx rfl (hb hby at_16) ?_
    show Sx p e below T590 (mkF m 18 #[vJ q1, sD, vJ q2, sD, vI p3, vI xa, vI xb, uN, uN, uN, uN, uN, uN, uN, uN, uN, uN, uN] [(.int (36 : Int32)), (.long q1)]) _
    refine XS.lushr X590.here hx rfl (hb hby at_18) rfl ?_
    exact kq)
  obtain ⟨vv592, _, ⟨T592, L592, k592, n592⟩, -, X592, ⟨Lc592, hQ592, l592, y592, z592⟩, st592⟩ := Jvm.LawKit.callS X590 hx (y := (⟨"com/example/nuthatch/nuthatch/util/TextCompareCodePointsPinLaw", "draw", "(J)C"⟩ : MethodName)) hown (mvT hZ (tw0 hw)) (mvT hZ (tw1 hw)) (mvT hZ (tw2 hw)) (mvT hZ (tw3 hw)) (by decide) (backOf (W := 0) (rmDr l Z a0 hw [] ((q1.toUInt64 >>> ((36 : Int32) &&& 63).toInt64.toUInt64).toInt64)  h0 n0 Z0 ) hZ (tw3 hw) (tw2 hw) (by decide) (by decide)) (g := (mkF m 19 #[vJ q1, sD, vJ q2, sD, vI p3, vI xa, vI xb, uN, uN, uN, uN, uN, uN, uN, uN, uN, uN, uN] [(.long ((q1.toUInt64 >>> ((36 : Int32) &&& 63).toInt64.toUInt64).toInt64))])) rfl (by rw [hml]; rfl) (argsL := [(.long ((q1.toUInt64 >>> ((36 : Int32) &&& 63).toInt64.toUInt64).toInt64))]) (rest := []) (lenOf pd_20 rfl) rfl (by show 2 * 0 + _ ≤ _; exact Nat.le_of_eq rfl) (hb hby at_19) (fun _ _ => ⟨rfl, eq590, (by decide : 0 + 0 ≤ _), (by decide : 0 + 0 ≤ _)⟩)
  dsimp only [Pt.U, Pt.locs, Pt.cells, Pt.slots] at X592 l592 y592 z592 st592 hQ592
  subst l592 y592 z592
  obtain ⟨rfl, Nq592, eq592⟩ := hQ592
  have N592 := Fr.app N590 Nq592
  have go592 : Goes p e below s₁ (G_rm0 m q1 q2 p3) T592 (mkF m 22 #[vJ q1, sD, vJ q2, sD, vI p3, vI xa, vI xb, uN, uN, uN, uN, uN, uN, uN, uN, uN, uN, uN] [(.int (drv ((q1.toUInt64 >>> ((36 : Int32) &&& 63).toInt64.toUInt64).toInt64)))]) := fun tq kq => go591 tq (st592 _ kq)
  obtain ⟨xc, h_xc⟩ : ∃ z, z = (drv ((q1.toUInt64 >>> ((36 : Int32) &&& 63).toInt64.toUInt64).toInt64)) := ⟨_, rfl⟩
  rw [← h_xc] at go592
  have k_xc : C16 xc := by rw [h_xc]; exact own_dr _
  clear h_xc
  have go593 : Goes p e below s₁ (G_rm0 m q1 q2 p3) T592 (mkF m 35 #[vJ q1, sD, vJ q2, sD, vI p3, vI xa, vI xb, vI xc, vI (((((q1.toUInt64 >>> ((54 : Int32) &&& 63).toInt64.toUInt64).toInt64) &&& (3 : Int64))).toInt32), uN, uN, uN, uN, uN, uN, uN, uN, uN] []) := fun tq kq => go592 tq (by
    show Sx p e below T592 (mkF m 22 #[vJ q1, sD, vJ q2, sD, vI p3, vI xa, vI xb, uN, uN, uN, uN, uN, uN, uN, uN, uN, uN, uN] [(.int xc)]) _
    refine XS.istore X592.here hx rfl (hb hby at_22) rfl (l' := #[vJ q1, sD, vJ q2, sD, vI p3, vI xa, vI xb, vI xc, uN, uN, uN, uN, uN, uN, uN, uN, uN, uN]) rfl ?_
    show Sx p e below T592 (mkF m 24 #[vJ q1, sD, vJ q2, sD, vI p3, vI xa, vI xb, vI xc, uN, uN, uN, uN, uN, uN, uN, uN, uN, uN] []) _
    refine XS.lloadN X592.here hx rfl (hb hby at_24) rfl ?_
    refine XS.bipush X592.here hx rfl (hb hby at_25) ?_
    show Sx p e below T592 (mkF m 27 #[vJ q1, sD, vJ q2, sD, vI p3, vI xa, vI xb, vI xc, uN, uN, uN, uN, uN, uN, uN, uN, uN, uN] [(.int (54 : Int32)), (.long q1)]) _
    refine XS.lushr X592.here hx rfl (hb hby at_27) rfl ?_
    refine X592.ldc2Long hx hown (mvT hZ (tw4 hw)) (g := (mkF m 28 #[vJ q1, sD, vJ q2, sD, vI p3, vI xa, vI xb, vI xc, uN, uN, uN, uN, uN, uN, uN, uN, uN, uN] [(.long ((q1.toUInt64 >>> ((54 : Int32) &&& 63).toInt64.toUInt64).toInt64))])) rfl (hb hby at_28) _ ?_
    show Sx p e below T592 (mkF m 31 #[vJ q1, sD, vJ q2, sD, vI p3, vI xa, vI xb, vI xc, uN, uN, uN, uN, uN, uN, uN, uN, uN, uN] [(.long (3 : Int64)), (.long ((q1.toUInt64 >>> ((54 : Int32) &&& 63).toInt64.toUInt64).toInt64))]) _
    refine XS.land X592.here hx rfl (hb hby at_31) rfl ?_
    refine XS.l2i X592.here hx rfl (hb hby at_32) rfl ?_
    show Sx p e below T592 (mkF m 33 #[vJ q1, sD, vJ q2, sD, vI p3, vI xa, vI xb, vI xc, uN, uN, uN, uN, uN, uN, uN, uN, uN, uN] [(.int (((((q1.toUInt64 >>> ((54 : Int32) &&& 63).toInt64.toUInt64).toInt64) &&& (3 : Int64))).toInt32))]) _
    refine XS.istore X592.here hx rfl (hb hby at_33) rfl (l' := #[vJ q1, sD, vJ q2, sD, vI p3, vI xa, vI xb, vI xc, vI (((((q1.toUInt64 >>> ((54 : Int32) &&& 63).toInt64.toUInt64).toInt64) &&& (3 : Int64))).toInt32), uN, uN, uN, uN, uN, uN, uN, uN, uN]) rfl ?_
    exact kq)
  obtain ⟨la, h_la⟩ : ∃ z, z = (((((q1.toUInt64 >>> ((54 : Int32) &&& 63).toInt64.toUInt64).toInt64) &&& (3 : Int64))).toInt32) := ⟨_, rfl⟩
  rw [← h_la] at go593
  have qa : Q4 la := by rw [h_la]; exact own_q4l _
  clear h_la
  have go594 : Goes p e below s₁ (G_rm0 m q1 q2 p3) T592 (mkF m 36 #[vJ q1, sD, vJ q2, sD, vI p3, vI xa, vI xb, vI xc, vI la, uN, uN, uN, uN, uN, uN, uN, uN, uN] [(.long q2)]) := fun tq kq => go593 tq (by
    show Sx p e below T592 (mkF m 35 #[vJ q1, sD, vJ q2, sD, vI p3, vI xa, vI xb, vI xc, vI la, uN, uN, uN, uN, uN, uN, uN, uN, uN] []) _
    refine XS.lloadN X592.here hx rfl (hb hby at_35) rfl ?_
    exact kq)
  obtain ⟨vv595, _, ⟨T595, L595, k595, n595⟩, -, X595, ⟨Lc595, hQ595, l595, y595, z595⟩, st595⟩ := Jvm.LawKit.callS X592 hx (y := (⟨"com/example/nuthatch/nuthatch/util/TextCompareCodePointsPinLaw", "draw", "(J)C"⟩ : MethodName)) hown (mvT hZ (tw0 hw)) (mvT hZ (tw1 hw)) (mvT hZ (tw2 hw)) (mvT hZ (tw3 hw)) (by decide) (backOf (W := 0) (rmDr l Z a0 hw [] q2  h0 n0 Z0 ) hZ (tw3 hw) (tw2 hw) (by decide) (by decide)) (g := (mkF m 36 #[vJ q1, sD, vJ q2, sD, vI p3, vI xa, vI xb, vI xc, vI la, uN, uN, uN, uN, uN, uN, uN, uN, uN] [(.long q2)])) rfl (by rw [hml]; rfl) (argsL := [(.long q2)]) (rest := []) (lenOf pd_20 rfl) rfl (by show 2 * 0 + _ ≤ _; exact Nat.le_of_eq rfl) (hb hby at_36) (fun _ _ => ⟨rfl, eq592, (by decide : 0 + 0 ≤ _), (by decide : 0 + 0 ≤ _)⟩)
  dsimp only [Pt.U, Pt.locs, Pt.cells, Pt.slots] at X595 l595 y595 z595 st595 hQ595
  subst l595 y595 z595
  obtain ⟨rfl, Nq595, eq595⟩ := hQ595
  have N595 := Fr.app N592 Nq595
  have go595 : Goes p e below s₁ (G_rm0 m q1 q2 p3) T595 (mkF m 39 #[vJ q1, sD, vJ q2, sD, vI p3, vI xa, vI xb, vI xc, vI la, uN, uN, uN, uN, uN, uN, uN, uN, uN] [(.int (drv q2))]) := fun tq kq => go594 tq (st595 _ kq)
  obtain ⟨ya, h_ya⟩ : ∃ z, z = (drv q2) := ⟨_, rfl⟩
  rw [← h_ya] at go595
  have k_ya : C16 ya := by rw [h_ya]; exact own_dr _
  clear h_ya
  have go596 : Goes p e below s₁ (G_rm0 m q1 q2 p3) T595 (mkF m 45 #[vJ q1, sD, vJ q2, sD, vI p3, vI xa, vI xb, vI xc, vI la, vI ya, uN, uN, uN, uN, uN, uN, uN, uN] [(.long ((q2.toUInt64 >>> ((18 : Int32) &&& 63).toInt64.toUInt64).toInt64))]) := fun tq kq => go595 tq (by
    show Sx p e below T595 (mkF m 39 #[vJ q1, sD, vJ q2, sD, vI p3, vI xa, vI xb, vI xc, vI la, uN, uN, uN, uN, uN, uN, uN, uN, uN] [(.int ya)]) _
    refine XS.istore X595.here hx rfl (hb hby at_39) rfl (l' := #[vJ q1, sD, vJ q2, sD, vI p3, vI xa, vI xb, vI xc, vI la, vI ya, uN, uN, uN, uN, uN, uN, uN, uN]) rfl ?_
    refine XS.lloadN X595.here hx rfl (hb hby at_41) rfl ?_
    show Sx p e below T595 (mkF m 42 #[vJ q1, sD, vJ q2, sD, vI p3, vI xa, vI xb, vI xc, vI la, vI ya, uN, uN, uN, uN, uN, uN, uN, uN] [(.long q2)]) _
    refine XS.bipush X595.here hx rfl (hb hby at_42) ?_
    refine XS.lushr X595.here hx rfl (hb hby at_44) rfl ?_
    exact kq)
  obtain ⟨vv597, _, ⟨T597, L597, k597, n597⟩, -, X597, ⟨Lc597, hQ597, l597, y597, z597⟩, st597⟩ := Jvm.LawKit.callS X595 hx (y := (⟨"com/example/nuthatch/nuthatch/util/TextCompareCodePointsPinLaw", "draw", "(J)C"⟩ : MethodName)) hown (mvT hZ (tw0 hw)) (mvT hZ (tw1 hw)) (mvT hZ (tw2 hw)) (mvT hZ (tw3 hw)) (by decide) (backOf (W := 0) (rmDr l Z a0 hw [] ((q2.toUInt64 >>> ((18 : Int32) &&& 63).toInt64.toUInt64).toInt64)  h0 n0 Z0 ) hZ (tw3 hw) (tw2 hw) (by decide) (by decide)) (g := (mkF m 45 #[vJ q1, sD, vJ q2, sD, vI p3, vI xa, vI xb, vI xc, vI la, vI ya, uN, uN, uN, uN, uN, uN, uN, uN] [(.long ((q2.toUInt64 >>> ((18 : Int32) &&& 63).toInt64.toUInt64).toInt64))])) rfl (by rw [hml]; rfl) (argsL := [(.long ((q2.toUInt64 >>> ((18 : Int32) &&& 63).toInt64.toUInt64).toInt64))]) (rest := []) (lenOf pd_20 rfl) rfl (by show 2 * 0 + _ ≤ _; exact Nat.le_of_eq rfl) (hb hby at_45) (fun _ _ => ⟨rfl, eq595, (by decide : 0 + 0 ≤ _), (by decide : 0 + 0 ≤ _)⟩)
  dsimp only [Pt.U, Pt.locs, Pt.cells, Pt.slots] at X597 l597 y597 z597 st597 hQ597
  subst l597 y597 z597
  obtain ⟨rfl, Nq597, eq597⟩ := hQ597
  have N597 := Fr.app N595 Nq597
  have go597 : Goes p e below s₁ (G_rm0 m q1 q2 p3) T597 (mkF m 48 #[vJ q1, sD, vJ q2, sD, vI p3, vI xa, vI xb, vI xc, vI la, vI ya, uN, uN, uN, uN, uN, uN, uN, uN] [(.int (drv ((q2.toUInt64 >>> ((18 : Int32) &&& 63).toInt64.toUInt64).toInt64)))]) := fun tq kq => go596 tq (st597 _ kq)
  obtain ⟨yb, h_yb⟩ : ∃ z, z = (drv ((q2.toUInt64 >>> ((18 : Int32) &&& 63).toInt64.toUInt64).toInt64)) := ⟨_, rfl⟩
  rw [← h_yb] at go597
  have k_yb : C16 yb := by rw [h_yb]; exact own_dr _
  clear h_yb
  have go598 : Goes p e below s₁ (G_rm0 m q1 q2 p3) T597 (mkF m 54 #[vJ q1, sD, vJ q2, sD, vI p3, vI xa, vI xb, vI xc, vI la, vI ya, vI yb, uN, uN, uN, uN, uN, uN, uN] [(.long ((q2.toUInt64 >>> ((36 : Int32) &&& 63).toInt64.toUInt64).toInt64))]) := fun tq kq => go597 tq (by
    show Sx p e below T597 (mkF m 48 #[vJ q1, sD, vJ q2, sD, vI p3, vI xa, vI xb, vI xc, vI la, vI ya, uN, uN, uN, uN, uN, uN, uN, uN] [(.int yb)]) _
    refine XS.istore X597.here hx rfl (hb hby at_48) rfl (l' := #[vJ q1, sD, vJ q2, sD, vI p3, vI xa, vI xb, vI xc, vI la, vI ya, vI yb, uN, uN, uN, uN, uN, uN, uN]) rfl ?_
    refine XS.lloadN X597.here hx rfl (hb hby at_50) rfl ?_
    show Sx p e below T597 (mkF m 51 #[vJ q1, sD, vJ q2, sD, vI p3, vI xa, vI xb, vI xc, vI la, vI ya, vI yb, uN, uN, uN, uN, uN, uN, uN] [(.long q2)]) _
    refine XS.bipush X597.here hx rfl (hb hby at_51) ?_
    refine XS.lushr X597.here hx rfl (hb hby at_53) rfl ?_
    exact kq)
  obtain ⟨vv599, _, ⟨T599, L599, k599, n599⟩, -, X599, ⟨Lc599, hQ599, l599, y599, z599⟩, st599⟩ := Jvm.LawKit.callS X597 hx (y := (⟨"com/example/nuthatch/nuthatch/util/TextCompareCodePointsPinLaw", "draw", "(J)C"⟩ : MethodName)) hown (mvT hZ (tw0 hw)) (mvT hZ (tw1 hw)) (mvT hZ (tw2 hw)) (mvT hZ (tw3 hw)) (by decide) (backOf (W := 0) (rmDr l Z a0 hw [] ((q2.toUInt64 >>> ((36 : Int32) &&& 63).toInt64.toUInt64).toInt64)  h0 n0 Z0 ) hZ (tw3 hw) (tw2 hw) (by decide) (by decide)) (g := (mkF m 54 #[vJ q1, sD, vJ q2, sD, vI p3, vI xa, vI xb, vI xc, vI la, vI ya, vI yb, uN, uN, uN, uN, uN, uN, uN] [(.long ((q2.toUInt64 >>> ((36 : Int32) &&& 63).toInt64.toUInt64).toInt64))])) rfl (by rw [hml]; rfl) (argsL := [(.long ((q2.toUInt64 >>> ((36 : Int32) &&& 63).toInt64.toUInt64).toInt64))]) (rest := []) (lenOf pd_20 rfl) rfl (by show 2 * 0 + _ ≤ _; exact Nat.le_of_eq rfl) (hb hby at_54) (fun _ _ => ⟨rfl, eq597, (by decide : 0 + 0 ≤ _), (by decide : 0 + 0 ≤ _)⟩)
  dsimp only [Pt.U, Pt.locs, Pt.cells, Pt.slots] at X599 l599 y599 z599 st599 hQ599
  subst l599 y599 z599
  obtain ⟨rfl, Nq599, eq599⟩ := hQ599
  have N599 := Fr.app N597 Nq599
  have go599 : Goes p e below s₁ (G_rm0 m q1 q2 p3) T599 (mkF m 57 #[vJ q1, sD, vJ q2, sD, vI p3, vI xa, vI xb, vI xc, vI la, vI ya, vI yb, uN, uN, uN, uN, uN, uN, uN] [(.int (drv ((q2.toUInt64 >>> ((36 : Int32) &&& 63).toInt64.toUInt64).toInt64)))]) := fun tq kq => go598 tq (st599 _ kq)
  obtain ⟨yc, h_yc⟩ : ∃ z, z = (drv ((q2.toUInt64 >>> ((36 : Int32) &&& 63).toInt64.toUInt64).toInt64)) := ⟨_, rfl⟩
  rw [← h_yc] at go599
  have k_yc : C16 yc := by rw [h_yc]; exact own_dr _
  clear h_yc
  have go600 : Goes p e below s₁ (G_rm0 m q1 q2 p3) T599 (mkF m 70 #[vJ q1, sD, vJ q2, sD, vI p3, vI xa, vI xb, vI xc, vI la, vI ya, vI yb, vI yc, vI (((((q2.toUInt64 >>> ((54 : Int32) &&& 63).toInt64.toUInt64).toInt64) &&& (3 : Int64))).toInt32), uN, uN, uN, uN, uN] []) := fun tq kq => go599 tq (by
    show Sx p e below T599 (mkF m 57 #[vJ q1, sD, vJ q2, sD, vI p3, vI xa, vI xb, vI xc, vI la, vI ya, vI yb, uN, uN, uN, uN, uN, uN, uN] [(.int yc)]) _
    refine XS.istore X599.here hx rfl (hb hby at_57) rfl (l' := #[vJ q1, sD, vJ q2, sD, vI p3, vI xa, vI xb, vI xc, vI la, vI ya, vI yb, vI yc, uN, uN, uN, uN, uN, uN]) rfl ?_
    refine XS.lloadN X599.here hx rfl (hb hby at_59) rfl ?_
    show Sx p e below T599 (mkF m 60 #[vJ q1, sD, vJ q2, sD, vI p3, vI xa, vI xb, vI xc, vI la, vI ya, vI yb, vI yc, uN, uN, uN, uN, uN, uN] [(.long q2)]) _
    refine XS.bipush X599.here hx rfl (hb hby at_60) ?_
    refine XS.lushr X599.here hx rfl (hb hby at_62) rfl ?_
    show Sx p e below T599 (mkF m 63 #[vJ q1, sD, vJ q2, sD, vI p3, vI xa, vI xb, vI xc, vI la, vI ya, vI yb, vI yc, uN, uN, uN, uN, uN, uN] [(.long ((q2.toUInt64 >>> ((54 : Int32) &&& 63).toInt64.toUInt64).toInt64))]) _
    refine X599.ldc2Long hx hown (mvT hZ (tw4 hw)) (g := (mkF m 63 #[vJ q1, sD, vJ q2, sD, vI p3, vI xa, vI xb, vI xc, vI la, vI ya, vI yb, vI yc, uN, uN, uN, uN, uN, uN] [(.long ((q2.toUInt64 >>> ((54 : Int32) &&& 63).toInt64.toUInt64).toInt64))])) rfl (hb hby at_63) _ ?_
    refine XS.land X599.here hx rfl (hb hby at_66) rfl ?_
    show Sx p e below T599 (mkF m 67 #[vJ q1, sD, vJ q2, sD, vI p3, vI xa, vI xb, vI xc, vI la, vI ya, vI yb, vI yc, uN, uN, uN, uN, uN, uN] [(.long (((q2.toUInt64 >>> ((54 : Int32) &&& 63).toInt64.toUInt64).toInt64) &&& (3 : Int64)))]) _
    refine XS.l2i X599.here hx rfl (hb hby at_67) rfl ?_
    refine XS.istore X599.here hx rfl (hb hby at_68) rfl (l' := #[vJ q1, sD, vJ q2, sD, vI p3, vI xa, vI xb, vI xc, vI la, vI ya, vI yb, vI yc, vI (((((q2.toUInt64 >>> ((54 : Int32) &&& 63).toInt64.toUInt64).toInt64) &&& (3 : Int64))).toInt32), uN, uN, uN, uN, uN]) rfl ?_
    exact kq)
  obtain ⟨lb, h_lb⟩ : ∃ z, z = (((((q2.toUInt64 >>> ((54 : Int32) &&& 63).toInt64.toUInt64).toInt64) &&& (3 : Int64))).toInt32) := ⟨_, rfl⟩
  rw [← h_lb] at go600
  have qb : Q4 lb := by rw [h_lb]; exact own_q4l _
  clear h_lb
  have go601 : Goes p e below s₁ (G_rm0 m q1 q2 p3) T599 (mkF m 79 #[vJ q1, sD, vJ q2, sD, vI p3, vI xa, vI xb, vI xc, vI la, vI ya, vI yb, vI yc, vI lb, vI (p3 &&& (3 : Int32)), uN, uN, uN, uN] [(.int (1 : Int32)), (.int (p3 &&& (3 : Int32)))]) := fun tq kq => go600 tq (by
    show Sx p e below T599 (mkF m 70 #[vJ q1, sD, vJ q2, sD, vI p3, vI xa, vI xb, vI xc, vI la, vI ya, vI yb, vI yc, vI lb, uN, uN, uN, uN, uN] []) _
    refine XS.iload X599.here hx rfl (hb hby at_70) rfl ?_
    refine XS.iconst X599.here hx rfl (hb hby at_72) ?_
    show Sx p e below T599 (mkF m 73 #[vJ q1, sD, vJ q2, sD, vI p3, vI xa, vI xb, vI xc, vI la, vI ya, vI yb, vI yc, vI lb, uN, uN, uN, uN, uN] [(.int (3 : Int32)), (.int p3)]) _
    refine XS.iand X599.here hx rfl (hb hby at_73) rfl ?_
    refine XS.istore X599.here hx rfl (hb hby at_74) rfl (l' := #[vJ q1, sD, vJ q2, sD, vI p3, vI xa, vI xb, vI xc, vI la, vI ya, vI yb, vI yc, vI lb, vI (p3 &&& (3 : Int32)), uN, uN, uN, uN]) rfl ?_
    show Sx p e below T599 (mkF m 76 #[vJ q1, sD, vJ q2, sD, vI p3, vI xa, vI xb, vI xc, vI la, vI ya, vI yb, vI yc, vI lb, vI (p3 &&& (3 : Int32)), uN, uN, uN, uN] []) _
    refine XS.iload X599.here hx rfl (hb hby at_76) rfl ?_
    refine XS.iconst X599.here hx rfl (hb hby at_78) ?_
    exact kq)
  obtain ⟨za, hx605, go605⟩ : ∃ za : Int32, C16 za ∧ Goes p e below s₁ (G_rm0 m q1 q2 p3) T599 (mkF m 86 #[vJ q1, sD, vJ q2, sD, vI p3, vI xa, vI xb, vI xc, vI la, vI za, vI yb, vI yc, vI lb, vI (p3 &&& (3 : Int32)), uN, uN, uN, uN] []) := by
    by_cases hc79_602 : (p3 &&& (3 : Int32)) < (1 : Int32)
    · have go603 : Goes p e below s₁ (G_rm0 m q1 q2 p3) T599 (mkF m 86 #[vJ q1, sD, vJ q2, sD, vI p3, vI xa, vI xb, vI xc, vI la, vI ya, vI yb, vI yc, vI lb, vI (p3 &&& (3 : Int32)), uN, uN, uN, uN] []) := fun tq kq => go601 tq (by
        show Sx p e below T599 (mkF m 79 #[vJ q1, sD, vJ q2, sD, vI p3, vI xa, vI xb, vI xc, vI la, vI ya, vI yb, vI yc, vI lb, vI (p3 &&& (3 : Int32)), uN, uN, uN, uN] [(.int (1 : Int32)), (.int (p3 &&& (3 : Int32)))]) _
        refine XS.icmpYes X599.here hx rfl (pc0 := 79) (pc' := 86) rfl (hb hby at_79) rfl (tlt hc79_602).1 (by decide) (by decide) ?_
        exact kq)
      exact ⟨ya, k_ya, go603⟩
    · have go604 : Goes p e below s₁ (G_rm0 m q1 q2 p3) T599 (mkF m 86 #[vJ q1, sD, vJ q2, sD, vI p3, vI xa, vI xb, vI xc, vI la, vI xa, vI yb, vI yc, vI lb, vI (p3 &&& (3 : Int32)), uN, uN, uN, uN] []) := fun tq kq => go601 tq (by
        show Sx p e below T599 (mkF m 79 #[vJ q1, sD, vJ q2, sD, vI p3, vI xa, vI xb, vI xc, vI la, vI ya, vI yb, vI yc, vI lb, vI (p3 &&& (3 : Int32)), uN, uN, uN, uN] [(.int (1 : Int32)), (.int (p3 &&& (3 : Int32)))]) _
        refine XS.icmpNo X599.here hx rfl (hb hby at_79) rfl (flt hc79_602).1 ?_
        refine XS.iload X599.here hx rfl (hb hby at_82) rfl ?_
        show Sx p e below T599 (mkF m 84 #[vJ q1, sD, vJ q2, sD, vI p3, vI xa, vI xb, vI xc, vI la, vI ya, vI yb, vI yc, vI lb, vI (p3 &&& (3 : Int32)), uN, uN, uN, uN] [(.int xa)]) _
        refine XS.istore X599.here hx rfl (hb hby at_84) rfl (l' := #[vJ q1, sD, vJ q2, sD, vI p3, vI xa, vI xb, vI xc, vI la, vI xa, vI yb, vI yc, vI lb, vI (p3 &&& (3 : Int32)), uN, uN, uN, uN]) rfl ?_
        exact kq)
      exact ⟨xa, k_xa, go604⟩
  have k_za := hx605
  have go606 : Goes p e below s₁ (G_rm0 m q1 q2 p3) T599 (mkF m 89 #[vJ q1, sD, vJ q2, sD, vI p3, vI xa, vI xb, vI xc, vI la, vI za, vI yb, vI yc, vI lb, vI (p3 &&& (3 : Int32)), uN, uN, uN, uN] [(.int (2 : Int32)), (.int (p3 &&& (3 : Int32)))]) := fun tq kq => go605 tq (by
    show Sx p e below T599 (mkF m 86 #[vJ q1, sD, vJ q2, sD, vI p3, vI xa, vI xb, vI xc, vI la, vI za, vI yb, vI yc, vI lb, vI (p3 &&& (3 : Int32)), uN, uN, uN, uN] []) _
    refine XS.iload X599.here hx rfl (hb hby at_86) rfl ?_
    refine XS.iconst X599.here hx rfl (hb hby at_88) ?_
    exact kq)
  obtain ⟨zb, hx610, go610⟩ : ∃ zb : Int32, C16 zb ∧ Goes p e below s₁ (G_rm0 m q1 q2 p3) T599 (mkF m 96 #[vJ q1, sD, vJ q2, sD, vI p3, vI xa, vI xb, vI xc, vI la, vI za, vI zb, vI yc, vI lb, vI (p3 &&& (3 : Int32)), uN, uN, uN, uN] []) := by
    by_cases hc89_607 : (p3 &&& (3 : Int32)) < (2 : Int32)
    · have go608 : Goes p e below s₁ (G_rm0 m q1 q2 p3) T599 (mkF m 96 #[vJ q1, sD, vJ q2, sD, vI p3, vI xa, vI xb, vI xc, vI la, vI za, vI yb, vI yc, vI lb, vI (p3 &&& (3 : Int32)), uN, uN, uN, uN] []) := fun tq kq => go606 tq (by
        show Sx p e below T599 (mkF m 89 #[vJ q1, sD, vJ q2, sD, vI p3, vI xa, vI xb, vI xc, vI la, vI za, vI yb, vI yc, vI lb, vI (p3 &&& (3 : Int32)), uN, uN, uN, uN] [(.int (2 : Int32)), (.int (p3 &&& (3 : Int32)))]) _
        refine XS.icmpYes X599.here hx rfl (pc0 := 89) (pc' := 96) rfl (hb hby at_89) rfl (tlt hc89_607).1 (by decide) (by decide) ?_
        exact kq)
      exact ⟨yb, k_yb, go608⟩
    · have go609 : Goes p e below s₁ (G_rm0 m q1 q2 p3) T599 (mkF m 96 #[vJ q1, sD, vJ q2, sD, vI p3, vI xa, vI xb, vI xc, vI la, vI za, vI xb, vI yc, vI lb, vI (p3 &&& (3 : Int32)), uN, uN, uN, uN] []) := fun tq kq => go606 tq (by
        show Sx p e below T599 (mkF m 89 #[vJ q1, sD, vJ q2, sD, vI p3, vI xa, vI xb, vI xc, vI la, vI za, vI yb, vI yc, vI lb, vI (p3 &&& (3 : Int32)), uN, uN, uN, uN] [(.int (2 : Int32)), (.int (p3 &&& (3 : Int32)))]) _
        refine XS.icmpNo X599.here hx rfl (hb hby at_89) rfl (flt hc89_607).1 ?_
        refine XS.iload X599.here hx rfl (hb hby at_92) rfl ?_
        show Sx p e below T599 (mkF m 94 #[vJ q1, sD, vJ q2, sD, vI p3, vI xa, vI xb, vI xc, vI la, vI za, vI yb, vI yc, vI lb, vI (p3 &&& (3 : Int32)), uN, uN, uN, uN] [(.int xb)]) _
        refine XS.istore X599.here hx rfl (hb hby at_94) rfl (l' := #[vJ q1, sD, vJ q2, sD, vI p3, vI xa, vI xb, vI xc, vI la, vI za, vI xb, vI yc, vI lb, vI (p3 &&& (3 : Int32)), uN, uN, uN, uN]) rfl ?_
        exact kq)
      exact ⟨xb, k_xb, go609⟩
  have k_zb := hx610
  have go611 : Goes p e below s₁ (G_rm0 m q1 q2 p3) T599 (mkF m 99 #[vJ q1, sD, vJ q2, sD, vI p3, vI xa, vI xb, vI xc, vI la, vI za, vI zb, vI yc, vI lb, vI (p3 &&& (3 : Int32)), uN, uN, uN, uN] [(.int (3 : Int32)), (.int (p3 &&& (3 : Int32)))]) := fun tq kq => go610 tq (by
    show Sx p e below T599 (mkF m 96 #[vJ q1, sD, vJ q2, sD, vI p3, vI xa, vI xb, vI xc, vI la, vI za, vI zb, vI yc, vI lb, vI (p3 &&& (3 : Int32)), uN, uN, uN, uN] []) _
    refine XS.iload X599.here hx rfl (hb hby at_96) rfl ?_
    refine XS.iconst X599.here hx rfl (hb hby at_98) ?_
    exact kq)
  obtain ⟨zc, hx615, go615⟩ : ∃ zc : Int32, C16 zc ∧ Goes p e below s₁ (G_rm0 m q1 q2 p3) T599 (mkF m 106 #[vJ q1, sD, vJ q2, sD, vI p3, vI xa, vI xb, vI xc, vI la, vI za, vI zb, vI zc, vI lb, vI (p3 &&& (3 : Int32)), uN, uN, uN, uN] []) := by
    by_cases hc99_612 : (p3 &&& (3 : Int32)) < (3 : Int32)
    · have go613 : Goes p e below s₁ (G_rm0 m q1 q2 p3) T599 (mkF m 106 #[vJ q1, sD, vJ q2, sD, vI p3, vI xa, vI xb, vI xc, vI la, vI za, vI zb, vI yc, vI lb, vI (p3 &&& (3 : Int32)), uN, uN, uN, uN] []) := fun tq kq => go611 tq (by
        show Sx p e below T599 (mkF m 99 #[vJ q1, sD, vJ q2, sD, vI p3, vI xa, vI xb, vI xc, vI la, vI za, vI zb, vI yc, vI lb, vI (p3 &&& (3 : Int32)), uN, uN, uN, uN] [(.int (3 : Int32)), (.int (p3 &&& (3 : Int32)))]) _
        refine XS.icmpYes X599.here hx rfl (pc0 := 99) (pc' := 106) rfl (hb hby at_99) rfl (tlt hc99_612).1 (by decide) (by decide) ?_
        exact kq)
      exact ⟨yc, k_yc, go613⟩
    · have go614 : Goes p e below s₁ (G_rm0 m q1 q2 p3) T599 (mkF m 106 #[vJ q1, sD, vJ q2, sD, vI p3, vI xa, vI xb, vI xc, vI la, vI za, vI zb, vI xc, vI lb, vI (p3 &&& (3 : Int32)), uN, uN, uN, uN] []) := fun tq kq => go611 tq (by
        show Sx p e below T599 (mkF m 99 #[vJ q1, sD, vJ q2, sD, vI p3, vI xa, vI xb, vI xc, vI la, vI za, vI zb, vI yc, vI lb, vI (p3 &&& (3 : Int32)), uN, uN, uN, uN] [(.int (3 : Int32)), (.int (p3 &&& (3 : Int32)))]) _
        refine XS.icmpNo X599.here hx rfl (hb hby at_99) rfl (flt hc99_612).1 ?_
        refine XS.iload X599.here hx rfl (hb hby at_102) rfl ?_
        show Sx p e below T599 (mkF m 104 #[vJ q1, sD, vJ q2, sD, vI p3, vI xa, vI xb, vI xc, vI la, vI za, vI zb, vI yc, vI lb, vI (p3 &&& (3 : Int32)), uN, uN, uN, uN] [(.int xc)]) _
        refine XS.istore X599.here hx rfl (hb hby at_104) rfl (l' := #[vJ q1, sD, vJ q2, sD, vI p3, vI xa, vI xb, vI xc, vI la, vI za, vI zb, vI xc, vI lb, vI (p3 &&& (3 : Int32)), uN, uN, uN, uN]) rfl ?_
        exact kq)
      exact ⟨xc, k_xc, go614⟩
  have k_zc := hx615
  have go616 : Goes p e below s₁ (G_rm0 m q1 q2 p3) T599 (mkF m 110 #[vJ q1, sD, vJ q2, sD, vI p3, vI xa, vI xb, vI xc, vI la, vI za, vI zb, vI zc, vI lb, vI (p3 &&& (3 : Int32)), uN, uN, uN, uN] [(.int (p3 &&& (4 : Int32)))]) := fun tq kq => go615 tq (by
    show Sx p e below T599 (mkF m 106 #[vJ q1, sD, vJ q2, sD, vI p3, vI xa, vI xb, vI xc, vI la, vI za, vI zb, vI zc, vI lb, vI (p3 &&& (3 : Int32)), uN, uN, uN, uN] []) _
    refine XS.iload X599.here hx rfl (hb hby at_106) rfl ?_
    refine XS.iconst X599.here hx rfl (hb hby at_108) ?_
    show Sx p e below T599 (mkF m 109 #[vJ q1, sD, vJ q2, sD, vI p3, vI xa, vI xb, vI xc, vI la, vI za, vI zb, vI zc, vI lb, vI (p3 &&& (3 : Int32)), uN, uN, uN, uN] [(.int (4 : Int32)), (.int p3)]) _
    refine XS.iand X599.here hx rfl (hb hby at_109) rfl ?_
    exact kq)
  obtain ⟨lc, hx620, go620⟩ : ∃ lc : Int32, Q4 lc ∧ Goes p e below s₁ (G_rm0 m q1 q2 p3) T599 (mkF m 117 #[vJ q1, sD, vJ q2, sD, vI p3, vI xa, vI xb, vI xc, vI la, vI za, vI zb, vI zc, vI lc, vI (p3 &&& (3 : Int32)), uN, uN, uN, uN] []) := by
    by_cases hc110_617 : (p3 &&& (4 : Int32)) = (0 : Int32)
    · have go618 : Goes p e below s₁ (G_rm0 m q1 q2 p3) T599 (mkF m 117 #[vJ q1, sD, vJ q2, sD, vI p3, vI xa, vI xb, vI xc, vI la, vI za, vI zb, vI zc, vI lb, vI (p3 &&& (3 : Int32)), uN, uN, uN, uN] []) := fun tq kq => go616 tq (by
        show Sx p e below T599 (mkF m 110 #[vJ q1, sD, vJ q2, sD, vI p3, vI xa, vI xb, vI xc, vI la, vI za, vI zb, vI zc, vI lb, vI (p3 &&& (3 : Int32)), uN, uN, uN, uN] [(.int (p3 &&& (4 : Int32)))]) _
        refine XS.ifYes X599.here hx rfl (pc0 := 110) (pc' := 117) rfl (hb hby at_110) rfl ((if0 _ _).trans (teq hc110_617).1) (by decide) (by decide) ?_
        exact kq)
      exact ⟨lb, qb, go618⟩
    · have go619 : Goes p e below s₁ (G_rm0 m q1 q2 p3) T599 (mkF m 117 #[vJ q1, sD, vJ q2, sD, vI p3, vI xa, vI xb, vI xc, vI la, vI za, vI zb, vI zc, vI la, vI (p3 &&& (3 : Int32)), uN, uN, uN, uN] []) := fun tq kq => go616 tq (by
        show Sx p e below T599 (mkF m 110 #[vJ q1, sD, vJ q2, sD, vI p3, vI xa, vI xb, vI xc, vI la, vI za, vI zb, vI zc, vI lb, vI (p3 &&& (3 : Int32)), uN, uN, uN, uN] [(.int (p3 &&& (4 : Int32)))]) _
        refine XS.ifNo X599.here hx rfl (hb hby at_110) rfl ((if0 _ _).trans (feq hc110_617).1) ?_
        show Sx p e below T599 (mkF m 113 #[vJ q1, sD, vJ q2, sD, vI p3, vI xa, vI xb, vI xc, vI la, vI za, vI zb, vI zc, vI lb, vI (p3 &&& (3 : Int32)), uN, uN, uN, uN] []) _
        refine XS.iload X599.here hx rfl (hb hby at_113) rfl ?_
        refine XS.istore X599.here hx rfl (hb hby at_115) rfl (l' := #[vJ q1, sD, vJ q2, sD, vI p3, vI xa, vI xb, vI xc, vI la, vI za, vI zb, vI zc, vI la, vI (p3 &&& (3 : Int32)), uN, uN, uN, uN]) rfl ?_
        exact kq)
      exact ⟨la, qa, go619⟩
  have go621 : Goes p e below s₁ (G_rm0 m q1 q2 p3) T599 (mkF m 125 #[vJ q1, sD, vJ q2, sD, vI p3, vI xa, vI xb, vI xc, vI la, vI za, vI zb, vI zc, vI lc, vI (p3 &&& (3 : Int32)), uN, uN, uN, uN] [(.int la), (.int xc), (.int xb), (.int xa)]) := fun tq kq => go620 tq (by
    show Sx p e below T599 (mkF m 117 #[vJ q1, sD, vJ q2, sD, vI p3, vI xa, vI xb, vI xc, vI la, vI za, vI zb, vI zc, vI lc, vI (p3 &&& (3 : Int32)), uN, uN, uN, uN] []) _
    refine XS.iload X599.here hx rfl (hb hby at_117) rfl ?_
    show Sx p e below T599 (mkF m 119 #[vJ q1, sD, vJ q2, sD, vI p3, vI xa, vI xb, vI xc, vI la, vI za, vI zb, vI zc, vI lc, vI (p3 &&& (3 : Int32)), uN, uN, uN, uN] [(.int xa)]) _
    refine XS.iload X599.here hx rfl (hb hby at_119) rfl ?_
    refine XS.iload X599.here hx rfl (hb hby at_121) rfl ?_
    show Sx p e below T599 (mkF m 123 #[vJ q1, sD, vJ q2, sD, vI p3, vI xa, vI xb, vI xc, vI la, vI za, vI zb, vI zc, vI lc, vI (p3 &&& (3 : Int32)), uN, uN, uN, uN] [(.int xc), (.int xb), (.int xa)]) _
    refine XS.iload X599.here hx rfl (hb hby at_123) rfl ?_
    exact kq)
  obtain ⟨vv622, _, ⟨T622, L622, k622, n622⟩, -, X622, hs622, gr622, ⟨Lc622, hQ622, l622, y622, z622⟩, st622⟩ := callSS X599 hx (y := (⟨"com/example/nuthatch/nuthatch/util/TextCompareCodePointsPinLaw", "make", "(CCCI)Ljava/lang/String;"⟩ : MethodName)) hown (mvT hZ (tw7 hw)) (mvT hZ (tw8 hw)) (mvT hZ (tw2 hw)) (mvT hZ (tw9 hw)) (by decide) (own_backV (W := 0) (rmMk l Z a0 hw [] xa xb xc la cz h0 n0 Z0 O0 hcw hld AD HI LO SC hz k_xa k_xb k_xc) hZ hJ (tw9 hw) (tw2 hw) (by decide) (by decide)) (g := (mkF m 125 #[vJ q1, sD, vJ q2, sD, vI p3, vI xa, vI xb, vI xc, vI la, vI za, vI zb, vI zc, vI lc, vI (p3 &&& (3 : Int32)), uN, uN, uN, uN] [(.int la), (.int xc), (.int xb), (.int xa)])) rfl (by rw [hml]; rfl) (argsL := [(.int xa), (.int xb), (.int xc), (.int la)]) (rest := []) (lenOf pd_21 rfl) rfl (by show 2 * 0 + _ ≤ _; exact Nat.le_of_eq rfl) (hb hby at_125) (fun _ _ => ⟨rfl, eq599, (by decide : 0 + 4 ≤ _), (by decide : 0 + 16 ≤ _)⟩)
  dsimp only [Pt.U, Pt.locs, Pt.cells, Pt.slots] at X622 hs622 gr622 l622 y622 z622 st622 hQ622
  subst l622 y622 z622
  obtain ⟨Y622, hS622, hZ622, hown622⟩ := rebS (s := s) (vm0 := s.vm) ((State.WarmedH.refl s).since 0) (Nat.zero_le _) X622 hs622 gr622 hZ hown
  have hZ := hZ622
  have hown := hown622
  obtain ⟨x622, t622, k622', c622', N622', vs622, rfl, Nq622, K622, J622, E622', Fc622, Fv622, V622, C622⟩ := hQ622
  have N622 := Fr.app N599 Nq622
  have ZS622 : n0 ≤ T622.heap.size := Nat.le_trans Z0 K622.1
  have O622 := O0.keep K622 all0
  have go622 : Goes p e below s₁ (G_rm0 m q1 q2 p3) T622 (mkF m 128 #[vJ q1, sD, vJ q2, sD, vI p3, vI xa, vI xb, vI xc, vI la, vI za, vI zb, vI zc, vI lc, vI (p3 &&& (3 : Int32)), uN, uN, uN, uN] [(.ref x622)]) := fun tq kq => go621 tq (st622.trans kq)
  have go623 : Goes p e below s₁ (G_rm0 m q1 q2 p3) T622 (mkF m 138 #[vJ q1, sD, vJ q2, sD, vI p3, vI xa, vI xb, vI xc, vI la, vI za, vI zb, vI zc, vI lc, vI (p3 &&& (3 : Int32)), vR x622, uN, uN, uN] [(.int lc), (.int zc), (.int zb), (.int za)]) := fun tq kq => go622 tq (by
    show Sx p e below T622 (mkF m 128 #[vJ q1, sD, vJ q2, sD, vI p3, vI xa, vI xb, vI xc, vI la, vI za, vI zb, vI zc, vI lc, vI (p3 &&& (3 : Int32)), uN, uN, uN, uN] [(.ref x622)]) _
    refine XS.astore Y622.here hx rfl (hb hby at_128) rfl rfl (l' := #[vJ q1, sD, vJ q2, sD, vI p3, vI xa, vI xb, vI xc, vI la, vI za, vI zb, vI zc, vI lc, vI (p3 &&& (3 : Int32)), vR x622, uN, uN, uN]) rfl ?_
    show Sx p e below T622 (mkF m 130 #[vJ q1, sD, vJ q2, sD, vI p3, vI xa, vI xb, vI xc, vI la, vI za, vI zb, vI zc, vI lc, vI (p3 &&& (3 : Int32)), vR x622, uN, uN, uN] []) _
    refine XS.iload Y622.here hx rfl (hb hby at_130) rfl ?_
    refine XS.iload Y622.here hx rfl (hb hby at_132) rfl ?_
    show Sx p e below T622 (mkF m 134 #[vJ q1, sD, vJ q2, sD, vI p3, vI xa, vI xb, vI xc, vI la, vI za, vI zb, vI zc, vI lc, vI (p3 &&& (3 : Int32)), vR x622, uN, uN, uN] [(.int zb), (.int za)]) _
    refine XS.iload Y622.here hx rfl (hb hby at_134) rfl ?_
    refine XS.iload Y622.here hx rfl (hb hby at_136) rfl ?_
    exact kq)
  obtain ⟨vv624, _, ⟨T624, L624, k624, n624⟩, -, X624, hs624, gr624, ⟨Lc624, hQ624, l624, y624, z624⟩, st624⟩ := callSS Y622 hx (y := (⟨"com/example/nuthatch/nuthatch/util/TextCompareCodePointsPinLaw", "make", "(CCCI)Ljava/lang/String;"⟩ : MethodName)) hown (mvT hZ (tw7 hw)) (mvT hZ (tw8 hw)) (mvT hZ (tw2 hw)) (mvT hZ (tw9 hw)) (by decide) (own_backV (W := 0) (rmMk l Z a0 hw [] za zb zc lc cz T622.heap n0 ZS622 O622 hcw hld AD HI LO SC hz k_za k_zb k_zc) hZ J622 (tw9 hw) (tw2 hw) (by decide) (by decide)) (g := (mkF m 138 #[vJ q1, sD, vJ q2, sD, vI p3, vI xa, vI xb, vI xc, vI la, vI za, vI zb, vI zc, vI lc, vI (p3 &&& (3 : Int32)), vR x622, uN, uN, uN] [(.int lc), (.int zc), (.int zb), (.int za)])) rfl (by rw [hml]; rfl) (argsL := [(.int za), (.int zb), (.int zc), (.int lc)]) (rest := []) (lenOf pd_21 rfl) rfl (by show 2 * 0 + _ ≤ _; exact Nat.le_of_eq rfl) (hb hby at_138) (fun _ _ => ⟨rfl, rfl, (by decide : 4 + 4 ≤ _), (by decide : 16 + 16 ≤ _)⟩)
  dsimp only [Pt.U, Pt.locs, Pt.cells, Pt.slots] at X624 hs624 gr624 l624 y624 z624 st624 hQ624
  subst l624 y624 z624
  obtain ⟨Y624, hS624, hZ624, hown624⟩ := rebS (s := s) (vm0 := T622.vm) hS622 (Nat.le_refl _) X624 hs624 gr624 hZ hown
  have hZ := hZ624
  have hown := hown624
  obtain ⟨x624, t624, k624', c624', N624', vs624, rfl, Nq624, K624, J624, E624', Fc624, Fv624, V624, C624⟩ := hQ624
  have N624 := Fr.app N622 Nq624
  have ZS624 : n0 ≤ T624.heap.size := Nat.le_trans ZS622 K624.1
  have O624 := O622.keep K624 all0
  have go624 : Goes p e below s₁ (G_rm0 m q1 q2 p3) T624 (mkF m 141 #[vJ q1, sD, vJ q2, sD, vI p3, vI xa, vI xb, vI xc, vI la, vI za, vI zb, vI zc, vI lc, vI (p3 &&& (3 : Int32)), vR x622, uN, uN, uN] [(.ref x624)]) := fun tq kq => go623 tq (st624.trans kq)
  have go625 : Goes p e below s₁ (G_rm0 m q1 q2 p3) T624 (mkF m 147 #[vJ q1, sD, vJ q2, sD, vI p3, vI xa, vI xb, vI xc, vI la, vI za, vI zb, vI zc, vI lc, vI (p3 &&& (3 : Int32)), vR x622, vR x624, uN, uN] [(.ref x624), (.ref x622)]) := fun tq kq => go624 tq (by
    show Sx p e below T624 (mkF m 141 #[vJ q1, sD, vJ q2, sD, vI p3, vI xa, vI xb, vI xc, vI la, vI za, vI zb, vI zc, vI lc, vI (p3 &&& (3 : Int32)), vR x622, uN, uN, uN] [(.ref x624)]) _
    refine XS.astore Y624.here hx rfl (hb hby at_141) rfl rfl (l' := #[vJ q1, sD, vJ q2, sD, vI p3, vI xa, vI xb, vI xc, vI la, vI za, vI zb, vI zc, vI lc, vI (p3 &&& (3 : Int32)), vR x622, vR x624, uN, uN]) rfl ?_
    refine XS.aload Y624.here hx rfl (hb hby at_143) rfl rfl ?_
    show Sx p e below T624 (mkF m 145 #[vJ q1, sD, vJ q2, sD, vI p3, vI xa, vI xb, vI xc, vI la, vI za, vI zb, vI zc, vI lc, vI (p3 &&& (3 : Int32)), vR x622, vR x624, uN, uN] [(.ref x622)]) _
    refine XS.aload Y624.here hx rfl (hb hby at_145) rfl rfl ?_
    exact kq)
  obtain ⟨vv626, _, ⟨T626, L626, k626, n626⟩, -, X626, ⟨Lc626, hQ626, l626, y626, z626⟩, st626⟩ := Jvm.LawKit.callS Y624 hx (y := (⟨"com/example/nuthatch/nuthatch/util/Text", "compareCodePoints", "(Ljava/lang/String;Ljava/lang/String;)I"⟩ : MethodName)) hown (mvT hZ (tw32 hw)) (mvT hZ (tw33 hw)) (mvT hZ (tw34 hw)) (mvT hZ (tw35 hw)) (by decide) (backOf (W := 0) (rmCmp l Z a0 hw [] x622 x624 t622 t624 k622' k624' c622' N622' c624' N624' cz vs622 vs624 (csv la xa xb xc) (csv lc za zb zc) fm T624.heap n0 ZS624 O624 AD HI LO SC hz FM hfm (E622'.keep K624) (Fc622.keep K624 nin0) (Fv622.keep K624 nin0) (V622.keep K624 nin0) C622 (own_all k_xa k_xb k_xc) (own_l3 _ _ _ _) E624' Fc624 Fv624 V624 C624 (own_all k_za k_zb k_zc) (own_l3 _ _ _ _)) hZ (tw35 hw) (tw34 hw) (by decide) (by decide)) (g := (mkF m 147 #[vJ q1, sD, vJ q2, sD, vI p3, vI xa, vI xb, vI xc, vI la, vI za, vI zb, vI zc, vI lc, vI (p3 &&& (3 : Int32)), vR x622, vR x624, uN, uN] [(.ref x624), (.ref x622)])) rfl (by rw [hml]; rfl) (argsL := [(.ref x622), (.ref x624)]) (rest := []) (lenOf pd_22 rfl) rfl (by show 2 * 0 + _ ≤ _; exact Nat.le_of_eq rfl) (hb hby at_147) (fun _ _ => ⟨rfl, rfl, (by decide : 8 + 0 ≤ _), (by decide : 32 + 0 ≤ _)⟩)
  dsimp only [Pt.U, Pt.locs, Pt.cells, Pt.slots] at X626 l626 y626 z626 st626 hQ626
  subst l626 y626 z626
  obtain ⟨rfl, Nq626, eq626⟩ := hQ626
  have N626 := Fr.app N624 Nq626
  have go626 : Goes p e below s₁ (G_rm0 m q1 q2 p3) T626 (mkF m 150 #[vJ q1, sD, vJ q2, sD, vI p3, vI xa, vI xb, vI xc, vI la, vI za, vI zb, vI zc, vI lc, vI (p3 &&& (3 : Int32)), vR x622, vR x624, uN, uN] [(.int (cmpv (csv la xa xb xc) (csv lc za zb zc) 4 0))]) := fun tq kq => go625 tq (st626 _ kq)
  have go627 : Goes p e below s₁ (G_rm0 m q1 q2 p3) T626 (mkF m 168 #[vJ q1, sD, vJ q2, sD, vI p3, vI xa, vI xb, vI xc, vI la, vI za, vI zb, vI zc, vI lc, vI (p3 &&& (3 : Int32)), vR x622, vR x624, vI (cmpv (csv la xa xb xc) (csv lc za zb zc) 4 0), uN] [(.int lc), (.int zc), (.int zb), (.int za), (.int la), (.int xc), (.int xb), (.int xa)]) := fun tq kq => go626 tq (by
    show Sx p e below T626 (mkF m 150 #[vJ q1, sD, vJ q2, sD, vI p3, vI xa, vI xb, vI xc, vI la, vI za, vI zb, vI zc, vI lc, vI (p3 &&& (3 : Int32)), vR x622, vR x624, uN, uN] [(.int (cmpv (csv la xa xb xc) (csv lc za zb zc) 4 0))]) _
    refine XS.istore X626.here hx rfl (hb hby at_150) rfl (l' := #[vJ q1, sD, vJ q2, sD, vI p3, vI xa, vI xb, vI xc, vI la, vI za, vI zb, vI zc, vI lc, vI (p3 &&& (3 : Int32)), vR x622, vR x624, vI (cmpv (csv la xa xb xc) (csv lc za zb zc) 4 0), uN]) rfl ?_
    show Sx p e below T626 (mkF m 152 #[vJ q1, sD, vJ q2, sD, vI p3, vI xa, vI xb, vI xc, vI la, vI za, vI zb, vI zc, vI lc, vI (p3 &&& (3 : Int32)), vR x622, vR x624, vI (cmpv (csv la xa xb xc) (csv lc za zb zc) 4 0), uN] []) _
    refine XS.iload X626.here hx rfl (hb hby at_152) rfl ?_
    refine XS.iload X626.here hx rfl (hb hby at_154) rfl ?_
    show Sx p e below T626 (mkF m 156 #[vJ q1, sD, vJ q2, sD, vI p3, vI xa, vI xb, vI xc, vI la, vI za, vI zb, vI zc, vI lc, vI (p3 &&& (3 : Int32)), vR x622, vR x624, vI (cmpv (csv la xa xb xc) (csv lc za zb zc) 4 0), uN] [(.int xb), (.int xa)]) _
    refine XS.iload X626.here hx rfl (hb hby at_156) rfl ?_
    refine XS.iload X626.here hx rfl (hb hby at_158) rfl ?_
    show Sx p e below T626 (mkF m 160 #[vJ q1, sD, vJ q2, sD, vI p3, vI xa, vI xb, vI xc, vI la, vI za, vI zb, vI zc, vI lc, vI (p3 &&& (3 : Int32)), vR x622, vR x624, vI (cmpv (csv la xa xb xc) (csv lc za zb zc) 4 0), uN] [(.int la), (.int xc), (.int xb), (.int xa)]) _
    refine XS.iload X626.here hx rfl (hb hby at_160) rfl ?_
    refine XS.iload X626.here hx rfl (hb hby at_162) rfl ?_
    show Sx p e below T626 (mkF m 164 #[vJ q1, sD, vJ q2, sD, vI p3, vI xa, vI xb, vI xc, vI la, vI za, vI zb, vI zc, vI lc, vI (p3 &&& (3 : Int32)), vR x622, vR x624, vI (cmpv (csv la xa xb xc) (csv lc za zb zc) 4 0), uN] [(.int zb), (.int za), (.int la), (.int xc), (.int xb), (.int xa)]) _
    refine XS.iload X626.here hx rfl (hb hby at_164) rfl ?_
    refine XS.iload X626.here hx rfl (hb hby at_166) rfl ?_
    exact kq)
  obtain ⟨vv628, _, ⟨T628, L628, k628, n628⟩, -, X628, ⟨Lc628, hQ628, l628, y628, z628⟩, st628⟩ := Jvm.LawKit.callS X626 hx (y := (⟨"com/example/nuthatch/nuthatch/util/TextCompareCodePointsPinLaw", "reference", "(CCCICCCI)I"⟩ : MethodName)) hown (mvT hZ (tw51 hw)) (mvT hZ (tw52 hw)) (mvT hZ (tw2 hw)) (mvT hZ (tw53 hw)) (by decide) (backOf (W := 0) (rmRf l Z a0 hw [] xa xb xc la za zb zc lc  T624.heap n0 ZS624 ) hZ (tw53 hw) (tw2 hw) (by decide) (by decide)) (g := (mkF m 168 #[vJ q1, sD, vJ q2, sD, vI p3, vI xa, vI xb, vI xc, vI la, vI za, vI zb, vI zc, vI lc, vI (p3 &&& (3 : Int32)), vR x622, vR x624, vI (cmpv (csv la xa xb xc) (csv lc za zb zc) 4 0), uN] [(.int lc), (.int zc), (.int zb), (.int za), (.int la), (.int xc), (.int xb), (.int xa)])) rfl (by rw [hml]; rfl) (argsL := [(.int xa), (.int xb), (.int xc), (.int la), (.int za), (.int zb), (.int zc), (.int lc)]) (rest := []) (lenOf pd_23 rfl) rfl (by show 2 * 0 + _ ≤ _; exact Nat.le_of_eq rfl) (hb hby at_168) (fun _ _ => ⟨rfl, eq626, (by decide : 8 + 0 ≤ _), (by decide : 32 + 0 ≤ _)⟩)
  dsimp only [Pt.U, Pt.locs, Pt.cells, Pt.slots] at X628 l628 y628 z628 st628 hQ628
  subst l628 y628 z628
  obtain ⟨rfl, Nq628, eq628⟩ := hQ628
  have N628 := Fr.app N626 Nq628
  have go628 : Goes p e below s₁ (G_rm0 m q1 q2 p3) T628 (mkF m 171 #[vJ q1, sD, vJ q2, sD, vI p3, vI xa, vI xb, vI xc, vI la, vI za, vI zb, vI zc, vI lc, vI (p3 &&& (3 : Int32)), vR x622, vR x624, vI (cmpv (csv la xa xb xc) (csv lc za zb zc) 4 0), uN] [(.int (rfv xa xb xc la za zb zc lc))]) := fun tq kq => go627 tq (st628 _ kq)
  have go629 : Goes p e below s₁ (G_rm0 m q1 q2 p3) T628 (mkF m 175 #[vJ q1, sD, vJ q2, sD, vI p3, vI xa, vI xb, vI xc, vI la, vI za, vI zb, vI zc, vI lc, vI (p3 &&& (3 : Int32)), vR x622, vR x624, vI (cmpv (csv la xa xb xc) (csv lc za zb zc) 4 0), vI (rfv xa xb xc la za zb zc lc)] [(.int (cmpv (csv la xa xb xc) (csv lc za zb zc) 4 0))]) := fun tq kq => go628 tq (by
    show Sx p e below T628 (mkF m 171 #[vJ q1, sD, vJ q2, sD, vI p3, vI xa, vI xb, vI xc, vI la, vI za, vI zb, vI zc, vI lc, vI (p3 &&& (3 : Int32)), vR x622, vR x624, vI (cmpv (csv la xa xb xc) (csv lc za zb zc) 4 0), uN] [(.int (rfv xa xb xc la za zb zc lc))]) _
    refine XS.istore X628.here hx rfl (hb hby at_171) rfl (l' := #[vJ q1, sD, vJ q2, sD, vI p3, vI xa, vI xb, vI xc, vI la, vI za, vI zb, vI zc, vI lc, vI (p3 &&& (3 : Int32)), vR x622, vR x624, vI (cmpv (csv la xa xb xc) (csv lc za zb zc) 4 0), vI (rfv xa xb xc la za zb zc lc)]) rfl ?_
    refine XS.iload X628.here hx rfl (hb hby at_173) rfl ?_
    exact kq)
  obtain ⟨vv630, _, ⟨T630, L630, k630, n630⟩, -, X630, ⟨Lc630, hQ630, l630, y630, z630⟩, st630⟩ := Jvm.LawKit.callS X628 hx (y := (⟨"com/example/nuthatch/nuthatch/util/TextCompareCodePointsPinLaw", "sign", "(I)I"⟩ : MethodName)) hown (mvT hZ (tw64 hw)) (mvT hZ (tw65 hw)) (mvT hZ (tw2 hw)) (mvT hZ (tw66 hw)) (by decide) (backOf (W := 0) (rmSg l Z a0 hw [] (cmpv (csv la xa xb xc) (csv lc za zb zc) 4 0)  T624.heap n0 ZS624 ) hZ (tw66 hw) (tw2 hw) (by decide) (by decide)) (g := (mkF m 175 #[vJ q1, sD, vJ q2, sD, vI p3, vI xa, vI xb, vI xc, vI la, vI za, vI zb, vI zc, vI lc, vI (p3 &&& (3 : Int32)), vR x622, vR x624, vI (cmpv (csv la xa xb xc) (csv lc za zb zc) 4 0), vI (rfv xa xb xc la za zb zc lc)] [(.int (cmpv (csv la xa xb xc) (csv lc za zb zc) 4 0))])) rfl (by rw [hml]; rfl) (argsL := [(.int (cmpv (csv la xa xb xc) (csv lc za zb zc) 4 0))]) (rest := []) (lenOf pd_0 rfl) rfl (by show 2 * 0 + _ ≤ _; exact Nat.le_of_eq rfl) (hb hby at_175) (fun _ _ => ⟨rfl, eq628, (by decide : 8 + 0 ≤ _), (by decide : 32 + 0 ≤ _)⟩)
  dsimp only [Pt.U, Pt.locs, Pt.cells, Pt.slots] at X630 l630 y630 z630 st630 hQ630
  subst l630 y630 z630
  obtain ⟨rfl, Nq630, eq630⟩ := hQ630
  have N630 := Fr.app N628 Nq630
  have go630 : Goes p e below s₁ (G_rm0 m q1 q2 p3) T630 (mkF m 178 #[vJ q1, sD, vJ q2, sD, vI p3, vI xa, vI xb, vI xc, vI la, vI za, vI zb, vI zc, vI lc, vI (p3 &&& (3 : Int32)), vR x622, vR x624, vI (cmpv (csv la xa xb xc) (csv lc za zb zc) 4 0), vI (rfv xa xb xc la za zb zc lc)] [(.int (sgv (cmpv (csv la xa xb xc) (csv lc za zb zc) 4 0)))]) := fun tq kq => go629 tq (st630 _ kq)
  have go631 : Goes p e below s₁ (G_rm0 m q1 q2 p3) T630 (mkF m 180 #[vJ q1, sD, vJ q2, sD, vI p3, vI xa, vI xb, vI xc, vI la, vI za, vI zb, vI zc, vI lc, vI (p3 &&& (3 : Int32)), vR x622, vR x624, vI (cmpv (csv la xa xb xc) (csv lc za zb zc) 4 0), vI (rfv xa xb xc la za zb zc lc)] [(.int (rfv xa xb xc la za zb zc lc)), (.int (sgv (cmpv (csv la xa xb xc) (csv lc za zb zc) 4 0)))]) := fun tq kq => go630 tq (by
    show Sx p e below T630 (mkF m 178 #[vJ q1, sD, vJ q2, sD, vI p3, vI xa, vI xb, vI xc, vI la, vI za, vI zb, vI zc, vI lc, vI (p3 &&& (3 : Int32)), vR x622, vR x624, vI (cmpv (csv la xa xb xc) (csv lc za zb zc) 4 0), vI (rfv xa xb xc la za zb zc lc)] [(.int (sgv (cmpv (csv la xa xb xc) (csv lc za zb zc) 4 0)))]) _
    refine XS.iload X630.here hx rfl (hb hby at_178) rfl ?_
    exact kq)
  have go632 : Goes p e below s₁ (G_rm0 m q1 q2 p3) T630 (mkF m 188 #[vJ q1, sD, vJ q2, sD, vI p3, vI xa, vI xb, vI xc, vI la, vI za, vI zb, vI zc, vI lc, vI (p3 &&& (3 : Int32)), vR x622, vR x624, vI (cmpv (csv la xa xb xc) (csv lc za zb zc) 4 0), vI (rfv xa xb xc la za zb zc lc)] [(.int (1 : Int32))]) := fun tq kq => go631 tq (by
    show Sx p e below T630 (mkF m 180 #[vJ q1, sD, vJ q2, sD, vI p3, vI xa, vI xb, vI xc, vI la, vI za, vI zb, vI zc, vI lc, vI (p3 &&& (3 : Int32)), vR x622, vR x624, vI (cmpv (csv la xa xb xc) (csv lc za zb zc) 4 0), vI (rfv xa xb xc la za zb zc lc)] [(.int (rfv xa xb xc la za zb zc lc)), (.int (sgv (cmpv (csv la xa xb xc) (csv lc za zb zc) 4 0)))]) _
    refine XS.icmpNo X630.here hx rfl (hb hby at_180) rfl (teq (own_main k_xa k_xb k_xc k_za k_zb k_zc qa hx620)).2 ?_
    show Sx p e below T630 (mkF m 183 #[vJ q1, sD, vJ q2, sD, vI p3, vI xa, vI xb, vI xc, vI la, vI za, vI zb, vI zc, vI lc, vI (p3 &&& (3 : Int32)), vR x622, vR x624, vI (cmpv (csv la xa xb xc) (csv lc za zb zc) 4 0), vI (rfv xa xb xc la za zb zc lc)] []) _
    refine XS.iconst X630.here hx rfl (hb hby at_183) ?_
    refine XS.goto X630.here hx rfl (pc0 := 184) (pc' := 188) rfl (hb hby at_184) (by decide) (by decide) ?_
    exact kq)
  obtain ⟨fs, hr, hrun, hended, hEW⟩ := Stand.leaveW (s := s) X630 hS624 (by rw [eq630]; exact (Nat.le_refl _)) (v := some (.int (1 : Int32))) (fun h => by rw [Bd.returns] at h; cases h)
  refine ⟨_, _, go632 _ ?_, hrun, hended, _, _, rfl, ?_, hEW.1, hEW.2.1, hEW.2.2.1, hEW.2.2.2.mono (by decide) (by decide)⟩
  · exact retN X630 hx (t := .boolean) Bd.returns (by simp) (hb hby at_188) hr
  · show Q_rm0 Z q1 q2 p3 cz fm h0 n0 _ T630.heap _
    rw [eq630]
    exact ⟨rfl, N630⟩
theorem own_staint {args : Array Value} {s : State} {C n d : String} {k : Int32} (h : (Jvm.Cond.eq (Term.static C n d) (Term.int k)).value args s none s [] = some true) : (Term.static C n d).eval args s none [] s = some (.int k) := by
  have e2 : (Term.int k).eval args s none [] s = some (.int k) := Term.int_eval k
  simp only [Jvm.Cond.value, e2] at h
  cases hf : (Term.static C n d).eval args s none [] s with
  | none => simp [hf] at h
  | some v => cases v <;> simp [hf] at h ⊢; exact h
theorem own_isref {v : Value} (h : v.isRef = true) : v = .null ∨ ∃ f : Addr, v = .ref f := by
  cases v <;> simp [Value.isRef] at h ⊢
set_option maxRecDepth 65536 in
set_option maxHeartbeats 40000000 in
theorem comes_1 {Post : Tables → Env → Array Value → State → Outcome → State → Prop} (hpost : ∀ tb e args s v u, (limb_1_1.after args s (.returned v) u = true ∧ limb_1_2.after args s (.returned v) u = true ∧ True) → ReturnedEndW s (.returned v) u (Jvm.fieldLocs frame_1_writes args s ++ Jvm.arrayLocs frame_1_arrays args s ++ Jvm.staticLocs frame_1_statics s) 32 1216 → Post tb e args s (.returned v) u) :
    ArmFor flags0 classFile x code maxLocals ret World_1 tables_1 room_1 Calls_1 rest_1 Pre_1 Post := by
  intro l hfl _ _ p e ha hc hk s m args below hf hA hF happ hP
  obtain ⟨hcalls, hrest, hpre⟩ := hP
  obtain ⟨-, -, -, hnamed, -, -, -, hat⟩ := (Spec.applies_iff hf).mp happ
  obtain ⟨hg, hn⟩ := and_e (Cond.before_iff.mp (show (Jvm.Cond.and given_1 narrow_1).before args s = true from hpre))
  obtain ⟨g0, hg0⟩ := and_e hg
  obtain ⟨g1, hg1⟩ := and_e hg0
  obtain ⟨g2, hg2⟩ := and_e hg1
  obtain ⟨w0, w1, w2, rfl⟩ : ∃ w0 w1 w2 : Value, args = #[w0, w1, w2] := by
    have hs : args.size = 3 := by simpa [Cond.value, given_1] using g0
    obtain ⟨L⟩ := args
    match L, hs with
    | [w0, w1, w2], _ => exact ⟨w0, w1, w2, rfl⟩
  have hw := fun d (hd : d ∈ tables_1) => atoms_spec (ws := Jvm.Cond.code x code maxLocals ret :: tables_1) hat d (List.mem_cons_of_mem _ hd)
  have hfit : Fit s := fun {y c} hc i hi => by
    obtain ⟨ha, rfl⟩ := Array.getElem?_eq_some_iff.mp hc
    have q := List.all_eq_true.mp ((Array.all_eq_true_iff_forall_mem.mp hF) _ (Array.getElem_mem ha)) i (List.mem_range.mpr hi)
    simpa [Array.getElem?_eq_getElem hi] using q
  obtain ⟨hsets, hown0⟩ := atoms_of _ (rest_1_c_eq ▸ (show rest_1_c.before _ s = true from hrest))
  have hr0 := Cond.before_iff.mp hown0
  obtain ⟨i0, ei0⟩ := isL_v g1
  obtain rfl : w0 = (.long i0) := Option.some.inj ei0
  obtain ⟨i1, ei1⟩ := isL_v g2
  obtain rfl : w1 = (.long i1) := Option.some.inj ei1
  obtain ⟨i2, ei2⟩ := is_v hg2
  obtain rfl : w2 = (.int i2) := Option.some.inj ei2
  obtain ⟨cz, ecz⟩ := is_v (Cond.before_iff.mp (hsets _ (List.mem_of_getElem? (i := 1) rfl)))
  have SC := Sta.start ecz (Or.inl (hsets _ (List.mem_of_getElem? (i := 0) rfl)))
  have hcw := hsets _ (List.mem_of_getElem? (i := 2) rfl)
  have hz : ¬ (cz = (0 : Int32)) := fun q => by have h := not_v (Cond.before_iff.mp hcw); rw [eq_i ecz (Term.int_eval 0) (by rw [q])] at h; cases h
  obtain ⟨fm, efm, rfm⟩ := isR_v (Cond.before_iff.mp (hsets _ (List.mem_of_getElem? (i := 8) rfl)))
  have FM := Sta.start efm (Or.inl (hsets _ (List.mem_of_getElem? (i := 7) rfl)))
  have AD := Sta.start (own_staint (Cond.before_iff.mp (hsets _ (List.mem_of_getElem? (i := 12) rfl)))) (Or.inl (hsets _ (List.mem_of_getElem? (i := 11) rfl)))
  have HI := Sta.start (own_staint (Cond.before_iff.mp (hsets _ (List.mem_of_getElem? (i := 15) rfl)))) (Or.inl (hsets _ (List.mem_of_getElem? (i := 14) rfl)))
  have LO := Sta.start (own_staint (Cond.before_iff.mp (hsets _ (List.mem_of_getElem? (i := 18) rfl)))) (Or.inl (hsets _ (List.mem_of_getElem? (i := 17) rfl)))
  obtain ⟨n, o, h1, h2, h3, _, L, rfl, ⟨rfl, N⟩, hq⟩ := rm0 l s _ hw tables_1 i0 i1 i2 cz fm s.heap s.heap.size (Nat.le_refl _) (Old.start s) hcw (hcalls.1 ("java/lang/String", 7) (by simp [consts_1])) AD HI LO SC hz FM (own_isref rfm) p e ha hc hk s m _ below hf ((Spec.applies_iff_loose hf).mp happ).1 ⟨rfl, State.Warmed39.refl s, rfl, IB.start⟩ trivial
  refine ⟨n, _, h1, h2, h3, hpost _ _ _ _ _ _ ⟨Cond.after_iff.mpr rfl, Cond.after_iff.mpr (eq_i res_at (Term.int_eval (1)) rfl), trivial⟩ ⟨hq.1, hq.2.1, hq.2.2.1, (hq.2.2.2.sift fun y hy => Or.inr (N y hy)).mono (by decide) (by decide)⟩⟩
theorem main_1_1 : Claimed_1_1 := comes_1 fun _ _ _ _ _ _ h hF => ⟨h.1, hF⟩
theorem main_1_2 : Claimed_1_2 := comes_1 fun _ _ _ _ _ _ h hF => ⟨h.2.1, hF⟩
end Jvm.Pilot.@@N@@
namespace Jvm.Pilot.@@N@@
open Jvm Jvm.ClassFile Sem Op Lib Jvm.Free Jvm.Stand Jvm.Pilot.@@N@@.Jvm.D
/-! MADE BY PROGRAM (witnessworld.py) out of the Statement's table words and the real class files: 23 classes; the members and pool entries that the words name. The judged class is class 1, her method 1. -/
namespace start1
open Jvm.ClassFile
def u (s : String) : CpInfo := .utf8 (stringToUtf16 s)
/-- a pool by its gaps: so many unusable entries, then the entry; so many at the end -/
def gap : Nat → List CpInfo → List CpInfo
  | 0, r => r
  | n + 1, r => .unusable :: gap n r
def poolList (es : List (Nat × CpInfo)) (last : Nat) : List CpInfo := es.foldr (fun e r => gap e.1 (e.2 :: r)) (gap last [])
def pool (es : List (Nat × CpInfo)) (last : Nat) : Array CpInfo := ⟨poolList es last⟩
def fileOf (pool : Array CpInfo) (this : Nat) (attrs : Array Attribute := #[]) (ms : Array MethodInfo := #[]) (fl : Nat := 33) (sup : Nat := 0) (ifs : Array Nat := #[]) (fds : Array FieldInfo := #[]) : ClassFile where
  minorVersion := 0
  majorVersion := 65
  constantPool := pool
  accessFlags := fl
  thisClass := this
  superClass := sup
  interfaces := ifs
  fields := fds
  methods := ms
  attributes := attrs
def plain (name : String) (sup : Option ClassId) : Class where
  name := name
  kind := .ordinary
  loader := none
  accessFlags := 33
  super := sup
  interfaces := #[]
  cf := none
  fields := #[]
  methods := #[]
  instanceTypes := #[]
  staticTypes := #[]
  resolved := #[]
  callSites := []
  init := .initialized
  statics := none
  mirror := none

def pool0 : Array CpInfo := pool [(5, u "<init>"), (0, u "()V"), (1, .class_ 10), (1, u "java/lang/Object")] 113

def k0c0 : Code := { maxStack := 0, maxLocals := 1, code := object_method_1_code, exceptionTable := #[], attributes := #[] }
def k0m0 : Method := { name := "<init>", desc := "()V", sig := { parameters := [], returnType := none }, accessFlags := 1, code := some k0c0 }
/-- java/lang/Object -/
def k0 : Class := { plain "java/lang/Object" none with
  accessFlags := 33
  interfaces := #[]
  cf := some (fileOf pool0 8 #[] #[{ accessFlags := 1, nameIndex := 5, descriptorIndex := 6, attributes := #[] }] 33 0 #[] #[])
  fields := #[]
  methods := #[k0m0]
  instanceTypes := #[]
  staticTypes := #[]
  resolved := Array.replicate 124 none
  statics := none }

def pool1 : Array CpInfo := pool [(2, .class_ 4), (1, u "java/lang/Object"), (0, u "<init>"), (0, u "()V"), (0, .methodref 8 9), (0, .class_ 10), (0, .nameAndType 11 12), (0, u "com/example/nuthatch/nuthatch/util/TextCompareCodePointsPinLaw"), (0, u "draw"), (0, u "(J)C"), (0, .long 3), (1, .methodref 8 16), (0, .nameAndType 17 18), (0, u "make"), (0, u "(CCCI)Ljava/lang/String;"), (0, .methodref 20 21), (0, .class_ 22), (0, .nameAndType 23 24), (0, u "com/example/nuthatch/nuthatch/util/Text"), (0, u "compareCodePoints"), (0, u "(Ljava/lang/String;Ljava/lang/String;)I"), (0, .methodref 8 26), (0, .nameAndType 27 28), (0, u "reference"), (0, u "(CCCICCCI)I"), (0, .methodref 8 30), (0, .nameAndType 31 32), (0, u "sign"), (0, u "(I)I"), (0, .long 65535), (1, .integer 55296), (0, .integer 56320), (0, .class_ 38), (0, u "java/lang/String"), (0, .methodref 37 40), (0, .nameAndType 5 41), (0, u "([C)V"), (0, .integer 56319), (0, .integer 57343), (0, .methodref 8 45), (0, .nameAndType 46 47), (0, u "unit"), (0, u "(CCCII)I"), (0, .methodref 8 49), (0, .nameAndType 50 51), (0, u "isHigh"), (0, u "(I)Z"), (0, .methodref 8 53), (0, .nameAndType 54 51), (0, u "isLow"), (0, .integer 65536), (0, .methodref 8 57), (0, .nameAndType 58 47), (0, u "point"), (0, .methodref 8 60), (0, .nameAndType 61 32), (0, u "width"), (0, .methodref 8 63), (0, .nameAndType 64 65), (0, u "cmp"), (0, u "(II)I"), (2, u "law"), (0, u "(JJI)Z")] 3

def k1m0 : Method := { name := "<init>", desc := "()V", sig := { parameters := [], returnType := none }, accessFlags := 2, code := none }
def k1c1 : Code := { maxStack := 8, maxLocals := 18, code := code, exceptionTable := #[], attributes := #[] }
def k1m1 : Method := { name := "law", desc := "(JJI)Z", sig := { parameters := [.long, .long, .int], returnType := some .boolean }, accessFlags := 9, code := some k1c1 }
def k1c2 : Code := { maxStack := 4, maxLocals := 4, code := method_3_code, exceptionTable := #[], attributes := #[] }
def k1m2 : Method := { name := "draw", desc := "(J)C", sig := { parameters := [.long], returnType := some .char }, accessFlags := 10, code := some k1c2 }
def k1c3 : Code := { maxStack := 6, maxLocals := 4, code := method_4_code, exceptionTable := #[], attributes := #[] }
def k1m3 : Method := { name := "make", desc := "(CCCI)Ljava/lang/String;", sig := { parameters := [.char, .char, .char, .int], returnType := some (.object "java/lang/String") }, accessFlags := 10, code := some k1c3 }
def k1c4 : Code := { maxStack := 2, maxLocals := 5, code := method_5_code, exceptionTable := #[], attributes := #[] }
def k1m4 : Method := { name := "unit", desc := "(CCCII)I", sig := { parameters := [.char, .char, .char, .int, .int], returnType := some .int }, accessFlags := 10, code := some k1c4 }
def k1c5 : Code := { maxStack := 2, maxLocals := 1, code := method_6_code, exceptionTable := #[], attributes := #[] }
def k1m5 : Method := { name := "isHigh", desc := "(I)Z", sig := { parameters := [.int], returnType := some .boolean }, accessFlags := 10, code := some k1c5 }
def k1c6 : Code := { maxStack := 2, maxLocals := 1, code := method_7_code, exceptionTable := #[], attributes := #[] }
def k1m6 : Method := { name := "isLow", desc := "(I)Z", sig := { parameters := [.int], returnType := some .boolean }, accessFlags := 10, code := some k1c6 }
def k1c7 : Code := { maxStack := 6, maxLocals := 7, code := method_8_code, exceptionTable := #[], attributes := #[] }
def k1m7 : Method := { name := "point", desc := "(CCCII)I", sig := { parameters := [.char, .char, .char, .int, .int], returnType := some .int }, accessFlags := 10, code := some k1c7 }
def k1c8 : Code := { maxStack := 2, maxLocals := 1, code := method_9_code, exceptionTable := #[], attributes := #[] }
def k1m8 : Method := { name := "width", desc := "(I)I", sig := { parameters := [.int], returnType := some .int }, accessFlags := 10, code := some k1c8 }
def k1c9 : Code := { maxStack := 2, maxLocals := 2, code := method_10_code, exceptionTable := #[], attributes := #[] }
def k1m9 : Method := { name := "cmp", desc := "(II)I", sig := { parameters := [.int, .int], returnType := some .int }, accessFlags := 10, code := some k1c9 }
def k1c10 : Code := { maxStack := 6, maxLocals := 18, code := method_11_code, exceptionTable := #[], attributes := #[] }
def k1m10 : Method := { name := "reference", desc := "(CCCICCCI)I", sig := { parameters := [.char, .char, .char, .int, .char, .char, .char, .int], returnType := some .int }, accessFlags := 10, code := some k1c10 }
def k1c11 : Code := { maxStack := 1, maxLocals := 1, code := method_12_code, exceptionTable := #[], attributes := #[] }
def k1m11 : Method := { name := "sign", desc := "(I)I", sig := { parameters := [.int], returnType := some .int }, accessFlags := 10, code := some k1c11 }
/-- com/example/nuthatch/nuthatch/util/TextCompareCodePointsPinLaw -/
def k1 : Class := { plain "com/example/nuthatch/nuthatch/util/TextCompareCodePointsPinLaw" (some 0) with
  accessFlags := 49
  interfaces := #[]
  cf := some (fileOf pool1 8 #[] #[{ accessFlags := 2, nameIndex := 5, descriptorIndex := 6, attributes := #[] }, { accessFlags := 9, nameIndex := 68, descriptorIndex := 69, attributes := #[] }, { accessFlags := 10, nameIndex := 11, descriptorIndex := 12, attributes := #[] }, { accessFlags := 10, nameIndex := 17, descriptorIndex := 18, attributes := #[] }, { accessFlags := 10, nameIndex := 46, descriptorIndex := 47, attributes := #[] }, { accessFlags := 10, nameIndex := 50, descriptorIndex := 51, attributes := #[] }, { accessFlags := 10, nameIndex := 54, descriptorIndex := 51, attributes := #[] }, { accessFlags := 10, nameIndex := 58, descriptorIndex := 47, attributes := #[] }, { accessFlags := 10, nameIndex := 61, descriptorIndex := 32, attributes := #[] }, { accessFlags := 10, nameIndex := 64, descriptorIndex := 65, attributes := #[] }, { accessFlags := 10, nameIndex := 27, descriptorIndex := 28, attributes := #[] }, { accessFlags := 10, nameIndex := 31, descriptorIndex := 32, attributes := #[] }] 49 2 #[] #[])
  fields := #[]
  methods := #[k1m0, k1m1, k1m2, k1m3, k1m4, k1m5, k1m6, k1m7, k1m8, k1m9, k1m10, k1m11]
  instanceTypes := #[]
  staticTypes := #[]
  resolved := Array.replicate 73 none
  statics := none }

def pool2 : Array CpInfo := pool [(1, .class_ 2), (0, u "java/io/Serializable"), (0, .class_ 4), (0, u "java/lang/Object")] 2

/-- java/io/Serializable -/
def k2 : Class := { plain "java/io/Serializable" (some 0) with
  accessFlags := 1537
  interfaces := #[]
  cf := some (fileOf pool2 1 #[] #[] 1537 3 #[] #[])
  fields := #[]
  methods := #[]
  instanceTypes := #[]
  staticTypes := #[]
  resolved := Array.replicate 7 none
  statics := none }

def pool3 : Array CpInfo := pool [(1, .class_ 2), (0, u "java/lang/Comparable"), (0, .class_ 4), (0, u "java/lang/Object")] 7

/-- java/lang/Comparable -/
def k3 : Class := { plain "java/lang/Comparable" (some 0) with
  accessFlags := 1537
  interfaces := #[]
  cf := some (fileOf pool3 1 #[] #[] 1537 3 #[] #[])
  fields := #[]
  methods := #[]
  instanceTypes := #[]
  staticTypes := #[]
  resolved := Array.replicate 12 none
  statics := none }

def pool4 : Array CpInfo := pool [(2, .class_ 4), (1, u "java/lang/CharSequence"), (42, .class_ 48), (0, u "java/lang/CharSequence$1CodePointIterator"), (10, .class_ 60), (0, u "java/lang/CharSequence$1CharIterator"), (5, .class_ 67), (0, u "java/lang/Object")] 63

/-- java/lang/CharSequence -/
def k4 : Class := { plain "java/lang/CharSequence" (some 0) with
  accessFlags := 1537
  interfaces := #[]
  cf := some (fileOf pool4 2 #[.nestMembers #[47, 59]] #[] 1537 66 #[] #[])
  fields := #[]
  methods := #[]
  instanceTypes := #[]
  staticTypes := #[]
  resolved := Array.replicate 131 none
  statics := none }

def pool5 : Array CpInfo := pool [(1, .class_ 2), (0, u "java/lang/constant/Constable"), (0, .class_ 4), (0, u "java/lang/Object")] 6

/-- java/lang/constant/Constable -/
def k5 : Class := { plain "java/lang/constant/Constable" (some 0) with
  accessFlags := 1537
  interfaces := #[]
  cf := some (fileOf pool5 1 #[] #[] 1537 3 #[] #[])
  fields := #[]
  methods := #[]
  instanceTypes := #[]
  staticTypes := #[]
  resolved := Array.replicate 11 none
  statics := none }

def pool6 : Array CpInfo := pool [(1, .class_ 2), (0, u "java/lang/constant/ConstantDesc"), (0, .class_ 4), (0, u "java/lang/Object")] 32

/-- java/lang/constant/ConstantDesc -/
def k6 : Class := { plain "java/lang/constant/ConstantDesc" (some 0) with
  accessFlags := 1537
  interfaces := #[]
  cf := some (fileOf pool6 1 #[] #[] 1537 3 #[] #[])
  fields := #[]
  methods := #[]
  instanceTypes := #[]
  staticTypes := #[]
  resolved := Array.replicate 37 none
  statics := none }

def pool7 : Array CpInfo := pool [(1, .methodref 2 3), (0, .class_ 4), (0, .nameAndType 5 6), (0, u "java/lang/Object"), (0, u "<init>"), (0, u "()V"), (0, .string 8), (0, u ""), (0, .fieldref 10 11), (0, .class_ 12), (0, .nameAndType 13 14), (0, u "java/lang/String"), (0, u "value"), (0, u "[B"), (0, .fieldref 10 16), (0, .nameAndType 17 18), (0, u "coder"), (0, u "B"), (2, u "hash"), (0, u "I"), (2, u "hashIsZero"), (0, u "Z"), (0, .methodref 10 28), (0, .nameAndType 5 29), (0, u "([CIILjava/lang/Void;)V"), (8, .fieldref 10 39), (0, .nameAndType 40 26), (0, u "COMPACT_STRINGS"), (1, .class_ 44), (1, u "java/lang/StringUTF16"), (0, u "compress"), (1, .methodref 42 48), (0, .nameAndType 49 50), (0, u "coderFromArrayLen"), (0, u "([BI)B"), (46, u "([BII)I"), (44, u "()Z"), (34, .methodref 42 178), (0, .nameAndType 45 179), (0, u "([CII)[B"), (154, u "()I"), (0, .methodref 10 336), (0, .nameAndType 17 337), (0, u "()B"), (53, u "(II)V"), (100, .methodref 10 493), (0, .nameAndType 494 142), (0, u "isLatin1"), (4, .methodref 10 500), (0, .nameAndType 501 391), (0, u "checkIndex"), (0, .methodref 42 503), (0, .nameAndType 504 97), (0, u "codePointAt"), (2, u "length"), (67, .class_ 576), (0, u "java/lang/CharSequence"), (22, u "CASE_INSENSITIVE_ORDER"), (0, u "Ljava/util/Comparator;"), (164, u "(I)I"), (244, u "([C)V"), (42, .fieldref 1054 1055), (0, .class_ 1056), (0, .nameAndType 1057 1058), (0, u "jdk/internal/util/Preconditions"), (0, u "SIOOBE_FORMATTER"), (0, u "Ljava/util/function/BiFunction;"), (0, .methodref 1054 1060), (0, .nameAndType 501 1061), (0, u "(IILjava/util/function/BiFunction;)I"), (39, u "serialPersistentFields"), (0, u "[Ljava/io/ObjectStreamField;"), (0, .class_ 1104), (0, u "java/lang/String$CaseInsensitiveComparator"), (1, .class_ 1107), (0, u "java/io/Serializable"), (0, .class_ 1109), (0, u "java/lang/Comparable"), (0, .class_ 1111), (0, u "java/lang/constant/Constable"), (0, .class_ 1113), (0, u "java/lang/constant/ConstantDesc"), (2, u "serialVersionUID"), (0, u "J"), (3, u "REPL"), (0, u "C"), (2, u "LATIN1"), (1, u "UTF16")] 323

def k7m0 : Method := { name := "<init>", desc := "()V", sig := { parameters := [], returnType := none }, accessFlags := 1, code := none }
def k7c1 : Code := { maxStack := 5, maxLocals := 2, code := jdk_42_method_3_code, exceptionTable := #[], attributes := #[] }
def k7m1 : Method := { name := "<init>", desc := "([C)V", sig := { parameters := [(.array .char)], returnType := none }, accessFlags := 1, code := some k7c1 }
def k7c2 : Code := { maxStack := 2, maxLocals := 1, code := jdk_42_method_54_code, exceptionTable := #[], attributes := #[] }
def k7m2 : Method := { name := "length", desc := "()I", sig := { parameters := [], returnType := some .int }, accessFlags := 1, code := some k7c2 }
def k7c3 : Code := { maxStack := 3, maxLocals := 3, code := jdk_42_method_57_code, exceptionTable := #[], attributes := #[] }
def k7m3 : Method := { name := "codePointAt", desc := "(I)I", sig := { parameters := [.int], returnType := some .int }, accessFlags := 1, code := some k7c3 }
def k7c4 : Code := { maxStack := 4, maxLocals := 6, code := jdk_42_method_149_code, exceptionTable := #[], attributes := #[] }
def k7m4 : Method := { name := "<init>", desc := "([CIILjava/lang/Void;)V", sig := { parameters := [(.array .char), .int, .int, (.object "java/lang/Void")], returnType := none }, accessFlags := 2, code := some k7c4 }
def k7c5 : Code := { maxStack := 1, maxLocals := 1, code := jdk_42_method_152_code, exceptionTable := #[], attributes := #[] }
def k7m5 : Method := { name := "coder", desc := "()B", sig := { parameters := [], returnType := some .byte }, accessFlags := 0, code := some k7c5 }
def k7c6 : Code := { maxStack := 1, maxLocals := 1, code := jdk_42_method_154_code, exceptionTable := #[], attributes := #[] }
def k7m6 : Method := { name := "isLatin1", desc := "()Z", sig := { parameters := [], returnType := some .boolean }, accessFlags := 0, code := some k7c6 }
def k7c7 : Code := { maxStack := 3, maxLocals := 2, code := jdk_42_method_155_code, exceptionTable := #[], attributes := #[] }
def k7m7 : Method := { name := "checkIndex", desc := "(II)V", sig := { parameters := [.int, .int], returnType := none }, accessFlags := 8, code := some k7c7 }
/-- java/lang/String -/
def k7 : Class := { plain "java/lang/String" (some 0) with
  accessFlags := 49
  interfaces := #[2, 3, 4, 5, 6]
  cf := some (fileOf pool7 10 #[.nestMembers #[1103]] #[{ accessFlags := 1, nameIndex := 5, descriptorIndex := 6, attributes := #[] }, { accessFlags := 1, nameIndex := 5, descriptorIndex := 1010, attributes := #[] }, { accessFlags := 1, nameIndex := 507, descriptorIndex := 334, attributes := #[] }, { accessFlags := 1, nameIndex := 504, descriptorIndex := 765, attributes := #[] }, { accessFlags := 2, nameIndex := 5, descriptorIndex := 29, attributes := #[] }, { accessFlags := 0, nameIndex := 17, descriptorIndex := 337, attributes := #[] }, { accessFlags := 0, nameIndex := 494, descriptorIndex := 142, attributes := #[] }, { accessFlags := 8, nameIndex := 501, descriptorIndex := 391, attributes := #[] }] 49 2 #[1106, 1108, 575, 1110, 1112] #[{ accessFlags := 18, nameIndex := 13, descriptorIndex := 14, attributes := #[] }, { accessFlags := 18, nameIndex := 17, descriptorIndex := 18, attributes := #[] }, { accessFlags := 2, nameIndex := 21, descriptorIndex := 22, attributes := #[] }, { accessFlags := 2, nameIndex := 25, descriptorIndex := 26, attributes := #[] }, { accessFlags := 26, nameIndex := 1116, descriptorIndex := 1117, attributes := #[] }, { accessFlags := 24, nameIndex := 40, descriptorIndex := 26, attributes := #[] }, { accessFlags := 26, nameIndex := 1101, descriptorIndex := 1102, attributes := #[] }, { accessFlags := 26, nameIndex := 1121, descriptorIndex := 1122, attributes := #[] }, { accessFlags := 25, nameIndex := 599, descriptorIndex := 600, attributes := #[] }, { accessFlags := 24, nameIndex := 1125, descriptorIndex := 18, attributes := #[] }, { accessFlags := 24, nameIndex := 1127, descriptorIndex := 18, attributes := #[] }])
  fields := #[{ name := "value", type := (.array .byte), accessFlags := 18, slot := 0, constantValue := 0 }, { name := "coder", type := .byte, accessFlags := 18, slot := 1, constantValue := 0 }, { name := "hash", type := .int, accessFlags := 2, slot := 2, constantValue := 0 }, { name := "hashIsZero", type := .boolean, accessFlags := 2, slot := 3, constantValue := 0 }, { name := "serialVersionUID", type := .long, accessFlags := 26, slot := 0, constantValue := 0 }, { name := "COMPACT_STRINGS", type := .boolean, accessFlags := 24, slot := 1, constantValue := 0 }, { name := "serialPersistentFields", type := (.array (.object "java/io/ObjectStreamField")), accessFlags := 26, slot := 2, constantValue := 0 }, { name := "REPL", type := .char, accessFlags := 26, slot := 3, constantValue := 0 }, { name := "CASE_INSENSITIVE_ORDER", type := (.object "java/util/Comparator"), accessFlags := 25, slot := 4, constantValue := 0 }, { name := "LATIN1", type := .byte, accessFlags := 24, slot := 5, constantValue := 0 }, { name := "UTF16", type := .byte, accessFlags := 24, slot := 6, constantValue := 0 }]
  methods := #[k7m0, k7m1, k7m2, k7m3, k7m4, k7m5, k7m6, k7m7]
  instanceTypes := #[(.array .byte), .byte, .int, .boolean]
  staticTypes := #[.long, .boolean, (.array (.object "java/io/ObjectStreamField")), .char, (.object "java/util/Comparator"), .byte, .byte]
  resolved := Array.replicate 1451 none
  statics := some 0 }

def pool8 : Array CpInfo := pool [(2, .class_ 4), (1, u "java/lang/Object"), (0, u "<init>"), (0, u "()V"), (1, .class_ 10), (1, u "com/example/nuthatch/nuthatch/util/Text"), (0, u "WHITE_SPACE"), (0, u "Ljava/util/regex/Pattern;"), (1, .class_ 16), (1, u "java/lang/String"), (16, .methodref 14 34), (0, .nameAndType 35 36), (0, u "length"), (0, u "()I"), (5, u "(II)I"), (5, .class_ 50), (1, u "java/lang/Character"), (27, .class_ 80), (1, u "java/lang/Integer"), (73, u "(I)I"), (0, .methodref 14 156), (0, .nameAndType 157 154), (0, u "codePointAt"), (0, .methodref 78 159), (0, .nameAndType 160 42), (0, u "compare"), (0, .methodref 48 162), (0, .nameAndType 163 154), (0, u "charCount"), (6, u "MAX_QUOTED_LENGTH"), (0, u "I"), (2, u "UNRESERVED_MARKS"), (0, u "Ljava/lang/String;"), (5, u "compareCodePoints"), (0, u "(Ljava/lang/String;Ljava/lang/String;)I")] 20

def k8m0 : Method := { name := "<init>", desc := "()V", sig := { parameters := [], returnType := none }, accessFlags := 2, code := none }
def k8c1 : Code := { maxStack := 2, maxLocals := 5, code := prog_10_method_7_code, exceptionTable := #[], attributes := #[] }
def k8m1 : Method := { name := "compareCodePoints", desc := "(Ljava/lang/String;Ljava/lang/String;)I", sig := { parameters := [(.object "java/lang/String"), (.object "java/lang/String")], returnType := some .int }, accessFlags := 9, code := some k8c1 }
/-- com/example/nuthatch/nuthatch/util/Text -/
def k8 : Class := { plain "com/example/nuthatch/nuthatch/util/Text" (some 0) with
  accessFlags := 49
  interfaces := #[]
  cf := some (fileOf pool8 8 #[] #[{ accessFlags := 2, nameIndex := 5, descriptorIndex := 6, attributes := #[] }, { accessFlags := 9, nameIndex := 181, descriptorIndex := 182, attributes := #[] }] 49 2 #[] #[{ accessFlags := 26, nameIndex := 170, descriptorIndex := 171, attributes := #[] }, { accessFlags := 26, nameIndex := 174, descriptorIndex := 175, attributes := #[] }, { accessFlags := 26, nameIndex := 11, descriptorIndex := 12, attributes := #[] }])
  fields := #[{ name := "MAX_QUOTED_LENGTH", type := .int, accessFlags := 26, slot := 0, constantValue := 0 }, { name := "UNRESERVED_MARKS", type := (.object "java/lang/String"), accessFlags := 26, slot := 1, constantValue := 0 }, { name := "WHITE_SPACE", type := (.object "java/util/regex/Pattern"), accessFlags := 26, slot := 2, constantValue := 0 }]
  methods := #[k8m0, k8m1]
  instanceTypes := #[]
  staticTypes := #[.int, (.object "java/lang/String"), (.object "java/util/regex/Pattern")]
  resolved := Array.replicate 203 none
  statics := none }

def pool9 : Array CpInfo := pool [(2, .class_ 4), (1, u "java/lang/Object"), (0, u "<init>"), (0, u "()V"), (1, .class_ 10), (1, u "java/lang/Number"), (2, .class_ 14), (0, u "java/io/Serializable"), (0, u "serialVersionUID"), (0, u "J")] 20

def k9m0 : Method := { name := "<init>", desc := "()V", sig := { parameters := [], returnType := none }, accessFlags := 1, code := none }
/-- java/lang/Number -/
def k9 : Class := { plain "java/lang/Number" (some 0) with
  accessFlags := 1057
  interfaces := #[2]
  cf := some (fileOf pool9 8 #[] #[{ accessFlags := 1, nameIndex := 5, descriptorIndex := 6, attributes := #[] }] 1057 2 #[13] #[{ accessFlags := 26, nameIndex := 15, descriptorIndex := 16, attributes := #[] }])
  fields := #[{ name := "serialVersionUID", type := .long, accessFlags := 26, slot := 0, constantValue := 0 }]
  methods := #[k9m0]
  instanceTypes := #[]
  staticTypes := #[.long]
  resolved := Array.replicate 37 none
  statics := none }

def pool10 : Array CpInfo := pool [(1, .class_ 2), (0, u "java/lang/Integer"), (16, u "digits"), (0, u "[C"), (39, u "(II)I"), (24, u "DigitOnes"), (0, u "[B"), (2, u "DigitTens"), (99, .class_ 190), (0, u "java/lang/Integer$IntegerCache"), (3, u "I"), (8, .class_ 204), (0, u "java/lang/Number"), (2, u "value"), (53, u "compare"), (40, u "TYPE"), (0, u "Ljava/lang/Class;"), (0, .class_ 305), (0, u "java/lang/Comparable"), (0, .class_ 307), (0, u "java/lang/constant/Constable"), (0, .class_ 309), (0, u "java/lang/constant/ConstantDesc"), (0, u "MIN_VALUE"), (1, u "MAX_VALUE"), (3, u "SIZE"), (1, u "BYTES"), (1, u "serialVersionUID"), (0, u "J")] 131

def k10c0 : Code := { maxStack := 2, maxLocals := 2, code := jdk_33_method_40_code, exceptionTable := #[], attributes := #[] }
def k10m0 : Method := { name := "compare", desc := "(II)I", sig := { parameters := [.int, .int], returnType := some .int }, accessFlags := 9, code := some k10c0 }
/-- java/lang/Integer -/
def k10 : Class := { plain "java/lang/Integer" (some 9) with
  accessFlags := 49
  interfaces := #[3, 5, 6]
  cf := some (fileOf pool10 1 #[.nestMembers #[189]] #[{ accessFlags := 9, nameIndex := 261, descriptorIndex := 60, attributes := #[] }] 49 203 #[304, 306, 308] #[{ accessFlags := 25, nameIndex := 310, descriptorIndex := 194, attributes := #[] }, { accessFlags := 25, nameIndex := 312, descriptorIndex := 194, attributes := #[] }, { accessFlags := 25, nameIndex := 302, descriptorIndex := 303, attributes := #[] }, { accessFlags := 24, nameIndex := 19, descriptorIndex := 20, attributes := #[] }, { accessFlags := 24, nameIndex := 89, descriptorIndex := 86, attributes := #[] }, { accessFlags := 24, nameIndex := 85, descriptorIndex := 86, attributes := #[] }, { accessFlags := 18, nameIndex := 207, descriptorIndex := 194, attributes := #[] }, { accessFlags := 25, nameIndex := 316, descriptorIndex := 194, attributes := #[] }, { accessFlags := 25, nameIndex := 318, descriptorIndex := 194, attributes := #[] }, { accessFlags := 26, nameIndex := 320, descriptorIndex := 321, attributes := #[] }])
  fields := #[{ name := "MIN_VALUE", type := .int, accessFlags := 25, slot := 0, constantValue := 0 }, { name := "MAX_VALUE", type := .int, accessFlags := 25, slot := 1, constantValue := 0 }, { name := "TYPE", type := (.object "java/lang/Class"), accessFlags := 25, slot := 2, constantValue := 0 }, { name := "digits", type := (.array .char), accessFlags := 24, slot := 3, constantValue := 0 }, { name := "DigitTens", type := (.array .byte), accessFlags := 24, slot := 4, constantValue := 0 }, { name := "DigitOnes", type := (.array .byte), accessFlags := 24, slot := 5, constantValue := 0 }, { name := "value", type := .int, accessFlags := 18, slot := 0, constantValue := 0 }, { name := "SIZE", type := .int, accessFlags := 25, slot := 6, constantValue := 0 }, { name := "BYTES", type := .int, accessFlags := 25, slot := 7, constantValue := 0 }, { name := "serialVersionUID", type := .long, accessFlags := 26, slot := 8, constantValue := 0 }]
  methods := #[k10m0]
  instanceTypes := #[.int]
  staticTypes := #[.int, .int, (.object "java/lang/Class"), (.array .char), (.array .byte), (.array .byte), .int, .int, .long]
  resolved := Array.replicate 453 none
  statics := none }

def pool11 : Array CpInfo := pool [(6, .class_ 8), (1, u "java/lang/Object"), (0, u "<init>"), (0, u "()V"), (0, .methodref 12 13), (0, .class_ 14), (0, .nameAndType 15 16), (0, u "java/lang/StringUTF16"), (0, u "newBytesLength"), (0, u "(I)I"), (3, .integer 1073741823), (23, .fieldref 12 45), (0, .nameAndType 46 47), (0, u "$assertionsDisabled"), (0, u "Z"), (11, .fieldref 12 60), (0, .nameAndType 61 62), (0, u "HI_BYTE_SHIFT"), (0, u "I"), (0, .fieldref 12 64), (0, .nameAndType 65 62), (0, u "LO_BYTE_SHIFT"), (5, .methodref 12 72), (0, .nameAndType 73 74), (0, u "getChar"), (0, u "([BI)C"), (0, .methodref 76 77), (0, .class_ 78), (0, .nameAndType 79 80), (0, u "java/lang/Character"), (0, u "isHighSurrogate"), (0, u "(C)Z"), (0, .methodref 76 82), (0, .nameAndType 83 80), (0, u "isLowSurrogate"), (0, .methodref 76 85), (0, .nameAndType 86 87), (0, u "toCodePoint"), (0, u "(CC)I"), (0, .methodref 12 89), (0, .nameAndType 90 91), (0, u "codePointAt"), (0, u "([BIIZ)I"), (15, .methodref 12 108), (0, .nameAndType 109 110), (0, u "newBytesFor"), (0, u "(I)[B"), (0, .methodref 12 112), (0, .nameAndType 113 114), (0, u "putChar"), (0, u "([BII)V"), (0, .methodref 12 116), (0, .nameAndType 117 118), (0, u "compress"), (0, u "([CI[BII)I"), (0, .methodref 12 120), (0, .nameAndType 121 122), (0, u "toBytes"), (0, u "([CII)[B"), (127, u "([BII)I"), (10, u "coderFromArrayLen"), (0, u "([BI)B"), (106, .class_ 371), (1, u "java/lang/StringUTF16$LinesSpliterator"), (58, u "MAX_LENGTH"), (196, .class_ 628), (0, u "java/lang/StringUTF16$CodePointsSpliterator"), (0, .class_ 630), (0, u "java/lang/StringUTF16$CharsSpliterator")] 4

def k11m0 : Method := { name := "<init>", desc := "()V", sig := { parameters := [], returnType := none }, accessFlags := 0, code := none }
def k11c1 : Code := { maxStack := 1, maxLocals := 1, code := jdk_52_method_2_code, exceptionTable := #[], attributes := #[] }
def k11m1 : Method := { name := "newBytesFor", desc := "(I)[B", sig := { parameters := [.int], returnType := some (.array .byte) }, accessFlags := 9, code := some k11c1 }
def k11c2 : Code := { maxStack := 4, maxLocals := 1, code := jdk_52_method_3_code, exceptionTable := #[], attributes := #[] }
def k11m2 : Method := { name := "newBytesLength", desc := "(I)I", sig := { parameters := [.int], returnType := some .int }, accessFlags := 9, code := some k11c2 }
def k11c3 : Code := { maxStack := 4, maxLocals := 3, code := jdk_52_method_4_code, exceptionTable := #[], attributes := #[] }
def k11m3 : Method := { name := "putChar", desc := "([BII)V", sig := { parameters := [(.array .byte), .int, .int], returnType := none }, accessFlags := 8, code := some k11c3 }
def k11c4 : Code := { maxStack := 3, maxLocals := 2, code := jdk_52_method_5_code, exceptionTable := #[], attributes := #[] }
def k11m4 : Method := { name := "getChar", desc := "([BI)C", sig := { parameters := [(.array .byte), .int], returnType := some .char }, accessFlags := 8, code := some k11c4 }
def k11c5 : Code := { maxStack := 2, maxLocals := 6, code := jdk_52_method_7_code, exceptionTable := #[], attributes := #[] }
def k11m5 : Method := { name := "codePointAt", desc := "([BIIZ)I", sig := { parameters := [(.array .byte), .int, .int, .boolean], returnType := some .int }, accessFlags := 10, code := some k11c5 }
def k11c6 : Code := { maxStack := 4, maxLocals := 3, code := jdk_52_method_8_code, exceptionTable := #[], attributes := #[] }
def k11m6 : Method := { name := "codePointAt", desc := "([BII)I", sig := { parameters := [(.array .byte), .int, .int], returnType := some .int }, accessFlags := 9, code := some k11c6 }
def k11c7 : Code := { maxStack := 4, maxLocals := 5, code := jdk_52_method_14_code, exceptionTable := #[], attributes := #[] }
def k11m7 : Method := { name := "toBytes", desc := "([CII)[B", sig := { parameters := [(.array .char), .int, .int], returnType := some (.array .byte) }, accessFlags := 9, code := some k11c7 }
def k11c8 : Code := { maxStack := 2, maxLocals := 2, code := jdk_52_method_15_code, exceptionTable := #[], attributes := #[] }
def k11m8 : Method := { name := "coderFromArrayLen", desc := "([BI)B", sig := { parameters := [(.array .byte), .int], returnType := some .byte }, accessFlags := 8, code := some k11c8 }
def k11c9 : Code := { maxStack := 5, maxLocals := 6, code := jdk_52_method_16_code, exceptionTable := #[], attributes := #[] }
def k11m9 : Method := { name := "compress", desc := "([CII)[B", sig := { parameters := [(.array .char), .int, .int], returnType := some (.array .byte) }, accessFlags := 9, code := some k11c9 }
def k11c10 : Code := { maxStack := 3, maxLocals := 7, code := jdk_52_method_21_code, exceptionTable := #[], attributes := #[] }
def k11m10 : Method := { name := "compress", desc := "([CI[BII)I", sig := { parameters := [(.array .char), .int, (.array .byte), .int, .int], returnType := some .int }, accessFlags := 9, code := some k11c10 }
/-- java/lang/StringUTF16 -/
def k11 : Class := { plain "java/lang/StringUTF16" (some 0) with
  accessFlags := 48
  interfaces := #[]
  cf := some (fileOf pool11 12 #[.nestMembers #[627, 629, 369]] #[{ accessFlags := 0, nameIndex := 9, descriptorIndex := 10, attributes := #[] }, { accessFlags := 9, nameIndex := 109, descriptorIndex := 110, attributes := #[] }, { accessFlags := 9, nameIndex := 15, descriptorIndex := 16, attributes := #[] }, { accessFlags := 8, nameIndex := 113, descriptorIndex := 114, attributes := #[] }, { accessFlags := 8, nameIndex := 73, descriptorIndex := 74, attributes := #[] }, { accessFlags := 10, nameIndex := 90, descriptorIndex := 91, attributes := #[] }, { accessFlags := 9, nameIndex := 90, descriptorIndex := 250, attributes := #[] }, { accessFlags := 9, nameIndex := 121, descriptorIndex := 122, attributes := #[] }, { accessFlags := 8, nameIndex := 261, descriptorIndex := 262, attributes := #[] }, { accessFlags := 9, nameIndex := 117, descriptorIndex := 122, attributes := #[] }, { accessFlags := 9, nameIndex := 117, descriptorIndex := 118, attributes := #[] }] 48 6 #[] #[{ accessFlags := 26, nameIndex := 61, descriptorIndex := 62, attributes := #[] }, { accessFlags := 26, nameIndex := 65, descriptorIndex := 62, attributes := #[] }, { accessFlags := 24, nameIndex := 430, descriptorIndex := 62, attributes := #[] }, { accessFlags := 4120, nameIndex := 46, descriptorIndex := 47, attributes := #[] }])
  fields := #[{ name := "HI_BYTE_SHIFT", type := .int, accessFlags := 26, slot := 0, constantValue := 0 }, { name := "LO_BYTE_SHIFT", type := .int, accessFlags := 26, slot := 1, constantValue := 0 }, { name := "MAX_LENGTH", type := .int, accessFlags := 24, slot := 2, constantValue := 0 }, { name := "$assertionsDisabled", type := .boolean, accessFlags := 4120, slot := 3, constantValue := 0 }]
  methods := #[k11m0, k11m1, k11m2, k11m3, k11m4, k11m5, k11m6, k11m7, k11m8, k11m9, k11m10]
  instanceTypes := #[]
  staticTypes := #[.int, .int, .int, .boolean]
  resolved := Array.replicate 635 none
  statics := some 1 }

def pool12 : Array CpInfo := pool [(2, .class_ 4), (1, u "java/lang/Object"), (0, u "<init>"), (0, u "()V"), (17, .class_ 26), (1, u "jdk/internal/util/Preconditions"), (6, u "checkIndex"), (21, .class_ 56), (0, u "jdk/internal/util/Preconditions$4"), (57, .class_ 115), (0, u "jdk/internal/util/Preconditions$1"), (7, u "SIOOBE_FORMATTER"), (0, u "Ljava/util/function/BiFunction;"), (0, .class_ 126), (0, u "jdk/internal/util/Preconditions$2"), (3, u "AIOOBE_FORMATTER"), (0, .class_ 132), (0, u "jdk/internal/util/Preconditions$3"), (3, u "IOOBE_FORMATTER"), (41, u "(IILjava/util/function/BiFunction;)I")] 15

def k12m0 : Method := { name := "<init>", desc := "()V", sig := { parameters := [], returnType := none }, accessFlags := 1, code := none }
def k12c1 : Code := { maxStack := 3, maxLocals := 3, code := jdk_41_method_11_code, exceptionTable := #[], attributes := #[] }
def k12m1 : Method := { name := "checkIndex", desc := "(IILjava/util/function/BiFunction;)I", sig := { parameters := [.int, .int, (.object "java/util/function/BiFunction")], returnType := some .int }, accessFlags := 9, code := some k12c1 }
/-- jdk/internal/util/Preconditions -/
def k12 : Class := { plain "jdk/internal/util/Preconditions" (some 0) with
  accessFlags := 33
  interfaces := #[]
  cf := some (fileOf pool12 24 #[.nestMembers #[55, 131, 125, 114]] #[{ accessFlags := 1, nameIndex := 5, descriptorIndex := 6, attributes := #[] }, { accessFlags := 9, nameIndex := 33, descriptorIndex := 178, attributes := #[] }] 33 2 #[] #[{ accessFlags := 25, nameIndex := 123, descriptorIndex := 124, attributes := #[] }, { accessFlags := 25, nameIndex := 130, descriptorIndex := 124, attributes := #[] }, { accessFlags := 25, nameIndex := 136, descriptorIndex := 124, attributes := #[] }])
  fields := #[{ name := "SIOOBE_FORMATTER", type := (.object "java/util/function/BiFunction"), accessFlags := 25, slot := 0, constantValue := 0 }, { name := "AIOOBE_FORMATTER", type := (.object "java/util/function/BiFunction"), accessFlags := 25, slot := 1, constantValue := 0 }, { name := "IOOBE_FORMATTER", type := (.object "java/util/function/BiFunction"), accessFlags := 25, slot := 2, constantValue := 0 }]
  methods := #[k12m0, k12m1]
  instanceTypes := #[]
  staticTypes := #[(.object "java/util/function/BiFunction"), (.object "java/util/function/BiFunction"), (.object "java/util/function/BiFunction")]
  resolved := Array.replicate 194 none
  statics := some 2 }

def pool13 : Array CpInfo := pool [(1, .class_ 2), (0, u "java/lang/Character"), (18, u "value"), (0, u "C"), (19, .class_ 44), (1, u "java/lang/Object"), (3, .class_ 50), (1, u "java/lang/Character$CharacterCache"), (22, .integer 65536), (1, .integer 55296), (0, .integer 56320), (0, .integer 57344), (2, u "isHighSurrogate"), (0, u "(C)Z"), (2, u "isLowSurrogate"), (0, .integer 4238353408), (12, u "toCodePoint"), (0, u "(CC)I"), (74, u "(I)I"), (109, u "$assertionsDisabled"), (0, u "Z"), (21, .class_ 309), (1, u "java/lang/Character$UnicodeBlock"), (73, u "TYPE"), (0, u "Ljava/lang/Class;"), (0, .class_ 386), (0, u "java/io/Serializable"), (0, .class_ 388), (0, u "java/lang/Comparable"), (0, .class_ 390), (0, u "java/lang/constant/Constable"), (0, u "MIN_RADIX"), (0, u "I"), (2, u "MAX_RADIX"), (1, u "MIN_VALUE"), (1, u "MAX_VALUE"), (3, u "UNASSIGNED"), (0, u "B"), (0, u "UPPERCASE_LETTER"), (1, u "LOWERCASE_LETTER"), (0, u "TITLECASE_LETTER"), (1, u "MODIFIER_LETTER"), (1, u "OTHER_LETTER"), (1, u "NON_SPACING_MARK"), (1, u "ENCLOSING_MARK"), (1, u "COMBINING_SPACING_MARK"), (1, u "DECIMAL_DIGIT_NUMBER"), (1, u "LETTER_NUMBER"), (1, u "OTHER_NUMBER"), (1, u "SPACE_SEPARATOR"), (1, u "LINE_SEPARATOR"), (1, u "PARAGRAPH_SEPARATOR"), (1, u "CONTROL"), (1, u "FORMAT"), (1, u "PRIVATE_USE"), (1, u "SURROGATE"), (1, u "DASH_PUNCTUATION"), (1, u "START_PUNCTUATION"), (1, u "END_PUNCTUATION"), (1, u "CONNECTOR_PUNCTUATION"), (1, u "OTHER_PUNCTUATION"), (1, u "MATH_SYMBOL"), (1, u "CURRENCY_SYMBOL"), (1, u "MODIFIER_SYMBOL"), (1, u "OTHER_SYMBOL"), (1, u "INITIAL_QUOTE_PUNCTUATION"), (1, u "FINAL_QUOTE_PUNCTUATION"), (1, u "ERROR"), (1, u "DIRECTIONALITY_UNDEFINED"), (0, u "DIRECTIONALITY_LEFT_TO_RIGHT"), (0, u "DIRECTIONALITY_RIGHT_TO_LEFT"), (0, u "DIRECTIONALITY_RIGHT_TO_LEFT_ARABIC"), (0, u "DIRECTIONALITY_EUROPEAN_NUMBER"), (0, u "DIRECTIONALITY_EUROPEAN_NUMBER_SEPARATOR"), (0, u "DIRECTIONALITY_EUROPEAN_NUMBER_TERMINATOR"), (0, u "DIRECTIONALITY_ARABIC_NUMBER"), (0, u "DIRECTIONALITY_COMMON_NUMBER_SEPARATOR"), (0, u "DIRECTIONALITY_NONSPACING_MARK"), (0, u "DIRECTIONALITY_BOUNDARY_NEUTRAL"), (0, u "DIRECTIONALITY_PARAGRAPH_SEPARATOR"), (0, u "DIRECTIONALITY_SEGMENT_SEPARATOR"), (0, u "DIRECTIONALITY_WHITESPACE"), (0, u "DIRECTIONALITY_OTHER_NEUTRALS"), (0, u "DIRECTIONALITY_LEFT_TO_RIGHT_EMBEDDING"), (0, u "DIRECTIONALITY_LEFT_TO_RIGHT_OVERRIDE"), (0, u "DIRECTIONALITY_RIGHT_TO_LEFT_EMBEDDING"), (0, u "DIRECTIONALITY_RIGHT_TO_LEFT_OVERRIDE"), (1, u "DIRECTIONALITY_POP_DIRECTIONAL_FORMAT"), (0, u "DIRECTIONALITY_LEFT_TO_RIGHT_ISOLATE"), (0, u "DIRECTIONALITY_RIGHT_TO_LEFT_ISOLATE"), (0, u "DIRECTIONALITY_FIRST_STRONG_ISOLATE"), (0, u "DIRECTIONALITY_POP_DIRECTIONAL_ISOLATE"), (0, u "MIN_HIGH_SURROGATE"), (0, u "MAX_HIGH_SURROGATE"), (1, u "MIN_LOW_SURROGATE"), (0, u "MAX_LOW_SURROGATE"), (1, u "MIN_SURROGATE"), (0, u "MAX_SURROGATE"), (0, u "MIN_SUPPLEMENTARY_CODE_POINT"), (0, u "MIN_CODE_POINT"), (0, u "MAX_CODE_POINT"), (1, u "serialVersionUID"), (0, u "J"), (2, u "SIZE"), (0, u "BYTES"), (29, u "charCount"), (58, .class_ 596), (0, u "java/lang/Character$UnicodeScript"), (0, .class_ 598), (0, u "java/lang/Character$Subset")] 5

def k13c0 : Code := { maxStack := 2, maxLocals := 1, code := jdk_89_method_14_code, exceptionTable := #[], attributes := #[] }
def k13m0 : Method := { name := "isHighSurrogate", desc := "(C)Z", sig := { parameters := [.char], returnType := some .boolean }, accessFlags := 9, code := some k13c0 }
def k13c1 : Code := { maxStack := 2, maxLocals := 1, code := jdk_89_method_15_code, exceptionTable := #[], attributes := #[] }
def k13m1 : Method := { name := "isLowSurrogate", desc := "(C)Z", sig := { parameters := [.char], returnType := some .boolean }, accessFlags := 9, code := some k13c1 }
def k13c2 : Code := { maxStack := 2, maxLocals := 1, code := jdk_89_method_18_code, exceptionTable := #[], attributes := #[] }
def k13m2 : Method := { name := "charCount", desc := "(I)I", sig := { parameters := [.int], returnType := some .int }, accessFlags := 9, code := some k13c2 }
def k13c3 : Code := { maxStack := 2, maxLocals := 2, code := jdk_89_method_19_code, exceptionTable := #[], attributes := #[] }
def k13m3 : Method := { name := "toCodePoint", desc := "(CC)I", sig := { parameters := [.char, .char], returnType := some .int }, accessFlags := 9, code := some k13c3 }
/-- java/lang/Character -/
def k13 : Class := { plain "java/lang/Character" (some 0) with
  accessFlags := 49
  interfaces := #[2, 3, 5]
  cf := some (fileOf pool13 1 #[.nestMembers #[48, 595, 307, 597]] #[{ accessFlags := 9, nameIndex := 80, descriptorIndex := 81, attributes := #[] }, { accessFlags := 9, nameIndex := 84, descriptorIndex := 81, attributes := #[] }, { accessFlags := 9, nameIndex := 536, descriptorIndex := 174, attributes := #[] }, { accessFlags := 9, nameIndex := 98, descriptorIndex := 99, attributes := #[] }] 49 42 #[385, 387, 389] #[{ accessFlags := 25, nameIndex := 391, descriptorIndex := 392, attributes := #[] }, { accessFlags := 25, nameIndex := 395, descriptorIndex := 392, attributes := #[] }, { accessFlags := 25, nameIndex := 397, descriptorIndex := 22, attributes := #[] }, { accessFlags := 25, nameIndex := 399, descriptorIndex := 22, attributes := #[] }, { accessFlags := 25, nameIndex := 383, descriptorIndex := 384, attributes := #[] }, { accessFlags := 25, nameIndex := 403, descriptorIndex := 404, attributes := #[] }, { accessFlags := 25, nameIndex := 405, descriptorIndex := 404, attributes := #[] }, { accessFlags := 25, nameIndex := 407, descriptorIndex := 404, attributes := #[] }, { accessFlags := 25, nameIndex := 408, descriptorIndex := 404, attributes := #[] }, { accessFlags := 25, nameIndex := 410, descriptorIndex := 404, attributes := #[] }, { accessFlags := 25, nameIndex := 412, descriptorIndex := 404, attributes := #[] }, { accessFlags := 25, nameIndex := 414, descriptorIndex := 404, attributes := #[] }, { accessFlags := 25, nameIndex := 416, descriptorIndex := 404, attributes := #[] }, { accessFlags := 25, nameIndex := 418, descriptorIndex := 404, attributes := #[] }, { accessFlags := 25, nameIndex := 420, descriptorIndex := 404, attributes := #[] }, { accessFlags := 25, nameIndex := 422, descriptorIndex := 404, attributes := #[] }, { accessFlags := 25, nameIndex := 424, descriptorIndex := 404, attributes := #[] }, { accessFlags := 25, nameIndex := 426, descriptorIndex := 404, attributes := #[] }, { accessFlags := 25, nameIndex := 428, descriptorIndex := 404, attributes := #[] }, { accessFlags := 25, nameIndex := 430, descriptorIndex := 404, attributes := #[] }, { accessFlags := 25, nameIndex := 432, descriptorIndex := 404, attributes := #[] }, { accessFlags := 25, nameIndex := 434, descriptorIndex := 404, attributes := #[] }, { accessFlags := 25, nameIndex := 436, descriptorIndex := 404, attributes := #[] }, { accessFlags := 25, nameIndex := 438, descriptorIndex := 404, attributes := #[] }, { accessFlags := 25, nameIndex := 440, descriptorIndex := 404, attributes := #[] }, { accessFlags := 25, nameIndex := 442, descriptorIndex := 404, attributes := #[] }, { accessFlags := 25, nameIndex := 444, descriptorIndex := 404, attributes := #[] }, { accessFlags := 25, nameIndex := 446, descriptorIndex := 404, attributes := #[] }, { accessFlags := 25, nameIndex := 448, descriptorIndex := 404, attributes := #[] }, { accessFlags := 25, nameIndex := 450, descriptorIndex := 404, attributes := #[] }, { accessFlags := 25, nameIndex := 452, descriptorIndex := 404, attributes := #[] }, { accessFlags := 25, nameIndex := 454, descriptorIndex := 404, attributes := #[] }, { accessFlags := 25, nameIndex := 456, descriptorIndex := 404, attributes := #[] }, { accessFlags := 25, nameIndex := 458, descriptorIndex := 404, attributes := #[] }, { accessFlags := 25, nameIndex := 460, descriptorIndex := 404, attributes := #[] }, { accessFlags := 24, nameIndex := 462, descriptorIndex := 392, attributes := #[] }, { accessFlags := 25, nameIndex := 464, descriptorIndex := 404, attributes := #[] }, { accessFlags := 25, nameIndex := 465, descriptorIndex := 404, attributes := #[] }, { accessFlags := 25, nameIndex := 466, descriptorIndex := 404, attributes := #[] }, { accessFlags := 25, nameIndex := 467, descriptorIndex := 404, attributes := #[] }, { accessFlags := 25, nameIndex := 468, descriptorIndex := 404, attributes := #[] }, { accessFlags := 25, nameIndex := 469, descriptorIndex := 404, attributes := #[] }, { accessFlags := 25, nameIndex := 470, descriptorIndex := 404, attributes := #[] }, { accessFlags := 25, nameIndex := 471, descriptorIndex := 404, attributes := #[] }, { accessFlags := 25, nameIndex := 472, descriptorIndex := 404, attributes := #[] }, { accessFlags := 25, nameIndex := 473, descriptorIndex := 404, attributes := #[] }, { accessFlags := 25, nameIndex := 474, descriptorIndex := 404, attributes := #[] }, { accessFlags := 25, nameIndex := 475, descriptorIndex := 404, attributes := #[] }, { accessFlags := 25, nameIndex := 476, descriptorIndex := 404, attributes := #[] }, { accessFlags := 25, nameIndex := 477, descriptorIndex := 404, attributes := #[] }, { accessFlags := 25, nameIndex := 478, descriptorIndex := 404, attributes := #[] }, { accessFlags := 25, nameIndex := 479, descriptorIndex := 404, attributes := #[] }, { accessFlags := 25, nameIndex := 480, descriptorIndex := 404, attributes := #[] }, { accessFlags := 25, nameIndex := 481, descriptorIndex := 404, attributes := #[] }, { accessFlags := 25, nameIndex := 482, descriptorIndex := 404, attributes := #[] }, { accessFlags := 25, nameIndex := 484, descriptorIndex := 404, attributes := #[] }, { accessFlags := 25, nameIndex := 485, descriptorIndex := 404, attributes := #[] }, { accessFlags := 25, nameIndex := 486, descriptorIndex := 404, attributes := #[] }, { accessFlags := 25, nameIndex := 487, descriptorIndex := 404, attributes := #[] }, { accessFlags := 25, nameIndex := 488, descriptorIndex := 404, attributes := #[] }, { accessFlags := 25, nameIndex := 489, descriptorIndex := 22, attributes := #[] }, { accessFlags := 25, nameIndex := 490, descriptorIndex := 22, attributes := #[] }, { accessFlags := 25, nameIndex := 492, descriptorIndex := 22, attributes := #[] }, { accessFlags := 25, nameIndex := 493, descriptorIndex := 22, attributes := #[] }, { accessFlags := 25, nameIndex := 495, descriptorIndex := 22, attributes := #[] }, { accessFlags := 25, nameIndex := 496, descriptorIndex := 22, attributes := #[] }, { accessFlags := 25, nameIndex := 497, descriptorIndex := 392, attributes := #[] }, { accessFlags := 25, nameIndex := 498, descriptorIndex := 392, attributes := #[] }, { accessFlags := 25, nameIndex := 499, descriptorIndex := 392, attributes := #[] }, { accessFlags := 18, nameIndex := 21, descriptorIndex := 22, attributes := #[] }, { accessFlags := 26, nameIndex := 501, descriptorIndex := 502, attributes := #[] }, { accessFlags := 25, nameIndex := 505, descriptorIndex := 392, attributes := #[] }, { accessFlags := 25, nameIndex := 506, descriptorIndex := 392, attributes := #[] }, { accessFlags := 4120, nameIndex := 284, descriptorIndex := 285, attributes := #[] }])
  fields := #[{ name := "MIN_RADIX", type := .int, accessFlags := 25, slot := 0, constantValue := 0 }, { name := "MAX_RADIX", type := .int, accessFlags := 25, slot := 1, constantValue := 0 }, { name := "MIN_VALUE", type := .char, accessFlags := 25, slot := 2, constantValue := 0 }, { name := "MAX_VALUE", type := .char, accessFlags := 25, slot := 3, constantValue := 0 }, { name := "TYPE", type := (.object "java/lang/Class"), accessFlags := 25, slot := 4, constantValue := 0 }, { name := "UNASSIGNED", type := .byte, accessFlags := 25, slot := 5, constantValue := 0 }, { name := "UPPERCASE_LETTER", type := .byte, accessFlags := 25, slot := 6, constantValue := 0 }, { name := "LOWERCASE_LETTER", type := .byte, accessFlags := 25, slot := 7, constantValue := 0 }, { name := "TITLECASE_LETTER", type := .byte, accessFlags := 25, slot := 8, constantValue := 0 }, { name := "MODIFIER_LETTER", type := .byte, accessFlags := 25, slot := 9, constantValue := 0 }, { name := "OTHER_LETTER", type := .byte, accessFlags := 25, slot := 10, constantValue := 0 }, { name := "NON_SPACING_MARK", type := .byte, accessFlags := 25, slot := 11, constantValue := 0 }, { name := "ENCLOSING_MARK", type := .byte, accessFlags := 25, slot := 12, constantValue := 0 }, { name := "COMBINING_SPACING_MARK", type := .byte, accessFlags := 25, slot := 13, constantValue := 0 }, { name := "DECIMAL_DIGIT_NUMBER", type := .byte, accessFlags := 25, slot := 14, constantValue := 0 }, { name := "LETTER_NUMBER", type := .byte, accessFlags := 25, slot := 15, constantValue := 0 }, { name := "OTHER_NUMBER", type := .byte, accessFlags := 25, slot := 16, constantValue := 0 }, { name := "SPACE_SEPARATOR", type := .byte, accessFlags := 25, slot := 17, constantValue := 0 }, { name := "LINE_SEPARATOR", type := .byte, accessFlags := 25, slot := 18, constantValue := 0 }, { name := "PARAGRAPH_SEPARATOR", type := .byte, accessFlags := 25, slot := 19, constantValue := 0 }, { name := "CONTROL", type := .byte, accessFlags := 25, slot := 20, constantValue := 0 }, { name := "FORMAT", type := .byte, accessFlags := 25, slot := 21, constantValue := 0 }, { name := "PRIVATE_USE", type := .byte, accessFlags := 25, slot := 22, constantValue := 0 }, { name := "SURROGATE", type := .byte, accessFlags := 25, slot := 23, constantValue := 0 }, { name := "DASH_PUNCTUATION", type := .byte, accessFlags := 25, slot := 24, constantValue := 0 }, { name := "START_PUNCTUATION", type := .byte, accessFlags := 25, slot := 25, constantValue := 0 }, { name := "END_PUNCTUATION", type := .byte, accessFlags := 25, slot := 26, constantValue := 0 }, { name := "CONNECTOR_PUNCTUATION", type := .byte, accessFlags := 25, slot := 27, constantValue := 0 }, { name := "OTHER_PUNCTUATION", type := .byte, accessFlags := 25, slot := 28, constantValue := 0 }, { name := "MATH_SYMBOL", type := .byte, accessFlags := 25, slot := 29, constantValue := 0 }, { name := "CURRENCY_SYMBOL", type := .byte, accessFlags := 25, slot := 30, constantValue := 0 }, { name := "MODIFIER_SYMBOL", type := .byte, accessFlags := 25, slot := 31, constantValue := 0 }, { name := "OTHER_SYMBOL", type := .byte, accessFlags := 25, slot := 32, constantValue := 0 }, { name := "INITIAL_QUOTE_PUNCTUATION", type := .byte, accessFlags := 25, slot := 33, constantValue := 0 }, { name := "FINAL_QUOTE_PUNCTUATION", type := .byte, accessFlags := 25, slot := 34, constantValue := 0 }, { name := "ERROR", type := .int, accessFlags := 24, slot := 35, constantValue := 0 }, { name := "DIRECTIONALITY_UNDEFINED", type := .byte, accessFlags := 25, slot := 36, constantValue := 0 }, { name := "DIRECTIONALITY_LEFT_TO_RIGHT", type := .byte, accessFlags := 25, slot := 37, constantValue := 0 }, { name := "DIRECTIONALITY_RIGHT_TO_LEFT", type := .byte, accessFlags := 25, slot := 38, constantValue := 0 }, { name := "DIRECTIONALITY_RIGHT_TO_LEFT_ARABIC", type := .byte, accessFlags := 25, slot := 39, constantValue := 0 }, { name := "DIRECTIONALITY_EUROPEAN_NUMBER", type := .byte, accessFlags := 25, slot := 40, constantValue := 0 }, { name := "DIRECTIONALITY_EUROPEAN_NUMBER_SEPARATOR", type := .byte, accessFlags := 25, slot := 41, constantValue := 0 }, { name := "DIRECTIONALITY_EUROPEAN_NUMBER_TERMINATOR", type := .byte, accessFlags := 25, slot := 42, constantValue := 0 }, { name := "DIRECTIONALITY_ARABIC_NUMBER", type := .byte, accessFlags := 25, slot := 43, constantValue := 0 }, { name := "DIRECTIONALITY_COMMON_NUMBER_SEPARATOR", type := .byte, accessFlags := 25, slot := 44, constantValue := 0 }, { name := "DIRECTIONALITY_NONSPACING_MARK", type := .byte, accessFlags := 25, slot := 45, constantValue := 0 }, { name := "DIRECTIONALITY_BOUNDARY_NEUTRAL", type := .byte, accessFlags := 25, slot := 46, constantValue := 0 }, { name := "DIRECTIONALITY_PARAGRAPH_SEPARATOR", type := .byte, accessFlags := 25, slot := 47, constantValue := 0 }, { name := "DIRECTIONALITY_SEGMENT_SEPARATOR", type := .byte, accessFlags := 25, slot := 48, constantValue := 0 }, { name := "DIRECTIONALITY_WHITESPACE", type := .byte, accessFlags := 25, slot := 49, constantValue := 0 }, { name := "DIRECTIONALITY_OTHER_NEUTRALS", type := .byte, accessFlags := 25, slot := 50, constantValue := 0 }, { name := "DIRECTIONALITY_LEFT_TO_RIGHT_EMBEDDING", type := .byte, accessFlags := 25, slot := 51, constantValue := 0 }, { name := "DIRECTIONALITY_LEFT_TO_RIGHT_OVERRIDE", type := .byte, accessFlags := 25, slot := 52, constantValue := 0 }, { name := "DIRECTIONALITY_RIGHT_TO_LEFT_EMBEDDING", type := .byte, accessFlags := 25, slot := 53, constantValue := 0 }, { name := "DIRECTIONALITY_RIGHT_TO_LEFT_OVERRIDE", type := .byte, accessFlags := 25, slot := 54, constantValue := 0 }, { name := "DIRECTIONALITY_POP_DIRECTIONAL_FORMAT", type := .byte, accessFlags := 25, slot := 55, constantValue := 0 }, { name := "DIRECTIONALITY_LEFT_TO_RIGHT_ISOLATE", type := .byte, accessFlags := 25, slot := 56, constantValue := 0 }, { name := "DIRECTIONALITY_RIGHT_TO_LEFT_ISOLATE", type := .byte, accessFlags := 25, slot := 57, constantValue := 0 }, { name := "DIRECTIONALITY_FIRST_STRONG_ISOLATE", type := .byte, accessFlags := 25, slot := 58, constantValue := 0 }, { name := "DIRECTIONALITY_POP_DIRECTIONAL_ISOLATE", type := .byte, accessFlags := 25, slot := 59, constantValue := 0 }, { name := "MIN_HIGH_SURROGATE", type := .char, accessFlags := 25, slot := 60, constantValue := 0 }, { name := "MAX_HIGH_SURROGATE", type := .char, accessFlags := 25, slot := 61, constantValue := 0 }, { name := "MIN_LOW_SURROGATE", type := .char, accessFlags := 25, slot := 62, constantValue := 0 }, { name := "MAX_LOW_SURROGATE", type := .char, accessFlags := 25, slot := 63, constantValue := 0 }, { name := "MIN_SURROGATE", type := .char, accessFlags := 25, slot := 64, constantValue := 0 }, { name := "MAX_SURROGATE", type := .char, accessFlags := 25, slot := 65, constantValue := 0 }, { name := "MIN_SUPPLEMENTARY_CODE_POINT", type := .int, accessFlags := 25, slot := 66, constantValue := 0 }, { name := "MIN_CODE_POINT", type := .int, accessFlags := 25, slot := 67, constantValue := 0 }, { name := "MAX_CODE_POINT", type := .int, accessFlags := 25, slot := 68, constantValue := 0 }, { name := "value", type := .char, accessFlags := 18, slot := 0, constantValue := 0 }, { name := "serialVersionUID", type := .long, accessFlags := 26, slot := 69, constantValue := 0 }, { name := "SIZE", type := .int, accessFlags := 25, slot := 70, constantValue := 0 }, { name := "BYTES", type := .int, accessFlags := 25, slot := 71, constantValue := 0 }, { name := "$assertionsDisabled", type := .boolean, accessFlags := 4120, slot := 72, constantValue := 0 }]
  methods := #[k13m0, k13m1, k13m2, k13m3]
  instanceTypes := #[.char]
  staticTypes := #[.int, .int, .char, .char, (.object "java/lang/Class"), .byte, .byte, .byte, .byte, .byte, .byte, .byte, .byte, .byte, .byte, .byte, .byte, .byte, .byte, .byte, .byte, .byte, .byte, .byte, .byte, .byte, .byte, .byte, .byte, .byte, .byte, .byte, .byte, .byte, .byte, .int, .byte, .byte, .byte, .byte, .byte, .byte, .byte, .byte, .byte, .byte, .byte, .byte, .byte, .byte, .byte, .byte, .byte, .byte, .byte, .byte, .byte, .byte, .byte, .byte, .char, .char, .char, .char, .char, .char, .int, .int, .int, .long, .int, .int, .boolean]
  resolved := Array.replicate 604 none
  statics := none }

def pool14 : Array CpInfo := pool [(4, .class_ 6), (1, u "java/lang/Object"), (0, u "<init>"), (0, u "()V"), (5, .class_ 16), (1, u "java/lang/StringLatin1"), (104, u "$assertionsDisabled"), (0, u "Z"), (98, .class_ 223), (1, u "java/lang/StringLatin1$LinesSpliterator"), (166, .class_ 391), (0, u "java/lang/StringLatin1$CharsSpliterator")] 3

def k14m0 : Method := { name := "<init>", desc := "()V", sig := { parameters := [], returnType := none }, accessFlags := 0, code := none }
/-- java/lang/StringLatin1 -/
def k14 : Class := { plain "java/lang/StringLatin1" (some 0) with
  accessFlags := 48
  interfaces := #[]
  cf := some (fileOf pool14 14 #[.nestMembers #[390, 221]] #[{ accessFlags := 0, nameIndex := 7, descriptorIndex := 8, attributes := #[] }] 48 4 #[] #[{ accessFlags := 4120, nameIndex := 121, descriptorIndex := 122, attributes := #[] }])
  fields := #[{ name := "$assertionsDisabled", type := .boolean, accessFlags := 4120, slot := 0, constantValue := 0 }]
  methods := #[k14m0]
  instanceTypes := #[]
  staticTypes := #[.boolean]
  resolved := Array.replicate 395 none
  statics := none }

def pool15 : Array CpInfo := pool [(9, u "<init>"), (6, .class_ 18), (1, u "java/lang/Object"), (0, u "()V"), (1, .class_ 23), (1, u "jdk/internal/util/ArraysSupport"), (0, u "LOG2_ARRAY_LONG_INDEX_SCALE"), (0, u "I"), (2, u "U"), (0, u "Ljdk/internal/misc/Unsafe;"), (8, u "BIG_ENDIAN"), (0, u "Z"), (8, u "LOG2_BYTE_BIT_SIZE"), (4, u "LOG2_ARRAY_INT_INDEX_SCALE"), (54, u "JLA"), (0, u "Ljdk/internal/access/JavaLangAccess;"), (11, u "LOG2_ARRAY_BOOLEAN_INDEX_SCALE"), (9, u "LOG2_ARRAY_BYTE_INDEX_SCALE"), (5, u "LOG2_ARRAY_CHAR_INDEX_SCALE"), (5, u "LOG2_ARRAY_SHORT_INDEX_SCALE"), (18, u "LOG2_ARRAY_FLOAT_INDEX_SCALE"), (24, u "LOG2_ARRAY_DOUBLE_INDEX_SCALE"), (89, u "T_BOOLEAN"), (2, u "T_CHAR"), (1, u "T_FLOAT"), (1, u "T_DOUBLE"), (1, u "T_BYTE"), (1, u "T_SHORT"), (1, u "T_INT"), (1, u "T_LONG"), (1, u "SOFT_MAX_ARRAY_LENGTH")] 83

def k15m0 : Method := { name := "<init>", desc := "()V", sig := { parameters := [], returnType := none }, accessFlags := 2, code := none }
/-- jdk/internal/util/ArraysSupport -/
def k15 : Class := { plain "jdk/internal/util/ArraysSupport" (some 0) with
  accessFlags := 33
  interfaces := #[]
  cf := some (fileOf pool15 21 #[] #[{ accessFlags := 2, nameIndex := 9, descriptorIndex := 19, attributes := #[] }] 33 16 #[] #[{ accessFlags := 24, nameIndex := 28, descriptorIndex := 29, attributes := #[] }, { accessFlags := 26, nameIndex := 38, descriptorIndex := 39, attributes := #[] }, { accessFlags := 25, nameIndex := 121, descriptorIndex := 25, attributes := #[] }, { accessFlags := 25, nameIndex := 131, descriptorIndex := 25, attributes := #[] }, { accessFlags := 25, nameIndex := 137, descriptorIndex := 25, attributes := #[] }, { accessFlags := 25, nameIndex := 143, descriptorIndex := 25, attributes := #[] }, { accessFlags := 25, nameIndex := 53, descriptorIndex := 25, attributes := #[] }, { accessFlags := 25, nameIndex := 24, descriptorIndex := 25, attributes := #[] }, { accessFlags := 25, nameIndex := 162, descriptorIndex := 25, attributes := #[] }, { accessFlags := 25, nameIndex := 187, descriptorIndex := 25, attributes := #[] }, { accessFlags := 26, nameIndex := 48, descriptorIndex := 25, attributes := #[] }, { accessFlags := 25, nameIndex := 277, descriptorIndex := 25, attributes := #[] }, { accessFlags := 25, nameIndex := 280, descriptorIndex := 25, attributes := #[] }, { accessFlags := 25, nameIndex := 282, descriptorIndex := 25, attributes := #[] }, { accessFlags := 25, nameIndex := 284, descriptorIndex := 25, attributes := #[] }, { accessFlags := 25, nameIndex := 286, descriptorIndex := 25, attributes := #[] }, { accessFlags := 25, nameIndex := 288, descriptorIndex := 25, attributes := #[] }, { accessFlags := 25, nameIndex := 290, descriptorIndex := 25, attributes := #[] }, { accessFlags := 25, nameIndex := 292, descriptorIndex := 25, attributes := #[] }, { accessFlags := 26, nameIndex := 108, descriptorIndex := 109, attributes := #[] }, { accessFlags := 25, nameIndex := 294, descriptorIndex := 25, attributes := #[] }])
  fields := #[{ name := "U", type := (.object "jdk/internal/misc/Unsafe"), accessFlags := 24, slot := 0, constantValue := 0 }, { name := "BIG_ENDIAN", type := .boolean, accessFlags := 26, slot := 1, constantValue := 0 }, { name := "LOG2_ARRAY_BOOLEAN_INDEX_SCALE", type := .int, accessFlags := 25, slot := 2, constantValue := 0 }, { name := "LOG2_ARRAY_BYTE_INDEX_SCALE", type := .int, accessFlags := 25, slot := 3, constantValue := 0 }, { name := "LOG2_ARRAY_CHAR_INDEX_SCALE", type := .int, accessFlags := 25, slot := 4, constantValue := 0 }, { name := "LOG2_ARRAY_SHORT_INDEX_SCALE", type := .int, accessFlags := 25, slot := 5, constantValue := 0 }, { name := "LOG2_ARRAY_INT_INDEX_SCALE", type := .int, accessFlags := 25, slot := 6, constantValue := 0 }, { name := "LOG2_ARRAY_LONG_INDEX_SCALE", type := .int, accessFlags := 25, slot := 7, constantValue := 0 }, { name := "LOG2_ARRAY_FLOAT_INDEX_SCALE", type := .int, accessFlags := 25, slot := 8, constantValue := 0 }, { name := "LOG2_ARRAY_DOUBLE_INDEX_SCALE", type := .int, accessFlags := 25, slot := 9, constantValue := 0 }, { name := "LOG2_BYTE_BIT_SIZE", type := .int, accessFlags := 26, slot := 10, constantValue := 0 }, { name := "T_BOOLEAN", type := .int, accessFlags := 25, slot := 11, constantValue := 0 }, { name := "T_CHAR", type := .int, accessFlags := 25, slot := 12, constantValue := 0 }, { name := "T_FLOAT", type := .int, accessFlags := 25, slot := 13, constantValue := 0 }, { name := "T_DOUBLE", type := .int, accessFlags := 25, slot := 14, constantValue := 0 }, { name := "T_BYTE", type := .int, accessFlags := 25, slot := 15, constantValue := 0 }, { name := "T_SHORT", type := .int, accessFlags := 25, slot := 16, constantValue := 0 }, { name := "T_INT", type := .int, accessFlags := 25, slot := 17, constantValue := 0 }, { name := "T_LONG", type := .int, accessFlags := 25, slot := 18, constantValue := 0 }, { name := "JLA", type := (.object "jdk/internal/access/JavaLangAccess"), accessFlags := 26, slot := 19, constantValue := 0 }, { name := "SOFT_MAX_ARRAY_LENGTH", type := .int, accessFlags := 25, slot := 20, constantValue := 0 }]
  methods := #[k15m0]
  instanceTypes := #[]
  staticTypes := #[(.object "jdk/internal/misc/Unsafe"), .boolean, .int, .int, .int, .int, .int, .int, .int, .int, .int, .int, .int, .int, .int, .int, .int, .int, .int, (.object "jdk/internal/access/JavaLangAccess"), .int]
  resolved := Array.replicate 378 none
  statics := none }

def pool16 : Array CpInfo := pool [(1, u "java/lang/Cloneable"), (0, .class_ 1), (0, u "java/lang/Object"), (0, .class_ 3)] 3

/-- java/lang/Cloneable -/
def k16 : Class := { plain "java/lang/Cloneable" (some 0) with
  accessFlags := 1537
  interfaces := #[]
  cf := some (fileOf pool16 2 #[] #[] 1537 4 #[] #[])
  fields := #[]
  methods := #[]
  instanceTypes := #[]
  staticTypes := #[]
  resolved := Array.replicate 8 none
  statics := none }

/-- the primitive byte -/
def k17 : Class := { plain "byte" none with kind := .primitive 'B', accessFlags := 0x411 }
/-- [B -/
def k18 : Class := { plain "[B" (some 0) with kind := .array 17 .byte, interfaces := #[16, 2], accessFlags := 1041 }

/-- the primitive char -/
def k19 : Class := { plain "char" none with kind := .primitive 'C', accessFlags := 0x411 }
/-- [C -/
def k20 : Class := { plain "[C" (some 0) with kind := .array 19 .char, interfaces := #[16, 2], accessFlags := 1041 }

/-- the primitive int -/
def k21 : Class := { plain "int" none with kind := .primitive 'I', accessFlags := 0x411 }
/-- [I -/
def k22 : Class := { plain "[I" (some 0) with kind := .array 21 .int, interfaces := #[16, 2], accessFlags := 1041 }

def heap : Heap := #[{ cls := 7, slots := #[.long 0, .int 1, .null, .int 0, .null, .int 0, .int 0], vm := .statics 7 },
  { cls := 11, slots := #[.int 0, .int 8, .int 0, .int 1], vm := .statics 11 },
  { cls := 12, slots := #[.null, .null, .null], vm := .statics 12 }]
def classes : Array Class := #[k0, k1, k2, k3, k4, k5, k6, k7, k8, k9, k10, k11, k12, k13, k14, k15, k16, k17, k18, k19, k20, k21, k22]
def interned : List (Array UInt16 × Addr) := []
def slotsUsed : Nat := 14
def theMethod : MethodId := ⟨1, 1⟩
def args0 : Array Value := #[.long 5, .long 6, .int 7]
def aboutOver (below : List Frame) : State where
  vm := { classes := classes, interned := interned.toArray }
  heap := heap
  slotsUsed := slotsUsed
  threads := #[{ frames := .invoking theMethod args0 :: below }]
def below0 : List Frame := [.native { method := ⟨0, 0⟩, args := #[] }]
def about1 : State := aboutOver below0
def p0 : Program := .bare "" "" ""
def e0 : Env := launch0.env 0 0 0
theorem w_frames : about1.frames = Frame.invoking theMethod args0 :: below0 := rfl
set_option maxRecDepth 65536 in
theorem w_args : argsFit about1.vm theMethod args0 = true := by decide +kernel
set_option maxRecDepth 65536 in
theorem w_heap : heapFits about1 = true := by decide +kernel
set_option maxRecDepth 65536 in
theorem w_runnable : about1.curStatus? = some .runnable := by decide +kernel
set_option maxRecDepth 65536 in
theorem w_alone : about1.alone = true := by decide +kernel
set_option maxRecDepth 65536 in
theorem w_named : about1.methodNamed? x = some theMethod := by decide +kernel
set_option maxRecDepth 65536 in
theorem w_hears : about1.hears theMethod below0 = true := by decide +kernel
set_option maxRecDepth 65536 in
theorem w_ripe : about1.ripe theMethod args0 below0 = true := by decide +kernel
theorem w_running : about1.status = .running := rfl
set_option maxRecDepth 65536 in
theorem w_room : about1.hasRoom e0.platform room_1 = true :=
  launch0.hasRoom_least _ room_1 (by decide +kernel) (by decide +kernel) (by decide +kernel) (by decide +kernel) (by decide +kernel) (by decide +kernel)
theorem allAtoms_all (ts : List Jvm.Cond) (a : Array Jvm.Value) (st : Jvm.State) : (allAtoms ts).before a st = ts.all (fun c => c.before a st) := by
  induction ts with
  | nil => rfl
  | cons c t ih =>
    show (Jvm.Cond.and c (allAtoms t)).before a st = _
    rw [Jvm.Cond.before_and, ih, List.all_cons]
def words1 : List Jvm.Cond := Jvm.Cond.code x code maxLocals ret :: tables_1
/-- a 'code' word, met by the world's own term for the bytes: nothing is compared byte by byte -/
theorem code_word {y : MethodName} {bytes : ByteArray} {mx : Nat} {rt : Option FieldType} {a : Array Value} {s : State} {m : MethodId} {meth : Method} {c : Code} (h1 : s.methodNamed? y = some m) (h2 : s.vm.method? m = some meth) (h3 : meth.code = some c) (h4 : c.code = bytes)
    (h5 : (c.maxLocals == mx && c.exceptionTable.isEmpty && decide (c.maxStack ≤ mostOperands) && decide (meth.sig.returnType = rt) && !meth.locks && decide (parseMethodDescriptor y.desc = some meth.sig)) = true) : (Jvm.Cond.code y bytes mx rt).before a s = true := by
  simp only [Bool.and_eq_true, beq_iff_eq, Bool.not_eq_true', decide_eq_true_eq] at h5
  obtain ⟨⟨⟨⟨⟨g1, g2⟩, g3⟩, g4⟩, g5⟩, g6⟩ := h5
  simp [Cond.before, Cond.holds, Cond.value, h1, h2, h3, h4, g1, g2, g3, g4, g5, g6]
def isCode : Jvm.Cond → Bool
  | .code _ _ _ _ => true
  | _ => false
theorem all_split {L : List Jvm.Cond} {P : Jvm.Cond → Bool} (h1 : L.all (fun c => isCode c || P c) = true) (h2 : ∀ c ∈ L.filter isCode, P c = true) : L.all P = true := by
  refine List.all_eq_true.mpr fun c hc => ?_
  have h := List.all_eq_true.mp h1 c hc
  rcases Bool.eq_false_or_eq_true (isCode c) with hi | hi
  · exact h2 c (List.mem_filter.mpr ⟨hc, hi⟩)
  · simpa [hi] using h
set_option maxRecDepth 65536 in
theorem w_c0 : (Jvm.Cond.code x code maxLocals ret).before args0 about1 = true := code_word (m := ⟨1, 1⟩) (meth := k1m1) (c := k1c1) (by decide +kernel) rfl rfl rfl (by decide +kernel)
set_option maxRecDepth 65536 in
theorem w_c1 : (Jvm.Cond.code ({ cls := "com/example/nuthatch/nuthatch/util/TextCompareCodePointsPinLaw", name := "draw", desc := "(J)C" } : Jvm.MethodName) method_3_code (4 : Nat) (Option.some Jvm.ClassFile.FieldType.char)).before args0 about1 = true := code_word (m := ⟨1, 2⟩) (meth := k1m2) (c := k1c2) (by decide +kernel) rfl rfl rfl (by decide +kernel)
set_option maxRecDepth 65536 in
theorem w_c2 : (Jvm.Cond.code ({ cls := "com/example/nuthatch/nuthatch/util/TextCompareCodePointsPinLaw", name := "make", desc := "(CCCI)Ljava/lang/String;" } : Jvm.MethodName) method_4_code (4 : Nat) (Option.some (Jvm.ClassFile.FieldType.object "java/lang/String"))).before args0 about1 = true := code_word (m := ⟨1, 3⟩) (meth := k1m3) (c := k1c3) (by decide +kernel) rfl rfl rfl (by decide +kernel)
set_option maxRecDepth 65536 in
theorem w_c3 : (Jvm.Cond.code ({ cls := "java/lang/String", name := "<init>", desc := "([C)V" } : Jvm.MethodName) jdk_42_method_3_code (2 : Nat) (Option.none : Option Jvm.ClassFile.FieldType)).before args0 about1 = true := code_word (m := ⟨7, 1⟩) (meth := k7m1) (c := k7c1) (by decide +kernel) rfl rfl rfl (by decide +kernel)
set_option maxRecDepth 65536 in
theorem w_c4 : (Jvm.Cond.code ({ cls := "java/lang/String", name := "<init>", desc := "([CIILjava/lang/Void;)V" } : Jvm.MethodName) jdk_42_method_149_code (6 : Nat) (Option.none : Option Jvm.ClassFile.FieldType)).before args0 about1 = true := code_word (m := ⟨7, 4⟩) (meth := k7m4) (c := k7c4) (by decide +kernel) rfl rfl rfl (by decide +kernel)
set_option maxRecDepth 65536 in
theorem w_c5 : (Jvm.Cond.code ({ cls := "java/lang/Object", name := "<init>", desc := "()V" } : Jvm.MethodName) object_method_1_code (1 : Nat) (Option.none : Option Jvm.ClassFile.FieldType)).before args0 about1 = true := code_word (m := ⟨0, 0⟩) (meth := k0m0) (c := k0c0) (by decide +kernel) rfl rfl rfl (by decide +kernel)
set_option maxRecDepth 65536 in
theorem w_c6 : (Jvm.Cond.code ({ cls := "com/example/nuthatch/nuthatch/util/Text", name := "compareCodePoints", desc := "(Ljava/lang/String;Ljava/lang/String;)I" } : Jvm.MethodName) prog_10_method_7_code (5 : Nat) (Option.some Jvm.ClassFile.FieldType.int)).before args0 about1 = true := code_word (m := ⟨8, 1⟩) (meth := k8m1) (c := k8c1) (by decide +kernel) rfl rfl rfl (by decide +kernel)
set_option maxRecDepth 65536 in
theorem w_c7 : (Jvm.Cond.code ({ cls := "java/lang/String", name := "length", desc := "()I" } : Jvm.MethodName) jdk_42_method_54_code (1 : Nat) (Option.some Jvm.ClassFile.FieldType.int)).before args0 about1 = true := code_word (m := ⟨7, 2⟩) (meth := k7m2) (c := k7c2) (by decide +kernel) rfl rfl rfl (by decide +kernel)
set_option maxRecDepth 65536 in
theorem w_c8 : (Jvm.Cond.code ({ cls := "java/lang/String", name := "coder", desc := "()B" } : Jvm.MethodName) jdk_42_method_152_code (1 : Nat) (Option.some Jvm.ClassFile.FieldType.byte)).before args0 about1 = true := code_word (m := ⟨7, 5⟩) (meth := k7m5) (c := k7c5) (by decide +kernel) rfl rfl rfl (by decide +kernel)
set_option maxRecDepth 65536 in
theorem w_c9 : (Jvm.Cond.code ({ cls := "java/lang/Integer", name := "compare", desc := "(II)I" } : Jvm.MethodName) jdk_33_method_40_code (2 : Nat) (Option.some Jvm.ClassFile.FieldType.int)).before args0 about1 = true := code_word (m := ⟨10, 0⟩) (meth := k10m0) (c := k10c0) (by decide +kernel) rfl rfl rfl (by decide +kernel)
set_option maxRecDepth 65536 in
theorem w_c10 : (Jvm.Cond.code ({ cls := "com/example/nuthatch/nuthatch/util/TextCompareCodePointsPinLaw", name := "reference", desc := "(CCCICCCI)I" } : Jvm.MethodName) method_11_code (18 : Nat) (Option.some Jvm.ClassFile.FieldType.int)).before args0 about1 = true := code_word (m := ⟨1, 10⟩) (meth := k1m10) (c := k1c10) (by decide +kernel) rfl rfl rfl (by decide +kernel)
set_option maxRecDepth 65536 in
theorem w_c11 : (Jvm.Cond.code ({ cls := "com/example/nuthatch/nuthatch/util/TextCompareCodePointsPinLaw", name := "point", desc := "(CCCII)I" } : Jvm.MethodName) method_8_code (7 : Nat) (Option.some Jvm.ClassFile.FieldType.int)).before args0 about1 = true := code_word (m := ⟨1, 7⟩) (meth := k1m7) (c := k1c7) (by decide +kernel) rfl rfl rfl (by decide +kernel)
set_option maxRecDepth 65536 in
theorem w_c12 : (Jvm.Cond.code ({ cls := "com/example/nuthatch/nuthatch/util/TextCompareCodePointsPinLaw", name := "unit", desc := "(CCCII)I" } : Jvm.MethodName) method_5_code (5 : Nat) (Option.some Jvm.ClassFile.FieldType.int)).before args0 about1 = true := code_word (m := ⟨1, 4⟩) (meth := k1m4) (c := k1c4) (by decide +kernel) rfl rfl rfl (by decide +kernel)
set_option maxRecDepth 65536 in
theorem w_c13 : (Jvm.Cond.code ({ cls := "com/example/nuthatch/nuthatch/util/TextCompareCodePointsPinLaw", name := "width", desc := "(I)I" } : Jvm.MethodName) method_9_code (1 : Nat) (Option.some Jvm.ClassFile.FieldType.int)).before args0 about1 = true := code_word (m := ⟨1, 8⟩) (meth := k1m8) (c := k1c8) (by decide +kernel) rfl rfl rfl (by decide +kernel)
set_option maxRecDepth 65536 in
theorem w_c14 : (Jvm.Cond.code ({ cls := "com/example/nuthatch/nuthatch/util/TextCompareCodePointsPinLaw", name := "sign", desc := "(I)I" } : Jvm.MethodName) method_12_code (1 : Nat) (Option.some Jvm.ClassFile.FieldType.int)).before args0 about1 = true := code_word (m := ⟨1, 11⟩) (meth := k1m11) (c := k1c11) (by decide +kernel) rfl rfl rfl (by decide +kernel)
set_option maxRecDepth 65536 in
theorem w_c15 : (Jvm.Cond.code ({ cls := "java/lang/StringUTF16", name := "compress", desc := "([CII)[B" } : Jvm.MethodName) jdk_52_method_16_code (6 : Nat) (Option.some (Jvm.ClassFile.FieldType.array Jvm.ClassFile.FieldType.byte))).before args0 about1 = true := code_word (m := ⟨11, 9⟩) (meth := k11m9) (c := k11c9) (by decide +kernel) rfl rfl rfl (by decide +kernel)
set_option maxRecDepth 65536 in
theorem w_c16 : (Jvm.Cond.code ({ cls := "java/lang/StringUTF16", name := "compress", desc := "([CI[BII)I" } : Jvm.MethodName) jdk_52_method_21_code (7 : Nat) (Option.some Jvm.ClassFile.FieldType.int)).before args0 about1 = true := code_word (m := ⟨11, 10⟩) (meth := k11m10) (c := k11c10) (by decide +kernel) rfl rfl rfl (by decide +kernel)
set_option maxRecDepth 65536 in
theorem w_c17 : (Jvm.Cond.code ({ cls := "java/lang/StringUTF16", name := "toBytes", desc := "([CII)[B" } : Jvm.MethodName) jdk_52_method_14_code (5 : Nat) (Option.some (Jvm.ClassFile.FieldType.array Jvm.ClassFile.FieldType.byte))).before args0 about1 = true := code_word (m := ⟨11, 7⟩) (meth := k11m7) (c := k11c7) (by decide +kernel) rfl rfl rfl (by decide +kernel)
set_option maxRecDepth 65536 in
theorem w_c18 : (Jvm.Cond.code ({ cls := "java/lang/StringUTF16", name := "newBytesFor", desc := "(I)[B" } : Jvm.MethodName) jdk_52_method_2_code (1 : Nat) (Option.some (Jvm.ClassFile.FieldType.array Jvm.ClassFile.FieldType.byte))).before args0 about1 = true := code_word (m := ⟨11, 1⟩) (meth := k11m1) (c := k11c1) (by decide +kernel) rfl rfl rfl (by decide +kernel)
set_option maxRecDepth 65536 in
theorem w_c19 : (Jvm.Cond.code ({ cls := "java/lang/StringUTF16", name := "newBytesLength", desc := "(I)I" } : Jvm.MethodName) jdk_52_method_3_code (1 : Nat) (Option.some Jvm.ClassFile.FieldType.int)).before args0 about1 = true := code_word (m := ⟨11, 2⟩) (meth := k11m2) (c := k11c2) (by decide +kernel) rfl rfl rfl (by decide +kernel)
set_option maxRecDepth 65536 in
theorem w_c20 : (Jvm.Cond.code ({ cls := "java/lang/StringUTF16", name := "putChar", desc := "([BII)V" } : Jvm.MethodName) jdk_52_method_4_code (3 : Nat) (Option.none : Option Jvm.ClassFile.FieldType)).before args0 about1 = true := code_word (m := ⟨11, 3⟩) (meth := k11m3) (c := k11c3) (by decide +kernel) rfl rfl rfl (by decide +kernel)
set_option maxRecDepth 65536 in
theorem w_c21 : (Jvm.Cond.code ({ cls := "java/lang/StringUTF16", name := "getChar", desc := "([BI)C" } : Jvm.MethodName) jdk_52_method_5_code (2 : Nat) (Option.some Jvm.ClassFile.FieldType.char)).before args0 about1 = true := code_word (m := ⟨11, 4⟩) (meth := k11m4) (c := k11c4) (by decide +kernel) rfl rfl rfl (by decide +kernel)
set_option maxRecDepth 65536 in
theorem w_c22 : (Jvm.Cond.code ({ cls := "java/lang/StringUTF16", name := "coderFromArrayLen", desc := "([BI)B" } : Jvm.MethodName) jdk_52_method_15_code (2 : Nat) (Option.some Jvm.ClassFile.FieldType.byte)).before args0 about1 = true := code_word (m := ⟨11, 8⟩) (meth := k11m8) (c := k11c8) (by decide +kernel) rfl rfl rfl (by decide +kernel)
set_option maxRecDepth 65536 in
theorem w_c23 : (Jvm.Cond.code ({ cls := "com/example/nuthatch/nuthatch/util/TextCompareCodePointsPinLaw", name := "isHigh", desc := "(I)Z" } : Jvm.MethodName) method_6_code (1 : Nat) (Option.some Jvm.ClassFile.FieldType.boolean)).before args0 about1 = true := code_word (m := ⟨1, 5⟩) (meth := k1m5) (c := k1c5) (by decide +kernel) rfl rfl rfl (by decide +kernel)
set_option maxRecDepth 65536 in
theorem w_c24 : (Jvm.Cond.code ({ cls := "com/example/nuthatch/nuthatch/util/TextCompareCodePointsPinLaw", name := "cmp", desc := "(II)I" } : Jvm.MethodName) method_10_code (2 : Nat) (Option.some Jvm.ClassFile.FieldType.int)).before args0 about1 = true := code_word (m := ⟨1, 9⟩) (meth := k1m9) (c := k1c9) (by decide +kernel) rfl rfl rfl (by decide +kernel)
set_option maxRecDepth 65536 in
theorem w_c25 : (Jvm.Cond.code ({ cls := "java/lang/String", name := "codePointAt", desc := "(I)I" } : Jvm.MethodName) jdk_42_method_57_code (3 : Nat) (Option.some Jvm.ClassFile.FieldType.int)).before args0 about1 = true := code_word (m := ⟨7, 3⟩) (meth := k7m3) (c := k7c3) (by decide +kernel) rfl rfl rfl (by decide +kernel)
set_option maxRecDepth 65536 in
theorem w_c26 : (Jvm.Cond.code ({ cls := "java/lang/String", name := "isLatin1", desc := "()Z" } : Jvm.MethodName) jdk_42_method_154_code (1 : Nat) (Option.some Jvm.ClassFile.FieldType.boolean)).before args0 about1 = true := code_word (m := ⟨7, 6⟩) (meth := k7m6) (c := k7c6) (by decide +kernel) rfl rfl rfl (by decide +kernel)
set_option maxRecDepth 65536 in
theorem w_c27 : (Jvm.Cond.code ({ cls := "java/lang/String", name := "checkIndex", desc := "(II)V" } : Jvm.MethodName) jdk_42_method_155_code (2 : Nat) (Option.none : Option Jvm.ClassFile.FieldType)).before args0 about1 = true := code_word (m := ⟨7, 7⟩) (meth := k7m7) (c := k7c7) (by decide +kernel) rfl rfl rfl (by decide +kernel)
set_option maxRecDepth 65536 in
theorem w_c28 : (Jvm.Cond.code ({ cls := "jdk/internal/util/Preconditions", name := "checkIndex", desc := "(IILjava/util/function/BiFunction;)I" } : Jvm.MethodName) jdk_41_method_11_code (3 : Nat) (Option.some Jvm.ClassFile.FieldType.int)).before args0 about1 = true := code_word (m := ⟨12, 1⟩) (meth := k12m1) (c := k12c1) (by decide +kernel) rfl rfl rfl (by decide +kernel)
set_option maxRecDepth 65536 in
theorem w_c29 : (Jvm.Cond.code ({ cls := "java/lang/StringUTF16", name := "codePointAt", desc := "([BII)I" } : Jvm.MethodName) jdk_52_method_8_code (3 : Nat) (Option.some Jvm.ClassFile.FieldType.int)).before args0 about1 = true := code_word (m := ⟨11, 6⟩) (meth := k11m6) (c := k11c6) (by decide +kernel) rfl rfl rfl (by decide +kernel)
set_option maxRecDepth 65536 in
theorem w_c30 : (Jvm.Cond.code ({ cls := "java/lang/StringUTF16", name := "codePointAt", desc := "([BIIZ)I" } : Jvm.MethodName) jdk_52_method_7_code (6 : Nat) (Option.some Jvm.ClassFile.FieldType.int)).before args0 about1 = true := code_word (m := ⟨11, 5⟩) (meth := k11m5) (c := k11c5) (by decide +kernel) rfl rfl rfl (by decide +kernel)
set_option maxRecDepth 65536 in
theorem w_c31 : (Jvm.Cond.code ({ cls := "java/lang/Character", name := "isHighSurrogate", desc := "(C)Z" } : Jvm.MethodName) jdk_89_method_14_code (1 : Nat) (Option.some Jvm.ClassFile.FieldType.boolean)).before args0 about1 = true := code_word (m := ⟨13, 0⟩) (meth := k13m0) (c := k13c0) (by decide +kernel) rfl rfl rfl (by decide +kernel)
set_option maxRecDepth 65536 in
theorem w_c32 : (Jvm.Cond.code ({ cls := "java/lang/Character", name := "charCount", desc := "(I)I" } : Jvm.MethodName) jdk_89_method_18_code (1 : Nat) (Option.some Jvm.ClassFile.FieldType.int)).before args0 about1 = true := code_word (m := ⟨13, 2⟩) (meth := k13m2) (c := k13c2) (by decide +kernel) rfl rfl rfl (by decide +kernel)
set_option maxRecDepth 65536 in
theorem w_c33 : (Jvm.Cond.code ({ cls := "com/example/nuthatch/nuthatch/util/TextCompareCodePointsPinLaw", name := "isLow", desc := "(I)Z" } : Jvm.MethodName) method_7_code (1 : Nat) (Option.some Jvm.ClassFile.FieldType.boolean)).before args0 about1 = true := code_word (m := ⟨1, 6⟩) (meth := k1m6) (c := k1c6) (by decide +kernel) rfl rfl rfl (by decide +kernel)
set_option maxRecDepth 65536 in
theorem w_c34 : (Jvm.Cond.code ({ cls := "java/lang/Character", name := "isLowSurrogate", desc := "(C)Z" } : Jvm.MethodName) jdk_89_method_15_code (1 : Nat) (Option.some Jvm.ClassFile.FieldType.boolean)).before args0 about1 = true := code_word (m := ⟨13, 1⟩) (meth := k13m1) (c := k13c1) (by decide +kernel) rfl rfl rfl (by decide +kernel)
set_option maxRecDepth 65536 in
theorem w_c35 : (Jvm.Cond.code ({ cls := "java/lang/Character", name := "toCodePoint", desc := "(CC)I" } : Jvm.MethodName) jdk_89_method_19_code (2 : Nat) (Option.some Jvm.ClassFile.FieldType.int)).before args0 about1 = true := code_word (m := ⟨13, 3⟩) (meth := k13m3) (c := k13c3) (by decide +kernel) rfl rfl rfl (by decide +kernel)
def codes1 : List Jvm.Cond := [Jvm.Cond.code x code maxLocals ret, Jvm.Cond.code ({ cls := "com/example/nuthatch/nuthatch/util/TextCompareCodePointsPinLaw", name := "draw", desc := "(J)C" } : Jvm.MethodName) method_3_code (4 : Nat) (Option.some Jvm.ClassFile.FieldType.char), Jvm.Cond.code ({ cls := "com/example/nuthatch/nuthatch/util/TextCompareCodePointsPinLaw", name := "make", desc := "(CCCI)Ljava/lang/String;" } : Jvm.MethodName) method_4_code (4 : Nat) (Option.some (Jvm.ClassFile.FieldType.object "java/lang/String")), Jvm.Cond.code ({ cls := "java/lang/String", name := "<init>", desc := "([C)V" } : Jvm.MethodName) jdk_42_method_3_code (2 : Nat) (Option.none : Option Jvm.ClassFile.FieldType), Jvm.Cond.code ({ cls := "java/lang/String", name := "<init>", desc := "([CIILjava/lang/Void;)V" } : Jvm.MethodName) jdk_42_method_149_code (6 : Nat) (Option.none : Option Jvm.ClassFile.FieldType), Jvm.Cond.code ({ cls := "java/lang/Object", name := "<init>", desc := "()V" } : Jvm.MethodName) object_method_1_code (1 : Nat) (Option.none : Option Jvm.ClassFile.FieldType), Jvm.Cond.code ({ cls := "com/example/nuthatch/nuthatch/util/Text", name := "compareCodePoints", desc := "(Ljava/lang/String;Ljava/lang/String;)I" } : Jvm.MethodName) prog_10_method_7_code (5 : Nat) (Option.some Jvm.ClassFile.FieldType.int), Jvm.Cond.code ({ cls := "java/lang/String", name := "length", desc := "()I" } : Jvm.MethodName) jdk_42_method_54_code (1 : Nat) (Option.some Jvm.ClassFile.FieldType.int), Jvm.Cond.code ({ cls := "java/lang/String", name := "coder", desc := "()B" } : Jvm.MethodName) jdk_42_method_152_code (1 : Nat) (Option.some Jvm.ClassFile.FieldType.byte), Jvm.Cond.code ({ cls := "java/lang/Integer", name := "compare", desc := "(II)I" } : Jvm.MethodName) jdk_33_method_40_code (2 : Nat) (Option.some Jvm.ClassFile.FieldType.int), Jvm.Cond.code ({ cls := "com/example/nuthatch/nuthatch/util/TextCompareCodePointsPinLaw", name := "reference", desc := "(CCCICCCI)I" } : Jvm.MethodName) method_11_code (18 : Nat) (Option.some Jvm.ClassFile.FieldType.int), Jvm.Cond.code ({ cls := "com/example/nuthatch/nuthatch/util/TextCompareCodePointsPinLaw", name := "point", desc := "(CCCII)I" } : Jvm.MethodName) method_8_code (7 : Nat) (Option.some Jvm.ClassFile.FieldType.int), Jvm.Cond.code ({ cls := "com/example/nuthatch/nuthatch/util/TextCompareCodePointsPinLaw", name := "unit", desc := "(CCCII)I" } : Jvm.MethodName) method_5_code (5 : Nat) (Option.some Jvm.ClassFile.FieldType.int), Jvm.Cond.code ({ cls := "com/example/nuthatch/nuthatch/util/TextCompareCodePointsPinLaw", name := "width", desc := "(I)I" } : Jvm.MethodName) method_9_code (1 : Nat) (Option.some Jvm.ClassFile.FieldType.int), Jvm.Cond.code ({ cls := "com/example/nuthatch/nuthatch/util/TextCompareCodePointsPinLaw", name := "sign", desc := "(I)I" } : Jvm.MethodName) method_12_code (1 : Nat) (Option.some Jvm.ClassFile.FieldType.int), Jvm.Cond.code ({ cls := "java/lang/StringUTF16", name := "compress", desc := "([CII)[B" } : Jvm.MethodName) jdk_52_method_16_code (6 : Nat) (Option.some (Jvm.ClassFile.FieldType.array Jvm.ClassFile.FieldType.byte)), Jvm.Cond.code ({ cls := "java/lang/StringUTF16", name := "compress", desc := "([CI[BII)I" } : Jvm.MethodName) jdk_52_method_21_code (7 : Nat) (Option.some Jvm.ClassFile.FieldType.int), Jvm.Cond.code ({ cls := "java/lang/StringUTF16", name := "toBytes", desc := "([CII)[B" } : Jvm.MethodName) jdk_52_method_14_code (5 : Nat) (Option.some (Jvm.ClassFile.FieldType.array Jvm.ClassFile.FieldType.byte)), Jvm.Cond.code ({ cls := "java/lang/StringUTF16", name := "newBytesFor", desc := "(I)[B" } : Jvm.MethodName) jdk_52_method_2_code (1 : Nat) (Option.some (Jvm.ClassFile.FieldType.array Jvm.ClassFile.FieldType.byte)), Jvm.Cond.code ({ cls := "java/lang/StringUTF16", name := "newBytesLength", desc := "(I)I" } : Jvm.MethodName) jdk_52_method_3_code (1 : Nat) (Option.some Jvm.ClassFile.FieldType.int), Jvm.Cond.code ({ cls := "java/lang/StringUTF16", name := "putChar", desc := "([BII)V" } : Jvm.MethodName) jdk_52_method_4_code (3 : Nat) (Option.none : Option Jvm.ClassFile.FieldType), Jvm.Cond.code ({ cls := "java/lang/StringUTF16", name := "getChar", desc := "([BI)C" } : Jvm.MethodName) jdk_52_method_5_code (2 : Nat) (Option.some Jvm.ClassFile.FieldType.char), Jvm.Cond.code ({ cls := "java/lang/StringUTF16", name := "coderFromArrayLen", desc := "([BI)B" } : Jvm.MethodName) jdk_52_method_15_code (2 : Nat) (Option.some Jvm.ClassFile.FieldType.byte), Jvm.Cond.code ({ cls := "com/example/nuthatch/nuthatch/util/TextCompareCodePointsPinLaw", name := "isHigh", desc := "(I)Z" } : Jvm.MethodName) method_6_code (1 : Nat) (Option.some Jvm.ClassFile.FieldType.boolean), Jvm.Cond.code ({ cls := "com/example/nuthatch/nuthatch/util/TextCompareCodePointsPinLaw", name := "cmp", desc := "(II)I" } : Jvm.MethodName) method_10_code (2 : Nat) (Option.some Jvm.ClassFile.FieldType.int), Jvm.Cond.code ({ cls := "java/lang/String", name := "codePointAt", desc := "(I)I" } : Jvm.MethodName) jdk_42_method_57_code (3 : Nat) (Option.some Jvm.ClassFile.FieldType.int), Jvm.Cond.code ({ cls := "java/lang/String", name := "isLatin1", desc := "()Z" } : Jvm.MethodName) jdk_42_method_154_code (1 : Nat) (Option.some Jvm.ClassFile.FieldType.boolean), Jvm.Cond.code ({ cls := "java/lang/String", name := "checkIndex", desc := "(II)V" } : Jvm.MethodName) jdk_42_method_155_code (2 : Nat) (Option.none : Option Jvm.ClassFile.FieldType), Jvm.Cond.code ({ cls := "jdk/internal/util/Preconditions", name := "checkIndex", desc := "(IILjava/util/function/BiFunction;)I" } : Jvm.MethodName) jdk_41_method_11_code (3 : Nat) (Option.some Jvm.ClassFile.FieldType.int), Jvm.Cond.code ({ cls := "java/lang/StringUTF16", name := "codePointAt", desc := "([BII)I" } : Jvm.MethodName) jdk_52_method_8_code (3 : Nat) (Option.some Jvm.ClassFile.FieldType.int), Jvm.Cond.code ({ cls := "java/lang/StringUTF16", name := "codePointAt", desc := "([BIIZ)I" } : Jvm.MethodName) jdk_52_method_7_code (6 : Nat) (Option.some Jvm.ClassFile.FieldType.int), Jvm.Cond.code ({ cls := "java/lang/Character", name := "isHighSurrogate", desc := "(C)Z" } : Jvm.MethodName) jdk_89_method_14_code (1 : Nat) (Option.some Jvm.ClassFile.FieldType.boolean), Jvm.Cond.code ({ cls := "java/lang/Character", name := "charCount", desc := "(I)I" } : Jvm.MethodName) jdk_89_method_18_code (1 : Nat) (Option.some Jvm.ClassFile.FieldType.int), Jvm.Cond.code ({ cls := "com/example/nuthatch/nuthatch/util/TextCompareCodePointsPinLaw", name := "isLow", desc := "(I)Z" } : Jvm.MethodName) method_7_code (1 : Nat) (Option.some Jvm.ClassFile.FieldType.boolean), Jvm.Cond.code ({ cls := "java/lang/Character", name := "isLowSurrogate", desc := "(C)Z" } : Jvm.MethodName) jdk_89_method_15_code (1 : Nat) (Option.some Jvm.ClassFile.FieldType.boolean), Jvm.Cond.code ({ cls := "java/lang/Character", name := "toCodePoint", desc := "(CC)I" } : Jvm.MethodName) jdk_89_method_19_code (2 : Nat) (Option.some Jvm.ClassFile.FieldType.int)]
set_option maxRecDepth 65536 in
theorem codes_eq : words1.filter isCode = codes1 := rfl
theorem w_codes : ∀ c ∈ words1.filter isCode, c.before args0 about1 = true := by
  rw [codes_eq]
  intro c hc
  simp only [codes1, List.mem_cons, List.not_mem_nil, or_false] at hc
  rcases hc with rfl | rfl | rfl | rfl | rfl | rfl | rfl | rfl | rfl | rfl | rfl | rfl | rfl | rfl | rfl | rfl | rfl | rfl | rfl | rfl | rfl | rfl | rfl | rfl | rfl | rfl | rfl | rfl | rfl | rfl | rfl | rfl | rfl | rfl | rfl | rfl
  · exact w_c0
  · exact w_c1
  · exact w_c2
  · exact w_c3
  · exact w_c4
  · exact w_c5
  · exact w_c6
  · exact w_c7
  · exact w_c8
  · exact w_c9
  · exact w_c10
  · exact w_c11
  · exact w_c12
  · exact w_c13
  · exact w_c14
  · exact w_c15
  · exact w_c16
  · exact w_c17
  · exact w_c18
  · exact w_c19
  · exact w_c20
  · exact w_c21
  · exact w_c22
  · exact w_c23
  · exact w_c24
  · exact w_c25
  · exact w_c26
  · exact w_c27
  · exact w_c28
  · exact w_c29
  · exact w_c30
  · exact w_c31
  · exact w_c32
  · exact w_c33
  · exact w_c34
  · exact w_c35
set_option maxRecDepth 65536 in
theorem w_t1 : (words1.take 24).all (fun c => isCode c || c.before args0 about1) = true := by decide +kernel
set_option maxRecDepth 65536 in
theorem w_t2 : ((words1.drop 24).take 24).all (fun c => isCode c || c.before args0 about1) = true := by decide +kernel
set_option maxRecDepth 65536 in
theorem w_t3 : (((words1.drop 24).drop 24).take 24).all (fun c => isCode c || c.before args0 about1) = true := by decide +kernel
set_option maxRecDepth 65536 in
theorem w_t4 : ((((words1.drop 24).drop 24).drop 24).take 24).all (fun c => isCode c || c.before args0 about1) = true := by decide +kernel
set_option maxRecDepth 65536 in
theorem w_t5 : (((((words1.drop 24).drop 24).drop 24).drop 24).take 24).all (fun c => isCode c || c.before args0 about1) = true := by decide +kernel
set_option maxRecDepth 65536 in
theorem w_t6 : ((((((words1.drop 24).drop 24).drop 24).drop 24).drop 24).take 24).all (fun c => isCode c || c.before args0 about1) = true := by decide +kernel
set_option maxRecDepth 65536 in
theorem w_t7 : ((((((words1.drop 24).drop 24).drop 24).drop 24).drop 24).drop 24).all (fun c => isCode c || c.before args0 about1) = true := by decide +kernel
theorem w_tables : (allAtoms (Jvm.Cond.code x code maxLocals ret :: tables_1)).before args0 about1 = true := by
  rw [allAtoms_all]
  show words1.all (fun c => c.before args0 about1) = true
  refine all_split ?_ w_codes
  rw [← List.take_append_drop 24 words1, List.all_append, w_t1, ← List.take_append_drop 24 (words1.drop 24), List.all_append, w_t2, ← List.take_append_drop 24 ((words1.drop 24).drop 24), List.all_append, w_t3, ← List.take_append_drop 24 (((words1.drop 24).drop 24).drop 24), List.all_append, w_t4, ← List.take_append_drop 24 ((((words1.drop 24).drop 24).drop 24).drop 24), List.all_append, w_t5, ← List.take_append_drop 24 (((((words1.drop 24).drop 24).drop 24).drop 24).drop 24), List.all_append, w_t6, w_t7]
  rfl
set_option maxRecDepth 65536 in
theorem w_rest : rest_1_c.before args0 about1 = true := by decide +kernel
set_option maxRecDepth 65536 in
theorem w_case : (Jvm.Cond.and given_1 narrow_1).before args0 about1 = true := by decide +kernel
set_option maxRecDepth 65536 in
theorem w_consts : constsHeld consts_1 about1 := Jvm.Lit.constsHeldB_iff.mp (by decide +kernel)
theorem w_applies : (headSpec (Jvm.Cond.code x code maxLocals ret :: tables_1) room_1).applies x e0.platform about1 = true :=
  (Spec.applies_iff w_frames).mpr ⟨w_running, w_runnable, w_alone, w_named, w_hears, w_ripe, w_room, w_tables⟩
theorem atStart : AtStart classFile x code maxLocals ret World_1 tables_1 room_1 Calls_1 rest_1 Pre_1 launch0 p0 e0 about1 theMethod args0 below0 :=
  ⟨lists_1, trivial, launch0.admits_env _ _ _, launch0.least_env, fairChoices_fair.cas, fairChoices_fair.clock, w_frames, w_args, w_heap, w_applies, ⟨w_consts, trivial⟩, w_rest, w_case⟩
end start1
theorem witness_1 : WitnessClaimed_1 := ⟨start1.p0, start1.e0, start1.about1, start1.theMethod, start1.args0, start1.below0, start1.atStart⟩
end Jvm.Pilot.@@N@@
