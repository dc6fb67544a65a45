import JvmDerived
import JvmDerived.Pilot.@@N@@Statement
import JvmDerived.Pilot.@@N@@Code
set_option linter.unusedVariables false
set_option linter.unusedSimpArgs false
/- laws to paste: Road.backV (cut by pick.py; bodies as the Statement names them) -/
namespace Jvm.Pilot.@@N@@
namespace StrChars
open Jvm Sem ClassFile Op Lib Jvm.Stand Jvm.Free.XT Jvm.Free.ALB Jvm.Free.JM Jvm.Free
open Jvm.Lib.Cold (StaticIs)
/-- a char array whose places are chars -/
def Ch (a : Addr) (A : Cell) (U : State) : Prop := Arr .char a A U ∧ Typed .char A
theorem Ch.mv {a : Addr} {A : Cell} {U U' : State} (h : Ch a A U) (hal : U.vm.Alike U'.vm) (hh : U'.heap = U.heap) : Ch a A U' := ⟨h.1.mv hal hh, h.2⟩
theorem Ch.keep {a : Addr} {A : Cell} {U U' : State} (h : Ch a A U) (hal : U.vm.Alike U'.vm) (hk : U'.heap[a]? = some A) : Ch a A U' := ⟨h.1.keep hal hk, h.2⟩
/-- what place i of a char[]'s cell holds -/
def cv (A : Cell) (i : Nat) : Int32 := match A.slots[i]? with | some (.int x) => x | _ => 0
theorem Ch.get {a : Addr} {A : Cell} {U : State} (h : Ch a A U) {i : Nat} (hi : i < A.slots.size) : A.slots[i]? = some (.int (cv A i)) := by
  have e := Array.getElem?_eq_getElem hi
  have f := h.2 i _ e
  unfold cv; rw [e]
  generalize A.slots[i] = v at f
  cases v <;> simp [fits] at f ⊢
/-- the byte that i2b leaves of a char -/
def lo8 (x : Int32) : Int32 := x.toInt8.toInt32
theorem fits_lo8 (y : Int32) : fits .byte (.int (lo8 y)) = true := by
  have h1 := y.toInt8.le_toInt
  have h2 := y.toInt8.toInt_lt
  simp only [lo8, fits, Bool.and_eq_true, decide_eq_true_eq, Int32.le_iff_toInt_le, Int8.toInt_toInt32, show (-128 : Int32).toInt = -128 from by decide, show (127 : Int32).toInt = 127 from by decide]
  omega
/-- A' is A but that each place j of lo .. hi - 1 holds f j -/
def Laid (A A' : Cell) (lo hi : Nat) (f : Nat → Value) : Prop := A'.cls = A.cls ∧ A'.vm = A.vm ∧ A'.slots.size = A.slots.size ∧ ∀ i, A'.slots[i]? = if lo ≤ i ∧ i < hi then some (f i) else A.slots[i]?
theorem Laid.zero (A : Cell) (lo : Nat) (f : Nat → Value) : Laid A A lo (lo + 0) f := ⟨rfl, rfl, rfl, fun i => by rw [if_neg (by omega)]⟩
theorem Laid.step {A Ak : Cell} {lo k : Nat} {f : Nat → Value} {v : Value} (h : Laid A Ak lo k f) (hlo : lo ≤ k) (hk : k < Ak.slots.size) (hv : v = f k) : Laid A (Ak.setSlot k v) lo (k + 1) f := by
  refine ⟨h.1, h.2.1, by simpa [Cell.setSlot] using h.2.2.1, fun i => ?_⟩
  by_cases e : k = i
  · subst e; rw [Cell.slots_setSlot_self v hk, if_pos (by omega), hv]
  · rw [Cell.slots_setSlot_ne v e, h.2.2.2 i]
    by_cases q : lo ≤ i ∧ i < k
    · rw [if_pos q, if_pos (by omega)]
    · rw [if_neg q, if_neg (by omega)]
def U16 : String := "java/lang/StringUTF16"
namespace Cmp5
def yN : MethodName := ⟨"java/lang/StringUTF16", "compress", "([CI[BII)I"⟩
abbrev yB : ByteArray := jdk_52_method_21_code
theorem d0 : decode yB 0 = .ok (.iconst 0, 1) := by decide +kernel
theorem d1 : decode yB 1 = .ok (.istore 5, 2) := by decide +kernel
theorem d3 : decode yB 3 = .ok (.iload 5, 2) := by decide +kernel
theorem d5 : decode yB 5 = .ok (.iload 4, 2) := by decide +kernel
theorem d7 : decode yB 7 = .ok (.if_icmp (.ge) 37, 3) := by decide +kernel
theorem d10 : decode yB 10 = .ok (.aload_n 0, 1) := by decide +kernel
theorem d11 : decode yB 11 = .ok (.iload_n 1, 1) := by decide +kernel
theorem d12 : decode yB 12 = .ok (.caload, 1) := by decide +kernel
theorem d13 : decode yB 13 = .ok (.istore 6, 2) := by decide +kernel
theorem d15 : decode yB 15 = .ok (.iload 6, 2) := by decide +kernel
theorem d17 : decode yB 17 = .ok (.sipush 255, 3) := by decide +kernel
theorem d20 : decode yB 20 = .ok (.if_icmp (.le) 6, 3) := by decide +kernel
theorem d26 : decode yB 26 = .ok (.aload_n 2, 1) := by decide +kernel
theorem d27 : decode yB 27 = .ok (.iload_n 3, 1) := by decide +kernel
theorem d28 : decode yB 28 = .ok (.iload 6, 2) := by decide +kernel
theorem d30 : decode yB 30 = .ok (.i2b, 1) := by decide +kernel
theorem d31 : decode yB 31 = .ok (.bastore, 1) := by decide +kernel
theorem d32 : decode yB 32 = .ok (.iinc 1 1, 3) := by decide +kernel
theorem d35 : decode yB 35 = .ok (.iinc 3 1, 3) := by decide +kernel
theorem d38 : decode yB 38 = .ok (.iinc 5 1, 3) := by decide +kernel
theorem d41 : decode yB 41 = .ok (.goto (-38), 3) := by decide +kernel
theorem d44 : decode yB 44 = .ok (.iload 4, 2) := by decide +kernel
theorem d46 : decode yB 46 = .ok (.ireturn, 1) := by decide +kernel
def site : List Cond := []
def tab : Cond := tabOf yN yB 7 (some .int) site
def P (b : Addr) (A : Cell) (d : Addr) (B : Cell) (o q len : Nat) (args : Array Value) (s : State) : Prop := args = #[.ref b, .int (Int32.ofNat o), .ref d, .int (Int32.ofNat q), .int (Int32.ofNat len)] ∧ Ch b A s ∧ Arr .byte d B s ∧ b ≠ d ∧ o + len ≤ A.slots.size ∧ q + len ≤ B.slots.size ∧ ∀ i, i < len → ¬ 255 < cv A (o + i)
def E (b : Addr) (A : Cell) (d : Addr) (B : Cell) (o q len : Nat) (r : Option Value) (s u : State) : Prop := r = some (.int (Int32.ofNat len)) ∧ ∃ B', Put d B' s u ∧ Laid B B' q (q + len) (fun j => Value.int (lo8 (cv A (o + (j - q)))))
/-- no char of the range above 255: len; the places written hold each char's low byte -/
theorem law (l : Launch) (b : Addr) (A : Cell) (d : Addr) (B : Cell) (o q len : Nat) : Law l yN 5 5 0 0 yB 7 (some .int) site (P b A d B o q len) (E b A d B o q len) (copyLocs d q len) 0 0 := by
  refine Law.of_walk (plainFor_of_name (by decide +kernel)) (by decide +kernel) (by decide +kernel) (by decide) (fun _ _ h => by rw [h.1]; rfl) (fun _ U U' hal hh h => ⟨h.1, h.2.1.mv hal hh, h.2.2.1.mv hal hh, h.2.2.2⟩) (fun r U U' V V' h1 hal h2 h => ⟨h.1, h.2.elim fun B' q => ⟨B', q.1.mv h1 h2, q.2⟩⟩) ?_
  intro p e s m args below meth c s₁ X0 hexec hbytes hml hret hlk hnm hown hh0 W hP
  obtain ⟨rfl, hA, hB, hne, l1, l2, hp⟩ := hP
  have c1 : Steps p.tables e below (s₁.setTop (entryFrame m #[.ref b, .int (Int32.ofNat o), .ref d, .int (Int32.ofNat q), .int (Int32.ofNat len)] 7)) (s₁.setTop (mkF m 0 #[.val (.ref b), .val (.int (Int32.ofNat o)), .val (.ref d), .val (.int (Int32.ofNat q)), .val (.int (Int32.ofNat len)), .unset, .unset] [])) := entry rfl
  have hA0 := hA.1.mv X0.warmed.alike hh0
  have hB0 := hB.mv X0.warmed.alike hh0
  have a31 := hA.1.2.2.2
  have c2 : Steps p.tables e below (s₁.setTop (entryFrame m #[.ref b, .int (Int32.ofNat o), .ref d, .int (Int32.ofNat q), .int (Int32.ofNat len)] 7)) (s₁.setTop (mkF m 3 #[.val (.ref b), .val (.int (Int32.ofNat o)), .val (.ref d), .val (.int (Int32.ofNat q)), .val (.int (Int32.ofNat len)), .val (.int 0), .unset] [])) := c1.trans (by
    refine iconstV X0.here hexec rfl 0 (hb hbytes d0) (by decide) ?_
    refine XS.istore X0.here hexec rfl (hb hbytes d1) rfl rfl ?_
    exact Steps.refl _)
  have loop : ∀ (r i : Nat), i + r = len → ∀ (z : Slot), (z = .unset ∨ ∃ w, z = .val w ∧ w.category = 1) → ∀ (Tl : State) (Bk : Cell), Stand p l e { frames := 0, locals := 0, cells := 0, slots := 0 } s m #[.ref b, .int (Int32.ofNat o), .ref d, .int (Int32.ofNat q), .int (Int32.ofNat len)] below meth c Tl ([] ++ copyLocs d q i) 0 0 → Put d Bk s₁ Tl → Laid B Bk q (q + i) (fun j => Value.int (lo8 (cv A (o + (j - q))))) →
      Steps p.tables e below (s₁.setTop (entryFrame m #[.ref b, .int (Int32.ofNat o), .ref d, .int (Int32.ofNat q), .int (Int32.ofNat len)] 7)) (Tl.setTop (mkF m 3 #[.val (.ref b), .val (.int (Int32.ofNat (o + i))), .val (.ref d), .val (.int (Int32.ofNat (q + i))), .val (.int (Int32.ofNat len)), .val (.int (Int32.ofNat i)), z] [])) → ∃ (T' : State) (B' : Cell) (z' : Slot), Stand p l e { frames := 0, locals := 0, cells := 0, slots := 0 } s m #[.ref b, .int (Int32.ofNat o), .ref d, .int (Int32.ofNat q), .int (Int32.ofNat len)] below meth c T' ([] ++ copyLocs d q len) 0 0 ∧ Put d B' s₁ T' ∧ Laid B B' q (q + len) (fun j => Value.int (lo8 (cv A (o + (j - q))))) ∧
      Steps p.tables e below (s₁.setTop (entryFrame m #[.ref b, .int (Int32.ofNat o), .ref d, .int (Int32.ofNat q), .int (Int32.ofNat len)] 7)) (T'.setTop (mkF m 3 #[.val (.ref b), .val (.int (Int32.ofNat (o + len))), .val (.ref d), .val (.int (Int32.ofNat (q + len))), .val (.int (Int32.ofNat len)), .val (.int (Int32.ofNat len)), z'] [])) := by
    intro r
    induction r with
    | zero =>
      intro i hi z hz Tl Bk Xl pl fl cl
      have hil : i = len := by omega
      rw [hil] at Xl fl cl
      exact ⟨Tl, Bk, z, Xl, pl, fl, cl⟩
    | succ r ih =>
      intro i hi z hz Tl Bk Xl pl fl cl
      have all := X0.warmed.alike.symm.trans Xl.warmed.alike
      have hAl := hA0.keep all (pl.other hne hA0.1)
      have hBk := hB0.like all pl.1 fl.1 fl.2.1 fl.2.2.1
      have hlt : q + i < Bk.slots.size := by rw [fl.2.2.1]; omega
      have c3 : Steps p.tables e below (s₁.setTop (entryFrame m #[.ref b, .int (Int32.ofNat o), .ref d, .int (Int32.ofNat q), .int (Int32.ofNat len)] 7)) (Tl.setTop (mkF m 12 #[.val (.ref b), .val (.int (Int32.ofNat (o + i))), .val (.ref d), .val (.int (Int32.ofNat (q + i))), .val (.int (Int32.ofNat len)), .val (.int (Int32.ofNat i)), z] [.int (Int32.ofNat (o + i)), .ref b])) := cl.trans (by
        refine XS.iload Xl.here hexec rfl (hb hbytes d3) rfl ?_
        refine XS.iload Xl.here hexec rfl (hb hbytes d5) rfl ?_
        refine XS.icmpNo Xl.here hexec rfl (hb hbytes d7) rfl (ii_ge_f (lt32 (by omega) (by omega))) ?_
        refine XS.aloadN Xl.here hexec rfl (hb hbytes d10) rfl rfl ?_
        refine XS.iloadN Xl.here hexec rfl (hb hbytes d11) rfl ?_
        exact Steps.refl _)
      have c4 : Steps p.tables e below (s₁.setTop (entryFrame m #[.ref b, .int (Int32.ofNat o), .ref d, .int (Int32.ofNat q), .int (Int32.ofNat len)] 7)) (Tl.setTop (mkF m 13 #[.val (.ref b), .val (.int (Int32.ofNat (o + i))), .val (.ref d), .val (.int (Int32.ofNat (q + i))), .val (.int (Int32.ofNat len)), .val (.int (Int32.ofNat i)), z] [.int (cv A (o + i))])) := c3.trans (by
        refine Xl.aget hexec hAl rfl (hA.get (i := o + i) (by omega)) rfl rfl (hb hbytes d12) ?_
        exact Steps.refl _)
      have c5 : Steps p.tables e below (s₁.setTop (entryFrame m #[.ref b, .int (Int32.ofNat o), .ref d, .int (Int32.ofNat q), .int (Int32.ofNat len)] 7)) (Tl.setTop (mkF m 15 #[.val (.ref b), .val (.int (Int32.ofNat (o + i))), .val (.ref d), .val (.int (Int32.ofNat (q + i))), .val (.int (Int32.ofNat len)), .val (.int (Int32.ofNat i)), .val (.int (cv A (o + i)))] [])) := c4.trans (by
        refine XS.istoreS Xl.here hexec rfl (hb hbytes d13) rfl rfl hz ?_
        exact Steps.refl _)
      have c6 : Steps p.tables e below (s₁.setTop (entryFrame m #[.ref b, .int (Int32.ofNat o), .ref d, .int (Int32.ofNat q), .int (Int32.ofNat len)] 7)) (Tl.setTop (mkF m 31 #[.val (.ref b), .val (.int (Int32.ofNat (o + i))), .val (.ref d), .val (.int (Int32.ofNat (q + i))), .val (.int (Int32.ofNat len)), .val (.int (Int32.ofNat i)), .val (.int (cv A (o + i)))] [.int (lo8 (cv A (o + i))), .int (Int32.ofNat (q + i)), .ref d])) := c5.trans (by
        refine XS.iload Xl.here hexec rfl (hb hbytes d15) rfl ?_
        refine sipushV Xl.here hexec rfl 255 (hb hbytes d17) (by decide) ?_
        refine XS.icmpYes Xl.here hexec rfl (pc0 := 20) rfl (hb hbytes d20) rfl (ii_le_t (hp i (by omega))) (by decide) rfl ?_
        refine XS.aloadN Xl.here hexec rfl (hb hbytes d26) rfl rfl ?_
        refine XS.iloadN Xl.here hexec rfl (hb hbytes d27) rfl ?_
        refine XS.iload Xl.here hexec rfl (hb hbytes d28) rfl ?_
        refine i2b Xl.here hexec rfl (hb hbytes d30) rfl ?_
        exact Steps.refl _)
      obtain ⟨T7, X7, p7, st7⟩ := Xl.aput hexec hBk rfl hlt rfl (fits_lo8 (cv A (o + i))) (g := (mkF m 31 #[.val (.ref b), .val (.int (Int32.ofNat (o + i))), .val (.ref d), .val (.int (Int32.ofNat (q + i))), .val (.int (Int32.ofNat len)), .val (.int (Int32.ofNat i)), .val (.int (cv A (o + i)))] [.int (lo8 (cv A (o + i))), .int (Int32.ofNat (q + i)), .ref d])) rfl (rest := []) rfl (hb hbytes d31)
      have c8 : Steps p.tables e below (s₁.setTop (entryFrame m #[.ref b, .int (Int32.ofNat o), .ref d, .int (Int32.ofNat q), .int (Int32.ofNat len)] 7)) (T7.setTop (mkF m 32 #[.val (.ref b), .val (.int (Int32.ofNat (o + i))), .val (.ref d), .val (.int (Int32.ofNat (q + i))), .val (.int (Int32.ofNat len)), .val (.int (Int32.ofNat i)), .val (.int (cv A (o + i)))] [])) := c6.trans (st7 _ (Steps.refl _))
      have c9 : Steps p.tables e below (s₁.setTop (entryFrame m #[.ref b, .int (Int32.ofNat o), .ref d, .int (Int32.ofNat q), .int (Int32.ofNat len)] 7)) (T7.setTop (mkF m 3 #[.val (.ref b), .val (.int (Int32.ofNat (o + i) + 1)), .val (.ref d), .val (.int (Int32.ofNat (q + i) + 1)), .val (.int (Int32.ofNat len)), .val (.int (Int32.ofNat i + 1)), .val (.int (cv A (o + i)))] [])) := c8.trans (by
        refine iincV X7.here hexec rfl 1 (hb hbytes d32) (by decide) rfl rfl ?_
        refine iincV X7.here hexec rfl 1 (hb hbytes d35) (by decide) rfl rfl ?_
        refine iincV X7.here hexec rfl 1 (hb hbytes d38) (by decide) rfl rfl ?_
        refine XS.goto X7.here hexec rfl (pc0 := 41) rfl (hb hbytes d41) (by decide) rfl ?_
        exact Steps.refl _)
      have c10 : Steps p.tables e below (s₁.setTop (entryFrame m #[.ref b, .int (Int32.ofNat o), .ref d, .int (Int32.ofNat q), .int (Int32.ofNat len)] 7)) (T7.setTop (mkF m 3 #[.val (.ref b), .val (.int (Int32.ofNat (o + (i + 1)))), .val (.ref d), .val (.int (Int32.ofNat (q + (i + 1)))), .val (.int (Int32.ofNat len)), .val (.int (Int32.ofNat (i + 1))), .val (.int (cv A (o + i)))] [])) := by
        have := c9
        rw [succ32, succ32, succ32] at this
        exact this
      exact ih (i + 1) (by omega) _ (Or.inr ⟨_, rfl, rfl⟩) T7 _ (by rw [copyLocs_step, ← List.append_assoc]; exact X7) (pl.trans p7) (fl.step (by omega) hlt (by simp)) c10
  obtain ⟨T9, B9, z9, X9, p9, f9, g9⟩ := loop len 0 (by omega) .unset (Or.inl rfl) s₁ B (by simpa [copyLocs] using X0) ⟨hB0.1, fun _ _ => rfl, rfl⟩ (Laid.zero _ _ _) c2
  have c11 : Steps p.tables e below (s₁.setTop (entryFrame m #[.ref b, .int (Int32.ofNat o), .ref d, .int (Int32.ofNat q), .int (Int32.ofNat len)] 7)) (T9.setTop (mkF m 46 #[.val (.ref b), .val (.int (Int32.ofNat (o + len))), .val (.ref d), .val (.int (Int32.ofNat (q + len))), .val (.int (Int32.ofNat len)), .val (.int (Int32.ofNat len)), z9] [.int (Int32.ofNat len)])) := g9.trans (by
    refine XS.iload X9.here hexec rfl (hb hbytes d3) rfl ?_
    refine XS.iload X9.here hexec rfl (hb hbytes d5) rfl ?_
    refine XS.icmpYes X9.here hexec rfl (pc0 := 7) rfl (hb hbytes d7) rfl (ii_ge_t (nlt32 (by omega) (Nat.le_refl _))) (by decide) rfl ?_
    refine XS.iload X9.here hexec rfl (hb hbytes d44) rfl ?_
    exact Steps.refl _)
  exact ⟨T9, some (.int (Int32.ofNat len)), _, _, _, X9, by simp, rfl, rfl, (fun h => by cases h), ⟨rfl, B9, p9.from hh0, f9⟩, fun fs hl => c11.trans (X9.ireturnOut hexec hret rfl (Or.inl rfl) (hb hbytes d46) hl)⟩
end Cmp5
namespace Cmp3
def yN : MethodName := ⟨"java/lang/StringUTF16", "compress", "([CII)[B"⟩
abbrev yB : ByteArray := jdk_52_method_16_code
theorem d0 : decode yB 0 = .ok (.iload_n 2, 1) := by decide +kernel
theorem d1 : decode yB 1 = .ok (.newarray .byte, 2) := by decide +kernel
theorem d3 : decode yB 3 = .ok (.astore_n 3, 1) := by decide +kernel
theorem d4 : decode yB 4 = .ok (.aload_n 0, 1) := by decide +kernel
theorem d5 : decode yB 5 = .ok (.iload_n 1, 1) := by decide +kernel
theorem d6 : decode yB 6 = .ok (.aload_n 3, 1) := by decide +kernel
theorem d7 : decode yB 7 = .ok (.iconst 0, 1) := by decide +kernel
theorem d8 : decode yB 8 = .ok (.iload_n 2, 1) := by decide +kernel
theorem d9 : decode yB 9 = .ok (.invokestatic 115, 3) := by decide +kernel
theorem d12 : decode yB 12 = .ok (.istore 4, 2) := by decide +kernel
theorem d14 : decode yB 14 = .ok (.iload 4, 2) := by decide +kernel
theorem d16 : decode yB 16 = .ok (.iload_n 2, 1) := by decide +kernel
theorem d17 : decode yB 17 = .ok (.if_icmp (.eq) 40, 3) := by decide +kernel
theorem d57 : decode yB 57 = .ok (.aload_n 3, 1) := by decide +kernel
theorem d58 : decode yB 58 = .ok (.areturn, 1) := by decide +kernel
def site : List Cond := [.arrayClass .byte, Cmp5.tab] ++ staticW U16 115 Cmp5.yN
def tab : Cond := tabOf yN yB 6 (some (.array .byte)) site
def P (b : Addr) (A : Cell) (o len : Nat) (args : Array Value) (s : State) : Prop := args = #[.ref b, .int (Int32.ofNat o), .int (Int32.ofNat len)] ∧ Ch b A s ∧ o + len ≤ A.slots.size ∧ len ≤ 536870912 ∧ ∀ i, i < len → ¬ 255 < cv A (o + i)
def E (b : Addr) (A : Cell) (o len : Nat) (r : Option Value) (s u : State) : Prop := NewArr .byte "[B" len (fun j => .int (lo8 (cv A (o + j)))) r s u ∧ u.heap.size = s.heap.size + 1
/-- no char of the range above 255: a new byte[] of their low bytes -/
theorem law (l : Launch) (b : Addr) (A : Cell) (o len : Nat) : Law l yN 3 3 1 18 yB 6 (some (.array .byte)) site (P b A o len) (E b A o len) [] 1 len := by
  refine Law.of_walk (plainFor_of_name (by decide +kernel)) (by decide +kernel) (by decide +kernel) (by decide) (fun _ _ h => by rw [h.1]; rfl) (fun _ U U' hal hh h => ⟨h.1, h.2.1.mv hal hh, h.2.2⟩) (fun r U U' V V' h1 hal h2 h => ⟨NewArr.mv r U U' V V' h1 hal h2 h.1, by rw [h1, h2]; exact h.2⟩) ?_
  intro p e s m args below meth c s₁ X0 hexec hbytes hml hret hlk hnm hown hh0 W hP
  obtain ⟨rfl, hA, l1, l2, hp⟩ := hP
  have a31 := hA.1.2.2.2
  have c1 : Steps p.tables e below (s₁.setTop (entryFrame m #[.ref b, .int (Int32.ofNat o), .int (Int32.ofNat len)] 6)) (s₁.setTop (mkF m 0 #[.val (.ref b), .val (.int (Int32.ofNat o)), .val (.int (Int32.ofNat len)), .unset, .unset, .unset] [])) := entry rfl
  have c2 : Steps p.tables e below (s₁.setTop (entryFrame m #[.ref b, .int (Int32.ofNat o), .int (Int32.ofNat len)] 6)) (s₁.setTop (mkF m 1 #[.val (.ref b), .val (.int (Int32.ofNat o)), .val (.int (Int32.ofNat len)), .unset, .unset, .unset] [.int (Int32.ofNat len)])) := c1.trans (by
    refine XS.iloadN X0.here hexec rfl (hb hbytes d0) rfl ?_
    exact Steps.refl _)
  obtain ⟨T3, B3, X3, ba3, bs3, bv3, bh3, bf3, st3⟩ := X0.anew hexec (atype := .byte) (wk W (.arrayClass .byte)) rfl (by show len * 1 ≤ _; omega) (by omega) (g := (mkF m 1 #[.val (.ref b), .val (.int (Int32.ofNat o)), .val (.int (Int32.ofNat len)), .unset, .unset, .unset] [.int (Int32.ofNat len)])) rfl (hb hbytes d1) (rest := []) rfl (Nat.le_refl _) (by show 0 + len ≤ len; omega)
  rw [hh0] at ba3 st3
  have kp3 : XT.Kept s T3 := (XT.Kept.of_eq hh0).push bh3
  have hA3 := hA.keep X3.warmed.alike (kp3 _ _ hA.1.1)
  have hne : b ≠ s.heap.size := hA.1.ne
  have c4 : Steps p.tables e below (s₁.setTop (entryFrame m #[.ref b, .int (Int32.ofNat o), .int (Int32.ofNat len)] 6)) (T3.setTop (mkF m 3 #[.val (.ref b), .val (.int (Int32.ofNat o)), .val (.int (Int32.ofNat len)), .unset, .unset, .unset] [.ref s.heap.size])) := c2.trans (st3 _ (Steps.refl _))
  have c5 : Steps p.tables e below (s₁.setTop (entryFrame m #[.ref b, .int (Int32.ofNat o), .int (Int32.ofNat len)] 6)) (T3.setTop (mkF m 9 #[.val (.ref b), .val (.int (Int32.ofNat o)), .val (.int (Int32.ofNat len)), .val (.ref s.heap.size), .unset, .unset] [.int (Int32.ofNat len), .int 0, .ref s.heap.size, .int (Int32.ofNat o), .ref b])) := c4.trans (by
    refine XS.astoreN X3.here hexec rfl (hb hbytes d3) rfl rfl rfl ?_
    refine XS.aloadN X3.here hexec rfl (hb hbytes d4) rfl rfl ?_
    refine XS.iloadN X3.here hexec rfl (hb hbytes d5) rfl ?_
    refine XS.aloadN X3.here hexec rfl (hb hbytes d6) rfl rfl ?_
    refine iconstV X3.here hexec rfl 0 (hb hbytes d7) (by decide) ?_
    refine XS.iloadN X3.here hexec rfl (hb hbytes d8) rfl ?_
    exact Steps.refl _)
  obtain ⟨v6, T6, X6, E6, g6⟩ := X3.callS hexec (Cmp5.law l b A s.heap.size B3 o 0 len) hown (wks W (staticW U16 115 Cmp5.yN)) (wk W Cmp5.tab) (W := 0) (Nat.le_of_ble_eq_true rfl) (Nat.le_of_ble_eq_true rfl) (Nat.le_refl _) (by show 0 + len + 0 ≤ len; omega) (g := (mkF m 9 #[.val (.ref b), .val (.int (Int32.ofNat o)), .val (.int (Int32.ofNat len)), .val (.ref s.heap.size), .unset, .unset] [.int (Int32.ofNat len), .int (Int32.ofNat 0), .ref s.heap.size, .int (Int32.ofNat o), .ref b])) rfl (by rw [hml]; rfl) c5 (argsL := [.ref b, .int (Int32.ofNat o), .ref s.heap.size, .int (Int32.ofNat 0), .int (Int32.ofNat len)]) (rest := []) rfl rfl (by show 2 * 0 + 0 ≤ _; decide) (hb hbytes d9) (⟨rfl, hA3, ba3, hne, l1, by rw [bs3]; simp, hp⟩)
  obtain ⟨rfl, B6, p6, f6⟩ := E6
  have c7 : Steps p.tables e below (s₁.setTop (entryFrame m #[.ref b, .int (Int32.ofNat o), .int (Int32.ofNat len)] 6)) (T6.setTop (mkF m 12 #[.val (.ref b), .val (.int (Int32.ofNat o)), .val (.int (Int32.ofNat len)), .val (.ref s.heap.size), .unset, .unset] [.int (Int32.ofNat len)])) := g6
  have c8 : Steps p.tables e below (s₁.setTop (entryFrame m #[.ref b, .int (Int32.ofNat o), .int (Int32.ofNat len)] 6)) (T6.setTop (mkF m 58 #[.val (.ref b), .val (.int (Int32.ofNat o)), .val (.int (Int32.ofNat len)), .val (.ref s.heap.size), .val (.int (Int32.ofNat len)), .unset] [.ref s.heap.size])) := c7.trans (by
    refine XS.istore X6.here hexec rfl (hb hbytes d12) rfl rfl ?_
    refine XS.iload X6.here hexec rfl (hb hbytes d14) rfl ?_
    refine XS.iloadN X6.here hexec rfl (hb hbytes d16) rfl ?_
    refine XS.icmpYes X6.here hexec rfl (pc0 := 17) rfl (hb hbytes d17) rfl (ii_eq_t rfl) (by decide) rfl ?_
    refine XS.aloadN X6.here hexec rfl (hb hbytes d57) rfl rfl ?_
    exact Steps.refl _)
  have X8 := X6.wide (L' := []) (cells' := 1) (slots' := len) (fun x hx hlt => by
    simp only [List.nil_append, copyLocs, List.mem_map, List.mem_range] at hx
    obtain ⟨i, -, rfl⟩ := hx
    exact absurd hlt (Nat.lt_irrefl _)) (Nat.le_refl _) (by omega)
  exact ⟨T6, some (.ref s.heap.size), _, _, _, X8, rfl, rfl, rfl, (fun h => by cases h), ⟨⟨rfl, B6, ba3.like (X3.warmed.alike.symm.trans X6.warmed.alike) p6.1 f6.1 f6.2.1 f6.2.2.1, f6.2.1.trans bv3, by rw [X6.warmed.alike.findClass, f6.1]; exact bf3, by rw [f6.2.2.1, bs3]; simp, fun j hj => by rw [f6.2.2.2 j, if_pos (by omega)]; rfl, kp3.put p6 (Nat.le_refl _)⟩, by rw [p6.2.2, bh3, hh0]; simp⟩, fun fs hl => c8.trans (X8.areturnOut hexec rfl hret rfl (hb hbytes d58) hl)⟩
end Cmp3
namespace CodL
def yN : MethodName := ⟨"java/lang/StringUTF16", "coderFromArrayLen", "([BI)B"⟩
abbrev yB : ByteArray := jdk_52_method_15_code
theorem d0 : decode yB 0 = .ok (.iload_n 1, 1) := by decide +kernel
theorem d1 : decode yB 1 = .ok (.aload_n 0, 1) := by decide +kernel
theorem d2 : decode yB 2 = .ok (.arraylength, 1) := by decide +kernel
theorem d3 : decode yB 3 = .ok (.isub, 1) := by decide +kernel
theorem d4 : decode yB 4 = .ok (.bipush 31, 2) := by decide +kernel
theorem d6 : decode yB 6 = .ok (.iushr, 1) := by decide +kernel
theorem d7 : decode yB 7 = .ok (.i2b, 1) := by decide +kernel
theorem d8 : decode yB 8 = .ok (.ireturn, 1) := by decide +kernel
def site : List Cond := []
def tab : Cond := tabOf yN yB 2 (some .byte) site
def P (d : Addr) (B : Cell) (args : Array Value) (s : State) : Prop := args = #[.ref d, .int (Int32.ofNat B.slots.size)] ∧ Arr .byte d B s
def E (r : Option Value) (s u : State) : Prop := XT.PureE (some (.int 0)) r s u
/-- an array as long as the number of chars: LATIN1 -/
theorem law (l : Launch) (d : Addr) (B : Cell) : Law l yN 2 2 0 0 yB 2 (some .byte) site (P d B) E [] 0 0 := by
  refine Law.of_walk (plainFor_of_name (by decide +kernel)) (by decide +kernel) (by decide +kernel) (by decide) (fun _ _ h => by rw [h.1]; rfl) (fun _ U U' hal hh h => ⟨h.1, h.2.mv hal hh⟩) (fun r U U' V V' h1 hal h2 h => XT.PureE.mv r U U' V V' h1 hal h2 h) ?_
  intro p e s m args below meth c s₁ X0 hexec hbytes hml hret hlk hnm hown hh0 W hP
  obtain ⟨rfl, hB⟩ := hP
  have hB0 := hB.mv X0.warmed.alike hh0
  have c1 : Steps p.tables e below (s₁.setTop (entryFrame m #[.ref d, .int (Int32.ofNat B.slots.size)] 2)) (s₁.setTop (mkF m 0 #[.val (.ref d), .val (.int (Int32.ofNat B.slots.size))] [])) := entry rfl
  have c2 : Steps p.tables e below (s₁.setTop (entryFrame m #[.ref d, .int (Int32.ofNat B.slots.size)] 2)) (s₁.setTop (mkF m 2 #[.val (.ref d), .val (.int (Int32.ofNat B.slots.size))] [.ref d, .int (Int32.ofNat B.slots.size)])) := c1.trans (by
    refine XS.iloadN X0.here hexec rfl (hb hbytes d0) rfl ?_
    refine XS.aloadN X0.here hexec rfl (hb hbytes d1) rfl rfl ?_
    exact Steps.refl _)
  have c3 : Steps p.tables e below (s₁.setTop (entryFrame m #[.ref d, .int (Int32.ofNat B.slots.size)] 2)) (s₁.setTop (mkF m 8 #[.val (.ref d), .val (.int (Int32.ofNat B.slots.size))] [.int (lo8 (ushr (Int32.ofNat B.slots.size - Int32.ofNat B.slots.size) 31))])) := c2.trans (by
    refine X0.alen hexec hB0 rfl rfl (hb hbytes d2) ?_
    refine XS.isub X0.here hexec rfl (hb hbytes d3) rfl ?_
    refine bipushV X0.here hexec rfl 31 (hb hbytes d4) (by decide) ?_
    refine iushr X0.here hexec rfl (hb hbytes d6) rfl ?_
    refine i2b X0.here hexec rfl (hb hbytes d7) rfl ?_
    exact Steps.refl _)
  have e0 : lo8 (ushr (Int32.ofNat B.slots.size - Int32.ofNat B.slots.size) 31) = 0 := by rw [Int32.sub_self]; decide
  rw [e0] at c3
  exact ⟨s₁, some (.int 0), _, _, _, X0, rfl, rfl, rfl, (fun h => by cases h), ⟨rfl, hh0⟩, fun fs hl => c3.trans (X0.ireturnOut hexec hret rfl (Or.inr (Or.inr (Or.inl rfl))) (hb hbytes d8) hl)⟩
end CodL
/-- the String at a is Latin-1 over a new byte[] (the heap's one new cell): the low bytes of the len chars of A from o on; every cell but a is kept -/
def Got (a : Addr) (D : Cell) (fV fC : Field) (A : Cell) (o len : Nat) (r : Option Value) (s u : State) : Prop := r = none ∧ ∃ D' V : Cell, Blank "java/lang/String" a D' u ∧ Same D D' [fV.slot, fC.slot] ∧ D'.slots[fV.slot]? = some (.ref s.heap.size) ∧ D'.slots[fC.slot]? = some (.int 0) ∧ Arr .byte s.heap.size V u ∧ V.vm = .none ∧ u.vm.findClass "[B" = some V.cls ∧ V.slots.size = len ∧ (∀ j, j < len → V.slots[j]? = some (.int (lo8 (cv A (o + j))))) ∧ (∀ (y : Addr) (c : Cell), y ≠ a → s.heap[y]? = some c → u.heap[y]? = some c) ∧ u.heap.size = s.heap.size + 1
theorem Got.mv {a : Addr} {D A : Cell} {fV fC : Field} {o len : Nat} : ∀ r (U U' V V' : State), U'.heap = U.heap → V.vm.Alike V'.vm → V'.heap = V.heap → Got a D fV fC A o len r U V → Got a D fV fC A o len r U' V' :=
  fun r U U' V V' h1 hal h2 ⟨e0, D', X, a1, a2, a3, a4, a5, a6, a7, a8, a9, a10, a11⟩ => ⟨e0, D', X, a1.mv hal h2, a2, by rw [h1]; exact a3, a4, by rw [h1]; exact a5.mv hal h2, a6, by rw [hal.findClass]; exact a7, a8, a9, by rw [h1, h2]; exact a10, by rw [h1, h2]; exact a11⟩
namespace New4
def yN : MethodName := ⟨"java/lang/String", "<init>", "([CIILjava/lang/Void;)V"⟩
abbrev yB : ByteArray := jdk_42_method_149_code
theorem d0 : decode yB 0 = .ok (.aload_n 0, 1) := by decide +kernel
theorem d1 : decode yB 1 = .ok (.invokespecial 1, 3) := by decide +kernel
theorem d4 : decode yB 4 = .ok (.iload_n 3, 1) := by decide +kernel
theorem d5 : decode yB 5 = .ok (.ifCond (.ne) 22, 3) := by decide +kernel
theorem d27 : decode yB 27 = .ok (.getstatic 38, 3) := by decide +kernel
theorem d30 : decode yB 30 = .ok (.ifCond (.eq) 28, 3) := by decide +kernel
theorem d33 : decode yB 33 = .ok (.aload_n 1, 1) := by decide +kernel
theorem d34 : decode yB 34 = .ok (.iload_n 2, 1) := by decide +kernel
theorem d35 : decode yB 35 = .ok (.iload_n 3, 1) := by decide +kernel
theorem d36 : decode yB 36 = .ok (.invokestatic 177, 3) := by decide +kernel
theorem d39 : decode yB 39 = .ok (.astore 5, 2) := by decide +kernel
theorem d41 : decode yB 41 = .ok (.aload_n 0, 1) := by decide +kernel
theorem d42 : decode yB 42 = .ok (.aload 5, 2) := by decide +kernel
theorem d44 : decode yB 44 = .ok (.iload_n 3, 1) := by decide +kernel
theorem d45 : decode yB 45 = .ok (.invokestatic 47, 3) := by decide +kernel
theorem d48 : decode yB 48 = .ok (.putfield 15, 3) := by decide +kernel
theorem d51 : decode yB 51 = .ok (.aload_n 0, 1) := by decide +kernel
theorem d52 : decode yB 52 = .ok (.aload 5, 2) := by decide +kernel
theorem d54 : decode yB 54 = .ok (.putfield 9, 3) := by decide +kernel
theorem d57 : decode yB 57 = .ok (.return_, 1) := by decide +kernel
def site : List Cond := [.fieldLink "java/lang/String" 38 "java/lang/String" "COMPACT_STRINGS" "Z", Cmp3.tab, CodL.tab, .laysFinal "java/lang/String" "java/lang/String" "value" "[B", .fieldLink "java/lang/String" 9 "java/lang/String" "value" "[B", .laysFinal "java/lang/String" "java/lang/String" "coder" "B", .fieldLink "java/lang/String" 15 "java/lang/String" "coder" "B"] ++ objW "java/lang/String" 1 ++ staticW "java/lang/String" 177 Cmp3.yN ++ staticW "java/lang/String" 47 CodL.yN
def tab : Cond := tabOf yN yB 6 none site
def P (a : Addr) (D : Cell) (fV fC : Field) (b : Addr) (A : Cell) (z : Int32) (o len : Nat) (args : Array Value) (s : State) : Prop := args = #[.ref a, .ref b, .int (Int32.ofNat o), .int (Int32.ofNat len), .null] ∧ Blank "java/lang/String" a D s ∧ Found "java/lang/String" "value" "[B" fV s ∧ Found "java/lang/String" "coder" "B" fC s ∧ Ch b A s ∧ StaticIs s "java/lang/String" "COMPACT_STRINGS" "Z" (.int z) ∧ ¬ z = 0 ∧ 0 < len ∧ o + len ≤ A.slots.size ∧ len ≤ 536870912 ∧ ∀ i, i < len → ¬ 255 < cv A (o + i)
def E (a : Addr) (D : Cell) (fV fC : Field) (A : Cell) (o len : Nat) (r : Option Value) (s u : State) : Prop := Got a D fV fC A o len r s u
/-- len > 0, no char of the range above 255: a Latin-1 String of their low bytes -/
theorem law (l : Launch) (a : Addr) (D : Cell) (fV fC : Field) (b : Addr) (A : Cell) (z : Int32) (o len : Nat) : Law l yN 5 4 2 35 yB 6 none site (P a D fV fC b A z o len) (E a D fV fC A o len) [⟨a, fC.slot⟩, ⟨a, fV.slot⟩] 1 len := by
  refine Law.of_walk (plainFor_of_name (by decide +kernel)) (by decide +kernel) (by decide +kernel) (by decide) (fun _ _ h => by rw [h.1]; rfl) (fun _ U U' hal hh h => ⟨h.1, h.2.1.mv hal hh, h.2.2.1.al hal, h.2.2.2.1.al hal, h.2.2.2.2.1.mv hal hh, h.2.2.2.2.2.1.there hal hh, h.2.2.2.2.2.2⟩) (fun r U U' V V' h1 hal h2 h => Got.mv r U U' V V' h1 hal h2 h) ?_
  intro p e s m args below meth c s₁ X0 hexec hbytes hml hret hlk hnm hown hh0 W hP
  obtain ⟨rfl, hB, f1, f2, hA, s1, hz, l0, l1, l2, hp⟩ := hP
  have a31 := hA.1.2.2.2
  have c1 : Steps p.tables e below (s₁.setTop (entryFrame m #[.ref a, .ref b, .int (Int32.ofNat o), .int (Int32.ofNat len), .null] 6)) (s₁.setTop (mkF m 0 #[.val (.ref a), .val (.ref b), .val (.int (Int32.ofNat o)), .val (.int (Int32.ofNat len)), .val .null, .unset] [])) := entry rfl
  have c2 : Steps p.tables e below (s₁.setTop (entryFrame m #[.ref a, .ref b, .int (Int32.ofNat o), .int (Int32.ofNat len), .null] 6)) (s₁.setTop (mkF m 1 #[.val (.ref a), .val (.ref b), .val (.int (Int32.ofNat o)), .val (.int (Int32.ofNat len)), .val .null, .unset] [.ref a])) := c1.trans (by
    refine XS.aloadN X0.here hexec rfl (hb hbytes d0) rfl rfl ?_
    exact Steps.refl _)
  obtain ⟨T3, X3, q3, st3⟩ := X0.oinit hexec hown (wks W (objW "java/lang/String" 1)) (g := (mkF m 1 #[.val (.ref a), .val (.ref b), .val (.int (Int32.ofNat o)), .val (.int (Int32.ofNat len)), .val .null, .unset] [.ref a])) rfl (by rw [hml]; rfl) (rest := []) rfl (hb hbytes d1) (W := 0) (by show 2 * 0 + 0 ≤ _; decide) (Nat.le_of_ble_eq_true rfl) (Nat.le_of_ble_eq_true rfl)
  have hh3 := q3.trans hh0
  have c4 : Steps p.tables e below (s₁.setTop (entryFrame m #[.ref a, .ref b, .int (Int32.ofNat o), .int (Int32.ofNat len), .null] 6)) (T3.setTop (mkF m 27 #[.val (.ref a), .val (.ref b), .val (.int (Int32.ofNat o)), .val (.int (Int32.ofNat len)), .val .null, .unset] [])) := (c2.trans (st3 _ (Steps.refl _))).trans (by
    refine XS.iloadN X3.here hexec rfl (hb hbytes d4) rfl ?_
    refine XS.ifYes X3.here hexec rfl (pc0 := 5) rfl (hb hbytes d5) rfl (i0_ne_t (nz32 (by omega) l0)) (by decide) rfl ?_
    exact Steps.refl _)
  obtain ⟨T5, X5, q5, st5⟩ := X3.sget hexec hown (wk W (.fieldLink "java/lang/String" 38 "java/lang/String" "COMPACT_STRINGS" "Z")) s1 (fun _ _ h => by rw [hh3]; exact h) (g := (mkF m 27 #[.val (.ref a), .val (.ref b), .val (.int (Int32.ofNat o)), .val (.int (Int32.ofNat len)), .val .null, .unset] [])) rfl (hb hbytes d27)
  have hh5 := q5.trans hh3
  have c6 : Steps p.tables e below (s₁.setTop (entryFrame m #[.ref a, .ref b, .int (Int32.ofNat o), .int (Int32.ofNat len), .null] 6)) (T5.setTop (mkF m 30 #[.val (.ref a), .val (.ref b), .val (.int (Int32.ofNat o)), .val (.int (Int32.ofNat len)), .val .null, .unset] [.int z])) := c4.trans (st5 _ (Steps.refl _))
  have c7 : Steps p.tables e below (s₁.setTop (entryFrame m #[.ref a, .ref b, .int (Int32.ofNat o), .int (Int32.ofNat len), .null] 6)) (T5.setTop (mkF m 36 #[.val (.ref a), .val (.ref b), .val (.int (Int32.ofNat o)), .val (.int (Int32.ofNat len)), .val .null, .unset] [.int (Int32.ofNat len), .int (Int32.ofNat o), .ref b])) := c6.trans (by
    refine XS.ifNo X5.here hexec rfl (hb hbytes d30) rfl (i0_eq_f hz) ?_
    refine XS.aloadN X5.here hexec rfl (hb hbytes d33) rfl rfl ?_
    refine XS.iloadN X5.here hexec rfl (hb hbytes d34) rfl ?_
    refine XS.iloadN X5.here hexec rfl (hb hbytes d35) rfl ?_
    exact Steps.refl _)
  obtain ⟨v8, T8, X8, E8, g8⟩ := X5.callS hexec (Cmp3.law l b A o len) hown (wks W (staticW "java/lang/String" 177 Cmp3.yN)) (wk W Cmp3.tab) (W := 0) (Nat.le_of_ble_eq_true rfl) (Nat.le_of_ble_eq_true rfl) (Nat.le_refl _) (by show 0 + len ≤ len; omega) (g := (mkF m 36 #[.val (.ref a), .val (.ref b), .val (.int (Int32.ofNat o)), .val (.int (Int32.ofNat len)), .val .null, .unset] [.int (Int32.ofNat len), .int (Int32.ofNat o), .ref b])) rfl (by rw [hml]; rfl) c7 (argsL := [.ref b, .int (Int32.ofNat o), .int (Int32.ofNat len)]) (rest := []) rfl rfl (by show 2 * 0 + 0 ≤ _; decide) (hb hbytes d36) (⟨rfl, hA.mv X5.warmed.alike hh5, l1, l2, hp⟩)
  obtain ⟨e8, z8⟩ := E8
  obtain ⟨rfl, N, n1, n2, n3, n4, n5, n6⟩ := NewArr.mv _ T5 s _ _ hh5.symm (Vm.Alike.refl _) rfl e8
  rw [hh5] at z8
  have hB1 := hB.keep X8.warmed.alike (n6 _ _ hB.1)
  have hne : s.heap.size ≠ a := (Nat.ne_of_lt (Array.getElem?_eq_some_iff.mp hB.1).1).symm
  have c9 : Steps p.tables e below (s₁.setTop (entryFrame m #[.ref a, .ref b, .int (Int32.ofNat o), .int (Int32.ofNat len), .null] 6)) (T8.setTop (mkF m 39 #[.val (.ref a), .val (.ref b), .val (.int (Int32.ofNat o)), .val (.int (Int32.ofNat len)), .val .null, .unset] [.ref s.heap.size])) := g8
  have c10 : Steps p.tables e below (s₁.setTop (entryFrame m #[.ref a, .ref b, .int (Int32.ofNat o), .int (Int32.ofNat len), .null] 6)) (T8.setTop (mkF m 45 #[.val (.ref a), .val (.ref b), .val (.int (Int32.ofNat o)), .val (.int (Int32.ofNat len)), .val .null, .val (.ref s.heap.size)] [.int (Int32.ofNat N.slots.size), .ref s.heap.size, .ref a])) := by
    have hc : Steps p.tables e below (s₁.setTop (entryFrame m #[.ref a, .ref b, .int (Int32.ofNat o), .int (Int32.ofNat len), .null] 6)) (T8.setTop (mkF m 45 #[.val (.ref a), .val (.ref b), .val (.int (Int32.ofNat o)), .val (.int (Int32.ofNat len)), .val .null, .val (.ref s.heap.size)] [.int (Int32.ofNat len), .ref s.heap.size, .ref a])) := c9.trans (by
      refine XS.astore X8.here hexec rfl (hb hbytes d39) rfl rfl rfl ?_
      refine XS.aloadN X8.here hexec rfl (hb hbytes d41) rfl rfl ?_
      refine XS.aload X8.here hexec rfl (hb hbytes d42) rfl rfl ?_
      refine XS.iloadN X8.here hexec rfl (hb hbytes d44) rfl ?_
      exact Steps.refl _)
    rw [n4]; exact hc
  obtain ⟨v11, T11, X11, E11, g11⟩ := X8.callS hexec (CodL.law l s.heap.size N) hown (wks W (staticW "java/lang/String" 47 CodL.yN)) (wk W CodL.tab) (W := 1) (Nat.le_of_ble_eq_true rfl) (Nat.le_of_ble_eq_true rfl) (Nat.le_refl _) (by show 0 + len + 0 ≤ len; omega) (g := (mkF m 45 #[.val (.ref a), .val (.ref b), .val (.int (Int32.ofNat o)), .val (.int (Int32.ofNat len)), .val .null, .val (.ref s.heap.size)] [.int (Int32.ofNat N.slots.size), .ref s.heap.size, .ref a])) rfl (by rw [hml]; rfl) c10 (argsL := [.ref s.heap.size, .int (Int32.ofNat N.slots.size)]) (rest := [.ref a]) rfl rfl (by show 2 * 0 + (1 + 0) ≤ _; decide) (hb hbytes d45) (⟨rfl, n1⟩)
  obtain ⟨rfl, q11⟩ := E11
  have hB11 := hB1.mv (X8.warmed.alike.symm.trans X11.warmed.alike) q11
  have c12 : Steps p.tables e below (s₁.setTop (entryFrame m #[.ref a, .ref b, .int (Int32.ofNat o), .int (Int32.ofNat len), .null] 6)) (T11.setTop (mkF m 48 #[.val (.ref a), .val (.ref b), .val (.int (Int32.ofNat o)), .val (.int (Int32.ofNat len)), .val .null, .val (.ref s.heap.size)] [.int 0, .ref a])) := g11
  obtain ⟨T13, X13, p13, bl13, sl13, st13⟩ := X11.finit hexec hown (wk W (.fieldLink "java/lang/String" 15 "java/lang/String" "coder" "B")) (Or.inr ⟨_, (wk W (.laysFinal "java/lang/String" "java/lang/String" "coder" "B"))⟩) (Or.inl ⟨rfl, hnm⟩) f2 (Or.inl rfl) hB11 (t := .byte) (by decide +kernel) rfl (g := (mkF m 48 #[.val (.ref a), .val (.ref b), .val (.int (Int32.ofNat o)), .val (.int (Int32.ofNat len)), .val .null, .val (.ref s.heap.size)] [.int 0, .ref a])) rfl (rest := []) rfl (hb hbytes d48)
  have c14 : Steps p.tables e below (s₁.setTop (entryFrame m #[.ref a, .ref b, .int (Int32.ofNat o), .int (Int32.ofNat len), .null] 6)) (T13.setTop (mkF m 54 #[.val (.ref a), .val (.ref b), .val (.int (Int32.ofNat o)), .val (.int (Int32.ofNat len)), .val .null, .val (.ref s.heap.size)] [.ref s.heap.size, .ref a])) := (c12.trans (st13 _ (Steps.refl _))).trans (by
    refine XS.aloadN X13.here hexec rfl (hb hbytes d51) rfl rfl ?_
    refine XS.aload X13.here hexec rfl (hb hbytes d52) rfl rfl ?_
    exact Steps.refl _)
  obtain ⟨T15, X15, p15, bl15, sl15, st15⟩ := X13.finit hexec hown (wk W (.fieldLink "java/lang/String" 9 "java/lang/String" "value" "[B")) (Or.inr ⟨_, (wk W (.laysFinal "java/lang/String" "java/lang/String" "value" "[B"))⟩) (Or.inl ⟨rfl, hnm⟩) f1 (Or.inl rfl) bl13 (t := (.array .byte)) (by decide +kernel) rfl (g := (mkF m 54 #[.val (.ref a), .val (.ref b), .val (.int (Int32.ofNat o)), .val (.int (Int32.ofNat len)), .val .null, .val (.ref s.heap.size)] [.ref s.heap.size, .ref a])) rfl (rest := []) rfl (hb hbytes d54)
  have c16 : Steps p.tables e below (s₁.setTop (entryFrame m #[.ref a, .ref b, .int (Int32.ofNat o), .int (Int32.ofNat len), .null] 6)) (T15.setTop (mkF m 57 #[.val (.ref a), .val (.ref b), .val (.int (Int32.ofNat o)), .val (.int (Int32.ofNat len)), .val .null, .val (.ref s.heap.size)] [])) := c14.trans (st15 _ (Steps.refl _))
  have ap := apart (Or.inr ⟨_, (wk W (.laysFinal "java/lang/String" "java/lang/String" "value" "[B"))⟩) (Or.inr ⟨_, (wk W (.laysFinal "java/lang/String" "java/lang/String" "coder" "B"))⟩) f1 f2 (t₁ := .array .byte) (t₂ := .byte) (by decide +kernel) (by decide +kernel) (by decide)
  have al := X8.warmed.alike.symm.trans X15.warmed.alike
  have n7 : T11.heap[s.heap.size]? = some N := by rw [q11]; exact n1.1
  exact ⟨T15, none, _, _, _, X15, by simp, rfl, by omega, (fun _ => rfl), ⟨rfl, _, N, bl15, ((Same.refl D _).set _ (by simp)).set _ (by simp), sl15, (Cell.slots_setSlot_ne _ ap).trans sl13, n1.keep al (p15.other hne (p13.other hne n7)), n2, by rw [al.findClass]; exact n3, n4, n5, fun y c h1 h2 => p15.other h1 (p13.other h1 (by rw [q11]; exact n6 y c h2)), by rw [p15.2.2, p13.2.2, q11]; exact z8⟩, fun fs hl => c16.trans (X15.returnOut hexec hret (hb hbytes d57) hl)⟩
end New4
namespace New1
def yN : MethodName := ⟨"java/lang/String", "<init>", "([C)V"⟩
abbrev yB : ByteArray := jdk_42_method_3_code
theorem d0 : decode yB 0 = .ok (.aload_n 0, 1) := by decide +kernel
theorem d1 : decode yB 1 = .ok (.aload_n 1, 1) := by decide +kernel
theorem d2 : decode yB 2 = .ok (.iconst 0, 1) := by decide +kernel
theorem d3 : decode yB 3 = .ok (.aload_n 1, 1) := by decide +kernel
theorem d4 : decode yB 4 = .ok (.arraylength, 1) := by decide +kernel
theorem d5 : decode yB 5 = .ok (.aconst_null, 1) := by decide +kernel
theorem d6 : decode yB 6 = .ok (.invokespecial 27, 3) := by decide +kernel
theorem d9 : decode yB 9 = .ok (.return_, 1) := by decide +kernel
def site : List Cond := [New4.tab] ++ initW "java/lang/String" 27 New4.yN
def tab : Cond := tabOf yN yB 2 none site
def P (a : Addr) (D : Cell) (fV fC : Field) (b : Addr) (A : Cell) (z : Int32) (args : Array Value) (s : State) : Prop := args = #[.ref a, .ref b] ∧ Blank "java/lang/String" a D s ∧ Found "java/lang/String" "value" "[B" fV s ∧ Found "java/lang/String" "coder" "B" fC s ∧ Ch b A s ∧ StaticIs s "java/lang/String" "COMPACT_STRINGS" "Z" (.int z) ∧ ¬ z = 0 ∧ 0 < A.slots.size ∧ A.slots.size ≤ 536870912 ∧ ∀ i, i < A.slots.size → ¬ 255 < cv A i
def E (a : Addr) (D : Cell) (fV fC : Field) (A : Cell) (r : Option Value) (s u : State) : Prop := Got a D fV fC A 0 A.slots.size r s u
/-- new String(chars), not empty, no char above 255: a Latin-1 String of their low bytes -/
theorem law (l : Launch) (a : Addr) (D : Cell) (fV fC : Field) (b : Addr) (A : Cell) (z : Int32) : Law l yN 2 1 3 52 yB 2 none site (P a D fV fC b A z) (E a D fV fC A) [⟨a, fC.slot⟩, ⟨a, fV.slot⟩] 1 A.slots.size := by
  refine Law.of_walk (plainFor_of_name (by decide +kernel)) (by decide +kernel) (by decide +kernel) (by decide) (fun _ _ h => by rw [h.1]; rfl) (fun _ U U' hal hh h => ⟨h.1, h.2.1.mv hal hh, h.2.2.1.al hal, h.2.2.2.1.al hal, h.2.2.2.2.1.mv hal hh, h.2.2.2.2.2.1.there hal hh, h.2.2.2.2.2.2⟩) (fun r U U' V V' h1 hal h2 h => Got.mv r U U' V V' h1 hal h2 h) ?_
  intro p e s m args below meth c s₁ X0 hexec hbytes hml hret hlk hnm hown hh0 W hP
  obtain ⟨rfl, hB, f1, f2, hA, s1, hz, l0, l2, hp⟩ := hP
  have c1 : Steps p.tables e below (s₁.setTop (entryFrame m #[.ref a, .ref b] 2)) (s₁.setTop (mkF m 0 #[.val (.ref a), .val (.ref b)] [])) := entry rfl
  have c2 : Steps p.tables e below (s₁.setTop (entryFrame m #[.ref a, .ref b] 2)) (s₁.setTop (mkF m 6 #[.val (.ref a), .val (.ref b)] [.null, .int (Int32.ofNat A.slots.size), .int 0, .ref b, .ref a])) := c1.trans (by
    refine XS.aloadN X0.here hexec rfl (hb hbytes d0) rfl rfl ?_
    refine XS.aloadN X0.here hexec rfl (hb hbytes d1) rfl rfl ?_
    refine iconstV X0.here hexec rfl 0 (hb hbytes d2) (by decide) ?_
    refine XS.aloadN X0.here hexec rfl (hb hbytes d3) rfl rfl ?_
    refine X0.alen hexec (hA.1.mv X0.warmed.alike hh0) rfl rfl (hb hbytes d4) ?_
    refine XS.aconstNull X0.here hexec rfl (hb hbytes d5) ?_
    exact Steps.refl _)
  obtain ⟨v3, T3, X3, E3, g3⟩ := X0.callN hexec (New4.law l a D fV fC b A z 0 A.slots.size) rfl hown (wks W (initW "java/lang/String" 27 New4.yN)) (W New4.tab (by simp only [site, List.mem_cons, List.mem_append, true_or, or_true])) (W := 0) (Nat.le_of_ble_eq_true rfl) (Nat.le_of_ble_eq_true rfl) (Nat.le_refl _) (by show 0 + A.slots.size ≤ A.slots.size; omega) (g := (mkF m 6 #[.val (.ref a), .val (.ref b)] [.null, .int (Int32.ofNat A.slots.size), .int (Int32.ofNat 0), .ref b, .ref a])) rfl (by rw [hml]; rfl) c2 (argsL := [.ref b, .int (Int32.ofNat 0), .int (Int32.ofNat A.slots.size), .null]) (rest := []) rfl rfl (by show 2 * 0 + 0 ≤ _; decide) (hb hbytes d6) (⟨rfl, hB.mv X0.warmed.alike hh0, f1.al X0.warmed.alike, f2.al X0.warmed.alike, hA.mv X0.warmed.alike hh0, s1.there X0.warmed.alike hh0, hz, l0, by omega, l2, fun i hi => by rw [Nat.zero_add]; exact hp i hi⟩)
  have e0 := Got.mv _ s₁ s _ _ hh0.symm (Vm.Alike.refl _) rfl E3
  obtain rfl := e0.1
  have c4 : Steps p.tables e below (s₁.setTop (entryFrame m #[.ref a, .ref b] 2)) (T3.setTop (mkF m 9 #[.val (.ref a), .val (.ref b)] [])) := g3
  exact ⟨T3, none, _, _, _, X3, by simp, rfl, by omega, (fun _ => rfl), e0, fun fs hl => c4.trans (X3.returnOut hexec hret (hb hbytes d9) hl)⟩
theorem pays {l : Launch} {R : Room} {p : Program} {e : Env} {below : List Frame} {s : State} {sargs : Array Value} {len W : Nat} (a : Addr) (D : Cell) (fV fC : Field) (b : Addr) (A : Cell) (z : Int32) (htab : tab.before sargs s = true) (hfr : 4 ≤ R.frames) (hlo : W + 65 ≤ R.locals) :
    Back l R p e below s sargs yN len W (fun A₁ a₁ => A₁.cells + 1 ≤ R.cells ∧ A₁.slots + A.slots.size ≤ R.slots ∧ P a D fV fC b A z a₁ A₁.U) (fun A₁ _ v₁ B₁ => E a D fV fC A v₁ A₁.U B₁.U ∧ B₁.locs = A₁.locs ++ [⟨a, fC.slot⟩, ⟨a, fV.slot⟩] ∧ B₁.cells = A₁.cells + 1 ∧ B₁.slots = A₁.slots + A.slots.size) :=
  (law l a D fV fC b A z).pays htab hfr (by omega)
end New1
end StrChars
namespace StrChars.Road
open Jvm Sem ClassFile Op Lib Jvm.Stand Jvm.Free Jvm.Free.XT
open Jvm.Lib.Cold (StaticIs)
abbrev ST : String := "java/lang/String"
/-- every table word that New1's law asks, flat -/
abbrev words : List Jvm.Cond := [.code New1.yN New1.yB 2 none, .initialized ST, .methodLink ST 27 New4.yN, .instanceMethod New4.yN,
  .code New4.yN New4.yB 6 none, .fieldLink ST 38 ST "COMPACT_STRINGS" "Z", .laysFinal ST ST "value" "[B", .fieldLink ST 9 ST "value" "[B", .laysFinal ST ST "coder" "B", .fieldLink ST 15 ST "coder" "B",
  .methodLink ST 1 Lib.objectInit, .instanceMethod Lib.objectInit, .code Lib.objectInit ⟨#[0xb1]⟩ 1 none, .methodLink ST 177 Cmp3.yN, .static Cmp3.yN, .methodLink ST 47 CodL.yN, .static CodL.yN,
  .code Cmp3.yN Cmp3.yB 6 (some (.array .byte)), .initialized U16, .arrayClass .byte, .methodLink U16 115 Cmp5.yN, .static Cmp5.yN, .code Cmp5.yN Cmp5.yB 7 (some .int), .code CodL.yN CodL.yB 2 (some .byte)]
theorem tab_of {a : Array Value} {s : State} (h : ∀ w ∈ words, w.before a s = true) : New1.tab.before a s = true := by
  have h5 : Cmp5.tab.before a s = true := unparts (wk h (.code Cmp5.yN Cmp5.yB 7 (some .int))) (wks h (.initialized Cmp5.yN.cls :: Cmp5.site))
  have hc : CodL.tab.before a s = true := unparts (wk h (.code CodL.yN CodL.yB 2 (some .byte))) (wks h (.initialized CodL.yN.cls :: CodL.site))
  have q5 : ∀ w ∈ Cmp5.tab :: words, w.before a s = true := fun w hw => (List.mem_cons.mp hw).elim (fun e => e ▸ h5) (h w)
  have h3 : Cmp3.tab.before a s = true := unparts (wk q5 (.code Cmp3.yN Cmp3.yB 6 (some (.array .byte)))) (wks q5 (.initialized Cmp3.yN.cls :: Cmp3.site))
  have q3 : ∀ w ∈ Cmp3.tab :: CodL.tab :: words, w.before a s = true := fun w hw => (List.mem_cons.mp hw).elim (fun e => e ▸ h3) fun hw => (List.mem_cons.mp hw).elim (fun e => e ▸ hc) (h w)
  have h4 : New4.tab.before a s = true := unparts (wk q3 (.code New4.yN New4.yB 6 none)) (wks q3 (.initialized New4.yN.cls :: New4.site))
  have q4 : ∀ w ∈ New4.tab :: words, w.before a s = true := fun w hw => (List.mem_cons.mp hw).elim (fun e => e ▸ h4) (h w)
  exact unparts (wk q4 (.code New1.yN New1.yB 2 none)) (wks q4 (.initialized New1.yN.cls :: New1.site))
/-- the words ride from the start Z to the walk's own state -/
theorem moved {Z s : State} {a0 args : Array Value} (hZ : Z.Warmed39 s.vm) (hw : ∀ d ∈ words, d.before a0 Z = true) : ∀ d ∈ words, d.before args s = true := fun d hd => by
  have q := hw d hd
  have t : ∀ d ∈ words, d = .arrayClass .byte ∨ (d.onTables && d.keepsFace) = true := by decide +kernel
  rcases t d hd with rfl | t
  · exact RoadKit.mvA hZ q
  · exact RoadKit.mv hZ q t
/-- WHAT COMES BACK, over the tables of the start Z: h the heap at the call, h' behind it -/
def Q (Z : State) (x : Addr) (A : Cell) (h : Heap) (v : Option Value) (h' : Heap) (L : List Loc) : Prop := v = none ∧ (∀ y ∈ L, y.base = x) ∧ RoadKit.Keep h h' [x] ∧ h'.size = h.size + 1 ∧ RoadKit.Exa Z h' x ST ∧ RoadKit.Fld Z h' x ST "value" "[B" (.ref h.size) ∧ RoadKit.Fld Z h' x ST "coder" "B" (.int 0) ∧
  (∃ V : Cell, RoadKit.Arr Z h' h.size V .byte ∧ V.vm = .none ∧ Z.vm.findClass "[B" = some V.cls ∧ V.slots.size = A.slots.size ∧ ∀ j, j < A.slots.size → V.slots[j]? = some (.int (lo8 (cv A j)))) ∧
  ∀ (O n d : String) (w : Value), RoadKit.Fld Z h x O n d w → RoadKit.slotOf Z O n d ≠ RoadKit.slotOf Z ST "value" "[B" → RoadKit.slotOf Z O n d ≠ RoadKit.slotOf Z ST "coder" "B" → RoadKit.Fld Z h' x O n d w
/-- **new String(chars) AT A CALL, IN THE ROAD'S FORM**: for specialBack behind newO: x the fresh String, b the char[] with the cell A -/
theorem back {p : Program} {l : Launch} {e : Env} {R : Room} {s : State} {args : Array Value} {below : List Frame} {len W : Nat} {Z : State} {a0 : Array Value} {h : Heap} (hZ : Z.Warmed39 s.vm) (hw : ∀ d ∈ words, d.before a0 Z = true) {kI : Nat} (wi : (Jvm.Cond.instantiable ST kI).before a0 Z = true)
    {x b : Addr} {A : Cell} {z : Int32} {v0 c0 : Value} (E : RoadKit.Exa Z h x ST) (V : RoadKit.Fld Z h x ST "value" "[B" v0) (C : RoadKit.Fld Z h x ST "coder" "B" c0) (K : RoadKit.Arr Z h b A .char) (hty : Typed .char A) (S : RoadKit.Sta Z h ST "COMPACT_STRINGS" "Z" (.int z)) (hz : ¬ z = 0)
    (l0 : 0 < A.slots.size) (l2 : A.slots.size ≤ 536870912) (hp : ∀ i, i < A.slots.size → ¬ 255 < cv A i) (hfr : 4 ≤ R.frames) (hlo : W + 65 ≤ R.locals) :
    Back l R p e below s args New1.yN len W (fun P a => a = #[.ref x, .ref b] ∧ P.U.heap = h ∧ P.cells + 1 ≤ R.cells ∧ P.slots + A.slots.size ≤ R.slots)
      (fun P _ v B => ∃ L, Q Z x A h v B.U.heap L ∧ B.locs = P.locs ++ L ∧ B.cells = P.cells + 1 ∧ B.slots = P.slots + A.slots.size) := by
  intro m meth c P g ig mk a X hg hsize hdg hW hn hp'
  obtain ⟨rfl, rfl, r1, r2⟩ := hp'
  have al : Z.vm.Alike P.U.vm := hZ.alike.trans X.warmed.alike
  obtain ⟨D, cfV, kV, iV, fV, hD, gV, stV, knV, obV, asV, slV⟩ := id V
  obtain ⟨D', cfC, kC, iC, fC, hD', gC, stC, -, -, asC, slC⟩ := id C
  cases hD.symm.trans hD'
  obtain ⟨D2, kD, e1, e2, e3, e4, e5⟩ := id E
  cases hD.symm.trans e1
  obtain ⟨c2, k2, i1, i2, i3, -⟩ := Cond.instantiable_spec wi
  cases e2.symm.trans i1
  cases e3.symm.trans i2
  obtain ⟨kU, u1, u2⟩ := al.2.2 _ _ e3
  have hB : Blank ST x D P.U := ⟨hD, ⟨knV, fun q hq => by rw [hq] at obV; cases obV⟩, by rw [al.findClass]; exact e2, kU, u1, by rw [u2]; exact i3, by rw [u2]; exact e5 i3⟩
  have F1 : Found ST "value" "[B" fV P.U := ⟨SBG.found_only al ⟨cfV, kV, iV, gV⟩, stV⟩
  have F2 : Found ST "coder" "B" fC P.U := ⟨SBG.found_only al ⟨cfC, kC, iC, gC⟩, stC⟩
  have hA : Ch b A P.U := ⟨⟨K.1, State.isArrayOf_alike al K.2.1, K.2.2, by omega⟩, hty⟩
  have hS : StaticIs P.U ST "COMPACT_STRINGS" "Z" (.int z) := by
    obtain ⟨cfS, iS, kS, fS, st, cS, t1, t2, t3, t4, t5, t6, t7⟩ := S
    exact StaticIs.there (s := { Z with heap := P.U.heap }) ⟨cfS, iS, kS, fS, st, cS, t1, t2, t3, t4, t5, (fun q => by rw [q] at t6; cases t6), t7⟩ al rfl
  obtain ⟨v, B, X', ⟨⟨hv, E', V', q1, q2, q3, q4, q5, q6, q7, q8, q9, q10, q11⟩, hl, hc, hs⟩, st⟩ := New1.pays x D fV fC b A z (tab_of (moved hZ hw)) hfr hlo m meth c P g ig mk _ X hg hsize hdg hW hn ⟨r1, r2, rfl, hB, F1, F2, hA, hS, hz, l0, l2, hp⟩
  have al' : Z.vm.Alike B.U.vm := hZ.alike.trans X'.warmed.alike
  have hsz : E'.slots.size = D.slots.size := by
    obtain ⟨-, -, -, kB, w1, w2, w3⟩ := q1
    obtain ⟨kB', y1, y2⟩ := al'.2.2 _ _ e3
    rw [q2.2.1] at w1
    cases w1.symm.trans y1
    rw [w3, e5 i3, y2]
  refine ⟨v, B, X', ⟨_, ⟨hv, ?_, ⟨by omega, fun y cy hy hn' => q10 y cy (by simpa using hn') hy, fun y cy hy => ?_⟩, q11, ⟨E', _, q1.1, by rw [q2.2.1]; exact e2, by rw [q2.2.1]; exact e3, by rw [q2.1]; exact obV, fun _ => by rw [hsz]; exact e5 i3⟩,
    ⟨E', cfV, kV, iV, fV, q1.1, gV, stV, by rw [q2.1]; exact knV, by rw [q2.1]; exact obV, by rw [q2.2.1]; exact asV, q3⟩, ⟨E', cfC, kC, iC, fC, q1.1, gC, stC, by rw [q2.1]; exact knV, by rw [q2.1]; exact obV, by rw [q2.2.1]; exact asC, q4⟩,
    ⟨V', ⟨q5.1, State.isArrayOf_alike al'.symm q5.2.1, q5.2.2.1⟩, q6, by rw [← al'.findClass]; exact q7, q8, fun j hj => by have := q9 j hj; rwa [Nat.zero_add] at this⟩, fun O n d w F n1 n2 => ?_⟩, hl, hc, hs⟩, st⟩
  · intro y hy
    simp only [List.mem_cons, List.not_mem_nil, or_false] at hy
    rcases hy with rfl | rfl <;> rfl
  · by_cases q : y = x
    · subst q
      cases hD.symm.trans hy
      exact ⟨E', q1.1, q2.2.1, q2.1, hsz⟩
    · exact ⟨cy, q10 y cy q hy, rfl, rfl, rfl⟩
  · obtain ⟨D3, cf, k, i, f, g1, g2, g3, g4, g5, g6, g7⟩ := F
    cases hD.symm.trans g1
    simp only [RoadKit.slotOf, g2, gV, gC, Option.map_some, Option.getD_some] at n1 n2
    exact ⟨E', cf, k, i, f, q1.1, g2, g3, by rw [q2.1]; exact g4, by rw [q2.1]; exact g5, by rw [q2.2.1]; exact g6, by rw [q2.2.2 f.slot (by simp [n1, n2])]; exact g7⟩
end StrChars.Road
namespace StrChars.Road
open Jvm Sem ClassFile Op Lib Jvm.Stand Jvm.Free Jvm.Free.XT
/-- WHAT COMES BACK, the byte[] as a list of values -/
def QA (Z : State) (x : Addr) (zn : Int32) (cs : List Int32) (h : Heap) (v : Option Value) (h' : Heap) (L : List Loc) : Prop := v = none ∧ (∀ y ∈ L, y.base = x) ∧ RoadKit.Keep h h' [x] ∧ h'.size = h.size + 1 ∧ RoadKit.Exa Z h' x ST ∧ RoadKit.Fld Z h' x ST "value" "[B" (.ref h.size) ∧ RoadKit.Fld Z h' x ST "coder" "B" (.int 0) ∧
  (∃ kb, Z.vm.findClass "[B" = some kb ∧ RoadKit.Arv Z h' h.size kb .byte zn (cs.map fun c => .int (lo8 c)) (.int 0)) ∧
  ∀ (O n d : String) (w : Value), RoadKit.Fld Z h x O n d w → RoadKit.slotOf Z O n d ≠ RoadKit.slotOf Z ST "value" "[B" → RoadKit.slotOf Z O n d ≠ RoadKit.slotOf Z ST "coder" "B" → RoadKit.Fld Z h' x O n d w
/-- **new String(chars) AT A CALL, THE ARRAYS AS LISTS**: the char[] at b holds cs, not empty, no char above 255 -/
theorem backArv {p : Program} {l : Launch} {e : Env} {R : Room} {s : State} {args : Array Value} {below : List Frame} {len W : Nat} {Z : State} {a0 : Array Value} {h : Heap} (hZ : Z.Warmed39 s.vm) (hw : ∀ d ∈ words, d.before a0 Z = true) {kI : Nat} (wi : (Jvm.Cond.instantiable ST kI).before a0 Z = true)
    {x b : Addr} {k : ClassId} {zn z : Int32} {cs : List Int32} {dv v0 c0 : Value} (E : RoadKit.Exa Z h x ST) (V : RoadKit.Fld Z h x ST "value" "[B" v0) (C : RoadKit.Fld Z h x ST "coder" "B" c0) (K : RoadKit.Arv Z h b k .char zn (cs.map Value.int) dv) (S : RoadKit.Sta Z h ST "COMPACT_STRINGS" "Z" (.int z)) (hz : ¬ z = 0)
    (hlen : zn.toNatClampNeg = cs.length) (h0 : 0 < cs.length) (hbig : cs.length ≤ 536870912) (hall : ∀ c ∈ cs, ¬ 255 < c) (hfr : 4 ≤ R.frames) (hlo : W + 65 ≤ R.locals) :
    Back l R p e below s args New1.yN len W (fun P a => a = #[.ref x, .ref b] ∧ P.U.heap = h ∧ P.cells + 1 ≤ R.cells ∧ P.slots + cs.length ≤ R.slots)
      (fun P _ v B => ∃ L, QA Z x zn cs h v B.U.heap L ∧ B.locs = P.locs ++ L ∧ B.cells = P.cells + 1 ∧ B.slots = P.slots + cs.length) := by
  obtain ⟨A, K1, K2, K3, K4, K5, K6⟩ := K
  have e : A.slots.size = cs.length := K3.trans hlen
  have hat : ∀ (i : Nat) (hi : i < cs.length), A.slots[i]? = some (.int cs[i]) := fun i hi => by rw [K5 i (by omega)]; simp [List.getD_eq_getElem?_getD, hi]
  have hcv : ∀ (i : Nat) (hi : i < cs.length), cv A i = cs[i] := fun i hi => by unfold cv; rw [hat i hi]
  have hty : Typed .char A := fun i v hv => by
    have hi : i < A.slots.size := (Array.getElem?_eq_some_iff.mp hv).1
    have q := K5 i hi
    rw [hv] at q
    rw [Option.some.inj q]
    exact K6 i hi
  refine Back.mono (back hZ hw wi E V C K1 hty S hz (by omega) (by omega) (fun i hi => by rw [hcv i (by omega)]; exact hall _ (List.getElem_mem _)) hfr hlo) (fun P a hp => ⟨hp.1, hp.2.1, hp.2.2.1, by rw [e]; exact hp.2.2.2⟩) (fun P a v B hp hq => ?_)
  obtain ⟨L, ⟨q1, q2, q3, q4, q5, q6, q7, ⟨V', v1, v2, v3, v4, v5⟩, q9⟩, hl, hc, hs⟩ := hq
  refine ⟨L, ⟨q1, q2, q3, q4, q5, q6, q7, ⟨V'.cls, v3, V', v1, rfl, by rw [v4, e, hlen], K4, fun i hi => ?_, fun i hi => ?_⟩, q9⟩, hl, hc, by rw [hs, e]⟩
  · have hi' : i < cs.length := by omega
    rw [v5 i (by omega), hcv i hi']; simp [List.getD_eq_getElem?_getD, hi']
  · have hi' : i < cs.length := by omega
    simp only [List.getD_eq_getElem?_getD, List.getElem?_map, List.getElem?_eq_getElem hi', Option.map_some, Option.getD_some]
    exact fits_lo8 _
end StrChars.Road
namespace StrChars.Road
open Jvm Sem ClassFile Op Lib Jvm.Stand Jvm.Free Jvm.Free.XT
/-- WHAT COMES BACK, in the writer's own shape -/
def QV (Z : State) (x : Addr) (N : Int32) (bs : List Int32) (h : Heap) (n0 : Nat) (v : Option Value) (h' : Heap) (L : List Loc) : Prop := v = none ∧ RoadKit.Fr n0 L ∧ RoadKit.Keep h h' [x] ∧ RoadKit.Exa Z h' x ST ∧ RoadKit.Fld Z h' x ST "coder" "B" (.int 0) ∧
  ∃ (t : Addr) (kb : ClassId), n0 ≤ t ∧ h.size ≤ t ∧ ¬ t = x ∧ RoadKit.Fld Z h' x ST "value" "[B" (.ref t) ∧ RoadKit.Arv Z h' t kb .byte N (bs.map Value.int) (.int 0)
/-- **new String(chars) AT A CALL, FOR THE WRITER**: a char[] of n known ints, each 0 to 255 -/
theorem backV {p : Program} {l : Launch} {e : Env} {R : Room} {s : State} {args : Array Value} {below : List Frame} {len W : Nat} {Z : State} {a0 : Array Value} {h : Heap} (hZ : Z.Warmed39 s.vm) (hw : ∀ d ∈ words, d.before a0 Z = true) {kI : Nat} (wi : (Jvm.Cond.instantiable ST kI).before a0 Z = true)
    {x b : Addr} {kC : ClassId} {cs bs : List Int32} {d v0 c0 : Value} {z N : Int32} {n n0 : Nat} (hx0 : n0 ≤ x) (hh0 : n0 ≤ h.size) (E : RoadKit.Exa Z h x ST) (V : RoadKit.Fld Z h x ST "value" "[B" v0) (C : RoadKit.Fld Z h x ST "coder" "B" c0) (K : RoadKit.Arv Z h b kC .char N (cs.map Value.int) d) (S : RoadKit.Sta Z h ST "COMPACT_STRINGS" "Z" (.int z)) (hz : ¬ z = 0)
    (hn : cs.length = n) (hN : N = Int32.ofNat n) (l0 : 0 < n) (l2 : n ≤ 4000) (hp : ∀ c ∈ cs, ¬ c < 0 ∧ ¬ (255 : Int32) < c) (hb : bs = cs.map (fun c => c.toInt8.toInt32)) (hfr : 4 ≤ R.frames) (hlo : W + 65 ≤ R.locals) :
    Back l R p e below s args (⟨"java/lang/String", "<init>", "([C)V"⟩ : MethodName) len W (fun P a => a = #[.ref x, .ref b] ∧ P.U.heap = h ∧ P.cells + 1 ≤ R.cells ∧ P.slots + n ≤ R.slots)
      (fun P _ v B => ∃ L, QV Z x N bs h n0 v B.U.heap L ∧ B.locs = P.locs ++ L ∧ B.cells = P.cells + 1 ∧ B.slots = P.slots + n) := by
  subst hn hN hb
  refine Back.mono (backArv hZ hw wi E V C K S hz (n32 (by omega)) l0 (by omega) (fun c hc => (hp c hc).2) hfr hlo) (fun P a hp => hp) (fun P a v B hp hq => ?_)
  obtain ⟨L, ⟨q1, q2, q3, q4, q5, q6, q7, ⟨kb, v1, v2⟩, q9⟩, hl, hc, hs⟩ := hq
  exact ⟨L, ⟨q1, fun y hy => by rw [q2 y hy]; exact hx0, q3, q5, q7, h.size, kb, hh0, Nat.le_refl _, Nat.ne_of_gt E.lt, q6, by rw [List.map_map]; exact v2⟩, hl, hc, hs⟩
end StrChars.Road
end Jvm.Pilot.@@N@@

namespace Jvm.RoadKit
open Sem ClassFile Op Lib Jvm.Stand Jvm.Free Jvm.LawKit
section New
variable {p : Program} {l : Launch} {e : Env} {R : Room} {s : State} {m : MethodId} {args : Array Value} {below : List Frame} {meth : Method} {c : Code} {T : State} {locs : List Loc} {cells slots : Nat}
theorem retI (X : Stand p l e R s m args below meth c T locs cells slots) (hx : p.tables.exec = Jvm.exec) {pc : Nat} {Ls : Array Slot} {z : Int32} {rest : List Value} (hret : meth.sig.returnType = some .int) (hd : decode c.code pc = .ok (.ireturn, 1)) {fs : List Frame}
    (hl : ∀ (f : JFrame) (acts : List Action), f.method = m → f.locked = none → f.entered = [] → (doReturn e (T.setTop f) acts (some (.int z))).1 = T.setFrames fs) : Steps p.tables e below (T.setTop (mkF m pc Ls (.int z :: rest))) (T.setFrames fs) := by
  have hm' : T.vm.method? m = some meth := X.method'
  have hn : narrow .int (.int z) = .int z := rfl
  show Steps p.tables e below (T.setTop { method := m, pc := pc, locals := Ls, stack := _ :: rest, locked := none }) _
  jvm_step X.here [X.here.top, hx, hd, hm', hret, hn]
  first | (intro acts; rw [hl _ acts rfl rfl rfl]) | rw [hl _ _ rfl rfl rfl]
  exact Steps.refl _
end New
end Jvm.RoadKit
namespace Jvm.Pilot.@@N@@
open Jvm Jvm.ClassFile Sem Op Lib Jvm.Free Jvm.Stand Jvm.LawKit Jvm.RoadKit Bundle Jvm.Pilot.@@N@@.Jvm.D
theorem own_lclt {x y : Int64} (h : x < y) : lcmpW x y < 0 := by rw [lcW]; exact (lc_lt x y).2 h
theorem own_lcge {x y : Int64} (h : ¬ x < y) : ¬ (lcmpW x y < 0) := by rw [lcW]; exact fun k => h ((lc_lt x y).1 k)
theorem own_lcgt {x y : Int64} (h : y < x) : 0 < lcmpW x y := by rw [lcW]; exact (lc_gt x y).2 h
theorem own_lcle {x y : Int64} (h : ¬ y < x) : ¬ (0 < lcmpW x y) := by rw [lcW]; exact fun k => h ((lc_gt x y).1 k)
theorem own_lceq {x y : Int64} (h : x = y) : lcmpW x y = 0 := by rw [lcW]; exact (lc_eq x y).2 h
theorem own_lcne {x y : Int64} (h : ¬ (x = y)) : ¬ (lcmpW x y = 0) := by rw [lcW]; exact fun k => h ((lc_eq x y).1 k)
def canE (p1 : Int32) : Int32 := (if (255 : Int32) < p1 then (0 : Int32) else (1 : Int32))
theorem d8_0 : decode jdk_43_method_3_code 0 = .ok (.iload_n 0, 1) := by decide +kernel
theorem d8_1 : decode jdk_43_method_3_code 1 = .ok (.sipush 255, 3) := by decide +kernel
theorem d8_4 : decode jdk_43_method_3_code 4 = .ok (.if_icmp .gt 7, 3) := by decide +kernel
theorem d8_11 : decode jdk_43_method_3_code 11 = .ok (.iconst 0, 1) := by decide +kernel
theorem d8_12 : decode jdk_43_method_3_code 12 = .ok (.ireturn, 1) := by decide +kernel
theorem d8_7 : decode jdk_43_method_3_code 7 = .ok (.iconst 1, 1) := by decide +kernel
theorem d8_8 : decode jdk_43_method_3_code 8 = .ok (.goto 4, 3) := by decide +kernel
def Q_rm8 (Z : State) (p1 : Int32)  (h0 : Heap) (n0 : Nat) (v : Option Value) (h : Heap) (L : List Loc) : Prop := v = some (.int (canE p1)) ∧ Fr n0 L ∧ h = h0
theorem pn_java_lang_StringLatin1 : plainName "java/lang/StringLatin1" = true := by first | (simp [plainName, overriddenIn]; done) | decide +kernel
set_option maxRecDepth 65536 in
set_option maxHeartbeats 40000000 in
theorem rm8 (l : Launch) (Z : State) (a0 : Array Value) (hw : ∀ d ∈ tables_1, d.before a0 Z = true) (ws : List Jvm.Cond) (p1 : Int32)  (h0 : Heap) (n0 : Nat) (Z0 : n0 ≤ h0.size)  :
    MetFree l (⟨"java/lang/StringLatin1", "canEncode", "(C)Z"⟩ : MethodName) (head1 (Jvm.Cond.code (⟨"java/lang/StringLatin1", "canEncode", "(C)Z"⟩ : MethodName) jdk_43_method_3_code 1 (some .boolean) :: ws) ({ frames := 0, cells := 0, slots := 0, locals := 0 } : Room)) (fun a U => a = #[(.int p1)] ∧ Z.Warmed39 U.vm ∧ U.heap = h0) (fun _ _ _ _ _ => True) (fun _ U o U' => ∃ v L, o = .returned v ∧ Q_rm8 Z p1 h0 n0 v U'.heap L ∧ FrameEnd U o U' L ({ frames := 0, cells := 0, slots := 0, locals := 0 } : Room).cells ({ frames := 0, cells := 0, slots := 0, locals := 0 } : Room).slots) := by
  refine MetFree.of_bodySF (plainFor_of_name pn_java_lang_StringLatin1) hisR ?_
  intro p e s m args below meth c s₁ Bd hml0 hP hK
  obtain ⟨rfl, hZ, hh⟩ := hP
  have hx := Bd.exec
  have hby := Bd.bytes
  have hml : c.maxLocals = 1 := hml0
  have hown : s.vm.findClass "java/lang/StringLatin1" = some m.cls := findClass_of_methodNamed Bd.named
  have hnm := (name_of_methodNamed Bd.named Bd.method).1
  have X0 : Stand p l e ({ frames := 0, cells := 0, slots := 0, locals := 0 } : Room) s m #[(.int p1)] below meth c s₁ [] 0 0 := Stand.of_body Bd
  have e0 : s₁.heap = h0 := by rw [← hh, Bd.state]; rfl
  have N0 := Fr.nil n0
  have go0 : Goes p e below s₁ (entryFrame m #[(.int p1)] 1) s₁ (mkF m 0 #[.val (.int p1)] []) := fun t k => castTop (by first | (simp [entryFrame, mkF, argsToLocals, Value.category]; done) | rfl) k
  have go1 : Goes p e below s₁ (entryFrame m #[(.int p1)] 1) s₁ (mkF m 4 #[.val (.int p1)] [(.int (255 : Int32)), (.int p1)]) := fun t k => go0 t (by
    show Steps p.tables e below (s₁.setTop (mkF m 0 #[.val (.int p1)] [])) _
    refine XS.iloadN X0.here hx rfl (hb hby d8_0) rfl ?_
    show Steps p.tables e below (s₁.setTop (mkF m 1 #[.val (.int p1)] [(.int p1)])) _
    refine XS.sipush X0.here hx rfl (hb hby d8_1) ?_
    exact k)
  by_cases hc4_2 : (255 : Int32) < p1
  · have go3 : Goes p e below s₁ (entryFrame m #[(.int p1)] 1) s₁ (mkF m 12 #[.val (.int p1)] [(.int (0 : Int32))]) := fun t k => go1 t (by
      show Steps p.tables e below (s₁.setTop (mkF m 4 #[.val (.int p1)] [(.int (255 : Int32)), (.int p1)])) _
      refine XS.icmpYes X0.here hx rfl (pc0 := 4) (pc' := 11) rfl (hb hby d8_4) rfl (tlt hc4_2).2.2.1 (by decide) (by decide) ?_
      show Steps p.tables e below (s₁.setTop (mkF m 11 #[.val (.int p1)] [])) _
      refine XS.iconst X0.here hx rfl (hb hby d8_11) ?_
      exact k)
    obtain ⟨fs, hr, hrun, hended, hW, hsame⟩ := X0.leave (v := some (.int (0 : Int32))) (fun h => by rw [Bd.returns] at h; cases h)
    refine ⟨_, _, go3 _ ?_, hrun, hended, _, _, rfl, ?_, ⟨_, rfl⟩, hW, hsame.mono (by decide) (by decide)⟩
    · exact retN X0 hx (t := .boolean) Bd.returns (by simp) (hb hby d8_12) hr
    · show Q_rm8 Z p1 h0 n0 _ s₁.heap _
      rw [e0]
      exact ⟨by unfold canE; rw [if_pos hc4_2], N0, rfl⟩
  · have go4 : Goes p e below s₁ (entryFrame m #[(.int p1)] 1) s₁ (mkF m 12 #[.val (.int p1)] [(.int (1 : Int32))]) := fun t k => go1 t (by
      show Steps p.tables e below (s₁.setTop (mkF m 4 #[.val (.int p1)] [(.int (255 : Int32)), (.int p1)])) _
      refine XS.icmpNo X0.here hx rfl (hb hby d8_4) rfl (flt hc4_2).2.2.1 ?_
      show Steps p.tables e below (s₁.setTop (mkF m 7 #[.val (.int p1)] [])) _
      refine XS.iconst X0.here hx rfl (hb hby d8_7) ?_
      show Steps p.tables e below (s₁.setTop (mkF m 8 #[.val (.int p1)] [(.int (1 : Int32))])) _
      refine XS.goto X0.here hx rfl (pc0 := 8) (pc' := 12) rfl (hb hby d8_8) (by decide) (by decide) ?_
      exact k)
    obtain ⟨fs, hr, hrun, hended, hW, hsame⟩ := X0.leave (v := some (.int (1 : Int32))) (fun h => by rw [Bd.returns] at h; cases h)
    refine ⟨_, _, go4 _ ?_, hrun, hended, _, _, rfl, ?_, ⟨_, rfl⟩, hW, hsame.mono (by decide) (by decide)⟩
    · exact retN X0 hx (t := .boolean) Bd.returns (by simp) (hb hby d8_12) hr
    · show Q_rm8 Z p1 h0 n0 _ s₁.heap _
      rw [e0]
      exact ⟨by unfold canE; rw [if_neg hc4_2], N0, rfl⟩
theorem d9_0 : decode jdk_43_method_46_code 0 = .ok (.iconst 1, 1) := by decide +kernel
theorem d9_1 : decode jdk_43_method_46_code 1 = .ok (.newarray .byte, 2) := by decide +kernel
theorem d9_3 : decode jdk_43_method_46_code 3 = .ok (.dup, 1) := by decide +kernel
theorem d9_4 : decode jdk_43_method_46_code 4 = .ok (.iconst 0, 1) := by decide +kernel
theorem d9_5 : decode jdk_43_method_46_code 5 = .ok (.iload_n 0, 1) := by decide +kernel
theorem d9_6 : decode jdk_43_method_46_code 6 = .ok (.i2b, 1) := by decide +kernel
theorem d9_7 : decode jdk_43_method_46_code 7 = .ok (.bastore, 1) := by decide +kernel
theorem d9_8 : decode jdk_43_method_46_code 8 = .ok (.areturn, 1) := by decide +kernel
def Q_rm9 (Z : State) (p1 : Int32)  (h0 : Heap) (n0 : Nat) (v : Option Value) (h : Heap) (L : List Loc) : Prop := ∃ b : Addr, v = some (.ref b) ∧ Fr n0 L ∧ Keep h0 h []
set_option maxRecDepth 65536 in
set_option maxHeartbeats 40000000 in
theorem rm9 (l : Launch) (Z : State) (a0 : Array Value) (hw : ∀ d ∈ tables_1, d.before a0 Z = true) (ws : List Jvm.Cond) (p1 : Int32)  (h0 : Heap) (n0 : Nat) (Z0 : n0 ≤ h0.size)  :
    MetFree l (⟨"java/lang/StringLatin1", "toBytes", "(C)[B"⟩ : MethodName) (head1 (Jvm.Cond.code (⟨"java/lang/StringLatin1", "toBytes", "(C)[B"⟩ : MethodName) jdk_43_method_46_code 1 (some (.array .byte)) :: ws) ({ frames := 0, cells := 1, slots := 1, locals := 0 } : Room)) (fun a U => a = #[(.int p1)] ∧ Z.Warmed39 U.vm ∧ U.heap = h0) (fun _ _ _ _ _ => True) (fun _ U o U' => ∃ v L, o = .returned v ∧ Q_rm9 Z p1 h0 n0 v U'.heap L ∧ FrameEnd U o U' L ({ frames := 0, cells := 1, slots := 1, locals := 0 } : Room).cells ({ frames := 0, cells := 1, slots := 1, locals := 0 } : Room).slots) := by
  refine MetFree.of_bodySF (plainFor_of_name pn_java_lang_StringLatin1) hisR ?_
  intro p e s m args below meth c s₁ Bd hml0 hP hK
  obtain ⟨rfl, hZ, hh⟩ := hP
  have hx := Bd.exec
  have hby := Bd.bytes
  have hml : c.maxLocals = 1 := hml0
  have hown : s.vm.findClass "java/lang/StringLatin1" = some m.cls := findClass_of_methodNamed Bd.named
  have hnm := (name_of_methodNamed Bd.named Bd.method).1
  have X0 : Stand p l e ({ frames := 0, cells := 1, slots := 1, locals := 0 } : Room) s m #[(.int p1)] below meth c s₁ [] 0 0 := Stand.of_body Bd
  have e0 : s₁.heap = h0 := by rw [← hh, Bd.state]; rfl
  have N0 := Fr.nil n0
  have KP0 : Keep h0 h0 [] := Keep.refl h0 []
  have go0 : Goes p e below s₁ (entryFrame m #[(.int p1)] 1) s₁ (mkF m 0 #[.val (.int p1)] []) := fun t k => castTop (by first | (simp [entryFrame, mkF, argsToLocals, Value.category]; done) | rfl) k
  have go5 : Goes p e below s₁ (entryFrame m #[(.int p1)] 1) s₁ (mkF m 1 #[.val (.int p1)] [(.int (1 : Int32))]) := fun t k => go0 t (by
    show Steps p.tables e below (s₁.setTop (mkF m 0 #[.val (.int p1)] [])) _
    refine XS.iconst X0.here hx rfl (hb hby d9_0) ?_
    exact k)
  obtain ⟨T6, h6, k6, X6, e6, E6, A6, st6⟩ := newP X0 hx hZ (hw _ (List.mem_of_getElem? (i := 19) rfl)) e0 (g := (mkF m 1 #[.val (.int p1)] [(.int (1 : Int32))])) rfl (hb hby d9_1) rfl (by decide) (cap := 1) (by decide) (by decide) (by decide) (by decide)
  obtain ⟨b6, g6⟩ : ∃ z, z = h0.size := ⟨_, rfl⟩
  rw [← g6] at A6 st6
  have g_b6 : n0 ≤ b6 := Nat.le_trans Z0 (Nat.le_of_eq g6.symm)
  have sz_b6 : h0.size ≤ b6 := Nat.le_trans KP0.1 (Nat.le_of_eq g6.symm)
  have KP6 : Keep h0 h6 [] := KP0.ext E6
  have ZS6 : n0 ≤ h6.size := Nat.le_trans Z0 E6.1
  have V6 : Arv Z h6 b6 k6 .byte (1 : Int32) [(.int (0 : Int32))] (.int (0 : Int32)) := (Arv.new A6 (by decide)).pad (pad_rep [] (.int (0 : Int32)) 1)
  have go6 : Goes p e below s₁ (entryFrame m #[(.int p1)] 1) T6 (mkF m 3 #[.val (.int p1)] [(.ref b6)]) := fun t k => go5 t (st6 _ k)
  have go8 : Goes p e below s₁ (entryFrame m #[(.int p1)] 1) T6 (mkF m 7 #[.val (.int p1)] [(.int (p1.toInt8.toInt32)), (.int (0 : Int32)), (.ref b6), (.ref b6)]) := fun t k => go6 t (by
    show Steps p.tables e below (T6.setTop (mkF m 3 #[.val (.int p1)] [(.ref b6)])) _
    refine XS.dup X6.here hx rfl (hb hby d9_3) rfl rfl ?_
    show Steps p.tables e below (T6.setTop (mkF m 4 #[.val (.int p1)] [(.ref b6), (.ref b6)])) _
    refine XS.iconst X6.here hx rfl (hb hby d9_4) ?_
    show Steps p.tables e below (T6.setTop (mkF m 5 #[.val (.int p1)] [(.int (0 : Int32)), (.ref b6), (.ref b6)])) _
    refine XS.iloadN X6.here hx rfl (hb hby d9_5) rfl ?_
    show Steps p.tables e below (T6.setTop (mkF m 6 #[.val (.int p1)] [(.int p1), (.int (0 : Int32)), (.ref b6), (.ref b6)])) _
    refine XS.i2b X6.here hx rfl (hb hby d9_6) rfl ?_
    exact k)
  obtain ⟨cl7, Ar7, q7, S7, N_7, H7, G7⟩ := V6
  have hin7 : ¬ ((0 : Int32) < 0 ∨ cl7.slots.size ≤ ((0 : Int32)).toNatClampNeg) := inb_of S7 ⟨by decide, by decide⟩
  obtain ⟨T9, h9, X9, e9, W9, st9⟩ := stB X6 hx hZ e6 Ar7 (j := (0 : Int32)) hin7 (g := (mkF m 7 #[.val (.int p1)] [(.int (p1.toInt8.toInt32)), (.int (0 : Int32)), (.ref b6), (.ref b6)])) rfl rfl (hb hby d9_7)
  have N9 := Fr.snoc X9 N0 g_b6
  have KP9 : Keep h0 h9 [] := KP6.wr W9 (Or.inr sz_b6)
  have ZS9 : n0 ≤ h9.size := Nat.le_trans ZS6 (Keep.of_wr W9).1
  have V9 : Arv Z h9 b6 k6 .byte (1 : Int32) [(.int (nar .byte (p1.toInt8.toInt32)))] (.int (0 : Int32)) := Arv.set Ar7 q7 S7 N_7 H7 G7 (fits_nar_byte _) W9 0 rfl (Nat.le_of_ble_eq_true rfl)
  have go9 : Goes p e below s₁ (entryFrame m #[(.int p1)] 1) T9 (mkF m 8 #[.val (.int p1)] [(.ref b6)]) := fun t k => go8 t (st9 _ k)
  obtain ⟨fs, hr, hrun, hended, hW, hsame⟩ := X9.leave (v := some (.ref b6)) (fun h => by rw [Bd.returns] at h; cases h)
  refine ⟨_, _, go9 _ ?_, hrun, hended, _, _, rfl, ?_, ⟨_, rfl⟩, hW, hsame.mono (by decide) (by decide)⟩
  · jvm_step X9.here [X9.here.top, hx, (hb hby d9_8), X9.method', Bd.returns, Value.isRef, FieldType.isReference]
    first | (intro acts; rw [hr _ acts rfl rfl rfl]) | rw [hr _ _ rfl rfl rfl]
    exact Steps.refl _
  · show Q_rm9 Z p1 h0 n0 _ T9.heap _
    rw [e9]
    exact ⟨b6, rfl, N9, KP9⟩
theorem d10_0 : decode jdk_42_method_151_code 0 = .ok (.aload_n 0, 1) := by decide +kernel
theorem d10_1 : decode jdk_42_method_151_code 1 = .ok (.invokespecial 1, 3) := by decide +kernel
theorem d10_4 : decode jdk_42_method_151_code 4 = .ok (.aload_n 0, 1) := by decide +kernel
theorem d10_5 : decode jdk_42_method_151_code 5 = .ok (.aload_n 1, 1) := by decide +kernel
theorem d10_6 : decode jdk_42_method_151_code 6 = .ok (.putfield 9, 3) := by decide +kernel
theorem d10_9 : decode jdk_42_method_151_code 9 = .ok (.aload_n 0, 1) := by decide +kernel
theorem d10_10 : decode jdk_42_method_151_code 10 = .ok (.iload_n 2, 1) := by decide +kernel
theorem d10_11 : decode jdk_42_method_151_code 11 = .ok (.putfield 15, 3) := by decide +kernel
theorem d10_14 : decode jdk_42_method_151_code 14 = .ok (.return_, 1) := by decide +kernel
def Q_rm10 (Z : State) (a1 : Addr) (a2 : Addr)  (h0 : Heap) (n0 : Nat) (v : Option Value) (h : Heap) (L : List Loc) : Prop := v = none ∧ Fr n0 L ∧ Keep h0 h [a1]
theorem pn_java_lang_String : plainName "java/lang/String" = true := by first | (simp [plainName, overriddenIn]; done) | decide +kernel
set_option maxRecDepth 65536 in
set_option maxHeartbeats 40000000 in
theorem rm10 (l : Launch) (Z : State) (a0 : Array Value) (hw : ∀ d ∈ tables_1, d.before a0 Z = true) (ws : List Jvm.Cond) (a1 : Addr) (a2 : Addr)  (h0 : Heap) (n0 : Nat) (Z0 : n0 ≤ h0.size) (g_a1 : n0 ≤ a1) (Ex : Exa Z h0 a1 "java/lang/String") (F1 : Fld Z h0 a1 "java/lang/String" "value" "[B" .null) (F2 : Fld Z h0 a1 "java/lang/String" "coder" "B" (.int (0 : Int32))) :
    MetFree l (⟨"java/lang/String", "<init>", "([BB)V"⟩ : MethodName) (head1 (Jvm.Cond.code (⟨"java/lang/String", "<init>", "([BB)V"⟩ : MethodName) jdk_42_method_151_code 3 none :: ws) ({ frames := 1, cells := 0, slots := 0, locals := 12 } : Room)) (fun a U => a = #[(.ref a1), (.ref a2), (.int (0 : Int32))] ∧ Z.Warmed39 U.vm ∧ U.heap = h0) (fun _ _ _ _ _ => True) (fun _ U o U' => ∃ v L, o = .returned v ∧ Q_rm10 Z a1 a2 h0 n0 v U'.heap L ∧ FrameEnd U o U' L ({ frames := 1, cells := 0, slots := 0, locals := 12 } : Room).cells ({ frames := 1, cells := 0, slots := 0, locals := 12 } : Room).slots) := by
  refine MetFree.of_bodySF (plainFor_of_name pn_java_lang_String) hisR ?_
  intro p e s m args below meth c s₁ Bd hml0 hP hK
  obtain ⟨rfl, hZ, hh⟩ := hP
  have hx := Bd.exec
  have hby := Bd.bytes
  have hml : c.maxLocals = 3 := hml0
  have hown : s.vm.findClass "java/lang/String" = some m.cls := findClass_of_methodNamed Bd.named
  have hnm := (name_of_methodNamed Bd.named Bd.method).1
  have X0 : Stand p l e ({ frames := 1, cells := 0, slots := 0, locals := 12 } : Room) s m #[(.ref a1), (.ref a2), (.int (0 : Int32))] below meth c s₁ [] 0 0 := Stand.of_body Bd
  have e0 : s₁.heap = h0 := by rw [← hh, Bd.state]; rfl
  have N0 := Fr.nil n0
  have KP0 : Keep h0 h0 [a1] := Keep.refl h0 [a1]
  have go0 : Goes p e below s₁ (entryFrame m #[(.ref a1), (.ref a2), (.int (0 : Int32))] 3) s₁ (mkF m 0 #[.val (.ref a1), .val (.ref a2), .val (.int (0 : Int32))] []) := fun t k => castTop (by first | (simp [entryFrame, mkF, argsToLocals, Value.category]; done) | rfl) k
  have go10 : Goes p e below s₁ (entryFrame m #[(.ref a1), (.ref a2), (.int (0 : Int32))] 3) s₁ (mkF m 1 #[.val (.ref a1), .val (.ref a2), .val (.int (0 : Int32))] [(.ref a1)]) := fun t k => go0 t (by
    show Steps p.tables e below (s₁.setTop (mkF m 0 #[.val (.ref a1), .val (.ref a2), .val (.int (0 : Int32))] [])) _
    refine XS.aloadN X0.here hx rfl (hb hby d10_0) rfl rfl ?_
    exact k)
  obtain ⟨T11, X11, e11, st11⟩ := initO X0 hx hZ hown (hw _ (List.mem_of_getElem? (i := 11) rfl)) (hw _ (List.mem_of_getElem? (i := 12) rfl)) (hw _ (List.mem_of_getElem? (i := 13) rfl)) e0 (g := (mkF m 1 #[.val (.ref a1), .val (.ref a2), .val (.int (0 : Int32))] [(.ref a1)])) rfl (by rw [hml]; rfl) rfl (hb hby d10_1) (by decide) (W := 0) (by show 2 * 0 + _ ≤ _; exact Nat.le_of_eq rfl) (by decide)
  have go11 : Goes p e below s₁ (entryFrame m #[(.ref a1), (.ref a2), (.int (0 : Int32))] 3) T11 (mkF m 4 #[.val (.ref a1), .val (.ref a2), .val (.int (0 : Int32))] []) := fun t k => go10 t (st11 _ k)
  have go12 : Goes p e below s₁ (entryFrame m #[(.ref a1), (.ref a2), (.int (0 : Int32))] 3) T11 (mkF m 6 #[.val (.ref a1), .val (.ref a2), .val (.int (0 : Int32))] [(.ref a2), (.ref a1)]) := fun t k => go11 t (by
    show Steps p.tables e below (T11.setTop (mkF m 4 #[.val (.ref a1), .val (.ref a2), .val (.int (0 : Int32))] [])) _
    refine XS.aloadN X11.here hx rfl (hb hby d10_4) rfl rfl ?_
    show Steps p.tables e below (T11.setTop (mkF m 5 #[.val (.ref a1), .val (.ref a2), .val (.int (0 : Int32))] [(.ref a1)])) _
    refine XS.aloadN X11.here hx rfl (hb hby d10_5) rfl rfl ?_
    exact k)
  obtain ⟨T13, h13, X13, e13, W13, st13⟩ := putF X11 hx hZ hown (host := "") (Or.inl (hw _ (List.mem_of_getElem? (i := 28) rfl))) Via.refl e11 F1 Ex (Or.inr ⟨(hw _ (List.mem_of_getElem? (i := 29) rfl)), rfl, hnm⟩) (hw _ (List.mem_of_getElem? (i := 2) rfl)) (ty := (.array .byte)) (by decide) rfl rfl (g := (mkF m 6 #[.val (.ref a1), .val (.ref a2), .val (.int (0 : Int32))] [(.ref a2), (.ref a1)])) rfl rfl (hb hby d10_6)
  have N13 := Fr.snoc X13 N0 g_a1
  have KP13 : Keep h0 h13 [a1] := KP0.wr W13 (Or.inl (List.mem_of_getElem? (i := 0) rfl))
  have ZS13 : n0 ≤ h13.size := Nat.le_trans Z0 (Keep.of_wr W13).1
  have F13 := Fld.same W13 F1
  have go13 : Goes p e below s₁ (entryFrame m #[(.ref a1), (.ref a2), (.int (0 : Int32))] 3) T13 (mkF m 9 #[.val (.ref a1), .val (.ref a2), .val (.int (0 : Int32))] []) := fun t k => go12 t (st13 _ k)
  have f14 := (Fld.other W13 F2 (Or.inr (slot_ne (Or.inr (hw _ (List.mem_of_getElem? (i := 27) rfl))) (Or.inr (hw _ (List.mem_of_getElem? (i := 29) rfl))) (by decide) (t := .byte) (t' := (.array .byte)) (by decide) (by decide))))
  have go15 : Goes p e below s₁ (entryFrame m #[(.ref a1), (.ref a2), (.int (0 : Int32))] 3) T13 (mkF m 11 #[.val (.ref a1), .val (.ref a2), .val (.int (0 : Int32))] [(.int (0 : Int32)), (.ref a1)]) := fun t k => go13 t (by
    show Steps p.tables e below (T13.setTop (mkF m 9 #[.val (.ref a1), .val (.ref a2), .val (.int (0 : Int32))] [])) _
    refine XS.aloadN X13.here hx rfl (hb hby d10_9) rfl rfl ?_
    show Steps p.tables e below (T13.setTop (mkF m 10 #[.val (.ref a1), .val (.ref a2), .val (.int (0 : Int32))] [(.ref a1)])) _
    refine XS.iloadN X13.here hx rfl (hb hby d10_10) rfl ?_
    exact k)
  obtain ⟨T16, h16, X16, e16, W16, st16⟩ := putFN X13 hx hZ hown (hw _ (List.mem_of_getElem? (i := 26) rfl)) Via.refl e13 f14 (Exa.wr W13 Ex) (Or.inr ⟨(hw _ (List.mem_of_getElem? (i := 27) rfl)), rfl, hnm⟩) (hw _ (List.mem_of_getElem? (i := 2) rfl)) (ty := .byte) (v' := (.int (0 : Int32))) (by decide) rfl (by decide) (g := (mkF m 11 #[.val (.ref a1), .val (.ref a2), .val (.int (0 : Int32))] [(.int (0 : Int32)), (.ref a1)])) rfl rfl (hb hby d10_11)
  have N16 := Fr.snoc X16 N13 g_a1
  have KP16 : Keep h0 h16 [a1] := KP13.wr W16 (Or.inl (List.mem_of_getElem? (i := 0) rfl))
  have ZS16 : n0 ≤ h16.size := Nat.le_trans ZS13 (Keep.of_wr W16).1
  have F16 := Fld.same W16 f14
  have go16 : Goes p e below s₁ (entryFrame m #[(.ref a1), (.ref a2), (.int (0 : Int32))] 3) T16 (mkF m 14 #[.val (.ref a1), .val (.ref a2), .val (.int (0 : Int32))] []) := fun t k => go15 t (st16 _ k)
  obtain ⟨fs, hr, hrun, hended, hW, hsame⟩ := X16.leave (v := none) (fun _ => rfl)
  refine ⟨_, _, go16 _ ?_, hrun, hended, _, _, rfl, ?_, ⟨_, rfl⟩, hW, hsame.mono (by decide) (by decide)⟩
  · exact X16.returnOut hx Bd.returns (hb hby d10_14) hr
  · show Q_rm10 Z a1 a2 h0 n0 _ T16.heap _
    rw [e16]
    exact ⟨rfl, N16, KP16⟩
theorem d7_0 : decode jdk_42_method_139_code 0 = .ok (.getstatic 38, 3) := by decide +kernel
theorem d7_3 : decode jdk_42_method_139_code 3 = .ok (.ifCond .eq 23, 3) := by decide +kernel
theorem d7_6 : decode jdk_42_method_139_code 6 = .ok (.iload_n 0, 1) := by decide +kernel
theorem d7_7 : decode jdk_42_method_139_code 7 = .ok (.invokestatic 1015, 3) := by decide +kernel
theorem pd_0 : parseMethodDescriptor "(C)Z" = some ⟨[.char], some .boolean⟩ := by decide +kernel
theorem d7_10 : decode jdk_42_method_139_code 10 = .ok (.ifCond .eq 16, 3) := by decide +kernel
theorem d7_13 : decode jdk_42_method_139_code 13 = .ok (.new 10, 3) := by decide +kernel
theorem d7_16 : decode jdk_42_method_139_code 16 = .ok (.dup, 1) := by decide +kernel
theorem d7_17 : decode jdk_42_method_139_code 17 = .ok (.iload_n 0, 1) := by decide +kernel
theorem d7_18 : decode jdk_42_method_139_code 18 = .ok (.invokestatic 1018, 3) := by decide +kernel
theorem pd_1 : parseMethodDescriptor "(C)[B" = some ⟨[.char], some (.array .byte)⟩ := by decide +kernel
theorem d7_21 : decode jdk_42_method_139_code 21 = .ok (.iconst 0, 1) := by decide +kernel
theorem d7_22 : decode jdk_42_method_139_code 22 = .ok (.invokespecial 209, 3) := by decide +kernel
theorem pd_2 : parseMethodDescriptor "([BB)V" = some ⟨[(.array .byte), .byte], none⟩ := by decide +kernel
theorem d7_25 : decode jdk_42_method_139_code 25 = .ok (.areturn, 1) := by decide +kernel
def Q_rm7 (Z : State) (p1 : Int32) (cz : Int32) (h0 : Heap) (n0 : Nat) (v : Option Value) (h : Heap) (L : List Loc) : Prop := ∃ b : Addr, v = some (.ref b) ∧ Fr n0 L ∧ Keep h0 h []
set_option maxRecDepth 65536 in
set_option maxHeartbeats 40000000 in
theorem rm7 (l : Launch) (Z : State) (a0 : Array Value) (hw : ∀ d ∈ tables_1, d.before a0 Z = true) (ws : List Jvm.Cond) (p1 : Int32) (cz : Int32) (h0 : Heap) (n0 : Nat) (Z0 : n0 ≤ h0.size) (SC : Sta Z h0 "java/lang/String" "COMPACT_STRINGS" "Z" (.int cz)) (hz : ¬ (cz = (0 : Int32))) (hp : ¬ ((255 : Int32) < p1)) :
    MetFree l (⟨"java/lang/String", "valueOf", "(C)Ljava/lang/String;"⟩ : MethodName) (head1 (Jvm.Cond.code (⟨"java/lang/String", "valueOf", "(C)Ljava/lang/String;"⟩ : MethodName) jdk_42_method_139_code 1 (some (.object "java/lang/String")) :: ws) ({ frames := 2, cells := 2, slots := 5, locals := 27 } : Room)) (fun a U => a = #[(.int p1)] ∧ Z.Warmed39 U.vm ∧ U.heap = h0) (fun _ _ _ _ _ => True) (fun _ U o U' => ∃ v L, o = .returned v ∧ Q_rm7 Z p1 cz h0 n0 v U'.heap L ∧ FrameEnd U o U' L ({ frames := 2, cells := 2, slots := 5, locals := 27 } : Room).cells ({ frames := 2, cells := 2, slots := 5, locals := 27 } : Room).slots) := by
  refine MetFree.of_bodySF (plainFor_of_name pn_java_lang_String) hisR ?_
  intro p e s m args below meth c s₁ Bd hml0 hP hK
  obtain ⟨rfl, hZ, hh⟩ := hP
  have hx := Bd.exec
  have hby := Bd.bytes
  have hml : c.maxLocals = 1 := hml0
  have hown : s.vm.findClass "java/lang/String" = some m.cls := findClass_of_methodNamed Bd.named
  have hnm := (name_of_methodNamed Bd.named Bd.method).1
  have X0 : Stand p l e ({ frames := 2, cells := 2, slots := 5, locals := 27 } : Room) s m #[(.int p1)] below meth c s₁ [] 0 0 := Stand.of_body Bd
  have e0 : s₁.heap = h0 := by rw [← hh, Bd.state]; rfl
  have N0 := Fr.nil n0
  have KP0 : Keep h0 h0 [] := Keep.refl h0 []
  have go0 : Goes p e below s₁ (entryFrame m #[(.int p1)] 1) s₁ (mkF m 0 #[.val (.int p1)] []) := fun t k => castTop (by first | (simp [entryFrame, mkF, argsToLocals, Value.category]; done) | rfl) k
  obtain ⟨T17, X17, e17, st17⟩ := getS2 X0 hx hZ hown (host := "") (Or.inl (hw _ (List.mem_of_getElem? (i := 14) rfl))) Via.refl e0 SC (g := (mkF m 0 #[.val (.int p1)] [])) rfl (hb hby d7_0)
  have go17 : Goes p e below s₁ (entryFrame m #[(.int p1)] 1) T17 (mkF m 3 #[.val (.int p1)] [(.int cz)]) := fun t k => go0 t (st17 _ k)
  have go18 : Goes p e below s₁ (entryFrame m #[(.int p1)] 1) T17 (mkF m 7 #[.val (.int p1)] [(.int p1)]) := fun t k => go17 t (by
    show Steps p.tables e below (T17.setTop (mkF m 3 #[.val (.int p1)] [(.int cz)])) _
    refine XS.ifNo X17.here hx rfl (hb hby d7_3) rfl ((if0 _ _).trans (feq hz).1) ?_
    show Steps p.tables e below (T17.setTop (mkF m 6 #[.val (.int p1)] [])) _
    refine XS.iloadN X17.here hx rfl (hb hby d7_6) rfl ?_
    exact k)
  obtain ⟨_, _, ⟨T19, L19, k19, n19⟩, -, X19, ⟨Lc19, hQ19, l19, y19, z19⟩, st19⟩ := Jvm.LawKit.callS X17 hx (y := (⟨"java/lang/StringLatin1", "canEncode", "(C)Z"⟩ : MethodName)) hown (mvT hZ (hw _ (List.mem_of_getElem? (i := 33) rfl))) (mvT hZ (hw _ (List.mem_of_getElem? (i := 34) rfl))) (mvT hZ (hw _ (List.mem_of_getElem? (i := 35) rfl))) (mvT hZ (hw _ (List.mem_of_getElem? (i := 36) rfl))) (by decide) (backOf (W := 0) (rm8 l Z a0 hw [] p1  h0 n0 Z0 ) hZ (hw _ (List.mem_of_getElem? (i := 36) rfl)) (hw _ (List.mem_of_getElem? (i := 35) rfl)) (by decide) (by decide)) (g := (mkF m 7 #[.val (.int p1)] [(.int p1)])) rfl (by rw [hml]; rfl) (argsL := [(.int p1)]) (rest := []) (lenOf pd_0 rfl) rfl (by show 2 * 0 + _ ≤ _; exact Nat.le_of_eq rfl) (hb hby d7_7) (fun _ _ => ⟨rfl, e17, (by decide : 0 + 0 ≤ _), (by decide : 0 + 0 ≤ _)⟩)
  dsimp only [Pt.U, Pt.locs, Pt.cells, Pt.slots] at X19 l19 y19 z19 st19 hQ19
  subst l19 y19 z19
  obtain ⟨rfl, Nq19, eq19⟩ := hQ19
  have N19 := Fr.app N0 Nq19
  have go19 : Goes p e below s₁ (entryFrame m #[(.int p1)] 1) T19 (mkF m 10 #[.val (.int p1)] [(.int (canE p1))]) := fun t k => go18 t (st19 _ k)
  have hce : canE p1 = 1 := by unfold canE; rw [if_neg hp]
  have go20 : Goes p e below s₁ (entryFrame m #[(.int p1)] 1) T19 (mkF m 13 #[.val (.int p1)] []) := fun t k => go19 t (by
    show Steps p.tables e below (T19.setTop (mkF m 10 #[.val (.int p1)] [(.int (canE p1))])) _
    refine XS.ifNo X19.here hx rfl (hb hby d7_10) rfl ((if0 _ _).trans (feq (fun q => by rw [hce] at q; exact absurd q (by decide))).1) ?_
    exact k)
  obtain ⟨T21, h21, X21, e21, E21, A21, D21, -, st21⟩ := newO X19 hx hZ hown (hw _ (List.mem_of_getElem? (i := 37) rfl)) (hw _ (List.mem_of_getElem? (i := 2) rfl)) (hw _ (List.mem_of_getElem? (i := 3) rfl)) eq19 (g := (mkF m 13 #[.val (.int p1)] [])) rfl (hb hby d7_13) (by decide) (by decide)
  obtain ⟨b21, g21⟩ : ∃ z, z = h0.size := ⟨_, rfl⟩
  rw [← g21] at A21 D21 st21
  have g_b21 : n0 ≤ b21 := Nat.le_trans Z0 (Nat.le_of_eq g21.symm)
  have sz_b21 : h0.size ≤ b21 := Nat.le_trans KP0.1 (Nat.le_of_eq g21.symm)
  have KP21 : Keep h0 h21 [] := KP0.ext E21
  have ZS21 : n0 ≤ h21.size := Nat.le_trans Z0 E21.1
  have F21_coder : Fld Z h21 b21 "java/lang/String" "coder" "B" (.int (0 : Int32)) := D21 (Or.inr (hw _ (List.mem_of_getElem? (i := 27) rfl))) (ty := .byte) (by decide)
  have F21_value : Fld Z h21 b21 "java/lang/String" "value" "[B" .null := D21 (Or.inr (hw _ (List.mem_of_getElem? (i := 29) rfl))) (ty := (.array .byte)) (by decide)
  have go21 : Goes p e below s₁ (entryFrame m #[(.int p1)] 1) T21 (mkF m 16 #[.val (.int p1)] [(.ref b21)]) := fun t k => go20 t (st21 _ k)
  have go22 : Goes p e below s₁ (entryFrame m #[(.int p1)] 1) T21 (mkF m 18 #[.val (.int p1)] [(.int p1), (.ref b21), (.ref b21)]) := fun t k => go21 t (by
    show Steps p.tables e below (T21.setTop (mkF m 16 #[.val (.int p1)] [(.ref b21)])) _
    refine XS.dup X21.here hx rfl (hb hby d7_16) rfl rfl ?_
    show Steps p.tables e below (T21.setTop (mkF m 17 #[.val (.int p1)] [(.ref b21), (.ref b21)])) _
    refine XS.iloadN X21.here hx rfl (hb hby d7_17) rfl ?_
    exact k)
  obtain ⟨_, _, ⟨T23, L23, k23, n23⟩, -, X23, ⟨Lc23, hQ23, l23, y23, z23⟩, st23⟩ := Jvm.LawKit.callS X21 hx (y := (⟨"java/lang/StringLatin1", "toBytes", "(C)[B"⟩ : MethodName)) hown (mvT hZ (hw _ (List.mem_of_getElem? (i := 38) rfl))) (mvT hZ (hw _ (List.mem_of_getElem? (i := 39) rfl))) (mvT hZ (hw _ (List.mem_of_getElem? (i := 35) rfl))) (mvT hZ (hw _ (List.mem_of_getElem? (i := 40) rfl))) (by decide) (backOf (W := 2) (rm9 l Z a0 hw [] p1  h21 n0 ZS21 ) hZ (hw _ (List.mem_of_getElem? (i := 40) rfl)) (hw _ (List.mem_of_getElem? (i := 35) rfl)) (by decide) (by decide)) (g := (mkF m 18 #[.val (.int p1)] [(.int p1), (.ref b21), (.ref b21)])) rfl (by rw [hml]; rfl) (argsL := [(.int p1)]) (rest := [(.ref b21), (.ref b21)]) (lenOf pd_1 rfl) rfl (by show 2 * 0 + _ ≤ _; exact Nat.le_of_eq rfl) (hb hby d7_18) (fun _ _ => ⟨rfl, e21, (by decide : 1 + 1 ≤ _), (by decide : 4 + 1 ≤ _)⟩)
  dsimp only [Pt.U, Pt.locs, Pt.cells, Pt.slots] at X23 l23 y23 z23 st23 hQ23
  subst l23 y23 z23
  obtain ⟨y23, rfl, Nq23, K23⟩ := hQ23
  have N23 := Fr.app N19 Nq23
  have ZS23 : n0 ≤ T23.heap.size := Nat.le_trans ZS21 K23.1
  have KP23 : Keep h0 T23.heap [] := KP21.trans K23 all0
  have go23 : Goes p e below s₁ (entryFrame m #[(.int p1)] 1) T23 (mkF m 21 #[.val (.int p1)] [(.ref y23), (.ref b21), (.ref b21)]) := fun t k => go22 t (st23 _ k)
  have go24 : Goes p e below s₁ (entryFrame m #[(.int p1)] 1) T23 (mkF m 22 #[.val (.int p1)] [(.int (0 : Int32)), (.ref y23), (.ref b21), (.ref b21)]) := fun t k => go23 t (by
    show Steps p.tables e below (T23.setTop (mkF m 21 #[.val (.int p1)] [(.ref y23), (.ref b21), (.ref b21)])) _
    refine XS.iconst X23.here hx rfl (hb hby d7_21) ?_
    exact k)
  obtain ⟨_, _, ⟨T25, L25, k25, n25⟩, -, X25, ⟨Lc25, hQ25, l25, y25, z25⟩, st25⟩ := X23.specialBack hx (y := (⟨"java/lang/String", "<init>", "([BB)V"⟩ : MethodName)) rfl hown (mvT hZ (hw _ (List.mem_of_getElem? (i := 41) rfl))) (mvT hZ (hw _ (List.mem_of_getElem? (i := 42) rfl))) (mvT hZ (hw _ (List.mem_of_getElem? (i := 43) rfl))) (by decide) (backOf (W := 1) (rm10 l Z a0 hw [] b21 y23  T23.heap n0 ZS23 g_b21 (A21.keep K23) (F21_value.keep K23 nin0) (F21_coder.keep K23 nin0)) hZ (hw _ (List.mem_of_getElem? (i := 43) rfl)) (hw _ (List.mem_of_getElem? (i := 3) rfl)) (by decide) (by decide)) (g := (mkF m 22 #[.val (.int p1)] [(.int (0 : Int32)), (.ref y23), (.ref b21), (.ref b21)])) rfl (by rw [hml]; rfl) (Steps.refl _) (a := b21) (argsL := [(.ref y23), (.int (0 : Int32))]) (rest := [(.ref b21)]) (lenOf pd_2 rfl) rfl (by show 2 * 0 + _ ≤ _; exact Nat.le_of_eq rfl) (hb hby d7_22) (fun _ _ => ⟨rfl, rfl, (by decide : 2 + 0 ≤ _), (by decide : 5 + 0 ≤ _)⟩)
  dsimp only [Pt.U, Pt.locs, Pt.cells, Pt.slots] at X25 l25 y25 z25 st25 hQ25
  subst l25 y25 z25
  obtain ⟨rfl, Nq25, K25⟩ := hQ25
  have N25 := Fr.app N23 Nq25
  have ZS25 : n0 ≤ T25.heap.size := Nat.le_trans ZS23 K25.1
  have KP25 : Keep h0 T25.heap [] := KP23.trans K25 (allS (Or.inr sz_b21) all0)
  have go25 : Goes p e below s₁ (entryFrame m #[(.int p1)] 1) T25 (mkF m 25 #[.val (.int p1)] [(.ref b21)]) := fun t k => go24 t (st25.trans k)
  obtain ⟨fs, hr, hrun, hended, hW, hsame⟩ := X25.leave (v := some (.ref b21)) (fun h => by rw [Bd.returns] at h; cases h)
  refine ⟨_, _, go25 _ ?_, hrun, hended, _, _, rfl, ?_, ⟨_, rfl⟩, hW, hsame.mono (by decide) (by decide)⟩
  · jvm_step X25.here [X25.here.top, hx, (hb hby d7_25), X25.method', Bd.returns, Value.isRef, FieldType.isReference]
    first | (intro acts; rw [hr _ acts rfl rfl rfl]) | rw [hr _ _ rfl rfl rfl]
    exact Steps.refl _
  · show Q_rm7 Z p1 cz h0 n0 _ T25.heap _
    exact ⟨b21, rfl, N25, KP25⟩
theorem d12_0 : decode jdk_30_method_1_code 0 = .ok (.aload_n 0, 1) := by decide +kernel
theorem d12_1 : decode jdk_30_method_1_code 1 = .ok (.invokespecial 1, 3) := by decide +kernel
theorem d12_4 : decode jdk_30_method_1_code 4 = .ok (.return_, 1) := by decide +kernel
def Q_rm12 (Z : State) (a1 : Addr)  (h0 : Heap) (n0 : Nat) (v : Option Value) (h : Heap) (L : List Loc) : Prop := v = none ∧ Fr n0 L ∧ h = h0
theorem pn_java_lang_Record : plainName "java/lang/Record" = true := by first | (simp [plainName, overriddenIn]; done) | decide +kernel
set_option maxRecDepth 65536 in
set_option maxHeartbeats 40000000 in
theorem rm12 (l : Launch) (Z : State) (a0 : Array Value) (hw : ∀ d ∈ tables_1, d.before a0 Z = true) (ws : List Jvm.Cond) (a1 : Addr)  (h0 : Heap) (n0 : Nat) (Z0 : n0 ≤ h0.size)  :
    MetFree l (⟨"java/lang/Record", "<init>", "()V"⟩ : MethodName) (head1 (Jvm.Cond.code (⟨"java/lang/Record", "<init>", "()V"⟩ : MethodName) jdk_30_method_1_code 1 none :: ws) ({ frames := 1, cells := 0, slots := 0, locals := 12 } : Room)) (fun a U => a = #[(.ref a1)] ∧ Z.Warmed39 U.vm ∧ U.heap = h0) (fun _ _ _ _ _ => True) (fun _ U o U' => ∃ v L, o = .returned v ∧ Q_rm12 Z a1 h0 n0 v U'.heap L ∧ FrameEnd U o U' L ({ frames := 1, cells := 0, slots := 0, locals := 12 } : Room).cells ({ frames := 1, cells := 0, slots := 0, locals := 12 } : Room).slots) := by
  refine MetFree.of_bodySF (plainFor_of_name pn_java_lang_Record) hisR ?_
  intro p e s m args below meth c s₁ Bd hml0 hP hK
  obtain ⟨rfl, hZ, hh⟩ := hP
  have hx := Bd.exec
  have hby := Bd.bytes
  have hml : c.maxLocals = 1 := hml0
  have hown : s.vm.findClass "java/lang/Record" = some m.cls := findClass_of_methodNamed Bd.named
  have hnm := (name_of_methodNamed Bd.named Bd.method).1
  have X0 : Stand p l e ({ frames := 1, cells := 0, slots := 0, locals := 12 } : Room) s m #[(.ref a1)] below meth c s₁ [] 0 0 := Stand.of_body Bd
  have e0 : s₁.heap = h0 := by rw [← hh, Bd.state]; rfl
  have N0 := Fr.nil n0
  have go0 : Goes p e below s₁ (entryFrame m #[(.ref a1)] 1) s₁ (mkF m 0 #[.val (.ref a1)] []) := fun t k => castTop (by first | (simp [entryFrame, mkF, argsToLocals, Value.category]; done) | rfl) k
  have go26 : Goes p e below s₁ (entryFrame m #[(.ref a1)] 1) s₁ (mkF m 1 #[.val (.ref a1)] [(.ref a1)]) := fun t k => go0 t (by
    show Steps p.tables e below (s₁.setTop (mkF m 0 #[.val (.ref a1)] [])) _
    refine XS.aloadN X0.here hx rfl (hb hby d12_0) rfl rfl ?_
    exact k)
  obtain ⟨T27, X27, e27, st27⟩ := initO X0 hx hZ hown (hw _ (List.mem_of_getElem? (i := 55) rfl)) (hw _ (List.mem_of_getElem? (i := 12) rfl)) (hw _ (List.mem_of_getElem? (i := 13) rfl)) e0 (g := (mkF m 1 #[.val (.ref a1)] [(.ref a1)])) rfl (by rw [hml]; rfl) rfl (hb hby d12_1) (by decide) (W := 0) (by show 2 * 0 + _ ≤ _; exact Nat.le_of_eq rfl) (by decide)
  have go27 : Goes p e below s₁ (entryFrame m #[(.ref a1)] 1) T27 (mkF m 4 #[.val (.ref a1)] []) := fun t k => go26 t (st27 _ k)
  obtain ⟨fs, hr, hrun, hended, hW, hsame⟩ := X27.leave (v := none) (fun _ => rfl)
  refine ⟨_, _, go27 _ ?_, hrun, hended, _, _, rfl, ?_, ⟨_, rfl⟩, hW, hsame.mono (by decide) (by decide)⟩
  · exact X27.returnOut hx Bd.returns (hb hby d12_4) hr
  · show Q_rm12 Z a1 h0 n0 _ T27.heap _
    rw [e27]
    exact ⟨rfl, N0, rfl⟩
theorem d11_0 : decode prog_50_method_1_code 0 = .ok (.aload_n 0, 1) := by decide +kernel
theorem d11_1 : decode prog_50_method_1_code 1 = .ok (.invokespecial 1, 3) := by decide +kernel
theorem pd_3 : parseMethodDescriptor "()V" = some ⟨[], none⟩ := by decide +kernel
theorem d11_4 : decode prog_50_method_1_code 4 = .ok (.aload_n 0, 1) := by decide +kernel
theorem d11_5 : decode prog_50_method_1_code 5 = .ok (.aload_n 1, 1) := by decide +kernel
theorem d11_6 : decode prog_50_method_1_code 6 = .ok (.putfield 7, 3) := by decide +kernel
theorem d11_9 : decode prog_50_method_1_code 9 = .ok (.aload_n 0, 1) := by decide +kernel
theorem d11_10 : decode prog_50_method_1_code 10 = .ok (.aload_n 2, 1) := by decide +kernel
theorem d11_11 : decode prog_50_method_1_code 11 = .ok (.putfield 13, 3) := by decide +kernel
theorem d11_14 : decode prog_50_method_1_code 14 = .ok (.return_, 1) := by decide +kernel
def Q_rm11 (Z : State) (a1 : Addr) (a2 : Addr) (a3 : Addr)  (h0 : Heap) (n0 : Nat) (v : Option Value) (h : Heap) (L : List Loc) : Prop := v = none ∧ Fr n0 L ∧ Keep h0 h [a1]
theorem pn_com_example_rightful_keys_rightfulkeys_store_Account : plainName "com/example/rightful_keys/rightfulkeys/store/Account" = true := by first | (simp [plainName, overriddenIn]; done) | decide +kernel
set_option maxRecDepth 65536 in
set_option maxHeartbeats 40000000 in
theorem rm11 (l : Launch) (Z : State) (a0 : Array Value) (hw : ∀ d ∈ tables_1, d.before a0 Z = true) (ws : List Jvm.Cond) (a1 : Addr) (a2 : Addr) (a3 : Addr)  (h0 : Heap) (n0 : Nat) (Z0 : n0 ≤ h0.size) (g_a1 : n0 ≤ a1) (Ex : Exa Z h0 a1 "com/example/rightful_keys/rightfulkeys/store/Account") (F1 : Fld Z h0 a1 "com/example/rightful_keys/rightfulkeys/store/Account" "id" "Ljava/lang/String;" .null) (F2 : Fld Z h0 a1 "com/example/rightful_keys/rightfulkeys/store/Account" "name" "Ljava/lang/String;" .null) :
    MetFree l (⟨"com/example/rightful_keys/rightfulkeys/store/Account", "<init>", "(Ljava/lang/String;Ljava/lang/String;)V"⟩ : MethodName) (head1 (Jvm.Cond.code (⟨"com/example/rightful_keys/rightfulkeys/store/Account", "<init>", "(Ljava/lang/String;Ljava/lang/String;)V"⟩ : MethodName) prog_50_method_1_code 3 none :: ws) ({ frames := 2, cells := 0, slots := 0, locals := 24 } : Room)) (fun a U => a = #[(.ref a1), (.ref a2), (.ref a3)] ∧ Z.Warmed39 U.vm ∧ U.heap = h0) (fun _ _ _ _ _ => True) (fun _ U o U' => ∃ v L, o = .returned v ∧ Q_rm11 Z a1 a2 a3 h0 n0 v U'.heap L ∧ FrameEnd U o U' L ({ frames := 2, cells := 0, slots := 0, locals := 24 } : Room).cells ({ frames := 2, cells := 0, slots := 0, locals := 24 } : Room).slots) := by
  refine MetFree.of_bodySF (plainFor_of_name pn_com_example_rightful_keys_rightfulkeys_store_Account) hisR ?_
  intro p e s m args below meth c s₁ Bd hml0 hP hK
  obtain ⟨rfl, hZ, hh⟩ := hP
  have hx := Bd.exec
  have hby := Bd.bytes
  have hml : c.maxLocals = 3 := hml0
  have hown : s.vm.findClass "com/example/rightful_keys/rightfulkeys/store/Account" = some m.cls := findClass_of_methodNamed Bd.named
  have hnm := (name_of_methodNamed Bd.named Bd.method).1
  have X0 : Stand p l e ({ frames := 2, cells := 0, slots := 0, locals := 24 } : Room) s m #[(.ref a1), (.ref a2), (.ref a3)] below meth c s₁ [] 0 0 := Stand.of_body Bd
  have e0 : s₁.heap = h0 := by rw [← hh, Bd.state]; rfl
  have N0 := Fr.nil n0
  have KP0 : Keep h0 h0 [a1] := Keep.refl h0 [a1]
  have go0 : Goes p e below s₁ (entryFrame m #[(.ref a1), (.ref a2), (.ref a3)] 3) s₁ (mkF m 0 #[.val (.ref a1), .val (.ref a2), .val (.ref a3)] []) := fun t k => castTop (by first | (simp [entryFrame, mkF, argsToLocals, Value.category]; done) | rfl) k
  have go28 : Goes p e below s₁ (entryFrame m #[(.ref a1), (.ref a2), (.ref a3)] 3) s₁ (mkF m 1 #[.val (.ref a1), .val (.ref a2), .val (.ref a3)] [(.ref a1)]) := fun t k => go0 t (by
    show Steps p.tables e below (s₁.setTop (mkF m 0 #[.val (.ref a1), .val (.ref a2), .val (.ref a3)] [])) _
    refine XS.aloadN X0.here hx rfl (hb hby d11_0) rfl rfl ?_
    exact k)
  obtain ⟨_, _, ⟨T29, L29, k29, n29⟩, -, X29, ⟨Lc29, hQ29, l29, y29, z29⟩, st29⟩ := X0.specialBack hx (y := (⟨"java/lang/Record", "<init>", "()V"⟩ : MethodName)) rfl hown (mvT hZ (hw _ (List.mem_of_getElem? (i := 50) rfl))) (mvT hZ (hw _ (List.mem_of_getElem? (i := 51) rfl))) (mvT hZ (hw _ (List.mem_of_getElem? (i := 54) rfl))) (by decide) (backOf (W := 0) (rm12 l Z a0 hw [] a1  h0 n0 Z0 ) hZ (hw _ (List.mem_of_getElem? (i := 54) rfl)) (hw _ (List.mem_of_getElem? (i := 53) rfl)) (by decide) (by decide)) (g := (mkF m 1 #[.val (.ref a1), .val (.ref a2), .val (.ref a3)] [(.ref a1)])) rfl (by rw [hml]; rfl) (Steps.refl _) (a := a1) (argsL := []) (rest := []) (lenOf pd_3 rfl) rfl (by show 2 * 0 + _ ≤ _; exact Nat.le_of_eq rfl) (hb hby d11_1) (fun _ _ => ⟨rfl, e0, (by decide : 0 + 0 ≤ _), (by decide : 0 + 0 ≤ _)⟩)
  dsimp only [Pt.U, Pt.locs, Pt.cells, Pt.slots] at X29 l29 y29 z29 st29 hQ29
  subst l29 y29 z29
  obtain ⟨rfl, Nq29, eq29⟩ := hQ29
  have N29 := Fr.app N0 Nq29
  have go29 : Goes p e below s₁ (entryFrame m #[(.ref a1), (.ref a2), (.ref a3)] 3) T29 (mkF m 4 #[.val (.ref a1), .val (.ref a2), .val (.ref a3)] []) := fun t k => go28 t (st29.trans k)
  have go30 : Goes p e below s₁ (entryFrame m #[(.ref a1), (.ref a2), (.ref a3)] 3) T29 (mkF m 6 #[.val (.ref a1), .val (.ref a2), .val (.ref a3)] [(.ref a2), (.ref a1)]) := fun t k => go29 t (by
    show Steps p.tables e below (T29.setTop (mkF m 4 #[.val (.ref a1), .val (.ref a2), .val (.ref a3)] [])) _
    refine XS.aloadN X29.here hx rfl (hb hby d11_4) rfl rfl ?_
    show Steps p.tables e below (T29.setTop (mkF m 5 #[.val (.ref a1), .val (.ref a2), .val (.ref a3)] [(.ref a1)])) _
    refine XS.aloadN X29.here hx rfl (hb hby d11_5) rfl rfl ?_
    exact k)
  obtain ⟨T31, h31, X31, e31, W31, st31⟩ := putF X29 hx hZ hown (host := "") (Or.inl (hw _ (List.mem_of_getElem? (i := 56) rfl))) Via.refl eq29 F1 Ex (Or.inr ⟨(hw _ (List.mem_of_getElem? (i := 57) rfl)), rfl, hnm⟩) (hw _ (List.mem_of_getElem? (i := 45) rfl)) (ty := (.object "java/lang/String")) (by decide) rfl rfl (g := (mkF m 6 #[.val (.ref a1), .val (.ref a2), .val (.ref a3)] [(.ref a2), (.ref a1)])) rfl rfl (hb hby d11_6)
  have N31 := Fr.snoc X31 N29 g_a1
  have KP31 : Keep h0 h31 [a1] := KP0.wr W31 (Or.inl (List.mem_of_getElem? (i := 0) rfl))
  have ZS31 : n0 ≤ h31.size := Nat.le_trans Z0 (Keep.of_wr W31).1
  have F31 := Fld.same W31 F1
  have go31 : Goes p e below s₁ (entryFrame m #[(.ref a1), (.ref a2), (.ref a3)] 3) T31 (mkF m 9 #[.val (.ref a1), .val (.ref a2), .val (.ref a3)] []) := fun t k => go30 t (st31 _ k)
  have f32 := (Fld.other W31 F2 (Or.inr (slot_ne (Or.inr (hw _ (List.mem_of_getElem? (i := 59) rfl))) (Or.inr (hw _ (List.mem_of_getElem? (i := 57) rfl))) (by decide) (t := (.object "java/lang/String")) (t' := (.object "java/lang/String")) (by decide) (by decide))))
  have go33 : Goes p e below s₁ (entryFrame m #[(.ref a1), (.ref a2), (.ref a3)] 3) T31 (mkF m 11 #[.val (.ref a1), .val (.ref a2), .val (.ref a3)] [(.ref a3), (.ref a1)]) := fun t k => go31 t (by
    show Steps p.tables e below (T31.setTop (mkF m 9 #[.val (.ref a1), .val (.ref a2), .val (.ref a3)] [])) _
    refine XS.aloadN X31.here hx rfl (hb hby d11_9) rfl rfl ?_
    show Steps p.tables e below (T31.setTop (mkF m 10 #[.val (.ref a1), .val (.ref a2), .val (.ref a3)] [(.ref a1)])) _
    refine XS.aloadN X31.here hx rfl (hb hby d11_10) rfl rfl ?_
    exact k)
  obtain ⟨T34, h34, X34, e34, W34, st34⟩ := putF X31 hx hZ hown (host := "") (Or.inl (hw _ (List.mem_of_getElem? (i := 58) rfl))) Via.refl e31 f32 (Exa.wr W31 Ex) (Or.inr ⟨(hw _ (List.mem_of_getElem? (i := 59) rfl)), rfl, hnm⟩) (hw _ (List.mem_of_getElem? (i := 45) rfl)) (ty := (.object "java/lang/String")) (by decide) rfl rfl (g := (mkF m 11 #[.val (.ref a1), .val (.ref a2), .val (.ref a3)] [(.ref a3), (.ref a1)])) rfl rfl (hb hby d11_11)
  have N34 := Fr.snoc X34 N31 g_a1
  have KP34 : Keep h0 h34 [a1] := KP31.wr W34 (Or.inl (List.mem_of_getElem? (i := 0) rfl))
  have ZS34 : n0 ≤ h34.size := Nat.le_trans ZS31 (Keep.of_wr W34).1
  have F34 := Fld.same W34 f32
  have go34 : Goes p e below s₁ (entryFrame m #[(.ref a1), (.ref a2), (.ref a3)] 3) T34 (mkF m 14 #[.val (.ref a1), .val (.ref a2), .val (.ref a3)] []) := fun t k => go33 t (st34 _ k)
  obtain ⟨fs, hr, hrun, hended, hW, hsame⟩ := X34.leave (v := none) (fun _ => rfl)
  refine ⟨_, _, go34 _ ?_, hrun, hended, _, _, rfl, ?_, ⟨_, rfl⟩, hW, hsame.mono (by decide) (by decide)⟩
  · exact X34.returnOut hx Bd.returns (hb hby d11_14) hr
  · show Q_rm11 Z a1 a2 a3 h0 n0 _ T34.heap _
    rw [e34]
    exact ⟨rfl, N34, KP34⟩
theorem d13_0 : decode prog_67_method_1_code 0 = .ok (.aload_n 0, 1) := by decide +kernel
theorem d13_1 : decode prog_67_method_1_code 1 = .ok (.invokespecial 1, 3) := by decide +kernel
theorem d13_4 : decode prog_67_method_1_code 4 = .ok (.aload_n 0, 1) := by decide +kernel
theorem d13_5 : decode prog_67_method_1_code 5 = .ok (.aload_n 1, 1) := by decide +kernel
theorem d13_6 : decode prog_67_method_1_code 6 = .ok (.putfield 7, 3) := by decide +kernel
theorem d13_9 : decode prog_67_method_1_code 9 = .ok (.aload_n 0, 1) := by decide +kernel
theorem d13_10 : decode prog_67_method_1_code 10 = .ok (.aload_n 2, 1) := by decide +kernel
theorem d13_11 : decode prog_67_method_1_code 11 = .ok (.putfield 13, 3) := by decide +kernel
theorem d13_14 : decode prog_67_method_1_code 14 = .ok (.aload_n 0, 1) := by decide +kernel
theorem d13_15 : decode prog_67_method_1_code 15 = .ok (.aload_n 3, 1) := by decide +kernel
theorem d13_16 : decode prog_67_method_1_code 16 = .ok (.putfield 16, 3) := by decide +kernel
theorem d13_19 : decode prog_67_method_1_code 19 = .ok (.aload_n 0, 1) := by decide +kernel
theorem d13_20 : decode prog_67_method_1_code 20 = .ok (.aload 4, 2) := by decide +kernel
theorem d13_22 : decode prog_67_method_1_code 22 = .ok (.putfield 20, 3) := by decide +kernel
theorem d13_25 : decode prog_67_method_1_code 25 = .ok (.aload_n 0, 1) := by decide +kernel
theorem d13_26 : decode prog_67_method_1_code 26 = .ok (.aload 5, 2) := by decide +kernel
theorem d13_28 : decode prog_67_method_1_code 28 = .ok (.putfield 23, 3) := by decide +kernel
theorem d13_31 : decode prog_67_method_1_code 31 = .ok (.return_, 1) := by decide +kernel
def Q_rm13n (Z : State) (a1 : Addr) (a2 : Addr) (a3 : Addr) (a5 : Addr)  (h0 : Heap) (n0 : Nat) (v : Option Value) (h : Heap) (L : List Loc) : Prop := v = none ∧ Fr n0 L ∧ Keep h0 h [a1] ∧ Exa Z h a1 "com/example/rightful_keys/rightfulkeys/store/Role" ∧ Fld Z h a1 "com/example/rightful_keys/rightfulkeys/store/Role" "account" "Lcom/example/rightful_keys/rightfulkeys/store/Account;" .null
theorem pn_com_example_rightful_keys_rightfulkeys_store_Role : plainName "com/example/rightful_keys/rightfulkeys/store/Role" = true := by first | (simp [plainName, overriddenIn]; done) | decide +kernel
set_option maxRecDepth 65536 in
set_option maxHeartbeats 40000000 in
theorem rm13n (l : Launch) (Z : State) (a0 : Array Value) (hw : ∀ d ∈ tables_1, d.before a0 Z = true) (ws : List Jvm.Cond) (a1 : Addr) (a2 : Addr) (a3 : Addr) (a5 : Addr)  (h0 : Heap) (n0 : Nat) (Z0 : n0 ≤ h0.size) (g_a1 : n0 ≤ a1) (Ex : Exa Z h0 a1 "com/example/rightful_keys/rightfulkeys/store/Role") (F_id : Fld Z h0 a1 "com/example/rightful_keys/rightfulkeys/store/Role" "id" "Ljava/lang/String;" .null) (F_name : Fld Z h0 a1 "com/example/rightful_keys/rightfulkeys/store/Role" "name" "Ljava/lang/String;" .null) (F_account : Fld Z h0 a1 "com/example/rightful_keys/rightfulkeys/store/Role" "account" "Lcom/example/rightful_keys/rightfulkeys/store/Account;" .null) (F_description : Fld Z h0 a1 "com/example/rightful_keys/rightfulkeys/store/Role" "description" "Ljava/lang/String;" .null) (F_policy : Fld Z h0 a1 "com/example/rightful_keys/rightfulkeys/store/Role" "policy" "Ljava/util/Optional;" .null) :
    MetFree l (⟨"com/example/rightful_keys/rightfulkeys/store/Role", "<init>", "(Ljava/lang/String;Ljava/lang/String;Lcom/example/rightful_keys/rightfulkeys/store/Account;Ljava/lang/String;Ljava/util/Optional;)V"⟩ : MethodName) (head1 (Jvm.Cond.code (⟨"com/example/rightful_keys/rightfulkeys/store/Role", "<init>", "(Ljava/lang/String;Ljava/lang/String;Lcom/example/rightful_keys/rightfulkeys/store/Account;Ljava/lang/String;Ljava/util/Optional;)V"⟩ : MethodName) prog_67_method_1_code 6 none :: ws) ({ frames := 2, cells := 0, slots := 0, locals := 24 } : Room)) (fun a U => a = #[(.ref a1), (.ref a2), (.ref a3), .null, (.ref a5), .null] ∧ Z.Warmed39 U.vm ∧ U.heap = h0) (fun _ _ _ _ _ => True) (fun _ U o U' => ∃ v L, o = .returned v ∧ Q_rm13n Z a1 a2 a3 a5 h0 n0 v U'.heap L ∧ FrameEnd U o U' L ({ frames := 2, cells := 0, slots := 0, locals := 24 } : Room).cells ({ frames := 2, cells := 0, slots := 0, locals := 24 } : Room).slots) := by
  refine MetFree.of_bodySF (plainFor_of_name pn_com_example_rightful_keys_rightfulkeys_store_Role) hisR ?_
  intro p e s m args below meth c s₁ Bd hml0 hP hK
  obtain ⟨rfl, hZ, hh⟩ := hP
  have hx := Bd.exec
  have hby := Bd.bytes
  have hml : c.maxLocals = 6 := hml0
  have hown : s.vm.findClass "com/example/rightful_keys/rightfulkeys/store/Role" = some m.cls := findClass_of_methodNamed Bd.named
  have hnm := (name_of_methodNamed Bd.named Bd.method).1
  have X0 : Stand p l e ({ frames := 2, cells := 0, slots := 0, locals := 24 } : Room) s m #[(.ref a1), (.ref a2), (.ref a3), .null, (.ref a5), .null] below meth c s₁ [] 0 0 := Stand.of_body Bd
  have e0 : s₁.heap = h0 := by rw [← hh, Bd.state]; rfl
  have N0 := Fr.nil n0
  have KP0 : Keep h0 h0 [a1] := Keep.refl h0 [a1]
  have go0 : Goes p e below s₁ (entryFrame m #[(.ref a1), (.ref a2), (.ref a3), .null, (.ref a5), .null] 6) s₁ (mkF m 0 #[.val (.ref a1), .val (.ref a2), .val (.ref a3), .val .null, .val (.ref a5), .val .null] []) := fun t k => castTop (by first | (simp [entryFrame, mkF, argsToLocals, Value.category]; done) | rfl) k
  have go35 : Goes p e below s₁ (entryFrame m #[(.ref a1), (.ref a2), (.ref a3), .null, (.ref a5), .null] 6) s₁ (mkF m 1 #[.val (.ref a1), .val (.ref a2), .val (.ref a3), .val .null, .val (.ref a5), .val .null] [(.ref a1)]) := fun t k => go0 t (by
    show Steps p.tables e below (s₁.setTop (mkF m 0 #[.val (.ref a1), .val (.ref a2), .val (.ref a3), .val .null, .val (.ref a5), .val .null] [])) _
    refine XS.aloadN X0.here hx rfl (hb hby d13_0) rfl rfl ?_
    exact k)
  obtain ⟨_, _, ⟨T36, L36, k36, n36⟩, -, X36, ⟨Lc36, hQ36, l36, y36, z36⟩, st36⟩ := X0.specialBack hx (y := (⟨"java/lang/Record", "<init>", "()V"⟩ : MethodName)) rfl hown (mvT hZ (hw _ (List.mem_of_getElem? (i := 66) rfl))) (mvT hZ (hw _ (List.mem_of_getElem? (i := 51) rfl))) (mvT hZ (hw _ (List.mem_of_getElem? (i := 54) rfl))) (by decide) (backOf (W := 0) (rm12 l Z a0 hw [] a1  h0 n0 Z0 ) hZ (hw _ (List.mem_of_getElem? (i := 54) rfl)) (hw _ (List.mem_of_getElem? (i := 53) rfl)) (by decide) (by decide)) (g := (mkF m 1 #[.val (.ref a1), .val (.ref a2), .val (.ref a3), .val .null, .val (.ref a5), .val .null] [(.ref a1)])) rfl (by rw [hml]; rfl) (Steps.refl _) (a := a1) (argsL := []) (rest := []) (lenOf pd_3 rfl) rfl (by show 2 * 0 + _ ≤ _; exact Nat.le_of_eq rfl) (hb hby d13_1) (fun _ _ => ⟨rfl, e0, (by decide : 0 + 0 ≤ _), (by decide : 0 + 0 ≤ _)⟩)
  dsimp only [Pt.U, Pt.locs, Pt.cells, Pt.slots] at X36 l36 y36 z36 st36 hQ36
  subst l36 y36 z36
  obtain ⟨rfl, Nq36, eq36⟩ := hQ36
  have N36 := Fr.app N0 Nq36
  have go36 : Goes p e below s₁ (entryFrame m #[(.ref a1), (.ref a2), (.ref a3), .null, (.ref a5), .null] 6) T36 (mkF m 4 #[.val (.ref a1), .val (.ref a2), .val (.ref a3), .val .null, .val (.ref a5), .val .null] []) := fun t k => go35 t (st36.trans k)
  have go37 : Goes p e below s₁ (entryFrame m #[(.ref a1), (.ref a2), (.ref a3), .null, (.ref a5), .null] 6) T36 (mkF m 6 #[.val (.ref a1), .val (.ref a2), .val (.ref a3), .val .null, .val (.ref a5), .val .null] [(.ref a2), (.ref a1)]) := fun t k => go36 t (by
    show Steps p.tables e below (T36.setTop (mkF m 4 #[.val (.ref a1), .val (.ref a2), .val (.ref a3), .val .null, .val (.ref a5), .val .null] [])) _
    refine XS.aloadN X36.here hx rfl (hb hby d13_4) rfl rfl ?_
    show Steps p.tables e below (T36.setTop (mkF m 5 #[.val (.ref a1), .val (.ref a2), .val (.ref a3), .val .null, .val (.ref a5), .val .null] [(.ref a1)])) _
    refine XS.aloadN X36.here hx rfl (hb hby d13_5) rfl rfl ?_
    exact k)
  obtain ⟨T38, h38, X38, e38, W38, st38⟩ := putF X36 hx hZ hown (host := "") (Or.inl (hw _ (List.mem_of_getElem? (i := 67) rfl))) Via.refl eq36 F_id Ex (Or.inr ⟨(hw _ (List.mem_of_getElem? (i := 68) rfl)), rfl, hnm⟩) (hw _ (List.mem_of_getElem? (i := 61) rfl)) (ty := (.object "java/lang/String")) (by decide) rfl rfl (g := (mkF m 6 #[.val (.ref a1), .val (.ref a2), .val (.ref a3), .val .null, .val (.ref a5), .val .null] [(.ref a2), (.ref a1)])) rfl rfl (hb hby d13_6)
  have N38 := Fr.snoc X38 N36 g_a1
  have KP38 : Keep h0 h38 [a1] := KP0.wr W38 (Or.inl (List.mem_of_getElem? (i := 0) rfl))
  have ZS38 : n0 ≤ h38.size := Nat.le_trans Z0 (Keep.of_wr W38).1
  have F38 := Fld.same W38 F_id
  have go38 : Goes p e below s₁ (entryFrame m #[(.ref a1), (.ref a2), (.ref a3), .null, (.ref a5), .null] 6) T38 (mkF m 9 #[.val (.ref a1), .val (.ref a2), .val (.ref a3), .val .null, .val (.ref a5), .val .null] []) := fun t k => go37 t (st38 _ k)
  have f39 := (Fld.other W38 F_name (Or.inr (slot_ne (Or.inr (hw _ (List.mem_of_getElem? (i := 70) rfl))) (Or.inr (hw _ (List.mem_of_getElem? (i := 68) rfl))) (by decide) (t := (.object "java/lang/String")) (t' := (.object "java/lang/String")) (by decide) (by decide))))
  have go40 : Goes p e below s₁ (entryFrame m #[(.ref a1), (.ref a2), (.ref a3), .null, (.ref a5), .null] 6) T38 (mkF m 11 #[.val (.ref a1), .val (.ref a2), .val (.ref a3), .val .null, .val (.ref a5), .val .null] [(.ref a3), (.ref a1)]) := fun t k => go38 t (by
    show Steps p.tables e below (T38.setTop (mkF m 9 #[.val (.ref a1), .val (.ref a2), .val (.ref a3), .val .null, .val (.ref a5), .val .null] [])) _
    refine XS.aloadN X38.here hx rfl (hb hby d13_9) rfl rfl ?_
    show Steps p.tables e below (T38.setTop (mkF m 10 #[.val (.ref a1), .val (.ref a2), .val (.ref a3), .val .null, .val (.ref a5), .val .null] [(.ref a1)])) _
    refine XS.aloadN X38.here hx rfl (hb hby d13_10) rfl rfl ?_
    exact k)
  obtain ⟨T41, h41, X41, e41, W41, st41⟩ := putF X38 hx hZ hown (host := "") (Or.inl (hw _ (List.mem_of_getElem? (i := 69) rfl))) Via.refl e38 f39 (Exa.wr W38 Ex) (Or.inr ⟨(hw _ (List.mem_of_getElem? (i := 70) rfl)), rfl, hnm⟩) (hw _ (List.mem_of_getElem? (i := 61) rfl)) (ty := (.object "java/lang/String")) (by decide) rfl rfl (g := (mkF m 11 #[.val (.ref a1), .val (.ref a2), .val (.ref a3), .val .null, .val (.ref a5), .val .null] [(.ref a3), (.ref a1)])) rfl rfl (hb hby d13_11)
  have N41 := Fr.snoc X41 N38 g_a1
  have KP41 : Keep h0 h41 [a1] := KP38.wr W41 (Or.inl (List.mem_of_getElem? (i := 0) rfl))
  have ZS41 : n0 ≤ h41.size := Nat.le_trans ZS38 (Keep.of_wr W41).1
  have F41 := Fld.same W41 f39
  have go41 : Goes p e below s₁ (entryFrame m #[(.ref a1), (.ref a2), (.ref a3), .null, (.ref a5), .null] 6) T41 (mkF m 14 #[.val (.ref a1), .val (.ref a2), .val (.ref a3), .val .null, .val (.ref a5), .val .null] []) := fun t k => go40 t (st41 _ k)
  have f42 := (Fld.other W41 (Fld.other W38 F_account (Or.inr (slot_ne (Or.inr (hw _ (List.mem_of_getElem? (i := 72) rfl))) (Or.inr (hw _ (List.mem_of_getElem? (i := 68) rfl))) (by decide) (t := (.object "com/example/rightful_keys/rightfulkeys/store/Account")) (t' := (.object "java/lang/String")) (by decide) (by decide)))) (Or.inr (slot_ne (Or.inr (hw _ (List.mem_of_getElem? (i := 72) rfl))) (Or.inr (hw _ (List.mem_of_getElem? (i := 70) rfl))) (by decide) (t := (.object "com/example/rightful_keys/rightfulkeys/store/Account")) (t' := (.object "java/lang/String")) (by decide) (by decide))))
  have go43 : Goes p e below s₁ (entryFrame m #[(.ref a1), (.ref a2), (.ref a3), .null, (.ref a5), .null] 6) T41 (mkF m 16 #[.val (.ref a1), .val (.ref a2), .val (.ref a3), .val .null, .val (.ref a5), .val .null] [.null, (.ref a1)]) := fun t k => go41 t (by
    show Steps p.tables e below (T41.setTop (mkF m 14 #[.val (.ref a1), .val (.ref a2), .val (.ref a3), .val .null, .val (.ref a5), .val .null] [])) _
    refine XS.aloadN X41.here hx rfl (hb hby d13_14) rfl rfl ?_
    show Steps p.tables e below (T41.setTop (mkF m 15 #[.val (.ref a1), .val (.ref a2), .val (.ref a3), .val .null, .val (.ref a5), .val .null] [(.ref a1)])) _
    refine XS.aloadN X41.here hx rfl (hb hby d13_15) rfl rfl ?_
    exact k)
  obtain ⟨T44, h44, X44, e44, W44, st44⟩ := putF X41 hx hZ hown (host := "") (Or.inl (hw _ (List.mem_of_getElem? (i := 71) rfl))) Via.refl e41 f42 (Exa.wr W41 (Exa.wr W38 Ex)) (Or.inr ⟨(hw _ (List.mem_of_getElem? (i := 72) rfl)), rfl, hnm⟩) (hw _ (List.mem_of_getElem? (i := 61) rfl)) (ty := (.object "com/example/rightful_keys/rightfulkeys/store/Account")) (by decide) rfl rfl (g := (mkF m 16 #[.val (.ref a1), .val (.ref a2), .val (.ref a3), .val .null, .val (.ref a5), .val .null] [.null, (.ref a1)])) rfl rfl (hb hby d13_16)
  have N44 := Fr.snoc X44 N41 g_a1
  have KP44 : Keep h0 h44 [a1] := KP41.wr W44 (Or.inl (List.mem_of_getElem? (i := 0) rfl))
  have ZS44 : n0 ≤ h44.size := Nat.le_trans ZS41 (Keep.of_wr W44).1
  have F44 := Fld.same W44 f42
  have go44 : Goes p e below s₁ (entryFrame m #[(.ref a1), (.ref a2), (.ref a3), .null, (.ref a5), .null] 6) T44 (mkF m 19 #[.val (.ref a1), .val (.ref a2), .val (.ref a3), .val .null, .val (.ref a5), .val .null] []) := fun t k => go43 t (st44 _ k)
  have f45 := (Fld.other W44 (Fld.other W41 (Fld.other W38 F_description (Or.inr (slot_ne (Or.inr (hw _ (List.mem_of_getElem? (i := 74) rfl))) (Or.inr (hw _ (List.mem_of_getElem? (i := 68) rfl))) (by decide) (t := (.object "java/lang/String")) (t' := (.object "java/lang/String")) (by decide) (by decide)))) (Or.inr (slot_ne (Or.inr (hw _ (List.mem_of_getElem? (i := 74) rfl))) (Or.inr (hw _ (List.mem_of_getElem? (i := 70) rfl))) (by decide) (t := (.object "java/lang/String")) (t' := (.object "java/lang/String")) (by decide) (by decide)))) (Or.inr (slot_ne (Or.inr (hw _ (List.mem_of_getElem? (i := 74) rfl))) (Or.inr (hw _ (List.mem_of_getElem? (i := 72) rfl))) (by decide) (t := (.object "java/lang/String")) (t' := (.object "com/example/rightful_keys/rightfulkeys/store/Account")) (by decide) (by decide))))
  have go46 : Goes p e below s₁ (entryFrame m #[(.ref a1), (.ref a2), (.ref a3), .null, (.ref a5), .null] 6) T44 (mkF m 22 #[.val (.ref a1), .val (.ref a2), .val (.ref a3), .val .null, .val (.ref a5), .val .null] [(.ref a5), (.ref a1)]) := fun t k => go44 t (by
    show Steps p.tables e below (T44.setTop (mkF m 19 #[.val (.ref a1), .val (.ref a2), .val (.ref a3), .val .null, .val (.ref a5), .val .null] [])) _
    refine XS.aloadN X44.here hx rfl (hb hby d13_19) rfl rfl ?_
    show Steps p.tables e below (T44.setTop (mkF m 20 #[.val (.ref a1), .val (.ref a2), .val (.ref a3), .val .null, .val (.ref a5), .val .null] [(.ref a1)])) _
    refine XS.aload X44.here hx rfl (hb hby d13_20) rfl rfl ?_
    exact k)
  obtain ⟨T47, h47, X47, e47, W47, st47⟩ := putF X44 hx hZ hown (host := "") (Or.inl (hw _ (List.mem_of_getElem? (i := 73) rfl))) Via.refl e44 f45 (Exa.wr W44 (Exa.wr W41 (Exa.wr W38 Ex))) (Or.inr ⟨(hw _ (List.mem_of_getElem? (i := 74) rfl)), rfl, hnm⟩) (hw _ (List.mem_of_getElem? (i := 61) rfl)) (ty := (.object "java/lang/String")) (by decide) rfl rfl (g := (mkF m 22 #[.val (.ref a1), .val (.ref a2), .val (.ref a3), .val .null, .val (.ref a5), .val .null] [(.ref a5), (.ref a1)])) rfl rfl (hb hby d13_22)
  have N47 := Fr.snoc X47 N44 g_a1
  have KP47 : Keep h0 h47 [a1] := KP44.wr W47 (Or.inl (List.mem_of_getElem? (i := 0) rfl))
  have ZS47 : n0 ≤ h47.size := Nat.le_trans ZS44 (Keep.of_wr W47).1
  have F47 := Fld.same W47 f45
  have go47 : Goes p e below s₁ (entryFrame m #[(.ref a1), (.ref a2), (.ref a3), .null, (.ref a5), .null] 6) T47 (mkF m 25 #[.val (.ref a1), .val (.ref a2), .val (.ref a3), .val .null, .val (.ref a5), .val .null] []) := fun t k => go46 t (st47 _ k)
  have f48 := (Fld.other W47 (Fld.other W44 (Fld.other W41 (Fld.other W38 F_policy (Or.inr (slot_ne (Or.inr (hw _ (List.mem_of_getElem? (i := 76) rfl))) (Or.inr (hw _ (List.mem_of_getElem? (i := 68) rfl))) (by decide) (t := (.object "java/util/Optional")) (t' := (.object "java/lang/String")) (by decide) (by decide)))) (Or.inr (slot_ne (Or.inr (hw _ (List.mem_of_getElem? (i := 76) rfl))) (Or.inr (hw _ (List.mem_of_getElem? (i := 70) rfl))) (by decide) (t := (.object "java/util/Optional")) (t' := (.object "java/lang/String")) (by decide) (by decide)))) (Or.inr (slot_ne (Or.inr (hw _ (List.mem_of_getElem? (i := 76) rfl))) (Or.inr (hw _ (List.mem_of_getElem? (i := 72) rfl))) (by decide) (t := (.object "java/util/Optional")) (t' := (.object "com/example/rightful_keys/rightfulkeys/store/Account")) (by decide) (by decide)))) (Or.inr (slot_ne (Or.inr (hw _ (List.mem_of_getElem? (i := 76) rfl))) (Or.inr (hw _ (List.mem_of_getElem? (i := 74) rfl))) (by decide) (t := (.object "java/util/Optional")) (t' := (.object "java/lang/String")) (by decide) (by decide))))
  have go49 : Goes p e below s₁ (entryFrame m #[(.ref a1), (.ref a2), (.ref a3), .null, (.ref a5), .null] 6) T47 (mkF m 28 #[.val (.ref a1), .val (.ref a2), .val (.ref a3), .val .null, .val (.ref a5), .val .null] [.null, (.ref a1)]) := fun t k => go47 t (by
    show Steps p.tables e below (T47.setTop (mkF m 25 #[.val (.ref a1), .val (.ref a2), .val (.ref a3), .val .null, .val (.ref a5), .val .null] [])) _
    refine XS.aloadN X47.here hx rfl (hb hby d13_25) rfl rfl ?_
    show Steps p.tables e below (T47.setTop (mkF m 26 #[.val (.ref a1), .val (.ref a2), .val (.ref a3), .val .null, .val (.ref a5), .val .null] [(.ref a1)])) _
    refine XS.aload X47.here hx rfl (hb hby d13_26) rfl rfl ?_
    exact k)
  obtain ⟨T50, h50, X50, e50, W50, st50⟩ := putF X47 hx hZ hown (host := "") (Or.inl (hw _ (List.mem_of_getElem? (i := 75) rfl))) Via.refl e47 f48 (Exa.wr W47 (Exa.wr W44 (Exa.wr W41 (Exa.wr W38 Ex)))) (Or.inr ⟨(hw _ (List.mem_of_getElem? (i := 76) rfl)), rfl, hnm⟩) (hw _ (List.mem_of_getElem? (i := 61) rfl)) (ty := (.object "java/util/Optional")) (by decide) rfl rfl (g := (mkF m 28 #[.val (.ref a1), .val (.ref a2), .val (.ref a3), .val .null, .val (.ref a5), .val .null] [.null, (.ref a1)])) rfl rfl (hb hby d13_28)
  have N50 := Fr.snoc X50 N47 g_a1
  have KP50 : Keep h0 h50 [a1] := KP47.wr W50 (Or.inl (List.mem_of_getElem? (i := 0) rfl))
  have ZS50 : n0 ≤ h50.size := Nat.le_trans ZS47 (Keep.of_wr W50).1
  have F50 := Fld.same W50 f48
  have go50 : Goes p e below s₁ (entryFrame m #[(.ref a1), (.ref a2), (.ref a3), .null, (.ref a5), .null] 6) T50 (mkF m 31 #[.val (.ref a1), .val (.ref a2), .val (.ref a3), .val .null, .val (.ref a5), .val .null] []) := fun t k => go49 t (st50 _ k)
  have f51 := (Exa.wr W50 (Exa.wr W47 (Exa.wr W44 (Exa.wr W41 (Exa.wr W38 Ex)))))
  have f52 := (Fld.other W50 (Fld.other W47 F44 (Or.inr (slot_ne (Or.inr (hw _ (List.mem_of_getElem? (i := 72) rfl))) (Or.inr (hw _ (List.mem_of_getElem? (i := 74) rfl))) (by decide) (t := (.object "com/example/rightful_keys/rightfulkeys/store/Account")) (t' := (.object "java/lang/String")) (by decide) (by decide)))) (Or.inr (slot_ne (Or.inr (hw _ (List.mem_of_getElem? (i := 72) rfl))) (Or.inr (hw _ (List.mem_of_getElem? (i := 76) rfl))) (by decide) (t := (.object "com/example/rightful_keys/rightfulkeys/store/Account")) (t' := (.object "java/util/Optional")) (by decide) (by decide))))
  obtain ⟨fs, hr, hrun, hended, hW, hsame⟩ := X50.leave (v := none) (fun _ => rfl)
  refine ⟨_, _, go50 _ ?_, hrun, hended, _, _, rfl, ?_, ⟨_, rfl⟩, hW, hsame.mono (by decide) (by decide)⟩
  · exact X50.returnOut hx Bd.returns (hb hby d13_31) hr
  · show Q_rm13n Z a1 a2 a3 a5 h0 n0 _ T50.heap _
    rw [e50]
    exact ⟨rfl, N50, KP50, f51, f52⟩
theorem d14_0 : decode prog_67_method_2_code 0 = .ok (.aload_n 0, 1) := by decide +kernel
theorem d14_1 : decode prog_67_method_2_code 1 = .ok (.getfield 16, 3) := by decide +kernel
theorem d14_4 : decode prog_67_method_2_code 4 = .ok (.ifnonnull 7, 3) := by decide +kernel
theorem d14_7 : decode prog_67_method_2_code 7 = .ok (.iconst 1, 1) := by decide +kernel
theorem d14_8 : decode prog_67_method_2_code 8 = .ok (.goto 4, 3) := by decide +kernel
theorem d14_12 : decode prog_67_method_2_code 12 = .ok (.ireturn, 1) := by decide +kernel
def Q_rm14n (Z : State) (a1 : Addr)  (h0 : Heap) (n0 : Nat) (v : Option Value) (h : Heap) (L : List Loc) : Prop := v = some (.int (1 : Int32)) ∧ Fr n0 L ∧ h = h0
set_option maxRecDepth 65536 in
set_option maxHeartbeats 40000000 in
theorem rm14n (l : Launch) (Z : State) (a0 : Array Value) (hw : ∀ d ∈ tables_1, d.before a0 Z = true) (ws : List Jvm.Cond) (a1 : Addr)  (h0 : Heap) (n0 : Nat) (Z0 : n0 ≤ h0.size) (F : Fld Z h0 a1 "com/example/rightful_keys/rightfulkeys/store/Role" "account" "Lcom/example/rightful_keys/rightfulkeys/store/Account;" .null) :
    MetFree l (⟨"com/example/rightful_keys/rightfulkeys/store/Role", "isSystem", "()Z"⟩ : MethodName) (head1 (Jvm.Cond.code (⟨"com/example/rightful_keys/rightfulkeys/store/Role", "isSystem", "()Z"⟩ : MethodName) prog_67_method_2_code 1 (some .boolean) :: ws) ({ frames := 0, cells := 0, slots := 0, locals := 0 } : Room)) (fun a U => a = #[(.ref a1)] ∧ Z.Warmed39 U.vm ∧ U.heap = h0) (fun _ _ _ _ _ => True) (fun _ U o U' => ∃ v L, o = .returned v ∧ Q_rm14n Z a1 h0 n0 v U'.heap L ∧ FrameEnd U o U' L ({ frames := 0, cells := 0, slots := 0, locals := 0 } : Room).cells ({ frames := 0, cells := 0, slots := 0, locals := 0 } : Room).slots) := by
  refine MetFree.of_bodySF (plainFor_of_name pn_com_example_rightful_keys_rightfulkeys_store_Role) hisR ?_
  intro p e s m args below meth c s₁ Bd hml0 hP hK
  obtain ⟨rfl, hZ, hh⟩ := hP
  have hx := Bd.exec
  have hby := Bd.bytes
  have hml : c.maxLocals = 1 := hml0
  have hown : s.vm.findClass "com/example/rightful_keys/rightfulkeys/store/Role" = some m.cls := findClass_of_methodNamed Bd.named
  have hnm := (name_of_methodNamed Bd.named Bd.method).1
  have X0 : Stand p l e ({ frames := 0, cells := 0, slots := 0, locals := 0 } : Room) s m #[(.ref a1)] below meth c s₁ [] 0 0 := Stand.of_body Bd
  have e0 : s₁.heap = h0 := by rw [← hh, Bd.state]; rfl
  have N0 := Fr.nil n0
  have go0 : Goes p e below s₁ (entryFrame m #[(.ref a1)] 1) s₁ (mkF m 0 #[.val (.ref a1)] []) := fun t k => castTop (by first | (simp [entryFrame, mkF, argsToLocals, Value.category]; done) | rfl) k
  have go53 : Goes p e below s₁ (entryFrame m #[(.ref a1)] 1) s₁ (mkF m 1 #[.val (.ref a1)] [(.ref a1)]) := fun t k => go0 t (by
    show Steps p.tables e below (s₁.setTop (mkF m 0 #[.val (.ref a1)] [])) _
    refine XS.aloadN X0.here hx rfl (hb hby d14_0) rfl rfl ?_
    exact k)
  obtain ⟨T54, X54, e54, st54⟩ := getF X0 hx hZ hown (host := "") (Or.inl (hw _ (List.mem_of_getElem? (i := 71) rfl))) Via.refl e0 F (g := (mkF m 1 #[.val (.ref a1)] [(.ref a1)])) rfl rfl (hb hby d14_1)
  have go54 : Goes p e below s₁ (entryFrame m #[(.ref a1)] 1) T54 (mkF m 4 #[.val (.ref a1)] [.null]) := fun t k => go53 t (st54 _ k)
  have go55 : Goes p e below s₁ (entryFrame m #[(.ref a1)] 1) T54 (mkF m 12 #[.val (.ref a1)] [(.int (1 : Int32))]) := fun t k => go54 t (by
    show Steps p.tables e below (T54.setTop (mkF m 4 #[.val (.ref a1)] [.null])) _
    refine XS.ifnonnullNo X54.here hx rfl (hb hby d14_4) rfl ?_
    show Steps p.tables e below (T54.setTop (mkF m 7 #[.val (.ref a1)] [])) _
    refine XS.iconst X54.here hx rfl (hb hby d14_7) ?_
    show Steps p.tables e below (T54.setTop (mkF m 8 #[.val (.ref a1)] [(.int (1 : Int32))])) _
    refine XS.goto X54.here hx rfl (pc0 := 8) (pc' := 12) rfl (hb hby d14_8) (by decide) (by decide) ?_
    exact k)
  obtain ⟨fs, hr, hrun, hended, hW, hsame⟩ := X54.leave (v := some (.int (1 : Int32))) (fun h => by rw [Bd.returns] at h; cases h)
  refine ⟨_, _, go55 _ ?_, hrun, hended, _, _, rfl, ?_, ⟨_, rfl⟩, hW, hsame.mono (by decide) (by decide)⟩
  · exact retN X54 hx (t := .boolean) Bd.returns (by simp) (hb hby d14_12) hr
  · show Q_rm14n Z a1 h0 n0 _ T54.heap _
    rw [e54]
    exact ⟨rfl, N0, rfl⟩
theorem d15_0 : decode prog_67_method_8_code 0 = .ok (.aload_n 0, 1) := by decide +kernel
theorem d15_1 : decode prog_67_method_8_code 1 = .ok (.getfield 16, 3) := by decide +kernel
theorem d15_4 : decode prog_67_method_8_code 4 = .ok (.areturn, 1) := by decide +kernel
def Q_rm15n (Z : State) (a1 : Addr)  (h0 : Heap) (n0 : Nat) (v : Option Value) (h : Heap) (L : List Loc) : Prop := v = some .null ∧ Fr n0 L ∧ h = h0
set_option maxRecDepth 65536 in
set_option maxHeartbeats 40000000 in
theorem rm15n (l : Launch) (Z : State) (a0 : Array Value) (hw : ∀ d ∈ tables_1, d.before a0 Z = true) (ws : List Jvm.Cond) (a1 : Addr)  (h0 : Heap) (n0 : Nat) (Z0 : n0 ≤ h0.size) (F : Fld Z h0 a1 "com/example/rightful_keys/rightfulkeys/store/Role" "account" "Lcom/example/rightful_keys/rightfulkeys/store/Account;" .null) :
    MetFree l (⟨"com/example/rightful_keys/rightfulkeys/store/Role", "account", "()Lcom/example/rightful_keys/rightfulkeys/store/Account;"⟩ : MethodName) (head1 (Jvm.Cond.code (⟨"com/example/rightful_keys/rightfulkeys/store/Role", "account", "()Lcom/example/rightful_keys/rightfulkeys/store/Account;"⟩ : MethodName) prog_67_method_8_code 1 (some (.object "com/example/rightful_keys/rightfulkeys/store/Account")) :: ws) ({ frames := 0, cells := 0, slots := 0, locals := 0 } : Room)) (fun a U => a = #[(.ref a1)] ∧ Z.Warmed39 U.vm ∧ U.heap = h0) (fun _ _ _ _ _ => True) (fun _ U o U' => ∃ v L, o = .returned v ∧ Q_rm15n Z a1 h0 n0 v U'.heap L ∧ FrameEnd U o U' L ({ frames := 0, cells := 0, slots := 0, locals := 0 } : Room).cells ({ frames := 0, cells := 0, slots := 0, locals := 0 } : Room).slots) := by
  refine MetFree.of_bodySF (plainFor_of_name pn_com_example_rightful_keys_rightfulkeys_store_Role) hisR ?_
  intro p e s m args below meth c s₁ Bd hml0 hP hK
  obtain ⟨rfl, hZ, hh⟩ := hP
  have hx := Bd.exec
  have hby := Bd.bytes
  have hml : c.maxLocals = 1 := hml0
  have hown : s.vm.findClass "com/example/rightful_keys/rightfulkeys/store/Role" = some m.cls := findClass_of_methodNamed Bd.named
  have hnm := (name_of_methodNamed Bd.named Bd.method).1
  have X0 : Stand p l e ({ frames := 0, cells := 0, slots := 0, locals := 0 } : Room) s m #[(.ref a1)] below meth c s₁ [] 0 0 := Stand.of_body Bd
  have e0 : s₁.heap = h0 := by rw [← hh, Bd.state]; rfl
  have N0 := Fr.nil n0
  have go0 : Goes p e below s₁ (entryFrame m #[(.ref a1)] 1) s₁ (mkF m 0 #[.val (.ref a1)] []) := fun t k => castTop (by first | (simp [entryFrame, mkF, argsToLocals, Value.category]; done) | rfl) k
  have go56 : Goes p e below s₁ (entryFrame m #[(.ref a1)] 1) s₁ (mkF m 1 #[.val (.ref a1)] [(.ref a1)]) := fun t k => go0 t (by
    show Steps p.tables e below (s₁.setTop (mkF m 0 #[.val (.ref a1)] [])) _
    refine XS.aloadN X0.here hx rfl (hb hby d15_0) rfl rfl ?_
    exact k)
  obtain ⟨T57, X57, e57, st57⟩ := getF X0 hx hZ hown (host := "") (Or.inl (hw _ (List.mem_of_getElem? (i := 71) rfl))) Via.refl e0 F (g := (mkF m 1 #[.val (.ref a1)] [(.ref a1)])) rfl rfl (hb hby d15_1)
  have go57 : Goes p e below s₁ (entryFrame m #[(.ref a1)] 1) T57 (mkF m 4 #[.val (.ref a1)] [.null]) := fun t k => go56 t (st57 _ k)
  obtain ⟨fs, hr, hrun, hended, hW, hsame⟩ := X57.leave (v := some .null) (fun h => by rw [Bd.returns] at h; cases h)
  refine ⟨_, _, go57 _ ?_, hrun, hended, _, _, rfl, ?_, ⟨_, rfl⟩, hW, hsame.mono (by decide) (by decide)⟩
  · jvm_step X57.here [X57.here.top, hx, (hb hby d15_4), X57.method', Bd.returns, Value.isRef, FieldType.isReference]
    first | (intro acts; rw [hr _ acts rfl rfl rfl]) | rw [hr _ _ rfl rfl rfl]
    exact Steps.refl _
  · show Q_rm15n Z a1 h0 n0 _ T57.heap _
    rw [e57]
    exact ⟨rfl, N0, rfl⟩
def Q_rm13a (Z : State) (a1 : Addr) (a2 : Addr) (a3 : Addr) (a4 : Addr) (a5 : Addr)  (h0 : Heap) (n0 : Nat) (v : Option Value) (h : Heap) (L : List Loc) : Prop := v = none ∧ Fr n0 L ∧ Keep h0 h [a1] ∧ Exa Z h a1 "com/example/rightful_keys/rightfulkeys/store/Role" ∧ Fld Z h a1 "com/example/rightful_keys/rightfulkeys/store/Role" "account" "Lcom/example/rightful_keys/rightfulkeys/store/Account;" (.ref a4)
set_option maxRecDepth 65536 in
set_option maxHeartbeats 40000000 in
theorem rm13a (l : Launch) (Z : State) (a0 : Array Value) (hw : ∀ d ∈ tables_1, d.before a0 Z = true) (ws : List Jvm.Cond) (a1 : Addr) (a2 : Addr) (a3 : Addr) (a4 : Addr) (a5 : Addr)  (h0 : Heap) (n0 : Nat) (Z0 : n0 ≤ h0.size) (g_a1 : n0 ≤ a1) (Ex : Exa Z h0 a1 "com/example/rightful_keys/rightfulkeys/store/Role") (F_id : Fld Z h0 a1 "com/example/rightful_keys/rightfulkeys/store/Role" "id" "Ljava/lang/String;" .null) (F_name : Fld Z h0 a1 "com/example/rightful_keys/rightfulkeys/store/Role" "name" "Ljava/lang/String;" .null) (F_account : Fld Z h0 a1 "com/example/rightful_keys/rightfulkeys/store/Role" "account" "Lcom/example/rightful_keys/rightfulkeys/store/Account;" .null) (F_description : Fld Z h0 a1 "com/example/rightful_keys/rightfulkeys/store/Role" "description" "Ljava/lang/String;" .null) (F_policy : Fld Z h0 a1 "com/example/rightful_keys/rightfulkeys/store/Role" "policy" "Ljava/util/Optional;" .null) :
    MetFree l (⟨"com/example/rightful_keys/rightfulkeys/store/Role", "<init>", "(Ljava/lang/String;Ljava/lang/String;Lcom/example/rightful_keys/rightfulkeys/store/Account;Ljava/lang/String;Ljava/util/Optional;)V"⟩ : MethodName) (head1 (Jvm.Cond.code (⟨"com/example/rightful_keys/rightfulkeys/store/Role", "<init>", "(Ljava/lang/String;Ljava/lang/String;Lcom/example/rightful_keys/rightfulkeys/store/Account;Ljava/lang/String;Ljava/util/Optional;)V"⟩ : MethodName) prog_67_method_1_code 6 none :: ws) ({ frames := 2, cells := 0, slots := 0, locals := 24 } : Room)) (fun a U => a = #[(.ref a1), (.ref a2), (.ref a3), (.ref a4), (.ref a5), .null] ∧ Z.Warmed39 U.vm ∧ U.heap = h0) (fun _ _ _ _ _ => True) (fun _ U o U' => ∃ v L, o = .returned v ∧ Q_rm13a Z a1 a2 a3 a4 a5 h0 n0 v U'.heap L ∧ FrameEnd U o U' L ({ frames := 2, cells := 0, slots := 0, locals := 24 } : Room).cells ({ frames := 2, cells := 0, slots := 0, locals := 24 } : Room).slots) := by
  refine MetFree.of_bodySF (plainFor_of_name pn_com_example_rightful_keys_rightfulkeys_store_Role) hisR ?_
  intro p e s m args below meth c s₁ Bd hml0 hP hK
  obtain ⟨rfl, hZ, hh⟩ := hP
  have hx := Bd.exec
  have hby := Bd.bytes
  have hml : c.maxLocals = 6 := hml0
  have hown : s.vm.findClass "com/example/rightful_keys/rightfulkeys/store/Role" = some m.cls := findClass_of_methodNamed Bd.named
  have hnm := (name_of_methodNamed Bd.named Bd.method).1
  have X0 : Stand p l e ({ frames := 2, cells := 0, slots := 0, locals := 24 } : Room) s m #[(.ref a1), (.ref a2), (.ref a3), (.ref a4), (.ref a5), .null] below meth c s₁ [] 0 0 := Stand.of_body Bd
  have e0 : s₁.heap = h0 := by rw [← hh, Bd.state]; rfl
  have N0 := Fr.nil n0
  have KP0 : Keep h0 h0 [a1] := Keep.refl h0 [a1]
  have go0 : Goes p e below s₁ (entryFrame m #[(.ref a1), (.ref a2), (.ref a3), (.ref a4), (.ref a5), .null] 6) s₁ (mkF m 0 #[.val (.ref a1), .val (.ref a2), .val (.ref a3), .val (.ref a4), .val (.ref a5), .val .null] []) := fun t k => castTop (by first | (simp [entryFrame, mkF, argsToLocals, Value.category]; done) | rfl) k
  have go58 : Goes p e below s₁ (entryFrame m #[(.ref a1), (.ref a2), (.ref a3), (.ref a4), (.ref a5), .null] 6) s₁ (mkF m 1 #[.val (.ref a1), .val (.ref a2), .val (.ref a3), .val (.ref a4), .val (.ref a5), .val .null] [(.ref a1)]) := fun t k => go0 t (by
    show Steps p.tables e below (s₁.setTop (mkF m 0 #[.val (.ref a1), .val (.ref a2), .val (.ref a3), .val (.ref a4), .val (.ref a5), .val .null] [])) _
    refine XS.aloadN X0.here hx rfl (hb hby d13_0) rfl rfl ?_
    exact k)
  obtain ⟨_, _, ⟨T59, L59, k59, n59⟩, -, X59, ⟨Lc59, hQ59, l59, y59, z59⟩, st59⟩ := X0.specialBack hx (y := (⟨"java/lang/Record", "<init>", "()V"⟩ : MethodName)) rfl hown (mvT hZ (hw _ (List.mem_of_getElem? (i := 66) rfl))) (mvT hZ (hw _ (List.mem_of_getElem? (i := 51) rfl))) (mvT hZ (hw _ (List.mem_of_getElem? (i := 54) rfl))) (by decide) (backOf (W := 0) (rm12 l Z a0 hw [] a1  h0 n0 Z0 ) hZ (hw _ (List.mem_of_getElem? (i := 54) rfl)) (hw _ (List.mem_of_getElem? (i := 53) rfl)) (by decide) (by decide)) (g := (mkF m 1 #[.val (.ref a1), .val (.ref a2), .val (.ref a3), .val (.ref a4), .val (.ref a5), .val .null] [(.ref a1)])) rfl (by rw [hml]; rfl) (Steps.refl _) (a := a1) (argsL := []) (rest := []) (lenOf pd_3 rfl) rfl (by show 2 * 0 + _ ≤ _; exact Nat.le_of_eq rfl) (hb hby d13_1) (fun _ _ => ⟨rfl, e0, (by decide : 0 + 0 ≤ _), (by decide : 0 + 0 ≤ _)⟩)
  dsimp only [Pt.U, Pt.locs, Pt.cells, Pt.slots] at X59 l59 y59 z59 st59 hQ59
  subst l59 y59 z59
  obtain ⟨rfl, Nq59, eq59⟩ := hQ59
  have N59 := Fr.app N0 Nq59
  have go59 : Goes p e below s₁ (entryFrame m #[(.ref a1), (.ref a2), (.ref a3), (.ref a4), (.ref a5), .null] 6) T59 (mkF m 4 #[.val (.ref a1), .val (.ref a2), .val (.ref a3), .val (.ref a4), .val (.ref a5), .val .null] []) := fun t k => go58 t (st59.trans k)
  have go60 : Goes p e below s₁ (entryFrame m #[(.ref a1), (.ref a2), (.ref a3), (.ref a4), (.ref a5), .null] 6) T59 (mkF m 6 #[.val (.ref a1), .val (.ref a2), .val (.ref a3), .val (.ref a4), .val (.ref a5), .val .null] [(.ref a2), (.ref a1)]) := fun t k => go59 t (by
    show Steps p.tables e below (T59.setTop (mkF m 4 #[.val (.ref a1), .val (.ref a2), .val (.ref a3), .val (.ref a4), .val (.ref a5), .val .null] [])) _
    refine XS.aloadN X59.here hx rfl (hb hby d13_4) rfl rfl ?_
    show Steps p.tables e below (T59.setTop (mkF m 5 #[.val (.ref a1), .val (.ref a2), .val (.ref a3), .val (.ref a4), .val (.ref a5), .val .null] [(.ref a1)])) _
    refine XS.aloadN X59.here hx rfl (hb hby d13_5) rfl rfl ?_
    exact k)
  obtain ⟨T61, h61, X61, e61, W61, st61⟩ := putF X59 hx hZ hown (host := "") (Or.inl (hw _ (List.mem_of_getElem? (i := 67) rfl))) Via.refl eq59 F_id Ex (Or.inr ⟨(hw _ (List.mem_of_getElem? (i := 68) rfl)), rfl, hnm⟩) (hw _ (List.mem_of_getElem? (i := 61) rfl)) (ty := (.object "java/lang/String")) (by decide) rfl rfl (g := (mkF m 6 #[.val (.ref a1), .val (.ref a2), .val (.ref a3), .val (.ref a4), .val (.ref a5), .val .null] [(.ref a2), (.ref a1)])) rfl rfl (hb hby d13_6)
  have N61 := Fr.snoc X61 N59 g_a1
  have KP61 : Keep h0 h61 [a1] := KP0.wr W61 (Or.inl (List.mem_of_getElem? (i := 0) rfl))
  have ZS61 : n0 ≤ h61.size := Nat.le_trans Z0 (Keep.of_wr W61).1
  have F61 := Fld.same W61 F_id
  have go61 : Goes p e below s₁ (entryFrame m #[(.ref a1), (.ref a2), (.ref a3), (.ref a4), (.ref a5), .null] 6) T61 (mkF m 9 #[.val (.ref a1), .val (.ref a2), .val (.ref a3), .val (.ref a4), .val (.ref a5), .val .null] []) := fun t k => go60 t (st61 _ k)
  have f62 := (Fld.other W61 F_name (Or.inr (slot_ne (Or.inr (hw _ (List.mem_of_getElem? (i := 70) rfl))) (Or.inr (hw _ (List.mem_of_getElem? (i := 68) rfl))) (by decide) (t := (.object "java/lang/String")) (t' := (.object "java/lang/String")) (by decide) (by decide))))
  have go63 : Goes p e below s₁ (entryFrame m #[(.ref a1), (.ref a2), (.ref a3), (.ref a4), (.ref a5), .null] 6) T61 (mkF m 11 #[.val (.ref a1), .val (.ref a2), .val (.ref a3), .val (.ref a4), .val (.ref a5), .val .null] [(.ref a3), (.ref a1)]) := fun t k => go61 t (by
    show Steps p.tables e below (T61.setTop (mkF m 9 #[.val (.ref a1), .val (.ref a2), .val (.ref a3), .val (.ref a4), .val (.ref a5), .val .null] [])) _
    refine XS.aloadN X61.here hx rfl (hb hby d13_9) rfl rfl ?_
    show Steps p.tables e below (T61.setTop (mkF m 10 #[.val (.ref a1), .val (.ref a2), .val (.ref a3), .val (.ref a4), .val (.ref a5), .val .null] [(.ref a1)])) _
    refine XS.aloadN X61.here hx rfl (hb hby d13_10) rfl rfl ?_
    exact k)
  obtain ⟨T64, h64, X64, e64, W64, st64⟩ := putF X61 hx hZ hown (host := "") (Or.inl (hw _ (List.mem_of_getElem? (i := 69) rfl))) Via.refl e61 f62 (Exa.wr W61 Ex) (Or.inr ⟨(hw _ (List.mem_of_getElem? (i := 70) rfl)), rfl, hnm⟩) (hw _ (List.mem_of_getElem? (i := 61) rfl)) (ty := (.object "java/lang/String")) (by decide) rfl rfl (g := (mkF m 11 #[.val (.ref a1), .val (.ref a2), .val (.ref a3), .val (.ref a4), .val (.ref a5), .val .null] [(.ref a3), (.ref a1)])) rfl rfl (hb hby d13_11)
  have N64 := Fr.snoc X64 N61 g_a1
  have KP64 : Keep h0 h64 [a1] := KP61.wr W64 (Or.inl (List.mem_of_getElem? (i := 0) rfl))
  have ZS64 : n0 ≤ h64.size := Nat.le_trans ZS61 (Keep.of_wr W64).1
  have F64 := Fld.same W64 f62
  have go64 : Goes p e below s₁ (entryFrame m #[(.ref a1), (.ref a2), (.ref a3), (.ref a4), (.ref a5), .null] 6) T64 (mkF m 14 #[.val (.ref a1), .val (.ref a2), .val (.ref a3), .val (.ref a4), .val (.ref a5), .val .null] []) := fun t k => go63 t (st64 _ k)
  have f65 := (Fld.other W64 (Fld.other W61 F_account (Or.inr (slot_ne (Or.inr (hw _ (List.mem_of_getElem? (i := 72) rfl))) (Or.inr (hw _ (List.mem_of_getElem? (i := 68) rfl))) (by decide) (t := (.object "com/example/rightful_keys/rightfulkeys/store/Account")) (t' := (.object "java/lang/String")) (by decide) (by decide)))) (Or.inr (slot_ne (Or.inr (hw _ (List.mem_of_getElem? (i := 72) rfl))) (Or.inr (hw _ (List.mem_of_getElem? (i := 70) rfl))) (by decide) (t := (.object "com/example/rightful_keys/rightfulkeys/store/Account")) (t' := (.object "java/lang/String")) (by decide) (by decide))))
  have go66 : Goes p e below s₁ (entryFrame m #[(.ref a1), (.ref a2), (.ref a3), (.ref a4), (.ref a5), .null] 6) T64 (mkF m 16 #[.val (.ref a1), .val (.ref a2), .val (.ref a3), .val (.ref a4), .val (.ref a5), .val .null] [(.ref a4), (.ref a1)]) := fun t k => go64 t (by
    show Steps p.tables e below (T64.setTop (mkF m 14 #[.val (.ref a1), .val (.ref a2), .val (.ref a3), .val (.ref a4), .val (.ref a5), .val .null] [])) _
    refine XS.aloadN X64.here hx rfl (hb hby d13_14) rfl rfl ?_
    show Steps p.tables e below (T64.setTop (mkF m 15 #[.val (.ref a1), .val (.ref a2), .val (.ref a3), .val (.ref a4), .val (.ref a5), .val .null] [(.ref a1)])) _
    refine XS.aloadN X64.here hx rfl (hb hby d13_15) rfl rfl ?_
    exact k)
  obtain ⟨T67, h67, X67, e67, W67, st67⟩ := putF X64 hx hZ hown (host := "") (Or.inl (hw _ (List.mem_of_getElem? (i := 71) rfl))) Via.refl e64 f65 (Exa.wr W64 (Exa.wr W61 Ex)) (Or.inr ⟨(hw _ (List.mem_of_getElem? (i := 72) rfl)), rfl, hnm⟩) (hw _ (List.mem_of_getElem? (i := 61) rfl)) (ty := (.object "com/example/rightful_keys/rightfulkeys/store/Account")) (by decide) rfl rfl (g := (mkF m 16 #[.val (.ref a1), .val (.ref a2), .val (.ref a3), .val (.ref a4), .val (.ref a5), .val .null] [(.ref a4), (.ref a1)])) rfl rfl (hb hby d13_16)
  have N67 := Fr.snoc X67 N64 g_a1
  have KP67 : Keep h0 h67 [a1] := KP64.wr W67 (Or.inl (List.mem_of_getElem? (i := 0) rfl))
  have ZS67 : n0 ≤ h67.size := Nat.le_trans ZS64 (Keep.of_wr W67).1
  have F67 := Fld.same W67 f65
  have go67 : Goes p e below s₁ (entryFrame m #[(.ref a1), (.ref a2), (.ref a3), (.ref a4), (.ref a5), .null] 6) T67 (mkF m 19 #[.val (.ref a1), .val (.ref a2), .val (.ref a3), .val (.ref a4), .val (.ref a5), .val .null] []) := fun t k => go66 t (st67 _ k)
  have f68 := (Fld.other W67 (Fld.other W64 (Fld.other W61 F_description (Or.inr (slot_ne (Or.inr (hw _ (List.mem_of_getElem? (i := 74) rfl))) (Or.inr (hw _ (List.mem_of_getElem? (i := 68) rfl))) (by decide) (t := (.object "java/lang/String")) (t' := (.object "java/lang/String")) (by decide) (by decide)))) (Or.inr (slot_ne (Or.inr (hw _ (List.mem_of_getElem? (i := 74) rfl))) (Or.inr (hw _ (List.mem_of_getElem? (i := 70) rfl))) (by decide) (t := (.object "java/lang/String")) (t' := (.object "java/lang/String")) (by decide) (by decide)))) (Or.inr (slot_ne (Or.inr (hw _ (List.mem_of_getElem? (i := 74) rfl))) (Or.inr (hw _ (List.mem_of_getElem? (i := 72) rfl))) (by decide) (t := (.object "java/lang/String")) (t' := (.object "com/example/rightful_keys/rightfulkeys/store/Account")) (by decide) (by decide))))
  have go69 : Goes p e below s₁ (entryFrame m #[(.ref a1), (.ref a2), (.ref a3), (.ref a4), (.ref a5), .null] 6) T67 (mkF m 22 #[.val (.ref a1), .val (.ref a2), .val (.ref a3), .val (.ref a4), .val (.ref a5), .val .null] [(.ref a5), (.ref a1)]) := fun t k => go67 t (by
    show Steps p.tables e below (T67.setTop (mkF m 19 #[.val (.ref a1), .val (.ref a2), .val (.ref a3), .val (.ref a4), .val (.ref a5), .val .null] [])) _
    refine XS.aloadN X67.here hx rfl (hb hby d13_19) rfl rfl ?_
    show Steps p.tables e below (T67.setTop (mkF m 20 #[.val (.ref a1), .val (.ref a2), .val (.ref a3), .val (.ref a4), .val (.ref a5), .val .null] [(.ref a1)])) _
    refine XS.aload X67.here hx rfl (hb hby d13_20) rfl rfl ?_
    exact k)
  obtain ⟨T70, h70, X70, e70, W70, st70⟩ := putF X67 hx hZ hown (host := "") (Or.inl (hw _ (List.mem_of_getElem? (i := 73) rfl))) Via.refl e67 f68 (Exa.wr W67 (Exa.wr W64 (Exa.wr W61 Ex))) (Or.inr ⟨(hw _ (List.mem_of_getElem? (i := 74) rfl)), rfl, hnm⟩) (hw _ (List.mem_of_getElem? (i := 61) rfl)) (ty := (.object "java/lang/String")) (by decide) rfl rfl (g := (mkF m 22 #[.val (.ref a1), .val (.ref a2), .val (.ref a3), .val (.ref a4), .val (.ref a5), .val .null] [(.ref a5), (.ref a1)])) rfl rfl (hb hby d13_22)
  have N70 := Fr.snoc X70 N67 g_a1
  have KP70 : Keep h0 h70 [a1] := KP67.wr W70 (Or.inl (List.mem_of_getElem? (i := 0) rfl))
  have ZS70 : n0 ≤ h70.size := Nat.le_trans ZS67 (Keep.of_wr W70).1
  have F70 := Fld.same W70 f68
  have go70 : Goes p e below s₁ (entryFrame m #[(.ref a1), (.ref a2), (.ref a3), (.ref a4), (.ref a5), .null] 6) T70 (mkF m 25 #[.val (.ref a1), .val (.ref a2), .val (.ref a3), .val (.ref a4), .val (.ref a5), .val .null] []) := fun t k => go69 t (st70 _ k)
  have f71 := (Fld.other W70 (Fld.other W67 (Fld.other W64 (Fld.other W61 F_policy (Or.inr (slot_ne (Or.inr (hw _ (List.mem_of_getElem? (i := 76) rfl))) (Or.inr (hw _ (List.mem_of_getElem? (i := 68) rfl))) (by decide) (t := (.object "java/util/Optional")) (t' := (.object "java/lang/String")) (by decide) (by decide)))) (Or.inr (slot_ne (Or.inr (hw _ (List.mem_of_getElem? (i := 76) rfl))) (Or.inr (hw _ (List.mem_of_getElem? (i := 70) rfl))) (by decide) (t := (.object "java/util/Optional")) (t' := (.object "java/lang/String")) (by decide) (by decide)))) (Or.inr (slot_ne (Or.inr (hw _ (List.mem_of_getElem? (i := 76) rfl))) (Or.inr (hw _ (List.mem_of_getElem? (i := 72) rfl))) (by decide) (t := (.object "java/util/Optional")) (t' := (.object "com/example/rightful_keys/rightfulkeys/store/Account")) (by decide) (by decide)))) (Or.inr (slot_ne (Or.inr (hw _ (List.mem_of_getElem? (i := 76) rfl))) (Or.inr (hw _ (List.mem_of_getElem? (i := 74) rfl))) (by decide) (t := (.object "java/util/Optional")) (t' := (.object "java/lang/String")) (by decide) (by decide))))
  have go72 : Goes p e below s₁ (entryFrame m #[(.ref a1), (.ref a2), (.ref a3), (.ref a4), (.ref a5), .null] 6) T70 (mkF m 28 #[.val (.ref a1), .val (.ref a2), .val (.ref a3), .val (.ref a4), .val (.ref a5), .val .null] [.null, (.ref a1)]) := fun t k => go70 t (by
    show Steps p.tables e below (T70.setTop (mkF m 25 #[.val (.ref a1), .val (.ref a2), .val (.ref a3), .val (.ref a4), .val (.ref a5), .val .null] [])) _
    refine XS.aloadN X70.here hx rfl (hb hby d13_25) rfl rfl ?_
    show Steps p.tables e below (T70.setTop (mkF m 26 #[.val (.ref a1), .val (.ref a2), .val (.ref a3), .val (.ref a4), .val (.ref a5), .val .null] [(.ref a1)])) _
    refine XS.aload X70.here hx rfl (hb hby d13_26) rfl rfl ?_
    exact k)
  obtain ⟨T73, h73, X73, e73, W73, st73⟩ := putF X70 hx hZ hown (host := "") (Or.inl (hw _ (List.mem_of_getElem? (i := 75) rfl))) Via.refl e70 f71 (Exa.wr W70 (Exa.wr W67 (Exa.wr W64 (Exa.wr W61 Ex)))) (Or.inr ⟨(hw _ (List.mem_of_getElem? (i := 76) rfl)), rfl, hnm⟩) (hw _ (List.mem_of_getElem? (i := 61) rfl)) (ty := (.object "java/util/Optional")) (by decide) rfl rfl (g := (mkF m 28 #[.val (.ref a1), .val (.ref a2), .val (.ref a3), .val (.ref a4), .val (.ref a5), .val .null] [.null, (.ref a1)])) rfl rfl (hb hby d13_28)
  have N73 := Fr.snoc X73 N70 g_a1
  have KP73 : Keep h0 h73 [a1] := KP70.wr W73 (Or.inl (List.mem_of_getElem? (i := 0) rfl))
  have ZS73 : n0 ≤ h73.size := Nat.le_trans ZS70 (Keep.of_wr W73).1
  have F73 := Fld.same W73 f71
  have go73 : Goes p e below s₁ (entryFrame m #[(.ref a1), (.ref a2), (.ref a3), (.ref a4), (.ref a5), .null] 6) T73 (mkF m 31 #[.val (.ref a1), .val (.ref a2), .val (.ref a3), .val (.ref a4), .val (.ref a5), .val .null] []) := fun t k => go72 t (st73 _ k)
  have f74 := (Exa.wr W73 (Exa.wr W70 (Exa.wr W67 (Exa.wr W64 (Exa.wr W61 Ex)))))
  have f75 := (Fld.other W73 (Fld.other W70 F67 (Or.inr (slot_ne (Or.inr (hw _ (List.mem_of_getElem? (i := 72) rfl))) (Or.inr (hw _ (List.mem_of_getElem? (i := 74) rfl))) (by decide) (t := (.object "com/example/rightful_keys/rightfulkeys/store/Account")) (t' := (.object "java/lang/String")) (by decide) (by decide)))) (Or.inr (slot_ne (Or.inr (hw _ (List.mem_of_getElem? (i := 72) rfl))) (Or.inr (hw _ (List.mem_of_getElem? (i := 76) rfl))) (by decide) (t := (.object "com/example/rightful_keys/rightfulkeys/store/Account")) (t' := (.object "java/util/Optional")) (by decide) (by decide))))
  obtain ⟨fs, hr, hrun, hended, hW, hsame⟩ := X73.leave (v := none) (fun _ => rfl)
  refine ⟨_, _, go73 _ ?_, hrun, hended, _, _, rfl, ?_, ⟨_, rfl⟩, hW, hsame.mono (by decide) (by decide)⟩
  · exact X73.returnOut hx Bd.returns (hb hby d13_31) hr
  · show Q_rm13a Z a1 a2 a3 a4 a5 h0 n0 _ T73.heap _
    rw [e73]
    exact ⟨rfl, N73, KP73, f74, f75⟩
theorem d14_11 : decode prog_67_method_2_code 11 = .ok (.iconst 0, 1) := by decide +kernel
def Q_rm14a (Z : State) (a1 : Addr) (a4 : Addr) (h0 : Heap) (n0 : Nat) (v : Option Value) (h : Heap) (L : List Loc) : Prop := v = some (.int (0 : Int32)) ∧ Fr n0 L ∧ h = h0
set_option maxRecDepth 65536 in
set_option maxHeartbeats 40000000 in
theorem rm14a (l : Launch) (Z : State) (a0 : Array Value) (hw : ∀ d ∈ tables_1, d.before a0 Z = true) (ws : List Jvm.Cond) (a1 : Addr) (a4 : Addr) (h0 : Heap) (n0 : Nat) (Z0 : n0 ≤ h0.size) (F : Fld Z h0 a1 "com/example/rightful_keys/rightfulkeys/store/Role" "account" "Lcom/example/rightful_keys/rightfulkeys/store/Account;" (.ref a4)) :
    MetFree l (⟨"com/example/rightful_keys/rightfulkeys/store/Role", "isSystem", "()Z"⟩ : MethodName) (head1 (Jvm.Cond.code (⟨"com/example/rightful_keys/rightfulkeys/store/Role", "isSystem", "()Z"⟩ : MethodName) prog_67_method_2_code 1 (some .boolean) :: ws) ({ frames := 0, cells := 0, slots := 0, locals := 0 } : Room)) (fun a U => a = #[(.ref a1)] ∧ Z.Warmed39 U.vm ∧ U.heap = h0) (fun _ _ _ _ _ => True) (fun _ U o U' => ∃ v L, o = .returned v ∧ Q_rm14a Z a1 a4 h0 n0 v U'.heap L ∧ FrameEnd U o U' L ({ frames := 0, cells := 0, slots := 0, locals := 0 } : Room).cells ({ frames := 0, cells := 0, slots := 0, locals := 0 } : Room).slots) := by
  refine MetFree.of_bodySF (plainFor_of_name pn_com_example_rightful_keys_rightfulkeys_store_Role) hisR ?_
  intro p e s m args below meth c s₁ Bd hml0 hP hK
  obtain ⟨rfl, hZ, hh⟩ := hP
  have hx := Bd.exec
  have hby := Bd.bytes
  have hml : c.maxLocals = 1 := hml0
  have hown : s.vm.findClass "com/example/rightful_keys/rightfulkeys/store/Role" = some m.cls := findClass_of_methodNamed Bd.named
  have hnm := (name_of_methodNamed Bd.named Bd.method).1
  have X0 : Stand p l e ({ frames := 0, cells := 0, slots := 0, locals := 0 } : Room) s m #[(.ref a1)] below meth c s₁ [] 0 0 := Stand.of_body Bd
  have e0 : s₁.heap = h0 := by rw [← hh, Bd.state]; rfl
  have N0 := Fr.nil n0
  have go0 : Goes p e below s₁ (entryFrame m #[(.ref a1)] 1) s₁ (mkF m 0 #[.val (.ref a1)] []) := fun t k => castTop (by first | (simp [entryFrame, mkF, argsToLocals, Value.category]; done) | rfl) k
  have go76 : Goes p e below s₁ (entryFrame m #[(.ref a1)] 1) s₁ (mkF m 1 #[.val (.ref a1)] [(.ref a1)]) := fun t k => go0 t (by
    show Steps p.tables e below (s₁.setTop (mkF m 0 #[.val (.ref a1)] [])) _
    refine XS.aloadN X0.here hx rfl (hb hby d14_0) rfl rfl ?_
    exact k)
  obtain ⟨T77, X77, e77, st77⟩ := getF X0 hx hZ hown (host := "") (Or.inl (hw _ (List.mem_of_getElem? (i := 71) rfl))) Via.refl e0 F (g := (mkF m 1 #[.val (.ref a1)] [(.ref a1)])) rfl rfl (hb hby d14_1)
  have go77 : Goes p e below s₁ (entryFrame m #[(.ref a1)] 1) T77 (mkF m 4 #[.val (.ref a1)] [(.ref a4)]) := fun t k => go76 t (st77 _ k)
  have go78 : Goes p e below s₁ (entryFrame m #[(.ref a1)] 1) T77 (mkF m 12 #[.val (.ref a1)] [(.int (0 : Int32))]) := fun t k => go77 t (by
    show Steps p.tables e below (T77.setTop (mkF m 4 #[.val (.ref a1)] [(.ref a4)])) _
    refine XS.ifnonnullYes X77.here hx rfl (pc0 := 4) (pc' := 11) rfl (hb hby d14_4) rfl (by decide) (by decide) ?_
    show Steps p.tables e below (T77.setTop (mkF m 11 #[.val (.ref a1)] [])) _
    refine XS.iconst X77.here hx rfl (hb hby d14_11) ?_
    exact k)
  obtain ⟨fs, hr, hrun, hended, hW, hsame⟩ := X77.leave (v := some (.int (0 : Int32))) (fun h => by rw [Bd.returns] at h; cases h)
  refine ⟨_, _, go78 _ ?_, hrun, hended, _, _, rfl, ?_, ⟨_, rfl⟩, hW, hsame.mono (by decide) (by decide)⟩
  · exact retN X77 hx (t := .boolean) Bd.returns (by simp) (hb hby d14_12) hr
  · show Q_rm14a Z a1 a4 h0 n0 _ T77.heap _
    rw [e77]
    exact ⟨rfl, N0, rfl⟩
def Q_rm15a (Z : State) (a1 : Addr) (a4 : Addr) (h0 : Heap) (n0 : Nat) (v : Option Value) (h : Heap) (L : List Loc) : Prop := v = some (.ref a4) ∧ Fr n0 L ∧ h = h0
set_option maxRecDepth 65536 in
set_option maxHeartbeats 40000000 in
theorem rm15a (l : Launch) (Z : State) (a0 : Array Value) (hw : ∀ d ∈ tables_1, d.before a0 Z = true) (ws : List Jvm.Cond) (a1 : Addr) (a4 : Addr) (h0 : Heap) (n0 : Nat) (Z0 : n0 ≤ h0.size) (F : Fld Z h0 a1 "com/example/rightful_keys/rightfulkeys/store/Role" "account" "Lcom/example/rightful_keys/rightfulkeys/store/Account;" (.ref a4)) :
    MetFree l (⟨"com/example/rightful_keys/rightfulkeys/store/Role", "account", "()Lcom/example/rightful_keys/rightfulkeys/store/Account;"⟩ : MethodName) (head1 (Jvm.Cond.code (⟨"com/example/rightful_keys/rightfulkeys/store/Role", "account", "()Lcom/example/rightful_keys/rightfulkeys/store/Account;"⟩ : MethodName) prog_67_method_8_code 1 (some (.object "com/example/rightful_keys/rightfulkeys/store/Account")) :: ws) ({ frames := 0, cells := 0, slots := 0, locals := 0 } : Room)) (fun a U => a = #[(.ref a1)] ∧ Z.Warmed39 U.vm ∧ U.heap = h0) (fun _ _ _ _ _ => True) (fun _ U o U' => ∃ v L, o = .returned v ∧ Q_rm15a Z a1 a4 h0 n0 v U'.heap L ∧ FrameEnd U o U' L ({ frames := 0, cells := 0, slots := 0, locals := 0 } : Room).cells ({ frames := 0, cells := 0, slots := 0, locals := 0 } : Room).slots) := by
  refine MetFree.of_bodySF (plainFor_of_name pn_com_example_rightful_keys_rightfulkeys_store_Role) hisR ?_
  intro p e s m args below meth c s₁ Bd hml0 hP hK
  obtain ⟨rfl, hZ, hh⟩ := hP
  have hx := Bd.exec
  have hby := Bd.bytes
  have hml : c.maxLocals = 1 := hml0
  have hown : s.vm.findClass "com/example/rightful_keys/rightfulkeys/store/Role" = some m.cls := findClass_of_methodNamed Bd.named
  have hnm := (name_of_methodNamed Bd.named Bd.method).1
  have X0 : Stand p l e ({ frames := 0, cells := 0, slots := 0, locals := 0 } : Room) s m #[(.ref a1)] below meth c s₁ [] 0 0 := Stand.of_body Bd
  have e0 : s₁.heap = h0 := by rw [← hh, Bd.state]; rfl
  have N0 := Fr.nil n0
  have go0 : Goes p e below s₁ (entryFrame m #[(.ref a1)] 1) s₁ (mkF m 0 #[.val (.ref a1)] []) := fun t k => castTop (by first | (simp [entryFrame, mkF, argsToLocals, Value.category]; done) | rfl) k
  have go79 : Goes p e below s₁ (entryFrame m #[(.ref a1)] 1) s₁ (mkF m 1 #[.val (.ref a1)] [(.ref a1)]) := fun t k => go0 t (by
    show Steps p.tables e below (s₁.setTop (mkF m 0 #[.val (.ref a1)] [])) _
    refine XS.aloadN X0.here hx rfl (hb hby d15_0) rfl rfl ?_
    exact k)
  obtain ⟨T80, X80, e80, st80⟩ := getF X0 hx hZ hown (host := "") (Or.inl (hw _ (List.mem_of_getElem? (i := 71) rfl))) Via.refl e0 F (g := (mkF m 1 #[.val (.ref a1)] [(.ref a1)])) rfl rfl (hb hby d15_1)
  have go80 : Goes p e below s₁ (entryFrame m #[(.ref a1)] 1) T80 (mkF m 4 #[.val (.ref a1)] [(.ref a4)]) := fun t k => go79 t (st80 _ k)
  obtain ⟨fs, hr, hrun, hended, hW, hsame⟩ := X80.leave (v := some (.ref a4)) (fun h => by rw [Bd.returns] at h; cases h)
  refine ⟨_, _, go80 _ ?_, hrun, hended, _, _, rfl, ?_, ⟨_, rfl⟩, hW, hsame.mono (by decide) (by decide)⟩
  · jvm_step X80.here [X80.here.top, hx, (hb hby d15_4), X80.method', Bd.returns, Value.isRef, FieldType.isReference]
    first | (intro acts; rw [hr _ acts rfl rfl rfl]) | rw [hr _ _ rfl rfl rfl]
    exact Steps.refl _
  · show Q_rm15a Z a1 a4 h0 n0 _ T80.heap _
    rw [e80]
    exact ⟨rfl, N0, rfl⟩
theorem own_255 (x : Int32) : ¬ ((x &&& (255 : Int32)).toUInt32.toUInt16.toUInt32.toInt32) < 0 ∧ ¬ (255 : Int32) < ((x &&& (255 : Int32)).toUInt32.toUInt16.toUInt32.toInt32) := by
  have t : ∀ k : Fin 256, ¬ ((Int32.ofNat k.val).toUInt32.toUInt16.toUInt32.toInt32) < 0 ∧ ¬ (255 : Int32) < ((Int32.ofNat k.val).toUInt32.toUInt16.toUInt32.toInt32) := by decide +kernel
  have h : (x &&& 255).toBitVec.toNat < 256 := by
    simp only [Int32.toBitVec_and, BitVec.toNat_and]
    exact Nat.lt_succ_of_le Nat.and_le_right
  have e : (x &&& 255) = Int32.ofNat (x &&& 255).toBitVec.toNat := by
    apply Int32.toBitVec_inj.mp
    show _ = BitVec.ofNat 32 _
    rw [BitVec.ofNat_toNat]; simp
  rw [e]
  exact t ⟨_, h⟩
theorem own_nar (x : Int32) : ¬ nar .char ((x &&& (255 : Int32)).toUInt32.toUInt16.toUInt32.toInt32) < 0 ∧ ¬ (255 : Int32) < nar .char ((x &&& (255 : Int32)).toUInt32.toUInt16.toUInt32.toInt32) := by
  have t : ∀ k : Fin 256, ¬ nar .char ((Int32.ofNat k.val).toUInt32.toUInt16.toUInt32.toInt32) < 0 ∧ ¬ (255 : Int32) < nar .char ((Int32.ofNat k.val).toUInt32.toUInt16.toUInt32.toInt32) := by decide +kernel
  have h : (x &&& 255).toBitVec.toNat < 256 := by
    simp only [Int32.toBitVec_and, BitVec.toNat_and]
    exact Nat.lt_succ_of_le Nat.and_le_right
  have e : (x &&& 255) = Int32.ofNat (x &&& 255).toBitVec.toNat := by
    apply Int32.toBitVec_inj.mp
    show _ = BitVec.ofNat 32 _
    rw [BitVec.ofNat_toNat]; simp
  rw [e]
  exact t ⟨_, h⟩
theorem pd_4 : parseMethodDescriptor "([C)V" = some ⟨[(.array .char)], none⟩ := by decide +kernel
theorem pd_5 : parseMethodDescriptor "(C)Ljava/lang/String;" = some ⟨[.char], some (.object "java/lang/String")⟩ := by decide +kernel
theorem pd_6 : parseMethodDescriptor "(Ljava/lang/String;Ljava/lang/String;Lcom/example/rightful_keys/rightfulkeys/store/Account;Ljava/lang/String;Ljava/util/Optional;)V" = some ⟨[(.object "java/lang/String"), (.object "java/lang/String"), (.object "com/example/rightful_keys/rightfulkeys/store/Account"), (.object "java/lang/String"), (.object "java/util/Optional")], none⟩ := by decide +kernel
theorem pd_7 : parseMethodDescriptor "()Z" = some ⟨[], some .boolean⟩ := by decide +kernel
theorem pd_8 : parseMethodDescriptor "()Lcom/example/rightful_keys/rightfulkeys/store/Account;" = some ⟨[], some (.object "com/example/rightful_keys/rightfulkeys/store/Account")⟩ := by decide +kernel
theorem pd_9 : parseMethodDescriptor "(Ljava/lang/String;Ljava/lang/String;)V" = some ⟨[(.object "java/lang/String"), (.object "java/lang/String")], none⟩ := by decide +kernel
def Q_rm0 (Z : State) (p1 : Int32) (p2 : Int32) (p3 : Int32) (p4 : Int32) (cz : Int32) (h0 : Heap) (n0 : Nat) (v : Option Value) (h : Heap) (L : List Loc) : Prop := v = some (.int (1 : Int32)) ∧ Fr n0 L
theorem pn_com_example_rightful_keys_rightfulkeys_store_RoleIsSystemPinLaw : plainName "com/example/rightful_keys/rightfulkeys/store/RoleIsSystemPinLaw" = true := by first | (simp [plainName, overriddenIn]; done) | decide +kernel
set_option maxRecDepth 65536 in
set_option maxHeartbeats 40000000 in
theorem rm0 (l : Launch) (Z : State) (a0 : Array Value) (hw : ∀ d ∈ tables_1, d.before a0 Z = true) (ws : List Jvm.Cond) (p1 : Int32) (p2 : Int32) (p3 : Int32) (p4 : Int32) (cz : Int32) (h0 : Heap) (n0 : Nat) (Z0 : n0 ≤ h0.size) (O0 : Old Z n0 h0) (hz : ¬ (cz = (0 : Int32))) (SC : Sta Z Z.heap "java/lang/String" "COMPACT_STRINGS" "Z" (.int cz)) :
    MetFree l x (head1 (Jvm.Cond.code x code maxLocals ret :: ws) room_1) (fun a U => a = #[(.int p1), (.int p2), (.int p3), (.int p4)] ∧ Z.Warmed39 U.vm ∧ U.heap = h0) (fun _ _ _ _ _ => True) (fun _ U o U' => ∃ v L, o = .returned v ∧ Q_rm0 Z p1 p2 p3 p4 cz h0 n0 v U'.heap L ∧ ReturnedEndW U o U' L room_1.cells room_1.slots) := by
  refine MetFree.of_bodySF (plainFor_of_name pn_com_example_rightful_keys_rightfulkeys_store_RoleIsSystemPinLaw) hisR ?_
  intro p e s m args below meth c s₁ Bd hml0 hP hK
  obtain ⟨rfl, hZ, hh⟩ := hP
  have hx := Bd.exec
  have hby := Bd.bytes
  have hml : c.maxLocals = 13 := hml0
  have hown : s.vm.findClass "com/example/rightful_keys/rightfulkeys/store/RoleIsSystemPinLaw" = some m.cls := findClass_of_methodNamed Bd.named
  have hnm := (name_of_methodNamed Bd.named Bd.method).1
  have X0 : Stand p l e room_1 s m #[(.int p1), (.int p2), (.int p3), (.int p4)] below meth c s₁ [] 0 0 := Stand.of_body Bd
  have e0 : s₁.heap = h0 := by rw [← hh, Bd.state]; rfl
  have N0 := Fr.nil n0
  have wS : ∀ a ∈ Bundle.stringAtoms, a.before a0 Z = true := fun d hd => hw d ((by decide +kernel : ∀ d ∈ Bundle.stringAtoms, d ∈ tables_1) d hd)
  have go0 : Goes p e below s₁ (entryFrame m #[(.int p1), (.int p2), (.int p3), (.int p4)] maxLocals) s₁ (mkF m 0 #[.val (.int p1), .val (.int p2), .val (.int p3), .val (.int p4), .unset, .unset, .unset, .unset, .unset, .unset, .unset, .unset, .unset] []) := fun t k => castTop (by first | (simp [entryFrame, mkF, argsToLocals, Value.category, maxLocals]; done) | rfl) k
  have hws : ∀ d ∈ StrChars.Road.words, d.before a0 Z = true := fun d hd => hw d ((by decide +kernel : ∀ d ∈ StrChars.Road.words, d ∈ tables_1) d hd)
  have go81 : Goes p e below s₁ (entryFrame m #[(.int p1), (.int p2), (.int p3), (.int p4)] maxLocals) s₁ (mkF m 1 #[.val (.int p1), .val (.int p2), .val (.int p3), .val (.int p4), .unset, .unset, .unset, .unset, .unset, .unset, .unset, .unset, .unset] [(.int (2 : Int32))]) := fun t k => go0 t (by
    show Steps p.tables e below (s₁.setTop (mkF m 0 #[.val (.int p1), .val (.int p2), .val (.int p3), .val (.int p4), .unset, .unset, .unset, .unset, .unset, .unset, .unset, .unset, .unset] [])) _
    refine XS.iconst X0.here hx rfl (hb hby at_0) ?_
    exact k)
  obtain ⟨T82, h82, k82, X82, e82, E82, A82, st82⟩ := newP X0 hx hZ (hw _ (List.mem_of_getElem? (i := 0) rfl)) e0 (g := (mkF m 1 #[.val (.int p1), .val (.int p2), .val (.int p3), .val (.int p4), .unset, .unset, .unset, .unset, .unset, .unset, .unset, .unset, .unset] [(.int (2 : Int32))])) rfl (hb hby at_1) rfl (by decide) (cap := 2) (by decide) (by decide) (by decide) (by decide)
  obtain ⟨b82, g82⟩ : ∃ z, z = h0.size := ⟨_, rfl⟩
  rw [← g82] at A82 st82
  have g_b82 : n0 ≤ b82 := Nat.le_trans Z0 (Nat.le_of_eq g82.symm)
  have O82 := O0.ext E82
  have ZS82 : n0 ≤ h82.size := Nat.le_trans Z0 E82.1
  have V82 : Arv Z h82 b82 k82 .char (2 : Int32) [(.int (0 : Int32)), (.int (0 : Int32))] (.int (0 : Int32)) := (Arv.new A82 (by decide)).pad (pad_rep [] (.int (0 : Int32)) 2)
  have go82 : Goes p e below s₁ (entryFrame m #[(.int p1), (.int p2), (.int p3), (.int p4)] maxLocals) T82 (mkF m 3 #[.val (.int p1), .val (.int p2), .val (.int p3), .val (.int p4), .unset, .unset, .unset, .unset, .unset, .unset, .unset, .unset, .unset] [(.ref b82)]) := fun t k => go81 t (st82 _ k)
  have go84 : Goes p e below s₁ (entryFrame m #[(.int p1), (.int p2), (.int p3), (.int p4)] maxLocals) T82 (mkF m 14 #[.val (.int p1), .val (.int p2), .val (.int p3), .val (.int p4), .val (.ref b82), .unset, .unset, .unset, .unset, .unset, .unset, .unset, .unset] [(.int ((p1 &&& (255 : Int32)).toUInt32.toUInt16.toUInt32.toInt32)), (.int (0 : Int32)), (.ref b82)]) := fun t k => go82 t (by
    show Steps p.tables e below (T82.setTop (mkF m 3 #[.val (.int p1), .val (.int p2), .val (.int p3), .val (.int p4), .unset, .unset, .unset, .unset, .unset, .unset, .unset, .unset, .unset] [(.ref b82)])) _
    refine XS.astore X82.here hx rfl (hb hby at_3) rfl rfl (l' := #[.val (.int p1), .val (.int p2), .val (.int p3), .val (.int p4), .val (.ref b82), .unset, .unset, .unset, .unset, .unset, .unset, .unset, .unset]) rfl ?_
    show Steps p.tables e below (T82.setTop (mkF m 5 #[.val (.int p1), .val (.int p2), .val (.int p3), .val (.int p4), .val (.ref b82), .unset, .unset, .unset, .unset, .unset, .unset, .unset, .unset] [])) _
    refine XS.aload X82.here hx rfl (hb hby at_5) rfl rfl ?_
    show Steps p.tables e below (T82.setTop (mkF m 7 #[.val (.int p1), .val (.int p2), .val (.int p3), .val (.int p4), .val (.ref b82), .unset, .unset, .unset, .unset, .unset, .unset, .unset, .unset] [(.ref b82)])) _
    refine XS.iconst X82.here hx rfl (hb hby at_7) ?_
    show Steps p.tables e below (T82.setTop (mkF m 8 #[.val (.int p1), .val (.int p2), .val (.int p3), .val (.int p4), .val (.ref b82), .unset, .unset, .unset, .unset, .unset, .unset, .unset, .unset] [(.int (0 : Int32)), (.ref b82)])) _
    refine XS.iloadN X82.here hx rfl (hb hby at_8) rfl ?_
    show Steps p.tables e below (T82.setTop (mkF m 9 #[.val (.int p1), .val (.int p2), .val (.int p3), .val (.int p4), .val (.ref b82), .unset, .unset, .unset, .unset, .unset, .unset, .unset, .unset] [(.int p1), (.int (0 : Int32)), (.ref b82)])) _
    refine XS.sipush X82.here hx rfl (hb hby at_9) ?_
    show Steps p.tables e below (T82.setTop (mkF m 12 #[.val (.int p1), .val (.int p2), .val (.int p3), .val (.int p4), .val (.ref b82), .unset, .unset, .unset, .unset, .unset, .unset, .unset, .unset] [(.int (255 : Int32)), (.int p1), (.int (0 : Int32)), (.ref b82)])) _
    refine XS.iand X82.here hx rfl (hb hby at_12) rfl ?_
    show Steps p.tables e below (T82.setTop (mkF m 13 #[.val (.int p1), .val (.int p2), .val (.int p3), .val (.int p4), .val (.ref b82), .unset, .unset, .unset, .unset, .unset, .unset, .unset, .unset] [(.int (p1 &&& (255 : Int32))), (.int (0 : Int32)), (.ref b82)])) _
    refine XS.i2c X82.here hx rfl (hb hby at_13) rfl ?_
    exact k)
  obtain ⟨cl83, Ar83, q83, S83, N_83, H83, G83⟩ := V82
  have hin83 : ¬ ((0 : Int32) < 0 ∨ cl83.slots.size ≤ ((0 : Int32)).toNatClampNeg) := inb_of S83 ⟨by decide, by decide⟩
  obtain ⟨T85, h85, X85, e85, W85, st85⟩ := stC X82 hx hZ e82 Ar83 (j := (0 : Int32)) hin83 (g := (mkF m 14 #[.val (.int p1), .val (.int p2), .val (.int p3), .val (.int p4), .val (.ref b82), .unset, .unset, .unset, .unset, .unset, .unset, .unset, .unset] [(.int ((p1 &&& (255 : Int32)).toUInt32.toUInt16.toUInt32.toInt32)), (.int (0 : Int32)), (.ref b82)])) rfl rfl (hb hby at_14)
  have N85 := Fr.snoc X85 N0 g_b82
  have O85 := O82.wr W85 g_b82
  have ZS85 : n0 ≤ h85.size := Nat.le_trans ZS82 (Keep.of_wr W85).1
  have V85 : Arv Z h85 b82 k82 .char (2 : Int32) [(.int (nar .char ((p1 &&& (255 : Int32)).toUInt32.toUInt16.toUInt32.toInt32))), (.int (0 : Int32))] (.int (0 : Int32)) := Arv.set Ar83 q83 S83 N_83 H83 G83 (fits_nar_char _) W85 0 rfl (Nat.le_of_ble_eq_true rfl)
  have go85 : Goes p e below s₁ (entryFrame m #[(.int p1), (.int p2), (.int p3), (.int p4)] maxLocals) T85 (mkF m 15 #[.val (.int p1), .val (.int p2), .val (.int p3), .val (.int p4), .val (.ref b82), .unset, .unset, .unset, .unset, .unset, .unset, .unset, .unset] []) := fun t k => go84 t (st85 _ k)
  have go87 : Goes p e below s₁ (entryFrame m #[(.int p1), (.int p2), (.int p3), (.int p4)] maxLocals) T85 (mkF m 27 #[.val (.int p1), .val (.int p2), .val (.int p3), .val (.int p4), .val (.ref b82), .unset, .unset, .unset, .unset, .unset, .unset, .unset, .unset] [(.int (((((p1.toUInt32 >>> ((8 : Int32) &&& 31).toUInt32).toInt32) &&& (255 : Int32))).toUInt32.toUInt16.toUInt32.toInt32)), (.int (1 : Int32)), (.ref b82)]) := fun t k => go85 t (by
    show Steps p.tables e below (T85.setTop (mkF m 15 #[.val (.int p1), .val (.int p2), .val (.int p3), .val (.int p4), .val (.ref b82), .unset, .unset, .unset, .unset, .unset, .unset, .unset, .unset] [])) _
    refine XS.aload X85.here hx rfl (hb hby at_15) rfl rfl ?_
    show Steps p.tables e below (T85.setTop (mkF m 17 #[.val (.int p1), .val (.int p2), .val (.int p3), .val (.int p4), .val (.ref b82), .unset, .unset, .unset, .unset, .unset, .unset, .unset, .unset] [(.ref b82)])) _
    refine XS.iconst X85.here hx rfl (hb hby at_17) ?_
    show Steps p.tables e below (T85.setTop (mkF m 18 #[.val (.int p1), .val (.int p2), .val (.int p3), .val (.int p4), .val (.ref b82), .unset, .unset, .unset, .unset, .unset, .unset, .unset, .unset] [(.int (1 : Int32)), (.ref b82)])) _
    refine XS.iloadN X85.here hx rfl (hb hby at_18) rfl ?_
    show Steps p.tables e below (T85.setTop (mkF m 19 #[.val (.int p1), .val (.int p2), .val (.int p3), .val (.int p4), .val (.ref b82), .unset, .unset, .unset, .unset, .unset, .unset, .unset, .unset] [(.int p1), (.int (1 : Int32)), (.ref b82)])) _
    refine XS.bipush X85.here hx rfl (hb hby at_19) ?_
    show Steps p.tables e below (T85.setTop (mkF m 21 #[.val (.int p1), .val (.int p2), .val (.int p3), .val (.int p4), .val (.ref b82), .unset, .unset, .unset, .unset, .unset, .unset, .unset, .unset] [(.int (8 : Int32)), (.int p1), (.int (1 : Int32)), (.ref b82)])) _
    refine XS.iushr X85.here hx rfl (hb hby at_21) rfl ?_
    show Steps p.tables e below (T85.setTop (mkF m 22 #[.val (.int p1), .val (.int p2), .val (.int p3), .val (.int p4), .val (.ref b82), .unset, .unset, .unset, .unset, .unset, .unset, .unset, .unset] [(.int ((p1.toUInt32 >>> ((8 : Int32) &&& 31).toUInt32).toInt32)), (.int (1 : Int32)), (.ref b82)])) _
    refine XS.sipush X85.here hx rfl (hb hby at_22) ?_
    show Steps p.tables e below (T85.setTop (mkF m 25 #[.val (.int p1), .val (.int p2), .val (.int p3), .val (.int p4), .val (.ref b82), .unset, .unset, .unset, .unset, .unset, .unset, .unset, .unset] [(.int (255 : Int32)), (.int ((p1.toUInt32 >>> ((8 : Int32) &&& 31).toUInt32).toInt32)), (.int (1 : Int32)), (.ref b82)])) _
    refine XS.iand X85.here hx rfl (hb hby at_25) rfl ?_
    show Steps p.tables e below (T85.setTop (mkF m 26 #[.val (.int p1), .val (.int p2), .val (.int p3), .val (.int p4), .val (.ref b82), .unset, .unset, .unset, .unset, .unset, .unset, .unset, .unset] [(.int (((p1.toUInt32 >>> ((8 : Int32) &&& 31).toUInt32).toInt32) &&& (255 : Int32))), (.int (1 : Int32)), (.ref b82)])) _
    refine XS.i2c X85.here hx rfl (hb hby at_26) rfl ?_
    exact k)
  obtain ⟨cl86, Ar86, q86, S86, N_86, H86, G86⟩ := V85
  have hin86 : ¬ ((1 : Int32) < 0 ∨ cl86.slots.size ≤ ((1 : Int32)).toNatClampNeg) := inb_of S86 ⟨by decide, by decide⟩
  obtain ⟨T88, h88, X88, e88, W88, st88⟩ := stC X85 hx hZ e85 Ar86 (j := (1 : Int32)) hin86 (g := (mkF m 27 #[.val (.int p1), .val (.int p2), .val (.int p3), .val (.int p4), .val (.ref b82), .unset, .unset, .unset, .unset, .unset, .unset, .unset, .unset] [(.int (((((p1.toUInt32 >>> ((8 : Int32) &&& 31).toUInt32).toInt32) &&& (255 : Int32))).toUInt32.toUInt16.toUInt32.toInt32)), (.int (1 : Int32)), (.ref b82)])) rfl rfl (hb hby at_27)
  have N88 := Fr.snoc X88 N85 g_b82
  have O88 := O85.wr W88 g_b82
  have ZS88 : n0 ≤ h88.size := Nat.le_trans ZS85 (Keep.of_wr W88).1
  have V88 : Arv Z h88 b82 k82 .char (2 : Int32) [(.int (nar .char ((p1 &&& (255 : Int32)).toUInt32.toUInt16.toUInt32.toInt32))), (.int (nar .char (((((p1.toUInt32 >>> ((8 : Int32) &&& 31).toUInt32).toInt32) &&& (255 : Int32))).toUInt32.toUInt16.toUInt32.toInt32)))] (.int (0 : Int32)) := Arv.set Ar86 q86 S86 N_86 H86 G86 (fits_nar_char _) W88 1 rfl (Nat.le_of_ble_eq_true rfl)
  have go88 : Goes p e below s₁ (entryFrame m #[(.int p1), (.int p2), (.int p3), (.int p4)] maxLocals) T88 (mkF m 28 #[.val (.int p1), .val (.int p2), .val (.int p3), .val (.int p4), .val (.ref b82), .unset, .unset, .unset, .unset, .unset, .unset, .unset, .unset] []) := fun t k => go87 t (st88 _ k)
  obtain ⟨T89, h89, X89, e89, E89, A89, D89, -, st89⟩ := newO X88 hx hZ hown (hw _ (List.mem_of_getElem? (i := 1) rfl)) (hw _ (List.mem_of_getElem? (i := 2) rfl)) (hw _ (List.mem_of_getElem? (i := 3) rfl)) e88 (g := (mkF m 28 #[.val (.int p1), .val (.int p2), .val (.int p3), .val (.int p4), .val (.ref b82), .unset, .unset, .unset, .unset, .unset, .unset, .unset, .unset] [])) rfl (hb hby at_28) (by decide) (by decide)
  obtain ⟨b89, g89⟩ : ∃ z, z = h88.size := ⟨_, rfl⟩
  rw [← g89] at A89 D89 st89
  have g_b89 : n0 ≤ b89 := Nat.le_trans ZS88 (Nat.le_of_eq g89.symm)
  have O89 := O88.ext E89
  have ZS89 : n0 ≤ h89.size := Nat.le_trans ZS88 E89.1
  have F89_coder : Fld Z h89 b89 "java/lang/String" "coder" "B" (.int (0 : Int32)) := D89 (Or.inr (hw _ (List.mem_of_getElem? (i := 27) rfl))) (ty := .byte) (by decide)
  have F89_value : Fld Z h89 b89 "java/lang/String" "value" "[B" .null := D89 (Or.inr (hw _ (List.mem_of_getElem? (i := 29) rfl))) (ty := (.array .byte)) (by decide)
  have ne90 : b82 ≠ b89 := Nat.ne_of_lt (Nat.lt_of_lt_of_le V88.lt (Nat.le_of_eq g89.symm))
  have go89 : Goes p e below s₁ (entryFrame m #[(.int p1), (.int p2), (.int p3), (.int p4)] maxLocals) T89 (mkF m 31 #[.val (.int p1), .val (.int p2), .val (.int p3), .val (.int p4), .val (.ref b82), .unset, .unset, .unset, .unset, .unset, .unset, .unset, .unset] [(.ref b89)]) := fun t k => go88 t (st89 _ k)
  have go91 : Goes p e below s₁ (entryFrame m #[(.int p1), (.int p2), (.int p3), (.int p4)] maxLocals) T89 (mkF m 34 #[.val (.int p1), .val (.int p2), .val (.int p3), .val (.int p4), .val (.ref b82), .unset, .unset, .unset, .unset, .unset, .unset, .unset, .unset] [(.ref b82), (.ref b89), (.ref b89)]) := fun t k => go89 t (by
    show Steps p.tables e below (T89.setTop (mkF m 31 #[.val (.int p1), .val (.int p2), .val (.int p3), .val (.int p4), .val (.ref b82), .unset, .unset, .unset, .unset, .unset, .unset, .unset, .unset] [(.ref b89)])) _
    refine XS.dup X89.here hx rfl (hb hby at_31) rfl rfl ?_
    show Steps p.tables e below (T89.setTop (mkF m 32 #[.val (.int p1), .val (.int p2), .val (.int p3), .val (.int p4), .val (.ref b82), .unset, .unset, .unset, .unset, .unset, .unset, .unset, .unset] [(.ref b89), (.ref b89)])) _
    refine XS.aload X89.here hx rfl (hb hby at_32) rfl rfl ?_
    exact k)
  have hpc : ∀ c ∈ ([(nar .char ((p1 &&& (255 : Int32)).toUInt32.toUInt16.toUInt32.toInt32)), (nar .char (((((p1.toUInt32 >>> ((8 : Int32) &&& 31).toUInt32).toInt32) &&& (255 : Int32))).toUInt32.toUInt16.toUInt32.toInt32))] : List Int32), ¬ c < 0 ∧ ¬ (255 : Int32) < c := fun c hc => by
    simp only [List.mem_cons, List.not_mem_nil, or_false] at hc
    rcases hc with rfl | rfl <;> exact own_nar _
  obtain ⟨_, _, ⟨T92, L92, k92, n92⟩, -, X92, ⟨Lc92, hQ92, l92, y92, z92⟩, st92⟩ := X89.specialBack hx (y := (⟨"java/lang/String", "<init>", "([C)V"⟩ : MethodName)) rfl hown (mvT hZ (hw _ (List.mem_of_getElem? (i := 4) rfl))) (mvT hZ (hw _ (List.mem_of_getElem? (i := 5) rfl))) (mvT hZ (hw _ (List.mem_of_getElem? (i := 6) rfl))) (by decide) (StrChars.Road.backV (W := 1) hZ hws (kI := 4) (hw _ (List.mem_of_getElem? (i := 2) rfl)) (cs := ([(nar .char ((p1 &&& (255 : Int32)).toUInt32.toUInt16.toUInt32.toInt32)), (nar .char (((((p1.toUInt32 >>> ((8 : Int32) &&& 31).toUInt32).toInt32) &&& (255 : Int32))).toUInt32.toUInt16.toUInt32.toInt32))] : List Int32)) (bs := ([(nar .char ((p1 &&& (255 : Int32)).toUInt32.toUInt16.toUInt32.toInt32)), (nar .char (((((p1.toUInt32 >>> ((8 : Int32) &&& 31).toUInt32).toInt32) &&& (255 : Int32))).toUInt32.toUInt16.toUInt32.toInt32))] : List Int32).map (fun c => c.toInt8.toInt32)) (n := 2) g_b89 ZS89 A89 F89_value F89_coder (V88.ext E89) (SC.ext O89.2) hz rfl rfl (by decide) (by decide) hpc rfl (by decide) (by decide)) (g := (mkF m 34 #[.val (.int p1), .val (.int p2), .val (.int p3), .val (.int p4), .val (.ref b82), .unset, .unset, .unset, .unset, .unset, .unset, .unset, .unset] [(.ref b82), (.ref b89), (.ref b89)])) rfl (by rw [hml]; rfl) (Steps.refl _) (a := b89) (argsL := [(.ref b82)]) (rest := [(.ref b89)]) (lenOf pd_4 rfl) rfl (by show 2 * 0 + _ ≤ _; exact Nat.le_of_eq rfl) (hb hby at_34) (fun _ _ => ⟨rfl, e89, (by decide : 2 + 1 ≤ _), (by decide : 6 + 2 ≤ _)⟩)
  dsimp only [Pt.U, Pt.locs, Pt.cells, Pt.slots] at X92 l92 y92 z92 st92 hQ92
  subst l92 y92 z92
  obtain ⟨rfl, Nq92, K92, -⟩ := hQ92
  have N92 := Fr.app N88 Nq92
  have ZS92 : n0 ≤ T92.heap.size := Nat.le_trans ZS89 K92.1
  have O92 := O89.keep K92 (allS g_b89 all0)
  have go92 : Goes p e below s₁ (entryFrame m #[(.int p1), (.int p2), (.int p3), (.int p4)] maxLocals) T92 (mkF m 37 #[.val (.int p1), .val (.int p2), .val (.int p3), .val (.int p4), .val (.ref b82), .unset, .unset, .unset, .unset, .unset, .unset, .unset, .unset] [(.ref b89)]) := fun t k => go91 t (st92.trans k)
  have go93 : Goes p e below s₁ (entryFrame m #[(.int p1), (.int p2), (.int p3), (.int p4)] maxLocals) T92 (mkF m 42 #[.val (.int p1), .val (.int p2), .val (.int p3), .val (.int p4), .val (.ref b82), .val (.ref b89), .unset, .unset, .unset, .unset, .unset, .unset, .unset] [(.int (p4 &&& (4 : Int32)))]) := fun t k => go92 t (by
    show Steps p.tables e below (T92.setTop (mkF m 37 #[.val (.int p1), .val (.int p2), .val (.int p3), .val (.int p4), .val (.ref b82), .unset, .unset, .unset, .unset, .unset, .unset, .unset, .unset] [(.ref b89)])) _
    refine XS.astore X92.here hx rfl (hb hby at_37) rfl rfl (l' := #[.val (.int p1), .val (.int p2), .val (.int p3), .val (.int p4), .val (.ref b82), .val (.ref b89), .unset, .unset, .unset, .unset, .unset, .unset, .unset]) rfl ?_
    show Steps p.tables e below (T92.setTop (mkF m 39 #[.val (.int p1), .val (.int p2), .val (.int p3), .val (.int p4), .val (.ref b82), .val (.ref b89), .unset, .unset, .unset, .unset, .unset, .unset, .unset] [])) _
    refine XS.iloadN X92.here hx rfl (hb hby at_39) rfl ?_
    show Steps p.tables e below (T92.setTop (mkF m 40 #[.val (.int p1), .val (.int p2), .val (.int p3), .val (.int p4), .val (.ref b82), .val (.ref b89), .unset, .unset, .unset, .unset, .unset, .unset, .unset] [(.int p4)])) _
    refine XS.iconst X92.here hx rfl (hb hby at_40) ?_
    show Steps p.tables e below (T92.setTop (mkF m 41 #[.val (.int p1), .val (.int p2), .val (.int p3), .val (.int p4), .val (.ref b82), .val (.ref b89), .unset, .unset, .unset, .unset, .unset, .unset, .unset] [(.int (4 : Int32)), (.int p4)])) _
    refine XS.iand X92.here hx rfl (hb hby at_41) rfl ?_
    exact k)
  by_cases hf4 : (p4 &&& (4 : Int32)) = (0 : Int32)
  · have go94 : Goes p e below s₁ (entryFrame m #[(.int p1), (.int p2), (.int p3), (.int p4)] maxLocals) T92 (mkF m 56 #[.val (.int p1), .val (.int p2), .val (.int p3), .val (.int p4), .val (.ref b82), .val (.ref b89), .unset, .unset, .unset, .unset, .unset, .unset, .unset] [(.int ((p2 &&& (255 : Int32)).toUInt32.toUInt16.toUInt32.toInt32))]) := fun t k => go93 t (by
      show Steps p.tables e below (T92.setTop (mkF m 42 #[.val (.int p1), .val (.int p2), .val (.int p3), .val (.int p4), .val (.ref b82), .val (.ref b89), .unset, .unset, .unset, .unset, .unset, .unset, .unset] [(.int (p4 &&& (4 : Int32)))])) _
      refine XS.ifYes X92.here hx rfl (pc0 := 42) (pc' := 50) rfl (hb hby at_42) rfl ((if0 _ _).trans (teq hf4).1) (by decide) (by decide) ?_
      show Steps p.tables e below (T92.setTop (mkF m 50 #[.val (.int p1), .val (.int p2), .val (.int p3), .val (.int p4), .val (.ref b82), .val (.ref b89), .unset, .unset, .unset, .unset, .unset, .unset, .unset] [])) _
      refine XS.iloadN X92.here hx rfl (hb hby at_50) rfl ?_
      show Steps p.tables e below (T92.setTop (mkF m 51 #[.val (.int p1), .val (.int p2), .val (.int p3), .val (.int p4), .val (.ref b82), .val (.ref b89), .unset, .unset, .unset, .unset, .unset, .unset, .unset] [(.int p2)])) _
      refine XS.sipush X92.here hx rfl (hb hby at_51) ?_
      show Steps p.tables e below (T92.setTop (mkF m 54 #[.val (.int p1), .val (.int p2), .val (.int p3), .val (.int p4), .val (.ref b82), .val (.ref b89), .unset, .unset, .unset, .unset, .unset, .unset, .unset] [(.int (255 : Int32)), (.int p2)])) _
      refine XS.iand X92.here hx rfl (hb hby at_54) rfl ?_
      show Steps p.tables e below (T92.setTop (mkF m 55 #[.val (.int p1), .val (.int p2), .val (.int p3), .val (.int p4), .val (.ref b82), .val (.ref b89), .unset, .unset, .unset, .unset, .unset, .unset, .unset] [(.int (p2 &&& (255 : Int32)))])) _
      refine XS.i2c X92.here hx rfl (hb hby at_55) rfl ?_
      exact k)
    obtain ⟨_, _, ⟨T95, L95, k95, n95⟩, -, X95, ⟨Lc95, hQ95, l95, y95, z95⟩, st95⟩ := Jvm.LawKit.callS X92 hx (y := (⟨"java/lang/String", "valueOf", "(C)Ljava/lang/String;"⟩ : MethodName)) hown (mvT hZ (hw _ (List.mem_of_getElem? (i := 30) rfl))) (mvT hZ (hw _ (List.mem_of_getElem? (i := 31) rfl))) (mvT hZ (hw _ (List.mem_of_getElem? (i := 3) rfl))) (mvT hZ (hw _ (List.mem_of_getElem? (i := 32) rfl))) (by decide) (backOf (W := 0) (rm7 l Z a0 hw [] ((p2 &&& (255 : Int32)).toUInt32.toUInt16.toUInt32.toInt32) cz T92.heap n0 ZS92 (SC.ext O92.2) hz (own_255 _).2) hZ (hw _ (List.mem_of_getElem? (i := 32) rfl)) (hw _ (List.mem_of_getElem? (i := 3) rfl)) (by decide) (by decide)) (g := (mkF m 56 #[.val (.int p1), .val (.int p2), .val (.int p3), .val (.int p4), .val (.ref b82), .val (.ref b89), .unset, .unset, .unset, .unset, .unset, .unset, .unset] [(.int ((p2 &&& (255 : Int32)).toUInt32.toUInt16.toUInt32.toInt32))])) rfl (by rw [hml]; rfl) (argsL := [(.int ((p2 &&& (255 : Int32)).toUInt32.toUInt16.toUInt32.toInt32))]) (rest := []) (lenOf pd_5 rfl) rfl (by show 2 * 0 + _ ≤ _; exact Nat.le_of_eq rfl) (hb hby at_56) (fun _ _ => ⟨rfl, rfl, (by decide : 3 + 2 ≤ _), (by decide : 8 + 5 ≤ _)⟩)
    dsimp only [Pt.U, Pt.locs, Pt.cells, Pt.slots] at X95 l95 y95 z95 st95 hQ95
    subst l95 y95 z95
    obtain ⟨y95, rfl, Nq95, K95⟩ := hQ95
    have N95 := Fr.app N92 Nq95
    have ZS95 : n0 ≤ T95.heap.size := Nat.le_trans ZS92 K95.1
    have O95 := O92.keep K95 all0
    have go95 : Goes p e below s₁ (entryFrame m #[(.int p1), (.int p2), (.int p3), (.int p4)] maxLocals) T95 (mkF m 59 #[.val (.int p1), .val (.int p2), .val (.int p3), .val (.int p4), .val (.ref b82), .val (.ref b89), .unset, .unset, .unset, .unset, .unset, .unset, .unset] [(.ref y95)]) := fun t k => go94 t (st95 _ k)
    have go96 : Goes p e below s₁ (entryFrame m #[(.int p1), (.int p2), (.int p3), (.int p4)] maxLocals) T95 (mkF m 67 #[.val (.int p1), .val (.int p2), .val (.int p3), .val (.int p4), .val (.ref b82), .val (.ref b89), .val (.ref y95), .unset, .unset, .unset, .unset, .unset, .unset] [(.int ((p3 &&& (255 : Int32)).toUInt32.toUInt16.toUInt32.toInt32))]) := fun t k => go95 t (by
      show Steps p.tables e below (T95.setTop (mkF m 59 #[.val (.int p1), .val (.int p2), .val (.int p3), .val (.int p4), .val (.ref b82), .val (.ref b89), .unset, .unset, .unset, .unset, .unset, .unset, .unset] [(.ref y95)])) _
      refine XS.astore X95.here hx rfl (hb hby at_59) rfl rfl (l' := #[.val (.int p1), .val (.int p2), .val (.int p3), .val (.int p4), .val (.ref b82), .val (.ref b89), .val (.ref y95), .unset, .unset, .unset, .unset, .unset, .unset]) rfl ?_
      show Steps p.tables e below (T95.setTop (mkF m 61 #[.val (.int p1), .val (.int p2), .val (.int p3), .val (.int p4), .val (.ref b82), .val (.ref b89), .val (.ref y95), .unset, .unset, .unset, .unset, .unset, .unset] [])) _
      refine XS.iloadN X95.here hx rfl (hb hby at_61) rfl ?_
      show Steps p.tables e below (T95.setTop (mkF m 62 #[.val (.int p1), .val (.int p2), .val (.int p3), .val (.int p4), .val (.ref b82), .val (.ref b89), .val (.ref y95), .unset, .unset, .unset, .unset, .unset, .unset] [(.int p3)])) _
      refine XS.sipush X95.here hx rfl (hb hby at_62) ?_
      show Steps p.tables e below (T95.setTop (mkF m 65 #[.val (.int p1), .val (.int p2), .val (.int p3), .val (.int p4), .val (.ref b82), .val (.ref b89), .val (.ref y95), .unset, .unset, .unset, .unset, .unset, .unset] [(.int (255 : Int32)), (.int p3)])) _
      refine XS.iand X95.here hx rfl (hb hby at_65) rfl ?_
      show Steps p.tables e below (T95.setTop (mkF m 66 #[.val (.int p1), .val (.int p2), .val (.int p3), .val (.int p4), .val (.ref b82), .val (.ref b89), .val (.ref y95), .unset, .unset, .unset, .unset, .unset, .unset] [(.int (p3 &&& (255 : Int32)))])) _
      refine XS.i2c X95.here hx rfl (hb hby at_66) rfl ?_
      exact k)
    obtain ⟨_, _, ⟨T100, L100, k100, n100⟩, -, X100, ⟨Lc100, hQ100, l100, y100, z100⟩, st100⟩ := Jvm.LawKit.callS X95 hx (y := (⟨"java/lang/String", "valueOf", "(C)Ljava/lang/String;"⟩ : MethodName)) hown (mvT hZ (hw _ (List.mem_of_getElem? (i := 30) rfl))) (mvT hZ (hw _ (List.mem_of_getElem? (i := 31) rfl))) (mvT hZ (hw _ (List.mem_of_getElem? (i := 3) rfl))) (mvT hZ (hw _ (List.mem_of_getElem? (i := 32) rfl))) (by decide) (backOf (W := 0) (rm7 l Z a0 hw [] ((p3 &&& (255 : Int32)).toUInt32.toUInt16.toUInt32.toInt32) cz T95.heap n0 ZS95 (SC.ext O95.2) hz (own_255 _).2) hZ (hw _ (List.mem_of_getElem? (i := 32) rfl)) (hw _ (List.mem_of_getElem? (i := 3) rfl)) (by decide) (by decide)) (g := (mkF m 67 #[.val (.int p1), .val (.int p2), .val (.int p3), .val (.int p4), .val (.ref b82), .val (.ref b89), .val (.ref y95), .unset, .unset, .unset, .unset, .unset, .unset] [(.int ((p3 &&& (255 : Int32)).toUInt32.toUInt16.toUInt32.toInt32))])) rfl (by rw [hml]; rfl) (argsL := [(.int ((p3 &&& (255 : Int32)).toUInt32.toUInt16.toUInt32.toInt32))]) (rest := []) (lenOf pd_5 rfl) rfl (by show 2 * 0 + _ ≤ _; exact Nat.le_of_eq rfl) (hb hby at_67) (fun _ _ => ⟨rfl, rfl, (by decide : 5 + 2 ≤ _), (by decide : 13 + 5 ≤ _)⟩)
    dsimp only [Pt.U, Pt.locs, Pt.cells, Pt.slots] at X100 l100 y100 z100 st100 hQ100
    subst l100 y100 z100
    obtain ⟨y100, rfl, Nq100, K100⟩ := hQ100
    have N100 := Fr.app N95 Nq100
    have ZS100 : n0 ≤ T100.heap.size := Nat.le_trans ZS95 K100.1
    have O100 := O95.keep K100 all0
    have go100 : Goes p e below s₁ (entryFrame m #[(.int p1), (.int p2), (.int p3), (.int p4)] maxLocals) T100 (mkF m 70 #[.val (.int p1), .val (.int p2), .val (.int p3), .val (.int p4), .val (.ref b82), .val (.ref b89), .val (.ref y95), .unset, .unset, .unset, .unset, .unset, .unset] [(.ref y100)]) := fun t k => go96 t (st100 _ k)
    have go101 : Goes p e below s₁ (entryFrame m #[(.int p1), (.int p2), (.int p3), (.int p4)] maxLocals) T100 (mkF m 75 #[.val (.int p1), .val (.int p2), .val (.int p3), .val (.int p4), .val (.ref b82), .val (.ref b89), .val (.ref y95), .val (.ref y100), .unset, .unset, .unset, .unset, .unset] [(.int (p4 &&& (1 : Int32)))]) := fun t k => go100 t (by
      show Steps p.tables e below (T100.setTop (mkF m 70 #[.val (.int p1), .val (.int p2), .val (.int p3), .val (.int p4), .val (.ref b82), .val (.ref b89), .val (.ref y95), .unset, .unset, .unset, .unset, .unset, .unset] [(.ref y100)])) _
      refine XS.astore X100.here hx rfl (hb hby at_70) rfl rfl (l' := #[.val (.int p1), .val (.int p2), .val (.int p3), .val (.int p4), .val (.ref b82), .val (.ref b89), .val (.ref y95), .val (.ref y100), .unset, .unset, .unset, .unset, .unset]) rfl ?_
      show Steps p.tables e below (T100.setTop (mkF m 72 #[.val (.int p1), .val (.int p2), .val (.int p3), .val (.int p4), .val (.ref b82), .val (.ref b89), .val (.ref y95), .val (.ref y100), .unset, .unset, .unset, .unset, .unset] [])) _
      refine XS.iloadN X100.here hx rfl (hb hby at_72) rfl ?_
      show Steps p.tables e below (T100.setTop (mkF m 73 #[.val (.int p1), .val (.int p2), .val (.int p3), .val (.int p4), .val (.ref b82), .val (.ref b89), .val (.ref y95), .val (.ref y100), .unset, .unset, .unset, .unset, .unset] [(.int p4)])) _
      refine XS.iconst X100.here hx rfl (hb hby at_73) ?_
      show Steps p.tables e below (T100.setTop (mkF m 74 #[.val (.int p1), .val (.int p2), .val (.int p3), .val (.int p4), .val (.ref b82), .val (.ref b89), .val (.ref y95), .val (.ref y100), .unset, .unset, .unset, .unset, .unset] [(.int (1 : Int32)), (.int p4)])) _
      refine XS.iand X100.here hx rfl (hb hby at_74) rfl ?_
      exact k)
    by_cases hc75_102 : (p4 &&& (1 : Int32)) = (0 : Int32)
    · have go103 : Goes p e below s₁ (entryFrame m #[(.int p1), (.int p2), (.int p3), (.int p4)] maxLocals) T100 (mkF m 88 #[.val (.int p1), .val (.int p2), .val (.int p3), .val (.int p4), .val (.ref b82), .val (.ref b89), .val (.ref y95), .val (.ref y100), .val (.int (0 : Int32)), .unset, .unset, .unset, .unset] [(.int (p4 &&& (2 : Int32)))]) := fun t k => go101 t (by
        show Steps p.tables e below (T100.setTop (mkF m 75 #[.val (.int p1), .val (.int p2), .val (.int p3), .val (.int p4), .val (.ref b82), .val (.ref b89), .val (.ref y95), .val (.ref y100), .unset, .unset, .unset, .unset, .unset] [(.int (p4 &&& (1 : Int32)))])) _
        refine XS.ifYes X100.here hx rfl (pc0 := 75) (pc' := 82) rfl (hb hby at_75) rfl ((if0 _ _).trans (teq hc75_102).1) (by decide) (by decide) ?_
        show Steps p.tables e below (T100.setTop (mkF m 82 #[.val (.int p1), .val (.int p2), .val (.int p3), .val (.int p4), .val (.ref b82), .val (.ref b89), .val (.ref y95), .val (.ref y100), .unset, .unset, .unset, .unset, .unset] [])) _
        refine XS.iconst X100.here hx rfl (hb hby at_82) ?_
        show Steps p.tables e below (T100.setTop (mkF m 83 #[.val (.int p1), .val (.int p2), .val (.int p3), .val (.int p4), .val (.ref b82), .val (.ref b89), .val (.ref y95), .val (.ref y100), .unset, .unset, .unset, .unset, .unset] [(.int (0 : Int32))])) _
        refine XS.istore X100.here hx rfl (hb hby at_83) rfl (l' := #[.val (.int p1), .val (.int p2), .val (.int p3), .val (.int p4), .val (.ref b82), .val (.ref b89), .val (.ref y95), .val (.ref y100), .val (.int (0 : Int32)), .unset, .unset, .unset, .unset]) rfl ?_
        show Steps p.tables e below (T100.setTop (mkF m 85 #[.val (.int p1), .val (.int p2), .val (.int p3), .val (.int p4), .val (.ref b82), .val (.ref b89), .val (.ref y95), .val (.ref y100), .val (.int (0 : Int32)), .unset, .unset, .unset, .unset] [])) _
        refine XS.iloadN X100.here hx rfl (hb hby at_85) rfl ?_
        show Steps p.tables e below (T100.setTop (mkF m 86 #[.val (.int p1), .val (.int p2), .val (.int p3), .val (.int p4), .val (.ref b82), .val (.ref b89), .val (.ref y95), .val (.ref y100), .val (.int (0 : Int32)), .unset, .unset, .unset, .unset] [(.int p4)])) _
        refine XS.iconst X100.here hx rfl (hb hby at_86) ?_
        show Steps p.tables e below (T100.setTop (mkF m 87 #[.val (.int p1), .val (.int p2), .val (.int p3), .val (.int p4), .val (.ref b82), .val (.ref b89), .val (.ref y95), .val (.ref y100), .val (.int (0 : Int32)), .unset, .unset, .unset, .unset] [(.int (2 : Int32)), (.int p4)])) _
        refine XS.iand X100.here hx rfl (hb hby at_87) rfl ?_
        exact k)
      by_cases hc88_104 : (p4 &&& (2 : Int32)) = (0 : Int32)
      · have go105 : Goes p e below s₁ (entryFrame m #[(.int p1), (.int p2), (.int p3), (.int p4)] maxLocals) T100 (mkF m 105 #[.val (.int p1), .val (.int p2), .val (.int p3), .val (.int p4), .val (.ref b82), .val (.ref b89), .val (.ref y95), .val (.ref y100), .val (.int (0 : Int32)), .unset, .unset, .unset, .unset] [(.int (((((p3.toUInt32 >>> ((8 : Int32) &&& 31).toUInt32).toInt32) &&& (255 : Int32))).toUInt32.toUInt16.toUInt32.toInt32))]) := fun t k => go103 t (by
          show Steps p.tables e below (T100.setTop (mkF m 88 #[.val (.int p1), .val (.int p2), .val (.int p3), .val (.int p4), .val (.ref b82), .val (.ref b89), .val (.ref y95), .val (.ref y100), .val (.int (0 : Int32)), .unset, .unset, .unset, .unset] [(.int (p4 &&& (2 : Int32)))])) _
          refine XS.ifYes X100.here hx rfl (pc0 := 88) (pc' := 96) rfl (hb hby at_88) rfl ((if0 _ _).trans (teq hc88_104).1) (by decide) (by decide) ?_
          show Steps p.tables e below (T100.setTop (mkF m 96 #[.val (.int p1), .val (.int p2), .val (.int p3), .val (.int p4), .val (.ref b82), .val (.ref b89), .val (.ref y95), .val (.ref y100), .val (.int (0 : Int32)), .unset, .unset, .unset, .unset] [])) _
          refine XS.iloadN X100.here hx rfl (hb hby at_96) rfl ?_
          show Steps p.tables e below (T100.setTop (mkF m 97 #[.val (.int p1), .val (.int p2), .val (.int p3), .val (.int p4), .val (.ref b82), .val (.ref b89), .val (.ref y95), .val (.ref y100), .val (.int (0 : Int32)), .unset, .unset, .unset, .unset] [(.int p3)])) _
          refine XS.bipush X100.here hx rfl (hb hby at_97) ?_
          show Steps p.tables e below (T100.setTop (mkF m 99 #[.val (.int p1), .val (.int p2), .val (.int p3), .val (.int p4), .val (.ref b82), .val (.ref b89), .val (.ref y95), .val (.ref y100), .val (.int (0 : Int32)), .unset, .unset, .unset, .unset] [(.int (8 : Int32)), (.int p3)])) _
          refine XS.iushr X100.here hx rfl (hb hby at_99) rfl ?_
          show Steps p.tables e below (T100.setTop (mkF m 100 #[.val (.int p1), .val (.int p2), .val (.int p3), .val (.int p4), .val (.ref b82), .val (.ref b89), .val (.ref y95), .val (.ref y100), .val (.int (0 : Int32)), .unset, .unset, .unset, .unset] [(.int ((p3.toUInt32 >>> ((8 : Int32) &&& 31).toUInt32).toInt32))])) _
          refine XS.sipush X100.here hx rfl (hb hby at_100) ?_
          show Steps p.tables e below (T100.setTop (mkF m 103 #[.val (.int p1), .val (.int p2), .val (.int p3), .val (.int p4), .val (.ref b82), .val (.ref b89), .val (.ref y95), .val (.ref y100), .val (.int (0 : Int32)), .unset, .unset, .unset, .unset] [(.int (255 : Int32)), (.int ((p3.toUInt32 >>> ((8 : Int32) &&& 31).toUInt32).toInt32))])) _
          refine XS.iand X100.here hx rfl (hb hby at_103) rfl ?_
          show Steps p.tables e below (T100.setTop (mkF m 104 #[.val (.int p1), .val (.int p2), .val (.int p3), .val (.int p4), .val (.ref b82), .val (.ref b89), .val (.ref y95), .val (.ref y100), .val (.int (0 : Int32)), .unset, .unset, .unset, .unset] [(.int (((p3.toUInt32 >>> ((8 : Int32) &&& 31).toUInt32).toInt32) &&& (255 : Int32)))])) _
          refine XS.i2c X100.here hx rfl (hb hby at_104) rfl ?_
          exact k)
        obtain ⟨_, _, ⟨T106, L106, k106, n106⟩, -, X106, ⟨Lc106, hQ106, l106, y106, z106⟩, st106⟩ := Jvm.LawKit.callS X100 hx (y := (⟨"java/lang/String", "valueOf", "(C)Ljava/lang/String;"⟩ : MethodName)) hown (mvT hZ (hw _ (List.mem_of_getElem? (i := 30) rfl))) (mvT hZ (hw _ (List.mem_of_getElem? (i := 31) rfl))) (mvT hZ (hw _ (List.mem_of_getElem? (i := 3) rfl))) (mvT hZ (hw _ (List.mem_of_getElem? (i := 32) rfl))) (by decide) (backOf (W := 0) (rm7 l Z a0 hw [] (((((p3.toUInt32 >>> ((8 : Int32) &&& 31).toUInt32).toInt32) &&& (255 : Int32))).toUInt32.toUInt16.toUInt32.toInt32) cz T100.heap n0 ZS100 (SC.ext O100.2) hz (own_255 _).2) hZ (hw _ (List.mem_of_getElem? (i := 32) rfl)) (hw _ (List.mem_of_getElem? (i := 3) rfl)) (by decide) (by decide)) (g := (mkF m 105 #[.val (.int p1), .val (.int p2), .val (.int p3), .val (.int p4), .val (.ref b82), .val (.ref b89), .val (.ref y95), .val (.ref y100), .val (.int (0 : Int32)), .unset, .unset, .unset, .unset] [(.int (((((p3.toUInt32 >>> ((8 : Int32) &&& 31).toUInt32).toInt32) &&& (255 : Int32))).toUInt32.toUInt16.toUInt32.toInt32))])) rfl (by rw [hml]; rfl) (argsL := [(.int (((((p3.toUInt32 >>> ((8 : Int32) &&& 31).toUInt32).toInt32) &&& (255 : Int32))).toUInt32.toUInt16.toUInt32.toInt32))]) (rest := []) (lenOf pd_5 rfl) rfl (by show 2 * 0 + _ ≤ _; exact Nat.le_of_eq rfl) (hb hby at_105) (fun _ _ => ⟨rfl, rfl, (by decide : 7 + 2 ≤ _), (by decide : 18 + 5 ≤ _)⟩)
        dsimp only [Pt.U, Pt.locs, Pt.cells, Pt.slots] at X106 l106 y106 z106 st106 hQ106
        subst l106 y106 z106
        obtain ⟨y106, rfl, Nq106, K106⟩ := hQ106
        have N106 := Fr.app N100 Nq106
        have ZS106 : n0 ≤ T106.heap.size := Nat.le_trans ZS100 K106.1
        have O106 := O100.keep K106 all0
        have go106 : Goes p e below s₁ (entryFrame m #[(.int p1), (.int p2), (.int p3), (.int p4)] maxLocals) T106 (mkF m 108 #[.val (.int p1), .val (.int p2), .val (.int p3), .val (.int p4), .val (.ref b82), .val (.ref b89), .val (.ref y95), .val (.ref y100), .val (.int (0 : Int32)), .unset, .unset, .unset, .unset] [(.ref y106)]) := fun t k => go105 t (st106 _ k)
        have go107 : Goes p e below s₁ (entryFrame m #[(.int p1), (.int p2), (.int p3), (.int p4)] maxLocals) T106 (mkF m 112 #[.val (.int p1), .val (.int p2), .val (.int p3), .val (.int p4), .val (.ref b82), .val (.ref b89), .val (.ref y95), .val (.ref y100), .val (.int (0 : Int32)), .val (.ref y106), .unset, .unset, .unset] [(.int (0 : Int32))]) := fun t k => go106 t (by
          show Steps p.tables e below (T106.setTop (mkF m 108 #[.val (.int p1), .val (.int p2), .val (.int p3), .val (.int p4), .val (.ref b82), .val (.ref b89), .val (.ref y95), .val (.ref y100), .val (.int (0 : Int32)), .unset, .unset, .unset, .unset] [(.ref y106)])) _
          refine XS.astore X106.here hx rfl (hb hby at_108) rfl rfl (l' := #[.val (.int p1), .val (.int p2), .val (.int p3), .val (.int p4), .val (.ref b82), .val (.ref b89), .val (.ref y95), .val (.ref y100), .val (.int (0 : Int32)), .val (.ref y106), .unset, .unset, .unset]) rfl ?_
          show Steps p.tables e below (T106.setTop (mkF m 110 #[.val (.int p1), .val (.int p2), .val (.int p3), .val (.int p4), .val (.ref b82), .val (.ref b89), .val (.ref y95), .val (.ref y100), .val (.int (0 : Int32)), .val (.ref y106), .unset, .unset, .unset] [])) _
          refine XS.iload X106.here hx rfl (hb hby at_110) rfl ?_
          exact k)
        have go109 : Goes p e below s₁ (entryFrame m #[(.int p1), (.int p2), (.int p3), (.int p4)] maxLocals) T106 (mkF m 132 #[.val (.int p1), .val (.int p2), .val (.int p3), .val (.int p4), .val (.ref b82), .val (.ref b89), .val (.ref y95), .val (.ref y100), .val (.int (0 : Int32)), .val (.ref y106), .val .null, .unset, .unset] []) := fun t k => go107 t (by
          show Steps p.tables e below (T106.setTop (mkF m 112 #[.val (.int p1), .val (.int p2), .val (.int p3), .val (.int p4), .val (.ref b82), .val (.ref b89), .val (.ref y95), .val (.ref y100), .val (.int (0 : Int32)), .val (.ref y106), .unset, .unset, .unset] [(.int (0 : Int32))])) _
          refine XS.ifYes X106.here hx rfl (pc0 := 112) (pc' := 129) rfl (hb hby at_112) rfl ((if0 _ _).trans (teq (by decide)).1) (by decide) (by decide) ?_
          show Steps p.tables e below (T106.setTop (mkF m 129 #[.val (.int p1), .val (.int p2), .val (.int p3), .val (.int p4), .val (.ref b82), .val (.ref b89), .val (.ref y95), .val (.ref y100), .val (.int (0 : Int32)), .val (.ref y106), .unset, .unset, .unset] [])) _
          refine XS.aconstNull X106.here hx rfl (hb hby at_129) ?_
          show Steps p.tables e below (T106.setTop (mkF m 130 #[.val (.int p1), .val (.int p2), .val (.int p3), .val (.int p4), .val (.ref b82), .val (.ref b89), .val (.ref y95), .val (.ref y100), .val (.int (0 : Int32)), .val (.ref y106), .unset, .unset, .unset] [.null])) _
          refine XS.astore X106.here hx rfl (hb hby at_130) rfl rfl (l' := #[.val (.int p1), .val (.int p2), .val (.int p3), .val (.int p4), .val (.ref b82), .val (.ref b89), .val (.ref y95), .val (.ref y100), .val (.int (0 : Int32)), .val (.ref y106), .val .null, .unset, .unset]) rfl ?_
          exact k)
        obtain ⟨T110, h110, X110, e110, E110, A110, D110, -, st110⟩ := newO X106 hx hZ hown (hw _ (List.mem_of_getElem? (i := 60) rfl)) (hw _ (List.mem_of_getElem? (i := 61) rfl)) (hw _ (List.mem_of_getElem? (i := 62) rfl)) rfl (g := (mkF m 132 #[.val (.int p1), .val (.int p2), .val (.int p3), .val (.int p4), .val (.ref b82), .val (.ref b89), .val (.ref y95), .val (.ref y100), .val (.int (0 : Int32)), .val (.ref y106), .val .null, .unset, .unset] [])) rfl (hb hby at_132) (by decide) (by decide)
        obtain ⟨b110, g110⟩ : ∃ z, z = T106.heap.size := ⟨_, rfl⟩
        rw [← g110] at A110 D110 st110
        have g_b110 : n0 ≤ b110 := Nat.le_trans ZS106 (Nat.le_of_eq g110.symm)
        have O110 := O106.ext E110
        have ZS110 : n0 ≤ h110.size := Nat.le_trans ZS106 E110.1
        have F110_id : Fld Z h110 b110 "com/example/rightful_keys/rightfulkeys/store/Role" "id" "Ljava/lang/String;" .null := D110 (Or.inr (hw _ (List.mem_of_getElem? (i := 68) rfl))) (ty := (.object "java/lang/String")) (by decide)
        have F110_name : Fld Z h110 b110 "com/example/rightful_keys/rightfulkeys/store/Role" "name" "Ljava/lang/String;" .null := D110 (Or.inr (hw _ (List.mem_of_getElem? (i := 70) rfl))) (ty := (.object "java/lang/String")) (by decide)
        have F110_account : Fld Z h110 b110 "com/example/rightful_keys/rightfulkeys/store/Role" "account" "Lcom/example/rightful_keys/rightfulkeys/store/Account;" .null := D110 (Or.inr (hw _ (List.mem_of_getElem? (i := 72) rfl))) (ty := (.object "com/example/rightful_keys/rightfulkeys/store/Account")) (by decide)
        have F110_description : Fld Z h110 b110 "com/example/rightful_keys/rightfulkeys/store/Role" "description" "Ljava/lang/String;" .null := D110 (Or.inr (hw _ (List.mem_of_getElem? (i := 74) rfl))) (ty := (.object "java/lang/String")) (by decide)
        have F110_policy : Fld Z h110 b110 "com/example/rightful_keys/rightfulkeys/store/Role" "policy" "Ljava/util/Optional;" .null := D110 (Or.inr (hw _ (List.mem_of_getElem? (i := 76) rfl))) (ty := (.object "java/util/Optional")) (by decide)
        have ne111 : b89 ≠ b110 := Nat.ne_of_lt (Nat.lt_of_lt_of_le ((((A89.keep K92).keep K95).keep K100).keep K106).lt (Nat.le_of_eq g110.symm))
        have go110 : Goes p e below s₁ (entryFrame m #[(.int p1), (.int p2), (.int p3), (.int p4)] maxLocals) T110 (mkF m 135 #[.val (.int p1), .val (.int p2), .val (.int p3), .val (.int p4), .val (.ref b82), .val (.ref b89), .val (.ref y95), .val (.ref y100), .val (.int (0 : Int32)), .val (.ref y106), .val .null, .unset, .unset] [(.ref b110)]) := fun t k => go109 t (st110 _ k)
        have go112 : Goes p e below s₁ (entryFrame m #[(.int p1), (.int p2), (.int p3), (.int p4)] maxLocals) T110 (mkF m 145 #[.val (.int p1), .val (.int p2), .val (.int p3), .val (.int p4), .val (.ref b82), .val (.ref b89), .val (.ref y95), .val (.ref y100), .val (.int (0 : Int32)), .val (.ref y106), .val .null, .unset, .unset] [.null, (.ref y100), .null, (.ref y95), (.ref b89), (.ref b110), (.ref b110)]) := fun t k => go110 t (by
          show Steps p.tables e below (T110.setTop (mkF m 135 #[.val (.int p1), .val (.int p2), .val (.int p3), .val (.int p4), .val (.ref b82), .val (.ref b89), .val (.ref y95), .val (.ref y100), .val (.int (0 : Int32)), .val (.ref y106), .val .null, .unset, .unset] [(.ref b110)])) _
          refine XS.dup X110.here hx rfl (hb hby at_135) rfl rfl ?_
          show Steps p.tables e below (T110.setTop (mkF m 136 #[.val (.int p1), .val (.int p2), .val (.int p3), .val (.int p4), .val (.ref b82), .val (.ref b89), .val (.ref y95), .val (.ref y100), .val (.int (0 : Int32)), .val (.ref y106), .val .null, .unset, .unset] [(.ref b110), (.ref b110)])) _
          refine XS.aload X110.here hx rfl (hb hby at_136) rfl rfl ?_
          show Steps p.tables e below (T110.setTop (mkF m 138 #[.val (.int p1), .val (.int p2), .val (.int p3), .val (.int p4), .val (.ref b82), .val (.ref b89), .val (.ref y95), .val (.ref y100), .val (.int (0 : Int32)), .val (.ref y106), .val .null, .unset, .unset] [(.ref b89), (.ref b110), (.ref b110)])) _
          refine XS.aload X110.here hx rfl (hb hby at_138) rfl rfl ?_
          show Steps p.tables e below (T110.setTop (mkF m 140 #[.val (.int p1), .val (.int p2), .val (.int p3), .val (.int p4), .val (.ref b82), .val (.ref b89), .val (.ref y95), .val (.ref y100), .val (.int (0 : Int32)), .val (.ref y106), .val .null, .unset, .unset] [(.ref y95), (.ref b89), (.ref b110), (.ref b110)])) _
          refine XS.aload X110.here hx rfl (hb hby at_140) rfl rfl ?_
          show Steps p.tables e below (T110.setTop (mkF m 142 #[.val (.int p1), .val (.int p2), .val (.int p3), .val (.int p4), .val (.ref b82), .val (.ref b89), .val (.ref y95), .val (.ref y100), .val (.int (0 : Int32)), .val (.ref y106), .val .null, .unset, .unset] [.null, (.ref y95), (.ref b89), (.ref b110), (.ref b110)])) _
          refine XS.aload X110.here hx rfl (hb hby at_142) rfl rfl ?_
          show Steps p.tables e below (T110.setTop (mkF m 144 #[.val (.int p1), .val (.int p2), .val (.int p3), .val (.int p4), .val (.ref b82), .val (.ref b89), .val (.ref y95), .val (.ref y100), .val (.int (0 : Int32)), .val (.ref y106), .val .null, .unset, .unset] [(.ref y100), .null, (.ref y95), (.ref b89), (.ref b110), (.ref b110)])) _
          refine XS.aconstNull X110.here hx rfl (hb hby at_144) ?_
          exact k)
        obtain ⟨_, _, ⟨T113, L113, k113, n113⟩, -, X113, ⟨Lc113, hQ113, l113, y113, z113⟩, st113⟩ := X110.specialBack hx (y := (⟨"com/example/rightful_keys/rightfulkeys/store/Role", "<init>", "(Ljava/lang/String;Ljava/lang/String;Lcom/example/rightful_keys/rightfulkeys/store/Account;Ljava/lang/String;Ljava/util/Optional;)V"⟩ : MethodName)) rfl hown (mvT hZ (hw _ (List.mem_of_getElem? (i := 63) rfl))) (mvT hZ (hw _ (List.mem_of_getElem? (i := 64) rfl))) (mvT hZ (hw _ (List.mem_of_getElem? (i := 65) rfl))) (by decide) (backOf (W := 1) (rm13n l Z a0 hw [] b110 b89 y95  y100   h110 n0 ZS110 g_b110 A110 F110_id F110_name F110_account F110_description F110_policy) hZ (hw _ (List.mem_of_getElem? (i := 65) rfl)) (hw _ (List.mem_of_getElem? (i := 62) rfl)) (by decide) (by decide)) (g := (mkF m 145 #[.val (.int p1), .val (.int p2), .val (.int p3), .val (.int p4), .val (.ref b82), .val (.ref b89), .val (.ref y95), .val (.ref y100), .val (.int (0 : Int32)), .val (.ref y106), .val .null, .unset, .unset] [.null, (.ref y100), .null, (.ref y95), (.ref b89), (.ref b110), (.ref b110)])) rfl (by rw [hml]; rfl) (Steps.refl _) (a := b110) (argsL := [(.ref b89), (.ref y95), .null, (.ref y100), .null]) (rest := [(.ref b110)]) (lenOf pd_6 rfl) rfl (by show 2 * 0 + _ ≤ _; exact Nat.le_of_eq rfl) (hb hby at_145) (fun _ _ => ⟨rfl, e110, (by decide : 10 + 0 ≤ _), (by decide : 28 + 0 ≤ _)⟩)
        dsimp only [Pt.U, Pt.locs, Pt.cells, Pt.slots] at X113 l113 y113 z113 st113 hQ113
        subst l113 y113 z113
        obtain ⟨rfl, Nq113, K113, A113, F113⟩ := hQ113
        have N113 := Fr.app N106 Nq113
        have ZS113 : n0 ≤ T113.heap.size := Nat.le_trans ZS110 K113.1
        have O113 := O110.keep K113 (allS g_b110 all0)
        have go113 : Goes p e below s₁ (entryFrame m #[(.int p1), (.int p2), (.int p3), (.int p4)] maxLocals) T113 (mkF m 148 #[.val (.int p1), .val (.int p2), .val (.int p3), .val (.int p4), .val (.ref b82), .val (.ref b89), .val (.ref y95), .val (.ref y100), .val (.int (0 : Int32)), .val (.ref y106), .val .null, .unset, .unset] [(.ref b110)]) := fun t k => go112 t (st113.trans k)
        have go114 : Goes p e below s₁ (entryFrame m #[(.int p1), (.int p2), (.int p3), (.int p4)] maxLocals) T113 (mkF m 152 #[.val (.int p1), .val (.int p2), .val (.int p3), .val (.int p4), .val (.ref b82), .val (.ref b89), .val (.ref y95), .val (.ref y100), .val (.int (0 : Int32)), .val (.ref y106), .val .null, .val (.ref b110), .unset] [(.ref b110)]) := fun t k => go113 t (by
          show Steps p.tables e below (T113.setTop (mkF m 148 #[.val (.int p1), .val (.int p2), .val (.int p3), .val (.int p4), .val (.ref b82), .val (.ref b89), .val (.ref y95), .val (.ref y100), .val (.int (0 : Int32)), .val (.ref y106), .val .null, .unset, .unset] [(.ref b110)])) _
          refine XS.astore X113.here hx rfl (hb hby at_148) rfl rfl (l' := #[.val (.int p1), .val (.int p2), .val (.int p3), .val (.int p4), .val (.ref b82), .val (.ref b89), .val (.ref y95), .val (.ref y100), .val (.int (0 : Int32)), .val (.ref y106), .val .null, .val (.ref b110), .unset]) rfl ?_
          show Steps p.tables e below (T113.setTop (mkF m 150 #[.val (.int p1), .val (.int p2), .val (.int p3), .val (.int p4), .val (.ref b82), .val (.ref b89), .val (.ref y95), .val (.ref y100), .val (.int (0 : Int32)), .val (.ref y106), .val .null, .val (.ref b110), .unset] [])) _
          refine XS.aload X113.here hx rfl (hb hby at_150) rfl rfl ?_
          exact k)
        obtain ⟨cq115, kq115, q115a, q115b, q115c⟩ := isOf hZ rfl A113
        obtain ⟨_, _, ⟨T115, L115, k115, n115⟩, -, X115, ⟨Lc115, hQ115, l115, y115, z115⟩, st115⟩ := X113.virtualBack hx (y := (⟨"com/example/rightful_keys/rightfulkeys/store/Role", "isSystem", "()Z"⟩ : MethodName)) (z := (⟨"com/example/rightful_keys/rightfulkeys/store/Role", "isSystem", "()Z"⟩ : MethodName)) hown (mvT hZ (hw _ (List.mem_of_getElem? (i := 77) rfl))) (mvT hZ (hw _ (List.mem_of_getElem? (i := 78) rfl))) (notFace_of_selects (args := #[]) (mvT hZ (hw _ (List.mem_of_getElem? (i := 80) rfl)))) (mvT hZ (hw _ (List.mem_of_getElem? (i := 80) rfl))) (mvT hZ (hw _ (List.mem_of_getElem? (i := 79) rfl))) (by decide) (backOf (W := 0) (rm14n l Z a0 hw [] b110  T113.heap n0 ZS113 F113) hZ (hw _ (List.mem_of_getElem? (i := 81) rfl)) (hw _ (List.mem_of_getElem? (i := 62) rfl)) (by decide) (by decide)) q115a q115c (g := (mkF m 152 #[.val (.int p1), .val (.int p2), .val (.int p3), .val (.int p4), .val (.ref b82), .val (.ref b89), .val (.ref y95), .val (.ref y100), .val (.int (0 : Int32)), .val (.ref y106), .val .null, .val (.ref b110), .unset] [(.ref b110)])) rfl (by rw [hml]; rfl) (Steps.refl _) (argsL := []) (rest := []) (lenOf pd_7 rfl) rfl (by show 2 * 0 + _ ≤ _; exact Nat.le_of_eq rfl) (hb hby at_152) (fun _ _ => ⟨rfl, rfl, (by decide : 10 + 0 ≤ _), (by decide : 28 + 0 ≤ _)⟩)
        dsimp only [Pt.U, Pt.locs, Pt.cells, Pt.slots] at X115 l115 y115 z115 st115 hQ115
        subst l115 y115 z115
        obtain ⟨rfl, Nq115, eq115⟩ := hQ115
        have N115 := Fr.app N113 Nq115
        have go115 : Goes p e below s₁ (entryFrame m #[(.int p1), (.int p2), (.int p3), (.int p4)] maxLocals) T115 (mkF m 155 #[.val (.int p1), .val (.int p2), .val (.int p3), .val (.int p4), .val (.ref b82), .val (.ref b89), .val (.ref y95), .val (.ref y100), .val (.int (0 : Int32)), .val (.ref y106), .val .null, .val (.ref b110), .unset] [(.int (1 : Int32))]) := fun t k => go114 t (st115.trans k)
        have go116 : Goes p e below s₁ (entryFrame m #[(.int p1), (.int p2), (.int p3), (.int p4)] maxLocals) T115 (mkF m 161 #[.val (.int p1), .val (.int p2), .val (.int p3), .val (.int p4), .val (.ref b82), .val (.ref b89), .val (.ref y95), .val (.ref y100), .val (.int (0 : Int32)), .val (.ref y106), .val .null, .val (.ref b110), .val (.int (1 : Int32))] [(.int (0 : Int32)), (.int (1 : Int32))]) := fun t k => go115 t (by
          show Steps p.tables e below (T115.setTop (mkF m 155 #[.val (.int p1), .val (.int p2), .val (.int p3), .val (.int p4), .val (.ref b82), .val (.ref b89), .val (.ref y95), .val (.ref y100), .val (.int (0 : Int32)), .val (.ref y106), .val .null, .val (.ref b110), .unset] [(.int (1 : Int32))])) _
          refine XS.istore X115.here hx rfl (hb hby at_155) rfl (l' := #[.val (.int p1), .val (.int p2), .val (.int p3), .val (.int p4), .val (.ref b82), .val (.ref b89), .val (.ref y95), .val (.ref y100), .val (.int (0 : Int32)), .val (.ref y106), .val .null, .val (.ref b110), .val (.int (1 : Int32))]) rfl ?_
          show Steps p.tables e below (T115.setTop (mkF m 157 #[.val (.int p1), .val (.int p2), .val (.int p3), .val (.int p4), .val (.ref b82), .val (.ref b89), .val (.ref y95), .val (.ref y100), .val (.int (0 : Int32)), .val (.ref y106), .val .null, .val (.ref b110), .val (.int (1 : Int32))] [])) _
          refine XS.iload X115.here hx rfl (hb hby at_157) rfl ?_
          show Steps p.tables e below (T115.setTop (mkF m 159 #[.val (.int p1), .val (.int p2), .val (.int p3), .val (.int p4), .val (.ref b82), .val (.ref b89), .val (.ref y95), .val (.ref y100), .val (.int (0 : Int32)), .val (.ref y106), .val .null, .val (.ref b110), .val (.int (1 : Int32))] [(.int (1 : Int32))])) _
          refine XS.iload X115.here hx rfl (hb hby at_159) rfl ?_
          exact k)
        have go117 : Goes p e below s₁ (entryFrame m #[(.int p1), (.int p2), (.int p3), (.int p4)] maxLocals) T115 (mkF m 169 #[.val (.int p1), .val (.int p2), .val (.int p3), .val (.int p4), .val (.ref b82), .val (.ref b89), .val (.ref y95), .val (.ref y100), .val (.int (0 : Int32)), .val (.ref y106), .val .null, .val (.ref b110), .val (.int (1 : Int32))] [(.int (1 : Int32)), (.int (1 : Int32))]) := fun t k => go116 t (by
          show Steps p.tables e below (T115.setTop (mkF m 161 #[.val (.int p1), .val (.int p2), .val (.int p3), .val (.int p4), .val (.ref b82), .val (.ref b89), .val (.ref y95), .val (.ref y100), .val (.int (0 : Int32)), .val (.ref y106), .val .null, .val (.ref b110), .val (.int (1 : Int32))] [(.int (0 : Int32)), (.int (1 : Int32))])) _
          refine XS.ifNo X115.here hx rfl (hb hby at_161) rfl ((if0 _ _).trans (teq (by decide)).2) ?_
          show Steps p.tables e below (T115.setTop (mkF m 164 #[.val (.int p1), .val (.int p2), .val (.int p3), .val (.int p4), .val (.ref b82), .val (.ref b89), .val (.ref y95), .val (.ref y100), .val (.int (0 : Int32)), .val (.ref y106), .val .null, .val (.ref b110), .val (.int (1 : Int32))] [(.int (1 : Int32))])) _
          refine XS.iconst X115.here hx rfl (hb hby at_164) ?_
          show Steps p.tables e below (T115.setTop (mkF m 165 #[.val (.int p1), .val (.int p2), .val (.int p3), .val (.int p4), .val (.ref b82), .val (.ref b89), .val (.ref y95), .val (.ref y100), .val (.int (0 : Int32)), .val (.ref y106), .val .null, .val (.ref b110), .val (.int (1 : Int32))] [(.int (1 : Int32)), (.int (1 : Int32))])) _
          refine XS.goto X115.here hx rfl (pc0 := 165) (pc' := 169) rfl (hb hby at_165) (by decide) (by decide) ?_
          exact k)
        have go118 : Goes p e below s₁ (entryFrame m #[(.int p1), (.int p2), (.int p3), (.int p4)] maxLocals) T115 (mkF m 176 #[.val (.int p1), .val (.int p2), .val (.int p3), .val (.int p4), .val (.ref b82), .val (.ref b89), .val (.ref y95), .val (.ref y100), .val (.int (0 : Int32)), .val (.ref y106), .val .null, .val (.ref b110), .val (.int (1 : Int32))] [(.ref b110), (.int (1 : Int32))]) := fun t k => go117 t (by
          show Steps p.tables e below (T115.setTop (mkF m 169 #[.val (.int p1), .val (.int p2), .val (.int p3), .val (.int p4), .val (.ref b82), .val (.ref b89), .val (.ref y95), .val (.ref y100), .val (.int (0 : Int32)), .val (.ref y106), .val .null, .val (.ref b110), .val (.int (1 : Int32))] [(.int (1 : Int32)), (.int (1 : Int32))])) _
          refine XS.icmpNo X115.here hx rfl (hb hby at_169) rfl (teq rfl).2 ?_
          show Steps p.tables e below (T115.setTop (mkF m 172 #[.val (.int p1), .val (.int p2), .val (.int p3), .val (.int p4), .val (.ref b82), .val (.ref b89), .val (.ref y95), .val (.ref y100), .val (.int (0 : Int32)), .val (.ref y106), .val .null, .val (.ref b110), .val (.int (1 : Int32))] [])) _
          refine XS.iload X115.here hx rfl (hb hby at_172) rfl ?_
          show Steps p.tables e below (T115.setTop (mkF m 174 #[.val (.int p1), .val (.int p2), .val (.int p3), .val (.int p4), .val (.ref b82), .val (.ref b89), .val (.ref y95), .val (.ref y100), .val (.int (0 : Int32)), .val (.ref y106), .val .null, .val (.ref b110), .val (.int (1 : Int32))] [(.int (1 : Int32))])) _
          refine XS.aload X115.here hx rfl (hb hby at_174) rfl rfl ?_
          exact k)
        obtain ⟨cq119, kq119, q119a, q119b, q119c⟩ := isOf hZ eq115 A113
        obtain ⟨_, _, ⟨T119, L119, k119, n119⟩, -, X119, ⟨Lc119, hQ119, l119, y119, z119⟩, st119⟩ := X115.virtualBack hx (y := (⟨"com/example/rightful_keys/rightfulkeys/store/Role", "account", "()Lcom/example/rightful_keys/rightfulkeys/store/Account;"⟩ : MethodName)) (z := (⟨"com/example/rightful_keys/rightfulkeys/store/Role", "account", "()Lcom/example/rightful_keys/rightfulkeys/store/Account;"⟩ : MethodName)) hown (mvT hZ (hw _ (List.mem_of_getElem? (i := 82) rfl))) (mvT hZ (hw _ (List.mem_of_getElem? (i := 83) rfl))) (notFace_of_selects (args := #[]) (mvT hZ (hw _ (List.mem_of_getElem? (i := 85) rfl)))) (mvT hZ (hw _ (List.mem_of_getElem? (i := 85) rfl))) (mvT hZ (hw _ (List.mem_of_getElem? (i := 84) rfl))) (by decide) (backOf (W := 1) (rm15n l Z a0 hw [] b110  T113.heap n0 ZS113 F113) hZ (hw _ (List.mem_of_getElem? (i := 86) rfl)) (hw _ (List.mem_of_getElem? (i := 62) rfl)) (by decide) (by decide)) q119a q119c (g := (mkF m 176 #[.val (.int p1), .val (.int p2), .val (.int p3), .val (.int p4), .val (.ref b82), .val (.ref b89), .val (.ref y95), .val (.ref y100), .val (.int (0 : Int32)), .val (.ref y106), .val .null, .val (.ref b110), .val (.int (1 : Int32))] [(.ref b110), (.int (1 : Int32))])) rfl (by rw [hml]; rfl) (Steps.refl _) (argsL := []) (rest := [(.int (1 : Int32))]) (lenOf pd_8 rfl) rfl (by show 2 * 0 + _ ≤ _; exact Nat.le_of_eq rfl) (hb hby at_176) (fun _ _ => ⟨rfl, eq115, (by decide : 10 + 0 ≤ _), (by decide : 28 + 0 ≤ _)⟩)
        dsimp only [Pt.U, Pt.locs, Pt.cells, Pt.slots] at X119 l119 y119 z119 st119 hQ119
        subst l119 y119 z119
        obtain ⟨rfl, Nq119, eq119⟩ := hQ119
        have N119 := Fr.app N115 Nq119
        have go119 : Goes p e below s₁ (entryFrame m #[(.int p1), (.int p2), (.int p3), (.int p4)] maxLocals) T119 (mkF m 179 #[.val (.int p1), .val (.int p2), .val (.int p3), .val (.int p4), .val (.ref b82), .val (.ref b89), .val (.ref y95), .val (.ref y100), .val (.int (0 : Int32)), .val (.ref y106), .val .null, .val (.ref b110), .val (.int (1 : Int32))] [.null, (.int (1 : Int32))]) := fun t k => go118 t (st119.trans k)
        have go120 : Goes p e below s₁ (entryFrame m #[(.int p1), (.int p2), (.int p3), (.int p4)] maxLocals) T119 (mkF m 187 #[.val (.int p1), .val (.int p2), .val (.int p3), .val (.int p4), .val (.ref b82), .val (.ref b89), .val (.ref y95), .val (.ref y100), .val (.int (0 : Int32)), .val (.ref y106), .val .null, .val (.ref b110), .val (.int (1 : Int32))] [(.int (1 : Int32)), (.int (1 : Int32))]) := fun t k => go119 t (by
          show Steps p.tables e below (T119.setTop (mkF m 179 #[.val (.int p1), .val (.int p2), .val (.int p3), .val (.int p4), .val (.ref b82), .val (.ref b89), .val (.ref y95), .val (.ref y100), .val (.int (0 : Int32)), .val (.ref y106), .val .null, .val (.ref b110), .val (.int (1 : Int32))] [.null, (.int (1 : Int32))])) _
          refine XS.ifnonnullNo X119.here hx rfl (hb hby at_179) rfl ?_
          show Steps p.tables e below (T119.setTop (mkF m 182 #[.val (.int p1), .val (.int p2), .val (.int p3), .val (.int p4), .val (.ref b82), .val (.ref b89), .val (.ref y95), .val (.ref y100), .val (.int (0 : Int32)), .val (.ref y106), .val .null, .val (.ref b110), .val (.int (1 : Int32))] [(.int (1 : Int32))])) _
          refine XS.iconst X119.here hx rfl (hb hby at_182) ?_
          show Steps p.tables e below (T119.setTop (mkF m 183 #[.val (.int p1), .val (.int p2), .val (.int p3), .val (.int p4), .val (.ref b82), .val (.ref b89), .val (.ref y95), .val (.ref y100), .val (.int (0 : Int32)), .val (.ref y106), .val .null, .val (.ref b110), .val (.int (1 : Int32))] [(.int (1 : Int32)), (.int (1 : Int32))])) _
          refine XS.goto X119.here hx rfl (pc0 := 183) (pc' := 187) rfl (hb hby at_183) (by decide) (by decide) ?_
          exact k)
        have go121 : Goes p e below s₁ (entryFrame m #[(.int p1), (.int p2), (.int p3), (.int p4)] maxLocals) T119 (mkF m 195 #[.val (.int p1), .val (.int p2), .val (.int p3), .val (.int p4), .val (.ref b82), .val (.ref b89), .val (.ref y95), .val (.ref y100), .val (.int (0 : Int32)), .val (.ref y106), .val .null, .val (.ref b110), .val (.int (1 : Int32))] [(.int (1 : Int32))]) := fun t k => go120 t (by
          show Steps p.tables e below (T119.setTop (mkF m 187 #[.val (.int p1), .val (.int p2), .val (.int p3), .val (.int p4), .val (.ref b82), .val (.ref b89), .val (.ref y95), .val (.ref y100), .val (.int (0 : Int32)), .val (.ref y106), .val .null, .val (.ref b110), .val (.int (1 : Int32))] [(.int (1 : Int32)), (.int (1 : Int32))])) _
          refine XS.icmpNo X119.here hx rfl (hb hby at_187) rfl (teq rfl).2 ?_
          show Steps p.tables e below (T119.setTop (mkF m 190 #[.val (.int p1), .val (.int p2), .val (.int p3), .val (.int p4), .val (.ref b82), .val (.ref b89), .val (.ref y95), .val (.ref y100), .val (.int (0 : Int32)), .val (.ref y106), .val .null, .val (.ref b110), .val (.int (1 : Int32))] [])) _
          refine XS.iconst X119.here hx rfl (hb hby at_190) ?_
          show Steps p.tables e below (T119.setTop (mkF m 191 #[.val (.int p1), .val (.int p2), .val (.int p3), .val (.int p4), .val (.ref b82), .val (.ref b89), .val (.ref y95), .val (.ref y100), .val (.int (0 : Int32)), .val (.ref y106), .val .null, .val (.ref b110), .val (.int (1 : Int32))] [(.int (1 : Int32))])) _
          refine XS.goto X119.here hx rfl (pc0 := 191) (pc' := 195) rfl (hb hby at_191) (by decide) (by decide) ?_
          exact k)
        obtain ⟨fs, hr, hrun, hended, hW, hsame⟩ := X119.leave (v := some (.int (1 : Int32))) (fun h => by rw [Bd.returns] at h; cases h)
        refine ⟨_, _, go121 _ ?_, hrun, hended, _, _, rfl, ?_, ReturnedEndW.of_narrow ⟨_, rfl⟩ hW (hsame.mono (by decide) (by decide))⟩
        · exact retN X119 hx (t := .boolean) Bd.returns (by simp) (hb hby at_195) hr
        · show Q_rm0 Z p1 p2 p3 p4 cz h0 n0 _ T119.heap _
          rw [eq119]
          exact ⟨rfl, N119⟩
      · have go108 : Goes p e below s₁ (entryFrame m #[(.int p1), (.int p2), (.int p3), (.int p4)] maxLocals) T100 (mkF m 112 #[.val (.int p1), .val (.int p2), .val (.int p3), .val (.int p4), .val (.ref b82), .val (.ref b89), .val (.ref y95), .val (.ref y100), .val (.int (0 : Int32)), .val (.ref b89), .unset, .unset, .unset] [(.int (0 : Int32))]) := fun t k => go103 t (by
          show Steps p.tables e below (T100.setTop (mkF m 88 #[.val (.int p1), .val (.int p2), .val (.int p3), .val (.int p4), .val (.ref b82), .val (.ref b89), .val (.ref y95), .val (.ref y100), .val (.int (0 : Int32)), .unset, .unset, .unset, .unset] [(.int (p4 &&& (2 : Int32)))])) _
          refine XS.ifNo X100.here hx rfl (hb hby at_88) rfl ((if0 _ _).trans (feq hc88_104).1) ?_
          show Steps p.tables e below (T100.setTop (mkF m 91 #[.val (.int p1), .val (.int p2), .val (.int p3), .val (.int p4), .val (.ref b82), .val (.ref b89), .val (.ref y95), .val (.ref y100), .val (.int (0 : Int32)), .unset, .unset, .unset, .unset] [])) _
          refine XS.aload X100.here hx rfl (hb hby at_91) rfl rfl ?_
          show Steps p.tables e below (T100.setTop (mkF m 93 #[.val (.int p1), .val (.int p2), .val (.int p3), .val (.int p4), .val (.ref b82), .val (.ref b89), .val (.ref y95), .val (.ref y100), .val (.int (0 : Int32)), .unset, .unset, .unset, .unset] [(.ref b89)])) _
          refine XS.goto X100.here hx rfl (pc0 := 93) (pc' := 108) rfl (hb hby at_93) (by decide) (by decide) ?_
          show Steps p.tables e below (T100.setTop (mkF m 108 #[.val (.int p1), .val (.int p2), .val (.int p3), .val (.int p4), .val (.ref b82), .val (.ref b89), .val (.ref y95), .val (.ref y100), .val (.int (0 : Int32)), .unset, .unset, .unset, .unset] [(.ref b89)])) _
          refine XS.astore X100.here hx rfl (hb hby at_108) rfl rfl (l' := #[.val (.int p1), .val (.int p2), .val (.int p3), .val (.int p4), .val (.ref b82), .val (.ref b89), .val (.ref y95), .val (.ref y100), .val (.int (0 : Int32)), .val (.ref b89), .unset, .unset, .unset]) rfl ?_
          show Steps p.tables e below (T100.setTop (mkF m 110 #[.val (.int p1), .val (.int p2), .val (.int p3), .val (.int p4), .val (.ref b82), .val (.ref b89), .val (.ref y95), .val (.ref y100), .val (.int (0 : Int32)), .val (.ref b89), .unset, .unset, .unset] [])) _
          refine XS.iload X100.here hx rfl (hb hby at_110) rfl ?_
          exact k)
        have go122 : Goes p e below s₁ (entryFrame m #[(.int p1), (.int p2), (.int p3), (.int p4)] maxLocals) T100 (mkF m 132 #[.val (.int p1), .val (.int p2), .val (.int p3), .val (.int p4), .val (.ref b82), .val (.ref b89), .val (.ref y95), .val (.ref y100), .val (.int (0 : Int32)), .val (.ref b89), .val .null, .unset, .unset] []) := fun t k => go108 t (by
          show Steps p.tables e below (T100.setTop (mkF m 112 #[.val (.int p1), .val (.int p2), .val (.int p3), .val (.int p4), .val (.ref b82), .val (.ref b89), .val (.ref y95), .val (.ref y100), .val (.int (0 : Int32)), .val (.ref b89), .unset, .unset, .unset] [(.int (0 : Int32))])) _
          refine XS.ifYes X100.here hx rfl (pc0 := 112) (pc' := 129) rfl (hb hby at_112) rfl ((if0 _ _).trans (teq (by decide)).1) (by decide) (by decide) ?_
          show Steps p.tables e below (T100.setTop (mkF m 129 #[.val (.int p1), .val (.int p2), .val (.int p3), .val (.int p4), .val (.ref b82), .val (.ref b89), .val (.ref y95), .val (.ref y100), .val (.int (0 : Int32)), .val (.ref b89), .unset, .unset, .unset] [])) _
          refine XS.aconstNull X100.here hx rfl (hb hby at_129) ?_
          show Steps p.tables e below (T100.setTop (mkF m 130 #[.val (.int p1), .val (.int p2), .val (.int p3), .val (.int p4), .val (.ref b82), .val (.ref b89), .val (.ref y95), .val (.ref y100), .val (.int (0 : Int32)), .val (.ref b89), .unset, .unset, .unset] [.null])) _
          refine XS.astore X100.here hx rfl (hb hby at_130) rfl rfl (l' := #[.val (.int p1), .val (.int p2), .val (.int p3), .val (.int p4), .val (.ref b82), .val (.ref b89), .val (.ref y95), .val (.ref y100), .val (.int (0 : Int32)), .val (.ref b89), .val .null, .unset, .unset]) rfl ?_
          exact k)
        obtain ⟨T123, h123, X123, e123, E123, A123, D123, -, st123⟩ := newO X100 hx hZ hown (hw _ (List.mem_of_getElem? (i := 60) rfl)) (hw _ (List.mem_of_getElem? (i := 61) rfl)) (hw _ (List.mem_of_getElem? (i := 62) rfl)) rfl (g := (mkF m 132 #[.val (.int p1), .val (.int p2), .val (.int p3), .val (.int p4), .val (.ref b82), .val (.ref b89), .val (.ref y95), .val (.ref y100), .val (.int (0 : Int32)), .val (.ref b89), .val .null, .unset, .unset] [])) rfl (hb hby at_132) (by decide) (by decide)
        obtain ⟨b123, g123⟩ : ∃ z, z = T100.heap.size := ⟨_, rfl⟩
        rw [← g123] at A123 D123 st123
        have g_b123 : n0 ≤ b123 := Nat.le_trans ZS100 (Nat.le_of_eq g123.symm)
        have O123 := O100.ext E123
        have ZS123 : n0 ≤ h123.size := Nat.le_trans ZS100 E123.1
        have F123_id : Fld Z h123 b123 "com/example/rightful_keys/rightfulkeys/store/Role" "id" "Ljava/lang/String;" .null := D123 (Or.inr (hw _ (List.mem_of_getElem? (i := 68) rfl))) (ty := (.object "java/lang/String")) (by decide)
        have F123_name : Fld Z h123 b123 "com/example/rightful_keys/rightfulkeys/store/Role" "name" "Ljava/lang/String;" .null := D123 (Or.inr (hw _ (List.mem_of_getElem? (i := 70) rfl))) (ty := (.object "java/lang/String")) (by decide)
        have F123_account : Fld Z h123 b123 "com/example/rightful_keys/rightfulkeys/store/Role" "account" "Lcom/example/rightful_keys/rightfulkeys/store/Account;" .null := D123 (Or.inr (hw _ (List.mem_of_getElem? (i := 72) rfl))) (ty := (.object "com/example/rightful_keys/rightfulkeys/store/Account")) (by decide)
        have F123_description : Fld Z h123 b123 "com/example/rightful_keys/rightfulkeys/store/Role" "description" "Ljava/lang/String;" .null := D123 (Or.inr (hw _ (List.mem_of_getElem? (i := 74) rfl))) (ty := (.object "java/lang/String")) (by decide)
        have F123_policy : Fld Z h123 b123 "com/example/rightful_keys/rightfulkeys/store/Role" "policy" "Ljava/util/Optional;" .null := D123 (Or.inr (hw _ (List.mem_of_getElem? (i := 76) rfl))) (ty := (.object "java/util/Optional")) (by decide)
        have ne124 : b89 ≠ b123 := Nat.ne_of_lt (Nat.lt_of_lt_of_le (((A89.keep K92).keep K95).keep K100).lt (Nat.le_of_eq g123.symm))
        have go123 : Goes p e below s₁ (entryFrame m #[(.int p1), (.int p2), (.int p3), (.int p4)] maxLocals) T123 (mkF m 135 #[.val (.int p1), .val (.int p2), .val (.int p3), .val (.int p4), .val (.ref b82), .val (.ref b89), .val (.ref y95), .val (.ref y100), .val (.int (0 : Int32)), .val (.ref b89), .val .null, .unset, .unset] [(.ref b123)]) := fun t k => go122 t (st123 _ k)
        have go125 : Goes p e below s₁ (entryFrame m #[(.int p1), (.int p2), (.int p3), (.int p4)] maxLocals) T123 (mkF m 145 #[.val (.int p1), .val (.int p2), .val (.int p3), .val (.int p4), .val (.ref b82), .val (.ref b89), .val (.ref y95), .val (.ref y100), .val (.int (0 : Int32)), .val (.ref b89), .val .null, .unset, .unset] [.null, (.ref y100), .null, (.ref y95), (.ref b89), (.ref b123), (.ref b123)]) := fun t k => go123 t (by
          show Steps p.tables e below (T123.setTop (mkF m 135 #[.val (.int p1), .val (.int p2), .val (.int p3), .val (.int p4), .val (.ref b82), .val (.ref b89), .val (.ref y95), .val (.ref y100), .val (.int (0 : Int32)), .val (.ref b89), .val .null, .unset, .unset] [(.ref b123)])) _
          refine XS.dup X123.here hx rfl (hb hby at_135) rfl rfl ?_
          show Steps p.tables e below (T123.setTop (mkF m 136 #[.val (.int p1), .val (.int p2), .val (.int p3), .val (.int p4), .val (.ref b82), .val (.ref b89), .val (.ref y95), .val (.ref y100), .val (.int (0 : Int32)), .val (.ref b89), .val .null, .unset, .unset] [(.ref b123), (.ref b123)])) _
          refine XS.aload X123.here hx rfl (hb hby at_136) rfl rfl ?_
          show Steps p.tables e below (T123.setTop (mkF m 138 #[.val (.int p1), .val (.int p2), .val (.int p3), .val (.int p4), .val (.ref b82), .val (.ref b89), .val (.ref y95), .val (.ref y100), .val (.int (0 : Int32)), .val (.ref b89), .val .null, .unset, .unset] [(.ref b89), (.ref b123), (.ref b123)])) _
          refine XS.aload X123.here hx rfl (hb hby at_138) rfl rfl ?_
          show Steps p.tables e below (T123.setTop (mkF m 140 #[.val (.int p1), .val (.int p2), .val (.int p3), .val (.int p4), .val (.ref b82), .val (.ref b89), .val (.ref y95), .val (.ref y100), .val (.int (0 : Int32)), .val (.ref b89), .val .null, .unset, .unset] [(.ref y95), (.ref b89), (.ref b123), (.ref b123)])) _
          refine XS.aload X123.here hx rfl (hb hby at_140) rfl rfl ?_
          show Steps p.tables e below (T123.setTop (mkF m 142 #[.val (.int p1), .val (.int p2), .val (.int p3), .val (.int p4), .val (.ref b82), .val (.ref b89), .val (.ref y95), .val (.ref y100), .val (.int (0 : Int32)), .val (.ref b89), .val .null, .unset, .unset] [.null, (.ref y95), (.ref b89), (.ref b123), (.ref b123)])) _
          refine XS.aload X123.here hx rfl (hb hby at_142) rfl rfl ?_
          show Steps p.tables e below (T123.setTop (mkF m 144 #[.val (.int p1), .val (.int p2), .val (.int p3), .val (.int p4), .val (.ref b82), .val (.ref b89), .val (.ref y95), .val (.ref y100), .val (.int (0 : Int32)), .val (.ref b89), .val .null, .unset, .unset] [(.ref y100), .null, (.ref y95), (.ref b89), (.ref b123), (.ref b123)])) _
          refine XS.aconstNull X123.here hx rfl (hb hby at_144) ?_
          exact k)
        obtain ⟨_, _, ⟨T126, L126, k126, n126⟩, -, X126, ⟨Lc126, hQ126, l126, y126, z126⟩, st126⟩ := X123.specialBack hx (y := (⟨"com/example/rightful_keys/rightfulkeys/store/Role", "<init>", "(Ljava/lang/String;Ljava/lang/String;Lcom/example/rightful_keys/rightfulkeys/store/Account;Ljava/lang/String;Ljava/util/Optional;)V"⟩ : MethodName)) rfl hown (mvT hZ (hw _ (List.mem_of_getElem? (i := 63) rfl))) (mvT hZ (hw _ (List.mem_of_getElem? (i := 64) rfl))) (mvT hZ (hw _ (List.mem_of_getElem? (i := 65) rfl))) (by decide) (backOf (W := 1) (rm13n l Z a0 hw [] b123 b89 y95  y100   h123 n0 ZS123 g_b123 A123 F123_id F123_name F123_account F123_description F123_policy) hZ (hw _ (List.mem_of_getElem? (i := 65) rfl)) (hw _ (List.mem_of_getElem? (i := 62) rfl)) (by decide) (by decide)) (g := (mkF m 145 #[.val (.int p1), .val (.int p2), .val (.int p3), .val (.int p4), .val (.ref b82), .val (.ref b89), .val (.ref y95), .val (.ref y100), .val (.int (0 : Int32)), .val (.ref b89), .val .null, .unset, .unset] [.null, (.ref y100), .null, (.ref y95), (.ref b89), (.ref b123), (.ref b123)])) rfl (by rw [hml]; rfl) (Steps.refl _) (a := b123) (argsL := [(.ref b89), (.ref y95), .null, (.ref y100), .null]) (rest := [(.ref b123)]) (lenOf pd_6 rfl) rfl (by show 2 * 0 + _ ≤ _; exact Nat.le_of_eq rfl) (hb hby at_145) (fun _ _ => ⟨rfl, e123, (by decide : 8 + 0 ≤ _), (by decide : 23 + 0 ≤ _)⟩)
        dsimp only [Pt.U, Pt.locs, Pt.cells, Pt.slots] at X126 l126 y126 z126 st126 hQ126
        subst l126 y126 z126
        obtain ⟨rfl, Nq126, K126, A126, F126⟩ := hQ126
        have N126 := Fr.app N100 Nq126
        have ZS126 : n0 ≤ T126.heap.size := Nat.le_trans ZS123 K126.1
        have O126 := O123.keep K126 (allS g_b123 all0)
        have go126 : Goes p e below s₁ (entryFrame m #[(.int p1), (.int p2), (.int p3), (.int p4)] maxLocals) T126 (mkF m 148 #[.val (.int p1), .val (.int p2), .val (.int p3), .val (.int p4), .val (.ref b82), .val (.ref b89), .val (.ref y95), .val (.ref y100), .val (.int (0 : Int32)), .val (.ref b89), .val .null, .unset, .unset] [(.ref b123)]) := fun t k => go125 t (st126.trans k)
        have go127 : Goes p e below s₁ (entryFrame m #[(.int p1), (.int p2), (.int p3), (.int p4)] maxLocals) T126 (mkF m 152 #[.val (.int p1), .val (.int p2), .val (.int p3), .val (.int p4), .val (.ref b82), .val (.ref b89), .val (.ref y95), .val (.ref y100), .val (.int (0 : Int32)), .val (.ref b89), .val .null, .val (.ref b123), .unset] [(.ref b123)]) := fun t k => go126 t (by
          show Steps p.tables e below (T126.setTop (mkF m 148 #[.val (.int p1), .val (.int p2), .val (.int p3), .val (.int p4), .val (.ref b82), .val (.ref b89), .val (.ref y95), .val (.ref y100), .val (.int (0 : Int32)), .val (.ref b89), .val .null, .unset, .unset] [(.ref b123)])) _
          refine XS.astore X126.here hx rfl (hb hby at_148) rfl rfl (l' := #[.val (.int p1), .val (.int p2), .val (.int p3), .val (.int p4), .val (.ref b82), .val (.ref b89), .val (.ref y95), .val (.ref y100), .val (.int (0 : Int32)), .val (.ref b89), .val .null, .val (.ref b123), .unset]) rfl ?_
          show Steps p.tables e below (T126.setTop (mkF m 150 #[.val (.int p1), .val (.int p2), .val (.int p3), .val (.int p4), .val (.ref b82), .val (.ref b89), .val (.ref y95), .val (.ref y100), .val (.int (0 : Int32)), .val (.ref b89), .val .null, .val (.ref b123), .unset] [])) _
          refine XS.aload X126.here hx rfl (hb hby at_150) rfl rfl ?_
          exact k)
        obtain ⟨cq128, kq128, q128a, q128b, q128c⟩ := isOf hZ rfl A126
        obtain ⟨_, _, ⟨T128, L128, k128, n128⟩, -, X128, ⟨Lc128, hQ128, l128, y128, z128⟩, st128⟩ := X126.virtualBack hx (y := (⟨"com/example/rightful_keys/rightfulkeys/store/Role", "isSystem", "()Z"⟩ : MethodName)) (z := (⟨"com/example/rightful_keys/rightfulkeys/store/Role", "isSystem", "()Z"⟩ : MethodName)) hown (mvT hZ (hw _ (List.mem_of_getElem? (i := 77) rfl))) (mvT hZ (hw _ (List.mem_of_getElem? (i := 78) rfl))) (notFace_of_selects (args := #[]) (mvT hZ (hw _ (List.mem_of_getElem? (i := 80) rfl)))) (mvT hZ (hw _ (List.mem_of_getElem? (i := 80) rfl))) (mvT hZ (hw _ (List.mem_of_getElem? (i := 79) rfl))) (by decide) (backOf (W := 0) (rm14n l Z a0 hw [] b123  T126.heap n0 ZS126 F126) hZ (hw _ (List.mem_of_getElem? (i := 81) rfl)) (hw _ (List.mem_of_getElem? (i := 62) rfl)) (by decide) (by decide)) q128a q128c (g := (mkF m 152 #[.val (.int p1), .val (.int p2), .val (.int p3), .val (.int p4), .val (.ref b82), .val (.ref b89), .val (.ref y95), .val (.ref y100), .val (.int (0 : Int32)), .val (.ref b89), .val .null, .val (.ref b123), .unset] [(.ref b123)])) rfl (by rw [hml]; rfl) (Steps.refl _) (argsL := []) (rest := []) (lenOf pd_7 rfl) rfl (by show 2 * 0 + _ ≤ _; exact Nat.le_of_eq rfl) (hb hby at_152) (fun _ _ => ⟨rfl, rfl, (by decide : 8 + 0 ≤ _), (by decide : 23 + 0 ≤ _)⟩)
        dsimp only [Pt.U, Pt.locs, Pt.cells, Pt.slots] at X128 l128 y128 z128 st128 hQ128
        subst l128 y128 z128
        obtain ⟨rfl, Nq128, eq128⟩ := hQ128
        have N128 := Fr.app N126 Nq128
        have go128 : Goes p e below s₁ (entryFrame m #[(.int p1), (.int p2), (.int p3), (.int p4)] maxLocals) T128 (mkF m 155 #[.val (.int p1), .val (.int p2), .val (.int p3), .val (.int p4), .val (.ref b82), .val (.ref b89), .val (.ref y95), .val (.ref y100), .val (.int (0 : Int32)), .val (.ref b89), .val .null, .val (.ref b123), .unset] [(.int (1 : Int32))]) := fun t k => go127 t (st128.trans k)
        have go129 : Goes p e below s₁ (entryFrame m #[(.int p1), (.int p2), (.int p3), (.int p4)] maxLocals) T128 (mkF m 161 #[.val (.int p1), .val (.int p2), .val (.int p3), .val (.int p4), .val (.ref b82), .val (.ref b89), .val (.ref y95), .val (.ref y100), .val (.int (0 : Int32)), .val (.ref b89), .val .null, .val (.ref b123), .val (.int (1 : Int32))] [(.int (0 : Int32)), (.int (1 : Int32))]) := fun t k => go128 t (by
          show Steps p.tables e below (T128.setTop (mkF m 155 #[.val (.int p1), .val (.int p2), .val (.int p3), .val (.int p4), .val (.ref b82), .val (.ref b89), .val (.ref y95), .val (.ref y100), .val (.int (0 : Int32)), .val (.ref b89), .val .null, .val (.ref b123), .unset] [(.int (1 : Int32))])) _
          refine XS.istore X128.here hx rfl (hb hby at_155) rfl (l' := #[.val (.int p1), .val (.int p2), .val (.int p3), .val (.int p4), .val (.ref b82), .val (.ref b89), .val (.ref y95), .val (.ref y100), .val (.int (0 : Int32)), .val (.ref b89), .val .null, .val (.ref b123), .val (.int (1 : Int32))]) rfl ?_
          show Steps p.tables e below (T128.setTop (mkF m 157 #[.val (.int p1), .val (.int p2), .val (.int p3), .val (.int p4), .val (.ref b82), .val (.ref b89), .val (.ref y95), .val (.ref y100), .val (.int (0 : Int32)), .val (.ref b89), .val .null, .val (.ref b123), .val (.int (1 : Int32))] [])) _
          refine XS.iload X128.here hx rfl (hb hby at_157) rfl ?_
          show Steps p.tables e below (T128.setTop (mkF m 159 #[.val (.int p1), .val (.int p2), .val (.int p3), .val (.int p4), .val (.ref b82), .val (.ref b89), .val (.ref y95), .val (.ref y100), .val (.int (0 : Int32)), .val (.ref b89), .val .null, .val (.ref b123), .val (.int (1 : Int32))] [(.int (1 : Int32))])) _
          refine XS.iload X128.here hx rfl (hb hby at_159) rfl ?_
          exact k)
        have go130 : Goes p e below s₁ (entryFrame m #[(.int p1), (.int p2), (.int p3), (.int p4)] maxLocals) T128 (mkF m 169 #[.val (.int p1), .val (.int p2), .val (.int p3), .val (.int p4), .val (.ref b82), .val (.ref b89), .val (.ref y95), .val (.ref y100), .val (.int (0 : Int32)), .val (.ref b89), .val .null, .val (.ref b123), .val (.int (1 : Int32))] [(.int (1 : Int32)), (.int (1 : Int32))]) := fun t k => go129 t (by
          show Steps p.tables e below (T128.setTop (mkF m 161 #[.val (.int p1), .val (.int p2), .val (.int p3), .val (.int p4), .val (.ref b82), .val (.ref b89), .val (.ref y95), .val (.ref y100), .val (.int (0 : Int32)), .val (.ref b89), .val .null, .val (.ref b123), .val (.int (1 : Int32))] [(.int (0 : Int32)), (.int (1 : Int32))])) _
          refine XS.ifNo X128.here hx rfl (hb hby at_161) rfl ((if0 _ _).trans (teq (by decide)).2) ?_
          show Steps p.tables e below (T128.setTop (mkF m 164 #[.val (.int p1), .val (.int p2), .val (.int p3), .val (.int p4), .val (.ref b82), .val (.ref b89), .val (.ref y95), .val (.ref y100), .val (.int (0 : Int32)), .val (.ref b89), .val .null, .val (.ref b123), .val (.int (1 : Int32))] [(.int (1 : Int32))])) _
          refine XS.iconst X128.here hx rfl (hb hby at_164) ?_
          show Steps p.tables e below (T128.setTop (mkF m 165 #[.val (.int p1), .val (.int p2), .val (.int p3), .val (.int p4), .val (.ref b82), .val (.ref b89), .val (.ref y95), .val (.ref y100), .val (.int (0 : Int32)), .val (.ref b89), .val .null, .val (.ref b123), .val (.int (1 : Int32))] [(.int (1 : Int32)), (.int (1 : Int32))])) _
          refine XS.goto X128.here hx rfl (pc0 := 165) (pc' := 169) rfl (hb hby at_165) (by decide) (by decide) ?_
          exact k)
        have go131 : Goes p e below s₁ (entryFrame m #[(.int p1), (.int p2), (.int p3), (.int p4)] maxLocals) T128 (mkF m 176 #[.val (.int p1), .val (.int p2), .val (.int p3), .val (.int p4), .val (.ref b82), .val (.ref b89), .val (.ref y95), .val (.ref y100), .val (.int (0 : Int32)), .val (.ref b89), .val .null, .val (.ref b123), .val (.int (1 : Int32))] [(.ref b123), (.int (1 : Int32))]) := fun t k => go130 t (by
          show Steps p.tables e below (T128.setTop (mkF m 169 #[.val (.int p1), .val (.int p2), .val (.int p3), .val (.int p4), .val (.ref b82), .val (.ref b89), .val (.ref y95), .val (.ref y100), .val (.int (0 : Int32)), .val (.ref b89), .val .null, .val (.ref b123), .val (.int (1 : Int32))] [(.int (1 : Int32)), (.int (1 : Int32))])) _
          refine XS.icmpNo X128.here hx rfl (hb hby at_169) rfl (teq rfl).2 ?_
          show Steps p.tables e below (T128.setTop (mkF m 172 #[.val (.int p1), .val (.int p2), .val (.int p3), .val (.int p4), .val (.ref b82), .val (.ref b89), .val (.ref y95), .val (.ref y100), .val (.int (0 : Int32)), .val (.ref b89), .val .null, .val (.ref b123), .val (.int (1 : Int32))] [])) _
          refine XS.iload X128.here hx rfl (hb hby at_172) rfl ?_
          show Steps p.tables e below (T128.setTop (mkF m 174 #[.val (.int p1), .val (.int p2), .val (.int p3), .val (.int p4), .val (.ref b82), .val (.ref b89), .val (.ref y95), .val (.ref y100), .val (.int (0 : Int32)), .val (.ref b89), .val .null, .val (.ref b123), .val (.int (1 : Int32))] [(.int (1 : Int32))])) _
          refine XS.aload X128.here hx rfl (hb hby at_174) rfl rfl ?_
          exact k)
        obtain ⟨cq132, kq132, q132a, q132b, q132c⟩ := isOf hZ eq128 A126
        obtain ⟨_, _, ⟨T132, L132, k132, n132⟩, -, X132, ⟨Lc132, hQ132, l132, y132, z132⟩, st132⟩ := X128.virtualBack hx (y := (⟨"com/example/rightful_keys/rightfulkeys/store/Role", "account", "()Lcom/example/rightful_keys/rightfulkeys/store/Account;"⟩ : MethodName)) (z := (⟨"com/example/rightful_keys/rightfulkeys/store/Role", "account", "()Lcom/example/rightful_keys/rightfulkeys/store/Account;"⟩ : MethodName)) hown (mvT hZ (hw _ (List.mem_of_getElem? (i := 82) rfl))) (mvT hZ (hw _ (List.mem_of_getElem? (i := 83) rfl))) (notFace_of_selects (args := #[]) (mvT hZ (hw _ (List.mem_of_getElem? (i := 85) rfl)))) (mvT hZ (hw _ (List.mem_of_getElem? (i := 85) rfl))) (mvT hZ (hw _ (List.mem_of_getElem? (i := 84) rfl))) (by decide) (backOf (W := 1) (rm15n l Z a0 hw [] b123  T126.heap n0 ZS126 F126) hZ (hw _ (List.mem_of_getElem? (i := 86) rfl)) (hw _ (List.mem_of_getElem? (i := 62) rfl)) (by decide) (by decide)) q132a q132c (g := (mkF m 176 #[.val (.int p1), .val (.int p2), .val (.int p3), .val (.int p4), .val (.ref b82), .val (.ref b89), .val (.ref y95), .val (.ref y100), .val (.int (0 : Int32)), .val (.ref b89), .val .null, .val (.ref b123), .val (.int (1 : Int32))] [(.ref b123), (.int (1 : Int32))])) rfl (by rw [hml]; rfl) (Steps.refl _) (argsL := []) (rest := [(.int (1 : Int32))]) (lenOf pd_8 rfl) rfl (by show 2 * 0 + _ ≤ _; exact Nat.le_of_eq rfl) (hb hby at_176) (fun _ _ => ⟨rfl, eq128, (by decide : 8 + 0 ≤ _), (by decide : 23 + 0 ≤ _)⟩)
        dsimp only [Pt.U, Pt.locs, Pt.cells, Pt.slots] at X132 l132 y132 z132 st132 hQ132
        subst l132 y132 z132
        obtain ⟨rfl, Nq132, eq132⟩ := hQ132
        have N132 := Fr.app N128 Nq132
        have go132 : Goes p e below s₁ (entryFrame m #[(.int p1), (.int p2), (.int p3), (.int p4)] maxLocals) T132 (mkF m 179 #[.val (.int p1), .val (.int p2), .val (.int p3), .val (.int p4), .val (.ref b82), .val (.ref b89), .val (.ref y95), .val (.ref y100), .val (.int (0 : Int32)), .val (.ref b89), .val .null, .val (.ref b123), .val (.int (1 : Int32))] [.null, (.int (1 : Int32))]) := fun t k => go131 t (st132.trans k)
        have go133 : Goes p e below s₁ (entryFrame m #[(.int p1), (.int p2), (.int p3), (.int p4)] maxLocals) T132 (mkF m 187 #[.val (.int p1), .val (.int p2), .val (.int p3), .val (.int p4), .val (.ref b82), .val (.ref b89), .val (.ref y95), .val (.ref y100), .val (.int (0 : Int32)), .val (.ref b89), .val .null, .val (.ref b123), .val (.int (1 : Int32))] [(.int (1 : Int32)), (.int (1 : Int32))]) := fun t k => go132 t (by
          show Steps p.tables e below (T132.setTop (mkF m 179 #[.val (.int p1), .val (.int p2), .val (.int p3), .val (.int p4), .val (.ref b82), .val (.ref b89), .val (.ref y95), .val (.ref y100), .val (.int (0 : Int32)), .val (.ref b89), .val .null, .val (.ref b123), .val (.int (1 : Int32))] [.null, (.int (1 : Int32))])) _
          refine XS.ifnonnullNo X132.here hx rfl (hb hby at_179) rfl ?_
          show Steps p.tables e below (T132.setTop (mkF m 182 #[.val (.int p1), .val (.int p2), .val (.int p3), .val (.int p4), .val (.ref b82), .val (.ref b89), .val (.ref y95), .val (.ref y100), .val (.int (0 : Int32)), .val (.ref b89), .val .null, .val (.ref b123), .val (.int (1 : Int32))] [(.int (1 : Int32))])) _
          refine XS.iconst X132.here hx rfl (hb hby at_182) ?_
          show Steps p.tables e below (T132.setTop (mkF m 183 #[.val (.int p1), .val (.int p2), .val (.int p3), .val (.int p4), .val (.ref b82), .val (.ref b89), .val (.ref y95), .val (.ref y100), .val (.int (0 : Int32)), .val (.ref b89), .val .null, .val (.ref b123), .val (.int (1 : Int32))] [(.int (1 : Int32)), (.int (1 : Int32))])) _
          refine XS.goto X132.here hx rfl (pc0 := 183) (pc' := 187) rfl (hb hby at_183) (by decide) (by decide) ?_
          exact k)
        have go134 : Goes p e below s₁ (entryFrame m #[(.int p1), (.int p2), (.int p3), (.int p4)] maxLocals) T132 (mkF m 195 #[.val (.int p1), .val (.int p2), .val (.int p3), .val (.int p4), .val (.ref b82), .val (.ref b89), .val (.ref y95), .val (.ref y100), .val (.int (0 : Int32)), .val (.ref b89), .val .null, .val (.ref b123), .val (.int (1 : Int32))] [(.int (1 : Int32))]) := fun t k => go133 t (by
          show Steps p.tables e below (T132.setTop (mkF m 187 #[.val (.int p1), .val (.int p2), .val (.int p3), .val (.int p4), .val (.ref b82), .val (.ref b89), .val (.ref y95), .val (.ref y100), .val (.int (0 : Int32)), .val (.ref b89), .val .null, .val (.ref b123), .val (.int (1 : Int32))] [(.int (1 : Int32)), (.int (1 : Int32))])) _
          refine XS.icmpNo X132.here hx rfl (hb hby at_187) rfl (teq rfl).2 ?_
          show Steps p.tables e below (T132.setTop (mkF m 190 #[.val (.int p1), .val (.int p2), .val (.int p3), .val (.int p4), .val (.ref b82), .val (.ref b89), .val (.ref y95), .val (.ref y100), .val (.int (0 : Int32)), .val (.ref b89), .val .null, .val (.ref b123), .val (.int (1 : Int32))] [])) _
          refine XS.iconst X132.here hx rfl (hb hby at_190) ?_
          show Steps p.tables e below (T132.setTop (mkF m 191 #[.val (.int p1), .val (.int p2), .val (.int p3), .val (.int p4), .val (.ref b82), .val (.ref b89), .val (.ref y95), .val (.ref y100), .val (.int (0 : Int32)), .val (.ref b89), .val .null, .val (.ref b123), .val (.int (1 : Int32))] [(.int (1 : Int32))])) _
          refine XS.goto X132.here hx rfl (pc0 := 191) (pc' := 195) rfl (hb hby at_191) (by decide) (by decide) ?_
          exact k)
        obtain ⟨fs, hr, hrun, hended, hW, hsame⟩ := X132.leave (v := some (.int (1 : Int32))) (fun h => by rw [Bd.returns] at h; cases h)
        refine ⟨_, _, go134 _ ?_, hrun, hended, _, _, rfl, ?_, ReturnedEndW.of_narrow ⟨_, rfl⟩ hW (hsame.mono (by decide) (by decide))⟩
        · exact retN X132 hx (t := .boolean) Bd.returns (by simp) (hb hby at_195) hr
        · show Q_rm0 Z p1 p2 p3 p4 cz h0 n0 _ T132.heap _
          rw [eq132]
          exact ⟨rfl, N132⟩
    · have go135 : Goes p e below s₁ (entryFrame m #[(.int p1), (.int p2), (.int p3), (.int p4)] maxLocals) T100 (mkF m 88 #[.val (.int p1), .val (.int p2), .val (.int p3), .val (.int p4), .val (.ref b82), .val (.ref b89), .val (.ref y95), .val (.ref y100), .val (.int (1 : Int32)), .unset, .unset, .unset, .unset] [(.int (p4 &&& (2 : Int32)))]) := fun t k => go101 t (by
        show Steps p.tables e below (T100.setTop (mkF m 75 #[.val (.int p1), .val (.int p2), .val (.int p3), .val (.int p4), .val (.ref b82), .val (.ref b89), .val (.ref y95), .val (.ref y100), .unset, .unset, .unset, .unset, .unset] [(.int (p4 &&& (1 : Int32)))])) _
        refine XS.ifNo X100.here hx rfl (hb hby at_75) rfl ((if0 _ _).trans (feq hc75_102).1) ?_
        show Steps p.tables e below (T100.setTop (mkF m 78 #[.val (.int p1), .val (.int p2), .val (.int p3), .val (.int p4), .val (.ref b82), .val (.ref b89), .val (.ref y95), .val (.ref y100), .unset, .unset, .unset, .unset, .unset] [])) _
        refine XS.iconst X100.here hx rfl (hb hby at_78) ?_
        show Steps p.tables e below (T100.setTop (mkF m 79 #[.val (.int p1), .val (.int p2), .val (.int p3), .val (.int p4), .val (.ref b82), .val (.ref b89), .val (.ref y95), .val (.ref y100), .unset, .unset, .unset, .unset, .unset] [(.int (1 : Int32))])) _
        refine XS.goto X100.here hx rfl (pc0 := 79) (pc' := 83) rfl (hb hby at_79) (by decide) (by decide) ?_
        show Steps p.tables e below (T100.setTop (mkF m 83 #[.val (.int p1), .val (.int p2), .val (.int p3), .val (.int p4), .val (.ref b82), .val (.ref b89), .val (.ref y95), .val (.ref y100), .unset, .unset, .unset, .unset, .unset] [(.int (1 : Int32))])) _
        refine XS.istore X100.here hx rfl (hb hby at_83) rfl (l' := #[.val (.int p1), .val (.int p2), .val (.int p3), .val (.int p4), .val (.ref b82), .val (.ref b89), .val (.ref y95), .val (.ref y100), .val (.int (1 : Int32)), .unset, .unset, .unset, .unset]) rfl ?_
        show Steps p.tables e below (T100.setTop (mkF m 85 #[.val (.int p1), .val (.int p2), .val (.int p3), .val (.int p4), .val (.ref b82), .val (.ref b89), .val (.ref y95), .val (.ref y100), .val (.int (1 : Int32)), .unset, .unset, .unset, .unset] [])) _
        refine XS.iloadN X100.here hx rfl (hb hby at_85) rfl ?_
        show Steps p.tables e below (T100.setTop (mkF m 86 #[.val (.int p1), .val (.int p2), .val (.int p3), .val (.int p4), .val (.ref b82), .val (.ref b89), .val (.ref y95), .val (.ref y100), .val (.int (1 : Int32)), .unset, .unset, .unset, .unset] [(.int p4)])) _
        refine XS.iconst X100.here hx rfl (hb hby at_86) ?_
        show Steps p.tables e below (T100.setTop (mkF m 87 #[.val (.int p1), .val (.int p2), .val (.int p3), .val (.int p4), .val (.ref b82), .val (.ref b89), .val (.ref y95), .val (.ref y100), .val (.int (1 : Int32)), .unset, .unset, .unset, .unset] [(.int (2 : Int32)), (.int p4)])) _
        refine XS.iand X100.here hx rfl (hb hby at_87) rfl ?_
        exact k)
      by_cases hc88_136 : (p4 &&& (2 : Int32)) = (0 : Int32)
      · have go137 : Goes p e below s₁ (entryFrame m #[(.int p1), (.int p2), (.int p3), (.int p4)] maxLocals) T100 (mkF m 105 #[.val (.int p1), .val (.int p2), .val (.int p3), .val (.int p4), .val (.ref b82), .val (.ref b89), .val (.ref y95), .val (.ref y100), .val (.int (1 : Int32)), .unset, .unset, .unset, .unset] [(.int (((((p3.toUInt32 >>> ((8 : Int32) &&& 31).toUInt32).toInt32) &&& (255 : Int32))).toUInt32.toUInt16.toUInt32.toInt32))]) := fun t k => go135 t (by
          show Steps p.tables e below (T100.setTop (mkF m 88 #[.val (.int p1), .val (.int p2), .val (.int p3), .val (.int p4), .val (.ref b82), .val (.ref b89), .val (.ref y95), .val (.ref y100), .val (.int (1 : Int32)), .unset, .unset, .unset, .unset] [(.int (p4 &&& (2 : Int32)))])) _
          refine XS.ifYes X100.here hx rfl (pc0 := 88) (pc' := 96) rfl (hb hby at_88) rfl ((if0 _ _).trans (teq hc88_136).1) (by decide) (by decide) ?_
          show Steps p.tables e below (T100.setTop (mkF m 96 #[.val (.int p1), .val (.int p2), .val (.int p3), .val (.int p4), .val (.ref b82), .val (.ref b89), .val (.ref y95), .val (.ref y100), .val (.int (1 : Int32)), .unset, .unset, .unset, .unset] [])) _
          refine XS.iloadN X100.here hx rfl (hb hby at_96) rfl ?_
          show Steps p.tables e below (T100.setTop (mkF m 97 #[.val (.int p1), .val (.int p2), .val (.int p3), .val (.int p4), .val (.ref b82), .val (.ref b89), .val (.ref y95), .val (.ref y100), .val (.int (1 : Int32)), .unset, .unset, .unset, .unset] [(.int p3)])) _
          refine XS.bipush X100.here hx rfl (hb hby at_97) ?_
          show Steps p.tables e below (T100.setTop (mkF m 99 #[.val (.int p1), .val (.int p2), .val (.int p3), .val (.int p4), .val (.ref b82), .val (.ref b89), .val (.ref y95), .val (.ref y100), .val (.int (1 : Int32)), .unset, .unset, .unset, .unset] [(.int (8 : Int32)), (.int p3)])) _
          refine XS.iushr X100.here hx rfl (hb hby at_99) rfl ?_
          show Steps p.tables e below (T100.setTop (mkF m 100 #[.val (.int p1), .val (.int p2), .val (.int p3), .val (.int p4), .val (.ref b82), .val (.ref b89), .val (.ref y95), .val (.ref y100), .val (.int (1 : Int32)), .unset, .unset, .unset, .unset] [(.int ((p3.toUInt32 >>> ((8 : Int32) &&& 31).toUInt32).toInt32))])) _
          refine XS.sipush X100.here hx rfl (hb hby at_100) ?_
          show Steps p.tables e below (T100.setTop (mkF m 103 #[.val (.int p1), .val (.int p2), .val (.int p3), .val (.int p4), .val (.ref b82), .val (.ref b89), .val (.ref y95), .val (.ref y100), .val (.int (1 : Int32)), .unset, .unset, .unset, .unset] [(.int (255 : Int32)), (.int ((p3.toUInt32 >>> ((8 : Int32) &&& 31).toUInt32).toInt32))])) _
          refine XS.iand X100.here hx rfl (hb hby at_103) rfl ?_
          show Steps p.tables e below (T100.setTop (mkF m 104 #[.val (.int p1), .val (.int p2), .val (.int p3), .val (.int p4), .val (.ref b82), .val (.ref b89), .val (.ref y95), .val (.ref y100), .val (.int (1 : Int32)), .unset, .unset, .unset, .unset] [(.int (((p3.toUInt32 >>> ((8 : Int32) &&& 31).toUInt32).toInt32) &&& (255 : Int32)))])) _
          refine XS.i2c X100.here hx rfl (hb hby at_104) rfl ?_
          exact k)
        obtain ⟨_, _, ⟨T138, L138, k138, n138⟩, -, X138, ⟨Lc138, hQ138, l138, y138, z138⟩, st138⟩ := Jvm.LawKit.callS X100 hx (y := (⟨"java/lang/String", "valueOf", "(C)Ljava/lang/String;"⟩ : MethodName)) hown (mvT hZ (hw _ (List.mem_of_getElem? (i := 30) rfl))) (mvT hZ (hw _ (List.mem_of_getElem? (i := 31) rfl))) (mvT hZ (hw _ (List.mem_of_getElem? (i := 3) rfl))) (mvT hZ (hw _ (List.mem_of_getElem? (i := 32) rfl))) (by decide) (backOf (W := 0) (rm7 l Z a0 hw [] (((((p3.toUInt32 >>> ((8 : Int32) &&& 31).toUInt32).toInt32) &&& (255 : Int32))).toUInt32.toUInt16.toUInt32.toInt32) cz T100.heap n0 ZS100 (SC.ext O100.2) hz (own_255 _).2) hZ (hw _ (List.mem_of_getElem? (i := 32) rfl)) (hw _ (List.mem_of_getElem? (i := 3) rfl)) (by decide) (by decide)) (g := (mkF m 105 #[.val (.int p1), .val (.int p2), .val (.int p3), .val (.int p4), .val (.ref b82), .val (.ref b89), .val (.ref y95), .val (.ref y100), .val (.int (1 : Int32)), .unset, .unset, .unset, .unset] [(.int (((((p3.toUInt32 >>> ((8 : Int32) &&& 31).toUInt32).toInt32) &&& (255 : Int32))).toUInt32.toUInt16.toUInt32.toInt32))])) rfl (by rw [hml]; rfl) (argsL := [(.int (((((p3.toUInt32 >>> ((8 : Int32) &&& 31).toUInt32).toInt32) &&& (255 : Int32))).toUInt32.toUInt16.toUInt32.toInt32))]) (rest := []) (lenOf pd_5 rfl) rfl (by show 2 * 0 + _ ≤ _; exact Nat.le_of_eq rfl) (hb hby at_105) (fun _ _ => ⟨rfl, rfl, (by decide : 7 + 2 ≤ _), (by decide : 18 + 5 ≤ _)⟩)
        dsimp only [Pt.U, Pt.locs, Pt.cells, Pt.slots] at X138 l138 y138 z138 st138 hQ138
        subst l138 y138 z138
        obtain ⟨y138, rfl, Nq138, K138⟩ := hQ138
        have N138 := Fr.app N100 Nq138
        have ZS138 : n0 ≤ T138.heap.size := Nat.le_trans ZS100 K138.1
        have O138 := O100.keep K138 all0
        have go138 : Goes p e below s₁ (entryFrame m #[(.int p1), (.int p2), (.int p3), (.int p4)] maxLocals) T138 (mkF m 108 #[.val (.int p1), .val (.int p2), .val (.int p3), .val (.int p4), .val (.ref b82), .val (.ref b89), .val (.ref y95), .val (.ref y100), .val (.int (1 : Int32)), .unset, .unset, .unset, .unset] [(.ref y138)]) := fun t k => go137 t (st138 _ k)
        have go139 : Goes p e below s₁ (entryFrame m #[(.int p1), (.int p2), (.int p3), (.int p4)] maxLocals) T138 (mkF m 112 #[.val (.int p1), .val (.int p2), .val (.int p3), .val (.int p4), .val (.ref b82), .val (.ref b89), .val (.ref y95), .val (.ref y100), .val (.int (1 : Int32)), .val (.ref y138), .unset, .unset, .unset] [(.int (1 : Int32))]) := fun t k => go138 t (by
          show Steps p.tables e below (T138.setTop (mkF m 108 #[.val (.int p1), .val (.int p2), .val (.int p3), .val (.int p4), .val (.ref b82), .val (.ref b89), .val (.ref y95), .val (.ref y100), .val (.int (1 : Int32)), .unset, .unset, .unset, .unset] [(.ref y138)])) _
          refine XS.astore X138.here hx rfl (hb hby at_108) rfl rfl (l' := #[.val (.int p1), .val (.int p2), .val (.int p3), .val (.int p4), .val (.ref b82), .val (.ref b89), .val (.ref y95), .val (.ref y100), .val (.int (1 : Int32)), .val (.ref y138), .unset, .unset, .unset]) rfl ?_
          show Steps p.tables e below (T138.setTop (mkF m 110 #[.val (.int p1), .val (.int p2), .val (.int p3), .val (.int p4), .val (.ref b82), .val (.ref b89), .val (.ref y95), .val (.ref y100), .val (.int (1 : Int32)), .val (.ref y138), .unset, .unset, .unset] [])) _
          refine XS.iload X138.here hx rfl (hb hby at_110) rfl ?_
          exact k)
        have go141 : Goes p e below s₁ (entryFrame m #[(.int p1), (.int p2), (.int p3), (.int p4)] maxLocals) T138 (mkF m 115 #[.val (.int p1), .val (.int p2), .val (.int p3), .val (.int p4), .val (.ref b82), .val (.ref b89), .val (.ref y95), .val (.ref y100), .val (.int (1 : Int32)), .val (.ref y138), .unset, .unset, .unset] []) := fun t k => go139 t (by
          show Steps p.tables e below (T138.setTop (mkF m 112 #[.val (.int p1), .val (.int p2), .val (.int p3), .val (.int p4), .val (.ref b82), .val (.ref b89), .val (.ref y95), .val (.ref y100), .val (.int (1 : Int32)), .val (.ref y138), .unset, .unset, .unset] [(.int (1 : Int32))])) _
          refine XS.ifNo X138.here hx rfl (hb hby at_112) rfl ((if0 _ _).trans (feq (by decide)).1) ?_
          exact k)
        obtain ⟨T142, h142, X142, e142, E142, A142, D142, -, st142⟩ := newO X138 hx hZ hown (hw _ (List.mem_of_getElem? (i := 44) rfl)) (hw _ (List.mem_of_getElem? (i := 45) rfl)) (hw _ (List.mem_of_getElem? (i := 46) rfl)) rfl (g := (mkF m 115 #[.val (.int p1), .val (.int p2), .val (.int p3), .val (.int p4), .val (.ref b82), .val (.ref b89), .val (.ref y95), .val (.ref y100), .val (.int (1 : Int32)), .val (.ref y138), .unset, .unset, .unset] [])) rfl (hb hby at_115) (by decide) (by decide)
        obtain ⟨b142, g142⟩ : ∃ z, z = T138.heap.size := ⟨_, rfl⟩
        rw [← g142] at A142 D142 st142
        have g_b142 : n0 ≤ b142 := Nat.le_trans ZS138 (Nat.le_of_eq g142.symm)
        have O142 := O138.ext E142
        have ZS142 : n0 ≤ h142.size := Nat.le_trans ZS138 E142.1
        have F142_id : Fld Z h142 b142 "com/example/rightful_keys/rightfulkeys/store/Account" "id" "Ljava/lang/String;" .null := D142 (Or.inr (hw _ (List.mem_of_getElem? (i := 57) rfl))) (ty := (.object "java/lang/String")) (by decide)
        have F142_name : Fld Z h142 b142 "com/example/rightful_keys/rightfulkeys/store/Account" "name" "Ljava/lang/String;" .null := D142 (Or.inr (hw _ (List.mem_of_getElem? (i := 59) rfl))) (ty := (.object "java/lang/String")) (by decide)
        have ne143 : b89 ≠ b142 := Nat.ne_of_lt (Nat.lt_of_lt_of_le ((((A89.keep K92).keep K95).keep K100).keep K138).lt (Nat.le_of_eq g142.symm))
        have go142 : Goes p e below s₁ (entryFrame m #[(.int p1), (.int p2), (.int p3), (.int p4)] maxLocals) T142 (mkF m 118 #[.val (.int p1), .val (.int p2), .val (.int p3), .val (.int p4), .val (.ref b82), .val (.ref b89), .val (.ref y95), .val (.ref y100), .val (.int (1 : Int32)), .val (.ref y138), .unset, .unset, .unset] [(.ref b142)]) := fun t k => go141 t (st142 _ k)
        have go144 : Goes p e below s₁ (entryFrame m #[(.int p1), (.int p2), (.int p3), (.int p4)] maxLocals) T142 (mkF m 123 #[.val (.int p1), .val (.int p2), .val (.int p3), .val (.int p4), .val (.ref b82), .val (.ref b89), .val (.ref y95), .val (.ref y100), .val (.int (1 : Int32)), .val (.ref y138), .unset, .unset, .unset] [(.ref y95), (.ref y138), (.ref b142), (.ref b142)]) := fun t k => go142 t (by
          show Steps p.tables e below (T142.setTop (mkF m 118 #[.val (.int p1), .val (.int p2), .val (.int p3), .val (.int p4), .val (.ref b82), .val (.ref b89), .val (.ref y95), .val (.ref y100), .val (.int (1 : Int32)), .val (.ref y138), .unset, .unset, .unset] [(.ref b142)])) _
          refine XS.dup X142.here hx rfl (hb hby at_118) rfl rfl ?_
          show Steps p.tables e below (T142.setTop (mkF m 119 #[.val (.int p1), .val (.int p2), .val (.int p3), .val (.int p4), .val (.ref b82), .val (.ref b89), .val (.ref y95), .val (.ref y100), .val (.int (1 : Int32)), .val (.ref y138), .unset, .unset, .unset] [(.ref b142), (.ref b142)])) _
          refine XS.aload X142.here hx rfl (hb hby at_119) rfl rfl ?_
          show Steps p.tables e below (T142.setTop (mkF m 121 #[.val (.int p1), .val (.int p2), .val (.int p3), .val (.int p4), .val (.ref b82), .val (.ref b89), .val (.ref y95), .val (.ref y100), .val (.int (1 : Int32)), .val (.ref y138), .unset, .unset, .unset] [(.ref y138), (.ref b142), (.ref b142)])) _
          refine XS.aload X142.here hx rfl (hb hby at_121) rfl rfl ?_
          exact k)
        obtain ⟨_, _, ⟨T145, L145, k145, n145⟩, -, X145, ⟨Lc145, hQ145, l145, y145, z145⟩, st145⟩ := X142.specialBack hx (y := (⟨"com/example/rightful_keys/rightfulkeys/store/Account", "<init>", "(Ljava/lang/String;Ljava/lang/String;)V"⟩ : MethodName)) rfl hown (mvT hZ (hw _ (List.mem_of_getElem? (i := 47) rfl))) (mvT hZ (hw _ (List.mem_of_getElem? (i := 48) rfl))) (mvT hZ (hw _ (List.mem_of_getElem? (i := 49) rfl))) (by decide) (backOf (W := 1) (rm11 l Z a0 hw [] b142 y138 y95  h142 n0 ZS142 g_b142 A142 F142_id F142_name) hZ (hw _ (List.mem_of_getElem? (i := 49) rfl)) (hw _ (List.mem_of_getElem? (i := 46) rfl)) (by decide) (by decide)) (g := (mkF m 123 #[.val (.int p1), .val (.int p2), .val (.int p3), .val (.int p4), .val (.ref b82), .val (.ref b89), .val (.ref y95), .val (.ref y100), .val (.int (1 : Int32)), .val (.ref y138), .unset, .unset, .unset] [(.ref y95), (.ref y138), (.ref b142), (.ref b142)])) rfl (by rw [hml]; rfl) (Steps.refl _) (a := b142) (argsL := [(.ref y138), (.ref y95)]) (rest := [(.ref b142)]) (lenOf pd_9 rfl) rfl (by show 2 * 0 + _ ≤ _; exact Nat.le_of_eq rfl) (hb hby at_123) (fun _ _ => ⟨rfl, e142, (by decide : 10 + 0 ≤ _), (by decide : 25 + 0 ≤ _)⟩)
        dsimp only [Pt.U, Pt.locs, Pt.cells, Pt.slots] at X145 l145 y145 z145 st145 hQ145
        subst l145 y145 z145
        obtain ⟨rfl, Nq145, K145⟩ := hQ145
        have N145 := Fr.app N138 Nq145
        have ZS145 : n0 ≤ T145.heap.size := Nat.le_trans ZS142 K145.1
        have O145 := O142.keep K145 (allS g_b142 all0)
        have go145 : Goes p e below s₁ (entryFrame m #[(.int p1), (.int p2), (.int p3), (.int p4)] maxLocals) T145 (mkF m 126 #[.val (.int p1), .val (.int p2), .val (.int p3), .val (.int p4), .val (.ref b82), .val (.ref b89), .val (.ref y95), .val (.ref y100), .val (.int (1 : Int32)), .val (.ref y138), .unset, .unset, .unset] [(.ref b142)]) := fun t k => go144 t (st145.trans k)
        have f146 := ((((((A89.keep K92).keep K95).keep K100).keep K138).ext E142).keep K145)
        have go147 : Goes p e below s₁ (entryFrame m #[(.int p1), (.int p2), (.int p3), (.int p4)] maxLocals) T145 (mkF m 132 #[.val (.int p1), .val (.int p2), .val (.int p3), .val (.int p4), .val (.ref b82), .val (.ref b89), .val (.ref y95), .val (.ref y100), .val (.int (1 : Int32)), .val (.ref y138), .val (.ref b142), .unset, .unset] []) := fun t k => go145 t (by
          show Steps p.tables e below (T145.setTop (mkF m 126 #[.val (.int p1), .val (.int p2), .val (.int p3), .val (.int p4), .val (.ref b82), .val (.ref b89), .val (.ref y95), .val (.ref y100), .val (.int (1 : Int32)), .val (.ref y138), .unset, .unset, .unset] [(.ref b142)])) _
          refine XS.goto X145.here hx rfl (pc0 := 126) (pc' := 130) rfl (hb hby at_126) (by decide) (by decide) ?_
          show Steps p.tables e below (T145.setTop (mkF m 130 #[.val (.int p1), .val (.int p2), .val (.int p3), .val (.int p4), .val (.ref b82), .val (.ref b89), .val (.ref y95), .val (.ref y100), .val (.int (1 : Int32)), .val (.ref y138), .unset, .unset, .unset] [(.ref b142)])) _
          refine XS.astore X145.here hx rfl (hb hby at_130) rfl rfl (l' := #[.val (.int p1), .val (.int p2), .val (.int p3), .val (.int p4), .val (.ref b82), .val (.ref b89), .val (.ref y95), .val (.ref y100), .val (.int (1 : Int32)), .val (.ref y138), .val (.ref b142), .unset, .unset]) rfl ?_
          exact k)
        obtain ⟨T148, h148, X148, e148, E148, A148, D148, -, st148⟩ := newO X145 hx hZ hown (hw _ (List.mem_of_getElem? (i := 60) rfl)) (hw _ (List.mem_of_getElem? (i := 61) rfl)) (hw _ (List.mem_of_getElem? (i := 62) rfl)) rfl (g := (mkF m 132 #[.val (.int p1), .val (.int p2), .val (.int p3), .val (.int p4), .val (.ref b82), .val (.ref b89), .val (.ref y95), .val (.ref y100), .val (.int (1 : Int32)), .val (.ref y138), .val (.ref b142), .unset, .unset] [])) rfl (hb hby at_132) (by decide) (by decide)
        obtain ⟨b148, g148⟩ : ∃ z, z = T145.heap.size := ⟨_, rfl⟩
        rw [← g148] at A148 D148 st148
        have g_b148 : n0 ≤ b148 := Nat.le_trans ZS145 (Nat.le_of_eq g148.symm)
        have O148 := O145.ext E148
        have ZS148 : n0 ≤ h148.size := Nat.le_trans ZS145 E148.1
        have F148_id : Fld Z h148 b148 "com/example/rightful_keys/rightfulkeys/store/Role" "id" "Ljava/lang/String;" .null := D148 (Or.inr (hw _ (List.mem_of_getElem? (i := 68) rfl))) (ty := (.object "java/lang/String")) (by decide)
        have F148_name : Fld Z h148 b148 "com/example/rightful_keys/rightfulkeys/store/Role" "name" "Ljava/lang/String;" .null := D148 (Or.inr (hw _ (List.mem_of_getElem? (i := 70) rfl))) (ty := (.object "java/lang/String")) (by decide)
        have F148_account : Fld Z h148 b148 "com/example/rightful_keys/rightfulkeys/store/Role" "account" "Lcom/example/rightful_keys/rightfulkeys/store/Account;" .null := D148 (Or.inr (hw _ (List.mem_of_getElem? (i := 72) rfl))) (ty := (.object "com/example/rightful_keys/rightfulkeys/store/Account")) (by decide)
        have F148_description : Fld Z h148 b148 "com/example/rightful_keys/rightfulkeys/store/Role" "description" "Ljava/lang/String;" .null := D148 (Or.inr (hw _ (List.mem_of_getElem? (i := 74) rfl))) (ty := (.object "java/lang/String")) (by decide)
        have F148_policy : Fld Z h148 b148 "com/example/rightful_keys/rightfulkeys/store/Role" "policy" "Ljava/util/Optional;" .null := D148 (Or.inr (hw _ (List.mem_of_getElem? (i := 76) rfl))) (ty := (.object "java/util/Optional")) (by decide)
        have ne149 : b89 ≠ b148 := Nat.ne_of_lt (Nat.lt_of_lt_of_le f146.lt (Nat.le_of_eq g148.symm))
        have ne150 : b142 ≠ b148 := Nat.ne_of_lt (Nat.lt_of_lt_of_le (A142.keep K145).lt (Nat.le_of_eq g148.symm))
        have go148 : Goes p e below s₁ (entryFrame m #[(.int p1), (.int p2), (.int p3), (.int p4)] maxLocals) T148 (mkF m 135 #[.val (.int p1), .val (.int p2), .val (.int p3), .val (.int p4), .val (.ref b82), .val (.ref b89), .val (.ref y95), .val (.ref y100), .val (.int (1 : Int32)), .val (.ref y138), .val (.ref b142), .unset, .unset] [(.ref b148)]) := fun t k => go147 t (st148 _ k)
        have go151 : Goes p e below s₁ (entryFrame m #[(.int p1), (.int p2), (.int p3), (.int p4)] maxLocals) T148 (mkF m 145 #[.val (.int p1), .val (.int p2), .val (.int p3), .val (.int p4), .val (.ref b82), .val (.ref b89), .val (.ref y95), .val (.ref y100), .val (.int (1 : Int32)), .val (.ref y138), .val (.ref b142), .unset, .unset] [.null, (.ref y100), (.ref b142), (.ref y95), (.ref b89), (.ref b148), (.ref b148)]) := fun t k => go148 t (by
          show Steps p.tables e below (T148.setTop (mkF m 135 #[.val (.int p1), .val (.int p2), .val (.int p3), .val (.int p4), .val (.ref b82), .val (.ref b89), .val (.ref y95), .val (.ref y100), .val (.int (1 : Int32)), .val (.ref y138), .val (.ref b142), .unset, .unset] [(.ref b148)])) _
          refine XS.dup X148.here hx rfl (hb hby at_135) rfl rfl ?_
          show Steps p.tables e below (T148.setTop (mkF m 136 #[.val (.int p1), .val (.int p2), .val (.int p3), .val (.int p4), .val (.ref b82), .val (.ref b89), .val (.ref y95), .val (.ref y100), .val (.int (1 : Int32)), .val (.ref y138), .val (.ref b142), .unset, .unset] [(.ref b148), (.ref b148)])) _
          refine XS.aload X148.here hx rfl (hb hby at_136) rfl rfl ?_
          show Steps p.tables e below (T148.setTop (mkF m 138 #[.val (.int p1), .val (.int p2), .val (.int p3), .val (.int p4), .val (.ref b82), .val (.ref b89), .val (.ref y95), .val (.ref y100), .val (.int (1 : Int32)), .val (.ref y138), .val (.ref b142), .unset, .unset] [(.ref b89), (.ref b148), (.ref b148)])) _
          refine XS.aload X148.here hx rfl (hb hby at_138) rfl rfl ?_
          show Steps p.tables e below (T148.setTop (mkF m 140 #[.val (.int p1), .val (.int p2), .val (.int p3), .val (.int p4), .val (.ref b82), .val (.ref b89), .val (.ref y95), .val (.ref y100), .val (.int (1 : Int32)), .val (.ref y138), .val (.ref b142), .unset, .unset] [(.ref y95), (.ref b89), (.ref b148), (.ref b148)])) _
          refine XS.aload X148.here hx rfl (hb hby at_140) rfl rfl ?_
          show Steps p.tables e below (T148.setTop (mkF m 142 #[.val (.int p1), .val (.int p2), .val (.int p3), .val (.int p4), .val (.ref b82), .val (.ref b89), .val (.ref y95), .val (.ref y100), .val (.int (1 : Int32)), .val (.ref y138), .val (.ref b142), .unset, .unset] [(.ref b142), (.ref y95), (.ref b89), (.ref b148), (.ref b148)])) _
          refine XS.aload X148.here hx rfl (hb hby at_142) rfl rfl ?_
          show Steps p.tables e below (T148.setTop (mkF m 144 #[.val (.int p1), .val (.int p2), .val (.int p3), .val (.int p4), .val (.ref b82), .val (.ref b89), .val (.ref y95), .val (.ref y100), .val (.int (1 : Int32)), .val (.ref y138), .val (.ref b142), .unset, .unset] [(.ref y100), (.ref b142), (.ref y95), (.ref b89), (.ref b148), (.ref b148)])) _
          refine XS.aconstNull X148.here hx rfl (hb hby at_144) ?_
          exact k)
        obtain ⟨_, _, ⟨T152, L152, k152, n152⟩, -, X152, ⟨Lc152, hQ152, l152, y152, z152⟩, st152⟩ := X148.specialBack hx (y := (⟨"com/example/rightful_keys/rightfulkeys/store/Role", "<init>", "(Ljava/lang/String;Ljava/lang/String;Lcom/example/rightful_keys/rightfulkeys/store/Account;Ljava/lang/String;Ljava/util/Optional;)V"⟩ : MethodName)) rfl hown (mvT hZ (hw _ (List.mem_of_getElem? (i := 63) rfl))) (mvT hZ (hw _ (List.mem_of_getElem? (i := 64) rfl))) (mvT hZ (hw _ (List.mem_of_getElem? (i := 65) rfl))) (by decide) (backOf (W := 1) (rm13a l Z a0 hw [] b148 b89 y95 b142 y100   h148 n0 ZS148 g_b148 A148 F148_id F148_name F148_account F148_description F148_policy) hZ (hw _ (List.mem_of_getElem? (i := 65) rfl)) (hw _ (List.mem_of_getElem? (i := 62) rfl)) (by decide) (by decide)) (g := (mkF m 145 #[.val (.int p1), .val (.int p2), .val (.int p3), .val (.int p4), .val (.ref b82), .val (.ref b89), .val (.ref y95), .val (.ref y100), .val (.int (1 : Int32)), .val (.ref y138), .val (.ref b142), .unset, .unset] [.null, (.ref y100), (.ref b142), (.ref y95), (.ref b89), (.ref b148), (.ref b148)])) rfl (by rw [hml]; rfl) (Steps.refl _) (a := b148) (argsL := [(.ref b89), (.ref y95), (.ref b142), (.ref y100), .null]) (rest := [(.ref b148)]) (lenOf pd_6 rfl) rfl (by show 2 * 0 + _ ≤ _; exact Nat.le_of_eq rfl) (hb hby at_145) (fun _ _ => ⟨rfl, e148, (by decide : 11 + 0 ≤ _), (by decide : 30 + 0 ≤ _)⟩)
        dsimp only [Pt.U, Pt.locs, Pt.cells, Pt.slots] at X152 l152 y152 z152 st152 hQ152
        subst l152 y152 z152
        obtain ⟨rfl, Nq152, K152, A152, F152⟩ := hQ152
        have N152 := Fr.app N145 Nq152
        have ZS152 : n0 ≤ T152.heap.size := Nat.le_trans ZS148 K152.1
        have O152 := O148.keep K152 (allS g_b148 all0)
        have go152 : Goes p e below s₁ (entryFrame m #[(.int p1), (.int p2), (.int p3), (.int p4)] maxLocals) T152 (mkF m 148 #[.val (.int p1), .val (.int p2), .val (.int p3), .val (.int p4), .val (.ref b82), .val (.ref b89), .val (.ref y95), .val (.ref y100), .val (.int (1 : Int32)), .val (.ref y138), .val (.ref b142), .unset, .unset] [(.ref b148)]) := fun t k => go151 t (st152.trans k)
        have go153 : Goes p e below s₁ (entryFrame m #[(.int p1), (.int p2), (.int p3), (.int p4)] maxLocals) T152 (mkF m 152 #[.val (.int p1), .val (.int p2), .val (.int p3), .val (.int p4), .val (.ref b82), .val (.ref b89), .val (.ref y95), .val (.ref y100), .val (.int (1 : Int32)), .val (.ref y138), .val (.ref b142), .val (.ref b148), .unset] [(.ref b148)]) := fun t k => go152 t (by
          show Steps p.tables e below (T152.setTop (mkF m 148 #[.val (.int p1), .val (.int p2), .val (.int p3), .val (.int p4), .val (.ref b82), .val (.ref b89), .val (.ref y95), .val (.ref y100), .val (.int (1 : Int32)), .val (.ref y138), .val (.ref b142), .unset, .unset] [(.ref b148)])) _
          refine XS.astore X152.here hx rfl (hb hby at_148) rfl rfl (l' := #[.val (.int p1), .val (.int p2), .val (.int p3), .val (.int p4), .val (.ref b82), .val (.ref b89), .val (.ref y95), .val (.ref y100), .val (.int (1 : Int32)), .val (.ref y138), .val (.ref b142), .val (.ref b148), .unset]) rfl ?_
          show Steps p.tables e below (T152.setTop (mkF m 150 #[.val (.int p1), .val (.int p2), .val (.int p3), .val (.int p4), .val (.ref b82), .val (.ref b89), .val (.ref y95), .val (.ref y100), .val (.int (1 : Int32)), .val (.ref y138), .val (.ref b142), .val (.ref b148), .unset] [])) _
          refine XS.aload X152.here hx rfl (hb hby at_150) rfl rfl ?_
          exact k)
        obtain ⟨cq154, kq154, q154a, q154b, q154c⟩ := isOf hZ rfl A152
        obtain ⟨_, _, ⟨T154, L154, k154, n154⟩, -, X154, ⟨Lc154, hQ154, l154, y154, z154⟩, st154⟩ := X152.virtualBack hx (y := (⟨"com/example/rightful_keys/rightfulkeys/store/Role", "isSystem", "()Z"⟩ : MethodName)) (z := (⟨"com/example/rightful_keys/rightfulkeys/store/Role", "isSystem", "()Z"⟩ : MethodName)) hown (mvT hZ (hw _ (List.mem_of_getElem? (i := 77) rfl))) (mvT hZ (hw _ (List.mem_of_getElem? (i := 78) rfl))) (notFace_of_selects (args := #[]) (mvT hZ (hw _ (List.mem_of_getElem? (i := 80) rfl)))) (mvT hZ (hw _ (List.mem_of_getElem? (i := 80) rfl))) (mvT hZ (hw _ (List.mem_of_getElem? (i := 79) rfl))) (by decide) (backOf (W := 0) (rm14a l Z a0 hw [] b148 b142 T152.heap n0 ZS152 F152) hZ (hw _ (List.mem_of_getElem? (i := 81) rfl)) (hw _ (List.mem_of_getElem? (i := 62) rfl)) (by decide) (by decide)) q154a q154c (g := (mkF m 152 #[.val (.int p1), .val (.int p2), .val (.int p3), .val (.int p4), .val (.ref b82), .val (.ref b89), .val (.ref y95), .val (.ref y100), .val (.int (1 : Int32)), .val (.ref y138), .val (.ref b142), .val (.ref b148), .unset] [(.ref b148)])) rfl (by rw [hml]; rfl) (Steps.refl _) (argsL := []) (rest := []) (lenOf pd_7 rfl) rfl (by show 2 * 0 + _ ≤ _; exact Nat.le_of_eq rfl) (hb hby at_152) (fun _ _ => ⟨rfl, rfl, (by decide : 11 + 0 ≤ _), (by decide : 30 + 0 ≤ _)⟩)
        dsimp only [Pt.U, Pt.locs, Pt.cells, Pt.slots] at X154 l154 y154 z154 st154 hQ154
        subst l154 y154 z154
        obtain ⟨rfl, Nq154, eq154⟩ := hQ154
        have N154 := Fr.app N152 Nq154
        have go154 : Goes p e below s₁ (entryFrame m #[(.int p1), (.int p2), (.int p3), (.int p4)] maxLocals) T154 (mkF m 155 #[.val (.int p1), .val (.int p2), .val (.int p3), .val (.int p4), .val (.ref b82), .val (.ref b89), .val (.ref y95), .val (.ref y100), .val (.int (1 : Int32)), .val (.ref y138), .val (.ref b142), .val (.ref b148), .unset] [(.int (0 : Int32))]) := fun t k => go153 t (st154.trans k)
        have go155 : Goes p e below s₁ (entryFrame m #[(.int p1), (.int p2), (.int p3), (.int p4)] maxLocals) T154 (mkF m 161 #[.val (.int p1), .val (.int p2), .val (.int p3), .val (.int p4), .val (.ref b82), .val (.ref b89), .val (.ref y95), .val (.ref y100), .val (.int (1 : Int32)), .val (.ref y138), .val (.ref b142), .val (.ref b148), .val (.int (0 : Int32))] [(.int (1 : Int32)), (.int (0 : Int32))]) := fun t k => go154 t (by
          show Steps p.tables e below (T154.setTop (mkF m 155 #[.val (.int p1), .val (.int p2), .val (.int p3), .val (.int p4), .val (.ref b82), .val (.ref b89), .val (.ref y95), .val (.ref y100), .val (.int (1 : Int32)), .val (.ref y138), .val (.ref b142), .val (.ref b148), .unset] [(.int (0 : Int32))])) _
          refine XS.istore X154.here hx rfl (hb hby at_155) rfl (l' := #[.val (.int p1), .val (.int p2), .val (.int p3), .val (.int p4), .val (.ref b82), .val (.ref b89), .val (.ref y95), .val (.ref y100), .val (.int (1 : Int32)), .val (.ref y138), .val (.ref b142), .val (.ref b148), .val (.int (0 : Int32))]) rfl ?_
          show Steps p.tables e below (T154.setTop (mkF m 157 #[.val (.int p1), .val (.int p2), .val (.int p3), .val (.int p4), .val (.ref b82), .val (.ref b89), .val (.ref y95), .val (.ref y100), .val (.int (1 : Int32)), .val (.ref y138), .val (.ref b142), .val (.ref b148), .val (.int (0 : Int32))] [])) _
          refine XS.iload X154.here hx rfl (hb hby at_157) rfl ?_
          show Steps p.tables e below (T154.setTop (mkF m 159 #[.val (.int p1), .val (.int p2), .val (.int p3), .val (.int p4), .val (.ref b82), .val (.ref b89), .val (.ref y95), .val (.ref y100), .val (.int (1 : Int32)), .val (.ref y138), .val (.ref b142), .val (.ref b148), .val (.int (0 : Int32))] [(.int (0 : Int32))])) _
          refine XS.iload X154.here hx rfl (hb hby at_159) rfl ?_
          exact k)
        have go156 : Goes p e below s₁ (entryFrame m #[(.int p1), (.int p2), (.int p3), (.int p4)] maxLocals) T154 (mkF m 169 #[.val (.int p1), .val (.int p2), .val (.int p3), .val (.int p4), .val (.ref b82), .val (.ref b89), .val (.ref y95), .val (.ref y100), .val (.int (1 : Int32)), .val (.ref y138), .val (.ref b142), .val (.ref b148), .val (.int (0 : Int32))] [(.int (0 : Int32)), (.int (0 : Int32))]) := fun t k => go155 t (by
          show Steps p.tables e below (T154.setTop (mkF m 161 #[.val (.int p1), .val (.int p2), .val (.int p3), .val (.int p4), .val (.ref b82), .val (.ref b89), .val (.ref y95), .val (.ref y100), .val (.int (1 : Int32)), .val (.ref y138), .val (.ref b142), .val (.ref b148), .val (.int (0 : Int32))] [(.int (1 : Int32)), (.int (0 : Int32))])) _
          refine XS.ifYes X154.here hx rfl (pc0 := 161) (pc' := 168) rfl (hb hby at_161) rfl ((if0 _ _).trans (feq (by decide)).2) (by decide) (by decide) ?_
          show Steps p.tables e below (T154.setTop (mkF m 168 #[.val (.int p1), .val (.int p2), .val (.int p3), .val (.int p4), .val (.ref b82), .val (.ref b89), .val (.ref y95), .val (.ref y100), .val (.int (1 : Int32)), .val (.ref y138), .val (.ref b142), .val (.ref b148), .val (.int (0 : Int32))] [(.int (0 : Int32))])) _
          refine XS.iconst X154.here hx rfl (hb hby at_168) ?_
          exact k)
        have go157 : Goes p e below s₁ (entryFrame m #[(.int p1), (.int p2), (.int p3), (.int p4)] maxLocals) T154 (mkF m 176 #[.val (.int p1), .val (.int p2), .val (.int p3), .val (.int p4), .val (.ref b82), .val (.ref b89), .val (.ref y95), .val (.ref y100), .val (.int (1 : Int32)), .val (.ref y138), .val (.ref b142), .val (.ref b148), .val (.int (0 : Int32))] [(.ref b148), (.int (0 : Int32))]) := fun t k => go156 t (by
          show Steps p.tables e below (T154.setTop (mkF m 169 #[.val (.int p1), .val (.int p2), .val (.int p3), .val (.int p4), .val (.ref b82), .val (.ref b89), .val (.ref y95), .val (.ref y100), .val (.int (1 : Int32)), .val (.ref y138), .val (.ref b142), .val (.ref b148), .val (.int (0 : Int32))] [(.int (0 : Int32)), (.int (0 : Int32))])) _
          refine XS.icmpNo X154.here hx rfl (hb hby at_169) rfl (teq rfl).2 ?_
          show Steps p.tables e below (T154.setTop (mkF m 172 #[.val (.int p1), .val (.int p2), .val (.int p3), .val (.int p4), .val (.ref b82), .val (.ref b89), .val (.ref y95), .val (.ref y100), .val (.int (1 : Int32)), .val (.ref y138), .val (.ref b142), .val (.ref b148), .val (.int (0 : Int32))] [])) _
          refine XS.iload X154.here hx rfl (hb hby at_172) rfl ?_
          show Steps p.tables e below (T154.setTop (mkF m 174 #[.val (.int p1), .val (.int p2), .val (.int p3), .val (.int p4), .val (.ref b82), .val (.ref b89), .val (.ref y95), .val (.ref y100), .val (.int (1 : Int32)), .val (.ref y138), .val (.ref b142), .val (.ref b148), .val (.int (0 : Int32))] [(.int (0 : Int32))])) _
          refine XS.aload X154.here hx rfl (hb hby at_174) rfl rfl ?_
          exact k)
        obtain ⟨cq158, kq158, q158a, q158b, q158c⟩ := isOf hZ eq154 A152
        obtain ⟨_, _, ⟨T158, L158, k158, n158⟩, -, X158, ⟨Lc158, hQ158, l158, y158, z158⟩, st158⟩ := X154.virtualBack hx (y := (⟨"com/example/rightful_keys/rightfulkeys/store/Role", "account", "()Lcom/example/rightful_keys/rightfulkeys/store/Account;"⟩ : MethodName)) (z := (⟨"com/example/rightful_keys/rightfulkeys/store/Role", "account", "()Lcom/example/rightful_keys/rightfulkeys/store/Account;"⟩ : MethodName)) hown (mvT hZ (hw _ (List.mem_of_getElem? (i := 82) rfl))) (mvT hZ (hw _ (List.mem_of_getElem? (i := 83) rfl))) (notFace_of_selects (args := #[]) (mvT hZ (hw _ (List.mem_of_getElem? (i := 85) rfl)))) (mvT hZ (hw _ (List.mem_of_getElem? (i := 85) rfl))) (mvT hZ (hw _ (List.mem_of_getElem? (i := 84) rfl))) (by decide) (backOf (W := 1) (rm15a l Z a0 hw [] b148 b142 T152.heap n0 ZS152 F152) hZ (hw _ (List.mem_of_getElem? (i := 86) rfl)) (hw _ (List.mem_of_getElem? (i := 62) rfl)) (by decide) (by decide)) q158a q158c (g := (mkF m 176 #[.val (.int p1), .val (.int p2), .val (.int p3), .val (.int p4), .val (.ref b82), .val (.ref b89), .val (.ref y95), .val (.ref y100), .val (.int (1 : Int32)), .val (.ref y138), .val (.ref b142), .val (.ref b148), .val (.int (0 : Int32))] [(.ref b148), (.int (0 : Int32))])) rfl (by rw [hml]; rfl) (Steps.refl _) (argsL := []) (rest := [(.int (0 : Int32))]) (lenOf pd_8 rfl) rfl (by show 2 * 0 + _ ≤ _; exact Nat.le_of_eq rfl) (hb hby at_176) (fun _ _ => ⟨rfl, eq154, (by decide : 11 + 0 ≤ _), (by decide : 30 + 0 ≤ _)⟩)
        dsimp only [Pt.U, Pt.locs, Pt.cells, Pt.slots] at X158 l158 y158 z158 st158 hQ158
        subst l158 y158 z158
        obtain ⟨rfl, Nq158, eq158⟩ := hQ158
        have N158 := Fr.app N154 Nq158
        have go158 : Goes p e below s₁ (entryFrame m #[(.int p1), (.int p2), (.int p3), (.int p4)] maxLocals) T158 (mkF m 179 #[.val (.int p1), .val (.int p2), .val (.int p3), .val (.int p4), .val (.ref b82), .val (.ref b89), .val (.ref y95), .val (.ref y100), .val (.int (1 : Int32)), .val (.ref y138), .val (.ref b142), .val (.ref b148), .val (.int (0 : Int32))] [(.ref b142), (.int (0 : Int32))]) := fun t k => go157 t (st158.trans k)
        have go159 : Goes p e below s₁ (entryFrame m #[(.int p1), (.int p2), (.int p3), (.int p4)] maxLocals) T158 (mkF m 187 #[.val (.int p1), .val (.int p2), .val (.int p3), .val (.int p4), .val (.ref b82), .val (.ref b89), .val (.ref y95), .val (.ref y100), .val (.int (1 : Int32)), .val (.ref y138), .val (.ref b142), .val (.ref b148), .val (.int (0 : Int32))] [(.int (0 : Int32)), (.int (0 : Int32))]) := fun t k => go158 t (by
          show Steps p.tables e below (T158.setTop (mkF m 179 #[.val (.int p1), .val (.int p2), .val (.int p3), .val (.int p4), .val (.ref b82), .val (.ref b89), .val (.ref y95), .val (.ref y100), .val (.int (1 : Int32)), .val (.ref y138), .val (.ref b142), .val (.ref b148), .val (.int (0 : Int32))] [(.ref b142), (.int (0 : Int32))])) _
          refine XS.ifnonnullYes X158.here hx rfl (pc0 := 179) (pc' := 186) rfl (hb hby at_179) rfl (by decide) (by decide) ?_
          show Steps p.tables e below (T158.setTop (mkF m 186 #[.val (.int p1), .val (.int p2), .val (.int p3), .val (.int p4), .val (.ref b82), .val (.ref b89), .val (.ref y95), .val (.ref y100), .val (.int (1 : Int32)), .val (.ref y138), .val (.ref b142), .val (.ref b148), .val (.int (0 : Int32))] [(.int (0 : Int32))])) _
          refine XS.iconst X158.here hx rfl (hb hby at_186) ?_
          exact k)
        have go160 : Goes p e below s₁ (entryFrame m #[(.int p1), (.int p2), (.int p3), (.int p4)] maxLocals) T158 (mkF m 195 #[.val (.int p1), .val (.int p2), .val (.int p3), .val (.int p4), .val (.ref b82), .val (.ref b89), .val (.ref y95), .val (.ref y100), .val (.int (1 : Int32)), .val (.ref y138), .val (.ref b142), .val (.ref b148), .val (.int (0 : Int32))] [(.int (1 : Int32))]) := fun t k => go159 t (by
          show Steps p.tables e below (T158.setTop (mkF m 187 #[.val (.int p1), .val (.int p2), .val (.int p3), .val (.int p4), .val (.ref b82), .val (.ref b89), .val (.ref y95), .val (.ref y100), .val (.int (1 : Int32)), .val (.ref y138), .val (.ref b142), .val (.ref b148), .val (.int (0 : Int32))] [(.int (0 : Int32)), (.int (0 : Int32))])) _
          refine XS.icmpNo X158.here hx rfl (hb hby at_187) rfl (teq rfl).2 ?_
          show Steps p.tables e below (T158.setTop (mkF m 190 #[.val (.int p1), .val (.int p2), .val (.int p3), .val (.int p4), .val (.ref b82), .val (.ref b89), .val (.ref y95), .val (.ref y100), .val (.int (1 : Int32)), .val (.ref y138), .val (.ref b142), .val (.ref b148), .val (.int (0 : Int32))] [])) _
          refine XS.iconst X158.here hx rfl (hb hby at_190) ?_
          show Steps p.tables e below (T158.setTop (mkF m 191 #[.val (.int p1), .val (.int p2), .val (.int p3), .val (.int p4), .val (.ref b82), .val (.ref b89), .val (.ref y95), .val (.ref y100), .val (.int (1 : Int32)), .val (.ref y138), .val (.ref b142), .val (.ref b148), .val (.int (0 : Int32))] [(.int (1 : Int32))])) _
          refine XS.goto X158.here hx rfl (pc0 := 191) (pc' := 195) rfl (hb hby at_191) (by decide) (by decide) ?_
          exact k)
        obtain ⟨fs, hr, hrun, hended, hW, hsame⟩ := X158.leave (v := some (.int (1 : Int32))) (fun h => by rw [Bd.returns] at h; cases h)
        refine ⟨_, _, go160 _ ?_, hrun, hended, _, _, rfl, ?_, ReturnedEndW.of_narrow ⟨_, rfl⟩ hW (hsame.mono (by decide) (by decide))⟩
        · exact retN X158 hx (t := .boolean) Bd.returns (by simp) (hb hby at_195) hr
        · show Q_rm0 Z p1 p2 p3 p4 cz h0 n0 _ T158.heap _
          rw [eq158]
          exact ⟨rfl, N158⟩
      · have go140 : Goes p e below s₁ (entryFrame m #[(.int p1), (.int p2), (.int p3), (.int p4)] maxLocals) T100 (mkF m 112 #[.val (.int p1), .val (.int p2), .val (.int p3), .val (.int p4), .val (.ref b82), .val (.ref b89), .val (.ref y95), .val (.ref y100), .val (.int (1 : Int32)), .val (.ref b89), .unset, .unset, .unset] [(.int (1 : Int32))]) := fun t k => go135 t (by
          show Steps p.tables e below (T100.setTop (mkF m 88 #[.val (.int p1), .val (.int p2), .val (.int p3), .val (.int p4), .val (.ref b82), .val (.ref b89), .val (.ref y95), .val (.ref y100), .val (.int (1 : Int32)), .unset, .unset, .unset, .unset] [(.int (p4 &&& (2 : Int32)))])) _
          refine XS.ifNo X100.here hx rfl (hb hby at_88) rfl ((if0 _ _).trans (feq hc88_136).1) ?_
          show Steps p.tables e below (T100.setTop (mkF m 91 #[.val (.int p1), .val (.int p2), .val (.int p3), .val (.int p4), .val (.ref b82), .val (.ref b89), .val (.ref y95), .val (.ref y100), .val (.int (1 : Int32)), .unset, .unset, .unset, .unset] [])) _
          refine XS.aload X100.here hx rfl (hb hby at_91) rfl rfl ?_
          show Steps p.tables e below (T100.setTop (mkF m 93 #[.val (.int p1), .val (.int p2), .val (.int p3), .val (.int p4), .val (.ref b82), .val (.ref b89), .val (.ref y95), .val (.ref y100), .val (.int (1 : Int32)), .unset, .unset, .unset, .unset] [(.ref b89)])) _
          refine XS.goto X100.here hx rfl (pc0 := 93) (pc' := 108) rfl (hb hby at_93) (by decide) (by decide) ?_
          show Steps p.tables e below (T100.setTop (mkF m 108 #[.val (.int p1), .val (.int p2), .val (.int p3), .val (.int p4), .val (.ref b82), .val (.ref b89), .val (.ref y95), .val (.ref y100), .val (.int (1 : Int32)), .unset, .unset, .unset, .unset] [(.ref b89)])) _
          refine XS.astore X100.here hx rfl (hb hby at_108) rfl rfl (l' := #[.val (.int p1), .val (.int p2), .val (.int p3), .val (.int p4), .val (.ref b82), .val (.ref b89), .val (.ref y95), .val (.ref y100), .val (.int (1 : Int32)), .val (.ref b89), .unset, .unset, .unset]) rfl ?_
          show Steps p.tables e below (T100.setTop (mkF m 110 #[.val (.int p1), .val (.int p2), .val (.int p3), .val (.int p4), .val (.ref b82), .val (.ref b89), .val (.ref y95), .val (.ref y100), .val (.int (1 : Int32)), .val (.ref b89), .unset, .unset, .unset] [])) _
          refine XS.iload X100.here hx rfl (hb hby at_110) rfl ?_
          exact k)
        have go161 : Goes p e below s₁ (entryFrame m #[(.int p1), (.int p2), (.int p3), (.int p4)] maxLocals) T100 (mkF m 115 #[.val (.int p1), .val (.int p2), .val (.int p3), .val (.int p4), .val (.ref b82), .val (.ref b89), .val (.ref y95), .val (.ref y100), .val (.int (1 : Int32)), .val (.ref b89), .unset, .unset, .unset] []) := fun t k => go140 t (by
          show Steps p.tables e below (T100.setTop (mkF m 112 #[.val (.int p1), .val (.int p2), .val (.int p3), .val (.int p4), .val (.ref b82), .val (.ref b89), .val (.ref y95), .val (.ref y100), .val (.int (1 : Int32)), .val (.ref b89), .unset, .unset, .unset] [(.int (1 : Int32))])) _
          refine XS.ifNo X100.here hx rfl (hb hby at_112) rfl ((if0 _ _).trans (feq (by decide)).1) ?_
          exact k)
        obtain ⟨T162, h162, X162, e162, E162, A162, D162, -, st162⟩ := newO X100 hx hZ hown (hw _ (List.mem_of_getElem? (i := 44) rfl)) (hw _ (List.mem_of_getElem? (i := 45) rfl)) (hw _ (List.mem_of_getElem? (i := 46) rfl)) rfl (g := (mkF m 115 #[.val (.int p1), .val (.int p2), .val (.int p3), .val (.int p4), .val (.ref b82), .val (.ref b89), .val (.ref y95), .val (.ref y100), .val (.int (1 : Int32)), .val (.ref b89), .unset, .unset, .unset] [])) rfl (hb hby at_115) (by decide) (by decide)
        obtain ⟨b162, g162⟩ : ∃ z, z = T100.heap.size := ⟨_, rfl⟩
        rw [← g162] at A162 D162 st162
        have g_b162 : n0 ≤ b162 := Nat.le_trans ZS100 (Nat.le_of_eq g162.symm)
        have O162 := O100.ext E162
        have ZS162 : n0 ≤ h162.size := Nat.le_trans ZS100 E162.1
        have F162_id : Fld Z h162 b162 "com/example/rightful_keys/rightfulkeys/store/Account" "id" "Ljava/lang/String;" .null := D162 (Or.inr (hw _ (List.mem_of_getElem? (i := 57) rfl))) (ty := (.object "java/lang/String")) (by decide)
        have F162_name : Fld Z h162 b162 "com/example/rightful_keys/rightfulkeys/store/Account" "name" "Ljava/lang/String;" .null := D162 (Or.inr (hw _ (List.mem_of_getElem? (i := 59) rfl))) (ty := (.object "java/lang/String")) (by decide)
        have ne163 : b89 ≠ b162 := Nat.ne_of_lt (Nat.lt_of_lt_of_le (((A89.keep K92).keep K95).keep K100).lt (Nat.le_of_eq g162.symm))
        have go162 : Goes p e below s₁ (entryFrame m #[(.int p1), (.int p2), (.int p3), (.int p4)] maxLocals) T162 (mkF m 118 #[.val (.int p1), .val (.int p2), .val (.int p3), .val (.int p4), .val (.ref b82), .val (.ref b89), .val (.ref y95), .val (.ref y100), .val (.int (1 : Int32)), .val (.ref b89), .unset, .unset, .unset] [(.ref b162)]) := fun t k => go161 t (st162 _ k)
        have go164 : Goes p e below s₁ (entryFrame m #[(.int p1), (.int p2), (.int p3), (.int p4)] maxLocals) T162 (mkF m 123 #[.val (.int p1), .val (.int p2), .val (.int p3), .val (.int p4), .val (.ref b82), .val (.ref b89), .val (.ref y95), .val (.ref y100), .val (.int (1 : Int32)), .val (.ref b89), .unset, .unset, .unset] [(.ref y95), (.ref b89), (.ref b162), (.ref b162)]) := fun t k => go162 t (by
          show Steps p.tables e below (T162.setTop (mkF m 118 #[.val (.int p1), .val (.int p2), .val (.int p3), .val (.int p4), .val (.ref b82), .val (.ref b89), .val (.ref y95), .val (.ref y100), .val (.int (1 : Int32)), .val (.ref b89), .unset, .unset, .unset] [(.ref b162)])) _
          refine XS.dup X162.here hx rfl (hb hby at_118) rfl rfl ?_
          show Steps p.tables e below (T162.setTop (mkF m 119 #[.val (.int p1), .val (.int p2), .val (.int p3), .val (.int p4), .val (.ref b82), .val (.ref b89), .val (.ref y95), .val (.ref y100), .val (.int (1 : Int32)), .val (.ref b89), .unset, .unset, .unset] [(.ref b162), (.ref b162)])) _
          refine XS.aload X162.here hx rfl (hb hby at_119) rfl rfl ?_
          show Steps p.tables e below (T162.setTop (mkF m 121 #[.val (.int p1), .val (.int p2), .val (.int p3), .val (.int p4), .val (.ref b82), .val (.ref b89), .val (.ref y95), .val (.ref y100), .val (.int (1 : Int32)), .val (.ref b89), .unset, .unset, .unset] [(.ref b89), (.ref b162), (.ref b162)])) _
          refine XS.aload X162.here hx rfl (hb hby at_121) rfl rfl ?_
          exact k)
        obtain ⟨_, _, ⟨T165, L165, k165, n165⟩, -, X165, ⟨Lc165, hQ165, l165, y165, z165⟩, st165⟩ := X162.specialBack hx (y := (⟨"com/example/rightful_keys/rightfulkeys/store/Account", "<init>", "(Ljava/lang/String;Ljava/lang/String;)V"⟩ : MethodName)) rfl hown (mvT hZ (hw _ (List.mem_of_getElem? (i := 47) rfl))) (mvT hZ (hw _ (List.mem_of_getElem? (i := 48) rfl))) (mvT hZ (hw _ (List.mem_of_getElem? (i := 49) rfl))) (by decide) (backOf (W := 1) (rm11 l Z a0 hw [] b162 b89 y95  h162 n0 ZS162 g_b162 A162 F162_id F162_name) hZ (hw _ (List.mem_of_getElem? (i := 49) rfl)) (hw _ (List.mem_of_getElem? (i := 46) rfl)) (by decide) (by decide)) (g := (mkF m 123 #[.val (.int p1), .val (.int p2), .val (.int p3), .val (.int p4), .val (.ref b82), .val (.ref b89), .val (.ref y95), .val (.ref y100), .val (.int (1 : Int32)), .val (.ref b89), .unset, .unset, .unset] [(.ref y95), (.ref b89), (.ref b162), (.ref b162)])) rfl (by rw [hml]; rfl) (Steps.refl _) (a := b162) (argsL := [(.ref b89), (.ref y95)]) (rest := [(.ref b162)]) (lenOf pd_9 rfl) rfl (by show 2 * 0 + _ ≤ _; exact Nat.le_of_eq rfl) (hb hby at_123) (fun _ _ => ⟨rfl, e162, (by decide : 8 + 0 ≤ _), (by decide : 20 + 0 ≤ _)⟩)
        dsimp only [Pt.U, Pt.locs, Pt.cells, Pt.slots] at X165 l165 y165 z165 st165 hQ165
        subst l165 y165 z165
        obtain ⟨rfl, Nq165, K165⟩ := hQ165
        have N165 := Fr.app N100 Nq165
        have ZS165 : n0 ≤ T165.heap.size := Nat.le_trans ZS162 K165.1
        have O165 := O162.keep K165 (allS g_b162 all0)
        have go165 : Goes p e below s₁ (entryFrame m #[(.int p1), (.int p2), (.int p3), (.int p4)] maxLocals) T165 (mkF m 126 #[.val (.int p1), .val (.int p2), .val (.int p3), .val (.int p4), .val (.ref b82), .val (.ref b89), .val (.ref y95), .val (.ref y100), .val (.int (1 : Int32)), .val (.ref b89), .unset, .unset, .unset] [(.ref b162)]) := fun t k => go164 t (st165.trans k)
        have f166 := (((((A89.keep K92).keep K95).keep K100).ext E162).keep K165)
        have go167 : Goes p e below s₁ (entryFrame m #[(.int p1), (.int p2), (.int p3), (.int p4)] maxLocals) T165 (mkF m 132 #[.val (.int p1), .val (.int p2), .val (.int p3), .val (.int p4), .val (.ref b82), .val (.ref b89), .val (.ref y95), .val (.ref y100), .val (.int (1 : Int32)), .val (.ref b89), .val (.ref b162), .unset, .unset] []) := fun t k => go165 t (by
          show Steps p.tables e below (T165.setTop (mkF m 126 #[.val (.int p1), .val (.int p2), .val (.int p3), .val (.int p4), .val (.ref b82), .val (.ref b89), .val (.ref y95), .val (.ref y100), .val (.int (1 : Int32)), .val (.ref b89), .unset, .unset, .unset] [(.ref b162)])) _
          refine XS.goto X165.here hx rfl (pc0 := 126) (pc' := 130) rfl (hb hby at_126) (by decide) (by decide) ?_
          show Steps p.tables e below (T165.setTop (mkF m 130 #[.val (.int p1), .val (.int p2), .val (.int p3), .val (.int p4), .val (.ref b82), .val (.ref b89), .val (.ref y95), .val (.ref y100), .val (.int (1 : Int32)), .val (.ref b89), .unset, .unset, .unset] [(.ref b162)])) _
          refine XS.astore X165.here hx rfl (hb hby at_130) rfl rfl (l' := #[.val (.int p1), .val (.int p2), .val (.int p3), .val (.int p4), .val (.ref b82), .val (.ref b89), .val (.ref y95), .val (.ref y100), .val (.int (1 : Int32)), .val (.ref b89), .val (.ref b162), .unset, .unset]) rfl ?_
          exact k)
        obtain ⟨T168, h168, X168, e168, E168, A168, D168, -, st168⟩ := newO X165 hx hZ hown (hw _ (List.mem_of_getElem? (i := 60) rfl)) (hw _ (List.mem_of_getElem? (i := 61) rfl)) (hw _ (List.mem_of_getElem? (i := 62) rfl)) rfl (g := (mkF m 132 #[.val (.int p1), .val (.int p2), .val (.int p3), .val (.int p4), .val (.ref b82), .val (.ref b89), .val (.ref y95), .val (.ref y100), .val (.int (1 : Int32)), .val (.ref b89), .val (.ref b162), .unset, .unset] [])) rfl (hb hby at_132) (by decide) (by decide)
        obtain ⟨b168, g168⟩ : ∃ z, z = T165.heap.size := ⟨_, rfl⟩
        rw [← g168] at A168 D168 st168
        have g_b168 : n0 ≤ b168 := Nat.le_trans ZS165 (Nat.le_of_eq g168.symm)
        have O168 := O165.ext E168
        have ZS168 : n0 ≤ h168.size := Nat.le_trans ZS165 E168.1
        have F168_id : Fld Z h168 b168 "com/example/rightful_keys/rightfulkeys/store/Role" "id" "Ljava/lang/String;" .null := D168 (Or.inr (hw _ (List.mem_of_getElem? (i := 68) rfl))) (ty := (.object "java/lang/String")) (by decide)
        have F168_name : Fld Z h168 b168 "com/example/rightful_keys/rightfulkeys/store/Role" "name" "Ljava/lang/String;" .null := D168 (Or.inr (hw _ (List.mem_of_getElem? (i := 70) rfl))) (ty := (.object "java/lang/String")) (by decide)
        have F168_account : Fld Z h168 b168 "com/example/rightful_keys/rightfulkeys/store/Role" "account" "Lcom/example/rightful_keys/rightfulkeys/store/Account;" .null := D168 (Or.inr (hw _ (List.mem_of_getElem? (i := 72) rfl))) (ty := (.object "com/example/rightful_keys/rightfulkeys/store/Account")) (by decide)
        have F168_description : Fld Z h168 b168 "com/example/rightful_keys/rightfulkeys/store/Role" "description" "Ljava/lang/String;" .null := D168 (Or.inr (hw _ (List.mem_of_getElem? (i := 74) rfl))) (ty := (.object "java/lang/String")) (by decide)
        have F168_policy : Fld Z h168 b168 "com/example/rightful_keys/rightfulkeys/store/Role" "policy" "Ljava/util/Optional;" .null := D168 (Or.inr (hw _ (List.mem_of_getElem? (i := 76) rfl))) (ty := (.object "java/util/Optional")) (by decide)
        have ne169 : b89 ≠ b168 := Nat.ne_of_lt (Nat.lt_of_lt_of_le f166.lt (Nat.le_of_eq g168.symm))
        have ne170 : b162 ≠ b168 := Nat.ne_of_lt (Nat.lt_of_lt_of_le (A162.keep K165).lt (Nat.le_of_eq g168.symm))
        have go168 : Goes p e below s₁ (entryFrame m #[(.int p1), (.int p2), (.int p3), (.int p4)] maxLocals) T168 (mkF m 135 #[.val (.int p1), .val (.int p2), .val (.int p3), .val (.int p4), .val (.ref b82), .val (.ref b89), .val (.ref y95), .val (.ref y100), .val (.int (1 : Int32)), .val (.ref b89), .val (.ref b162), .unset, .unset] [(.ref b168)]) := fun t k => go167 t (st168 _ k)
        have go171 : Goes p e below s₁ (entryFrame m #[(.int p1), (.int p2), (.int p3), (.int p4)] maxLocals) T168 (mkF m 145 #[.val (.int p1), .val (.int p2), .val (.int p3), .val (.int p4), .val (.ref b82), .val (.ref b89), .val (.ref y95), .val (.ref y100), .val (.int (1 : Int32)), .val (.ref b89), .val (.ref b162), .unset, .unset] [.null, (.ref y100), (.ref b162), (.ref y95), (.ref b89), (.ref b168), (.ref b168)]) := fun t k => go168 t (by
          show Steps p.tables e below (T168.setTop (mkF m 135 #[.val (.int p1), .val (.int p2), .val (.int p3), .val (.int p4), .val (.ref b82), .val (.ref b89), .val (.ref y95), .val (.ref y100), .val (.int (1 : Int32)), .val (.ref b89), .val (.ref b162), .unset, .unset] [(.ref b168)])) _
          refine XS.dup X168.here hx rfl (hb hby at_135) rfl rfl ?_
          show Steps p.tables e below (T168.setTop (mkF m 136 #[.val (.int p1), .val (.int p2), .val (.int p3), .val (.int p4), .val (.ref b82), .val (.ref b89), .val (.ref y95), .val (.ref y100), .val (.int (1 : Int32)), .val (.ref b89), .val (.ref b162), .unset, .unset] [(.ref b168), (.ref b168)])) _
          refine XS.aload X168.here hx rfl (hb hby at_136) rfl rfl ?_
          show Steps p.tables e below (T168.setTop (mkF m 138 #[.val (.int p1), .val (.int p2), .val (.int p3), .val (.int p4), .val (.ref b82), .val (.ref b89), .val (.ref y95), .val (.ref y100), .val (.int (1 : Int32)), .val (.ref b89), .val (.ref b162), .unset, .unset] [(.ref b89), (.ref b168), (.ref b168)])) _
          refine XS.aload X168.here hx rfl (hb hby at_138) rfl rfl ?_
          show Steps p.tables e below (T168.setTop (mkF m 140 #[.val (.int p1), .val (.int p2), .val (.int p3), .val (.int p4), .val (.ref b82), .val (.ref b89), .val (.ref y95), .val (.ref y100), .val (.int (1 : Int32)), .val (.ref b89), .val (.ref b162), .unset, .unset] [(.ref y95), (.ref b89), (.ref b168), (.ref b168)])) _
          refine XS.aload X168.here hx rfl (hb hby at_140) rfl rfl ?_
          show Steps p.tables e below (T168.setTop (mkF m 142 #[.val (.int p1), .val (.int p2), .val (.int p3), .val (.int p4), .val (.ref b82), .val (.ref b89), .val (.ref y95), .val (.ref y100), .val (.int (1 : Int32)), .val (.ref b89), .val (.ref b162), .unset, .unset] [(.ref b162), (.ref y95), (.ref b89), (.ref b168), (.ref b168)])) _
          refine XS.aload X168.here hx rfl (hb hby at_142) rfl rfl ?_
          show Steps p.tables e below (T168.setTop (mkF m 144 #[.val (.int p1), .val (.int p2), .val (.int p3), .val (.int p4), .val (.ref b82), .val (.ref b89), .val (.ref y95), .val (.ref y100), .val (.int (1 : Int32)), .val (.ref b89), .val (.ref b162), .unset, .unset] [(.ref y100), (.ref b162), (.ref y95), (.ref b89), (.ref b168), (.ref b168)])) _
          refine XS.aconstNull X168.here hx rfl (hb hby at_144) ?_
          exact k)
        obtain ⟨_, _, ⟨T172, L172, k172, n172⟩, -, X172, ⟨Lc172, hQ172, l172, y172, z172⟩, st172⟩ := X168.specialBack hx (y := (⟨"com/example/rightful_keys/rightfulkeys/store/Role", "<init>", "(Ljava/lang/String;Ljava/lang/String;Lcom/example/rightful_keys/rightfulkeys/store/Account;Ljava/lang/String;Ljava/util/Optional;)V"⟩ : MethodName)) rfl hown (mvT hZ (hw _ (List.mem_of_getElem? (i := 63) rfl))) (mvT hZ (hw _ (List.mem_of_getElem? (i := 64) rfl))) (mvT hZ (hw _ (List.mem_of_getElem? (i := 65) rfl))) (by decide) (backOf (W := 1) (rm13a l Z a0 hw [] b168 b89 y95 b162 y100   h168 n0 ZS168 g_b168 A168 F168_id F168_name F168_account F168_description F168_policy) hZ (hw _ (List.mem_of_getElem? (i := 65) rfl)) (hw _ (List.mem_of_getElem? (i := 62) rfl)) (by decide) (by decide)) (g := (mkF m 145 #[.val (.int p1), .val (.int p2), .val (.int p3), .val (.int p4), .val (.ref b82), .val (.ref b89), .val (.ref y95), .val (.ref y100), .val (.int (1 : Int32)), .val (.ref b89), .val (.ref b162), .unset, .unset] [.null, (.ref y100), (.ref b162), (.ref y95), (.ref b89), (.ref b168), (.ref b168)])) rfl (by rw [hml]; rfl) (Steps.refl _) (a := b168) (argsL := [(.ref b89), (.ref y95), (.ref b162), (.ref y100), .null]) (rest := [(.ref b168)]) (lenOf pd_6 rfl) rfl (by show 2 * 0 + _ ≤ _; exact Nat.le_of_eq rfl) (hb hby at_145) (fun _ _ => ⟨rfl, e168, (by decide : 9 + 0 ≤ _), (by decide : 25 + 0 ≤ _)⟩)
        dsimp only [Pt.U, Pt.locs, Pt.cells, Pt.slots] at X172 l172 y172 z172 st172 hQ172
        subst l172 y172 z172
        obtain ⟨rfl, Nq172, K172, A172, F172⟩ := hQ172
        have N172 := Fr.app N165 Nq172
        have ZS172 : n0 ≤ T172.heap.size := Nat.le_trans ZS168 K172.1
        have O172 := O168.keep K172 (allS g_b168 all0)
        have go172 : Goes p e below s₁ (entryFrame m #[(.int p1), (.int p2), (.int p3), (.int p4)] maxLocals) T172 (mkF m 148 #[.val (.int p1), .val (.int p2), .val (.int p3), .val (.int p4), .val (.ref b82), .val (.ref b89), .val (.ref y95), .val (.ref y100), .val (.int (1 : Int32)), .val (.ref b89), .val (.ref b162), .unset, .unset] [(.ref b168)]) := fun t k => go171 t (st172.trans k)
        have go173 : Goes p e below s₁ (entryFrame m #[(.int p1), (.int p2), (.int p3), (.int p4)] maxLocals) T172 (mkF m 152 #[.val (.int p1), .val (.int p2), .val (.int p3), .val (.int p4), .val (.ref b82), .val (.ref b89), .val (.ref y95), .val (.ref y100), .val (.int (1 : Int32)), .val (.ref b89), .val (.ref b162), .val (.ref b168), .unset] [(.ref b168)]) := fun t k => go172 t (by
          show Steps p.tables e below (T172.setTop (mkF m 148 #[.val (.int p1), .val (.int p2), .val (.int p3), .val (.int p4), .val (.ref b82), .val (.ref b89), .val (.ref y95), .val (.ref y100), .val (.int (1 : Int32)), .val (.ref b89), .val (.ref b162), .unset, .unset] [(.ref b168)])) _
          refine XS.astore X172.here hx rfl (hb hby at_148) rfl rfl (l' := #[.val (.int p1), .val (.int p2), .val (.int p3), .val (.int p4), .val (.ref b82), .val (.ref b89), .val (.ref y95), .val (.ref y100), .val (.int (1 : Int32)), .val (.ref b89), .val (.ref b162), .val (.ref b168), .unset]) rfl ?_
          show Steps p.tables e below (T172.setTop (mkF m 150 #[.val (.int p1), .val (.int p2), .val (.int p3), .val (.int p4), .val (.ref b82), .val (.ref b89), .val (.ref y95), .val (.ref y100), .val (.int (1 : Int32)), .val (.ref b89), .val (.ref b162), .val (.ref b168), .unset] [])) _
          refine XS.aload X172.here hx rfl (hb hby at_150) rfl rfl ?_
          exact k)
        obtain ⟨cq174, kq174, q174a, q174b, q174c⟩ := isOf hZ rfl A172
        obtain ⟨_, _, ⟨T174, L174, k174, n174⟩, -, X174, ⟨Lc174, hQ174, l174, y174, z174⟩, st174⟩ := X172.virtualBack hx (y := (⟨"com/example/rightful_keys/rightfulkeys/store/Role", "isSystem", "()Z"⟩ : MethodName)) (z := (⟨"com/example/rightful_keys/rightfulkeys/store/Role", "isSystem", "()Z"⟩ : MethodName)) hown (mvT hZ (hw _ (List.mem_of_getElem? (i := 77) rfl))) (mvT hZ (hw _ (List.mem_of_getElem? (i := 78) rfl))) (notFace_of_selects (args := #[]) (mvT hZ (hw _ (List.mem_of_getElem? (i := 80) rfl)))) (mvT hZ (hw _ (List.mem_of_getElem? (i := 80) rfl))) (mvT hZ (hw _ (List.mem_of_getElem? (i := 79) rfl))) (by decide) (backOf (W := 0) (rm14a l Z a0 hw [] b168 b162 T172.heap n0 ZS172 F172) hZ (hw _ (List.mem_of_getElem? (i := 81) rfl)) (hw _ (List.mem_of_getElem? (i := 62) rfl)) (by decide) (by decide)) q174a q174c (g := (mkF m 152 #[.val (.int p1), .val (.int p2), .val (.int p3), .val (.int p4), .val (.ref b82), .val (.ref b89), .val (.ref y95), .val (.ref y100), .val (.int (1 : Int32)), .val (.ref b89), .val (.ref b162), .val (.ref b168), .unset] [(.ref b168)])) rfl (by rw [hml]; rfl) (Steps.refl _) (argsL := []) (rest := []) (lenOf pd_7 rfl) rfl (by show 2 * 0 + _ ≤ _; exact Nat.le_of_eq rfl) (hb hby at_152) (fun _ _ => ⟨rfl, rfl, (by decide : 9 + 0 ≤ _), (by decide : 25 + 0 ≤ _)⟩)
        dsimp only [Pt.U, Pt.locs, Pt.cells, Pt.slots] at X174 l174 y174 z174 st174 hQ174
        subst l174 y174 z174
        obtain ⟨rfl, Nq174, eq174⟩ := hQ174
        have N174 := Fr.app N172 Nq174
        have go174 : Goes p e below s₁ (entryFrame m #[(.int p1), (.int p2), (.int p3), (.int p4)] maxLocals) T174 (mkF m 155 #[.val (.int p1), .val (.int p2), .val (.int p3), .val (.int p4), .val (.ref b82), .val (.ref b89), .val (.ref y95), .val (.ref y100), .val (.int (1 : Int32)), .val (.ref b89), .val (.ref b162), .val (.ref b168), .unset] [(.int (0 : Int32))]) := fun t k => go173 t (st174.trans k)
        have go175 : Goes p e below s₁ (entryFrame m #[(.int p1), (.int p2), (.int p3), (.int p4)] maxLocals) T174 (mkF m 161 #[.val (.int p1), .val (.int p2), .val (.int p3), .val (.int p4), .val (.ref b82), .val (.ref b89), .val (.ref y95), .val (.ref y100), .val (.int (1 : Int32)), .val (.ref b89), .val (.ref b162), .val (.ref b168), .val (.int (0 : Int32))] [(.int (1 : Int32)), (.int (0 : Int32))]) := fun t k => go174 t (by
          show Steps p.tables e below (T174.setTop (mkF m 155 #[.val (.int p1), .val (.int p2), .val (.int p3), .val (.int p4), .val (.ref b82), .val (.ref b89), .val (.ref y95), .val (.ref y100), .val (.int (1 : Int32)), .val (.ref b89), .val (.ref b162), .val (.ref b168), .unset] [(.int (0 : Int32))])) _
          refine XS.istore X174.here hx rfl (hb hby at_155) rfl (l' := #[.val (.int p1), .val (.int p2), .val (.int p3), .val (.int p4), .val (.ref b82), .val (.ref b89), .val (.ref y95), .val (.ref y100), .val (.int (1 : Int32)), .val (.ref b89), .val (.ref b162), .val (.ref b168), .val (.int (0 : Int32))]) rfl ?_
          show Steps p.tables e below (T174.setTop (mkF m 157 #[.val (.int p1), .val (.int p2), .val (.int p3), .val (.int p4), .val (.ref b82), .val (.ref b89), .val (.ref y95), .val (.ref y100), .val (.int (1 : Int32)), .val (.ref b89), .val (.ref b162), .val (.ref b168), .val (.int (0 : Int32))] [])) _
          refine XS.iload X174.here hx rfl (hb hby at_157) rfl ?_
          show Steps p.tables e below (T174.setTop (mkF m 159 #[.val (.int p1), .val (.int p2), .val (.int p3), .val (.int p4), .val (.ref b82), .val (.ref b89), .val (.ref y95), .val (.ref y100), .val (.int (1 : Int32)), .val (.ref b89), .val (.ref b162), .val (.ref b168), .val (.int (0 : Int32))] [(.int (0 : Int32))])) _
          refine XS.iload X174.here hx rfl (hb hby at_159) rfl ?_
          exact k)
        have go176 : Goes p e below s₁ (entryFrame m #[(.int p1), (.int p2), (.int p3), (.int p4)] maxLocals) T174 (mkF m 169 #[.val (.int p1), .val (.int p2), .val (.int p3), .val (.int p4), .val (.ref b82), .val (.ref b89), .val (.ref y95), .val (.ref y100), .val (.int (1 : Int32)), .val (.ref b89), .val (.ref b162), .val (.ref b168), .val (.int (0 : Int32))] [(.int (0 : Int32)), (.int (0 : Int32))]) := fun t k => go175 t (by
          show Steps p.tables e below (T174.setTop (mkF m 161 #[.val (.int p1), .val (.int p2), .val (.int p3), .val (.int p4), .val (.ref b82), .val (.ref b89), .val (.ref y95), .val (.ref y100), .val (.int (1 : Int32)), .val (.ref b89), .val (.ref b162), .val (.ref b168), .val (.int (0 : Int32))] [(.int (1 : Int32)), (.int (0 : Int32))])) _
          refine XS.ifYes X174.here hx rfl (pc0 := 161) (pc' := 168) rfl (hb hby at_161) rfl ((if0 _ _).trans (feq (by decide)).2) (by decide) (by decide) ?_
          show Steps p.tables e below (T174.setTop (mkF m 168 #[.val (.int p1), .val (.int p2), .val (.int p3), .val (.int p4), .val (.ref b82), .val (.ref b89), .val (.ref y95), .val (.ref y100), .val (.int (1 : Int32)), .val (.ref b89), .val (.ref b162), .val (.ref b168), .val (.int (0 : Int32))] [(.int (0 : Int32))])) _
          refine XS.iconst X174.here hx rfl (hb hby at_168) ?_
          exact k)
        have go177 : Goes p e below s₁ (entryFrame m #[(.int p1), (.int p2), (.int p3), (.int p4)] maxLocals) T174 (mkF m 176 #[.val (.int p1), .val (.int p2), .val (.int p3), .val (.int p4), .val (.ref b82), .val (.ref b89), .val (.ref y95), .val (.ref y100), .val (.int (1 : Int32)), .val (.ref b89), .val (.ref b162), .val (.ref b168), .val (.int (0 : Int32))] [(.ref b168), (.int (0 : Int32))]) := fun t k => go176 t (by
          show Steps p.tables e below (T174.setTop (mkF m 169 #[.val (.int p1), .val (.int p2), .val (.int p3), .val (.int p4), .val (.ref b82), .val (.ref b89), .val (.ref y95), .val (.ref y100), .val (.int (1 : Int32)), .val (.ref b89), .val (.ref b162), .val (.ref b168), .val (.int (0 : Int32))] [(.int (0 : Int32)), (.int (0 : Int32))])) _
          refine XS.icmpNo X174.here hx rfl (hb hby at_169) rfl (teq rfl).2 ?_
          show Steps p.tables e below (T174.setTop (mkF m 172 #[.val (.int p1), .val (.int p2), .val (.int p3), .val (.int p4), .val (.ref b82), .val (.ref b89), .val (.ref y95), .val (.ref y100), .val (.int (1 : Int32)), .val (.ref b89), .val (.ref b162), .val (.ref b168), .val (.int (0 : Int32))] [])) _
          refine XS.iload X174.here hx rfl (hb hby at_172) rfl ?_
          show Steps p.tables e below (T174.setTop (mkF m 174 #[.val (.int p1), .val (.int p2), .val (.int p3), .val (.int p4), .val (.ref b82), .val (.ref b89), .val (.ref y95), .val (.ref y100), .val (.int (1 : Int32)), .val (.ref b89), .val (.ref b162), .val (.ref b168), .val (.int (0 : Int32))] [(.int (0 : Int32))])) _
          refine XS.aload X174.here hx rfl (hb hby at_174) rfl rfl ?_
          exact k)
        obtain ⟨cq178, kq178, q178a, q178b, q178c⟩ := isOf hZ eq174 A172
        obtain ⟨_, _, ⟨T178, L178, k178, n178⟩, -, X178, ⟨Lc178, hQ178, l178, y178, z178⟩, st178⟩ := X174.virtualBack hx (y := (⟨"com/example/rightful_keys/rightfulkeys/store/Role", "account", "()Lcom/example/rightful_keys/rightfulkeys/store/Account;"⟩ : MethodName)) (z := (⟨"com/example/rightful_keys/rightfulkeys/store/Role", "account", "()Lcom/example/rightful_keys/rightfulkeys/store/Account;"⟩ : MethodName)) hown (mvT hZ (hw _ (List.mem_of_getElem? (i := 82) rfl))) (mvT hZ (hw _ (List.mem_of_getElem? (i := 83) rfl))) (notFace_of_selects (args := #[]) (mvT hZ (hw _ (List.mem_of_getElem? (i := 85) rfl)))) (mvT hZ (hw _ (List.mem_of_getElem? (i := 85) rfl))) (mvT hZ (hw _ (List.mem_of_getElem? (i := 84) rfl))) (by decide) (backOf (W := 1) (rm15a l Z a0 hw [] b168 b162 T172.heap n0 ZS172 F172) hZ (hw _ (List.mem_of_getElem? (i := 86) rfl)) (hw _ (List.mem_of_getElem? (i := 62) rfl)) (by decide) (by decide)) q178a q178c (g := (mkF m 176 #[.val (.int p1), .val (.int p2), .val (.int p3), .val (.int p4), .val (.ref b82), .val (.ref b89), .val (.ref y95), .val (.ref y100), .val (.int (1 : Int32)), .val (.ref b89), .val (.ref b162), .val (.ref b168), .val (.int (0 : Int32))] [(.ref b168), (.int (0 : Int32))])) rfl (by rw [hml]; rfl) (Steps.refl _) (argsL := []) (rest := [(.int (0 : Int32))]) (lenOf pd_8 rfl) rfl (by show 2 * 0 + _ ≤ _; exact Nat.le_of_eq rfl) (hb hby at_176) (fun _ _ => ⟨rfl, eq174, (by decide : 9 + 0 ≤ _), (by decide : 25 + 0 ≤ _)⟩)
        dsimp only [Pt.U, Pt.locs, Pt.cells, Pt.slots] at X178 l178 y178 z178 st178 hQ178
        subst l178 y178 z178
        obtain ⟨rfl, Nq178, eq178⟩ := hQ178
        have N178 := Fr.app N174 Nq178
        have go178 : Goes p e below s₁ (entryFrame m #[(.int p1), (.int p2), (.int p3), (.int p4)] maxLocals) T178 (mkF m 179 #[.val (.int p1), .val (.int p2), .val (.int p3), .val (.int p4), .val (.ref b82), .val (.ref b89), .val (.ref y95), .val (.ref y100), .val (.int (1 : Int32)), .val (.ref b89), .val (.ref b162), .val (.ref b168), .val (.int (0 : Int32))] [(.ref b162), (.int (0 : Int32))]) := fun t k => go177 t (st178.trans k)
        have go179 : Goes p e below s₁ (entryFrame m #[(.int p1), (.int p2), (.int p3), (.int p4)] maxLocals) T178 (mkF m 187 #[.val (.int p1), .val (.int p2), .val (.int p3), .val (.int p4), .val (.ref b82), .val (.ref b89), .val (.ref y95), .val (.ref y100), .val (.int (1 : Int32)), .val (.ref b89), .val (.ref b162), .val (.ref b168), .val (.int (0 : Int32))] [(.int (0 : Int32)), (.int (0 : Int32))]) := fun t k => go178 t (by
          show Steps p.tables e below (T178.setTop (mkF m 179 #[.val (.int p1), .val (.int p2), .val (.int p3), .val (.int p4), .val (.ref b82), .val (.ref b89), .val (.ref y95), .val (.ref y100), .val (.int (1 : Int32)), .val (.ref b89), .val (.ref b162), .val (.ref b168), .val (.int (0 : Int32))] [(.ref b162), (.int (0 : Int32))])) _
          refine XS.ifnonnullYes X178.here hx rfl (pc0 := 179) (pc' := 186) rfl (hb hby at_179) rfl (by decide) (by decide) ?_
          show Steps p.tables e below (T178.setTop (mkF m 186 #[.val (.int p1), .val (.int p2), .val (.int p3), .val (.int p4), .val (.ref b82), .val (.ref b89), .val (.ref y95), .val (.ref y100), .val (.int (1 : Int32)), .val (.ref b89), .val (.ref b162), .val (.ref b168), .val (.int (0 : Int32))] [(.int (0 : Int32))])) _
          refine XS.iconst X178.here hx rfl (hb hby at_186) ?_
          exact k)
        have go180 : Goes p e below s₁ (entryFrame m #[(.int p1), (.int p2), (.int p3), (.int p4)] maxLocals) T178 (mkF m 195 #[.val (.int p1), .val (.int p2), .val (.int p3), .val (.int p4), .val (.ref b82), .val (.ref b89), .val (.ref y95), .val (.ref y100), .val (.int (1 : Int32)), .val (.ref b89), .val (.ref b162), .val (.ref b168), .val (.int (0 : Int32))] [(.int (1 : Int32))]) := fun t k => go179 t (by
          show Steps p.tables e below (T178.setTop (mkF m 187 #[.val (.int p1), .val (.int p2), .val (.int p3), .val (.int p4), .val (.ref b82), .val (.ref b89), .val (.ref y95), .val (.ref y100), .val (.int (1 : Int32)), .val (.ref b89), .val (.ref b162), .val (.ref b168), .val (.int (0 : Int32))] [(.int (0 : Int32)), (.int (0 : Int32))])) _
          refine XS.icmpNo X178.here hx rfl (hb hby at_187) rfl (teq rfl).2 ?_
          show Steps p.tables e below (T178.setTop (mkF m 190 #[.val (.int p1), .val (.int p2), .val (.int p3), .val (.int p4), .val (.ref b82), .val (.ref b89), .val (.ref y95), .val (.ref y100), .val (.int (1 : Int32)), .val (.ref b89), .val (.ref b162), .val (.ref b168), .val (.int (0 : Int32))] [])) _
          refine XS.iconst X178.here hx rfl (hb hby at_190) ?_
          show Steps p.tables e below (T178.setTop (mkF m 191 #[.val (.int p1), .val (.int p2), .val (.int p3), .val (.int p4), .val (.ref b82), .val (.ref b89), .val (.ref y95), .val (.ref y100), .val (.int (1 : Int32)), .val (.ref b89), .val (.ref b162), .val (.ref b168), .val (.int (0 : Int32))] [(.int (1 : Int32))])) _
          refine XS.goto X178.here hx rfl (pc0 := 191) (pc' := 195) rfl (hb hby at_191) (by decide) (by decide) ?_
          exact k)
        obtain ⟨fs, hr, hrun, hended, hW, hsame⟩ := X178.leave (v := some (.int (1 : Int32))) (fun h => by rw [Bd.returns] at h; cases h)
        refine ⟨_, _, go180 _ ?_, hrun, hended, _, _, rfl, ?_, ReturnedEndW.of_narrow ⟨_, rfl⟩ hW (hsame.mono (by decide) (by decide))⟩
        · exact retN X178 hx (t := .boolean) Bd.returns (by simp) (hb hby at_195) hr
        · show Q_rm0 Z p1 p2 p3 p4 cz h0 n0 _ T178.heap _
          rw [eq178]
          exact ⟨rfl, N178⟩
  · have go97 : Goes p e below s₁ (entryFrame m #[(.int p1), (.int p2), (.int p3), (.int p4)] maxLocals) T92 (mkF m 45 #[.val (.int p1), .val (.int p2), .val (.int p3), .val (.int p4), .val (.ref b82), .val (.ref b89), .unset, .unset, .unset, .unset, .unset, .unset, .unset] []) := fun t k => go93 t (by
      show Steps p.tables e below (T92.setTop (mkF m 42 #[.val (.int p1), .val (.int p2), .val (.int p3), .val (.int p4), .val (.ref b82), .val (.ref b89), .unset, .unset, .unset, .unset, .unset, .unset, .unset] [(.int (p4 &&& (4 : Int32)))])) _
      refine XS.ifNo X92.here hx rfl (hb hby at_42) rfl ((if0 _ _).trans (feq hf4).1) ?_
      exact k)
    obtain ⟨a98, T98, h98, ks98, X98, e98, E98, hS98, hk98, hZ98, hown98, st98⟩ := ldcS (s := s) (vm0 := s.vm) X92 hx hZ hown (hw _ (List.mem_of_getElem? (i := 87) rfl)) wS rfl ((State.WarmedH.refl s).since 0) (Nat.zero_le _) (g := (mkF m 45 #[.val (.int p1), .val (.int p2), .val (.int p3), .val (.int p4), .val (.ref b82), .val (.ref b89), .unset, .unset, .unset, .unset, .unset, .unset, .unset] [])) rfl (hb hby at_45) (n := 0) (by decide) (by decide) (by decide) (by decide)
    have O98 := O92.ext E98
    have ZS98 : n0 ≤ h98.size := Nat.le_trans ZS92 E98.1
    have hZ := hZ98
    have hown := hown98
    have go98 : Goes p e below s₁ (entryFrame m #[(.int p1), (.int p2), (.int p3), (.int p4)] maxLocals) T98 (mkF m 47 #[.val (.int p1), .val (.int p2), .val (.int p3), .val (.int p4), .val (.ref b82), .val (.ref b89), .unset, .unset, .unset, .unset, .unset, .unset, .unset] [(.ref a98)]) := fun t k => go97 t (st98 _ k)
    have go99 : Goes p e below s₁ (entryFrame m #[(.int p1), (.int p2), (.int p3), (.int p4)] maxLocals) T98 (mkF m 67 #[.val (.int p1), .val (.int p2), .val (.int p3), .val (.int p4), .val (.ref b82), .val (.ref b89), .val (.ref a98), .unset, .unset, .unset, .unset, .unset, .unset] [(.int ((p3 &&& (255 : Int32)).toUInt32.toUInt16.toUInt32.toInt32))]) := fun t k => go98 t (by
      show Steps p.tables e below (T98.setTop (mkF m 47 #[.val (.int p1), .val (.int p2), .val (.int p3), .val (.int p4), .val (.ref b82), .val (.ref b89), .unset, .unset, .unset, .unset, .unset, .unset, .unset] [(.ref a98)])) _
      refine XS.goto X98.here hx rfl (pc0 := 47) (pc' := 59) rfl (hb hby at_47) (by decide) (by decide) ?_
      show Steps p.tables e below (T98.setTop (mkF m 59 #[.val (.int p1), .val (.int p2), .val (.int p3), .val (.int p4), .val (.ref b82), .val (.ref b89), .unset, .unset, .unset, .unset, .unset, .unset, .unset] [(.ref a98)])) _
      refine XS.astore X98.here hx rfl (hb hby at_59) rfl rfl (l' := #[.val (.int p1), .val (.int p2), .val (.int p3), .val (.int p4), .val (.ref b82), .val (.ref b89), .val (.ref a98), .unset, .unset, .unset, .unset, .unset, .unset]) rfl ?_
      show Steps p.tables e below (T98.setTop (mkF m 61 #[.val (.int p1), .val (.int p2), .val (.int p3), .val (.int p4), .val (.ref b82), .val (.ref b89), .val (.ref a98), .unset, .unset, .unset, .unset, .unset, .unset] [])) _
      refine XS.iloadN X98.here hx rfl (hb hby at_61) rfl ?_
      show Steps p.tables e below (T98.setTop (mkF m 62 #[.val (.int p1), .val (.int p2), .val (.int p3), .val (.int p4), .val (.ref b82), .val (.ref b89), .val (.ref a98), .unset, .unset, .unset, .unset, .unset, .unset] [(.int p3)])) _
      refine XS.sipush X98.here hx rfl (hb hby at_62) ?_
      show Steps p.tables e below (T98.setTop (mkF m 65 #[.val (.int p1), .val (.int p2), .val (.int p3), .val (.int p4), .val (.ref b82), .val (.ref b89), .val (.ref a98), .unset, .unset, .unset, .unset, .unset, .unset] [(.int (255 : Int32)), (.int p3)])) _
      refine XS.iand X98.here hx rfl (hb hby at_65) rfl ?_
      show Steps p.tables e below (T98.setTop (mkF m 66 #[.val (.int p1), .val (.int p2), .val (.int p3), .val (.int p4), .val (.ref b82), .val (.ref b89), .val (.ref a98), .unset, .unset, .unset, .unset, .unset, .unset] [(.int (p3 &&& (255 : Int32)))])) _
      refine XS.i2c X98.here hx rfl (hb hby at_66) rfl ?_
      exact k)
    obtain ⟨_, _, ⟨T181, L181, k181, n181⟩, -, X181, ⟨Lc181, hQ181, l181, y181, z181⟩, st181⟩ := Jvm.LawKit.callS X98 hx (y := (⟨"java/lang/String", "valueOf", "(C)Ljava/lang/String;"⟩ : MethodName)) hown (mvT hZ (hw _ (List.mem_of_getElem? (i := 30) rfl))) (mvT hZ (hw _ (List.mem_of_getElem? (i := 31) rfl))) (mvT hZ (hw _ (List.mem_of_getElem? (i := 3) rfl))) (mvT hZ (hw _ (List.mem_of_getElem? (i := 32) rfl))) (by decide) (backOf (W := 0) (rm7 l Z a0 hw [] ((p3 &&& (255 : Int32)).toUInt32.toUInt16.toUInt32.toInt32) cz h98 n0 ZS98 (SC.ext O98.2) hz (own_255 _).2) hZ (hw _ (List.mem_of_getElem? (i := 32) rfl)) (hw _ (List.mem_of_getElem? (i := 3) rfl)) (by decide) (by decide)) (g := (mkF m 67 #[.val (.int p1), .val (.int p2), .val (.int p3), .val (.int p4), .val (.ref b82), .val (.ref b89), .val (.ref a98), .unset, .unset, .unset, .unset, .unset, .unset] [(.int ((p3 &&& (255 : Int32)).toUInt32.toUInt16.toUInt32.toInt32))])) rfl (by rw [hml]; rfl) (argsL := [(.int ((p3 &&& (255 : Int32)).toUInt32.toUInt16.toUInt32.toInt32))]) (rest := []) (lenOf pd_5 rfl) rfl (by show 2 * 0 + _ ≤ _; exact Nat.le_of_eq rfl) (hb hby at_67) (fun _ _ => ⟨rfl, e98, (by decide : 5 + 2 ≤ _), (by decide : 12 + 5 ≤ _)⟩)
    dsimp only [Pt.U, Pt.locs, Pt.cells, Pt.slots] at X181 l181 y181 z181 st181 hQ181
    subst l181 y181 z181
    obtain ⟨y181, rfl, Nq181, K181⟩ := hQ181
    have N181 := Fr.app N92 Nq181
    have ZS181 : n0 ≤ T181.heap.size := Nat.le_trans ZS98 K181.1
    have O181 := O98.keep K181 all0
    have go181 : Goes p e below s₁ (entryFrame m #[(.int p1), (.int p2), (.int p3), (.int p4)] maxLocals) T181 (mkF m 70 #[.val (.int p1), .val (.int p2), .val (.int p3), .val (.int p4), .val (.ref b82), .val (.ref b89), .val (.ref a98), .unset, .unset, .unset, .unset, .unset, .unset] [(.ref y181)]) := fun t k => go99 t (st181 _ k)
    have go182 : Goes p e below s₁ (entryFrame m #[(.int p1), (.int p2), (.int p3), (.int p4)] maxLocals) T181 (mkF m 75 #[.val (.int p1), .val (.int p2), .val (.int p3), .val (.int p4), .val (.ref b82), .val (.ref b89), .val (.ref a98), .val (.ref y181), .unset, .unset, .unset, .unset, .unset] [(.int (p4 &&& (1 : Int32)))]) := fun t k => go181 t (by
      show Steps p.tables e below (T181.setTop (mkF m 70 #[.val (.int p1), .val (.int p2), .val (.int p3), .val (.int p4), .val (.ref b82), .val (.ref b89), .val (.ref a98), .unset, .unset, .unset, .unset, .unset, .unset] [(.ref y181)])) _
      refine XS.astore X181.here hx rfl (hb hby at_70) rfl rfl (l' := #[.val (.int p1), .val (.int p2), .val (.int p3), .val (.int p4), .val (.ref b82), .val (.ref b89), .val (.ref a98), .val (.ref y181), .unset, .unset, .unset, .unset, .unset]) rfl ?_
      show Steps p.tables e below (T181.setTop (mkF m 72 #[.val (.int p1), .val (.int p2), .val (.int p3), .val (.int p4), .val (.ref b82), .val (.ref b89), .val (.ref a98), .val (.ref y181), .unset, .unset, .unset, .unset, .unset] [])) _
      refine XS.iloadN X181.here hx rfl (hb hby at_72) rfl ?_
      show Steps p.tables e below (T181.setTop (mkF m 73 #[.val (.int p1), .val (.int p2), .val (.int p3), .val (.int p4), .val (.ref b82), .val (.ref b89), .val (.ref a98), .val (.ref y181), .unset, .unset, .unset, .unset, .unset] [(.int p4)])) _
      refine XS.iconst X181.here hx rfl (hb hby at_73) ?_
      show Steps p.tables e below (T181.setTop (mkF m 74 #[.val (.int p1), .val (.int p2), .val (.int p3), .val (.int p4), .val (.ref b82), .val (.ref b89), .val (.ref a98), .val (.ref y181), .unset, .unset, .unset, .unset, .unset] [(.int (1 : Int32)), (.int p4)])) _
      refine XS.iand X181.here hx rfl (hb hby at_74) rfl ?_
      exact k)
    by_cases hc75_183 : (p4 &&& (1 : Int32)) = (0 : Int32)
    · have go184 : Goes p e below s₁ (entryFrame m #[(.int p1), (.int p2), (.int p3), (.int p4)] maxLocals) T181 (mkF m 88 #[.val (.int p1), .val (.int p2), .val (.int p3), .val (.int p4), .val (.ref b82), .val (.ref b89), .val (.ref a98), .val (.ref y181), .val (.int (0 : Int32)), .unset, .unset, .unset, .unset] [(.int (p4 &&& (2 : Int32)))]) := fun t k => go182 t (by
        show Steps p.tables e below (T181.setTop (mkF m 75 #[.val (.int p1), .val (.int p2), .val (.int p3), .val (.int p4), .val (.ref b82), .val (.ref b89), .val (.ref a98), .val (.ref y181), .unset, .unset, .unset, .unset, .unset] [(.int (p4 &&& (1 : Int32)))])) _
        refine XS.ifYes X181.here hx rfl (pc0 := 75) (pc' := 82) rfl (hb hby at_75) rfl ((if0 _ _).trans (teq hc75_183).1) (by decide) (by decide) ?_
        show Steps p.tables e below (T181.setTop (mkF m 82 #[.val (.int p1), .val (.int p2), .val (.int p3), .val (.int p4), .val (.ref b82), .val (.ref b89), .val (.ref a98), .val (.ref y181), .unset, .unset, .unset, .unset, .unset] [])) _
        refine XS.iconst X181.here hx rfl (hb hby at_82) ?_
        show Steps p.tables e below (T181.setTop (mkF m 83 #[.val (.int p1), .val (.int p2), .val (.int p3), .val (.int p4), .val (.ref b82), .val (.ref b89), .val (.ref a98), .val (.ref y181), .unset, .unset, .unset, .unset, .unset] [(.int (0 : Int32))])) _
        refine XS.istore X181.here hx rfl (hb hby at_83) rfl (l' := #[.val (.int p1), .val (.int p2), .val (.int p3), .val (.int p4), .val (.ref b82), .val (.ref b89), .val (.ref a98), .val (.ref y181), .val (.int (0 : Int32)), .unset, .unset, .unset, .unset]) rfl ?_
        show Steps p.tables e below (T181.setTop (mkF m 85 #[.val (.int p1), .val (.int p2), .val (.int p3), .val (.int p4), .val (.ref b82), .val (.ref b89), .val (.ref a98), .val (.ref y181), .val (.int (0 : Int32)), .unset, .unset, .unset, .unset] [])) _
        refine XS.iloadN X181.here hx rfl (hb hby at_85) rfl ?_
        show Steps p.tables e below (T181.setTop (mkF m 86 #[.val (.int p1), .val (.int p2), .val (.int p3), .val (.int p4), .val (.ref b82), .val (.ref b89), .val (.ref a98), .val (.ref y181), .val (.int (0 : Int32)), .unset, .unset, .unset, .unset] [(.int p4)])) _
        refine XS.iconst X181.here hx rfl (hb hby at_86) ?_
        show Steps p.tables e below (T181.setTop (mkF m 87 #[.val (.int p1), .val (.int p2), .val (.int p3), .val (.int p4), .val (.ref b82), .val (.ref b89), .val (.ref a98), .val (.ref y181), .val (.int (0 : Int32)), .unset, .unset, .unset, .unset] [(.int (2 : Int32)), (.int p4)])) _
        refine XS.iand X181.here hx rfl (hb hby at_87) rfl ?_
        exact k)
      by_cases hc88_185 : (p4 &&& (2 : Int32)) = (0 : Int32)
      · have go186 : Goes p e below s₁ (entryFrame m #[(.int p1), (.int p2), (.int p3), (.int p4)] maxLocals) T181 (mkF m 105 #[.val (.int p1), .val (.int p2), .val (.int p3), .val (.int p4), .val (.ref b82), .val (.ref b89), .val (.ref a98), .val (.ref y181), .val (.int (0 : Int32)), .unset, .unset, .unset, .unset] [(.int (((((p3.toUInt32 >>> ((8 : Int32) &&& 31).toUInt32).toInt32) &&& (255 : Int32))).toUInt32.toUInt16.toUInt32.toInt32))]) := fun t k => go184 t (by
          show Steps p.tables e below (T181.setTop (mkF m 88 #[.val (.int p1), .val (.int p2), .val (.int p3), .val (.int p4), .val (.ref b82), .val (.ref b89), .val (.ref a98), .val (.ref y181), .val (.int (0 : Int32)), .unset, .unset, .unset, .unset] [(.int (p4 &&& (2 : Int32)))])) _
          refine XS.ifYes X181.here hx rfl (pc0 := 88) (pc' := 96) rfl (hb hby at_88) rfl ((if0 _ _).trans (teq hc88_185).1) (by decide) (by decide) ?_
          show Steps p.tables e below (T181.setTop (mkF m 96 #[.val (.int p1), .val (.int p2), .val (.int p3), .val (.int p4), .val (.ref b82), .val (.ref b89), .val (.ref a98), .val (.ref y181), .val (.int (0 : Int32)), .unset, .unset, .unset, .unset] [])) _
          refine XS.iloadN X181.here hx rfl (hb hby at_96) rfl ?_
          show Steps p.tables e below (T181.setTop (mkF m 97 #[.val (.int p1), .val (.int p2), .val (.int p3), .val (.int p4), .val (.ref b82), .val (.ref b89), .val (.ref a98), .val (.ref y181), .val (.int (0 : Int32)), .unset, .unset, .unset, .unset] [(.int p3)])) _
          refine XS.bipush X181.here hx rfl (hb hby at_97) ?_
          show Steps p.tables e below (T181.setTop (mkF m 99 #[.val (.int p1), .val (.int p2), .val (.int p3), .val (.int p4), .val (.ref b82), .val (.ref b89), .val (.ref a98), .val (.ref y181), .val (.int (0 : Int32)), .unset, .unset, .unset, .unset] [(.int (8 : Int32)), (.int p3)])) _
          refine XS.iushr X181.here hx rfl (hb hby at_99) rfl ?_
          show Steps p.tables e below (T181.setTop (mkF m 100 #[.val (.int p1), .val (.int p2), .val (.int p3), .val (.int p4), .val (.ref b82), .val (.ref b89), .val (.ref a98), .val (.ref y181), .val (.int (0 : Int32)), .unset, .unset, .unset, .unset] [(.int ((p3.toUInt32 >>> ((8 : Int32) &&& 31).toUInt32).toInt32))])) _
          refine XS.sipush X181.here hx rfl (hb hby at_100) ?_
          show Steps p.tables e below (T181.setTop (mkF m 103 #[.val (.int p1), .val (.int p2), .val (.int p3), .val (.int p4), .val (.ref b82), .val (.ref b89), .val (.ref a98), .val (.ref y181), .val (.int (0 : Int32)), .unset, .unset, .unset, .unset] [(.int (255 : Int32)), (.int ((p3.toUInt32 >>> ((8 : Int32) &&& 31).toUInt32).toInt32))])) _
          refine XS.iand X181.here hx rfl (hb hby at_103) rfl ?_
          show Steps p.tables e below (T181.setTop (mkF m 104 #[.val (.int p1), .val (.int p2), .val (.int p3), .val (.int p4), .val (.ref b82), .val (.ref b89), .val (.ref a98), .val (.ref y181), .val (.int (0 : Int32)), .unset, .unset, .unset, .unset] [(.int (((p3.toUInt32 >>> ((8 : Int32) &&& 31).toUInt32).toInt32) &&& (255 : Int32)))])) _
          refine XS.i2c X181.here hx rfl (hb hby at_104) rfl ?_
          exact k)
        obtain ⟨_, _, ⟨T187, L187, k187, n187⟩, -, X187, ⟨Lc187, hQ187, l187, y187, z187⟩, st187⟩ := Jvm.LawKit.callS X181 hx (y := (⟨"java/lang/String", "valueOf", "(C)Ljava/lang/String;"⟩ : MethodName)) hown (mvT hZ (hw _ (List.mem_of_getElem? (i := 30) rfl))) (mvT hZ (hw _ (List.mem_of_getElem? (i := 31) rfl))) (mvT hZ (hw _ (List.mem_of_getElem? (i := 3) rfl))) (mvT hZ (hw _ (List.mem_of_getElem? (i := 32) rfl))) (by decide) (backOf (W := 0) (rm7 l Z a0 hw [] (((((p3.toUInt32 >>> ((8 : Int32) &&& 31).toUInt32).toInt32) &&& (255 : Int32))).toUInt32.toUInt16.toUInt32.toInt32) cz T181.heap n0 ZS181 (SC.ext O181.2) hz (own_255 _).2) hZ (hw _ (List.mem_of_getElem? (i := 32) rfl)) (hw _ (List.mem_of_getElem? (i := 3) rfl)) (by decide) (by decide)) (g := (mkF m 105 #[.val (.int p1), .val (.int p2), .val (.int p3), .val (.int p4), .val (.ref b82), .val (.ref b89), .val (.ref a98), .val (.ref y181), .val (.int (0 : Int32)), .unset, .unset, .unset, .unset] [(.int (((((p3.toUInt32 >>> ((8 : Int32) &&& 31).toUInt32).toInt32) &&& (255 : Int32))).toUInt32.toUInt16.toUInt32.toInt32))])) rfl (by rw [hml]; rfl) (argsL := [(.int (((((p3.toUInt32 >>> ((8 : Int32) &&& 31).toUInt32).toInt32) &&& (255 : Int32))).toUInt32.toUInt16.toUInt32.toInt32))]) (rest := []) (lenOf pd_5 rfl) rfl (by show 2 * 0 + _ ≤ _; exact Nat.le_of_eq rfl) (hb hby at_105) (fun _ _ => ⟨rfl, rfl, (by decide : 7 + 2 ≤ _), (by decide : 17 + 5 ≤ _)⟩)
        dsimp only [Pt.U, Pt.locs, Pt.cells, Pt.slots] at X187 l187 y187 z187 st187 hQ187
        subst l187 y187 z187
        obtain ⟨y187, rfl, Nq187, K187⟩ := hQ187
        have N187 := Fr.app N181 Nq187
        have ZS187 : n0 ≤ T187.heap.size := Nat.le_trans ZS181 K187.1
        have O187 := O181.keep K187 all0
        have go187 : Goes p e below s₁ (entryFrame m #[(.int p1), (.int p2), (.int p3), (.int p4)] maxLocals) T187 (mkF m 108 #[.val (.int p1), .val (.int p2), .val (.int p3), .val (.int p4), .val (.ref b82), .val (.ref b89), .val (.ref a98), .val (.ref y181), .val (.int (0 : Int32)), .unset, .unset, .unset, .unset] [(.ref y187)]) := fun t k => go186 t (st187 _ k)
        have go188 : Goes p e below s₁ (entryFrame m #[(.int p1), (.int p2), (.int p3), (.int p4)] maxLocals) T187 (mkF m 112 #[.val (.int p1), .val (.int p2), .val (.int p3), .val (.int p4), .val (.ref b82), .val (.ref b89), .val (.ref a98), .val (.ref y181), .val (.int (0 : Int32)), .val (.ref y187), .unset, .unset, .unset] [(.int (0 : Int32))]) := fun t k => go187 t (by
          show Steps p.tables e below (T187.setTop (mkF m 108 #[.val (.int p1), .val (.int p2), .val (.int p3), .val (.int p4), .val (.ref b82), .val (.ref b89), .val (.ref a98), .val (.ref y181), .val (.int (0 : Int32)), .unset, .unset, .unset, .unset] [(.ref y187)])) _
          refine XS.astore X187.here hx rfl (hb hby at_108) rfl rfl (l' := #[.val (.int p1), .val (.int p2), .val (.int p3), .val (.int p4), .val (.ref b82), .val (.ref b89), .val (.ref a98), .val (.ref y181), .val (.int (0 : Int32)), .val (.ref y187), .unset, .unset, .unset]) rfl ?_
          show Steps p.tables e below (T187.setTop (mkF m 110 #[.val (.int p1), .val (.int p2), .val (.int p3), .val (.int p4), .val (.ref b82), .val (.ref b89), .val (.ref a98), .val (.ref y181), .val (.int (0 : Int32)), .val (.ref y187), .unset, .unset, .unset] [])) _
          refine XS.iload X187.here hx rfl (hb hby at_110) rfl ?_
          exact k)
        have go190 : Goes p e below s₁ (entryFrame m #[(.int p1), (.int p2), (.int p3), (.int p4)] maxLocals) T187 (mkF m 132 #[.val (.int p1), .val (.int p2), .val (.int p3), .val (.int p4), .val (.ref b82), .val (.ref b89), .val (.ref a98), .val (.ref y181), .val (.int (0 : Int32)), .val (.ref y187), .val .null, .unset, .unset] []) := fun t k => go188 t (by
          show Steps p.tables e below (T187.setTop (mkF m 112 #[.val (.int p1), .val (.int p2), .val (.int p3), .val (.int p4), .val (.ref b82), .val (.ref b89), .val (.ref a98), .val (.ref y181), .val (.int (0 : Int32)), .val (.ref y187), .unset, .unset, .unset] [(.int (0 : Int32))])) _
          refine XS.ifYes X187.here hx rfl (pc0 := 112) (pc' := 129) rfl (hb hby at_112) rfl ((if0 _ _).trans (teq (by decide)).1) (by decide) (by decide) ?_
          show Steps p.tables e below (T187.setTop (mkF m 129 #[.val (.int p1), .val (.int p2), .val (.int p3), .val (.int p4), .val (.ref b82), .val (.ref b89), .val (.ref a98), .val (.ref y181), .val (.int (0 : Int32)), .val (.ref y187), .unset, .unset, .unset] [])) _
          refine XS.aconstNull X187.here hx rfl (hb hby at_129) ?_
          show Steps p.tables e below (T187.setTop (mkF m 130 #[.val (.int p1), .val (.int p2), .val (.int p3), .val (.int p4), .val (.ref b82), .val (.ref b89), .val (.ref a98), .val (.ref y181), .val (.int (0 : Int32)), .val (.ref y187), .unset, .unset, .unset] [.null])) _
          refine XS.astore X187.here hx rfl (hb hby at_130) rfl rfl (l' := #[.val (.int p1), .val (.int p2), .val (.int p3), .val (.int p4), .val (.ref b82), .val (.ref b89), .val (.ref a98), .val (.ref y181), .val (.int (0 : Int32)), .val (.ref y187), .val .null, .unset, .unset]) rfl ?_
          exact k)
        obtain ⟨T191, h191, X191, e191, E191, A191, D191, -, st191⟩ := newO X187 hx hZ hown (hw _ (List.mem_of_getElem? (i := 60) rfl)) (hw _ (List.mem_of_getElem? (i := 61) rfl)) (hw _ (List.mem_of_getElem? (i := 62) rfl)) rfl (g := (mkF m 132 #[.val (.int p1), .val (.int p2), .val (.int p3), .val (.int p4), .val (.ref b82), .val (.ref b89), .val (.ref a98), .val (.ref y181), .val (.int (0 : Int32)), .val (.ref y187), .val .null, .unset, .unset] [])) rfl (hb hby at_132) (by decide) (by decide)
        obtain ⟨b191, g191⟩ : ∃ z, z = T187.heap.size := ⟨_, rfl⟩
        rw [← g191] at A191 D191 st191
        have g_b191 : n0 ≤ b191 := Nat.le_trans ZS187 (Nat.le_of_eq g191.symm)
        have O191 := O187.ext E191
        have ZS191 : n0 ≤ h191.size := Nat.le_trans ZS187 E191.1
        have F191_id : Fld Z h191 b191 "com/example/rightful_keys/rightfulkeys/store/Role" "id" "Ljava/lang/String;" .null := D191 (Or.inr (hw _ (List.mem_of_getElem? (i := 68) rfl))) (ty := (.object "java/lang/String")) (by decide)
        have F191_name : Fld Z h191 b191 "com/example/rightful_keys/rightfulkeys/store/Role" "name" "Ljava/lang/String;" .null := D191 (Or.inr (hw _ (List.mem_of_getElem? (i := 70) rfl))) (ty := (.object "java/lang/String")) (by decide)
        have F191_account : Fld Z h191 b191 "com/example/rightful_keys/rightfulkeys/store/Role" "account" "Lcom/example/rightful_keys/rightfulkeys/store/Account;" .null := D191 (Or.inr (hw _ (List.mem_of_getElem? (i := 72) rfl))) (ty := (.object "com/example/rightful_keys/rightfulkeys/store/Account")) (by decide)
        have F191_description : Fld Z h191 b191 "com/example/rightful_keys/rightfulkeys/store/Role" "description" "Ljava/lang/String;" .null := D191 (Or.inr (hw _ (List.mem_of_getElem? (i := 74) rfl))) (ty := (.object "java/lang/String")) (by decide)
        have F191_policy : Fld Z h191 b191 "com/example/rightful_keys/rightfulkeys/store/Role" "policy" "Ljava/util/Optional;" .null := D191 (Or.inr (hw _ (List.mem_of_getElem? (i := 76) rfl))) (ty := (.object "java/util/Optional")) (by decide)
        have ne192 : b89 ≠ b191 := Nat.ne_of_lt (Nat.lt_of_lt_of_le ((((A89.keep K92).ext E98).keep K181).keep K187).lt (Nat.le_of_eq g191.symm))
        have go191 : Goes p e below s₁ (entryFrame m #[(.int p1), (.int p2), (.int p3), (.int p4)] maxLocals) T191 (mkF m 135 #[.val (.int p1), .val (.int p2), .val (.int p3), .val (.int p4), .val (.ref b82), .val (.ref b89), .val (.ref a98), .val (.ref y181), .val (.int (0 : Int32)), .val (.ref y187), .val .null, .unset, .unset] [(.ref b191)]) := fun t k => go190 t (st191 _ k)
        have go193 : Goes p e below s₁ (entryFrame m #[(.int p1), (.int p2), (.int p3), (.int p4)] maxLocals) T191 (mkF m 145 #[.val (.int p1), .val (.int p2), .val (.int p3), .val (.int p4), .val (.ref b82), .val (.ref b89), .val (.ref a98), .val (.ref y181), .val (.int (0 : Int32)), .val (.ref y187), .val .null, .unset, .unset] [.null, (.ref y181), .null, (.ref a98), (.ref b89), (.ref b191), (.ref b191)]) := fun t k => go191 t (by
          show Steps p.tables e below (T191.setTop (mkF m 135 #[.val (.int p1), .val (.int p2), .val (.int p3), .val (.int p4), .val (.ref b82), .val (.ref b89), .val (.ref a98), .val (.ref y181), .val (.int (0 : Int32)), .val (.ref y187), .val .null, .unset, .unset] [(.ref b191)])) _
          refine XS.dup X191.here hx rfl (hb hby at_135) rfl rfl ?_
          show Steps p.tables e below (T191.setTop (mkF m 136 #[.val (.int p1), .val (.int p2), .val (.int p3), .val (.int p4), .val (.ref b82), .val (.ref b89), .val (.ref a98), .val (.ref y181), .val (.int (0 : Int32)), .val (.ref y187), .val .null, .unset, .unset] [(.ref b191), (.ref b191)])) _
          refine XS.aload X191.here hx rfl (hb hby at_136) rfl rfl ?_
          show Steps p.tables e below (T191.setTop (mkF m 138 #[.val (.int p1), .val (.int p2), .val (.int p3), .val (.int p4), .val (.ref b82), .val (.ref b89), .val (.ref a98), .val (.ref y181), .val (.int (0 : Int32)), .val (.ref y187), .val .null, .unset, .unset] [(.ref b89), (.ref b191), (.ref b191)])) _
          refine XS.aload X191.here hx rfl (hb hby at_138) rfl rfl ?_
          show Steps p.tables e below (T191.setTop (mkF m 140 #[.val (.int p1), .val (.int p2), .val (.int p3), .val (.int p4), .val (.ref b82), .val (.ref b89), .val (.ref a98), .val (.ref y181), .val (.int (0 : Int32)), .val (.ref y187), .val .null, .unset, .unset] [(.ref a98), (.ref b89), (.ref b191), (.ref b191)])) _
          refine XS.aload X191.here hx rfl (hb hby at_140) rfl rfl ?_
          show Steps p.tables e below (T191.setTop (mkF m 142 #[.val (.int p1), .val (.int p2), .val (.int p3), .val (.int p4), .val (.ref b82), .val (.ref b89), .val (.ref a98), .val (.ref y181), .val (.int (0 : Int32)), .val (.ref y187), .val .null, .unset, .unset] [.null, (.ref a98), (.ref b89), (.ref b191), (.ref b191)])) _
          refine XS.aload X191.here hx rfl (hb hby at_142) rfl rfl ?_
          show Steps p.tables e below (T191.setTop (mkF m 144 #[.val (.int p1), .val (.int p2), .val (.int p3), .val (.int p4), .val (.ref b82), .val (.ref b89), .val (.ref a98), .val (.ref y181), .val (.int (0 : Int32)), .val (.ref y187), .val .null, .unset, .unset] [(.ref y181), .null, (.ref a98), (.ref b89), (.ref b191), (.ref b191)])) _
          refine XS.aconstNull X191.here hx rfl (hb hby at_144) ?_
          exact k)
        obtain ⟨_, _, ⟨T194, L194, k194, n194⟩, -, X194, ⟨Lc194, hQ194, l194, y194, z194⟩, st194⟩ := X191.specialBack hx (y := (⟨"com/example/rightful_keys/rightfulkeys/store/Role", "<init>", "(Ljava/lang/String;Ljava/lang/String;Lcom/example/rightful_keys/rightfulkeys/store/Account;Ljava/lang/String;Ljava/util/Optional;)V"⟩ : MethodName)) rfl hown (mvT hZ (hw _ (List.mem_of_getElem? (i := 63) rfl))) (mvT hZ (hw _ (List.mem_of_getElem? (i := 64) rfl))) (mvT hZ (hw _ (List.mem_of_getElem? (i := 65) rfl))) (by decide) (backOf (W := 1) (rm13n l Z a0 hw [] b191 b89 a98  y181   h191 n0 ZS191 g_b191 A191 F191_id F191_name F191_account F191_description F191_policy) hZ (hw _ (List.mem_of_getElem? (i := 65) rfl)) (hw _ (List.mem_of_getElem? (i := 62) rfl)) (by decide) (by decide)) (g := (mkF m 145 #[.val (.int p1), .val (.int p2), .val (.int p3), .val (.int p4), .val (.ref b82), .val (.ref b89), .val (.ref a98), .val (.ref y181), .val (.int (0 : Int32)), .val (.ref y187), .val .null, .unset, .unset] [.null, (.ref y181), .null, (.ref a98), (.ref b89), (.ref b191), (.ref b191)])) rfl (by rw [hml]; rfl) (Steps.refl _) (a := b191) (argsL := [(.ref b89), (.ref a98), .null, (.ref y181), .null]) (rest := [(.ref b191)]) (lenOf pd_6 rfl) rfl (by show 2 * 0 + _ ≤ _; exact Nat.le_of_eq rfl) (hb hby at_145) (fun _ _ => ⟨rfl, e191, (by decide : 10 + 0 ≤ _), (by decide : 27 + 0 ≤ _)⟩)
        dsimp only [Pt.U, Pt.locs, Pt.cells, Pt.slots] at X194 l194 y194 z194 st194 hQ194
        subst l194 y194 z194
        obtain ⟨rfl, Nq194, K194, A194, F194⟩ := hQ194
        have N194 := Fr.app N187 Nq194
        have ZS194 : n0 ≤ T194.heap.size := Nat.le_trans ZS191 K194.1
        have O194 := O191.keep K194 (allS g_b191 all0)
        have go194 : Goes p e below s₁ (entryFrame m #[(.int p1), (.int p2), (.int p3), (.int p4)] maxLocals) T194 (mkF m 148 #[.val (.int p1), .val (.int p2), .val (.int p3), .val (.int p4), .val (.ref b82), .val (.ref b89), .val (.ref a98), .val (.ref y181), .val (.int (0 : Int32)), .val (.ref y187), .val .null, .unset, .unset] [(.ref b191)]) := fun t k => go193 t (st194.trans k)
        have go195 : Goes p e below s₁ (entryFrame m #[(.int p1), (.int p2), (.int p3), (.int p4)] maxLocals) T194 (mkF m 152 #[.val (.int p1), .val (.int p2), .val (.int p3), .val (.int p4), .val (.ref b82), .val (.ref b89), .val (.ref a98), .val (.ref y181), .val (.int (0 : Int32)), .val (.ref y187), .val .null, .val (.ref b191), .unset] [(.ref b191)]) := fun t k => go194 t (by
          show Steps p.tables e below (T194.setTop (mkF m 148 #[.val (.int p1), .val (.int p2), .val (.int p3), .val (.int p4), .val (.ref b82), .val (.ref b89), .val (.ref a98), .val (.ref y181), .val (.int (0 : Int32)), .val (.ref y187), .val .null, .unset, .unset] [(.ref b191)])) _
          refine XS.astore X194.here hx rfl (hb hby at_148) rfl rfl (l' := #[.val (.int p1), .val (.int p2), .val (.int p3), .val (.int p4), .val (.ref b82), .val (.ref b89), .val (.ref a98), .val (.ref y181), .val (.int (0 : Int32)), .val (.ref y187), .val .null, .val (.ref b191), .unset]) rfl ?_
          show Steps p.tables e below (T194.setTop (mkF m 150 #[.val (.int p1), .val (.int p2), .val (.int p3), .val (.int p4), .val (.ref b82), .val (.ref b89), .val (.ref a98), .val (.ref y181), .val (.int (0 : Int32)), .val (.ref y187), .val .null, .val (.ref b191), .unset] [])) _
          refine XS.aload X194.here hx rfl (hb hby at_150) rfl rfl ?_
          exact k)
        obtain ⟨cq196, kq196, q196a, q196b, q196c⟩ := isOf hZ rfl A194
        obtain ⟨_, _, ⟨T196, L196, k196, n196⟩, -, X196, ⟨Lc196, hQ196, l196, y196, z196⟩, st196⟩ := X194.virtualBack hx (y := (⟨"com/example/rightful_keys/rightfulkeys/store/Role", "isSystem", "()Z"⟩ : MethodName)) (z := (⟨"com/example/rightful_keys/rightfulkeys/store/Role", "isSystem", "()Z"⟩ : MethodName)) hown (mvT hZ (hw _ (List.mem_of_getElem? (i := 77) rfl))) (mvT hZ (hw _ (List.mem_of_getElem? (i := 78) rfl))) (notFace_of_selects (args := #[]) (mvT hZ (hw _ (List.mem_of_getElem? (i := 80) rfl)))) (mvT hZ (hw _ (List.mem_of_getElem? (i := 80) rfl))) (mvT hZ (hw _ (List.mem_of_getElem? (i := 79) rfl))) (by decide) (backOf (W := 0) (rm14n l Z a0 hw [] b191  T194.heap n0 ZS194 F194) hZ (hw _ (List.mem_of_getElem? (i := 81) rfl)) (hw _ (List.mem_of_getElem? (i := 62) rfl)) (by decide) (by decide)) q196a q196c (g := (mkF m 152 #[.val (.int p1), .val (.int p2), .val (.int p3), .val (.int p4), .val (.ref b82), .val (.ref b89), .val (.ref a98), .val (.ref y181), .val (.int (0 : Int32)), .val (.ref y187), .val .null, .val (.ref b191), .unset] [(.ref b191)])) rfl (by rw [hml]; rfl) (Steps.refl _) (argsL := []) (rest := []) (lenOf pd_7 rfl) rfl (by show 2 * 0 + _ ≤ _; exact Nat.le_of_eq rfl) (hb hby at_152) (fun _ _ => ⟨rfl, rfl, (by decide : 10 + 0 ≤ _), (by decide : 27 + 0 ≤ _)⟩)
        dsimp only [Pt.U, Pt.locs, Pt.cells, Pt.slots] at X196 l196 y196 z196 st196 hQ196
        subst l196 y196 z196
        obtain ⟨rfl, Nq196, eq196⟩ := hQ196
        have N196 := Fr.app N194 Nq196
        have go196 : Goes p e below s₁ (entryFrame m #[(.int p1), (.int p2), (.int p3), (.int p4)] maxLocals) T196 (mkF m 155 #[.val (.int p1), .val (.int p2), .val (.int p3), .val (.int p4), .val (.ref b82), .val (.ref b89), .val (.ref a98), .val (.ref y181), .val (.int (0 : Int32)), .val (.ref y187), .val .null, .val (.ref b191), .unset] [(.int (1 : Int32))]) := fun t k => go195 t (st196.trans k)
        have go197 : Goes p e below s₁ (entryFrame m #[(.int p1), (.int p2), (.int p3), (.int p4)] maxLocals) T196 (mkF m 161 #[.val (.int p1), .val (.int p2), .val (.int p3), .val (.int p4), .val (.ref b82), .val (.ref b89), .val (.ref a98), .val (.ref y181), .val (.int (0 : Int32)), .val (.ref y187), .val .null, .val (.ref b191), .val (.int (1 : Int32))] [(.int (0 : Int32)), (.int (1 : Int32))]) := fun t k => go196 t (by
          show Steps p.tables e below (T196.setTop (mkF m 155 #[.val (.int p1), .val (.int p2), .val (.int p3), .val (.int p4), .val (.ref b82), .val (.ref b89), .val (.ref a98), .val (.ref y181), .val (.int (0 : Int32)), .val (.ref y187), .val .null, .val (.ref b191), .unset] [(.int (1 : Int32))])) _
          refine XS.istore X196.here hx rfl (hb hby at_155) rfl (l' := #[.val (.int p1), .val (.int p2), .val (.int p3), .val (.int p4), .val (.ref b82), .val (.ref b89), .val (.ref a98), .val (.ref y181), .val (.int (0 : Int32)), .val (.ref y187), .val .null, .val (.ref b191), .val (.int (1 : Int32))]) rfl ?_
          show Steps p.tables e below (T196.setTop (mkF m 157 #[.val (.int p1), .val (.int p2), .val (.int p3), .val (.int p4), .val (.ref b82), .val (.ref b89), .val (.ref a98), .val (.ref y181), .val (.int (0 : Int32)), .val (.ref y187), .val .null, .val (.ref b191), .val (.int (1 : Int32))] [])) _
          refine XS.iload X196.here hx rfl (hb hby at_157) rfl ?_
          show Steps p.tables e below (T196.setTop (mkF m 159 #[.val (.int p1), .val (.int p2), .val (.int p3), .val (.int p4), .val (.ref b82), .val (.ref b89), .val (.ref a98), .val (.ref y181), .val (.int (0 : Int32)), .val (.ref y187), .val .null, .val (.ref b191), .val (.int (1 : Int32))] [(.int (1 : Int32))])) _
          refine XS.iload X196.here hx rfl (hb hby at_159) rfl ?_
          exact k)
        have go198 : Goes p e below s₁ (entryFrame m #[(.int p1), (.int p2), (.int p3), (.int p4)] maxLocals) T196 (mkF m 169 #[.val (.int p1), .val (.int p2), .val (.int p3), .val (.int p4), .val (.ref b82), .val (.ref b89), .val (.ref a98), .val (.ref y181), .val (.int (0 : Int32)), .val (.ref y187), .val .null, .val (.ref b191), .val (.int (1 : Int32))] [(.int (1 : Int32)), (.int (1 : Int32))]) := fun t k => go197 t (by
          show Steps p.tables e below (T196.setTop (mkF m 161 #[.val (.int p1), .val (.int p2), .val (.int p3), .val (.int p4), .val (.ref b82), .val (.ref b89), .val (.ref a98), .val (.ref y181), .val (.int (0 : Int32)), .val (.ref y187), .val .null, .val (.ref b191), .val (.int (1 : Int32))] [(.int (0 : Int32)), (.int (1 : Int32))])) _
          refine XS.ifNo X196.here hx rfl (hb hby at_161) rfl ((if0 _ _).trans (teq (by decide)).2) ?_
          show Steps p.tables e below (T196.setTop (mkF m 164 #[.val (.int p1), .val (.int p2), .val (.int p3), .val (.int p4), .val (.ref b82), .val (.ref b89), .val (.ref a98), .val (.ref y181), .val (.int (0 : Int32)), .val (.ref y187), .val .null, .val (.ref b191), .val (.int (1 : Int32))] [(.int (1 : Int32))])) _
          refine XS.iconst X196.here hx rfl (hb hby at_164) ?_
          show Steps p.tables e below (T196.setTop (mkF m 165 #[.val (.int p1), .val (.int p2), .val (.int p3), .val (.int p4), .val (.ref b82), .val (.ref b89), .val (.ref a98), .val (.ref y181), .val (.int (0 : Int32)), .val (.ref y187), .val .null, .val (.ref b191), .val (.int (1 : Int32))] [(.int (1 : Int32)), (.int (1 : Int32))])) _
          refine XS.goto X196.here hx rfl (pc0 := 165) (pc' := 169) rfl (hb hby at_165) (by decide) (by decide) ?_
          exact k)
        have go199 : Goes p e below s₁ (entryFrame m #[(.int p1), (.int p2), (.int p3), (.int p4)] maxLocals) T196 (mkF m 176 #[.val (.int p1), .val (.int p2), .val (.int p3), .val (.int p4), .val (.ref b82), .val (.ref b89), .val (.ref a98), .val (.ref y181), .val (.int (0 : Int32)), .val (.ref y187), .val .null, .val (.ref b191), .val (.int (1 : Int32))] [(.ref b191), (.int (1 : Int32))]) := fun t k => go198 t (by
          show Steps p.tables e below (T196.setTop (mkF m 169 #[.val (.int p1), .val (.int p2), .val (.int p3), .val (.int p4), .val (.ref b82), .val (.ref b89), .val (.ref a98), .val (.ref y181), .val (.int (0 : Int32)), .val (.ref y187), .val .null, .val (.ref b191), .val (.int (1 : Int32))] [(.int (1 : Int32)), (.int (1 : Int32))])) _
          refine XS.icmpNo X196.here hx rfl (hb hby at_169) rfl (teq rfl).2 ?_
          show Steps p.tables e below (T196.setTop (mkF m 172 #[.val (.int p1), .val (.int p2), .val (.int p3), .val (.int p4), .val (.ref b82), .val (.ref b89), .val (.ref a98), .val (.ref y181), .val (.int (0 : Int32)), .val (.ref y187), .val .null, .val (.ref b191), .val (.int (1 : Int32))] [])) _
          refine XS.iload X196.here hx rfl (hb hby at_172) rfl ?_
          show Steps p.tables e below (T196.setTop (mkF m 174 #[.val (.int p1), .val (.int p2), .val (.int p3), .val (.int p4), .val (.ref b82), .val (.ref b89), .val (.ref a98), .val (.ref y181), .val (.int (0 : Int32)), .val (.ref y187), .val .null, .val (.ref b191), .val (.int (1 : Int32))] [(.int (1 : Int32))])) _
          refine XS.aload X196.here hx rfl (hb hby at_174) rfl rfl ?_
          exact k)
        obtain ⟨cq200, kq200, q200a, q200b, q200c⟩ := isOf hZ eq196 A194
        obtain ⟨_, _, ⟨T200, L200, k200, n200⟩, -, X200, ⟨Lc200, hQ200, l200, y200, z200⟩, st200⟩ := X196.virtualBack hx (y := (⟨"com/example/rightful_keys/rightfulkeys/store/Role", "account", "()Lcom/example/rightful_keys/rightfulkeys/store/Account;"⟩ : MethodName)) (z := (⟨"com/example/rightful_keys/rightfulkeys/store/Role", "account", "()Lcom/example/rightful_keys/rightfulkeys/store/Account;"⟩ : MethodName)) hown (mvT hZ (hw _ (List.mem_of_getElem? (i := 82) rfl))) (mvT hZ (hw _ (List.mem_of_getElem? (i := 83) rfl))) (notFace_of_selects (args := #[]) (mvT hZ (hw _ (List.mem_of_getElem? (i := 85) rfl)))) (mvT hZ (hw _ (List.mem_of_getElem? (i := 85) rfl))) (mvT hZ (hw _ (List.mem_of_getElem? (i := 84) rfl))) (by decide) (backOf (W := 1) (rm15n l Z a0 hw [] b191  T194.heap n0 ZS194 F194) hZ (hw _ (List.mem_of_getElem? (i := 86) rfl)) (hw _ (List.mem_of_getElem? (i := 62) rfl)) (by decide) (by decide)) q200a q200c (g := (mkF m 176 #[.val (.int p1), .val (.int p2), .val (.int p3), .val (.int p4), .val (.ref b82), .val (.ref b89), .val (.ref a98), .val (.ref y181), .val (.int (0 : Int32)), .val (.ref y187), .val .null, .val (.ref b191), .val (.int (1 : Int32))] [(.ref b191), (.int (1 : Int32))])) rfl (by rw [hml]; rfl) (Steps.refl _) (argsL := []) (rest := [(.int (1 : Int32))]) (lenOf pd_8 rfl) rfl (by show 2 * 0 + _ ≤ _; exact Nat.le_of_eq rfl) (hb hby at_176) (fun _ _ => ⟨rfl, eq196, (by decide : 10 + 0 ≤ _), (by decide : 27 + 0 ≤ _)⟩)
        dsimp only [Pt.U, Pt.locs, Pt.cells, Pt.slots] at X200 l200 y200 z200 st200 hQ200
        subst l200 y200 z200
        obtain ⟨rfl, Nq200, eq200⟩ := hQ200
        have N200 := Fr.app N196 Nq200
        have go200 : Goes p e below s₁ (entryFrame m #[(.int p1), (.int p2), (.int p3), (.int p4)] maxLocals) T200 (mkF m 179 #[.val (.int p1), .val (.int p2), .val (.int p3), .val (.int p4), .val (.ref b82), .val (.ref b89), .val (.ref a98), .val (.ref y181), .val (.int (0 : Int32)), .val (.ref y187), .val .null, .val (.ref b191), .val (.int (1 : Int32))] [.null, (.int (1 : Int32))]) := fun t k => go199 t (st200.trans k)
        have go201 : Goes p e below s₁ (entryFrame m #[(.int p1), (.int p2), (.int p3), (.int p4)] maxLocals) T200 (mkF m 187 #[.val (.int p1), .val (.int p2), .val (.int p3), .val (.int p4), .val (.ref b82), .val (.ref b89), .val (.ref a98), .val (.ref y181), .val (.int (0 : Int32)), .val (.ref y187), .val .null, .val (.ref b191), .val (.int (1 : Int32))] [(.int (1 : Int32)), (.int (1 : Int32))]) := fun t k => go200 t (by
          show Steps p.tables e below (T200.setTop (mkF m 179 #[.val (.int p1), .val (.int p2), .val (.int p3), .val (.int p4), .val (.ref b82), .val (.ref b89), .val (.ref a98), .val (.ref y181), .val (.int (0 : Int32)), .val (.ref y187), .val .null, .val (.ref b191), .val (.int (1 : Int32))] [.null, (.int (1 : Int32))])) _
          refine XS.ifnonnullNo X200.here hx rfl (hb hby at_179) rfl ?_
          show Steps p.tables e below (T200.setTop (mkF m 182 #[.val (.int p1), .val (.int p2), .val (.int p3), .val (.int p4), .val (.ref b82), .val (.ref b89), .val (.ref a98), .val (.ref y181), .val (.int (0 : Int32)), .val (.ref y187), .val .null, .val (.ref b191), .val (.int (1 : Int32))] [(.int (1 : Int32))])) _
          refine XS.iconst X200.here hx rfl (hb hby at_182) ?_
          show Steps p.tables e below (T200.setTop (mkF m 183 #[.val (.int p1), .val (.int p2), .val (.int p3), .val (.int p4), .val (.ref b82), .val (.ref b89), .val (.ref a98), .val (.ref y181), .val (.int (0 : Int32)), .val (.ref y187), .val .null, .val (.ref b191), .val (.int (1 : Int32))] [(.int (1 : Int32)), (.int (1 : Int32))])) _
          refine XS.goto X200.here hx rfl (pc0 := 183) (pc' := 187) rfl (hb hby at_183) (by decide) (by decide) ?_
          exact k)
        have go202 : Goes p e below s₁ (entryFrame m #[(.int p1), (.int p2), (.int p3), (.int p4)] maxLocals) T200 (mkF m 195 #[.val (.int p1), .val (.int p2), .val (.int p3), .val (.int p4), .val (.ref b82), .val (.ref b89), .val (.ref a98), .val (.ref y181), .val (.int (0 : Int32)), .val (.ref y187), .val .null, .val (.ref b191), .val (.int (1 : Int32))] [(.int (1 : Int32))]) := fun t k => go201 t (by
          show Steps p.tables e below (T200.setTop (mkF m 187 #[.val (.int p1), .val (.int p2), .val (.int p3), .val (.int p4), .val (.ref b82), .val (.ref b89), .val (.ref a98), .val (.ref y181), .val (.int (0 : Int32)), .val (.ref y187), .val .null, .val (.ref b191), .val (.int (1 : Int32))] [(.int (1 : Int32)), (.int (1 : Int32))])) _
          refine XS.icmpNo X200.here hx rfl (hb hby at_187) rfl (teq rfl).2 ?_
          show Steps p.tables e below (T200.setTop (mkF m 190 #[.val (.int p1), .val (.int p2), .val (.int p3), .val (.int p4), .val (.ref b82), .val (.ref b89), .val (.ref a98), .val (.ref y181), .val (.int (0 : Int32)), .val (.ref y187), .val .null, .val (.ref b191), .val (.int (1 : Int32))] [])) _
          refine XS.iconst X200.here hx rfl (hb hby at_190) ?_
          show Steps p.tables e below (T200.setTop (mkF m 191 #[.val (.int p1), .val (.int p2), .val (.int p3), .val (.int p4), .val (.ref b82), .val (.ref b89), .val (.ref a98), .val (.ref y181), .val (.int (0 : Int32)), .val (.ref y187), .val .null, .val (.ref b191), .val (.int (1 : Int32))] [(.int (1 : Int32))])) _
          refine XS.goto X200.here hx rfl (pc0 := 191) (pc' := 195) rfl (hb hby at_191) (by decide) (by decide) ?_
          exact k)
        obtain ⟨fs, hr, hrun, hended, hEW⟩ := Stand.leaveW (s := s) X200 hS98 (by rw [eq200]; exact (Nat.le_trans (Nat.le_trans (Nat.le_trans (Nat.le_trans hk98 K181.1) K187.1) E191.1) K194.1)) (v := some (.int (1 : Int32))) (fun h => by rw [Bd.returns] at h; cases h)
        refine ⟨_, _, go202 _ ?_, hrun, hended, _, _, rfl, ?_, hEW.1, hEW.2.1, hEW.2.2.1, hEW.2.2.2.mono (by decide) (by decide)⟩
        · exact retN X200 hx (t := .boolean) Bd.returns (by simp) (hb hby at_195) hr
        · show Q_rm0 Z p1 p2 p3 p4 cz h0 n0 _ T200.heap _
          rw [eq200]
          exact ⟨rfl, N200⟩
      · have go189 : Goes p e below s₁ (entryFrame m #[(.int p1), (.int p2), (.int p3), (.int p4)] maxLocals) T181 (mkF m 112 #[.val (.int p1), .val (.int p2), .val (.int p3), .val (.int p4), .val (.ref b82), .val (.ref b89), .val (.ref a98), .val (.ref y181), .val (.int (0 : Int32)), .val (.ref b89), .unset, .unset, .unset] [(.int (0 : Int32))]) := fun t k => go184 t (by
          show Steps p.tables e below (T181.setTop (mkF m 88 #[.val (.int p1), .val (.int p2), .val (.int p3), .val (.int p4), .val (.ref b82), .val (.ref b89), .val (.ref a98), .val (.ref y181), .val (.int (0 : Int32)), .unset, .unset, .unset, .unset] [(.int (p4 &&& (2 : Int32)))])) _
          refine XS.ifNo X181.here hx rfl (hb hby at_88) rfl ((if0 _ _).trans (feq hc88_185).1) ?_
          show Steps p.tables e below (T181.setTop (mkF m 91 #[.val (.int p1), .val (.int p2), .val (.int p3), .val (.int p4), .val (.ref b82), .val (.ref b89), .val (.ref a98), .val (.ref y181), .val (.int (0 : Int32)), .unset, .unset, .unset, .unset] [])) _
          refine XS.aload X181.here hx rfl (hb hby at_91) rfl rfl ?_
          show Steps p.tables e below (T181.setTop (mkF m 93 #[.val (.int p1), .val (.int p2), .val (.int p3), .val (.int p4), .val (.ref b82), .val (.ref b89), .val (.ref a98), .val (.ref y181), .val (.int (0 : Int32)), .unset, .unset, .unset, .unset] [(.ref b89)])) _
          refine XS.goto X181.here hx rfl (pc0 := 93) (pc' := 108) rfl (hb hby at_93) (by decide) (by decide) ?_
          show Steps p.tables e below (T181.setTop (mkF m 108 #[.val (.int p1), .val (.int p2), .val (.int p3), .val (.int p4), .val (.ref b82), .val (.ref b89), .val (.ref a98), .val (.ref y181), .val (.int (0 : Int32)), .unset, .unset, .unset, .unset] [(.ref b89)])) _
          refine XS.astore X181.here hx rfl (hb hby at_108) rfl rfl (l' := #[.val (.int p1), .val (.int p2), .val (.int p3), .val (.int p4), .val (.ref b82), .val (.ref b89), .val (.ref a98), .val (.ref y181), .val (.int (0 : Int32)), .val (.ref b89), .unset, .unset, .unset]) rfl ?_
          show Steps p.tables e below (T181.setTop (mkF m 110 #[.val (.int p1), .val (.int p2), .val (.int p3), .val (.int p4), .val (.ref b82), .val (.ref b89), .val (.ref a98), .val (.ref y181), .val (.int (0 : Int32)), .val (.ref b89), .unset, .unset, .unset] [])) _
          refine XS.iload X181.here hx rfl (hb hby at_110) rfl ?_
          exact k)
        have go203 : Goes p e below s₁ (entryFrame m #[(.int p1), (.int p2), (.int p3), (.int p4)] maxLocals) T181 (mkF m 132 #[.val (.int p1), .val (.int p2), .val (.int p3), .val (.int p4), .val (.ref b82), .val (.ref b89), .val (.ref a98), .val (.ref y181), .val (.int (0 : Int32)), .val (.ref b89), .val .null, .unset, .unset] []) := fun t k => go189 t (by
          show Steps p.tables e below (T181.setTop (mkF m 112 #[.val (.int p1), .val (.int p2), .val (.int p3), .val (.int p4), .val (.ref b82), .val (.ref b89), .val (.ref a98), .val (.ref y181), .val (.int (0 : Int32)), .val (.ref b89), .unset, .unset, .unset] [(.int (0 : Int32))])) _
          refine XS.ifYes X181.here hx rfl (pc0 := 112) (pc' := 129) rfl (hb hby at_112) rfl ((if0 _ _).trans (teq (by decide)).1) (by decide) (by decide) ?_
          show Steps p.tables e below (T181.setTop (mkF m 129 #[.val (.int p1), .val (.int p2), .val (.int p3), .val (.int p4), .val (.ref b82), .val (.ref b89), .val (.ref a98), .val (.ref y181), .val (.int (0 : Int32)), .val (.ref b89), .unset, .unset, .unset] [])) _
          refine XS.aconstNull X181.here hx rfl (hb hby at_129) ?_
          show Steps p.tables e below (T181.setTop (mkF m 130 #[.val (.int p1), .val (.int p2), .val (.int p3), .val (.int p4), .val (.ref b82), .val (.ref b89), .val (.ref a98), .val (.ref y181), .val (.int (0 : Int32)), .val (.ref b89), .unset, .unset, .unset] [.null])) _
          refine XS.astore X181.here hx rfl (hb hby at_130) rfl rfl (l' := #[.val (.int p1), .val (.int p2), .val (.int p3), .val (.int p4), .val (.ref b82), .val (.ref b89), .val (.ref a98), .val (.ref y181), .val (.int (0 : Int32)), .val (.ref b89), .val .null, .unset, .unset]) rfl ?_
          exact k)
        obtain ⟨T204, h204, X204, e204, E204, A204, D204, -, st204⟩ := newO X181 hx hZ hown (hw _ (List.mem_of_getElem? (i := 60) rfl)) (hw _ (List.mem_of_getElem? (i := 61) rfl)) (hw _ (List.mem_of_getElem? (i := 62) rfl)) rfl (g := (mkF m 132 #[.val (.int p1), .val (.int p2), .val (.int p3), .val (.int p4), .val (.ref b82), .val (.ref b89), .val (.ref a98), .val (.ref y181), .val (.int (0 : Int32)), .val (.ref b89), .val .null, .unset, .unset] [])) rfl (hb hby at_132) (by decide) (by decide)
        obtain ⟨b204, g204⟩ : ∃ z, z = T181.heap.size := ⟨_, rfl⟩
        rw [← g204] at A204 D204 st204
        have g_b204 : n0 ≤ b204 := Nat.le_trans ZS181 (Nat.le_of_eq g204.symm)
        have O204 := O181.ext E204
        have ZS204 : n0 ≤ h204.size := Nat.le_trans ZS181 E204.1
        have F204_id : Fld Z h204 b204 "com/example/rightful_keys/rightfulkeys/store/Role" "id" "Ljava/lang/String;" .null := D204 (Or.inr (hw _ (List.mem_of_getElem? (i := 68) rfl))) (ty := (.object "java/lang/String")) (by decide)
        have F204_name : Fld Z h204 b204 "com/example/rightful_keys/rightfulkeys/store/Role" "name" "Ljava/lang/String;" .null := D204 (Or.inr (hw _ (List.mem_of_getElem? (i := 70) rfl))) (ty := (.object "java/lang/String")) (by decide)
        have F204_account : Fld Z h204 b204 "com/example/rightful_keys/rightfulkeys/store/Role" "account" "Lcom/example/rightful_keys/rightfulkeys/store/Account;" .null := D204 (Or.inr (hw _ (List.mem_of_getElem? (i := 72) rfl))) (ty := (.object "com/example/rightful_keys/rightfulkeys/store/Account")) (by decide)
        have F204_description : Fld Z h204 b204 "com/example/rightful_keys/rightfulkeys/store/Role" "description" "Ljava/lang/String;" .null := D204 (Or.inr (hw _ (List.mem_of_getElem? (i := 74) rfl))) (ty := (.object "java/lang/String")) (by decide)
        have F204_policy : Fld Z h204 b204 "com/example/rightful_keys/rightfulkeys/store/Role" "policy" "Ljava/util/Optional;" .null := D204 (Or.inr (hw _ (List.mem_of_getElem? (i := 76) rfl))) (ty := (.object "java/util/Optional")) (by decide)
        have ne205 : b89 ≠ b204 := Nat.ne_of_lt (Nat.lt_of_lt_of_le (((A89.keep K92).ext E98).keep K181).lt (Nat.le_of_eq g204.symm))
        have go204 : Goes p e below s₁ (entryFrame m #[(.int p1), (.int p2), (.int p3), (.int p4)] maxLocals) T204 (mkF m 135 #[.val (.int p1), .val (.int p2), .val (.int p3), .val (.int p4), .val (.ref b82), .val (.ref b89), .val (.ref a98), .val (.ref y181), .val (.int (0 : Int32)), .val (.ref b89), .val .null, .unset, .unset] [(.ref b204)]) := fun t k => go203 t (st204 _ k)
        have go206 : Goes p e below s₁ (entryFrame m #[(.int p1), (.int p2), (.int p3), (.int p4)] maxLocals) T204 (mkF m 145 #[.val (.int p1), .val (.int p2), .val (.int p3), .val (.int p4), .val (.ref b82), .val (.ref b89), .val (.ref a98), .val (.ref y181), .val (.int (0 : Int32)), .val (.ref b89), .val .null, .unset, .unset] [.null, (.ref y181), .null, (.ref a98), (.ref b89), (.ref b204), (.ref b204)]) := fun t k => go204 t (by
          show Steps p.tables e below (T204.setTop (mkF m 135 #[.val (.int p1), .val (.int p2), .val (.int p3), .val (.int p4), .val (.ref b82), .val (.ref b89), .val (.ref a98), .val (.ref y181), .val (.int (0 : Int32)), .val (.ref b89), .val .null, .unset, .unset] [(.ref b204)])) _
          refine XS.dup X204.here hx rfl (hb hby at_135) rfl rfl ?_
          show Steps p.tables e below (T204.setTop (mkF m 136 #[.val (.int p1), .val (.int p2), .val (.int p3), .val (.int p4), .val (.ref b82), .val (.ref b89), .val (.ref a98), .val (.ref y181), .val (.int (0 : Int32)), .val (.ref b89), .val .null, .unset, .unset] [(.ref b204), (.ref b204)])) _
          refine XS.aload X204.here hx rfl (hb hby at_136) rfl rfl ?_
          show Steps p.tables e below (T204.setTop (mkF m 138 #[.val (.int p1), .val (.int p2), .val (.int p3), .val (.int p4), .val (.ref b82), .val (.ref b89), .val (.ref a98), .val (.ref y181), .val (.int (0 : Int32)), .val (.ref b89), .val .null, .unset, .unset] [(.ref b89), (.ref b204), (.ref b204)])) _
          refine XS.aload X204.here hx rfl (hb hby at_138) rfl rfl ?_
          show Steps p.tables e below (T204.setTop (mkF m 140 #[.val (.int p1), .val (.int p2), .val (.int p3), .val (.int p4), .val (.ref b82), .val (.ref b89), .val (.ref a98), .val (.ref y181), .val (.int (0 : Int32)), .val (.ref b89), .val .null, .unset, .unset] [(.ref a98), (.ref b89), (.ref b204), (.ref b204)])) _
          refine XS.aload X204.here hx rfl (hb hby at_140) rfl rfl ?_
          show Steps p.tables e below (T204.setTop (mkF m 142 #[.val (.int p1), .val (.int p2), .val (.int p3), .val (.int p4), .val (.ref b82), .val (.ref b89), .val (.ref a98), .val (.ref y181), .val (.int (0 : Int32)), .val (.ref b89), .val .null, .unset, .unset] [.null, (.ref a98), (.ref b89), (.ref b204), (.ref b204)])) _
          refine XS.aload X204.here hx rfl (hb hby at_142) rfl rfl ?_
          show Steps p.tables e below (T204.setTop (mkF m 144 #[.val (.int p1), .val (.int p2), .val (.int p3), .val (.int p4), .val (.ref b82), .val (.ref b89), .val (.ref a98), .val (.ref y181), .val (.int (0 : Int32)), .val (.ref b89), .val .null, .unset, .unset] [(.ref y181), .null, (.ref a98), (.ref b89), (.ref b204), (.ref b204)])) _
          refine XS.aconstNull X204.here hx rfl (hb hby at_144) ?_
          exact k)
        obtain ⟨_, _, ⟨T207, L207, k207, n207⟩, -, X207, ⟨Lc207, hQ207, l207, y207, z207⟩, st207⟩ := X204.specialBack hx (y := (⟨"com/example/rightful_keys/rightfulkeys/store/Role", "<init>", "(Ljava/lang/String;Ljava/lang/String;Lcom/example/rightful_keys/rightfulkeys/store/Account;Ljava/lang/String;Ljava/util/Optional;)V"⟩ : MethodName)) rfl hown (mvT hZ (hw _ (List.mem_of_getElem? (i := 63) rfl))) (mvT hZ (hw _ (List.mem_of_getElem? (i := 64) rfl))) (mvT hZ (hw _ (List.mem_of_getElem? (i := 65) rfl))) (by decide) (backOf (W := 1) (rm13n l Z a0 hw [] b204 b89 a98  y181   h204 n0 ZS204 g_b204 A204 F204_id F204_name F204_account F204_description F204_policy) hZ (hw _ (List.mem_of_getElem? (i := 65) rfl)) (hw _ (List.mem_of_getElem? (i := 62) rfl)) (by decide) (by decide)) (g := (mkF m 145 #[.val (.int p1), .val (.int p2), .val (.int p3), .val (.int p4), .val (.ref b82), .val (.ref b89), .val (.ref a98), .val (.ref y181), .val (.int (0 : Int32)), .val (.ref b89), .val .null, .unset, .unset] [.null, (.ref y181), .null, (.ref a98), (.ref b89), (.ref b204), (.ref b204)])) rfl (by rw [hml]; rfl) (Steps.refl _) (a := b204) (argsL := [(.ref b89), (.ref a98), .null, (.ref y181), .null]) (rest := [(.ref b204)]) (lenOf pd_6 rfl) rfl (by show 2 * 0 + _ ≤ _; exact Nat.le_of_eq rfl) (hb hby at_145) (fun _ _ => ⟨rfl, e204, (by decide : 8 + 0 ≤ _), (by decide : 22 + 0 ≤ _)⟩)
        dsimp only [Pt.U, Pt.locs, Pt.cells, Pt.slots] at X207 l207 y207 z207 st207 hQ207
        subst l207 y207 z207
        obtain ⟨rfl, Nq207, K207, A207, F207⟩ := hQ207
        have N207 := Fr.app N181 Nq207
        have ZS207 : n0 ≤ T207.heap.size := Nat.le_trans ZS204 K207.1
        have O207 := O204.keep K207 (allS g_b204 all0)
        have go207 : Goes p e below s₁ (entryFrame m #[(.int p1), (.int p2), (.int p3), (.int p4)] maxLocals) T207 (mkF m 148 #[.val (.int p1), .val (.int p2), .val (.int p3), .val (.int p4), .val (.ref b82), .val (.ref b89), .val (.ref a98), .val (.ref y181), .val (.int (0 : Int32)), .val (.ref b89), .val .null, .unset, .unset] [(.ref b204)]) := fun t k => go206 t (st207.trans k)
        have go208 : Goes p e below s₁ (entryFrame m #[(.int p1), (.int p2), (.int p3), (.int p4)] maxLocals) T207 (mkF m 152 #[.val (.int p1), .val (.int p2), .val (.int p3), .val (.int p4), .val (.ref b82), .val (.ref b89), .val (.ref a98), .val (.ref y181), .val (.int (0 : Int32)), .val (.ref b89), .val .null, .val (.ref b204), .unset] [(.ref b204)]) := fun t k => go207 t (by
          show Steps p.tables e below (T207.setTop (mkF m 148 #[.val (.int p1), .val (.int p2), .val (.int p3), .val (.int p4), .val (.ref b82), .val (.ref b89), .val (.ref a98), .val (.ref y181), .val (.int (0 : Int32)), .val (.ref b89), .val .null, .unset, .unset] [(.ref b204)])) _
          refine XS.astore X207.here hx rfl (hb hby at_148) rfl rfl (l' := #[.val (.int p1), .val (.int p2), .val (.int p3), .val (.int p4), .val (.ref b82), .val (.ref b89), .val (.ref a98), .val (.ref y181), .val (.int (0 : Int32)), .val (.ref b89), .val .null, .val (.ref b204), .unset]) rfl ?_
          show Steps p.tables e below (T207.setTop (mkF m 150 #[.val (.int p1), .val (.int p2), .val (.int p3), .val (.int p4), .val (.ref b82), .val (.ref b89), .val (.ref a98), .val (.ref y181), .val (.int (0 : Int32)), .val (.ref b89), .val .null, .val (.ref b204), .unset] [])) _
          refine XS.aload X207.here hx rfl (hb hby at_150) rfl rfl ?_
          exact k)
        obtain ⟨cq209, kq209, q209a, q209b, q209c⟩ := isOf hZ rfl A207
        obtain ⟨_, _, ⟨T209, L209, k209, n209⟩, -, X209, ⟨Lc209, hQ209, l209, y209, z209⟩, st209⟩ := X207.virtualBack hx (y := (⟨"com/example/rightful_keys/rightfulkeys/store/Role", "isSystem", "()Z"⟩ : MethodName)) (z := (⟨"com/example/rightful_keys/rightfulkeys/store/Role", "isSystem", "()Z"⟩ : MethodName)) hown (mvT hZ (hw _ (List.mem_of_getElem? (i := 77) rfl))) (mvT hZ (hw _ (List.mem_of_getElem? (i := 78) rfl))) (notFace_of_selects (args := #[]) (mvT hZ (hw _ (List.mem_of_getElem? (i := 80) rfl)))) (mvT hZ (hw _ (List.mem_of_getElem? (i := 80) rfl))) (mvT hZ (hw _ (List.mem_of_getElem? (i := 79) rfl))) (by decide) (backOf (W := 0) (rm14n l Z a0 hw [] b204  T207.heap n0 ZS207 F207) hZ (hw _ (List.mem_of_getElem? (i := 81) rfl)) (hw _ (List.mem_of_getElem? (i := 62) rfl)) (by decide) (by decide)) q209a q209c (g := (mkF m 152 #[.val (.int p1), .val (.int p2), .val (.int p3), .val (.int p4), .val (.ref b82), .val (.ref b89), .val (.ref a98), .val (.ref y181), .val (.int (0 : Int32)), .val (.ref b89), .val .null, .val (.ref b204), .unset] [(.ref b204)])) rfl (by rw [hml]; rfl) (Steps.refl _) (argsL := []) (rest := []) (lenOf pd_7 rfl) rfl (by show 2 * 0 + _ ≤ _; exact Nat.le_of_eq rfl) (hb hby at_152) (fun _ _ => ⟨rfl, rfl, (by decide : 8 + 0 ≤ _), (by decide : 22 + 0 ≤ _)⟩)
        dsimp only [Pt.U, Pt.locs, Pt.cells, Pt.slots] at X209 l209 y209 z209 st209 hQ209
        subst l209 y209 z209
        obtain ⟨rfl, Nq209, eq209⟩ := hQ209
        have N209 := Fr.app N207 Nq209
        have go209 : Goes p e below s₁ (entryFrame m #[(.int p1), (.int p2), (.int p3), (.int p4)] maxLocals) T209 (mkF m 155 #[.val (.int p1), .val (.int p2), .val (.int p3), .val (.int p4), .val (.ref b82), .val (.ref b89), .val (.ref a98), .val (.ref y181), .val (.int (0 : Int32)), .val (.ref b89), .val .null, .val (.ref b204), .unset] [(.int (1 : Int32))]) := fun t k => go208 t (st209.trans k)
        have go210 : Goes p e below s₁ (entryFrame m #[(.int p1), (.int p2), (.int p3), (.int p4)] maxLocals) T209 (mkF m 161 #[.val (.int p1), .val (.int p2), .val (.int p3), .val (.int p4), .val (.ref b82), .val (.ref b89), .val (.ref a98), .val (.ref y181), .val (.int (0 : Int32)), .val (.ref b89), .val .null, .val (.ref b204), .val (.int (1 : Int32))] [(.int (0 : Int32)), (.int (1 : Int32))]) := fun t k => go209 t (by
          show Steps p.tables e below (T209.setTop (mkF m 155 #[.val (.int p1), .val (.int p2), .val (.int p3), .val (.int p4), .val (.ref b82), .val (.ref b89), .val (.ref a98), .val (.ref y181), .val (.int (0 : Int32)), .val (.ref b89), .val .null, .val (.ref b204), .unset] [(.int (1 : Int32))])) _
          refine XS.istore X209.here hx rfl (hb hby at_155) rfl (l' := #[.val (.int p1), .val (.int p2), .val (.int p3), .val (.int p4), .val (.ref b82), .val (.ref b89), .val (.ref a98), .val (.ref y181), .val (.int (0 : Int32)), .val (.ref b89), .val .null, .val (.ref b204), .val (.int (1 : Int32))]) rfl ?_
          show Steps p.tables e below (T209.setTop (mkF m 157 #[.val (.int p1), .val (.int p2), .val (.int p3), .val (.int p4), .val (.ref b82), .val (.ref b89), .val (.ref a98), .val (.ref y181), .val (.int (0 : Int32)), .val (.ref b89), .val .null, .val (.ref b204), .val (.int (1 : Int32))] [])) _
          refine XS.iload X209.here hx rfl (hb hby at_157) rfl ?_
          show Steps p.tables e below (T209.setTop (mkF m 159 #[.val (.int p1), .val (.int p2), .val (.int p3), .val (.int p4), .val (.ref b82), .val (.ref b89), .val (.ref a98), .val (.ref y181), .val (.int (0 : Int32)), .val (.ref b89), .val .null, .val (.ref b204), .val (.int (1 : Int32))] [(.int (1 : Int32))])) _
          refine XS.iload X209.here hx rfl (hb hby at_159) rfl ?_
          exact k)
        have go211 : Goes p e below s₁ (entryFrame m #[(.int p1), (.int p2), (.int p3), (.int p4)] maxLocals) T209 (mkF m 169 #[.val (.int p1), .val (.int p2), .val (.int p3), .val (.int p4), .val (.ref b82), .val (.ref b89), .val (.ref a98), .val (.ref y181), .val (.int (0 : Int32)), .val (.ref b89), .val .null, .val (.ref b204), .val (.int (1 : Int32))] [(.int (1 : Int32)), (.int (1 : Int32))]) := fun t k => go210 t (by
          show Steps p.tables e below (T209.setTop (mkF m 161 #[.val (.int p1), .val (.int p2), .val (.int p3), .val (.int p4), .val (.ref b82), .val (.ref b89), .val (.ref a98), .val (.ref y181), .val (.int (0 : Int32)), .val (.ref b89), .val .null, .val (.ref b204), .val (.int (1 : Int32))] [(.int (0 : Int32)), (.int (1 : Int32))])) _
          refine XS.ifNo X209.here hx rfl (hb hby at_161) rfl ((if0 _ _).trans (teq (by decide)).2) ?_
          show Steps p.tables e below (T209.setTop (mkF m 164 #[.val (.int p1), .val (.int p2), .val (.int p3), .val (.int p4), .val (.ref b82), .val (.ref b89), .val (.ref a98), .val (.ref y181), .val (.int (0 : Int32)), .val (.ref b89), .val .null, .val (.ref b204), .val (.int (1 : Int32))] [(.int (1 : Int32))])) _
          refine XS.iconst X209.here hx rfl (hb hby at_164) ?_
          show Steps p.tables e below (T209.setTop (mkF m 165 #[.val (.int p1), .val (.int p2), .val (.int p3), .val (.int p4), .val (.ref b82), .val (.ref b89), .val (.ref a98), .val (.ref y181), .val (.int (0 : Int32)), .val (.ref b89), .val .null, .val (.ref b204), .val (.int (1 : Int32))] [(.int (1 : Int32)), (.int (1 : Int32))])) _
          refine XS.goto X209.here hx rfl (pc0 := 165) (pc' := 169) rfl (hb hby at_165) (by decide) (by decide) ?_
          exact k)
        have go212 : Goes p e below s₁ (entryFrame m #[(.int p1), (.int p2), (.int p3), (.int p4)] maxLocals) T209 (mkF m 176 #[.val (.int p1), .val (.int p2), .val (.int p3), .val (.int p4), .val (.ref b82), .val (.ref b89), .val (.ref a98), .val (.ref y181), .val (.int (0 : Int32)), .val (.ref b89), .val .null, .val (.ref b204), .val (.int (1 : Int32))] [(.ref b204), (.int (1 : Int32))]) := fun t k => go211 t (by
          show Steps p.tables e below (T209.setTop (mkF m 169 #[.val (.int p1), .val (.int p2), .val (.int p3), .val (.int p4), .val (.ref b82), .val (.ref b89), .val (.ref a98), .val (.ref y181), .val (.int (0 : Int32)), .val (.ref b89), .val .null, .val (.ref b204), .val (.int (1 : Int32))] [(.int (1 : Int32)), (.int (1 : Int32))])) _
          refine XS.icmpNo X209.here hx rfl (hb hby at_169) rfl (teq rfl).2 ?_
          show Steps p.tables e below (T209.setTop (mkF m 172 #[.val (.int p1), .val (.int p2), .val (.int p3), .val (.int p4), .val (.ref b82), .val (.ref b89), .val (.ref a98), .val (.ref y181), .val (.int (0 : Int32)), .val (.ref b89), .val .null, .val (.ref b204), .val (.int (1 : Int32))] [])) _
          refine XS.iload X209.here hx rfl (hb hby at_172) rfl ?_
          show Steps p.tables e below (T209.setTop (mkF m 174 #[.val (.int p1), .val (.int p2), .val (.int p3), .val (.int p4), .val (.ref b82), .val (.ref b89), .val (.ref a98), .val (.ref y181), .val (.int (0 : Int32)), .val (.ref b89), .val .null, .val (.ref b204), .val (.int (1 : Int32))] [(.int (1 : Int32))])) _
          refine XS.aload X209.here hx rfl (hb hby at_174) rfl rfl ?_
          exact k)
        obtain ⟨cq213, kq213, q213a, q213b, q213c⟩ := isOf hZ eq209 A207
        obtain ⟨_, _, ⟨T213, L213, k213, n213⟩, -, X213, ⟨Lc213, hQ213, l213, y213, z213⟩, st213⟩ := X209.virtualBack hx (y := (⟨"com/example/rightful_keys/rightfulkeys/store/Role", "account", "()Lcom/example/rightful_keys/rightfulkeys/store/Account;"⟩ : MethodName)) (z := (⟨"com/example/rightful_keys/rightfulkeys/store/Role", "account", "()Lcom/example/rightful_keys/rightfulkeys/store/Account;"⟩ : MethodName)) hown (mvT hZ (hw _ (List.mem_of_getElem? (i := 82) rfl))) (mvT hZ (hw _ (List.mem_of_getElem? (i := 83) rfl))) (notFace_of_selects (args := #[]) (mvT hZ (hw _ (List.mem_of_getElem? (i := 85) rfl)))) (mvT hZ (hw _ (List.mem_of_getElem? (i := 85) rfl))) (mvT hZ (hw _ (List.mem_of_getElem? (i := 84) rfl))) (by decide) (backOf (W := 1) (rm15n l Z a0 hw [] b204  T207.heap n0 ZS207 F207) hZ (hw _ (List.mem_of_getElem? (i := 86) rfl)) (hw _ (List.mem_of_getElem? (i := 62) rfl)) (by decide) (by decide)) q213a q213c (g := (mkF m 176 #[.val (.int p1), .val (.int p2), .val (.int p3), .val (.int p4), .val (.ref b82), .val (.ref b89), .val (.ref a98), .val (.ref y181), .val (.int (0 : Int32)), .val (.ref b89), .val .null, .val (.ref b204), .val (.int (1 : Int32))] [(.ref b204), (.int (1 : Int32))])) rfl (by rw [hml]; rfl) (Steps.refl _) (argsL := []) (rest := [(.int (1 : Int32))]) (lenOf pd_8 rfl) rfl (by show 2 * 0 + _ ≤ _; exact Nat.le_of_eq rfl) (hb hby at_176) (fun _ _ => ⟨rfl, eq209, (by decide : 8 + 0 ≤ _), (by decide : 22 + 0 ≤ _)⟩)
        dsimp only [Pt.U, Pt.locs, Pt.cells, Pt.slots] at X213 l213 y213 z213 st213 hQ213
        subst l213 y213 z213
        obtain ⟨rfl, Nq213, eq213⟩ := hQ213
        have N213 := Fr.app N209 Nq213
        have go213 : Goes p e below s₁ (entryFrame m #[(.int p1), (.int p2), (.int p3), (.int p4)] maxLocals) T213 (mkF m 179 #[.val (.int p1), .val (.int p2), .val (.int p3), .val (.int p4), .val (.ref b82), .val (.ref b89), .val (.ref a98), .val (.ref y181), .val (.int (0 : Int32)), .val (.ref b89), .val .null, .val (.ref b204), .val (.int (1 : Int32))] [.null, (.int (1 : Int32))]) := fun t k => go212 t (st213.trans k)
        have go214 : Goes p e below s₁ (entryFrame m #[(.int p1), (.int p2), (.int p3), (.int p4)] maxLocals) T213 (mkF m 187 #[.val (.int p1), .val (.int p2), .val (.int p3), .val (.int p4), .val (.ref b82), .val (.ref b89), .val (.ref a98), .val (.ref y181), .val (.int (0 : Int32)), .val (.ref b89), .val .null, .val (.ref b204), .val (.int (1 : Int32))] [(.int (1 : Int32)), (.int (1 : Int32))]) := fun t k => go213 t (by
          show Steps p.tables e below (T213.setTop (mkF m 179 #[.val (.int p1), .val (.int p2), .val (.int p3), .val (.int p4), .val (.ref b82), .val (.ref b89), .val (.ref a98), .val (.ref y181), .val (.int (0 : Int32)), .val (.ref b89), .val .null, .val (.ref b204), .val (.int (1 : Int32))] [.null, (.int (1 : Int32))])) _
          refine XS.ifnonnullNo X213.here hx rfl (hb hby at_179) rfl ?_
          show Steps p.tables e below (T213.setTop (mkF m 182 #[.val (.int p1), .val (.int p2), .val (.int p3), .val (.int p4), .val (.ref b82), .val (.ref b89), .val (.ref a98), .val (.ref y181), .val (.int (0 : Int32)), .val (.ref b89), .val .null, .val (.ref b204), .val (.int (1 : Int32))] [(.int (1 : Int32))])) _
          refine XS.iconst X213.here hx rfl (hb hby at_182) ?_
          show Steps p.tables e below (T213.setTop (mkF m 183 #[.val (.int p1), .val (.int p2), .val (.int p3), .val (.int p4), .val (.ref b82), .val (.ref b89), .val (.ref a98), .val (.ref y181), .val (.int (0 : Int32)), .val (.ref b89), .val .null, .val (.ref b204), .val (.int (1 : Int32))] [(.int (1 : Int32)), (.int (1 : Int32))])) _
          refine XS.goto X213.here hx rfl (pc0 := 183) (pc' := 187) rfl (hb hby at_183) (by decide) (by decide) ?_
          exact k)
        have go215 : Goes p e below s₁ (entryFrame m #[(.int p1), (.int p2), (.int p3), (.int p4)] maxLocals) T213 (mkF m 195 #[.val (.int p1), .val (.int p2), .val (.int p3), .val (.int p4), .val (.ref b82), .val (.ref b89), .val (.ref a98), .val (.ref y181), .val (.int (0 : Int32)), .val (.ref b89), .val .null, .val (.ref b204), .val (.int (1 : Int32))] [(.int (1 : Int32))]) := fun t k => go214 t (by
          show Steps p.tables e below (T213.setTop (mkF m 187 #[.val (.int p1), .val (.int p2), .val (.int p3), .val (.int p4), .val (.ref b82), .val (.ref b89), .val (.ref a98), .val (.ref y181), .val (.int (0 : Int32)), .val (.ref b89), .val .null, .val (.ref b204), .val (.int (1 : Int32))] [(.int (1 : Int32)), (.int (1 : Int32))])) _
          refine XS.icmpNo X213.here hx rfl (hb hby at_187) rfl (teq rfl).2 ?_
          show Steps p.tables e below (T213.setTop (mkF m 190 #[.val (.int p1), .val (.int p2), .val (.int p3), .val (.int p4), .val (.ref b82), .val (.ref b89), .val (.ref a98), .val (.ref y181), .val (.int (0 : Int32)), .val (.ref b89), .val .null, .val (.ref b204), .val (.int (1 : Int32))] [])) _
          refine XS.iconst X213.here hx rfl (hb hby at_190) ?_
          show Steps p.tables e below (T213.setTop (mkF m 191 #[.val (.int p1), .val (.int p2), .val (.int p3), .val (.int p4), .val (.ref b82), .val (.ref b89), .val (.ref a98), .val (.ref y181), .val (.int (0 : Int32)), .val (.ref b89), .val .null, .val (.ref b204), .val (.int (1 : Int32))] [(.int (1 : Int32))])) _
          refine XS.goto X213.here hx rfl (pc0 := 191) (pc' := 195) rfl (hb hby at_191) (by decide) (by decide) ?_
          exact k)
        obtain ⟨fs, hr, hrun, hended, hEW⟩ := Stand.leaveW (s := s) X213 hS98 (by rw [eq213]; exact (Nat.le_trans (Nat.le_trans (Nat.le_trans hk98 K181.1) E204.1) K207.1)) (v := some (.int (1 : Int32))) (fun h => by rw [Bd.returns] at h; cases h)
        refine ⟨_, _, go215 _ ?_, hrun, hended, _, _, rfl, ?_, hEW.1, hEW.2.1, hEW.2.2.1, hEW.2.2.2.mono (by decide) (by decide)⟩
        · exact retN X213 hx (t := .boolean) Bd.returns (by simp) (hb hby at_195) hr
        · show Q_rm0 Z p1 p2 p3 p4 cz h0 n0 _ T213.heap _
          rw [eq213]
          exact ⟨rfl, N213⟩
    · have go216 : Goes p e below s₁ (entryFrame m #[(.int p1), (.int p2), (.int p3), (.int p4)] maxLocals) T181 (mkF m 88 #[.val (.int p1), .val (.int p2), .val (.int p3), .val (.int p4), .val (.ref b82), .val (.ref b89), .val (.ref a98), .val (.ref y181), .val (.int (1 : Int32)), .unset, .unset, .unset, .unset] [(.int (p4 &&& (2 : Int32)))]) := fun t k => go182 t (by
        show Steps p.tables e below (T181.setTop (mkF m 75 #[.val (.int p1), .val (.int p2), .val (.int p3), .val (.int p4), .val (.ref b82), .val (.ref b89), .val (.ref a98), .val (.ref y181), .unset, .unset, .unset, .unset, .unset] [(.int (p4 &&& (1 : Int32)))])) _
        refine XS.ifNo X181.here hx rfl (hb hby at_75) rfl ((if0 _ _).trans (feq hc75_183).1) ?_
        show Steps p.tables e below (T181.setTop (mkF m 78 #[.val (.int p1), .val (.int p2), .val (.int p3), .val (.int p4), .val (.ref b82), .val (.ref b89), .val (.ref a98), .val (.ref y181), .unset, .unset, .unset, .unset, .unset] [])) _
        refine XS.iconst X181.here hx rfl (hb hby at_78) ?_
        show Steps p.tables e below (T181.setTop (mkF m 79 #[.val (.int p1), .val (.int p2), .val (.int p3), .val (.int p4), .val (.ref b82), .val (.ref b89), .val (.ref a98), .val (.ref y181), .unset, .unset, .unset, .unset, .unset] [(.int (1 : Int32))])) _
        refine XS.goto X181.here hx rfl (pc0 := 79) (pc' := 83) rfl (hb hby at_79) (by decide) (by decide) ?_
        show Steps p.tables e below (T181.setTop (mkF m 83 #[.val (.int p1), .val (.int p2), .val (.int p3), .val (.int p4), .val (.ref b82), .val (.ref b89), .val (.ref a98), .val (.ref y181), .unset, .unset, .unset, .unset, .unset] [(.int (1 : Int32))])) _
        refine XS.istore X181.here hx rfl (hb hby at_83) rfl (l' := #[.val (.int p1), .val (.int p2), .val (.int p3), .val (.int p4), .val (.ref b82), .val (.ref b89), .val (.ref a98), .val (.ref y181), .val (.int (1 : Int32)), .unset, .unset, .unset, .unset]) rfl ?_
        show Steps p.tables e below (T181.setTop (mkF m 85 #[.val (.int p1), .val (.int p2), .val (.int p3), .val (.int p4), .val (.ref b82), .val (.ref b89), .val (.ref a98), .val (.ref y181), .val (.int (1 : Int32)), .unset, .unset, .unset, .unset] [])) _
        refine XS.iloadN X181.here hx rfl (hb hby at_85) rfl ?_
        show Steps p.tables e below (T181.setTop (mkF m 86 #[.val (.int p1), .val (.int p2), .val (.int p3), .val (.int p4), .val (.ref b82), .val (.ref b89), .val (.ref a98), .val (.ref y181), .val (.int (1 : Int32)), .unset, .unset, .unset, .unset] [(.int p4)])) _
        refine XS.iconst X181.here hx rfl (hb hby at_86) ?_
        show Steps p.tables e below (T181.setTop (mkF m 87 #[.val (.int p1), .val (.int p2), .val (.int p3), .val (.int p4), .val (.ref b82), .val (.ref b89), .val (.ref a98), .val (.ref y181), .val (.int (1 : Int32)), .unset, .unset, .unset, .unset] [(.int (2 : Int32)), (.int p4)])) _
        refine XS.iand X181.here hx rfl (hb hby at_87) rfl ?_
        exact k)
      by_cases hc88_217 : (p4 &&& (2 : Int32)) = (0 : Int32)
      · have go218 : Goes p e below s₁ (entryFrame m #[(.int p1), (.int p2), (.int p3), (.int p4)] maxLocals) T181 (mkF m 105 #[.val (.int p1), .val (.int p2), .val (.int p3), .val (.int p4), .val (.ref b82), .val (.ref b89), .val (.ref a98), .val (.ref y181), .val (.int (1 : Int32)), .unset, .unset, .unset, .unset] [(.int (((((p3.toUInt32 >>> ((8 : Int32) &&& 31).toUInt32).toInt32) &&& (255 : Int32))).toUInt32.toUInt16.toUInt32.toInt32))]) := fun t k => go216 t (by
          show Steps p.tables e below (T181.setTop (mkF m 88 #[.val (.int p1), .val (.int p2), .val (.int p3), .val (.int p4), .val (.ref b82), .val (.ref b89), .val (.ref a98), .val (.ref y181), .val (.int (1 : Int32)), .unset, .unset, .unset, .unset] [(.int (p4 &&& (2 : Int32)))])) _
          refine XS.ifYes X181.here hx rfl (pc0 := 88) (pc' := 96) rfl (hb hby at_88) rfl ((if0 _ _).trans (teq hc88_217).1) (by decide) (by decide) ?_
          show Steps p.tables e below (T181.setTop (mkF m 96 #[.val (.int p1), .val (.int p2), .val (.int p3), .val (.int p4), .val (.ref b82), .val (.ref b89), .val (.ref a98), .val (.ref y181), .val (.int (1 : Int32)), .unset, .unset, .unset, .unset] [])) _
          refine XS.iloadN X181.here hx rfl (hb hby at_96) rfl ?_
          show Steps p.tables e below (T181.setTop (mkF m 97 #[.val (.int p1), .val (.int p2), .val (.int p3), .val (.int p4), .val (.ref b82), .val (.ref b89), .val (.ref a98), .val (.ref y181), .val (.int (1 : Int32)), .unset, .unset, .unset, .unset] [(.int p3)])) _
          refine XS.bipush X181.here hx rfl (hb hby at_97) ?_
          show Steps p.tables e below (T181.setTop (mkF m 99 #[.val (.int p1), .val (.int p2), .val (.int p3), .val (.int p4), .val (.ref b82), .val (.ref b89), .val (.ref a98), .val (.ref y181), .val (.int (1 : Int32)), .unset, .unset, .unset, .unset] [(.int (8 : Int32)), (.int p3)])) _
          refine XS.iushr X181.here hx rfl (hb hby at_99) rfl ?_
          show Steps p.tables e below (T181.setTop (mkF m 100 #[.val (.int p1), .val (.int p2), .val (.int p3), .val (.int p4), .val (.ref b82), .val (.ref b89), .val (.ref a98), .val (.ref y181), .val (.int (1 : Int32)), .unset, .unset, .unset, .unset] [(.int ((p3.toUInt32 >>> ((8 : Int32) &&& 31).toUInt32).toInt32))])) _
          refine XS.sipush X181.here hx rfl (hb hby at_100) ?_
          show Steps p.tables e below (T181.setTop (mkF m 103 #[.val (.int p1), .val (.int p2), .val (.int p3), .val (.int p4), .val (.ref b82), .val (.ref b89), .val (.ref a98), .val (.ref y181), .val (.int (1 : Int32)), .unset, .unset, .unset, .unset] [(.int (255 : Int32)), (.int ((p3.toUInt32 >>> ((8 : Int32) &&& 31).toUInt32).toInt32))])) _
          refine XS.iand X181.here hx rfl (hb hby at_103) rfl ?_
          show Steps p.tables e below (T181.setTop (mkF m 104 #[.val (.int p1), .val (.int p2), .val (.int p3), .val (.int p4), .val (.ref b82), .val (.ref b89), .val (.ref a98), .val (.ref y181), .val (.int (1 : Int32)), .unset, .unset, .unset, .unset] [(.int (((p3.toUInt32 >>> ((8 : Int32) &&& 31).toUInt32).toInt32) &&& (255 : Int32)))])) _
          refine XS.i2c X181.here hx rfl (hb hby at_104) rfl ?_
          exact k)
        obtain ⟨_, _, ⟨T219, L219, k219, n219⟩, -, X219, ⟨Lc219, hQ219, l219, y219, z219⟩, st219⟩ := Jvm.LawKit.callS X181 hx (y := (⟨"java/lang/String", "valueOf", "(C)Ljava/lang/String;"⟩ : MethodName)) hown (mvT hZ (hw _ (List.mem_of_getElem? (i := 30) rfl))) (mvT hZ (hw _ (List.mem_of_getElem? (i := 31) rfl))) (mvT hZ (hw _ (List.mem_of_getElem? (i := 3) rfl))) (mvT hZ (hw _ (List.mem_of_getElem? (i := 32) rfl))) (by decide) (backOf (W := 0) (rm7 l Z a0 hw [] (((((p3.toUInt32 >>> ((8 : Int32) &&& 31).toUInt32).toInt32) &&& (255 : Int32))).toUInt32.toUInt16.toUInt32.toInt32) cz T181.heap n0 ZS181 (SC.ext O181.2) hz (own_255 _).2) hZ (hw _ (List.mem_of_getElem? (i := 32) rfl)) (hw _ (List.mem_of_getElem? (i := 3) rfl)) (by decide) (by decide)) (g := (mkF m 105 #[.val (.int p1), .val (.int p2), .val (.int p3), .val (.int p4), .val (.ref b82), .val (.ref b89), .val (.ref a98), .val (.ref y181), .val (.int (1 : Int32)), .unset, .unset, .unset, .unset] [(.int (((((p3.toUInt32 >>> ((8 : Int32) &&& 31).toUInt32).toInt32) &&& (255 : Int32))).toUInt32.toUInt16.toUInt32.toInt32))])) rfl (by rw [hml]; rfl) (argsL := [(.int (((((p3.toUInt32 >>> ((8 : Int32) &&& 31).toUInt32).toInt32) &&& (255 : Int32))).toUInt32.toUInt16.toUInt32.toInt32))]) (rest := []) (lenOf pd_5 rfl) rfl (by show 2 * 0 + _ ≤ _; exact Nat.le_of_eq rfl) (hb hby at_105) (fun _ _ => ⟨rfl, rfl, (by decide : 7 + 2 ≤ _), (by decide : 17 + 5 ≤ _)⟩)
        dsimp only [Pt.U, Pt.locs, Pt.cells, Pt.slots] at X219 l219 y219 z219 st219 hQ219
        subst l219 y219 z219
        obtain ⟨y219, rfl, Nq219, K219⟩ := hQ219
        have N219 := Fr.app N181 Nq219
        have ZS219 : n0 ≤ T219.heap.size := Nat.le_trans ZS181 K219.1
        have O219 := O181.keep K219 all0
        have go219 : Goes p e below s₁ (entryFrame m #[(.int p1), (.int p2), (.int p3), (.int p4)] maxLocals) T219 (mkF m 108 #[.val (.int p1), .val (.int p2), .val (.int p3), .val (.int p4), .val (.ref b82), .val (.ref b89), .val (.ref a98), .val (.ref y181), .val (.int (1 : Int32)), .unset, .unset, .unset, .unset] [(.ref y219)]) := fun t k => go218 t (st219 _ k)
        have go220 : Goes p e below s₁ (entryFrame m #[(.int p1), (.int p2), (.int p3), (.int p4)] maxLocals) T219 (mkF m 112 #[.val (.int p1), .val (.int p2), .val (.int p3), .val (.int p4), .val (.ref b82), .val (.ref b89), .val (.ref a98), .val (.ref y181), .val (.int (1 : Int32)), .val (.ref y219), .unset, .unset, .unset] [(.int (1 : Int32))]) := fun t k => go219 t (by
          show Steps p.tables e below (T219.setTop (mkF m 108 #[.val (.int p1), .val (.int p2), .val (.int p3), .val (.int p4), .val (.ref b82), .val (.ref b89), .val (.ref a98), .val (.ref y181), .val (.int (1 : Int32)), .unset, .unset, .unset, .unset] [(.ref y219)])) _
          refine XS.astore X219.here hx rfl (hb hby at_108) rfl rfl (l' := #[.val (.int p1), .val (.int p2), .val (.int p3), .val (.int p4), .val (.ref b82), .val (.ref b89), .val (.ref a98), .val (.ref y181), .val (.int (1 : Int32)), .val (.ref y219), .unset, .unset, .unset]) rfl ?_
          show Steps p.tables e below (T219.setTop (mkF m 110 #[.val (.int p1), .val (.int p2), .val (.int p3), .val (.int p4), .val (.ref b82), .val (.ref b89), .val (.ref a98), .val (.ref y181), .val (.int (1 : Int32)), .val (.ref y219), .unset, .unset, .unset] [])) _
          refine XS.iload X219.here hx rfl (hb hby at_110) rfl ?_
          exact k)
        have go222 : Goes p e below s₁ (entryFrame m #[(.int p1), (.int p2), (.int p3), (.int p4)] maxLocals) T219 (mkF m 115 #[.val (.int p1), .val (.int p2), .val (.int p3), .val (.int p4), .val (.ref b82), .val (.ref b89), .val (.ref a98), .val (.ref y181), .val (.int (1 : Int32)), .val (.ref y219), .unset, .unset, .unset] []) := fun t k => go220 t (by
          show Steps p.tables e below (T219.setTop (mkF m 112 #[.val (.int p1), .val (.int p2), .val (.int p3), .val (.int p4), .val (.ref b82), .val (.ref b89), .val (.ref a98), .val (.ref y181), .val (.int (1 : Int32)), .val (.ref y219), .unset, .unset, .unset] [(.int (1 : Int32))])) _
          refine XS.ifNo X219.here hx rfl (hb hby at_112) rfl ((if0 _ _).trans (feq (by decide)).1) ?_
          exact k)
        obtain ⟨T223, h223, X223, e223, E223, A223, D223, -, st223⟩ := newO X219 hx hZ hown (hw _ (List.mem_of_getElem? (i := 44) rfl)) (hw _ (List.mem_of_getElem? (i := 45) rfl)) (hw _ (List.mem_of_getElem? (i := 46) rfl)) rfl (g := (mkF m 115 #[.val (.int p1), .val (.int p2), .val (.int p3), .val (.int p4), .val (.ref b82), .val (.ref b89), .val (.ref a98), .val (.ref y181), .val (.int (1 : Int32)), .val (.ref y219), .unset, .unset, .unset] [])) rfl (hb hby at_115) (by decide) (by decide)
        obtain ⟨b223, g223⟩ : ∃ z, z = T219.heap.size := ⟨_, rfl⟩
        rw [← g223] at A223 D223 st223
        have g_b223 : n0 ≤ b223 := Nat.le_trans ZS219 (Nat.le_of_eq g223.symm)
        have O223 := O219.ext E223
        have ZS223 : n0 ≤ h223.size := Nat.le_trans ZS219 E223.1
        have F223_id : Fld Z h223 b223 "com/example/rightful_keys/rightfulkeys/store/Account" "id" "Ljava/lang/String;" .null := D223 (Or.inr (hw _ (List.mem_of_getElem? (i := 57) rfl))) (ty := (.object "java/lang/String")) (by decide)
        have F223_name : Fld Z h223 b223 "com/example/rightful_keys/rightfulkeys/store/Account" "name" "Ljava/lang/String;" .null := D223 (Or.inr (hw _ (List.mem_of_getElem? (i := 59) rfl))) (ty := (.object "java/lang/String")) (by decide)
        have ne224 : b89 ≠ b223 := Nat.ne_of_lt (Nat.lt_of_lt_of_le ((((A89.keep K92).ext E98).keep K181).keep K219).lt (Nat.le_of_eq g223.symm))
        have go223 : Goes p e below s₁ (entryFrame m #[(.int p1), (.int p2), (.int p3), (.int p4)] maxLocals) T223 (mkF m 118 #[.val (.int p1), .val (.int p2), .val (.int p3), .val (.int p4), .val (.ref b82), .val (.ref b89), .val (.ref a98), .val (.ref y181), .val (.int (1 : Int32)), .val (.ref y219), .unset, .unset, .unset] [(.ref b223)]) := fun t k => go222 t (st223 _ k)
        have go225 : Goes p e below s₁ (entryFrame m #[(.int p1), (.int p2), (.int p3), (.int p4)] maxLocals) T223 (mkF m 123 #[.val (.int p1), .val (.int p2), .val (.int p3), .val (.int p4), .val (.ref b82), .val (.ref b89), .val (.ref a98), .val (.ref y181), .val (.int (1 : Int32)), .val (.ref y219), .unset, .unset, .unset] [(.ref a98), (.ref y219), (.ref b223), (.ref b223)]) := fun t k => go223 t (by
          show Steps p.tables e below (T223.setTop (mkF m 118 #[.val (.int p1), .val (.int p2), .val (.int p3), .val (.int p4), .val (.ref b82), .val (.ref b89), .val (.ref a98), .val (.ref y181), .val (.int (1 : Int32)), .val (.ref y219), .unset, .unset, .unset] [(.ref b223)])) _
          refine XS.dup X223.here hx rfl (hb hby at_118) rfl rfl ?_
          show Steps p.tables e below (T223.setTop (mkF m 119 #[.val (.int p1), .val (.int p2), .val (.int p3), .val (.int p4), .val (.ref b82), .val (.ref b89), .val (.ref a98), .val (.ref y181), .val (.int (1 : Int32)), .val (.ref y219), .unset, .unset, .unset] [(.ref b223), (.ref b223)])) _
          refine XS.aload X223.here hx rfl (hb hby at_119) rfl rfl ?_
          show Steps p.tables e below (T223.setTop (mkF m 121 #[.val (.int p1), .val (.int p2), .val (.int p3), .val (.int p4), .val (.ref b82), .val (.ref b89), .val (.ref a98), .val (.ref y181), .val (.int (1 : Int32)), .val (.ref y219), .unset, .unset, .unset] [(.ref y219), (.ref b223), (.ref b223)])) _
          refine XS.aload X223.here hx rfl (hb hby at_121) rfl rfl ?_
          exact k)
        obtain ⟨_, _, ⟨T226, L226, k226, n226⟩, -, X226, ⟨Lc226, hQ226, l226, y226, z226⟩, st226⟩ := X223.specialBack hx (y := (⟨"com/example/rightful_keys/rightfulkeys/store/Account", "<init>", "(Ljava/lang/String;Ljava/lang/String;)V"⟩ : MethodName)) rfl hown (mvT hZ (hw _ (List.mem_of_getElem? (i := 47) rfl))) (mvT hZ (hw _ (List.mem_of_getElem? (i := 48) rfl))) (mvT hZ (hw _ (List.mem_of_getElem? (i := 49) rfl))) (by decide) (backOf (W := 1) (rm11 l Z a0 hw [] b223 y219 a98  h223 n0 ZS223 g_b223 A223 F223_id F223_name) hZ (hw _ (List.mem_of_getElem? (i := 49) rfl)) (hw _ (List.mem_of_getElem? (i := 46) rfl)) (by decide) (by decide)) (g := (mkF m 123 #[.val (.int p1), .val (.int p2), .val (.int p3), .val (.int p4), .val (.ref b82), .val (.ref b89), .val (.ref a98), .val (.ref y181), .val (.int (1 : Int32)), .val (.ref y219), .unset, .unset, .unset] [(.ref a98), (.ref y219), (.ref b223), (.ref b223)])) rfl (by rw [hml]; rfl) (Steps.refl _) (a := b223) (argsL := [(.ref y219), (.ref a98)]) (rest := [(.ref b223)]) (lenOf pd_9 rfl) rfl (by show 2 * 0 + _ ≤ _; exact Nat.le_of_eq rfl) (hb hby at_123) (fun _ _ => ⟨rfl, e223, (by decide : 10 + 0 ≤ _), (by decide : 24 + 0 ≤ _)⟩)
        dsimp only [Pt.U, Pt.locs, Pt.cells, Pt.slots] at X226 l226 y226 z226 st226 hQ226
        subst l226 y226 z226
        obtain ⟨rfl, Nq226, K226⟩ := hQ226
        have N226 := Fr.app N219 Nq226
        have ZS226 : n0 ≤ T226.heap.size := Nat.le_trans ZS223 K226.1
        have O226 := O223.keep K226 (allS g_b223 all0)
        have go226 : Goes p e below s₁ (entryFrame m #[(.int p1), (.int p2), (.int p3), (.int p4)] maxLocals) T226 (mkF m 126 #[.val (.int p1), .val (.int p2), .val (.int p3), .val (.int p4), .val (.ref b82), .val (.ref b89), .val (.ref a98), .val (.ref y181), .val (.int (1 : Int32)), .val (.ref y219), .unset, .unset, .unset] [(.ref b223)]) := fun t k => go225 t (st226.trans k)
        have f227 := ((((((A89.keep K92).ext E98).keep K181).keep K219).ext E223).keep K226)
        have go228 : Goes p e below s₁ (entryFrame m #[(.int p1), (.int p2), (.int p3), (.int p4)] maxLocals) T226 (mkF m 132 #[.val (.int p1), .val (.int p2), .val (.int p3), .val (.int p4), .val (.ref b82), .val (.ref b89), .val (.ref a98), .val (.ref y181), .val (.int (1 : Int32)), .val (.ref y219), .val (.ref b223), .unset, .unset] []) := fun t k => go226 t (by
          show Steps p.tables e below (T226.setTop (mkF m 126 #[.val (.int p1), .val (.int p2), .val (.int p3), .val (.int p4), .val (.ref b82), .val (.ref b89), .val (.ref a98), .val (.ref y181), .val (.int (1 : Int32)), .val (.ref y219), .unset, .unset, .unset] [(.ref b223)])) _
          refine XS.goto X226.here hx rfl (pc0 := 126) (pc' := 130) rfl (hb hby at_126) (by decide) (by decide) ?_
          show Steps p.tables e below (T226.setTop (mkF m 130 #[.val (.int p1), .val (.int p2), .val (.int p3), .val (.int p4), .val (.ref b82), .val (.ref b89), .val (.ref a98), .val (.ref y181), .val (.int (1 : Int32)), .val (.ref y219), .unset, .unset, .unset] [(.ref b223)])) _
          refine XS.astore X226.here hx rfl (hb hby at_130) rfl rfl (l' := #[.val (.int p1), .val (.int p2), .val (.int p3), .val (.int p4), .val (.ref b82), .val (.ref b89), .val (.ref a98), .val (.ref y181), .val (.int (1 : Int32)), .val (.ref y219), .val (.ref b223), .unset, .unset]) rfl ?_
          exact k)
        obtain ⟨T229, h229, X229, e229, E229, A229, D229, -, st229⟩ := newO X226 hx hZ hown (hw _ (List.mem_of_getElem? (i := 60) rfl)) (hw _ (List.mem_of_getElem? (i := 61) rfl)) (hw _ (List.mem_of_getElem? (i := 62) rfl)) rfl (g := (mkF m 132 #[.val (.int p1), .val (.int p2), .val (.int p3), .val (.int p4), .val (.ref b82), .val (.ref b89), .val (.ref a98), .val (.ref y181), .val (.int (1 : Int32)), .val (.ref y219), .val (.ref b223), .unset, .unset] [])) rfl (hb hby at_132) (by decide) (by decide)
        obtain ⟨b229, g229⟩ : ∃ z, z = T226.heap.size := ⟨_, rfl⟩
        rw [← g229] at A229 D229 st229
        have g_b229 : n0 ≤ b229 := Nat.le_trans ZS226 (Nat.le_of_eq g229.symm)
        have O229 := O226.ext E229
        have ZS229 : n0 ≤ h229.size := Nat.le_trans ZS226 E229.1
        have F229_id : Fld Z h229 b229 "com/example/rightful_keys/rightfulkeys/store/Role" "id" "Ljava/lang/String;" .null := D229 (Or.inr (hw _ (List.mem_of_getElem? (i := 68) rfl))) (ty := (.object "java/lang/String")) (by decide)
        have F229_name : Fld Z h229 b229 "com/example/rightful_keys/rightfulkeys/store/Role" "name" "Ljava/lang/String;" .null := D229 (Or.inr (hw _ (List.mem_of_getElem? (i := 70) rfl))) (ty := (.object "java/lang/String")) (by decide)
        have F229_account : Fld Z h229 b229 "com/example/rightful_keys/rightfulkeys/store/Role" "account" "Lcom/example/rightful_keys/rightfulkeys/store/Account;" .null := D229 (Or.inr (hw _ (List.mem_of_getElem? (i := 72) rfl))) (ty := (.object "com/example/rightful_keys/rightfulkeys/store/Account")) (by decide)
        have F229_description : Fld Z h229 b229 "com/example/rightful_keys/rightfulkeys/store/Role" "description" "Ljava/lang/String;" .null := D229 (Or.inr (hw _ (List.mem_of_getElem? (i := 74) rfl))) (ty := (.object "java/lang/String")) (by decide)
        have F229_policy : Fld Z h229 b229 "com/example/rightful_keys/rightfulkeys/store/Role" "policy" "Ljava/util/Optional;" .null := D229 (Or.inr (hw _ (List.mem_of_getElem? (i := 76) rfl))) (ty := (.object "java/util/Optional")) (by decide)
        have ne230 : b89 ≠ b229 := Nat.ne_of_lt (Nat.lt_of_lt_of_le f227.lt (Nat.le_of_eq g229.symm))
        have ne231 : b223 ≠ b229 := Nat.ne_of_lt (Nat.lt_of_lt_of_le (A223.keep K226).lt (Nat.le_of_eq g229.symm))
        have go229 : Goes p e below s₁ (entryFrame m #[(.int p1), (.int p2), (.int p3), (.int p4)] maxLocals) T229 (mkF m 135 #[.val (.int p1), .val (.int p2), .val (.int p3), .val (.int p4), .val (.ref b82), .val (.ref b89), .val (.ref a98), .val (.ref y181), .val (.int (1 : Int32)), .val (.ref y219), .val (.ref b223), .unset, .unset] [(.ref b229)]) := fun t k => go228 t (st229 _ k)
        have go232 : Goes p e below s₁ (entryFrame m #[(.int p1), (.int p2), (.int p3), (.int p4)] maxLocals) T229 (mkF m 145 #[.val (.int p1), .val (.int p2), .val (.int p3), .val (.int p4), .val (.ref b82), .val (.ref b89), .val (.ref a98), .val (.ref y181), .val (.int (1 : Int32)), .val (.ref y219), .val (.ref b223), .unset, .unset] [.null, (.ref y181), (.ref b223), (.ref a98), (.ref b89), (.ref b229), (.ref b229)]) := fun t k => go229 t (by
          show Steps p.tables e below (T229.setTop (mkF m 135 #[.val (.int p1), .val (.int p2), .val (.int p3), .val (.int p4), .val (.ref b82), .val (.ref b89), .val (.ref a98), .val (.ref y181), .val (.int (1 : Int32)), .val (.ref y219), .val (.ref b223), .unset, .unset] [(.ref b229)])) _
          refine XS.dup X229.here hx rfl (hb hby at_135) rfl rfl ?_
          show Steps p.tables e below (T229.setTop (mkF m 136 #[.val (.int p1), .val (.int p2), .val (.int p3), .val (.int p4), .val (.ref b82), .val (.ref b89), .val (.ref a98), .val (.ref y181), .val (.int (1 : Int32)), .val (.ref y219), .val (.ref b223), .unset, .unset] [(.ref b229), (.ref b229)])) _
          refine XS.aload X229.here hx rfl (hb hby at_136) rfl rfl ?_
          show Steps p.tables e below (T229.setTop (mkF m 138 #[.val (.int p1), .val (.int p2), .val (.int p3), .val (.int p4), .val (.ref b82), .val (.ref b89), .val (.ref a98), .val (.ref y181), .val (.int (1 : Int32)), .val (.ref y219), .val (.ref b223), .unset, .unset] [(.ref b89), (.ref b229), (.ref b229)])) _
          refine XS.aload X229.here hx rfl (hb hby at_138) rfl rfl ?_
          show Steps p.tables e below (T229.setTop (mkF m 140 #[.val (.int p1), .val (.int p2), .val (.int p3), .val (.int p4), .val (.ref b82), .val (.ref b89), .val (.ref a98), .val (.ref y181), .val (.int (1 : Int32)), .val (.ref y219), .val (.ref b223), .unset, .unset] [(.ref a98), (.ref b89), (.ref b229), (.ref b229)])) _
          refine XS.aload X229.here hx rfl (hb hby at_140) rfl rfl ?_
          show Steps p.tables e below (T229.setTop (mkF m 142 #[.val (.int p1), .val (.int p2), .val (.int p3), .val (.int p4), .val (.ref b82), .val (.ref b89), .val (.ref a98), .val (.ref y181), .val (.int (1 : Int32)), .val (.ref y219), .val (.ref b223), .unset, .unset] [(.ref b223), (.ref a98), (.ref b89), (.ref b229), (.ref b229)])) _
          refine XS.aload X229.here hx rfl (hb hby at_142) rfl rfl ?_
          show Steps p.tables e below (T229.setTop (mkF m 144 #[.val (.int p1), .val (.int p2), .val (.int p3), .val (.int p4), .val (.ref b82), .val (.ref b89), .val (.ref a98), .val (.ref y181), .val (.int (1 : Int32)), .val (.ref y219), .val (.ref b223), .unset, .unset] [(.ref y181), (.ref b223), (.ref a98), (.ref b89), (.ref b229), (.ref b229)])) _
          refine XS.aconstNull X229.here hx rfl (hb hby at_144) ?_
          exact k)
        obtain ⟨_, _, ⟨T233, L233, k233, n233⟩, -, X233, ⟨Lc233, hQ233, l233, y233, z233⟩, st233⟩ := X229.specialBack hx (y := (⟨"com/example/rightful_keys/rightfulkeys/store/Role", "<init>", "(Ljava/lang/String;Ljava/lang/String;Lcom/example/rightful_keys/rightfulkeys/store/Account;Ljava/lang/String;Ljava/util/Optional;)V"⟩ : MethodName)) rfl hown (mvT hZ (hw _ (List.mem_of_getElem? (i := 63) rfl))) (mvT hZ (hw _ (List.mem_of_getElem? (i := 64) rfl))) (mvT hZ (hw _ (List.mem_of_getElem? (i := 65) rfl))) (by decide) (backOf (W := 1) (rm13a l Z a0 hw [] b229 b89 a98 b223 y181   h229 n0 ZS229 g_b229 A229 F229_id F229_name F229_account F229_description F229_policy) hZ (hw _ (List.mem_of_getElem? (i := 65) rfl)) (hw _ (List.mem_of_getElem? (i := 62) rfl)) (by decide) (by decide)) (g := (mkF m 145 #[.val (.int p1), .val (.int p2), .val (.int p3), .val (.int p4), .val (.ref b82), .val (.ref b89), .val (.ref a98), .val (.ref y181), .val (.int (1 : Int32)), .val (.ref y219), .val (.ref b223), .unset, .unset] [.null, (.ref y181), (.ref b223), (.ref a98), (.ref b89), (.ref b229), (.ref b229)])) rfl (by rw [hml]; rfl) (Steps.refl _) (a := b229) (argsL := [(.ref b89), (.ref a98), (.ref b223), (.ref y181), .null]) (rest := [(.ref b229)]) (lenOf pd_6 rfl) rfl (by show 2 * 0 + _ ≤ _; exact Nat.le_of_eq rfl) (hb hby at_145) (fun _ _ => ⟨rfl, e229, (by decide : 11 + 0 ≤ _), (by decide : 29 + 0 ≤ _)⟩)
        dsimp only [Pt.U, Pt.locs, Pt.cells, Pt.slots] at X233 l233 y233 z233 st233 hQ233
        subst l233 y233 z233
        obtain ⟨rfl, Nq233, K233, A233, F233⟩ := hQ233
        have N233 := Fr.app N226 Nq233
        have ZS233 : n0 ≤ T233.heap.size := Nat.le_trans ZS229 K233.1
        have O233 := O229.keep K233 (allS g_b229 all0)
        have go233 : Goes p e below s₁ (entryFrame m #[(.int p1), (.int p2), (.int p3), (.int p4)] maxLocals) T233 (mkF m 148 #[.val (.int p1), .val (.int p2), .val (.int p3), .val (.int p4), .val (.ref b82), .val (.ref b89), .val (.ref a98), .val (.ref y181), .val (.int (1 : Int32)), .val (.ref y219), .val (.ref b223), .unset, .unset] [(.ref b229)]) := fun t k => go232 t (st233.trans k)
        have go234 : Goes p e below s₁ (entryFrame m #[(.int p1), (.int p2), (.int p3), (.int p4)] maxLocals) T233 (mkF m 152 #[.val (.int p1), .val (.int p2), .val (.int p3), .val (.int p4), .val (.ref b82), .val (.ref b89), .val (.ref a98), .val (.ref y181), .val (.int (1 : Int32)), .val (.ref y219), .val (.ref b223), .val (.ref b229), .unset] [(.ref b229)]) := fun t k => go233 t (by
          show Steps p.tables e below (T233.setTop (mkF m 148 #[.val (.int p1), .val (.int p2), .val (.int p3), .val (.int p4), .val (.ref b82), .val (.ref b89), .val (.ref a98), .val (.ref y181), .val (.int (1 : Int32)), .val (.ref y219), .val (.ref b223), .unset, .unset] [(.ref b229)])) _
          refine XS.astore X233.here hx rfl (hb hby at_148) rfl rfl (l' := #[.val (.int p1), .val (.int p2), .val (.int p3), .val (.int p4), .val (.ref b82), .val (.ref b89), .val (.ref a98), .val (.ref y181), .val (.int (1 : Int32)), .val (.ref y219), .val (.ref b223), .val (.ref b229), .unset]) rfl ?_
          show Steps p.tables e below (T233.setTop (mkF m 150 #[.val (.int p1), .val (.int p2), .val (.int p3), .val (.int p4), .val (.ref b82), .val (.ref b89), .val (.ref a98), .val (.ref y181), .val (.int (1 : Int32)), .val (.ref y219), .val (.ref b223), .val (.ref b229), .unset] [])) _
          refine XS.aload X233.here hx rfl (hb hby at_150) rfl rfl ?_
          exact k)
        obtain ⟨cq235, kq235, q235a, q235b, q235c⟩ := isOf hZ rfl A233
        obtain ⟨_, _, ⟨T235, L235, k235, n235⟩, -, X235, ⟨Lc235, hQ235, l235, y235, z235⟩, st235⟩ := X233.virtualBack hx (y := (⟨"com/example/rightful_keys/rightfulkeys/store/Role", "isSystem", "()Z"⟩ : MethodName)) (z := (⟨"com/example/rightful_keys/rightfulkeys/store/Role", "isSystem", "()Z"⟩ : MethodName)) hown (mvT hZ (hw _ (List.mem_of_getElem? (i := 77) rfl))) (mvT hZ (hw _ (List.mem_of_getElem? (i := 78) rfl))) (notFace_of_selects (args := #[]) (mvT hZ (hw _ (List.mem_of_getElem? (i := 80) rfl)))) (mvT hZ (hw _ (List.mem_of_getElem? (i := 80) rfl))) (mvT hZ (hw _ (List.mem_of_getElem? (i := 79) rfl))) (by decide) (backOf (W := 0) (rm14a l Z a0 hw [] b229 b223 T233.heap n0 ZS233 F233) hZ (hw _ (List.mem_of_getElem? (i := 81) rfl)) (hw _ (List.mem_of_getElem? (i := 62) rfl)) (by decide) (by decide)) q235a q235c (g := (mkF m 152 #[.val (.int p1), .val (.int p2), .val (.int p3), .val (.int p4), .val (.ref b82), .val (.ref b89), .val (.ref a98), .val (.ref y181), .val (.int (1 : Int32)), .val (.ref y219), .val (.ref b223), .val (.ref b229), .unset] [(.ref b229)])) rfl (by rw [hml]; rfl) (Steps.refl _) (argsL := []) (rest := []) (lenOf pd_7 rfl) rfl (by show 2 * 0 + _ ≤ _; exact Nat.le_of_eq rfl) (hb hby at_152) (fun _ _ => ⟨rfl, rfl, (by decide : 11 + 0 ≤ _), (by decide : 29 + 0 ≤ _)⟩)
        dsimp only [Pt.U, Pt.locs, Pt.cells, Pt.slots] at X235 l235 y235 z235 st235 hQ235
        subst l235 y235 z235
        obtain ⟨rfl, Nq235, eq235⟩ := hQ235
        have N235 := Fr.app N233 Nq235
        have go235 : Goes p e below s₁ (entryFrame m #[(.int p1), (.int p2), (.int p3), (.int p4)] maxLocals) T235 (mkF m 155 #[.val (.int p1), .val (.int p2), .val (.int p3), .val (.int p4), .val (.ref b82), .val (.ref b89), .val (.ref a98), .val (.ref y181), .val (.int (1 : Int32)), .val (.ref y219), .val (.ref b223), .val (.ref b229), .unset] [(.int (0 : Int32))]) := fun t k => go234 t (st235.trans k)
        have go236 : Goes p e below s₁ (entryFrame m #[(.int p1), (.int p2), (.int p3), (.int p4)] maxLocals) T235 (mkF m 161 #[.val (.int p1), .val (.int p2), .val (.int p3), .val (.int p4), .val (.ref b82), .val (.ref b89), .val (.ref a98), .val (.ref y181), .val (.int (1 : Int32)), .val (.ref y219), .val (.ref b223), .val (.ref b229), .val (.int (0 : Int32))] [(.int (1 : Int32)), (.int (0 : Int32))]) := fun t k => go235 t (by
          show Steps p.tables e below (T235.setTop (mkF m 155 #[.val (.int p1), .val (.int p2), .val (.int p3), .val (.int p4), .val (.ref b82), .val (.ref b89), .val (.ref a98), .val (.ref y181), .val (.int (1 : Int32)), .val (.ref y219), .val (.ref b223), .val (.ref b229), .unset] [(.int (0 : Int32))])) _
          refine XS.istore X235.here hx rfl (hb hby at_155) rfl (l' := #[.val (.int p1), .val (.int p2), .val (.int p3), .val (.int p4), .val (.ref b82), .val (.ref b89), .val (.ref a98), .val (.ref y181), .val (.int (1 : Int32)), .val (.ref y219), .val (.ref b223), .val (.ref b229), .val (.int (0 : Int32))]) rfl ?_
          show Steps p.tables e below (T235.setTop (mkF m 157 #[.val (.int p1), .val (.int p2), .val (.int p3), .val (.int p4), .val (.ref b82), .val (.ref b89), .val (.ref a98), .val (.ref y181), .val (.int (1 : Int32)), .val (.ref y219), .val (.ref b223), .val (.ref b229), .val (.int (0 : Int32))] [])) _
          refine XS.iload X235.here hx rfl (hb hby at_157) rfl ?_
          show Steps p.tables e below (T235.setTop (mkF m 159 #[.val (.int p1), .val (.int p2), .val (.int p3), .val (.int p4), .val (.ref b82), .val (.ref b89), .val (.ref a98), .val (.ref y181), .val (.int (1 : Int32)), .val (.ref y219), .val (.ref b223), .val (.ref b229), .val (.int (0 : Int32))] [(.int (0 : Int32))])) _
          refine XS.iload X235.here hx rfl (hb hby at_159) rfl ?_
          exact k)
        have go237 : Goes p e below s₁ (entryFrame m #[(.int p1), (.int p2), (.int p3), (.int p4)] maxLocals) T235 (mkF m 169 #[.val (.int p1), .val (.int p2), .val (.int p3), .val (.int p4), .val (.ref b82), .val (.ref b89), .val (.ref a98), .val (.ref y181), .val (.int (1 : Int32)), .val (.ref y219), .val (.ref b223), .val (.ref b229), .val (.int (0 : Int32))] [(.int (0 : Int32)), (.int (0 : Int32))]) := fun t k => go236 t (by
          show Steps p.tables e below (T235.setTop (mkF m 161 #[.val (.int p1), .val (.int p2), .val (.int p3), .val (.int p4), .val (.ref b82), .val (.ref b89), .val (.ref a98), .val (.ref y181), .val (.int (1 : Int32)), .val (.ref y219), .val (.ref b223), .val (.ref b229), .val (.int (0 : Int32))] [(.int (1 : Int32)), (.int (0 : Int32))])) _
          refine XS.ifYes X235.here hx rfl (pc0 := 161) (pc' := 168) rfl (hb hby at_161) rfl ((if0 _ _).trans (feq (by decide)).2) (by decide) (by decide) ?_
          show Steps p.tables e below (T235.setTop (mkF m 168 #[.val (.int p1), .val (.int p2), .val (.int p3), .val (.int p4), .val (.ref b82), .val (.ref b89), .val (.ref a98), .val (.ref y181), .val (.int (1 : Int32)), .val (.ref y219), .val (.ref b223), .val (.ref b229), .val (.int (0 : Int32))] [(.int (0 : Int32))])) _
          refine XS.iconst X235.here hx rfl (hb hby at_168) ?_
          exact k)
        have go238 : Goes p e below s₁ (entryFrame m #[(.int p1), (.int p2), (.int p3), (.int p4)] maxLocals) T235 (mkF m 176 #[.val (.int p1), .val (.int p2), .val (.int p3), .val (.int p4), .val (.ref b82), .val (.ref b89), .val (.ref a98), .val (.ref y181), .val (.int (1 : Int32)), .val (.ref y219), .val (.ref b223), .val (.ref b229), .val (.int (0 : Int32))] [(.ref b229), (.int (0 : Int32))]) := fun t k => go237 t (by
          show Steps p.tables e below (T235.setTop (mkF m 169 #[.val (.int p1), .val (.int p2), .val (.int p3), .val (.int p4), .val (.ref b82), .val (.ref b89), .val (.ref a98), .val (.ref y181), .val (.int (1 : Int32)), .val (.ref y219), .val (.ref b223), .val (.ref b229), .val (.int (0 : Int32))] [(.int (0 : Int32)), (.int (0 : Int32))])) _
          refine XS.icmpNo X235.here hx rfl (hb hby at_169) rfl (teq rfl).2 ?_
          show Steps p.tables e below (T235.setTop (mkF m 172 #[.val (.int p1), .val (.int p2), .val (.int p3), .val (.int p4), .val (.ref b82), .val (.ref b89), .val (.ref a98), .val (.ref y181), .val (.int (1 : Int32)), .val (.ref y219), .val (.ref b223), .val (.ref b229), .val (.int (0 : Int32))] [])) _
          refine XS.iload X235.here hx rfl (hb hby at_172) rfl ?_
          show Steps p.tables e below (T235.setTop (mkF m 174 #[.val (.int p1), .val (.int p2), .val (.int p3), .val (.int p4), .val (.ref b82), .val (.ref b89), .val (.ref a98), .val (.ref y181), .val (.int (1 : Int32)), .val (.ref y219), .val (.ref b223), .val (.ref b229), .val (.int (0 : Int32))] [(.int (0 : Int32))])) _
          refine XS.aload X235.here hx rfl (hb hby at_174) rfl rfl ?_
          exact k)
        obtain ⟨cq239, kq239, q239a, q239b, q239c⟩ := isOf hZ eq235 A233
        obtain ⟨_, _, ⟨T239, L239, k239, n239⟩, -, X239, ⟨Lc239, hQ239, l239, y239, z239⟩, st239⟩ := X235.virtualBack hx (y := (⟨"com/example/rightful_keys/rightfulkeys/store/Role", "account", "()Lcom/example/rightful_keys/rightfulkeys/store/Account;"⟩ : MethodName)) (z := (⟨"com/example/rightful_keys/rightfulkeys/store/Role", "account", "()Lcom/example/rightful_keys/rightfulkeys/store/Account;"⟩ : MethodName)) hown (mvT hZ (hw _ (List.mem_of_getElem? (i := 82) rfl))) (mvT hZ (hw _ (List.mem_of_getElem? (i := 83) rfl))) (notFace_of_selects (args := #[]) (mvT hZ (hw _ (List.mem_of_getElem? (i := 85) rfl)))) (mvT hZ (hw _ (List.mem_of_getElem? (i := 85) rfl))) (mvT hZ (hw _ (List.mem_of_getElem? (i := 84) rfl))) (by decide) (backOf (W := 1) (rm15a l Z a0 hw [] b229 b223 T233.heap n0 ZS233 F233) hZ (hw _ (List.mem_of_getElem? (i := 86) rfl)) (hw _ (List.mem_of_getElem? (i := 62) rfl)) (by decide) (by decide)) q239a q239c (g := (mkF m 176 #[.val (.int p1), .val (.int p2), .val (.int p3), .val (.int p4), .val (.ref b82), .val (.ref b89), .val (.ref a98), .val (.ref y181), .val (.int (1 : Int32)), .val (.ref y219), .val (.ref b223), .val (.ref b229), .val (.int (0 : Int32))] [(.ref b229), (.int (0 : Int32))])) rfl (by rw [hml]; rfl) (Steps.refl _) (argsL := []) (rest := [(.int (0 : Int32))]) (lenOf pd_8 rfl) rfl (by show 2 * 0 + _ ≤ _; exact Nat.le_of_eq rfl) (hb hby at_176) (fun _ _ => ⟨rfl, eq235, (by decide : 11 + 0 ≤ _), (by decide : 29 + 0 ≤ _)⟩)
        dsimp only [Pt.U, Pt.locs, Pt.cells, Pt.slots] at X239 l239 y239 z239 st239 hQ239
        subst l239 y239 z239
        obtain ⟨rfl, Nq239, eq239⟩ := hQ239
        have N239 := Fr.app N235 Nq239
        have go239 : Goes p e below s₁ (entryFrame m #[(.int p1), (.int p2), (.int p3), (.int p4)] maxLocals) T239 (mkF m 179 #[.val (.int p1), .val (.int p2), .val (.int p3), .val (.int p4), .val (.ref b82), .val (.ref b89), .val (.ref a98), .val (.ref y181), .val (.int (1 : Int32)), .val (.ref y219), .val (.ref b223), .val (.ref b229), .val (.int (0 : Int32))] [(.ref b223), (.int (0 : Int32))]) := fun t k => go238 t (st239.trans k)
        have go240 : Goes p e below s₁ (entryFrame m #[(.int p1), (.int p2), (.int p3), (.int p4)] maxLocals) T239 (mkF m 187 #[.val (.int p1), .val (.int p2), .val (.int p3), .val (.int p4), .val (.ref b82), .val (.ref b89), .val (.ref a98), .val (.ref y181), .val (.int (1 : Int32)), .val (.ref y219), .val (.ref b223), .val (.ref b229), .val (.int (0 : Int32))] [(.int (0 : Int32)), (.int (0 : Int32))]) := fun t k => go239 t (by
          show Steps p.tables e below (T239.setTop (mkF m 179 #[.val (.int p1), .val (.int p2), .val (.int p3), .val (.int p4), .val (.ref b82), .val (.ref b89), .val (.ref a98), .val (.ref y181), .val (.int (1 : Int32)), .val (.ref y219), .val (.ref b223), .val (.ref b229), .val (.int (0 : Int32))] [(.ref b223), (.int (0 : Int32))])) _
          refine XS.ifnonnullYes X239.here hx rfl (pc0 := 179) (pc' := 186) rfl (hb hby at_179) rfl (by decide) (by decide) ?_
          show Steps p.tables e below (T239.setTop (mkF m 186 #[.val (.int p1), .val (.int p2), .val (.int p3), .val (.int p4), .val (.ref b82), .val (.ref b89), .val (.ref a98), .val (.ref y181), .val (.int (1 : Int32)), .val (.ref y219), .val (.ref b223), .val (.ref b229), .val (.int (0 : Int32))] [(.int (0 : Int32))])) _
          refine XS.iconst X239.here hx rfl (hb hby at_186) ?_
          exact k)
        have go241 : Goes p e below s₁ (entryFrame m #[(.int p1), (.int p2), (.int p3), (.int p4)] maxLocals) T239 (mkF m 195 #[.val (.int p1), .val (.int p2), .val (.int p3), .val (.int p4), .val (.ref b82), .val (.ref b89), .val (.ref a98), .val (.ref y181), .val (.int (1 : Int32)), .val (.ref y219), .val (.ref b223), .val (.ref b229), .val (.int (0 : Int32))] [(.int (1 : Int32))]) := fun t k => go240 t (by
          show Steps p.tables e below (T239.setTop (mkF m 187 #[.val (.int p1), .val (.int p2), .val (.int p3), .val (.int p4), .val (.ref b82), .val (.ref b89), .val (.ref a98), .val (.ref y181), .val (.int (1 : Int32)), .val (.ref y219), .val (.ref b223), .val (.ref b229), .val (.int (0 : Int32))] [(.int (0 : Int32)), (.int (0 : Int32))])) _
          refine XS.icmpNo X239.here hx rfl (hb hby at_187) rfl (teq rfl).2 ?_
          show Steps p.tables e below (T239.setTop (mkF m 190 #[.val (.int p1), .val (.int p2), .val (.int p3), .val (.int p4), .val (.ref b82), .val (.ref b89), .val (.ref a98), .val (.ref y181), .val (.int (1 : Int32)), .val (.ref y219), .val (.ref b223), .val (.ref b229), .val (.int (0 : Int32))] [])) _
          refine XS.iconst X239.here hx rfl (hb hby at_190) ?_
          show Steps p.tables e below (T239.setTop (mkF m 191 #[.val (.int p1), .val (.int p2), .val (.int p3), .val (.int p4), .val (.ref b82), .val (.ref b89), .val (.ref a98), .val (.ref y181), .val (.int (1 : Int32)), .val (.ref y219), .val (.ref b223), .val (.ref b229), .val (.int (0 : Int32))] [(.int (1 : Int32))])) _
          refine XS.goto X239.here hx rfl (pc0 := 191) (pc' := 195) rfl (hb hby at_191) (by decide) (by decide) ?_
          exact k)
        obtain ⟨fs, hr, hrun, hended, hEW⟩ := Stand.leaveW (s := s) X239 hS98 (by rw [eq239]; exact (Nat.le_trans (Nat.le_trans (Nat.le_trans (Nat.le_trans (Nat.le_trans (Nat.le_trans hk98 K181.1) K219.1) E223.1) K226.1) E229.1) K233.1)) (v := some (.int (1 : Int32))) (fun h => by rw [Bd.returns] at h; cases h)
        refine ⟨_, _, go241 _ ?_, hrun, hended, _, _, rfl, ?_, hEW.1, hEW.2.1, hEW.2.2.1, hEW.2.2.2.mono (by decide) (by decide)⟩
        · exact retN X239 hx (t := .boolean) Bd.returns (by simp) (hb hby at_195) hr
        · show Q_rm0 Z p1 p2 p3 p4 cz h0 n0 _ T239.heap _
          rw [eq239]
          exact ⟨rfl, N239⟩
      · have go221 : Goes p e below s₁ (entryFrame m #[(.int p1), (.int p2), (.int p3), (.int p4)] maxLocals) T181 (mkF m 112 #[.val (.int p1), .val (.int p2), .val (.int p3), .val (.int p4), .val (.ref b82), .val (.ref b89), .val (.ref a98), .val (.ref y181), .val (.int (1 : Int32)), .val (.ref b89), .unset, .unset, .unset] [(.int (1 : Int32))]) := fun t k => go216 t (by
          show Steps p.tables e below (T181.setTop (mkF m 88 #[.val (.int p1), .val (.int p2), .val (.int p3), .val (.int p4), .val (.ref b82), .val (.ref b89), .val (.ref a98), .val (.ref y181), .val (.int (1 : Int32)), .unset, .unset, .unset, .unset] [(.int (p4 &&& (2 : Int32)))])) _
          refine XS.ifNo X181.here hx rfl (hb hby at_88) rfl ((if0 _ _).trans (feq hc88_217).1) ?_
          show Steps p.tables e below (T181.setTop (mkF m 91 #[.val (.int p1), .val (.int p2), .val (.int p3), .val (.int p4), .val (.ref b82), .val (.ref b89), .val (.ref a98), .val (.ref y181), .val (.int (1 : Int32)), .unset, .unset, .unset, .unset] [])) _
          refine XS.aload X181.here hx rfl (hb hby at_91) rfl rfl ?_
          show Steps p.tables e below (T181.setTop (mkF m 93 #[.val (.int p1), .val (.int p2), .val (.int p3), .val (.int p4), .val (.ref b82), .val (.ref b89), .val (.ref a98), .val (.ref y181), .val (.int (1 : Int32)), .unset, .unset, .unset, .unset] [(.ref b89)])) _
          refine XS.goto X181.here hx rfl (pc0 := 93) (pc' := 108) rfl (hb hby at_93) (by decide) (by decide) ?_
          show Steps p.tables e below (T181.setTop (mkF m 108 #[.val (.int p1), .val (.int p2), .val (.int p3), .val (.int p4), .val (.ref b82), .val (.ref b89), .val (.ref a98), .val (.ref y181), .val (.int (1 : Int32)), .unset, .unset, .unset, .unset] [(.ref b89)])) _
          refine XS.astore X181.here hx rfl (hb hby at_108) rfl rfl (l' := #[.val (.int p1), .val (.int p2), .val (.int p3), .val (.int p4), .val (.ref b82), .val (.ref b89), .val (.ref a98), .val (.ref y181), .val (.int (1 : Int32)), .val (.ref b89), .unset, .unset, .unset]) rfl ?_
          show Steps p.tables e below (T181.setTop (mkF m 110 #[.val (.int p1), .val (.int p2), .val (.int p3), .val (.int p4), .val (.ref b82), .val (.ref b89), .val (.ref a98), .val (.ref y181), .val (.int (1 : Int32)), .val (.ref b89), .unset, .unset, .unset] [])) _
          refine XS.iload X181.here hx rfl (hb hby at_110) rfl ?_
          exact k)
        have go242 : Goes p e below s₁ (entryFrame m #[(.int p1), (.int p2), (.int p3), (.int p4)] maxLocals) T181 (mkF m 115 #[.val (.int p1), .val (.int p2), .val (.int p3), .val (.int p4), .val (.ref b82), .val (.ref b89), .val (.ref a98), .val (.ref y181), .val (.int (1 : Int32)), .val (.ref b89), .unset, .unset, .unset] []) := fun t k => go221 t (by
          show Steps p.tables e below (T181.setTop (mkF m 112 #[.val (.int p1), .val (.int p2), .val (.int p3), .val (.int p4), .val (.ref b82), .val (.ref b89), .val (.ref a98), .val (.ref y181), .val (.int (1 : Int32)), .val (.ref b89), .unset, .unset, .unset] [(.int (1 : Int32))])) _
          refine XS.ifNo X181.here hx rfl (hb hby at_112) rfl ((if0 _ _).trans (feq (by decide)).1) ?_
          exact k)
        obtain ⟨T243, h243, X243, e243, E243, A243, D243, -, st243⟩ := newO X181 hx hZ hown (hw _ (List.mem_of_getElem? (i := 44) rfl)) (hw _ (List.mem_of_getElem? (i := 45) rfl)) (hw _ (List.mem_of_getElem? (i := 46) rfl)) rfl (g := (mkF m 115 #[.val (.int p1), .val (.int p2), .val (.int p3), .val (.int p4), .val (.ref b82), .val (.ref b89), .val (.ref a98), .val (.ref y181), .val (.int (1 : Int32)), .val (.ref b89), .unset, .unset, .unset] [])) rfl (hb hby at_115) (by decide) (by decide)
        obtain ⟨b243, g243⟩ : ∃ z, z = T181.heap.size := ⟨_, rfl⟩
        rw [← g243] at A243 D243 st243
        have g_b243 : n0 ≤ b243 := Nat.le_trans ZS181 (Nat.le_of_eq g243.symm)
        have O243 := O181.ext E243
        have ZS243 : n0 ≤ h243.size := Nat.le_trans ZS181 E243.1
        have F243_id : Fld Z h243 b243 "com/example/rightful_keys/rightfulkeys/store/Account" "id" "Ljava/lang/String;" .null := D243 (Or.inr (hw _ (List.mem_of_getElem? (i := 57) rfl))) (ty := (.object "java/lang/String")) (by decide)
        have F243_name : Fld Z h243 b243 "com/example/rightful_keys/rightfulkeys/store/Account" "name" "Ljava/lang/String;" .null := D243 (Or.inr (hw _ (List.mem_of_getElem? (i := 59) rfl))) (ty := (.object "java/lang/String")) (by decide)
        have ne244 : b89 ≠ b243 := Nat.ne_of_lt (Nat.lt_of_lt_of_le (((A89.keep K92).ext E98).keep K181).lt (Nat.le_of_eq g243.symm))
        have go243 : Goes p e below s₁ (entryFrame m #[(.int p1), (.int p2), (.int p3), (.int p4)] maxLocals) T243 (mkF m 118 #[.val (.int p1), .val (.int p2), .val (.int p3), .val (.int p4), .val (.ref b82), .val (.ref b89), .val (.ref a98), .val (.ref y181), .val (.int (1 : Int32)), .val (.ref b89), .unset, .unset, .unset] [(.ref b243)]) := fun t k => go242 t (st243 _ k)
        have go245 : Goes p e below s₁ (entryFrame m #[(.int p1), (.int p2), (.int p3), (.int p4)] maxLocals) T243 (mkF m 123 #[.val (.int p1), .val (.int p2), .val (.int p3), .val (.int p4), .val (.ref b82), .val (.ref b89), .val (.ref a98), .val (.ref y181), .val (.int (1 : Int32)), .val (.ref b89), .unset, .unset, .unset] [(.ref a98), (.ref b89), (.ref b243), (.ref b243)]) := fun t k => go243 t (by
          show Steps p.tables e below (T243.setTop (mkF m 118 #[.val (.int p1), .val (.int p2), .val (.int p3), .val (.int p4), .val (.ref b82), .val (.ref b89), .val (.ref a98), .val (.ref y181), .val (.int (1 : Int32)), .val (.ref b89), .unset, .unset, .unset] [(.ref b243)])) _
          refine XS.dup X243.here hx rfl (hb hby at_118) rfl rfl ?_
          show Steps p.tables e below (T243.setTop (mkF m 119 #[.val (.int p1), .val (.int p2), .val (.int p3), .val (.int p4), .val (.ref b82), .val (.ref b89), .val (.ref a98), .val (.ref y181), .val (.int (1 : Int32)), .val (.ref b89), .unset, .unset, .unset] [(.ref b243), (.ref b243)])) _
          refine XS.aload X243.here hx rfl (hb hby at_119) rfl rfl ?_
          show Steps p.tables e below (T243.setTop (mkF m 121 #[.val (.int p1), .val (.int p2), .val (.int p3), .val (.int p4), .val (.ref b82), .val (.ref b89), .val (.ref a98), .val (.ref y181), .val (.int (1 : Int32)), .val (.ref b89), .unset, .unset, .unset] [(.ref b89), (.ref b243), (.ref b243)])) _
          refine XS.aload X243.here hx rfl (hb hby at_121) rfl rfl ?_
          exact k)
        obtain ⟨_, _, ⟨T246, L246, k246, n246⟩, -, X246, ⟨Lc246, hQ246, l246, y246, z246⟩, st246⟩ := X243.specialBack hx (y := (⟨"com/example/rightful_keys/rightfulkeys/store/Account", "<init>", "(Ljava/lang/String;Ljava/lang/String;)V"⟩ : MethodName)) rfl hown (mvT hZ (hw _ (List.mem_of_getElem? (i := 47) rfl))) (mvT hZ (hw _ (List.mem_of_getElem? (i := 48) rfl))) (mvT hZ (hw _ (List.mem_of_getElem? (i := 49) rfl))) (by decide) (backOf (W := 1) (rm11 l Z a0 hw [] b243 b89 a98  h243 n0 ZS243 g_b243 A243 F243_id F243_name) hZ (hw _ (List.mem_of_getElem? (i := 49) rfl)) (hw _ (List.mem_of_getElem? (i := 46) rfl)) (by decide) (by decide)) (g := (mkF m 123 #[.val (.int p1), .val (.int p2), .val (.int p3), .val (.int p4), .val (.ref b82), .val (.ref b89), .val (.ref a98), .val (.ref y181), .val (.int (1 : Int32)), .val (.ref b89), .unset, .unset, .unset] [(.ref a98), (.ref b89), (.ref b243), (.ref b243)])) rfl (by rw [hml]; rfl) (Steps.refl _) (a := b243) (argsL := [(.ref b89), (.ref a98)]) (rest := [(.ref b243)]) (lenOf pd_9 rfl) rfl (by show 2 * 0 + _ ≤ _; exact Nat.le_of_eq rfl) (hb hby at_123) (fun _ _ => ⟨rfl, e243, (by decide : 8 + 0 ≤ _), (by decide : 19 + 0 ≤ _)⟩)
        dsimp only [Pt.U, Pt.locs, Pt.cells, Pt.slots] at X246 l246 y246 z246 st246 hQ246
        subst l246 y246 z246
        obtain ⟨rfl, Nq246, K246⟩ := hQ246
        have N246 := Fr.app N181 Nq246
        have ZS246 : n0 ≤ T246.heap.size := Nat.le_trans ZS243 K246.1
        have O246 := O243.keep K246 (allS g_b243 all0)
        have go246 : Goes p e below s₁ (entryFrame m #[(.int p1), (.int p2), (.int p3), (.int p4)] maxLocals) T246 (mkF m 126 #[.val (.int p1), .val (.int p2), .val (.int p3), .val (.int p4), .val (.ref b82), .val (.ref b89), .val (.ref a98), .val (.ref y181), .val (.int (1 : Int32)), .val (.ref b89), .unset, .unset, .unset] [(.ref b243)]) := fun t k => go245 t (st246.trans k)
        have go247 : Goes p e below s₁ (entryFrame m #[(.int p1), (.int p2), (.int p3), (.int p4)] maxLocals) T246 (mkF m 132 #[.val (.int p1), .val (.int p2), .val (.int p3), .val (.int p4), .val (.ref b82), .val (.ref b89), .val (.ref a98), .val (.ref y181), .val (.int (1 : Int32)), .val (.ref b89), .val (.ref b243), .unset, .unset] []) := fun t k => go246 t (by
          show Steps p.tables e below (T246.setTop (mkF m 126 #[.val (.int p1), .val (.int p2), .val (.int p3), .val (.int p4), .val (.ref b82), .val (.ref b89), .val (.ref a98), .val (.ref y181), .val (.int (1 : Int32)), .val (.ref b89), .unset, .unset, .unset] [(.ref b243)])) _
          refine XS.goto X246.here hx rfl (pc0 := 126) (pc' := 130) rfl (hb hby at_126) (by decide) (by decide) ?_
          show Steps p.tables e below (T246.setTop (mkF m 130 #[.val (.int p1), .val (.int p2), .val (.int p3), .val (.int p4), .val (.ref b82), .val (.ref b89), .val (.ref a98), .val (.ref y181), .val (.int (1 : Int32)), .val (.ref b89), .unset, .unset, .unset] [(.ref b243)])) _
          refine XS.astore X246.here hx rfl (hb hby at_130) rfl rfl (l' := #[.val (.int p1), .val (.int p2), .val (.int p3), .val (.int p4), .val (.ref b82), .val (.ref b89), .val (.ref a98), .val (.ref y181), .val (.int (1 : Int32)), .val (.ref b89), .val (.ref b243), .unset, .unset]) rfl ?_
          exact k)
        obtain ⟨T248, h248, X248, e248, E248, A248, D248, -, st248⟩ := newO X246 hx hZ hown (hw _ (List.mem_of_getElem? (i := 60) rfl)) (hw _ (List.mem_of_getElem? (i := 61) rfl)) (hw _ (List.mem_of_getElem? (i := 62) rfl)) rfl (g := (mkF m 132 #[.val (.int p1), .val (.int p2), .val (.int p3), .val (.int p4), .val (.ref b82), .val (.ref b89), .val (.ref a98), .val (.ref y181), .val (.int (1 : Int32)), .val (.ref b89), .val (.ref b243), .unset, .unset] [])) rfl (hb hby at_132) (by decide) (by decide)
        obtain ⟨b248, g248⟩ : ∃ z, z = T246.heap.size := ⟨_, rfl⟩
        rw [← g248] at A248 D248 st248
        have g_b248 : n0 ≤ b248 := Nat.le_trans ZS246 (Nat.le_of_eq g248.symm)
        have O248 := O246.ext E248
        have ZS248 : n0 ≤ h248.size := Nat.le_trans ZS246 E248.1
        have F248_id : Fld Z h248 b248 "com/example/rightful_keys/rightfulkeys/store/Role" "id" "Ljava/lang/String;" .null := D248 (Or.inr (hw _ (List.mem_of_getElem? (i := 68) rfl))) (ty := (.object "java/lang/String")) (by decide)
        have F248_name : Fld Z h248 b248 "com/example/rightful_keys/rightfulkeys/store/Role" "name" "Ljava/lang/String;" .null := D248 (Or.inr (hw _ (List.mem_of_getElem? (i := 70) rfl))) (ty := (.object "java/lang/String")) (by decide)
        have F248_account : Fld Z h248 b248 "com/example/rightful_keys/rightfulkeys/store/Role" "account" "Lcom/example/rightful_keys/rightfulkeys/store/Account;" .null := D248 (Or.inr (hw _ (List.mem_of_getElem? (i := 72) rfl))) (ty := (.object "com/example/rightful_keys/rightfulkeys/store/Account")) (by decide)
        have F248_description : Fld Z h248 b248 "com/example/rightful_keys/rightfulkeys/store/Role" "description" "Ljava/lang/String;" .null := D248 (Or.inr (hw _ (List.mem_of_getElem? (i := 74) rfl))) (ty := (.object "java/lang/String")) (by decide)
        have F248_policy : Fld Z h248 b248 "com/example/rightful_keys/rightfulkeys/store/Role" "policy" "Ljava/util/Optional;" .null := D248 (Or.inr (hw _ (List.mem_of_getElem? (i := 76) rfl))) (ty := (.object "java/util/Optional")) (by decide)
        have ne249 : b89 ≠ b248 := Nat.ne_of_lt (Nat.lt_of_lt_of_le (((((A89.keep K92).ext E98).keep K181).ext E243).keep K246).lt (Nat.le_of_eq g248.symm))
        have ne250 : b243 ≠ b248 := Nat.ne_of_lt (Nat.lt_of_lt_of_le (A243.keep K246).lt (Nat.le_of_eq g248.symm))
        have go248 : Goes p e below s₁ (entryFrame m #[(.int p1), (.int p2), (.int p3), (.int p4)] maxLocals) T248 (mkF m 135 #[.val (.int p1), .val (.int p2), .val (.int p3), .val (.int p4), .val (.ref b82), .val (.ref b89), .val (.ref a98), .val (.ref y181), .val (.int (1 : Int32)), .val (.ref b89), .val (.ref b243), .unset, .unset] [(.ref b248)]) := fun t k => go247 t (st248 _ k)
        have go251 : Goes p e below s₁ (entryFrame m #[(.int p1), (.int p2), (.int p3), (.int p4)] maxLocals) T248 (mkF m 145 #[.val (.int p1), .val (.int p2), .val (.int p3), .val (.int p4), .val (.ref b82), .val (.ref b89), .val (.ref a98), .val (.ref y181), .val (.int (1 : Int32)), .val (.ref b89), .val (.ref b243), .unset, .unset] [.null, (.ref y181), (.ref b243), (.ref a98), (.ref b89), (.ref b248), (.ref b248)]) := fun t k => go248 t (by
          show Steps p.tables e below (T248.setTop (mkF m 135 #[.val (.int p1), .val (.int p2), .val (.int p3), .val (.int p4), .val (.ref b82), .val (.ref b89), .val (.ref a98), .val (.ref y181), .val (.int (1 : Int32)), .val (.ref b89), .val (.ref b243), .unset, .unset] [(.ref b248)])) _
          refine XS.dup X248.here hx rfl (hb hby at_135) rfl rfl ?_
          show Steps p.tables e below (T248.setTop (mkF m 136 #[.val (.int p1), .val (.int p2), .val (.int p3), .val (.int p4), .val (.ref b82), .val (.ref b89), .val (.ref a98), .val (.ref y181), .val (.int (1 : Int32)), .val (.ref b89), .val (.ref b243), .unset, .unset] [(.ref b248), (.ref b248)])) _
          refine XS.aload X248.here hx rfl (hb hby at_136) rfl rfl ?_
          show Steps p.tables e below (T248.setTop (mkF m 138 #[.val (.int p1), .val (.int p2), .val (.int p3), .val (.int p4), .val (.ref b82), .val (.ref b89), .val (.ref a98), .val (.ref y181), .val (.int (1 : Int32)), .val (.ref b89), .val (.ref b243), .unset, .unset] [(.ref b89), (.ref b248), (.ref b248)])) _
          refine XS.aload X248.here hx rfl (hb hby at_138) rfl rfl ?_
          show Steps p.tables e below (T248.setTop (mkF m 140 #[.val (.int p1), .val (.int p2), .val (.int p3), .val (.int p4), .val (.ref b82), .val (.ref b89), .val (.ref a98), .val (.ref y181), .val (.int (1 : Int32)), .val (.ref b89), .val (.ref b243), .unset, .unset] [(.ref a98), (.ref b89), (.ref b248), (.ref b248)])) _
          refine XS.aload X248.here hx rfl (hb hby at_140) rfl rfl ?_
          show Steps p.tables e below (T248.setTop (mkF m 142 #[.val (.int p1), .val (.int p2), .val (.int p3), .val (.int p4), .val (.ref b82), .val (.ref b89), .val (.ref a98), .val (.ref y181), .val (.int (1 : Int32)), .val (.ref b89), .val (.ref b243), .unset, .unset] [(.ref b243), (.ref a98), (.ref b89), (.ref b248), (.ref b248)])) _
          refine XS.aload X248.here hx rfl (hb hby at_142) rfl rfl ?_
          show Steps p.tables e below (T248.setTop (mkF m 144 #[.val (.int p1), .val (.int p2), .val (.int p3), .val (.int p4), .val (.ref b82), .val (.ref b89), .val (.ref a98), .val (.ref y181), .val (.int (1 : Int32)), .val (.ref b89), .val (.ref b243), .unset, .unset] [(.ref y181), (.ref b243), (.ref a98), (.ref b89), (.ref b248), (.ref b248)])) _
          refine XS.aconstNull X248.here hx rfl (hb hby at_144) ?_
          exact k)
        obtain ⟨_, _, ⟨T252, L252, k252, n252⟩, -, X252, ⟨Lc252, hQ252, l252, y252, z252⟩, st252⟩ := X248.specialBack hx (y := (⟨"com/example/rightful_keys/rightfulkeys/store/Role", "<init>", "(Ljava/lang/String;Ljava/lang/String;Lcom/example/rightful_keys/rightfulkeys/store/Account;Ljava/lang/String;Ljava/util/Optional;)V"⟩ : MethodName)) rfl hown (mvT hZ (hw _ (List.mem_of_getElem? (i := 63) rfl))) (mvT hZ (hw _ (List.mem_of_getElem? (i := 64) rfl))) (mvT hZ (hw _ (List.mem_of_getElem? (i := 65) rfl))) (by decide) (backOf (W := 1) (rm13a l Z a0 hw [] b248 b89 a98 b243 y181   h248 n0 ZS248 g_b248 A248 F248_id F248_name F248_account F248_description F248_policy) hZ (hw _ (List.mem_of_getElem? (i := 65) rfl)) (hw _ (List.mem_of_getElem? (i := 62) rfl)) (by decide) (by decide)) (g := (mkF m 145 #[.val (.int p1), .val (.int p2), .val (.int p3), .val (.int p4), .val (.ref b82), .val (.ref b89), .val (.ref a98), .val (.ref y181), .val (.int (1 : Int32)), .val (.ref b89), .val (.ref b243), .unset, .unset] [.null, (.ref y181), (.ref b243), (.ref a98), (.ref b89), (.ref b248), (.ref b248)])) rfl (by rw [hml]; rfl) (Steps.refl _) (a := b248) (argsL := [(.ref b89), (.ref a98), (.ref b243), (.ref y181), .null]) (rest := [(.ref b248)]) (lenOf pd_6 rfl) rfl (by show 2 * 0 + _ ≤ _; exact Nat.le_of_eq rfl) (hb hby at_145) (fun _ _ => ⟨rfl, e248, (by decide : 9 + 0 ≤ _), (by decide : 24 + 0 ≤ _)⟩)
        dsimp only [Pt.U, Pt.locs, Pt.cells, Pt.slots] at X252 l252 y252 z252 st252 hQ252
        subst l252 y252 z252
        obtain ⟨rfl, Nq252, K252, A252, F252⟩ := hQ252
        have N252 := Fr.app N246 Nq252
        have ZS252 : n0 ≤ T252.heap.size := Nat.le_trans ZS248 K252.1
        have O252 := O248.keep K252 (allS g_b248 all0)
        have go252 : Goes p e below s₁ (entryFrame m #[(.int p1), (.int p2), (.int p3), (.int p4)] maxLocals) T252 (mkF m 148 #[.val (.int p1), .val (.int p2), .val (.int p3), .val (.int p4), .val (.ref b82), .val (.ref b89), .val (.ref a98), .val (.ref y181), .val (.int (1 : Int32)), .val (.ref b89), .val (.ref b243), .unset, .unset] [(.ref b248)]) := fun t k => go251 t (st252.trans k)
        have go253 : Goes p e below s₁ (entryFrame m #[(.int p1), (.int p2), (.int p3), (.int p4)] maxLocals) T252 (mkF m 152 #[.val (.int p1), .val (.int p2), .val (.int p3), .val (.int p4), .val (.ref b82), .val (.ref b89), .val (.ref a98), .val (.ref y181), .val (.int (1 : Int32)), .val (.ref b89), .val (.ref b243), .val (.ref b248), .unset] [(.ref b248)]) := fun t k => go252 t (by
          show Steps p.tables e below (T252.setTop (mkF m 148 #[.val (.int p1), .val (.int p2), .val (.int p3), .val (.int p4), .val (.ref b82), .val (.ref b89), .val (.ref a98), .val (.ref y181), .val (.int (1 : Int32)), .val (.ref b89), .val (.ref b243), .unset, .unset] [(.ref b248)])) _
          refine XS.astore X252.here hx rfl (hb hby at_148) rfl rfl (l' := #[.val (.int p1), .val (.int p2), .val (.int p3), .val (.int p4), .val (.ref b82), .val (.ref b89), .val (.ref a98), .val (.ref y181), .val (.int (1 : Int32)), .val (.ref b89), .val (.ref b243), .val (.ref b248), .unset]) rfl ?_
          show Steps p.tables e below (T252.setTop (mkF m 150 #[.val (.int p1), .val (.int p2), .val (.int p3), .val (.int p4), .val (.ref b82), .val (.ref b89), .val (.ref a98), .val (.ref y181), .val (.int (1 : Int32)), .val (.ref b89), .val (.ref b243), .val (.ref b248), .unset] [])) _
          refine XS.aload X252.here hx rfl (hb hby at_150) rfl rfl ?_
          exact k)
        obtain ⟨cq254, kq254, q254a, q254b, q254c⟩ := isOf hZ rfl A252
        obtain ⟨_, _, ⟨T254, L254, k254, n254⟩, -, X254, ⟨Lc254, hQ254, l254, y254, z254⟩, st254⟩ := X252.virtualBack hx (y := (⟨"com/example/rightful_keys/rightfulkeys/store/Role", "isSystem", "()Z"⟩ : MethodName)) (z := (⟨"com/example/rightful_keys/rightfulkeys/store/Role", "isSystem", "()Z"⟩ : MethodName)) hown (mvT hZ (hw _ (List.mem_of_getElem? (i := 77) rfl))) (mvT hZ (hw _ (List.mem_of_getElem? (i := 78) rfl))) (notFace_of_selects (args := #[]) (mvT hZ (hw _ (List.mem_of_getElem? (i := 80) rfl)))) (mvT hZ (hw _ (List.mem_of_getElem? (i := 80) rfl))) (mvT hZ (hw _ (List.mem_of_getElem? (i := 79) rfl))) (by decide) (backOf (W := 0) (rm14a l Z a0 hw [] b248 b243 T252.heap n0 ZS252 F252) hZ (hw _ (List.mem_of_getElem? (i := 81) rfl)) (hw _ (List.mem_of_getElem? (i := 62) rfl)) (by decide) (by decide)) q254a q254c (g := (mkF m 152 #[.val (.int p1), .val (.int p2), .val (.int p3), .val (.int p4), .val (.ref b82), .val (.ref b89), .val (.ref a98), .val (.ref y181), .val (.int (1 : Int32)), .val (.ref b89), .val (.ref b243), .val (.ref b248), .unset] [(.ref b248)])) rfl (by rw [hml]; rfl) (Steps.refl _) (argsL := []) (rest := []) (lenOf pd_7 rfl) rfl (by show 2 * 0 + _ ≤ _; exact Nat.le_of_eq rfl) (hb hby at_152) (fun _ _ => ⟨rfl, rfl, (by decide : 9 + 0 ≤ _), (by decide : 24 + 0 ≤ _)⟩)
        dsimp only [Pt.U, Pt.locs, Pt.cells, Pt.slots] at X254 l254 y254 z254 st254 hQ254
        subst l254 y254 z254
        obtain ⟨rfl, Nq254, eq254⟩ := hQ254
        have N254 := Fr.app N252 Nq254
        have go254 : Goes p e below s₁ (entryFrame m #[(.int p1), (.int p2), (.int p3), (.int p4)] maxLocals) T254 (mkF m 155 #[.val (.int p1), .val (.int p2), .val (.int p3), .val (.int p4), .val (.ref b82), .val (.ref b89), .val (.ref a98), .val (.ref y181), .val (.int (1 : Int32)), .val (.ref b89), .val (.ref b243), .val (.ref b248), .unset] [(.int (0 : Int32))]) := fun t k => go253 t (st254.trans k)
        have go255 : Goes p e below s₁ (entryFrame m #[(.int p1), (.int p2), (.int p3), (.int p4)] maxLocals) T254 (mkF m 161 #[.val (.int p1), .val (.int p2), .val (.int p3), .val (.int p4), .val (.ref b82), .val (.ref b89), .val (.ref a98), .val (.ref y181), .val (.int (1 : Int32)), .val (.ref b89), .val (.ref b243), .val (.ref b248), .val (.int (0 : Int32))] [(.int (1 : Int32)), (.int (0 : Int32))]) := fun t k => go254 t (by
          show Steps p.tables e below (T254.setTop (mkF m 155 #[.val (.int p1), .val (.int p2), .val (.int p3), .val (.int p4), .val (.ref b82), .val (.ref b89), .val (.ref a98), .val (.ref y181), .val (.int (1 : Int32)), .val (.ref b89), .val (.ref b243), .val (.ref b248), .unset] [(.int (0 : Int32))])) _
          refine XS.istore X254.here hx rfl (hb hby at_155) rfl (l' := #[.val (.int p1), .val (.int p2), .val (.int p3), .val (.int p4), .val (.ref b82), .val (.ref b89), .val (.ref a98), .val (.ref y181), .val (.int (1 : Int32)), .val (.ref b89), .val (.ref b243), .val (.ref b248), .val (.int (0 : Int32))]) rfl ?_
          show Steps p.tables e below (T254.setTop (mkF m 157 #[.val (.int p1), .val (.int p2), .val (.int p3), .val (.int p4), .val (.ref b82), .val (.ref b89), .val (.ref a98), .val (.ref y181), .val (.int (1 : Int32)), .val (.ref b89), .val (.ref b243), .val (.ref b248), .val (.int (0 : Int32))] [])) _
          refine XS.iload X254.here hx rfl (hb hby at_157) rfl ?_
          show Steps p.tables e below (T254.setTop (mkF m 159 #[.val (.int p1), .val (.int p2), .val (.int p3), .val (.int p4), .val (.ref b82), .val (.ref b89), .val (.ref a98), .val (.ref y181), .val (.int (1 : Int32)), .val (.ref b89), .val (.ref b243), .val (.ref b248), .val (.int (0 : Int32))] [(.int (0 : Int32))])) _
          refine XS.iload X254.here hx rfl (hb hby at_159) rfl ?_
          exact k)
        have go256 : Goes p e below s₁ (entryFrame m #[(.int p1), (.int p2), (.int p3), (.int p4)] maxLocals) T254 (mkF m 169 #[.val (.int p1), .val (.int p2), .val (.int p3), .val (.int p4), .val (.ref b82), .val (.ref b89), .val (.ref a98), .val (.ref y181), .val (.int (1 : Int32)), .val (.ref b89), .val (.ref b243), .val (.ref b248), .val (.int (0 : Int32))] [(.int (0 : Int32)), (.int (0 : Int32))]) := fun t k => go255 t (by
          show Steps p.tables e below (T254.setTop (mkF m 161 #[.val (.int p1), .val (.int p2), .val (.int p3), .val (.int p4), .val (.ref b82), .val (.ref b89), .val (.ref a98), .val (.ref y181), .val (.int (1 : Int32)), .val (.ref b89), .val (.ref b243), .val (.ref b248), .val (.int (0 : Int32))] [(.int (1 : Int32)), (.int (0 : Int32))])) _
          refine XS.ifYes X254.here hx rfl (pc0 := 161) (pc' := 168) rfl (hb hby at_161) rfl ((if0 _ _).trans (feq (by decide)).2) (by decide) (by decide) ?_
          show Steps p.tables e below (T254.setTop (mkF m 168 #[.val (.int p1), .val (.int p2), .val (.int p3), .val (.int p4), .val (.ref b82), .val (.ref b89), .val (.ref a98), .val (.ref y181), .val (.int (1 : Int32)), .val (.ref b89), .val (.ref b243), .val (.ref b248), .val (.int (0 : Int32))] [(.int (0 : Int32))])) _
          refine XS.iconst X254.here hx rfl (hb hby at_168) ?_
          exact k)
        have go257 : Goes p e below s₁ (entryFrame m #[(.int p1), (.int p2), (.int p3), (.int p4)] maxLocals) T254 (mkF m 176 #[.val (.int p1), .val (.int p2), .val (.int p3), .val (.int p4), .val (.ref b82), .val (.ref b89), .val (.ref a98), .val (.ref y181), .val (.int (1 : Int32)), .val (.ref b89), .val (.ref b243), .val (.ref b248), .val (.int (0 : Int32))] [(.ref b248), (.int (0 : Int32))]) := fun t k => go256 t (by
          show Steps p.tables e below (T254.setTop (mkF m 169 #[.val (.int p1), .val (.int p2), .val (.int p3), .val (.int p4), .val (.ref b82), .val (.ref b89), .val (.ref a98), .val (.ref y181), .val (.int (1 : Int32)), .val (.ref b89), .val (.ref b243), .val (.ref b248), .val (.int (0 : Int32))] [(.int (0 : Int32)), (.int (0 : Int32))])) _
          refine XS.icmpNo X254.here hx rfl (hb hby at_169) rfl (teq rfl).2 ?_
          show Steps p.tables e below (T254.setTop (mkF m 172 #[.val (.int p1), .val (.int p2), .val (.int p3), .val (.int p4), .val (.ref b82), .val (.ref b89), .val (.ref a98), .val (.ref y181), .val (.int (1 : Int32)), .val (.ref b89), .val (.ref b243), .val (.ref b248), .val (.int (0 : Int32))] [])) _
          refine XS.iload X254.here hx rfl (hb hby at_172) rfl ?_
          show Steps p.tables e below (T254.setTop (mkF m 174 #[.val (.int p1), .val (.int p2), .val (.int p3), .val (.int p4), .val (.ref b82), .val (.ref b89), .val (.ref a98), .val (.ref y181), .val (.int (1 : Int32)), .val (.ref b89), .val (.ref b243), .val (.ref b248), .val (.int (0 : Int32))] [(.int (0 : Int32))])) _
          refine XS.aload X254.here hx rfl (hb hby at_174) rfl rfl ?_
          exact k)
        obtain ⟨cq258, kq258, q258a, q258b, q258c⟩ := isOf hZ eq254 A252
        obtain ⟨_, _, ⟨T258, L258, k258, n258⟩, -, X258, ⟨Lc258, hQ258, l258, y258, z258⟩, st258⟩ := X254.virtualBack hx (y := (⟨"com/example/rightful_keys/rightfulkeys/store/Role", "account", "()Lcom/example/rightful_keys/rightfulkeys/store/Account;"⟩ : MethodName)) (z := (⟨"com/example/rightful_keys/rightfulkeys/store/Role", "account", "()Lcom/example/rightful_keys/rightfulkeys/store/Account;"⟩ : MethodName)) hown (mvT hZ (hw _ (List.mem_of_getElem? (i := 82) rfl))) (mvT hZ (hw _ (List.mem_of_getElem? (i := 83) rfl))) (notFace_of_selects (args := #[]) (mvT hZ (hw _ (List.mem_of_getElem? (i := 85) rfl)))) (mvT hZ (hw _ (List.mem_of_getElem? (i := 85) rfl))) (mvT hZ (hw _ (List.mem_of_getElem? (i := 84) rfl))) (by decide) (backOf (W := 1) (rm15a l Z a0 hw [] b248 b243 T252.heap n0 ZS252 F252) hZ (hw _ (List.mem_of_getElem? (i := 86) rfl)) (hw _ (List.mem_of_getElem? (i := 62) rfl)) (by decide) (by decide)) q258a q258c (g := (mkF m 176 #[.val (.int p1), .val (.int p2), .val (.int p3), .val (.int p4), .val (.ref b82), .val (.ref b89), .val (.ref a98), .val (.ref y181), .val (.int (1 : Int32)), .val (.ref b89), .val (.ref b243), .val (.ref b248), .val (.int (0 : Int32))] [(.ref b248), (.int (0 : Int32))])) rfl (by rw [hml]; rfl) (Steps.refl _) (argsL := []) (rest := [(.int (0 : Int32))]) (lenOf pd_8 rfl) rfl (by show 2 * 0 + _ ≤ _; exact Nat.le_of_eq rfl) (hb hby at_176) (fun _ _ => ⟨rfl, eq254, (by decide : 9 + 0 ≤ _), (by decide : 24 + 0 ≤ _)⟩)
        dsimp only [Pt.U, Pt.locs, Pt.cells, Pt.slots] at X258 l258 y258 z258 st258 hQ258
        subst l258 y258 z258
        obtain ⟨rfl, Nq258, eq258⟩ := hQ258
        have N258 := Fr.app N254 Nq258
        have go258 : Goes p e below s₁ (entryFrame m #[(.int p1), (.int p2), (.int p3), (.int p4)] maxLocals) T258 (mkF m 179 #[.val (.int p1), .val (.int p2), .val (.int p3), .val (.int p4), .val (.ref b82), .val (.ref b89), .val (.ref a98), .val (.ref y181), .val (.int (1 : Int32)), .val (.ref b89), .val (.ref b243), .val (.ref b248), .val (.int (0 : Int32))] [(.ref b243), (.int (0 : Int32))]) := fun t k => go257 t (st258.trans k)
        have go259 : Goes p e below s₁ (entryFrame m #[(.int p1), (.int p2), (.int p3), (.int p4)] maxLocals) T258 (mkF m 187 #[.val (.int p1), .val (.int p2), .val (.int p3), .val (.int p4), .val (.ref b82), .val (.ref b89), .val (.ref a98), .val (.ref y181), .val (.int (1 : Int32)), .val (.ref b89), .val (.ref b243), .val (.ref b248), .val (.int (0 : Int32))] [(.int (0 : Int32)), (.int (0 : Int32))]) := fun t k => go258 t (by
          show Steps p.tables e below (T258.setTop (mkF m 179 #[.val (.int p1), .val (.int p2), .val (.int p3), .val (.int p4), .val (.ref b82), .val (.ref b89), .val (.ref a98), .val (.ref y181), .val (.int (1 : Int32)), .val (.ref b89), .val (.ref b243), .val (.ref b248), .val (.int (0 : Int32))] [(.ref b243), (.int (0 : Int32))])) _
          refine XS.ifnonnullYes X258.here hx rfl (pc0 := 179) (pc' := 186) rfl (hb hby at_179) rfl (by decide) (by decide) ?_
          show Steps p.tables e below (T258.setTop (mkF m 186 #[.val (.int p1), .val (.int p2), .val (.int p3), .val (.int p4), .val (.ref b82), .val (.ref b89), .val (.ref a98), .val (.ref y181), .val (.int (1 : Int32)), .val (.ref b89), .val (.ref b243), .val (.ref b248), .val (.int (0 : Int32))] [(.int (0 : Int32))])) _
          refine XS.iconst X258.here hx rfl (hb hby at_186) ?_
          exact k)
        have go260 : Goes p e below s₁ (entryFrame m #[(.int p1), (.int p2), (.int p3), (.int p4)] maxLocals) T258 (mkF m 195 #[.val (.int p1), .val (.int p2), .val (.int p3), .val (.int p4), .val (.ref b82), .val (.ref b89), .val (.ref a98), .val (.ref y181), .val (.int (1 : Int32)), .val (.ref b89), .val (.ref b243), .val (.ref b248), .val (.int (0 : Int32))] [(.int (1 : Int32))]) := fun t k => go259 t (by
          show Steps p.tables e below (T258.setTop (mkF m 187 #[.val (.int p1), .val (.int p2), .val (.int p3), .val (.int p4), .val (.ref b82), .val (.ref b89), .val (.ref a98), .val (.ref y181), .val (.int (1 : Int32)), .val (.ref b89), .val (.ref b243), .val (.ref b248), .val (.int (0 : Int32))] [(.int (0 : Int32)), (.int (0 : Int32))])) _
          refine XS.icmpNo X258.here hx rfl (hb hby at_187) rfl (teq rfl).2 ?_
          show Steps p.tables e below (T258.setTop (mkF m 190 #[.val (.int p1), .val (.int p2), .val (.int p3), .val (.int p4), .val (.ref b82), .val (.ref b89), .val (.ref a98), .val (.ref y181), .val (.int (1 : Int32)), .val (.ref b89), .val (.ref b243), .val (.ref b248), .val (.int (0 : Int32))] [])) _
          refine XS.iconst X258.here hx rfl (hb hby at_190) ?_
          show Steps p.tables e below (T258.setTop (mkF m 191 #[.val (.int p1), .val (.int p2), .val (.int p3), .val (.int p4), .val (.ref b82), .val (.ref b89), .val (.ref a98), .val (.ref y181), .val (.int (1 : Int32)), .val (.ref b89), .val (.ref b243), .val (.ref b248), .val (.int (0 : Int32))] [(.int (1 : Int32))])) _
          refine XS.goto X258.here hx rfl (pc0 := 191) (pc' := 195) rfl (hb hby at_191) (by decide) (by decide) ?_
          exact k)
        obtain ⟨fs, hr, hrun, hended, hEW⟩ := Stand.leaveW (s := s) X258 hS98 (by rw [eq258]; exact (Nat.le_trans (Nat.le_trans (Nat.le_trans (Nat.le_trans (Nat.le_trans hk98 K181.1) E243.1) K246.1) E248.1) K252.1)) (v := some (.int (1 : Int32))) (fun h => by rw [Bd.returns] at h; cases h)
        refine ⟨_, _, go260 _ ?_, hrun, hended, _, _, rfl, ?_, hEW.1, hEW.2.1, hEW.2.2.1, hEW.2.2.2.mono (by decide) (by decide)⟩
        · exact retN X258 hx (t := .boolean) Bd.returns (by simp) (hb hby at_195) hr
        · show Q_rm0 Z p1 p2 p3 p4 cz h0 n0 _ T258.heap _
          rw [eq258]
          exact ⟨rfl, N258⟩
set_option maxRecDepth 65536 in
set_option maxHeartbeats 40000000 in
theorem comes_1 {Post : Tables → Env → Array Value → State → Outcome → State → Prop} (hpost : ∀ tb e args s v u, (limb_1_1.after args s (.returned v) u = true ∧ limb_1_2.after args s (.returned v) u = true ∧ True) → ReturnedEndW s (.returned v) u (Jvm.fieldLocs frame_1_writes args s ++ Jvm.arrayLocs frame_1_arrays args s ++ Jvm.staticLocs frame_1_statics s) 32 1152 → Post tb e args s (.returned v) u) :
    ArmFor flags0 classFile x code maxLocals ret World_1 tables_1 room_1 Calls_1 rest_1 Pre_1 Post := by
  intro l hfl _ _ p e ha hc hk s m args below hf hA hF happ hP
  obtain ⟨hcalls, hrest, hpre⟩ := hP
  obtain ⟨-, -, -, hnamed, -, -, -, hat⟩ := (Spec.applies_iff hf).mp happ
  obtain ⟨hg, hn⟩ := and_e (Cond.before_iff.mp (show (Jvm.Cond.and given_1 narrow_1).before args s = true from hpre))
  obtain ⟨g0, hg0⟩ := and_e hg
  obtain ⟨g1, hg1⟩ := and_e hg0
  obtain ⟨g2, hg2⟩ := and_e hg1
  obtain ⟨g3, hg3⟩ := and_e hg2
  obtain ⟨w0, w1, w2, w3, rfl⟩ : ∃ w0 w1 w2 w3 : Value, args = #[w0, w1, w2, w3] := by
    have hs : args.size = 4 := by simpa [Cond.value, given_1] using g0
    obtain ⟨L⟩ := args
    match L, hs with
    | [w0, w1, w2, w3], _ => exact ⟨w0, w1, w2, w3, rfl⟩
  have hw := fun d (hd : d ∈ tables_1) => atoms_spec (ws := Jvm.Cond.code x code maxLocals ret :: tables_1) hat d (List.mem_cons_of_mem _ hd)
  have hfit : Fit s := fun {y c} hc i hi => by
    obtain ⟨ha, rfl⟩ := Array.getElem?_eq_some_iff.mp hc
    have q := List.all_eq_true.mp ((Array.all_eq_true_iff_forall_mem.mp hF) _ (Array.getElem_mem ha)) i (List.mem_range.mpr hi)
    simpa [Array.getElem?_eq_getElem hi] using q
  obtain ⟨hsets, hown0⟩ := atoms_of _ (rest_1_c_eq ▸ (show rest_1_c.before _ s = true from hrest))
  have hr0 := Cond.before_iff.mp hown0
  obtain ⟨i0, ei0⟩ := is_v g1
  obtain rfl : w0 = (.int i0) := Option.some.inj ei0
  obtain ⟨i1, ei1⟩ := is_v g2
  obtain rfl : w1 = (.int i1) := Option.some.inj ei1
  obtain ⟨i2, ei2⟩ := is_v g3
  obtain rfl : w2 = (.int i2) := Option.some.inj ei2
  obtain ⟨i3, ei3⟩ := is_v hg3
  obtain rfl : w3 = (.int i3) := Option.some.inj ei3
  obtain ⟨cz, ecz⟩ := is_v (Cond.before_iff.mp (hsets _ (List.mem_of_getElem? (i := 1) rfl)))
  have SC := Sta.start ecz (Or.inl (hsets _ (List.mem_of_getElem? (i := 0) rfl)))
  have hcw := hsets _ (List.mem_of_getElem? (i := 2) rfl)
  have hz : ¬ (cz = (0 : Int32)) := fun q => by have h := not_v (Cond.before_iff.mp hcw); rw [eq_i ecz (Term.int_eval 0) (by rw [q])] at h; cases h
  obtain ⟨n, o, h1, h2, h3, _, L, rfl, ⟨rfl, N⟩, hq⟩ := rm0 l s _ hw tables_1 i0 i1 i2 i3 cz s.heap s.heap.size (Nat.le_refl _) (Old.start s) hz SC p e ha hc hk s m _ below hf ((Spec.applies_iff_loose hf).mp happ).1 ⟨rfl, State.Warmed39.refl s, rfl⟩ trivial
  refine ⟨n, _, h1, h2, h3, hpost _ _ _ _ _ _ ⟨Cond.after_iff.mpr rfl, Cond.after_iff.mpr (eq_i res_at (Term.int_eval (1)) rfl), trivial⟩ ⟨hq.1, hq.2.1, hq.2.2.1, (hq.2.2.2.sift fun y hy => Or.inr (N y hy)).mono (by decide) (by decide)⟩⟩
theorem main_1_1 : Claimed_1_1 := comes_1 fun _ _ _ _ _ _ h hF => ⟨h.1, hF⟩
theorem main_1_2 : Claimed_1_2 := comes_1 fun _ _ _ _ _ _ h hF => ⟨h.2.1, hF⟩
end Jvm.Pilot.@@N@@
namespace Jvm.Pilot.@@N@@
open Jvm Jvm.ClassFile Sem Op Lib Jvm.Free Jvm.Stand Jvm.Pilot.@@N@@.Jvm.D
/-! MADE BY PROGRAM (witnessworld.py) out of the Statement's table words and the real class files: 22 classes; the members and pool entries that the words name. The judged class is class 1, her method 1. -/
namespace start1
open Jvm.ClassFile
def u (s : String) : CpInfo := .utf8 (stringToUtf16 s)
/-- a pool by its gaps: so many unusable entries, then the entry; so many at the end -/
def gap : Nat → List CpInfo → List CpInfo
  | 0, r => r
  | n + 1, r => .unusable :: gap n r
def poolList (es : List (Nat × CpInfo)) (last : Nat) : List CpInfo := es.foldr (fun e r => gap e.1 (e.2 :: r)) (gap last [])
def pool (es : List (Nat × CpInfo)) (last : Nat) : Array CpInfo := ⟨poolList es last⟩
def fileOf (pool : Array CpInfo) (this : Nat) (attrs : Array Attribute := #[]) (ms : Array MethodInfo := #[]) (fl : Nat := 33) (sup : Nat := 0) (ifs : Array Nat := #[]) (fds : Array FieldInfo := #[]) : ClassFile where
  minorVersion := 0
  majorVersion := 65
  constantPool := pool
  accessFlags := fl
  thisClass := this
  superClass := sup
  interfaces := ifs
  fields := fds
  methods := ms
  attributes := attrs
def plain (name : String) (sup : Option ClassId) : Class where
  name := name
  kind := .ordinary
  loader := none
  accessFlags := 33
  super := sup
  interfaces := #[]
  cf := none
  fields := #[]
  methods := #[]
  instanceTypes := #[]
  staticTypes := #[]
  resolved := #[]
  callSites := []
  init := .initialized
  statics := none
  mirror := none

def pool0 : Array CpInfo := pool [(5, u "<init>"), (0, u "()V"), (1, .class_ 10), (1, u "java/lang/Object")] 113

def k0c0 : Code := { maxStack := 0, maxLocals := 1, code := object_method_1_code, exceptionTable := #[], attributes := #[] }
def k0m0 : Method := { name := "<init>", desc := "()V", sig := { parameters := [], returnType := none }, accessFlags := 1, code := some k0c0 }
/-- java/lang/Object -/
def k0 : Class := { plain "java/lang/Object" none with
  accessFlags := 33
  interfaces := #[]
  cf := some (fileOf pool0 8 #[] #[{ accessFlags := 1, nameIndex := 5, descriptorIndex := 6, attributes := #[] }] 33 0 #[] #[])
  fields := #[]
  methods := #[k0m0]
  instanceTypes := #[]
  staticTypes := #[]
  resolved := Array.replicate 124 none
  statics := none }

def pool1 : Array CpInfo := pool [(2, .class_ 4), (1, u "java/lang/Object"), (0, u "<init>"), (0, u "()V"), (0, .class_ 8), (0, u "java/lang/String"), (0, .methodref 7 10), (0, .nameAndType 5 11), (0, u "([C)V"), (0, .string 13), (0, u ""), (0, .methodref 7 15), (0, .nameAndType 16 17), (0, u "valueOf"), (0, u "(C)Ljava/lang/String;"), (0, .class_ 19), (0, u "com/example/rightful_keys/rightfulkeys/store/Account"), (0, .methodref 18 21), (0, .nameAndType 5 22), (0, u "(Ljava/lang/String;Ljava/lang/String;)V"), (0, .class_ 24), (0, u "com/example/rightful_keys/rightfulkeys/store/Role"), (0, .methodref 23 26), (0, .nameAndType 5 27), (0, u "(Ljava/lang/String;Ljava/lang/String;Lcom/example/rightful_keys/rightfulkeys/store/Account;Ljava/lang/String;Ljava/util/Optional;)V"), (0, .methodref 23 29), (0, .nameAndType 30 31), (0, u "isSystem"), (0, u "()Z"), (0, .methodref 23 33), (0, .nameAndType 34 35), (0, u "account"), (0, u "()Lcom/example/rightful_keys/rightfulkeys/store/Account;"), (0, .class_ 37), (0, u "com/example/rightful_keys/rightfulkeys/store/RoleIsSystemPinLaw"), (2, u "law"), (0, u "(IIII)Z")] 5

def k1m0 : Method := { name := "<init>", desc := "()V", sig := { parameters := [], returnType := none }, accessFlags := 2, code := none }
def k1c1 : Code := { maxStack := 7, maxLocals := 13, code := code, exceptionTable := #[], attributes := #[] }
def k1m1 : Method := { name := "law", desc := "(IIII)Z", sig := { parameters := [.int, .int, .int, .int], returnType := some .boolean }, accessFlags := 9, code := some k1c1 }
/-- com/example/rightful_keys/rightfulkeys/store/RoleIsSystemPinLaw -/
def k1 : Class := { plain "com/example/rightful_keys/rightfulkeys/store/RoleIsSystemPinLaw" (some 0) with
  accessFlags := 49
  interfaces := #[]
  cf := some (fileOf pool1 36 #[] #[{ accessFlags := 2, nameIndex := 5, descriptorIndex := 6, attributes := #[] }, { accessFlags := 9, nameIndex := 40, descriptorIndex := 41, attributes := #[] }] 49 2 #[] #[])
  fields := #[]
  methods := #[k1m0, k1m1]
  instanceTypes := #[]
  staticTypes := #[]
  resolved := Array.replicate 47 none
  statics := none }

def pool2 : Array CpInfo := pool [(1, .class_ 2), (0, u "java/io/Serializable"), (0, .class_ 4), (0, u "java/lang/Object")] 2

/-- java/io/Serializable -/
def k2 : Class := { plain "java/io/Serializable" (some 0) with
  accessFlags := 1537
  interfaces := #[]
  cf := some (fileOf pool2 1 #[] #[] 1537 3 #[] #[])
  fields := #[]
  methods := #[]
  instanceTypes := #[]
  staticTypes := #[]
  resolved := Array.replicate 7 none
  statics := none }

def pool3 : Array CpInfo := pool [(1, .class_ 2), (0, u "java/lang/Comparable"), (0, .class_ 4), (0, u "java/lang/Object")] 7

/-- java/lang/Comparable -/
def k3 : Class := { plain "java/lang/Comparable" (some 0) with
  accessFlags := 1537
  interfaces := #[]
  cf := some (fileOf pool3 1 #[] #[] 1537 3 #[] #[])
  fields := #[]
  methods := #[]
  instanceTypes := #[]
  staticTypes := #[]
  resolved := Array.replicate 12 none
  statics := none }

def pool4 : Array CpInfo := pool [(2, .class_ 4), (1, u "java/lang/CharSequence"), (42, .class_ 48), (0, u "java/lang/CharSequence$1CodePointIterator"), (10, .class_ 60), (0, u "java/lang/CharSequence$1CharIterator"), (5, .class_ 67), (0, u "java/lang/Object")] 63

/-- java/lang/CharSequence -/
def k4 : Class := { plain "java/lang/CharSequence" (some 0) with
  accessFlags := 1537
  interfaces := #[]
  cf := some (fileOf pool4 2 #[.nestMembers #[47, 59]] #[] 1537 66 #[] #[])
  fields := #[]
  methods := #[]
  instanceTypes := #[]
  staticTypes := #[]
  resolved := Array.replicate 131 none
  statics := none }

def pool5 : Array CpInfo := pool [(1, .class_ 2), (0, u "java/lang/constant/Constable"), (0, .class_ 4), (0, u "java/lang/Object")] 6

/-- java/lang/constant/Constable -/
def k5 : Class := { plain "java/lang/constant/Constable" (some 0) with
  accessFlags := 1537
  interfaces := #[]
  cf := some (fileOf pool5 1 #[] #[] 1537 3 #[] #[])
  fields := #[]
  methods := #[]
  instanceTypes := #[]
  staticTypes := #[]
  resolved := Array.replicate 11 none
  statics := none }

def pool6 : Array CpInfo := pool [(1, .class_ 2), (0, u "java/lang/constant/ConstantDesc"), (0, .class_ 4), (0, u "java/lang/Object")] 32

/-- java/lang/constant/ConstantDesc -/
def k6 : Class := { plain "java/lang/constant/ConstantDesc" (some 0) with
  accessFlags := 1537
  interfaces := #[]
  cf := some (fileOf pool6 1 #[] #[] 1537 3 #[] #[])
  fields := #[]
  methods := #[]
  instanceTypes := #[]
  staticTypes := #[]
  resolved := Array.replicate 37 none
  statics := none }

def pool7 : Array CpInfo := pool [(1, .methodref 2 3), (0, .class_ 4), (0, .nameAndType 5 6), (0, u "java/lang/Object"), (0, u "<init>"), (0, u "()V"), (2, .fieldref 10 11), (0, .class_ 12), (0, .nameAndType 13 14), (0, u "java/lang/String"), (0, u "value"), (0, u "[B"), (0, .fieldref 10 16), (0, .nameAndType 17 18), (0, u "coder"), (0, u "B"), (2, u "hash"), (0, u "I"), (2, u "hashIsZero"), (0, u "Z"), (0, .methodref 10 28), (0, .nameAndType 5 29), (0, u "([CIILjava/lang/Void;)V"), (8, .fieldref 10 39), (0, .nameAndType 40 26), (0, u "COMPACT_STRINGS"), (1, .class_ 44), (1, u "java/lang/StringUTF16"), (0, u "compress"), (1, .methodref 42 48), (0, .nameAndType 49 50), (0, u "coderFromArrayLen"), (0, u "([BI)B"), (2, u "toBytes"), (53, .class_ 109), (1, u "java/lang/StringLatin1"), (67, .methodref 42 178), (0, .nameAndType 45 179), (0, u "([CII)[B"), (29, .methodref 10 210), (0, .nameAndType 5 211), (0, u "([BB)V"), (157, u "(C)Z"), (205, .class_ 576), (0, u "java/lang/CharSequence"), (22, u "CASE_INSENSITIVE_ORDER"), (0, u "Ljava/util/Comparator;"), (181, u "valueOf"), (0, u "(C)Ljava/lang/String;"), (226, u "([C)V"), (4, .methodref 107 1016), (0, .nameAndType 1017 369), (0, u "canEncode"), (0, .methodref 107 1019), (0, .nameAndType 53 1020), (0, u "(C)[B"), (80, u "serialPersistentFields"), (0, u "[Ljava/io/ObjectStreamField;"), (0, .class_ 1104), (0, u "java/lang/String$CaseInsensitiveComparator"), (1, .class_ 1107), (0, u "java/io/Serializable"), (0, .class_ 1109), (0, u "java/lang/Comparable"), (0, .class_ 1111), (0, u "java/lang/constant/Constable"), (0, .class_ 1113), (0, u "java/lang/constant/ConstantDesc"), (2, u "serialVersionUID"), (0, u "J"), (3, u "REPL"), (0, u "C"), (2, u "LATIN1"), (1, u "UTF16")] 323

def k7m0 : Method := { name := "<init>", desc := "()V", sig := { parameters := [], returnType := none }, accessFlags := 1, code := none }
def k7c1 : Code := { maxStack := 5, maxLocals := 2, code := jdk_42_method_3_code, exceptionTable := #[], attributes := #[] }
def k7m1 : Method := { name := "<init>", desc := "([C)V", sig := { parameters := [(.array .char)], returnType := none }, accessFlags := 1, code := some k7c1 }
def k7c2 : Code := { maxStack := 4, maxLocals := 1, code := jdk_42_method_139_code, exceptionTable := #[], attributes := #[] }
def k7m2 : Method := { name := "valueOf", desc := "(C)Ljava/lang/String;", sig := { parameters := [.char], returnType := some (.object "java/lang/String") }, accessFlags := 9, code := some k7c2 }
def k7c3 : Code := { maxStack := 4, maxLocals := 6, code := jdk_42_method_149_code, exceptionTable := #[], attributes := #[] }
def k7m3 : Method := { name := "<init>", desc := "([CIILjava/lang/Void;)V", sig := { parameters := [(.array .char), .int, .int, (.object "java/lang/Void")], returnType := none }, accessFlags := 2, code := some k7c3 }
def k7c4 : Code := { maxStack := 2, maxLocals := 3, code := jdk_42_method_151_code, exceptionTable := #[], attributes := #[] }
def k7m4 : Method := { name := "<init>", desc := "([BB)V", sig := { parameters := [(.array .byte), .byte], returnType := none }, accessFlags := 0, code := some k7c4 }
/-- java/lang/String -/
def k7 : Class := { plain "java/lang/String" (some 0) with
  accessFlags := 49
  interfaces := #[2, 3, 4, 5, 6]
  cf := some (fileOf pool7 10 #[.nestMembers #[1103]] #[{ accessFlags := 1, nameIndex := 5, descriptorIndex := 6, attributes := #[] }, { accessFlags := 1, nameIndex := 5, descriptorIndex := 1010, attributes := #[] }, { accessFlags := 9, nameIndex := 782, descriptorIndex := 783, attributes := #[] }, { accessFlags := 2, nameIndex := 5, descriptorIndex := 29, attributes := #[] }, { accessFlags := 0, nameIndex := 5, descriptorIndex := 211, attributes := #[] }] 49 2 #[1106, 1108, 575, 1110, 1112] #[{ accessFlags := 18, nameIndex := 13, descriptorIndex := 14, attributes := #[] }, { accessFlags := 18, nameIndex := 17, descriptorIndex := 18, attributes := #[] }, { accessFlags := 2, nameIndex := 21, descriptorIndex := 22, attributes := #[] }, { accessFlags := 2, nameIndex := 25, descriptorIndex := 26, attributes := #[] }, { accessFlags := 26, nameIndex := 1116, descriptorIndex := 1117, attributes := #[] }, { accessFlags := 24, nameIndex := 40, descriptorIndex := 26, attributes := #[] }, { accessFlags := 26, nameIndex := 1101, descriptorIndex := 1102, attributes := #[] }, { accessFlags := 26, nameIndex := 1121, descriptorIndex := 1122, attributes := #[] }, { accessFlags := 25, nameIndex := 599, descriptorIndex := 600, attributes := #[] }, { accessFlags := 24, nameIndex := 1125, descriptorIndex := 18, attributes := #[] }, { accessFlags := 24, nameIndex := 1127, descriptorIndex := 18, attributes := #[] }])
  fields := #[{ name := "value", type := (.array .byte), accessFlags := 18, slot := 0, constantValue := 0 }, { name := "coder", type := .byte, accessFlags := 18, slot := 1, constantValue := 0 }, { name := "hash", type := .int, accessFlags := 2, slot := 2, constantValue := 0 }, { name := "hashIsZero", type := .boolean, accessFlags := 2, slot := 3, constantValue := 0 }, { name := "serialVersionUID", type := .long, accessFlags := 26, slot := 0, constantValue := 0 }, { name := "COMPACT_STRINGS", type := .boolean, accessFlags := 24, slot := 1, constantValue := 0 }, { name := "serialPersistentFields", type := (.array (.object "java/io/ObjectStreamField")), accessFlags := 26, slot := 2, constantValue := 0 }, { name := "REPL", type := .char, accessFlags := 26, slot := 3, constantValue := 0 }, { name := "CASE_INSENSITIVE_ORDER", type := (.object "java/util/Comparator"), accessFlags := 25, slot := 4, constantValue := 0 }, { name := "LATIN1", type := .byte, accessFlags := 24, slot := 5, constantValue := 0 }, { name := "UTF16", type := .byte, accessFlags := 24, slot := 6, constantValue := 0 }]
  methods := #[k7m0, k7m1, k7m2, k7m3, k7m4]
  instanceTypes := #[(.array .byte), .byte, .int, .boolean]
  staticTypes := #[.long, .boolean, (.array (.object "java/io/ObjectStreamField")), .char, (.object "java/util/Comparator"), .byte, .byte]
  resolved := Array.replicate 1451 none
  statics := some 0 }

def pool8 : Array CpInfo := pool [(6, .class_ 8), (1, u "java/lang/Object"), (0, u "<init>"), (0, u "()V"), (1, .class_ 14), (1, u "java/lang/StringUTF16"), (31, u "$assertionsDisabled"), (0, u "Z"), (13, u "HI_BYTE_SHIFT"), (0, u "I"), (2, u "LO_BYTE_SHIFT"), (49, .methodref 12 116), (0, .nameAndType 117 118), (0, u "compress"), (0, u "([CI[BII)I"), (3, u "([CII)[B"), (138, u "coderFromArrayLen"), (0, u "([BI)B"), (106, .class_ 371), (1, u "java/lang/StringUTF16$LinesSpliterator"), (58, u "MAX_LENGTH"), (196, .class_ 628), (0, u "java/lang/StringUTF16$CodePointsSpliterator"), (0, .class_ 630), (0, u "java/lang/StringUTF16$CharsSpliterator")] 4

def k8m0 : Method := { name := "<init>", desc := "()V", sig := { parameters := [], returnType := none }, accessFlags := 0, code := none }
def k8c1 : Code := { maxStack := 2, maxLocals := 2, code := jdk_52_method_15_code, exceptionTable := #[], attributes := #[] }
def k8m1 : Method := { name := "coderFromArrayLen", desc := "([BI)B", sig := { parameters := [(.array .byte), .int], returnType := some .byte }, accessFlags := 8, code := some k8c1 }
def k8c2 : Code := { maxStack := 5, maxLocals := 6, code := jdk_52_method_16_code, exceptionTable := #[], attributes := #[] }
def k8m2 : Method := { name := "compress", desc := "([CII)[B", sig := { parameters := [(.array .char), .int, .int], returnType := some (.array .byte) }, accessFlags := 9, code := some k8c2 }
def k8c3 : Code := { maxStack := 3, maxLocals := 7, code := jdk_52_method_21_code, exceptionTable := #[], attributes := #[] }
def k8m3 : Method := { name := "compress", desc := "([CI[BII)I", sig := { parameters := [(.array .char), .int, (.array .byte), .int, .int], returnType := some .int }, accessFlags := 9, code := some k8c3 }
/-- java/lang/StringUTF16 -/
def k8 : Class := { plain "java/lang/StringUTF16" (some 0) with
  accessFlags := 48
  interfaces := #[]
  cf := some (fileOf pool8 12 #[.nestMembers #[627, 629, 369]] #[{ accessFlags := 0, nameIndex := 9, descriptorIndex := 10, attributes := #[] }, { accessFlags := 8, nameIndex := 261, descriptorIndex := 262, attributes := #[] }, { accessFlags := 9, nameIndex := 117, descriptorIndex := 122, attributes := #[] }, { accessFlags := 9, nameIndex := 117, descriptorIndex := 118, attributes := #[] }] 48 6 #[] #[{ accessFlags := 26, nameIndex := 61, descriptorIndex := 62, attributes := #[] }, { accessFlags := 26, nameIndex := 65, descriptorIndex := 62, attributes := #[] }, { accessFlags := 24, nameIndex := 430, descriptorIndex := 62, attributes := #[] }, { accessFlags := 4120, nameIndex := 46, descriptorIndex := 47, attributes := #[] }])
  fields := #[{ name := "HI_BYTE_SHIFT", type := .int, accessFlags := 26, slot := 0, constantValue := 0 }, { name := "LO_BYTE_SHIFT", type := .int, accessFlags := 26, slot := 1, constantValue := 0 }, { name := "MAX_LENGTH", type := .int, accessFlags := 24, slot := 2, constantValue := 0 }, { name := "$assertionsDisabled", type := .boolean, accessFlags := 4120, slot := 3, constantValue := 0 }]
  methods := #[k8m0, k8m1, k8m2, k8m3]
  instanceTypes := #[]
  staticTypes := #[.int, .int, .int, .boolean]
  resolved := Array.replicate 635 none
  statics := none }

def pool9 : Array CpInfo := pool [(4, .class_ 6), (1, u "java/lang/Object"), (0, u "<init>"), (0, u "()V"), (5, .class_ 16), (1, u "java/lang/StringLatin1"), (73, u "canEncode"), (14, u "(C)Z"), (15, u "$assertionsDisabled"), (0, u "Z"), (98, .class_ 223), (1, u "java/lang/StringLatin1$LinesSpliterator"), (156, u "toBytes"), (1, u "(C)[B"), (7, .class_ 391), (0, u "java/lang/StringLatin1$CharsSpliterator")] 3

def k9m0 : Method := { name := "<init>", desc := "()V", sig := { parameters := [], returnType := none }, accessFlags := 0, code := none }
def k9c1 : Code := { maxStack := 2, maxLocals := 1, code := jdk_43_method_3_code, exceptionTable := #[], attributes := #[] }
def k9m1 : Method := { name := "canEncode", desc := "(C)Z", sig := { parameters := [.char], returnType := some .boolean }, accessFlags := 9, code := some k9c1 }
def k9c2 : Code := { maxStack := 4, maxLocals := 1, code := jdk_43_method_46_code, exceptionTable := #[], attributes := #[] }
def k9m2 : Method := { name := "toBytes", desc := "(C)[B", sig := { parameters := [.char], returnType := some (.array .byte) }, accessFlags := 9, code := some k9c2 }
/-- java/lang/StringLatin1 -/
def k9 : Class := { plain "java/lang/StringLatin1" (some 0) with
  accessFlags := 48
  interfaces := #[]
  cf := some (fileOf pool9 14 #[.nestMembers #[390, 221]] #[{ accessFlags := 0, nameIndex := 7, descriptorIndex := 8, attributes := #[] }, { accessFlags := 9, nameIndex := 90, descriptorIndex := 105, attributes := #[] }, { accessFlags := 9, nameIndex := 380, descriptorIndex := 382, attributes := #[] }] 48 4 #[] #[{ accessFlags := 4120, nameIndex := 121, descriptorIndex := 122, attributes := #[] }])
  fields := #[{ name := "$assertionsDisabled", type := .boolean, accessFlags := 4120, slot := 0, constantValue := 0 }]
  methods := #[k9m0, k9m1, k9m2]
  instanceTypes := #[]
  staticTypes := #[.boolean]
  resolved := Array.replicate 395 none
  statics := none }

def pool10 : Array CpInfo := pool [(1, .methodref 2 3), (0, .class_ 4), (0, .nameAndType 5 6), (0, u "java/lang/Object"), (0, u "<init>"), (0, u "()V"), (0, .class_ 8), (0, u "java/lang/Record")] 13

def k10c0 : Code := { maxStack := 1, maxLocals := 1, code := jdk_30_method_1_code, exceptionTable := #[], attributes := #[] }
def k10m0 : Method := { name := "<init>", desc := "()V", sig := { parameters := [], returnType := none }, accessFlags := 4, code := some k10c0 }
/-- java/lang/Record -/
def k10 : Class := { plain "java/lang/Record" (some 0) with
  accessFlags := 1057
  interfaces := #[]
  cf := some (fileOf pool10 7 #[] #[{ accessFlags := 4, nameIndex := 5, descriptorIndex := 6, attributes := #[] }] 1057 2 #[] #[])
  fields := #[]
  methods := #[k10m0]
  instanceTypes := #[]
  staticTypes := #[]
  resolved := Array.replicate 22 none
  statics := none }

def pool11 : Array CpInfo := pool [(1, .methodref 2 3), (0, .class_ 4), (0, .nameAndType 5 6), (0, u "java/lang/Record"), (0, u "<init>"), (0, u "()V"), (0, .fieldref 8 9), (0, .class_ 10), (0, .nameAndType 11 12), (0, u "com/example/rightful_keys/rightfulkeys/store/Account"), (0, u "id"), (0, u "Ljava/lang/String;"), (0, .fieldref 8 14), (0, .nameAndType 15 12), (0, u "name"), (12, u "(Ljava/lang/String;Ljava/lang/String;)V")] 27

def k11c0 : Code := { maxStack := 2, maxLocals := 3, code := prog_50_method_1_code, exceptionTable := #[], attributes := #[] }
def k11m0 : Method := { name := "<init>", desc := "(Ljava/lang/String;Ljava/lang/String;)V", sig := { parameters := [(.object "java/lang/String"), (.object "java/lang/String")], returnType := none }, accessFlags := 1, code := some k11c0 }
/-- com/example/rightful_keys/rightfulkeys/store/Account -/
def k11 : Class := { plain "com/example/rightful_keys/rightfulkeys/store/Account" (some 10) with
  accessFlags := 49
  interfaces := #[]
  cf := some (fileOf pool11 8 #[] #[{ accessFlags := 1, nameIndex := 5, descriptorIndex := 28, attributes := #[] }] 49 2 #[] #[{ accessFlags := 18, nameIndex := 11, descriptorIndex := 12, attributes := #[] }, { accessFlags := 18, nameIndex := 15, descriptorIndex := 12, attributes := #[] }])
  fields := #[{ name := "id", type := (.object "java/lang/String"), accessFlags := 18, slot := 0, constantValue := 0 }, { name := "name", type := (.object "java/lang/String"), accessFlags := 18, slot := 1, constantValue := 0 }]
  methods := #[k11m0]
  instanceTypes := #[(.object "java/lang/String"), (.object "java/lang/String")]
  staticTypes := #[]
  resolved := Array.replicate 56 none
  statics := none }

def pool12 : Array CpInfo := pool [(1, .methodref 2 3), (0, .class_ 4), (0, .nameAndType 5 6), (0, u "java/lang/Record"), (0, u "<init>"), (0, u "()V"), (0, .fieldref 8 9), (0, .class_ 10), (0, .nameAndType 11 12), (0, u "com/example/rightful_keys/rightfulkeys/store/Role"), (0, u "id"), (0, u "Ljava/lang/String;"), (0, .fieldref 8 14), (0, .nameAndType 15 12), (0, u "name"), (0, .fieldref 8 17), (0, .nameAndType 18 19), (0, u "account"), (0, u "Lcom/example/rightful_keys/rightfulkeys/store/Account;"), (0, .fieldref 8 21), (0, .nameAndType 22 12), (0, u "description"), (0, .fieldref 8 24), (0, .nameAndType 25 26), (0, u "policy"), (0, u "Ljava/util/Optional;"), (14, u "(Ljava/lang/String;Ljava/lang/String;Lcom/example/rightful_keys/rightfulkeys/store/Account;Ljava/lang/String;Ljava/util/Optional;)V"), (4, u "isSystem"), (0, u "()Z"), (4, u "()Lcom/example/rightful_keys/rightfulkeys/store/Account;")] 26

def k12c0 : Code := { maxStack := 2, maxLocals := 6, code := prog_67_method_1_code, exceptionTable := #[], attributes := #[] }
def k12m0 : Method := { name := "<init>", desc := "(Ljava/lang/String;Ljava/lang/String;Lcom/example/rightful_keys/rightfulkeys/store/Account;Ljava/lang/String;Ljava/util/Optional;)V", sig := { parameters := [(.object "java/lang/String"), (.object "java/lang/String"), (.object "com/example/rightful_keys/rightfulkeys/store/Account"), (.object "java/lang/String"), (.object "java/util/Optional")], returnType := none }, accessFlags := 1, code := some k12c0 }
def k12c1 : Code := { maxStack := 1, maxLocals := 1, code := prog_67_method_2_code, exceptionTable := #[], attributes := #[] }
def k12m1 : Method := { name := "isSystem", desc := "()Z", sig := { parameters := [], returnType := some .boolean }, accessFlags := 1, code := some k12c1 }
def k12c2 : Code := { maxStack := 1, maxLocals := 1, code := prog_67_method_8_code, exceptionTable := #[], attributes := #[] }
def k12m2 : Method := { name := "account", desc := "()Lcom/example/rightful_keys/rightfulkeys/store/Account;", sig := { parameters := [], returnType := some (.object "com/example/rightful_keys/rightfulkeys/store/Account") }, accessFlags := 1, code := some k12c2 }
/-- com/example/rightful_keys/rightfulkeys/store/Role -/
def k12 : Class := { plain "com/example/rightful_keys/rightfulkeys/store/Role" (some 10) with
  accessFlags := 49
  interfaces := #[]
  cf := some (fileOf pool12 8 #[] #[{ accessFlags := 1, nameIndex := 5, descriptorIndex := 41, attributes := #[] }, { accessFlags := 1, nameIndex := 46, descriptorIndex := 47, attributes := #[] }, { accessFlags := 1, nameIndex := 18, descriptorIndex := 52, attributes := #[] }] 49 2 #[] #[{ accessFlags := 18, nameIndex := 11, descriptorIndex := 12, attributes := #[] }, { accessFlags := 18, nameIndex := 15, descriptorIndex := 12, attributes := #[] }, { accessFlags := 18, nameIndex := 18, descriptorIndex := 19, attributes := #[] }, { accessFlags := 18, nameIndex := 22, descriptorIndex := 12, attributes := #[] }, { accessFlags := 18, nameIndex := 25, descriptorIndex := 26, attributes := #[] }])
  fields := #[{ name := "id", type := (.object "java/lang/String"), accessFlags := 18, slot := 0, constantValue := 0 }, { name := "name", type := (.object "java/lang/String"), accessFlags := 18, slot := 1, constantValue := 0 }, { name := "account", type := (.object "com/example/rightful_keys/rightfulkeys/store/Account"), accessFlags := 18, slot := 2, constantValue := 0 }, { name := "description", type := (.object "java/lang/String"), accessFlags := 18, slot := 3, constantValue := 0 }, { name := "policy", type := (.object "java/util/Optional"), accessFlags := 18, slot := 4, constantValue := 0 }]
  methods := #[k12m0, k12m1, k12m2]
  instanceTypes := #[(.object "java/lang/String"), (.object "java/lang/String"), (.object "com/example/rightful_keys/rightfulkeys/store/Account"), (.object "java/lang/String"), (.object "java/util/Optional")]
  staticTypes := #[]
  resolved := Array.replicate 79 none
  statics := none }

def pool13 : Array CpInfo := pool [(2, .class_ 4), (1, u "java/lang/Object"), (0, u "<init>"), (0, u "()V"), (17, .class_ 26), (1, u "jdk/internal/util/Preconditions"), (28, .class_ 56), (0, u "jdk/internal/util/Preconditions$4"), (57, .class_ 115), (0, u "jdk/internal/util/Preconditions$1"), (7, u "SIOOBE_FORMATTER"), (0, u "Ljava/util/function/BiFunction;"), (0, .class_ 126), (0, u "jdk/internal/util/Preconditions$2"), (3, u "AIOOBE_FORMATTER"), (0, .class_ 132), (0, u "jdk/internal/util/Preconditions$3"), (3, u "IOOBE_FORMATTER")] 57

def k13m0 : Method := { name := "<init>", desc := "()V", sig := { parameters := [], returnType := none }, accessFlags := 1, code := none }
/-- jdk/internal/util/Preconditions -/
def k13 : Class := { plain "jdk/internal/util/Preconditions" (some 0) with
  accessFlags := 33
  interfaces := #[]
  cf := some (fileOf pool13 24 #[.nestMembers #[55, 131, 125, 114]] #[{ accessFlags := 1, nameIndex := 5, descriptorIndex := 6, attributes := #[] }] 33 2 #[] #[{ accessFlags := 25, nameIndex := 123, descriptorIndex := 124, attributes := #[] }, { accessFlags := 25, nameIndex := 130, descriptorIndex := 124, attributes := #[] }, { accessFlags := 25, nameIndex := 136, descriptorIndex := 124, attributes := #[] }])
  fields := #[{ name := "SIOOBE_FORMATTER", type := (.object "java/util/function/BiFunction"), accessFlags := 25, slot := 0, constantValue := 0 }, { name := "AIOOBE_FORMATTER", type := (.object "java/util/function/BiFunction"), accessFlags := 25, slot := 1, constantValue := 0 }, { name := "IOOBE_FORMATTER", type := (.object "java/util/function/BiFunction"), accessFlags := 25, slot := 2, constantValue := 0 }]
  methods := #[k13m0]
  instanceTypes := #[]
  staticTypes := #[(.object "java/util/function/BiFunction"), (.object "java/util/function/BiFunction"), (.object "java/util/function/BiFunction")]
  resolved := Array.replicate 194 none
  statics := some 1 }

def pool14 : Array CpInfo := pool [(9, u "<init>"), (6, .class_ 18), (1, u "java/lang/Object"), (0, u "()V"), (1, .class_ 23), (1, u "jdk/internal/util/ArraysSupport"), (0, u "LOG2_ARRAY_LONG_INDEX_SCALE"), (0, u "I"), (2, u "U"), (0, u "Ljdk/internal/misc/Unsafe;"), (8, u "BIG_ENDIAN"), (0, u "Z"), (8, u "LOG2_BYTE_BIT_SIZE"), (4, u "LOG2_ARRAY_INT_INDEX_SCALE"), (54, u "JLA"), (0, u "Ljdk/internal/access/JavaLangAccess;"), (11, u "LOG2_ARRAY_BOOLEAN_INDEX_SCALE"), (9, u "LOG2_ARRAY_BYTE_INDEX_SCALE"), (5, u "LOG2_ARRAY_CHAR_INDEX_SCALE"), (5, u "LOG2_ARRAY_SHORT_INDEX_SCALE"), (18, u "LOG2_ARRAY_FLOAT_INDEX_SCALE"), (24, u "LOG2_ARRAY_DOUBLE_INDEX_SCALE"), (89, u "T_BOOLEAN"), (2, u "T_CHAR"), (1, u "T_FLOAT"), (1, u "T_DOUBLE"), (1, u "T_BYTE"), (1, u "T_SHORT"), (1, u "T_INT"), (1, u "T_LONG"), (1, u "SOFT_MAX_ARRAY_LENGTH")] 83

def k14m0 : Method := { name := "<init>", desc := "()V", sig := { parameters := [], returnType := none }, accessFlags := 2, code := none }
/-- jdk/internal/util/ArraysSupport -/
def k14 : Class := { plain "jdk/internal/util/ArraysSupport" (some 0) with
  accessFlags := 33
  interfaces := #[]
  cf := some (fileOf pool14 21 #[] #[{ accessFlags := 2, nameIndex := 9, descriptorIndex := 19, attributes := #[] }] 33 16 #[] #[{ accessFlags := 24, nameIndex := 28, descriptorIndex := 29, attributes := #[] }, { accessFlags := 26, nameIndex := 38, descriptorIndex := 39, attributes := #[] }, { accessFlags := 25, nameIndex := 121, descriptorIndex := 25, attributes := #[] }, { accessFlags := 25, nameIndex := 131, descriptorIndex := 25, attributes := #[] }, { accessFlags := 25, nameIndex := 137, descriptorIndex := 25, attributes := #[] }, { accessFlags := 25, nameIndex := 143, descriptorIndex := 25, attributes := #[] }, { accessFlags := 25, nameIndex := 53, descriptorIndex := 25, attributes := #[] }, { accessFlags := 25, nameIndex := 24, descriptorIndex := 25, attributes := #[] }, { accessFlags := 25, nameIndex := 162, descriptorIndex := 25, attributes := #[] }, { accessFlags := 25, nameIndex := 187, descriptorIndex := 25, attributes := #[] }, { accessFlags := 26, nameIndex := 48, descriptorIndex := 25, attributes := #[] }, { accessFlags := 25, nameIndex := 277, descriptorIndex := 25, attributes := #[] }, { accessFlags := 25, nameIndex := 280, descriptorIndex := 25, attributes := #[] }, { accessFlags := 25, nameIndex := 282, descriptorIndex := 25, attributes := #[] }, { accessFlags := 25, nameIndex := 284, descriptorIndex := 25, attributes := #[] }, { accessFlags := 25, nameIndex := 286, descriptorIndex := 25, attributes := #[] }, { accessFlags := 25, nameIndex := 288, descriptorIndex := 25, attributes := #[] }, { accessFlags := 25, nameIndex := 290, descriptorIndex := 25, attributes := #[] }, { accessFlags := 25, nameIndex := 292, descriptorIndex := 25, attributes := #[] }, { accessFlags := 26, nameIndex := 108, descriptorIndex := 109, attributes := #[] }, { accessFlags := 25, nameIndex := 294, descriptorIndex := 25, attributes := #[] }])
  fields := #[{ name := "U", type := (.object "jdk/internal/misc/Unsafe"), accessFlags := 24, slot := 0, constantValue := 0 }, { name := "BIG_ENDIAN", type := .boolean, accessFlags := 26, slot := 1, constantValue := 0 }, { name := "LOG2_ARRAY_BOOLEAN_INDEX_SCALE", type := .int, accessFlags := 25, slot := 2, constantValue := 0 }, { name := "LOG2_ARRAY_BYTE_INDEX_SCALE", type := .int, accessFlags := 25, slot := 3, constantValue := 0 }, { name := "LOG2_ARRAY_CHAR_INDEX_SCALE", type := .int, accessFlags := 25, slot := 4, constantValue := 0 }, { name := "LOG2_ARRAY_SHORT_INDEX_SCALE", type := .int, accessFlags := 25, slot := 5, constantValue := 0 }, { name := "LOG2_ARRAY_INT_INDEX_SCALE", type := .int, accessFlags := 25, slot := 6, constantValue := 0 }, { name := "LOG2_ARRAY_LONG_INDEX_SCALE", type := .int, accessFlags := 25, slot := 7, constantValue := 0 }, { name := "LOG2_ARRAY_FLOAT_INDEX_SCALE", type := .int, accessFlags := 25, slot := 8, constantValue := 0 }, { name := "LOG2_ARRAY_DOUBLE_INDEX_SCALE", type := .int, accessFlags := 25, slot := 9, constantValue := 0 }, { name := "LOG2_BYTE_BIT_SIZE", type := .int, accessFlags := 26, slot := 10, constantValue := 0 }, { name := "T_BOOLEAN", type := .int, accessFlags := 25, slot := 11, constantValue := 0 }, { name := "T_CHAR", type := .int, accessFlags := 25, slot := 12, constantValue := 0 }, { name := "T_FLOAT", type := .int, accessFlags := 25, slot := 13, constantValue := 0 }, { name := "T_DOUBLE", type := .int, accessFlags := 25, slot := 14, constantValue := 0 }, { name := "T_BYTE", type := .int, accessFlags := 25, slot := 15, constantValue := 0 }, { name := "T_SHORT", type := .int, accessFlags := 25, slot := 16, constantValue := 0 }, { name := "T_INT", type := .int, accessFlags := 25, slot := 17, constantValue := 0 }, { name := "T_LONG", type := .int, accessFlags := 25, slot := 18, constantValue := 0 }, { name := "JLA", type := (.object "jdk/internal/access/JavaLangAccess"), accessFlags := 26, slot := 19, constantValue := 0 }, { name := "SOFT_MAX_ARRAY_LENGTH", type := .int, accessFlags := 25, slot := 20, constantValue := 0 }]
  methods := #[k14m0]
  instanceTypes := #[]
  staticTypes := #[(.object "jdk/internal/misc/Unsafe"), .boolean, .int, .int, .int, .int, .int, .int, .int, .int, .int, .int, .int, .int, .int, .int, .int, .int, .int, (.object "jdk/internal/access/JavaLangAccess"), .int]
  resolved := Array.replicate 378 none
  statics := none }

def pool15 : Array CpInfo := pool [(1, u "java/lang/Cloneable"), (0, .class_ 1), (0, u "java/lang/Object"), (0, .class_ 3)] 3

/-- java/lang/Cloneable -/
def k15 : Class := { plain "java/lang/Cloneable" (some 0) with
  accessFlags := 1537
  interfaces := #[]
  cf := some (fileOf pool15 2 #[] #[] 1537 4 #[] #[])
  fields := #[]
  methods := #[]
  instanceTypes := #[]
  staticTypes := #[]
  resolved := Array.replicate 8 none
  statics := none }

/-- the primitive byte -/
def k16 : Class := { plain "byte" none with kind := .primitive 'B', accessFlags := 0x411 }
/-- [B -/
def k17 : Class := { plain "[B" (some 0) with kind := .array 16 .byte, interfaces := #[15, 2], accessFlags := 1041 }

/-- the primitive char -/
def k18 : Class := { plain "char" none with kind := .primitive 'C', accessFlags := 0x411 }
/-- [C -/
def k19 : Class := { plain "[C" (some 0) with kind := .array 18 .char, interfaces := #[15, 2], accessFlags := 1041 }

/-- the primitive int -/
def k20 : Class := { plain "int" none with kind := .primitive 'I', accessFlags := 0x411 }
/-- [I -/
def k21 : Class := { plain "[I" (some 0) with kind := .array 20 .int, interfaces := #[15, 2], accessFlags := 1041 }

def heap : Heap := #[{ cls := 7, slots := #[.long 0, .int 1, .null, .int 0, .null, .int 0, .int 0], vm := .statics 7 },
  { cls := 13, slots := #[.null, .null, .null], vm := .statics 13 }]
def classes : Array Class := #[k0, k1, k2, k3, k4, k5, k6, k7, k8, k9, k10, k11, k12, k13, k14, k15, k16, k17, k18, k19, k20, k21]
def interned : List (Array UInt16 × Addr) := []
def slotsUsed : Nat := 10
def theMethod : MethodId := ⟨1, 1⟩
def args0 : Array Value := #[.int 5, .int 6, .int 7, .int 3]
def aboutOver (below : List Frame) : State where
  vm := { classes := classes, interned := interned.toArray }
  heap := heap
  slotsUsed := slotsUsed
  threads := #[{ frames := .invoking theMethod args0 :: below }]
def below0 : List Frame := [.native { method := ⟨0, 0⟩, args := #[] }]
def about1 : State := aboutOver below0
def p0 : Program := .bare "" "" ""
def e0 : Env := launch0.env 0 0 0
theorem w_frames : about1.frames = Frame.invoking theMethod args0 :: below0 := rfl
set_option maxRecDepth 65536 in
theorem w_args : argsFit about1.vm theMethod args0 = true := by decide +kernel
set_option maxRecDepth 65536 in
theorem w_heap : heapFits about1 = true := by decide +kernel
set_option maxRecDepth 65536 in
theorem w_runnable : about1.curStatus? = some .runnable := by decide +kernel
set_option maxRecDepth 65536 in
theorem w_alone : about1.alone = true := by decide +kernel
set_option maxRecDepth 65536 in
theorem w_named : about1.methodNamed? x = some theMethod := by decide +kernel
set_option maxRecDepth 65536 in
theorem w_hears : about1.hears theMethod below0 = true := by decide +kernel
set_option maxRecDepth 65536 in
theorem w_ripe : about1.ripe theMethod args0 below0 = true := by decide +kernel
theorem w_running : about1.status = .running := rfl
set_option maxRecDepth 65536 in
theorem w_room : about1.hasRoom e0.platform room_1 = true :=
  launch0.hasRoom_least _ room_1 (by decide +kernel) (by decide +kernel) (by decide +kernel) (by decide +kernel) (by decide +kernel) (by decide +kernel)
theorem allAtoms_all (ts : List Jvm.Cond) (a : Array Jvm.Value) (st : Jvm.State) : (allAtoms ts).before a st = ts.all (fun c => c.before a st) := by
  induction ts with
  | nil => rfl
  | cons c t ih =>
    show (Jvm.Cond.and c (allAtoms t)).before a st = _
    rw [Jvm.Cond.before_and, ih, List.all_cons]
def words1 : List Jvm.Cond := Jvm.Cond.code x code maxLocals ret :: tables_1
/-- a 'code' word, met by the world's own term for the bytes: nothing is compared byte by byte -/
theorem code_word {y : MethodName} {bytes : ByteArray} {mx : Nat} {rt : Option FieldType} {a : Array Value} {s : State} {m : MethodId} {meth : Method} {c : Code} (h1 : s.methodNamed? y = some m) (h2 : s.vm.method? m = some meth) (h3 : meth.code = some c) (h4 : c.code = bytes)
    (h5 : (c.maxLocals == mx && c.exceptionTable.isEmpty && decide (c.maxStack ≤ mostOperands) && decide (meth.sig.returnType = rt) && !meth.locks && decide (parseMethodDescriptor y.desc = some meth.sig)) = true) : (Jvm.Cond.code y bytes mx rt).before a s = true := by
  simp only [Bool.and_eq_true, beq_iff_eq, Bool.not_eq_true', decide_eq_true_eq] at h5
  obtain ⟨⟨⟨⟨⟨g1, g2⟩, g3⟩, g4⟩, g5⟩, g6⟩ := h5
  simp [Cond.before, Cond.holds, Cond.value, h1, h2, h3, h4, g1, g2, g3, g4, g5, g6]
def isCode : Jvm.Cond → Bool
  | .code _ _ _ _ => true
  | _ => false
theorem all_split {L : List Jvm.Cond} {P : Jvm.Cond → Bool} (h1 : L.all (fun c => isCode c || P c) = true) (h2 : ∀ c ∈ L.filter isCode, P c = true) : L.all P = true := by
  refine List.all_eq_true.mpr fun c hc => ?_
  have h := List.all_eq_true.mp h1 c hc
  rcases Bool.eq_false_or_eq_true (isCode c) with hi | hi
  · exact h2 c (List.mem_filter.mpr ⟨hc, hi⟩)
  · simpa [hi] using h
set_option maxRecDepth 65536 in
theorem w_c0 : (Jvm.Cond.code x code maxLocals ret).before args0 about1 = true := code_word (m := ⟨1, 1⟩) (meth := k1m1) (c := k1c1) (by decide +kernel) rfl rfl rfl (by decide +kernel)
set_option maxRecDepth 65536 in
theorem w_c1 : (Jvm.Cond.code ({ cls := "java/lang/String", name := "<init>", desc := "([C)V" } : Jvm.MethodName) jdk_42_method_3_code (2 : Nat) (Option.none : Option Jvm.ClassFile.FieldType)).before args0 about1 = true := code_word (m := ⟨7, 1⟩) (meth := k7m1) (c := k7c1) (by decide +kernel) rfl rfl rfl (by decide +kernel)
set_option maxRecDepth 65536 in
theorem w_c2 : (Jvm.Cond.code ({ cls := "java/lang/String", name := "<init>", desc := "([CIILjava/lang/Void;)V" } : Jvm.MethodName) jdk_42_method_149_code (6 : Nat) (Option.none : Option Jvm.ClassFile.FieldType)).before args0 about1 = true := code_word (m := ⟨7, 3⟩) (meth := k7m3) (c := k7c3) (by decide +kernel) rfl rfl rfl (by decide +kernel)
set_option maxRecDepth 65536 in
theorem w_c3 : (Jvm.Cond.code ({ cls := "java/lang/Object", name := "<init>", desc := "()V" } : Jvm.MethodName) object_method_1_code (1 : Nat) (Option.none : Option Jvm.ClassFile.FieldType)).before args0 about1 = true := code_word (m := ⟨0, 0⟩) (meth := k0m0) (c := k0c0) (by decide +kernel) rfl rfl rfl (by decide +kernel)
set_option maxRecDepth 65536 in
theorem w_c4 : (Jvm.Cond.code ({ cls := "java/lang/StringUTF16", name := "compress", desc := "([CII)[B" } : Jvm.MethodName) jdk_52_method_16_code (6 : Nat) (Option.some (Jvm.ClassFile.FieldType.array Jvm.ClassFile.FieldType.byte))).before args0 about1 = true := code_word (m := ⟨8, 2⟩) (meth := k8m2) (c := k8c2) (by decide +kernel) rfl rfl rfl (by decide +kernel)
set_option maxRecDepth 65536 in
theorem w_c5 : (Jvm.Cond.code ({ cls := "java/lang/StringUTF16", name := "compress", desc := "([CI[BII)I" } : Jvm.MethodName) jdk_52_method_21_code (7 : Nat) (Option.some Jvm.ClassFile.FieldType.int)).before args0 about1 = true := code_word (m := ⟨8, 3⟩) (meth := k8m3) (c := k8c3) (by decide +kernel) rfl rfl rfl (by decide +kernel)
set_option maxRecDepth 65536 in
theorem w_c6 : (Jvm.Cond.code ({ cls := "java/lang/StringUTF16", name := "coderFromArrayLen", desc := "([BI)B" } : Jvm.MethodName) jdk_52_method_15_code (2 : Nat) (Option.some Jvm.ClassFile.FieldType.byte)).before args0 about1 = true := code_word (m := ⟨8, 1⟩) (meth := k8m1) (c := k8c1) (by decide +kernel) rfl rfl rfl (by decide +kernel)
set_option maxRecDepth 65536 in
theorem w_c7 : (Jvm.Cond.code ({ cls := "java/lang/String", name := "valueOf", desc := "(C)Ljava/lang/String;" } : Jvm.MethodName) jdk_42_method_139_code (1 : Nat) (Option.some (Jvm.ClassFile.FieldType.object "java/lang/String"))).before args0 about1 = true := code_word (m := ⟨7, 2⟩) (meth := k7m2) (c := k7c2) (by decide +kernel) rfl rfl rfl (by decide +kernel)
set_option maxRecDepth 65536 in
theorem w_c8 : (Jvm.Cond.code ({ cls := "java/lang/StringLatin1", name := "canEncode", desc := "(C)Z" } : Jvm.MethodName) jdk_43_method_3_code (1 : Nat) (Option.some Jvm.ClassFile.FieldType.boolean)).before args0 about1 = true := code_word (m := ⟨9, 1⟩) (meth := k9m1) (c := k9c1) (by decide +kernel) rfl rfl rfl (by decide +kernel)
set_option maxRecDepth 65536 in
theorem w_c9 : (Jvm.Cond.code ({ cls := "java/lang/StringLatin1", name := "toBytes", desc := "(C)[B" } : Jvm.MethodName) jdk_43_method_46_code (1 : Nat) (Option.some (Jvm.ClassFile.FieldType.array Jvm.ClassFile.FieldType.byte))).before args0 about1 = true := code_word (m := ⟨9, 2⟩) (meth := k9m2) (c := k9c2) (by decide +kernel) rfl rfl rfl (by decide +kernel)
set_option maxRecDepth 65536 in
theorem w_c10 : (Jvm.Cond.code ({ cls := "java/lang/String", name := "<init>", desc := "([BB)V" } : Jvm.MethodName) jdk_42_method_151_code (3 : Nat) (Option.none : Option Jvm.ClassFile.FieldType)).before args0 about1 = true := code_word (m := ⟨7, 4⟩) (meth := k7m4) (c := k7c4) (by decide +kernel) rfl rfl rfl (by decide +kernel)
set_option maxRecDepth 65536 in
theorem w_c11 : (Jvm.Cond.code ({ cls := "com/example/rightful_keys/rightfulkeys/store/Account", name := "<init>", desc := "(Ljava/lang/String;Ljava/lang/String;)V" } : Jvm.MethodName) prog_50_method_1_code (3 : Nat) (Option.none : Option Jvm.ClassFile.FieldType)).before args0 about1 = true := code_word (m := ⟨11, 0⟩) (meth := k11m0) (c := k11c0) (by decide +kernel) rfl rfl rfl (by decide +kernel)
set_option maxRecDepth 65536 in
theorem w_c12 : (Jvm.Cond.code ({ cls := "java/lang/Record", name := "<init>", desc := "()V" } : Jvm.MethodName) jdk_30_method_1_code (1 : Nat) (Option.none : Option Jvm.ClassFile.FieldType)).before args0 about1 = true := code_word (m := ⟨10, 0⟩) (meth := k10m0) (c := k10c0) (by decide +kernel) rfl rfl rfl (by decide +kernel)
set_option maxRecDepth 65536 in
theorem w_c13 : (Jvm.Cond.code ({ cls := "com/example/rightful_keys/rightfulkeys/store/Role", name := "<init>", desc := "(Ljava/lang/String;Ljava/lang/String;Lcom/example/rightful_keys/rightfulkeys/store/Account;Ljava/lang/String;Ljava/util/Optional;)V" } : Jvm.MethodName) prog_67_method_1_code (6 : Nat) (Option.none : Option Jvm.ClassFile.FieldType)).before args0 about1 = true := code_word (m := ⟨12, 0⟩) (meth := k12m0) (c := k12c0) (by decide +kernel) rfl rfl rfl (by decide +kernel)
set_option maxRecDepth 65536 in
theorem w_c14 : (Jvm.Cond.code ({ cls := "com/example/rightful_keys/rightfulkeys/store/Role", name := "isSystem", desc := "()Z" } : Jvm.MethodName) prog_67_method_2_code (1 : Nat) (Option.some Jvm.ClassFile.FieldType.boolean)).before args0 about1 = true := code_word (m := ⟨12, 1⟩) (meth := k12m1) (c := k12c1) (by decide +kernel) rfl rfl rfl (by decide +kernel)
set_option maxRecDepth 65536 in
theorem w_c15 : (Jvm.Cond.code ({ cls := "com/example/rightful_keys/rightfulkeys/store/Role", name := "account", desc := "()Lcom/example/rightful_keys/rightfulkeys/store/Account;" } : Jvm.MethodName) prog_67_method_8_code (1 : Nat) (Option.some (Jvm.ClassFile.FieldType.object "com/example/rightful_keys/rightfulkeys/store/Account"))).before args0 about1 = true := code_word (m := ⟨12, 2⟩) (meth := k12m2) (c := k12c2) (by decide +kernel) rfl rfl rfl (by decide +kernel)
def codes1 : List Jvm.Cond := [Jvm.Cond.code x code maxLocals ret, Jvm.Cond.code ({ cls := "java/lang/String", name := "<init>", desc := "([C)V" } : Jvm.MethodName) jdk_42_method_3_code (2 : Nat) (Option.none : Option Jvm.ClassFile.FieldType), Jvm.Cond.code ({ cls := "java/lang/String", name := "<init>", desc := "([CIILjava/lang/Void;)V" } : Jvm.MethodName) jdk_42_method_149_code (6 : Nat) (Option.none : Option Jvm.ClassFile.FieldType), Jvm.Cond.code ({ cls := "java/lang/Object", name := "<init>", desc := "()V" } : Jvm.MethodName) object_method_1_code (1 : Nat) (Option.none : Option Jvm.ClassFile.FieldType), Jvm.Cond.code ({ cls := "java/lang/StringUTF16", name := "compress", desc := "([CII)[B" } : Jvm.MethodName) jdk_52_method_16_code (6 : Nat) (Option.some (Jvm.ClassFile.FieldType.array Jvm.ClassFile.FieldType.byte)), Jvm.Cond.code ({ cls := "java/lang/StringUTF16", name := "compress", desc := "([CI[BII)I" } : Jvm.MethodName) jdk_52_method_21_code (7 : Nat) (Option.some Jvm.ClassFile.FieldType.int), Jvm.Cond.code ({ cls := "java/lang/StringUTF16", name := "coderFromArrayLen", desc := "([BI)B" } : Jvm.MethodName) jdk_52_method_15_code (2 : Nat) (Option.some Jvm.ClassFile.FieldType.byte), Jvm.Cond.code ({ cls := "java/lang/String", name := "valueOf", desc := "(C)Ljava/lang/String;" } : Jvm.MethodName) jdk_42_method_139_code (1 : Nat) (Option.some (Jvm.ClassFile.FieldType.object "java/lang/String")), Jvm.Cond.code ({ cls := "java/lang/StringLatin1", name := "canEncode", desc := "(C)Z" } : Jvm.MethodName) jdk_43_method_3_code (1 : Nat) (Option.some Jvm.ClassFile.FieldType.boolean), Jvm.Cond.code ({ cls := "java/lang/StringLatin1", name := "toBytes", desc := "(C)[B" } : Jvm.MethodName) jdk_43_method_46_code (1 : Nat) (Option.some (Jvm.ClassFile.FieldType.array Jvm.ClassFile.FieldType.byte)), Jvm.Cond.code ({ cls := "java/lang/String", name := "<init>", desc := "([BB)V" } : Jvm.MethodName) jdk_42_method_151_code (3 : Nat) (Option.none : Option Jvm.ClassFile.FieldType), Jvm.Cond.code ({ cls := "com/example/rightful_keys/rightfulkeys/store/Account", name := "<init>", desc := "(Ljava/lang/String;Ljava/lang/String;)V" } : Jvm.MethodName) prog_50_method_1_code (3 : Nat) (Option.none : Option Jvm.ClassFile.FieldType), Jvm.Cond.code ({ cls := "java/lang/Record", name := "<init>", desc := "()V" } : Jvm.MethodName) jdk_30_method_1_code (1 : Nat) (Option.none : Option Jvm.ClassFile.FieldType), Jvm.Cond.code ({ cls := "com/example/rightful_keys/rightfulkeys/store/Role", name := "<init>", desc := "(Ljava/lang/String;Ljava/lang/String;Lcom/example/rightful_keys/rightfulkeys/store/Account;Ljava/lang/String;Ljava/util/Optional;)V" } : Jvm.MethodName) prog_67_method_1_code (6 : Nat) (Option.none : Option Jvm.ClassFile.FieldType), Jvm.Cond.code ({ cls := "com/example/rightful_keys/rightfulkeys/store/Role", name := "isSystem", desc := "()Z" } : Jvm.MethodName) prog_67_method_2_code (1 : Nat) (Option.some Jvm.ClassFile.FieldType.boolean), Jvm.Cond.code ({ cls := "com/example/rightful_keys/rightfulkeys/store/Role", name := "account", desc := "()Lcom/example/rightful_keys/rightfulkeys/store/Account;" } : Jvm.MethodName) prog_67_method_8_code (1 : Nat) (Option.some (Jvm.ClassFile.FieldType.object "com/example/rightful_keys/rightfulkeys/store/Account"))]
set_option maxRecDepth 65536 in
theorem codes_eq : words1.filter isCode = codes1 := rfl
theorem w_codes : ∀ c ∈ words1.filter isCode, c.before args0 about1 = true := by
  rw [codes_eq]
  intro c hc
  simp only [codes1, List.mem_cons, List.not_mem_nil, or_false] at hc
  rcases hc with rfl | rfl | rfl | rfl | rfl | rfl | rfl | rfl | rfl | rfl | rfl | rfl | rfl | rfl | rfl | rfl
  · exact w_c0
  · exact w_c1
  · exact w_c2
  · exact w_c3
  · exact w_c4
  · exact w_c5
  · exact w_c6
  · exact w_c7
  · exact w_c8
  · exact w_c9
  · exact w_c10
  · exact w_c11
  · exact w_c12
  · exact w_c13
  · exact w_c14
  · exact w_c15
set_option maxRecDepth 65536 in
theorem w_t1 : (words1.take 24).all (fun c => isCode c || c.before args0 about1) = true := by decide +kernel
set_option maxRecDepth 65536 in
theorem w_t2 : ((words1.drop 24).take 24).all (fun c => isCode c || c.before args0 about1) = true := by decide +kernel
set_option maxRecDepth 65536 in
theorem w_t3 : (((words1.drop 24).drop 24).take 24).all (fun c => isCode c || c.before args0 about1) = true := by decide +kernel
set_option maxRecDepth 65536 in
theorem w_t4 : (((words1.drop 24).drop 24).drop 24).all (fun c => isCode c || c.before args0 about1) = true := by decide +kernel
theorem w_tables : (allAtoms (Jvm.Cond.code x code maxLocals ret :: tables_1)).before args0 about1 = true := by
  rw [allAtoms_all]
  show words1.all (fun c => c.before args0 about1) = true
  refine all_split ?_ w_codes
  rw [← List.take_append_drop 24 words1, List.all_append, w_t1, ← List.take_append_drop 24 (words1.drop 24), List.all_append, w_t2, ← List.take_append_drop 24 ((words1.drop 24).drop 24), List.all_append, w_t3, w_t4]
  rfl
set_option maxRecDepth 65536 in
theorem w_rest : rest_1_c.before args0 about1 = true := by decide +kernel
set_option maxRecDepth 65536 in
theorem w_case : (Jvm.Cond.and given_1 narrow_1).before args0 about1 = true := by decide +kernel
theorem w_applies : (headSpec (Jvm.Cond.code x code maxLocals ret :: tables_1) room_1).applies x e0.platform about1 = true :=
  (Spec.applies_iff w_frames).mpr ⟨w_running, w_runnable, w_alone, w_named, w_hears, w_ripe, w_room, w_tables⟩
theorem atStart : AtStart classFile x code maxLocals ret World_1 tables_1 room_1 Calls_1 rest_1 Pre_1 launch0 p0 e0 about1 theMethod args0 below0 :=
  ⟨lists_1, trivial, launch0.admits_env _ _ _, launch0.least_env, fairChoices_fair.cas, fairChoices_fair.clock, w_frames, w_args, w_heap, w_applies, trivial, w_rest, w_case⟩
end start1
theorem witness_1 : WitnessClaimed_1 := ⟨start1.p0, start1.e0, start1.about1, start1.theMethod, start1.args0, start1.below0, start1.atStart⟩
end Jvm.Pilot.@@N@@
