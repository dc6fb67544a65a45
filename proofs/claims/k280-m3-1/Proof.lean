import JvmDerived
import JvmDerived.Pilot.@@N@@Statement
import JvmDerived.Pilot.@@N@@Code
set_option linter.unusedVariables false
set_option linter.unusedSimpArgs false
/- laws to paste: Road.backV, Road.eqW, Road.codOf (cut by pick.py; bodies as the Statement names them) -/
namespace Jvm.Pilot.@@N@@
namespace StrChars
open Jvm Sem ClassFile Op Lib Jvm.Stand Jvm.Free.XT Jvm.Free.ALB Jvm.Free.JM Jvm.Free
open Jvm.Lib.Cold (StaticIs)
/-- a char array whose places are chars -/
def Ch (a : Addr) (A : Cell) (U : State) : Prop := Arr .char a A U ∧ Typed .char A
theorem Ch.mv {a : Addr} {A : Cell} {U U' : State} (h : Ch a A U) (hal : U.vm.Alike U'.vm) (hh : U'.heap = U.heap) : Ch a A U' := ⟨h.1.mv hal hh, h.2⟩
theorem Ch.keep {a : Addr} {A : Cell} {U U' : State} (h : Ch a A U) (hal : U.vm.Alike U'.vm) (hk : U'.heap[a]? = some A) : Ch a A U' := ⟨h.1.keep hal hk, h.2⟩
/-- what place i of a char[]'s cell holds -/
def cv (A : Cell) (i : Nat) : Int32 := match A.slots[i]? with | some (.int x) => x | _ => 0
theorem Ch.get {a : Addr} {A : Cell} {U : State} (h : Ch a A U) {i : Nat} (hi : i < A.slots.size) : A.slots[i]? = some (.int (cv A i)) := by
  have e := Array.getElem?_eq_getElem hi
  have f := h.2 i _ e
  unfold cv; rw [e]
  generalize A.slots[i] = v at f
  cases v <;> simp [fits] at f ⊢
/-- the byte that i2b leaves of a char -/
def lo8 (x : Int32) : Int32 := x.toInt8.toInt32
theorem fits_lo8 (y : Int32) : fits .byte (.int (lo8 y)) = true := by
  have h1 := y.toInt8.le_toInt
  have h2 := y.toInt8.toInt_lt
  simp only [lo8, fits, Bool.and_eq_true, decide_eq_true_eq, Int32.le_iff_toInt_le, Int8.toInt_toInt32, show (-128 : Int32).toInt = -128 from by decide, show (127 : Int32).toInt = 127 from by decide]
  omega
/-- A' is A but that each place j of lo .. hi - 1 holds f j -/
def Laid (A A' : Cell) (lo hi : Nat) (f : Nat → Value) : Prop := A'.cls = A.cls ∧ A'.vm = A.vm ∧ A'.slots.size = A.slots.size ∧ ∀ i, A'.slots[i]? = if lo ≤ i ∧ i < hi then some (f i) else A.slots[i]?
theorem Laid.zero (A : Cell) (lo : Nat) (f : Nat → Value) : Laid A A lo (lo + 0) f := ⟨rfl, rfl, rfl, fun i => by rw [if_neg (by omega)]⟩
theorem Laid.step {A Ak : Cell} {lo k : Nat} {f : Nat → Value} {v : Value} (h : Laid A Ak lo k f) (hlo : lo ≤ k) (hk : k < Ak.slots.size) (hv : v = f k) : Laid A (Ak.setSlot k v) lo (k + 1) f := by
  refine ⟨h.1, h.2.1, by simpa [Cell.setSlot] using h.2.2.1, fun i => ?_⟩
  by_cases e : k = i
  · subst e; rw [Cell.slots_setSlot_self v hk, if_pos (by omega), hv]
  · rw [Cell.slots_setSlot_ne v e, h.2.2.2 i]
    by_cases q : lo ≤ i ∧ i < k
    · rw [if_pos q, if_pos (by omega)]
    · rw [if_neg q, if_neg (by omega)]
def U16 : String := "java/lang/StringUTF16"
namespace Cmp5
def yN : MethodName := ⟨"java/lang/StringUTF16", "compress", "([CI[BII)I"⟩
abbrev yB : ByteArray := jdk_52_method_21_code
theorem d0 : decode yB 0 = .ok (.iconst 0, 1) := by decide +kernel
theorem d1 : decode yB 1 = .ok (.istore 5, 2) := by decide +kernel
theorem d3 : decode yB 3 = .ok (.iload 5, 2) := by decide +kernel
theorem d5 : decode yB 5 = .ok (.iload 4, 2) := by decide +kernel
theorem d7 : decode yB 7 = .ok (.if_icmp (.ge) 37, 3) := by decide +kernel
theorem d10 : decode yB 10 = .ok (.aload_n 0, 1) := by decide +kernel
theorem d11 : decode yB 11 = .ok (.iload_n 1, 1) := by decide +kernel
theorem d12 : decode yB 12 = .ok (.caload, 1) := by decide +kernel
theorem d13 : decode yB 13 = .ok (.istore 6, 2) := by decide +kernel
theorem d15 : decode yB 15 = .ok (.iload 6, 2) := by decide +kernel
theorem d17 : decode yB 17 = .ok (.sipush 255, 3) := by decide +kernel
theorem d20 : decode yB 20 = .ok (.if_icmp (.le) 6, 3) := by decide +kernel
theorem d26 : decode yB 26 = .ok (.aload_n 2, 1) := by decide +kernel
theorem d27 : decode yB 27 = .ok (.iload_n 3, 1) := by decide +kernel
theorem d28 : decode yB 28 = .ok (.iload 6, 2) := by decide +kernel
theorem d30 : decode yB 30 = .ok (.i2b, 1) := by decide +kernel
theorem d31 : decode yB 31 = .ok (.bastore, 1) := by decide +kernel
theorem d32 : decode yB 32 = .ok (.iinc 1 1, 3) := by decide +kernel
theorem d35 : decode yB 35 = .ok (.iinc 3 1, 3) := by decide +kernel
theorem d38 : decode yB 38 = .ok (.iinc 5 1, 3) := by decide +kernel
theorem d41 : decode yB 41 = .ok (.goto (-38), 3) := by decide +kernel
theorem d44 : decode yB 44 = .ok (.iload 4, 2) := by decide +kernel
theorem d46 : decode yB 46 = .ok (.ireturn, 1) := by decide +kernel
def site : List Cond := []
def tab : Cond := tabOf yN yB 7 (some .int) site
def P (b : Addr) (A : Cell) (d : Addr) (B : Cell) (o q len : Nat) (args : Array Value) (s : State) : Prop := args = #[.ref b, .int (Int32.ofNat o), .ref d, .int (Int32.ofNat q), .int (Int32.ofNat len)] ∧ Ch b A s ∧ Arr .byte d B s ∧ b ≠ d ∧ o + len ≤ A.slots.size ∧ q + len ≤ B.slots.size ∧ ∀ i, i < len → ¬ 255 < cv A (o + i)
def E (b : Addr) (A : Cell) (d : Addr) (B : Cell) (o q len : Nat) (r : Option Value) (s u : State) : Prop := r = some (.int (Int32.ofNat len)) ∧ ∃ B', Put d B' s u ∧ Laid B B' q (q + len) (fun j => Value.int (lo8 (cv A (o + (j - q)))))
/-- no char of the range above 255: len; the places written hold each char's low byte -/
theorem law (l : Launch) (b : Addr) (A : Cell) (d : Addr) (B : Cell) (o q len : Nat) : Law l yN 5 5 0 0 yB 7 (some .int) site (P b A d B o q len) (E b A d B o q len) (copyLocs d q len) 0 0 := by
  refine Law.of_walk (plainFor_of_name (by decide +kernel)) (by decide +kernel) (by decide +kernel) (by decide) (fun _ _ h => by rw [h.1]; rfl) (fun _ U U' hal hh h => ⟨h.1, h.2.1.mv hal hh, h.2.2.1.mv hal hh, h.2.2.2⟩) (fun r U U' V V' h1 hal h2 h => ⟨h.1, h.2.elim fun B' q => ⟨B', q.1.mv h1 h2, q.2⟩⟩) ?_
  intro p e s m args below meth c s₁ X0 hexec hbytes hml hret hlk hnm hown hh0 W hP
  obtain ⟨rfl, hA, hB, hne, l1, l2, hp⟩ := hP
  have c1 : Steps p.tables e below (s₁.setTop (entryFrame m #[.ref b, .int (Int32.ofNat o), .ref d, .int (Int32.ofNat q), .int (Int32.ofNat len)] 7)) (s₁.setTop (mkF m 0 #[.val (.ref b), .val (.int (Int32.ofNat o)), .val (.ref d), .val (.int (Int32.ofNat q)), .val (.int (Int32.ofNat len)), .unset, .unset] [])) := entry rfl
  have hA0 := hA.1.mv X0.warmed.alike hh0
  have hB0 := hB.mv X0.warmed.alike hh0
  have a31 := hA.1.2.2.2
  have c2 : Steps p.tables e below (s₁.setTop (entryFrame m #[.ref b, .int (Int32.ofNat o), .ref d, .int (Int32.ofNat q), .int (Int32.ofNat len)] 7)) (s₁.setTop (mkF m 3 #[.val (.ref b), .val (.int (Int32.ofNat o)), .val (.ref d), .val (.int (Int32.ofNat q)), .val (.int (Int32.ofNat len)), .val (.int 0), .unset] [])) := c1.trans (by
    refine iconstV X0.here hexec rfl 0 (hb hbytes d0) (by decide) ?_
    refine XS.istore X0.here hexec rfl (hb hbytes d1) rfl rfl ?_
    exact Steps.refl _)
  have loop : ∀ (r i : Nat), i + r = len → ∀ (z : Slot), (z = .unset ∨ ∃ w, z = .val w ∧ w.category = 1) → ∀ (Tl : State) (Bk : Cell), Stand p l e { frames := 0, locals := 0, cells := 0, slots := 0 } s m #[.ref b, .int (Int32.ofNat o), .ref d, .int (Int32.ofNat q), .int (Int32.ofNat len)] below meth c Tl ([] ++ copyLocs d q i) 0 0 → Put d Bk s₁ Tl → Laid B Bk q (q + i) (fun j => Value.int (lo8 (cv A (o + (j - q))))) →
      Steps p.tables e below (s₁.setTop (entryFrame m #[.ref b, .int (Int32.ofNat o), .ref d, .int (Int32.ofNat q), .int (Int32.ofNat len)] 7)) (Tl.setTop (mkF m 3 #[.val (.ref b), .val (.int (Int32.ofNat (o + i))), .val (.ref d), .val (.int (Int32.ofNat (q + i))), .val (.int (Int32.ofNat len)), .val (.int (Int32.ofNat i)), z] [])) → ∃ (T' : State) (B' : Cell) (z' : Slot), Stand p l e { frames := 0, locals := 0, cells := 0, slots := 0 } s m #[.ref b, .int (Int32.ofNat o), .ref d, .int (Int32.ofNat q), .int (Int32.ofNat len)] below meth c T' ([] ++ copyLocs d q len) 0 0 ∧ Put d B' s₁ T' ∧ Laid B B' q (q + len) (fun j => Value.int (lo8 (cv A (o + (j - q))))) ∧
      Steps p.tables e below (s₁.setTop (entryFrame m #[.ref b, .int (Int32.ofNat o), .ref d, .int (Int32.ofNat q), .int (Int32.ofNat len)] 7)) (T'.setTop (mkF m 3 #[.val (.ref b), .val (.int (Int32.ofNat (o + len))), .val (.ref d), .val (.int (Int32.ofNat (q + len))), .val (.int (Int32.ofNat len)), .val (.int (Int32.ofNat len)), z'] [])) := by
    intro r
    induction r with
    | zero =>
      intro i hi z hz Tl Bk Xl pl fl cl
      have hil : i = len := by omega
      rw [hil] at Xl fl cl
      exact ⟨Tl, Bk, z, Xl, pl, fl, cl⟩
    | succ r ih =>
      intro i hi z hz Tl Bk Xl pl fl cl
      have all := X0.warmed.alike.symm.trans Xl.warmed.alike
      have hAl := hA0.keep all (pl.other hne hA0.1)
      have hBk := hB0.like all pl.1 fl.1 fl.2.1 fl.2.2.1
      have hlt : q + i < Bk.slots.size := by rw [fl.2.2.1]; omega
      have c3 : Steps p.tables e below (s₁.setTop (entryFrame m #[.ref b, .int (Int32.ofNat o), .ref d, .int (Int32.ofNat q), .int (Int32.ofNat len)] 7)) (Tl.setTop (mkF m 12 #[.val (.ref b), .val (.int (Int32.ofNat (o + i))), .val (.ref d), .val (.int (Int32.ofNat (q + i))), .val (.int (Int32.ofNat len)), .val (.int (Int32.ofNat i)), z] [.int (Int32.ofNat (o + i)), .ref b])) := cl.trans (by
        refine XS.iload Xl.here hexec rfl (hb hbytes d3) rfl ?_
        refine XS.iload Xl.here hexec rfl (hb hbytes d5) rfl ?_
        refine XS.icmpNo Xl.here hexec rfl (hb hbytes d7) rfl (ii_ge_f (lt32 (by omega) (by omega))) ?_
        refine XS.aloadN Xl.here hexec rfl (hb hbytes d10) rfl rfl ?_
        refine XS.iloadN Xl.here hexec rfl (hb hbytes d11) rfl ?_
        exact Steps.refl _)
      have c4 : Steps p.tables e below (s₁.setTop (entryFrame m #[.ref b, .int (Int32.ofNat o), .ref d, .int (Int32.ofNat q), .int (Int32.ofNat len)] 7)) (Tl.setTop (mkF m 13 #[.val (.ref b), .val (.int (Int32.ofNat (o + i))), .val (.ref d), .val (.int (Int32.ofNat (q + i))), .val (.int (Int32.ofNat len)), .val (.int (Int32.ofNat i)), z] [.int (cv A (o + i))])) := c3.trans (by
        refine Xl.aget hexec hAl rfl (hA.get (i := o + i) (by omega)) rfl rfl (hb hbytes d12) ?_
        exact Steps.refl _)
      have c5 : Steps p.tables e below (s₁.setTop (entryFrame m #[.ref b, .int (Int32.ofNat o), .ref d, .int (Int32.ofNat q), .int (Int32.ofNat len)] 7)) (Tl.setTop (mkF m 15 #[.val (.ref b), .val (.int (Int32.ofNat (o + i))), .val (.ref d), .val (.int (Int32.ofNat (q + i))), .val (.int (Int32.ofNat len)), .val (.int (Int32.ofNat i)), .val (.int (cv A (o + i)))] [])) := c4.trans (by
        refine XS.istoreS Xl.here hexec rfl (hb hbytes d13) rfl rfl hz ?_
        exact Steps.refl _)
      have c6 : Steps p.tables e below (s₁.setTop (entryFrame m #[.ref b, .int (Int32.ofNat o), .ref d, .int (Int32.ofNat q), .int (Int32.ofNat len)] 7)) (Tl.setTop (mkF m 31 #[.val (.ref b), .val (.int (Int32.ofNat (o + i))), .val (.ref d), .val (.int (Int32.ofNat (q + i))), .val (.int (Int32.ofNat len)), .val (.int (Int32.ofNat i)), .val (.int (cv A (o + i)))] [.int (lo8 (cv A (o + i))), .int (Int32.ofNat (q + i)), .ref d])) := c5.trans (by
        refine XS.iload Xl.here hexec rfl (hb hbytes d15) rfl ?_
        refine sipushV Xl.here hexec rfl 255 (hb hbytes d17) (by decide) ?_
        refine XS.icmpYes Xl.here hexec rfl (pc0 := 20) rfl (hb hbytes d20) rfl (ii_le_t (hp i (by omega))) (by decide) rfl ?_
        refine XS.aloadN Xl.here hexec rfl (hb hbytes d26) rfl rfl ?_
        refine XS.iloadN Xl.here hexec rfl (hb hbytes d27) rfl ?_
        refine XS.iload Xl.here hexec rfl (hb hbytes d28) rfl ?_
        refine i2b Xl.here hexec rfl (hb hbytes d30) rfl ?_
        exact Steps.refl _)
      obtain ⟨T7, X7, p7, st7⟩ := Xl.aput hexec hBk rfl hlt rfl (fits_lo8 (cv A (o + i))) (g := (mkF m 31 #[.val (.ref b), .val (.int (Int32.ofNat (o + i))), .val (.ref d), .val (.int (Int32.ofNat (q + i))), .val (.int (Int32.ofNat len)), .val (.int (Int32.ofNat i)), .val (.int (cv A (o + i)))] [.int (lo8 (cv A (o + i))), .int (Int32.ofNat (q + i)), .ref d])) rfl (rest := []) rfl (hb hbytes d31)
      have c8 : Steps p.tables e below (s₁.setTop (entryFrame m #[.ref b, .int (Int32.ofNat o), .ref d, .int (Int32.ofNat q), .int (Int32.ofNat len)] 7)) (T7.setTop (mkF m 32 #[.val (.ref b), .val (.int (Int32.ofNat (o + i))), .val (.ref d), .val (.int (Int32.ofNat (q + i))), .val (.int (Int32.ofNat len)), .val (.int (Int32.ofNat i)), .val (.int (cv A (o + i)))] [])) := c6.trans (st7 _ (Steps.refl _))
      have c9 : Steps p.tables e below (s₁.setTop (entryFrame m #[.ref b, .int (Int32.ofNat o), .ref d, .int (Int32.ofNat q), .int (Int32.ofNat len)] 7)) (T7.setTop (mkF m 3 #[.val (.ref b), .val (.int (Int32.ofNat (o + i) + 1)), .val (.ref d), .val (.int (Int32.ofNat (q + i) + 1)), .val (.int (Int32.ofNat len)), .val (.int (Int32.ofNat i + 1)), .val (.int (cv A (o + i)))] [])) := c8.trans (by
        refine iincV X7.here hexec rfl 1 (hb hbytes d32) (by decide) rfl rfl ?_
        refine iincV X7.here hexec rfl 1 (hb hbytes d35) (by decide) rfl rfl ?_
        refine iincV X7.here hexec rfl 1 (hb hbytes d38) (by decide) rfl rfl ?_
        refine XS.goto X7.here hexec rfl (pc0 := 41) rfl (hb hbytes d41) (by decide) rfl ?_
        exact Steps.refl _)
      have c10 : Steps p.tables e below (s₁.setTop (entryFrame m #[.ref b, .int (Int32.ofNat o), .ref d, .int (Int32.ofNat q), .int (Int32.ofNat len)] 7)) (T7.setTop (mkF m 3 #[.val (.ref b), .val (.int (Int32.ofNat (o + (i + 1)))), .val (.ref d), .val (.int (Int32.ofNat (q + (i + 1)))), .val (.int (Int32.ofNat len)), .val (.int (Int32.ofNat (i + 1))), .val (.int (cv A (o + i)))] [])) := by
        have := c9
        rw [succ32, succ32, succ32] at this
        exact this
      exact ih (i + 1) (by omega) _ (Or.inr ⟨_, rfl, rfl⟩) T7 _ (by rw [copyLocs_step, ← List.append_assoc]; exact X7) (pl.trans p7) (fl.step (by omega) hlt (by simp)) c10
  obtain ⟨T9, B9, z9, X9, p9, f9, g9⟩ := loop len 0 (by omega) .unset (Or.inl rfl) s₁ B (by simpa [copyLocs] using X0) ⟨hB0.1, fun _ _ => rfl, rfl⟩ (Laid.zero _ _ _) c2
  have c11 : Steps p.tables e below (s₁.setTop (entryFrame m #[.ref b, .int (Int32.ofNat o), .ref d, .int (Int32.ofNat q), .int (Int32.ofNat len)] 7)) (T9.setTop (mkF m 46 #[.val (.ref b), .val (.int (Int32.ofNat (o + len))), .val (.ref d), .val (.int (Int32.ofNat (q + len))), .val (.int (Int32.ofNat len)), .val (.int (Int32.ofNat len)), z9] [.int (Int32.ofNat len)])) := g9.trans (by
    refine XS.iload X9.here hexec rfl (hb hbytes d3) rfl ?_
    refine XS.iload X9.here hexec rfl (hb hbytes d5) rfl ?_
    refine XS.icmpYes X9.here hexec rfl (pc0 := 7) rfl (hb hbytes d7) rfl (ii_ge_t (nlt32 (by omega) (Nat.le_refl _))) (by decide) rfl ?_
    refine XS.iload X9.here hexec rfl (hb hbytes d44) rfl ?_
    exact Steps.refl _)
  exact ⟨T9, some (.int (Int32.ofNat len)), _, _, _, X9, by simp, rfl, rfl, (fun h => by cases h), ⟨rfl, B9, p9.from hh0, f9⟩, fun fs hl => c11.trans (X9.ireturnOut hexec hret rfl (Or.inl rfl) (hb hbytes d46) hl)⟩
end Cmp5
namespace Cmp3
def yN : MethodName := ⟨"java/lang/StringUTF16", "compress", "([CII)[B"⟩
abbrev yB : ByteArray := jdk_52_method_16_code
theorem d0 : decode yB 0 = .ok (.iload_n 2, 1) := by decide +kernel
theorem d1 : decode yB 1 = .ok (.newarray .byte, 2) := by decide +kernel
theorem d3 : decode yB 3 = .ok (.astore_n 3, 1) := by decide +kernel
theorem d4 : decode yB 4 = .ok (.aload_n 0, 1) := by decide +kernel
theorem d5 : decode yB 5 = .ok (.iload_n 1, 1) := by decide +kernel
theorem d6 : decode yB 6 = .ok (.aload_n 3, 1) := by decide +kernel
theorem d7 : decode yB 7 = .ok (.iconst 0, 1) := by decide +kernel
theorem d8 : decode yB 8 = .ok (.iload_n 2, 1) := by decide +kernel
theorem d9 : decode yB 9 = .ok (.invokestatic 115, 3) := by decide +kernel
theorem d12 : decode yB 12 = .ok (.istore 4, 2) := by decide +kernel
theorem d14 : decode yB 14 = .ok (.iload 4, 2) := by decide +kernel
theorem d16 : decode yB 16 = .ok (.iload_n 2, 1) := by decide +kernel
theorem d17 : decode yB 17 = .ok (.if_icmp (.eq) 40, 3) := by decide +kernel
theorem d57 : decode yB 57 = .ok (.aload_n 3, 1) := by decide +kernel
theorem d58 : decode yB 58 = .ok (.areturn, 1) := by decide +kernel
def site : List Cond := [.arrayClass .byte, Cmp5.tab] ++ staticW U16 115 Cmp5.yN
def tab : Cond := tabOf yN yB 6 (some (.array .byte)) site
def P (b : Addr) (A : Cell) (o len : Nat) (args : Array Value) (s : State) : Prop := args = #[.ref b, .int (Int32.ofNat o), .int (Int32.ofNat len)] ∧ Ch b A s ∧ o + len ≤ A.slots.size ∧ len ≤ 536870912 ∧ ∀ i, i < len → ¬ 255 < cv A (o + i)
def E (b : Addr) (A : Cell) (o len : Nat) (r : Option Value) (s u : State) : Prop := NewArr .byte "[B" len (fun j => .int (lo8 (cv A (o + j)))) r s u ∧ u.heap.size = s.heap.size + 1
/-- no char of the range above 255: a new byte[] of their low bytes -/
theorem law (l : Launch) (b : Addr) (A : Cell) (o len : Nat) : Law l yN 3 3 1 18 yB 6 (some (.array .byte)) site (P b A o len) (E b A o len) [] 1 len := by
  refine Law.of_walk (plainFor_of_name (by decide +kernel)) (by decide +kernel) (by decide +kernel) (by decide) (fun _ _ h => by rw [h.1]; rfl) (fun _ U U' hal hh h => ⟨h.1, h.2.1.mv hal hh, h.2.2⟩) (fun r U U' V V' h1 hal h2 h => ⟨NewArr.mv r U U' V V' h1 hal h2 h.1, by rw [h1, h2]; exact h.2⟩) ?_
  intro p e s m args below meth c s₁ X0 hexec hbytes hml hret hlk hnm hown hh0 W hP
  obtain ⟨rfl, hA, l1, l2, hp⟩ := hP
  have a31 := hA.1.2.2.2
  have c1 : Steps p.tables e below (s₁.setTop (entryFrame m #[.ref b, .int (Int32.ofNat o), .int (Int32.ofNat len)] 6)) (s₁.setTop (mkF m 0 #[.val (.ref b), .val (.int (Int32.ofNat o)), .val (.int (Int32.ofNat len)), .unset, .unset, .unset] [])) := entry rfl
  have c2 : Steps p.tables e below (s₁.setTop (entryFrame m #[.ref b, .int (Int32.ofNat o), .int (Int32.ofNat len)] 6)) (s₁.setTop (mkF m 1 #[.val (.ref b), .val (.int (Int32.ofNat o)), .val (.int (Int32.ofNat len)), .unset, .unset, .unset] [.int (Int32.ofNat len)])) := c1.trans (by
    refine XS.iloadN X0.here hexec rfl (hb hbytes d0) rfl ?_
    exact Steps.refl _)
  obtain ⟨T3, B3, X3, ba3, bs3, bv3, bh3, bf3, st3⟩ := X0.anew hexec (atype := .byte) (wk W (.arrayClass .byte)) rfl (by show len * 1 ≤ _; omega) (by omega) (g := (mkF m 1 #[.val (.ref b), .val (.int (Int32.ofNat o)), .val (.int (Int32.ofNat len)), .unset, .unset, .unset] [.int (Int32.ofNat len)])) rfl (hb hbytes d1) (rest := []) rfl (Nat.le_refl _) (by show 0 + len ≤ len; omega)
  rw [hh0] at ba3 st3
  have kp3 : XT.Kept s T3 := (XT.Kept.of_eq hh0).push bh3
  have hA3 := hA.keep X3.warmed.alike (kp3 _ _ hA.1.1)
  have hne : b ≠ s.heap.size := hA.1.ne
  have c4 : Steps p.tables e below (s₁.setTop (entryFrame m #[.ref b, .int (Int32.ofNat o), .int (Int32.ofNat len)] 6)) (T3.setTop (mkF m 3 #[.val (.ref b), .val (.int (Int32.ofNat o)), .val (.int (Int32.ofNat len)), .unset, .unset, .unset] [.ref s.heap.size])) := c2.trans (st3 _ (Steps.refl _))
  have c5 : Steps p.tables e below (s₁.setTop (entryFrame m #[.ref b, .int (Int32.ofNat o), .int (Int32.ofNat len)] 6)) (T3.setTop (mkF m 9 #[.val (.ref b), .val (.int (Int32.ofNat o)), .val (.int (Int32.ofNat len)), .val (.ref s.heap.size), .unset, .unset] [.int (Int32.ofNat len), .int 0, .ref s.heap.size, .int (Int32.ofNat o), .ref b])) := c4.trans (by
    refine XS.astoreN X3.here hexec rfl (hb hbytes d3) rfl rfl rfl ?_
    refine XS.aloadN X3.here hexec rfl (hb hbytes d4) rfl rfl ?_
    refine XS.iloadN X3.here hexec rfl (hb hbytes d5) rfl ?_
    refine XS.aloadN X3.here hexec rfl (hb hbytes d6) rfl rfl ?_
    refine iconstV X3.here hexec rfl 0 (hb hbytes d7) (by decide) ?_
    refine XS.iloadN X3.here hexec rfl (hb hbytes d8) rfl ?_
    exact Steps.refl _)
  obtain ⟨v6, T6, X6, E6, g6⟩ := X3.callS hexec (Cmp5.law l b A s.heap.size B3 o 0 len) hown (wks W (staticW U16 115 Cmp5.yN)) (wk W Cmp5.tab) (W := 0) (Nat.le_of_ble_eq_true rfl) (Nat.le_of_ble_eq_true rfl) (Nat.le_refl _) (by show 0 + len + 0 ≤ len; omega) (g := (mkF m 9 #[.val (.ref b), .val (.int (Int32.ofNat o)), .val (.int (Int32.ofNat len)), .val (.ref s.heap.size), .unset, .unset] [.int (Int32.ofNat len), .int (Int32.ofNat 0), .ref s.heap.size, .int (Int32.ofNat o), .ref b])) rfl (by rw [hml]; rfl) c5 (argsL := [.ref b, .int (Int32.ofNat o), .ref s.heap.size, .int (Int32.ofNat 0), .int (Int32.ofNat len)]) (rest := []) rfl rfl (by show 2 * 0 + 0 ≤ _; decide) (hb hbytes d9) (⟨rfl, hA3, ba3, hne, l1, by rw [bs3]; simp, hp⟩)
  obtain ⟨rfl, B6, p6, f6⟩ := E6
  have c7 : Steps p.tables e below (s₁.setTop (entryFrame m #[.ref b, .int (Int32.ofNat o), .int (Int32.ofNat len)] 6)) (T6.setTop (mkF m 12 #[.val (.ref b), .val (.int (Int32.ofNat o)), .val (.int (Int32.ofNat len)), .val (.ref s.heap.size), .unset, .unset] [.int (Int32.ofNat len)])) := g6
  have c8 : Steps p.tables e below (s₁.setTop (entryFrame m #[.ref b, .int (Int32.ofNat o), .int (Int32.ofNat len)] 6)) (T6.setTop (mkF m 58 #[.val (.ref b), .val (.int (Int32.ofNat o)), .val (.int (Int32.ofNat len)), .val (.ref s.heap.size), .val (.int (Int32.ofNat len)), .unset] [.ref s.heap.size])) := c7.trans (by
    refine XS.istore X6.here hexec rfl (hb hbytes d12) rfl rfl ?_
    refine XS.iload X6.here hexec rfl (hb hbytes d14) rfl ?_
    refine XS.iloadN X6.here hexec rfl (hb hbytes d16) rfl ?_
    refine XS.icmpYes X6.here hexec rfl (pc0 := 17) rfl (hb hbytes d17) rfl (ii_eq_t rfl) (by decide) rfl ?_
    refine XS.aloadN X6.here hexec rfl (hb hbytes d57) rfl rfl ?_
    exact Steps.refl _)
  have X8 := X6.wide (L' := []) (cells' := 1) (slots' := len) (fun x hx hlt => by
    simp only [List.nil_append, copyLocs, List.mem_map, List.mem_range] at hx
    obtain ⟨i, -, rfl⟩ := hx
    exact absurd hlt (Nat.lt_irrefl _)) (Nat.le_refl _) (by omega)
  exact ⟨T6, some (.ref s.heap.size), _, _, _, X8, rfl, rfl, rfl, (fun h => by cases h), ⟨⟨rfl, B6, ba3.like (X3.warmed.alike.symm.trans X6.warmed.alike) p6.1 f6.1 f6.2.1 f6.2.2.1, f6.2.1.trans bv3, by rw [X6.warmed.alike.findClass, f6.1]; exact bf3, by rw [f6.2.2.1, bs3]; simp, fun j hj => by rw [f6.2.2.2 j, if_pos (by omega)]; rfl, kp3.put p6 (Nat.le_refl _)⟩, by rw [p6.2.2, bh3, hh0]; simp⟩, fun fs hl => c8.trans (X8.areturnOut hexec rfl hret rfl (hb hbytes d58) hl)⟩
end Cmp3
namespace CodL
def yN : MethodName := ⟨"java/lang/StringUTF16", "coderFromArrayLen", "([BI)B"⟩
abbrev yB : ByteArray := jdk_52_method_15_code
theorem d0 : decode yB 0 = .ok (.iload_n 1, 1) := by decide +kernel
theorem d1 : decode yB 1 = .ok (.aload_n 0, 1) := by decide +kernel
theorem d2 : decode yB 2 = .ok (.arraylength, 1) := by decide +kernel
theorem d3 : decode yB 3 = .ok (.isub, 1) := by decide +kernel
theorem d4 : decode yB 4 = .ok (.bipush 31, 2) := by decide +kernel
theorem d6 : decode yB 6 = .ok (.iushr, 1) := by decide +kernel
theorem d7 : decode yB 7 = .ok (.i2b, 1) := by decide +kernel
theorem d8 : decode yB 8 = .ok (.ireturn, 1) := by decide +kernel
def site : List Cond := []
def tab : Cond := tabOf yN yB 2 (some .byte) site
def P (d : Addr) (B : Cell) (args : Array Value) (s : State) : Prop := args = #[.ref d, .int (Int32.ofNat B.slots.size)] ∧ Arr .byte d B s
def E (r : Option Value) (s u : State) : Prop := XT.PureE (some (.int 0)) r s u
/-- an array as long as the number of chars: LATIN1 -/
theorem law (l : Launch) (d : Addr) (B : Cell) : Law l yN 2 2 0 0 yB 2 (some .byte) site (P d B) E [] 0 0 := by
  refine Law.of_walk (plainFor_of_name (by decide +kernel)) (by decide +kernel) (by decide +kernel) (by decide) (fun _ _ h => by rw [h.1]; rfl) (fun _ U U' hal hh h => ⟨h.1, h.2.mv hal hh⟩) (fun r U U' V V' h1 hal h2 h => XT.PureE.mv r U U' V V' h1 hal h2 h) ?_
  intro p e s m args below meth c s₁ X0 hexec hbytes hml hret hlk hnm hown hh0 W hP
  obtain ⟨rfl, hB⟩ := hP
  have hB0 := hB.mv X0.warmed.alike hh0
  have c1 : Steps p.tables e below (s₁.setTop (entryFrame m #[.ref d, .int (Int32.ofNat B.slots.size)] 2)) (s₁.setTop (mkF m 0 #[.val (.ref d), .val (.int (Int32.ofNat B.slots.size))] [])) := entry rfl
  have c2 : Steps p.tables e below (s₁.setTop (entryFrame m #[.ref d, .int (Int32.ofNat B.slots.size)] 2)) (s₁.setTop (mkF m 2 #[.val (.ref d), .val (.int (Int32.ofNat B.slots.size))] [.ref d, .int (Int32.ofNat B.slots.size)])) := c1.trans (by
    refine XS.iloadN X0.here hexec rfl (hb hbytes d0) rfl ?_
    refine XS.aloadN X0.here hexec rfl (hb hbytes d1) rfl rfl ?_
    exact Steps.refl _)
  have c3 : Steps p.tables e below (s₁.setTop (entryFrame m #[.ref d, .int (Int32.ofNat B.slots.size)] 2)) (s₁.setTop (mkF m 8 #[.val (.ref d), .val (.int (Int32.ofNat B.slots.size))] [.int (lo8 (ushr (Int32.ofNat B.slots.size - Int32.ofNat B.slots.size) 31))])) := c2.trans (by
    refine X0.alen hexec hB0 rfl rfl (hb hbytes d2) ?_
    refine XS.isub X0.here hexec rfl (hb hbytes d3) rfl ?_
    refine bipushV X0.here hexec rfl 31 (hb hbytes d4) (by decide) ?_
    refine iushr X0.here hexec rfl (hb hbytes d6) rfl ?_
    refine i2b X0.here hexec rfl (hb hbytes d7) rfl ?_
    exact Steps.refl _)
  have e0 : lo8 (ushr (Int32.ofNat B.slots.size - Int32.ofNat B.slots.size) 31) = 0 := by rw [Int32.sub_self]; decide
  rw [e0] at c3
  exact ⟨s₁, some (.int 0), _, _, _, X0, rfl, rfl, rfl, (fun h => by cases h), ⟨rfl, hh0⟩, fun fs hl => c3.trans (X0.ireturnOut hexec hret rfl (Or.inr (Or.inr (Or.inl rfl))) (hb hbytes d8) hl)⟩
end CodL
/-- the String at a is Latin-1 over a new byte[] (the heap's one new cell): the low bytes of the len chars of A from o on; every cell but a is kept -/
def Got (a : Addr) (D : Cell) (fV fC : Field) (A : Cell) (o len : Nat) (r : Option Value) (s u : State) : Prop := r = none ∧ ∃ D' V : Cell, Blank "java/lang/String" a D' u ∧ Same D D' [fV.slot, fC.slot] ∧ D'.slots[fV.slot]? = some (.ref s.heap.size) ∧ D'.slots[fC.slot]? = some (.int 0) ∧ Arr .byte s.heap.size V u ∧ V.vm = .none ∧ u.vm.findClass "[B" = some V.cls ∧ V.slots.size = len ∧ (∀ j, j < len → V.slots[j]? = some (.int (lo8 (cv A (o + j))))) ∧ (∀ (y : Addr) (c : Cell), y ≠ a → s.heap[y]? = some c → u.heap[y]? = some c) ∧ u.heap.size = s.heap.size + 1
theorem Got.mv {a : Addr} {D A : Cell} {fV fC : Field} {o len : Nat} : ∀ r (U U' V V' : State), U'.heap = U.heap → V.vm.Alike V'.vm → V'.heap = V.heap → Got a D fV fC A o len r U V → Got a D fV fC A o len r U' V' :=
  fun r U U' V V' h1 hal h2 ⟨e0, D', X, a1, a2, a3, a4, a5, a6, a7, a8, a9, a10, a11⟩ => ⟨e0, D', X, a1.mv hal h2, a2, by rw [h1]; exact a3, a4, by rw [h1]; exact a5.mv hal h2, a6, by rw [hal.findClass]; exact a7, a8, a9, by rw [h1, h2]; exact a10, by rw [h1, h2]; exact a11⟩
namespace New4
def yN : MethodName := ⟨"java/lang/String", "<init>", "([CIILjava/lang/Void;)V"⟩
abbrev yB : ByteArray := jdk_42_method_149_code
theorem d0 : decode yB 0 = .ok (.aload_n 0, 1) := by decide +kernel
theorem d1 : decode yB 1 = .ok (.invokespecial 1, 3) := by decide +kernel
theorem d4 : decode yB 4 = .ok (.iload_n 3, 1) := by decide +kernel
theorem d5 : decode yB 5 = .ok (.ifCond (.ne) 22, 3) := by decide +kernel
theorem d27 : decode yB 27 = .ok (.getstatic 38, 3) := by decide +kernel
theorem d30 : decode yB 30 = .ok (.ifCond (.eq) 28, 3) := by decide +kernel
theorem d33 : decode yB 33 = .ok (.aload_n 1, 1) := by decide +kernel
theorem d34 : decode yB 34 = .ok (.iload_n 2, 1) := by decide +kernel
theorem d35 : decode yB 35 = .ok (.iload_n 3, 1) := by decide +kernel
theorem d36 : decode yB 36 = .ok (.invokestatic 177, 3) := by decide +kernel
theorem d39 : decode yB 39 = .ok (.astore 5, 2) := by decide +kernel
theorem d41 : decode yB 41 = .ok (.aload_n 0, 1) := by decide +kernel
theorem d42 : decode yB 42 = .ok (.aload 5, 2) := by decide +kernel
theorem d44 : decode yB 44 = .ok (.iload_n 3, 1) := by decide +kernel
theorem d45 : decode yB 45 = .ok (.invokestatic 47, 3) := by decide +kernel
theorem d48 : decode yB 48 = .ok (.putfield 15, 3) := by decide +kernel
theorem d51 : decode yB 51 = .ok (.aload_n 0, 1) := by decide +kernel
theorem d52 : decode yB 52 = .ok (.aload 5, 2) := by decide +kernel
theorem d54 : decode yB 54 = .ok (.putfield 9, 3) := by decide +kernel
theorem d57 : decode yB 57 = .ok (.return_, 1) := by decide +kernel
def site : List Cond := [.fieldLink "java/lang/String" 38 "java/lang/String" "COMPACT_STRINGS" "Z", Cmp3.tab, CodL.tab, .laysFinal "java/lang/String" "java/lang/String" "value" "[B", .fieldLink "java/lang/String" 9 "java/lang/String" "value" "[B", .laysFinal "java/lang/String" "java/lang/String" "coder" "B", .fieldLink "java/lang/String" 15 "java/lang/String" "coder" "B"] ++ objW "java/lang/String" 1 ++ staticW "java/lang/String" 177 Cmp3.yN ++ staticW "java/lang/String" 47 CodL.yN
def tab : Cond := tabOf yN yB 6 none site
def P (a : Addr) (D : Cell) (fV fC : Field) (b : Addr) (A : Cell) (z : Int32) (o len : Nat) (args : Array Value) (s : State) : Prop := args = #[.ref a, .ref b, .int (Int32.ofNat o), .int (Int32.ofNat len), .null] ∧ Blank "java/lang/String" a D s ∧ Found "java/lang/String" "value" "[B" fV s ∧ Found "java/lang/String" "coder" "B" fC s ∧ Ch b A s ∧ StaticIs s "java/lang/String" "COMPACT_STRINGS" "Z" (.int z) ∧ ¬ z = 0 ∧ 0 < len ∧ o + len ≤ A.slots.size ∧ len ≤ 536870912 ∧ ∀ i, i < len → ¬ 255 < cv A (o + i)
def E (a : Addr) (D : Cell) (fV fC : Field) (A : Cell) (o len : Nat) (r : Option Value) (s u : State) : Prop := Got a D fV fC A o len r s u
/-- len > 0, no char of the range above 255: a Latin-1 String of their low bytes -/
theorem law (l : Launch) (a : Addr) (D : Cell) (fV fC : Field) (b : Addr) (A : Cell) (z : Int32) (o len : Nat) : Law l yN 5 4 2 35 yB 6 none site (P a D fV fC b A z o len) (E a D fV fC A o len) [⟨a, fC.slot⟩, ⟨a, fV.slot⟩] 1 len := by
  refine Law.of_walk (plainFor_of_name (by decide +kernel)) (by decide +kernel) (by decide +kernel) (by decide) (fun _ _ h => by rw [h.1]; rfl) (fun _ U U' hal hh h => ⟨h.1, h.2.1.mv hal hh, h.2.2.1.al hal, h.2.2.2.1.al hal, h.2.2.2.2.1.mv hal hh, h.2.2.2.2.2.1.there hal hh, h.2.2.2.2.2.2⟩) (fun r U U' V V' h1 hal h2 h => Got.mv r U U' V V' h1 hal h2 h) ?_
  intro p e s m args below meth c s₁ X0 hexec hbytes hml hret hlk hnm hown hh0 W hP
  obtain ⟨rfl, hB, f1, f2, hA, s1, hz, l0, l1, l2, hp⟩ := hP
  have a31 := hA.1.2.2.2
  have c1 : Steps p.tables e below (s₁.setTop (entryFrame m #[.ref a, .ref b, .int (Int32.ofNat o), .int (Int32.ofNat len), .null] 6)) (s₁.setTop (mkF m 0 #[.val (.ref a), .val (.ref b), .val (.int (Int32.ofNat o)), .val (.int (Int32.ofNat len)), .val .null, .unset] [])) := entry rfl
  have c2 : Steps p.tables e below (s₁.setTop (entryFrame m #[.ref a, .ref b, .int (Int32.ofNat o), .int (Int32.ofNat len), .null] 6)) (s₁.setTop (mkF m 1 #[.val (.ref a), .val (.ref b), .val (.int (Int32.ofNat o)), .val (.int (Int32.ofNat len)), .val .null, .unset] [.ref a])) := c1.trans (by
    refine XS.aloadN X0.here hexec rfl (hb hbytes d0) rfl rfl ?_
    exact Steps.refl _)
  obtain ⟨T3, X3, q3, st3⟩ := X0.oinit hexec hown (wks W (objW "java/lang/String" 1)) (g := (mkF m 1 #[.val (.ref a), .val (.ref b), .val (.int (Int32.ofNat o)), .val (.int (Int32.ofNat len)), .val .null, .unset] [.ref a])) rfl (by rw [hml]; rfl) (rest := []) rfl (hb hbytes d1) (W := 0) (by show 2 * 0 + 0 ≤ _; decide) (Nat.le_of_ble_eq_true rfl) (Nat.le_of_ble_eq_true rfl)
  have hh3 := q3.trans hh0
  have c4 : Steps p.tables e below (s₁.setTop (entryFrame m #[.ref a, .ref b, .int (Int32.ofNat o), .int (Int32.ofNat len), .null] 6)) (T3.setTop (mkF m 27 #[.val (.ref a), .val (.ref b), .val (.int (Int32.ofNat o)), .val (.int (Int32.ofNat len)), .val .null, .unset] [])) := (c2.trans (st3 _ (Steps.refl _))).trans (by
    refine XS.iloadN X3.here hexec rfl (hb hbytes d4) rfl ?_
    refine XS.ifYes X3.here hexec rfl (pc0 := 5) rfl (hb hbytes d5) rfl (i0_ne_t (nz32 (by omega) l0)) (by decide) rfl ?_
    exact Steps.refl _)
  obtain ⟨T5, X5, q5, st5⟩ := X3.sget hexec hown (wk W (.fieldLink "java/lang/String" 38 "java/lang/String" "COMPACT_STRINGS" "Z")) s1 (fun _ _ h => by rw [hh3]; exact h) (g := (mkF m 27 #[.val (.ref a), .val (.ref b), .val (.int (Int32.ofNat o)), .val (.int (Int32.ofNat len)), .val .null, .unset] [])) rfl (hb hbytes d27)
  have hh5 := q5.trans hh3
  have c6 : Steps p.tables e below (s₁.setTop (entryFrame m #[.ref a, .ref b, .int (Int32.ofNat o), .int (Int32.ofNat len), .null] 6)) (T5.setTop (mkF m 30 #[.val (.ref a), .val (.ref b), .val (.int (Int32.ofNat o)), .val (.int (Int32.ofNat len)), .val .null, .unset] [.int z])) := c4.trans (st5 _ (Steps.refl _))
  have c7 : Steps p.tables e below (s₁.setTop (entryFrame m #[.ref a, .ref b, .int (Int32.ofNat o), .int (Int32.ofNat len), .null] 6)) (T5.setTop (mkF m 36 #[.val (.ref a), .val (.ref b), .val (.int (Int32.ofNat o)), .val (.int (Int32.ofNat len)), .val .null, .unset] [.int (Int32.ofNat len), .int (Int32.ofNat o), .ref b])) := c6.trans (by
    refine XS.ifNo X5.here hexec rfl (hb hbytes d30) rfl (i0_eq_f hz) ?_
    refine XS.aloadN X5.here hexec rfl (hb hbytes d33) rfl rfl ?_
    refine XS.iloadN X5.here hexec rfl (hb hbytes d34) rfl ?_
    refine XS.iloadN X5.here hexec rfl (hb hbytes d35) rfl ?_
    exact Steps.refl _)
  obtain ⟨v8, T8, X8, E8, g8⟩ := X5.callS hexec (Cmp3.law l b A o len) hown (wks W (staticW "java/lang/String" 177 Cmp3.yN)) (wk W Cmp3.tab) (W := 0) (Nat.le_of_ble_eq_true rfl) (Nat.le_of_ble_eq_true rfl) (Nat.le_refl _) (by show 0 + len ≤ len; omega) (g := (mkF m 36 #[.val (.ref a), .val (.ref b), .val (.int (Int32.ofNat o)), .val (.int (Int32.ofNat len)), .val .null, .unset] [.int (Int32.ofNat len), .int (Int32.ofNat o), .ref b])) rfl (by rw [hml]; rfl) c7 (argsL := [.ref b, .int (Int32.ofNat o), .int (Int32.ofNat len)]) (rest := []) rfl rfl (by show 2 * 0 + 0 ≤ _; decide) (hb hbytes d36) (⟨rfl, hA.mv X5.warmed.alike hh5, l1, l2, hp⟩)
  obtain ⟨e8, z8⟩ := E8
  obtain ⟨rfl, N, n1, n2, n3, n4, n5, n6⟩ := NewArr.mv _ T5 s _ _ hh5.symm (Vm.Alike.refl _) rfl e8
  rw [hh5] at z8
  have hB1 := hB.keep X8.warmed.alike (n6 _ _ hB.1)
  have hne : s.heap.size ≠ a := (Nat.ne_of_lt (Array.getElem?_eq_some_iff.mp hB.1).1).symm
  have c9 : Steps p.tables e below (s₁.setTop (entryFrame m #[.ref a, .ref b, .int (Int32.ofNat o), .int (Int32.ofNat len), .null] 6)) (T8.setTop (mkF m 39 #[.val (.ref a), .val (.ref b), .val (.int (Int32.ofNat o)), .val (.int (Int32.ofNat len)), .val .null, .unset] [.ref s.heap.size])) := g8
  have c10 : Steps p.tables e below (s₁.setTop (entryFrame m #[.ref a, .ref b, .int (Int32.ofNat o), .int (Int32.ofNat len), .null] 6)) (T8.setTop (mkF m 45 #[.val (.ref a), .val (.ref b), .val (.int (Int32.ofNat o)), .val (.int (Int32.ofNat len)), .val .null, .val (.ref s.heap.size)] [.int (Int32.ofNat N.slots.size), .ref s.heap.size, .ref a])) := by
    have hc : Steps p.tables e below (s₁.setTop (entryFrame m #[.ref a, .ref b, .int (Int32.ofNat o), .int (Int32.ofNat len), .null] 6)) (T8.setTop (mkF m 45 #[.val (.ref a), .val (.ref b), .val (.int (Int32.ofNat o)), .val (.int (Int32.ofNat len)), .val .null, .val (.ref s.heap.size)] [.int (Int32.ofNat len), .ref s.heap.size, .ref a])) := c9.trans (by
      refine XS.astore X8.here hexec rfl (hb hbytes d39) rfl rfl rfl ?_
      refine XS.aloadN X8.here hexec rfl (hb hbytes d41) rfl rfl ?_
      refine XS.aload X8.here hexec rfl (hb hbytes d42) rfl rfl ?_
      refine XS.iloadN X8.here hexec rfl (hb hbytes d44) rfl ?_
      exact Steps.refl _)
    rw [n4]; exact hc
  obtain ⟨v11, T11, X11, E11, g11⟩ := X8.callS hexec (CodL.law l s.heap.size N) hown (wks W (staticW "java/lang/String" 47 CodL.yN)) (wk W CodL.tab) (W := 1) (Nat.le_of_ble_eq_true rfl) (Nat.le_of_ble_eq_true rfl) (Nat.le_refl _) (by show 0 + len + 0 ≤ len; omega) (g := (mkF m 45 #[.val (.ref a), .val (.ref b), .val (.int (Int32.ofNat o)), .val (.int (Int32.ofNat len)), .val .null, .val (.ref s.heap.size)] [.int (Int32.ofNat N.slots.size), .ref s.heap.size, .ref a])) rfl (by rw [hml]; rfl) c10 (argsL := [.ref s.heap.size, .int (Int32.ofNat N.slots.size)]) (rest := [.ref a]) rfl rfl (by show 2 * 0 + (1 + 0) ≤ _; decide) (hb hbytes d45) (⟨rfl, n1⟩)
  obtain ⟨rfl, q11⟩ := E11
  have hB11 := hB1.mv (X8.warmed.alike.symm.trans X11.warmed.alike) q11
  have c12 : Steps p.tables e below (s₁.setTop (entryFrame m #[.ref a, .ref b, .int (Int32.ofNat o), .int (Int32.ofNat len), .null] 6)) (T11.setTop (mkF m 48 #[.val (.ref a), .val (.ref b), .val (.int (Int32.ofNat o)), .val (.int (Int32.ofNat len)), .val .null, .val (.ref s.heap.size)] [.int 0, .ref a])) := g11
  obtain ⟨T13, X13, p13, bl13, sl13, st13⟩ := X11.finit hexec hown (wk W (.fieldLink "java/lang/String" 15 "java/lang/String" "coder" "B")) (Or.inr ⟨_, (wk W (.laysFinal "java/lang/String" "java/lang/String" "coder" "B"))⟩) (Or.inl ⟨rfl, hnm⟩) f2 (Or.inl rfl) hB11 (t := .byte) (by decide +kernel) rfl (g := (mkF m 48 #[.val (.ref a), .val (.ref b), .val (.int (Int32.ofNat o)), .val (.int (Int32.ofNat len)), .val .null, .val (.ref s.heap.size)] [.int 0, .ref a])) rfl (rest := []) rfl (hb hbytes d48)
  have c14 : Steps p.tables e below (s₁.setTop (entryFrame m #[.ref a, .ref b, .int (Int32.ofNat o), .int (Int32.ofNat len), .null] 6)) (T13.setTop (mkF m 54 #[.val (.ref a), .val (.ref b), .val (.int (Int32.ofNat o)), .val (.int (Int32.ofNat len)), .val .null, .val (.ref s.heap.size)] [.ref s.heap.size, .ref a])) := (c12.trans (st13 _ (Steps.refl _))).trans (by
    refine XS.aloadN X13.here hexec rfl (hb hbytes d51) rfl rfl ?_
    refine XS.aload X13.here hexec rfl (hb hbytes d52) rfl rfl ?_
    exact Steps.refl _)
  obtain ⟨T15, X15, p15, bl15, sl15, st15⟩ := X13.finit hexec hown (wk W (.fieldLink "java/lang/String" 9 "java/lang/String" "value" "[B")) (Or.inr ⟨_, (wk W (.laysFinal "java/lang/String" "java/lang/String" "value" "[B"))⟩) (Or.inl ⟨rfl, hnm⟩) f1 (Or.inl rfl) bl13 (t := (.array .byte)) (by decide +kernel) rfl (g := (mkF m 54 #[.val (.ref a), .val (.ref b), .val (.int (Int32.ofNat o)), .val (.int (Int32.ofNat len)), .val .null, .val (.ref s.heap.size)] [.ref s.heap.size, .ref a])) rfl (rest := []) rfl (hb hbytes d54)
  have c16 : Steps p.tables e below (s₁.setTop (entryFrame m #[.ref a, .ref b, .int (Int32.ofNat o), .int (Int32.ofNat len), .null] 6)) (T15.setTop (mkF m 57 #[.val (.ref a), .val (.ref b), .val (.int (Int32.ofNat o)), .val (.int (Int32.ofNat len)), .val .null, .val (.ref s.heap.size)] [])) := c14.trans (st15 _ (Steps.refl _))
  have ap := apart (Or.inr ⟨_, (wk W (.laysFinal "java/lang/String" "java/lang/String" "value" "[B"))⟩) (Or.inr ⟨_, (wk W (.laysFinal "java/lang/String" "java/lang/String" "coder" "B"))⟩) f1 f2 (t₁ := .array .byte) (t₂ := .byte) (by decide +kernel) (by decide +kernel) (by decide)
  have al := X8.warmed.alike.symm.trans X15.warmed.alike
  have n7 : T11.heap[s.heap.size]? = some N := by rw [q11]; exact n1.1
  exact ⟨T15, none, _, _, _, X15, by simp, rfl, by omega, (fun _ => rfl), ⟨rfl, _, N, bl15, ((Same.refl D _).set _ (by simp)).set _ (by simp), sl15, (Cell.slots_setSlot_ne _ ap).trans sl13, n1.keep al (p15.other hne (p13.other hne n7)), n2, by rw [al.findClass]; exact n3, n4, n5, fun y c h1 h2 => p15.other h1 (p13.other h1 (by rw [q11]; exact n6 y c h2)), by rw [p15.2.2, p13.2.2, q11]; exact z8⟩, fun fs hl => c16.trans (X15.returnOut hexec hret (hb hbytes d57) hl)⟩
end New4
namespace New1
def yN : MethodName := ⟨"java/lang/String", "<init>", "([C)V"⟩
abbrev yB : ByteArray := jdk_42_method_3_code
theorem d0 : decode yB 0 = .ok (.aload_n 0, 1) := by decide +kernel
theorem d1 : decode yB 1 = .ok (.aload_n 1, 1) := by decide +kernel
theorem d2 : decode yB 2 = .ok (.iconst 0, 1) := by decide +kernel
theorem d3 : decode yB 3 = .ok (.aload_n 1, 1) := by decide +kernel
theorem d4 : decode yB 4 = .ok (.arraylength, 1) := by decide +kernel
theorem d5 : decode yB 5 = .ok (.aconst_null, 1) := by decide +kernel
theorem d6 : decode yB 6 = .ok (.invokespecial 27, 3) := by decide +kernel
theorem d9 : decode yB 9 = .ok (.return_, 1) := by decide +kernel
def site : List Cond := [New4.tab] ++ initW "java/lang/String" 27 New4.yN
def tab : Cond := tabOf yN yB 2 none site
def P (a : Addr) (D : Cell) (fV fC : Field) (b : Addr) (A : Cell) (z : Int32) (args : Array Value) (s : State) : Prop := args = #[.ref a, .ref b] ∧ Blank "java/lang/String" a D s ∧ Found "java/lang/String" "value" "[B" fV s ∧ Found "java/lang/String" "coder" "B" fC s ∧ Ch b A s ∧ StaticIs s "java/lang/String" "COMPACT_STRINGS" "Z" (.int z) ∧ ¬ z = 0 ∧ 0 < A.slots.size ∧ A.slots.size ≤ 536870912 ∧ ∀ i, i < A.slots.size → ¬ 255 < cv A i
def E (a : Addr) (D : Cell) (fV fC : Field) (A : Cell) (r : Option Value) (s u : State) : Prop := Got a D fV fC A 0 A.slots.size r s u
/-- new String(chars), not empty, no char above 255: a Latin-1 String of their low bytes -/
theorem law (l : Launch) (a : Addr) (D : Cell) (fV fC : Field) (b : Addr) (A : Cell) (z : Int32) : Law l yN 2 1 3 52 yB 2 none site (P a D fV fC b A z) (E a D fV fC A) [⟨a, fC.slot⟩, ⟨a, fV.slot⟩] 1 A.slots.size := by
  refine Law.of_walk (plainFor_of_name (by decide +kernel)) (by decide +kernel) (by decide +kernel) (by decide) (fun _ _ h => by rw [h.1]; rfl) (fun _ U U' hal hh h => ⟨h.1, h.2.1.mv hal hh, h.2.2.1.al hal, h.2.2.2.1.al hal, h.2.2.2.2.1.mv hal hh, h.2.2.2.2.2.1.there hal hh, h.2.2.2.2.2.2⟩) (fun r U U' V V' h1 hal h2 h => Got.mv r U U' V V' h1 hal h2 h) ?_
  intro p e s m args below meth c s₁ X0 hexec hbytes hml hret hlk hnm hown hh0 W hP
  obtain ⟨rfl, hB, f1, f2, hA, s1, hz, l0, l2, hp⟩ := hP
  have c1 : Steps p.tables e below (s₁.setTop (entryFrame m #[.ref a, .ref b] 2)) (s₁.setTop (mkF m 0 #[.val (.ref a), .val (.ref b)] [])) := entry rfl
  have c2 : Steps p.tables e below (s₁.setTop (entryFrame m #[.ref a, .ref b] 2)) (s₁.setTop (mkF m 6 #[.val (.ref a), .val (.ref b)] [.null, .int (Int32.ofNat A.slots.size), .int 0, .ref b, .ref a])) := c1.trans (by
    refine XS.aloadN X0.here hexec rfl (hb hbytes d0) rfl rfl ?_
    refine XS.aloadN X0.here hexec rfl (hb hbytes d1) rfl rfl ?_
    refine iconstV X0.here hexec rfl 0 (hb hbytes d2) (by decide) ?_
    refine XS.aloadN X0.here hexec rfl (hb hbytes d3) rfl rfl ?_
    refine X0.alen hexec (hA.1.mv X0.warmed.alike hh0) rfl rfl (hb hbytes d4) ?_
    refine XS.aconstNull X0.here hexec rfl (hb hbytes d5) ?_
    exact Steps.refl _)
  obtain ⟨v3, T3, X3, E3, g3⟩ := X0.callN hexec (New4.law l a D fV fC b A z 0 A.slots.size) rfl hown (wks W (initW "java/lang/String" 27 New4.yN)) (W New4.tab (by simp only [site, List.mem_cons, List.mem_append, true_or, or_true])) (W := 0) (Nat.le_of_ble_eq_true rfl) (Nat.le_of_ble_eq_true rfl) (Nat.le_refl _) (by show 0 + A.slots.size ≤ A.slots.size; omega) (g := (mkF m 6 #[.val (.ref a), .val (.ref b)] [.null, .int (Int32.ofNat A.slots.size), .int (Int32.ofNat 0), .ref b, .ref a])) rfl (by rw [hml]; rfl) c2 (argsL := [.ref b, .int (Int32.ofNat 0), .int (Int32.ofNat A.slots.size), .null]) (rest := []) rfl rfl (by show 2 * 0 + 0 ≤ _; decide) (hb hbytes d6) (⟨rfl, hB.mv X0.warmed.alike hh0, f1.al X0.warmed.alike, f2.al X0.warmed.alike, hA.mv X0.warmed.alike hh0, s1.there X0.warmed.alike hh0, hz, l0, by omega, l2, fun i hi => by rw [Nat.zero_add]; exact hp i hi⟩)
  have e0 := Got.mv _ s₁ s _ _ hh0.symm (Vm.Alike.refl _) rfl E3
  obtain rfl := e0.1
  have c4 : Steps p.tables e below (s₁.setTop (entryFrame m #[.ref a, .ref b] 2)) (T3.setTop (mkF m 9 #[.val (.ref a), .val (.ref b)] [])) := g3
  exact ⟨T3, none, _, _, _, X3, by simp, rfl, by omega, (fun _ => rfl), e0, fun fs hl => c4.trans (X3.returnOut hexec hret (hb hbytes d9) hl)⟩
theorem pays {l : Launch} {R : Room} {p : Program} {e : Env} {below : List Frame} {s : State} {sargs : Array Value} {len W : Nat} (a : Addr) (D : Cell) (fV fC : Field) (b : Addr) (A : Cell) (z : Int32) (htab : tab.before sargs s = true) (hfr : 4 ≤ R.frames) (hlo : W + 65 ≤ R.locals) :
    Back l R p e below s sargs yN len W (fun A₁ a₁ => A₁.cells + 1 ≤ R.cells ∧ A₁.slots + A.slots.size ≤ R.slots ∧ P a D fV fC b A z a₁ A₁.U) (fun A₁ _ v₁ B₁ => E a D fV fC A v₁ A₁.U B₁.U ∧ B₁.locs = A₁.locs ++ [⟨a, fC.slot⟩, ⟨a, fV.slot⟩] ∧ B₁.cells = A₁.cells + 1 ∧ B₁.slots = A₁.slots + A.slots.size) :=
  (law l a D fV fC b A z).pays htab hfr (by omega)
end New1
/-- the byte, read back as charAt reads it, is the char -/
theorem lo8_mask {x : Int32} (h0 : ¬ x < 0) (h1 : ¬ 255 < x) : lo8 x &&& 255 = x := by
  have t : ∀ k : Fin 256, lo8 (Int32.ofNat k.val) &&& 255 = Int32.ofNat k.val := by decide +kernel
  rw [Int32.lt_iff_toInt_lt] at h0 h1
  have e0 : (0 : Int32).toInt = 0 := rfl
  have e1 : (255 : Int32).toInt = 255 := rfl
  obtain ⟨k, hk⟩ : ∃ k : Nat, x.toInt = k := ⟨x.toInt.toNat, by omega⟩
  have hx : x = Int32.ofNat k := Int32.toInt_inj.mp (by rw [hk, Int32.toInt_ofNat_small (by omega)])
  rw [hx]
  exact t ⟨k, by omega⟩
end StrChars
namespace StrChars.Road
open Jvm Sem ClassFile Op Lib Jvm.Stand Jvm.Free Jvm.Free.XT
open Jvm.Lib.Cold (StaticIs)
abbrev ST : String := "java/lang/String"
/-- every table word that New1's law asks, flat -/
abbrev words : List Jvm.Cond := [.code New1.yN New1.yB 2 none, .initialized ST, .methodLink ST 27 New4.yN, .instanceMethod New4.yN,
  .code New4.yN New4.yB 6 none, .fieldLink ST 38 ST "COMPACT_STRINGS" "Z", .laysFinal ST ST "value" "[B", .fieldLink ST 9 ST "value" "[B", .laysFinal ST ST "coder" "B", .fieldLink ST 15 ST "coder" "B",
  .methodLink ST 1 Lib.objectInit, .instanceMethod Lib.objectInit, .code Lib.objectInit ⟨#[0xb1]⟩ 1 none, .methodLink ST 177 Cmp3.yN, .static Cmp3.yN, .methodLink ST 47 CodL.yN, .static CodL.yN,
  .code Cmp3.yN Cmp3.yB 6 (some (.array .byte)), .initialized U16, .arrayClass .byte, .methodLink U16 115 Cmp5.yN, .static Cmp5.yN, .code Cmp5.yN Cmp5.yB 7 (some .int), .code CodL.yN CodL.yB 2 (some .byte)]
theorem tab_of {a : Array Value} {s : State} (h : ∀ w ∈ words, w.before a s = true) : New1.tab.before a s = true := by
  have h5 : Cmp5.tab.before a s = true := unparts (wk h (.code Cmp5.yN Cmp5.yB 7 (some .int))) (wks h (.initialized Cmp5.yN.cls :: Cmp5.site))
  have hc : CodL.tab.before a s = true := unparts (wk h (.code CodL.yN CodL.yB 2 (some .byte))) (wks h (.initialized CodL.yN.cls :: CodL.site))
  have q5 : ∀ w ∈ Cmp5.tab :: words, w.before a s = true := fun w hw => (List.mem_cons.mp hw).elim (fun e => e ▸ h5) (h w)
  have h3 : Cmp3.tab.before a s = true := unparts (wk q5 (.code Cmp3.yN Cmp3.yB 6 (some (.array .byte)))) (wks q5 (.initialized Cmp3.yN.cls :: Cmp3.site))
  have q3 : ∀ w ∈ Cmp3.tab :: CodL.tab :: words, w.before a s = true := fun w hw => (List.mem_cons.mp hw).elim (fun e => e ▸ h3) fun hw => (List.mem_cons.mp hw).elim (fun e => e ▸ hc) (h w)
  have h4 : New4.tab.before a s = true := unparts (wk q3 (.code New4.yN New4.yB 6 none)) (wks q3 (.initialized New4.yN.cls :: New4.site))
  have q4 : ∀ w ∈ New4.tab :: words, w.before a s = true := fun w hw => (List.mem_cons.mp hw).elim (fun e => e ▸ h4) (h w)
  exact unparts (wk q4 (.code New1.yN New1.yB 2 none)) (wks q4 (.initialized New1.yN.cls :: New1.site))
/-- the words ride from the start Z to the walk's own state -/
theorem moved {Z s : State} {a0 args : Array Value} (hZ : Z.Warmed39 s.vm) (hw : ∀ d ∈ words, d.before a0 Z = true) : ∀ d ∈ words, d.before args s = true := fun d hd => by
  have q := hw d hd
  have t : ∀ d ∈ words, d = .arrayClass .byte ∨ (d.onTables && d.keepsFace) = true := by decide +kernel
  rcases t d hd with rfl | t
  · exact RoadKit.mvA hZ q
  · exact RoadKit.mv hZ q t
/-- WHAT COMES BACK, over the tables of the start Z: h the heap at the call, h' behind it -/
def Q (Z : State) (x : Addr) (A : Cell) (h : Heap) (v : Option Value) (h' : Heap) (L : List Loc) : Prop := v = none ∧ (∀ y ∈ L, y.base = x) ∧ RoadKit.Keep h h' [x] ∧ h'.size = h.size + 1 ∧ RoadKit.Exa Z h' x ST ∧ RoadKit.Fld Z h' x ST "value" "[B" (.ref h.size) ∧ RoadKit.Fld Z h' x ST "coder" "B" (.int 0) ∧
  (∃ V : Cell, RoadKit.Arr Z h' h.size V .byte ∧ V.vm = .none ∧ Z.vm.findClass "[B" = some V.cls ∧ V.slots.size = A.slots.size ∧ ∀ j, j < A.slots.size → V.slots[j]? = some (.int (lo8 (cv A j)))) ∧
  ∀ (O n d : String) (w : Value), RoadKit.Fld Z h x O n d w → RoadKit.slotOf Z O n d ≠ RoadKit.slotOf Z ST "value" "[B" → RoadKit.slotOf Z O n d ≠ RoadKit.slotOf Z ST "coder" "B" → RoadKit.Fld Z h' x O n d w
/-- **new String(chars) AT A CALL, IN THE ROAD'S FORM**: for specialBack behind newO: x the fresh String, b the char[] with the cell A -/
theorem back {p : Program} {l : Launch} {e : Env} {R : Room} {s : State} {args : Array Value} {below : List Frame} {len W : Nat} {Z : State} {a0 : Array Value} {h : Heap} (hZ : Z.Warmed39 s.vm) (hw : ∀ d ∈ words, d.before a0 Z = true) {kI : Nat} (wi : (Jvm.Cond.instantiable ST kI).before a0 Z = true)
    {x b : Addr} {A : Cell} {z : Int32} {v0 c0 : Value} (E : RoadKit.Exa Z h x ST) (V : RoadKit.Fld Z h x ST "value" "[B" v0) (C : RoadKit.Fld Z h x ST "coder" "B" c0) (K : RoadKit.Arr Z h b A .char) (hty : Typed .char A) (S : RoadKit.Sta Z h ST "COMPACT_STRINGS" "Z" (.int z)) (hz : ¬ z = 0)
    (l0 : 0 < A.slots.size) (l2 : A.slots.size ≤ 536870912) (hp : ∀ i, i < A.slots.size → ¬ 255 < cv A i) (hfr : 4 ≤ R.frames) (hlo : W + 65 ≤ R.locals) :
    Back l R p e below s args New1.yN len W (fun P a => a = #[.ref x, .ref b] ∧ P.U.heap = h ∧ P.cells + 1 ≤ R.cells ∧ P.slots + A.slots.size ≤ R.slots)
      (fun P _ v B => ∃ L, Q Z x A h v B.U.heap L ∧ B.locs = P.locs ++ L ∧ B.cells = P.cells + 1 ∧ B.slots = P.slots + A.slots.size) := by
  intro m meth c P g ig mk a X hg hsize hdg hW hn hp'
  obtain ⟨rfl, rfl, r1, r2⟩ := hp'
  have al : Z.vm.Alike P.U.vm := hZ.alike.trans X.warmed.alike
  obtain ⟨D, cfV, kV, iV, fV, hD, gV, stV, knV, obV, asV, slV⟩ := id V
  obtain ⟨D', cfC, kC, iC, fC, hD', gC, stC, -, -, asC, slC⟩ := id C
  cases hD.symm.trans hD'
  obtain ⟨D2, kD, e1, e2, e3, e4, e5⟩ := id E
  cases hD.symm.trans e1
  obtain ⟨c2, k2, i1, i2, i3, -⟩ := Cond.instantiable_spec wi
  cases e2.symm.trans i1
  cases e3.symm.trans i2
  obtain ⟨kU, u1, u2⟩ := al.2.2 _ _ e3
  have hB : Blank ST x D P.U := ⟨hD, ⟨knV, fun q hq => by rw [hq] at obV; cases obV⟩, by rw [al.findClass]; exact e2, kU, u1, by rw [u2]; exact i3, by rw [u2]; exact e5 i3⟩
  have F1 : Found ST "value" "[B" fV P.U := ⟨SBG.found_only al ⟨cfV, kV, iV, gV⟩, stV⟩
  have F2 : Found ST "coder" "B" fC P.U := ⟨SBG.found_only al ⟨cfC, kC, iC, gC⟩, stC⟩
  have hA : Ch b A P.U := ⟨⟨K.1, State.isArrayOf_alike al K.2.1, K.2.2, by omega⟩, hty⟩
  have hS : StaticIs P.U ST "COMPACT_STRINGS" "Z" (.int z) := by
    obtain ⟨cfS, iS, kS, fS, st, cS, t1, t2, t3, t4, t5, t6, t7⟩ := S
    exact StaticIs.there (s := { Z with heap := P.U.heap }) ⟨cfS, iS, kS, fS, st, cS, t1, t2, t3, t4, t5, (fun q => by rw [q] at t6; cases t6), t7⟩ al rfl
  obtain ⟨v, B, X', ⟨⟨hv, E', V', q1, q2, q3, q4, q5, q6, q7, q8, q9, q10, q11⟩, hl, hc, hs⟩, st⟩ := New1.pays x D fV fC b A z (tab_of (moved hZ hw)) hfr hlo m meth c P g ig mk _ X hg hsize hdg hW hn ⟨r1, r2, rfl, hB, F1, F2, hA, hS, hz, l0, l2, hp⟩
  have al' : Z.vm.Alike B.U.vm := hZ.alike.trans X'.warmed.alike
  have hsz : E'.slots.size = D.slots.size := by
    obtain ⟨-, -, -, kB, w1, w2, w3⟩ := q1
    obtain ⟨kB', y1, y2⟩ := al'.2.2 _ _ e3
    rw [q2.2.1] at w1
    cases w1.symm.trans y1
    rw [w3, e5 i3, y2]
  refine ⟨v, B, X', ⟨_, ⟨hv, ?_, ⟨by omega, fun y cy hy hn' => q10 y cy (by simpa using hn') hy, fun y cy hy => ?_⟩, q11, ⟨E', _, q1.1, by rw [q2.2.1]; exact e2, by rw [q2.2.1]; exact e3, by rw [q2.1]; exact obV, fun _ => by rw [hsz]; exact e5 i3⟩,
    ⟨E', cfV, kV, iV, fV, q1.1, gV, stV, by rw [q2.1]; exact knV, by rw [q2.1]; exact obV, by rw [q2.2.1]; exact asV, q3⟩, ⟨E', cfC, kC, iC, fC, q1.1, gC, stC, by rw [q2.1]; exact knV, by rw [q2.1]; exact obV, by rw [q2.2.1]; exact asC, q4⟩,
    ⟨V', ⟨q5.1, State.isArrayOf_alike al'.symm q5.2.1, q5.2.2.1⟩, q6, by rw [← al'.findClass]; exact q7, q8, fun j hj => by have := q9 j hj; rwa [Nat.zero_add] at this⟩, fun O n d w F n1 n2 => ?_⟩, hl, hc, hs⟩, st⟩
  · intro y hy
    simp only [List.mem_cons, List.not_mem_nil, or_false] at hy
    rcases hy with rfl | rfl <;> rfl
  · by_cases q : y = x
    · subst q
      cases hD.symm.trans hy
      exact ⟨E', q1.1, q2.2.1, q2.1, hsz⟩
    · exact ⟨cy, q10 y cy q hy, rfl, rfl, rfl⟩
  · obtain ⟨D3, cf, k, i, f, g1, g2, g3, g4, g5, g6, g7⟩ := F
    cases hD.symm.trans g1
    simp only [RoadKit.slotOf, g2, gV, gC, Option.map_some, Option.getD_some] at n1 n2
    exact ⟨E', cf, k, i, f, q1.1, g2, g3, by rw [q2.1]; exact g4, by rw [q2.1]; exact g5, by rw [q2.2.1]; exact g6, by rw [q2.2.2 f.slot (by simp [n1, n2])]; exact g7⟩
end StrChars.Road
namespace StrChars.Road
open Jvm Sem ClassFile Op Lib Jvm.Stand Jvm.Free Jvm.Free.XT
/-- WHAT COMES BACK, the byte[] as a list of values -/
def QA (Z : State) (x : Addr) (zn : Int32) (cs : List Int32) (h : Heap) (v : Option Value) (h' : Heap) (L : List Loc) : Prop := v = none ∧ (∀ y ∈ L, y.base = x) ∧ RoadKit.Keep h h' [x] ∧ h'.size = h.size + 1 ∧ RoadKit.Exa Z h' x ST ∧ RoadKit.Fld Z h' x ST "value" "[B" (.ref h.size) ∧ RoadKit.Fld Z h' x ST "coder" "B" (.int 0) ∧
  (∃ kb, Z.vm.findClass "[B" = some kb ∧ RoadKit.Arv Z h' h.size kb .byte zn (cs.map fun c => .int (lo8 c)) (.int 0)) ∧
  ∀ (O n d : String) (w : Value), RoadKit.Fld Z h x O n d w → RoadKit.slotOf Z O n d ≠ RoadKit.slotOf Z ST "value" "[B" → RoadKit.slotOf Z O n d ≠ RoadKit.slotOf Z ST "coder" "B" → RoadKit.Fld Z h' x O n d w
/-- **new String(chars) AT A CALL, THE ARRAYS AS LISTS**: the char[] at b holds cs, not empty, no char above 255 -/
theorem backArv {p : Program} {l : Launch} {e : Env} {R : Room} {s : State} {args : Array Value} {below : List Frame} {len W : Nat} {Z : State} {a0 : Array Value} {h : Heap} (hZ : Z.Warmed39 s.vm) (hw : ∀ d ∈ words, d.before a0 Z = true) {kI : Nat} (wi : (Jvm.Cond.instantiable ST kI).before a0 Z = true)
    {x b : Addr} {k : ClassId} {zn z : Int32} {cs : List Int32} {dv v0 c0 : Value} (E : RoadKit.Exa Z h x ST) (V : RoadKit.Fld Z h x ST "value" "[B" v0) (C : RoadKit.Fld Z h x ST "coder" "B" c0) (K : RoadKit.Arv Z h b k .char zn (cs.map Value.int) dv) (S : RoadKit.Sta Z h ST "COMPACT_STRINGS" "Z" (.int z)) (hz : ¬ z = 0)
    (hlen : zn.toNatClampNeg = cs.length) (h0 : 0 < cs.length) (hbig : cs.length ≤ 536870912) (hall : ∀ c ∈ cs, ¬ 255 < c) (hfr : 4 ≤ R.frames) (hlo : W + 65 ≤ R.locals) :
    Back l R p e below s args New1.yN len W (fun P a => a = #[.ref x, .ref b] ∧ P.U.heap = h ∧ P.cells + 1 ≤ R.cells ∧ P.slots + cs.length ≤ R.slots)
      (fun P _ v B => ∃ L, QA Z x zn cs h v B.U.heap L ∧ B.locs = P.locs ++ L ∧ B.cells = P.cells + 1 ∧ B.slots = P.slots + cs.length) := by
  obtain ⟨A, K1, K2, K3, K4, K5, K6⟩ := K
  have e : A.slots.size = cs.length := K3.trans hlen
  have hat : ∀ (i : Nat) (hi : i < cs.length), A.slots[i]? = some (.int cs[i]) := fun i hi => by rw [K5 i (by omega)]; simp [List.getD_eq_getElem?_getD, hi]
  have hcv : ∀ (i : Nat) (hi : i < cs.length), cv A i = cs[i] := fun i hi => by unfold cv; rw [hat i hi]
  have hty : Typed .char A := fun i v hv => by
    have hi : i < A.slots.size := (Array.getElem?_eq_some_iff.mp hv).1
    have q := K5 i hi
    rw [hv] at q
    rw [Option.some.inj q]
    exact K6 i hi
  refine Back.mono (back hZ hw wi E V C K1 hty S hz (by omega) (by omega) (fun i hi => by rw [hcv i (by omega)]; exact hall _ (List.getElem_mem _)) hfr hlo) (fun P a hp => ⟨hp.1, hp.2.1, hp.2.2.1, by rw [e]; exact hp.2.2.2⟩) (fun P a v B hp hq => ?_)
  obtain ⟨L, ⟨q1, q2, q3, q4, q5, q6, q7, ⟨V', v1, v2, v3, v4, v5⟩, q9⟩, hl, hc, hs⟩ := hq
  refine ⟨L, ⟨q1, q2, q3, q4, q5, q6, q7, ⟨V'.cls, v3, V', v1, rfl, by rw [v4, e, hlen], K4, fun i hi => ?_, fun i hi => ?_⟩, q9⟩, hl, hc, by rw [hs, e]⟩
  · have hi' : i < cs.length := by omega
    rw [v5 i (by omega), hcv i hi']; simp [List.getD_eq_getElem?_getD, hi']
  · have hi' : i < cs.length := by omega
    simp only [List.getD_eq_getElem?_getD, List.getElem?_map, List.getElem?_eq_getElem hi', Option.map_some, Option.getD_some]
    exact fits_lo8 _
end StrChars.Road
namespace StrChars.Road
open Jvm Sem ClassFile Op Lib Jvm.Stand Jvm.Free Jvm.Free.XT
/-- WHAT COMES BACK, in the writer's own shape -/
def QV (Z : State) (x : Addr) (N : Int32) (bs : List Int32) (h : Heap) (n0 : Nat) (v : Option Value) (h' : Heap) (L : List Loc) : Prop := v = none ∧ RoadKit.Fr n0 L ∧ RoadKit.Keep h h' [x] ∧ RoadKit.Exa Z h' x ST ∧ RoadKit.Fld Z h' x ST "coder" "B" (.int 0) ∧
  ∃ (t : Addr) (kb : ClassId), n0 ≤ t ∧ h.size ≤ t ∧ ¬ t = x ∧ RoadKit.Fld Z h' x ST "value" "[B" (.ref t) ∧ RoadKit.Arv Z h' t kb .byte N (bs.map Value.int) (.int 0)
/-- **new String(chars) AT A CALL, FOR THE WRITER**: a char[] of n known ints, each 0 to 255 -/
theorem backV {p : Program} {l : Launch} {e : Env} {R : Room} {s : State} {args : Array Value} {below : List Frame} {len W : Nat} {Z : State} {a0 : Array Value} {h : Heap} (hZ : Z.Warmed39 s.vm) (hw : ∀ d ∈ words, d.before a0 Z = true) {kI : Nat} (wi : (Jvm.Cond.instantiable ST kI).before a0 Z = true)
    {x b : Addr} {kC : ClassId} {cs bs : List Int32} {d v0 c0 : Value} {z N : Int32} {n n0 : Nat} (hx0 : n0 ≤ x) (hh0 : n0 ≤ h.size) (E : RoadKit.Exa Z h x ST) (V : RoadKit.Fld Z h x ST "value" "[B" v0) (C : RoadKit.Fld Z h x ST "coder" "B" c0) (K : RoadKit.Arv Z h b kC .char N (cs.map Value.int) d) (S : RoadKit.Sta Z h ST "COMPACT_STRINGS" "Z" (.int z)) (hz : ¬ z = 0)
    (hn : cs.length = n) (hN : N = Int32.ofNat n) (l0 : 0 < n) (l2 : n ≤ 4000) (hp : ∀ c ∈ cs, ¬ c < 0 ∧ ¬ (255 : Int32) < c) (hb : bs = cs.map (fun c => c.toInt8.toInt32)) (hfr : 4 ≤ R.frames) (hlo : W + 65 ≤ R.locals) :
    Back l R p e below s args (⟨"java/lang/String", "<init>", "([C)V"⟩ : MethodName) len W (fun P a => a = #[.ref x, .ref b] ∧ P.U.heap = h ∧ P.cells + 1 ≤ R.cells ∧ P.slots + n ≤ R.slots)
      (fun P _ v B => ∃ L, QV Z x N bs h n0 v B.U.heap L ∧ B.locs = P.locs ++ L ∧ B.cells = P.cells + 1 ∧ B.slots = P.slots + n) := by
  subst hn hN hb
  refine Back.mono (backArv hZ hw wi E V C K S hz (n32 (by omega)) l0 (by omega) (fun c hc => (hp c hc).2) hfr hlo) (fun P a hp => hp) (fun P a v B hp hq => ?_)
  obtain ⟨L, ⟨q1, q2, q3, q4, q5, q6, q7, ⟨kb, v1, v2⟩, q9⟩, hl, hc, hs⟩ := hq
  exact ⟨L, ⟨q1, fun y hy => by rw [q2 y hy]; exact hx0, q3, q5, q7, h.size, kb, hh0, Nat.le_refl _, Nat.ne_of_gt E.lt, q6, by rw [List.map_map]; exact v2⟩, hl, hc, hs⟩
end StrChars.Road
namespace StrChars
open Jvm Sem ClassFile Op Lib Jvm.Stand Jvm.Free.XT Jvm.Free.ALB Jvm.Free.JM Jvm.Free
open Jvm.Lib.Cold (StaticIs)
def hi8 (x : Int32) : Int32 := lo8 (x >>> ((8 : Int32) &&& 31))
/-- what StringUTF16.getChar makes of two bytes -/
def pairCh (u v : Int32) : Int32 := (((u &&& 255) <<< ((0 : Int32) &&& 31)) ||| ((v &&& 255) <<< ((8 : Int32) &&& 31))).toUInt32.toUInt16.toUInt32.toInt32
theorem lo8_and (x : Int32) : (lo8 x &&& 255).toBitVec.toNat = x.toBitVec.toNat % 256 := by
  have h : (lo8 x).toBitVec = (x.toBitVec.signExtend 8).signExtend 32 := by rw [lo8, Int8.toBitVec_toInt32, Int32.toBitVec_toInt8]
  rw [Int32.toBitVec_and, BitVec.toNat_and, h]
  have e : ((x.toBitVec.signExtend 8).signExtend 32).toNat % 256 = x.toBitVec.toNat % 256 := by
    rw [BitVec.toNat_signExtend]
    have hlt := x.toBitVec.isLt
    simp only [BitVec.toNat_setWidth, BitVec.toNat_signExtend]
    split <;> split <;> omega
  rw [← e]
  exact Nat.and_two_pow_sub_one_eq_mod _ 8
theorem pair_says {c : Int32} (h0 : ¬ c < 0) (h1 : ¬ 65535 < c) : pairCh (lo8 c) (hi8 c) = c := by
  rw [Int32.lt_iff_toInt_lt] at h0 h1
  have e0 : (0 : Int32).toInt = 0 := rfl
  have e1 : (65535 : Int32).toInt = 65535 := rfl
  have hc : c.toInt = c.toBitVec.toNat := by
    have := c.toBitVec.isLt
    have e : c.toInt = c.toBitVec.toInt := rfl
    rw [e] at h0 h1
    rw [e]
    rw [BitVec.toInt_eq_toNat_cond] at h0 h1 ⊢
    split at h0 <;> split <;> omega
  have hn : c.toBitVec.toNat < 65536 := by omega
  have a1 := lo8_and c
  have a2 : (hi8 c &&& 255).toBitVec.toNat = c.toBitVec.toNat / 256 := by
    rw [hi8, lo8_and]
    have e : ((8 : Int32) &&& 31) = 8 := by decide
    rw [e, Int32.toBitVec_shiftRight]
    have e2 : ((8 : Int32).toBitVec.smod 32) = 8#32 := by decide
    rw [e2, BitVec.sshiftRight_eq', BitVec.toNat_sshiftRight_of_msb_false (by rw [BitVec.msb_eq_false_iff_two_mul_lt]; omega)]
    show c.toBitVec.toNat >>> 8 % 256 = _
    rw [Nat.shiftRight_eq_div_pow]
    omega
  unfold pairCh
  apply Int32.toBitVec_inj.mp
  apply BitVec.eq_of_toNat_eq
  have f0 : ((0 : Int32) &&& 31) = 0 := by decide
  have f8 : ((8 : Int32) &&& 31) = 8 := by decide
  rw [f0, f8]
  have g : (((lo8 c &&& 255) <<< (0 : Int32)) ||| ((hi8 c &&& 255) <<< (8 : Int32))).toBitVec.toNat = c.toBitVec.toNat := by
    rw [Int32.toBitVec_or, Int32.toBitVec_shiftLeft, Int32.toBitVec_shiftLeft]
    have s0 : ((0 : Int32).toBitVec.smod 32) = 0#32 := by decide
    have s8 : ((8 : Int32).toBitVec.smod 32) = 8#32 := by decide
    rw [s0, s8, BitVec.toNat_or]
    simp only [BitVec.shiftLeft_eq', BitVec.toNat_shiftLeft, a1, a2]
    show (c.toBitVec.toNat % 256) <<< 0 % 2 ^ 32 ||| (c.toBitVec.toNat / 256) <<< 8 % 2 ^ 32 = _
    rw [Nat.shiftLeft_zero, Nat.mod_eq_of_lt (show c.toBitVec.toNat % 256 < 2 ^ 32 by omega), Nat.mod_eq_of_lt (show (c.toBitVec.toNat / 256) <<< 8 < 2 ^ 32 by rw [Nat.shiftLeft_eq]; omega), Nat.or_comm, ← Nat.shiftLeft_add_eq_or_of_lt (by omega), Nat.shiftLeft_eq]
    omega
  show BitVec.toNat (((((lo8 c &&& 255) <<< (0 : Int32)) ||| ((hi8 c &&& 255) <<< (8 : Int32))).toBitVec.setWidth 16).setWidth 32) = _
  rw [BitVec.toNat_setWidth, BitVec.toNat_setWidth, g]
  omega
end StrChars
namespace StrChars
open Jvm Sem ClassFile Op Lib Jvm.Stand Jvm.Free.XT Jvm.Free.ALB Jvm.Free.JM Jvm.Free
open Jvm.Lib.Cold (StaticIs)
/-- the array's cell V codes the n chars f 0 .. f (n - 1) by the coder cd, as the JDK does: coder 1 just where some char is above 255 -/
def Cod (cd : Int32) (n : Nat) (f : Nat → Int32) (V : Cell) : Prop := (cd = 0 ∧ V.slots.size = n ∧ ∀ j, j < n → V.slots[j]? = some (.int (lo8 (f j))) ∧ ¬ 255 < f j) ∨ (cd = 1 ∧ V.slots.size = 2 * n ∧ (∀ j, j < n → V.slots[2 * j]? = some (.int (lo8 (f j))) ∧ V.slots[2 * j + 1]? = some (.int (hi8 (f j)))) ∧ ∃ j, j < n ∧ 255 < f j)
/-- **x is a String of the n chars f 0 .. f (n - 1)**, Latin-1 or UTF-16; its array at t has the cell V -/
def Txt (x t : Addr) (V : Cell) (cd : Int32) (n : Nat) (f : Nat → Int32) (U : State) : Prop := Exact "java/lang/String" x U ∧ Has x "java/lang/String" "value" "[B" (.ref t) U ∧ Has x "java/lang/String" "coder" "B" (.int cd) U ∧ XT.Arr .byte t V U ∧ Cod cd n f V ∧ ∀ j, j < n → ¬ f j < 0 ∧ ¬ 65535 < f j
theorem Txt.mv {x t : Addr} {V : Cell} {cd : Int32} {n : Nat} {f : Nat → Int32} {U U' : State} (h : Txt x t V cd n f U) (hal : U.vm.Alike U'.vm) (hh : U'.heap = U.heap) : Txt x t V cd n f U' := ⟨h.1.mv hal hh, h.2.1.mv hal hh, h.2.2.1.mv hal hh, h.2.2.2.1.mv hal hh, h.2.2.2.2⟩
end StrChars
namespace StrChars.Road
open Jvm Sem ClassFile Op Lib Jvm.Stand Jvm.Free Jvm.Free.XT
open Jvm.Lib.Cold (StaticIs)
theorem consq {a : Array Value} {s : State} {c : Jvm.Cond} {L : List Jvm.Cond} (h0 : c.before a s = true) (h : ∀ w ∈ L, w.before a s = true) : ∀ w ∈ c :: L, w.before a s = true := fun w hw => (List.mem_cons.mp hw).elim (fun e => e ▸ h0) (h w)
/-- the bytes of the chars cs, low before high -/
def wideBytes : List Int32 → List Value
  | [] => []
  | c :: cs => .int (lo8 c) :: .int (hi8 c) :: wideBytes cs
theorem wide_lo (d : Value) : ∀ (cs : List Int32) (j : Nat), j < cs.length → (wideBytes cs).getD (2 * j) d = .int (lo8 (cs.getD j 0))
  | [], j, h => absurd h (Nat.not_lt_zero j)
  | c :: cs, 0, _ => rfl
  | c :: cs, j + 1, h => by
    have q := wide_lo d cs j (by simpa using h)
    rw [show 2 * (j + 1) = 2 * j + 1 + 1 from by omega]
    simpa [wideBytes] using q
theorem wide_hi (d : Value) : ∀ (cs : List Int32) (j : Nat), j < cs.length → (wideBytes cs).getD (2 * j + 1) d = .int (hi8 (cs.getD j 0))
  | [], j, h => absurd h (Nat.not_lt_zero j)
  | c :: cs, 0, _ => rfl
  | c :: cs, j + 1, h => by
    have q := wide_hi d cs j (by simpa using h)
    rw [show 2 * (j + 1) + 1 = 2 * j + 1 + 1 + 1 from by omega]
    simpa [wideBytes] using q
theorem low_at (d : Value) (cs : List Int32) (j : Nat) (h : j < cs.length) : (cs.map fun c => Value.int (lo8 c)).getD j d = .int (lo8 (cs.getD j 0)) := by
  simp [List.getD_eq_getElem?_getD, h]
/-- an array of N2 bytes vs codes the chars cs by the coder cd -/
def CodA (cs : List Int32) (cd N2 : Int32) (vs : List Value) : Prop := (cd = 0 ∧ N2 = Int32.ofNat cs.length ∧ vs = (cs.map fun c => Value.int (lo8 c)) ∧ ∀ c ∈ cs, ¬ 255 < c) ∨ (cd = 1 ∧ N2 = Int32.ofNat (2 * cs.length) ∧ vs = wideBytes cs ∧ ∃ c ∈ cs, 255 < c)
theorem CodA.cod {cs : List Int32} {cd N2 : Int32} {vs : List Value} {V : Cell} (h : CodA cs cd N2 vs) (hn : 2 * cs.length < 2 ^ 31) (hs : V.slots.size = N2.toNatClampNeg) (hv : RoadKit.Has V vs (.int 0)) : Cod cd cs.length (fun j => cs.getD j 0) V := by
  rcases h with ⟨rfl, rfl, rfl, h⟩ | ⟨rfl, rfl, rfl, c, hc, hw⟩
  · rw [n32 (by omega)] at hs
    exact Or.inl ⟨rfl, hs, fun j hj => ⟨by rw [hv j (by omega), low_at _ _ _ hj], by
      have e : cs.getD j 0 = cs[j] := by simp [List.getD_eq_getElem?_getD, hj]
      show ¬ 255 < cs.getD j 0
      rw [e]; exact h _ (List.getElem_mem _)⟩⟩
  · rw [n32 (by omega)] at hs
    obtain ⟨j, hj, rfl⟩ := List.getElem_of_mem hc
    exact Or.inr ⟨rfl, hs, fun j hj => ⟨by rw [hv _ (by omega), wide_lo _ _ _ hj], by rw [hv _ (by omega), wide_hi _ _ _ hj]⟩, j, hj, by
      have e : cs.getD j 0 = cs[j] := by simp [List.getD_eq_getElem?_getD, hj]
      show 255 < cs.getD j 0
      rw [e]; exact hw⟩
/-- an object of exactly java/lang/String, its two fields found: as the laws ask it -/
theorem strObj {Z U : State} {a0 : Array Value} {kI : Nat} (wi : (Jvm.Cond.instantiable ST kI).before a0 Z = true) (al : Z.vm.Alike U.vm) {x : Addr} {v0 c0 : Value} (E : RoadKit.Exa Z U.heap x ST) (V : RoadKit.Fld Z U.heap x ST "value" "[B" v0) (C : RoadKit.Fld Z U.heap x ST "coder" "B" c0) :
    ∃ (D : Cell) (fV fC : Field), Blank ST x D U ∧ Found ST "value" "[B" fV U ∧ Found ST "coder" "B" fC U ∧ D.slots[fV.slot]? = some v0 ∧ D.slots[fC.slot]? = some c0 ∧ RoadKit.slotOf Z ST "value" "[B" = fV.slot ∧ RoadKit.slotOf Z ST "coder" "B" = fC.slot := by
  obtain ⟨D, cfV, kV, iV, fV, hD, gV, stV, knV, obV, asV, slV⟩ := V
  obtain ⟨D', cfC, kC, iC, fC, hD', gC, stC, -, -, asC, slC⟩ := C
  cases hD.symm.trans hD'
  obtain ⟨D2, kD, e1, e2, e3, e4, e5⟩ := E
  cases hD.symm.trans e1
  obtain ⟨c2, k2, i1, i2, i3, -⟩ := Cond.instantiable_spec wi
  cases e2.symm.trans i1
  cases e3.symm.trans i2
  obtain ⟨kU, u1, u2⟩ := al.2.2 _ _ e3
  exact ⟨D, fV, fC, ⟨hD, ⟨knV, fun q hq => by rw [hq] at obV; cases obV⟩, by rw [al.findClass]; exact e2, kU, u1, by rw [u2]; exact i3, by rw [u2]; exact e5 i3⟩, ⟨SBG.found_only al ⟨cfV, kV, iV, gV⟩, stV⟩, ⟨SBG.found_only al ⟨cfC, kC, iC, gC⟩, stC⟩, slV, slC, by simp [RoadKit.slotOf, gV], by simp [RoadKit.slotOf, gC]⟩
theorem sta_is {Z U : State} (al : Z.vm.Alike U.vm) {C n d : String} {v : Value} (S : RoadKit.Sta Z U.heap C n d v) : StaticIs U C n d v := by
  obtain ⟨cfS, iS, kS, fS, st, cS, t1, t2, t3, t4, t5, t6, t7⟩ := S
  exact StaticIs.there (s := { Z with heap := U.heap }) ⟨cfS, iS, kS, fS, st, cS, t1, t2, t3, t4, t5, (fun q => by rw [q] at t6; cases t6), t7⟩ al rfl
end StrChars.Road
namespace StrChars
open Jvm Sem ClassFile Op Lib Jvm.Stand Jvm.Free.XT Jvm.Free.ALB Jvm.Free.JM Jvm.Free
open Jvm.Lib.Cold (StaticIs)
/-- what place i of a byte[]'s cell holds -/
def yv (A : Cell) (i : Nat) : Int32 := match A.slots[i]? with | some (.int x) => x | _ => 0
theorem yv_get {a : Addr} {A : Cell} {U : State} (h : XT.Arr .byte a A U) (ht : Typed .byte A) {i : Nat} (hi : i < A.slots.size) : A.slots[i]? = some (.int (yv A i)) := by
  have e := Array.getElem?_eq_getElem hi
  have f := ht i _ e
  unfold yv; rw [e]
  generalize A.slots[i] = v at f
  cases v <;> simp [fits] at f ⊢
/-- the two arrays are equal, place for place -/
def EqC (A B : Cell) : Prop := A.slots.size = B.slots.size ∧ ∀ i, i < A.slots.size → yv A i = yv B i
/-- a boolean that says whether p -/
def Says01 (q : Prop) (r : Option Value) (s u : State) : Prop := ∃ v : Int32, r = some (.int v) ∧ u.heap = s.heap ∧ ((v = 1 ∧ q) ∨ (v = 0 ∧ ¬ q))
theorem Says01.mv {q : Prop} : ∀ r (U U' V V' : State), U'.heap = U.heap → V.vm.Alike V'.vm → V'.heap = V.heap → Says01 q r U V → Says01 q r U' V' :=
  fun r U U' V V' h1 _ h2 ⟨v, a, b, c⟩ => ⟨v, a, by rw [h1, h2]; exact b, c⟩
namespace LEq
def yN : MethodName := ⟨"java/lang/StringLatin1", "equals", "([B[B)Z"⟩
abbrev yB : ByteArray := jdk_43_method_13_code
theorem d0 : decode yB 0 = .ok (.aload_n 0, 1) := by decide +kernel
theorem d1 : decode yB 1 = .ok (.arraylength, 1) := by decide +kernel
theorem d2 : decode yB 2 = .ok (.aload_n 1, 1) := by decide +kernel
theorem d3 : decode yB 3 = .ok (.arraylength, 1) := by decide +kernel
theorem d4 : decode yB 4 = .ok (.if_icmp (.ne) 30, 3) := by decide +kernel
theorem d7 : decode yB 7 = .ok (.iconst 0, 1) := by decide +kernel
theorem d8 : decode yB 8 = .ok (.istore_n 2, 1) := by decide +kernel
theorem d9 : decode yB 9 = .ok (.iload_n 2, 1) := by decide +kernel
theorem d10 : decode yB 10 = .ok (.aload_n 0, 1) := by decide +kernel
theorem d11 : decode yB 11 = .ok (.arraylength, 1) := by decide +kernel
theorem d12 : decode yB 12 = .ok (.if_icmp (.ge) 20, 3) := by decide +kernel
theorem d15 : decode yB 15 = .ok (.aload_n 0, 1) := by decide +kernel
theorem d16 : decode yB 16 = .ok (.iload_n 2, 1) := by decide +kernel
theorem d17 : decode yB 17 = .ok (.baload, 1) := by decide +kernel
theorem d18 : decode yB 18 = .ok (.aload_n 1, 1) := by decide +kernel
theorem d19 : decode yB 19 = .ok (.iload_n 2, 1) := by decide +kernel
theorem d20 : decode yB 20 = .ok (.baload, 1) := by decide +kernel
theorem d21 : decode yB 21 = .ok (.if_icmp (.eq) 5, 3) := by decide +kernel
theorem d24 : decode yB 24 = .ok (.iconst 0, 1) := by decide +kernel
theorem d25 : decode yB 25 = .ok (.ireturn, 1) := by decide +kernel
theorem d26 : decode yB 26 = .ok (.iinc 2 1, 3) := by decide +kernel
theorem d29 : decode yB 29 = .ok (.goto (-20), 3) := by decide +kernel
theorem d32 : decode yB 32 = .ok (.iconst 1, 1) := by decide +kernel
theorem d33 : decode yB 33 = .ok (.ireturn, 1) := by decide +kernel
theorem d34 : decode yB 34 = .ok (.iconst 0, 1) := by decide +kernel
theorem d35 : decode yB 35 = .ok (.ireturn, 1) := by decide +kernel
def site : List Cond := []
def tab : Cond := tabOf yN yB 3 (some .boolean) site
def P (a : Addr) (A : Cell) (b : Addr) (B : Cell) (args : Array Value) (s : State) : Prop := args = #[.ref a, .ref b] ∧ XT.Arr .byte a A s ∧ Typed .byte A ∧ XT.Arr .byte b B s ∧ Typed .byte B
/-- whether two byte[] are equal, place for place -/
theorem law (l : Launch) (a : Addr) (A : Cell) (b : Addr) (B : Cell) : Law l yN 2 2 0 0 yB 3 (some .boolean) site (P a A b B) (Says01 (EqC A B)) [] 0 0 := by
  refine Law.of_walk (plainFor_of_name (by decide +kernel)) (by decide +kernel) (by decide +kernel) (by decide) (fun _ _ h => by rw [h.1]; rfl) (fun _ U U' hal hh h => ⟨h.1, h.2.1.mv hal hh, h.2.2.1, h.2.2.2.1.mv hal hh, h.2.2.2.2⟩) (fun r U U' V V' h1 hal h2 h => Says01.mv r U U' V V' h1 hal h2 h) ?_
  intro p e s m args below meth c s₁ X0 hexec hbytes hml hret hlk hnm hown hh0 W hP
  obtain ⟨rfl, hA, tA, hB, tB⟩ := hP
  have a31 := hA.2.2.2
  have b31 := hB.2.2.2
  have hA0 := hA.mv X0.warmed.alike hh0
  have hB0 := hB.mv X0.warmed.alike hh0
  have c1 : Steps p.tables e below (s₁.setTop (entryFrame m #[.ref a, .ref b] 3)) (s₁.setTop (mkF m 0 #[.val (.ref a), .val (.ref b), .unset] [])) := entry rfl
  have c2 : Steps p.tables e below (s₁.setTop (entryFrame m #[.ref a, .ref b] 3)) (s₁.setTop (mkF m 4 #[.val (.ref a), .val (.ref b), .unset] [.int (Int32.ofNat B.slots.size), .int (Int32.ofNat A.slots.size)])) := c1.trans (by
    refine XS.aloadN X0.here hexec rfl (hb hbytes d0) rfl rfl ?_
    refine X0.alen hexec hA0 rfl rfl (hb hbytes d1) ?_
    refine XS.aloadN X0.here hexec rfl (hb hbytes d2) rfl rfl ?_
    refine X0.alen hexec hB0 rfl rfl (hb hbytes d3) ?_
    exact Steps.refl _)
  by_cases hs : A.slots.size = B.slots.size
  · have c3 : Steps p.tables e below (s₁.setTop (entryFrame m #[.ref a, .ref b] 3)) (s₁.setTop (mkF m 9 #[.val (.ref a), .val (.ref b), .val (.int 0)] [])) := c2.trans (by
      refine XS.icmpNo X0.here hexec rfl (hb hbytes d4) rfl (ii_ne_f (by rw [hs])) ?_
      refine iconstV X0.here hexec rfl 0 (hb hbytes d7) (by decide) ?_
      refine XS.istoreN X0.here hexec rfl (hb hbytes d8) rfl rfl ?_
      exact Steps.refl _)
    have loop : ∀ (r i : Nat), i + r = A.slots.size → (∀ j, j < i → yv A j = yv B j) → Steps p.tables e below (s₁.setTop (entryFrame m #[.ref a, .ref b] 3)) (s₁.setTop (mkF m 9 #[.val (.ref a), .val (.ref b), .val (.int (Int32.ofNat i))] [])) → ∃ (pc : Nat) (Ls : Array Slot) (v : Int32), (pc = 25 ∨ pc = 33) ∧ ((v = 1 ∧ EqC A B) ∨ (v = 0 ∧ ¬ EqC A B)) ∧ Steps p.tables e below (s₁.setTop (entryFrame m #[.ref a, .ref b] 3)) (s₁.setTop (mkF m pc Ls [.int v])) := by
      intro r
      induction r with
      | zero =>
        intro i hi he cl
        exact ⟨33, _, 1, Or.inr rfl, Or.inl ⟨rfl, hs, fun j hj => he j (by omega)⟩, cl.trans (by
          refine XS.iloadN X0.here hexec rfl (hb hbytes d9) rfl ?_
          refine XS.aloadN X0.here hexec rfl (hb hbytes d10) rfl rfl ?_
          refine X0.alen hexec hA0 rfl rfl (hb hbytes d11) ?_
          refine XS.icmpYes X0.here hexec rfl (pc0 := 12) rfl (hb hbytes d12) rfl (ii_ge_t (nlt32 (by omega) (by omega))) (by decide) rfl ?_
          refine iconstV X0.here hexec rfl 1 (hb hbytes d32) (by decide) ?_
          exact Steps.refl _)⟩
      | succ r ih =>
        intro i hi he cl
        have c4 : Steps p.tables e below (s₁.setTop (entryFrame m #[.ref a, .ref b] 3)) (s₁.setTop (mkF m 21 #[.val (.ref a), .val (.ref b), .val (.int (Int32.ofNat i))] [.int (yv B i), .int (yv A i)])) := cl.trans (by
          refine XS.iloadN X0.here hexec rfl (hb hbytes d9) rfl ?_
          refine XS.aloadN X0.here hexec rfl (hb hbytes d10) rfl rfl ?_
          refine X0.alen hexec hA0 rfl rfl (hb hbytes d11) ?_
          refine XS.icmpNo X0.here hexec rfl (hb hbytes d12) rfl (ii_ge_f (lt32 (by omega) (by omega))) ?_
          refine XS.aloadN X0.here hexec rfl (hb hbytes d15) rfl rfl ?_
          refine XS.iloadN X0.here hexec rfl (hb hbytes d16) rfl ?_
          refine X0.aget hexec hA0 rfl (yv_get hA tA (i := i) (by omega)) rfl rfl (hb hbytes d17) ?_
          refine XS.aloadN X0.here hexec rfl (hb hbytes d18) rfl rfl ?_
          refine XS.iloadN X0.here hexec rfl (hb hbytes d19) rfl ?_
          refine X0.aget hexec hB0 rfl (yv_get hB tB (i := i) (by omega)) rfl rfl (hb hbytes d20) ?_
          exact Steps.refl _)
        by_cases hv : yv A i = yv B i
        · have c5 : Steps p.tables e below (s₁.setTop (entryFrame m #[.ref a, .ref b] 3)) (s₁.setTop (mkF m 9 #[.val (.ref a), .val (.ref b), .val (.int (Int32.ofNat i + 1))] [])) := c4.trans (by
            refine XS.icmpYes X0.here hexec rfl (pc0 := 21) rfl (hb hbytes d21) rfl (ii_eq_t hv) (by decide) rfl ?_
            refine iincV X0.here hexec rfl 1 (hb hbytes d26) (by decide) rfl rfl ?_
            refine XS.goto X0.here hexec rfl (pc0 := 29) rfl (hb hbytes d29) (by decide) rfl ?_
            exact Steps.refl _)
          rw [succ32] at c5
          exact ih (i + 1) (by omega) (fun j hj => by
            by_cases e : j = i
            · rw [e]; exact hv
            · exact he j (by omega)) c5
        · exact ⟨25, _, 0, Or.inl rfl, Or.inr ⟨rfl, fun q => hv (q.2 i (by omega))⟩, c4.trans (by
            refine XS.icmpNo X0.here hexec rfl (hb hbytes d21) rfl (ii_eq_f hv) ?_
            refine iconstV X0.here hexec rfl 0 (hb hbytes d24) (by decide) ?_
            exact Steps.refl _)⟩
    obtain ⟨pc, Ls, v, hpc, hv, cz⟩ := loop A.slots.size 0 (by omega) (fun j hj => absurd hj (Nat.not_lt_zero j)) c3
    have nv : narrow .boolean (.int v) = .int v := by rcases hv with ⟨rfl, -⟩ | ⟨rfl, -⟩ <;> rfl
    rcases hpc with rfl | rfl
    · exact ⟨s₁, some (.int v), _, _, _, X0, rfl, rfl, rfl, (fun h => by cases h), ⟨v, rfl, hh0, hv⟩, fun fs hl => cz.trans (X0.ireturnOut hexec hret nv (Or.inr (Or.inl rfl)) (hb hbytes d25) hl)⟩
    · exact ⟨s₁, some (.int v), _, _, _, X0, rfl, rfl, rfl, (fun h => by cases h), ⟨v, rfl, hh0, hv⟩, fun fs hl => cz.trans (X0.ireturnOut hexec hret nv (Or.inr (Or.inl rfl)) (hb hbytes d33) hl)⟩
  · have c3 : Steps p.tables e below (s₁.setTop (entryFrame m #[.ref a, .ref b] 3)) (s₁.setTop (mkF m 35 #[.val (.ref a), .val (.ref b), .unset] [.int 0])) := c2.trans (by
      refine XS.icmpYes X0.here hexec rfl (pc0 := 4) rfl (hb hbytes d4) rfl (ii_ne_t (ne32 a31 b31 hs)) (by decide) rfl ?_
      refine iconstV X0.here hexec rfl 0 (hb hbytes d34) (by decide) ?_
      exact Steps.refl _)
    exact ⟨s₁, some (.int 0), _, _, _, X0, rfl, rfl, rfl, (fun h => by cases h), ⟨0, rfl, hh0, Or.inr ⟨rfl, fun q => hs q.1⟩⟩, fun fs hl => c3.trans (X0.ireturnOut hexec hret rfl (Or.inr (Or.inl rfl)) (hb hbytes d35) hl)⟩
end LEq
theorem Cod.ty {cd : Int32} {n : Nat} {f : Nat → Int32} {V : Cell} (h : Cod cd n f V) : Typed .byte V := fun i v hv => by
  have hi : i < V.slots.size := (Array.getElem?_eq_some_iff.mp hv).1
  rcases h with ⟨-, k1, k2⟩ | ⟨-, k1, k2, -⟩
  · rw [(k2 i (by omega)).1] at hv; cases hv; exact fits_lo8 _
  · rcases Nat.mod_two_eq_zero_or_one i with e | e
    · obtain ⟨j, rfl⟩ : ∃ j, i = 2 * j := ⟨i / 2, by omega⟩
      rw [(k2 j (by omega)).1] at hv; cases hv; exact fits_lo8 _
    · obtain ⟨j, rfl⟩ : ∃ j, i = 2 * j + 1 := ⟨i / 2, by omega⟩
      rw [(k2 j (by omega)).2] at hv; cases hv; exact fits_lo8 _
/-- the same text -/
def SameT (n : Nat) (f : Nat → Int32) (k : Nat) (g : Nat → Int32) : Prop := n = k ∧ ∀ j, j < n → f j = g j
theorem lo8_inj {x y : Int32} (h0 : ¬ x < 0) (h1 : ¬ 255 < x) (k0 : ¬ y < 0) (k1 : ¬ 255 < y) (h : lo8 x = lo8 y) : x = y := by
  rw [← lo8_mask h0 h1, ← lo8_mask k0 k1, h]
/-- arrays coded by one coder are equal just where the texts are -/
theorem Cod.eqv {cd : Int32} {n k : Nat} {f g : Nat → Int32} {V V' : Cell} (h : Cod cd n f V) (h' : Cod cd k g V') (hf : ∀ j, j < n → ¬ f j < 0 ∧ ¬ 65535 < f j) (hg : ∀ j, j < k → ¬ g j < 0 ∧ ¬ 65535 < g j) : EqC V V' ↔ SameT n f k g := by
  have yvv : ∀ {W : Cell} {i : Nat} {x : Int32}, W.slots[i]? = some (.int x) → yv W i = x := fun q => by unfold yv; rw [q]
  rcases h with ⟨rfl, k1, k2⟩ | ⟨rfl, k1, k2, -⟩
  · rcases h' with ⟨-, m1, m2⟩ | ⟨e, -⟩
    · constructor
      · rintro ⟨e1, e2⟩
        refine ⟨by omega, fun j hj => ?_⟩
        have q := e2 j (by omega)
        rw [yvv (k2 j hj).1, yvv (m2 j (by omega)).1] at q
        exact lo8_inj (hf j hj).1 (k2 j hj).2 (hg j (by omega)).1 (m2 j (by omega)).2 q
      · rintro ⟨rfl, e2⟩
        refine ⟨by omega, fun j hj => ?_⟩
        rw [yvv (k2 j (by omega)).1, yvv (m2 j (by omega)).1, e2 j (by omega)]
    · exact absurd e (by decide)
  · rcases h' with ⟨e, -⟩ | ⟨-, m1, m2, -⟩
    · exact absurd e (by decide)
    · constructor
      · rintro ⟨e1, e2⟩
        refine ⟨by omega, fun j hj => ?_⟩
        have q1 := e2 (2 * j) (by omega)
        have q2 := e2 (2 * j + 1) (by omega)
        rw [yvv (k2 j hj).1, yvv (m2 j (by omega)).1] at q1
        rw [yvv (k2 j hj).2, yvv (m2 j (by omega)).2] at q2
        rw [← pair_says (hf j hj).1 (hf j hj).2, ← pair_says (hg j (by omega)).1 (hg j (by omega)).2, q1, q2]
      · rintro ⟨rfl, e2⟩
        refine ⟨by omega, fun i hi => ?_⟩
        rcases Nat.mod_two_eq_zero_or_one i with e | e
        · obtain ⟨j, rfl⟩ : ∃ j, i = 2 * j := ⟨i / 2, by omega⟩
          rw [yvv (k2 j (by omega)).1, yvv (m2 j (by omega)).1, e2 j (by omega)]
        · obtain ⟨j, rfl⟩ : ∃ j, i = 2 * j + 1 := ⟨i / 2, by omega⟩
          rw [yvv (k2 j (by omega)).2, yvv (m2 j (by omega)).2, e2 j (by omega)]
/-- two codings differ: so do the texts -/
theorem Cod.dif {cd cd' : Int32} {n k : Nat} {f g : Nat → Int32} {V V' : Cell} (h : Cod cd n f V) (h' : Cod cd' k g V') (hne : ¬ cd = cd') : ¬ SameT n f k g := by
  rintro ⟨rfl, e⟩
  rcases h with ⟨rfl, -, k2⟩ | ⟨rfl, -, -, j, hj, hw⟩
  · rcases h' with ⟨rfl, -⟩ | ⟨-, -, -, j, hj, hw⟩
    · exact hne rfl
    · exact (k2 j hj).2 (by rw [e j hj]; exact hw)
  · rcases h' with ⟨-, -, m2⟩ | ⟨rfl, -⟩
    · exact (m2 j hj).2 (by rw [← e j hj]; exact hw)
    · exact hne rfl
/-- an object of exactly C is an instance of C -/
theorem cinst {p : Program} {l : Launch} {e : Env} {R : Room} {s : State} {m : MethodId} {args : Array Value} {below : List Frame} {meth : Method} {c : Code} {T : State} {locs : List Loc} {cells slots : Nat} (X : Stand p l e R s m args below meth c T locs cells slots) (hexec : p.tables.exec = Jvm.exec) {own C : String} {index : Nat} (hown : s.vm.findClass own = some m.cls) (hlink : (Cond.classLink own index C).before args s = true) {a : Addr} (hE : Exact C a T)
    {g : JFrame} (hg : g.method = m) {rest : List Value} (hstack : g.stack = .ref a :: rest) (hdg : decode c.code g.pc = .ok (.instanceof index, 3)) :
    ∃ T', Stand p l e R s m args below meth c T' locs cells slots ∧ T'.heap = T.heap ∧ ∀ target, Steps p.tables e below (T'.setTop { g with pc := g.pc + 3, stack := .int 1 :: rest }) target → Steps p.tables e below (T.setTop g) target := by
  obtain ⟨cB, h1, D, h2, h3, h4⟩ := hE
  have h1' : s.vm.findClass C = some cB := by rw [← X.warmed.alike.findClass]; exact h1
  obtain ⟨vm', X', st⟩ := X.instanceofYes hexec hown hlink h2 h4 h1' (by rw [h3]; exact Jvm.Free.SB.assignable_self _ _) hg hstack hdg
  exact ⟨_, X', rfl, st⟩
theorem cself {p : Program} {l : Launch} {e : Env} {R : Room} {s : State} {m : MethodId} {args : Array Value} {below : List Frame} {meth : Method} {c : Code} {T : State} {locs : List Loc} {cells slots : Nat} (X : Stand p l e R s m args below meth c T locs cells slots) (hexec : p.tables.exec = Jvm.exec) {own C : String} {index : Nat} (hown : s.vm.findClass own = some m.cls) (hlink : (Cond.classLink own index C).before args s = true) {a : Addr} (hE : Exact C a T)
    {g : JFrame} (hg : g.method = m) {rest : List Value} (hstack : g.stack = .ref a :: rest) (hdg : decode c.code g.pc = .ok (.checkcast index, 3)) :
    ∃ T', Stand p l e R s m args below meth c T' locs cells slots ∧ T'.heap = T.heap ∧ ∀ target, Steps p.tables e below (T'.setTop { g with pc := g.pc + 3, stack := .ref a :: rest }) target → Steps p.tables e below (T.setTop g) target := by
  obtain ⟨cB, h1, D, h2, h3, h4⟩ := hE
  have h1' : s.vm.findClass C = some cB := by rw [← X.warmed.alike.findClass]; exact h1
  obtain ⟨vm', X', st⟩ := X.checkcastYes hexec hown hlink h2 h4 h1' (by rw [h3]; exact Jvm.Free.SB.assignable_self _ _) hg hstack hdg
  exact ⟨_, X', rfl, fun t h => st t (by rw [← hstack] at h; exact h)⟩
namespace SEq
def yN : MethodName := ⟨"java/lang/String", "equals", "(Ljava/lang/Object;)Z"⟩
abbrev yB : ByteArray := jdk_42_method_66_code
theorem d0 : decode yB 0 = .ok (.aload_n 0, 1) := by decide +kernel
theorem d1 : decode yB 1 = .ok (.aload_n 1, 1) := by decide +kernel
theorem d2 : decode yB 2 = .ok (.if_acmp (.ne) 5, 3) := by decide +kernel
theorem d5 : decode yB 5 = .ok (.iconst 1, 1) := by decide +kernel
theorem d6 : decode yB 6 = .ok (.ireturn, 1) := by decide +kernel
theorem d7 : decode yB 7 = .ok (.aload_n 1, 1) := by decide +kernel
theorem d8 : decode yB 8 = .ok (.instanceof 10, 3) := by decide +kernel
theorem d11 : decode yB 11 = .ok (.ifCond (.eq) 43, 3) := by decide +kernel
theorem d14 : decode yB 14 = .ok (.aload_n 1, 1) := by decide +kernel
theorem d15 : decode yB 15 = .ok (.checkcast 10, 3) := by decide +kernel
theorem d18 : decode yB 18 = .ok (.astore_n 2, 1) := by decide +kernel
theorem d19 : decode yB 19 = .ok (.getstatic 38, 3) := by decide +kernel
theorem d22 : decode yB 22 = .ok (.ifCond (.eq) 14, 3) := by decide +kernel
theorem d25 : decode yB 25 = .ok (.aload_n 0, 1) := by decide +kernel
theorem d26 : decode yB 26 = .ok (.getfield 15, 3) := by decide +kernel
theorem d29 : decode yB 29 = .ok (.aload_n 2, 1) := by decide +kernel
theorem d30 : decode yB 30 = .ok (.getfield 15, 3) := by decide +kernel
theorem d33 : decode yB 33 = .ok (.if_icmp (.ne) 21, 3) := by decide +kernel
theorem d36 : decode yB 36 = .ok (.aload_n 0, 1) := by decide +kernel
theorem d37 : decode yB 37 = .ok (.getfield 9, 3) := by decide +kernel
theorem d40 : decode yB 40 = .ok (.aload_n 2, 1) := by decide +kernel
theorem d41 : decode yB 41 = .ok (.getfield 9, 3) := by decide +kernel
theorem d44 : decode yB 44 = .ok (.invokestatic 541, 3) := by decide +kernel
theorem d47 : decode yB 47 = .ok (.ifCond (.eq) 7, 3) := by decide +kernel
theorem d50 : decode yB 50 = .ok (.iconst 1, 1) := by decide +kernel
theorem d51 : decode yB 51 = .ok (.goto 4, 3) := by decide +kernel
theorem d54 : decode yB 54 = .ok (.iconst 0, 1) := by decide +kernel
theorem d55 : decode yB 55 = .ok (.ireturn, 1) := by decide +kernel
def site : List Cond := [.classLink "java/lang/String" 10 "java/lang/String", .fieldLink "java/lang/String" 38 "java/lang/String" "COMPACT_STRINGS" "Z", .fieldLink "java/lang/String" 15 "java/lang/String" "coder" "B", .fieldLink "java/lang/String" 9 "java/lang/String" "value" "[B", LEq.tab] ++ staticW "java/lang/String" 541 LEq.yN
def tab : Cond := tabOf yN yB 3 (some .boolean) site
def P (x t : Addr) (V : Cell) (cd : Int32) (n : Nat) (f : Nat → Int32) (y t' : Addr) (V' : Cell) (cd' : Int32) (k : Nat) (g : Nat → Int32) (z : Int32) (args : Array Value) (s : State) : Prop := args = #[.ref x, .ref y] ∧ Txt x t V cd n f s ∧ Txt y t' V' cd' k g s ∧ StaticIs s "java/lang/String" "COMPACT_STRINGS" "Z" (.int z) ∧ ¬ z = 0
/-- equals(Object) of two Strings: whether the texts are the same -/
theorem law (l : Launch) (x t : Addr) (V : Cell) (cd : Int32) (n : Nat) (f : Nat → Int32) (y t' : Addr) (V' : Cell) (cd' : Int32) (k : Nat) (g : Nat → Int32) (z : Int32) : Law l yN 2 1 1 14 yB 3 (some .boolean) site (P x t V cd n f y t' V' cd' k g z) (Says01 (SameT n f k g)) [] 0 0 := by
  refine Law.of_walk (plainFor_of_name (by decide +kernel)) (by decide +kernel) (by decide +kernel) (by decide) (fun _ _ h => by rw [h.1]; rfl) (fun _ U U' hal hh h => ⟨h.1, h.2.1.mv hal hh, h.2.2.1.mv hal hh, h.2.2.2.1.there hal hh, h.2.2.2.2⟩) (fun r U U' V V' h1 hal h2 h => Says01.mv r U U' V V' h1 hal h2 h) ?_
  intro p e s m args below meth c s₁ X0 hexec hbytes hml hret hlk hnm hown hh0 W hP
  obtain ⟨rfl, hx, hy, s1, hz⟩ := hP
  have c1 : Steps p.tables e below (s₁.setTop (entryFrame m #[.ref x, .ref y] 3)) (s₁.setTop (mkF m 2 #[.val (.ref x), .val (.ref y), .unset] [.ref y, .ref x])) := Steps.trans (entry rfl) (by
    show Steps p.tables e below (s₁.setTop (mkF m 0 #[.val (.ref x), .val (.ref y), .unset] [])) _
    refine XS.aloadN X0.here hexec rfl (hb hbytes d0) rfl rfl ?_
    refine XS.aloadN X0.here hexec rfl (hb hbytes d1) rfl rfl ?_
    exact Steps.refl _)
  by_cases hxy : x = y
  · have c2 : Steps p.tables e below (s₁.setTop (entryFrame m #[.ref x, .ref y] 3)) (s₁.setTop (mkF m 6 #[.val (.ref x), .val (.ref y), .unset] [.int 1])) := c1.trans (by
      refine acmpNo X0.here hexec rfl (hb hbytes d2) rfl rfl rfl (by simp [acmp, hxy]) ?_
      refine iconstV X0.here hexec rfl 1 (hb hbytes d5) (by decide) ?_
      exact Steps.refl _)
    subst hxy
    have ec : cd = cd' := by
      obtain ⟨D, fd, a1, a2, a3⟩ := hx.2.2.1
      obtain ⟨D', fd', b1, b2, b3⟩ := hy.2.2.1
      cases a1.symm.trans b1
      obtain ⟨q1, q2, q3, q4⟩ := a2.1
      obtain ⟨r1, r2, r3, r4⟩ := b2.1
      cases q4.symm.trans r4
      cases a3.symm.trans b3; rfl
    have et : t = t' := by
      obtain ⟨D, fd, a1, a2, a3⟩ := hx.2.1
      obtain ⟨D', fd', b1, b2, b3⟩ := hy.2.1
      cases a1.symm.trans b1
      obtain ⟨q1, q2, q3, q4⟩ := a2.1
      obtain ⟨r1, r2, r3, r4⟩ := b2.1
      cases q4.symm.trans r4
      cases a3.symm.trans b3; rfl
    subst ec et
    have ev : V = V' := by cases hx.2.2.2.1.1.symm.trans hy.2.2.2.1.1; rfl
    subst ev
    have hs : SameT n f k g := (Cod.eqv hx.2.2.2.2.1 hy.2.2.2.2.1 hx.2.2.2.2.2 hy.2.2.2.2.2).mp ⟨rfl, fun _ _ => rfl⟩
    exact ⟨s₁, some (.int 1), _, _, _, X0, rfl, rfl, rfl, (fun h => by cases h), ⟨1, rfl, hh0, Or.inl ⟨rfl, hs⟩⟩, fun fs hl => c2.trans (X0.ireturnOut hexec hret rfl (Or.inr (Or.inl rfl)) (hb hbytes d6) hl)⟩
  · have c2 : Steps p.tables e below (s₁.setTop (entryFrame m #[.ref x, .ref y] 3)) (s₁.setTop (mkF m 8 #[.val (.ref x), .val (.ref y), .unset] [.ref y])) := c1.trans (by
      refine acmpYes X0.here hexec rfl (pc0 := 2) rfl (hb hbytes d2) rfl rfl rfl (by simp [acmp, hxy]) (by decide) rfl ?_
      refine XS.aloadN X0.here hexec rfl (hb hbytes d7) rfl rfl ?_
      exact Steps.refl _)
    obtain ⟨T3, X3, q3, st3⟩ := cinst X0 hexec hown (wk W (.classLink "java/lang/String" 10 "java/lang/String")) (hy.mv X0.warmed.alike hh0).1 (g := (mkF m 8 #[.val (.ref x), .val (.ref y), .unset] [.ref y])) rfl (rest := []) rfl (hb hbytes d8)
    have hh3 := q3.trans hh0
    have c4 : Steps p.tables e below (s₁.setTop (entryFrame m #[.ref x, .ref y] 3)) (T3.setTop (mkF m 15 #[.val (.ref x), .val (.ref y), .unset] [.ref y])) := (c2.trans (st3 _ (Steps.refl _))).trans (by
      refine XS.ifNo X3.here hexec rfl (hb hbytes d11) rfl (i0_eq_f (by decide)) ?_
      refine XS.aloadN X3.here hexec rfl (hb hbytes d14) rfl rfl ?_
      exact Steps.refl _)
    obtain ⟨T5, X5, q5, st5⟩ := cself X3 hexec hown (wk W (.classLink "java/lang/String" 10 "java/lang/String")) (hy.mv X3.warmed.alike hh3).1 (g := (mkF m 15 #[.val (.ref x), .val (.ref y), .unset] [.ref y])) rfl (rest := []) rfl (hb hbytes d15)
    have hh5 := q5.trans hh3
    have c6 : Steps p.tables e below (s₁.setTop (entryFrame m #[.ref x, .ref y] 3)) (T5.setTop (mkF m 19 #[.val (.ref x), .val (.ref y), .val (.ref y)] [])) := (c4.trans (st5 _ (Steps.refl _))).trans (by
      refine XS.astoreN X5.here hexec rfl (hb hbytes d18) rfl rfl rfl ?_
      exact Steps.refl _)
    obtain ⟨T7, X7, q7, st7⟩ := X5.sget hexec hown (wk W (.fieldLink "java/lang/String" 38 "java/lang/String" "COMPACT_STRINGS" "Z")) s1 (fun _ _ h => by rw [hh5]; exact h) (g := (mkF m 19 #[.val (.ref x), .val (.ref y), .val (.ref y)] [])) rfl (hb hbytes d19)
    have hh7 := q7.trans hh5
    have c8 : Steps p.tables e below (s₁.setTop (entryFrame m #[.ref x, .ref y] 3)) (T7.setTop (mkF m 26 #[.val (.ref x), .val (.ref y), .val (.ref y)] [.ref x])) := (c6.trans (st7 _ (Steps.refl _))).trans (by
      refine XS.ifNo X7.here hexec rfl (hb hbytes d22) rfl (i0_eq_f hz) ?_
      refine XS.aloadN X7.here hexec rfl (hb hbytes d25) rfl rfl ?_
      exact Steps.refl _)
    obtain ⟨T9, X9, q9, st9⟩ := X7.hget hexec hown (wk W (.fieldLink "java/lang/String" 15 "java/lang/String" "coder" "B")) (hx.mv X7.warmed.alike hh7).2.2.1 (g := (mkF m 26 #[.val (.ref x), .val (.ref y), .val (.ref y)] [.ref x])) rfl (rest := []) rfl (hb hbytes d26)
    have hh9 := q9.trans hh7
    have c10 : Steps p.tables e below (s₁.setTop (entryFrame m #[.ref x, .ref y] 3)) (T9.setTop (mkF m 30 #[.val (.ref x), .val (.ref y), .val (.ref y)] [.ref y, .int cd])) := (c8.trans (st9 _ (Steps.refl _))).trans (by
      refine XS.aloadN X9.here hexec rfl (hb hbytes d29) rfl rfl ?_
      exact Steps.refl _)
    obtain ⟨T11, X11, q11, st11⟩ := X9.hget hexec hown (wk W (.fieldLink "java/lang/String" 15 "java/lang/String" "coder" "B")) (hy.mv X9.warmed.alike hh9).2.2.1 (g := (mkF m 30 #[.val (.ref x), .val (.ref y), .val (.ref y)] [.ref y, .int cd])) rfl (rest := [.int cd]) rfl (hb hbytes d30)
    have hh11 := q11.trans hh9
    have c12 : Steps p.tables e below (s₁.setTop (entryFrame m #[.ref x, .ref y] 3)) (T11.setTop (mkF m 33 #[.val (.ref x), .val (.ref y), .val (.ref y)] [.int cd', .int cd])) := c10.trans (st11 _ (Steps.refl _))
    by_cases hcd : cd = cd'
    · subst hcd
      have c13 : Steps p.tables e below (s₁.setTop (entryFrame m #[.ref x, .ref y] 3)) (T11.setTop (mkF m 37 #[.val (.ref x), .val (.ref y), .val (.ref y)] [.ref x])) := c12.trans (by
        refine XS.icmpNo X11.here hexec rfl (hb hbytes d33) rfl (ii_ne_f rfl) ?_
        refine XS.aloadN X11.here hexec rfl (hb hbytes d36) rfl rfl ?_
        exact Steps.refl _)
      obtain ⟨T14, X14, q14, st14⟩ := X11.hget hexec hown (wk W (.fieldLink "java/lang/String" 9 "java/lang/String" "value" "[B")) (hx.mv X11.warmed.alike hh11).2.1 (g := (mkF m 37 #[.val (.ref x), .val (.ref y), .val (.ref y)] [.ref x])) rfl (rest := []) rfl (hb hbytes d37)
      have hh14 := q14.trans hh11
      have c15 : Steps p.tables e below (s₁.setTop (entryFrame m #[.ref x, .ref y] 3)) (T14.setTop (mkF m 41 #[.val (.ref x), .val (.ref y), .val (.ref y)] [.ref y, .ref t])) := (c13.trans (st14 _ (Steps.refl _))).trans (by
        refine XS.aloadN X14.here hexec rfl (hb hbytes d40) rfl rfl ?_
        exact Steps.refl _)
      obtain ⟨T16, X16, q16, st16⟩ := X14.hget hexec hown (wk W (.fieldLink "java/lang/String" 9 "java/lang/String" "value" "[B")) (hy.mv X14.warmed.alike hh14).2.1 (g := (mkF m 41 #[.val (.ref x), .val (.ref y), .val (.ref y)] [.ref y, .ref t])) rfl (rest := [.ref t]) rfl (hb hbytes d41)
      have hh16 := q16.trans hh14
      have c17 : Steps p.tables e below (s₁.setTop (entryFrame m #[.ref x, .ref y] 3)) (T16.setTop (mkF m 44 #[.val (.ref x), .val (.ref y), .val (.ref y)] [.ref t', .ref t])) := c15.trans (st16 _ (Steps.refl _))
      obtain ⟨v18, T18, X18, E18, g18⟩ := X16.callS hexec (LEq.law l t V t' V') hown (wks W (staticW "java/lang/String" 541 LEq.yN)) (wk W LEq.tab) (W := 0) (Nat.le_of_ble_eq_true rfl) (Nat.le_of_ble_eq_true rfl) (Nat.le_refl _) (Nat.le_refl _) (g := (mkF m 44 #[.val (.ref x), .val (.ref y), .val (.ref y)] [.ref t', .ref t])) rfl (by rw [hml]; rfl) c17 (argsL := [.ref t, .ref t']) (rest := []) rfl rfl (by show 2 * 0 + 0 ≤ _; decide) (hb hbytes d44) (⟨rfl, hx.2.2.2.1.mv X16.warmed.alike hh16, hx.2.2.2.2.1.ty, hy.2.2.2.1.mv X16.warmed.alike hh16, hy.2.2.2.2.1.ty⟩)
      obtain ⟨v, rfl, q18, hv⟩ := E18
      have iff := Cod.eqv hx.2.2.2.2.1 hy.2.2.2.2.1 hx.2.2.2.2.2 hy.2.2.2.2.2
      rcases hv with ⟨rfl, he⟩ | ⟨rfl, he⟩
      · have c19 : Steps p.tables e below (s₁.setTop (entryFrame m #[.ref x, .ref y] 3)) (T18.setTop (mkF m 55 #[.val (.ref x), .val (.ref y), .val (.ref y)] [.int 1])) := Steps.trans g18 (by
          refine XS.ifNo X18.here hexec rfl (hb hbytes d47) rfl (i0_eq_f (by decide)) ?_
          refine iconstV X18.here hexec rfl 1 (hb hbytes d50) (by decide) ?_
          refine XS.goto X18.here hexec rfl (pc0 := 51) rfl (hb hbytes d51) (by decide) rfl ?_
          exact Steps.refl _)
        exact ⟨T18, some (.int 1), _, _, _, X18, rfl, rfl, rfl, (fun h => by cases h), ⟨1, rfl, q18.trans hh16, Or.inl ⟨rfl, iff.mp he⟩⟩, fun fs hl => c19.trans (X18.ireturnOut hexec hret rfl (Or.inr (Or.inl rfl)) (hb hbytes d55) hl)⟩
      · have c19 : Steps p.tables e below (s₁.setTop (entryFrame m #[.ref x, .ref y] 3)) (T18.setTop (mkF m 55 #[.val (.ref x), .val (.ref y), .val (.ref y)] [.int 0])) := Steps.trans g18 (by
          refine XS.ifYes X18.here hexec rfl (pc0 := 47) rfl (hb hbytes d47) rfl (i0_eq_t rfl) (by decide) rfl ?_
          refine iconstV X18.here hexec rfl 0 (hb hbytes d54) (by decide) ?_
          exact Steps.refl _)
        exact ⟨T18, some (.int 0), _, _, _, X18, rfl, rfl, rfl, (fun h => by cases h), ⟨0, rfl, q18.trans hh16, Or.inr ⟨rfl, fun q => he (iff.mpr q)⟩⟩, fun fs hl => c19.trans (X18.ireturnOut hexec hret rfl (Or.inr (Or.inl rfl)) (hb hbytes d55) hl)⟩
    · have c13 : Steps p.tables e below (s₁.setTop (entryFrame m #[.ref x, .ref y] 3)) (T11.setTop (mkF m 55 #[.val (.ref x), .val (.ref y), .val (.ref y)] [.int 0])) := c12.trans (by
        refine XS.icmpYes X11.here hexec rfl (pc0 := 33) rfl (hb hbytes d33) rfl (ii_ne_t hcd) (by decide) rfl ?_
        refine iconstV X11.here hexec rfl 0 (hb hbytes d54) (by decide) ?_
        exact Steps.refl _)
      exact ⟨T11, some (.int 0), _, _, _, X11, rfl, rfl, rfl, (fun h => by cases h), ⟨0, rfl, hh11, Or.inr ⟨rfl, Cod.dif hx.2.2.2.2.1 hy.2.2.2.2.1 hcd⟩⟩, fun fs hl => c13.trans (X11.ireturnOut hexec hret rfl (Or.inr (Or.inl rfl)) (hb hbytes d55) hl)⟩
theorem pays {l : Launch} {R : Room} {p : Program} {e : Env} {below : List Frame} {s : State} {sargs : Array Value} {len W : Nat} (x t : Addr) (V : Cell) (cd : Int32) (n : Nat) (f : Nat → Int32) (y t' : Addr) (V' : Cell) (cd' : Int32) (k : Nat) (g : Nat → Int32) (z : Int32) (htab : tab.before sargs s = true) (hfr : 2 ≤ R.frames) (hlo : W + 28 ≤ R.locals) :
    Back l R p e below s sargs yN len W (fun A₁ a₁ => A₁.cells + 0 ≤ R.cells ∧ A₁.slots + 0 ≤ R.slots ∧ P x t V cd n f y t' V' cd' k g z a₁ A₁.U) (fun A₁ _ v₁ B₁ => Says01 (SameT n f k g) v₁ A₁.U B₁.U ∧ B₁.locs = A₁.locs ++ [] ∧ B₁.cells = A₁.cells + 0 ∧ B₁.slots = A₁.slots + 0) :=
  (law l x t V cd n f y t' V' cd' k g z).pays htab hfr (by omega)
end SEq
end StrChars
namespace StrChars.Road
open Jvm Sem ClassFile Op Lib Jvm.Stand Jvm.Free Jvm.Free.XT
open Jvm.Lib.Cold (StaticIs)
/-- the words of String.equals(Object) -/
abbrev wordsEq : List Jvm.Cond := [.code SEq.yN SEq.yB 3 (some .boolean), .initialized ST, .classLink ST 10 ST, .fieldLink ST 38 ST "COMPACT_STRINGS" "Z", .fieldLink ST 15 ST "coder" "B", .fieldLink ST 9 ST "value" "[B", .methodLink ST 541 LEq.yN, .static LEq.yN, .code LEq.yN LEq.yB 3 (some .boolean), .initialized "java/lang/StringLatin1"]
theorem tabEq_of {a : Array Value} {s : State} (h : ∀ w ∈ wordsEq, w.before a s = true) : SEq.tab.before a s = true := by
  have hl : LEq.tab.before a s = true := unparts (wk h (.code LEq.yN LEq.yB 3 (some .boolean))) (wks h (.initialized LEq.yN.cls :: LEq.site))
  have q := consq hl h
  exact unparts (wk q (.code SEq.yN SEq.yB 3 (some .boolean))) (wks q (.initialized SEq.yN.cls :: SEq.site))
theorem movedEq {Z s : State} {a0 args : Array Value} (hZ : Z.Warmed39 s.vm) (hw : ∀ d ∈ wordsEq, d.before a0 Z = true) : ∀ d ∈ wordsEq, d.before args s = true := fun d hd => by
  have t : ∀ d ∈ wordsEq, (d.onTables && d.keepsFace) = true := by decide +kernel
  exact RoadKit.mv hZ (hw d hd) (t d hd)
/-- the road's facts of a String, as the laws ask it -/
theorem txt_of {Z U : State} {a0 : Array Value} {kI : Nat} (wi : (Jvm.Cond.instantiable ST kI).before a0 Z = true) (al : Z.vm.Alike U.vm) {x t : Addr} {kb : ClassId} {cs : List Int32} {cd N2 : Int32} {vs : List Value} (E : RoadKit.Exa Z U.heap x ST) (V : RoadKit.Fld Z U.heap x ST "value" "[B" (.ref t)) (C : RoadKit.Fld Z U.heap x ST "coder" "B" (.int cd)) (K : RoadKit.Arv Z U.heap t kb .byte N2 vs (.int 0)) (hc : CodA cs cd N2 vs) (hb : ∀ c ∈ cs, ¬ c < 0 ∧ ¬ (65535 : Int32) < c) (l2 : cs.length ≤ 4000) :
    ∃ A, Txt x t A cd cs.length (fun j => cs.getD j 0) U := by
  obtain ⟨A, K1, K2, K3, K4, K5, K6⟩ := K
  have hcod := hc.cod (by omega) K3 K5
  obtain ⟨D, fV, fC, hB, F1, F2, g1, g2, -, -⟩ := strObj wi al E V C
  exact ⟨A, ⟨_, hB.2.2.1, D, hB.1, rfl, by cases q : D.vm <;> first | rfl | exact absurd q (hB.2.1.2 _)⟩, Has.of hB F1 g1, Has.of hB F2 g2, ⟨K1.1, State.isArrayOf_alike al K1.2.1, K1.2.2, by rcases hcod with ⟨-, q, -⟩ | ⟨-, q, -⟩ <;> omega⟩, hcod, fun j hj => by
    have e : cs.getD j 0 = cs[j] := by simp [List.getD_eq_getElem?_getD, hj]
    show ¬ cs.getD j 0 < 0 ∧ ¬ 65535 < cs.getD j 0
    rw [e]; exact hb _ (List.getElem_mem _)⟩
theorem same_list (cs ds : List Int32) : SameT cs.length (fun j => cs.getD j 0) ds.length (fun j => ds.getD j 0) ↔ cs = ds := by
  constructor
  · rintro ⟨e, q⟩
    refine List.ext_getElem e fun j h1 h2 => ?_
    have := q j h1
    simpa [List.getD_eq_getElem?_getD, h1, h2] using this
  · rintro rfl
    exact ⟨rfl, fun _ _ => rfl⟩
/-- **equals(Object) OF TWO SUCH STRINGS**: 1 just where the chars are the same -/
theorem eqW {p : Program} {l : Launch} {e : Env} {R : Room} {s : State} {args : Array Value} {below : List Frame} {len W : Nat} {Z : State} {a0 : Array Value} {h : Heap} (hZ : Z.Warmed39 s.vm) (hw : ∀ d ∈ wordsEq, d.before a0 Z = true) {kI : Nat} (wi : (Jvm.Cond.instantiable ST kI).before a0 Z = true)
    {x t : Addr} {kb : ClassId} {cs : List Int32} {cd N2 : Int32} {vs : List Value} (E : RoadKit.Exa Z h x ST) (V : RoadKit.Fld Z h x ST "value" "[B" (.ref t)) (C : RoadKit.Fld Z h x ST "coder" "B" (.int cd)) (K : RoadKit.Arv Z h t kb .byte N2 vs (.int 0)) (hc : CodA cs cd N2 vs) (hb : ∀ c ∈ cs, ¬ c < 0 ∧ ¬ (65535 : Int32) < c) (l2 : cs.length ≤ 4000)
    {y t' : Addr} {kb' : ClassId} {ds : List Int32} {cd' N2' : Int32} {vs' : List Value} (E' : RoadKit.Exa Z h y ST) (V' : RoadKit.Fld Z h y ST "value" "[B" (.ref t')) (C' : RoadKit.Fld Z h y ST "coder" "B" (.int cd')) (K' : RoadKit.Arv Z h t' kb' .byte N2' vs' (.int 0)) (hc' : CodA ds cd' N2' vs') (hb' : ∀ c ∈ ds, ¬ c < 0 ∧ ¬ (65535 : Int32) < c) (l2' : ds.length ≤ 4000)
    {z : Int32} (S : RoadKit.Sta Z h ST "COMPACT_STRINGS" "Z" (.int z)) (hz : ¬ z = 0) (hfr : 2 ≤ R.frames) (hlo : W + 28 ≤ R.locals) :
    Back l R p e below s args (⟨"java/lang/String", "equals", "(Ljava/lang/Object;)Z"⟩ : MethodName) len W (fun P a => a = #[.ref x, .ref y] ∧ P.U.heap = h ∧ P.cells + 0 ≤ R.cells ∧ P.slots + 0 ≤ R.slots)
      (fun P _ v B => ∃ L, (((v = some (.int 1) ∧ cs = ds) ∨ (v = some (.int 0) ∧ ¬ cs = ds)) ∧ L = [] ∧ B.U.heap = h) ∧ B.locs = P.locs ++ L ∧ B.cells = P.cells + 0 ∧ B.slots = P.slots + 0) := by
  intro m meth c P g ig mk a X hg hsize hdg hW hn hp'
  obtain ⟨rfl, rfl, r1, r2⟩ := hp'
  have al : Z.vm.Alike P.U.vm := hZ.alike.trans X.warmed.alike
  obtain ⟨A, hx⟩ := txt_of wi al E V C K hc hb l2
  obtain ⟨A', hy⟩ := txt_of wi al E' V' C' K' hc' hb' l2'
  obtain ⟨v, B, X', ⟨⟨w, hv, hh, hq⟩, hl, hk, hs⟩, st⟩ := SEq.pays x t A cd cs.length (fun j => cs.getD j 0) y t' A' cd' ds.length (fun j => ds.getD j 0) z (tabEq_of (movedEq hZ hw)) hfr hlo m meth c P g ig mk _ X hg hsize hdg hW hn ⟨r1, r2, rfl, hx, hy, sta_is al S, hz⟩
  refine ⟨v, B, X', ⟨[], ⟨?_, rfl, hh⟩, hl, hk, hs⟩, st⟩
  rcases hq with ⟨rfl, q⟩ | ⟨rfl, q⟩
  · exact Or.inl ⟨hv, (same_list cs ds).mp q⟩
  · exact Or.inr ⟨hv, fun e => q ((same_list cs ds).mpr e)⟩
end StrChars.Road
namespace StrChars.Road
open Jvm Sem ClassFile Op Lib Jvm.Stand Jvm.Free Jvm.Free.XT
open Jvm.Lib.Cold (StaticIs)
/-- what backV says of its String, as the contracts of this text ask it: cs's low bytes, coder 0 -/
theorem codOf {cs : List Int32} {n : Nat} (hn : cs.length = n) (hb : ∀ c ∈ cs, ¬ 255 < c) : CodA cs 0 (Int32.ofNat n) ((cs.map lo8).map Value.int) := Or.inl ⟨rfl, by rw [hn], by simp [List.map_map, Function.comp_def], hb⟩
end StrChars.Road
end Jvm.Pilot.@@N@@

namespace Jvm.RoadKit
open Sem ClassFile Op Lib Jvm.Stand Jvm.Free Jvm.LawKit
section New
variable {p : Program} {l : Launch} {e : Env} {R : Room} {s : State} {m : MethodId} {args : Array Value} {below : List Frame} {meth : Method} {c : Code} {T : State} {locs : List Loc} {cells slots : Nat}
theorem retI (X : Stand p l e R s m args below meth c T locs cells slots) (hx : p.tables.exec = Jvm.exec) {pc : Nat} {Ls : Array Slot} {z : Int32} {rest : List Value} (hret : meth.sig.returnType = some .int) (hd : decode c.code pc = .ok (.ireturn, 1)) {fs : List Frame}
    (hl : ∀ (f : JFrame) (acts : List Action), f.method = m → f.locked = none → f.entered = [] → (doReturn e (T.setTop f) acts (some (.int z))).1 = T.setFrames fs) : Steps p.tables e below (T.setTop (mkF m pc Ls (.int z :: rest))) (T.setFrames fs) := by
  have hm' : T.vm.method? m = some meth := X.method'
  have hn : narrow .int (.int z) = .int z := rfl
  show Steps p.tables e below (T.setTop { method := m, pc := pc, locals := Ls, stack := _ :: rest, locked := none }) _
  jvm_step X.here [X.here.top, hx, hd, hm', hret, hn]
  first | (intro acts; rw [hl _ acts rfl rfl rfl]) | rw [hl _ _ rfl rfl rfl]
  exact Steps.refl _
end New
end Jvm.RoadKit
namespace Jvm.Pilot.@@N@@
open Jvm Jvm.ClassFile Sem Op Lib Jvm.Free Jvm.Stand Jvm.LawKit Jvm.RoadKit Bundle Jvm.Pilot.@@N@@.Jvm.D
theorem own_lclt {x y : Int64} (h : x < y) : lcmpW x y < 0 := by rw [lcW]; exact (lc_lt x y).2 h
theorem own_lcge {x y : Int64} (h : ¬ x < y) : ¬ (lcmpW x y < 0) := by rw [lcW]; exact fun k => h ((lc_lt x y).1 k)
theorem own_lcgt {x y : Int64} (h : y < x) : 0 < lcmpW x y := by rw [lcW]; exact (lc_gt x y).2 h
theorem own_lcle {x y : Int64} (h : ¬ y < x) : ¬ (0 < lcmpW x y) := by rw [lcW]; exact fun k => h ((lc_gt x y).1 k)
theorem own_lceq {x y : Int64} (h : x = y) : lcmpW x y = 0 := by rw [lcW]; exact (lc_eq x y).2 h
theorem own_lcne {x y : Int64} (h : ¬ (x = y)) : ¬ (lcmpW x y = 0) := by rw [lcW]; exact fun k => h ((lc_eq x y).1 k)
theorem tw0 {Z : State} {a0 : Array Value} (hw : ∀ d ∈ tables_1, d.before a0 Z = true) : ((Jvm.Cond.methodLink "com/example/rightful_keys/rightfulkeys/store/ProjectIsDefaultPinLaw" (12 : Nat) ({ cls := "com/example/rightful_keys/rightfulkeys/store/ProjectIsDefaultPinLaw", name := "mk", desc := "(ICCC)Ljava/lang/String;" } : Jvm.MethodName)) : Jvm.Cond).before a0 Z = true := hw _ (List.mem_of_getElem? (i := 0) rfl)
theorem tw1 {Z : State} {a0 : Array Value} (hw : ∀ d ∈ tables_1, d.before a0 Z = true) : ((Jvm.Cond.static ({ cls := "com/example/rightful_keys/rightfulkeys/store/ProjectIsDefaultPinLaw", name := "mk", desc := "(ICCC)Ljava/lang/String;" } : Jvm.MethodName)) : Jvm.Cond).before a0 Z = true := hw _ (List.mem_of_getElem? (i := 1) rfl)
theorem tw2 {Z : State} {a0 : Array Value} (hw : ∀ d ∈ tables_1, d.before a0 Z = true) : ((Jvm.Cond.initialized "com/example/rightful_keys/rightfulkeys/store/ProjectIsDefaultPinLaw") : Jvm.Cond).before a0 Z = true := hw _ (List.mem_of_getElem? (i := 2) rfl)
theorem tw3 {Z : State} {a0 : Array Value} (hw : ∀ d ∈ tables_1, d.before a0 Z = true) : ((Jvm.Cond.code ({ cls := "com/example/rightful_keys/rightfulkeys/store/ProjectIsDefaultPinLaw", name := "mk", desc := "(ICCC)Ljava/lang/String;" } : Jvm.MethodName) method_2_code (4 : Nat) (Option.some (Jvm.ClassFile.FieldType.object "java/lang/String"))) : Jvm.Cond).before a0 Z = true := hw _ (List.mem_of_getElem? (i := 3) rfl)
theorem tw4 {Z : State} {a0 : Array Value} (hw : ∀ d ∈ tables_1, d.before a0 Z = true) : ((Jvm.Cond.classLink "com/example/rightful_keys/rightfulkeys/store/ProjectIsDefaultPinLaw" (7 : Nat) "java/lang/String") : Jvm.Cond).before a0 Z = true := hw _ (List.mem_of_getElem? (i := 4) rfl)
theorem tw5 {Z : State} {a0 : Array Value} (hw : ∀ d ∈ tables_1, d.before a0 Z = true) : ((Jvm.Cond.instantiable "java/lang/String" (4 : Nat)) : Jvm.Cond).before a0 Z = true := hw _ (List.mem_of_getElem? (i := 5) rfl)
theorem tw6 {Z : State} {a0 : Array Value} (hw : ∀ d ∈ tables_1, d.before a0 Z = true) : ((Jvm.Cond.initialized "java/lang/String") : Jvm.Cond).before a0 Z = true := hw _ (List.mem_of_getElem? (i := 6) rfl)
theorem tw7 {Z : State} {a0 : Array Value} (hw : ∀ d ∈ tables_1, d.before a0 Z = true) : ((Jvm.Cond.arrayClass Jvm.ClassFile.FieldType.char) : Jvm.Cond).before a0 Z = true := hw _ (List.mem_of_getElem? (i := 7) rfl)
theorem tw8 {Z : State} {a0 : Array Value} (hw : ∀ d ∈ tables_1, d.before a0 Z = true) : ((Jvm.Cond.methodLink "com/example/rightful_keys/rightfulkeys/store/ProjectIsDefaultPinLaw" (9 : Nat) ({ cls := "java/lang/String", name := "<init>", desc := "([C)V" } : Jvm.MethodName)) : Jvm.Cond).before a0 Z = true := hw _ (List.mem_of_getElem? (i := 8) rfl)
theorem tw9 {Z : State} {a0 : Array Value} (hw : ∀ d ∈ tables_1, d.before a0 Z = true) : ((Jvm.Cond.instanceMethod ({ cls := "java/lang/String", name := "<init>", desc := "([C)V" } : Jvm.MethodName)) : Jvm.Cond).before a0 Z = true := hw _ (List.mem_of_getElem? (i := 9) rfl)
theorem tw10 {Z : State} {a0 : Array Value} (hw : ∀ d ∈ tables_1, d.before a0 Z = true) : ((Jvm.Cond.code ({ cls := "java/lang/String", name := "<init>", desc := "([C)V" } : Jvm.MethodName) jdk_42_method_3_code (2 : Nat) (Option.none : Option Jvm.ClassFile.FieldType)) : Jvm.Cond).before a0 Z = true := hw _ (List.mem_of_getElem? (i := 10) rfl)
theorem tw11 {Z : State} {a0 : Array Value} (hw : ∀ d ∈ tables_1, d.before a0 Z = true) : ((Jvm.Cond.methodLink "java/lang/String" (27 : Nat) ({ cls := "java/lang/String", name := "<init>", desc := "([CIILjava/lang/Void;)V" } : Jvm.MethodName)) : Jvm.Cond).before a0 Z = true := hw _ (List.mem_of_getElem? (i := 11) rfl)
theorem tw12 {Z : State} {a0 : Array Value} (hw : ∀ d ∈ tables_1, d.before a0 Z = true) : ((Jvm.Cond.instanceMethod ({ cls := "java/lang/String", name := "<init>", desc := "([CIILjava/lang/Void;)V" } : Jvm.MethodName)) : Jvm.Cond).before a0 Z = true := hw _ (List.mem_of_getElem? (i := 12) rfl)
theorem tw14 {Z : State} {a0 : Array Value} (hw : ∀ d ∈ tables_1, d.before a0 Z = true) : ((Jvm.Cond.code ({ cls := "java/lang/String", name := "<init>", desc := "([CIILjava/lang/Void;)V" } : Jvm.MethodName) jdk_42_method_149_code (6 : Nat) (Option.none : Option Jvm.ClassFile.FieldType)) : Jvm.Cond).before a0 Z = true := hw _ (List.mem_of_getElem? (i := 14) rfl)
theorem tw15 {Z : State} {a0 : Array Value} (hw : ∀ d ∈ tables_1, d.before a0 Z = true) : ((Jvm.Cond.methodLink "java/lang/String" (1 : Nat) ({ cls := "java/lang/Object", name := "<init>", desc := "()V" } : Jvm.MethodName)) : Jvm.Cond).before a0 Z = true := hw _ (List.mem_of_getElem? (i := 15) rfl)
theorem tw16 {Z : State} {a0 : Array Value} (hw : ∀ d ∈ tables_1, d.before a0 Z = true) : ((Jvm.Cond.instanceMethod ({ cls := "java/lang/Object", name := "<init>", desc := "()V" } : Jvm.MethodName)) : Jvm.Cond).before a0 Z = true := hw _ (List.mem_of_getElem? (i := 16) rfl)
theorem tw17 {Z : State} {a0 : Array Value} (hw : ∀ d ∈ tables_1, d.before a0 Z = true) : ((Jvm.Cond.code ({ cls := "java/lang/Object", name := "<init>", desc := "()V" } : Jvm.MethodName) object_method_1_code (1 : Nat) (Option.none : Option Jvm.ClassFile.FieldType)) : Jvm.Cond).before a0 Z = true := hw _ (List.mem_of_getElem? (i := 17) rfl)
theorem tw18 {Z : State} {a0 : Array Value} (hw : ∀ d ∈ tables_1, d.before a0 Z = true) : ((Jvm.Cond.fieldLink "java/lang/String" (38 : Nat) "java/lang/String" "COMPACT_STRINGS" "Z") : Jvm.Cond).before a0 Z = true := hw _ (List.mem_of_getElem? (i := 18) rfl)
theorem tw23 {Z : State} {a0 : Array Value} (hw : ∀ d ∈ tables_1, d.before a0 Z = true) : ((Jvm.Cond.arrayClass Jvm.ClassFile.FieldType.byte) : Jvm.Cond).before a0 Z = true := hw _ (List.mem_of_getElem? (i := 23) rfl)
theorem tw30 {Z : State} {a0 : Array Value} (hw : ∀ d ∈ tables_1, d.before a0 Z = true) : ((Jvm.Cond.fieldLink "java/lang/String" (15 : Nat) "java/lang/String" "coder" "B") : Jvm.Cond).before a0 Z = true := hw _ (List.mem_of_getElem? (i := 30) rfl)
theorem tw31 {Z : State} {a0 : Array Value} (hw : ∀ d ∈ tables_1, d.before a0 Z = true) : ((Jvm.Cond.laysFinal "java/lang/String" "java/lang/String" "coder" "B") : Jvm.Cond).before a0 Z = true := hw _ (List.mem_of_getElem? (i := 31) rfl)
theorem tw32 {Z : State} {a0 : Array Value} (hw : ∀ d ∈ tables_1, d.before a0 Z = true) : ((Jvm.Cond.fieldLink "java/lang/String" (9 : Nat) "java/lang/String" "value" "[B") : Jvm.Cond).before a0 Z = true := hw _ (List.mem_of_getElem? (i := 32) rfl)
theorem tw33 {Z : State} {a0 : Array Value} (hw : ∀ d ∈ tables_1, d.before a0 Z = true) : ((Jvm.Cond.laysFinal "java/lang/String" "java/lang/String" "value" "[B") : Jvm.Cond).before a0 Z = true := hw _ (List.mem_of_getElem? (i := 33) rfl)
theorem tw34 {Z : State} {a0 : Array Value} (hw : ∀ d ∈ tables_1, d.before a0 Z = true) : ((Jvm.Cond.stringLink "java/lang/String" (7 : Nat) "") : Jvm.Cond).before a0 Z = true := hw _ (List.mem_of_getElem? (i := 34) rfl)
theorem tw37 {Z : State} {a0 : Array Value} (hw : ∀ d ∈ tables_1, d.before a0 Z = true) : ((Jvm.Cond.methodLink "com/example/rightful_keys/rightfulkeys/store/ProjectIsDefaultPinLaw" (18 : Nat) ({ cls := "java/lang/String", name := "valueOf", desc := "(C)Ljava/lang/String;" } : Jvm.MethodName)) : Jvm.Cond).before a0 Z = true := hw _ (List.mem_of_getElem? (i := 37) rfl)
theorem tw38 {Z : State} {a0 : Array Value} (hw : ∀ d ∈ tables_1, d.before a0 Z = true) : ((Jvm.Cond.static ({ cls := "java/lang/String", name := "valueOf", desc := "(C)Ljava/lang/String;" } : Jvm.MethodName)) : Jvm.Cond).before a0 Z = true := hw _ (List.mem_of_getElem? (i := 38) rfl)
theorem tw39 {Z : State} {a0 : Array Value} (hw : ∀ d ∈ tables_1, d.before a0 Z = true) : ((Jvm.Cond.code ({ cls := "java/lang/String", name := "valueOf", desc := "(C)Ljava/lang/String;" } : Jvm.MethodName) jdk_42_method_139_code (1 : Nat) (Option.some (Jvm.ClassFile.FieldType.object "java/lang/String"))) : Jvm.Cond).before a0 Z = true := hw _ (List.mem_of_getElem? (i := 39) rfl)
theorem tw40 {Z : State} {a0 : Array Value} (hw : ∀ d ∈ tables_1, d.before a0 Z = true) : ((Jvm.Cond.methodLink "java/lang/String" (1015 : Nat) ({ cls := "java/lang/StringLatin1", name := "canEncode", desc := "(C)Z" } : Jvm.MethodName)) : Jvm.Cond).before a0 Z = true := hw _ (List.mem_of_getElem? (i := 40) rfl)
theorem tw41 {Z : State} {a0 : Array Value} (hw : ∀ d ∈ tables_1, d.before a0 Z = true) : ((Jvm.Cond.static ({ cls := "java/lang/StringLatin1", name := "canEncode", desc := "(C)Z" } : Jvm.MethodName)) : Jvm.Cond).before a0 Z = true := hw _ (List.mem_of_getElem? (i := 41) rfl)
theorem tw42 {Z : State} {a0 : Array Value} (hw : ∀ d ∈ tables_1, d.before a0 Z = true) : ((Jvm.Cond.initialized "java/lang/StringLatin1") : Jvm.Cond).before a0 Z = true := hw _ (List.mem_of_getElem? (i := 42) rfl)
theorem tw43 {Z : State} {a0 : Array Value} (hw : ∀ d ∈ tables_1, d.before a0 Z = true) : ((Jvm.Cond.code ({ cls := "java/lang/StringLatin1", name := "canEncode", desc := "(C)Z" } : Jvm.MethodName) jdk_43_method_3_code (1 : Nat) (Option.some Jvm.ClassFile.FieldType.boolean)) : Jvm.Cond).before a0 Z = true := hw _ (List.mem_of_getElem? (i := 43) rfl)
theorem tw44 {Z : State} {a0 : Array Value} (hw : ∀ d ∈ tables_1, d.before a0 Z = true) : ((Jvm.Cond.classLink "java/lang/String" (10 : Nat) "java/lang/String") : Jvm.Cond).before a0 Z = true := hw _ (List.mem_of_getElem? (i := 44) rfl)
theorem tw45 {Z : State} {a0 : Array Value} (hw : ∀ d ∈ tables_1, d.before a0 Z = true) : ((Jvm.Cond.methodLink "java/lang/String" (1018 : Nat) ({ cls := "java/lang/StringLatin1", name := "toBytes", desc := "(C)[B" } : Jvm.MethodName)) : Jvm.Cond).before a0 Z = true := hw _ (List.mem_of_getElem? (i := 45) rfl)
theorem tw46 {Z : State} {a0 : Array Value} (hw : ∀ d ∈ tables_1, d.before a0 Z = true) : ((Jvm.Cond.static ({ cls := "java/lang/StringLatin1", name := "toBytes", desc := "(C)[B" } : Jvm.MethodName)) : Jvm.Cond).before a0 Z = true := hw _ (List.mem_of_getElem? (i := 46) rfl)
theorem tw47 {Z : State} {a0 : Array Value} (hw : ∀ d ∈ tables_1, d.before a0 Z = true) : ((Jvm.Cond.code ({ cls := "java/lang/StringLatin1", name := "toBytes", desc := "(C)[B" } : Jvm.MethodName) jdk_43_method_46_code (1 : Nat) (Option.some (Jvm.ClassFile.FieldType.array Jvm.ClassFile.FieldType.byte))) : Jvm.Cond).before a0 Z = true := hw _ (List.mem_of_getElem? (i := 47) rfl)
theorem tw48 {Z : State} {a0 : Array Value} (hw : ∀ d ∈ tables_1, d.before a0 Z = true) : ((Jvm.Cond.methodLink "java/lang/String" (209 : Nat) ({ cls := "java/lang/String", name := "<init>", desc := "([BB)V" } : Jvm.MethodName)) : Jvm.Cond).before a0 Z = true := hw _ (List.mem_of_getElem? (i := 48) rfl)
theorem tw49 {Z : State} {a0 : Array Value} (hw : ∀ d ∈ tables_1, d.before a0 Z = true) : ((Jvm.Cond.instanceMethod ({ cls := "java/lang/String", name := "<init>", desc := "([BB)V" } : Jvm.MethodName)) : Jvm.Cond).before a0 Z = true := hw _ (List.mem_of_getElem? (i := 49) rfl)
theorem tw50 {Z : State} {a0 : Array Value} (hw : ∀ d ∈ tables_1, d.before a0 Z = true) : ((Jvm.Cond.code ({ cls := "java/lang/String", name := "<init>", desc := "([BB)V" } : Jvm.MethodName) jdk_42_method_151_code (3 : Nat) (Option.none : Option Jvm.ClassFile.FieldType)) : Jvm.Cond).before a0 Z = true := hw _ (List.mem_of_getElem? (i := 50) rfl)
theorem tw51 {Z : State} {a0 : Array Value} (hw : ∀ d ∈ tables_1, d.before a0 Z = true) : ((Jvm.Cond.classLink "com/example/rightful_keys/rightfulkeys/store/ProjectIsDefaultPinLaw" (22 : Nat) "com/example/rightful_keys/rightfulkeys/store/Account") : Jvm.Cond).before a0 Z = true := hw _ (List.mem_of_getElem? (i := 51) rfl)
theorem tw52 {Z : State} {a0 : Array Value} (hw : ∀ d ∈ tables_1, d.before a0 Z = true) : ((Jvm.Cond.instantiable "com/example/rightful_keys/rightfulkeys/store/Account" (2 : Nat)) : Jvm.Cond).before a0 Z = true := hw _ (List.mem_of_getElem? (i := 52) rfl)
theorem tw53 {Z : State} {a0 : Array Value} (hw : ∀ d ∈ tables_1, d.before a0 Z = true) : ((Jvm.Cond.initialized "com/example/rightful_keys/rightfulkeys/store/Account") : Jvm.Cond).before a0 Z = true := hw _ (List.mem_of_getElem? (i := 53) rfl)
theorem tw54 {Z : State} {a0 : Array Value} (hw : ∀ d ∈ tables_1, d.before a0 Z = true) : ((Jvm.Cond.methodLink "com/example/rightful_keys/rightfulkeys/store/ProjectIsDefaultPinLaw" (24 : Nat) ({ cls := "com/example/rightful_keys/rightfulkeys/store/Account", name := "<init>", desc := "(Ljava/lang/String;Ljava/lang/String;)V" } : Jvm.MethodName)) : Jvm.Cond).before a0 Z = true := hw _ (List.mem_of_getElem? (i := 54) rfl)
theorem tw55 {Z : State} {a0 : Array Value} (hw : ∀ d ∈ tables_1, d.before a0 Z = true) : ((Jvm.Cond.instanceMethod ({ cls := "com/example/rightful_keys/rightfulkeys/store/Account", name := "<init>", desc := "(Ljava/lang/String;Ljava/lang/String;)V" } : Jvm.MethodName)) : Jvm.Cond).before a0 Z = true := hw _ (List.mem_of_getElem? (i := 55) rfl)
theorem tw56 {Z : State} {a0 : Array Value} (hw : ∀ d ∈ tables_1, d.before a0 Z = true) : ((Jvm.Cond.code ({ cls := "com/example/rightful_keys/rightfulkeys/store/Account", name := "<init>", desc := "(Ljava/lang/String;Ljava/lang/String;)V" } : Jvm.MethodName) prog_50_method_1_code (3 : Nat) (Option.none : Option Jvm.ClassFile.FieldType)) : Jvm.Cond).before a0 Z = true := hw _ (List.mem_of_getElem? (i := 56) rfl)
theorem tw57 {Z : State} {a0 : Array Value} (hw : ∀ d ∈ tables_1, d.before a0 Z = true) : ((Jvm.Cond.methodLink "com/example/rightful_keys/rightfulkeys/store/Account" (1 : Nat) ({ cls := "java/lang/Record", name := "<init>", desc := "()V" } : Jvm.MethodName)) : Jvm.Cond).before a0 Z = true := hw _ (List.mem_of_getElem? (i := 57) rfl)
theorem tw58 {Z : State} {a0 : Array Value} (hw : ∀ d ∈ tables_1, d.before a0 Z = true) : ((Jvm.Cond.instanceMethod ({ cls := "java/lang/Record", name := "<init>", desc := "()V" } : Jvm.MethodName)) : Jvm.Cond).before a0 Z = true := hw _ (List.mem_of_getElem? (i := 58) rfl)
theorem tw60 {Z : State} {a0 : Array Value} (hw : ∀ d ∈ tables_1, d.before a0 Z = true) : ((Jvm.Cond.initialized "java/lang/Record") : Jvm.Cond).before a0 Z = true := hw _ (List.mem_of_getElem? (i := 60) rfl)
theorem tw61 {Z : State} {a0 : Array Value} (hw : ∀ d ∈ tables_1, d.before a0 Z = true) : ((Jvm.Cond.code ({ cls := "java/lang/Record", name := "<init>", desc := "()V" } : Jvm.MethodName) jdk_30_method_1_code (1 : Nat) (Option.none : Option Jvm.ClassFile.FieldType)) : Jvm.Cond).before a0 Z = true := hw _ (List.mem_of_getElem? (i := 61) rfl)
theorem tw62 {Z : State} {a0 : Array Value} (hw : ∀ d ∈ tables_1, d.before a0 Z = true) : ((Jvm.Cond.methodLink "java/lang/Record" (1 : Nat) ({ cls := "java/lang/Object", name := "<init>", desc := "()V" } : Jvm.MethodName)) : Jvm.Cond).before a0 Z = true := hw _ (List.mem_of_getElem? (i := 62) rfl)
theorem tw63 {Z : State} {a0 : Array Value} (hw : ∀ d ∈ tables_1, d.before a0 Z = true) : ((Jvm.Cond.fieldLink "com/example/rightful_keys/rightfulkeys/store/Account" (7 : Nat) "com/example/rightful_keys/rightfulkeys/store/Account" "id" "Ljava/lang/String;") : Jvm.Cond).before a0 Z = true := hw _ (List.mem_of_getElem? (i := 63) rfl)
theorem tw64 {Z : State} {a0 : Array Value} (hw : ∀ d ∈ tables_1, d.before a0 Z = true) : ((Jvm.Cond.laysFinal "com/example/rightful_keys/rightfulkeys/store/Account" "com/example/rightful_keys/rightfulkeys/store/Account" "id" "Ljava/lang/String;") : Jvm.Cond).before a0 Z = true := hw _ (List.mem_of_getElem? (i := 64) rfl)
theorem tw65 {Z : State} {a0 : Array Value} (hw : ∀ d ∈ tables_1, d.before a0 Z = true) : ((Jvm.Cond.fieldLink "com/example/rightful_keys/rightfulkeys/store/Account" (13 : Nat) "com/example/rightful_keys/rightfulkeys/store/Account" "name" "Ljava/lang/String;") : Jvm.Cond).before a0 Z = true := hw _ (List.mem_of_getElem? (i := 65) rfl)
theorem tw66 {Z : State} {a0 : Array Value} (hw : ∀ d ∈ tables_1, d.before a0 Z = true) : ((Jvm.Cond.laysFinal "com/example/rightful_keys/rightfulkeys/store/Account" "com/example/rightful_keys/rightfulkeys/store/Account" "name" "Ljava/lang/String;") : Jvm.Cond).before a0 Z = true := hw _ (List.mem_of_getElem? (i := 66) rfl)
theorem tw67 {Z : State} {a0 : Array Value} (hw : ∀ d ∈ tables_1, d.before a0 Z = true) : ((Jvm.Cond.classLink "com/example/rightful_keys/rightfulkeys/store/ProjectIsDefaultPinLaw" (27 : Nat) "com/example/rightful_keys/rightfulkeys/store/Project") : Jvm.Cond).before a0 Z = true := hw _ (List.mem_of_getElem? (i := 67) rfl)
theorem tw68 {Z : State} {a0 : Array Value} (hw : ∀ d ∈ tables_1, d.before a0 Z = true) : ((Jvm.Cond.instantiable "com/example/rightful_keys/rightfulkeys/store/Project" (6 : Nat)) : Jvm.Cond).before a0 Z = true := hw _ (List.mem_of_getElem? (i := 68) rfl)
theorem tw69 {Z : State} {a0 : Array Value} (hw : ∀ d ∈ tables_1, d.before a0 Z = true) : ((Jvm.Cond.initialized "com/example/rightful_keys/rightfulkeys/store/Project") : Jvm.Cond).before a0 Z = true := hw _ (List.mem_of_getElem? (i := 69) rfl)
theorem tw70 {Z : State} {a0 : Array Value} (hw : ∀ d ∈ tables_1, d.before a0 Z = true) : ((Jvm.Cond.methodLink "com/example/rightful_keys/rightfulkeys/store/ProjectIsDefaultPinLaw" (29 : Nat) ({ cls := "com/example/rightful_keys/rightfulkeys/store/Project", name := "<init>", desc := "(Ljava/lang/String;Ljava/lang/String;Lcom/example/rightful_keys/rightfulkeys/store/Account;Ljava/lang/String;ZLjava/lang/String;)V" } : Jvm.MethodName)) : Jvm.Cond).before a0 Z = true := hw _ (List.mem_of_getElem? (i := 70) rfl)
theorem tw71 {Z : State} {a0 : Array Value} (hw : ∀ d ∈ tables_1, d.before a0 Z = true) : ((Jvm.Cond.instanceMethod ({ cls := "com/example/rightful_keys/rightfulkeys/store/Project", name := "<init>", desc := "(Ljava/lang/String;Ljava/lang/String;Lcom/example/rightful_keys/rightfulkeys/store/Account;Ljava/lang/String;ZLjava/lang/String;)V" } : Jvm.MethodName)) : Jvm.Cond).before a0 Z = true := hw _ (List.mem_of_getElem? (i := 71) rfl)
theorem tw72 {Z : State} {a0 : Array Value} (hw : ∀ d ∈ tables_1, d.before a0 Z = true) : ((Jvm.Cond.code ({ cls := "com/example/rightful_keys/rightfulkeys/store/Project", name := "<init>", desc := "(Ljava/lang/String;Ljava/lang/String;Lcom/example/rightful_keys/rightfulkeys/store/Account;Ljava/lang/String;ZLjava/lang/String;)V" } : Jvm.MethodName) prog_63_method_1_code (7 : Nat) (Option.none : Option Jvm.ClassFile.FieldType)) : Jvm.Cond).before a0 Z = true := hw _ (List.mem_of_getElem? (i := 72) rfl)
theorem tw73 {Z : State} {a0 : Array Value} (hw : ∀ d ∈ tables_1, d.before a0 Z = true) : ((Jvm.Cond.methodLink "com/example/rightful_keys/rightfulkeys/store/Project" (1 : Nat) ({ cls := "java/lang/Record", name := "<init>", desc := "()V" } : Jvm.MethodName)) : Jvm.Cond).before a0 Z = true := hw _ (List.mem_of_getElem? (i := 73) rfl)
theorem tw74 {Z : State} {a0 : Array Value} (hw : ∀ d ∈ tables_1, d.before a0 Z = true) : ((Jvm.Cond.fieldLink "com/example/rightful_keys/rightfulkeys/store/Project" (7 : Nat) "com/example/rightful_keys/rightfulkeys/store/Project" "id" "Ljava/lang/String;") : Jvm.Cond).before a0 Z = true := hw _ (List.mem_of_getElem? (i := 74) rfl)
theorem tw75 {Z : State} {a0 : Array Value} (hw : ∀ d ∈ tables_1, d.before a0 Z = true) : ((Jvm.Cond.laysFinal "com/example/rightful_keys/rightfulkeys/store/Project" "com/example/rightful_keys/rightfulkeys/store/Project" "id" "Ljava/lang/String;") : Jvm.Cond).before a0 Z = true := hw _ (List.mem_of_getElem? (i := 75) rfl)
theorem tw76 {Z : State} {a0 : Array Value} (hw : ∀ d ∈ tables_1, d.before a0 Z = true) : ((Jvm.Cond.fieldLink "com/example/rightful_keys/rightfulkeys/store/Project" (13 : Nat) "com/example/rightful_keys/rightfulkeys/store/Project" "name" "Ljava/lang/String;") : Jvm.Cond).before a0 Z = true := hw _ (List.mem_of_getElem? (i := 76) rfl)
theorem tw77 {Z : State} {a0 : Array Value} (hw : ∀ d ∈ tables_1, d.before a0 Z = true) : ((Jvm.Cond.laysFinal "com/example/rightful_keys/rightfulkeys/store/Project" "com/example/rightful_keys/rightfulkeys/store/Project" "name" "Ljava/lang/String;") : Jvm.Cond).before a0 Z = true := hw _ (List.mem_of_getElem? (i := 77) rfl)
theorem tw78 {Z : State} {a0 : Array Value} (hw : ∀ d ∈ tables_1, d.before a0 Z = true) : ((Jvm.Cond.fieldLink "com/example/rightful_keys/rightfulkeys/store/Project" (16 : Nat) "com/example/rightful_keys/rightfulkeys/store/Project" "account" "Lcom/example/rightful_keys/rightfulkeys/store/Account;") : Jvm.Cond).before a0 Z = true := hw _ (List.mem_of_getElem? (i := 78) rfl)
theorem tw79 {Z : State} {a0 : Array Value} (hw : ∀ d ∈ tables_1, d.before a0 Z = true) : ((Jvm.Cond.laysFinal "com/example/rightful_keys/rightfulkeys/store/Project" "com/example/rightful_keys/rightfulkeys/store/Project" "account" "Lcom/example/rightful_keys/rightfulkeys/store/Account;") : Jvm.Cond).before a0 Z = true := hw _ (List.mem_of_getElem? (i := 79) rfl)
theorem tw80 {Z : State} {a0 : Array Value} (hw : ∀ d ∈ tables_1, d.before a0 Z = true) : ((Jvm.Cond.fieldLink "com/example/rightful_keys/rightfulkeys/store/Project" (20 : Nat) "com/example/rightful_keys/rightfulkeys/store/Project" "description" "Ljava/lang/String;") : Jvm.Cond).before a0 Z = true := hw _ (List.mem_of_getElem? (i := 80) rfl)
theorem tw81 {Z : State} {a0 : Array Value} (hw : ∀ d ∈ tables_1, d.before a0 Z = true) : ((Jvm.Cond.laysFinal "com/example/rightful_keys/rightfulkeys/store/Project" "com/example/rightful_keys/rightfulkeys/store/Project" "description" "Ljava/lang/String;") : Jvm.Cond).before a0 Z = true := hw _ (List.mem_of_getElem? (i := 81) rfl)
theorem tw82 {Z : State} {a0 : Array Value} (hw : ∀ d ∈ tables_1, d.before a0 Z = true) : ((Jvm.Cond.fieldLink "com/example/rightful_keys/rightfulkeys/store/Project" (23 : Nat) "com/example/rightful_keys/rightfulkeys/store/Project" "enabled" "Z") : Jvm.Cond).before a0 Z = true := hw _ (List.mem_of_getElem? (i := 82) rfl)
theorem tw83 {Z : State} {a0 : Array Value} (hw : ∀ d ∈ tables_1, d.before a0 Z = true) : ((Jvm.Cond.laysFinal "com/example/rightful_keys/rightfulkeys/store/Project" "com/example/rightful_keys/rightfulkeys/store/Project" "enabled" "Z") : Jvm.Cond).before a0 Z = true := hw _ (List.mem_of_getElem? (i := 83) rfl)
theorem tw84 {Z : State} {a0 : Array Value} (hw : ∀ d ∈ tables_1, d.before a0 Z = true) : ((Jvm.Cond.fieldLink "com/example/rightful_keys/rightfulkeys/store/Project" (27 : Nat) "com/example/rightful_keys/rightfulkeys/store/Project" "parentId" "Ljava/lang/String;") : Jvm.Cond).before a0 Z = true := hw _ (List.mem_of_getElem? (i := 84) rfl)
theorem tw85 {Z : State} {a0 : Array Value} (hw : ∀ d ∈ tables_1, d.before a0 Z = true) : ((Jvm.Cond.laysFinal "com/example/rightful_keys/rightfulkeys/store/Project" "com/example/rightful_keys/rightfulkeys/store/Project" "parentId" "Ljava/lang/String;") : Jvm.Cond).before a0 Z = true := hw _ (List.mem_of_getElem? (i := 85) rfl)
theorem tw86 {Z : State} {a0 : Array Value} (hw : ∀ d ∈ tables_1, d.before a0 Z = true) : ((Jvm.Cond.methodLink "com/example/rightful_keys/rightfulkeys/store/ProjectIsDefaultPinLaw" (32 : Nat) ({ cls := "com/example/rightful_keys/rightfulkeys/store/Project", name := "isDefault", desc := "()Z" } : Jvm.MethodName)) : Jvm.Cond).before a0 Z = true := hw _ (List.mem_of_getElem? (i := 86) rfl)
theorem tw87 {Z : State} {a0 : Array Value} (hw : ∀ d ∈ tables_1, d.before a0 Z = true) : ((Jvm.Cond.declares ({ cls := "com/example/rightful_keys/rightfulkeys/store/Project", name := "isDefault", desc := "()Z" } : Jvm.MethodName)) : Jvm.Cond).before a0 Z = true := hw _ (List.mem_of_getElem? (i := 87) rfl)
theorem tw88 {Z : State} {a0 : Array Value} (hw : ∀ d ∈ tables_1, d.before a0 Z = true) : ((Jvm.Cond.instanceMethod ({ cls := "com/example/rightful_keys/rightfulkeys/store/Project", name := "isDefault", desc := "()Z" } : Jvm.MethodName)) : Jvm.Cond).before a0 Z = true := hw _ (List.mem_of_getElem? (i := 88) rfl)
theorem tw89 {Z : State} {a0 : Array Value} (hw : ∀ d ∈ tables_1, d.before a0 Z = true) : ((Jvm.Cond.selects "com/example/rightful_keys/rightfulkeys/store/Project" ({ cls := "com/example/rightful_keys/rightfulkeys/store/Project", name := "isDefault", desc := "()Z" } : Jvm.MethodName) ({ cls := "com/example/rightful_keys/rightfulkeys/store/Project", name := "isDefault", desc := "()Z" } : Jvm.MethodName)) : Jvm.Cond).before a0 Z = true := hw _ (List.mem_of_getElem? (i := 89) rfl)
theorem tw90 {Z : State} {a0 : Array Value} (hw : ∀ d ∈ tables_1, d.before a0 Z = true) : ((Jvm.Cond.code ({ cls := "com/example/rightful_keys/rightfulkeys/store/Project", name := "isDefault", desc := "()Z" } : Jvm.MethodName) prog_63_method_2_code (1 : Nat) (Option.some Jvm.ClassFile.FieldType.boolean)) : Jvm.Cond).before a0 Z = true := hw _ (List.mem_of_getElem? (i := 90) rfl)
theorem tw91 {Z : State} {a0 : Array Value} (hw : ∀ d ∈ tables_1, d.before a0 Z = true) : ((Jvm.Cond.methodLink "com/example/rightful_keys/rightfulkeys/store/Project" (30 : Nat) ({ cls := "com/example/rightful_keys/rightfulkeys/store/Account", name := "id", desc := "()Ljava/lang/String;" } : Jvm.MethodName)) : Jvm.Cond).before a0 Z = true := hw _ (List.mem_of_getElem? (i := 91) rfl)
theorem tw92 {Z : State} {a0 : Array Value} (hw : ∀ d ∈ tables_1, d.before a0 Z = true) : ((Jvm.Cond.declares ({ cls := "com/example/rightful_keys/rightfulkeys/store/Account", name := "id", desc := "()Ljava/lang/String;" } : Jvm.MethodName)) : Jvm.Cond).before a0 Z = true := hw _ (List.mem_of_getElem? (i := 92) rfl)
theorem tw93 {Z : State} {a0 : Array Value} (hw : ∀ d ∈ tables_1, d.before a0 Z = true) : ((Jvm.Cond.instanceMethod ({ cls := "com/example/rightful_keys/rightfulkeys/store/Account", name := "id", desc := "()Ljava/lang/String;" } : Jvm.MethodName)) : Jvm.Cond).before a0 Z = true := hw _ (List.mem_of_getElem? (i := 93) rfl)
theorem tw94 {Z : State} {a0 : Array Value} (hw : ∀ d ∈ tables_1, d.before a0 Z = true) : ((Jvm.Cond.selects "com/example/rightful_keys/rightfulkeys/store/Account" ({ cls := "com/example/rightful_keys/rightfulkeys/store/Account", name := "id", desc := "()Ljava/lang/String;" } : Jvm.MethodName) ({ cls := "com/example/rightful_keys/rightfulkeys/store/Account", name := "id", desc := "()Ljava/lang/String;" } : Jvm.MethodName)) : Jvm.Cond).before a0 Z = true := hw _ (List.mem_of_getElem? (i := 94) rfl)
theorem tw95 {Z : State} {a0 : Array Value} (hw : ∀ d ∈ tables_1, d.before a0 Z = true) : ((Jvm.Cond.code ({ cls := "com/example/rightful_keys/rightfulkeys/store/Account", name := "id", desc := "()Ljava/lang/String;" } : Jvm.MethodName) prog_50_method_5_code (1 : Nat) (Option.some (Jvm.ClassFile.FieldType.object "java/lang/String"))) : Jvm.Cond).before a0 Z = true := hw _ (List.mem_of_getElem? (i := 95) rfl)
theorem tw96 {Z : State} {a0 : Array Value} (hw : ∀ d ∈ tables_1, d.before a0 Z = true) : ((Jvm.Cond.methodLink "com/example/rightful_keys/rightfulkeys/store/Project" (35 : Nat) ({ cls := "java/lang/String", name := "equals", desc := "(Ljava/lang/Object;)Z" } : Jvm.MethodName)) : Jvm.Cond).before a0 Z = true := hw _ (List.mem_of_getElem? (i := 96) rfl)
theorem tw97 {Z : State} {a0 : Array Value} (hw : ∀ d ∈ tables_1, d.before a0 Z = true) : ((Jvm.Cond.declares ({ cls := "java/lang/String", name := "equals", desc := "(Ljava/lang/Object;)Z" } : Jvm.MethodName)) : Jvm.Cond).before a0 Z = true := hw _ (List.mem_of_getElem? (i := 97) rfl)
theorem tw98 {Z : State} {a0 : Array Value} (hw : ∀ d ∈ tables_1, d.before a0 Z = true) : ((Jvm.Cond.instanceMethod ({ cls := "java/lang/String", name := "equals", desc := "(Ljava/lang/Object;)Z" } : Jvm.MethodName)) : Jvm.Cond).before a0 Z = true := hw _ (List.mem_of_getElem? (i := 98) rfl)
theorem tw99 {Z : State} {a0 : Array Value} (hw : ∀ d ∈ tables_1, d.before a0 Z = true) : ((Jvm.Cond.selects "java/lang/String" ({ cls := "java/lang/String", name := "equals", desc := "(Ljava/lang/Object;)Z" } : Jvm.MethodName) ({ cls := "java/lang/String", name := "equals", desc := "(Ljava/lang/Object;)Z" } : Jvm.MethodName)) : Jvm.Cond).before a0 Z = true := hw _ (List.mem_of_getElem? (i := 99) rfl)
theorem tw100 {Z : State} {a0 : Array Value} (hw : ∀ d ∈ tables_1, d.before a0 Z = true) : ((Jvm.Cond.code ({ cls := "java/lang/String", name := "equals", desc := "(Ljava/lang/Object;)Z" } : Jvm.MethodName) jdk_42_method_66_code (3 : Nat) (Option.some Jvm.ClassFile.FieldType.boolean)) : Jvm.Cond).before a0 Z = true := hw _ (List.mem_of_getElem? (i := 100) rfl)
def JJ (Z : State) (h : Heap) (vm : Vm) : Prop := IB Z vm [] ∨ ∃ (a b : Addr) (k : ClassId), Lit (Z.setVm vm) "java/lang/String" 7 a ∧ Exa Z h a "java/lang/String" ∧ Fld Z h a "java/lang/String" "coder" "B" (.int 0) ∧ Fld Z h a "java/lang/String" "value" "[B" (.ref b) ∧ Arv Z h b k .byte (0 : Int32) [] (.int 0)
theorem own_lit {Z s : State} {vm : Vm} {own : String} {i : Nat} {a : Addr} (L : Lit (Z.setVm vm) own i a) : Lit (s.setVm vm) own i a := L
theorem JJ.warm {Z s : State} {h : Heap} {vm' : Vm} (J : JJ Z h s.vm) (W : s.WarmedH vm') : JJ Z h vm' := by
  rcases J with ⟨more, h1, h2⟩ | ⟨a, b, k, L, r⟩
  · exact Or.inl ⟨more, by rw [W.interned_eq]; exact h1, h2⟩
  · exact Or.inr ⟨a, b, k, own_lit (Z := s) (Lit.stays (s := s) (vm0 := s.vm) (own_lit (Z := Z) L) W.wide), r⟩
theorem JJ.keep {Z : State} {h h' : Heap} {vm : Vm} (J : JJ Z h vm) (K : Keep h h' []) : JJ Z h' vm := by
  rcases J with I | ⟨a, b, k, L, E, F, V, A⟩
  · exact Or.inl I
  · exact Or.inr ⟨a, b, k, L, E.keep K, F.keep K nin0, V.keep K nin0, A.keep K nin0⟩
section BackV
variable {p : Program} {l : Launch} {e : Env} {R : Room} {s : State} {args : Array Value} {below : List Frame} {Z : State} {a0 : Array Value} {h : Heap}
theorem own_backV {y : MethodName} {bytes : ByteArray} {maxL : Nat} {ret : Option FieldType} {rm : Room} {len W : Nat} {as' : Array Value} {Q : Option Value → Heap → Vm → List Loc → Prop}
    (hM : MetFree l y (head1 [Jvm.Cond.code y bytes maxL ret] rm) (fun a U => a = as' ∧ Z.Warmed39 U.vm ∧ U.heap = h ∧ JJ Z h U.vm) (fun _ _ _ _ _ => True) (fun _ U o U' => ∃ v L, o = .returned v ∧ Q v U'.heap U'.vm L ∧ ReturnedEndW U o U' L rm.cells rm.slots))
    (hZ : Z.Warmed39 s.vm) (hJ : JJ Z h s.vm) (wc : (Jvm.Cond.code y bytes maxL ret).before a0 Z = true) (wz : (Jvm.Cond.initialized y.cls).before a0 Z = true) (hf : rm.frames + 1 ≤ R.frames) (hl : W + (maxL + 11) + rm.locals ≤ R.locals) :
    BackS l R p e below s args y len W (fun A a => a = as' ∧ A.U.heap = h ∧ A.cells + rm.cells ≤ R.cells ∧ A.slots + rm.slots ≤ R.slots)
      (fun A _ v B => ∃ L, Q v B.U.heap B.U.vm L ∧ B.locs = A.locs ++ L ∧ B.cells = A.cells + rm.cells ∧ B.slots = A.slots + rm.slots) :=
  BackS.of_freeW (bytes := bytes) (maxL := maxL) (ret := ret) (E := fun _ _ o t L k n => k = rm.cells ∧ n = rm.slots ∧ ∃ v, o = .returned v ∧ Q v t.heap t.vm L) hM hf hl
    (fun m meth c A a Y hp => have hU : Z.Warmed39 A.U.vm := wtrans hZ Y.warmed
      ⟨by show (Jvm.Cond.and _ .tt).before a A.U = true; rw [Cond.before_and, mv hU wc]; rfl, mv hU wc, mv hU wz, hp.2.2.1, hp.2.2.2⟩)
    (fun m meth c A a g mk Y hp => ⟨hp.1, wtrans hZ Y.warmed, hp.2.1, JJ.warm hJ Y.warmed⟩) (fun _ _ _ _ _ _ _ _ _ => trivial)
    (fun _ _ _ _ ⟨v, L, h1, h2, h3⟩ => ⟨L, _, _, h3, rfl, rfl, v, h1, h2⟩)
    (fun m meth c A a g mk v t L k n Y hp _ _ ⟨e1, e2, v', e3, e4⟩ => by cases e3; subst e1 e2; exact ⟨L, e4, rfl, rfl, rfl⟩)
end BackV
def csv (n a b c : Int32) : List Int32 := if n = 0 then [] else if n = 1 then [a] else if n = 2 then [a, b] else [a, b, c]
def Q4 (n : Int32) : Prop := n = 0 ∨ n = 1 ∨ n = 2 ∨ n = 3
theorem own_cs {n m a b c a' b' c' : Int32} (hn : Q4 n) (hm : Q4 m) : csv n a b c = csv m a' b' c' ↔ n = m ∧ (n < 1 ∨ a = a') ∧ (n < 2 ∨ b = b') ∧ (n < 3 ∨ c = c') := by
  rcases hn with rfl | rfl | rfl | rfl <;> rcases hm with rfl | rfl | rfl | rfl <;> simp +decide [csv]
def B8 (z : Int32) : Prop := ¬ z < 0 ∧ ¬ (255 : Int32) < z ∧ nar .char z = z
theorem own_fin (x : Int32) : ∃ k : Fin 256, (x &&& (255 : Int32)) = Int32.ofNat k.val := by
  have h : (x &&& 255).toBitVec.toNat < 256 := by
    simp only [Int32.toBitVec_and, BitVec.toNat_and]
    exact Nat.lt_succ_of_le Nat.and_le_right
  refine ⟨⟨_, h⟩, ?_⟩
  apply Int32.toBitVec_inj.mp
  show _ = BitVec.ofNat 32 _
  rw [BitVec.ofNat_toNat]; simp
theorem own_fin1 (x : Int32) : ∃ k : Fin 2, (x &&& (1 : Int32)) = Int32.ofNat k.val := by
  have h : (x &&& 1).toBitVec.toNat < 2 := by
    simp only [Int32.toBitVec_and, BitVec.toNat_and]
    exact Nat.lt_succ_of_le Nat.and_le_right
  refine ⟨⟨_, h⟩, ?_⟩
  apply Int32.toBitVec_inj.mp
  show _ = BitVec.ofNat 32 _
  rw [BitVec.ofNat_toNat]; simp
theorem own_b8 (x : Int32) : B8 ((x &&& (255 : Int32)).toUInt32.toUInt16.toUInt32.toInt32) := by
  have t : ∀ k : Fin 256, ¬ ((Int32.ofNat k.val).toUInt32.toUInt16.toUInt32.toInt32) < 0 ∧ ¬ (255 : Int32) < ((Int32.ofNat k.val).toUInt32.toUInt16.toUInt32.toInt32) ∧ nar .char ((Int32.ofNat k.val).toUInt32.toUInt16.toUInt32.toInt32) = ((Int32.ofNat k.val).toUInt32.toUInt16.toUInt32.toInt32) := by decide +kernel
  obtain ⟨k, e⟩ := own_fin x
  rw [e]; exact t k
theorem own_bx (x y : Int32) : B8 ((((x &&& (255 : Int32)).toUInt32.toUInt16.toUInt32.toInt32) ^^^ (y &&& (1 : Int32))).toUInt32.toUInt16.toUInt32.toInt32) := by
  have t : ∀ k : Fin 256, ∀ j : Fin 2, ¬ ((((Int32.ofNat k.val).toUInt32.toUInt16.toUInt32.toInt32) ^^^ Int32.ofNat j.val).toUInt32.toUInt16.toUInt32.toInt32) < 0 ∧ ¬ (255 : Int32) < ((((Int32.ofNat k.val).toUInt32.toUInt16.toUInt32.toInt32) ^^^ Int32.ofNat j.val).toUInt32.toUInt16.toUInt32.toInt32) ∧ nar .char ((((Int32.ofNat k.val).toUInt32.toUInt16.toUInt32.toInt32) ^^^ Int32.ofNat j.val).toUInt32.toUInt16.toUInt32.toInt32) = ((((Int32.ofNat k.val).toUInt32.toUInt16.toUInt32.toInt32) ^^^ Int32.ofNat j.val).toUInt32.toUInt16.toUInt32.toInt32) := by decide +kernel
  obtain ⟨k, e⟩ := own_fin x
  obtain ⟨j, f⟩ := own_fin1 y
  rw [e, f]; exact t k j
theorem own_q4 (x : Int32) : Q4 (x &&& (3 : Int32)) := by
  have h : (x &&& 3).toBitVec.toNat < 4 := by
    simp only [Int32.toBitVec_and, BitVec.toNat_and]
    exact Nat.lt_succ_of_le Nat.and_le_right
  have e : (x &&& 3) = Int32.ofNat (x &&& 3).toBitVec.toNat := by
    apply Int32.toBitVec_inj.mp
    show _ = BitVec.ofNat 32 _
    rw [BitVec.ofNat_toNat]; simp
  have t : ∀ k : Fin 4, Int32.ofNat k.val = 0 ∨ Int32.ofNat k.val = 1 ∨ Int32.ofNat k.val = 2 ∨ Int32.ofNat k.val = 3 := by decide +kernel
  rw [e]; exact t ⟨_, h⟩
theorem own_lt12 {n : Int32} (h : n < 1) : n < 2 := Int32.lt_trans h (by decide)
theorem own_lt13 {n : Int32} (h : n < 1) : n < 3 := Int32.lt_trans h (by decide)
theorem own_lt23 {n : Int32} (h : n < 2) : n < 3 := Int32.lt_trans h (by decide)
theorem own_all {n a b c : Int32} {P : Int32 → Prop} (ha : P a) (hb : P b) (hc : P c) : ∀ z ∈ csv n a b c, P z := by
  intro z hz
  unfold csv at hz
  split at hz
  · simp at hz
  · split at hz
    · simp at hz; subst hz; exact ha
    · split at hz
      · simp at hz; rcases hz with rfl | rfl <;> assumption
      · simp at hz; rcases hz with rfl | rfl | rfl <;> assumption
theorem own_up {z : Int32} (h : B8 z) : ¬ z < 0 ∧ ¬ (65535 : Int32) < z := ⟨h.1, fun q => h.2.1 (Int32.lt_trans (by decide) q)⟩
theorem own_len (n a b c : Int32) : (csv n a b c).length ≤ 4000 := by
  unfold csv
  split
  · simp
  · split
    · simp
    · split <;> simp
theorem own_eqv {v : Option Value} {P : Prop} (h : (v = some (.int 1) ∧ P) ∨ (v = some (.int 0) ∧ ¬ P)) : ∃ r : Int32, ((r = 1 ∧ P) ∨ (r = 0 ∧ ¬ P)) ∧ v = some (.int r) := by
  rcases h with ⟨e, q⟩ | ⟨e, q⟩
  · exact ⟨1, Or.inl ⟨rfl, q⟩, e⟩
  · exact ⟨0, Or.inr ⟨rfl, q⟩, e⟩
theorem own_narb {r : Int32} {P : Prop} (h : (r = 1 ∧ P) ∨ (r = 0 ∧ ¬ P)) : nar .boolean r = r := by
  rcases h with ⟨rfl, _⟩ | ⟨rfl, _⟩ <;> decide
abbrev G_rmCV (m : MethodId) (a1 : Addr) (a2 : Addr) : JFrame := (entryFrame m #[(.ref a1), (.ref a2), (.int (0 : Int32)), (.int (0 : Int32)), .null] 6)
theorem d3_0 : decode jdk_42_method_149_code 0 = .ok (.aload_n 0, 1) := by decide +kernel
theorem d3_1 : decode jdk_42_method_149_code 1 = .ok (.invokespecial 1, 3) := by decide +kernel
theorem d3_4 : decode jdk_42_method_149_code 4 = .ok (.iload_n 3, 1) := by decide +kernel
theorem d3_5 : decode jdk_42_method_149_code 5 = .ok (.ifCond .ne 22, 3) := by decide +kernel
theorem d3_8 : decode jdk_42_method_149_code 8 = .ok (.aload_n 0, 1) := by decide +kernel
theorem d3_9 : decode jdk_42_method_149_code 9 = .ok (.ldc 7, 2) := by decide +kernel
theorem d3_11 : decode jdk_42_method_149_code 11 = .ok (.getfield 9, 3) := by decide +kernel
theorem d3_14 : decode jdk_42_method_149_code 14 = .ok (.putfield 9, 3) := by decide +kernel
theorem d3_17 : decode jdk_42_method_149_code 17 = .ok (.aload_n 0, 1) := by decide +kernel
theorem d3_18 : decode jdk_42_method_149_code 18 = .ok (.ldc 7, 2) := by decide +kernel
theorem d3_20 : decode jdk_42_method_149_code 20 = .ok (.getfield 15, 3) := by decide +kernel
theorem d3_23 : decode jdk_42_method_149_code 23 = .ok (.putfield 15, 3) := by decide +kernel
theorem d3_26 : decode jdk_42_method_149_code 26 = .ok (.return_, 1) := by decide +kernel
def Q_rmCV (Z : State) (a1 : Addr) (a2 : Addr)  (h0 : Heap) (n0 : Nat) (v : Option Value) (h : Heap) (vm : Vm) (L : List Loc) : Prop := v = none ∧ Fr n0 L ∧ Keep h0 h [a1] ∧ JJ Z h vm ∧ Exa Z h a1 "java/lang/String" ∧ Fld Z h a1 "java/lang/String" "coder" "B" (.int (0 : Int32)) ∧ ∃ (t : Addr) (k : ClassId), Fld Z h a1 "java/lang/String" "value" "[B" (.ref t) ∧ Arv Z h t k .byte (0 : Int32) [] (.int 0)
theorem pn_java_lang_String : plainName "java/lang/String" = true := by first | (simp [plainName, overriddenIn]; done) | decide +kernel
set_option maxRecDepth 65536 in
set_option maxHeartbeats 40000000 in
theorem rmCV (l : Launch) (Z : State) (a0 : Array Value) (hw : ∀ d ∈ tables_1, d.before a0 Z = true) (ws : List Jvm.Cond) (a1 : Addr) (a2 : Addr)  (h0 : Heap) (n0 : Nat) (Z0 : n0 ≤ h0.size) (O0 : Old Z n0 h0) (g_a1 : n0 ≤ a1) (Ex : Exa Z h0 a1 "java/lang/String") (Fv : Fld Z h0 a1 "java/lang/String" "value" "[B" .null) (Fc : Fld Z h0 a1 "java/lang/String" "coder" "B" (.int (0 : Int32))) (hcw : Jvm.Lit.compactW.before a0 Z = true) (hld : Jvm.Lit.constHeld Z "java/lang/String" 7) :
    MetFree l (⟨"java/lang/String", "<init>", "([CIILjava/lang/Void;)V"⟩ : MethodName) (head1 (Jvm.Cond.code (⟨"java/lang/String", "<init>", "([CIILjava/lang/Void;)V"⟩ : MethodName) jdk_42_method_149_code 6 none :: ws) ({ frames := 1, cells := 2, slots := 4, locals := 12 } : Room)) (fun a U => a = #[(.ref a1), (.ref a2), (.int (0 : Int32)), (.int (0 : Int32)), .null] ∧ Z.Warmed39 U.vm ∧ U.heap = h0 ∧ JJ Z h0 U.vm) (fun _ _ _ _ _ => True) (fun _ U o U' => ∃ v L, o = .returned v ∧ Q_rmCV Z a1 a2 h0 n0 v U'.heap U'.vm L ∧ ReturnedEndW U o U' L ({ frames := 1, cells := 2, slots := 4, locals := 12 } : Room).cells ({ frames := 1, cells := 2, slots := 4, locals := 12 } : Room).slots) := by
  refine MetFree.of_bodySF (plainFor_of_name pn_java_lang_String) hisR ?_
  intro p e s m args below meth c s₁ Bd hml0 hP hK
  obtain ⟨rfl, hZ, hh, hJ⟩ := hP
  have hx := Bd.exec
  have hby := Bd.bytes
  have hml : c.maxLocals = 6 := hml0
  have hown : s.vm.findClass "java/lang/String" = some m.cls := findClass_of_methodNamed Bd.named
  have hnm := (name_of_methodNamed Bd.named Bd.method).1
  have X0 : Stand p l e ({ frames := 1, cells := 2, slots := 4, locals := 12 } : Room) s m #[(.ref a1), (.ref a2), (.int (0 : Int32)), (.int (0 : Int32)), .null] below meth c s₁ [] 0 0 := Stand.of_body Bd
  have e0 : s₁.heap = h0 := by rw [← hh, Bd.state]; rfl
  have N0 := Fr.nil n0
  have wS : ∀ a ∈ Bundle.stringAtoms, a.before a0 Z = true := fun d hd => hw d ((by decide +kernel : ∀ d ∈ Bundle.stringAtoms, d ∈ tables_1) d hd)
  have hkeep : ∀ (b : Addr) (cl : Cell), Z.heap[b]? = some cl → s.heap[b]? = some cl := fun b cl q => by rw [hh]; exact O0.2.2 b cl q
  have KP0 : Keep h0 h0 [a1] := Keep.refl h0 [a1]
  have go0 : Goes p e below s₁ (G_rmCV m a1 a2) s₁ (mkF m 0 #[.val (.ref a1), .val (.ref a2), .val (.int (0 : Int32)), .val (.int (0 : Int32)), .val .null, .unset] []) := fun tq kq => castTop (by first | (simp [entryFrame, mkF, argsToLocals, Value.category, G_rmCV]; done) | rfl) kq
  have go1 : Goes p e below s₁ (G_rmCV m a1 a2) s₁ (mkF m 1 #[.val (.ref a1), .val (.ref a2), .val (.int (0 : Int32)), .val (.int (0 : Int32)), .val .null, .unset] [(.ref a1)]) := fun tq kq => go0 tq (by
    show Steps p.tables e below (s₁.setTop (mkF m 0 #[.val (.ref a1), .val (.ref a2), .val (.int (0 : Int32)), .val (.int (0 : Int32)), .val .null, .unset] [])) _
    refine XS.aloadN X0.here hx rfl (hb hby d3_0) rfl rfl ?_
    exact kq)
  obtain ⟨T2, X2, e2, st2⟩ := initO X0 hx hZ hown (tw15 hw) (tw16 hw) (tw17 hw) e0 (g := (mkF m 1 #[.val (.ref a1), .val (.ref a2), .val (.int (0 : Int32)), .val (.int (0 : Int32)), .val .null, .unset] [(.ref a1)])) rfl (by rw [hml]; rfl) rfl (hb hby d3_1) (by decide) (W := 0) (by show 2 * 0 + _ ≤ _; exact Nat.le_of_eq rfl) (by decide)
  have go2 : Goes p e below s₁ (G_rmCV m a1 a2) T2 (mkF m 4 #[.val (.ref a1), .val (.ref a2), .val (.int (0 : Int32)), .val (.int (0 : Int32)), .val .null, .unset] []) := fun tq kq => go1 tq (st2 _ kq)
  have go3 : Goes p e below s₁ (G_rmCV m a1 a2) T2 (mkF m 5 #[.val (.ref a1), .val (.ref a2), .val (.int (0 : Int32)), .val (.int (0 : Int32)), .val .null, .unset] [(.int (0 : Int32))]) := fun tq kq => go2 tq (by
    show Steps p.tables e below (T2.setTop (mkF m 4 #[.val (.ref a1), .val (.ref a2), .val (.int (0 : Int32)), .val (.int (0 : Int32)), .val .null, .unset] [])) _
    refine XS.iloadN X2.here hx rfl (hb hby d3_4) rfl ?_
    exact kq)
  have go4 : Goes p e below s₁ (G_rmCV m a1 a2) T2 (mkF m 9 #[.val (.ref a1), .val (.ref a2), .val (.int (0 : Int32)), .val (.int (0 : Int32)), .val .null, .unset] [(.ref a1)]) := fun tq kq => go3 tq (by
    show Steps p.tables e below (T2.setTop (mkF m 5 #[.val (.ref a1), .val (.ref a2), .val (.int (0 : Int32)), .val (.int (0 : Int32)), .val .null, .unset] [(.int (0 : Int32))])) _
    refine XS.ifNo X2.here hx rfl (hb hby d3_5) rfl ((if0 _ _).trans (teq rfl).2) ?_
    show Steps p.tables e below (T2.setTop (mkF m 8 #[.val (.ref a1), .val (.ref a2), .val (.int (0 : Int32)), .val (.int (0 : Int32)), .val .null, .unset] [])) _
    refine XS.aloadN X2.here hx rfl (hb hby d3_8) rfl rfl ?_
    exact kq)
  rcases hJ with hIB | ⟨ua, ub, uk, Lu, Eu, Cu, Vu, Ku⟩
  · obtain ⟨a5, T5, h5, ks5, b5, kb5, X5, e5, E5, hS5, hk5, hZ5, hown5, A5, Fc5, Fv5, V5, la5, lb5, IB5, Lt5, st5⟩ := ldcSVL (s := s) (vm0 := s.vm) X2 hx hZ hown (tw34 hw) wS e2 ((State.WarmedH.refl s).since 0) (Nat.zero_le _) (Fr.nil _) hkeep hIB (by decide) hld hcw (vs := []) (z := (0 : Int32)) ⟨by decide, by first | rfl | decide⟩ (by decide) rfl (g := (mkF m 9 #[.val (.ref a1), .val (.ref a2), .val (.int (0 : Int32)), .val (.int (0 : Int32)), .val .null, .unset] [(.ref a1)])) rfl (hb hby d3_9) (n := 0) (by decide) (by decide) (by decide) (by decide)
    have KP5 : Keep h0 h5 [a1] := KP0.ext E5
    have O5 := O0.ext E5
    have ZS5 : n0 ≤ h5.size := Nat.le_trans Z0 E5.1
    have hZ := hZ5
    have hown := hown5
    have go5 : Goes p e below s₁ (G_rmCV m a1 a2) T5 (mkF m 11 #[.val (.ref a1), .val (.ref a2), .val (.int (0 : Int32)), .val (.int (0 : Int32)), .val .null, .unset] [(.ref a5), (.ref a1)]) := fun tq kq => go4 tq (st5 _ kq)
    have nea : a1 ≠ a5 := Fld.ne (Fv.ext E5) Fv5 (by nofun)
    have net : a1 ≠ b5 := Exa.neArv (Ex.ext E5) V5 (tw5 hw)
    obtain ⟨T6, X6, e6, st6⟩ := getF X5 hx hZ hown (host := "") (Or.inl (tw32 hw)) Via.refl e5 Fv5 (g := (mkF m 11 #[.val (.ref a1), .val (.ref a2), .val (.int (0 : Int32)), .val (.int (0 : Int32)), .val .null, .unset] [(.ref a5), (.ref a1)])) rfl rfl (hb hby d3_11)
    have go6 : Goes p e below s₁ (G_rmCV m a1 a2) T6 (mkF m 14 #[.val (.ref a1), .val (.ref a2), .val (.int (0 : Int32)), .val (.int (0 : Int32)), .val .null, .unset] [(.ref b5), (.ref a1)]) := fun tq kq => go5 tq (st6 _ kq)
    obtain ⟨T7, h7, X7, e7, W7, st7⟩ := putF X6 hx hZ hown (host := "") (Or.inl (tw32 hw)) Via.refl e6 (Fv.ext E5) (Ex.ext E5) (Or.inr ⟨(tw33 hw), rfl, hnm⟩) (tw5 hw) (ty := (.array .byte)) (by decide) rfl rfl (g := (mkF m 14 #[.val (.ref a1), .val (.ref a2), .val (.int (0 : Int32)), .val (.int (0 : Int32)), .val .null, .unset] [(.ref b5), (.ref a1)])) rfl rfl (hb hby d3_14)
    have N7 := Fr.snoc X7 N0 g_a1
    have KP7 : Keep h0 h7 [a1] := KP5.wr W7 (Or.inl (List.mem_of_getElem? (i := 0) rfl))
    have O7 := O5.wr W7 g_a1
    have ZS7 : n0 ≤ h7.size := Nat.le_trans ZS5 (Keep.of_wr W7).1
    have F7 := Fld.same W7 (Fv.ext E5)
    have go7 : Goes p e below s₁ (G_rmCV m a1 a2) T7 (mkF m 17 #[.val (.ref a1), .val (.ref a2), .val (.int (0 : Int32)), .val (.int (0 : Int32)), .val .null, .unset] []) := fun tq kq => go6 tq (st7 _ kq)
    have go8 : Goes p e below s₁ (G_rmCV m a1 a2) T7 (mkF m 18 #[.val (.ref a1), .val (.ref a2), .val (.int (0 : Int32)), .val (.int (0 : Int32)), .val .null, .unset] [(.ref a1)]) := fun tq kq => go7 tq (by
      show Steps p.tables e below (T7.setTop (mkF m 17 #[.val (.ref a1), .val (.ref a2), .val (.int (0 : Int32)), .val (.int (0 : Int32)), .val .null, .unset] [])) _
      refine XS.aloadN X7.here hx rfl (hb hby d3_17) rfl rfl ?_
      exact kq)
    have go9 : Goes p e below s₁ (G_rmCV m a1 a2) T7 (mkF m 20 #[.val (.ref a1), .val (.ref a2), .val (.int (0 : Int32)), .val (.int (0 : Int32)), .val .null, .unset] [(.ref a5), (.ref a1)]) := fun tq kq => go8 tq (by
      show Steps p.tables e below (T7.setTop (mkF m 18 #[.val (.ref a1), .val (.ref a2), .val (.int (0 : Int32)), .val (.int (0 : Int32)), .val .null, .unset] [(.ref a1)])) _
      refine ldcAgain (s := s) (vm0 := T5.vm) X7 hx hZ hown (tw34 hw) Lt5 (g := (mkF m 18 #[.val (.ref a1), .val (.ref a2), .val (.int (0 : Int32)), .val (.int (0 : Int32)), .val .null, .unset] [(.ref a1)])) rfl (hb hby d3_18) _ ?_
      exact kq)
    obtain ⟨T10, X10, e10, st10⟩ := getF X7 hx hZ hown (host := "") (Or.inl (tw30 hw)) Via.refl e7 (Fld.other W7 Fc5 (Or.inl (Ne.symm nea))) (g := (mkF m 20 #[.val (.ref a1), .val (.ref a2), .val (.int (0 : Int32)), .val (.int (0 : Int32)), .val .null, .unset] [(.ref a5), (.ref a1)])) rfl rfl (hb hby d3_20)
    have go10 : Goes p e below s₁ (G_rmCV m a1 a2) T10 (mkF m 23 #[.val (.ref a1), .val (.ref a2), .val (.int (0 : Int32)), .val (.int (0 : Int32)), .val .null, .unset] [(.int 0), (.ref a1)]) := fun tq kq => go9 tq (st10 _ kq)
    have f11 := (Fld.other W7 (Fc.ext E5) (Or.inr (slot_ne (Or.inr (tw31 hw)) (Or.inr (tw33 hw)) (by decide) (t := .byte) (t' := (.array .byte)) (by decide) (by decide))))
    obtain ⟨T12, h12, X12, e12, W12, st12⟩ := putFN X10 hx hZ hown (tw30 hw) Via.refl e10 f11 (Exa.wr W7 (Ex.ext E5)) (Or.inr ⟨(tw31 hw), rfl, hnm⟩) (tw5 hw) (ty := .byte) (v' := (.int (0 : Int32))) (by decide) rfl (by decide) (g := (mkF m 23 #[.val (.ref a1), .val (.ref a2), .val (.int (0 : Int32)), .val (.int (0 : Int32)), .val .null, .unset] [(.int 0), (.ref a1)])) rfl rfl (hb hby d3_23)
    have N12 := Fr.snoc X12 N7 g_a1
    have KP12 : Keep h0 h12 [a1] := KP7.wr W12 (Or.inl (List.mem_of_getElem? (i := 0) rfl))
    have O12 := O7.wr W12 g_a1
    have ZS12 : n0 ≤ h12.size := Nat.le_trans ZS7 (Keep.of_wr W12).1
    have F12 := Fld.same W12 f11
    have go12 : Goes p e below s₁ (G_rmCV m a1 a2) T12 (mkF m 26 #[.val (.ref a1), .val (.ref a2), .val (.int (0 : Int32)), .val (.int (0 : Int32)), .val .null, .unset] []) := fun tq kq => go10 tq (st12 _ kq)
    have f13 := (Fld.other W12 (Fld.other W7 Fc5 (Or.inl (Ne.symm nea))) (Or.inl (Ne.symm nea)))
    have f14 := (Fld.other W12 (Fld.other W7 Fv5 (Or.inl (Ne.symm nea))) (Or.inl (Ne.symm nea)))
    have f15 := (Fld.other W12 F7 (Or.inr (slot_ne (Or.inr (tw33 hw)) (Or.inr (tw31 hw)) (by decide) (t := (.array .byte)) (t' := .byte) (by decide) (by decide))))
    obtain ⟨fs, hr, hrun, hended, hEW⟩ := Stand.leaveW (s := s) X12 hS5 (by rw [e12]; exact (Nat.le_trans (Nat.le_trans hk5 (Keep.of_wr W7).1) (Keep.of_wr W12).1)) (v := none) (fun _ => rfl)
    refine ⟨_, _, go12 _ ?_, hrun, hended, _, _, rfl, ?_, hEW.1, hEW.2.1, hEW.2.2.1, hEW.2.2.2.mono (by decide) (by decide)⟩
    · exact X12.returnOut hx Bd.returns (hb hby d3_26) hr
    · show Q_rmCV Z a1 a2 h0 n0 _ T12.heap T12.vm _
      rw [e12]
      exact ⟨rfl, N12, KP12, Or.inr ⟨a5, b5, kb5, own_lit (Z := s) (Lit.stays (s := s) (vm0 := T5.vm) Lt5 X12.warmed.wide), (Exa.wr W12 (Exa.wr W7 A5)), f13, f14, ((V5.other W7 (Ne.symm net)).other W12 (Ne.symm net))⟩, (Exa.wr W12 (Exa.wr W7 (Ex.ext E5))), F12, b5, kb5, f15, ((V5.other W7 (Ne.symm net)).other W12 (Ne.symm net))⟩
  · have go16 : Goes p e below s₁ (G_rmCV m a1 a2) T2 (mkF m 11 #[.val (.ref a1), .val (.ref a2), .val (.int (0 : Int32)), .val (.int (0 : Int32)), .val .null, .unset] [(.ref ua), (.ref a1)]) := fun tq kq => go4 tq (by
      show Steps p.tables e below (T2.setTop (mkF m 9 #[.val (.ref a1), .val (.ref a2), .val (.int (0 : Int32)), .val (.int (0 : Int32)), .val .null, .unset] [(.ref a1)])) _
      refine ldcAgain (s := s) (vm0 := s.vm) X2 hx hZ hown (tw34 hw) (own_lit (Z := Z) Lu) (g := (mkF m 9 #[.val (.ref a1), .val (.ref a2), .val (.int (0 : Int32)), .val (.int (0 : Int32)), .val .null, .unset] [(.ref a1)])) rfl (hb hby d3_9) _ ?_
      exact kq)
    have nea : a1 ≠ ua := Fld.ne Fv Vu (by nofun)
    have net : a1 ≠ ub := Exa.neArv Ex Ku (tw5 hw)
    obtain ⟨T17, X17, e17, st17⟩ := getF X2 hx hZ hown (host := "") (Or.inl (tw32 hw)) Via.refl e2 Vu (g := (mkF m 11 #[.val (.ref a1), .val (.ref a2), .val (.int (0 : Int32)), .val (.int (0 : Int32)), .val .null, .unset] [(.ref ua), (.ref a1)])) rfl rfl (hb hby d3_11)
    have go17 : Goes p e below s₁ (G_rmCV m a1 a2) T17 (mkF m 14 #[.val (.ref a1), .val (.ref a2), .val (.int (0 : Int32)), .val (.int (0 : Int32)), .val .null, .unset] [(.ref ub), (.ref a1)]) := fun tq kq => go16 tq (st17 _ kq)
    obtain ⟨T18, h18, X18, e18, W18, st18⟩ := putF X17 hx hZ hown (host := "") (Or.inl (tw32 hw)) Via.refl e17 Fv Ex (Or.inr ⟨(tw33 hw), rfl, hnm⟩) (tw5 hw) (ty := (.array .byte)) (by decide) rfl rfl (g := (mkF m 14 #[.val (.ref a1), .val (.ref a2), .val (.int (0 : Int32)), .val (.int (0 : Int32)), .val .null, .unset] [(.ref ub), (.ref a1)])) rfl rfl (hb hby d3_14)
    have N18 := Fr.snoc X18 N0 g_a1
    have KP18 : Keep h0 h18 [a1] := KP0.wr W18 (Or.inl (List.mem_of_getElem? (i := 0) rfl))
    have O18 := O0.wr W18 g_a1
    have ZS18 : n0 ≤ h18.size := Nat.le_trans Z0 (Keep.of_wr W18).1
    have F18 := Fld.same W18 Fv
    have go18 : Goes p e below s₁ (G_rmCV m a1 a2) T18 (mkF m 17 #[.val (.ref a1), .val (.ref a2), .val (.int (0 : Int32)), .val (.int (0 : Int32)), .val .null, .unset] []) := fun tq kq => go17 tq (st18 _ kq)
    have go19 : Goes p e below s₁ (G_rmCV m a1 a2) T18 (mkF m 18 #[.val (.ref a1), .val (.ref a2), .val (.int (0 : Int32)), .val (.int (0 : Int32)), .val .null, .unset] [(.ref a1)]) := fun tq kq => go18 tq (by
      show Steps p.tables e below (T18.setTop (mkF m 17 #[.val (.ref a1), .val (.ref a2), .val (.int (0 : Int32)), .val (.int (0 : Int32)), .val .null, .unset] [])) _
      refine XS.aloadN X18.here hx rfl (hb hby d3_17) rfl rfl ?_
      exact kq)
    have go20 : Goes p e below s₁ (G_rmCV m a1 a2) T18 (mkF m 20 #[.val (.ref a1), .val (.ref a2), .val (.int (0 : Int32)), .val (.int (0 : Int32)), .val .null, .unset] [(.ref ua), (.ref a1)]) := fun tq kq => go19 tq (by
      show Steps p.tables e below (T18.setTop (mkF m 18 #[.val (.ref a1), .val (.ref a2), .val (.int (0 : Int32)), .val (.int (0 : Int32)), .val .null, .unset] [(.ref a1)])) _
      refine ldcAgain (s := s) (vm0 := s.vm) X18 hx hZ hown (tw34 hw) (own_lit (Z := Z) Lu) (g := (mkF m 18 #[.val (.ref a1), .val (.ref a2), .val (.int (0 : Int32)), .val (.int (0 : Int32)), .val .null, .unset] [(.ref a1)])) rfl (hb hby d3_18) _ ?_
      exact kq)
    obtain ⟨T21, X21, e21, st21⟩ := getF X18 hx hZ hown (host := "") (Or.inl (tw30 hw)) Via.refl e18 (Fld.other W18 Cu (Or.inl (Ne.symm nea))) (g := (mkF m 20 #[.val (.ref a1), .val (.ref a2), .val (.int (0 : Int32)), .val (.int (0 : Int32)), .val .null, .unset] [(.ref ua), (.ref a1)])) rfl rfl (hb hby d3_20)
    have go21 : Goes p e below s₁ (G_rmCV m a1 a2) T21 (mkF m 23 #[.val (.ref a1), .val (.ref a2), .val (.int (0 : Int32)), .val (.int (0 : Int32)), .val .null, .unset] [(.int 0), (.ref a1)]) := fun tq kq => go20 tq (st21 _ kq)
    have f22 := (Fld.other W18 Fc (Or.inr (slot_ne (Or.inr (tw31 hw)) (Or.inr (tw33 hw)) (by decide) (t := .byte) (t' := (.array .byte)) (by decide) (by decide))))
    obtain ⟨T23, h23, X23, e23, W23, st23⟩ := putFN X21 hx hZ hown (tw30 hw) Via.refl e21 f22 (Exa.wr W18 Ex) (Or.inr ⟨(tw31 hw), rfl, hnm⟩) (tw5 hw) (ty := .byte) (v' := (.int (0 : Int32))) (by decide) rfl (by decide) (g := (mkF m 23 #[.val (.ref a1), .val (.ref a2), .val (.int (0 : Int32)), .val (.int (0 : Int32)), .val .null, .unset] [(.int 0), (.ref a1)])) rfl rfl (hb hby d3_23)
    have N23 := Fr.snoc X23 N18 g_a1
    have KP23 : Keep h0 h23 [a1] := KP18.wr W23 (Or.inl (List.mem_of_getElem? (i := 0) rfl))
    have O23 := O18.wr W23 g_a1
    have ZS23 : n0 ≤ h23.size := Nat.le_trans ZS18 (Keep.of_wr W23).1
    have F23 := Fld.same W23 f22
    have go23 : Goes p e below s₁ (G_rmCV m a1 a2) T23 (mkF m 26 #[.val (.ref a1), .val (.ref a2), .val (.int (0 : Int32)), .val (.int (0 : Int32)), .val .null, .unset] []) := fun tq kq => go21 tq (st23 _ kq)
    have f24 := (Fld.other W23 (Fld.other W18 Cu (Or.inl (Ne.symm nea))) (Or.inl (Ne.symm nea)))
    have f25 := (Fld.other W23 (Fld.other W18 Vu (Or.inl (Ne.symm nea))) (Or.inl (Ne.symm nea)))
    have f26 := (Fld.other W23 F18 (Or.inr (slot_ne (Or.inr (tw33 hw)) (Or.inr (tw31 hw)) (by decide) (t := (.array .byte)) (t' := .byte) (by decide) (by decide))))
    obtain ⟨fs, hr, hrun, hended, hW, hsame⟩ := X23.leave (v := none) (fun _ => rfl)
    refine ⟨_, _, go23 _ ?_, hrun, hended, _, _, rfl, ?_, ReturnedEndW.of_narrow ⟨_, rfl⟩ hW (hsame.mono (by decide) (by decide))⟩
    · exact X23.returnOut hx Bd.returns (hb hby d3_26) hr
    · show Q_rmCV Z a1 a2 h0 n0 _ T23.heap T23.vm _
      rw [e23]
      exact ⟨rfl, N23, KP23, Or.inr ⟨ua, ub, uk, own_lit (Z := s) (Lit.stays (s := s) (vm0 := s.vm) (own_lit (Z := Z) Lu) X23.warmed.wide), (Exa.wr W23 (Exa.wr W18 Eu)), f24, f25, ((Ku.other W18 (Ne.symm net)).other W23 (Ne.symm net))⟩, (Exa.wr W23 (Exa.wr W18 Ex)), F23, ub, uk, f26, ((Ku.other W18 (Ne.symm net)).other W23 (Ne.symm net))⟩
abbrev G_rmC1 (m : MethodId) (a1 : Addr) (a2 : Addr) : JFrame := (entryFrame m #[(.ref a1), (.ref a2)] 2)
theorem d2_0 : decode jdk_42_method_3_code 0 = .ok (.aload_n 0, 1) := by decide +kernel
theorem d2_1 : decode jdk_42_method_3_code 1 = .ok (.aload_n 1, 1) := by decide +kernel
theorem d2_2 : decode jdk_42_method_3_code 2 = .ok (.iconst 0, 1) := by decide +kernel
theorem d2_3 : decode jdk_42_method_3_code 3 = .ok (.aload_n 1, 1) := by decide +kernel
theorem d2_4 : decode jdk_42_method_3_code 4 = .ok (.arraylength, 1) := by decide +kernel
theorem d2_5 : decode jdk_42_method_3_code 5 = .ok (.aconst_null, 1) := by decide +kernel
theorem d2_6 : decode jdk_42_method_3_code 6 = .ok (.invokespecial 27, 3) := by decide +kernel
theorem pd_0 : parseMethodDescriptor "([CIILjava/lang/Void;)V" = some ⟨[(.array .char), .int, .int, (.object "java/lang/Void")], none⟩ := by decide +kernel
theorem d2_9 : decode jdk_42_method_3_code 9 = .ok (.return_, 1) := by decide +kernel
def Q_rmC1 (Z : State) (a1 : Addr) (a2 : Addr) (kC : ClassId) (h0 : Heap) (n0 : Nat) (v : Option Value) (h : Heap) (vm : Vm) (L : List Loc) : Prop := v = none ∧ Fr n0 L ∧ Keep h0 h [a1] ∧ JJ Z h vm ∧ Exa Z h a1 "java/lang/String" ∧ Fld Z h a1 "java/lang/String" "coder" "B" (.int (0 : Int32)) ∧ ∃ (t : Addr) (k : ClassId), Fld Z h a1 "java/lang/String" "value" "[B" (.ref t) ∧ Arv Z h t k .byte (0 : Int32) [] (.int 0)
set_option maxRecDepth 65536 in
set_option maxHeartbeats 40000000 in
theorem rmC1 (l : Launch) (Z : State) (a0 : Array Value) (hw : ∀ d ∈ tables_1, d.before a0 Z = true) (ws : List Jvm.Cond) (a1 : Addr) (a2 : Addr) (kC : ClassId) (h0 : Heap) (n0 : Nat) (Z0 : n0 ≤ h0.size) (O0 : Old Z n0 h0) (g_a1 : n0 ≤ a1) (Ex : Exa Z h0 a1 "java/lang/String") (Fv : Fld Z h0 a1 "java/lang/String" "value" "[B" .null) (Fc : Fld Z h0 a1 "java/lang/String" "coder" "B" (.int (0 : Int32))) (hcw : Jvm.Lit.compactW.before a0 Z = true) (hld : Jvm.Lit.constHeld Z "java/lang/String" 7) (VA : Arv Z h0 a2 kC .char (0 : Int32) [] (.int (0 : Int32))) :
    MetFree l (⟨"java/lang/String", "<init>", "([C)V"⟩ : MethodName) (head1 (Jvm.Cond.code (⟨"java/lang/String", "<init>", "([C)V"⟩ : MethodName) jdk_42_method_3_code 2 none :: ws) ({ frames := 2, cells := 2, slots := 4, locals := 29 } : Room)) (fun a U => a = #[(.ref a1), (.ref a2)] ∧ Z.Warmed39 U.vm ∧ U.heap = h0 ∧ JJ Z h0 U.vm) (fun _ _ _ _ _ => True) (fun _ U o U' => ∃ v L, o = .returned v ∧ Q_rmC1 Z a1 a2 kC h0 n0 v U'.heap U'.vm L ∧ ReturnedEndW U o U' L ({ frames := 2, cells := 2, slots := 4, locals := 29 } : Room).cells ({ frames := 2, cells := 2, slots := 4, locals := 29 } : Room).slots) := by
  refine MetFree.of_bodySF (plainFor_of_name pn_java_lang_String) hisR ?_
  intro p e s m args below meth c s₁ Bd hml0 hP hK
  obtain ⟨rfl, hZ, hh, hJ⟩ := hP
  have hx := Bd.exec
  have hby := Bd.bytes
  have hml : c.maxLocals = 2 := hml0
  have hown : s.vm.findClass "java/lang/String" = some m.cls := findClass_of_methodNamed Bd.named
  have hnm := (name_of_methodNamed Bd.named Bd.method).1
  have X0 : Stand p l e ({ frames := 2, cells := 2, slots := 4, locals := 29 } : Room) s m #[(.ref a1), (.ref a2)] below meth c s₁ [] 0 0 := Stand.of_body Bd
  have e0 : s₁.heap = h0 := by rw [← hh, Bd.state]; rfl
  have N0 := Fr.nil n0
  have wS : ∀ a ∈ Bundle.stringAtoms, a.before a0 Z = true := fun d hd => hw d ((by decide +kernel : ∀ d ∈ Bundle.stringAtoms, d ∈ tables_1) d hd)
  have hkeep : ∀ (b : Addr) (cl : Cell), Z.heap[b]? = some cl → s.heap[b]? = some cl := fun b cl q => by rw [hh]; exact O0.2.2 b cl q
  have KP0 : Keep h0 h0 [a1] := Keep.refl h0 [a1]
  have go0 : Goes p e below s₁ (G_rmC1 m a1 a2) s₁ (mkF m 0 #[.val (.ref a1), .val (.ref a2)] []) := fun tq kq => castTop (by first | (simp [entryFrame, mkF, argsToLocals, Value.category, G_rmC1]; done) | rfl) kq
  have go27 : Goes p e below s₁ (G_rmC1 m a1 a2) s₁ (mkF m 4 #[.val (.ref a1), .val (.ref a2)] [(.ref a2), (.int (0 : Int32)), (.ref a2), (.ref a1)]) := fun tq kq => go0 tq (by
    show Steps p.tables e below (s₁.setTop (mkF m 0 #[.val (.ref a1), .val (.ref a2)] [])) _
    refine XS.aloadN X0.here hx rfl (hb hby d2_0) rfl rfl ?_
    show Steps p.tables e below (s₁.setTop (mkF m 1 #[.val (.ref a1), .val (.ref a2)] [(.ref a1)])) _
    refine XS.aloadN X0.here hx rfl (hb hby d2_1) rfl rfl ?_
    show Steps p.tables e below (s₁.setTop (mkF m 2 #[.val (.ref a1), .val (.ref a2)] [(.ref a2), (.ref a1)])) _
    refine XS.iconst X0.here hx rfl (hb hby d2_2) ?_
    show Steps p.tables e below (s₁.setTop (mkF m 3 #[.val (.ref a1), .val (.ref a2)] [(.int (0 : Int32)), (.ref a2), (.ref a1)])) _
    refine XS.aloadN X0.here hx rfl (hb hby d2_3) rfl rfl ?_
    exact kq)
  obtain ⟨cl28, Ar28, q28, S28, N_28, H28, G28⟩ := id (VA)
  have go29 : Goes p e below s₁ (G_rmC1 m a1 a2) s₁ (mkF m 6 #[.val (.ref a1), .val (.ref a2)] [.null, (.int (0 : Int32)), (.int (0 : Int32)), (.ref a2), (.ref a1)]) := fun tq kq => go27 tq (by
    show Steps p.tables e below (s₁.setTop (mkF m 4 #[.val (.ref a1), .val (.ref a2)] [(.ref a2), (.int (0 : Int32)), (.ref a2), (.ref a1)])) _
    refine X0.arraylength hx (by rw [e0]; exact Ar28.1) (State.isArrayOf_alike hZ.alike Ar28.2.1) (g := (mkF m 4 #[.val (.ref a1), .val (.ref a2)] [(.ref a2), (.int (0 : Int32)), (.ref a2), (.ref a1)])) rfl rfl (hb hby d2_4) _ ?_
    rw [len_of S28 N_28]
    show Steps p.tables e below (s₁.setTop (mkF m 5 #[.val (.ref a1), .val (.ref a2)] [(.int (0 : Int32)), (.int (0 : Int32)), (.ref a2), (.ref a1)])) _
    refine XS.aconstNull X0.here hx rfl (hb hby d2_5) ?_
    exact kq)
  obtain ⟨vv30, _, ⟨T30, L30, k30, n30⟩, -, X30, hs30, gr30, ⟨Lc30, hQ30, l30, y30, z30⟩, st30⟩ := X0.specialBackS hx (y := (⟨"java/lang/String", "<init>", "([CIILjava/lang/Void;)V"⟩ : MethodName)) rfl hown (mvT hZ (tw11 hw)) (mvT hZ (tw12 hw)) (mvT hZ (tw14 hw)) (by decide) (own_backV (W := 0) (rmCV l Z a0 hw [] a1 a2  h0 n0 Z0 O0 g_a1 Ex Fv Fc hcw hld) hZ hJ (tw14 hw) (tw6 hw) (by decide) (by decide)) (g := (mkF m 6 #[.val (.ref a1), .val (.ref a2)] [.null, (.int (0 : Int32)), (.int (0 : Int32)), (.ref a2), (.ref a1)])) rfl (by rw [hml]; rfl) (Steps.refl _) (a := a1) (argsL := [(.ref a2), (.int (0 : Int32)), (.int (0 : Int32)), .null]) (rest := []) (lenOf pd_0 rfl) rfl (by show 2 * 0 + _ ≤ _; exact Nat.le_of_eq rfl) (hb hby d2_6) (fun _ _ => ⟨rfl, e0, (by decide : 0 + 2 ≤ _), (by decide : 0 + 4 ≤ _)⟩)
  dsimp only [Pt.U, Pt.locs, Pt.cells, Pt.slots] at X30 hs30 gr30 l30 y30 z30 st30 hQ30
  subst l30 y30 z30
  obtain ⟨Y30, hS30, hZ30, hown30⟩ := rebS (s := s) (vm0 := s.vm) ((State.WarmedH.refl s).since 0) (Nat.zero_le _) X30 hs30 gr30 hZ hown
  have hZ := hZ30
  have hown := hown30
  obtain ⟨rfl, Nq30, K30, rest30⟩ := hQ30
  have N30 := Fr.app N0 Nq30
  have ZS30 : n0 ≤ T30.heap.size := Nat.le_trans Z0 K30.1
  have KP30 : Keep h0 T30.heap [a1] := KP0.trans K30 (allS (Or.inl (List.mem_of_getElem? (i := 0) rfl)) all0)
  have O30 := O0.keep K30 (allS g_a1 all0)
  have go30 : Goes p e below s₁ (G_rmC1 m a1 a2) T30 (mkF m 9 #[.val (.ref a1), .val (.ref a2)] []) := fun tq kq => go29 tq (st30.trans kq)
  obtain ⟨fs, hr, hrun, hended, hEW⟩ := Stand.leaveW (s := s) Y30 hS30 (Nat.le_refl _) (v := none) (fun _ => rfl)
  refine ⟨_, _, go30 _ ?_, hrun, hended, _, _, rfl, ?_, hEW.1, hEW.2.1, hEW.2.2.1, hEW.2.2.2.mono (by decide) (by decide)⟩
  · exact Y30.returnOut hx Bd.returns (hb hby d2_9) hr
  · show Q_rmC1 Z a1 a2 kC h0 n0 _ T30.heap T30.vm _
    exact ⟨rfl, N30, KP30, JJ.warm (s := s.setVm T30.vm) rest30.1 Y30.warmed, rest30.2⟩
theorem own_cdd {cs ds : List Int32} (h : cs = ds) (hb : ∀ c ∈ cs, ¬ (255 : Int32) < c) : StrChars.Road.CodA cs 0 (Int32.ofNat cs.length) ((cs.map (fun c => c.toInt8.toInt32)).map Value.int) := StrChars.Road.codOf (cs := cs) (n := cs.length) rfl hb
abbrev G_rmMk (m : MethodId) (p1 : Int32) (p2 : Int32) (p3 : Int32) (p4 : Int32) : JFrame := (entryFrame m #[(.int p1), (.int p2), (.int p3), (.int p4)] 4)
theorem d1_0 : decode method_2_code 0 = .ok (.iload_n 0, 1) := by decide +kernel
theorem d1_1 : decode method_2_code 1 = .ok (.ifCond .ne 14, 3) := by decide +kernel
theorem d1_4 : decode method_2_code 4 = .ok (.new 7, 3) := by decide +kernel
theorem d1_7 : decode method_2_code 7 = .ok (.dup, 1) := by decide +kernel
theorem d1_8 : decode method_2_code 8 = .ok (.iconst 0, 1) := by decide +kernel
theorem d1_9 : decode method_2_code 9 = .ok (.newarray .char, 2) := by decide +kernel
theorem d1_11 : decode method_2_code 11 = .ok (.invokespecial 9, 3) := by decide +kernel
theorem pd_1 : parseMethodDescriptor "([C)V" = some ⟨[(.array .char)], none⟩ := by decide +kernel
theorem d1_14 : decode method_2_code 14 = .ok (.areturn, 1) := by decide +kernel
theorem d1_15 : decode method_2_code 15 = .ok (.iload_n 0, 1) := by decide +kernel
theorem d1_16 : decode method_2_code 16 = .ok (.iconst 1, 1) := by decide +kernel
theorem d1_17 : decode method_2_code 17 = .ok (.if_icmp .ne 18, 3) := by decide +kernel
theorem d1_20 : decode method_2_code 20 = .ok (.new 7, 3) := by decide +kernel
theorem d1_23 : decode method_2_code 23 = .ok (.dup, 1) := by decide +kernel
theorem d1_24 : decode method_2_code 24 = .ok (.iconst 1, 1) := by decide +kernel
theorem d1_25 : decode method_2_code 25 = .ok (.newarray .char, 2) := by decide +kernel
theorem d1_27 : decode method_2_code 27 = .ok (.dup, 1) := by decide +kernel
theorem d1_28 : decode method_2_code 28 = .ok (.iconst 0, 1) := by decide +kernel
theorem d1_29 : decode method_2_code 29 = .ok (.iload_n 1, 1) := by decide +kernel
theorem d1_30 : decode method_2_code 30 = .ok (.castore, 1) := by decide +kernel
theorem d1_31 : decode method_2_code 31 = .ok (.invokespecial 9, 3) := by decide +kernel
theorem d1_34 : decode method_2_code 34 = .ok (.areturn, 1) := by decide +kernel
theorem d1_35 : decode method_2_code 35 = .ok (.iload_n 0, 1) := by decide +kernel
theorem d1_36 : decode method_2_code 36 = .ok (.iconst 2, 1) := by decide +kernel
theorem d1_37 : decode method_2_code 37 = .ok (.if_icmp .ne 22, 3) := by decide +kernel
theorem d1_40 : decode method_2_code 40 = .ok (.new 7, 3) := by decide +kernel
theorem d1_43 : decode method_2_code 43 = .ok (.dup, 1) := by decide +kernel
theorem d1_44 : decode method_2_code 44 = .ok (.iconst 2, 1) := by decide +kernel
theorem d1_45 : decode method_2_code 45 = .ok (.newarray .char, 2) := by decide +kernel
theorem d1_47 : decode method_2_code 47 = .ok (.dup, 1) := by decide +kernel
theorem d1_48 : decode method_2_code 48 = .ok (.iconst 0, 1) := by decide +kernel
theorem d1_49 : decode method_2_code 49 = .ok (.iload_n 1, 1) := by decide +kernel
theorem d1_50 : decode method_2_code 50 = .ok (.castore, 1) := by decide +kernel
theorem d1_51 : decode method_2_code 51 = .ok (.dup, 1) := by decide +kernel
theorem d1_52 : decode method_2_code 52 = .ok (.iconst 1, 1) := by decide +kernel
theorem d1_53 : decode method_2_code 53 = .ok (.iload_n 2, 1) := by decide +kernel
theorem d1_54 : decode method_2_code 54 = .ok (.castore, 1) := by decide +kernel
theorem d1_55 : decode method_2_code 55 = .ok (.invokespecial 9, 3) := by decide +kernel
theorem d1_58 : decode method_2_code 58 = .ok (.areturn, 1) := by decide +kernel
theorem d1_59 : decode method_2_code 59 = .ok (.new 7, 3) := by decide +kernel
theorem d1_62 : decode method_2_code 62 = .ok (.dup, 1) := by decide +kernel
theorem d1_63 : decode method_2_code 63 = .ok (.iconst 3, 1) := by decide +kernel
theorem d1_64 : decode method_2_code 64 = .ok (.newarray .char, 2) := by decide +kernel
theorem d1_66 : decode method_2_code 66 = .ok (.dup, 1) := by decide +kernel
theorem d1_67 : decode method_2_code 67 = .ok (.iconst 0, 1) := by decide +kernel
theorem d1_68 : decode method_2_code 68 = .ok (.iload_n 1, 1) := by decide +kernel
theorem d1_69 : decode method_2_code 69 = .ok (.castore, 1) := by decide +kernel
theorem d1_70 : decode method_2_code 70 = .ok (.dup, 1) := by decide +kernel
theorem d1_71 : decode method_2_code 71 = .ok (.iconst 1, 1) := by decide +kernel
theorem d1_72 : decode method_2_code 72 = .ok (.iload_n 2, 1) := by decide +kernel
theorem d1_73 : decode method_2_code 73 = .ok (.castore, 1) := by decide +kernel
theorem d1_74 : decode method_2_code 74 = .ok (.dup, 1) := by decide +kernel
theorem d1_75 : decode method_2_code 75 = .ok (.iconst 2, 1) := by decide +kernel
theorem d1_76 : decode method_2_code 76 = .ok (.iload_n 3, 1) := by decide +kernel
theorem d1_77 : decode method_2_code 77 = .ok (.castore, 1) := by decide +kernel
theorem d1_78 : decode method_2_code 78 = .ok (.invokespecial 9, 3) := by decide +kernel
theorem d1_81 : decode method_2_code 81 = .ok (.areturn, 1) := by decide +kernel
def Q_rmMk (Z : State) (p1 : Int32) (p2 : Int32) (p3 : Int32) (p4 : Int32) (cz : Int32) (h0 : Heap) (n0 : Nat) (v : Option Value) (h : Heap) (vm : Vm) (L : List Loc) : Prop := ∃ (x t : Addr) (k : ClassId) (N : Int32) (vs : List Value), v = some (.ref x) ∧ Fr n0 L ∧ Keep h0 h [] ∧ JJ Z h vm ∧ Exa Z h x "java/lang/String" ∧ Fld Z h x "java/lang/String" "coder" "B" (.int 0) ∧ Fld Z h x "java/lang/String" "value" "[B" (.ref t) ∧ Arv Z h t k .byte N vs (.int 0) ∧ StrChars.Road.CodA (csv p1 p2 p3 p4) 0 N vs
theorem pn_com_example_rightful_keys_rightfulkeys_store_ProjectIsDefaultPinLaw : plainName "com/example/rightful_keys/rightfulkeys/store/ProjectIsDefaultPinLaw" = true := by first | (simp [plainName, overriddenIn]; done) | decide +kernel
set_option maxRecDepth 65536 in
set_option maxHeartbeats 40000000 in
theorem rmMk (l : Launch) (Z : State) (a0 : Array Value) (hw : ∀ d ∈ tables_1, d.before a0 Z = true) (ws : List Jvm.Cond) (p1 : Int32) (p2 : Int32) (p3 : Int32) (p4 : Int32) (cz : Int32) (h0 : Heap) (n0 : Nat) (Z0 : n0 ≤ h0.size) (O0 : Old Z n0 h0) (hcw : Jvm.Lit.compactW.before a0 Z = true) (hld : Jvm.Lit.constHeld Z "java/lang/String" 7) (SC : Sta Z Z.heap "java/lang/String" "COMPACT_STRINGS" "Z" (.int cz)) (hz : ¬ (cz = (0 : Int32))) (hka : B8 p2) (hkb : B8 p3) (hkc : B8 p4) :
    MetFree l (⟨"com/example/rightful_keys/rightfulkeys/store/ProjectIsDefaultPinLaw", "mk", "(ICCC)Ljava/lang/String;"⟩ : MethodName) (head1 (Jvm.Cond.code (⟨"com/example/rightful_keys/rightfulkeys/store/ProjectIsDefaultPinLaw", "mk", "(ICCC)Ljava/lang/String;"⟩ : MethodName) method_2_code 4 (some (.object "java/lang/String")) :: ws) ({ frames := 4, cells := 4, slots := 10, locals := 66 } : Room)) (fun a U => a = #[(.int p1), (.int p2), (.int p3), (.int p4)] ∧ Z.Warmed39 U.vm ∧ U.heap = h0 ∧ JJ Z h0 U.vm) (fun _ _ _ _ _ => True) (fun _ U o U' => ∃ v L, o = .returned v ∧ Q_rmMk Z p1 p2 p3 p4 cz h0 n0 v U'.heap U'.vm L ∧ ReturnedEndW U o U' L ({ frames := 4, cells := 4, slots := 10, locals := 66 } : Room).cells ({ frames := 4, cells := 4, slots := 10, locals := 66 } : Room).slots) := by
  refine MetFree.of_bodySF (plainFor_of_name pn_com_example_rightful_keys_rightfulkeys_store_ProjectIsDefaultPinLaw) hisR ?_
  intro p e s m args below meth c s₁ Bd hml0 hP hK
  obtain ⟨rfl, hZ, hh, hJ⟩ := hP
  have hx := Bd.exec
  have hby := Bd.bytes
  have hml : c.maxLocals = 4 := hml0
  have hown : s.vm.findClass "com/example/rightful_keys/rightfulkeys/store/ProjectIsDefaultPinLaw" = some m.cls := findClass_of_methodNamed Bd.named
  have hnm := (name_of_methodNamed Bd.named Bd.method).1
  have X0 : Stand p l e ({ frames := 4, cells := 4, slots := 10, locals := 66 } : Room) s m #[(.int p1), (.int p2), (.int p3), (.int p4)] below meth c s₁ [] 0 0 := Stand.of_body Bd
  have e0 : s₁.heap = h0 := by rw [← hh, Bd.state]; rfl
  have N0 := Fr.nil n0
  have wS : ∀ a ∈ Bundle.stringAtoms, a.before a0 Z = true := fun d hd => hw d ((by decide +kernel : ∀ d ∈ Bundle.stringAtoms, d ∈ tables_1) d hd)
  have hkeep : ∀ (b : Addr) (cl : Cell), Z.heap[b]? = some cl → s.heap[b]? = some cl := fun b cl q => by rw [hh]; exact O0.2.2 b cl q
  have KP0 : Keep h0 h0 [] := Keep.refl h0 []
  have go0 : Goes p e below s₁ (G_rmMk m p1 p2 p3 p4) s₁ (mkF m 0 #[.val (.int p1), .val (.int p2), .val (.int p3), .val (.int p4)] []) := fun tq kq => castTop (by first | (simp [entryFrame, mkF, argsToLocals, Value.category, G_rmMk]; done) | rfl) kq
  have hws : ∀ d ∈ StrChars.Road.words, d.before a0 Z = true := fun d hd => hw d ((by decide +kernel : ∀ d ∈ StrChars.Road.words, d ∈ tables_1) d hd)
  have go31 : Goes p e below s₁ (G_rmMk m p1 p2 p3 p4) s₁ (mkF m 1 #[.val (.int p1), .val (.int p2), .val (.int p3), .val (.int p4)] [(.int p1)]) := fun tq kq => go0 tq (by
    show Steps p.tables e below (s₁.setTop (mkF m 0 #[.val (.int p1), .val (.int p2), .val (.int p3), .val (.int p4)] [])) _
    refine XS.iloadN X0.here hx rfl (hb hby d1_0) rfl ?_
    exact kq)
  by_cases hm0 : p1 = (0 : Int32)
  · have go32 : Goes p e below s₁ (G_rmMk m p1 p2 p3 p4) s₁ (mkF m 4 #[.val (.int p1), .val (.int p2), .val (.int p3), .val (.int p4)] []) := fun tq kq => go31 tq (by
      show Steps p.tables e below (s₁.setTop (mkF m 1 #[.val (.int p1), .val (.int p2), .val (.int p3), .val (.int p4)] [(.int p1)])) _
      refine XS.ifNo X0.here hx rfl (hb hby d1_1) rfl ((if0 _ _).trans (teq hm0).2) ?_
      exact kq)
    obtain ⟨T33, h33, X33, e33, E33, A33, D33, -, st33⟩ := newO X0 hx hZ hown (tw4 hw) (tw5 hw) (tw6 hw) e0 (g := (mkF m 4 #[.val (.int p1), .val (.int p2), .val (.int p3), .val (.int p4)] [])) rfl (hb hby d1_4) (by decide) (by decide)
    obtain ⟨b33, g33⟩ : ∃ z, z = h0.size := ⟨_, rfl⟩
    rw [← g33] at A33 D33 st33
    have g_b33 : n0 ≤ b33 := Nat.le_trans Z0 (Nat.le_of_eq g33.symm)
    have sz_b33 : h0.size ≤ b33 := Nat.le_trans KP0.1 (Nat.le_of_eq g33.symm)
    have KP33 : Keep h0 h33 [] := KP0.ext E33
    have O33 := O0.ext E33
    have ZS33 : n0 ≤ h33.size := Nat.le_trans Z0 E33.1
    have F33_coder : Fld Z h33 b33 "java/lang/String" "coder" "B" (.int (0 : Int32)) := D33 (Or.inr (tw31 hw)) (ty := .byte) (by decide)
    have F33_value : Fld Z h33 b33 "java/lang/String" "value" "[B" .null := D33 (Or.inr (tw33 hw)) (ty := (.array .byte)) (by decide)
    have go33 : Goes p e below s₁ (G_rmMk m p1 p2 p3 p4) T33 (mkF m 7 #[.val (.int p1), .val (.int p2), .val (.int p3), .val (.int p4)] [(.ref b33)]) := fun tq kq => go32 tq (st33 _ kq)
    have go34 : Goes p e below s₁ (G_rmMk m p1 p2 p3 p4) T33 (mkF m 9 #[.val (.int p1), .val (.int p2), .val (.int p3), .val (.int p4)] [(.int (0 : Int32)), (.ref b33), (.ref b33)]) := fun tq kq => go33 tq (by
      show Steps p.tables e below (T33.setTop (mkF m 7 #[.val (.int p1), .val (.int p2), .val (.int p3), .val (.int p4)] [(.ref b33)])) _
      refine XS.dup X33.here hx rfl (hb hby d1_7) rfl rfl ?_
      show Steps p.tables e below (T33.setTop (mkF m 8 #[.val (.int p1), .val (.int p2), .val (.int p3), .val (.int p4)] [(.ref b33), (.ref b33)])) _
      refine XS.iconst X33.here hx rfl (hb hby d1_8) ?_
      exact kq)
    obtain ⟨T35, h35, k35, X35, e35, E35, A35, st35⟩ := newP X33 hx hZ (aty := .char) (tw7 hw) e33 (g := (mkF m 9 #[.val (.int p1), .val (.int p2), .val (.int p3), .val (.int p4)] [(.int (0 : Int32)), (.ref b33), (.ref b33)])) rfl (hb hby d1_9) rfl (by decide) (cap := 0) (by decide) (by decide) (by decide) (by decide)
    obtain ⟨b35, g35⟩ : ∃ z, z = h33.size := ⟨_, rfl⟩
    rw [← g35] at A35 st35
    have g_b35 : n0 ≤ b35 := Nat.le_trans ZS33 (Nat.le_of_eq g35.symm)
    have sz_b35 : h0.size ≤ b35 := Nat.le_trans KP33.1 (Nat.le_of_eq g35.symm)
    have KP35 : Keep h0 h35 [] := KP33.ext E35
    have O35 := O33.ext E35
    have ZS35 : n0 ≤ h35.size := Nat.le_trans ZS33 E35.1
    have V35 : Arv Z h35 b35 k35 .char (0 : Int32) [] (.int (0 : Int32)) := (Arv.new A35 (by decide))
    have ne36 : b33 ≠ b35 := Nat.ne_of_lt (Nat.lt_of_lt_of_le A33.lt (Nat.le_of_eq g35.symm))
    have go35 : Goes p e below s₁ (G_rmMk m p1 p2 p3 p4) T35 (mkF m 11 #[.val (.int p1), .val (.int p2), .val (.int p3), .val (.int p4)] [(.ref b35), (.ref b33), (.ref b33)]) := fun tq kq => go34 tq (st35 _ kq)
    have J1 := JJ.keep hJ KP35
    obtain ⟨vv37, _, ⟨T37, L37, k37, n37⟩, -, X37, hs37, gr37, ⟨Lc37, hQ37, l37, y37, z37⟩, st37⟩ := X35.specialBackS hx (y := (⟨"java/lang/String", "<init>", "([C)V"⟩ : MethodName)) rfl hown (mvT hZ (tw8 hw)) (mvT hZ (tw9 hw)) (mvT hZ (tw10 hw)) (by decide) (own_backV (W := 1) (rmC1 l Z a0 hw [] b33 b35 k35 h35 n0 ZS35 O35 g_b33 (A33.ext E35) (F33_value.ext E35) (F33_coder.ext E35) hcw hld V35) hZ J1 (tw10 hw) (tw6 hw) (by decide) (by decide)) (g := (mkF m 11 #[.val (.int p1), .val (.int p2), .val (.int p3), .val (.int p4)] [(.ref b35), (.ref b33), (.ref b33)])) rfl (by rw [hml]; rfl) (Steps.refl _) (a := b33) (argsL := [(.ref b35)]) (rest := [(.ref b33)]) (lenOf pd_1 rfl) rfl (by show 2 * 0 + _ ≤ _; exact Nat.le_of_eq rfl) (hb hby d1_11) (fun _ _ => ⟨rfl, e35, (by decide : 2 + 2 ≤ _), (by decide : 4 + 4 ≤ _)⟩)
    dsimp only [Pt.U, Pt.locs, Pt.cells, Pt.slots] at X37 hs37 gr37 l37 y37 z37 st37 hQ37
    subst l37 y37 z37
    obtain ⟨Y37, hS37, hZ37, hown37⟩ := rebS (s := s) (vm0 := s.vm) ((State.WarmedH.refl s).since 0) (Nat.zero_le _) X37 hs37 gr37 hZ hown
    have hZ := hZ37
    have hown := hown37
    obtain ⟨rfl, Nq37, K37, J37, A37, Fc37, t37, kb37, Fv37, V37⟩ := hQ37
    have N37 := Fr.app N0 Nq37
    have ZS37 : n0 ≤ T37.heap.size := Nat.le_trans ZS35 K37.1
    have KP37 : Keep h0 T37.heap [] := KP35.trans K37 (allS (Or.inr sz_b33) all0)
    have O37 := O35.keep K37 (allS g_b33 all0)
    have go37 : Goes p e below s₁ (G_rmMk m p1 p2 p3 p4) T37 (mkF m 14 #[.val (.int p1), .val (.int p2), .val (.int p3), .val (.int p4)] [(.ref b33)]) := fun tq kq => go35 tq (st37.trans kq)
    obtain ⟨fs, hr, hrun, hended, hEW⟩ := Stand.leaveW (s := s) Y37 hS37 (Nat.le_refl _) (v := some (.ref b33)) (fun h => by rw [Bd.returns] at h; cases h)
    refine ⟨_, _, go37 _ ?_, hrun, hended, _, _, rfl, ?_, hEW.1, hEW.2.1, hEW.2.2.1, hEW.2.2.2.mono (by decide) (by decide)⟩
    · jvm_step Y37.here [Y37.here.top, hx, (hb hby d1_14), Y37.method', Bd.returns, Value.isRef, FieldType.isReference]
      first | (intro acts; rw [hr _ acts rfl rfl rfl]) | rw [hr _ _ rfl rfl rfl]
      exact Steps.refl _
    · show Q_rmMk Z p1 p2 p3 p4 cz h0 n0 _ T37.heap T37.vm _
      exact ⟨b33, t37, kb37, 0, [], rfl, N37, KP37, JJ.warm (s := s.setVm T37.vm) J37 Y37.warmed, A37, Fc37, Fv37, V37, by rw [show csv p1 p2 p3 p4 = [] from if_pos hm0]; exact Or.inl ⟨rfl, rfl, rfl, by simp⟩⟩
  · have go38 : Goes p e below s₁ (G_rmMk m p1 p2 p3 p4) s₁ (mkF m 17 #[.val (.int p1), .val (.int p2), .val (.int p3), .val (.int p4)] [(.int (1 : Int32)), (.int p1)]) := fun tq kq => go31 tq (by
      show Steps p.tables e below (s₁.setTop (mkF m 1 #[.val (.int p1), .val (.int p2), .val (.int p3), .val (.int p4)] [(.int p1)])) _
      refine XS.ifYes X0.here hx rfl (pc0 := 1) (pc' := 15) rfl (hb hby d1_1) rfl ((if0 _ _).trans (feq hm0).2) (by decide) (by decide) ?_
      show Steps p.tables e below (s₁.setTop (mkF m 15 #[.val (.int p1), .val (.int p2), .val (.int p3), .val (.int p4)] [])) _
      refine XS.iloadN X0.here hx rfl (hb hby d1_15) rfl ?_
      show Steps p.tables e below (s₁.setTop (mkF m 16 #[.val (.int p1), .val (.int p2), .val (.int p3), .val (.int p4)] [(.int p1)])) _
      refine XS.iconst X0.here hx rfl (hb hby d1_16) ?_
      exact kq)
    by_cases hm1 : p1 = (1 : Int32)
    · have go39 : Goes p e below s₁ (G_rmMk m p1 p2 p3 p4) s₁ (mkF m 20 #[.val (.int p1), .val (.int p2), .val (.int p3), .val (.int p4)] []) := fun tq kq => go38 tq (by
        show Steps p.tables e below (s₁.setTop (mkF m 17 #[.val (.int p1), .val (.int p2), .val (.int p3), .val (.int p4)] [(.int (1 : Int32)), (.int p1)])) _
        refine XS.icmpNo X0.here hx rfl (hb hby d1_17) rfl (teq hm1).2 ?_
        exact kq)
      obtain ⟨T40, h40, X40, e40, E40, A40, D40, -, st40⟩ := newO X0 hx hZ hown (tw4 hw) (tw5 hw) (tw6 hw) e0 (g := (mkF m 20 #[.val (.int p1), .val (.int p2), .val (.int p3), .val (.int p4)] [])) rfl (hb hby d1_20) (by decide) (by decide)
      obtain ⟨b40, g40⟩ : ∃ z, z = h0.size := ⟨_, rfl⟩
      rw [← g40] at A40 D40 st40
      have g_b40 : n0 ≤ b40 := Nat.le_trans Z0 (Nat.le_of_eq g40.symm)
      have sz_b40 : h0.size ≤ b40 := Nat.le_trans KP0.1 (Nat.le_of_eq g40.symm)
      have KP40 : Keep h0 h40 [] := KP0.ext E40
      have O40 := O0.ext E40
      have ZS40 : n0 ≤ h40.size := Nat.le_trans Z0 E40.1
      have F40_coder : Fld Z h40 b40 "java/lang/String" "coder" "B" (.int (0 : Int32)) := D40 (Or.inr (tw31 hw)) (ty := .byte) (by decide)
      have F40_value : Fld Z h40 b40 "java/lang/String" "value" "[B" .null := D40 (Or.inr (tw33 hw)) (ty := (.array .byte)) (by decide)
      have go40 : Goes p e below s₁ (G_rmMk m p1 p2 p3 p4) T40 (mkF m 23 #[.val (.int p1), .val (.int p2), .val (.int p3), .val (.int p4)] [(.ref b40)]) := fun tq kq => go39 tq (st40 _ kq)
      have go41 : Goes p e below s₁ (G_rmMk m p1 p2 p3 p4) T40 (mkF m 25 #[.val (.int p1), .val (.int p2), .val (.int p3), .val (.int p4)] [(.int (1 : Int32)), (.ref b40), (.ref b40)]) := fun tq kq => go40 tq (by
        show Steps p.tables e below (T40.setTop (mkF m 23 #[.val (.int p1), .val (.int p2), .val (.int p3), .val (.int p4)] [(.ref b40)])) _
        refine XS.dup X40.here hx rfl (hb hby d1_23) rfl rfl ?_
        show Steps p.tables e below (T40.setTop (mkF m 24 #[.val (.int p1), .val (.int p2), .val (.int p3), .val (.int p4)] [(.ref b40), (.ref b40)])) _
        refine XS.iconst X40.here hx rfl (hb hby d1_24) ?_
        exact kq)
      obtain ⟨T42, h42, k42, X42, e42, E42, A42, st42⟩ := newP X40 hx hZ (aty := .char) (tw7 hw) e40 (g := (mkF m 25 #[.val (.int p1), .val (.int p2), .val (.int p3), .val (.int p4)] [(.int (1 : Int32)), (.ref b40), (.ref b40)])) rfl (hb hby d1_25) rfl (by decide) (cap := 1) (by decide) (by decide) (by decide) (by decide)
      obtain ⟨b42, g42⟩ : ∃ z, z = h40.size := ⟨_, rfl⟩
      rw [← g42] at A42 st42
      have g_b42 : n0 ≤ b42 := Nat.le_trans ZS40 (Nat.le_of_eq g42.symm)
      have sz_b42 : h0.size ≤ b42 := Nat.le_trans KP40.1 (Nat.le_of_eq g42.symm)
      have KP42 : Keep h0 h42 [] := KP40.ext E42
      have O42 := O40.ext E42
      have ZS42 : n0 ≤ h42.size := Nat.le_trans ZS40 E42.1
      have V42 : Arv Z h42 b42 k42 .char (1 : Int32) [(.int (0 : Int32))] (.int (0 : Int32)) := (Arv.new A42 (by decide)).pad (pad_rep [] (.int (0 : Int32)) 1)
      have ne43 : b40 ≠ b42 := Nat.ne_of_lt (Nat.lt_of_lt_of_le A40.lt (Nat.le_of_eq g42.symm))
      have go42 : Goes p e below s₁ (G_rmMk m p1 p2 p3 p4) T42 (mkF m 27 #[.val (.int p1), .val (.int p2), .val (.int p3), .val (.int p4)] [(.ref b42), (.ref b40), (.ref b40)]) := fun tq kq => go41 tq (st42 _ kq)
      have go45 : Goes p e below s₁ (G_rmMk m p1 p2 p3 p4) T42 (mkF m 30 #[.val (.int p1), .val (.int p2), .val (.int p3), .val (.int p4)] [(.int p2), (.int (0 : Int32)), (.ref b42), (.ref b42), (.ref b40), (.ref b40)]) := fun tq kq => go42 tq (by
        show Steps p.tables e below (T42.setTop (mkF m 27 #[.val (.int p1), .val (.int p2), .val (.int p3), .val (.int p4)] [(.ref b42), (.ref b40), (.ref b40)])) _
        refine XS.dup X42.here hx rfl (hb hby d1_27) rfl rfl ?_
        show Steps p.tables e below (T42.setTop (mkF m 28 #[.val (.int p1), .val (.int p2), .val (.int p3), .val (.int p4)] [(.ref b42), (.ref b42), (.ref b40), (.ref b40)])) _
        refine XS.iconst X42.here hx rfl (hb hby d1_28) ?_
        show Steps p.tables e below (T42.setTop (mkF m 29 #[.val (.int p1), .val (.int p2), .val (.int p3), .val (.int p4)] [(.int (0 : Int32)), (.ref b42), (.ref b42), (.ref b40), (.ref b40)])) _
        refine XS.iloadN X42.here hx rfl (hb hby d1_29) rfl ?_
        exact kq)
      obtain ⟨cl44, Ar44, q44, S44, N_44, H44, G44⟩ := V42
      have hin44 : ¬ ((0 : Int32) < 0 ∨ cl44.slots.size ≤ ((0 : Int32)).toNatClampNeg) := inb_of S44 ⟨by decide, by decide⟩
      obtain ⟨T46, h46, X46, e46, W46, st46⟩ := stC X42 hx hZ e42 Ar44 (j := (0 : Int32)) hin44 (g := (mkF m 30 #[.val (.int p1), .val (.int p2), .val (.int p3), .val (.int p4)] [(.int p2), (.int (0 : Int32)), (.ref b42), (.ref b42), (.ref b40), (.ref b40)])) rfl rfl (hb hby d1_30)
      have N46 := Fr.snoc X46 N0 g_b42
      have KP46 : Keep h0 h46 [] := KP42.wr W46 (Or.inr sz_b42)
      have O46 := O42.wr W46 g_b42
      have ZS46 : n0 ≤ h46.size := Nat.le_trans ZS42 (Keep.of_wr W46).1
      have V46 : Arv Z h46 b42 k42 .char (1 : Int32) [(.int (nar .char p2))] (.int (0 : Int32)) := Arv.set Ar44 q44 S44 N_44 H44 G44 (fits_nar_char _) W46 0 rfl (Nat.le_of_ble_eq_true rfl)
      have go46 : Goes p e below s₁ (G_rmMk m p1 p2 p3 p4) T46 (mkF m 31 #[.val (.int p1), .val (.int p2), .val (.int p3), .val (.int p4)] [(.ref b42), (.ref b40), (.ref b40)]) := fun tq kq => go45 tq (st46 _ kq)
      have hcl : [(nar .char p2)] = ([p2] : List Int32) := by rw [hka.2.2]
      have hpc : ∀ c ∈ ([(nar .char p2)] : List Int32), ¬ c < 0 ∧ ¬ (255 : Int32) < c := by
        rw [hcl]
        intro c hc
        simp only [List.mem_cons, List.not_mem_nil, or_false] at hc
        rcases hc with rfl
        · exact ⟨hka.1, hka.2.1⟩
      obtain ⟨vv47, _, ⟨T47, L47, k47, n47⟩, -, X47, ⟨Lc47, hQ47, l47, y47, z47⟩, st47⟩ := X46.specialBack hx (y := (⟨"java/lang/String", "<init>", "([C)V"⟩ : MethodName)) rfl hown (mvT hZ (tw8 hw)) (mvT hZ (tw9 hw)) (mvT hZ (tw10 hw)) (by decide) (StrChars.Road.backV (W := 1) hZ hws (kI := 4) (tw5 hw) (cs := ([(nar .char p2)] : List Int32)) (bs := ([(nar .char p2)] : List Int32).map (fun c => c.toInt8.toInt32)) (n := 1) g_b40 ZS46 (Exa.wr W46 (A40.ext E42)) (Fld.other W46 (F40_value.ext E42) (Or.inl ne43)) (Fld.other W46 (F40_coder.ext E42) (Or.inl ne43)) V46 (SC.ext O46.2) hz rfl rfl (by decide) (by decide) hpc rfl (by decide) (by decide)) (g := (mkF m 31 #[.val (.int p1), .val (.int p2), .val (.int p3), .val (.int p4)] [(.ref b42), (.ref b40), (.ref b40)])) rfl (by rw [hml]; rfl) (Steps.refl _) (a := b40) (argsL := [(.ref b42)]) (rest := [(.ref b40)]) (lenOf pd_1 rfl) rfl (by show 2 * 0 + _ ≤ _; exact Nat.le_of_eq rfl) (hb hby d1_31) (fun _ _ => ⟨rfl, e46, (by decide : 2 + 1 ≤ _), (by decide : 5 + 1 ≤ _)⟩)
      dsimp only [Pt.U, Pt.locs, Pt.cells, Pt.slots] at X47 l47 y47 z47 st47 hQ47
      subst l47 y47 z47
      obtain ⟨rfl, Nq47, K47, A47, Fc47, t47, kb47, -, -, -, Fv47, V47⟩ := hQ47
      have N47 := Fr.app N46 Nq47
      have ZS47 : n0 ≤ T47.heap.size := Nat.le_trans ZS46 K47.1
      have KP47 : Keep h0 T47.heap [] := KP46.trans K47 (allS (Or.inr sz_b40) all0)
      have O47 := O46.keep K47 (allS g_b40 all0)
      have go47 : Goes p e below s₁ (G_rmMk m p1 p2 p3 p4) T47 (mkF m 34 #[.val (.int p1), .val (.int p2), .val (.int p3), .val (.int p4)] [(.ref b40)]) := fun tq kq => go46 tq (st47.trans kq)
      have hcv : csv p1 p2 p3 p4 = [(nar .char p2)] := ((if_neg hm0).trans (if_pos hm1)).trans hcl.symm
      obtain ⟨fs, hr, hrun, hended, hW, hsame⟩ := X47.leave (v := some (.ref b40)) (fun h => by rw [Bd.returns] at h; cases h)
      refine ⟨_, _, go47 _ ?_, hrun, hended, _, _, rfl, ?_, ReturnedEndW.of_narrow ⟨_, rfl⟩ hW (hsame.mono (by decide) (by decide))⟩
      · jvm_step X47.here [X47.here.top, hx, (hb hby d1_34), X47.method', Bd.returns, Value.isRef, FieldType.isReference]
        first | (intro acts; rw [hr _ acts rfl rfl rfl]) | rw [hr _ _ rfl rfl rfl]
        exact Steps.refl _
      · show Q_rmMk Z p1 p2 p3 p4 cz h0 n0 _ T47.heap T47.vm _
        exact ⟨b40, t47, kb47, _, _, rfl, N47, KP47, JJ.warm (s := s) (JJ.keep hJ KP47) X47.warmed, A47, Fc47, Fv47, V47, by rw [hcv]; exact own_cdd hcl (fun c hc => (hpc c hc).2)⟩
    · have go48 : Goes p e below s₁ (G_rmMk m p1 p2 p3 p4) s₁ (mkF m 37 #[.val (.int p1), .val (.int p2), .val (.int p3), .val (.int p4)] [(.int (2 : Int32)), (.int p1)]) := fun tq kq => go38 tq (by
        show Steps p.tables e below (s₁.setTop (mkF m 17 #[.val (.int p1), .val (.int p2), .val (.int p3), .val (.int p4)] [(.int (1 : Int32)), (.int p1)])) _
        refine XS.icmpYes X0.here hx rfl (pc0 := 17) (pc' := 35) rfl (hb hby d1_17) rfl (feq hm1).2 (by decide) (by decide) ?_
        show Steps p.tables e below (s₁.setTop (mkF m 35 #[.val (.int p1), .val (.int p2), .val (.int p3), .val (.int p4)] [])) _
        refine XS.iloadN X0.here hx rfl (hb hby d1_35) rfl ?_
        show Steps p.tables e below (s₁.setTop (mkF m 36 #[.val (.int p1), .val (.int p2), .val (.int p3), .val (.int p4)] [(.int p1)])) _
        refine XS.iconst X0.here hx rfl (hb hby d1_36) ?_
        exact kq)
      by_cases hm2 : p1 = (2 : Int32)
      · have go49 : Goes p e below s₁ (G_rmMk m p1 p2 p3 p4) s₁ (mkF m 40 #[.val (.int p1), .val (.int p2), .val (.int p3), .val (.int p4)] []) := fun tq kq => go48 tq (by
          show Steps p.tables e below (s₁.setTop (mkF m 37 #[.val (.int p1), .val (.int p2), .val (.int p3), .val (.int p4)] [(.int (2 : Int32)), (.int p1)])) _
          refine XS.icmpNo X0.here hx rfl (hb hby d1_37) rfl (teq hm2).2 ?_
          exact kq)
        obtain ⟨T50, h50, X50, e50, E50, A50, D50, -, st50⟩ := newO X0 hx hZ hown (tw4 hw) (tw5 hw) (tw6 hw) e0 (g := (mkF m 40 #[.val (.int p1), .val (.int p2), .val (.int p3), .val (.int p4)] [])) rfl (hb hby d1_40) (by decide) (by decide)
        obtain ⟨b50, g50⟩ : ∃ z, z = h0.size := ⟨_, rfl⟩
        rw [← g50] at A50 D50 st50
        have g_b50 : n0 ≤ b50 := Nat.le_trans Z0 (Nat.le_of_eq g50.symm)
        have sz_b50 : h0.size ≤ b50 := Nat.le_trans KP0.1 (Nat.le_of_eq g50.symm)
        have KP50 : Keep h0 h50 [] := KP0.ext E50
        have O50 := O0.ext E50
        have ZS50 : n0 ≤ h50.size := Nat.le_trans Z0 E50.1
        have F50_coder : Fld Z h50 b50 "java/lang/String" "coder" "B" (.int (0 : Int32)) := D50 (Or.inr (tw31 hw)) (ty := .byte) (by decide)
        have F50_value : Fld Z h50 b50 "java/lang/String" "value" "[B" .null := D50 (Or.inr (tw33 hw)) (ty := (.array .byte)) (by decide)
        have go50 : Goes p e below s₁ (G_rmMk m p1 p2 p3 p4) T50 (mkF m 43 #[.val (.int p1), .val (.int p2), .val (.int p3), .val (.int p4)] [(.ref b50)]) := fun tq kq => go49 tq (st50 _ kq)
        have go51 : Goes p e below s₁ (G_rmMk m p1 p2 p3 p4) T50 (mkF m 45 #[.val (.int p1), .val (.int p2), .val (.int p3), .val (.int p4)] [(.int (2 : Int32)), (.ref b50), (.ref b50)]) := fun tq kq => go50 tq (by
          show Steps p.tables e below (T50.setTop (mkF m 43 #[.val (.int p1), .val (.int p2), .val (.int p3), .val (.int p4)] [(.ref b50)])) _
          refine XS.dup X50.here hx rfl (hb hby d1_43) rfl rfl ?_
          show Steps p.tables e below (T50.setTop (mkF m 44 #[.val (.int p1), .val (.int p2), .val (.int p3), .val (.int p4)] [(.ref b50), (.ref b50)])) _
          refine XS.iconst X50.here hx rfl (hb hby d1_44) ?_
          exact kq)
        obtain ⟨T52, h52, k52, X52, e52, E52, A52, st52⟩ := newP X50 hx hZ (aty := .char) (tw7 hw) e50 (g := (mkF m 45 #[.val (.int p1), .val (.int p2), .val (.int p3), .val (.int p4)] [(.int (2 : Int32)), (.ref b50), (.ref b50)])) rfl (hb hby d1_45) rfl (by decide) (cap := 2) (by decide) (by decide) (by decide) (by decide)
        obtain ⟨b52, g52⟩ : ∃ z, z = h50.size := ⟨_, rfl⟩
        rw [← g52] at A52 st52
        have g_b52 : n0 ≤ b52 := Nat.le_trans ZS50 (Nat.le_of_eq g52.symm)
        have sz_b52 : h0.size ≤ b52 := Nat.le_trans KP50.1 (Nat.le_of_eq g52.symm)
        have KP52 : Keep h0 h52 [] := KP50.ext E52
        have O52 := O50.ext E52
        have ZS52 : n0 ≤ h52.size := Nat.le_trans ZS50 E52.1
        have V52 : Arv Z h52 b52 k52 .char (2 : Int32) [(.int (0 : Int32)), (.int (0 : Int32))] (.int (0 : Int32)) := (Arv.new A52 (by decide)).pad (pad_rep [] (.int (0 : Int32)) 2)
        have ne53 : b50 ≠ b52 := Nat.ne_of_lt (Nat.lt_of_lt_of_le A50.lt (Nat.le_of_eq g52.symm))
        have go52 : Goes p e below s₁ (G_rmMk m p1 p2 p3 p4) T52 (mkF m 47 #[.val (.int p1), .val (.int p2), .val (.int p3), .val (.int p4)] [(.ref b52), (.ref b50), (.ref b50)]) := fun tq kq => go51 tq (st52 _ kq)
        have go55 : Goes p e below s₁ (G_rmMk m p1 p2 p3 p4) T52 (mkF m 50 #[.val (.int p1), .val (.int p2), .val (.int p3), .val (.int p4)] [(.int p2), (.int (0 : Int32)), (.ref b52), (.ref b52), (.ref b50), (.ref b50)]) := fun tq kq => go52 tq (by
          show Steps p.tables e below (T52.setTop (mkF m 47 #[.val (.int p1), .val (.int p2), .val (.int p3), .val (.int p4)] [(.ref b52), (.ref b50), (.ref b50)])) _
          refine XS.dup X52.here hx rfl (hb hby d1_47) rfl rfl ?_
          show Steps p.tables e below (T52.setTop (mkF m 48 #[.val (.int p1), .val (.int p2), .val (.int p3), .val (.int p4)] [(.ref b52), (.ref b52), (.ref b50), (.ref b50)])) _
          refine XS.iconst X52.here hx rfl (hb hby d1_48) ?_
          show Steps p.tables e below (T52.setTop (mkF m 49 #[.val (.int p1), .val (.int p2), .val (.int p3), .val (.int p4)] [(.int (0 : Int32)), (.ref b52), (.ref b52), (.ref b50), (.ref b50)])) _
          refine XS.iloadN X52.here hx rfl (hb hby d1_49) rfl ?_
          exact kq)
        obtain ⟨cl54, Ar54, q54, S54, N_54, H54, G54⟩ := V52
        have hin54 : ¬ ((0 : Int32) < 0 ∨ cl54.slots.size ≤ ((0 : Int32)).toNatClampNeg) := inb_of S54 ⟨by decide, by decide⟩
        obtain ⟨T56, h56, X56, e56, W56, st56⟩ := stC X52 hx hZ e52 Ar54 (j := (0 : Int32)) hin54 (g := (mkF m 50 #[.val (.int p1), .val (.int p2), .val (.int p3), .val (.int p4)] [(.int p2), (.int (0 : Int32)), (.ref b52), (.ref b52), (.ref b50), (.ref b50)])) rfl rfl (hb hby d1_50)
        have N56 := Fr.snoc X56 N0 g_b52
        have KP56 : Keep h0 h56 [] := KP52.wr W56 (Or.inr sz_b52)
        have O56 := O52.wr W56 g_b52
        have ZS56 : n0 ≤ h56.size := Nat.le_trans ZS52 (Keep.of_wr W56).1
        have V56 : Arv Z h56 b52 k52 .char (2 : Int32) [(.int (nar .char p2)), (.int (0 : Int32))] (.int (0 : Int32)) := Arv.set Ar54 q54 S54 N_54 H54 G54 (fits_nar_char _) W56 0 rfl (Nat.le_of_ble_eq_true rfl)
        have go56 : Goes p e below s₁ (G_rmMk m p1 p2 p3 p4) T56 (mkF m 51 #[.val (.int p1), .val (.int p2), .val (.int p3), .val (.int p4)] [(.ref b52), (.ref b50), (.ref b50)]) := fun tq kq => go55 tq (st56 _ kq)
        have go58 : Goes p e below s₁ (G_rmMk m p1 p2 p3 p4) T56 (mkF m 54 #[.val (.int p1), .val (.int p2), .val (.int p3), .val (.int p4)] [(.int p3), (.int (1 : Int32)), (.ref b52), (.ref b52), (.ref b50), (.ref b50)]) := fun tq kq => go56 tq (by
          show Steps p.tables e below (T56.setTop (mkF m 51 #[.val (.int p1), .val (.int p2), .val (.int p3), .val (.int p4)] [(.ref b52), (.ref b50), (.ref b50)])) _
          refine XS.dup X56.here hx rfl (hb hby d1_51) rfl rfl ?_
          show Steps p.tables e below (T56.setTop (mkF m 52 #[.val (.int p1), .val (.int p2), .val (.int p3), .val (.int p4)] [(.ref b52), (.ref b52), (.ref b50), (.ref b50)])) _
          refine XS.iconst X56.here hx rfl (hb hby d1_52) ?_
          show Steps p.tables e below (T56.setTop (mkF m 53 #[.val (.int p1), .val (.int p2), .val (.int p3), .val (.int p4)] [(.int (1 : Int32)), (.ref b52), (.ref b52), (.ref b50), (.ref b50)])) _
          refine XS.iloadN X56.here hx rfl (hb hby d1_53) rfl ?_
          exact kq)
        obtain ⟨cl57, Ar57, q57, S57, N_57, H57, G57⟩ := V56
        have hin57 : ¬ ((1 : Int32) < 0 ∨ cl57.slots.size ≤ ((1 : Int32)).toNatClampNeg) := inb_of S57 ⟨by decide, by decide⟩
        obtain ⟨T59, h59, X59, e59, W59, st59⟩ := stC X56 hx hZ e56 Ar57 (j := (1 : Int32)) hin57 (g := (mkF m 54 #[.val (.int p1), .val (.int p2), .val (.int p3), .val (.int p4)] [(.int p3), (.int (1 : Int32)), (.ref b52), (.ref b52), (.ref b50), (.ref b50)])) rfl rfl (hb hby d1_54)
        have N59 := Fr.snoc X59 N56 g_b52
        have KP59 : Keep h0 h59 [] := KP56.wr W59 (Or.inr sz_b52)
        have O59 := O56.wr W59 g_b52
        have ZS59 : n0 ≤ h59.size := Nat.le_trans ZS56 (Keep.of_wr W59).1
        have V59 : Arv Z h59 b52 k52 .char (2 : Int32) [(.int (nar .char p2)), (.int (nar .char p3))] (.int (0 : Int32)) := Arv.set Ar57 q57 S57 N_57 H57 G57 (fits_nar_char _) W59 1 rfl (Nat.le_of_ble_eq_true rfl)
        have go59 : Goes p e below s₁ (G_rmMk m p1 p2 p3 p4) T59 (mkF m 55 #[.val (.int p1), .val (.int p2), .val (.int p3), .val (.int p4)] [(.ref b52), (.ref b50), (.ref b50)]) := fun tq kq => go58 tq (st59 _ kq)
        have hcl : [(nar .char p2), (nar .char p3)] = ([p2, p3] : List Int32) := by rw [hka.2.2, hkb.2.2]
        have hpc : ∀ c ∈ ([(nar .char p2), (nar .char p3)] : List Int32), ¬ c < 0 ∧ ¬ (255 : Int32) < c := by
          rw [hcl]
          intro c hc
          simp only [List.mem_cons, List.not_mem_nil, or_false] at hc
          rcases hc with rfl | rfl
          · exact ⟨hka.1, hka.2.1⟩
          · exact ⟨hkb.1, hkb.2.1⟩
        have f60 := (Fld.other W59 (Fld.other W56 (F50_value.ext E52) (Or.inl ne53)) (Or.inl ne53))
        have f61 := (Fld.other W59 (Fld.other W56 (F50_coder.ext E52) (Or.inl ne53)) (Or.inl ne53))
        obtain ⟨vv62, _, ⟨T62, L62, k62, n62⟩, -, X62, ⟨Lc62, hQ62, l62, y62, z62⟩, st62⟩ := X59.specialBack hx (y := (⟨"java/lang/String", "<init>", "([C)V"⟩ : MethodName)) rfl hown (mvT hZ (tw8 hw)) (mvT hZ (tw9 hw)) (mvT hZ (tw10 hw)) (by decide) (StrChars.Road.backV (W := 1) hZ hws (kI := 4) (tw5 hw) (cs := ([(nar .char p2), (nar .char p3)] : List Int32)) (bs := ([(nar .char p2), (nar .char p3)] : List Int32).map (fun c => c.toInt8.toInt32)) (n := 2) g_b50 ZS59 (Exa.wr W59 (Exa.wr W56 (A50.ext E52))) f60 f61 V59 (SC.ext O59.2) hz rfl rfl (by decide) (by decide) hpc rfl (by decide) (by decide)) (g := (mkF m 55 #[.val (.int p1), .val (.int p2), .val (.int p3), .val (.int p4)] [(.ref b52), (.ref b50), (.ref b50)])) rfl (by rw [hml]; rfl) (Steps.refl _) (a := b50) (argsL := [(.ref b52)]) (rest := [(.ref b50)]) (lenOf pd_1 rfl) rfl (by show 2 * 0 + _ ≤ _; exact Nat.le_of_eq rfl) (hb hby d1_55) (fun _ _ => ⟨rfl, e59, (by decide : 2 + 1 ≤ _), (by decide : 6 + 2 ≤ _)⟩)
        dsimp only [Pt.U, Pt.locs, Pt.cells, Pt.slots] at X62 l62 y62 z62 st62 hQ62
        subst l62 y62 z62
        obtain ⟨rfl, Nq62, K62, A62, Fc62, t62, kb62, -, -, -, Fv62, V62⟩ := hQ62
        have N62 := Fr.app N59 Nq62
        have ZS62 : n0 ≤ T62.heap.size := Nat.le_trans ZS59 K62.1
        have KP62 : Keep h0 T62.heap [] := KP59.trans K62 (allS (Or.inr sz_b50) all0)
        have O62 := O59.keep K62 (allS g_b50 all0)
        have go62 : Goes p e below s₁ (G_rmMk m p1 p2 p3 p4) T62 (mkF m 58 #[.val (.int p1), .val (.int p2), .val (.int p3), .val (.int p4)] [(.ref b50)]) := fun tq kq => go59 tq (st62.trans kq)
        have hcv : csv p1 p2 p3 p4 = [(nar .char p2), (nar .char p3)] := ((if_neg hm0).trans ((if_neg hm1).trans (if_pos hm2))).trans hcl.symm
        obtain ⟨fs, hr, hrun, hended, hW, hsame⟩ := X62.leave (v := some (.ref b50)) (fun h => by rw [Bd.returns] at h; cases h)
        refine ⟨_, _, go62 _ ?_, hrun, hended, _, _, rfl, ?_, ReturnedEndW.of_narrow ⟨_, rfl⟩ hW (hsame.mono (by decide) (by decide))⟩
        · jvm_step X62.here [X62.here.top, hx, (hb hby d1_58), X62.method', Bd.returns, Value.isRef, FieldType.isReference]
          first | (intro acts; rw [hr _ acts rfl rfl rfl]) | rw [hr _ _ rfl rfl rfl]
          exact Steps.refl _
        · show Q_rmMk Z p1 p2 p3 p4 cz h0 n0 _ T62.heap T62.vm _
          exact ⟨b50, t62, kb62, _, _, rfl, N62, KP62, JJ.warm (s := s) (JJ.keep hJ KP62) X62.warmed, A62, Fc62, Fv62, V62, by rw [hcv]; exact own_cdd hcl (fun c hc => (hpc c hc).2)⟩
      · have go63 : Goes p e below s₁ (G_rmMk m p1 p2 p3 p4) s₁ (mkF m 59 #[.val (.int p1), .val (.int p2), .val (.int p3), .val (.int p4)] []) := fun tq kq => go48 tq (by
          show Steps p.tables e below (s₁.setTop (mkF m 37 #[.val (.int p1), .val (.int p2), .val (.int p3), .val (.int p4)] [(.int (2 : Int32)), (.int p1)])) _
          refine XS.icmpYes X0.here hx rfl (pc0 := 37) (pc' := 59) rfl (hb hby d1_37) rfl (feq hm2).2 (by decide) (by decide) ?_
          exact kq)
        obtain ⟨T64, h64, X64, e64, E64, A64, D64, -, st64⟩ := newO X0 hx hZ hown (tw4 hw) (tw5 hw) (tw6 hw) e0 (g := (mkF m 59 #[.val (.int p1), .val (.int p2), .val (.int p3), .val (.int p4)] [])) rfl (hb hby d1_59) (by decide) (by decide)
        obtain ⟨b64, g64⟩ : ∃ z, z = h0.size := ⟨_, rfl⟩
        rw [← g64] at A64 D64 st64
        have g_b64 : n0 ≤ b64 := Nat.le_trans Z0 (Nat.le_of_eq g64.symm)
        have sz_b64 : h0.size ≤ b64 := Nat.le_trans KP0.1 (Nat.le_of_eq g64.symm)
        have KP64 : Keep h0 h64 [] := KP0.ext E64
        have O64 := O0.ext E64
        have ZS64 : n0 ≤ h64.size := Nat.le_trans Z0 E64.1
        have F64_coder : Fld Z h64 b64 "java/lang/String" "coder" "B" (.int (0 : Int32)) := D64 (Or.inr (tw31 hw)) (ty := .byte) (by decide)
        have F64_value : Fld Z h64 b64 "java/lang/String" "value" "[B" .null := D64 (Or.inr (tw33 hw)) (ty := (.array .byte)) (by decide)
        have go64 : Goes p e below s₁ (G_rmMk m p1 p2 p3 p4) T64 (mkF m 62 #[.val (.int p1), .val (.int p2), .val (.int p3), .val (.int p4)] [(.ref b64)]) := fun tq kq => go63 tq (st64 _ kq)
        have go65 : Goes p e below s₁ (G_rmMk m p1 p2 p3 p4) T64 (mkF m 64 #[.val (.int p1), .val (.int p2), .val (.int p3), .val (.int p4)] [(.int (3 : Int32)), (.ref b64), (.ref b64)]) := fun tq kq => go64 tq (by
          show Steps p.tables e below (T64.setTop (mkF m 62 #[.val (.int p1), .val (.int p2), .val (.int p3), .val (.int p4)] [(.ref b64)])) _
          refine XS.dup X64.here hx rfl (hb hby d1_62) rfl rfl ?_
          show Steps p.tables e below (T64.setTop (mkF m 63 #[.val (.int p1), .val (.int p2), .val (.int p3), .val (.int p4)] [(.ref b64), (.ref b64)])) _
          refine XS.iconst X64.here hx rfl (hb hby d1_63) ?_
          exact kq)
        obtain ⟨T66, h66, k66, X66, e66, E66, A66, st66⟩ := newP X64 hx hZ (aty := .char) (tw7 hw) e64 (g := (mkF m 64 #[.val (.int p1), .val (.int p2), .val (.int p3), .val (.int p4)] [(.int (3 : Int32)), (.ref b64), (.ref b64)])) rfl (hb hby d1_64) rfl (by decide) (cap := 3) (by decide) (by decide) (by decide) (by decide)
        obtain ⟨b66, g66⟩ : ∃ z, z = h64.size := ⟨_, rfl⟩
        rw [← g66] at A66 st66
        have g_b66 : n0 ≤ b66 := Nat.le_trans ZS64 (Nat.le_of_eq g66.symm)
        have sz_b66 : h0.size ≤ b66 := Nat.le_trans KP64.1 (Nat.le_of_eq g66.symm)
        have KP66 : Keep h0 h66 [] := KP64.ext E66
        have O66 := O64.ext E66
        have ZS66 : n0 ≤ h66.size := Nat.le_trans ZS64 E66.1
        have V66 : Arv Z h66 b66 k66 .char (3 : Int32) [(.int (0 : Int32)), (.int (0 : Int32)), (.int (0 : Int32))] (.int (0 : Int32)) := (Arv.new A66 (by decide)).pad (pad_rep [] (.int (0 : Int32)) 3)
        have ne67 : b64 ≠ b66 := Nat.ne_of_lt (Nat.lt_of_lt_of_le A64.lt (Nat.le_of_eq g66.symm))
        have go66 : Goes p e below s₁ (G_rmMk m p1 p2 p3 p4) T66 (mkF m 66 #[.val (.int p1), .val (.int p2), .val (.int p3), .val (.int p4)] [(.ref b66), (.ref b64), (.ref b64)]) := fun tq kq => go65 tq (st66 _ kq)
        have go69 : Goes p e below s₁ (G_rmMk m p1 p2 p3 p4) T66 (mkF m 69 #[.val (.int p1), .val (.int p2), .val (.int p3), .val (.int p4)] [(.int p2), (.int (0 : Int32)), (.ref b66), (.ref b66), (.ref b64), (.ref b64)]) := fun tq kq => go66 tq (by
          show Steps p.tables e below (T66.setTop (mkF m 66 #[.val (.int p1), .val (.int p2), .val (.int p3), .val (.int p4)] [(.ref b66), (.ref b64), (.ref b64)])) _
          refine XS.dup X66.here hx rfl (hb hby d1_66) rfl rfl ?_
          show Steps p.tables e below (T66.setTop (mkF m 67 #[.val (.int p1), .val (.int p2), .val (.int p3), .val (.int p4)] [(.ref b66), (.ref b66), (.ref b64), (.ref b64)])) _
          refine XS.iconst X66.here hx rfl (hb hby d1_67) ?_
          show Steps p.tables e below (T66.setTop (mkF m 68 #[.val (.int p1), .val (.int p2), .val (.int p3), .val (.int p4)] [(.int (0 : Int32)), (.ref b66), (.ref b66), (.ref b64), (.ref b64)])) _
          refine XS.iloadN X66.here hx rfl (hb hby d1_68) rfl ?_
          exact kq)
        obtain ⟨cl68, Ar68, q68, S68, N_68, H68, G68⟩ := V66
        have hin68 : ¬ ((0 : Int32) < 0 ∨ cl68.slots.size ≤ ((0 : Int32)).toNatClampNeg) := inb_of S68 ⟨by decide, by decide⟩
        obtain ⟨T70, h70, X70, e70, W70, st70⟩ := stC X66 hx hZ e66 Ar68 (j := (0 : Int32)) hin68 (g := (mkF m 69 #[.val (.int p1), .val (.int p2), .val (.int p3), .val (.int p4)] [(.int p2), (.int (0 : Int32)), (.ref b66), (.ref b66), (.ref b64), (.ref b64)])) rfl rfl (hb hby d1_69)
        have N70 := Fr.snoc X70 N0 g_b66
        have KP70 : Keep h0 h70 [] := KP66.wr W70 (Or.inr sz_b66)
        have O70 := O66.wr W70 g_b66
        have ZS70 : n0 ≤ h70.size := Nat.le_trans ZS66 (Keep.of_wr W70).1
        have V70 : Arv Z h70 b66 k66 .char (3 : Int32) [(.int (nar .char p2)), (.int (0 : Int32)), (.int (0 : Int32))] (.int (0 : Int32)) := Arv.set Ar68 q68 S68 N_68 H68 G68 (fits_nar_char _) W70 0 rfl (Nat.le_of_ble_eq_true rfl)
        have go70 : Goes p e below s₁ (G_rmMk m p1 p2 p3 p4) T70 (mkF m 70 #[.val (.int p1), .val (.int p2), .val (.int p3), .val (.int p4)] [(.ref b66), (.ref b64), (.ref b64)]) := fun tq kq => go69 tq (st70 _ kq)
        have go72 : Goes p e below s₁ (G_rmMk m p1 p2 p3 p4) T70 (mkF m 73 #[.val (.int p1), .val (.int p2), .val (.int p3), .val (.int p4)] [(.int p3), (.int (1 : Int32)), (.ref b66), (.ref b66), (.ref b64), (.ref b64)]) := fun tq kq => go70 tq (by
          show Steps p.tables e below (T70.setTop (mkF m 70 #[.val (.int p1), .val (.int p2), .val (.int p3), .val (.int p4)] [(.ref b66), (.ref b64), (.ref b64)])) _
          refine XS.dup X70.here hx rfl (hb hby d1_70) rfl rfl ?_
          show Steps p.tables e below (T70.setTop (mkF m 71 #[.val (.int p1), .val (.int p2), .val (.int p3), .val (.int p4)] [(.ref b66), (.ref b66), (.ref b64), (.ref b64)])) _
          refine XS.iconst X70.here hx rfl (hb hby d1_71) ?_
          show Steps p.tables e below (T70.setTop (mkF m 72 #[.val (.int p1), .val (.int p2), .val (.int p3), .val (.int p4)] [(.int (1 : Int32)), (.ref b66), (.ref b66), (.ref b64), (.ref b64)])) _
          refine XS.iloadN X70.here hx rfl (hb hby d1_72) rfl ?_
          exact kq)
        obtain ⟨cl71, Ar71, q71, S71, N_71, H71, G71⟩ := V70
        have hin71 : ¬ ((1 : Int32) < 0 ∨ cl71.slots.size ≤ ((1 : Int32)).toNatClampNeg) := inb_of S71 ⟨by decide, by decide⟩
        obtain ⟨T73, h73, X73, e73, W73, st73⟩ := stC X70 hx hZ e70 Ar71 (j := (1 : Int32)) hin71 (g := (mkF m 73 #[.val (.int p1), .val (.int p2), .val (.int p3), .val (.int p4)] [(.int p3), (.int (1 : Int32)), (.ref b66), (.ref b66), (.ref b64), (.ref b64)])) rfl rfl (hb hby d1_73)
        have N73 := Fr.snoc X73 N70 g_b66
        have KP73 : Keep h0 h73 [] := KP70.wr W73 (Or.inr sz_b66)
        have O73 := O70.wr W73 g_b66
        have ZS73 : n0 ≤ h73.size := Nat.le_trans ZS70 (Keep.of_wr W73).1
        have V73 : Arv Z h73 b66 k66 .char (3 : Int32) [(.int (nar .char p2)), (.int (nar .char p3)), (.int (0 : Int32))] (.int (0 : Int32)) := Arv.set Ar71 q71 S71 N_71 H71 G71 (fits_nar_char _) W73 1 rfl (Nat.le_of_ble_eq_true rfl)
        have go73 : Goes p e below s₁ (G_rmMk m p1 p2 p3 p4) T73 (mkF m 74 #[.val (.int p1), .val (.int p2), .val (.int p3), .val (.int p4)] [(.ref b66), (.ref b64), (.ref b64)]) := fun tq kq => go72 tq (st73 _ kq)
        have go75 : Goes p e below s₁ (G_rmMk m p1 p2 p3 p4) T73 (mkF m 77 #[.val (.int p1), .val (.int p2), .val (.int p3), .val (.int p4)] [(.int p4), (.int (2 : Int32)), (.ref b66), (.ref b66), (.ref b64), (.ref b64)]) := fun tq kq => go73 tq (by
          show Steps p.tables e below (T73.setTop (mkF m 74 #[.val (.int p1), .val (.int p2), .val (.int p3), .val (.int p4)] [(.ref b66), (.ref b64), (.ref b64)])) _
          refine XS.dup X73.here hx rfl (hb hby d1_74) rfl rfl ?_
          show Steps p.tables e below (T73.setTop (mkF m 75 #[.val (.int p1), .val (.int p2), .val (.int p3), .val (.int p4)] [(.ref b66), (.ref b66), (.ref b64), (.ref b64)])) _
          refine XS.iconst X73.here hx rfl (hb hby d1_75) ?_
          show Steps p.tables e below (T73.setTop (mkF m 76 #[.val (.int p1), .val (.int p2), .val (.int p3), .val (.int p4)] [(.int (2 : Int32)), (.ref b66), (.ref b66), (.ref b64), (.ref b64)])) _
          refine XS.iloadN X73.here hx rfl (hb hby d1_76) rfl ?_
          exact kq)
        obtain ⟨cl74, Ar74, q74, S74, N_74, H74, G74⟩ := V73
        have hin74 : ¬ ((2 : Int32) < 0 ∨ cl74.slots.size ≤ ((2 : Int32)).toNatClampNeg) := inb_of S74 ⟨by decide, by decide⟩
        obtain ⟨T76, h76, X76, e76, W76, st76⟩ := stC X73 hx hZ e73 Ar74 (j := (2 : Int32)) hin74 (g := (mkF m 77 #[.val (.int p1), .val (.int p2), .val (.int p3), .val (.int p4)] [(.int p4), (.int (2 : Int32)), (.ref b66), (.ref b66), (.ref b64), (.ref b64)])) rfl rfl (hb hby d1_77)
        have N76 := Fr.snoc X76 N73 g_b66
        have KP76 : Keep h0 h76 [] := KP73.wr W76 (Or.inr sz_b66)
        have O76 := O73.wr W76 g_b66
        have ZS76 : n0 ≤ h76.size := Nat.le_trans ZS73 (Keep.of_wr W76).1
        have V76 : Arv Z h76 b66 k66 .char (3 : Int32) [(.int (nar .char p2)), (.int (nar .char p3)), (.int (nar .char p4))] (.int (0 : Int32)) := Arv.set Ar74 q74 S74 N_74 H74 G74 (fits_nar_char _) W76 2 rfl (Nat.le_of_ble_eq_true rfl)
        have go76 : Goes p e below s₁ (G_rmMk m p1 p2 p3 p4) T76 (mkF m 78 #[.val (.int p1), .val (.int p2), .val (.int p3), .val (.int p4)] [(.ref b66), (.ref b64), (.ref b64)]) := fun tq kq => go75 tq (st76 _ kq)
        have hcl : [(nar .char p2), (nar .char p3), (nar .char p4)] = ([p2, p3, p4] : List Int32) := by rw [hka.2.2, hkb.2.2, hkc.2.2]
        have hpc : ∀ c ∈ ([(nar .char p2), (nar .char p3), (nar .char p4)] : List Int32), ¬ c < 0 ∧ ¬ (255 : Int32) < c := by
          rw [hcl]
          intro c hc
          simp only [List.mem_cons, List.not_mem_nil, or_false] at hc
          rcases hc with rfl | rfl | rfl
          · exact ⟨hka.1, hka.2.1⟩
          · exact ⟨hkb.1, hkb.2.1⟩
          · exact ⟨hkc.1, hkc.2.1⟩
        have f77 := (Fld.other W76 (Fld.other W73 (Fld.other W70 (F64_value.ext E66) (Or.inl ne67)) (Or.inl ne67)) (Or.inl ne67))
        have f78 := (Fld.other W76 (Fld.other W73 (Fld.other W70 (F64_coder.ext E66) (Or.inl ne67)) (Or.inl ne67)) (Or.inl ne67))
        obtain ⟨vv79, _, ⟨T79, L79, k79, n79⟩, -, X79, ⟨Lc79, hQ79, l79, y79, z79⟩, st79⟩ := X76.specialBack hx (y := (⟨"java/lang/String", "<init>", "([C)V"⟩ : MethodName)) rfl hown (mvT hZ (tw8 hw)) (mvT hZ (tw9 hw)) (mvT hZ (tw10 hw)) (by decide) (StrChars.Road.backV (W := 1) hZ hws (kI := 4) (tw5 hw) (cs := ([(nar .char p2), (nar .char p3), (nar .char p4)] : List Int32)) (bs := ([(nar .char p2), (nar .char p3), (nar .char p4)] : List Int32).map (fun c => c.toInt8.toInt32)) (n := 3) g_b64 ZS76 (Exa.wr W76 (Exa.wr W73 (Exa.wr W70 (A64.ext E66)))) f77 f78 V76 (SC.ext O76.2) hz rfl rfl (by decide) (by decide) hpc rfl (by decide) (by decide)) (g := (mkF m 78 #[.val (.int p1), .val (.int p2), .val (.int p3), .val (.int p4)] [(.ref b66), (.ref b64), (.ref b64)])) rfl (by rw [hml]; rfl) (Steps.refl _) (a := b64) (argsL := [(.ref b66)]) (rest := [(.ref b64)]) (lenOf pd_1 rfl) rfl (by show 2 * 0 + _ ≤ _; exact Nat.le_of_eq rfl) (hb hby d1_78) (fun _ _ => ⟨rfl, e76, (by decide : 2 + 1 ≤ _), (by decide : 7 + 3 ≤ _)⟩)
        dsimp only [Pt.U, Pt.locs, Pt.cells, Pt.slots] at X79 l79 y79 z79 st79 hQ79
        subst l79 y79 z79
        obtain ⟨rfl, Nq79, K79, A79, Fc79, t79, kb79, -, -, -, Fv79, V79⟩ := hQ79
        have N79 := Fr.app N76 Nq79
        have ZS79 : n0 ≤ T79.heap.size := Nat.le_trans ZS76 K79.1
        have KP79 : Keep h0 T79.heap [] := KP76.trans K79 (allS (Or.inr sz_b64) all0)
        have O79 := O76.keep K79 (allS g_b64 all0)
        have go79 : Goes p e below s₁ (G_rmMk m p1 p2 p3 p4) T79 (mkF m 81 #[.val (.int p1), .val (.int p2), .val (.int p3), .val (.int p4)] [(.ref b64)]) := fun tq kq => go76 tq (st79.trans kq)
        have hcv : csv p1 p2 p3 p4 = [(nar .char p2), (nar .char p3), (nar .char p4)] := ((if_neg hm0).trans ((if_neg hm1).trans (if_neg hm2))).trans hcl.symm
        obtain ⟨fs, hr, hrun, hended, hW, hsame⟩ := X79.leave (v := some (.ref b64)) (fun h => by rw [Bd.returns] at h; cases h)
        refine ⟨_, _, go79 _ ?_, hrun, hended, _, _, rfl, ?_, ReturnedEndW.of_narrow ⟨_, rfl⟩ hW (hsame.mono (by decide) (by decide))⟩
        · jvm_step X79.here [X79.here.top, hx, (hb hby d1_81), X79.method', Bd.returns, Value.isRef, FieldType.isReference]
          first | (intro acts; rw [hr _ acts rfl rfl rfl]) | rw [hr _ _ rfl rfl rfl]
          exact Steps.refl _
        · show Q_rmMk Z p1 p2 p3 p4 cz h0 n0 _ T79.heap T79.vm _
          exact ⟨b64, t79, kb79, _, _, rfl, N79, KP79, JJ.warm (s := s) (JJ.keep hJ KP79) X79.warmed, A79, Fc79, Fv79, V79, by rw [hcv]; exact own_cdd hcl (fun c hc => (hpc c hc).2)⟩
def canE (p1 : Int32) : Int32 := (if (255 : Int32) < p1 then (0 : Int32) else (1 : Int32))
abbrev G_rm8 (m : MethodId) (p1 : Int32) : JFrame := (entryFrame m #[(.int p1)] 1)
theorem d9_0 : decode jdk_43_method_3_code 0 = .ok (.iload_n 0, 1) := by decide +kernel
theorem d9_1 : decode jdk_43_method_3_code 1 = .ok (.sipush 255, 3) := by decide +kernel
theorem d9_4 : decode jdk_43_method_3_code 4 = .ok (.if_icmp .gt 7, 3) := by decide +kernel
theorem d9_11 : decode jdk_43_method_3_code 11 = .ok (.iconst 0, 1) := by decide +kernel
theorem d9_12 : decode jdk_43_method_3_code 12 = .ok (.ireturn, 1) := by decide +kernel
theorem d9_7 : decode jdk_43_method_3_code 7 = .ok (.iconst 1, 1) := by decide +kernel
theorem d9_8 : decode jdk_43_method_3_code 8 = .ok (.goto 4, 3) := by decide +kernel
def Q_rm8 (Z : State) (p1 : Int32)  (h0 : Heap) (n0 : Nat) (v : Option Value) (h : Heap) (L : List Loc) : Prop := v = some (.int (canE p1)) ∧ Fr n0 L ∧ h = h0
theorem pn_java_lang_StringLatin1 : plainName "java/lang/StringLatin1" = true := by first | (simp [plainName, overriddenIn]; done) | decide +kernel
set_option maxRecDepth 65536 in
set_option maxHeartbeats 40000000 in
theorem rm8 (l : Launch) (Z : State) (a0 : Array Value) (hw : ∀ d ∈ tables_1, d.before a0 Z = true) (ws : List Jvm.Cond) (p1 : Int32)  (h0 : Heap) (n0 : Nat) (Z0 : n0 ≤ h0.size)  :
    MetFree l (⟨"java/lang/StringLatin1", "canEncode", "(C)Z"⟩ : MethodName) (head1 (Jvm.Cond.code (⟨"java/lang/StringLatin1", "canEncode", "(C)Z"⟩ : MethodName) jdk_43_method_3_code 1 (some .boolean) :: ws) ({ frames := 0, cells := 0, slots := 0, locals := 0 } : Room)) (fun a U => a = #[(.int p1)] ∧ Z.Warmed39 U.vm ∧ U.heap = h0) (fun _ _ _ _ _ => True) (fun _ U o U' => ∃ v L, o = .returned v ∧ Q_rm8 Z p1 h0 n0 v U'.heap L ∧ FrameEnd U o U' L ({ frames := 0, cells := 0, slots := 0, locals := 0 } : Room).cells ({ frames := 0, cells := 0, slots := 0, locals := 0 } : Room).slots) := by
  refine MetFree.of_bodySF (plainFor_of_name pn_java_lang_StringLatin1) hisR ?_
  intro p e s m args below meth c s₁ Bd hml0 hP hK
  obtain ⟨rfl, hZ, hh⟩ := hP
  have hx := Bd.exec
  have hby := Bd.bytes
  have hml : c.maxLocals = 1 := hml0
  have hown : s.vm.findClass "java/lang/StringLatin1" = some m.cls := findClass_of_methodNamed Bd.named
  have hnm := (name_of_methodNamed Bd.named Bd.method).1
  have X0 : Stand p l e ({ frames := 0, cells := 0, slots := 0, locals := 0 } : Room) s m #[(.int p1)] below meth c s₁ [] 0 0 := Stand.of_body Bd
  have e0 : s₁.heap = h0 := by rw [← hh, Bd.state]; rfl
  have N0 := Fr.nil n0
  have go0 : Goes p e below s₁ (G_rm8 m p1) s₁ (mkF m 0 #[.val (.int p1)] []) := fun tq kq => castTop (by first | (simp [entryFrame, mkF, argsToLocals, Value.category, G_rm8]; done) | rfl) kq
  have go80 : Goes p e below s₁ (G_rm8 m p1) s₁ (mkF m 4 #[.val (.int p1)] [(.int (255 : Int32)), (.int p1)]) := fun tq kq => go0 tq (by
    show Steps p.tables e below (s₁.setTop (mkF m 0 #[.val (.int p1)] [])) _
    refine XS.iloadN X0.here hx rfl (hb hby d9_0) rfl ?_
    show Steps p.tables e below (s₁.setTop (mkF m 1 #[.val (.int p1)] [(.int p1)])) _
    refine XS.sipush X0.here hx rfl (hb hby d9_1) ?_
    exact kq)
  by_cases hc4_81 : (255 : Int32) < p1
  · have go82 : Goes p e below s₁ (G_rm8 m p1) s₁ (mkF m 12 #[.val (.int p1)] [(.int (0 : Int32))]) := fun tq kq => go80 tq (by
      show Steps p.tables e below (s₁.setTop (mkF m 4 #[.val (.int p1)] [(.int (255 : Int32)), (.int p1)])) _
      refine XS.icmpYes X0.here hx rfl (pc0 := 4) (pc' := 11) rfl (hb hby d9_4) rfl (tlt hc4_81).2.2.1 (by decide) (by decide) ?_
      show Steps p.tables e below (s₁.setTop (mkF m 11 #[.val (.int p1)] [])) _
      refine XS.iconst X0.here hx rfl (hb hby d9_11) ?_
      exact kq)
    obtain ⟨fs, hr, hrun, hended, hW, hsame⟩ := X0.leave (v := some (.int (0 : Int32))) (fun h => by rw [Bd.returns] at h; cases h)
    refine ⟨_, _, go82 _ ?_, hrun, hended, _, _, rfl, ?_, ⟨_, rfl⟩, hW, hsame.mono (by decide) (by decide)⟩
    · exact retN X0 hx (t := .boolean) Bd.returns (by simp) (hb hby d9_12) hr
    · show Q_rm8 Z p1 h0 n0 _ s₁.heap _
      rw [e0]
      exact ⟨congrArg (fun z => some (Value.int z)) (Eq.symm (show (canE p1) = (0 : Int32) from (if_pos hc4_81))), N0, rfl⟩
  · have go83 : Goes p e below s₁ (G_rm8 m p1) s₁ (mkF m 12 #[.val (.int p1)] [(.int (1 : Int32))]) := fun tq kq => go80 tq (by
      show Steps p.tables e below (s₁.setTop (mkF m 4 #[.val (.int p1)] [(.int (255 : Int32)), (.int p1)])) _
      refine XS.icmpNo X0.here hx rfl (hb hby d9_4) rfl (flt hc4_81).2.2.1 ?_
      show Steps p.tables e below (s₁.setTop (mkF m 7 #[.val (.int p1)] [])) _
      refine XS.iconst X0.here hx rfl (hb hby d9_7) ?_
      show Steps p.tables e below (s₁.setTop (mkF m 8 #[.val (.int p1)] [(.int (1 : Int32))])) _
      refine XS.goto X0.here hx rfl (pc0 := 8) (pc' := 12) rfl (hb hby d9_8) (by decide) (by decide) ?_
      exact kq)
    obtain ⟨fs, hr, hrun, hended, hW, hsame⟩ := X0.leave (v := some (.int (1 : Int32))) (fun h => by rw [Bd.returns] at h; cases h)
    refine ⟨_, _, go83 _ ?_, hrun, hended, _, _, rfl, ?_, ⟨_, rfl⟩, hW, hsame.mono (by decide) (by decide)⟩
    · exact retN X0 hx (t := .boolean) Bd.returns (by simp) (hb hby d9_12) hr
    · show Q_rm8 Z p1 h0 n0 _ s₁.heap _
      rw [e0]
      exact ⟨congrArg (fun z => some (Value.int z)) (Eq.symm (show (canE p1) = (1 : Int32) from (if_neg hc4_81))), N0, rfl⟩
abbrev G_rm9 (m : MethodId) (p1 : Int32) : JFrame := (entryFrame m #[(.int p1)] 1)
theorem d10_0 : decode jdk_43_method_46_code 0 = .ok (.iconst 1, 1) := by decide +kernel
theorem d10_1 : decode jdk_43_method_46_code 1 = .ok (.newarray .byte, 2) := by decide +kernel
theorem d10_3 : decode jdk_43_method_46_code 3 = .ok (.dup, 1) := by decide +kernel
theorem d10_4 : decode jdk_43_method_46_code 4 = .ok (.iconst 0, 1) := by decide +kernel
theorem d10_5 : decode jdk_43_method_46_code 5 = .ok (.iload_n 0, 1) := by decide +kernel
theorem d10_6 : decode jdk_43_method_46_code 6 = .ok (.i2b, 1) := by decide +kernel
theorem d10_7 : decode jdk_43_method_46_code 7 = .ok (.bastore, 1) := by decide +kernel
theorem d10_8 : decode jdk_43_method_46_code 8 = .ok (.areturn, 1) := by decide +kernel
def Q_rm9 (Z : State) (p1 : Int32)  (h0 : Heap) (n0 : Nat) (v : Option Value) (h : Heap) (L : List Loc) : Prop := ∃ b : Addr, v = some (.ref b) ∧ Fr n0 L ∧ Keep h0 h []
set_option maxRecDepth 65536 in
set_option maxHeartbeats 40000000 in
theorem rm9 (l : Launch) (Z : State) (a0 : Array Value) (hw : ∀ d ∈ tables_1, d.before a0 Z = true) (ws : List Jvm.Cond) (p1 : Int32)  (h0 : Heap) (n0 : Nat) (Z0 : n0 ≤ h0.size)  :
    MetFree l (⟨"java/lang/StringLatin1", "toBytes", "(C)[B"⟩ : MethodName) (head1 (Jvm.Cond.code (⟨"java/lang/StringLatin1", "toBytes", "(C)[B"⟩ : MethodName) jdk_43_method_46_code 1 (some (.array .byte)) :: ws) ({ frames := 0, cells := 1, slots := 1, locals := 0 } : Room)) (fun a U => a = #[(.int p1)] ∧ Z.Warmed39 U.vm ∧ U.heap = h0) (fun _ _ _ _ _ => True) (fun _ U o U' => ∃ v L, o = .returned v ∧ Q_rm9 Z p1 h0 n0 v U'.heap L ∧ FrameEnd U o U' L ({ frames := 0, cells := 1, slots := 1, locals := 0 } : Room).cells ({ frames := 0, cells := 1, slots := 1, locals := 0 } : Room).slots) := by
  refine MetFree.of_bodySF (plainFor_of_name pn_java_lang_StringLatin1) hisR ?_
  intro p e s m args below meth c s₁ Bd hml0 hP hK
  obtain ⟨rfl, hZ, hh⟩ := hP
  have hx := Bd.exec
  have hby := Bd.bytes
  have hml : c.maxLocals = 1 := hml0
  have hown : s.vm.findClass "java/lang/StringLatin1" = some m.cls := findClass_of_methodNamed Bd.named
  have hnm := (name_of_methodNamed Bd.named Bd.method).1
  have X0 : Stand p l e ({ frames := 0, cells := 1, slots := 1, locals := 0 } : Room) s m #[(.int p1)] below meth c s₁ [] 0 0 := Stand.of_body Bd
  have e0 : s₁.heap = h0 := by rw [← hh, Bd.state]; rfl
  have N0 := Fr.nil n0
  have KP0 : Keep h0 h0 [] := Keep.refl h0 []
  have go0 : Goes p e below s₁ (G_rm9 m p1) s₁ (mkF m 0 #[.val (.int p1)] []) := fun tq kq => castTop (by first | (simp [entryFrame, mkF, argsToLocals, Value.category, G_rm9]; done) | rfl) kq
  have go84 : Goes p e below s₁ (G_rm9 m p1) s₁ (mkF m 1 #[.val (.int p1)] [(.int (1 : Int32))]) := fun tq kq => go0 tq (by
    show Steps p.tables e below (s₁.setTop (mkF m 0 #[.val (.int p1)] [])) _
    refine XS.iconst X0.here hx rfl (hb hby d10_0) ?_
    exact kq)
  obtain ⟨T85, h85, k85, X85, e85, E85, A85, st85⟩ := newP X0 hx hZ (aty := .byte) (tw23 hw) e0 (g := (mkF m 1 #[.val (.int p1)] [(.int (1 : Int32))])) rfl (hb hby d10_1) rfl (by decide) (cap := 1) (by decide) (by decide) (by decide) (by decide)
  obtain ⟨b85, g85⟩ : ∃ z, z = h0.size := ⟨_, rfl⟩
  rw [← g85] at A85 st85
  have g_b85 : n0 ≤ b85 := Nat.le_trans Z0 (Nat.le_of_eq g85.symm)
  have sz_b85 : h0.size ≤ b85 := Nat.le_trans KP0.1 (Nat.le_of_eq g85.symm)
  have KP85 : Keep h0 h85 [] := KP0.ext E85
  have ZS85 : n0 ≤ h85.size := Nat.le_trans Z0 E85.1
  have V85 : Arv Z h85 b85 k85 .byte (1 : Int32) [(.int (0 : Int32))] (.int (0 : Int32)) := (Arv.new A85 (by decide)).pad (pad_rep [] (.int (0 : Int32)) 1)
  have go85 : Goes p e below s₁ (G_rm9 m p1) T85 (mkF m 3 #[.val (.int p1)] [(.ref b85)]) := fun tq kq => go84 tq (st85 _ kq)
  have go87 : Goes p e below s₁ (G_rm9 m p1) T85 (mkF m 7 #[.val (.int p1)] [(.int (p1.toInt8.toInt32)), (.int (0 : Int32)), (.ref b85), (.ref b85)]) := fun tq kq => go85 tq (by
    show Steps p.tables e below (T85.setTop (mkF m 3 #[.val (.int p1)] [(.ref b85)])) _
    refine XS.dup X85.here hx rfl (hb hby d10_3) rfl rfl ?_
    show Steps p.tables e below (T85.setTop (mkF m 4 #[.val (.int p1)] [(.ref b85), (.ref b85)])) _
    refine XS.iconst X85.here hx rfl (hb hby d10_4) ?_
    show Steps p.tables e below (T85.setTop (mkF m 5 #[.val (.int p1)] [(.int (0 : Int32)), (.ref b85), (.ref b85)])) _
    refine XS.iloadN X85.here hx rfl (hb hby d10_5) rfl ?_
    show Steps p.tables e below (T85.setTop (mkF m 6 #[.val (.int p1)] [(.int p1), (.int (0 : Int32)), (.ref b85), (.ref b85)])) _
    refine XS.i2b X85.here hx rfl (hb hby d10_6) rfl ?_
    exact kq)
  obtain ⟨cl86, Ar86, q86, S86, N_86, H86, G86⟩ := V85
  have hin86 : ¬ ((0 : Int32) < 0 ∨ cl86.slots.size ≤ ((0 : Int32)).toNatClampNeg) := inb_of S86 ⟨by decide, by decide⟩
  obtain ⟨T88, h88, X88, e88, W88, st88⟩ := stB X85 hx hZ e85 Ar86 (j := (0 : Int32)) hin86 (g := (mkF m 7 #[.val (.int p1)] [(.int (p1.toInt8.toInt32)), (.int (0 : Int32)), (.ref b85), (.ref b85)])) rfl rfl (hb hby d10_7)
  have N88 := Fr.snoc X88 N0 g_b85
  have KP88 : Keep h0 h88 [] := KP85.wr W88 (Or.inr sz_b85)
  have ZS88 : n0 ≤ h88.size := Nat.le_trans ZS85 (Keep.of_wr W88).1
  have V88 : Arv Z h88 b85 k85 .byte (1 : Int32) [(.int (nar .byte (p1.toInt8.toInt32)))] (.int (0 : Int32)) := Arv.set Ar86 q86 S86 N_86 H86 G86 (fits_nar_byte _) W88 0 rfl (Nat.le_of_ble_eq_true rfl)
  have go88 : Goes p e below s₁ (G_rm9 m p1) T88 (mkF m 8 #[.val (.int p1)] [(.ref b85)]) := fun tq kq => go87 tq (st88 _ kq)
  obtain ⟨fs, hr, hrun, hended, hW, hsame⟩ := X88.leave (v := some (.ref b85)) (fun h => by rw [Bd.returns] at h; cases h)
  refine ⟨_, _, go88 _ ?_, hrun, hended, _, _, rfl, ?_, ⟨_, rfl⟩, hW, hsame.mono (by decide) (by decide)⟩
  · jvm_step X88.here [X88.here.top, hx, (hb hby d10_8), X88.method', Bd.returns, Value.isRef, FieldType.isReference]
    first | (intro acts; rw [hr _ acts rfl rfl rfl]) | rw [hr _ _ rfl rfl rfl]
    exact Steps.refl _
  · show Q_rm9 Z p1 h0 n0 _ T88.heap _
    rw [e88]
    exact ⟨b85, rfl, N88, KP88⟩
abbrev G_rm10 (m : MethodId) (a1 : Addr) (a2 : Addr) : JFrame := (entryFrame m #[(.ref a1), (.ref a2), (.int (0 : Int32))] 3)
theorem d11_0 : decode jdk_42_method_151_code 0 = .ok (.aload_n 0, 1) := by decide +kernel
theorem d11_1 : decode jdk_42_method_151_code 1 = .ok (.invokespecial 1, 3) := by decide +kernel
theorem d11_4 : decode jdk_42_method_151_code 4 = .ok (.aload_n 0, 1) := by decide +kernel
theorem d11_5 : decode jdk_42_method_151_code 5 = .ok (.aload_n 1, 1) := by decide +kernel
theorem d11_6 : decode jdk_42_method_151_code 6 = .ok (.putfield 9, 3) := by decide +kernel
theorem d11_9 : decode jdk_42_method_151_code 9 = .ok (.aload_n 0, 1) := by decide +kernel
theorem d11_10 : decode jdk_42_method_151_code 10 = .ok (.iload_n 2, 1) := by decide +kernel
theorem d11_11 : decode jdk_42_method_151_code 11 = .ok (.putfield 15, 3) := by decide +kernel
theorem d11_14 : decode jdk_42_method_151_code 14 = .ok (.return_, 1) := by decide +kernel
def Q_rm10 (Z : State) (a1 : Addr) (a2 : Addr)  (h0 : Heap) (n0 : Nat) (v : Option Value) (h : Heap) (L : List Loc) : Prop := v = none ∧ Fr n0 L ∧ Keep h0 h [a1]
set_option maxRecDepth 65536 in
set_option maxHeartbeats 40000000 in
theorem rm10 (l : Launch) (Z : State) (a0 : Array Value) (hw : ∀ d ∈ tables_1, d.before a0 Z = true) (ws : List Jvm.Cond) (a1 : Addr) (a2 : Addr)  (h0 : Heap) (n0 : Nat) (Z0 : n0 ≤ h0.size) (g_a1 : n0 ≤ a1) (Ex : Exa Z h0 a1 "java/lang/String") (F1 : Fld Z h0 a1 "java/lang/String" "value" "[B" .null) (F2 : Fld Z h0 a1 "java/lang/String" "coder" "B" (.int (0 : Int32))) :
    MetFree l (⟨"java/lang/String", "<init>", "([BB)V"⟩ : MethodName) (head1 (Jvm.Cond.code (⟨"java/lang/String", "<init>", "([BB)V"⟩ : MethodName) jdk_42_method_151_code 3 none :: ws) ({ frames := 1, cells := 0, slots := 0, locals := 12 } : Room)) (fun a U => a = #[(.ref a1), (.ref a2), (.int (0 : Int32))] ∧ Z.Warmed39 U.vm ∧ U.heap = h0) (fun _ _ _ _ _ => True) (fun _ U o U' => ∃ v L, o = .returned v ∧ Q_rm10 Z a1 a2 h0 n0 v U'.heap L ∧ FrameEnd U o U' L ({ frames := 1, cells := 0, slots := 0, locals := 12 } : Room).cells ({ frames := 1, cells := 0, slots := 0, locals := 12 } : Room).slots) := by
  refine MetFree.of_bodySF (plainFor_of_name pn_java_lang_String) hisR ?_
  intro p e s m args below meth c s₁ Bd hml0 hP hK
  obtain ⟨rfl, hZ, hh⟩ := hP
  have hx := Bd.exec
  have hby := Bd.bytes
  have hml : c.maxLocals = 3 := hml0
  have hown : s.vm.findClass "java/lang/String" = some m.cls := findClass_of_methodNamed Bd.named
  have hnm := (name_of_methodNamed Bd.named Bd.method).1
  have X0 : Stand p l e ({ frames := 1, cells := 0, slots := 0, locals := 12 } : Room) s m #[(.ref a1), (.ref a2), (.int (0 : Int32))] below meth c s₁ [] 0 0 := Stand.of_body Bd
  have e0 : s₁.heap = h0 := by rw [← hh, Bd.state]; rfl
  have N0 := Fr.nil n0
  have KP0 : Keep h0 h0 [a1] := Keep.refl h0 [a1]
  have go0 : Goes p e below s₁ (G_rm10 m a1 a2) s₁ (mkF m 0 #[.val (.ref a1), .val (.ref a2), .val (.int (0 : Int32))] []) := fun tq kq => castTop (by first | (simp [entryFrame, mkF, argsToLocals, Value.category, G_rm10]; done) | rfl) kq
  have go89 : Goes p e below s₁ (G_rm10 m a1 a2) s₁ (mkF m 1 #[.val (.ref a1), .val (.ref a2), .val (.int (0 : Int32))] [(.ref a1)]) := fun tq kq => go0 tq (by
    show Steps p.tables e below (s₁.setTop (mkF m 0 #[.val (.ref a1), .val (.ref a2), .val (.int (0 : Int32))] [])) _
    refine XS.aloadN X0.here hx rfl (hb hby d11_0) rfl rfl ?_
    exact kq)
  obtain ⟨T90, X90, e90, st90⟩ := initO X0 hx hZ hown (tw15 hw) (tw16 hw) (tw17 hw) e0 (g := (mkF m 1 #[.val (.ref a1), .val (.ref a2), .val (.int (0 : Int32))] [(.ref a1)])) rfl (by rw [hml]; rfl) rfl (hb hby d11_1) (by decide) (W := 0) (by show 2 * 0 + _ ≤ _; exact Nat.le_of_eq rfl) (by decide)
  have go90 : Goes p e below s₁ (G_rm10 m a1 a2) T90 (mkF m 4 #[.val (.ref a1), .val (.ref a2), .val (.int (0 : Int32))] []) := fun tq kq => go89 tq (st90 _ kq)
  have go91 : Goes p e below s₁ (G_rm10 m a1 a2) T90 (mkF m 6 #[.val (.ref a1), .val (.ref a2), .val (.int (0 : Int32))] [(.ref a2), (.ref a1)]) := fun tq kq => go90 tq (by
    show Steps p.tables e below (T90.setTop (mkF m 4 #[.val (.ref a1), .val (.ref a2), .val (.int (0 : Int32))] [])) _
    refine XS.aloadN X90.here hx rfl (hb hby d11_4) rfl rfl ?_
    show Steps p.tables e below (T90.setTop (mkF m 5 #[.val (.ref a1), .val (.ref a2), .val (.int (0 : Int32))] [(.ref a1)])) _
    refine XS.aloadN X90.here hx rfl (hb hby d11_5) rfl rfl ?_
    exact kq)
  obtain ⟨T92, h92, X92, e92, W92, st92⟩ := putF X90 hx hZ hown (host := "") (Or.inl (tw32 hw)) Via.refl e90 F1 Ex (Or.inr ⟨(tw33 hw), rfl, hnm⟩) (tw5 hw) (ty := (.array .byte)) (by decide) rfl rfl (g := (mkF m 6 #[.val (.ref a1), .val (.ref a2), .val (.int (0 : Int32))] [(.ref a2), (.ref a1)])) rfl rfl (hb hby d11_6)
  have N92 := Fr.snoc X92 N0 g_a1
  have KP92 : Keep h0 h92 [a1] := KP0.wr W92 (Or.inl (List.mem_of_getElem? (i := 0) rfl))
  have ZS92 : n0 ≤ h92.size := Nat.le_trans Z0 (Keep.of_wr W92).1
  have F92 := Fld.same W92 F1
  have go92 : Goes p e below s₁ (G_rm10 m a1 a2) T92 (mkF m 9 #[.val (.ref a1), .val (.ref a2), .val (.int (0 : Int32))] []) := fun tq kq => go91 tq (st92 _ kq)
  have f93 := (Fld.other W92 F2 (Or.inr (slot_ne (Or.inr (tw31 hw)) (Or.inr (tw33 hw)) (by decide) (t := .byte) (t' := (.array .byte)) (by decide) (by decide))))
  have go94 : Goes p e below s₁ (G_rm10 m a1 a2) T92 (mkF m 11 #[.val (.ref a1), .val (.ref a2), .val (.int (0 : Int32))] [(.int (0 : Int32)), (.ref a1)]) := fun tq kq => go92 tq (by
    show Steps p.tables e below (T92.setTop (mkF m 9 #[.val (.ref a1), .val (.ref a2), .val (.int (0 : Int32))] [])) _
    refine XS.aloadN X92.here hx rfl (hb hby d11_9) rfl rfl ?_
    show Steps p.tables e below (T92.setTop (mkF m 10 #[.val (.ref a1), .val (.ref a2), .val (.int (0 : Int32))] [(.ref a1)])) _
    refine XS.iloadN X92.here hx rfl (hb hby d11_10) rfl ?_
    exact kq)
  obtain ⟨T95, h95, X95, e95, W95, st95⟩ := putFN X92 hx hZ hown (tw30 hw) Via.refl e92 f93 (Exa.wr W92 Ex) (Or.inr ⟨(tw31 hw), rfl, hnm⟩) (tw5 hw) (ty := .byte) (v' := (.int (0 : Int32))) (by decide) rfl (by decide) (g := (mkF m 11 #[.val (.ref a1), .val (.ref a2), .val (.int (0 : Int32))] [(.int (0 : Int32)), (.ref a1)])) rfl rfl (hb hby d11_11)
  have N95 := Fr.snoc X95 N92 g_a1
  have KP95 : Keep h0 h95 [a1] := KP92.wr W95 (Or.inl (List.mem_of_getElem? (i := 0) rfl))
  have ZS95 : n0 ≤ h95.size := Nat.le_trans ZS92 (Keep.of_wr W95).1
  have F95 := Fld.same W95 f93
  have go95 : Goes p e below s₁ (G_rm10 m a1 a2) T95 (mkF m 14 #[.val (.ref a1), .val (.ref a2), .val (.int (0 : Int32))] []) := fun tq kq => go94 tq (st95 _ kq)
  obtain ⟨fs, hr, hrun, hended, hW, hsame⟩ := X95.leave (v := none) (fun _ => rfl)
  refine ⟨_, _, go95 _ ?_, hrun, hended, _, _, rfl, ?_, ⟨_, rfl⟩, hW, hsame.mono (by decide) (by decide)⟩
  · exact X95.returnOut hx Bd.returns (hb hby d11_14) hr
  · show Q_rm10 Z a1 a2 h0 n0 _ T95.heap _
    rw [e95]
    exact ⟨rfl, N95, KP95⟩
abbrev G_rm7 (m : MethodId) (p1 : Int32) : JFrame := (entryFrame m #[(.int p1)] 1)
theorem d8_0 : decode jdk_42_method_139_code 0 = .ok (.getstatic 38, 3) := by decide +kernel
theorem d8_3 : decode jdk_42_method_139_code 3 = .ok (.ifCond .eq 23, 3) := by decide +kernel
theorem d8_6 : decode jdk_42_method_139_code 6 = .ok (.iload_n 0, 1) := by decide +kernel
theorem d8_7 : decode jdk_42_method_139_code 7 = .ok (.invokestatic 1015, 3) := by decide +kernel
theorem pd_2 : parseMethodDescriptor "(C)Z" = some ⟨[.char], some .boolean⟩ := by decide +kernel
theorem d8_10 : decode jdk_42_method_139_code 10 = .ok (.ifCond .eq 16, 3) := by decide +kernel
theorem d8_13 : decode jdk_42_method_139_code 13 = .ok (.new 10, 3) := by decide +kernel
theorem d8_16 : decode jdk_42_method_139_code 16 = .ok (.dup, 1) := by decide +kernel
theorem d8_17 : decode jdk_42_method_139_code 17 = .ok (.iload_n 0, 1) := by decide +kernel
theorem d8_18 : decode jdk_42_method_139_code 18 = .ok (.invokestatic 1018, 3) := by decide +kernel
theorem pd_3 : parseMethodDescriptor "(C)[B" = some ⟨[.char], some (.array .byte)⟩ := by decide +kernel
theorem d8_21 : decode jdk_42_method_139_code 21 = .ok (.iconst 0, 1) := by decide +kernel
theorem d8_22 : decode jdk_42_method_139_code 22 = .ok (.invokespecial 209, 3) := by decide +kernel
theorem pd_4 : parseMethodDescriptor "([BB)V" = some ⟨[(.array .byte), .byte], none⟩ := by decide +kernel
theorem d8_25 : decode jdk_42_method_139_code 25 = .ok (.areturn, 1) := by decide +kernel
def Q_rm7 (Z : State) (p1 : Int32) (cz : Int32) (h0 : Heap) (n0 : Nat) (v : Option Value) (h : Heap) (L : List Loc) : Prop := ∃ b : Addr, v = some (.ref b) ∧ Fr n0 L ∧ Keep h0 h []
set_option maxRecDepth 65536 in
set_option maxHeartbeats 40000000 in
theorem rm7 (l : Launch) (Z : State) (a0 : Array Value) (hw : ∀ d ∈ tables_1, d.before a0 Z = true) (ws : List Jvm.Cond) (p1 : Int32) (cz : Int32) (h0 : Heap) (n0 : Nat) (Z0 : n0 ≤ h0.size) (SC : Sta Z h0 "java/lang/String" "COMPACT_STRINGS" "Z" (.int cz)) (hz : ¬ (cz = (0 : Int32))) (hp : ¬ ((255 : Int32) < p1)) :
    MetFree l (⟨"java/lang/String", "valueOf", "(C)Ljava/lang/String;"⟩ : MethodName) (head1 (Jvm.Cond.code (⟨"java/lang/String", "valueOf", "(C)Ljava/lang/String;"⟩ : MethodName) jdk_42_method_139_code 1 (some (.object "java/lang/String")) :: ws) ({ frames := 2, cells := 2, slots := 5, locals := 27 } : Room)) (fun a U => a = #[(.int p1)] ∧ Z.Warmed39 U.vm ∧ U.heap = h0) (fun _ _ _ _ _ => True) (fun _ U o U' => ∃ v L, o = .returned v ∧ Q_rm7 Z p1 cz h0 n0 v U'.heap L ∧ FrameEnd U o U' L ({ frames := 2, cells := 2, slots := 5, locals := 27 } : Room).cells ({ frames := 2, cells := 2, slots := 5, locals := 27 } : Room).slots) := by
  refine MetFree.of_bodySF (plainFor_of_name pn_java_lang_String) hisR ?_
  intro p e s m args below meth c s₁ Bd hml0 hP hK
  obtain ⟨rfl, hZ, hh⟩ := hP
  have hx := Bd.exec
  have hby := Bd.bytes
  have hml : c.maxLocals = 1 := hml0
  have hown : s.vm.findClass "java/lang/String" = some m.cls := findClass_of_methodNamed Bd.named
  have hnm := (name_of_methodNamed Bd.named Bd.method).1
  have X0 : Stand p l e ({ frames := 2, cells := 2, slots := 5, locals := 27 } : Room) s m #[(.int p1)] below meth c s₁ [] 0 0 := Stand.of_body Bd
  have e0 : s₁.heap = h0 := by rw [← hh, Bd.state]; rfl
  have N0 := Fr.nil n0
  have KP0 : Keep h0 h0 [] := Keep.refl h0 []
  have go0 : Goes p e below s₁ (G_rm7 m p1) s₁ (mkF m 0 #[.val (.int p1)] []) := fun tq kq => castTop (by first | (simp [entryFrame, mkF, argsToLocals, Value.category, G_rm7]; done) | rfl) kq
  obtain ⟨T96, X96, e96, st96⟩ := getS2 X0 hx hZ hown (host := "") (Or.inl (tw18 hw)) Via.refl e0 SC (g := (mkF m 0 #[.val (.int p1)] [])) rfl (hb hby d8_0)
  have go96 : Goes p e below s₁ (G_rm7 m p1) T96 (mkF m 3 #[.val (.int p1)] [(.int cz)]) := fun tq kq => go0 tq (st96 _ kq)
  have go97 : Goes p e below s₁ (G_rm7 m p1) T96 (mkF m 7 #[.val (.int p1)] [(.int p1)]) := fun tq kq => go96 tq (by
    show Steps p.tables e below (T96.setTop (mkF m 3 #[.val (.int p1)] [(.int cz)])) _
    refine XS.ifNo X96.here hx rfl (hb hby d8_3) rfl ((if0 _ _).trans (feq hz).1) ?_
    show Steps p.tables e below (T96.setTop (mkF m 6 #[.val (.int p1)] [])) _
    refine XS.iloadN X96.here hx rfl (hb hby d8_6) rfl ?_
    exact kq)
  obtain ⟨vv98, _, ⟨T98, L98, k98, n98⟩, -, X98, ⟨Lc98, hQ98, l98, y98, z98⟩, st98⟩ := Jvm.LawKit.callS X96 hx (y := (⟨"java/lang/StringLatin1", "canEncode", "(C)Z"⟩ : MethodName)) hown (mvT hZ (tw40 hw)) (mvT hZ (tw41 hw)) (mvT hZ (tw42 hw)) (mvT hZ (tw43 hw)) (by decide) (backOf (W := 0) (rm8 l Z a0 hw [] p1  h0 n0 Z0 ) hZ (tw43 hw) (tw42 hw) (by decide) (by decide)) (g := (mkF m 7 #[.val (.int p1)] [(.int p1)])) rfl (by rw [hml]; rfl) (argsL := [(.int p1)]) (rest := []) (lenOf pd_2 rfl) rfl (by show 2 * 0 + _ ≤ _; exact Nat.le_of_eq rfl) (hb hby d8_7) (fun _ _ => ⟨rfl, e96, (by decide : 0 + 0 ≤ _), (by decide : 0 + 0 ≤ _)⟩)
  dsimp only [Pt.U, Pt.locs, Pt.cells, Pt.slots] at X98 l98 y98 z98 st98 hQ98
  subst l98 y98 z98
  obtain ⟨rfl, Nq98, eq98⟩ := hQ98
  have N98 := Fr.app N0 Nq98
  have go98 : Goes p e below s₁ (G_rm7 m p1) T98 (mkF m 10 #[.val (.int p1)] [(.int (canE p1))]) := fun tq kq => go97 tq (st98 _ kq)
  have hce : canE p1 = 1 := by unfold canE; rw [if_neg hp]
  have go99 : Goes p e below s₁ (G_rm7 m p1) T98 (mkF m 13 #[.val (.int p1)] []) := fun tq kq => go98 tq (by
    show Steps p.tables e below (T98.setTop (mkF m 10 #[.val (.int p1)] [(.int (canE p1))])) _
    refine XS.ifNo X98.here hx rfl (hb hby d8_10) rfl ((if0 _ _).trans (feq (fun q => by rw [hce] at q; exact absurd q (by decide))).1) ?_
    exact kq)
  obtain ⟨T100, h100, X100, e100, E100, A100, D100, -, st100⟩ := newO X98 hx hZ hown (tw44 hw) (tw5 hw) (tw6 hw) eq98 (g := (mkF m 13 #[.val (.int p1)] [])) rfl (hb hby d8_13) (by decide) (by decide)
  obtain ⟨b100, g100⟩ : ∃ z, z = h0.size := ⟨_, rfl⟩
  rw [← g100] at A100 D100 st100
  have g_b100 : n0 ≤ b100 := Nat.le_trans Z0 (Nat.le_of_eq g100.symm)
  have sz_b100 : h0.size ≤ b100 := Nat.le_trans KP0.1 (Nat.le_of_eq g100.symm)
  have KP100 : Keep h0 h100 [] := KP0.ext E100
  have ZS100 : n0 ≤ h100.size := Nat.le_trans Z0 E100.1
  have F100_coder : Fld Z h100 b100 "java/lang/String" "coder" "B" (.int (0 : Int32)) := D100 (Or.inr (tw31 hw)) (ty := .byte) (by decide)
  have F100_value : Fld Z h100 b100 "java/lang/String" "value" "[B" .null := D100 (Or.inr (tw33 hw)) (ty := (.array .byte)) (by decide)
  have go100 : Goes p e below s₁ (G_rm7 m p1) T100 (mkF m 16 #[.val (.int p1)] [(.ref b100)]) := fun tq kq => go99 tq (st100 _ kq)
  have go101 : Goes p e below s₁ (G_rm7 m p1) T100 (mkF m 18 #[.val (.int p1)] [(.int p1), (.ref b100), (.ref b100)]) := fun tq kq => go100 tq (by
    show Steps p.tables e below (T100.setTop (mkF m 16 #[.val (.int p1)] [(.ref b100)])) _
    refine XS.dup X100.here hx rfl (hb hby d8_16) rfl rfl ?_
    show Steps p.tables e below (T100.setTop (mkF m 17 #[.val (.int p1)] [(.ref b100), (.ref b100)])) _
    refine XS.iloadN X100.here hx rfl (hb hby d8_17) rfl ?_
    exact kq)
  obtain ⟨vv102, _, ⟨T102, L102, k102, n102⟩, -, X102, ⟨Lc102, hQ102, l102, y102, z102⟩, st102⟩ := Jvm.LawKit.callS X100 hx (y := (⟨"java/lang/StringLatin1", "toBytes", "(C)[B"⟩ : MethodName)) hown (mvT hZ (tw45 hw)) (mvT hZ (tw46 hw)) (mvT hZ (tw42 hw)) (mvT hZ (tw47 hw)) (by decide) (backOf (W := 2) (rm9 l Z a0 hw [] p1  h100 n0 ZS100 ) hZ (tw47 hw) (tw42 hw) (by decide) (by decide)) (g := (mkF m 18 #[.val (.int p1)] [(.int p1), (.ref b100), (.ref b100)])) rfl (by rw [hml]; rfl) (argsL := [(.int p1)]) (rest := [(.ref b100), (.ref b100)]) (lenOf pd_3 rfl) rfl (by show 2 * 0 + _ ≤ _; exact Nat.le_of_eq rfl) (hb hby d8_18) (fun _ _ => ⟨rfl, e100, (by decide : 1 + 1 ≤ _), (by decide : 4 + 1 ≤ _)⟩)
  dsimp only [Pt.U, Pt.locs, Pt.cells, Pt.slots] at X102 l102 y102 z102 st102 hQ102
  subst l102 y102 z102
  obtain ⟨y102, rfl, Nq102, K102⟩ := hQ102
  have N102 := Fr.app N98 Nq102
  have ZS102 : n0 ≤ T102.heap.size := Nat.le_trans ZS100 K102.1
  have KP102 : Keep h0 T102.heap [] := KP100.trans K102 all0
  have go102 : Goes p e below s₁ (G_rm7 m p1) T102 (mkF m 21 #[.val (.int p1)] [(.ref y102), (.ref b100), (.ref b100)]) := fun tq kq => go101 tq (st102 _ kq)
  have go103 : Goes p e below s₁ (G_rm7 m p1) T102 (mkF m 22 #[.val (.int p1)] [(.int (0 : Int32)), (.ref y102), (.ref b100), (.ref b100)]) := fun tq kq => go102 tq (by
    show Steps p.tables e below (T102.setTop (mkF m 21 #[.val (.int p1)] [(.ref y102), (.ref b100), (.ref b100)])) _
    refine XS.iconst X102.here hx rfl (hb hby d8_21) ?_
    exact kq)
  obtain ⟨vv104, _, ⟨T104, L104, k104, n104⟩, -, X104, ⟨Lc104, hQ104, l104, y104, z104⟩, st104⟩ := X102.specialBack hx (y := (⟨"java/lang/String", "<init>", "([BB)V"⟩ : MethodName)) rfl hown (mvT hZ (tw48 hw)) (mvT hZ (tw49 hw)) (mvT hZ (tw50 hw)) (by decide) (backOf (W := 1) (rm10 l Z a0 hw [] b100 y102  T102.heap n0 ZS102 g_b100 (A100.keep K102) (F100_value.keep K102 nin0) (F100_coder.keep K102 nin0)) hZ (tw50 hw) (tw6 hw) (by decide) (by decide)) (g := (mkF m 22 #[.val (.int p1)] [(.int (0 : Int32)), (.ref y102), (.ref b100), (.ref b100)])) rfl (by rw [hml]; rfl) (Steps.refl _) (a := b100) (argsL := [(.ref y102), (.int (0 : Int32))]) (rest := [(.ref b100)]) (lenOf pd_4 rfl) rfl (by show 2 * 0 + _ ≤ _; exact Nat.le_of_eq rfl) (hb hby d8_22) (fun _ _ => ⟨rfl, rfl, (by decide : 2 + 0 ≤ _), (by decide : 5 + 0 ≤ _)⟩)
  dsimp only [Pt.U, Pt.locs, Pt.cells, Pt.slots] at X104 l104 y104 z104 st104 hQ104
  subst l104 y104 z104
  obtain ⟨rfl, Nq104, K104⟩ := hQ104
  have N104 := Fr.app N102 Nq104
  have ZS104 : n0 ≤ T104.heap.size := Nat.le_trans ZS102 K104.1
  have KP104 : Keep h0 T104.heap [] := KP102.trans K104 (allS (Or.inr sz_b100) all0)
  have go104 : Goes p e below s₁ (G_rm7 m p1) T104 (mkF m 25 #[.val (.int p1)] [(.ref b100)]) := fun tq kq => go103 tq (st104.trans kq)
  obtain ⟨fs, hr, hrun, hended, hW, hsame⟩ := X104.leave (v := some (.ref b100)) (fun h => by rw [Bd.returns] at h; cases h)
  refine ⟨_, _, go104 _ ?_, hrun, hended, _, _, rfl, ?_, ⟨_, rfl⟩, hW, hsame.mono (by decide) (by decide)⟩
  · jvm_step X104.here [X104.here.top, hx, (hb hby d8_25), X104.method', Bd.returns, Value.isRef, FieldType.isReference]
    first | (intro acts; rw [hr _ acts rfl rfl rfl]) | rw [hr _ _ rfl rfl rfl]
    exact Steps.refl _
  · show Q_rm7 Z p1 cz h0 n0 _ T104.heap _
    exact ⟨b100, rfl, N104, KP104⟩
abbrev G_rm12 (m : MethodId) (a1 : Addr) : JFrame := (entryFrame m #[(.ref a1)] 1)
theorem d13_0 : decode jdk_30_method_1_code 0 = .ok (.aload_n 0, 1) := by decide +kernel
theorem d13_1 : decode jdk_30_method_1_code 1 = .ok (.invokespecial 1, 3) := by decide +kernel
theorem d13_4 : decode jdk_30_method_1_code 4 = .ok (.return_, 1) := by decide +kernel
def Q_rm12 (Z : State) (a1 : Addr)  (h0 : Heap) (n0 : Nat) (v : Option Value) (h : Heap) (L : List Loc) : Prop := v = none ∧ Fr n0 L ∧ h = h0
theorem pn_java_lang_Record : plainName "java/lang/Record" = true := by first | (simp [plainName, overriddenIn]; done) | decide +kernel
set_option maxRecDepth 65536 in
set_option maxHeartbeats 40000000 in
theorem rm12 (l : Launch) (Z : State) (a0 : Array Value) (hw : ∀ d ∈ tables_1, d.before a0 Z = true) (ws : List Jvm.Cond) (a1 : Addr)  (h0 : Heap) (n0 : Nat) (Z0 : n0 ≤ h0.size)  :
    MetFree l (⟨"java/lang/Record", "<init>", "()V"⟩ : MethodName) (head1 (Jvm.Cond.code (⟨"java/lang/Record", "<init>", "()V"⟩ : MethodName) jdk_30_method_1_code 1 none :: ws) ({ frames := 1, cells := 0, slots := 0, locals := 12 } : Room)) (fun a U => a = #[(.ref a1)] ∧ Z.Warmed39 U.vm ∧ U.heap = h0) (fun _ _ _ _ _ => True) (fun _ U o U' => ∃ v L, o = .returned v ∧ Q_rm12 Z a1 h0 n0 v U'.heap L ∧ FrameEnd U o U' L ({ frames := 1, cells := 0, slots := 0, locals := 12 } : Room).cells ({ frames := 1, cells := 0, slots := 0, locals := 12 } : Room).slots) := by
  refine MetFree.of_bodySF (plainFor_of_name pn_java_lang_Record) hisR ?_
  intro p e s m args below meth c s₁ Bd hml0 hP hK
  obtain ⟨rfl, hZ, hh⟩ := hP
  have hx := Bd.exec
  have hby := Bd.bytes
  have hml : c.maxLocals = 1 := hml0
  have hown : s.vm.findClass "java/lang/Record" = some m.cls := findClass_of_methodNamed Bd.named
  have hnm := (name_of_methodNamed Bd.named Bd.method).1
  have X0 : Stand p l e ({ frames := 1, cells := 0, slots := 0, locals := 12 } : Room) s m #[(.ref a1)] below meth c s₁ [] 0 0 := Stand.of_body Bd
  have e0 : s₁.heap = h0 := by rw [← hh, Bd.state]; rfl
  have N0 := Fr.nil n0
  have go0 : Goes p e below s₁ (G_rm12 m a1) s₁ (mkF m 0 #[.val (.ref a1)] []) := fun tq kq => castTop (by first | (simp [entryFrame, mkF, argsToLocals, Value.category, G_rm12]; done) | rfl) kq
  have go105 : Goes p e below s₁ (G_rm12 m a1) s₁ (mkF m 1 #[.val (.ref a1)] [(.ref a1)]) := fun tq kq => go0 tq (by
    show Steps p.tables e below (s₁.setTop (mkF m 0 #[.val (.ref a1)] [])) _
    refine XS.aloadN X0.here hx rfl (hb hby d13_0) rfl rfl ?_
    exact kq)
  obtain ⟨T106, X106, e106, st106⟩ := initO X0 hx hZ hown (tw62 hw) (tw16 hw) (tw17 hw) e0 (g := (mkF m 1 #[.val (.ref a1)] [(.ref a1)])) rfl (by rw [hml]; rfl) rfl (hb hby d13_1) (by decide) (W := 0) (by show 2 * 0 + _ ≤ _; exact Nat.le_of_eq rfl) (by decide)
  have go106 : Goes p e below s₁ (G_rm12 m a1) T106 (mkF m 4 #[.val (.ref a1)] []) := fun tq kq => go105 tq (st106 _ kq)
  obtain ⟨fs, hr, hrun, hended, hW, hsame⟩ := X106.leave (v := none) (fun _ => rfl)
  refine ⟨_, _, go106 _ ?_, hrun, hended, _, _, rfl, ?_, ⟨_, rfl⟩, hW, hsame.mono (by decide) (by decide)⟩
  · exact X106.returnOut hx Bd.returns (hb hby d13_4) hr
  · show Q_rm12 Z a1 h0 n0 _ T106.heap _
    rw [e106]
    exact ⟨rfl, N0, rfl⟩
abbrev G_rm11 (m : MethodId) (a1 : Addr) (a2 : Addr) (a3 : Addr) : JFrame := (entryFrame m #[(.ref a1), (.ref a2), (.ref a3)] 3)
theorem d12_0 : decode prog_50_method_1_code 0 = .ok (.aload_n 0, 1) := by decide +kernel
theorem d12_1 : decode prog_50_method_1_code 1 = .ok (.invokespecial 1, 3) := by decide +kernel
theorem pd_5 : parseMethodDescriptor "()V" = some ⟨[], none⟩ := by decide +kernel
theorem d12_4 : decode prog_50_method_1_code 4 = .ok (.aload_n 0, 1) := by decide +kernel
theorem d12_5 : decode prog_50_method_1_code 5 = .ok (.aload_n 1, 1) := by decide +kernel
theorem d12_6 : decode prog_50_method_1_code 6 = .ok (.putfield 7, 3) := by decide +kernel
theorem d12_9 : decode prog_50_method_1_code 9 = .ok (.aload_n 0, 1) := by decide +kernel
theorem d12_10 : decode prog_50_method_1_code 10 = .ok (.aload_n 2, 1) := by decide +kernel
theorem d12_11 : decode prog_50_method_1_code 11 = .ok (.putfield 13, 3) := by decide +kernel
theorem d12_14 : decode prog_50_method_1_code 14 = .ok (.return_, 1) := by decide +kernel
def Q_rm11 (Z : State) (a1 : Addr) (a2 : Addr) (a3 : Addr)  (h0 : Heap) (n0 : Nat) (v : Option Value) (h : Heap) (L : List Loc) : Prop := v = none ∧ Fr n0 L ∧ Keep h0 h [a1] ∧ Exa Z h a1 "com/example/rightful_keys/rightfulkeys/store/Account" ∧ Fld Z h a1 "com/example/rightful_keys/rightfulkeys/store/Account" "id" "Ljava/lang/String;" (.ref a2)
theorem pn_com_example_rightful_keys_rightfulkeys_store_Account : plainName "com/example/rightful_keys/rightfulkeys/store/Account" = true := by first | (simp [plainName, overriddenIn]; done) | decide +kernel
set_option maxRecDepth 65536 in
set_option maxHeartbeats 40000000 in
theorem rm11 (l : Launch) (Z : State) (a0 : Array Value) (hw : ∀ d ∈ tables_1, d.before a0 Z = true) (ws : List Jvm.Cond) (a1 : Addr) (a2 : Addr) (a3 : Addr)  (h0 : Heap) (n0 : Nat) (Z0 : n0 ≤ h0.size) (g_a1 : n0 ≤ a1) (Ex : Exa Z h0 a1 "com/example/rightful_keys/rightfulkeys/store/Account") (F1 : Fld Z h0 a1 "com/example/rightful_keys/rightfulkeys/store/Account" "id" "Ljava/lang/String;" .null) (F2 : Fld Z h0 a1 "com/example/rightful_keys/rightfulkeys/store/Account" "name" "Ljava/lang/String;" .null) :
    MetFree l (⟨"com/example/rightful_keys/rightfulkeys/store/Account", "<init>", "(Ljava/lang/String;Ljava/lang/String;)V"⟩ : MethodName) (head1 (Jvm.Cond.code (⟨"com/example/rightful_keys/rightfulkeys/store/Account", "<init>", "(Ljava/lang/String;Ljava/lang/String;)V"⟩ : MethodName) prog_50_method_1_code 3 none :: ws) ({ frames := 2, cells := 0, slots := 0, locals := 24 } : Room)) (fun a U => a = #[(.ref a1), (.ref a2), (.ref a3)] ∧ Z.Warmed39 U.vm ∧ U.heap = h0) (fun _ _ _ _ _ => True) (fun _ U o U' => ∃ v L, o = .returned v ∧ Q_rm11 Z a1 a2 a3 h0 n0 v U'.heap L ∧ FrameEnd U o U' L ({ frames := 2, cells := 0, slots := 0, locals := 24 } : Room).cells ({ frames := 2, cells := 0, slots := 0, locals := 24 } : Room).slots) := by
  refine MetFree.of_bodySF (plainFor_of_name pn_com_example_rightful_keys_rightfulkeys_store_Account) hisR ?_
  intro p e s m args below meth c s₁ Bd hml0 hP hK
  obtain ⟨rfl, hZ, hh⟩ := hP
  have hx := Bd.exec
  have hby := Bd.bytes
  have hml : c.maxLocals = 3 := hml0
  have hown : s.vm.findClass "com/example/rightful_keys/rightfulkeys/store/Account" = some m.cls := findClass_of_methodNamed Bd.named
  have hnm := (name_of_methodNamed Bd.named Bd.method).1
  have X0 : Stand p l e ({ frames := 2, cells := 0, slots := 0, locals := 24 } : Room) s m #[(.ref a1), (.ref a2), (.ref a3)] below meth c s₁ [] 0 0 := Stand.of_body Bd
  have e0 : s₁.heap = h0 := by rw [← hh, Bd.state]; rfl
  have N0 := Fr.nil n0
  have KP0 : Keep h0 h0 [a1] := Keep.refl h0 [a1]
  have go0 : Goes p e below s₁ (G_rm11 m a1 a2 a3) s₁ (mkF m 0 #[.val (.ref a1), .val (.ref a2), .val (.ref a3)] []) := fun tq kq => castTop (by first | (simp [entryFrame, mkF, argsToLocals, Value.category, G_rm11]; done) | rfl) kq
  have go107 : Goes p e below s₁ (G_rm11 m a1 a2 a3) s₁ (mkF m 1 #[.val (.ref a1), .val (.ref a2), .val (.ref a3)] [(.ref a1)]) := fun tq kq => go0 tq (by
    show Steps p.tables e below (s₁.setTop (mkF m 0 #[.val (.ref a1), .val (.ref a2), .val (.ref a3)] [])) _
    refine XS.aloadN X0.here hx rfl (hb hby d12_0) rfl rfl ?_
    exact kq)
  obtain ⟨vv108, _, ⟨T108, L108, k108, n108⟩, -, X108, ⟨Lc108, hQ108, l108, y108, z108⟩, st108⟩ := X0.specialBack hx (y := (⟨"java/lang/Record", "<init>", "()V"⟩ : MethodName)) rfl hown (mvT hZ (tw57 hw)) (mvT hZ (tw58 hw)) (mvT hZ (tw61 hw)) (by decide) (backOf (W := 0) (rm12 l Z a0 hw [] a1  h0 n0 Z0 ) hZ (tw61 hw) (tw60 hw) (by decide) (by decide)) (g := (mkF m 1 #[.val (.ref a1), .val (.ref a2), .val (.ref a3)] [(.ref a1)])) rfl (by rw [hml]; rfl) (Steps.refl _) (a := a1) (argsL := []) (rest := []) (lenOf pd_5 rfl) rfl (by show 2 * 0 + _ ≤ _; exact Nat.le_of_eq rfl) (hb hby d12_1) (fun _ _ => ⟨rfl, e0, (by decide : 0 + 0 ≤ _), (by decide : 0 + 0 ≤ _)⟩)
  dsimp only [Pt.U, Pt.locs, Pt.cells, Pt.slots] at X108 l108 y108 z108 st108 hQ108
  subst l108 y108 z108
  obtain ⟨rfl, Nq108, eq108⟩ := hQ108
  have N108 := Fr.app N0 Nq108
  have go108 : Goes p e below s₁ (G_rm11 m a1 a2 a3) T108 (mkF m 4 #[.val (.ref a1), .val (.ref a2), .val (.ref a3)] []) := fun tq kq => go107 tq (st108.trans kq)
  have go109 : Goes p e below s₁ (G_rm11 m a1 a2 a3) T108 (mkF m 6 #[.val (.ref a1), .val (.ref a2), .val (.ref a3)] [(.ref a2), (.ref a1)]) := fun tq kq => go108 tq (by
    show Steps p.tables e below (T108.setTop (mkF m 4 #[.val (.ref a1), .val (.ref a2), .val (.ref a3)] [])) _
    refine XS.aloadN X108.here hx rfl (hb hby d12_4) rfl rfl ?_
    show Steps p.tables e below (T108.setTop (mkF m 5 #[.val (.ref a1), .val (.ref a2), .val (.ref a3)] [(.ref a1)])) _
    refine XS.aloadN X108.here hx rfl (hb hby d12_5) rfl rfl ?_
    exact kq)
  obtain ⟨T110, h110, X110, e110, W110, st110⟩ := putF X108 hx hZ hown (host := "") (Or.inl (tw63 hw)) Via.refl eq108 F1 Ex (Or.inr ⟨(tw64 hw), rfl, hnm⟩) (tw52 hw) (ty := (.object "java/lang/String")) (by decide) rfl rfl (g := (mkF m 6 #[.val (.ref a1), .val (.ref a2), .val (.ref a3)] [(.ref a2), (.ref a1)])) rfl rfl (hb hby d12_6)
  have N110 := Fr.snoc X110 N108 g_a1
  have KP110 : Keep h0 h110 [a1] := KP0.wr W110 (Or.inl (List.mem_of_getElem? (i := 0) rfl))
  have ZS110 : n0 ≤ h110.size := Nat.le_trans Z0 (Keep.of_wr W110).1
  have F110 := Fld.same W110 F1
  have go110 : Goes p e below s₁ (G_rm11 m a1 a2 a3) T110 (mkF m 9 #[.val (.ref a1), .val (.ref a2), .val (.ref a3)] []) := fun tq kq => go109 tq (st110 _ kq)
  have f111 := (Fld.other W110 F2 (Or.inr (slot_ne (Or.inr (tw66 hw)) (Or.inr (tw64 hw)) (by decide) (t := (.object "java/lang/String")) (t' := (.object "java/lang/String")) (by decide) (by decide))))
  have go112 : Goes p e below s₁ (G_rm11 m a1 a2 a3) T110 (mkF m 11 #[.val (.ref a1), .val (.ref a2), .val (.ref a3)] [(.ref a3), (.ref a1)]) := fun tq kq => go110 tq (by
    show Steps p.tables e below (T110.setTop (mkF m 9 #[.val (.ref a1), .val (.ref a2), .val (.ref a3)] [])) _
    refine XS.aloadN X110.here hx rfl (hb hby d12_9) rfl rfl ?_
    show Steps p.tables e below (T110.setTop (mkF m 10 #[.val (.ref a1), .val (.ref a2), .val (.ref a3)] [(.ref a1)])) _
    refine XS.aloadN X110.here hx rfl (hb hby d12_10) rfl rfl ?_
    exact kq)
  obtain ⟨T113, h113, X113, e113, W113, st113⟩ := putF X110 hx hZ hown (host := "") (Or.inl (tw65 hw)) Via.refl e110 f111 (Exa.wr W110 Ex) (Or.inr ⟨(tw66 hw), rfl, hnm⟩) (tw52 hw) (ty := (.object "java/lang/String")) (by decide) rfl rfl (g := (mkF m 11 #[.val (.ref a1), .val (.ref a2), .val (.ref a3)] [(.ref a3), (.ref a1)])) rfl rfl (hb hby d12_11)
  have N113 := Fr.snoc X113 N110 g_a1
  have KP113 : Keep h0 h113 [a1] := KP110.wr W113 (Or.inl (List.mem_of_getElem? (i := 0) rfl))
  have ZS113 : n0 ≤ h113.size := Nat.le_trans ZS110 (Keep.of_wr W113).1
  have F113 := Fld.same W113 f111
  have go113 : Goes p e below s₁ (G_rm11 m a1 a2 a3) T113 (mkF m 14 #[.val (.ref a1), .val (.ref a2), .val (.ref a3)] []) := fun tq kq => go112 tq (st113 _ kq)
  have f114 := (Fld.other W113 F110 (Or.inr (slot_ne (Or.inr (tw64 hw)) (Or.inr (tw66 hw)) (by decide) (t := (.object "java/lang/String")) (t' := (.object "java/lang/String")) (by decide) (by decide))))
  obtain ⟨fs, hr, hrun, hended, hW, hsame⟩ := X113.leave (v := none) (fun _ => rfl)
  refine ⟨_, _, go113 _ ?_, hrun, hended, _, _, rfl, ?_, ⟨_, rfl⟩, hW, hsame.mono (by decide) (by decide)⟩
  · exact X113.returnOut hx Bd.returns (hb hby d12_14) hr
  · show Q_rm11 Z a1 a2 a3 h0 n0 _ T113.heap _
    rw [e113]
    exact ⟨rfl, N113, KP113, (Exa.wr W113 (Exa.wr W110 Ex)), f114⟩
abbrev G_rm13 (m : MethodId) (a1 : Addr) (a2 : Addr) (a3 : Addr) (a4 : Addr) (a5 : Addr) (p6 : Int32) (a7 : Addr) : JFrame := (entryFrame m #[(.ref a1), (.ref a2), (.ref a3), (.ref a4), (.ref a5), (.int p6), (.ref a7)] 7)
theorem d14_0 : decode prog_63_method_1_code 0 = .ok (.aload_n 0, 1) := by decide +kernel
theorem d14_1 : decode prog_63_method_1_code 1 = .ok (.invokespecial 1, 3) := by decide +kernel
theorem d14_4 : decode prog_63_method_1_code 4 = .ok (.aload_n 0, 1) := by decide +kernel
theorem d14_5 : decode prog_63_method_1_code 5 = .ok (.aload_n 1, 1) := by decide +kernel
theorem d14_6 : decode prog_63_method_1_code 6 = .ok (.putfield 7, 3) := by decide +kernel
theorem d14_9 : decode prog_63_method_1_code 9 = .ok (.aload_n 0, 1) := by decide +kernel
theorem d14_10 : decode prog_63_method_1_code 10 = .ok (.aload_n 2, 1) := by decide +kernel
theorem d14_11 : decode prog_63_method_1_code 11 = .ok (.putfield 13, 3) := by decide +kernel
theorem d14_14 : decode prog_63_method_1_code 14 = .ok (.aload_n 0, 1) := by decide +kernel
theorem d14_15 : decode prog_63_method_1_code 15 = .ok (.aload_n 3, 1) := by decide +kernel
theorem d14_16 : decode prog_63_method_1_code 16 = .ok (.putfield 16, 3) := by decide +kernel
theorem d14_19 : decode prog_63_method_1_code 19 = .ok (.aload_n 0, 1) := by decide +kernel
theorem d14_20 : decode prog_63_method_1_code 20 = .ok (.aload 4, 2) := by decide +kernel
theorem d14_22 : decode prog_63_method_1_code 22 = .ok (.putfield 20, 3) := by decide +kernel
theorem d14_25 : decode prog_63_method_1_code 25 = .ok (.aload_n 0, 1) := by decide +kernel
theorem d14_26 : decode prog_63_method_1_code 26 = .ok (.iload 5, 2) := by decide +kernel
theorem d14_28 : decode prog_63_method_1_code 28 = .ok (.putfield 23, 3) := by decide +kernel
theorem d14_31 : decode prog_63_method_1_code 31 = .ok (.aload_n 0, 1) := by decide +kernel
theorem d14_32 : decode prog_63_method_1_code 32 = .ok (.aload 6, 2) := by decide +kernel
theorem d14_34 : decode prog_63_method_1_code 34 = .ok (.putfield 27, 3) := by decide +kernel
theorem d14_37 : decode prog_63_method_1_code 37 = .ok (.return_, 1) := by decide +kernel
def Q_rm13 (Z : State) (a1 : Addr) (a2 : Addr) (a3 : Addr) (a4 : Addr) (a5 : Addr) (p6 : Int32) (a7 : Addr)  (h0 : Heap) (n0 : Nat) (v : Option Value) (h : Heap) (L : List Loc) : Prop := v = none ∧ Fr n0 L ∧ Keep h0 h [a1] ∧ Exa Z h a1 "com/example/rightful_keys/rightfulkeys/store/Project" ∧ Fld Z h a1 "com/example/rightful_keys/rightfulkeys/store/Project" "account" "Lcom/example/rightful_keys/rightfulkeys/store/Account;" (.ref a4) ∧ Fld Z h a1 "com/example/rightful_keys/rightfulkeys/store/Project" "parentId" "Ljava/lang/String;" (.ref a7)
theorem pn_com_example_rightful_keys_rightfulkeys_store_Project : plainName "com/example/rightful_keys/rightfulkeys/store/Project" = true := by first | (simp [plainName, overriddenIn]; done) | decide +kernel
set_option maxRecDepth 65536 in
set_option maxHeartbeats 40000000 in
theorem rm13 (l : Launch) (Z : State) (a0 : Array Value) (hw : ∀ d ∈ tables_1, d.before a0 Z = true) (ws : List Jvm.Cond) (a1 : Addr) (a2 : Addr) (a3 : Addr) (a4 : Addr) (a5 : Addr) (p6 : Int32) (a7 : Addr)  (h0 : Heap) (n0 : Nat) (Z0 : n0 ≤ h0.size) (g_a1 : n0 ≤ a1) (Ex : Exa Z h0 a1 "com/example/rightful_keys/rightfulkeys/store/Project") (F_id : Fld Z h0 a1 "com/example/rightful_keys/rightfulkeys/store/Project" "id" "Ljava/lang/String;" .null) (F_name : Fld Z h0 a1 "com/example/rightful_keys/rightfulkeys/store/Project" "name" "Ljava/lang/String;" .null) (F_account : Fld Z h0 a1 "com/example/rightful_keys/rightfulkeys/store/Project" "account" "Lcom/example/rightful_keys/rightfulkeys/store/Account;" .null) (F_description : Fld Z h0 a1 "com/example/rightful_keys/rightfulkeys/store/Project" "description" "Ljava/lang/String;" .null) (F_enabled : Fld Z h0 a1 "com/example/rightful_keys/rightfulkeys/store/Project" "enabled" "Z" (.int (0 : Int32))) (F_parentId : Fld Z h0 a1 "com/example/rightful_keys/rightfulkeys/store/Project" "parentId" "Ljava/lang/String;" .null) :
    MetFree l (⟨"com/example/rightful_keys/rightfulkeys/store/Project", "<init>", "(Ljava/lang/String;Ljava/lang/String;Lcom/example/rightful_keys/rightfulkeys/store/Account;Ljava/lang/String;ZLjava/lang/String;)V"⟩ : MethodName) (head1 (Jvm.Cond.code (⟨"com/example/rightful_keys/rightfulkeys/store/Project", "<init>", "(Ljava/lang/String;Ljava/lang/String;Lcom/example/rightful_keys/rightfulkeys/store/Account;Ljava/lang/String;ZLjava/lang/String;)V"⟩ : MethodName) prog_63_method_1_code 7 none :: ws) ({ frames := 2, cells := 0, slots := 0, locals := 24 } : Room)) (fun a U => a = #[(.ref a1), (.ref a2), (.ref a3), (.ref a4), (.ref a5), (.int p6), (.ref a7)] ∧ Z.Warmed39 U.vm ∧ U.heap = h0) (fun _ _ _ _ _ => True) (fun _ U o U' => ∃ v L, o = .returned v ∧ Q_rm13 Z a1 a2 a3 a4 a5 p6 a7 h0 n0 v U'.heap L ∧ FrameEnd U o U' L ({ frames := 2, cells := 0, slots := 0, locals := 24 } : Room).cells ({ frames := 2, cells := 0, slots := 0, locals := 24 } : Room).slots) := by
  refine MetFree.of_bodySF (plainFor_of_name pn_com_example_rightful_keys_rightfulkeys_store_Project) hisR ?_
  intro p e s m args below meth c s₁ Bd hml0 hP hK
  obtain ⟨rfl, hZ, hh⟩ := hP
  have hx := Bd.exec
  have hby := Bd.bytes
  have hml : c.maxLocals = 7 := hml0
  have hown : s.vm.findClass "com/example/rightful_keys/rightfulkeys/store/Project" = some m.cls := findClass_of_methodNamed Bd.named
  have hnm := (name_of_methodNamed Bd.named Bd.method).1
  have X0 : Stand p l e ({ frames := 2, cells := 0, slots := 0, locals := 24 } : Room) s m #[(.ref a1), (.ref a2), (.ref a3), (.ref a4), (.ref a5), (.int p6), (.ref a7)] below meth c s₁ [] 0 0 := Stand.of_body Bd
  have e0 : s₁.heap = h0 := by rw [← hh, Bd.state]; rfl
  have N0 := Fr.nil n0
  have KP0 : Keep h0 h0 [a1] := Keep.refl h0 [a1]
  have go0 : Goes p e below s₁ (G_rm13 m a1 a2 a3 a4 a5 p6 a7) s₁ (mkF m 0 #[.val (.ref a1), .val (.ref a2), .val (.ref a3), .val (.ref a4), .val (.ref a5), .val (.int p6), .val (.ref a7)] []) := fun tq kq => castTop (by first | (simp [entryFrame, mkF, argsToLocals, Value.category, G_rm13]; done) | rfl) kq
  have go115 : Goes p e below s₁ (G_rm13 m a1 a2 a3 a4 a5 p6 a7) s₁ (mkF m 1 #[.val (.ref a1), .val (.ref a2), .val (.ref a3), .val (.ref a4), .val (.ref a5), .val (.int p6), .val (.ref a7)] [(.ref a1)]) := fun tq kq => go0 tq (by
    show Steps p.tables e below (s₁.setTop (mkF m 0 #[.val (.ref a1), .val (.ref a2), .val (.ref a3), .val (.ref a4), .val (.ref a5), .val (.int p6), .val (.ref a7)] [])) _
    refine XS.aloadN X0.here hx rfl (hb hby d14_0) rfl rfl ?_
    exact kq)
  obtain ⟨vv116, _, ⟨T116, L116, k116, n116⟩, -, X116, ⟨Lc116, hQ116, l116, y116, z116⟩, st116⟩ := X0.specialBack hx (y := (⟨"java/lang/Record", "<init>", "()V"⟩ : MethodName)) rfl hown (mvT hZ (tw73 hw)) (mvT hZ (tw58 hw)) (mvT hZ (tw61 hw)) (by decide) (backOf (W := 0) (rm12 l Z a0 hw [] a1  h0 n0 Z0 ) hZ (tw61 hw) (tw60 hw) (by decide) (by decide)) (g := (mkF m 1 #[.val (.ref a1), .val (.ref a2), .val (.ref a3), .val (.ref a4), .val (.ref a5), .val (.int p6), .val (.ref a7)] [(.ref a1)])) rfl (by rw [hml]; rfl) (Steps.refl _) (a := a1) (argsL := []) (rest := []) (lenOf pd_5 rfl) rfl (by show 2 * 0 + _ ≤ _; exact Nat.le_of_eq rfl) (hb hby d14_1) (fun _ _ => ⟨rfl, e0, (by decide : 0 + 0 ≤ _), (by decide : 0 + 0 ≤ _)⟩)
  dsimp only [Pt.U, Pt.locs, Pt.cells, Pt.slots] at X116 l116 y116 z116 st116 hQ116
  subst l116 y116 z116
  obtain ⟨rfl, Nq116, eq116⟩ := hQ116
  have N116 := Fr.app N0 Nq116
  have go116 : Goes p e below s₁ (G_rm13 m a1 a2 a3 a4 a5 p6 a7) T116 (mkF m 4 #[.val (.ref a1), .val (.ref a2), .val (.ref a3), .val (.ref a4), .val (.ref a5), .val (.int p6), .val (.ref a7)] []) := fun tq kq => go115 tq (st116.trans kq)
  have go117 : Goes p e below s₁ (G_rm13 m a1 a2 a3 a4 a5 p6 a7) T116 (mkF m 6 #[.val (.ref a1), .val (.ref a2), .val (.ref a3), .val (.ref a4), .val (.ref a5), .val (.int p6), .val (.ref a7)] [(.ref a2), (.ref a1)]) := fun tq kq => go116 tq (by
    show Steps p.tables e below (T116.setTop (mkF m 4 #[.val (.ref a1), .val (.ref a2), .val (.ref a3), .val (.ref a4), .val (.ref a5), .val (.int p6), .val (.ref a7)] [])) _
    refine XS.aloadN X116.here hx rfl (hb hby d14_4) rfl rfl ?_
    show Steps p.tables e below (T116.setTop (mkF m 5 #[.val (.ref a1), .val (.ref a2), .val (.ref a3), .val (.ref a4), .val (.ref a5), .val (.int p6), .val (.ref a7)] [(.ref a1)])) _
    refine XS.aloadN X116.here hx rfl (hb hby d14_5) rfl rfl ?_
    exact kq)
  obtain ⟨T118, h118, X118, e118, W118, st118⟩ := putF X116 hx hZ hown (host := "") (Or.inl (tw74 hw)) Via.refl eq116 F_id Ex (Or.inr ⟨(tw75 hw), rfl, hnm⟩) (tw68 hw) (ty := (.object "java/lang/String")) (by decide) rfl rfl (g := (mkF m 6 #[.val (.ref a1), .val (.ref a2), .val (.ref a3), .val (.ref a4), .val (.ref a5), .val (.int p6), .val (.ref a7)] [(.ref a2), (.ref a1)])) rfl rfl (hb hby d14_6)
  have N118 := Fr.snoc X118 N116 g_a1
  have KP118 : Keep h0 h118 [a1] := KP0.wr W118 (Or.inl (List.mem_of_getElem? (i := 0) rfl))
  have ZS118 : n0 ≤ h118.size := Nat.le_trans Z0 (Keep.of_wr W118).1
  have F118 := Fld.same W118 F_id
  have go118 : Goes p e below s₁ (G_rm13 m a1 a2 a3 a4 a5 p6 a7) T118 (mkF m 9 #[.val (.ref a1), .val (.ref a2), .val (.ref a3), .val (.ref a4), .val (.ref a5), .val (.int p6), .val (.ref a7)] []) := fun tq kq => go117 tq (st118 _ kq)
  have f119 := (Fld.other W118 F_name (Or.inr (slot_ne (Or.inr (tw77 hw)) (Or.inr (tw75 hw)) (by decide) (t := (.object "java/lang/String")) (t' := (.object "java/lang/String")) (by decide) (by decide))))
  have go120 : Goes p e below s₁ (G_rm13 m a1 a2 a3 a4 a5 p6 a7) T118 (mkF m 11 #[.val (.ref a1), .val (.ref a2), .val (.ref a3), .val (.ref a4), .val (.ref a5), .val (.int p6), .val (.ref a7)] [(.ref a3), (.ref a1)]) := fun tq kq => go118 tq (by
    show Steps p.tables e below (T118.setTop (mkF m 9 #[.val (.ref a1), .val (.ref a2), .val (.ref a3), .val (.ref a4), .val (.ref a5), .val (.int p6), .val (.ref a7)] [])) _
    refine XS.aloadN X118.here hx rfl (hb hby d14_9) rfl rfl ?_
    show Steps p.tables e below (T118.setTop (mkF m 10 #[.val (.ref a1), .val (.ref a2), .val (.ref a3), .val (.ref a4), .val (.ref a5), .val (.int p6), .val (.ref a7)] [(.ref a1)])) _
    refine XS.aloadN X118.here hx rfl (hb hby d14_10) rfl rfl ?_
    exact kq)
  obtain ⟨T121, h121, X121, e121, W121, st121⟩ := putF X118 hx hZ hown (host := "") (Or.inl (tw76 hw)) Via.refl e118 f119 (Exa.wr W118 Ex) (Or.inr ⟨(tw77 hw), rfl, hnm⟩) (tw68 hw) (ty := (.object "java/lang/String")) (by decide) rfl rfl (g := (mkF m 11 #[.val (.ref a1), .val (.ref a2), .val (.ref a3), .val (.ref a4), .val (.ref a5), .val (.int p6), .val (.ref a7)] [(.ref a3), (.ref a1)])) rfl rfl (hb hby d14_11)
  have N121 := Fr.snoc X121 N118 g_a1
  have KP121 : Keep h0 h121 [a1] := KP118.wr W121 (Or.inl (List.mem_of_getElem? (i := 0) rfl))
  have ZS121 : n0 ≤ h121.size := Nat.le_trans ZS118 (Keep.of_wr W121).1
  have F121 := Fld.same W121 f119
  have go121 : Goes p e below s₁ (G_rm13 m a1 a2 a3 a4 a5 p6 a7) T121 (mkF m 14 #[.val (.ref a1), .val (.ref a2), .val (.ref a3), .val (.ref a4), .val (.ref a5), .val (.int p6), .val (.ref a7)] []) := fun tq kq => go120 tq (st121 _ kq)
  have f122 := (Fld.other W121 (Fld.other W118 F_account (Or.inr (slot_ne (Or.inr (tw79 hw)) (Or.inr (tw75 hw)) (by decide) (t := (.object "com/example/rightful_keys/rightfulkeys/store/Account")) (t' := (.object "java/lang/String")) (by decide) (by decide)))) (Or.inr (slot_ne (Or.inr (tw79 hw)) (Or.inr (tw77 hw)) (by decide) (t := (.object "com/example/rightful_keys/rightfulkeys/store/Account")) (t' := (.object "java/lang/String")) (by decide) (by decide))))
  have go123 : Goes p e below s₁ (G_rm13 m a1 a2 a3 a4 a5 p6 a7) T121 (mkF m 16 #[.val (.ref a1), .val (.ref a2), .val (.ref a3), .val (.ref a4), .val (.ref a5), .val (.int p6), .val (.ref a7)] [(.ref a4), (.ref a1)]) := fun tq kq => go121 tq (by
    show Steps p.tables e below (T121.setTop (mkF m 14 #[.val (.ref a1), .val (.ref a2), .val (.ref a3), .val (.ref a4), .val (.ref a5), .val (.int p6), .val (.ref a7)] [])) _
    refine XS.aloadN X121.here hx rfl (hb hby d14_14) rfl rfl ?_
    show Steps p.tables e below (T121.setTop (mkF m 15 #[.val (.ref a1), .val (.ref a2), .val (.ref a3), .val (.ref a4), .val (.ref a5), .val (.int p6), .val (.ref a7)] [(.ref a1)])) _
    refine XS.aloadN X121.here hx rfl (hb hby d14_15) rfl rfl ?_
    exact kq)
  obtain ⟨T124, h124, X124, e124, W124, st124⟩ := putF X121 hx hZ hown (host := "") (Or.inl (tw78 hw)) Via.refl e121 f122 (Exa.wr W121 (Exa.wr W118 Ex)) (Or.inr ⟨(tw79 hw), rfl, hnm⟩) (tw68 hw) (ty := (.object "com/example/rightful_keys/rightfulkeys/store/Account")) (by decide) rfl rfl (g := (mkF m 16 #[.val (.ref a1), .val (.ref a2), .val (.ref a3), .val (.ref a4), .val (.ref a5), .val (.int p6), .val (.ref a7)] [(.ref a4), (.ref a1)])) rfl rfl (hb hby d14_16)
  have N124 := Fr.snoc X124 N121 g_a1
  have KP124 : Keep h0 h124 [a1] := KP121.wr W124 (Or.inl (List.mem_of_getElem? (i := 0) rfl))
  have ZS124 : n0 ≤ h124.size := Nat.le_trans ZS121 (Keep.of_wr W124).1
  have F124 := Fld.same W124 f122
  have go124 : Goes p e below s₁ (G_rm13 m a1 a2 a3 a4 a5 p6 a7) T124 (mkF m 19 #[.val (.ref a1), .val (.ref a2), .val (.ref a3), .val (.ref a4), .val (.ref a5), .val (.int p6), .val (.ref a7)] []) := fun tq kq => go123 tq (st124 _ kq)
  have f125 := (Fld.other W124 (Fld.other W121 (Fld.other W118 F_description (Or.inr (slot_ne (Or.inr (tw81 hw)) (Or.inr (tw75 hw)) (by decide) (t := (.object "java/lang/String")) (t' := (.object "java/lang/String")) (by decide) (by decide)))) (Or.inr (slot_ne (Or.inr (tw81 hw)) (Or.inr (tw77 hw)) (by decide) (t := (.object "java/lang/String")) (t' := (.object "java/lang/String")) (by decide) (by decide)))) (Or.inr (slot_ne (Or.inr (tw81 hw)) (Or.inr (tw79 hw)) (by decide) (t := (.object "java/lang/String")) (t' := (.object "com/example/rightful_keys/rightfulkeys/store/Account")) (by decide) (by decide))))
  have go126 : Goes p e below s₁ (G_rm13 m a1 a2 a3 a4 a5 p6 a7) T124 (mkF m 22 #[.val (.ref a1), .val (.ref a2), .val (.ref a3), .val (.ref a4), .val (.ref a5), .val (.int p6), .val (.ref a7)] [(.ref a5), (.ref a1)]) := fun tq kq => go124 tq (by
    show Steps p.tables e below (T124.setTop (mkF m 19 #[.val (.ref a1), .val (.ref a2), .val (.ref a3), .val (.ref a4), .val (.ref a5), .val (.int p6), .val (.ref a7)] [])) _
    refine XS.aloadN X124.here hx rfl (hb hby d14_19) rfl rfl ?_
    show Steps p.tables e below (T124.setTop (mkF m 20 #[.val (.ref a1), .val (.ref a2), .val (.ref a3), .val (.ref a4), .val (.ref a5), .val (.int p6), .val (.ref a7)] [(.ref a1)])) _
    refine XS.aload X124.here hx rfl (hb hby d14_20) rfl rfl ?_
    exact kq)
  obtain ⟨T127, h127, X127, e127, W127, st127⟩ := putF X124 hx hZ hown (host := "") (Or.inl (tw80 hw)) Via.refl e124 f125 (Exa.wr W124 (Exa.wr W121 (Exa.wr W118 Ex))) (Or.inr ⟨(tw81 hw), rfl, hnm⟩) (tw68 hw) (ty := (.object "java/lang/String")) (by decide) rfl rfl (g := (mkF m 22 #[.val (.ref a1), .val (.ref a2), .val (.ref a3), .val (.ref a4), .val (.ref a5), .val (.int p6), .val (.ref a7)] [(.ref a5), (.ref a1)])) rfl rfl (hb hby d14_22)
  have N127 := Fr.snoc X127 N124 g_a1
  have KP127 : Keep h0 h127 [a1] := KP124.wr W127 (Or.inl (List.mem_of_getElem? (i := 0) rfl))
  have ZS127 : n0 ≤ h127.size := Nat.le_trans ZS124 (Keep.of_wr W127).1
  have F127 := Fld.same W127 f125
  have go127 : Goes p e below s₁ (G_rm13 m a1 a2 a3 a4 a5 p6 a7) T127 (mkF m 25 #[.val (.ref a1), .val (.ref a2), .val (.ref a3), .val (.ref a4), .val (.ref a5), .val (.int p6), .val (.ref a7)] []) := fun tq kq => go126 tq (st127 _ kq)
  have f128 := (Fld.other W127 (Fld.other W124 (Fld.other W121 (Fld.other W118 F_enabled (Or.inr (slot_ne (Or.inr (tw83 hw)) (Or.inr (tw75 hw)) (by decide) (t := .boolean) (t' := (.object "java/lang/String")) (by decide) (by decide)))) (Or.inr (slot_ne (Or.inr (tw83 hw)) (Or.inr (tw77 hw)) (by decide) (t := .boolean) (t' := (.object "java/lang/String")) (by decide) (by decide)))) (Or.inr (slot_ne (Or.inr (tw83 hw)) (Or.inr (tw79 hw)) (by decide) (t := .boolean) (t' := (.object "com/example/rightful_keys/rightfulkeys/store/Account")) (by decide) (by decide)))) (Or.inr (slot_ne (Or.inr (tw83 hw)) (Or.inr (tw81 hw)) (by decide) (t := .boolean) (t' := (.object "java/lang/String")) (by decide) (by decide))))
  have go129 : Goes p e below s₁ (G_rm13 m a1 a2 a3 a4 a5 p6 a7) T127 (mkF m 28 #[.val (.ref a1), .val (.ref a2), .val (.ref a3), .val (.ref a4), .val (.ref a5), .val (.int p6), .val (.ref a7)] [(.int p6), (.ref a1)]) := fun tq kq => go127 tq (by
    show Steps p.tables e below (T127.setTop (mkF m 25 #[.val (.ref a1), .val (.ref a2), .val (.ref a3), .val (.ref a4), .val (.ref a5), .val (.int p6), .val (.ref a7)] [])) _
    refine XS.aloadN X127.here hx rfl (hb hby d14_25) rfl rfl ?_
    show Steps p.tables e below (T127.setTop (mkF m 26 #[.val (.ref a1), .val (.ref a2), .val (.ref a3), .val (.ref a4), .val (.ref a5), .val (.int p6), .val (.ref a7)] [(.ref a1)])) _
    refine XS.iload X127.here hx rfl (hb hby d14_26) rfl ?_
    exact kq)
  obtain ⟨T130, h130, X130, e130, W130, st130⟩ := putFN X127 hx hZ hown (tw82 hw) Via.refl e127 f128 (Exa.wr W127 (Exa.wr W124 (Exa.wr W121 (Exa.wr W118 Ex)))) (Or.inr ⟨(tw83 hw), rfl, hnm⟩) (tw68 hw) (ty := .boolean) (v' := (.int (nar .boolean p6))) (by decide) rfl (fits_nar_bool _) (g := (mkF m 28 #[.val (.ref a1), .val (.ref a2), .val (.ref a3), .val (.ref a4), .val (.ref a5), .val (.int p6), .val (.ref a7)] [(.int p6), (.ref a1)])) rfl rfl (hb hby d14_28)
  have N130 := Fr.snoc X130 N127 g_a1
  have KP130 : Keep h0 h130 [a1] := KP127.wr W130 (Or.inl (List.mem_of_getElem? (i := 0) rfl))
  have ZS130 : n0 ≤ h130.size := Nat.le_trans ZS127 (Keep.of_wr W130).1
  have F130 := Fld.same W130 f128
  have go130 : Goes p e below s₁ (G_rm13 m a1 a2 a3 a4 a5 p6 a7) T130 (mkF m 31 #[.val (.ref a1), .val (.ref a2), .val (.ref a3), .val (.ref a4), .val (.ref a5), .val (.int p6), .val (.ref a7)] []) := fun tq kq => go129 tq (st130 _ kq)
  have f131 := (Fld.other W130 (Fld.other W127 (Fld.other W124 (Fld.other W121 (Fld.other W118 F_parentId (Or.inr (slot_ne (Or.inr (tw85 hw)) (Or.inr (tw75 hw)) (by decide) (t := (.object "java/lang/String")) (t' := (.object "java/lang/String")) (by decide) (by decide)))) (Or.inr (slot_ne (Or.inr (tw85 hw)) (Or.inr (tw77 hw)) (by decide) (t := (.object "java/lang/String")) (t' := (.object "java/lang/String")) (by decide) (by decide)))) (Or.inr (slot_ne (Or.inr (tw85 hw)) (Or.inr (tw79 hw)) (by decide) (t := (.object "java/lang/String")) (t' := (.object "com/example/rightful_keys/rightfulkeys/store/Account")) (by decide) (by decide)))) (Or.inr (slot_ne (Or.inr (tw85 hw)) (Or.inr (tw81 hw)) (by decide) (t := (.object "java/lang/String")) (t' := (.object "java/lang/String")) (by decide) (by decide)))) (Or.inr (slot_ne (Or.inr (tw85 hw)) (Or.inr (tw83 hw)) (by decide) (t := (.object "java/lang/String")) (t' := .boolean) (by decide) (by decide))))
  have f132 := (Exa.wr W130 (Exa.wr W127 (Exa.wr W124 (Exa.wr W121 (Exa.wr W118 Ex)))))
  have go133 : Goes p e below s₁ (G_rm13 m a1 a2 a3 a4 a5 p6 a7) T130 (mkF m 34 #[.val (.ref a1), .val (.ref a2), .val (.ref a3), .val (.ref a4), .val (.ref a5), .val (.int p6), .val (.ref a7)] [(.ref a7), (.ref a1)]) := fun tq kq => go130 tq (by
    show Steps p.tables e below (T130.setTop (mkF m 31 #[.val (.ref a1), .val (.ref a2), .val (.ref a3), .val (.ref a4), .val (.ref a5), .val (.int p6), .val (.ref a7)] [])) _
    refine XS.aloadN X130.here hx rfl (hb hby d14_31) rfl rfl ?_
    show Steps p.tables e below (T130.setTop (mkF m 32 #[.val (.ref a1), .val (.ref a2), .val (.ref a3), .val (.ref a4), .val (.ref a5), .val (.int p6), .val (.ref a7)] [(.ref a1)])) _
    refine XS.aload X130.here hx rfl (hb hby d14_32) rfl rfl ?_
    exact kq)
  obtain ⟨T134, h134, X134, e134, W134, st134⟩ := putF X130 hx hZ hown (host := "") (Or.inl (tw84 hw)) Via.refl e130 f131 f132 (Or.inr ⟨(tw85 hw), rfl, hnm⟩) (tw68 hw) (ty := (.object "java/lang/String")) (by decide) rfl rfl (g := (mkF m 34 #[.val (.ref a1), .val (.ref a2), .val (.ref a3), .val (.ref a4), .val (.ref a5), .val (.int p6), .val (.ref a7)] [(.ref a7), (.ref a1)])) rfl rfl (hb hby d14_34)
  have N134 := Fr.snoc X134 N130 g_a1
  have KP134 : Keep h0 h134 [a1] := KP130.wr W134 (Or.inl (List.mem_of_getElem? (i := 0) rfl))
  have ZS134 : n0 ≤ h134.size := Nat.le_trans ZS130 (Keep.of_wr W134).1
  have F134 := Fld.same W134 f131
  have go134 : Goes p e below s₁ (G_rm13 m a1 a2 a3 a4 a5 p6 a7) T134 (mkF m 37 #[.val (.ref a1), .val (.ref a2), .val (.ref a3), .val (.ref a4), .val (.ref a5), .val (.int p6), .val (.ref a7)] []) := fun tq kq => go133 tq (st134 _ kq)
  have f135 := (Fld.other W134 (Fld.other W130 (Fld.other W127 F124 (Or.inr (slot_ne (Or.inr (tw79 hw)) (Or.inr (tw81 hw)) (by decide) (t := (.object "com/example/rightful_keys/rightfulkeys/store/Account")) (t' := (.object "java/lang/String")) (by decide) (by decide)))) (Or.inr (slot_ne (Or.inr (tw79 hw)) (Or.inr (tw83 hw)) (by decide) (t := (.object "com/example/rightful_keys/rightfulkeys/store/Account")) (t' := .boolean) (by decide) (by decide)))) (Or.inr (slot_ne (Or.inr (tw79 hw)) (Or.inr (tw85 hw)) (by decide) (t := (.object "com/example/rightful_keys/rightfulkeys/store/Account")) (t' := (.object "java/lang/String")) (by decide) (by decide))))
  obtain ⟨fs, hr, hrun, hended, hW, hsame⟩ := X134.leave (v := none) (fun _ => rfl)
  refine ⟨_, _, go134 _ ?_, hrun, hended, _, _, rfl, ?_, ⟨_, rfl⟩, hW, hsame.mono (by decide) (by decide)⟩
  · exact X134.returnOut hx Bd.returns (hb hby d14_37) hr
  · show Q_rm13 Z a1 a2 a3 a4 a5 p6 a7 h0 n0 _ T134.heap _
    rw [e134]
    exact ⟨rfl, N134, KP134, (Exa.wr W134 f132), f135, F134⟩
abbrev G_rmId (m : MethodId) (a1 : Addr) : JFrame := (entryFrame m #[(.ref a1)] 1)
theorem d16_0 : decode prog_50_method_5_code 0 = .ok (.aload_n 0, 1) := by decide +kernel
theorem d16_1 : decode prog_50_method_5_code 1 = .ok (.getfield 7, 3) := by decide +kernel
theorem d16_4 : decode prog_50_method_5_code 4 = .ok (.areturn, 1) := by decide +kernel
def Q_rmId (Z : State) (a1 : Addr) (xx : Addr) (h0 : Heap) (n0 : Nat) (v : Option Value) (h : Heap) (L : List Loc) : Prop := v = some (.ref xx) ∧ Fr n0 L ∧ h = h0
set_option maxRecDepth 65536 in
set_option maxHeartbeats 40000000 in
theorem rmId (l : Launch) (Z : State) (a0 : Array Value) (hw : ∀ d ∈ tables_1, d.before a0 Z = true) (ws : List Jvm.Cond) (a1 : Addr) (xx : Addr) (h0 : Heap) (n0 : Nat) (Z0 : n0 ≤ h0.size) (F : Fld Z h0 a1 "com/example/rightful_keys/rightfulkeys/store/Account" "id" "Ljava/lang/String;" (.ref xx)) :
    MetFree l (⟨"com/example/rightful_keys/rightfulkeys/store/Account", "id", "()Ljava/lang/String;"⟩ : MethodName) (head1 (Jvm.Cond.code (⟨"com/example/rightful_keys/rightfulkeys/store/Account", "id", "()Ljava/lang/String;"⟩ : MethodName) prog_50_method_5_code 1 (some (.object "java/lang/String")) :: ws) ({ frames := 0, cells := 0, slots := 0, locals := 0 } : Room)) (fun a U => a = #[(.ref a1)] ∧ Z.Warmed39 U.vm ∧ U.heap = h0) (fun _ _ _ _ _ => True) (fun _ U o U' => ∃ v L, o = .returned v ∧ Q_rmId Z a1 xx h0 n0 v U'.heap L ∧ FrameEnd U o U' L ({ frames := 0, cells := 0, slots := 0, locals := 0 } : Room).cells ({ frames := 0, cells := 0, slots := 0, locals := 0 } : Room).slots) := by
  refine MetFree.of_bodySF (plainFor_of_name pn_com_example_rightful_keys_rightfulkeys_store_Account) hisR ?_
  intro p e s m args below meth c s₁ Bd hml0 hP hK
  obtain ⟨rfl, hZ, hh⟩ := hP
  have hx := Bd.exec
  have hby := Bd.bytes
  have hml : c.maxLocals = 1 := hml0
  have hown : s.vm.findClass "com/example/rightful_keys/rightfulkeys/store/Account" = some m.cls := findClass_of_methodNamed Bd.named
  have hnm := (name_of_methodNamed Bd.named Bd.method).1
  have X0 : Stand p l e ({ frames := 0, cells := 0, slots := 0, locals := 0 } : Room) s m #[(.ref a1)] below meth c s₁ [] 0 0 := Stand.of_body Bd
  have e0 : s₁.heap = h0 := by rw [← hh, Bd.state]; rfl
  have N0 := Fr.nil n0
  have go0 : Goes p e below s₁ (G_rmId m a1) s₁ (mkF m 0 #[.val (.ref a1)] []) := fun tq kq => castTop (by first | (simp [entryFrame, mkF, argsToLocals, Value.category, G_rmId]; done) | rfl) kq
  have go136 : Goes p e below s₁ (G_rmId m a1) s₁ (mkF m 1 #[.val (.ref a1)] [(.ref a1)]) := fun tq kq => go0 tq (by
    show Steps p.tables e below (s₁.setTop (mkF m 0 #[.val (.ref a1)] [])) _
    refine XS.aloadN X0.here hx rfl (hb hby d16_0) rfl rfl ?_
    exact kq)
  obtain ⟨T137, X137, e137, st137⟩ := getF X0 hx hZ hown (host := "") (Or.inl (tw63 hw)) Via.refl e0 F (g := (mkF m 1 #[.val (.ref a1)] [(.ref a1)])) rfl rfl (hb hby d16_1)
  have go137 : Goes p e below s₁ (G_rmId m a1) T137 (mkF m 4 #[.val (.ref a1)] [(.ref xx)]) := fun tq kq => go136 tq (st137 _ kq)
  obtain ⟨fs, hr, hrun, hended, hW, hsame⟩ := X137.leave (v := some (.ref xx)) (fun h => by rw [Bd.returns] at h; cases h)
  refine ⟨_, _, go137 _ ?_, hrun, hended, _, _, rfl, ?_, ⟨_, rfl⟩, hW, hsame.mono (by decide) (by decide)⟩
  · jvm_step X137.here [X137.here.top, hx, (hb hby d16_4), X137.method', Bd.returns, Value.isRef, FieldType.isReference]
    first | (intro acts; rw [hr _ acts rfl rfl rfl]) | rw [hr _ _ rfl rfl rfl]
    exact Steps.refl _
  · show Q_rmId Z a1 xx h0 n0 _ T137.heap _
    rw [e137]
    exact ⟨rfl, N0, rfl⟩
abbrev G_rmDf (m : MethodId) (a1 : Addr) : JFrame := (entryFrame m #[(.ref a1)] 1)
theorem d15_0 : decode prog_63_method_2_code 0 = .ok (.aload_n 0, 1) := by decide +kernel
theorem d15_1 : decode prog_63_method_2_code 1 = .ok (.getfield 27, 3) := by decide +kernel
theorem d15_4 : decode prog_63_method_2_code 4 = .ok (.aload_n 0, 1) := by decide +kernel
theorem d15_5 : decode prog_63_method_2_code 5 = .ok (.getfield 16, 3) := by decide +kernel
theorem d15_8 : decode prog_63_method_2_code 8 = .ok (.invokevirtual 30, 3) := by decide +kernel
theorem pd_6 : parseMethodDescriptor "()Ljava/lang/String;" = some ⟨[], some (.object "java/lang/String")⟩ := by decide +kernel
theorem d15_11 : decode prog_63_method_2_code 11 = .ok (.invokevirtual 35, 3) := by decide +kernel
theorem pd_7 : parseMethodDescriptor "(Ljava/lang/Object;)Z" = some ⟨[(.object "java/lang/Object")], some .boolean⟩ := by decide +kernel
theorem d15_14 : decode prog_63_method_2_code 14 = .ok (.ireturn, 1) := by decide +kernel
def Q_rmDf (Z : State) (a1 : Addr) (yy ac xx ty tx : Addr) (ky kx : ClassId) (Ny Nx cz : Int32) (vy vx : List Value) (ds cs : List Int32) (h0 : Heap) (n0 : Nat) (v : Option Value) (h : Heap) (L : List Loc) : Prop := ∃ r : Int32, ((r = 1 ∧ ds = cs) ∨ (r = 0 ∧ ¬ ds = cs)) ∧ v = some (.int r) ∧ Fr n0 L ∧ h = h0
set_option maxRecDepth 65536 in
set_option maxHeartbeats 40000000 in
theorem rmDf (l : Launch) (Z : State) (a0 : Array Value) (hw : ∀ d ∈ tables_1, d.before a0 Z = true) (ws : List Jvm.Cond) (a1 : Addr) (yy ac xx ty tx : Addr) (ky kx : ClassId) (Ny Nx cz : Int32) (vy vx : List Value) (ds cs : List Int32) (h0 : Heap) (n0 : Nat) (Z0 : n0 ≤ h0.size) (Fp : Fld Z h0 a1 "com/example/rightful_keys/rightfulkeys/store/Project" "parentId" "Ljava/lang/String;" (.ref yy)) (Fa : Fld Z h0 a1 "com/example/rightful_keys/rightfulkeys/store/Project" "account" "Lcom/example/rightful_keys/rightfulkeys/store/Account;" (.ref ac)) (Ea : Exa Z h0 ac "com/example/rightful_keys/rightfulkeys/store/Account") (Fi : Fld Z h0 ac "com/example/rightful_keys/rightfulkeys/store/Account" "id" "Ljava/lang/String;" (.ref xx)) (SC : Sta Z h0 "java/lang/String" "COMPACT_STRINGS" "Z" (.int cz)) (hz : ¬ (cz = (0 : Int32))) (eye : Exa Z h0 yy "java/lang/String") (eyc : Fld Z h0 yy "java/lang/String" "coder" "B" (.int 0)) (eyv : Fld Z h0 yy "java/lang/String" "value" "[B" (.ref ty)) (eya : Arv Z h0 ty ky .byte Ny vy (.int 0)) (eyd : StrChars.Road.CodA ds 0 Ny vy) (eyb : ∀ z ∈ ds, ¬ z < 0 ∧ ¬ (65535 : Int32) < z) (eyl : ds.length ≤ 4000) (exe : Exa Z h0 xx "java/lang/String") (exc : Fld Z h0 xx "java/lang/String" "coder" "B" (.int 0)) (exv : Fld Z h0 xx "java/lang/String" "value" "[B" (.ref tx)) (exa_ : Arv Z h0 tx kx .byte Nx vx (.int 0)) (exd : StrChars.Road.CodA cs 0 Nx vx) (exb : ∀ z ∈ cs, ¬ z < 0 ∧ ¬ (65535 : Int32) < z) (exl : cs.length ≤ 4000) :
    MetFree l (⟨"com/example/rightful_keys/rightfulkeys/store/Project", "isDefault", "()Z"⟩ : MethodName) (head1 (Jvm.Cond.code (⟨"com/example/rightful_keys/rightfulkeys/store/Project", "isDefault", "()Z"⟩ : MethodName) prog_63_method_2_code 1 (some .boolean) :: ws) ({ frames := 2, cells := 0, slots := 0, locals := 28 } : Room)) (fun a U => a = #[(.ref a1)] ∧ Z.Warmed39 U.vm ∧ U.heap = h0) (fun _ _ _ _ _ => True) (fun _ U o U' => ∃ v L, o = .returned v ∧ Q_rmDf Z a1 yy ac xx ty tx ky kx Ny Nx cz vy vx ds cs h0 n0 v U'.heap L ∧ FrameEnd U o U' L ({ frames := 2, cells := 0, slots := 0, locals := 28 } : Room).cells ({ frames := 2, cells := 0, slots := 0, locals := 28 } : Room).slots) := by
  refine MetFree.of_bodySF (plainFor_of_name pn_com_example_rightful_keys_rightfulkeys_store_Project) hisR ?_
  intro p e s m args below meth c s₁ Bd hml0 hP hK
  obtain ⟨rfl, hZ, hh⟩ := hP
  have hx := Bd.exec
  have hby := Bd.bytes
  have hml : c.maxLocals = 1 := hml0
  have hown : s.vm.findClass "com/example/rightful_keys/rightfulkeys/store/Project" = some m.cls := findClass_of_methodNamed Bd.named
  have hnm := (name_of_methodNamed Bd.named Bd.method).1
  have X0 : Stand p l e ({ frames := 2, cells := 0, slots := 0, locals := 28 } : Room) s m #[(.ref a1)] below meth c s₁ [] 0 0 := Stand.of_body Bd
  have e0 : s₁.heap = h0 := by rw [← hh, Bd.state]; rfl
  have N0 := Fr.nil n0
  have go0 : Goes p e below s₁ (G_rmDf m a1) s₁ (mkF m 0 #[.val (.ref a1)] []) := fun tq kq => castTop (by first | (simp [entryFrame, mkF, argsToLocals, Value.category, G_rmDf]; done) | rfl) kq
  have hws : ∀ d ∈ StrChars.Road.wordsEq, d.before a0 Z = true := fun d hd => hw d ((by decide +kernel : ∀ d ∈ StrChars.Road.wordsEq, d ∈ tables_1) d hd)
  have go138 : Goes p e below s₁ (G_rmDf m a1) s₁ (mkF m 1 #[.val (.ref a1)] [(.ref a1)]) := fun tq kq => go0 tq (by
    show Steps p.tables e below (s₁.setTop (mkF m 0 #[.val (.ref a1)] [])) _
    refine XS.aloadN X0.here hx rfl (hb hby d15_0) rfl rfl ?_
    exact kq)
  obtain ⟨T139, X139, e139, st139⟩ := getF X0 hx hZ hown (host := "") (Or.inl (tw84 hw)) Via.refl e0 Fp (g := (mkF m 1 #[.val (.ref a1)] [(.ref a1)])) rfl rfl (hb hby d15_1)
  have go139 : Goes p e below s₁ (G_rmDf m a1) T139 (mkF m 4 #[.val (.ref a1)] [(.ref yy)]) := fun tq kq => go138 tq (st139 _ kq)
  have go140 : Goes p e below s₁ (G_rmDf m a1) T139 (mkF m 5 #[.val (.ref a1)] [(.ref a1), (.ref yy)]) := fun tq kq => go139 tq (by
    show Steps p.tables e below (T139.setTop (mkF m 4 #[.val (.ref a1)] [(.ref yy)])) _
    refine XS.aloadN X139.here hx rfl (hb hby d15_4) rfl rfl ?_
    exact kq)
  obtain ⟨T141, X141, e141, st141⟩ := getF X139 hx hZ hown (host := "") (Or.inl (tw78 hw)) Via.refl e139 Fa (g := (mkF m 5 #[.val (.ref a1)] [(.ref a1), (.ref yy)])) rfl rfl (hb hby d15_5)
  have go141 : Goes p e below s₁ (G_rmDf m a1) T141 (mkF m 8 #[.val (.ref a1)] [(.ref ac), (.ref yy)]) := fun tq kq => go140 tq (st141 _ kq)
  obtain ⟨cq142, kq142, q142a, q142b, q142c⟩ := isOf hZ e141 Ea
  obtain ⟨vv142, _, ⟨T142, L142, k142, n142⟩, -, X142, ⟨Lc142, hQ142, l142, y142, z142⟩, st142⟩ := X141.virtualBack hx (y := (⟨"com/example/rightful_keys/rightfulkeys/store/Account", "id", "()Ljava/lang/String;"⟩ : MethodName)) (z := (⟨"com/example/rightful_keys/rightfulkeys/store/Account", "id", "()Ljava/lang/String;"⟩ : MethodName)) hown (mvT hZ (tw91 hw)) (mvT hZ (tw92 hw)) (notFace_of_selects (args := #[]) (mvT hZ (tw94 hw))) (mvT hZ (tw94 hw)) (mvT hZ (tw93 hw)) (by decide) (backOf (W := 1) (rmId l Z a0 hw [] ac xx h0 n0 Z0 Fi) hZ (tw95 hw) (tw53 hw) (by decide) (by decide)) q142a q142c (g := (mkF m 8 #[.val (.ref a1)] [(.ref ac), (.ref yy)])) rfl (by rw [hml]; rfl) (Steps.refl _) (argsL := []) (rest := [(.ref yy)]) (lenOf pd_6 rfl) rfl (by show 2 * 0 + _ ≤ _; exact Nat.le_of_eq rfl) (hb hby d15_8) (fun _ _ => ⟨rfl, e141, (by decide : 0 + 0 ≤ _), (by decide : 0 + 0 ≤ _)⟩)
  dsimp only [Pt.U, Pt.locs, Pt.cells, Pt.slots] at X142 l142 y142 z142 st142 hQ142
  subst l142 y142 z142
  obtain ⟨rfl, Nq142, eq142⟩ := hQ142
  have N142 := Fr.app N0 Nq142
  have go142 : Goes p e below s₁ (G_rmDf m a1) T142 (mkF m 11 #[.val (.ref a1)] [(.ref xx), (.ref yy)]) := fun tq kq => go141 tq (st142.trans kq)
  obtain ⟨cq143, kq143, q143a, q143b, q143c⟩ := isOf hZ eq142 eye
  obtain ⟨vv143, _, ⟨T143, L143, k143, n143⟩, -, X143, ⟨Lc143, hQ143, l143, y143, z143⟩, st143⟩ := X142.virtualBack hx (y := (⟨"java/lang/String", "equals", "(Ljava/lang/Object;)Z"⟩ : MethodName)) (z := (⟨"java/lang/String", "equals", "(Ljava/lang/Object;)Z"⟩ : MethodName)) hown (mvT hZ (tw96 hw)) (mvT hZ (tw97 hw)) (notFace_of_selects (args := #[]) (mvT hZ (tw99 hw))) (mvT hZ (tw99 hw)) (mvT hZ (tw98 hw)) (by decide) (StrChars.Road.eqW (W := 0) hZ hws (kI := 4) (tw5 hw) eye eyv eyc eya eyd eyb eyl exe exv exc exa_ exd exb exl SC hz (by decide) (by decide)) q143a q143c (g := (mkF m 11 #[.val (.ref a1)] [(.ref xx), (.ref yy)])) rfl (by rw [hml]; rfl) (Steps.refl _) (argsL := [(.ref xx)]) (rest := []) (lenOf pd_7 rfl) rfl (by show 2 * 0 + _ ≤ _; exact Nat.le_of_eq rfl) (hb hby d15_11) (fun _ _ => ⟨rfl, eq142, (by decide : 0 + 0 ≤ _), (by decide : 0 + 0 ≤ _)⟩)
  dsimp only [Pt.U, Pt.locs, Pt.cells, Pt.slots] at X143 l143 y143 z143 st143 hQ143
  subst l143 y143 z143
  obtain ⟨hv143, hl143, eq143⟩ := hQ143
  obtain ⟨rr, hrr, rfl⟩ := own_eqv hv143
  have Nq143 : Fr n0 Lc143 := by rw [hl143]; exact Fr.nil n0
  have N143 := Fr.app N142 Nq143
  have go143 : Goes p e below s₁ (G_rmDf m a1) T143 (mkF m 14 #[.val (.ref a1)] [(.int rr)]) := fun tq kq => go142 tq (st143.trans kq)
  obtain ⟨fs, hr, hrun, hended, hW, hsame⟩ := X143.leave (v := some (.int (nar .boolean rr))) (fun h => by rw [Bd.returns] at h; cases h)
  refine ⟨_, _, go143 _ ?_, hrun, hended, _, _, rfl, ?_, ⟨_, rfl⟩, hW, hsame.mono (by decide) (by decide)⟩
  · exact retN X143 hx (t := .boolean) Bd.returns (by simp) (hb hby d15_14) hr
  · show Q_rmDf Z a1 yy ac xx ty tx ky kx Ny Nx cz vy vx ds cs h0 n0 _ T143.heap _
    rw [eq143]
    exact ⟨rr, hrr, congrArg (fun z => some (Value.int z)) (own_narb hrr), N143, rfl⟩
abbrev G_rm0 (m : MethodId) (p1 : Int32) (p2 : Int32) (p3 : Int32) : JFrame := (entryFrame m #[(.int p1), (.int p2), (.int p3)] maxLocals)
theorem pd_8 : parseMethodDescriptor "(ICCC)Ljava/lang/String;" = some ⟨[.int, .char, .char, .char], some (.object "java/lang/String")⟩ := by decide +kernel
theorem pd_9 : parseMethodDescriptor "(C)Ljava/lang/String;" = some ⟨[.char], some (.object "java/lang/String")⟩ := by decide +kernel
theorem pd_10 : parseMethodDescriptor "(Ljava/lang/String;Ljava/lang/String;)V" = some ⟨[(.object "java/lang/String"), (.object "java/lang/String")], none⟩ := by decide +kernel
theorem pd_11 : parseMethodDescriptor "(Ljava/lang/String;Ljava/lang/String;Lcom/example/rightful_keys/rightfulkeys/store/Account;Ljava/lang/String;ZLjava/lang/String;)V" = some ⟨[(.object "java/lang/String"), (.object "java/lang/String"), (.object "com/example/rightful_keys/rightfulkeys/store/Account"), (.object "java/lang/String"), .boolean, (.object "java/lang/String")], none⟩ := by decide +kernel
theorem pd_12 : parseMethodDescriptor "()Z" = some ⟨[], some .boolean⟩ := by decide +kernel
def Q_rm0 (Z : State) (p1 : Int32) (p2 : Int32) (p3 : Int32) (cz : Int32) (h0 : Heap) (n0 : Nat) (v : Option Value) (h : Heap) (L : List Loc) : Prop := v = some (.int (1 : Int32)) ∧ Fr n0 L
set_option maxRecDepth 65536 in
set_option maxHeartbeats 40000000 in
theorem rm0 (l : Launch) (Z : State) (a0 : Array Value) (hw : ∀ d ∈ tables_1, d.before a0 Z = true) (ws : List Jvm.Cond) (p1 : Int32) (p2 : Int32) (p3 : Int32) (cz : Int32) (h0 : Heap) (n0 : Nat) (Z0 : n0 ≤ h0.size) (O0 : Old Z n0 h0) (hcw : Jvm.Lit.compactW.before a0 Z = true) (hld : Jvm.Lit.constHeld Z "java/lang/String" 7) (hz : ¬ (cz = (0 : Int32))) (SC : Sta Z Z.heap "java/lang/String" "COMPACT_STRINGS" "Z" (.int cz)) :
    MetFree l x (head1 (Jvm.Cond.code x code maxLocals ret :: ws) room_1) (fun a U => a = #[(.int p1), (.int p2), (.int p3)] ∧ Z.Warmed39 U.vm ∧ U.heap = h0 ∧ IB Z U.vm []) (fun _ _ _ _ _ => True) (fun _ U o U' => ∃ v L, o = .returned v ∧ Q_rm0 Z p1 p2 p3 cz h0 n0 v U'.heap L ∧ ReturnedEndW U o U' L room_1.cells room_1.slots) := by
  refine MetFree.of_bodySF (plainFor_of_name pn_com_example_rightful_keys_rightfulkeys_store_ProjectIsDefaultPinLaw) hisR ?_
  intro p e s m args below meth c s₁ Bd hml0 hP hK
  obtain ⟨rfl, hZ, hh, hIB⟩ := hP
  have hx := Bd.exec
  have hby := Bd.bytes
  have hml : c.maxLocals = 22 := hml0
  have hown : s.vm.findClass "com/example/rightful_keys/rightfulkeys/store/ProjectIsDefaultPinLaw" = some m.cls := findClass_of_methodNamed Bd.named
  have hnm := (name_of_methodNamed Bd.named Bd.method).1
  have X0 : Stand p l e room_1 s m #[(.int p1), (.int p2), (.int p3)] below meth c s₁ [] 0 0 := Stand.of_body Bd
  have e0 : s₁.heap = h0 := by rw [← hh, Bd.state]; rfl
  have N0 := Fr.nil n0
  have wS : ∀ a ∈ Bundle.stringAtoms, a.before a0 Z = true := fun d hd => hw d ((by decide +kernel : ∀ d ∈ Bundle.stringAtoms, d ∈ tables_1) d hd)
  have hkeep : ∀ (b : Addr) (cl : Cell), Z.heap[b]? = some cl → s.heap[b]? = some cl := fun b cl q => by rw [hh]; exact O0.2.2 b cl q
  have go0 : Goes p e below s₁ (G_rm0 m p1 p2 p3) s₁ (mkF m 0 #[.val (.int p1), .val (.int p2), .val (.int p3), .unset, .unset, .unset, .unset, .unset, .unset, .unset, .unset, .unset, .unset, .unset, .unset, .unset, .unset, .unset, .unset, .unset, .unset, .unset] []) := fun tq kq => castTop (by first | (simp [entryFrame, mkF, argsToLocals, Value.category, G_rm0, maxLocals]; done) | rfl) kq
  have hJ : JJ Z h0 s.vm := Or.inl hIB
  have go144 : Goes p e below s₁ (G_rm0 m p1 p2 p3) s₁ (mkF m 16 #[.val (.int p1), .val (.int p2), .val (.int p3), .val (.int (p3 &&& (3 : Int32))), .val (.int (((p3.toUInt32 >>> ((2 : Int32) &&& 31).toUInt32).toInt32) &&& (3 : Int32))), .unset, .unset, .unset, .unset, .unset, .unset, .unset, .unset, .unset, .unset, .unset, .unset, .unset, .unset, .unset, .unset, .unset] [(.int (((p3.toUInt32 >>> ((4 : Int32) &&& 31).toUInt32).toInt32) &&& (1 : Int32)))]) := fun tq kq => go0 tq (by
    show Steps p.tables e below (s₁.setTop (mkF m 0 #[.val (.int p1), .val (.int p2), .val (.int p3), .unset, .unset, .unset, .unset, .unset, .unset, .unset, .unset, .unset, .unset, .unset, .unset, .unset, .unset, .unset, .unset, .unset, .unset, .unset] [])) _
    refine XS.iloadN X0.here hx rfl (hb hby at_0) rfl ?_
    show Steps p.tables e below (s₁.setTop (mkF m 1 #[.val (.int p1), .val (.int p2), .val (.int p3), .unset, .unset, .unset, .unset, .unset, .unset, .unset, .unset, .unset, .unset, .unset, .unset, .unset, .unset, .unset, .unset, .unset, .unset, .unset] [(.int p3)])) _
    refine XS.iconst X0.here hx rfl (hb hby at_1) ?_
    show Steps p.tables e below (s₁.setTop (mkF m 2 #[.val (.int p1), .val (.int p2), .val (.int p3), .unset, .unset, .unset, .unset, .unset, .unset, .unset, .unset, .unset, .unset, .unset, .unset, .unset, .unset, .unset, .unset, .unset, .unset, .unset] [(.int (3 : Int32)), (.int p3)])) _
    refine XS.iand X0.here hx rfl (hb hby at_2) rfl ?_
    show Steps p.tables e below (s₁.setTop (mkF m 3 #[.val (.int p1), .val (.int p2), .val (.int p3), .unset, .unset, .unset, .unset, .unset, .unset, .unset, .unset, .unset, .unset, .unset, .unset, .unset, .unset, .unset, .unset, .unset, .unset, .unset] [(.int (p3 &&& (3 : Int32)))])) _
    refine XS.istoreN X0.here hx rfl (hb hby at_3) rfl (l' := #[.val (.int p1), .val (.int p2), .val (.int p3), .val (.int (p3 &&& (3 : Int32))), .unset, .unset, .unset, .unset, .unset, .unset, .unset, .unset, .unset, .unset, .unset, .unset, .unset, .unset, .unset, .unset, .unset, .unset]) rfl ?_
    show Steps p.tables e below (s₁.setTop (mkF m 4 #[.val (.int p1), .val (.int p2), .val (.int p3), .val (.int (p3 &&& (3 : Int32))), .unset, .unset, .unset, .unset, .unset, .unset, .unset, .unset, .unset, .unset, .unset, .unset, .unset, .unset, .unset, .unset, .unset, .unset] [])) _
    refine XS.iloadN X0.here hx rfl (hb hby at_4) rfl ?_
    show Steps p.tables e below (s₁.setTop (mkF m 5 #[.val (.int p1), .val (.int p2), .val (.int p3), .val (.int (p3 &&& (3 : Int32))), .unset, .unset, .unset, .unset, .unset, .unset, .unset, .unset, .unset, .unset, .unset, .unset, .unset, .unset, .unset, .unset, .unset, .unset] [(.int p3)])) _
    refine XS.iconst X0.here hx rfl (hb hby at_5) ?_
    show Steps p.tables e below (s₁.setTop (mkF m 6 #[.val (.int p1), .val (.int p2), .val (.int p3), .val (.int (p3 &&& (3 : Int32))), .unset, .unset, .unset, .unset, .unset, .unset, .unset, .unset, .unset, .unset, .unset, .unset, .unset, .unset, .unset, .unset, .unset, .unset] [(.int (2 : Int32)), (.int p3)])) _
    refine XS.iushr X0.here hx rfl (hb hby at_6) rfl ?_
    show Steps p.tables e below (s₁.setTop (mkF m 7 #[.val (.int p1), .val (.int p2), .val (.int p3), .val (.int (p3 &&& (3 : Int32))), .unset, .unset, .unset, .unset, .unset, .unset, .unset, .unset, .unset, .unset, .unset, .unset, .unset, .unset, .unset, .unset, .unset, .unset] [(.int ((p3.toUInt32 >>> ((2 : Int32) &&& 31).toUInt32).toInt32))])) _
    refine XS.iconst X0.here hx rfl (hb hby at_7) ?_
    show Steps p.tables e below (s₁.setTop (mkF m 8 #[.val (.int p1), .val (.int p2), .val (.int p3), .val (.int (p3 &&& (3 : Int32))), .unset, .unset, .unset, .unset, .unset, .unset, .unset, .unset, .unset, .unset, .unset, .unset, .unset, .unset, .unset, .unset, .unset, .unset] [(.int (3 : Int32)), (.int ((p3.toUInt32 >>> ((2 : Int32) &&& 31).toUInt32).toInt32))])) _
    refine XS.iand X0.here hx rfl (hb hby at_8) rfl ?_
    show Steps p.tables e below (s₁.setTop (mkF m 9 #[.val (.int p1), .val (.int p2), .val (.int p3), .val (.int (p3 &&& (3 : Int32))), .unset, .unset, .unset, .unset, .unset, .unset, .unset, .unset, .unset, .unset, .unset, .unset, .unset, .unset, .unset, .unset, .unset, .unset] [(.int (((p3.toUInt32 >>> ((2 : Int32) &&& 31).toUInt32).toInt32) &&& (3 : Int32)))])) _
    refine XS.istore X0.here hx rfl (hb hby at_9) rfl (l' := #[.val (.int p1), .val (.int p2), .val (.int p3), .val (.int (p3 &&& (3 : Int32))), .val (.int (((p3.toUInt32 >>> ((2 : Int32) &&& 31).toUInt32).toInt32) &&& (3 : Int32))), .unset, .unset, .unset, .unset, .unset, .unset, .unset, .unset, .unset, .unset, .unset, .unset, .unset, .unset, .unset, .unset, .unset]) rfl ?_
    show Steps p.tables e below (s₁.setTop (mkF m 11 #[.val (.int p1), .val (.int p2), .val (.int p3), .val (.int (p3 &&& (3 : Int32))), .val (.int (((p3.toUInt32 >>> ((2 : Int32) &&& 31).toUInt32).toInt32) &&& (3 : Int32))), .unset, .unset, .unset, .unset, .unset, .unset, .unset, .unset, .unset, .unset, .unset, .unset, .unset, .unset, .unset, .unset, .unset] [])) _
    refine XS.iloadN X0.here hx rfl (hb hby at_11) rfl ?_
    show Steps p.tables e below (s₁.setTop (mkF m 12 #[.val (.int p1), .val (.int p2), .val (.int p3), .val (.int (p3 &&& (3 : Int32))), .val (.int (((p3.toUInt32 >>> ((2 : Int32) &&& 31).toUInt32).toInt32) &&& (3 : Int32))), .unset, .unset, .unset, .unset, .unset, .unset, .unset, .unset, .unset, .unset, .unset, .unset, .unset, .unset, .unset, .unset, .unset] [(.int p3)])) _
    refine XS.iconst X0.here hx rfl (hb hby at_12) ?_
    show Steps p.tables e below (s₁.setTop (mkF m 13 #[.val (.int p1), .val (.int p2), .val (.int p3), .val (.int (p3 &&& (3 : Int32))), .val (.int (((p3.toUInt32 >>> ((2 : Int32) &&& 31).toUInt32).toInt32) &&& (3 : Int32))), .unset, .unset, .unset, .unset, .unset, .unset, .unset, .unset, .unset, .unset, .unset, .unset, .unset, .unset, .unset, .unset, .unset] [(.int (4 : Int32)), (.int p3)])) _
    refine XS.iushr X0.here hx rfl (hb hby at_13) rfl ?_
    show Steps p.tables e below (s₁.setTop (mkF m 14 #[.val (.int p1), .val (.int p2), .val (.int p3), .val (.int (p3 &&& (3 : Int32))), .val (.int (((p3.toUInt32 >>> ((2 : Int32) &&& 31).toUInt32).toInt32) &&& (3 : Int32))), .unset, .unset, .unset, .unset, .unset, .unset, .unset, .unset, .unset, .unset, .unset, .unset, .unset, .unset, .unset, .unset, .unset] [(.int ((p3.toUInt32 >>> ((4 : Int32) &&& 31).toUInt32).toInt32))])) _
    refine XS.iconst X0.here hx rfl (hb hby at_14) ?_
    show Steps p.tables e below (s₁.setTop (mkF m 15 #[.val (.int p1), .val (.int p2), .val (.int p3), .val (.int (p3 &&& (3 : Int32))), .val (.int (((p3.toUInt32 >>> ((2 : Int32) &&& 31).toUInt32).toInt32) &&& (3 : Int32))), .unset, .unset, .unset, .unset, .unset, .unset, .unset, .unset, .unset, .unset, .unset, .unset, .unset, .unset, .unset, .unset, .unset] [(.int (1 : Int32)), (.int ((p3.toUInt32 >>> ((4 : Int32) &&& 31).toUInt32).toInt32))])) _
    refine XS.iand X0.here hx rfl (hb hby at_15) rfl ?_
    exact kq)
  obtain ⟨c5, go148⟩ : ∃ c5 : Int32, Goes p e below s₁ (G_rm0 m p1 p2 p3) s₁ (mkF m 26 #[.val (.int p1), .val (.int p2), .val (.int p3), .val (.int (p3 &&& (3 : Int32))), .val (.int (((p3.toUInt32 >>> ((2 : Int32) &&& 31).toUInt32).toInt32) &&& (3 : Int32))), .val (.int c5), .unset, .unset, .unset, .unset, .unset, .unset, .unset, .unset, .unset, .unset, .unset, .unset, .unset, .unset, .unset, .unset] []) := by
    by_cases hc16_145 : (((p3.toUInt32 >>> ((4 : Int32) &&& 31).toUInt32).toInt32) &&& (1 : Int32)) = (0 : Int32)
    · have go146 : Goes p e below s₁ (G_rm0 m p1 p2 p3) s₁ (mkF m 26 #[.val (.int p1), .val (.int p2), .val (.int p3), .val (.int (p3 &&& (3 : Int32))), .val (.int (((p3.toUInt32 >>> ((2 : Int32) &&& 31).toUInt32).toInt32) &&& (3 : Int32))), .val (.int (0 : Int32)), .unset, .unset, .unset, .unset, .unset, .unset, .unset, .unset, .unset, .unset, .unset, .unset, .unset, .unset, .unset, .unset] []) := fun tq kq => go144 tq (by
        show Steps p.tables e below (s₁.setTop (mkF m 16 #[.val (.int p1), .val (.int p2), .val (.int p3), .val (.int (p3 &&& (3 : Int32))), .val (.int (((p3.toUInt32 >>> ((2 : Int32) &&& 31).toUInt32).toInt32) &&& (3 : Int32))), .unset, .unset, .unset, .unset, .unset, .unset, .unset, .unset, .unset, .unset, .unset, .unset, .unset, .unset, .unset, .unset, .unset] [(.int (((p3.toUInt32 >>> ((4 : Int32) &&& 31).toUInt32).toInt32) &&& (1 : Int32)))])) _
        refine XS.ifYes X0.here hx rfl (pc0 := 16) (pc' := 23) rfl (hb hby at_16) rfl ((if0 _ _).trans (teq hc16_145).1) (by decide) (by decide) ?_
        show Steps p.tables e below (s₁.setTop (mkF m 23 #[.val (.int p1), .val (.int p2), .val (.int p3), .val (.int (p3 &&& (3 : Int32))), .val (.int (((p3.toUInt32 >>> ((2 : Int32) &&& 31).toUInt32).toInt32) &&& (3 : Int32))), .unset, .unset, .unset, .unset, .unset, .unset, .unset, .unset, .unset, .unset, .unset, .unset, .unset, .unset, .unset, .unset, .unset] [])) _
        refine XS.iconst X0.here hx rfl (hb hby at_23) ?_
        show Steps p.tables e below (s₁.setTop (mkF m 24 #[.val (.int p1), .val (.int p2), .val (.int p3), .val (.int (p3 &&& (3 : Int32))), .val (.int (((p3.toUInt32 >>> ((2 : Int32) &&& 31).toUInt32).toInt32) &&& (3 : Int32))), .unset, .unset, .unset, .unset, .unset, .unset, .unset, .unset, .unset, .unset, .unset, .unset, .unset, .unset, .unset, .unset, .unset] [(.int (0 : Int32))])) _
        refine XS.istore X0.here hx rfl (hb hby at_24) rfl (l' := #[.val (.int p1), .val (.int p2), .val (.int p3), .val (.int (p3 &&& (3 : Int32))), .val (.int (((p3.toUInt32 >>> ((2 : Int32) &&& 31).toUInt32).toInt32) &&& (3 : Int32))), .val (.int (0 : Int32)), .unset, .unset, .unset, .unset, .unset, .unset, .unset, .unset, .unset, .unset, .unset, .unset, .unset, .unset, .unset, .unset]) rfl ?_
        exact kq)
      exact ⟨(0 : Int32), go146⟩
    · have go147 : Goes p e below s₁ (G_rm0 m p1 p2 p3) s₁ (mkF m 26 #[.val (.int p1), .val (.int p2), .val (.int p3), .val (.int (p3 &&& (3 : Int32))), .val (.int (((p3.toUInt32 >>> ((2 : Int32) &&& 31).toUInt32).toInt32) &&& (3 : Int32))), .val (.int (1 : Int32)), .unset, .unset, .unset, .unset, .unset, .unset, .unset, .unset, .unset, .unset, .unset, .unset, .unset, .unset, .unset, .unset] []) := fun tq kq => go144 tq (by
        show Steps p.tables e below (s₁.setTop (mkF m 16 #[.val (.int p1), .val (.int p2), .val (.int p3), .val (.int (p3 &&& (3 : Int32))), .val (.int (((p3.toUInt32 >>> ((2 : Int32) &&& 31).toUInt32).toInt32) &&& (3 : Int32))), .unset, .unset, .unset, .unset, .unset, .unset, .unset, .unset, .unset, .unset, .unset, .unset, .unset, .unset, .unset, .unset, .unset] [(.int (((p3.toUInt32 >>> ((4 : Int32) &&& 31).toUInt32).toInt32) &&& (1 : Int32)))])) _
        refine XS.ifNo X0.here hx rfl (hb hby at_16) rfl ((if0 _ _).trans (feq hc16_145).1) ?_
        show Steps p.tables e below (s₁.setTop (mkF m 19 #[.val (.int p1), .val (.int p2), .val (.int p3), .val (.int (p3 &&& (3 : Int32))), .val (.int (((p3.toUInt32 >>> ((2 : Int32) &&& 31).toUInt32).toInt32) &&& (3 : Int32))), .unset, .unset, .unset, .unset, .unset, .unset, .unset, .unset, .unset, .unset, .unset, .unset, .unset, .unset, .unset, .unset, .unset] [])) _
        refine XS.iconst X0.here hx rfl (hb hby at_19) ?_
        show Steps p.tables e below (s₁.setTop (mkF m 20 #[.val (.int p1), .val (.int p2), .val (.int p3), .val (.int (p3 &&& (3 : Int32))), .val (.int (((p3.toUInt32 >>> ((2 : Int32) &&& 31).toUInt32).toInt32) &&& (3 : Int32))), .unset, .unset, .unset, .unset, .unset, .unset, .unset, .unset, .unset, .unset, .unset, .unset, .unset, .unset, .unset, .unset, .unset] [(.int (1 : Int32))])) _
        refine XS.goto X0.here hx rfl (pc0 := 20) (pc' := 24) rfl (hb hby at_20) (by decide) (by decide) ?_
        show Steps p.tables e below (s₁.setTop (mkF m 24 #[.val (.int p1), .val (.int p2), .val (.int p3), .val (.int (p3 &&& (3 : Int32))), .val (.int (((p3.toUInt32 >>> ((2 : Int32) &&& 31).toUInt32).toInt32) &&& (3 : Int32))), .unset, .unset, .unset, .unset, .unset, .unset, .unset, .unset, .unset, .unset, .unset, .unset, .unset, .unset, .unset, .unset, .unset] [(.int (1 : Int32))])) _
        refine XS.istore X0.here hx rfl (hb hby at_24) rfl (l' := #[.val (.int p1), .val (.int p2), .val (.int p3), .val (.int (p3 &&& (3 : Int32))), .val (.int (((p3.toUInt32 >>> ((2 : Int32) &&& 31).toUInt32).toInt32) &&& (3 : Int32))), .val (.int (1 : Int32)), .unset, .unset, .unset, .unset, .unset, .unset, .unset, .unset, .unset, .unset, .unset, .unset, .unset, .unset, .unset, .unset]) rfl ?_
        exact kq)
      exact ⟨(1 : Int32), go147⟩
  have go149 : Goes p e below s₁ (G_rm0 m p1 p2 p3) s₁ (mkF m 31 #[.val (.int p1), .val (.int p2), .val (.int p3), .val (.int (p3 &&& (3 : Int32))), .val (.int (((p3.toUInt32 >>> ((2 : Int32) &&& 31).toUInt32).toInt32) &&& (3 : Int32))), .val (.int c5), .unset, .unset, .unset, .unset, .unset, .unset, .unset, .unset, .unset, .unset, .unset, .unset, .unset, .unset, .unset, .unset] [(.int (((p3.toUInt32 >>> ((5 : Int32) &&& 31).toUInt32).toInt32) &&& (1 : Int32)))]) := fun tq kq => go148 tq (by
    show Steps p.tables e below (s₁.setTop (mkF m 26 #[.val (.int p1), .val (.int p2), .val (.int p3), .val (.int (p3 &&& (3 : Int32))), .val (.int (((p3.toUInt32 >>> ((2 : Int32) &&& 31).toUInt32).toInt32) &&& (3 : Int32))), .val (.int c5), .unset, .unset, .unset, .unset, .unset, .unset, .unset, .unset, .unset, .unset, .unset, .unset, .unset, .unset, .unset, .unset] [])) _
    refine XS.iloadN X0.here hx rfl (hb hby at_26) rfl ?_
    show Steps p.tables e below (s₁.setTop (mkF m 27 #[.val (.int p1), .val (.int p2), .val (.int p3), .val (.int (p3 &&& (3 : Int32))), .val (.int (((p3.toUInt32 >>> ((2 : Int32) &&& 31).toUInt32).toInt32) &&& (3 : Int32))), .val (.int c5), .unset, .unset, .unset, .unset, .unset, .unset, .unset, .unset, .unset, .unset, .unset, .unset, .unset, .unset, .unset, .unset] [(.int p3)])) _
    refine XS.iconst X0.here hx rfl (hb hby at_27) ?_
    show Steps p.tables e below (s₁.setTop (mkF m 28 #[.val (.int p1), .val (.int p2), .val (.int p3), .val (.int (p3 &&& (3 : Int32))), .val (.int (((p3.toUInt32 >>> ((2 : Int32) &&& 31).toUInt32).toInt32) &&& (3 : Int32))), .val (.int c5), .unset, .unset, .unset, .unset, .unset, .unset, .unset, .unset, .unset, .unset, .unset, .unset, .unset, .unset, .unset, .unset] [(.int (5 : Int32)), (.int p3)])) _
    refine XS.iushr X0.here hx rfl (hb hby at_28) rfl ?_
    show Steps p.tables e below (s₁.setTop (mkF m 29 #[.val (.int p1), .val (.int p2), .val (.int p3), .val (.int (p3 &&& (3 : Int32))), .val (.int (((p3.toUInt32 >>> ((2 : Int32) &&& 31).toUInt32).toInt32) &&& (3 : Int32))), .val (.int c5), .unset, .unset, .unset, .unset, .unset, .unset, .unset, .unset, .unset, .unset, .unset, .unset, .unset, .unset, .unset, .unset] [(.int ((p3.toUInt32 >>> ((5 : Int32) &&& 31).toUInt32).toInt32))])) _
    refine XS.iconst X0.here hx rfl (hb hby at_29) ?_
    show Steps p.tables e below (s₁.setTop (mkF m 30 #[.val (.int p1), .val (.int p2), .val (.int p3), .val (.int (p3 &&& (3 : Int32))), .val (.int (((p3.toUInt32 >>> ((2 : Int32) &&& 31).toUInt32).toInt32) &&& (3 : Int32))), .val (.int c5), .unset, .unset, .unset, .unset, .unset, .unset, .unset, .unset, .unset, .unset, .unset, .unset, .unset, .unset, .unset, .unset] [(.int (1 : Int32)), (.int ((p3.toUInt32 >>> ((5 : Int32) &&& 31).toUInt32).toInt32))])) _
    refine XS.iand X0.here hx rfl (hb hby at_30) rfl ?_
    exact kq)
  obtain ⟨c6, go153⟩ : ∃ c6 : Int32, Goes p e below s₁ (G_rm0 m p1 p2 p3) s₁ (mkF m 41 #[.val (.int p1), .val (.int p2), .val (.int p3), .val (.int (p3 &&& (3 : Int32))), .val (.int (((p3.toUInt32 >>> ((2 : Int32) &&& 31).toUInt32).toInt32) &&& (3 : Int32))), .val (.int c5), .val (.int c6), .unset, .unset, .unset, .unset, .unset, .unset, .unset, .unset, .unset, .unset, .unset, .unset, .unset, .unset, .unset] []) := by
    by_cases hc31_150 : (((p3.toUInt32 >>> ((5 : Int32) &&& 31).toUInt32).toInt32) &&& (1 : Int32)) = (0 : Int32)
    · have go151 : Goes p e below s₁ (G_rm0 m p1 p2 p3) s₁ (mkF m 41 #[.val (.int p1), .val (.int p2), .val (.int p3), .val (.int (p3 &&& (3 : Int32))), .val (.int (((p3.toUInt32 >>> ((2 : Int32) &&& 31).toUInt32).toInt32) &&& (3 : Int32))), .val (.int c5), .val (.int (0 : Int32)), .unset, .unset, .unset, .unset, .unset, .unset, .unset, .unset, .unset, .unset, .unset, .unset, .unset, .unset, .unset] []) := fun tq kq => go149 tq (by
        show Steps p.tables e below (s₁.setTop (mkF m 31 #[.val (.int p1), .val (.int p2), .val (.int p3), .val (.int (p3 &&& (3 : Int32))), .val (.int (((p3.toUInt32 >>> ((2 : Int32) &&& 31).toUInt32).toInt32) &&& (3 : Int32))), .val (.int c5), .unset, .unset, .unset, .unset, .unset, .unset, .unset, .unset, .unset, .unset, .unset, .unset, .unset, .unset, .unset, .unset] [(.int (((p3.toUInt32 >>> ((5 : Int32) &&& 31).toUInt32).toInt32) &&& (1 : Int32)))])) _
        refine XS.ifYes X0.here hx rfl (pc0 := 31) (pc' := 38) rfl (hb hby at_31) rfl ((if0 _ _).trans (teq hc31_150).1) (by decide) (by decide) ?_
        show Steps p.tables e below (s₁.setTop (mkF m 38 #[.val (.int p1), .val (.int p2), .val (.int p3), .val (.int (p3 &&& (3 : Int32))), .val (.int (((p3.toUInt32 >>> ((2 : Int32) &&& 31).toUInt32).toInt32) &&& (3 : Int32))), .val (.int c5), .unset, .unset, .unset, .unset, .unset, .unset, .unset, .unset, .unset, .unset, .unset, .unset, .unset, .unset, .unset, .unset] [])) _
        refine XS.iconst X0.here hx rfl (hb hby at_38) ?_
        show Steps p.tables e below (s₁.setTop (mkF m 39 #[.val (.int p1), .val (.int p2), .val (.int p3), .val (.int (p3 &&& (3 : Int32))), .val (.int (((p3.toUInt32 >>> ((2 : Int32) &&& 31).toUInt32).toInt32) &&& (3 : Int32))), .val (.int c5), .unset, .unset, .unset, .unset, .unset, .unset, .unset, .unset, .unset, .unset, .unset, .unset, .unset, .unset, .unset, .unset] [(.int (0 : Int32))])) _
        refine XS.istore X0.here hx rfl (hb hby at_39) rfl (l' := #[.val (.int p1), .val (.int p2), .val (.int p3), .val (.int (p3 &&& (3 : Int32))), .val (.int (((p3.toUInt32 >>> ((2 : Int32) &&& 31).toUInt32).toInt32) &&& (3 : Int32))), .val (.int c5), .val (.int (0 : Int32)), .unset, .unset, .unset, .unset, .unset, .unset, .unset, .unset, .unset, .unset, .unset, .unset, .unset, .unset, .unset]) rfl ?_
        exact kq)
      exact ⟨(0 : Int32), go151⟩
    · have go152 : Goes p e below s₁ (G_rm0 m p1 p2 p3) s₁ (mkF m 41 #[.val (.int p1), .val (.int p2), .val (.int p3), .val (.int (p3 &&& (3 : Int32))), .val (.int (((p3.toUInt32 >>> ((2 : Int32) &&& 31).toUInt32).toInt32) &&& (3 : Int32))), .val (.int c5), .val (.int (1 : Int32)), .unset, .unset, .unset, .unset, .unset, .unset, .unset, .unset, .unset, .unset, .unset, .unset, .unset, .unset, .unset] []) := fun tq kq => go149 tq (by
        show Steps p.tables e below (s₁.setTop (mkF m 31 #[.val (.int p1), .val (.int p2), .val (.int p3), .val (.int (p3 &&& (3 : Int32))), .val (.int (((p3.toUInt32 >>> ((2 : Int32) &&& 31).toUInt32).toInt32) &&& (3 : Int32))), .val (.int c5), .unset, .unset, .unset, .unset, .unset, .unset, .unset, .unset, .unset, .unset, .unset, .unset, .unset, .unset, .unset, .unset] [(.int (((p3.toUInt32 >>> ((5 : Int32) &&& 31).toUInt32).toInt32) &&& (1 : Int32)))])) _
        refine XS.ifNo X0.here hx rfl (hb hby at_31) rfl ((if0 _ _).trans (feq hc31_150).1) ?_
        show Steps p.tables e below (s₁.setTop (mkF m 34 #[.val (.int p1), .val (.int p2), .val (.int p3), .val (.int (p3 &&& (3 : Int32))), .val (.int (((p3.toUInt32 >>> ((2 : Int32) &&& 31).toUInt32).toInt32) &&& (3 : Int32))), .val (.int c5), .unset, .unset, .unset, .unset, .unset, .unset, .unset, .unset, .unset, .unset, .unset, .unset, .unset, .unset, .unset, .unset] [])) _
        refine XS.iconst X0.here hx rfl (hb hby at_34) ?_
        show Steps p.tables e below (s₁.setTop (mkF m 35 #[.val (.int p1), .val (.int p2), .val (.int p3), .val (.int (p3 &&& (3 : Int32))), .val (.int (((p3.toUInt32 >>> ((2 : Int32) &&& 31).toUInt32).toInt32) &&& (3 : Int32))), .val (.int c5), .unset, .unset, .unset, .unset, .unset, .unset, .unset, .unset, .unset, .unset, .unset, .unset, .unset, .unset, .unset, .unset] [(.int (1 : Int32))])) _
        refine XS.goto X0.here hx rfl (pc0 := 35) (pc' := 39) rfl (hb hby at_35) (by decide) (by decide) ?_
        show Steps p.tables e below (s₁.setTop (mkF m 39 #[.val (.int p1), .val (.int p2), .val (.int p3), .val (.int (p3 &&& (3 : Int32))), .val (.int (((p3.toUInt32 >>> ((2 : Int32) &&& 31).toUInt32).toInt32) &&& (3 : Int32))), .val (.int c5), .unset, .unset, .unset, .unset, .unset, .unset, .unset, .unset, .unset, .unset, .unset, .unset, .unset, .unset, .unset, .unset] [(.int (1 : Int32))])) _
        refine XS.istore X0.here hx rfl (hb hby at_39) rfl (l' := #[.val (.int p1), .val (.int p2), .val (.int p3), .val (.int (p3 &&& (3 : Int32))), .val (.int (((p3.toUInt32 >>> ((2 : Int32) &&& 31).toUInt32).toInt32) &&& (3 : Int32))), .val (.int c5), .val (.int (1 : Int32)), .unset, .unset, .unset, .unset, .unset, .unset, .unset, .unset, .unset, .unset, .unset, .unset, .unset, .unset, .unset]) rfl ?_
        exact kq)
      exact ⟨(1 : Int32), go152⟩
  have go154 : Goes p e below s₁ (G_rm0 m p1 p2 p3) s₁ (mkF m 73 #[.val (.int p1), .val (.int p2), .val (.int p3), .val (.int (p3 &&& (3 : Int32))), .val (.int (((p3.toUInt32 >>> ((2 : Int32) &&& 31).toUInt32).toInt32) &&& (3 : Int32))), .val (.int c5), .val (.int c6), .val (.int ((p1 &&& (255 : Int32)).toUInt32.toUInt16.toUInt32.toInt32)), .val (.int (((((p1.toUInt32 >>> ((8 : Int32) &&& 31).toUInt32).toInt32) &&& (255 : Int32))).toUInt32.toUInt16.toUInt32.toInt32)), .val (.int (((((p1.toUInt32 >>> ((16 : Int32) &&& 31).toUInt32).toInt32) &&& (255 : Int32))).toUInt32.toUInt16.toUInt32.toInt32)), .unset, .unset, .unset, .unset, .unset, .unset, .unset, .unset, .unset, .unset, .unset, .unset] [(.int c5)]) := fun tq kq => go153 tq (by
    show Steps p.tables e below (s₁.setTop (mkF m 41 #[.val (.int p1), .val (.int p2), .val (.int p3), .val (.int (p3 &&& (3 : Int32))), .val (.int (((p3.toUInt32 >>> ((2 : Int32) &&& 31).toUInt32).toInt32) &&& (3 : Int32))), .val (.int c5), .val (.int c6), .unset, .unset, .unset, .unset, .unset, .unset, .unset, .unset, .unset, .unset, .unset, .unset, .unset, .unset, .unset] [])) _
    refine XS.iloadN X0.here hx rfl (hb hby at_41) rfl ?_
    show Steps p.tables e below (s₁.setTop (mkF m 42 #[.val (.int p1), .val (.int p2), .val (.int p3), .val (.int (p3 &&& (3 : Int32))), .val (.int (((p3.toUInt32 >>> ((2 : Int32) &&& 31).toUInt32).toInt32) &&& (3 : Int32))), .val (.int c5), .val (.int c6), .unset, .unset, .unset, .unset, .unset, .unset, .unset, .unset, .unset, .unset, .unset, .unset, .unset, .unset, .unset] [(.int p1)])) _
    refine XS.sipush X0.here hx rfl (hb hby at_42) ?_
    show Steps p.tables e below (s₁.setTop (mkF m 45 #[.val (.int p1), .val (.int p2), .val (.int p3), .val (.int (p3 &&& (3 : Int32))), .val (.int (((p3.toUInt32 >>> ((2 : Int32) &&& 31).toUInt32).toInt32) &&& (3 : Int32))), .val (.int c5), .val (.int c6), .unset, .unset, .unset, .unset, .unset, .unset, .unset, .unset, .unset, .unset, .unset, .unset, .unset, .unset, .unset] [(.int (255 : Int32)), (.int p1)])) _
    refine XS.iand X0.here hx rfl (hb hby at_45) rfl ?_
    show Steps p.tables e below (s₁.setTop (mkF m 46 #[.val (.int p1), .val (.int p2), .val (.int p3), .val (.int (p3 &&& (3 : Int32))), .val (.int (((p3.toUInt32 >>> ((2 : Int32) &&& 31).toUInt32).toInt32) &&& (3 : Int32))), .val (.int c5), .val (.int c6), .unset, .unset, .unset, .unset, .unset, .unset, .unset, .unset, .unset, .unset, .unset, .unset, .unset, .unset, .unset] [(.int (p1 &&& (255 : Int32)))])) _
    refine XS.i2c X0.here hx rfl (hb hby at_46) rfl ?_
    show Steps p.tables e below (s₁.setTop (mkF m 47 #[.val (.int p1), .val (.int p2), .val (.int p3), .val (.int (p3 &&& (3 : Int32))), .val (.int (((p3.toUInt32 >>> ((2 : Int32) &&& 31).toUInt32).toInt32) &&& (3 : Int32))), .val (.int c5), .val (.int c6), .unset, .unset, .unset, .unset, .unset, .unset, .unset, .unset, .unset, .unset, .unset, .unset, .unset, .unset, .unset] [(.int ((p1 &&& (255 : Int32)).toUInt32.toUInt16.toUInt32.toInt32))])) _
    refine XS.istore X0.here hx rfl (hb hby at_47) rfl (l' := #[.val (.int p1), .val (.int p2), .val (.int p3), .val (.int (p3 &&& (3 : Int32))), .val (.int (((p3.toUInt32 >>> ((2 : Int32) &&& 31).toUInt32).toInt32) &&& (3 : Int32))), .val (.int c5), .val (.int c6), .val (.int ((p1 &&& (255 : Int32)).toUInt32.toUInt16.toUInt32.toInt32)), .unset, .unset, .unset, .unset, .unset, .unset, .unset, .unset, .unset, .unset, .unset, .unset, .unset, .unset]) rfl ?_
    show Steps p.tables e below (s₁.setTop (mkF m 49 #[.val (.int p1), .val (.int p2), .val (.int p3), .val (.int (p3 &&& (3 : Int32))), .val (.int (((p3.toUInt32 >>> ((2 : Int32) &&& 31).toUInt32).toInt32) &&& (3 : Int32))), .val (.int c5), .val (.int c6), .val (.int ((p1 &&& (255 : Int32)).toUInt32.toUInt16.toUInt32.toInt32)), .unset, .unset, .unset, .unset, .unset, .unset, .unset, .unset, .unset, .unset, .unset, .unset, .unset, .unset] [])) _
    refine XS.iloadN X0.here hx rfl (hb hby at_49) rfl ?_
    show Steps p.tables e below (s₁.setTop (mkF m 50 #[.val (.int p1), .val (.int p2), .val (.int p3), .val (.int (p3 &&& (3 : Int32))), .val (.int (((p3.toUInt32 >>> ((2 : Int32) &&& 31).toUInt32).toInt32) &&& (3 : Int32))), .val (.int c5), .val (.int c6), .val (.int ((p1 &&& (255 : Int32)).toUInt32.toUInt16.toUInt32.toInt32)), .unset, .unset, .unset, .unset, .unset, .unset, .unset, .unset, .unset, .unset, .unset, .unset, .unset, .unset] [(.int p1)])) _
    refine XS.bipush X0.here hx rfl (hb hby at_50) ?_
    show Steps p.tables e below (s₁.setTop (mkF m 52 #[.val (.int p1), .val (.int p2), .val (.int p3), .val (.int (p3 &&& (3 : Int32))), .val (.int (((p3.toUInt32 >>> ((2 : Int32) &&& 31).toUInt32).toInt32) &&& (3 : Int32))), .val (.int c5), .val (.int c6), .val (.int ((p1 &&& (255 : Int32)).toUInt32.toUInt16.toUInt32.toInt32)), .unset, .unset, .unset, .unset, .unset, .unset, .unset, .unset, .unset, .unset, .unset, .unset, .unset, .unset] [(.int (8 : Int32)), (.int p1)])) _
    refine XS.iushr X0.here hx rfl (hb hby at_52) rfl ?_
    show Steps p.tables e below (s₁.setTop (mkF m 53 #[.val (.int p1), .val (.int p2), .val (.int p3), .val (.int (p3 &&& (3 : Int32))), .val (.int (((p3.toUInt32 >>> ((2 : Int32) &&& 31).toUInt32).toInt32) &&& (3 : Int32))), .val (.int c5), .val (.int c6), .val (.int ((p1 &&& (255 : Int32)).toUInt32.toUInt16.toUInt32.toInt32)), .unset, .unset, .unset, .unset, .unset, .unset, .unset, .unset, .unset, .unset, .unset, .unset, .unset, .unset] [(.int ((p1.toUInt32 >>> ((8 : Int32) &&& 31).toUInt32).toInt32))])) _
    refine XS.sipush X0.here hx rfl (hb hby at_53) ?_
    show Steps p.tables e below (s₁.setTop (mkF m 56 #[.val (.int p1), .val (.int p2), .val (.int p3), .val (.int (p3 &&& (3 : Int32))), .val (.int (((p3.toUInt32 >>> ((2 : Int32) &&& 31).toUInt32).toInt32) &&& (3 : Int32))), .val (.int c5), .val (.int c6), .val (.int ((p1 &&& (255 : Int32)).toUInt32.toUInt16.toUInt32.toInt32)), .unset, .unset, .unset, .unset, .unset, .unset, .unset, .unset, .unset, .unset, .unset, .unset, .unset, .unset] [(.int (255 : Int32)), (.int ((p1.toUInt32 >>> ((8 : Int32) &&& 31).toUInt32).toInt32))])) _
    refine XS.iand X0.here hx rfl (hb hby at_56) rfl ?_
    show Steps p.tables e below (s₁.setTop (mkF m 57 #[.val (.int p1), .val (.int p2), .val (.int p3), .val (.int (p3 &&& (3 : Int32))), .val (.int (((p3.toUInt32 >>> ((2 : Int32) &&& 31).toUInt32).toInt32) &&& (3 : Int32))), .val (.int c5), .val (.int c6), .val (.int ((p1 &&& (255 : Int32)).toUInt32.toUInt16.toUInt32.toInt32)), .unset, .unset, .unset, .unset, .unset, .unset, .unset, .unset, .unset, .unset, .unset, .unset, .unset, .unset] [(.int (((p1.toUInt32 >>> ((8 : Int32) &&& 31).toUInt32).toInt32) &&& (255 : Int32)))])) _
    refine XS.i2c X0.here hx rfl (hb hby at_57) rfl ?_
    show Steps p.tables e below (s₁.setTop (mkF m 58 #[.val (.int p1), .val (.int p2), .val (.int p3), .val (.int (p3 &&& (3 : Int32))), .val (.int (((p3.toUInt32 >>> ((2 : Int32) &&& 31).toUInt32).toInt32) &&& (3 : Int32))), .val (.int c5), .val (.int c6), .val (.int ((p1 &&& (255 : Int32)).toUInt32.toUInt16.toUInt32.toInt32)), .unset, .unset, .unset, .unset, .unset, .unset, .unset, .unset, .unset, .unset, .unset, .unset, .unset, .unset] [(.int (((((p1.toUInt32 >>> ((8 : Int32) &&& 31).toUInt32).toInt32) &&& (255 : Int32))).toUInt32.toUInt16.toUInt32.toInt32))])) _
    refine XS.istore X0.here hx rfl (hb hby at_58) rfl (l' := #[.val (.int p1), .val (.int p2), .val (.int p3), .val (.int (p3 &&& (3 : Int32))), .val (.int (((p3.toUInt32 >>> ((2 : Int32) &&& 31).toUInt32).toInt32) &&& (3 : Int32))), .val (.int c5), .val (.int c6), .val (.int ((p1 &&& (255 : Int32)).toUInt32.toUInt16.toUInt32.toInt32)), .val (.int (((((p1.toUInt32 >>> ((8 : Int32) &&& 31).toUInt32).toInt32) &&& (255 : Int32))).toUInt32.toUInt16.toUInt32.toInt32)), .unset, .unset, .unset, .unset, .unset, .unset, .unset, .unset, .unset, .unset, .unset, .unset, .unset]) rfl ?_
    show Steps p.tables e below (s₁.setTop (mkF m 60 #[.val (.int p1), .val (.int p2), .val (.int p3), .val (.int (p3 &&& (3 : Int32))), .val (.int (((p3.toUInt32 >>> ((2 : Int32) &&& 31).toUInt32).toInt32) &&& (3 : Int32))), .val (.int c5), .val (.int c6), .val (.int ((p1 &&& (255 : Int32)).toUInt32.toUInt16.toUInt32.toInt32)), .val (.int (((((p1.toUInt32 >>> ((8 : Int32) &&& 31).toUInt32).toInt32) &&& (255 : Int32))).toUInt32.toUInt16.toUInt32.toInt32)), .unset, .unset, .unset, .unset, .unset, .unset, .unset, .unset, .unset, .unset, .unset, .unset, .unset] [])) _
    refine XS.iloadN X0.here hx rfl (hb hby at_60) rfl ?_
    show Steps p.tables e below (s₁.setTop (mkF m 61 #[.val (.int p1), .val (.int p2), .val (.int p3), .val (.int (p3 &&& (3 : Int32))), .val (.int (((p3.toUInt32 >>> ((2 : Int32) &&& 31).toUInt32).toInt32) &&& (3 : Int32))), .val (.int c5), .val (.int c6), .val (.int ((p1 &&& (255 : Int32)).toUInt32.toUInt16.toUInt32.toInt32)), .val (.int (((((p1.toUInt32 >>> ((8 : Int32) &&& 31).toUInt32).toInt32) &&& (255 : Int32))).toUInt32.toUInt16.toUInt32.toInt32)), .unset, .unset, .unset, .unset, .unset, .unset, .unset, .unset, .unset, .unset, .unset, .unset, .unset] [(.int p1)])) _
    refine XS.bipush X0.here hx rfl (hb hby at_61) ?_
    show Steps p.tables e below (s₁.setTop (mkF m 63 #[.val (.int p1), .val (.int p2), .val (.int p3), .val (.int (p3 &&& (3 : Int32))), .val (.int (((p3.toUInt32 >>> ((2 : Int32) &&& 31).toUInt32).toInt32) &&& (3 : Int32))), .val (.int c5), .val (.int c6), .val (.int ((p1 &&& (255 : Int32)).toUInt32.toUInt16.toUInt32.toInt32)), .val (.int (((((p1.toUInt32 >>> ((8 : Int32) &&& 31).toUInt32).toInt32) &&& (255 : Int32))).toUInt32.toUInt16.toUInt32.toInt32)), .unset, .unset, .unset, .unset, .unset, .unset, .unset, .unset, .unset, .unset, .unset, .unset, .unset] [(.int (16 : Int32)), (.int p1)])) _
    refine XS.iushr X0.here hx rfl (hb hby at_63) rfl ?_
    show Steps p.tables e below (s₁.setTop (mkF m 64 #[.val (.int p1), .val (.int p2), .val (.int p3), .val (.int (p3 &&& (3 : Int32))), .val (.int (((p3.toUInt32 >>> ((2 : Int32) &&& 31).toUInt32).toInt32) &&& (3 : Int32))), .val (.int c5), .val (.int c6), .val (.int ((p1 &&& (255 : Int32)).toUInt32.toUInt16.toUInt32.toInt32)), .val (.int (((((p1.toUInt32 >>> ((8 : Int32) &&& 31).toUInt32).toInt32) &&& (255 : Int32))).toUInt32.toUInt16.toUInt32.toInt32)), .unset, .unset, .unset, .unset, .unset, .unset, .unset, .unset, .unset, .unset, .unset, .unset, .unset] [(.int ((p1.toUInt32 >>> ((16 : Int32) &&& 31).toUInt32).toInt32))])) _
    refine XS.sipush X0.here hx rfl (hb hby at_64) ?_
    show Steps p.tables e below (s₁.setTop (mkF m 67 #[.val (.int p1), .val (.int p2), .val (.int p3), .val (.int (p3 &&& (3 : Int32))), .val (.int (((p3.toUInt32 >>> ((2 : Int32) &&& 31).toUInt32).toInt32) &&& (3 : Int32))), .val (.int c5), .val (.int c6), .val (.int ((p1 &&& (255 : Int32)).toUInt32.toUInt16.toUInt32.toInt32)), .val (.int (((((p1.toUInt32 >>> ((8 : Int32) &&& 31).toUInt32).toInt32) &&& (255 : Int32))).toUInt32.toUInt16.toUInt32.toInt32)), .unset, .unset, .unset, .unset, .unset, .unset, .unset, .unset, .unset, .unset, .unset, .unset, .unset] [(.int (255 : Int32)), (.int ((p1.toUInt32 >>> ((16 : Int32) &&& 31).toUInt32).toInt32))])) _
    refine XS.iand X0.here hx rfl (hb hby at_67) rfl ?_
    show Steps p.tables e below (s₁.setTop (mkF m 68 #[.val (.int p1), .val (.int p2), .val (.int p3), .val (.int (p3 &&& (3 : Int32))), .val (.int (((p3.toUInt32 >>> ((2 : Int32) &&& 31).toUInt32).toInt32) &&& (3 : Int32))), .val (.int c5), .val (.int c6), .val (.int ((p1 &&& (255 : Int32)).toUInt32.toUInt16.toUInt32.toInt32)), .val (.int (((((p1.toUInt32 >>> ((8 : Int32) &&& 31).toUInt32).toInt32) &&& (255 : Int32))).toUInt32.toUInt16.toUInt32.toInt32)), .unset, .unset, .unset, .unset, .unset, .unset, .unset, .unset, .unset, .unset, .unset, .unset, .unset] [(.int (((p1.toUInt32 >>> ((16 : Int32) &&& 31).toUInt32).toInt32) &&& (255 : Int32)))])) _
    refine XS.i2c X0.here hx rfl (hb hby at_68) rfl ?_
    show Steps p.tables e below (s₁.setTop (mkF m 69 #[.val (.int p1), .val (.int p2), .val (.int p3), .val (.int (p3 &&& (3 : Int32))), .val (.int (((p3.toUInt32 >>> ((2 : Int32) &&& 31).toUInt32).toInt32) &&& (3 : Int32))), .val (.int c5), .val (.int c6), .val (.int ((p1 &&& (255 : Int32)).toUInt32.toUInt16.toUInt32.toInt32)), .val (.int (((((p1.toUInt32 >>> ((8 : Int32) &&& 31).toUInt32).toInt32) &&& (255 : Int32))).toUInt32.toUInt16.toUInt32.toInt32)), .unset, .unset, .unset, .unset, .unset, .unset, .unset, .unset, .unset, .unset, .unset, .unset, .unset] [(.int (((((p1.toUInt32 >>> ((16 : Int32) &&& 31).toUInt32).toInt32) &&& (255 : Int32))).toUInt32.toUInt16.toUInt32.toInt32))])) _
    refine XS.istore X0.here hx rfl (hb hby at_69) rfl (l' := #[.val (.int p1), .val (.int p2), .val (.int p3), .val (.int (p3 &&& (3 : Int32))), .val (.int (((p3.toUInt32 >>> ((2 : Int32) &&& 31).toUInt32).toInt32) &&& (3 : Int32))), .val (.int c5), .val (.int c6), .val (.int ((p1 &&& (255 : Int32)).toUInt32.toUInt16.toUInt32.toInt32)), .val (.int (((((p1.toUInt32 >>> ((8 : Int32) &&& 31).toUInt32).toInt32) &&& (255 : Int32))).toUInt32.toUInt16.toUInt32.toInt32)), .val (.int (((((p1.toUInt32 >>> ((16 : Int32) &&& 31).toUInt32).toInt32) &&& (255 : Int32))).toUInt32.toUInt16.toUInt32.toInt32)), .unset, .unset, .unset, .unset, .unset, .unset, .unset, .unset, .unset, .unset, .unset, .unset]) rfl ?_
    show Steps p.tables e below (s₁.setTop (mkF m 71 #[.val (.int p1), .val (.int p2), .val (.int p3), .val (.int (p3 &&& (3 : Int32))), .val (.int (((p3.toUInt32 >>> ((2 : Int32) &&& 31).toUInt32).toInt32) &&& (3 : Int32))), .val (.int c5), .val (.int c6), .val (.int ((p1 &&& (255 : Int32)).toUInt32.toUInt16.toUInt32.toInt32)), .val (.int (((((p1.toUInt32 >>> ((8 : Int32) &&& 31).toUInt32).toInt32) &&& (255 : Int32))).toUInt32.toUInt16.toUInt32.toInt32)), .val (.int (((((p1.toUInt32 >>> ((16 : Int32) &&& 31).toUInt32).toInt32) &&& (255 : Int32))).toUInt32.toUInt16.toUInt32.toInt32)), .unset, .unset, .unset, .unset, .unset, .unset, .unset, .unset, .unset, .unset, .unset, .unset] [])) _
    refine XS.iload X0.here hx rfl (hb hby at_71) rfl ?_
    exact kq)
  obtain ⟨w0, w1, w2, hx158, go158⟩ : ∃ w0 w1 w2 : Int32, (B8 w0 ∧ B8 w1 ∧ B8 w2) ∧ Goes p e below s₁ (G_rm0 m p1 p2 p3) s₁ (mkF m 140 #[.val (.int p1), .val (.int p2), .val (.int p3), .val (.int (p3 &&& (3 : Int32))), .val (.int (((p3.toUInt32 >>> ((2 : Int32) &&& 31).toUInt32).toInt32) &&& (3 : Int32))), .val (.int c5), .val (.int c6), .val (.int ((p1 &&& (255 : Int32)).toUInt32.toUInt16.toUInt32.toInt32)), .val (.int (((((p1.toUInt32 >>> ((8 : Int32) &&& 31).toUInt32).toInt32) &&& (255 : Int32))).toUInt32.toUInt16.toUInt32.toInt32)), .val (.int (((((p1.toUInt32 >>> ((16 : Int32) &&& 31).toUInt32).toInt32) &&& (255 : Int32))).toUInt32.toUInt16.toUInt32.toInt32)), .val (.int w0), .val (.int w1), .val (.int w2), .unset, .unset, .unset, .unset, .unset, .unset, .unset, .unset, .unset] []) := by
    by_cases hc73_155 : c5 = (0 : Int32)
    · have go156 : Goes p e below s₁ (G_rm0 m p1 p2 p3) s₁ (mkF m 140 #[.val (.int p1), .val (.int p2), .val (.int p3), .val (.int (p3 &&& (3 : Int32))), .val (.int (((p3.toUInt32 >>> ((2 : Int32) &&& 31).toUInt32).toInt32) &&& (3 : Int32))), .val (.int c5), .val (.int c6), .val (.int ((p1 &&& (255 : Int32)).toUInt32.toUInt16.toUInt32.toInt32)), .val (.int (((((p1.toUInt32 >>> ((8 : Int32) &&& 31).toUInt32).toInt32) &&& (255 : Int32))).toUInt32.toUInt16.toUInt32.toInt32)), .val (.int (((((p1.toUInt32 >>> ((16 : Int32) &&& 31).toUInt32).toInt32) &&& (255 : Int32))).toUInt32.toUInt16.toUInt32.toInt32)), .val (.int ((p2 &&& (255 : Int32)).toUInt32.toUInt16.toUInt32.toInt32)), .val (.int (((((p2.toUInt32 >>> ((8 : Int32) &&& 31).toUInt32).toInt32) &&& (255 : Int32))).toUInt32.toUInt16.toUInt32.toInt32)), .val (.int (((((p2.toUInt32 >>> ((16 : Int32) &&& 31).toUInt32).toInt32) &&& (255 : Int32))).toUInt32.toUInt16.toUInt32.toInt32)), .unset, .unset, .unset, .unset, .unset, .unset, .unset, .unset, .unset] []) := fun tq kq => go154 tq (by
        show Steps p.tables e below (s₁.setTop (mkF m 73 #[.val (.int p1), .val (.int p2), .val (.int p3), .val (.int (p3 &&& (3 : Int32))), .val (.int (((p3.toUInt32 >>> ((2 : Int32) &&& 31).toUInt32).toInt32) &&& (3 : Int32))), .val (.int c5), .val (.int c6), .val (.int ((p1 &&& (255 : Int32)).toUInt32.toUInt16.toUInt32.toInt32)), .val (.int (((((p1.toUInt32 >>> ((8 : Int32) &&& 31).toUInt32).toInt32) &&& (255 : Int32))).toUInt32.toUInt16.toUInt32.toInt32)), .val (.int (((((p1.toUInt32 >>> ((16 : Int32) &&& 31).toUInt32).toInt32) &&& (255 : Int32))).toUInt32.toUInt16.toUInt32.toInt32)), .unset, .unset, .unset, .unset, .unset, .unset, .unset, .unset, .unset, .unset, .unset, .unset] [(.int c5)])) _
        refine XS.ifYes X0.here hx rfl (pc0 := 73) (pc' := 110) rfl (hb hby at_73) rfl ((if0 _ _).trans (teq hc73_155).1) (by decide) (by decide) ?_
        show Steps p.tables e below (s₁.setTop (mkF m 110 #[.val (.int p1), .val (.int p2), .val (.int p3), .val (.int (p3 &&& (3 : Int32))), .val (.int (((p3.toUInt32 >>> ((2 : Int32) &&& 31).toUInt32).toInt32) &&& (3 : Int32))), .val (.int c5), .val (.int c6), .val (.int ((p1 &&& (255 : Int32)).toUInt32.toUInt16.toUInt32.toInt32)), .val (.int (((((p1.toUInt32 >>> ((8 : Int32) &&& 31).toUInt32).toInt32) &&& (255 : Int32))).toUInt32.toUInt16.toUInt32.toInt32)), .val (.int (((((p1.toUInt32 >>> ((16 : Int32) &&& 31).toUInt32).toInt32) &&& (255 : Int32))).toUInt32.toUInt16.toUInt32.toInt32)), .unset, .unset, .unset, .unset, .unset, .unset, .unset, .unset, .unset, .unset, .unset, .unset] [])) _
        refine XS.iloadN X0.here hx rfl (hb hby at_110) rfl ?_
        show Steps p.tables e below (s₁.setTop (mkF m 111 #[.val (.int p1), .val (.int p2), .val (.int p3), .val (.int (p3 &&& (3 : Int32))), .val (.int (((p3.toUInt32 >>> ((2 : Int32) &&& 31).toUInt32).toInt32) &&& (3 : Int32))), .val (.int c5), .val (.int c6), .val (.int ((p1 &&& (255 : Int32)).toUInt32.toUInt16.toUInt32.toInt32)), .val (.int (((((p1.toUInt32 >>> ((8 : Int32) &&& 31).toUInt32).toInt32) &&& (255 : Int32))).toUInt32.toUInt16.toUInt32.toInt32)), .val (.int (((((p1.toUInt32 >>> ((16 : Int32) &&& 31).toUInt32).toInt32) &&& (255 : Int32))).toUInt32.toUInt16.toUInt32.toInt32)), .unset, .unset, .unset, .unset, .unset, .unset, .unset, .unset, .unset, .unset, .unset, .unset] [(.int p2)])) _
        refine XS.sipush X0.here hx rfl (hb hby at_111) ?_
        show Steps p.tables e below (s₁.setTop (mkF m 114 #[.val (.int p1), .val (.int p2), .val (.int p3), .val (.int (p3 &&& (3 : Int32))), .val (.int (((p3.toUInt32 >>> ((2 : Int32) &&& 31).toUInt32).toInt32) &&& (3 : Int32))), .val (.int c5), .val (.int c6), .val (.int ((p1 &&& (255 : Int32)).toUInt32.toUInt16.toUInt32.toInt32)), .val (.int (((((p1.toUInt32 >>> ((8 : Int32) &&& 31).toUInt32).toInt32) &&& (255 : Int32))).toUInt32.toUInt16.toUInt32.toInt32)), .val (.int (((((p1.toUInt32 >>> ((16 : Int32) &&& 31).toUInt32).toInt32) &&& (255 : Int32))).toUInt32.toUInt16.toUInt32.toInt32)), .unset, .unset, .unset, .unset, .unset, .unset, .unset, .unset, .unset, .unset, .unset, .unset] [(.int (255 : Int32)), (.int p2)])) _
        refine XS.iand X0.here hx rfl (hb hby at_114) rfl ?_
        show Steps p.tables e below (s₁.setTop (mkF m 115 #[.val (.int p1), .val (.int p2), .val (.int p3), .val (.int (p3 &&& (3 : Int32))), .val (.int (((p3.toUInt32 >>> ((2 : Int32) &&& 31).toUInt32).toInt32) &&& (3 : Int32))), .val (.int c5), .val (.int c6), .val (.int ((p1 &&& (255 : Int32)).toUInt32.toUInt16.toUInt32.toInt32)), .val (.int (((((p1.toUInt32 >>> ((8 : Int32) &&& 31).toUInt32).toInt32) &&& (255 : Int32))).toUInt32.toUInt16.toUInt32.toInt32)), .val (.int (((((p1.toUInt32 >>> ((16 : Int32) &&& 31).toUInt32).toInt32) &&& (255 : Int32))).toUInt32.toUInt16.toUInt32.toInt32)), .unset, .unset, .unset, .unset, .unset, .unset, .unset, .unset, .unset, .unset, .unset, .unset] [(.int (p2 &&& (255 : Int32)))])) _
        refine XS.i2c X0.here hx rfl (hb hby at_115) rfl ?_
        show Steps p.tables e below (s₁.setTop (mkF m 116 #[.val (.int p1), .val (.int p2), .val (.int p3), .val (.int (p3 &&& (3 : Int32))), .val (.int (((p3.toUInt32 >>> ((2 : Int32) &&& 31).toUInt32).toInt32) &&& (3 : Int32))), .val (.int c5), .val (.int c6), .val (.int ((p1 &&& (255 : Int32)).toUInt32.toUInt16.toUInt32.toInt32)), .val (.int (((((p1.toUInt32 >>> ((8 : Int32) &&& 31).toUInt32).toInt32) &&& (255 : Int32))).toUInt32.toUInt16.toUInt32.toInt32)), .val (.int (((((p1.toUInt32 >>> ((16 : Int32) &&& 31).toUInt32).toInt32) &&& (255 : Int32))).toUInt32.toUInt16.toUInt32.toInt32)), .unset, .unset, .unset, .unset, .unset, .unset, .unset, .unset, .unset, .unset, .unset, .unset] [(.int ((p2 &&& (255 : Int32)).toUInt32.toUInt16.toUInt32.toInt32))])) _
        refine XS.istore X0.here hx rfl (hb hby at_116) rfl (l' := #[.val (.int p1), .val (.int p2), .val (.int p3), .val (.int (p3 &&& (3 : Int32))), .val (.int (((p3.toUInt32 >>> ((2 : Int32) &&& 31).toUInt32).toInt32) &&& (3 : Int32))), .val (.int c5), .val (.int c6), .val (.int ((p1 &&& (255 : Int32)).toUInt32.toUInt16.toUInt32.toInt32)), .val (.int (((((p1.toUInt32 >>> ((8 : Int32) &&& 31).toUInt32).toInt32) &&& (255 : Int32))).toUInt32.toUInt16.toUInt32.toInt32)), .val (.int (((((p1.toUInt32 >>> ((16 : Int32) &&& 31).toUInt32).toInt32) &&& (255 : Int32))).toUInt32.toUInt16.toUInt32.toInt32)), .val (.int ((p2 &&& (255 : Int32)).toUInt32.toUInt16.toUInt32.toInt32)), .unset, .unset, .unset, .unset, .unset, .unset, .unset, .unset, .unset, .unset, .unset]) rfl ?_
        show Steps p.tables e below (s₁.setTop (mkF m 118 #[.val (.int p1), .val (.int p2), .val (.int p3), .val (.int (p3 &&& (3 : Int32))), .val (.int (((p3.toUInt32 >>> ((2 : Int32) &&& 31).toUInt32).toInt32) &&& (3 : Int32))), .val (.int c5), .val (.int c6), .val (.int ((p1 &&& (255 : Int32)).toUInt32.toUInt16.toUInt32.toInt32)), .val (.int (((((p1.toUInt32 >>> ((8 : Int32) &&& 31).toUInt32).toInt32) &&& (255 : Int32))).toUInt32.toUInt16.toUInt32.toInt32)), .val (.int (((((p1.toUInt32 >>> ((16 : Int32) &&& 31).toUInt32).toInt32) &&& (255 : Int32))).toUInt32.toUInt16.toUInt32.toInt32)), .val (.int ((p2 &&& (255 : Int32)).toUInt32.toUInt16.toUInt32.toInt32)), .unset, .unset, .unset, .unset, .unset, .unset, .unset, .unset, .unset, .unset, .unset] [])) _
        refine XS.iloadN X0.here hx rfl (hb hby at_118) rfl ?_
        show Steps p.tables e below (s₁.setTop (mkF m 119 #[.val (.int p1), .val (.int p2), .val (.int p3), .val (.int (p3 &&& (3 : Int32))), .val (.int (((p3.toUInt32 >>> ((2 : Int32) &&& 31).toUInt32).toInt32) &&& (3 : Int32))), .val (.int c5), .val (.int c6), .val (.int ((p1 &&& (255 : Int32)).toUInt32.toUInt16.toUInt32.toInt32)), .val (.int (((((p1.toUInt32 >>> ((8 : Int32) &&& 31).toUInt32).toInt32) &&& (255 : Int32))).toUInt32.toUInt16.toUInt32.toInt32)), .val (.int (((((p1.toUInt32 >>> ((16 : Int32) &&& 31).toUInt32).toInt32) &&& (255 : Int32))).toUInt32.toUInt16.toUInt32.toInt32)), .val (.int ((p2 &&& (255 : Int32)).toUInt32.toUInt16.toUInt32.toInt32)), .unset, .unset, .unset, .unset, .unset, .unset, .unset, .unset, .unset, .unset, .unset] [(.int p2)])) _
        refine XS.bipush X0.here hx rfl (hb hby at_119) ?_
        show Steps p.tables e below (s₁.setTop (mkF m 121 #[.val (.int p1), .val (.int p2), .val (.int p3), .val (.int (p3 &&& (3 : Int32))), .val (.int (((p3.toUInt32 >>> ((2 : Int32) &&& 31).toUInt32).toInt32) &&& (3 : Int32))), .val (.int c5), .val (.int c6), .val (.int ((p1 &&& (255 : Int32)).toUInt32.toUInt16.toUInt32.toInt32)), .val (.int (((((p1.toUInt32 >>> ((8 : Int32) &&& 31).toUInt32).toInt32) &&& (255 : Int32))).toUInt32.toUInt16.toUInt32.toInt32)), .val (.int (((((p1.toUInt32 >>> ((16 : Int32) &&& 31).toUInt32).toInt32) &&& (255 : Int32))).toUInt32.toUInt16.toUInt32.toInt32)), .val (.int ((p2 &&& (255 : Int32)).toUInt32.toUInt16.toUInt32.toInt32)), .unset, .unset, .unset, .unset, .unset, .unset, .unset, .unset, .unset, .unset, .unset] [(.int (8 : Int32)), (.int p2)])) _
        refine XS.iushr X0.here hx rfl (hb hby at_121) rfl ?_
        show Steps p.tables e below (s₁.setTop (mkF m 122 #[.val (.int p1), .val (.int p2), .val (.int p3), .val (.int (p3 &&& (3 : Int32))), .val (.int (((p3.toUInt32 >>> ((2 : Int32) &&& 31).toUInt32).toInt32) &&& (3 : Int32))), .val (.int c5), .val (.int c6), .val (.int ((p1 &&& (255 : Int32)).toUInt32.toUInt16.toUInt32.toInt32)), .val (.int (((((p1.toUInt32 >>> ((8 : Int32) &&& 31).toUInt32).toInt32) &&& (255 : Int32))).toUInt32.toUInt16.toUInt32.toInt32)), .val (.int (((((p1.toUInt32 >>> ((16 : Int32) &&& 31).toUInt32).toInt32) &&& (255 : Int32))).toUInt32.toUInt16.toUInt32.toInt32)), .val (.int ((p2 &&& (255 : Int32)).toUInt32.toUInt16.toUInt32.toInt32)), .unset, .unset, .unset, .unset, .unset, .unset, .unset, .unset, .unset, .unset, .unset] [(.int ((p2.toUInt32 >>> ((8 : Int32) &&& 31).toUInt32).toInt32))])) _
        refine XS.sipush X0.here hx rfl (hb hby at_122) ?_
        show Steps p.tables e below (s₁.setTop (mkF m 125 #[.val (.int p1), .val (.int p2), .val (.int p3), .val (.int (p3 &&& (3 : Int32))), .val (.int (((p3.toUInt32 >>> ((2 : Int32) &&& 31).toUInt32).toInt32) &&& (3 : Int32))), .val (.int c5), .val (.int c6), .val (.int ((p1 &&& (255 : Int32)).toUInt32.toUInt16.toUInt32.toInt32)), .val (.int (((((p1.toUInt32 >>> ((8 : Int32) &&& 31).toUInt32).toInt32) &&& (255 : Int32))).toUInt32.toUInt16.toUInt32.toInt32)), .val (.int (((((p1.toUInt32 >>> ((16 : Int32) &&& 31).toUInt32).toInt32) &&& (255 : Int32))).toUInt32.toUInt16.toUInt32.toInt32)), .val (.int ((p2 &&& (255 : Int32)).toUInt32.toUInt16.toUInt32.toInt32)), .unset, .unset, .unset, .unset, .unset, .unset, .unset, .unset, .unset, .unset, .unset] [(.int (255 : Int32)), (.int ((p2.toUInt32 >>> ((8 : Int32) &&& 31).toUInt32).toInt32))])) _
        refine XS.iand X0.here hx rfl (hb hby at_125) rfl ?_
        show Steps p.tables e below (s₁.setTop (mkF m 126 #[.val (.int p1), .val (.int p2), .val (.int p3), .val (.int (p3 &&& (3 : Int32))), .val (.int (((p3.toUInt32 >>> ((2 : Int32) &&& 31).toUInt32).toInt32) &&& (3 : Int32))), .val (.int c5), .val (.int c6), .val (.int ((p1 &&& (255 : Int32)).toUInt32.toUInt16.toUInt32.toInt32)), .val (.int (((((p1.toUInt32 >>> ((8 : Int32) &&& 31).toUInt32).toInt32) &&& (255 : Int32))).toUInt32.toUInt16.toUInt32.toInt32)), .val (.int (((((p1.toUInt32 >>> ((16 : Int32) &&& 31).toUInt32).toInt32) &&& (255 : Int32))).toUInt32.toUInt16.toUInt32.toInt32)), .val (.int ((p2 &&& (255 : Int32)).toUInt32.toUInt16.toUInt32.toInt32)), .unset, .unset, .unset, .unset, .unset, .unset, .unset, .unset, .unset, .unset, .unset] [(.int (((p2.toUInt32 >>> ((8 : Int32) &&& 31).toUInt32).toInt32) &&& (255 : Int32)))])) _
        refine XS.i2c X0.here hx rfl (hb hby at_126) rfl ?_
        show Steps p.tables e below (s₁.setTop (mkF m 127 #[.val (.int p1), .val (.int p2), .val (.int p3), .val (.int (p3 &&& (3 : Int32))), .val (.int (((p3.toUInt32 >>> ((2 : Int32) &&& 31).toUInt32).toInt32) &&& (3 : Int32))), .val (.int c5), .val (.int c6), .val (.int ((p1 &&& (255 : Int32)).toUInt32.toUInt16.toUInt32.toInt32)), .val (.int (((((p1.toUInt32 >>> ((8 : Int32) &&& 31).toUInt32).toInt32) &&& (255 : Int32))).toUInt32.toUInt16.toUInt32.toInt32)), .val (.int (((((p1.toUInt32 >>> ((16 : Int32) &&& 31).toUInt32).toInt32) &&& (255 : Int32))).toUInt32.toUInt16.toUInt32.toInt32)), .val (.int ((p2 &&& (255 : Int32)).toUInt32.toUInt16.toUInt32.toInt32)), .unset, .unset, .unset, .unset, .unset, .unset, .unset, .unset, .unset, .unset, .unset] [(.int (((((p2.toUInt32 >>> ((8 : Int32) &&& 31).toUInt32).toInt32) &&& (255 : Int32))).toUInt32.toUInt16.toUInt32.toInt32))])) _
        refine XS.istore X0.here hx rfl (hb hby at_127) rfl (l' := #[.val (.int p1), .val (.int p2), .val (.int p3), .val (.int (p3 &&& (3 : Int32))), .val (.int (((p3.toUInt32 >>> ((2 : Int32) &&& 31).toUInt32).toInt32) &&& (3 : Int32))), .val (.int c5), .val (.int c6), .val (.int ((p1 &&& (255 : Int32)).toUInt32.toUInt16.toUInt32.toInt32)), .val (.int (((((p1.toUInt32 >>> ((8 : Int32) &&& 31).toUInt32).toInt32) &&& (255 : Int32))).toUInt32.toUInt16.toUInt32.toInt32)), .val (.int (((((p1.toUInt32 >>> ((16 : Int32) &&& 31).toUInt32).toInt32) &&& (255 : Int32))).toUInt32.toUInt16.toUInt32.toInt32)), .val (.int ((p2 &&& (255 : Int32)).toUInt32.toUInt16.toUInt32.toInt32)), .val (.int (((((p2.toUInt32 >>> ((8 : Int32) &&& 31).toUInt32).toInt32) &&& (255 : Int32))).toUInt32.toUInt16.toUInt32.toInt32)), .unset, .unset, .unset, .unset, .unset, .unset, .unset, .unset, .unset, .unset]) rfl ?_
        show Steps p.tables e below (s₁.setTop (mkF m 129 #[.val (.int p1), .val (.int p2), .val (.int p3), .val (.int (p3 &&& (3 : Int32))), .val (.int (((p3.toUInt32 >>> ((2 : Int32) &&& 31).toUInt32).toInt32) &&& (3 : Int32))), .val (.int c5), .val (.int c6), .val (.int ((p1 &&& (255 : Int32)).toUInt32.toUInt16.toUInt32.toInt32)), .val (.int (((((p1.toUInt32 >>> ((8 : Int32) &&& 31).toUInt32).toInt32) &&& (255 : Int32))).toUInt32.toUInt16.toUInt32.toInt32)), .val (.int (((((p1.toUInt32 >>> ((16 : Int32) &&& 31).toUInt32).toInt32) &&& (255 : Int32))).toUInt32.toUInt16.toUInt32.toInt32)), .val (.int ((p2 &&& (255 : Int32)).toUInt32.toUInt16.toUInt32.toInt32)), .val (.int (((((p2.toUInt32 >>> ((8 : Int32) &&& 31).toUInt32).toInt32) &&& (255 : Int32))).toUInt32.toUInt16.toUInt32.toInt32)), .unset, .unset, .unset, .unset, .unset, .unset, .unset, .unset, .unset, .unset] [])) _
        refine XS.iloadN X0.here hx rfl (hb hby at_129) rfl ?_
        show Steps p.tables e below (s₁.setTop (mkF m 130 #[.val (.int p1), .val (.int p2), .val (.int p3), .val (.int (p3 &&& (3 : Int32))), .val (.int (((p3.toUInt32 >>> ((2 : Int32) &&& 31).toUInt32).toInt32) &&& (3 : Int32))), .val (.int c5), .val (.int c6), .val (.int ((p1 &&& (255 : Int32)).toUInt32.toUInt16.toUInt32.toInt32)), .val (.int (((((p1.toUInt32 >>> ((8 : Int32) &&& 31).toUInt32).toInt32) &&& (255 : Int32))).toUInt32.toUInt16.toUInt32.toInt32)), .val (.int (((((p1.toUInt32 >>> ((16 : Int32) &&& 31).toUInt32).toInt32) &&& (255 : Int32))).toUInt32.toUInt16.toUInt32.toInt32)), .val (.int ((p2 &&& (255 : Int32)).toUInt32.toUInt16.toUInt32.toInt32)), .val (.int (((((p2.toUInt32 >>> ((8 : Int32) &&& 31).toUInt32).toInt32) &&& (255 : Int32))).toUInt32.toUInt16.toUInt32.toInt32)), .unset, .unset, .unset, .unset, .unset, .unset, .unset, .unset, .unset, .unset] [(.int p2)])) _
        refine XS.bipush X0.here hx rfl (hb hby at_130) ?_
        show Steps p.tables e below (s₁.setTop (mkF m 132 #[.val (.int p1), .val (.int p2), .val (.int p3), .val (.int (p3 &&& (3 : Int32))), .val (.int (((p3.toUInt32 >>> ((2 : Int32) &&& 31).toUInt32).toInt32) &&& (3 : Int32))), .val (.int c5), .val (.int c6), .val (.int ((p1 &&& (255 : Int32)).toUInt32.toUInt16.toUInt32.toInt32)), .val (.int (((((p1.toUInt32 >>> ((8 : Int32) &&& 31).toUInt32).toInt32) &&& (255 : Int32))).toUInt32.toUInt16.toUInt32.toInt32)), .val (.int (((((p1.toUInt32 >>> ((16 : Int32) &&& 31).toUInt32).toInt32) &&& (255 : Int32))).toUInt32.toUInt16.toUInt32.toInt32)), .val (.int ((p2 &&& (255 : Int32)).toUInt32.toUInt16.toUInt32.toInt32)), .val (.int (((((p2.toUInt32 >>> ((8 : Int32) &&& 31).toUInt32).toInt32) &&& (255 : Int32))).toUInt32.toUInt16.toUInt32.toInt32)), .unset, .unset, .unset, .unset, .unset, .unset, .unset, .unset, .unset, .unset] [(.int (16 : Int32)), (.int p2)])) _
        refine XS.iushr X0.here hx rfl (hb hby at_132) rfl ?_
        show Steps p.tables e below (s₁.setTop (mkF m 133 #[.val (.int p1), .val (.int p2), .val (.int p3), .val (.int (p3 &&& (3 : Int32))), .val (.int (((p3.toUInt32 >>> ((2 : Int32) &&& 31).toUInt32).toInt32) &&& (3 : Int32))), .val (.int c5), .val (.int c6), .val (.int ((p1 &&& (255 : Int32)).toUInt32.toUInt16.toUInt32.toInt32)), .val (.int (((((p1.toUInt32 >>> ((8 : Int32) &&& 31).toUInt32).toInt32) &&& (255 : Int32))).toUInt32.toUInt16.toUInt32.toInt32)), .val (.int (((((p1.toUInt32 >>> ((16 : Int32) &&& 31).toUInt32).toInt32) &&& (255 : Int32))).toUInt32.toUInt16.toUInt32.toInt32)), .val (.int ((p2 &&& (255 : Int32)).toUInt32.toUInt16.toUInt32.toInt32)), .val (.int (((((p2.toUInt32 >>> ((8 : Int32) &&& 31).toUInt32).toInt32) &&& (255 : Int32))).toUInt32.toUInt16.toUInt32.toInt32)), .unset, .unset, .unset, .unset, .unset, .unset, .unset, .unset, .unset, .unset] [(.int ((p2.toUInt32 >>> ((16 : Int32) &&& 31).toUInt32).toInt32))])) _
        refine XS.sipush X0.here hx rfl (hb hby at_133) ?_
        show Steps p.tables e below (s₁.setTop (mkF m 136 #[.val (.int p1), .val (.int p2), .val (.int p3), .val (.int (p3 &&& (3 : Int32))), .val (.int (((p3.toUInt32 >>> ((2 : Int32) &&& 31).toUInt32).toInt32) &&& (3 : Int32))), .val (.int c5), .val (.int c6), .val (.int ((p1 &&& (255 : Int32)).toUInt32.toUInt16.toUInt32.toInt32)), .val (.int (((((p1.toUInt32 >>> ((8 : Int32) &&& 31).toUInt32).toInt32) &&& (255 : Int32))).toUInt32.toUInt16.toUInt32.toInt32)), .val (.int (((((p1.toUInt32 >>> ((16 : Int32) &&& 31).toUInt32).toInt32) &&& (255 : Int32))).toUInt32.toUInt16.toUInt32.toInt32)), .val (.int ((p2 &&& (255 : Int32)).toUInt32.toUInt16.toUInt32.toInt32)), .val (.int (((((p2.toUInt32 >>> ((8 : Int32) &&& 31).toUInt32).toInt32) &&& (255 : Int32))).toUInt32.toUInt16.toUInt32.toInt32)), .unset, .unset, .unset, .unset, .unset, .unset, .unset, .unset, .unset, .unset] [(.int (255 : Int32)), (.int ((p2.toUInt32 >>> ((16 : Int32) &&& 31).toUInt32).toInt32))])) _
        refine XS.iand X0.here hx rfl (hb hby at_136) rfl ?_
        show Steps p.tables e below (s₁.setTop (mkF m 137 #[.val (.int p1), .val (.int p2), .val (.int p3), .val (.int (p3 &&& (3 : Int32))), .val (.int (((p3.toUInt32 >>> ((2 : Int32) &&& 31).toUInt32).toInt32) &&& (3 : Int32))), .val (.int c5), .val (.int c6), .val (.int ((p1 &&& (255 : Int32)).toUInt32.toUInt16.toUInt32.toInt32)), .val (.int (((((p1.toUInt32 >>> ((8 : Int32) &&& 31).toUInt32).toInt32) &&& (255 : Int32))).toUInt32.toUInt16.toUInt32.toInt32)), .val (.int (((((p1.toUInt32 >>> ((16 : Int32) &&& 31).toUInt32).toInt32) &&& (255 : Int32))).toUInt32.toUInt16.toUInt32.toInt32)), .val (.int ((p2 &&& (255 : Int32)).toUInt32.toUInt16.toUInt32.toInt32)), .val (.int (((((p2.toUInt32 >>> ((8 : Int32) &&& 31).toUInt32).toInt32) &&& (255 : Int32))).toUInt32.toUInt16.toUInt32.toInt32)), .unset, .unset, .unset, .unset, .unset, .unset, .unset, .unset, .unset, .unset] [(.int (((p2.toUInt32 >>> ((16 : Int32) &&& 31).toUInt32).toInt32) &&& (255 : Int32)))])) _
        refine XS.i2c X0.here hx rfl (hb hby at_137) rfl ?_
        show Steps p.tables e below (s₁.setTop (mkF m 138 #[.val (.int p1), .val (.int p2), .val (.int p3), .val (.int (p3 &&& (3 : Int32))), .val (.int (((p3.toUInt32 >>> ((2 : Int32) &&& 31).toUInt32).toInt32) &&& (3 : Int32))), .val (.int c5), .val (.int c6), .val (.int ((p1 &&& (255 : Int32)).toUInt32.toUInt16.toUInt32.toInt32)), .val (.int (((((p1.toUInt32 >>> ((8 : Int32) &&& 31).toUInt32).toInt32) &&& (255 : Int32))).toUInt32.toUInt16.toUInt32.toInt32)), .val (.int (((((p1.toUInt32 >>> ((16 : Int32) &&& 31).toUInt32).toInt32) &&& (255 : Int32))).toUInt32.toUInt16.toUInt32.toInt32)), .val (.int ((p2 &&& (255 : Int32)).toUInt32.toUInt16.toUInt32.toInt32)), .val (.int (((((p2.toUInt32 >>> ((8 : Int32) &&& 31).toUInt32).toInt32) &&& (255 : Int32))).toUInt32.toUInt16.toUInt32.toInt32)), .unset, .unset, .unset, .unset, .unset, .unset, .unset, .unset, .unset, .unset] [(.int (((((p2.toUInt32 >>> ((16 : Int32) &&& 31).toUInt32).toInt32) &&& (255 : Int32))).toUInt32.toUInt16.toUInt32.toInt32))])) _
        refine XS.istore X0.here hx rfl (hb hby at_138) rfl (l' := #[.val (.int p1), .val (.int p2), .val (.int p3), .val (.int (p3 &&& (3 : Int32))), .val (.int (((p3.toUInt32 >>> ((2 : Int32) &&& 31).toUInt32).toInt32) &&& (3 : Int32))), .val (.int c5), .val (.int c6), .val (.int ((p1 &&& (255 : Int32)).toUInt32.toUInt16.toUInt32.toInt32)), .val (.int (((((p1.toUInt32 >>> ((8 : Int32) &&& 31).toUInt32).toInt32) &&& (255 : Int32))).toUInt32.toUInt16.toUInt32.toInt32)), .val (.int (((((p1.toUInt32 >>> ((16 : Int32) &&& 31).toUInt32).toInt32) &&& (255 : Int32))).toUInt32.toUInt16.toUInt32.toInt32)), .val (.int ((p2 &&& (255 : Int32)).toUInt32.toUInt16.toUInt32.toInt32)), .val (.int (((((p2.toUInt32 >>> ((8 : Int32) &&& 31).toUInt32).toInt32) &&& (255 : Int32))).toUInt32.toUInt16.toUInt32.toInt32)), .val (.int (((((p2.toUInt32 >>> ((16 : Int32) &&& 31).toUInt32).toInt32) &&& (255 : Int32))).toUInt32.toUInt16.toUInt32.toInt32)), .unset, .unset, .unset, .unset, .unset, .unset, .unset, .unset, .unset]) rfl ?_
        exact kq)
      exact ⟨((p2 &&& (255 : Int32)).toUInt32.toUInt16.toUInt32.toInt32), (((((p2.toUInt32 >>> ((8 : Int32) &&& 31).toUInt32).toInt32) &&& (255 : Int32))).toUInt32.toUInt16.toUInt32.toInt32), (((((p2.toUInt32 >>> ((16 : Int32) &&& 31).toUInt32).toInt32) &&& (255 : Int32))).toUInt32.toUInt16.toUInt32.toInt32), ⟨own_b8 _, own_b8 _, own_b8 _⟩, go156⟩
    · have go157 : Goes p e below s₁ (G_rm0 m p1 p2 p3) s₁ (mkF m 140 #[.val (.int p1), .val (.int p2), .val (.int p3), .val (.int (p3 &&& (3 : Int32))), .val (.int (((p3.toUInt32 >>> ((2 : Int32) &&& 31).toUInt32).toInt32) &&& (3 : Int32))), .val (.int c5), .val (.int c6), .val (.int ((p1 &&& (255 : Int32)).toUInt32.toUInt16.toUInt32.toInt32)), .val (.int (((((p1.toUInt32 >>> ((8 : Int32) &&& 31).toUInt32).toInt32) &&& (255 : Int32))).toUInt32.toUInt16.toUInt32.toInt32)), .val (.int (((((p1.toUInt32 >>> ((16 : Int32) &&& 31).toUInt32).toInt32) &&& (255 : Int32))).toUInt32.toUInt16.toUInt32.toInt32)), .val (.int (((((p1 &&& (255 : Int32)).toUInt32.toUInt16.toUInt32.toInt32) ^^^ (p2 &&& (1 : Int32)))).toUInt32.toUInt16.toUInt32.toInt32)), .val (.int ((((((((p1.toUInt32 >>> ((8 : Int32) &&& 31).toUInt32).toInt32) &&& (255 : Int32))).toUInt32.toUInt16.toUInt32.toInt32) ^^^ (((p2.toUInt32 >>> ((1 : Int32) &&& 31).toUInt32).toInt32) &&& (1 : Int32)))).toUInt32.toUInt16.toUInt32.toInt32)), .val (.int ((((((((p1.toUInt32 >>> ((16 : Int32) &&& 31).toUInt32).toInt32) &&& (255 : Int32))).toUInt32.toUInt16.toUInt32.toInt32) ^^^ (((p2.toUInt32 >>> ((2 : Int32) &&& 31).toUInt32).toInt32) &&& (1 : Int32)))).toUInt32.toUInt16.toUInt32.toInt32)), .unset, .unset, .unset, .unset, .unset, .unset, .unset, .unset, .unset] []) := fun tq kq => go154 tq (by
        show Steps p.tables e below (s₁.setTop (mkF m 73 #[.val (.int p1), .val (.int p2), .val (.int p3), .val (.int (p3 &&& (3 : Int32))), .val (.int (((p3.toUInt32 >>> ((2 : Int32) &&& 31).toUInt32).toInt32) &&& (3 : Int32))), .val (.int c5), .val (.int c6), .val (.int ((p1 &&& (255 : Int32)).toUInt32.toUInt16.toUInt32.toInt32)), .val (.int (((((p1.toUInt32 >>> ((8 : Int32) &&& 31).toUInt32).toInt32) &&& (255 : Int32))).toUInt32.toUInt16.toUInt32.toInt32)), .val (.int (((((p1.toUInt32 >>> ((16 : Int32) &&& 31).toUInt32).toInt32) &&& (255 : Int32))).toUInt32.toUInt16.toUInt32.toInt32)), .unset, .unset, .unset, .unset, .unset, .unset, .unset, .unset, .unset, .unset, .unset, .unset] [(.int c5)])) _
        refine XS.ifNo X0.here hx rfl (hb hby at_73) rfl ((if0 _ _).trans (feq hc73_155).1) ?_
        show Steps p.tables e below (s₁.setTop (mkF m 76 #[.val (.int p1), .val (.int p2), .val (.int p3), .val (.int (p3 &&& (3 : Int32))), .val (.int (((p3.toUInt32 >>> ((2 : Int32) &&& 31).toUInt32).toInt32) &&& (3 : Int32))), .val (.int c5), .val (.int c6), .val (.int ((p1 &&& (255 : Int32)).toUInt32.toUInt16.toUInt32.toInt32)), .val (.int (((((p1.toUInt32 >>> ((8 : Int32) &&& 31).toUInt32).toInt32) &&& (255 : Int32))).toUInt32.toUInt16.toUInt32.toInt32)), .val (.int (((((p1.toUInt32 >>> ((16 : Int32) &&& 31).toUInt32).toInt32) &&& (255 : Int32))).toUInt32.toUInt16.toUInt32.toInt32)), .unset, .unset, .unset, .unset, .unset, .unset, .unset, .unset, .unset, .unset, .unset, .unset] [])) _
        refine XS.iload X0.here hx rfl (hb hby at_76) rfl ?_
        show Steps p.tables e below (s₁.setTop (mkF m 78 #[.val (.int p1), .val (.int p2), .val (.int p3), .val (.int (p3 &&& (3 : Int32))), .val (.int (((p3.toUInt32 >>> ((2 : Int32) &&& 31).toUInt32).toInt32) &&& (3 : Int32))), .val (.int c5), .val (.int c6), .val (.int ((p1 &&& (255 : Int32)).toUInt32.toUInt16.toUInt32.toInt32)), .val (.int (((((p1.toUInt32 >>> ((8 : Int32) &&& 31).toUInt32).toInt32) &&& (255 : Int32))).toUInt32.toUInt16.toUInt32.toInt32)), .val (.int (((((p1.toUInt32 >>> ((16 : Int32) &&& 31).toUInt32).toInt32) &&& (255 : Int32))).toUInt32.toUInt16.toUInt32.toInt32)), .unset, .unset, .unset, .unset, .unset, .unset, .unset, .unset, .unset, .unset, .unset, .unset] [(.int ((p1 &&& (255 : Int32)).toUInt32.toUInt16.toUInt32.toInt32))])) _
        refine XS.iloadN X0.here hx rfl (hb hby at_78) rfl ?_
        show Steps p.tables e below (s₁.setTop (mkF m 79 #[.val (.int p1), .val (.int p2), .val (.int p3), .val (.int (p3 &&& (3 : Int32))), .val (.int (((p3.toUInt32 >>> ((2 : Int32) &&& 31).toUInt32).toInt32) &&& (3 : Int32))), .val (.int c5), .val (.int c6), .val (.int ((p1 &&& (255 : Int32)).toUInt32.toUInt16.toUInt32.toInt32)), .val (.int (((((p1.toUInt32 >>> ((8 : Int32) &&& 31).toUInt32).toInt32) &&& (255 : Int32))).toUInt32.toUInt16.toUInt32.toInt32)), .val (.int (((((p1.toUInt32 >>> ((16 : Int32) &&& 31).toUInt32).toInt32) &&& (255 : Int32))).toUInt32.toUInt16.toUInt32.toInt32)), .unset, .unset, .unset, .unset, .unset, .unset, .unset, .unset, .unset, .unset, .unset, .unset] [(.int p2), (.int ((p1 &&& (255 : Int32)).toUInt32.toUInt16.toUInt32.toInt32))])) _
        refine XS.iconst X0.here hx rfl (hb hby at_79) ?_
        show Steps p.tables e below (s₁.setTop (mkF m 80 #[.val (.int p1), .val (.int p2), .val (.int p3), .val (.int (p3 &&& (3 : Int32))), .val (.int (((p3.toUInt32 >>> ((2 : Int32) &&& 31).toUInt32).toInt32) &&& (3 : Int32))), .val (.int c5), .val (.int c6), .val (.int ((p1 &&& (255 : Int32)).toUInt32.toUInt16.toUInt32.toInt32)), .val (.int (((((p1.toUInt32 >>> ((8 : Int32) &&& 31).toUInt32).toInt32) &&& (255 : Int32))).toUInt32.toUInt16.toUInt32.toInt32)), .val (.int (((((p1.toUInt32 >>> ((16 : Int32) &&& 31).toUInt32).toInt32) &&& (255 : Int32))).toUInt32.toUInt16.toUInt32.toInt32)), .unset, .unset, .unset, .unset, .unset, .unset, .unset, .unset, .unset, .unset, .unset, .unset] [(.int (1 : Int32)), (.int p2), (.int ((p1 &&& (255 : Int32)).toUInt32.toUInt16.toUInt32.toInt32))])) _
        refine XS.iand X0.here hx rfl (hb hby at_80) rfl ?_
        show Steps p.tables e below (s₁.setTop (mkF m 81 #[.val (.int p1), .val (.int p2), .val (.int p3), .val (.int (p3 &&& (3 : Int32))), .val (.int (((p3.toUInt32 >>> ((2 : Int32) &&& 31).toUInt32).toInt32) &&& (3 : Int32))), .val (.int c5), .val (.int c6), .val (.int ((p1 &&& (255 : Int32)).toUInt32.toUInt16.toUInt32.toInt32)), .val (.int (((((p1.toUInt32 >>> ((8 : Int32) &&& 31).toUInt32).toInt32) &&& (255 : Int32))).toUInt32.toUInt16.toUInt32.toInt32)), .val (.int (((((p1.toUInt32 >>> ((16 : Int32) &&& 31).toUInt32).toInt32) &&& (255 : Int32))).toUInt32.toUInt16.toUInt32.toInt32)), .unset, .unset, .unset, .unset, .unset, .unset, .unset, .unset, .unset, .unset, .unset, .unset] [(.int (p2 &&& (1 : Int32))), (.int ((p1 &&& (255 : Int32)).toUInt32.toUInt16.toUInt32.toInt32))])) _
        refine XS.ixor X0.here hx rfl (hb hby at_81) rfl ?_
        show Steps p.tables e below (s₁.setTop (mkF m 82 #[.val (.int p1), .val (.int p2), .val (.int p3), .val (.int (p3 &&& (3 : Int32))), .val (.int (((p3.toUInt32 >>> ((2 : Int32) &&& 31).toUInt32).toInt32) &&& (3 : Int32))), .val (.int c5), .val (.int c6), .val (.int ((p1 &&& (255 : Int32)).toUInt32.toUInt16.toUInt32.toInt32)), .val (.int (((((p1.toUInt32 >>> ((8 : Int32) &&& 31).toUInt32).toInt32) &&& (255 : Int32))).toUInt32.toUInt16.toUInt32.toInt32)), .val (.int (((((p1.toUInt32 >>> ((16 : Int32) &&& 31).toUInt32).toInt32) &&& (255 : Int32))).toUInt32.toUInt16.toUInt32.toInt32)), .unset, .unset, .unset, .unset, .unset, .unset, .unset, .unset, .unset, .unset, .unset, .unset] [(.int (((p1 &&& (255 : Int32)).toUInt32.toUInt16.toUInt32.toInt32) ^^^ (p2 &&& (1 : Int32))))])) _
        refine XS.i2c X0.here hx rfl (hb hby at_82) rfl ?_
        show Steps p.tables e below (s₁.setTop (mkF m 83 #[.val (.int p1), .val (.int p2), .val (.int p3), .val (.int (p3 &&& (3 : Int32))), .val (.int (((p3.toUInt32 >>> ((2 : Int32) &&& 31).toUInt32).toInt32) &&& (3 : Int32))), .val (.int c5), .val (.int c6), .val (.int ((p1 &&& (255 : Int32)).toUInt32.toUInt16.toUInt32.toInt32)), .val (.int (((((p1.toUInt32 >>> ((8 : Int32) &&& 31).toUInt32).toInt32) &&& (255 : Int32))).toUInt32.toUInt16.toUInt32.toInt32)), .val (.int (((((p1.toUInt32 >>> ((16 : Int32) &&& 31).toUInt32).toInt32) &&& (255 : Int32))).toUInt32.toUInt16.toUInt32.toInt32)), .unset, .unset, .unset, .unset, .unset, .unset, .unset, .unset, .unset, .unset, .unset, .unset] [(.int (((((p1 &&& (255 : Int32)).toUInt32.toUInt16.toUInt32.toInt32) ^^^ (p2 &&& (1 : Int32)))).toUInt32.toUInt16.toUInt32.toInt32))])) _
        refine XS.istore X0.here hx rfl (hb hby at_83) rfl (l' := #[.val (.int p1), .val (.int p2), .val (.int p3), .val (.int (p3 &&& (3 : Int32))), .val (.int (((p3.toUInt32 >>> ((2 : Int32) &&& 31).toUInt32).toInt32) &&& (3 : Int32))), .val (.int c5), .val (.int c6), .val (.int ((p1 &&& (255 : Int32)).toUInt32.toUInt16.toUInt32.toInt32)), .val (.int (((((p1.toUInt32 >>> ((8 : Int32) &&& 31).toUInt32).toInt32) &&& (255 : Int32))).toUInt32.toUInt16.toUInt32.toInt32)), .val (.int (((((p1.toUInt32 >>> ((16 : Int32) &&& 31).toUInt32).toInt32) &&& (255 : Int32))).toUInt32.toUInt16.toUInt32.toInt32)), .val (.int (((((p1 &&& (255 : Int32)).toUInt32.toUInt16.toUInt32.toInt32) ^^^ (p2 &&& (1 : Int32)))).toUInt32.toUInt16.toUInt32.toInt32)), .unset, .unset, .unset, .unset, .unset, .unset, .unset, .unset, .unset, .unset, .unset]) rfl ?_
        show Steps p.tables e below (s₁.setTop (mkF m 85 #[.val (.int p1), .val (.int p2), .val (.int p3), .val (.int (p3 &&& (3 : Int32))), .val (.int (((p3.toUInt32 >>> ((2 : Int32) &&& 31).toUInt32).toInt32) &&& (3 : Int32))), .val (.int c5), .val (.int c6), .val (.int ((p1 &&& (255 : Int32)).toUInt32.toUInt16.toUInt32.toInt32)), .val (.int (((((p1.toUInt32 >>> ((8 : Int32) &&& 31).toUInt32).toInt32) &&& (255 : Int32))).toUInt32.toUInt16.toUInt32.toInt32)), .val (.int (((((p1.toUInt32 >>> ((16 : Int32) &&& 31).toUInt32).toInt32) &&& (255 : Int32))).toUInt32.toUInt16.toUInt32.toInt32)), .val (.int (((((p1 &&& (255 : Int32)).toUInt32.toUInt16.toUInt32.toInt32) ^^^ (p2 &&& (1 : Int32)))).toUInt32.toUInt16.toUInt32.toInt32)), .unset, .unset, .unset, .unset, .unset, .unset, .unset, .unset, .unset, .unset, .unset] [])) _
        refine XS.iload X0.here hx rfl (hb hby at_85) rfl ?_
        show Steps p.tables e below (s₁.setTop (mkF m 87 #[.val (.int p1), .val (.int p2), .val (.int p3), .val (.int (p3 &&& (3 : Int32))), .val (.int (((p3.toUInt32 >>> ((2 : Int32) &&& 31).toUInt32).toInt32) &&& (3 : Int32))), .val (.int c5), .val (.int c6), .val (.int ((p1 &&& (255 : Int32)).toUInt32.toUInt16.toUInt32.toInt32)), .val (.int (((((p1.toUInt32 >>> ((8 : Int32) &&& 31).toUInt32).toInt32) &&& (255 : Int32))).toUInt32.toUInt16.toUInt32.toInt32)), .val (.int (((((p1.toUInt32 >>> ((16 : Int32) &&& 31).toUInt32).toInt32) &&& (255 : Int32))).toUInt32.toUInt16.toUInt32.toInt32)), .val (.int (((((p1 &&& (255 : Int32)).toUInt32.toUInt16.toUInt32.toInt32) ^^^ (p2 &&& (1 : Int32)))).toUInt32.toUInt16.toUInt32.toInt32)), .unset, .unset, .unset, .unset, .unset, .unset, .unset, .unset, .unset, .unset, .unset] [(.int (((((p1.toUInt32 >>> ((8 : Int32) &&& 31).toUInt32).toInt32) &&& (255 : Int32))).toUInt32.toUInt16.toUInt32.toInt32))])) _
        refine XS.iloadN X0.here hx rfl (hb hby at_87) rfl ?_
        show Steps p.tables e below (s₁.setTop (mkF m 88 #[.val (.int p1), .val (.int p2), .val (.int p3), .val (.int (p3 &&& (3 : Int32))), .val (.int (((p3.toUInt32 >>> ((2 : Int32) &&& 31).toUInt32).toInt32) &&& (3 : Int32))), .val (.int c5), .val (.int c6), .val (.int ((p1 &&& (255 : Int32)).toUInt32.toUInt16.toUInt32.toInt32)), .val (.int (((((p1.toUInt32 >>> ((8 : Int32) &&& 31).toUInt32).toInt32) &&& (255 : Int32))).toUInt32.toUInt16.toUInt32.toInt32)), .val (.int (((((p1.toUInt32 >>> ((16 : Int32) &&& 31).toUInt32).toInt32) &&& (255 : Int32))).toUInt32.toUInt16.toUInt32.toInt32)), .val (.int (((((p1 &&& (255 : Int32)).toUInt32.toUInt16.toUInt32.toInt32) ^^^ (p2 &&& (1 : Int32)))).toUInt32.toUInt16.toUInt32.toInt32)), .unset, .unset, .unset, .unset, .unset, .unset, .unset, .unset, .unset, .unset, .unset] [(.int p2), (.int (((((p1.toUInt32 >>> ((8 : Int32) &&& 31).toUInt32).toInt32) &&& (255 : Int32))).toUInt32.toUInt16.toUInt32.toInt32))])) _
        refine XS.iconst X0.here hx rfl (hb hby at_88) ?_
        show Steps p.tables e below (s₁.setTop (mkF m 89 #[.val (.int p1), .val (.int p2), .val (.int p3), .val (.int (p3 &&& (3 : Int32))), .val (.int (((p3.toUInt32 >>> ((2 : Int32) &&& 31).toUInt32).toInt32) &&& (3 : Int32))), .val (.int c5), .val (.int c6), .val (.int ((p1 &&& (255 : Int32)).toUInt32.toUInt16.toUInt32.toInt32)), .val (.int (((((p1.toUInt32 >>> ((8 : Int32) &&& 31).toUInt32).toInt32) &&& (255 : Int32))).toUInt32.toUInt16.toUInt32.toInt32)), .val (.int (((((p1.toUInt32 >>> ((16 : Int32) &&& 31).toUInt32).toInt32) &&& (255 : Int32))).toUInt32.toUInt16.toUInt32.toInt32)), .val (.int (((((p1 &&& (255 : Int32)).toUInt32.toUInt16.toUInt32.toInt32) ^^^ (p2 &&& (1 : Int32)))).toUInt32.toUInt16.toUInt32.toInt32)), .unset, .unset, .unset, .unset, .unset, .unset, .unset, .unset, .unset, .unset, .unset] [(.int (1 : Int32)), (.int p2), (.int (((((p1.toUInt32 >>> ((8 : Int32) &&& 31).toUInt32).toInt32) &&& (255 : Int32))).toUInt32.toUInt16.toUInt32.toInt32))])) _
        refine XS.iushr X0.here hx rfl (hb hby at_89) rfl ?_
        show Steps p.tables e below (s₁.setTop (mkF m 90 #[.val (.int p1), .val (.int p2), .val (.int p3), .val (.int (p3 &&& (3 : Int32))), .val (.int (((p3.toUInt32 >>> ((2 : Int32) &&& 31).toUInt32).toInt32) &&& (3 : Int32))), .val (.int c5), .val (.int c6), .val (.int ((p1 &&& (255 : Int32)).toUInt32.toUInt16.toUInt32.toInt32)), .val (.int (((((p1.toUInt32 >>> ((8 : Int32) &&& 31).toUInt32).toInt32) &&& (255 : Int32))).toUInt32.toUInt16.toUInt32.toInt32)), .val (.int (((((p1.toUInt32 >>> ((16 : Int32) &&& 31).toUInt32).toInt32) &&& (255 : Int32))).toUInt32.toUInt16.toUInt32.toInt32)), .val (.int (((((p1 &&& (255 : Int32)).toUInt32.toUInt16.toUInt32.toInt32) ^^^ (p2 &&& (1 : Int32)))).toUInt32.toUInt16.toUInt32.toInt32)), .unset, .unset, .unset, .unset, .unset, .unset, .unset, .unset, .unset, .unset, .unset] [(.int ((p2.toUInt32 >>> ((1 : Int32) &&& 31).toUInt32).toInt32)), (.int (((((p1.toUInt32 >>> ((8 : Int32) &&& 31).toUInt32).toInt32) &&& (255 : Int32))).toUInt32.toUInt16.toUInt32.toInt32))])) _
        refine XS.iconst X0.here hx rfl (hb hby at_90) ?_
        show Steps p.tables e below (s₁.setTop (mkF m 91 #[.val (.int p1), .val (.int p2), .val (.int p3), .val (.int (p3 &&& (3 : Int32))), .val (.int (((p3.toUInt32 >>> ((2 : Int32) &&& 31).toUInt32).toInt32) &&& (3 : Int32))), .val (.int c5), .val (.int c6), .val (.int ((p1 &&& (255 : Int32)).toUInt32.toUInt16.toUInt32.toInt32)), .val (.int (((((p1.toUInt32 >>> ((8 : Int32) &&& 31).toUInt32).toInt32) &&& (255 : Int32))).toUInt32.toUInt16.toUInt32.toInt32)), .val (.int (((((p1.toUInt32 >>> ((16 : Int32) &&& 31).toUInt32).toInt32) &&& (255 : Int32))).toUInt32.toUInt16.toUInt32.toInt32)), .val (.int (((((p1 &&& (255 : Int32)).toUInt32.toUInt16.toUInt32.toInt32) ^^^ (p2 &&& (1 : Int32)))).toUInt32.toUInt16.toUInt32.toInt32)), .unset, .unset, .unset, .unset, .unset, .unset, .unset, .unset, .unset, .unset, .unset] [(.int (1 : Int32)), (.int ((p2.toUInt32 >>> ((1 : Int32) &&& 31).toUInt32).toInt32)), (.int (((((p1.toUInt32 >>> ((8 : Int32) &&& 31).toUInt32).toInt32) &&& (255 : Int32))).toUInt32.toUInt16.toUInt32.toInt32))])) _
        refine XS.iand X0.here hx rfl (hb hby at_91) rfl ?_
        show Steps p.tables e below (s₁.setTop (mkF m 92 #[.val (.int p1), .val (.int p2), .val (.int p3), .val (.int (p3 &&& (3 : Int32))), .val (.int (((p3.toUInt32 >>> ((2 : Int32) &&& 31).toUInt32).toInt32) &&& (3 : Int32))), .val (.int c5), .val (.int c6), .val (.int ((p1 &&& (255 : Int32)).toUInt32.toUInt16.toUInt32.toInt32)), .val (.int (((((p1.toUInt32 >>> ((8 : Int32) &&& 31).toUInt32).toInt32) &&& (255 : Int32))).toUInt32.toUInt16.toUInt32.toInt32)), .val (.int (((((p1.toUInt32 >>> ((16 : Int32) &&& 31).toUInt32).toInt32) &&& (255 : Int32))).toUInt32.toUInt16.toUInt32.toInt32)), .val (.int (((((p1 &&& (255 : Int32)).toUInt32.toUInt16.toUInt32.toInt32) ^^^ (p2 &&& (1 : Int32)))).toUInt32.toUInt16.toUInt32.toInt32)), .unset, .unset, .unset, .unset, .unset, .unset, .unset, .unset, .unset, .unset, .unset] [(.int (((p2.toUInt32 >>> ((1 : Int32) &&& 31).toUInt32).toInt32) &&& (1 : Int32))), (.int (((((p1.toUInt32 >>> ((8 : Int32) &&& 31).toUInt32).toInt32) &&& (255 : Int32))).toUInt32.toUInt16.toUInt32.toInt32))])) _
        refine XS.ixor X0.here hx rfl (hb hby at_92) rfl ?_
        show Steps p.tables e below (s₁.setTop (mkF m 93 #[.val (.int p1), .val (.int p2), .val (.int p3), .val (.int (p3 &&& (3 : Int32))), .val (.int (((p3.toUInt32 >>> ((2 : Int32) &&& 31).toUInt32).toInt32) &&& (3 : Int32))), .val (.int c5), .val (.int c6), .val (.int ((p1 &&& (255 : Int32)).toUInt32.toUInt16.toUInt32.toInt32)), .val (.int (((((p1.toUInt32 >>> ((8 : Int32) &&& 31).toUInt32).toInt32) &&& (255 : Int32))).toUInt32.toUInt16.toUInt32.toInt32)), .val (.int (((((p1.toUInt32 >>> ((16 : Int32) &&& 31).toUInt32).toInt32) &&& (255 : Int32))).toUInt32.toUInt16.toUInt32.toInt32)), .val (.int (((((p1 &&& (255 : Int32)).toUInt32.toUInt16.toUInt32.toInt32) ^^^ (p2 &&& (1 : Int32)))).toUInt32.toUInt16.toUInt32.toInt32)), .unset, .unset, .unset, .unset, .unset, .unset, .unset, .unset, .unset, .unset, .unset] [(.int ((((((p1.toUInt32 >>> ((8 : Int32) &&& 31).toUInt32).toInt32) &&& (255 : Int32))).toUInt32.toUInt16.toUInt32.toInt32) ^^^ (((p2.toUInt32 >>> ((1 : Int32) &&& 31).toUInt32).toInt32) &&& (1 : Int32))))])) _
        refine XS.i2c X0.here hx rfl (hb hby at_93) rfl ?_
        show Steps p.tables e below (s₁.setTop (mkF m 94 #[.val (.int p1), .val (.int p2), .val (.int p3), .val (.int (p3 &&& (3 : Int32))), .val (.int (((p3.toUInt32 >>> ((2 : Int32) &&& 31).toUInt32).toInt32) &&& (3 : Int32))), .val (.int c5), .val (.int c6), .val (.int ((p1 &&& (255 : Int32)).toUInt32.toUInt16.toUInt32.toInt32)), .val (.int (((((p1.toUInt32 >>> ((8 : Int32) &&& 31).toUInt32).toInt32) &&& (255 : Int32))).toUInt32.toUInt16.toUInt32.toInt32)), .val (.int (((((p1.toUInt32 >>> ((16 : Int32) &&& 31).toUInt32).toInt32) &&& (255 : Int32))).toUInt32.toUInt16.toUInt32.toInt32)), .val (.int (((((p1 &&& (255 : Int32)).toUInt32.toUInt16.toUInt32.toInt32) ^^^ (p2 &&& (1 : Int32)))).toUInt32.toUInt16.toUInt32.toInt32)), .unset, .unset, .unset, .unset, .unset, .unset, .unset, .unset, .unset, .unset, .unset] [(.int ((((((((p1.toUInt32 >>> ((8 : Int32) &&& 31).toUInt32).toInt32) &&& (255 : Int32))).toUInt32.toUInt16.toUInt32.toInt32) ^^^ (((p2.toUInt32 >>> ((1 : Int32) &&& 31).toUInt32).toInt32) &&& (1 : Int32)))).toUInt32.toUInt16.toUInt32.toInt32))])) _
        refine XS.istore X0.here hx rfl (hb hby at_94) rfl (l' := #[.val (.int p1), .val (.int p2), .val (.int p3), .val (.int (p3 &&& (3 : Int32))), .val (.int (((p3.toUInt32 >>> ((2 : Int32) &&& 31).toUInt32).toInt32) &&& (3 : Int32))), .val (.int c5), .val (.int c6), .val (.int ((p1 &&& (255 : Int32)).toUInt32.toUInt16.toUInt32.toInt32)), .val (.int (((((p1.toUInt32 >>> ((8 : Int32) &&& 31).toUInt32).toInt32) &&& (255 : Int32))).toUInt32.toUInt16.toUInt32.toInt32)), .val (.int (((((p1.toUInt32 >>> ((16 : Int32) &&& 31).toUInt32).toInt32) &&& (255 : Int32))).toUInt32.toUInt16.toUInt32.toInt32)), .val (.int (((((p1 &&& (255 : Int32)).toUInt32.toUInt16.toUInt32.toInt32) ^^^ (p2 &&& (1 : Int32)))).toUInt32.toUInt16.toUInt32.toInt32)), .val (.int ((((((((p1.toUInt32 >>> ((8 : Int32) &&& 31).toUInt32).toInt32) &&& (255 : Int32))).toUInt32.toUInt16.toUInt32.toInt32) ^^^ (((p2.toUInt32 >>> ((1 : Int32) &&& 31).toUInt32).toInt32) &&& (1 : Int32)))).toUInt32.toUInt16.toUInt32.toInt32)), .unset, .unset, .unset, .unset, .unset, .unset, .unset, .unset, .unset, .unset]) rfl ?_
        show Steps p.tables e below (s₁.setTop (mkF m 96 #[.val (.int p1), .val (.int p2), .val (.int p3), .val (.int (p3 &&& (3 : Int32))), .val (.int (((p3.toUInt32 >>> ((2 : Int32) &&& 31).toUInt32).toInt32) &&& (3 : Int32))), .val (.int c5), .val (.int c6), .val (.int ((p1 &&& (255 : Int32)).toUInt32.toUInt16.toUInt32.toInt32)), .val (.int (((((p1.toUInt32 >>> ((8 : Int32) &&& 31).toUInt32).toInt32) &&& (255 : Int32))).toUInt32.toUInt16.toUInt32.toInt32)), .val (.int (((((p1.toUInt32 >>> ((16 : Int32) &&& 31).toUInt32).toInt32) &&& (255 : Int32))).toUInt32.toUInt16.toUInt32.toInt32)), .val (.int (((((p1 &&& (255 : Int32)).toUInt32.toUInt16.toUInt32.toInt32) ^^^ (p2 &&& (1 : Int32)))).toUInt32.toUInt16.toUInt32.toInt32)), .val (.int ((((((((p1.toUInt32 >>> ((8 : Int32) &&& 31).toUInt32).toInt32) &&& (255 : Int32))).toUInt32.toUInt16.toUInt32.toInt32) ^^^ (((p2.toUInt32 >>> ((1 : Int32) &&& 31).toUInt32).toInt32) &&& (1 : Int32)))).toUInt32.toUInt16.toUInt32.toInt32)), .unset, .unset, .unset, .unset, .unset, .unset, .unset, .unset, .unset, .unset] [])) _
        refine XS.iload X0.here hx rfl (hb hby at_96) rfl ?_
        show Steps p.tables e below (s₁.setTop (mkF m 98 #[.val (.int p1), .val (.int p2), .val (.int p3), .val (.int (p3 &&& (3 : Int32))), .val (.int (((p3.toUInt32 >>> ((2 : Int32) &&& 31).toUInt32).toInt32) &&& (3 : Int32))), .val (.int c5), .val (.int c6), .val (.int ((p1 &&& (255 : Int32)).toUInt32.toUInt16.toUInt32.toInt32)), .val (.int (((((p1.toUInt32 >>> ((8 : Int32) &&& 31).toUInt32).toInt32) &&& (255 : Int32))).toUInt32.toUInt16.toUInt32.toInt32)), .val (.int (((((p1.toUInt32 >>> ((16 : Int32) &&& 31).toUInt32).toInt32) &&& (255 : Int32))).toUInt32.toUInt16.toUInt32.toInt32)), .val (.int (((((p1 &&& (255 : Int32)).toUInt32.toUInt16.toUInt32.toInt32) ^^^ (p2 &&& (1 : Int32)))).toUInt32.toUInt16.toUInt32.toInt32)), .val (.int ((((((((p1.toUInt32 >>> ((8 : Int32) &&& 31).toUInt32).toInt32) &&& (255 : Int32))).toUInt32.toUInt16.toUInt32.toInt32) ^^^ (((p2.toUInt32 >>> ((1 : Int32) &&& 31).toUInt32).toInt32) &&& (1 : Int32)))).toUInt32.toUInt16.toUInt32.toInt32)), .unset, .unset, .unset, .unset, .unset, .unset, .unset, .unset, .unset, .unset] [(.int (((((p1.toUInt32 >>> ((16 : Int32) &&& 31).toUInt32).toInt32) &&& (255 : Int32))).toUInt32.toUInt16.toUInt32.toInt32))])) _
        refine XS.iloadN X0.here hx rfl (hb hby at_98) rfl ?_
        show Steps p.tables e below (s₁.setTop (mkF m 99 #[.val (.int p1), .val (.int p2), .val (.int p3), .val (.int (p3 &&& (3 : Int32))), .val (.int (((p3.toUInt32 >>> ((2 : Int32) &&& 31).toUInt32).toInt32) &&& (3 : Int32))), .val (.int c5), .val (.int c6), .val (.int ((p1 &&& (255 : Int32)).toUInt32.toUInt16.toUInt32.toInt32)), .val (.int (((((p1.toUInt32 >>> ((8 : Int32) &&& 31).toUInt32).toInt32) &&& (255 : Int32))).toUInt32.toUInt16.toUInt32.toInt32)), .val (.int (((((p1.toUInt32 >>> ((16 : Int32) &&& 31).toUInt32).toInt32) &&& (255 : Int32))).toUInt32.toUInt16.toUInt32.toInt32)), .val (.int (((((p1 &&& (255 : Int32)).toUInt32.toUInt16.toUInt32.toInt32) ^^^ (p2 &&& (1 : Int32)))).toUInt32.toUInt16.toUInt32.toInt32)), .val (.int ((((((((p1.toUInt32 >>> ((8 : Int32) &&& 31).toUInt32).toInt32) &&& (255 : Int32))).toUInt32.toUInt16.toUInt32.toInt32) ^^^ (((p2.toUInt32 >>> ((1 : Int32) &&& 31).toUInt32).toInt32) &&& (1 : Int32)))).toUInt32.toUInt16.toUInt32.toInt32)), .unset, .unset, .unset, .unset, .unset, .unset, .unset, .unset, .unset, .unset] [(.int p2), (.int (((((p1.toUInt32 >>> ((16 : Int32) &&& 31).toUInt32).toInt32) &&& (255 : Int32))).toUInt32.toUInt16.toUInt32.toInt32))])) _
        refine XS.iconst X0.here hx rfl (hb hby at_99) ?_
        show Steps p.tables e below (s₁.setTop (mkF m 100 #[.val (.int p1), .val (.int p2), .val (.int p3), .val (.int (p3 &&& (3 : Int32))), .val (.int (((p3.toUInt32 >>> ((2 : Int32) &&& 31).toUInt32).toInt32) &&& (3 : Int32))), .val (.int c5), .val (.int c6), .val (.int ((p1 &&& (255 : Int32)).toUInt32.toUInt16.toUInt32.toInt32)), .val (.int (((((p1.toUInt32 >>> ((8 : Int32) &&& 31).toUInt32).toInt32) &&& (255 : Int32))).toUInt32.toUInt16.toUInt32.toInt32)), .val (.int (((((p1.toUInt32 >>> ((16 : Int32) &&& 31).toUInt32).toInt32) &&& (255 : Int32))).toUInt32.toUInt16.toUInt32.toInt32)), .val (.int (((((p1 &&& (255 : Int32)).toUInt32.toUInt16.toUInt32.toInt32) ^^^ (p2 &&& (1 : Int32)))).toUInt32.toUInt16.toUInt32.toInt32)), .val (.int ((((((((p1.toUInt32 >>> ((8 : Int32) &&& 31).toUInt32).toInt32) &&& (255 : Int32))).toUInt32.toUInt16.toUInt32.toInt32) ^^^ (((p2.toUInt32 >>> ((1 : Int32) &&& 31).toUInt32).toInt32) &&& (1 : Int32)))).toUInt32.toUInt16.toUInt32.toInt32)), .unset, .unset, .unset, .unset, .unset, .unset, .unset, .unset, .unset, .unset] [(.int (2 : Int32)), (.int p2), (.int (((((p1.toUInt32 >>> ((16 : Int32) &&& 31).toUInt32).toInt32) &&& (255 : Int32))).toUInt32.toUInt16.toUInt32.toInt32))])) _
        refine XS.iushr X0.here hx rfl (hb hby at_100) rfl ?_
        show Steps p.tables e below (s₁.setTop (mkF m 101 #[.val (.int p1), .val (.int p2), .val (.int p3), .val (.int (p3 &&& (3 : Int32))), .val (.int (((p3.toUInt32 >>> ((2 : Int32) &&& 31).toUInt32).toInt32) &&& (3 : Int32))), .val (.int c5), .val (.int c6), .val (.int ((p1 &&& (255 : Int32)).toUInt32.toUInt16.toUInt32.toInt32)), .val (.int (((((p1.toUInt32 >>> ((8 : Int32) &&& 31).toUInt32).toInt32) &&& (255 : Int32))).toUInt32.toUInt16.toUInt32.toInt32)), .val (.int (((((p1.toUInt32 >>> ((16 : Int32) &&& 31).toUInt32).toInt32) &&& (255 : Int32))).toUInt32.toUInt16.toUInt32.toInt32)), .val (.int (((((p1 &&& (255 : Int32)).toUInt32.toUInt16.toUInt32.toInt32) ^^^ (p2 &&& (1 : Int32)))).toUInt32.toUInt16.toUInt32.toInt32)), .val (.int ((((((((p1.toUInt32 >>> ((8 : Int32) &&& 31).toUInt32).toInt32) &&& (255 : Int32))).toUInt32.toUInt16.toUInt32.toInt32) ^^^ (((p2.toUInt32 >>> ((1 : Int32) &&& 31).toUInt32).toInt32) &&& (1 : Int32)))).toUInt32.toUInt16.toUInt32.toInt32)), .unset, .unset, .unset, .unset, .unset, .unset, .unset, .unset, .unset, .unset] [(.int ((p2.toUInt32 >>> ((2 : Int32) &&& 31).toUInt32).toInt32)), (.int (((((p1.toUInt32 >>> ((16 : Int32) &&& 31).toUInt32).toInt32) &&& (255 : Int32))).toUInt32.toUInt16.toUInt32.toInt32))])) _
        refine XS.iconst X0.here hx rfl (hb hby at_101) ?_
        show Steps p.tables e below (s₁.setTop (mkF m 102 #[.val (.int p1), .val (.int p2), .val (.int p3), .val (.int (p3 &&& (3 : Int32))), .val (.int (((p3.toUInt32 >>> ((2 : Int32) &&& 31).toUInt32).toInt32) &&& (3 : Int32))), .val (.int c5), .val (.int c6), .val (.int ((p1 &&& (255 : Int32)).toUInt32.toUInt16.toUInt32.toInt32)), .val (.int (((((p1.toUInt32 >>> ((8 : Int32) &&& 31).toUInt32).toInt32) &&& (255 : Int32))).toUInt32.toUInt16.toUInt32.toInt32)), .val (.int (((((p1.toUInt32 >>> ((16 : Int32) &&& 31).toUInt32).toInt32) &&& (255 : Int32))).toUInt32.toUInt16.toUInt32.toInt32)), .val (.int (((((p1 &&& (255 : Int32)).toUInt32.toUInt16.toUInt32.toInt32) ^^^ (p2 &&& (1 : Int32)))).toUInt32.toUInt16.toUInt32.toInt32)), .val (.int ((((((((p1.toUInt32 >>> ((8 : Int32) &&& 31).toUInt32).toInt32) &&& (255 : Int32))).toUInt32.toUInt16.toUInt32.toInt32) ^^^ (((p2.toUInt32 >>> ((1 : Int32) &&& 31).toUInt32).toInt32) &&& (1 : Int32)))).toUInt32.toUInt16.toUInt32.toInt32)), .unset, .unset, .unset, .unset, .unset, .unset, .unset, .unset, .unset, .unset] [(.int (1 : Int32)), (.int ((p2.toUInt32 >>> ((2 : Int32) &&& 31).toUInt32).toInt32)), (.int (((((p1.toUInt32 >>> ((16 : Int32) &&& 31).toUInt32).toInt32) &&& (255 : Int32))).toUInt32.toUInt16.toUInt32.toInt32))])) _
        refine XS.iand X0.here hx rfl (hb hby at_102) rfl ?_
        show Steps p.tables e below (s₁.setTop (mkF m 103 #[.val (.int p1), .val (.int p2), .val (.int p3), .val (.int (p3 &&& (3 : Int32))), .val (.int (((p3.toUInt32 >>> ((2 : Int32) &&& 31).toUInt32).toInt32) &&& (3 : Int32))), .val (.int c5), .val (.int c6), .val (.int ((p1 &&& (255 : Int32)).toUInt32.toUInt16.toUInt32.toInt32)), .val (.int (((((p1.toUInt32 >>> ((8 : Int32) &&& 31).toUInt32).toInt32) &&& (255 : Int32))).toUInt32.toUInt16.toUInt32.toInt32)), .val (.int (((((p1.toUInt32 >>> ((16 : Int32) &&& 31).toUInt32).toInt32) &&& (255 : Int32))).toUInt32.toUInt16.toUInt32.toInt32)), .val (.int (((((p1 &&& (255 : Int32)).toUInt32.toUInt16.toUInt32.toInt32) ^^^ (p2 &&& (1 : Int32)))).toUInt32.toUInt16.toUInt32.toInt32)), .val (.int ((((((((p1.toUInt32 >>> ((8 : Int32) &&& 31).toUInt32).toInt32) &&& (255 : Int32))).toUInt32.toUInt16.toUInt32.toInt32) ^^^ (((p2.toUInt32 >>> ((1 : Int32) &&& 31).toUInt32).toInt32) &&& (1 : Int32)))).toUInt32.toUInt16.toUInt32.toInt32)), .unset, .unset, .unset, .unset, .unset, .unset, .unset, .unset, .unset, .unset] [(.int (((p2.toUInt32 >>> ((2 : Int32) &&& 31).toUInt32).toInt32) &&& (1 : Int32))), (.int (((((p1.toUInt32 >>> ((16 : Int32) &&& 31).toUInt32).toInt32) &&& (255 : Int32))).toUInt32.toUInt16.toUInt32.toInt32))])) _
        refine XS.ixor X0.here hx rfl (hb hby at_103) rfl ?_
        show Steps p.tables e below (s₁.setTop (mkF m 104 #[.val (.int p1), .val (.int p2), .val (.int p3), .val (.int (p3 &&& (3 : Int32))), .val (.int (((p3.toUInt32 >>> ((2 : Int32) &&& 31).toUInt32).toInt32) &&& (3 : Int32))), .val (.int c5), .val (.int c6), .val (.int ((p1 &&& (255 : Int32)).toUInt32.toUInt16.toUInt32.toInt32)), .val (.int (((((p1.toUInt32 >>> ((8 : Int32) &&& 31).toUInt32).toInt32) &&& (255 : Int32))).toUInt32.toUInt16.toUInt32.toInt32)), .val (.int (((((p1.toUInt32 >>> ((16 : Int32) &&& 31).toUInt32).toInt32) &&& (255 : Int32))).toUInt32.toUInt16.toUInt32.toInt32)), .val (.int (((((p1 &&& (255 : Int32)).toUInt32.toUInt16.toUInt32.toInt32) ^^^ (p2 &&& (1 : Int32)))).toUInt32.toUInt16.toUInt32.toInt32)), .val (.int ((((((((p1.toUInt32 >>> ((8 : Int32) &&& 31).toUInt32).toInt32) &&& (255 : Int32))).toUInt32.toUInt16.toUInt32.toInt32) ^^^ (((p2.toUInt32 >>> ((1 : Int32) &&& 31).toUInt32).toInt32) &&& (1 : Int32)))).toUInt32.toUInt16.toUInt32.toInt32)), .unset, .unset, .unset, .unset, .unset, .unset, .unset, .unset, .unset, .unset] [(.int ((((((p1.toUInt32 >>> ((16 : Int32) &&& 31).toUInt32).toInt32) &&& (255 : Int32))).toUInt32.toUInt16.toUInt32.toInt32) ^^^ (((p2.toUInt32 >>> ((2 : Int32) &&& 31).toUInt32).toInt32) &&& (1 : Int32))))])) _
        refine XS.i2c X0.here hx rfl (hb hby at_104) rfl ?_
        show Steps p.tables e below (s₁.setTop (mkF m 105 #[.val (.int p1), .val (.int p2), .val (.int p3), .val (.int (p3 &&& (3 : Int32))), .val (.int (((p3.toUInt32 >>> ((2 : Int32) &&& 31).toUInt32).toInt32) &&& (3 : Int32))), .val (.int c5), .val (.int c6), .val (.int ((p1 &&& (255 : Int32)).toUInt32.toUInt16.toUInt32.toInt32)), .val (.int (((((p1.toUInt32 >>> ((8 : Int32) &&& 31).toUInt32).toInt32) &&& (255 : Int32))).toUInt32.toUInt16.toUInt32.toInt32)), .val (.int (((((p1.toUInt32 >>> ((16 : Int32) &&& 31).toUInt32).toInt32) &&& (255 : Int32))).toUInt32.toUInt16.toUInt32.toInt32)), .val (.int (((((p1 &&& (255 : Int32)).toUInt32.toUInt16.toUInt32.toInt32) ^^^ (p2 &&& (1 : Int32)))).toUInt32.toUInt16.toUInt32.toInt32)), .val (.int ((((((((p1.toUInt32 >>> ((8 : Int32) &&& 31).toUInt32).toInt32) &&& (255 : Int32))).toUInt32.toUInt16.toUInt32.toInt32) ^^^ (((p2.toUInt32 >>> ((1 : Int32) &&& 31).toUInt32).toInt32) &&& (1 : Int32)))).toUInt32.toUInt16.toUInt32.toInt32)), .unset, .unset, .unset, .unset, .unset, .unset, .unset, .unset, .unset, .unset] [(.int ((((((((p1.toUInt32 >>> ((16 : Int32) &&& 31).toUInt32).toInt32) &&& (255 : Int32))).toUInt32.toUInt16.toUInt32.toInt32) ^^^ (((p2.toUInt32 >>> ((2 : Int32) &&& 31).toUInt32).toInt32) &&& (1 : Int32)))).toUInt32.toUInt16.toUInt32.toInt32))])) _
        refine XS.istore X0.here hx rfl (hb hby at_105) rfl (l' := #[.val (.int p1), .val (.int p2), .val (.int p3), .val (.int (p3 &&& (3 : Int32))), .val (.int (((p3.toUInt32 >>> ((2 : Int32) &&& 31).toUInt32).toInt32) &&& (3 : Int32))), .val (.int c5), .val (.int c6), .val (.int ((p1 &&& (255 : Int32)).toUInt32.toUInt16.toUInt32.toInt32)), .val (.int (((((p1.toUInt32 >>> ((8 : Int32) &&& 31).toUInt32).toInt32) &&& (255 : Int32))).toUInt32.toUInt16.toUInt32.toInt32)), .val (.int (((((p1.toUInt32 >>> ((16 : Int32) &&& 31).toUInt32).toInt32) &&& (255 : Int32))).toUInt32.toUInt16.toUInt32.toInt32)), .val (.int (((((p1 &&& (255 : Int32)).toUInt32.toUInt16.toUInt32.toInt32) ^^^ (p2 &&& (1 : Int32)))).toUInt32.toUInt16.toUInt32.toInt32)), .val (.int ((((((((p1.toUInt32 >>> ((8 : Int32) &&& 31).toUInt32).toInt32) &&& (255 : Int32))).toUInt32.toUInt16.toUInt32.toInt32) ^^^ (((p2.toUInt32 >>> ((1 : Int32) &&& 31).toUInt32).toInt32) &&& (1 : Int32)))).toUInt32.toUInt16.toUInt32.toInt32)), .val (.int ((((((((p1.toUInt32 >>> ((16 : Int32) &&& 31).toUInt32).toInt32) &&& (255 : Int32))).toUInt32.toUInt16.toUInt32.toInt32) ^^^ (((p2.toUInt32 >>> ((2 : Int32) &&& 31).toUInt32).toInt32) &&& (1 : Int32)))).toUInt32.toUInt16.toUInt32.toInt32)), .unset, .unset, .unset, .unset, .unset, .unset, .unset, .unset, .unset]) rfl ?_
        show Steps p.tables e below (s₁.setTop (mkF m 107 #[.val (.int p1), .val (.int p2), .val (.int p3), .val (.int (p3 &&& (3 : Int32))), .val (.int (((p3.toUInt32 >>> ((2 : Int32) &&& 31).toUInt32).toInt32) &&& (3 : Int32))), .val (.int c5), .val (.int c6), .val (.int ((p1 &&& (255 : Int32)).toUInt32.toUInt16.toUInt32.toInt32)), .val (.int (((((p1.toUInt32 >>> ((8 : Int32) &&& 31).toUInt32).toInt32) &&& (255 : Int32))).toUInt32.toUInt16.toUInt32.toInt32)), .val (.int (((((p1.toUInt32 >>> ((16 : Int32) &&& 31).toUInt32).toInt32) &&& (255 : Int32))).toUInt32.toUInt16.toUInt32.toInt32)), .val (.int (((((p1 &&& (255 : Int32)).toUInt32.toUInt16.toUInt32.toInt32) ^^^ (p2 &&& (1 : Int32)))).toUInt32.toUInt16.toUInt32.toInt32)), .val (.int ((((((((p1.toUInt32 >>> ((8 : Int32) &&& 31).toUInt32).toInt32) &&& (255 : Int32))).toUInt32.toUInt16.toUInt32.toInt32) ^^^ (((p2.toUInt32 >>> ((1 : Int32) &&& 31).toUInt32).toInt32) &&& (1 : Int32)))).toUInt32.toUInt16.toUInt32.toInt32)), .val (.int ((((((((p1.toUInt32 >>> ((16 : Int32) &&& 31).toUInt32).toInt32) &&& (255 : Int32))).toUInt32.toUInt16.toUInt32.toInt32) ^^^ (((p2.toUInt32 >>> ((2 : Int32) &&& 31).toUInt32).toInt32) &&& (1 : Int32)))).toUInt32.toUInt16.toUInt32.toInt32)), .unset, .unset, .unset, .unset, .unset, .unset, .unset, .unset, .unset] [])) _
        refine XS.goto X0.here hx rfl (pc0 := 107) (pc' := 140) rfl (hb hby at_107) (by decide) (by decide) ?_
        exact kq)
      exact ⟨(((((p1 &&& (255 : Int32)).toUInt32.toUInt16.toUInt32.toInt32) ^^^ (p2 &&& (1 : Int32)))).toUInt32.toUInt16.toUInt32.toInt32), ((((((((p1.toUInt32 >>> ((8 : Int32) &&& 31).toUInt32).toInt32) &&& (255 : Int32))).toUInt32.toUInt16.toUInt32.toInt32) ^^^ (((p2.toUInt32 >>> ((1 : Int32) &&& 31).toUInt32).toInt32) &&& (1 : Int32)))).toUInt32.toUInt16.toUInt32.toInt32), ((((((((p1.toUInt32 >>> ((16 : Int32) &&& 31).toUInt32).toInt32) &&& (255 : Int32))).toUInt32.toUInt16.toUInt32.toInt32) ^^^ (((p2.toUInt32 >>> ((2 : Int32) &&& 31).toUInt32).toInt32) &&& (1 : Int32)))).toUInt32.toUInt16.toUInt32.toInt32), ⟨own_bx _ _, own_bx _ _, own_bx _ _⟩, go157⟩
  obtain ⟨la, h_la⟩ : ∃ z, z = (p3 &&& (3 : Int32)) := ⟨_, rfl⟩
  rw [← h_la] at go158
  obtain ⟨lp, h_lp⟩ : ∃ z, z = (((p3.toUInt32 >>> ((2 : Int32) &&& 31).toUInt32).toInt32) &&& (3 : Int32)) := ⟨_, rfl⟩
  rw [← h_lp] at go158
  obtain ⟨c0, h_c0⟩ : ∃ z, z = ((p1 &&& (255 : Int32)).toUInt32.toUInt16.toUInt32.toInt32) := ⟨_, rfl⟩
  rw [← h_c0] at go158
  obtain ⟨c1, h_c1⟩ : ∃ z, z = (((((p1.toUInt32 >>> ((8 : Int32) &&& 31).toUInt32).toInt32) &&& (255 : Int32))).toUInt32.toUInt16.toUInt32.toInt32) := ⟨_, rfl⟩
  rw [← h_c1] at go158
  obtain ⟨c2, h_c2⟩ : ∃ z, z = (((((p1.toUInt32 >>> ((16 : Int32) &&& 31).toUInt32).toInt32) &&& (255 : Int32))).toUInt32.toUInt16.toUInt32.toInt32) := ⟨_, rfl⟩
  rw [← h_c2] at go158
  have qa : Q4 la := by rw [h_la]; exact own_q4 _
  have qp : Q4 lp := by rw [h_lp]; exact own_q4 _
  have k_c0 : B8 c0 := by rw [h_c0]; exact own_b8 _
  have k_c1 : B8 c1 := by rw [h_c1]; exact own_b8 _
  have k_c2 : B8 c2 := by rw [h_c2]; exact own_b8 _
  clear h_la h_lp h_c0 h_c1 h_c2
  have go159 : Goes p e below s₁ (G_rm0 m p1 p2 p3) s₁ (mkF m 147 #[.val (.int p1), .val (.int p2), .val (.int p3), .val (.int la), .val (.int lp), .val (.int c5), .val (.int c6), .val (.int c0), .val (.int c1), .val (.int c2), .val (.int w0), .val (.int w1), .val (.int w2), .unset, .unset, .unset, .unset, .unset, .unset, .unset, .unset, .unset] [(.int c2), (.int c1), (.int c0), (.int la)]) := fun tq kq => go158 tq (by
    show Steps p.tables e below (s₁.setTop (mkF m 140 #[.val (.int p1), .val (.int p2), .val (.int p3), .val (.int la), .val (.int lp), .val (.int c5), .val (.int c6), .val (.int c0), .val (.int c1), .val (.int c2), .val (.int w0), .val (.int w1), .val (.int w2), .unset, .unset, .unset, .unset, .unset, .unset, .unset, .unset, .unset] [])) _
    refine XS.iloadN X0.here hx rfl (hb hby at_140) rfl ?_
    show Steps p.tables e below (s₁.setTop (mkF m 141 #[.val (.int p1), .val (.int p2), .val (.int p3), .val (.int la), .val (.int lp), .val (.int c5), .val (.int c6), .val (.int c0), .val (.int c1), .val (.int c2), .val (.int w0), .val (.int w1), .val (.int w2), .unset, .unset, .unset, .unset, .unset, .unset, .unset, .unset, .unset] [(.int la)])) _
    refine XS.iload X0.here hx rfl (hb hby at_141) rfl ?_
    show Steps p.tables e below (s₁.setTop (mkF m 143 #[.val (.int p1), .val (.int p2), .val (.int p3), .val (.int la), .val (.int lp), .val (.int c5), .val (.int c6), .val (.int c0), .val (.int c1), .val (.int c2), .val (.int w0), .val (.int w1), .val (.int w2), .unset, .unset, .unset, .unset, .unset, .unset, .unset, .unset, .unset] [(.int c0), (.int la)])) _
    refine XS.iload X0.here hx rfl (hb hby at_143) rfl ?_
    show Steps p.tables e below (s₁.setTop (mkF m 145 #[.val (.int p1), .val (.int p2), .val (.int p3), .val (.int la), .val (.int lp), .val (.int c5), .val (.int c6), .val (.int c0), .val (.int c1), .val (.int c2), .val (.int w0), .val (.int w1), .val (.int w2), .unset, .unset, .unset, .unset, .unset, .unset, .unset, .unset, .unset] [(.int c1), (.int c0), (.int la)])) _
    refine XS.iload X0.here hx rfl (hb hby at_145) rfl ?_
    exact kq)
  obtain ⟨vv160, _, ⟨T160, L160, k160, n160⟩, -, X160, hs160, gr160, ⟨Lc160, hQ160, l160, y160, z160⟩, st160⟩ := callSS X0 hx (y := (⟨"com/example/rightful_keys/rightfulkeys/store/ProjectIsDefaultPinLaw", "mk", "(ICCC)Ljava/lang/String;"⟩ : MethodName)) hown (mvT hZ (tw0 hw)) (mvT hZ (tw1 hw)) (mvT hZ (tw2 hw)) (mvT hZ (tw3 hw)) (by decide) (own_backV (W := 0) (rmMk l Z a0 hw [] la c0 c1 c2 cz h0 n0 Z0 O0 hcw hld SC hz k_c0 k_c1 k_c2) hZ hJ (tw3 hw) (tw2 hw) (by decide) (by decide)) (g := (mkF m 147 #[.val (.int p1), .val (.int p2), .val (.int p3), .val (.int la), .val (.int lp), .val (.int c5), .val (.int c6), .val (.int c0), .val (.int c1), .val (.int c2), .val (.int w0), .val (.int w1), .val (.int w2), .unset, .unset, .unset, .unset, .unset, .unset, .unset, .unset, .unset] [(.int c2), (.int c1), (.int c0), (.int la)])) rfl (by rw [hml]; rfl) (argsL := [(.int la), (.int c0), (.int c1), (.int c2)]) (rest := []) (lenOf pd_8 rfl) rfl (by show 2 * 0 + _ ≤ _; exact Nat.le_of_eq rfl) (hb hby at_147) (fun _ _ => ⟨rfl, e0, (by decide : 0 + 4 ≤ _), (by decide : 0 + 10 ≤ _)⟩)
  dsimp only [Pt.U, Pt.locs, Pt.cells, Pt.slots] at X160 hs160 gr160 l160 y160 z160 st160 hQ160
  subst l160 y160 z160
  obtain ⟨Y160, hS160, hZ160, hown160⟩ := rebS (s := s) (vm0 := s.vm) ((State.WarmedH.refl s).since 0) (Nat.zero_le _) X160 hs160 gr160 hZ hown
  have hZ := hZ160
  have hown := hown160
  obtain ⟨x160, t160, k160', N160', vs160, rfl, Nq160, K160, J160, E160', Fc160, Fv160, V160, C160⟩ := hQ160
  have N160 := Fr.app N0 Nq160
  have ZS160 : n0 ≤ T160.heap.size := Nat.le_trans Z0 K160.1
  have O160 := O0.keep K160 all0
  have go160 : Goes p e below s₁ (G_rm0 m p1 p2 p3) T160 (mkF m 150 #[.val (.int p1), .val (.int p2), .val (.int p3), .val (.int la), .val (.int lp), .val (.int c5), .val (.int c6), .val (.int c0), .val (.int c1), .val (.int c2), .val (.int w0), .val (.int w1), .val (.int w2), .unset, .unset, .unset, .unset, .unset, .unset, .unset, .unset, .unset] [(.ref x160)]) := fun tq kq => go159 tq (st160.trans kq)
  have go161 : Goes p e below s₁ (G_rm0 m p1 p2 p3) T160 (mkF m 160 #[.val (.int p1), .val (.int p2), .val (.int p3), .val (.int la), .val (.int lp), .val (.int c5), .val (.int c6), .val (.int c0), .val (.int c1), .val (.int c2), .val (.int w0), .val (.int w1), .val (.int w2), .val (.ref x160), .unset, .unset, .unset, .unset, .unset, .unset, .unset, .unset] [(.int w2), (.int w1), (.int w0), (.int lp)]) := fun tq kq => go160 tq (by
    show Steps p.tables e below (T160.setTop (mkF m 150 #[.val (.int p1), .val (.int p2), .val (.int p3), .val (.int la), .val (.int lp), .val (.int c5), .val (.int c6), .val (.int c0), .val (.int c1), .val (.int c2), .val (.int w0), .val (.int w1), .val (.int w2), .unset, .unset, .unset, .unset, .unset, .unset, .unset, .unset, .unset] [(.ref x160)])) _
    refine XS.astore Y160.here hx rfl (hb hby at_150) rfl rfl (l' := #[.val (.int p1), .val (.int p2), .val (.int p3), .val (.int la), .val (.int lp), .val (.int c5), .val (.int c6), .val (.int c0), .val (.int c1), .val (.int c2), .val (.int w0), .val (.int w1), .val (.int w2), .val (.ref x160), .unset, .unset, .unset, .unset, .unset, .unset, .unset, .unset]) rfl ?_
    show Steps p.tables e below (T160.setTop (mkF m 152 #[.val (.int p1), .val (.int p2), .val (.int p3), .val (.int la), .val (.int lp), .val (.int c5), .val (.int c6), .val (.int c0), .val (.int c1), .val (.int c2), .val (.int w0), .val (.int w1), .val (.int w2), .val (.ref x160), .unset, .unset, .unset, .unset, .unset, .unset, .unset, .unset] [])) _
    refine XS.iload Y160.here hx rfl (hb hby at_152) rfl ?_
    show Steps p.tables e below (T160.setTop (mkF m 154 #[.val (.int p1), .val (.int p2), .val (.int p3), .val (.int la), .val (.int lp), .val (.int c5), .val (.int c6), .val (.int c0), .val (.int c1), .val (.int c2), .val (.int w0), .val (.int w1), .val (.int w2), .val (.ref x160), .unset, .unset, .unset, .unset, .unset, .unset, .unset, .unset] [(.int lp)])) _
    refine XS.iload Y160.here hx rfl (hb hby at_154) rfl ?_
    show Steps p.tables e below (T160.setTop (mkF m 156 #[.val (.int p1), .val (.int p2), .val (.int p3), .val (.int la), .val (.int lp), .val (.int c5), .val (.int c6), .val (.int c0), .val (.int c1), .val (.int c2), .val (.int w0), .val (.int w1), .val (.int w2), .val (.ref x160), .unset, .unset, .unset, .unset, .unset, .unset, .unset, .unset] [(.int w0), (.int lp)])) _
    refine XS.iload Y160.here hx rfl (hb hby at_156) rfl ?_
    show Steps p.tables e below (T160.setTop (mkF m 158 #[.val (.int p1), .val (.int p2), .val (.int p3), .val (.int la), .val (.int lp), .val (.int c5), .val (.int c6), .val (.int c0), .val (.int c1), .val (.int c2), .val (.int w0), .val (.int w1), .val (.int w2), .val (.ref x160), .unset, .unset, .unset, .unset, .unset, .unset, .unset, .unset] [(.int w1), (.int w0), (.int lp)])) _
    refine XS.iload Y160.here hx rfl (hb hby at_158) rfl ?_
    exact kq)
  obtain ⟨vv162, _, ⟨T162, L162, k162, n162⟩, -, X162, hs162, gr162, ⟨Lc162, hQ162, l162, y162, z162⟩, st162⟩ := callSS Y160 hx (y := (⟨"com/example/rightful_keys/rightfulkeys/store/ProjectIsDefaultPinLaw", "mk", "(ICCC)Ljava/lang/String;"⟩ : MethodName)) hown (mvT hZ (tw0 hw)) (mvT hZ (tw1 hw)) (mvT hZ (tw2 hw)) (mvT hZ (tw3 hw)) (by decide) (own_backV (W := 0) (rmMk l Z a0 hw [] lp w0 w1 w2 cz T160.heap n0 ZS160 O160 hcw hld SC hz hx158.1 hx158.2.1 hx158.2.2) hZ J160 (tw3 hw) (tw2 hw) (by decide) (by decide)) (g := (mkF m 160 #[.val (.int p1), .val (.int p2), .val (.int p3), .val (.int la), .val (.int lp), .val (.int c5), .val (.int c6), .val (.int c0), .val (.int c1), .val (.int c2), .val (.int w0), .val (.int w1), .val (.int w2), .val (.ref x160), .unset, .unset, .unset, .unset, .unset, .unset, .unset, .unset] [(.int w2), (.int w1), (.int w0), (.int lp)])) rfl (by rw [hml]; rfl) (argsL := [(.int lp), (.int w0), (.int w1), (.int w2)]) (rest := []) (lenOf pd_8 rfl) rfl (by show 2 * 0 + _ ≤ _; exact Nat.le_of_eq rfl) (hb hby at_160) (fun _ _ => ⟨rfl, rfl, (by decide : 4 + 4 ≤ _), (by decide : 10 + 10 ≤ _)⟩)
  dsimp only [Pt.U, Pt.locs, Pt.cells, Pt.slots] at X162 hs162 gr162 l162 y162 z162 st162 hQ162
  subst l162 y162 z162
  obtain ⟨Y162, hS162, hZ162, hown162⟩ := rebS (s := s) (vm0 := T160.vm) hS160 (Nat.le_refl _) X162 hs162 gr162 hZ hown
  have hZ := hZ162
  have hown := hown162
  obtain ⟨x162, t162, k162', N162', vs162, rfl, Nq162, K162, J162, E162', Fc162, Fv162, V162, C162⟩ := hQ162
  have N162 := Fr.app N160 Nq162
  have ZS162 : n0 ≤ T162.heap.size := Nat.le_trans ZS160 K162.1
  have O162 := O160.keep K162 all0
  have go162 : Goes p e below s₁ (G_rm0 m p1 p2 p3) T162 (mkF m 163 #[.val (.int p1), .val (.int p2), .val (.int p3), .val (.int la), .val (.int lp), .val (.int c5), .val (.int c6), .val (.int c0), .val (.int c1), .val (.int c2), .val (.int w0), .val (.int w1), .val (.int w2), .val (.ref x160), .unset, .unset, .unset, .unset, .unset, .unset, .unset, .unset] [(.ref x162)]) := fun tq kq => go161 tq (st162.trans kq)
  have go163 : Goes p e below s₁ (G_rm0 m p1 p2 p3) T162 (mkF m 174 #[.val (.int p1), .val (.int p2), .val (.int p3), .val (.int la), .val (.int lp), .val (.int c5), .val (.int c6), .val (.int c0), .val (.int c1), .val (.int c2), .val (.int w0), .val (.int w1), .val (.int w2), .val (.ref x160), .val (.ref x162), .unset, .unset, .unset, .unset, .unset, .unset, .unset] [(.int (((((p3.toUInt32 >>> ((8 : Int32) &&& 31).toUInt32).toInt32) &&& (255 : Int32))).toUInt32.toUInt16.toUInt32.toInt32))]) := fun tq kq => go162 tq (by
    show Steps p.tables e below (T162.setTop (mkF m 163 #[.val (.int p1), .val (.int p2), .val (.int p3), .val (.int la), .val (.int lp), .val (.int c5), .val (.int c6), .val (.int c0), .val (.int c1), .val (.int c2), .val (.int w0), .val (.int w1), .val (.int w2), .val (.ref x160), .unset, .unset, .unset, .unset, .unset, .unset, .unset, .unset] [(.ref x162)])) _
    refine XS.astore Y162.here hx rfl (hb hby at_163) rfl rfl (l' := #[.val (.int p1), .val (.int p2), .val (.int p3), .val (.int la), .val (.int lp), .val (.int c5), .val (.int c6), .val (.int c0), .val (.int c1), .val (.int c2), .val (.int w0), .val (.int w1), .val (.int w2), .val (.ref x160), .val (.ref x162), .unset, .unset, .unset, .unset, .unset, .unset, .unset]) rfl ?_
    show Steps p.tables e below (T162.setTop (mkF m 165 #[.val (.int p1), .val (.int p2), .val (.int p3), .val (.int la), .val (.int lp), .val (.int c5), .val (.int c6), .val (.int c0), .val (.int c1), .val (.int c2), .val (.int w0), .val (.int w1), .val (.int w2), .val (.ref x160), .val (.ref x162), .unset, .unset, .unset, .unset, .unset, .unset, .unset] [])) _
    refine XS.iloadN Y162.here hx rfl (hb hby at_165) rfl ?_
    show Steps p.tables e below (T162.setTop (mkF m 166 #[.val (.int p1), .val (.int p2), .val (.int p3), .val (.int la), .val (.int lp), .val (.int c5), .val (.int c6), .val (.int c0), .val (.int c1), .val (.int c2), .val (.int w0), .val (.int w1), .val (.int w2), .val (.ref x160), .val (.ref x162), .unset, .unset, .unset, .unset, .unset, .unset, .unset] [(.int p3)])) _
    refine XS.bipush Y162.here hx rfl (hb hby at_166) ?_
    show Steps p.tables e below (T162.setTop (mkF m 168 #[.val (.int p1), .val (.int p2), .val (.int p3), .val (.int la), .val (.int lp), .val (.int c5), .val (.int c6), .val (.int c0), .val (.int c1), .val (.int c2), .val (.int w0), .val (.int w1), .val (.int w2), .val (.ref x160), .val (.ref x162), .unset, .unset, .unset, .unset, .unset, .unset, .unset] [(.int (8 : Int32)), (.int p3)])) _
    refine XS.iushr Y162.here hx rfl (hb hby at_168) rfl ?_
    show Steps p.tables e below (T162.setTop (mkF m 169 #[.val (.int p1), .val (.int p2), .val (.int p3), .val (.int la), .val (.int lp), .val (.int c5), .val (.int c6), .val (.int c0), .val (.int c1), .val (.int c2), .val (.int w0), .val (.int w1), .val (.int w2), .val (.ref x160), .val (.ref x162), .unset, .unset, .unset, .unset, .unset, .unset, .unset] [(.int ((p3.toUInt32 >>> ((8 : Int32) &&& 31).toUInt32).toInt32))])) _
    refine XS.sipush Y162.here hx rfl (hb hby at_169) ?_
    show Steps p.tables e below (T162.setTop (mkF m 172 #[.val (.int p1), .val (.int p2), .val (.int p3), .val (.int la), .val (.int lp), .val (.int c5), .val (.int c6), .val (.int c0), .val (.int c1), .val (.int c2), .val (.int w0), .val (.int w1), .val (.int w2), .val (.ref x160), .val (.ref x162), .unset, .unset, .unset, .unset, .unset, .unset, .unset] [(.int (255 : Int32)), (.int ((p3.toUInt32 >>> ((8 : Int32) &&& 31).toUInt32).toInt32))])) _
    refine XS.iand Y162.here hx rfl (hb hby at_172) rfl ?_
    show Steps p.tables e below (T162.setTop (mkF m 173 #[.val (.int p1), .val (.int p2), .val (.int p3), .val (.int la), .val (.int lp), .val (.int c5), .val (.int c6), .val (.int c0), .val (.int c1), .val (.int c2), .val (.int w0), .val (.int w1), .val (.int w2), .val (.ref x160), .val (.ref x162), .unset, .unset, .unset, .unset, .unset, .unset, .unset] [(.int (((p3.toUInt32 >>> ((8 : Int32) &&& 31).toUInt32).toInt32) &&& (255 : Int32)))])) _
    refine XS.i2c Y162.here hx rfl (hb hby at_173) rfl ?_
    exact kq)
  obtain ⟨vv164, _, ⟨T164, L164, k164, n164⟩, -, X164, ⟨Lc164, hQ164, l164, y164, z164⟩, st164⟩ := Jvm.LawKit.callS Y162 hx (y := (⟨"java/lang/String", "valueOf", "(C)Ljava/lang/String;"⟩ : MethodName)) hown (mvT hZ (tw37 hw)) (mvT hZ (tw38 hw)) (mvT hZ (tw6 hw)) (mvT hZ (tw39 hw)) (by decide) (backOf (W := 0) (rm7 l Z a0 hw [] (((((p3.toUInt32 >>> ((8 : Int32) &&& 31).toUInt32).toInt32) &&& (255 : Int32))).toUInt32.toUInt16.toUInt32.toInt32) cz T162.heap n0 ZS162 (SC.ext O162.2) hz (own_b8 _).2.1) hZ (tw39 hw) (tw6 hw) (by decide) (by decide)) (g := (mkF m 174 #[.val (.int p1), .val (.int p2), .val (.int p3), .val (.int la), .val (.int lp), .val (.int c5), .val (.int c6), .val (.int c0), .val (.int c1), .val (.int c2), .val (.int w0), .val (.int w1), .val (.int w2), .val (.ref x160), .val (.ref x162), .unset, .unset, .unset, .unset, .unset, .unset, .unset] [(.int (((((p3.toUInt32 >>> ((8 : Int32) &&& 31).toUInt32).toInt32) &&& (255 : Int32))).toUInt32.toUInt16.toUInt32.toInt32))])) rfl (by rw [hml]; rfl) (argsL := [(.int (((((p3.toUInt32 >>> ((8 : Int32) &&& 31).toUInt32).toInt32) &&& (255 : Int32))).toUInt32.toUInt16.toUInt32.toInt32))]) (rest := []) (lenOf pd_9 rfl) rfl (by show 2 * 0 + _ ≤ _; exact Nat.le_of_eq rfl) (hb hby at_174) (fun _ _ => ⟨rfl, rfl, (by decide : 8 + 2 ≤ _), (by decide : 20 + 5 ≤ _)⟩)
  dsimp only [Pt.U, Pt.locs, Pt.cells, Pt.slots] at X164 l164 y164 z164 st164 hQ164
  subst l164 y164 z164
  obtain ⟨y164, rfl, Nq164, K164⟩ := hQ164
  have N164 := Fr.app N162 Nq164
  have ZS164 : n0 ≤ T164.heap.size := Nat.le_trans ZS162 K164.1
  have O164 := O162.keep K164 all0
  have go164 : Goes p e below s₁ (G_rm0 m p1 p2 p3) T164 (mkF m 177 #[.val (.int p1), .val (.int p2), .val (.int p3), .val (.int la), .val (.int lp), .val (.int c5), .val (.int c6), .val (.int c0), .val (.int c1), .val (.int c2), .val (.int w0), .val (.int w1), .val (.int w2), .val (.ref x160), .val (.ref x162), .unset, .unset, .unset, .unset, .unset, .unset, .unset] [(.ref y164)]) := fun tq kq => go163 tq (st164 _ kq)
  have go165 : Goes p e below s₁ (G_rm0 m p1 p2 p3) T164 (mkF m 188 #[.val (.int p1), .val (.int p2), .val (.int p3), .val (.int la), .val (.int lp), .val (.int c5), .val (.int c6), .val (.int c0), .val (.int c1), .val (.int c2), .val (.int w0), .val (.int w1), .val (.int w2), .val (.ref x160), .val (.ref x162), .val (.ref y164), .unset, .unset, .unset, .unset, .unset, .unset] [(.int (((((p2.toUInt32 >>> ((24 : Int32) &&& 31).toUInt32).toInt32) &&& (255 : Int32))).toUInt32.toUInt16.toUInt32.toInt32))]) := fun tq kq => go164 tq (by
    show Steps p.tables e below (T164.setTop (mkF m 177 #[.val (.int p1), .val (.int p2), .val (.int p3), .val (.int la), .val (.int lp), .val (.int c5), .val (.int c6), .val (.int c0), .val (.int c1), .val (.int c2), .val (.int w0), .val (.int w1), .val (.int w2), .val (.ref x160), .val (.ref x162), .unset, .unset, .unset, .unset, .unset, .unset, .unset] [(.ref y164)])) _
    refine XS.astore X164.here hx rfl (hb hby at_177) rfl rfl (l' := #[.val (.int p1), .val (.int p2), .val (.int p3), .val (.int la), .val (.int lp), .val (.int c5), .val (.int c6), .val (.int c0), .val (.int c1), .val (.int c2), .val (.int w0), .val (.int w1), .val (.int w2), .val (.ref x160), .val (.ref x162), .val (.ref y164), .unset, .unset, .unset, .unset, .unset, .unset]) rfl ?_
    show Steps p.tables e below (T164.setTop (mkF m 179 #[.val (.int p1), .val (.int p2), .val (.int p3), .val (.int la), .val (.int lp), .val (.int c5), .val (.int c6), .val (.int c0), .val (.int c1), .val (.int c2), .val (.int w0), .val (.int w1), .val (.int w2), .val (.ref x160), .val (.ref x162), .val (.ref y164), .unset, .unset, .unset, .unset, .unset, .unset] [])) _
    refine XS.iloadN X164.here hx rfl (hb hby at_179) rfl ?_
    show Steps p.tables e below (T164.setTop (mkF m 180 #[.val (.int p1), .val (.int p2), .val (.int p3), .val (.int la), .val (.int lp), .val (.int c5), .val (.int c6), .val (.int c0), .val (.int c1), .val (.int c2), .val (.int w0), .val (.int w1), .val (.int w2), .val (.ref x160), .val (.ref x162), .val (.ref y164), .unset, .unset, .unset, .unset, .unset, .unset] [(.int p2)])) _
    refine XS.bipush X164.here hx rfl (hb hby at_180) ?_
    show Steps p.tables e below (T164.setTop (mkF m 182 #[.val (.int p1), .val (.int p2), .val (.int p3), .val (.int la), .val (.int lp), .val (.int c5), .val (.int c6), .val (.int c0), .val (.int c1), .val (.int c2), .val (.int w0), .val (.int w1), .val (.int w2), .val (.ref x160), .val (.ref x162), .val (.ref y164), .unset, .unset, .unset, .unset, .unset, .unset] [(.int (24 : Int32)), (.int p2)])) _
    refine XS.iushr X164.here hx rfl (hb hby at_182) rfl ?_
    show Steps p.tables e below (T164.setTop (mkF m 183 #[.val (.int p1), .val (.int p2), .val (.int p3), .val (.int la), .val (.int lp), .val (.int c5), .val (.int c6), .val (.int c0), .val (.int c1), .val (.int c2), .val (.int w0), .val (.int w1), .val (.int w2), .val (.ref x160), .val (.ref x162), .val (.ref y164), .unset, .unset, .unset, .unset, .unset, .unset] [(.int ((p2.toUInt32 >>> ((24 : Int32) &&& 31).toUInt32).toInt32))])) _
    refine XS.sipush X164.here hx rfl (hb hby at_183) ?_
    show Steps p.tables e below (T164.setTop (mkF m 186 #[.val (.int p1), .val (.int p2), .val (.int p3), .val (.int la), .val (.int lp), .val (.int c5), .val (.int c6), .val (.int c0), .val (.int c1), .val (.int c2), .val (.int w0), .val (.int w1), .val (.int w2), .val (.ref x160), .val (.ref x162), .val (.ref y164), .unset, .unset, .unset, .unset, .unset, .unset] [(.int (255 : Int32)), (.int ((p2.toUInt32 >>> ((24 : Int32) &&& 31).toUInt32).toInt32))])) _
    refine XS.iand X164.here hx rfl (hb hby at_186) rfl ?_
    show Steps p.tables e below (T164.setTop (mkF m 187 #[.val (.int p1), .val (.int p2), .val (.int p3), .val (.int la), .val (.int lp), .val (.int c5), .val (.int c6), .val (.int c0), .val (.int c1), .val (.int c2), .val (.int w0), .val (.int w1), .val (.int w2), .val (.ref x160), .val (.ref x162), .val (.ref y164), .unset, .unset, .unset, .unset, .unset, .unset] [(.int (((p2.toUInt32 >>> ((24 : Int32) &&& 31).toUInt32).toInt32) &&& (255 : Int32)))])) _
    refine XS.i2c X164.here hx rfl (hb hby at_187) rfl ?_
    exact kq)
  obtain ⟨vv166, _, ⟨T166, L166, k166, n166⟩, -, X166, ⟨Lc166, hQ166, l166, y166, z166⟩, st166⟩ := Jvm.LawKit.callS X164 hx (y := (⟨"java/lang/String", "valueOf", "(C)Ljava/lang/String;"⟩ : MethodName)) hown (mvT hZ (tw37 hw)) (mvT hZ (tw38 hw)) (mvT hZ (tw6 hw)) (mvT hZ (tw39 hw)) (by decide) (backOf (W := 0) (rm7 l Z a0 hw [] (((((p2.toUInt32 >>> ((24 : Int32) &&& 31).toUInt32).toInt32) &&& (255 : Int32))).toUInt32.toUInt16.toUInt32.toInt32) cz T164.heap n0 ZS164 (SC.ext O164.2) hz (own_b8 _).2.1) hZ (tw39 hw) (tw6 hw) (by decide) (by decide)) (g := (mkF m 188 #[.val (.int p1), .val (.int p2), .val (.int p3), .val (.int la), .val (.int lp), .val (.int c5), .val (.int c6), .val (.int c0), .val (.int c1), .val (.int c2), .val (.int w0), .val (.int w1), .val (.int w2), .val (.ref x160), .val (.ref x162), .val (.ref y164), .unset, .unset, .unset, .unset, .unset, .unset] [(.int (((((p2.toUInt32 >>> ((24 : Int32) &&& 31).toUInt32).toInt32) &&& (255 : Int32))).toUInt32.toUInt16.toUInt32.toInt32))])) rfl (by rw [hml]; rfl) (argsL := [(.int (((((p2.toUInt32 >>> ((24 : Int32) &&& 31).toUInt32).toInt32) &&& (255 : Int32))).toUInt32.toUInt16.toUInt32.toInt32))]) (rest := []) (lenOf pd_9 rfl) rfl (by show 2 * 0 + _ ≤ _; exact Nat.le_of_eq rfl) (hb hby at_188) (fun _ _ => ⟨rfl, rfl, (by decide : 10 + 2 ≤ _), (by decide : 25 + 5 ≤ _)⟩)
  dsimp only [Pt.U, Pt.locs, Pt.cells, Pt.slots] at X166 l166 y166 z166 st166 hQ166
  subst l166 y166 z166
  obtain ⟨y166, rfl, Nq166, K166⟩ := hQ166
  have N166 := Fr.app N164 Nq166
  have ZS166 : n0 ≤ T166.heap.size := Nat.le_trans ZS164 K166.1
  have O166 := O164.keep K166 all0
  have go166 : Goes p e below s₁ (G_rm0 m p1 p2 p3) T166 (mkF m 191 #[.val (.int p1), .val (.int p2), .val (.int p3), .val (.int la), .val (.int lp), .val (.int c5), .val (.int c6), .val (.int c0), .val (.int c1), .val (.int c2), .val (.int w0), .val (.int w1), .val (.int w2), .val (.ref x160), .val (.ref x162), .val (.ref y164), .unset, .unset, .unset, .unset, .unset, .unset] [(.ref y166)]) := fun tq kq => go165 tq (st166 _ kq)
  have go167 : Goes p e below s₁ (G_rm0 m p1 p2 p3) T166 (mkF m 202 #[.val (.int p1), .val (.int p2), .val (.int p3), .val (.int la), .val (.int lp), .val (.int c5), .val (.int c6), .val (.int c0), .val (.int c1), .val (.int c2), .val (.int w0), .val (.int w1), .val (.int w2), .val (.ref x160), .val (.ref x162), .val (.ref y164), .val (.ref y166), .unset, .unset, .unset, .unset, .unset] [(.int (((((p3.toUInt32 >>> ((16 : Int32) &&& 31).toUInt32).toInt32) &&& (255 : Int32))).toUInt32.toUInt16.toUInt32.toInt32))]) := fun tq kq => go166 tq (by
    show Steps p.tables e below (T166.setTop (mkF m 191 #[.val (.int p1), .val (.int p2), .val (.int p3), .val (.int la), .val (.int lp), .val (.int c5), .val (.int c6), .val (.int c0), .val (.int c1), .val (.int c2), .val (.int w0), .val (.int w1), .val (.int w2), .val (.ref x160), .val (.ref x162), .val (.ref y164), .unset, .unset, .unset, .unset, .unset, .unset] [(.ref y166)])) _
    refine XS.astore X166.here hx rfl (hb hby at_191) rfl rfl (l' := #[.val (.int p1), .val (.int p2), .val (.int p3), .val (.int la), .val (.int lp), .val (.int c5), .val (.int c6), .val (.int c0), .val (.int c1), .val (.int c2), .val (.int w0), .val (.int w1), .val (.int w2), .val (.ref x160), .val (.ref x162), .val (.ref y164), .val (.ref y166), .unset, .unset, .unset, .unset, .unset]) rfl ?_
    show Steps p.tables e below (T166.setTop (mkF m 193 #[.val (.int p1), .val (.int p2), .val (.int p3), .val (.int la), .val (.int lp), .val (.int c5), .val (.int c6), .val (.int c0), .val (.int c1), .val (.int c2), .val (.int w0), .val (.int w1), .val (.int w2), .val (.ref x160), .val (.ref x162), .val (.ref y164), .val (.ref y166), .unset, .unset, .unset, .unset, .unset] [])) _
    refine XS.iloadN X166.here hx rfl (hb hby at_193) rfl ?_
    show Steps p.tables e below (T166.setTop (mkF m 194 #[.val (.int p1), .val (.int p2), .val (.int p3), .val (.int la), .val (.int lp), .val (.int c5), .val (.int c6), .val (.int c0), .val (.int c1), .val (.int c2), .val (.int w0), .val (.int w1), .val (.int w2), .val (.ref x160), .val (.ref x162), .val (.ref y164), .val (.ref y166), .unset, .unset, .unset, .unset, .unset] [(.int p3)])) _
    refine XS.bipush X166.here hx rfl (hb hby at_194) ?_
    show Steps p.tables e below (T166.setTop (mkF m 196 #[.val (.int p1), .val (.int p2), .val (.int p3), .val (.int la), .val (.int lp), .val (.int c5), .val (.int c6), .val (.int c0), .val (.int c1), .val (.int c2), .val (.int w0), .val (.int w1), .val (.int w2), .val (.ref x160), .val (.ref x162), .val (.ref y164), .val (.ref y166), .unset, .unset, .unset, .unset, .unset] [(.int (16 : Int32)), (.int p3)])) _
    refine XS.iushr X166.here hx rfl (hb hby at_196) rfl ?_
    show Steps p.tables e below (T166.setTop (mkF m 197 #[.val (.int p1), .val (.int p2), .val (.int p3), .val (.int la), .val (.int lp), .val (.int c5), .val (.int c6), .val (.int c0), .val (.int c1), .val (.int c2), .val (.int w0), .val (.int w1), .val (.int w2), .val (.ref x160), .val (.ref x162), .val (.ref y164), .val (.ref y166), .unset, .unset, .unset, .unset, .unset] [(.int ((p3.toUInt32 >>> ((16 : Int32) &&& 31).toUInt32).toInt32))])) _
    refine XS.sipush X166.here hx rfl (hb hby at_197) ?_
    show Steps p.tables e below (T166.setTop (mkF m 200 #[.val (.int p1), .val (.int p2), .val (.int p3), .val (.int la), .val (.int lp), .val (.int c5), .val (.int c6), .val (.int c0), .val (.int c1), .val (.int c2), .val (.int w0), .val (.int w1), .val (.int w2), .val (.ref x160), .val (.ref x162), .val (.ref y164), .val (.ref y166), .unset, .unset, .unset, .unset, .unset] [(.int (255 : Int32)), (.int ((p3.toUInt32 >>> ((16 : Int32) &&& 31).toUInt32).toInt32))])) _
    refine XS.iand X166.here hx rfl (hb hby at_200) rfl ?_
    show Steps p.tables e below (T166.setTop (mkF m 201 #[.val (.int p1), .val (.int p2), .val (.int p3), .val (.int la), .val (.int lp), .val (.int c5), .val (.int c6), .val (.int c0), .val (.int c1), .val (.int c2), .val (.int w0), .val (.int w1), .val (.int w2), .val (.ref x160), .val (.ref x162), .val (.ref y164), .val (.ref y166), .unset, .unset, .unset, .unset, .unset] [(.int (((p3.toUInt32 >>> ((16 : Int32) &&& 31).toUInt32).toInt32) &&& (255 : Int32)))])) _
    refine XS.i2c X166.here hx rfl (hb hby at_201) rfl ?_
    exact kq)
  obtain ⟨vv168, _, ⟨T168, L168, k168, n168⟩, -, X168, ⟨Lc168, hQ168, l168, y168, z168⟩, st168⟩ := Jvm.LawKit.callS X166 hx (y := (⟨"java/lang/String", "valueOf", "(C)Ljava/lang/String;"⟩ : MethodName)) hown (mvT hZ (tw37 hw)) (mvT hZ (tw38 hw)) (mvT hZ (tw6 hw)) (mvT hZ (tw39 hw)) (by decide) (backOf (W := 0) (rm7 l Z a0 hw [] (((((p3.toUInt32 >>> ((16 : Int32) &&& 31).toUInt32).toInt32) &&& (255 : Int32))).toUInt32.toUInt16.toUInt32.toInt32) cz T166.heap n0 ZS166 (SC.ext O166.2) hz (own_b8 _).2.1) hZ (tw39 hw) (tw6 hw) (by decide) (by decide)) (g := (mkF m 202 #[.val (.int p1), .val (.int p2), .val (.int p3), .val (.int la), .val (.int lp), .val (.int c5), .val (.int c6), .val (.int c0), .val (.int c1), .val (.int c2), .val (.int w0), .val (.int w1), .val (.int w2), .val (.ref x160), .val (.ref x162), .val (.ref y164), .val (.ref y166), .unset, .unset, .unset, .unset, .unset] [(.int (((((p3.toUInt32 >>> ((16 : Int32) &&& 31).toUInt32).toInt32) &&& (255 : Int32))).toUInt32.toUInt16.toUInt32.toInt32))])) rfl (by rw [hml]; rfl) (argsL := [(.int (((((p3.toUInt32 >>> ((16 : Int32) &&& 31).toUInt32).toInt32) &&& (255 : Int32))).toUInt32.toUInt16.toUInt32.toInt32))]) (rest := []) (lenOf pd_9 rfl) rfl (by show 2 * 0 + _ ≤ _; exact Nat.le_of_eq rfl) (hb hby at_202) (fun _ _ => ⟨rfl, rfl, (by decide : 12 + 2 ≤ _), (by decide : 30 + 5 ≤ _)⟩)
  dsimp only [Pt.U, Pt.locs, Pt.cells, Pt.slots] at X168 l168 y168 z168 st168 hQ168
  subst l168 y168 z168
  obtain ⟨y168, rfl, Nq168, K168⟩ := hQ168
  have N168 := Fr.app N166 Nq168
  have ZS168 : n0 ≤ T168.heap.size := Nat.le_trans ZS166 K168.1
  have O168 := O166.keep K168 all0
  have go168 : Goes p e below s₁ (G_rm0 m p1 p2 p3) T168 (mkF m 205 #[.val (.int p1), .val (.int p2), .val (.int p3), .val (.int la), .val (.int lp), .val (.int c5), .val (.int c6), .val (.int c0), .val (.int c1), .val (.int c2), .val (.int w0), .val (.int w1), .val (.int w2), .val (.ref x160), .val (.ref x162), .val (.ref y164), .val (.ref y166), .unset, .unset, .unset, .unset, .unset] [(.ref y168)]) := fun tq kq => go167 tq (st168 _ kq)
  have go169 : Goes p e below s₁ (G_rm0 m p1 p2 p3) T168 (mkF m 216 #[.val (.int p1), .val (.int p2), .val (.int p3), .val (.int la), .val (.int lp), .val (.int c5), .val (.int c6), .val (.int c0), .val (.int c1), .val (.int c2), .val (.int w0), .val (.int w1), .val (.int w2), .val (.ref x160), .val (.ref x162), .val (.ref y164), .val (.ref y166), .val (.ref y168), .unset, .unset, .unset, .unset] [(.int (((((p1.toUInt32 >>> ((24 : Int32) &&& 31).toUInt32).toInt32) &&& (255 : Int32))).toUInt32.toUInt16.toUInt32.toInt32))]) := fun tq kq => go168 tq (by
    show Steps p.tables e below (T168.setTop (mkF m 205 #[.val (.int p1), .val (.int p2), .val (.int p3), .val (.int la), .val (.int lp), .val (.int c5), .val (.int c6), .val (.int c0), .val (.int c1), .val (.int c2), .val (.int w0), .val (.int w1), .val (.int w2), .val (.ref x160), .val (.ref x162), .val (.ref y164), .val (.ref y166), .unset, .unset, .unset, .unset, .unset] [(.ref y168)])) _
    refine XS.astore X168.here hx rfl (hb hby at_205) rfl rfl (l' := #[.val (.int p1), .val (.int p2), .val (.int p3), .val (.int la), .val (.int lp), .val (.int c5), .val (.int c6), .val (.int c0), .val (.int c1), .val (.int c2), .val (.int w0), .val (.int w1), .val (.int w2), .val (.ref x160), .val (.ref x162), .val (.ref y164), .val (.ref y166), .val (.ref y168), .unset, .unset, .unset, .unset]) rfl ?_
    show Steps p.tables e below (T168.setTop (mkF m 207 #[.val (.int p1), .val (.int p2), .val (.int p3), .val (.int la), .val (.int lp), .val (.int c5), .val (.int c6), .val (.int c0), .val (.int c1), .val (.int c2), .val (.int w0), .val (.int w1), .val (.int w2), .val (.ref x160), .val (.ref x162), .val (.ref y164), .val (.ref y166), .val (.ref y168), .unset, .unset, .unset, .unset] [])) _
    refine XS.iloadN X168.here hx rfl (hb hby at_207) rfl ?_
    show Steps p.tables e below (T168.setTop (mkF m 208 #[.val (.int p1), .val (.int p2), .val (.int p3), .val (.int la), .val (.int lp), .val (.int c5), .val (.int c6), .val (.int c0), .val (.int c1), .val (.int c2), .val (.int w0), .val (.int w1), .val (.int w2), .val (.ref x160), .val (.ref x162), .val (.ref y164), .val (.ref y166), .val (.ref y168), .unset, .unset, .unset, .unset] [(.int p1)])) _
    refine XS.bipush X168.here hx rfl (hb hby at_208) ?_
    show Steps p.tables e below (T168.setTop (mkF m 210 #[.val (.int p1), .val (.int p2), .val (.int p3), .val (.int la), .val (.int lp), .val (.int c5), .val (.int c6), .val (.int c0), .val (.int c1), .val (.int c2), .val (.int w0), .val (.int w1), .val (.int w2), .val (.ref x160), .val (.ref x162), .val (.ref y164), .val (.ref y166), .val (.ref y168), .unset, .unset, .unset, .unset] [(.int (24 : Int32)), (.int p1)])) _
    refine XS.iushr X168.here hx rfl (hb hby at_210) rfl ?_
    show Steps p.tables e below (T168.setTop (mkF m 211 #[.val (.int p1), .val (.int p2), .val (.int p3), .val (.int la), .val (.int lp), .val (.int c5), .val (.int c6), .val (.int c0), .val (.int c1), .val (.int c2), .val (.int w0), .val (.int w1), .val (.int w2), .val (.ref x160), .val (.ref x162), .val (.ref y164), .val (.ref y166), .val (.ref y168), .unset, .unset, .unset, .unset] [(.int ((p1.toUInt32 >>> ((24 : Int32) &&& 31).toUInt32).toInt32))])) _
    refine XS.sipush X168.here hx rfl (hb hby at_211) ?_
    show Steps p.tables e below (T168.setTop (mkF m 214 #[.val (.int p1), .val (.int p2), .val (.int p3), .val (.int la), .val (.int lp), .val (.int c5), .val (.int c6), .val (.int c0), .val (.int c1), .val (.int c2), .val (.int w0), .val (.int w1), .val (.int w2), .val (.ref x160), .val (.ref x162), .val (.ref y164), .val (.ref y166), .val (.ref y168), .unset, .unset, .unset, .unset] [(.int (255 : Int32)), (.int ((p1.toUInt32 >>> ((24 : Int32) &&& 31).toUInt32).toInt32))])) _
    refine XS.iand X168.here hx rfl (hb hby at_214) rfl ?_
    show Steps p.tables e below (T168.setTop (mkF m 215 #[.val (.int p1), .val (.int p2), .val (.int p3), .val (.int la), .val (.int lp), .val (.int c5), .val (.int c6), .val (.int c0), .val (.int c1), .val (.int c2), .val (.int w0), .val (.int w1), .val (.int w2), .val (.ref x160), .val (.ref x162), .val (.ref y164), .val (.ref y166), .val (.ref y168), .unset, .unset, .unset, .unset] [(.int (((p1.toUInt32 >>> ((24 : Int32) &&& 31).toUInt32).toInt32) &&& (255 : Int32)))])) _
    refine XS.i2c X168.here hx rfl (hb hby at_215) rfl ?_
    exact kq)
  obtain ⟨vv170, _, ⟨T170, L170, k170, n170⟩, -, X170, ⟨Lc170, hQ170, l170, y170, z170⟩, st170⟩ := Jvm.LawKit.callS X168 hx (y := (⟨"java/lang/String", "valueOf", "(C)Ljava/lang/String;"⟩ : MethodName)) hown (mvT hZ (tw37 hw)) (mvT hZ (tw38 hw)) (mvT hZ (tw6 hw)) (mvT hZ (tw39 hw)) (by decide) (backOf (W := 0) (rm7 l Z a0 hw [] (((((p1.toUInt32 >>> ((24 : Int32) &&& 31).toUInt32).toInt32) &&& (255 : Int32))).toUInt32.toUInt16.toUInt32.toInt32) cz T168.heap n0 ZS168 (SC.ext O168.2) hz (own_b8 _).2.1) hZ (tw39 hw) (tw6 hw) (by decide) (by decide)) (g := (mkF m 216 #[.val (.int p1), .val (.int p2), .val (.int p3), .val (.int la), .val (.int lp), .val (.int c5), .val (.int c6), .val (.int c0), .val (.int c1), .val (.int c2), .val (.int w0), .val (.int w1), .val (.int w2), .val (.ref x160), .val (.ref x162), .val (.ref y164), .val (.ref y166), .val (.ref y168), .unset, .unset, .unset, .unset] [(.int (((((p1.toUInt32 >>> ((24 : Int32) &&& 31).toUInt32).toInt32) &&& (255 : Int32))).toUInt32.toUInt16.toUInt32.toInt32))])) rfl (by rw [hml]; rfl) (argsL := [(.int (((((p1.toUInt32 >>> ((24 : Int32) &&& 31).toUInt32).toInt32) &&& (255 : Int32))).toUInt32.toUInt16.toUInt32.toInt32))]) (rest := []) (lenOf pd_9 rfl) rfl (by show 2 * 0 + _ ≤ _; exact Nat.le_of_eq rfl) (hb hby at_216) (fun _ _ => ⟨rfl, rfl, (by decide : 14 + 2 ≤ _), (by decide : 35 + 5 ≤ _)⟩)
  dsimp only [Pt.U, Pt.locs, Pt.cells, Pt.slots] at X170 l170 y170 z170 st170 hQ170
  subst l170 y170 z170
  obtain ⟨y170, rfl, Nq170, K170⟩ := hQ170
  have N170 := Fr.app N168 Nq170
  have ZS170 : n0 ≤ T170.heap.size := Nat.le_trans ZS168 K170.1
  have O170 := O168.keep K170 all0
  have go170 : Goes p e below s₁ (G_rm0 m p1 p2 p3) T170 (mkF m 219 #[.val (.int p1), .val (.int p2), .val (.int p3), .val (.int la), .val (.int lp), .val (.int c5), .val (.int c6), .val (.int c0), .val (.int c1), .val (.int c2), .val (.int w0), .val (.int w1), .val (.int w2), .val (.ref x160), .val (.ref x162), .val (.ref y164), .val (.ref y166), .val (.ref y168), .unset, .unset, .unset, .unset] [(.ref y170)]) := fun tq kq => go169 tq (st170 _ kq)
  have f171 := (((((E160'.keep K162).keep K164).keep K166).keep K168).keep K170)
  have f172 := (((((V160.keep K162 nin0).keep K164 nin0).keep K166 nin0).keep K168 nin0).keep K170 nin0)
  have f173 := ((((V162.keep K164 nin0).keep K166 nin0).keep K168 nin0).keep K170 nin0)
  have go174 : Goes p e below s₁ (G_rm0 m p1 p2 p3) T170 (mkF m 221 #[.val (.int p1), .val (.int p2), .val (.int p3), .val (.int la), .val (.int lp), .val (.int c5), .val (.int c6), .val (.int c0), .val (.int c1), .val (.int c2), .val (.int w0), .val (.int w1), .val (.int w2), .val (.ref x160), .val (.ref x162), .val (.ref y164), .val (.ref y166), .val (.ref y168), .val (.ref y170), .unset, .unset, .unset] []) := fun tq kq => go170 tq (by
    show Steps p.tables e below (T170.setTop (mkF m 219 #[.val (.int p1), .val (.int p2), .val (.int p3), .val (.int la), .val (.int lp), .val (.int c5), .val (.int c6), .val (.int c0), .val (.int c1), .val (.int c2), .val (.int w0), .val (.int w1), .val (.int w2), .val (.ref x160), .val (.ref x162), .val (.ref y164), .val (.ref y166), .val (.ref y168), .unset, .unset, .unset, .unset] [(.ref y170)])) _
    refine XS.astore X170.here hx rfl (hb hby at_219) rfl rfl (l' := #[.val (.int p1), .val (.int p2), .val (.int p3), .val (.int la), .val (.int lp), .val (.int c5), .val (.int c6), .val (.int c0), .val (.int c1), .val (.int c2), .val (.int w0), .val (.int w1), .val (.int w2), .val (.ref x160), .val (.ref x162), .val (.ref y164), .val (.ref y166), .val (.ref y168), .val (.ref y170), .unset, .unset, .unset]) rfl ?_
    exact kq)
  obtain ⟨T175, h175, X175, e175, E175, A175, D175, -, st175⟩ := newO X170 hx hZ hown (tw51 hw) (tw52 hw) (tw53 hw) rfl (g := (mkF m 221 #[.val (.int p1), .val (.int p2), .val (.int p3), .val (.int la), .val (.int lp), .val (.int c5), .val (.int c6), .val (.int c0), .val (.int c1), .val (.int c2), .val (.int w0), .val (.int w1), .val (.int w2), .val (.ref x160), .val (.ref x162), .val (.ref y164), .val (.ref y166), .val (.ref y168), .val (.ref y170), .unset, .unset, .unset] [])) rfl (hb hby at_221) (by decide) (by decide)
  obtain ⟨b175, g175⟩ : ∃ z, z = T170.heap.size := ⟨_, rfl⟩
  rw [← g175] at A175 D175 st175
  have g_b175 : n0 ≤ b175 := Nat.le_trans ZS170 (Nat.le_of_eq g175.symm)
  have O175 := O170.ext E175
  have ZS175 : n0 ≤ h175.size := Nat.le_trans ZS170 E175.1
  have F175_id : Fld Z h175 b175 "com/example/rightful_keys/rightfulkeys/store/Account" "id" "Ljava/lang/String;" .null := D175 (Or.inr (tw64 hw)) (ty := (.object "java/lang/String")) (by decide)
  have F175_name : Fld Z h175 b175 "com/example/rightful_keys/rightfulkeys/store/Account" "name" "Ljava/lang/String;" .null := D175 (Or.inr (tw66 hw)) (ty := (.object "java/lang/String")) (by decide)
  have ne176 : x160 ≠ b175 := Nat.ne_of_lt (Nat.lt_of_lt_of_le f171.lt (Nat.le_of_eq g175.symm))
  have ne177 : t160 ≠ b175 := Nat.ne_of_lt (Nat.lt_of_lt_of_le f172.lt (Nat.le_of_eq g175.symm))
  have ne178 : x162 ≠ b175 := Nat.ne_of_lt (Nat.lt_of_lt_of_le ((((E162'.keep K164).keep K166).keep K168).keep K170).lt (Nat.le_of_eq g175.symm))
  have ne179 : t162 ≠ b175 := Nat.ne_of_lt (Nat.lt_of_lt_of_le f173.lt (Nat.le_of_eq g175.symm))
  have go175 : Goes p e below s₁ (G_rm0 m p1 p2 p3) T175 (mkF m 224 #[.val (.int p1), .val (.int p2), .val (.int p3), .val (.int la), .val (.int lp), .val (.int c5), .val (.int c6), .val (.int c0), .val (.int c1), .val (.int c2), .val (.int w0), .val (.int w1), .val (.int w2), .val (.ref x160), .val (.ref x162), .val (.ref y164), .val (.ref y166), .val (.ref y168), .val (.ref y170), .unset, .unset, .unset] [(.ref b175)]) := fun tq kq => go174 tq (st175 _ kq)
  have go180 : Goes p e below s₁ (G_rm0 m p1 p2 p3) T175 (mkF m 229 #[.val (.int p1), .val (.int p2), .val (.int p3), .val (.int la), .val (.int lp), .val (.int c5), .val (.int c6), .val (.int c0), .val (.int c1), .val (.int c2), .val (.int w0), .val (.int w1), .val (.int w2), .val (.ref x160), .val (.ref x162), .val (.ref y164), .val (.ref y166), .val (.ref y168), .val (.ref y170), .unset, .unset, .unset] [(.ref y164), (.ref x160), (.ref b175), (.ref b175)]) := fun tq kq => go175 tq (by
    show Steps p.tables e below (T175.setTop (mkF m 224 #[.val (.int p1), .val (.int p2), .val (.int p3), .val (.int la), .val (.int lp), .val (.int c5), .val (.int c6), .val (.int c0), .val (.int c1), .val (.int c2), .val (.int w0), .val (.int w1), .val (.int w2), .val (.ref x160), .val (.ref x162), .val (.ref y164), .val (.ref y166), .val (.ref y168), .val (.ref y170), .unset, .unset, .unset] [(.ref b175)])) _
    refine XS.dup X175.here hx rfl (hb hby at_224) rfl rfl ?_
    show Steps p.tables e below (T175.setTop (mkF m 225 #[.val (.int p1), .val (.int p2), .val (.int p3), .val (.int la), .val (.int lp), .val (.int c5), .val (.int c6), .val (.int c0), .val (.int c1), .val (.int c2), .val (.int w0), .val (.int w1), .val (.int w2), .val (.ref x160), .val (.ref x162), .val (.ref y164), .val (.ref y166), .val (.ref y168), .val (.ref y170), .unset, .unset, .unset] [(.ref b175), (.ref b175)])) _
    refine XS.aload X175.here hx rfl (hb hby at_225) rfl rfl ?_
    show Steps p.tables e below (T175.setTop (mkF m 227 #[.val (.int p1), .val (.int p2), .val (.int p3), .val (.int la), .val (.int lp), .val (.int c5), .val (.int c6), .val (.int c0), .val (.int c1), .val (.int c2), .val (.int w0), .val (.int w1), .val (.int w2), .val (.ref x160), .val (.ref x162), .val (.ref y164), .val (.ref y166), .val (.ref y168), .val (.ref y170), .unset, .unset, .unset] [(.ref x160), (.ref b175), (.ref b175)])) _
    refine XS.aload X175.here hx rfl (hb hby at_227) rfl rfl ?_
    exact kq)
  obtain ⟨vv181, _, ⟨T181, L181, k181, n181⟩, -, X181, ⟨Lc181, hQ181, l181, y181, z181⟩, st181⟩ := X175.specialBack hx (y := (⟨"com/example/rightful_keys/rightfulkeys/store/Account", "<init>", "(Ljava/lang/String;Ljava/lang/String;)V"⟩ : MethodName)) rfl hown (mvT hZ (tw54 hw)) (mvT hZ (tw55 hw)) (mvT hZ (tw56 hw)) (by decide) (backOf (W := 1) (rm11 l Z a0 hw [] b175 x160 y164  h175 n0 ZS175 g_b175 A175 F175_id F175_name) hZ (tw56 hw) (tw53 hw) (by decide) (by decide)) (g := (mkF m 229 #[.val (.int p1), .val (.int p2), .val (.int p3), .val (.int la), .val (.int lp), .val (.int c5), .val (.int c6), .val (.int c0), .val (.int c1), .val (.int c2), .val (.int w0), .val (.int w1), .val (.int w2), .val (.ref x160), .val (.ref x162), .val (.ref y164), .val (.ref y166), .val (.ref y168), .val (.ref y170), .unset, .unset, .unset] [(.ref y164), (.ref x160), (.ref b175), (.ref b175)])) rfl (by rw [hml]; rfl) (Steps.refl _) (a := b175) (argsL := [(.ref x160), (.ref y164)]) (rest := [(.ref b175)]) (lenOf pd_10 rfl) rfl (by show 2 * 0 + _ ≤ _; exact Nat.le_of_eq rfl) (hb hby at_229) (fun _ _ => ⟨rfl, e175, (by decide : 17 + 0 ≤ _), (by decide : 42 + 0 ≤ _)⟩)
  dsimp only [Pt.U, Pt.locs, Pt.cells, Pt.slots] at X181 l181 y181 z181 st181 hQ181
  subst l181 y181 z181
  obtain ⟨rfl, Nq181, K181, A181, F181⟩ := hQ181
  have N181 := Fr.app N170 Nq181
  have ZS181 : n0 ≤ T181.heap.size := Nat.le_trans ZS175 K181.1
  have O181 := O175.keep K181 (allS g_b175 all0)
  have go181 : Goes p e below s₁ (G_rm0 m p1 p2 p3) T181 (mkF m 232 #[.val (.int p1), .val (.int p2), .val (.int p3), .val (.int la), .val (.int lp), .val (.int c5), .val (.int c6), .val (.int c0), .val (.int c1), .val (.int c2), .val (.int w0), .val (.int w1), .val (.int w2), .val (.ref x160), .val (.ref x162), .val (.ref y164), .val (.ref y166), .val (.ref y168), .val (.ref y170), .unset, .unset, .unset] [(.ref b175)]) := fun tq kq => go180 tq (st181.trans kq)
  have f182 := ((((((E162'.keep K164).keep K166).keep K168).keep K170).ext E175).keep K181)
  have go183 : Goes p e below s₁ (G_rm0 m p1 p2 p3) T181 (mkF m 234 #[.val (.int p1), .val (.int p2), .val (.int p3), .val (.int la), .val (.int lp), .val (.int c5), .val (.int c6), .val (.int c0), .val (.int c1), .val (.int c2), .val (.int w0), .val (.int w1), .val (.int w2), .val (.ref x160), .val (.ref x162), .val (.ref y164), .val (.ref y166), .val (.ref y168), .val (.ref y170), .val (.ref b175), .unset, .unset] []) := fun tq kq => go181 tq (by
    show Steps p.tables e below (T181.setTop (mkF m 232 #[.val (.int p1), .val (.int p2), .val (.int p3), .val (.int la), .val (.int lp), .val (.int c5), .val (.int c6), .val (.int c0), .val (.int c1), .val (.int c2), .val (.int w0), .val (.int w1), .val (.int w2), .val (.ref x160), .val (.ref x162), .val (.ref y164), .val (.ref y166), .val (.ref y168), .val (.ref y170), .unset, .unset, .unset] [(.ref b175)])) _
    refine XS.astore X181.here hx rfl (hb hby at_232) rfl rfl (l' := #[.val (.int p1), .val (.int p2), .val (.int p3), .val (.int la), .val (.int lp), .val (.int c5), .val (.int c6), .val (.int c0), .val (.int c1), .val (.int c2), .val (.int w0), .val (.int w1), .val (.int w2), .val (.ref x160), .val (.ref x162), .val (.ref y164), .val (.ref y166), .val (.ref y168), .val (.ref y170), .val (.ref b175), .unset, .unset]) rfl ?_
    exact kq)
  obtain ⟨T184, h184, X184, e184, E184, A184, D184, -, st184⟩ := newO X181 hx hZ hown (tw67 hw) (tw68 hw) (tw69 hw) rfl (g := (mkF m 234 #[.val (.int p1), .val (.int p2), .val (.int p3), .val (.int la), .val (.int lp), .val (.int c5), .val (.int c6), .val (.int c0), .val (.int c1), .val (.int c2), .val (.int w0), .val (.int w1), .val (.int w2), .val (.ref x160), .val (.ref x162), .val (.ref y164), .val (.ref y166), .val (.ref y168), .val (.ref y170), .val (.ref b175), .unset, .unset] [])) rfl (hb hby at_234) (by decide) (by decide)
  obtain ⟨b184, g184⟩ : ∃ z, z = T181.heap.size := ⟨_, rfl⟩
  rw [← g184] at A184 D184 st184
  have g_b184 : n0 ≤ b184 := Nat.le_trans ZS181 (Nat.le_of_eq g184.symm)
  have O184 := O181.ext E184
  have ZS184 : n0 ≤ h184.size := Nat.le_trans ZS181 E184.1
  have F184_id : Fld Z h184 b184 "com/example/rightful_keys/rightfulkeys/store/Project" "id" "Ljava/lang/String;" .null := D184 (Or.inr (tw75 hw)) (ty := (.object "java/lang/String")) (by decide)
  have F184_name : Fld Z h184 b184 "com/example/rightful_keys/rightfulkeys/store/Project" "name" "Ljava/lang/String;" .null := D184 (Or.inr (tw77 hw)) (ty := (.object "java/lang/String")) (by decide)
  have F184_account : Fld Z h184 b184 "com/example/rightful_keys/rightfulkeys/store/Project" "account" "Lcom/example/rightful_keys/rightfulkeys/store/Account;" .null := D184 (Or.inr (tw79 hw)) (ty := (.object "com/example/rightful_keys/rightfulkeys/store/Account")) (by decide)
  have F184_description : Fld Z h184 b184 "com/example/rightful_keys/rightfulkeys/store/Project" "description" "Ljava/lang/String;" .null := D184 (Or.inr (tw81 hw)) (ty := (.object "java/lang/String")) (by decide)
  have F184_enabled : Fld Z h184 b184 "com/example/rightful_keys/rightfulkeys/store/Project" "enabled" "Z" (.int (0 : Int32)) := D184 (Or.inr (tw83 hw)) (ty := .boolean) (by decide)
  have F184_parentId : Fld Z h184 b184 "com/example/rightful_keys/rightfulkeys/store/Project" "parentId" "Ljava/lang/String;" .null := D184 (Or.inr (tw85 hw)) (ty := (.object "java/lang/String")) (by decide)
  have ne185 : x160 ≠ b184 := Nat.ne_of_lt (Nat.lt_of_lt_of_le ((f171.ext E175).keep K181).lt (Nat.le_of_eq g184.symm))
  have ne186 : t160 ≠ b184 := Nat.ne_of_lt (Nat.lt_of_lt_of_le ((f172.ext E175).keep K181 (ninS ne177 nin0)).lt (Nat.le_of_eq g184.symm))
  have ne187 : x162 ≠ b184 := Nat.ne_of_lt (Nat.lt_of_lt_of_le f182.lt (Nat.le_of_eq g184.symm))
  have ne188 : t162 ≠ b184 := Nat.ne_of_lt (Nat.lt_of_lt_of_le ((f173.ext E175).keep K181 (ninS ne179 nin0)).lt (Nat.le_of_eq g184.symm))
  have ne189 : b175 ≠ b184 := Nat.ne_of_lt (Nat.lt_of_lt_of_le A181.lt (Nat.le_of_eq g184.symm))
  have go184 : Goes p e below s₁ (G_rm0 m p1 p2 p3) T184 (mkF m 237 #[.val (.int p1), .val (.int p2), .val (.int p3), .val (.int la), .val (.int lp), .val (.int c5), .val (.int c6), .val (.int c0), .val (.int c1), .val (.int c2), .val (.int w0), .val (.int w1), .val (.int w2), .val (.ref x160), .val (.ref x162), .val (.ref y164), .val (.ref y166), .val (.ref y168), .val (.ref y170), .val (.ref b175), .unset, .unset] [(.ref b184)]) := fun tq kq => go183 tq (st184 _ kq)
  have go190 : Goes p e below s₁ (G_rm0 m p1 p2 p3) T184 (mkF m 250 #[.val (.int p1), .val (.int p2), .val (.int p3), .val (.int la), .val (.int lp), .val (.int c5), .val (.int c6), .val (.int c0), .val (.int c1), .val (.int c2), .val (.int w0), .val (.int w1), .val (.int w2), .val (.ref x160), .val (.ref x162), .val (.ref y164), .val (.ref y166), .val (.ref y168), .val (.ref y170), .val (.ref b175), .unset, .unset] [(.ref x162), (.int c6), (.ref y170), (.ref b175), (.ref y168), (.ref y166), (.ref b184), (.ref b184)]) := fun tq kq => go184 tq (by
    show Steps p.tables e below (T184.setTop (mkF m 237 #[.val (.int p1), .val (.int p2), .val (.int p3), .val (.int la), .val (.int lp), .val (.int c5), .val (.int c6), .val (.int c0), .val (.int c1), .val (.int c2), .val (.int w0), .val (.int w1), .val (.int w2), .val (.ref x160), .val (.ref x162), .val (.ref y164), .val (.ref y166), .val (.ref y168), .val (.ref y170), .val (.ref b175), .unset, .unset] [(.ref b184)])) _
    refine XS.dup X184.here hx rfl (hb hby at_237) rfl rfl ?_
    show Steps p.tables e below (T184.setTop (mkF m 238 #[.val (.int p1), .val (.int p2), .val (.int p3), .val (.int la), .val (.int lp), .val (.int c5), .val (.int c6), .val (.int c0), .val (.int c1), .val (.int c2), .val (.int w0), .val (.int w1), .val (.int w2), .val (.ref x160), .val (.ref x162), .val (.ref y164), .val (.ref y166), .val (.ref y168), .val (.ref y170), .val (.ref b175), .unset, .unset] [(.ref b184), (.ref b184)])) _
    refine XS.aload X184.here hx rfl (hb hby at_238) rfl rfl ?_
    show Steps p.tables e below (T184.setTop (mkF m 240 #[.val (.int p1), .val (.int p2), .val (.int p3), .val (.int la), .val (.int lp), .val (.int c5), .val (.int c6), .val (.int c0), .val (.int c1), .val (.int c2), .val (.int w0), .val (.int w1), .val (.int w2), .val (.ref x160), .val (.ref x162), .val (.ref y164), .val (.ref y166), .val (.ref y168), .val (.ref y170), .val (.ref b175), .unset, .unset] [(.ref y166), (.ref b184), (.ref b184)])) _
    refine XS.aload X184.here hx rfl (hb hby at_240) rfl rfl ?_
    show Steps p.tables e below (T184.setTop (mkF m 242 #[.val (.int p1), .val (.int p2), .val (.int p3), .val (.int la), .val (.int lp), .val (.int c5), .val (.int c6), .val (.int c0), .val (.int c1), .val (.int c2), .val (.int w0), .val (.int w1), .val (.int w2), .val (.ref x160), .val (.ref x162), .val (.ref y164), .val (.ref y166), .val (.ref y168), .val (.ref y170), .val (.ref b175), .unset, .unset] [(.ref y168), (.ref y166), (.ref b184), (.ref b184)])) _
    refine XS.aload X184.here hx rfl (hb hby at_242) rfl rfl ?_
    show Steps p.tables e below (T184.setTop (mkF m 244 #[.val (.int p1), .val (.int p2), .val (.int p3), .val (.int la), .val (.int lp), .val (.int c5), .val (.int c6), .val (.int c0), .val (.int c1), .val (.int c2), .val (.int w0), .val (.int w1), .val (.int w2), .val (.ref x160), .val (.ref x162), .val (.ref y164), .val (.ref y166), .val (.ref y168), .val (.ref y170), .val (.ref b175), .unset, .unset] [(.ref b175), (.ref y168), (.ref y166), (.ref b184), (.ref b184)])) _
    refine XS.aload X184.here hx rfl (hb hby at_244) rfl rfl ?_
    show Steps p.tables e below (T184.setTop (mkF m 246 #[.val (.int p1), .val (.int p2), .val (.int p3), .val (.int la), .val (.int lp), .val (.int c5), .val (.int c6), .val (.int c0), .val (.int c1), .val (.int c2), .val (.int w0), .val (.int w1), .val (.int w2), .val (.ref x160), .val (.ref x162), .val (.ref y164), .val (.ref y166), .val (.ref y168), .val (.ref y170), .val (.ref b175), .unset, .unset] [(.ref y170), (.ref b175), (.ref y168), (.ref y166), (.ref b184), (.ref b184)])) _
    refine XS.iload X184.here hx rfl (hb hby at_246) rfl ?_
    show Steps p.tables e below (T184.setTop (mkF m 248 #[.val (.int p1), .val (.int p2), .val (.int p3), .val (.int la), .val (.int lp), .val (.int c5), .val (.int c6), .val (.int c0), .val (.int c1), .val (.int c2), .val (.int w0), .val (.int w1), .val (.int w2), .val (.ref x160), .val (.ref x162), .val (.ref y164), .val (.ref y166), .val (.ref y168), .val (.ref y170), .val (.ref b175), .unset, .unset] [(.int c6), (.ref y170), (.ref b175), (.ref y168), (.ref y166), (.ref b184), (.ref b184)])) _
    refine XS.aload X184.here hx rfl (hb hby at_248) rfl rfl ?_
    exact kq)
  obtain ⟨vv191, _, ⟨T191, L191, k191, n191⟩, -, X191, ⟨Lc191, hQ191, l191, y191, z191⟩, st191⟩ := X184.specialBack hx (y := (⟨"com/example/rightful_keys/rightfulkeys/store/Project", "<init>", "(Ljava/lang/String;Ljava/lang/String;Lcom/example/rightful_keys/rightfulkeys/store/Account;Ljava/lang/String;ZLjava/lang/String;)V"⟩ : MethodName)) rfl hown (mvT hZ (tw70 hw)) (mvT hZ (tw71 hw)) (mvT hZ (tw72 hw)) (by decide) (backOf (W := 1) (rm13 l Z a0 hw [] b184 y166 y168 b175 y170 c6 x162  h184 n0 ZS184 g_b184 A184 F184_id F184_name F184_account F184_description F184_enabled F184_parentId) hZ (tw72 hw) (tw69 hw) (by decide) (by decide)) (g := (mkF m 250 #[.val (.int p1), .val (.int p2), .val (.int p3), .val (.int la), .val (.int lp), .val (.int c5), .val (.int c6), .val (.int c0), .val (.int c1), .val (.int c2), .val (.int w0), .val (.int w1), .val (.int w2), .val (.ref x160), .val (.ref x162), .val (.ref y164), .val (.ref y166), .val (.ref y168), .val (.ref y170), .val (.ref b175), .unset, .unset] [(.ref x162), (.int c6), (.ref y170), (.ref b175), (.ref y168), (.ref y166), (.ref b184), (.ref b184)])) rfl (by rw [hml]; rfl) (Steps.refl _) (a := b184) (argsL := [(.ref y166), (.ref y168), (.ref b175), (.ref y170), (.int c6), (.ref x162)]) (rest := [(.ref b184)]) (lenOf pd_11 rfl) rfl (by show 2 * 0 + _ ≤ _; exact Nat.le_of_eq rfl) (hb hby at_250) (fun _ _ => ⟨rfl, e184, (by decide : 18 + 0 ≤ _), (by decide : 48 + 0 ≤ _)⟩)
  dsimp only [Pt.U, Pt.locs, Pt.cells, Pt.slots] at X191 l191 y191 z191 st191 hQ191
  subst l191 y191 z191
  obtain ⟨rfl, Nq191, K191, A191, F191, G191⟩ := hQ191
  have N191 := Fr.app N181 Nq191
  have ZS191 : n0 ≤ T191.heap.size := Nat.le_trans ZS184 K191.1
  have O191 := O184.keep K191 (allS g_b184 all0)
  have go191 : Goes p e below s₁ (G_rm0 m p1 p2 p3) T191 (mkF m 253 #[.val (.int p1), .val (.int p2), .val (.int p3), .val (.int la), .val (.int lp), .val (.int c5), .val (.int c6), .val (.int c0), .val (.int c1), .val (.int c2), .val (.int w0), .val (.int w1), .val (.int w2), .val (.ref x160), .val (.ref x162), .val (.ref y164), .val (.ref y166), .val (.ref y168), .val (.ref y170), .val (.ref b175), .unset, .unset] [(.ref b184)]) := fun tq kq => go190 tq (st191.trans kq)
  have go192 : Goes p e below s₁ (G_rm0 m p1 p2 p3) T191 (mkF m 258 #[.val (.int p1), .val (.int p2), .val (.int p3), .val (.int la), .val (.int lp), .val (.int c5), .val (.int c6), .val (.int c0), .val (.int c1), .val (.int c2), .val (.int w0), .val (.int w1), .val (.int w2), .val (.ref x160), .val (.ref x162), .val (.ref y164), .val (.ref y166), .val (.ref y168), .val (.ref y170), .val (.ref b175), .val (.ref b184), .unset] [(.int lp), (.int la)]) := fun tq kq => go191 tq (by
    show Steps p.tables e below (T191.setTop (mkF m 253 #[.val (.int p1), .val (.int p2), .val (.int p3), .val (.int la), .val (.int lp), .val (.int c5), .val (.int c6), .val (.int c0), .val (.int c1), .val (.int c2), .val (.int w0), .val (.int w1), .val (.int w2), .val (.ref x160), .val (.ref x162), .val (.ref y164), .val (.ref y166), .val (.ref y168), .val (.ref y170), .val (.ref b175), .unset, .unset] [(.ref b184)])) _
    refine XS.astore X191.here hx rfl (hb hby at_253) rfl rfl (l' := #[.val (.int p1), .val (.int p2), .val (.int p3), .val (.int la), .val (.int lp), .val (.int c5), .val (.int c6), .val (.int c0), .val (.int c1), .val (.int c2), .val (.int w0), .val (.int w1), .val (.int w2), .val (.ref x160), .val (.ref x162), .val (.ref y164), .val (.ref y166), .val (.ref y168), .val (.ref y170), .val (.ref b175), .val (.ref b184), .unset]) rfl ?_
    show Steps p.tables e below (T191.setTop (mkF m 255 #[.val (.int p1), .val (.int p2), .val (.int p3), .val (.int la), .val (.int lp), .val (.int c5), .val (.int c6), .val (.int c0), .val (.int c1), .val (.int c2), .val (.int w0), .val (.int w1), .val (.int w2), .val (.ref x160), .val (.ref x162), .val (.ref y164), .val (.ref y166), .val (.ref y168), .val (.ref y170), .val (.ref b175), .val (.ref b184), .unset] [])) _
    refine XS.iloadN X191.here hx rfl (hb hby at_255) rfl ?_
    show Steps p.tables e below (T191.setTop (mkF m 256 #[.val (.int p1), .val (.int p2), .val (.int p3), .val (.int la), .val (.int lp), .val (.int c5), .val (.int c6), .val (.int c0), .val (.int c1), .val (.int c2), .val (.int w0), .val (.int w1), .val (.int w2), .val (.ref x160), .val (.ref x162), .val (.ref y164), .val (.ref y166), .val (.ref y168), .val (.ref y170), .val (.ref b175), .val (.ref b184), .unset] [(.int la)])) _
    refine XS.iload X191.here hx rfl (hb hby at_256) rfl ?_
    exact kq)
  obtain ⟨ex, hex, go202⟩ : ∃ ex : Int32, ((ex = 1 ∧ csv lp w0 w1 w2 = csv la c0 c1 c2) ∨ (ex = 0 ∧ ¬ csv lp w0 w1 w2 = csv la c0 c1 c2)) ∧ Goes p e below s₁ (G_rm0 m p1 p2 p3) T191 (mkF m 304 #[.val (.int p1), .val (.int p2), .val (.int p3), .val (.int la), .val (.int lp), .val (.int c5), .val (.int c6), .val (.int c0), .val (.int c1), .val (.int c2), .val (.int w0), .val (.int w1), .val (.int w2), .val (.ref x160), .val (.ref x162), .val (.ref y164), .val (.ref y166), .val (.ref y168), .val (.ref y170), .val (.ref b175), .val (.ref b184), .val (.int ex)] []) := by
    by_cases he : la = lp
    · have go193 : Goes p e below s₁ (G_rm0 m p1 p2 p3) T191 (mkF m 263 #[.val (.int p1), .val (.int p2), .val (.int p3), .val (.int la), .val (.int lp), .val (.int c5), .val (.int c6), .val (.int c0), .val (.int c1), .val (.int c2), .val (.int w0), .val (.int w1), .val (.int w2), .val (.ref x160), .val (.ref x162), .val (.ref y164), .val (.ref y166), .val (.ref y168), .val (.ref y170), .val (.ref b175), .val (.ref b184), .unset] [(.int (1 : Int32)), (.int la)]) := fun tq kq => go192 tq (by
        show Steps p.tables e below (T191.setTop (mkF m 258 #[.val (.int p1), .val (.int p2), .val (.int p3), .val (.int la), .val (.int lp), .val (.int c5), .val (.int c6), .val (.int c0), .val (.int c1), .val (.int c2), .val (.int w0), .val (.int w1), .val (.int w2), .val (.ref x160), .val (.ref x162), .val (.ref y164), .val (.ref y166), .val (.ref y168), .val (.ref y170), .val (.ref b175), .val (.ref b184), .unset] [(.int lp), (.int la)])) _
        refine XS.icmpNo X191.here hx rfl (hb hby at_258) rfl (teq he).2 ?_
        show Steps p.tables e below (T191.setTop (mkF m 261 #[.val (.int p1), .val (.int p2), .val (.int p3), .val (.int la), .val (.int lp), .val (.int c5), .val (.int c6), .val (.int c0), .val (.int c1), .val (.int c2), .val (.int w0), .val (.int w1), .val (.int w2), .val (.ref x160), .val (.ref x162), .val (.ref y164), .val (.ref y166), .val (.ref y168), .val (.ref y170), .val (.ref b175), .val (.ref b184), .unset] [])) _
        refine XS.iloadN X191.here hx rfl (hb hby at_261) rfl ?_
        show Steps p.tables e below (T191.setTop (mkF m 262 #[.val (.int p1), .val (.int p2), .val (.int p3), .val (.int la), .val (.int lp), .val (.int c5), .val (.int c6), .val (.int c0), .val (.int c1), .val (.int c2), .val (.int w0), .val (.int w1), .val (.int w2), .val (.ref x160), .val (.ref x162), .val (.ref y164), .val (.ref y166), .val (.ref y168), .val (.ref y170), .val (.ref b175), .val (.ref b184), .unset] [(.int la)])) _
        refine XS.iconst X191.here hx rfl (hb hby at_262) ?_
        exact kq)
      by_cases h1 : la < (1 : Int32)
      · have go194 : Goes p e below s₁ (G_rm0 m p1 p2 p3) T191 (mkF m 275 #[.val (.int p1), .val (.int p2), .val (.int p3), .val (.int la), .val (.int lp), .val (.int c5), .val (.int c6), .val (.int c0), .val (.int c1), .val (.int c2), .val (.int w0), .val (.int w1), .val (.int w2), .val (.ref x160), .val (.ref x162), .val (.ref y164), .val (.ref y166), .val (.ref y168), .val (.ref y170), .val (.ref b175), .val (.ref b184), .unset] [(.int (2 : Int32)), (.int la)]) := fun tq kq => go193 tq (by
          show Steps p.tables e below (T191.setTop (mkF m 263 #[.val (.int p1), .val (.int p2), .val (.int p3), .val (.int la), .val (.int lp), .val (.int c5), .val (.int c6), .val (.int c0), .val (.int c1), .val (.int c2), .val (.int w0), .val (.int w1), .val (.int w2), .val (.ref x160), .val (.ref x162), .val (.ref y164), .val (.ref y166), .val (.ref y168), .val (.ref y170), .val (.ref b175), .val (.ref b184), .unset] [(.int (1 : Int32)), (.int la)])) _
          refine XS.icmpYes X191.here hx rfl (pc0 := 263) (pc' := 273) rfl (hb hby at_263) rfl (tlt h1).1 (by decide) (by decide) ?_
          show Steps p.tables e below (T191.setTop (mkF m 273 #[.val (.int p1), .val (.int p2), .val (.int p3), .val (.int la), .val (.int lp), .val (.int c5), .val (.int c6), .val (.int c0), .val (.int c1), .val (.int c2), .val (.int w0), .val (.int w1), .val (.int w2), .val (.ref x160), .val (.ref x162), .val (.ref y164), .val (.ref y166), .val (.ref y168), .val (.ref y170), .val (.ref b175), .val (.ref b184), .unset] [])) _
          refine XS.iloadN X191.here hx rfl (hb hby at_273) rfl ?_
          show Steps p.tables e below (T191.setTop (mkF m 274 #[.val (.int p1), .val (.int p2), .val (.int p3), .val (.int la), .val (.int lp), .val (.int c5), .val (.int c6), .val (.int c0), .val (.int c1), .val (.int c2), .val (.int w0), .val (.int w1), .val (.int w2), .val (.ref x160), .val (.ref x162), .val (.ref y164), .val (.ref y166), .val (.ref y168), .val (.ref y170), .val (.ref b175), .val (.ref b184), .unset] [(.int la)])) _
          refine XS.iconst X191.here hx rfl (hb hby at_274) ?_
          exact kq)
        have go195 : Goes p e below s₁ (G_rm0 m p1 p2 p3) T191 (mkF m 287 #[.val (.int p1), .val (.int p2), .val (.int p3), .val (.int la), .val (.int lp), .val (.int c5), .val (.int c6), .val (.int c0), .val (.int c1), .val (.int c2), .val (.int w0), .val (.int w1), .val (.int w2), .val (.ref x160), .val (.ref x162), .val (.ref y164), .val (.ref y166), .val (.ref y168), .val (.ref y170), .val (.ref b175), .val (.ref b184), .unset] [(.int (3 : Int32)), (.int la)]) := fun tq kq => go194 tq (by
          show Steps p.tables e below (T191.setTop (mkF m 275 #[.val (.int p1), .val (.int p2), .val (.int p3), .val (.int la), .val (.int lp), .val (.int c5), .val (.int c6), .val (.int c0), .val (.int c1), .val (.int c2), .val (.int w0), .val (.int w1), .val (.int w2), .val (.ref x160), .val (.ref x162), .val (.ref y164), .val (.ref y166), .val (.ref y168), .val (.ref y170), .val (.ref b175), .val (.ref b184), .unset] [(.int (2 : Int32)), (.int la)])) _
          refine XS.icmpYes X191.here hx rfl (pc0 := 275) (pc' := 285) rfl (hb hby at_275) rfl (tlt (own_lt12 h1)).1 (by decide) (by decide) ?_
          show Steps p.tables e below (T191.setTop (mkF m 285 #[.val (.int p1), .val (.int p2), .val (.int p3), .val (.int la), .val (.int lp), .val (.int c5), .val (.int c6), .val (.int c0), .val (.int c1), .val (.int c2), .val (.int w0), .val (.int w1), .val (.int w2), .val (.ref x160), .val (.ref x162), .val (.ref y164), .val (.ref y166), .val (.ref y168), .val (.ref y170), .val (.ref b175), .val (.ref b184), .unset] [])) _
          refine XS.iloadN X191.here hx rfl (hb hby at_285) rfl ?_
          show Steps p.tables e below (T191.setTop (mkF m 286 #[.val (.int p1), .val (.int p2), .val (.int p3), .val (.int la), .val (.int lp), .val (.int c5), .val (.int c6), .val (.int c0), .val (.int c1), .val (.int c2), .val (.int w0), .val (.int w1), .val (.int w2), .val (.ref x160), .val (.ref x162), .val (.ref y164), .val (.ref y166), .val (.ref y168), .val (.ref y170), .val (.ref b175), .val (.ref b184), .unset] [(.int la)])) _
          refine XS.iconst X191.here hx rfl (hb hby at_286) ?_
          exact kq)
        have go204 : Goes p e below s₁ (G_rm0 m p1 p2 p3) T191 (mkF m 304 #[.val (.int p1), .val (.int p2), .val (.int p3), .val (.int la), .val (.int lp), .val (.int c5), .val (.int c6), .val (.int c0), .val (.int c1), .val (.int c2), .val (.int w0), .val (.int w1), .val (.int w2), .val (.ref x160), .val (.ref x162), .val (.ref y164), .val (.ref y166), .val (.ref y168), .val (.ref y170), .val (.ref b175), .val (.ref b184), .val (.int (1 : Int32))] []) := fun tq kq => go195 tq (by
          show Steps p.tables e below (T191.setTop (mkF m 287 #[.val (.int p1), .val (.int p2), .val (.int p3), .val (.int la), .val (.int lp), .val (.int c5), .val (.int c6), .val (.int c0), .val (.int c1), .val (.int c2), .val (.int w0), .val (.int w1), .val (.int w2), .val (.ref x160), .val (.ref x162), .val (.ref y164), .val (.ref y166), .val (.ref y168), .val (.ref y170), .val (.ref b175), .val (.ref b184), .unset] [(.int (3 : Int32)), (.int la)])) _
          refine XS.icmpYes X191.here hx rfl (pc0 := 287) (pc' := 297) rfl (hb hby at_287) rfl (tlt (own_lt13 h1)).1 (by decide) (by decide) ?_
          show Steps p.tables e below (T191.setTop (mkF m 297 #[.val (.int p1), .val (.int p2), .val (.int p3), .val (.int la), .val (.int lp), .val (.int c5), .val (.int c6), .val (.int c0), .val (.int c1), .val (.int c2), .val (.int w0), .val (.int w1), .val (.int w2), .val (.ref x160), .val (.ref x162), .val (.ref y164), .val (.ref y166), .val (.ref y168), .val (.ref y170), .val (.ref b175), .val (.ref b184), .unset] [])) _
          refine XS.iconst X191.here hx rfl (hb hby at_297) ?_
          show Steps p.tables e below (T191.setTop (mkF m 298 #[.val (.int p1), .val (.int p2), .val (.int p3), .val (.int la), .val (.int lp), .val (.int c5), .val (.int c6), .val (.int c0), .val (.int c1), .val (.int c2), .val (.int w0), .val (.int w1), .val (.int w2), .val (.ref x160), .val (.ref x162), .val (.ref y164), .val (.ref y166), .val (.ref y168), .val (.ref y170), .val (.ref b175), .val (.ref b184), .unset] [(.int (1 : Int32))])) _
          refine XS.goto X191.here hx rfl (pc0 := 298) (pc' := 302) rfl (hb hby at_298) (by decide) (by decide) ?_
          show Steps p.tables e below (T191.setTop (mkF m 302 #[.val (.int p1), .val (.int p2), .val (.int p3), .val (.int la), .val (.int lp), .val (.int c5), .val (.int c6), .val (.int c0), .val (.int c1), .val (.int c2), .val (.int w0), .val (.int w1), .val (.int w2), .val (.ref x160), .val (.ref x162), .val (.ref y164), .val (.ref y166), .val (.ref y168), .val (.ref y170), .val (.ref b175), .val (.ref b184), .unset] [(.int (1 : Int32))])) _
          refine XS.istore X191.here hx rfl (hb hby at_302) rfl (l' := #[.val (.int p1), .val (.int p2), .val (.int p3), .val (.int la), .val (.int lp), .val (.int c5), .val (.int c6), .val (.int c0), .val (.int c1), .val (.int c2), .val (.int w0), .val (.int w1), .val (.int w2), .val (.ref x160), .val (.ref x162), .val (.ref y164), .val (.ref y166), .val (.ref y168), .val (.ref y170), .val (.ref b175), .val (.ref b184), .val (.int (1 : Int32))]) rfl ?_
          exact kq)
        exact ⟨1, Or.inl ⟨rfl, ((own_cs qa qp).mpr ⟨he, Or.inl h1, Or.inl (own_lt12 h1), Or.inl (own_lt13 h1)⟩).symm⟩, go204⟩
      · have go196 : Goes p e below s₁ (G_rm0 m p1 p2 p3) T191 (mkF m 270 #[.val (.int p1), .val (.int p2), .val (.int p3), .val (.int la), .val (.int lp), .val (.int c5), .val (.int c6), .val (.int c0), .val (.int c1), .val (.int c2), .val (.int w0), .val (.int w1), .val (.int w2), .val (.ref x160), .val (.ref x162), .val (.ref y164), .val (.ref y166), .val (.ref y168), .val (.ref y170), .val (.ref b175), .val (.ref b184), .unset] [(.int w0), (.int c0)]) := fun tq kq => go193 tq (by
          show Steps p.tables e below (T191.setTop (mkF m 263 #[.val (.int p1), .val (.int p2), .val (.int p3), .val (.int la), .val (.int lp), .val (.int c5), .val (.int c6), .val (.int c0), .val (.int c1), .val (.int c2), .val (.int w0), .val (.int w1), .val (.int w2), .val (.ref x160), .val (.ref x162), .val (.ref y164), .val (.ref y166), .val (.ref y168), .val (.ref y170), .val (.ref b175), .val (.ref b184), .unset] [(.int (1 : Int32)), (.int la)])) _
          refine XS.icmpNo X191.here hx rfl (hb hby at_263) rfl (flt h1).1 ?_
          show Steps p.tables e below (T191.setTop (mkF m 266 #[.val (.int p1), .val (.int p2), .val (.int p3), .val (.int la), .val (.int lp), .val (.int c5), .val (.int c6), .val (.int c0), .val (.int c1), .val (.int c2), .val (.int w0), .val (.int w1), .val (.int w2), .val (.ref x160), .val (.ref x162), .val (.ref y164), .val (.ref y166), .val (.ref y168), .val (.ref y170), .val (.ref b175), .val (.ref b184), .unset] [])) _
          refine XS.iload X191.here hx rfl (hb hby at_266) rfl ?_
          show Steps p.tables e below (T191.setTop (mkF m 268 #[.val (.int p1), .val (.int p2), .val (.int p3), .val (.int la), .val (.int lp), .val (.int c5), .val (.int c6), .val (.int c0), .val (.int c1), .val (.int c2), .val (.int w0), .val (.int w1), .val (.int w2), .val (.ref x160), .val (.ref x162), .val (.ref y164), .val (.ref y166), .val (.ref y168), .val (.ref y170), .val (.ref b175), .val (.ref b184), .unset] [(.int c0)])) _
          refine XS.iload X191.here hx rfl (hb hby at_268) rfl ?_
          exact kq)
        by_cases e0_ : c0 = w0
        · have go197 : Goes p e below s₁ (G_rm0 m p1 p2 p3) T191 (mkF m 275 #[.val (.int p1), .val (.int p2), .val (.int p3), .val (.int la), .val (.int lp), .val (.int c5), .val (.int c6), .val (.int c0), .val (.int c1), .val (.int c2), .val (.int w0), .val (.int w1), .val (.int w2), .val (.ref x160), .val (.ref x162), .val (.ref y164), .val (.ref y166), .val (.ref y168), .val (.ref y170), .val (.ref b175), .val (.ref b184), .unset] [(.int (2 : Int32)), (.int la)]) := fun tq kq => go196 tq (by
            show Steps p.tables e below (T191.setTop (mkF m 270 #[.val (.int p1), .val (.int p2), .val (.int p3), .val (.int la), .val (.int lp), .val (.int c5), .val (.int c6), .val (.int c0), .val (.int c1), .val (.int c2), .val (.int w0), .val (.int w1), .val (.int w2), .val (.ref x160), .val (.ref x162), .val (.ref y164), .val (.ref y166), .val (.ref y168), .val (.ref y170), .val (.ref b175), .val (.ref b184), .unset] [(.int w0), (.int c0)])) _
            refine XS.icmpNo X191.here hx rfl (hb hby at_270) rfl (teq e0_).2 ?_
            show Steps p.tables e below (T191.setTop (mkF m 273 #[.val (.int p1), .val (.int p2), .val (.int p3), .val (.int la), .val (.int lp), .val (.int c5), .val (.int c6), .val (.int c0), .val (.int c1), .val (.int c2), .val (.int w0), .val (.int w1), .val (.int w2), .val (.ref x160), .val (.ref x162), .val (.ref y164), .val (.ref y166), .val (.ref y168), .val (.ref y170), .val (.ref b175), .val (.ref b184), .unset] [])) _
            refine XS.iloadN X191.here hx rfl (hb hby at_273) rfl ?_
            show Steps p.tables e below (T191.setTop (mkF m 274 #[.val (.int p1), .val (.int p2), .val (.int p3), .val (.int la), .val (.int lp), .val (.int c5), .val (.int c6), .val (.int c0), .val (.int c1), .val (.int c2), .val (.int w0), .val (.int w1), .val (.int w2), .val (.ref x160), .val (.ref x162), .val (.ref y164), .val (.ref y166), .val (.ref y168), .val (.ref y170), .val (.ref b175), .val (.ref b184), .unset] [(.int la)])) _
            refine XS.iconst X191.here hx rfl (hb hby at_274) ?_
            exact kq)
          by_cases h2_ : la < (2 : Int32)
          · have go198 : Goes p e below s₁ (G_rm0 m p1 p2 p3) T191 (mkF m 287 #[.val (.int p1), .val (.int p2), .val (.int p3), .val (.int la), .val (.int lp), .val (.int c5), .val (.int c6), .val (.int c0), .val (.int c1), .val (.int c2), .val (.int w0), .val (.int w1), .val (.int w2), .val (.ref x160), .val (.ref x162), .val (.ref y164), .val (.ref y166), .val (.ref y168), .val (.ref y170), .val (.ref b175), .val (.ref b184), .unset] [(.int (3 : Int32)), (.int la)]) := fun tq kq => go197 tq (by
              show Steps p.tables e below (T191.setTop (mkF m 275 #[.val (.int p1), .val (.int p2), .val (.int p3), .val (.int la), .val (.int lp), .val (.int c5), .val (.int c6), .val (.int c0), .val (.int c1), .val (.int c2), .val (.int w0), .val (.int w1), .val (.int w2), .val (.ref x160), .val (.ref x162), .val (.ref y164), .val (.ref y166), .val (.ref y168), .val (.ref y170), .val (.ref b175), .val (.ref b184), .unset] [(.int (2 : Int32)), (.int la)])) _
              refine XS.icmpYes X191.here hx rfl (pc0 := 275) (pc' := 285) rfl (hb hby at_275) rfl (tlt h2_).1 (by decide) (by decide) ?_
              show Steps p.tables e below (T191.setTop (mkF m 285 #[.val (.int p1), .val (.int p2), .val (.int p3), .val (.int la), .val (.int lp), .val (.int c5), .val (.int c6), .val (.int c0), .val (.int c1), .val (.int c2), .val (.int w0), .val (.int w1), .val (.int w2), .val (.ref x160), .val (.ref x162), .val (.ref y164), .val (.ref y166), .val (.ref y168), .val (.ref y170), .val (.ref b175), .val (.ref b184), .unset] [])) _
              refine XS.iloadN X191.here hx rfl (hb hby at_285) rfl ?_
              show Steps p.tables e below (T191.setTop (mkF m 286 #[.val (.int p1), .val (.int p2), .val (.int p3), .val (.int la), .val (.int lp), .val (.int c5), .val (.int c6), .val (.int c0), .val (.int c1), .val (.int c2), .val (.int w0), .val (.int w1), .val (.int w2), .val (.ref x160), .val (.ref x162), .val (.ref y164), .val (.ref y166), .val (.ref y168), .val (.ref y170), .val (.ref b175), .val (.ref b184), .unset] [(.int la)])) _
              refine XS.iconst X191.here hx rfl (hb hby at_286) ?_
              exact kq)
            have go206 : Goes p e below s₁ (G_rm0 m p1 p2 p3) T191 (mkF m 304 #[.val (.int p1), .val (.int p2), .val (.int p3), .val (.int la), .val (.int lp), .val (.int c5), .val (.int c6), .val (.int c0), .val (.int c1), .val (.int c2), .val (.int w0), .val (.int w1), .val (.int w2), .val (.ref x160), .val (.ref x162), .val (.ref y164), .val (.ref y166), .val (.ref y168), .val (.ref y170), .val (.ref b175), .val (.ref b184), .val (.int (1 : Int32))] []) := fun tq kq => go198 tq (by
              show Steps p.tables e below (T191.setTop (mkF m 287 #[.val (.int p1), .val (.int p2), .val (.int p3), .val (.int la), .val (.int lp), .val (.int c5), .val (.int c6), .val (.int c0), .val (.int c1), .val (.int c2), .val (.int w0), .val (.int w1), .val (.int w2), .val (.ref x160), .val (.ref x162), .val (.ref y164), .val (.ref y166), .val (.ref y168), .val (.ref y170), .val (.ref b175), .val (.ref b184), .unset] [(.int (3 : Int32)), (.int la)])) _
              refine XS.icmpYes X191.here hx rfl (pc0 := 287) (pc' := 297) rfl (hb hby at_287) rfl (tlt (own_lt23 h2_)).1 (by decide) (by decide) ?_
              show Steps p.tables e below (T191.setTop (mkF m 297 #[.val (.int p1), .val (.int p2), .val (.int p3), .val (.int la), .val (.int lp), .val (.int c5), .val (.int c6), .val (.int c0), .val (.int c1), .val (.int c2), .val (.int w0), .val (.int w1), .val (.int w2), .val (.ref x160), .val (.ref x162), .val (.ref y164), .val (.ref y166), .val (.ref y168), .val (.ref y170), .val (.ref b175), .val (.ref b184), .unset] [])) _
              refine XS.iconst X191.here hx rfl (hb hby at_297) ?_
              show Steps p.tables e below (T191.setTop (mkF m 298 #[.val (.int p1), .val (.int p2), .val (.int p3), .val (.int la), .val (.int lp), .val (.int c5), .val (.int c6), .val (.int c0), .val (.int c1), .val (.int c2), .val (.int w0), .val (.int w1), .val (.int w2), .val (.ref x160), .val (.ref x162), .val (.ref y164), .val (.ref y166), .val (.ref y168), .val (.ref y170), .val (.ref b175), .val (.ref b184), .unset] [(.int (1 : Int32))])) _
              refine XS.goto X191.here hx rfl (pc0 := 298) (pc' := 302) rfl (hb hby at_298) (by decide) (by decide) ?_
              show Steps p.tables e below (T191.setTop (mkF m 302 #[.val (.int p1), .val (.int p2), .val (.int p3), .val (.int la), .val (.int lp), .val (.int c5), .val (.int c6), .val (.int c0), .val (.int c1), .val (.int c2), .val (.int w0), .val (.int w1), .val (.int w2), .val (.ref x160), .val (.ref x162), .val (.ref y164), .val (.ref y166), .val (.ref y168), .val (.ref y170), .val (.ref b175), .val (.ref b184), .unset] [(.int (1 : Int32))])) _
              refine XS.istore X191.here hx rfl (hb hby at_302) rfl (l' := #[.val (.int p1), .val (.int p2), .val (.int p3), .val (.int la), .val (.int lp), .val (.int c5), .val (.int c6), .val (.int c0), .val (.int c1), .val (.int c2), .val (.int w0), .val (.int w1), .val (.int w2), .val (.ref x160), .val (.ref x162), .val (.ref y164), .val (.ref y166), .val (.ref y168), .val (.ref y170), .val (.ref b175), .val (.ref b184), .val (.int (1 : Int32))]) rfl ?_
              exact kq)
            exact ⟨1, Or.inl ⟨rfl, ((own_cs qa qp).mpr ⟨he, Or.inr e0_, Or.inl h2_, Or.inl (own_lt23 h2_)⟩).symm⟩, go206⟩
          · have go199 : Goes p e below s₁ (G_rm0 m p1 p2 p3) T191 (mkF m 282 #[.val (.int p1), .val (.int p2), .val (.int p3), .val (.int la), .val (.int lp), .val (.int c5), .val (.int c6), .val (.int c0), .val (.int c1), .val (.int c2), .val (.int w0), .val (.int w1), .val (.int w2), .val (.ref x160), .val (.ref x162), .val (.ref y164), .val (.ref y166), .val (.ref y168), .val (.ref y170), .val (.ref b175), .val (.ref b184), .unset] [(.int w1), (.int c1)]) := fun tq kq => go197 tq (by
              show Steps p.tables e below (T191.setTop (mkF m 275 #[.val (.int p1), .val (.int p2), .val (.int p3), .val (.int la), .val (.int lp), .val (.int c5), .val (.int c6), .val (.int c0), .val (.int c1), .val (.int c2), .val (.int w0), .val (.int w1), .val (.int w2), .val (.ref x160), .val (.ref x162), .val (.ref y164), .val (.ref y166), .val (.ref y168), .val (.ref y170), .val (.ref b175), .val (.ref b184), .unset] [(.int (2 : Int32)), (.int la)])) _
              refine XS.icmpNo X191.here hx rfl (hb hby at_275) rfl (flt h2_).1 ?_
              show Steps p.tables e below (T191.setTop (mkF m 278 #[.val (.int p1), .val (.int p2), .val (.int p3), .val (.int la), .val (.int lp), .val (.int c5), .val (.int c6), .val (.int c0), .val (.int c1), .val (.int c2), .val (.int w0), .val (.int w1), .val (.int w2), .val (.ref x160), .val (.ref x162), .val (.ref y164), .val (.ref y166), .val (.ref y168), .val (.ref y170), .val (.ref b175), .val (.ref b184), .unset] [])) _
              refine XS.iload X191.here hx rfl (hb hby at_278) rfl ?_
              show Steps p.tables e below (T191.setTop (mkF m 280 #[.val (.int p1), .val (.int p2), .val (.int p3), .val (.int la), .val (.int lp), .val (.int c5), .val (.int c6), .val (.int c0), .val (.int c1), .val (.int c2), .val (.int w0), .val (.int w1), .val (.int w2), .val (.ref x160), .val (.ref x162), .val (.ref y164), .val (.ref y166), .val (.ref y168), .val (.ref y170), .val (.ref b175), .val (.ref b184), .unset] [(.int c1)])) _
              refine XS.iload X191.here hx rfl (hb hby at_280) rfl ?_
              exact kq)
            by_cases e1_ : c1 = w1
            · have go200 : Goes p e below s₁ (G_rm0 m p1 p2 p3) T191 (mkF m 287 #[.val (.int p1), .val (.int p2), .val (.int p3), .val (.int la), .val (.int lp), .val (.int c5), .val (.int c6), .val (.int c0), .val (.int c1), .val (.int c2), .val (.int w0), .val (.int w1), .val (.int w2), .val (.ref x160), .val (.ref x162), .val (.ref y164), .val (.ref y166), .val (.ref y168), .val (.ref y170), .val (.ref b175), .val (.ref b184), .unset] [(.int (3 : Int32)), (.int la)]) := fun tq kq => go199 tq (by
                show Steps p.tables e below (T191.setTop (mkF m 282 #[.val (.int p1), .val (.int p2), .val (.int p3), .val (.int la), .val (.int lp), .val (.int c5), .val (.int c6), .val (.int c0), .val (.int c1), .val (.int c2), .val (.int w0), .val (.int w1), .val (.int w2), .val (.ref x160), .val (.ref x162), .val (.ref y164), .val (.ref y166), .val (.ref y168), .val (.ref y170), .val (.ref b175), .val (.ref b184), .unset] [(.int w1), (.int c1)])) _
                refine XS.icmpNo X191.here hx rfl (hb hby at_282) rfl (teq e1_).2 ?_
                show Steps p.tables e below (T191.setTop (mkF m 285 #[.val (.int p1), .val (.int p2), .val (.int p3), .val (.int la), .val (.int lp), .val (.int c5), .val (.int c6), .val (.int c0), .val (.int c1), .val (.int c2), .val (.int w0), .val (.int w1), .val (.int w2), .val (.ref x160), .val (.ref x162), .val (.ref y164), .val (.ref y166), .val (.ref y168), .val (.ref y170), .val (.ref b175), .val (.ref b184), .unset] [])) _
                refine XS.iloadN X191.here hx rfl (hb hby at_285) rfl ?_
                show Steps p.tables e below (T191.setTop (mkF m 286 #[.val (.int p1), .val (.int p2), .val (.int p3), .val (.int la), .val (.int lp), .val (.int c5), .val (.int c6), .val (.int c0), .val (.int c1), .val (.int c2), .val (.int w0), .val (.int w1), .val (.int w2), .val (.ref x160), .val (.ref x162), .val (.ref y164), .val (.ref y166), .val (.ref y168), .val (.ref y170), .val (.ref b175), .val (.ref b184), .unset] [(.int la)])) _
                refine XS.iconst X191.here hx rfl (hb hby at_286) ?_
                exact kq)
              by_cases h3_ : la < (3 : Int32)
              · have go208 : Goes p e below s₁ (G_rm0 m p1 p2 p3) T191 (mkF m 304 #[.val (.int p1), .val (.int p2), .val (.int p3), .val (.int la), .val (.int lp), .val (.int c5), .val (.int c6), .val (.int c0), .val (.int c1), .val (.int c2), .val (.int w0), .val (.int w1), .val (.int w2), .val (.ref x160), .val (.ref x162), .val (.ref y164), .val (.ref y166), .val (.ref y168), .val (.ref y170), .val (.ref b175), .val (.ref b184), .val (.int (1 : Int32))] []) := fun tq kq => go200 tq (by
                  show Steps p.tables e below (T191.setTop (mkF m 287 #[.val (.int p1), .val (.int p2), .val (.int p3), .val (.int la), .val (.int lp), .val (.int c5), .val (.int c6), .val (.int c0), .val (.int c1), .val (.int c2), .val (.int w0), .val (.int w1), .val (.int w2), .val (.ref x160), .val (.ref x162), .val (.ref y164), .val (.ref y166), .val (.ref y168), .val (.ref y170), .val (.ref b175), .val (.ref b184), .unset] [(.int (3 : Int32)), (.int la)])) _
                  refine XS.icmpYes X191.here hx rfl (pc0 := 287) (pc' := 297) rfl (hb hby at_287) rfl (tlt h3_).1 (by decide) (by decide) ?_
                  show Steps p.tables e below (T191.setTop (mkF m 297 #[.val (.int p1), .val (.int p2), .val (.int p3), .val (.int la), .val (.int lp), .val (.int c5), .val (.int c6), .val (.int c0), .val (.int c1), .val (.int c2), .val (.int w0), .val (.int w1), .val (.int w2), .val (.ref x160), .val (.ref x162), .val (.ref y164), .val (.ref y166), .val (.ref y168), .val (.ref y170), .val (.ref b175), .val (.ref b184), .unset] [])) _
                  refine XS.iconst X191.here hx rfl (hb hby at_297) ?_
                  show Steps p.tables e below (T191.setTop (mkF m 298 #[.val (.int p1), .val (.int p2), .val (.int p3), .val (.int la), .val (.int lp), .val (.int c5), .val (.int c6), .val (.int c0), .val (.int c1), .val (.int c2), .val (.int w0), .val (.int w1), .val (.int w2), .val (.ref x160), .val (.ref x162), .val (.ref y164), .val (.ref y166), .val (.ref y168), .val (.ref y170), .val (.ref b175), .val (.ref b184), .unset] [(.int (1 : Int32))])) _
                  refine XS.goto X191.here hx rfl (pc0 := 298) (pc' := 302) rfl (hb hby at_298) (by decide) (by decide) ?_
                  show Steps p.tables e below (T191.setTop (mkF m 302 #[.val (.int p1), .val (.int p2), .val (.int p3), .val (.int la), .val (.int lp), .val (.int c5), .val (.int c6), .val (.int c0), .val (.int c1), .val (.int c2), .val (.int w0), .val (.int w1), .val (.int w2), .val (.ref x160), .val (.ref x162), .val (.ref y164), .val (.ref y166), .val (.ref y168), .val (.ref y170), .val (.ref b175), .val (.ref b184), .unset] [(.int (1 : Int32))])) _
                  refine XS.istore X191.here hx rfl (hb hby at_302) rfl (l' := #[.val (.int p1), .val (.int p2), .val (.int p3), .val (.int la), .val (.int lp), .val (.int c5), .val (.int c6), .val (.int c0), .val (.int c1), .val (.int c2), .val (.int w0), .val (.int w1), .val (.int w2), .val (.ref x160), .val (.ref x162), .val (.ref y164), .val (.ref y166), .val (.ref y168), .val (.ref y170), .val (.ref b175), .val (.ref b184), .val (.int (1 : Int32))]) rfl ?_
                  exact kq)
                exact ⟨1, Or.inl ⟨rfl, ((own_cs qa qp).mpr ⟨he, Or.inr e0_, Or.inr e1_, Or.inl h3_⟩).symm⟩, go208⟩
              · have go201 : Goes p e below s₁ (G_rm0 m p1 p2 p3) T191 (mkF m 294 #[.val (.int p1), .val (.int p2), .val (.int p3), .val (.int la), .val (.int lp), .val (.int c5), .val (.int c6), .val (.int c0), .val (.int c1), .val (.int c2), .val (.int w0), .val (.int w1), .val (.int w2), .val (.ref x160), .val (.ref x162), .val (.ref y164), .val (.ref y166), .val (.ref y168), .val (.ref y170), .val (.ref b175), .val (.ref b184), .unset] [(.int w2), (.int c2)]) := fun tq kq => go200 tq (by
                  show Steps p.tables e below (T191.setTop (mkF m 287 #[.val (.int p1), .val (.int p2), .val (.int p3), .val (.int la), .val (.int lp), .val (.int c5), .val (.int c6), .val (.int c0), .val (.int c1), .val (.int c2), .val (.int w0), .val (.int w1), .val (.int w2), .val (.ref x160), .val (.ref x162), .val (.ref y164), .val (.ref y166), .val (.ref y168), .val (.ref y170), .val (.ref b175), .val (.ref b184), .unset] [(.int (3 : Int32)), (.int la)])) _
                  refine XS.icmpNo X191.here hx rfl (hb hby at_287) rfl (flt h3_).1 ?_
                  show Steps p.tables e below (T191.setTop (mkF m 290 #[.val (.int p1), .val (.int p2), .val (.int p3), .val (.int la), .val (.int lp), .val (.int c5), .val (.int c6), .val (.int c0), .val (.int c1), .val (.int c2), .val (.int w0), .val (.int w1), .val (.int w2), .val (.ref x160), .val (.ref x162), .val (.ref y164), .val (.ref y166), .val (.ref y168), .val (.ref y170), .val (.ref b175), .val (.ref b184), .unset] [])) _
                  refine XS.iload X191.here hx rfl (hb hby at_290) rfl ?_
                  show Steps p.tables e below (T191.setTop (mkF m 292 #[.val (.int p1), .val (.int p2), .val (.int p3), .val (.int la), .val (.int lp), .val (.int c5), .val (.int c6), .val (.int c0), .val (.int c1), .val (.int c2), .val (.int w0), .val (.int w1), .val (.int w2), .val (.ref x160), .val (.ref x162), .val (.ref y164), .val (.ref y166), .val (.ref y168), .val (.ref y170), .val (.ref b175), .val (.ref b184), .unset] [(.int c2)])) _
                  refine XS.iload X191.here hx rfl (hb hby at_292) rfl ?_
                  exact kq)
                by_cases e2_ : c2 = w2
                · have go210 : Goes p e below s₁ (G_rm0 m p1 p2 p3) T191 (mkF m 304 #[.val (.int p1), .val (.int p2), .val (.int p3), .val (.int la), .val (.int lp), .val (.int c5), .val (.int c6), .val (.int c0), .val (.int c1), .val (.int c2), .val (.int w0), .val (.int w1), .val (.int w2), .val (.ref x160), .val (.ref x162), .val (.ref y164), .val (.ref y166), .val (.ref y168), .val (.ref y170), .val (.ref b175), .val (.ref b184), .val (.int (1 : Int32))] []) := fun tq kq => go201 tq (by
                    show Steps p.tables e below (T191.setTop (mkF m 294 #[.val (.int p1), .val (.int p2), .val (.int p3), .val (.int la), .val (.int lp), .val (.int c5), .val (.int c6), .val (.int c0), .val (.int c1), .val (.int c2), .val (.int w0), .val (.int w1), .val (.int w2), .val (.ref x160), .val (.ref x162), .val (.ref y164), .val (.ref y166), .val (.ref y168), .val (.ref y170), .val (.ref b175), .val (.ref b184), .unset] [(.int w2), (.int c2)])) _
                    refine XS.icmpNo X191.here hx rfl (hb hby at_294) rfl (teq e2_).2 ?_
                    show Steps p.tables e below (T191.setTop (mkF m 297 #[.val (.int p1), .val (.int p2), .val (.int p3), .val (.int la), .val (.int lp), .val (.int c5), .val (.int c6), .val (.int c0), .val (.int c1), .val (.int c2), .val (.int w0), .val (.int w1), .val (.int w2), .val (.ref x160), .val (.ref x162), .val (.ref y164), .val (.ref y166), .val (.ref y168), .val (.ref y170), .val (.ref b175), .val (.ref b184), .unset] [])) _
                    refine XS.iconst X191.here hx rfl (hb hby at_297) ?_
                    show Steps p.tables e below (T191.setTop (mkF m 298 #[.val (.int p1), .val (.int p2), .val (.int p3), .val (.int la), .val (.int lp), .val (.int c5), .val (.int c6), .val (.int c0), .val (.int c1), .val (.int c2), .val (.int w0), .val (.int w1), .val (.int w2), .val (.ref x160), .val (.ref x162), .val (.ref y164), .val (.ref y166), .val (.ref y168), .val (.ref y170), .val (.ref b175), .val (.ref b184), .unset] [(.int (1 : Int32))])) _
                    refine XS.goto X191.here hx rfl (pc0 := 298) (pc' := 302) rfl (hb hby at_298) (by decide) (by decide) ?_
                    show Steps p.tables e below (T191.setTop (mkF m 302 #[.val (.int p1), .val (.int p2), .val (.int p3), .val (.int la), .val (.int lp), .val (.int c5), .val (.int c6), .val (.int c0), .val (.int c1), .val (.int c2), .val (.int w0), .val (.int w1), .val (.int w2), .val (.ref x160), .val (.ref x162), .val (.ref y164), .val (.ref y166), .val (.ref y168), .val (.ref y170), .val (.ref b175), .val (.ref b184), .unset] [(.int (1 : Int32))])) _
                    refine XS.istore X191.here hx rfl (hb hby at_302) rfl (l' := #[.val (.int p1), .val (.int p2), .val (.int p3), .val (.int la), .val (.int lp), .val (.int c5), .val (.int c6), .val (.int c0), .val (.int c1), .val (.int c2), .val (.int w0), .val (.int w1), .val (.int w2), .val (.ref x160), .val (.ref x162), .val (.ref y164), .val (.ref y166), .val (.ref y168), .val (.ref y170), .val (.ref b175), .val (.ref b184), .val (.int (1 : Int32))]) rfl ?_
                    exact kq)
                  exact ⟨1, Or.inl ⟨rfl, ((own_cs qa qp).mpr ⟨he, Or.inr e0_, Or.inr e1_, Or.inr e2_⟩).symm⟩, go210⟩
                · have go209 : Goes p e below s₁ (G_rm0 m p1 p2 p3) T191 (mkF m 304 #[.val (.int p1), .val (.int p2), .val (.int p3), .val (.int la), .val (.int lp), .val (.int c5), .val (.int c6), .val (.int c0), .val (.int c1), .val (.int c2), .val (.int w0), .val (.int w1), .val (.int w2), .val (.ref x160), .val (.ref x162), .val (.ref y164), .val (.ref y166), .val (.ref y168), .val (.ref y170), .val (.ref b175), .val (.ref b184), .val (.int (0 : Int32))] []) := fun tq kq => go201 tq (by
                    show Steps p.tables e below (T191.setTop (mkF m 294 #[.val (.int p1), .val (.int p2), .val (.int p3), .val (.int la), .val (.int lp), .val (.int c5), .val (.int c6), .val (.int c0), .val (.int c1), .val (.int c2), .val (.int w0), .val (.int w1), .val (.int w2), .val (.ref x160), .val (.ref x162), .val (.ref y164), .val (.ref y166), .val (.ref y168), .val (.ref y170), .val (.ref b175), .val (.ref b184), .unset] [(.int w2), (.int c2)])) _
                    refine XS.icmpYes X191.here hx rfl (pc0 := 294) (pc' := 301) rfl (hb hby at_294) rfl (feq e2_).2 (by decide) (by decide) ?_
                    show Steps p.tables e below (T191.setTop (mkF m 301 #[.val (.int p1), .val (.int p2), .val (.int p3), .val (.int la), .val (.int lp), .val (.int c5), .val (.int c6), .val (.int c0), .val (.int c1), .val (.int c2), .val (.int w0), .val (.int w1), .val (.int w2), .val (.ref x160), .val (.ref x162), .val (.ref y164), .val (.ref y166), .val (.ref y168), .val (.ref y170), .val (.ref b175), .val (.ref b184), .unset] [])) _
                    refine XS.iconst X191.here hx rfl (hb hby at_301) ?_
                    show Steps p.tables e below (T191.setTop (mkF m 302 #[.val (.int p1), .val (.int p2), .val (.int p3), .val (.int la), .val (.int lp), .val (.int c5), .val (.int c6), .val (.int c0), .val (.int c1), .val (.int c2), .val (.int w0), .val (.int w1), .val (.int w2), .val (.ref x160), .val (.ref x162), .val (.ref y164), .val (.ref y166), .val (.ref y168), .val (.ref y170), .val (.ref b175), .val (.ref b184), .unset] [(.int (0 : Int32))])) _
                    refine XS.istore X191.here hx rfl (hb hby at_302) rfl (l' := #[.val (.int p1), .val (.int p2), .val (.int p3), .val (.int la), .val (.int lp), .val (.int c5), .val (.int c6), .val (.int c0), .val (.int c1), .val (.int c2), .val (.int w0), .val (.int w1), .val (.int w2), .val (.ref x160), .val (.ref x162), .val (.ref y164), .val (.ref y166), .val (.ref y168), .val (.ref y170), .val (.ref b175), .val (.ref b184), .val (.int (0 : Int32))]) rfl ?_
                    exact kq)
                  exact ⟨0, Or.inr ⟨rfl, fun q => (((own_cs qa qp).mp q.symm).2.2.2).elim h3_ e2_⟩, go209⟩
            · have go207 : Goes p e below s₁ (G_rm0 m p1 p2 p3) T191 (mkF m 304 #[.val (.int p1), .val (.int p2), .val (.int p3), .val (.int la), .val (.int lp), .val (.int c5), .val (.int c6), .val (.int c0), .val (.int c1), .val (.int c2), .val (.int w0), .val (.int w1), .val (.int w2), .val (.ref x160), .val (.ref x162), .val (.ref y164), .val (.ref y166), .val (.ref y168), .val (.ref y170), .val (.ref b175), .val (.ref b184), .val (.int (0 : Int32))] []) := fun tq kq => go199 tq (by
                show Steps p.tables e below (T191.setTop (mkF m 282 #[.val (.int p1), .val (.int p2), .val (.int p3), .val (.int la), .val (.int lp), .val (.int c5), .val (.int c6), .val (.int c0), .val (.int c1), .val (.int c2), .val (.int w0), .val (.int w1), .val (.int w2), .val (.ref x160), .val (.ref x162), .val (.ref y164), .val (.ref y166), .val (.ref y168), .val (.ref y170), .val (.ref b175), .val (.ref b184), .unset] [(.int w1), (.int c1)])) _
                refine XS.icmpYes X191.here hx rfl (pc0 := 282) (pc' := 301) rfl (hb hby at_282) rfl (feq e1_).2 (by decide) (by decide) ?_
                show Steps p.tables e below (T191.setTop (mkF m 301 #[.val (.int p1), .val (.int p2), .val (.int p3), .val (.int la), .val (.int lp), .val (.int c5), .val (.int c6), .val (.int c0), .val (.int c1), .val (.int c2), .val (.int w0), .val (.int w1), .val (.int w2), .val (.ref x160), .val (.ref x162), .val (.ref y164), .val (.ref y166), .val (.ref y168), .val (.ref y170), .val (.ref b175), .val (.ref b184), .unset] [])) _
                refine XS.iconst X191.here hx rfl (hb hby at_301) ?_
                show Steps p.tables e below (T191.setTop (mkF m 302 #[.val (.int p1), .val (.int p2), .val (.int p3), .val (.int la), .val (.int lp), .val (.int c5), .val (.int c6), .val (.int c0), .val (.int c1), .val (.int c2), .val (.int w0), .val (.int w1), .val (.int w2), .val (.ref x160), .val (.ref x162), .val (.ref y164), .val (.ref y166), .val (.ref y168), .val (.ref y170), .val (.ref b175), .val (.ref b184), .unset] [(.int (0 : Int32))])) _
                refine XS.istore X191.here hx rfl (hb hby at_302) rfl (l' := #[.val (.int p1), .val (.int p2), .val (.int p3), .val (.int la), .val (.int lp), .val (.int c5), .val (.int c6), .val (.int c0), .val (.int c1), .val (.int c2), .val (.int w0), .val (.int w1), .val (.int w2), .val (.ref x160), .val (.ref x162), .val (.ref y164), .val (.ref y166), .val (.ref y168), .val (.ref y170), .val (.ref b175), .val (.ref b184), .val (.int (0 : Int32))]) rfl ?_
                exact kq)
              exact ⟨0, Or.inr ⟨rfl, fun q => (((own_cs qa qp).mp q.symm).2.2.1).elim h2_ e1_⟩, go207⟩
        · have go205 : Goes p e below s₁ (G_rm0 m p1 p2 p3) T191 (mkF m 304 #[.val (.int p1), .val (.int p2), .val (.int p3), .val (.int la), .val (.int lp), .val (.int c5), .val (.int c6), .val (.int c0), .val (.int c1), .val (.int c2), .val (.int w0), .val (.int w1), .val (.int w2), .val (.ref x160), .val (.ref x162), .val (.ref y164), .val (.ref y166), .val (.ref y168), .val (.ref y170), .val (.ref b175), .val (.ref b184), .val (.int (0 : Int32))] []) := fun tq kq => go196 tq (by
            show Steps p.tables e below (T191.setTop (mkF m 270 #[.val (.int p1), .val (.int p2), .val (.int p3), .val (.int la), .val (.int lp), .val (.int c5), .val (.int c6), .val (.int c0), .val (.int c1), .val (.int c2), .val (.int w0), .val (.int w1), .val (.int w2), .val (.ref x160), .val (.ref x162), .val (.ref y164), .val (.ref y166), .val (.ref y168), .val (.ref y170), .val (.ref b175), .val (.ref b184), .unset] [(.int w0), (.int c0)])) _
            refine XS.icmpYes X191.here hx rfl (pc0 := 270) (pc' := 301) rfl (hb hby at_270) rfl (feq e0_).2 (by decide) (by decide) ?_
            show Steps p.tables e below (T191.setTop (mkF m 301 #[.val (.int p1), .val (.int p2), .val (.int p3), .val (.int la), .val (.int lp), .val (.int c5), .val (.int c6), .val (.int c0), .val (.int c1), .val (.int c2), .val (.int w0), .val (.int w1), .val (.int w2), .val (.ref x160), .val (.ref x162), .val (.ref y164), .val (.ref y166), .val (.ref y168), .val (.ref y170), .val (.ref b175), .val (.ref b184), .unset] [])) _
            refine XS.iconst X191.here hx rfl (hb hby at_301) ?_
            show Steps p.tables e below (T191.setTop (mkF m 302 #[.val (.int p1), .val (.int p2), .val (.int p3), .val (.int la), .val (.int lp), .val (.int c5), .val (.int c6), .val (.int c0), .val (.int c1), .val (.int c2), .val (.int w0), .val (.int w1), .val (.int w2), .val (.ref x160), .val (.ref x162), .val (.ref y164), .val (.ref y166), .val (.ref y168), .val (.ref y170), .val (.ref b175), .val (.ref b184), .unset] [(.int (0 : Int32))])) _
            refine XS.istore X191.here hx rfl (hb hby at_302) rfl (l' := #[.val (.int p1), .val (.int p2), .val (.int p3), .val (.int la), .val (.int lp), .val (.int c5), .val (.int c6), .val (.int c0), .val (.int c1), .val (.int c2), .val (.int w0), .val (.int w1), .val (.int w2), .val (.ref x160), .val (.ref x162), .val (.ref y164), .val (.ref y166), .val (.ref y168), .val (.ref y170), .val (.ref b175), .val (.ref b184), .val (.int (0 : Int32))]) rfl ?_
            exact kq)
          exact ⟨0, Or.inr ⟨rfl, fun q => (((own_cs qa qp).mp q.symm).2.1).elim h1 e0_⟩, go205⟩
    · have go203 : Goes p e below s₁ (G_rm0 m p1 p2 p3) T191 (mkF m 304 #[.val (.int p1), .val (.int p2), .val (.int p3), .val (.int la), .val (.int lp), .val (.int c5), .val (.int c6), .val (.int c0), .val (.int c1), .val (.int c2), .val (.int w0), .val (.int w1), .val (.int w2), .val (.ref x160), .val (.ref x162), .val (.ref y164), .val (.ref y166), .val (.ref y168), .val (.ref y170), .val (.ref b175), .val (.ref b184), .val (.int (0 : Int32))] []) := fun tq kq => go192 tq (by
        show Steps p.tables e below (T191.setTop (mkF m 258 #[.val (.int p1), .val (.int p2), .val (.int p3), .val (.int la), .val (.int lp), .val (.int c5), .val (.int c6), .val (.int c0), .val (.int c1), .val (.int c2), .val (.int w0), .val (.int w1), .val (.int w2), .val (.ref x160), .val (.ref x162), .val (.ref y164), .val (.ref y166), .val (.ref y168), .val (.ref y170), .val (.ref b175), .val (.ref b184), .unset] [(.int lp), (.int la)])) _
        refine XS.icmpYes X191.here hx rfl (pc0 := 258) (pc' := 301) rfl (hb hby at_258) rfl (feq he).2 (by decide) (by decide) ?_
        show Steps p.tables e below (T191.setTop (mkF m 301 #[.val (.int p1), .val (.int p2), .val (.int p3), .val (.int la), .val (.int lp), .val (.int c5), .val (.int c6), .val (.int c0), .val (.int c1), .val (.int c2), .val (.int w0), .val (.int w1), .val (.int w2), .val (.ref x160), .val (.ref x162), .val (.ref y164), .val (.ref y166), .val (.ref y168), .val (.ref y170), .val (.ref b175), .val (.ref b184), .unset] [])) _
        refine XS.iconst X191.here hx rfl (hb hby at_301) ?_
        show Steps p.tables e below (T191.setTop (mkF m 302 #[.val (.int p1), .val (.int p2), .val (.int p3), .val (.int la), .val (.int lp), .val (.int c5), .val (.int c6), .val (.int c0), .val (.int c1), .val (.int c2), .val (.int w0), .val (.int w1), .val (.int w2), .val (.ref x160), .val (.ref x162), .val (.ref y164), .val (.ref y166), .val (.ref y168), .val (.ref y170), .val (.ref b175), .val (.ref b184), .unset] [(.int (0 : Int32))])) _
        refine XS.istore X191.here hx rfl (hb hby at_302) rfl (l' := #[.val (.int p1), .val (.int p2), .val (.int p3), .val (.int la), .val (.int lp), .val (.int c5), .val (.int c6), .val (.int c0), .val (.int c1), .val (.int c2), .val (.int w0), .val (.int w1), .val (.int w2), .val (.ref x160), .val (.ref x162), .val (.ref y164), .val (.ref y166), .val (.ref y168), .val (.ref y170), .val (.ref b175), .val (.ref b184), .val (.int (0 : Int32))]) rfl ?_
        exact kq)
      exact ⟨0, Or.inr ⟨rfl, fun q => he ((own_cs qa qp).mp q.symm).1⟩, go203⟩
  have go211 : Goes p e below s₁ (G_rm0 m p1 p2 p3) T191 (mkF m 306 #[.val (.int p1), .val (.int p2), .val (.int p3), .val (.int la), .val (.int lp), .val (.int c5), .val (.int c6), .val (.int c0), .val (.int c1), .val (.int c2), .val (.int w0), .val (.int w1), .val (.int w2), .val (.ref x160), .val (.ref x162), .val (.ref y164), .val (.ref y166), .val (.ref y168), .val (.ref y170), .val (.ref b175), .val (.ref b184), .val (.int ex)] [(.ref b184)]) := fun tq kq => go202 tq (by
    show Steps p.tables e below (T191.setTop (mkF m 304 #[.val (.int p1), .val (.int p2), .val (.int p3), .val (.int la), .val (.int lp), .val (.int c5), .val (.int c6), .val (.int c0), .val (.int c1), .val (.int c2), .val (.int w0), .val (.int w1), .val (.int w2), .val (.ref x160), .val (.ref x162), .val (.ref y164), .val (.ref y166), .val (.ref y168), .val (.ref y170), .val (.ref b175), .val (.ref b184), .val (.int ex)] [])) _
    refine XS.aload X191.here hx rfl (hb hby at_304) rfl rfl ?_
    exact kq)
  have f212 := ((((((((Fc162.keep K164 nin0).keep K166 nin0).keep K168 nin0).keep K170 nin0).ext E175).keep K181 (ninS ne178 nin0)).ext E184).keep K191 (ninS ne187 nin0))
  have f213 := ((((((((Fv162.keep K164 nin0).keep K166 nin0).keep K168 nin0).keep K170 nin0).ext E175).keep K181 (ninS ne178 nin0)).ext E184).keep K191 (ninS ne187 nin0))
  have f214 := ((((f173.ext E175).keep K181 (ninS ne179 nin0)).ext E184).keep K191 (ninS ne188 nin0))
  have f215 := (((((((((Fc160.keep K162 nin0).keep K164 nin0).keep K166 nin0).keep K168 nin0).keep K170 nin0).ext E175).keep K181 (ninS ne176 nin0)).ext E184).keep K191 (ninS ne185 nin0))
  have f216 := (((((((((Fv160.keep K162 nin0).keep K164 nin0).keep K166 nin0).keep K168 nin0).keep K170 nin0).ext E175).keep K181 (ninS ne176 nin0)).ext E184).keep K191 (ninS ne185 nin0))
  have f217 := ((((f172.ext E175).keep K181 (ninS ne177 nin0)).ext E184).keep K191 (ninS ne186 nin0))
  obtain ⟨cq218, kq218, q218a, q218b, q218c⟩ := isOf hZ rfl A191
  obtain ⟨vv218, _, ⟨T218, L218, k218, n218⟩, -, X218, ⟨Lc218, hQ218, l218, y218, z218⟩, st218⟩ := X191.virtualBack hx (y := (⟨"com/example/rightful_keys/rightfulkeys/store/Project", "isDefault", "()Z"⟩ : MethodName)) (z := (⟨"com/example/rightful_keys/rightfulkeys/store/Project", "isDefault", "()Z"⟩ : MethodName)) hown (mvT hZ (tw86 hw)) (mvT hZ (tw87 hw)) (notFace_of_selects (args := #[]) (mvT hZ (tw89 hw))) (mvT hZ (tw89 hw)) (mvT hZ (tw88 hw)) (by decide) (backOf (W := 0) (rmDf l Z a0 hw [] b184 x162 b175 x160 t162 t160 k162' k160' N162' N160' cz vs162 vs160 (csv lp w0 w1 w2) (csv la c0 c1 c2) T191.heap n0 ZS191 G191 F191 ((A181.ext E184).keep K191) ((F181.ext E184).keep K191 (ninS ne189 nin0)) (SC.ext O191.2) hz ((f182.ext E184).keep K191) f212 f213 f214 C162 (own_all (own_up hx158.1) (own_up hx158.2.1) (own_up hx158.2.2)) (own_len _ _ _ _) ((((f171.ext E175).keep K181).ext E184).keep K191) f215 f216 f217 C160 (own_all (own_up k_c0) (own_up k_c1) (own_up k_c2)) (own_len _ _ _ _)) hZ (tw90 hw) (tw69 hw) (by decide) (by decide)) q218a q218c (g := (mkF m 306 #[.val (.int p1), .val (.int p2), .val (.int p3), .val (.int la), .val (.int lp), .val (.int c5), .val (.int c6), .val (.int c0), .val (.int c1), .val (.int c2), .val (.int w0), .val (.int w1), .val (.int w2), .val (.ref x160), .val (.ref x162), .val (.ref y164), .val (.ref y166), .val (.ref y168), .val (.ref y170), .val (.ref b175), .val (.ref b184), .val (.int ex)] [(.ref b184)])) rfl (by rw [hml]; rfl) (Steps.refl _) (argsL := []) (rest := []) (lenOf pd_12 rfl) rfl (by show 2 * 0 + _ ≤ _; exact Nat.le_of_eq rfl) (hb hby at_306) (fun _ _ => ⟨rfl, rfl, (by decide : 18 + 0 ≤ _), (by decide : 48 + 0 ≤ _)⟩)
  dsimp only [Pt.U, Pt.locs, Pt.cells, Pt.slots] at X218 l218 y218 z218 st218 hQ218
  subst l218 y218 z218
  obtain ⟨r218, hr218, rfl, Nq218, eq218⟩ := hQ218
  have N218 := Fr.app N191 Nq218
  have go218 : Goes p e below s₁ (G_rm0 m p1 p2 p3) T218 (mkF m 309 #[.val (.int p1), .val (.int p2), .val (.int p3), .val (.int la), .val (.int lp), .val (.int c5), .val (.int c6), .val (.int c0), .val (.int c1), .val (.int c2), .val (.int w0), .val (.int w1), .val (.int w2), .val (.ref x160), .val (.ref x162), .val (.ref y164), .val (.ref y166), .val (.ref y168), .val (.ref y170), .val (.ref b175), .val (.ref b184), .val (.int ex)] [(.int r218)]) := fun tq kq => go211 tq (st218.trans kq)
  have heq : r218 = ex := by rcases hr218 with ⟨q, q1⟩ | ⟨q, q1⟩ <;> rcases hex with ⟨u, u1⟩ | ⟨u, u1⟩ <;> first | (rw [q, u]; done) | exact absurd u1 q1 | exact absurd q1 u1
  have go219 : Goes p e below s₁ (G_rm0 m p1 p2 p3) T218 (mkF m 311 #[.val (.int p1), .val (.int p2), .val (.int p3), .val (.int la), .val (.int lp), .val (.int c5), .val (.int c6), .val (.int c0), .val (.int c1), .val (.int c2), .val (.int w0), .val (.int w1), .val (.int w2), .val (.ref x160), .val (.ref x162), .val (.ref y164), .val (.ref y166), .val (.ref y168), .val (.ref y170), .val (.ref b175), .val (.ref b184), .val (.int ex)] [(.int ex), (.int r218)]) := fun tq kq => go218 tq (by
    show Steps p.tables e below (T218.setTop (mkF m 309 #[.val (.int p1), .val (.int p2), .val (.int p3), .val (.int la), .val (.int lp), .val (.int c5), .val (.int c6), .val (.int c0), .val (.int c1), .val (.int c2), .val (.int w0), .val (.int w1), .val (.int w2), .val (.ref x160), .val (.ref x162), .val (.ref y164), .val (.ref y166), .val (.ref y168), .val (.ref y170), .val (.ref b175), .val (.ref b184), .val (.int ex)] [(.int r218)])) _
    refine XS.iload X218.here hx rfl (hb hby at_309) rfl ?_
    exact kq)
  have go220 : Goes p e below s₁ (G_rm0 m p1 p2 p3) T218 (mkF m 319 #[.val (.int p1), .val (.int p2), .val (.int p3), .val (.int la), .val (.int lp), .val (.int c5), .val (.int c6), .val (.int c0), .val (.int c1), .val (.int c2), .val (.int w0), .val (.int w1), .val (.int w2), .val (.ref x160), .val (.ref x162), .val (.ref y164), .val (.ref y166), .val (.ref y168), .val (.ref y170), .val (.ref b175), .val (.ref b184), .val (.int ex)] [(.int (1 : Int32))]) := fun tq kq => go219 tq (by
    show Steps p.tables e below (T218.setTop (mkF m 311 #[.val (.int p1), .val (.int p2), .val (.int p3), .val (.int la), .val (.int lp), .val (.int c5), .val (.int c6), .val (.int c0), .val (.int c1), .val (.int c2), .val (.int w0), .val (.int w1), .val (.int w2), .val (.ref x160), .val (.ref x162), .val (.ref y164), .val (.ref y166), .val (.ref y168), .val (.ref y170), .val (.ref b175), .val (.ref b184), .val (.int ex)] [(.int ex), (.int r218)])) _
    refine XS.icmpNo X218.here hx rfl (hb hby at_311) rfl (teq heq).2 ?_
    show Steps p.tables e below (T218.setTop (mkF m 314 #[.val (.int p1), .val (.int p2), .val (.int p3), .val (.int la), .val (.int lp), .val (.int c5), .val (.int c6), .val (.int c0), .val (.int c1), .val (.int c2), .val (.int w0), .val (.int w1), .val (.int w2), .val (.ref x160), .val (.ref x162), .val (.ref y164), .val (.ref y166), .val (.ref y168), .val (.ref y170), .val (.ref b175), .val (.ref b184), .val (.int ex)] [])) _
    refine XS.iconst X218.here hx rfl (hb hby at_314) ?_
    show Steps p.tables e below (T218.setTop (mkF m 315 #[.val (.int p1), .val (.int p2), .val (.int p3), .val (.int la), .val (.int lp), .val (.int c5), .val (.int c6), .val (.int c0), .val (.int c1), .val (.int c2), .val (.int w0), .val (.int w1), .val (.int w2), .val (.ref x160), .val (.ref x162), .val (.ref y164), .val (.ref y166), .val (.ref y168), .val (.ref y170), .val (.ref b175), .val (.ref b184), .val (.int ex)] [(.int (1 : Int32))])) _
    refine XS.goto X218.here hx rfl (pc0 := 315) (pc' := 319) rfl (hb hby at_315) (by decide) (by decide) ?_
    exact kq)
  obtain ⟨fs, hr, hrun, hended, hEW⟩ := Stand.leaveW (s := s) X218 hS162 (by rw [eq218]; exact (Nat.le_trans (Nat.le_trans (Nat.le_trans (Nat.le_trans (Nat.le_trans (Nat.le_trans (Nat.le_trans (Nat.le_trans (Nat.le_refl _) K164.1) K166.1) K168.1) K170.1) E175.1) K181.1) E184.1) K191.1)) (v := some (.int (1 : Int32))) (fun h => by rw [Bd.returns] at h; cases h)
  refine ⟨_, _, go220 _ ?_, hrun, hended, _, _, rfl, ?_, hEW.1, hEW.2.1, hEW.2.2.1, hEW.2.2.2.mono (by decide) (by decide)⟩
  · exact retN X218 hx (t := .boolean) Bd.returns (by simp) (hb hby at_319) hr
  · show Q_rm0 Z p1 p2 p3 cz h0 n0 _ T218.heap _
    rw [eq218]
    exact ⟨rfl, N218⟩
set_option maxRecDepth 65536 in
set_option maxHeartbeats 40000000 in
theorem comes_1 {Post : Tables → Env → Array Value → State → Outcome → State → Prop} (hpost : ∀ tb e args s v u, (limb_1_1.after args s (.returned v) u = true ∧ limb_1_2.after args s (.returned v) u = true ∧ True) → ReturnedEndW s (.returned v) u (Jvm.fieldLocs frame_1_writes args s ++ Jvm.arrayLocs frame_1_arrays args s ++ Jvm.staticLocs frame_1_statics s) 48 1216 → Post tb e args s (.returned v) u) :
    ArmFor flags0 classFile x code maxLocals ret World_1 tables_1 room_1 Calls_1 rest_1 Pre_1 Post := by
  intro l hfl _ _ p e ha hc hk s m args below hf hA hF happ hP
  obtain ⟨hcalls, hrest, hpre⟩ := hP
  obtain ⟨-, -, -, hnamed, -, -, -, hat⟩ := (Spec.applies_iff hf).mp happ
  obtain ⟨hg, hn⟩ := and_e (Cond.before_iff.mp (show (Jvm.Cond.and given_1 narrow_1).before args s = true from hpre))
  obtain ⟨g0, hg0⟩ := and_e hg
  obtain ⟨g1, hg1⟩ := and_e hg0
  obtain ⟨g2, hg2⟩ := and_e hg1
  obtain ⟨w0, w1, w2, rfl⟩ : ∃ w0 w1 w2 : Value, args = #[w0, w1, w2] := by
    have hs : args.size = 3 := by simpa [Cond.value, given_1] using g0
    obtain ⟨L⟩ := args
    match L, hs with
    | [w0, w1, w2], _ => exact ⟨w0, w1, w2, rfl⟩
  have hw := fun d (hd : d ∈ tables_1) => atoms_spec (ws := Jvm.Cond.code x code maxLocals ret :: tables_1) hat d (List.mem_cons_of_mem _ hd)
  have hfit : Fit s := fun {y c} hc i hi => by
    obtain ⟨ha, rfl⟩ := Array.getElem?_eq_some_iff.mp hc
    have q := List.all_eq_true.mp ((Array.all_eq_true_iff_forall_mem.mp hF) _ (Array.getElem_mem ha)) i (List.mem_range.mpr hi)
    simpa [Array.getElem?_eq_getElem hi] using q
  obtain ⟨hsets, hown0⟩ := atoms_of _ (rest_1_c_eq ▸ (show rest_1_c.before _ s = true from hrest))
  have hr0 := Cond.before_iff.mp hown0
  obtain ⟨i0, ei0⟩ := is_v g1
  obtain rfl : w0 = (.int i0) := Option.some.inj ei0
  obtain ⟨i1, ei1⟩ := is_v g2
  obtain rfl : w1 = (.int i1) := Option.some.inj ei1
  obtain ⟨i2, ei2⟩ := is_v hg2
  obtain rfl : w2 = (.int i2) := Option.some.inj ei2
  obtain ⟨cz, ecz⟩ := is_v (Cond.before_iff.mp (hsets _ (List.mem_of_getElem? (i := 1) rfl)))
  have SC := Sta.start ecz (Or.inl (hsets _ (List.mem_of_getElem? (i := 0) rfl)))
  have hcw := hsets _ (List.mem_of_getElem? (i := 2) rfl)
  have hz : ¬ (cz = (0 : Int32)) := fun q => by have h := not_v (Cond.before_iff.mp hcw); rw [eq_i ecz (Term.int_eval 0) (by rw [q])] at h; cases h
  obtain ⟨n, o, h1, h2, h3, _, L, rfl, ⟨rfl, N⟩, hq⟩ := rm0 l s _ hw tables_1 i0 i1 i2 cz s.heap s.heap.size (Nat.le_refl _) (Old.start s) hcw (hcalls.1 ("java/lang/String", 7) (by simp [consts_1])) hz SC p e ha hc hk s m _ below hf ((Spec.applies_iff_loose hf).mp happ).1 ⟨rfl, State.Warmed39.refl s, rfl, IB.start⟩ trivial
  refine ⟨n, _, h1, h2, h3, hpost _ _ _ _ _ _ ⟨Cond.after_iff.mpr rfl, Cond.after_iff.mpr (eq_i res_at (Term.int_eval (1)) rfl), trivial⟩ ⟨hq.1, hq.2.1, hq.2.2.1, (hq.2.2.2.sift fun y hy => Or.inr (N y hy)).mono (by decide) (by decide)⟩⟩
theorem main_1_1 : Claimed_1_1 := comes_1 fun _ _ _ _ _ _ h hF => ⟨h.1, hF⟩
theorem main_1_2 : Claimed_1_2 := comes_1 fun _ _ _ _ _ _ h hF => ⟨h.2.1, hF⟩
end Jvm.Pilot.@@N@@
namespace Jvm.Pilot.@@N@@
open Jvm Jvm.ClassFile Sem Op Lib Jvm.Free Jvm.Stand Jvm.Pilot.@@N@@.Jvm.D
/-! MADE BY PROGRAM (witnessworld.py) out of the Statement's table words and the real class files: 22 classes; the members and pool entries that the words name. The judged class is class 1, her method 2. -/
namespace start1
open Jvm.ClassFile
def u (s : String) : CpInfo := .utf8 (stringToUtf16 s)
/-- a pool by its gaps: so many unusable entries, then the entry; so many at the end -/
def gap : Nat → List CpInfo → List CpInfo
  | 0, r => r
  | n + 1, r => .unusable :: gap n r
def poolList (es : List (Nat × CpInfo)) (last : Nat) : List CpInfo := es.foldr (fun e r => gap e.1 (e.2 :: r)) (gap last [])
def pool (es : List (Nat × CpInfo)) (last : Nat) : Array CpInfo := ⟨poolList es last⟩
def fileOf (pool : Array CpInfo) (this : Nat) (attrs : Array Attribute := #[]) (ms : Array MethodInfo := #[]) (fl : Nat := 33) (sup : Nat := 0) (ifs : Array Nat := #[]) (fds : Array FieldInfo := #[]) : ClassFile where
  minorVersion := 0
  majorVersion := 65
  constantPool := pool
  accessFlags := fl
  thisClass := this
  superClass := sup
  interfaces := ifs
  fields := fds
  methods := ms
  attributes := attrs
def plain (name : String) (sup : Option ClassId) : Class where
  name := name
  kind := .ordinary
  loader := none
  accessFlags := 33
  super := sup
  interfaces := #[]
  cf := none
  fields := #[]
  methods := #[]
  instanceTypes := #[]
  staticTypes := #[]
  resolved := #[]
  callSites := []
  init := .initialized
  statics := none
  mirror := none

def pool0 : Array CpInfo := pool [(5, u "<init>"), (0, u "()V"), (1, .class_ 10), (1, u "java/lang/Object")] 113

def k0c0 : Code := { maxStack := 0, maxLocals := 1, code := object_method_1_code, exceptionTable := #[], attributes := #[] }
def k0m0 : Method := { name := "<init>", desc := "()V", sig := { parameters := [], returnType := none }, accessFlags := 1, code := some k0c0 }
/-- java/lang/Object -/
def k0 : Class := { plain "java/lang/Object" none with
  accessFlags := 33
  interfaces := #[]
  cf := some (fileOf pool0 8 #[] #[{ accessFlags := 1, nameIndex := 5, descriptorIndex := 6, attributes := #[] }] 33 0 #[] #[])
  fields := #[]
  methods := #[k0m0]
  instanceTypes := #[]
  staticTypes := #[]
  resolved := Array.replicate 124 none
  statics := none }

def pool1 : Array CpInfo := pool [(2, .class_ 4), (1, u "java/lang/Object"), (0, u "<init>"), (0, u "()V"), (0, .class_ 8), (0, u "java/lang/String"), (0, .methodref 7 10), (0, .nameAndType 5 11), (0, u "([C)V"), (0, .methodref 13 14), (0, .class_ 15), (0, .nameAndType 16 17), (0, u "com/example/rightful_keys/rightfulkeys/store/ProjectIsDefaultPinLaw"), (0, u "mk"), (0, u "(ICCC)Ljava/lang/String;"), (0, .methodref 7 19), (0, .nameAndType 20 21), (0, u "valueOf"), (0, u "(C)Ljava/lang/String;"), (0, .class_ 23), (0, u "com/example/rightful_keys/rightfulkeys/store/Account"), (0, .methodref 22 25), (0, .nameAndType 5 26), (0, u "(Ljava/lang/String;Ljava/lang/String;)V"), (0, .class_ 28), (0, u "com/example/rightful_keys/rightfulkeys/store/Project"), (0, .methodref 27 30), (0, .nameAndType 5 31), (0, u "(Ljava/lang/String;Ljava/lang/String;Lcom/example/rightful_keys/rightfulkeys/store/Account;Ljava/lang/String;ZLjava/lang/String;)V"), (0, .methodref 27 33), (0, .nameAndType 34 35), (0, u "isDefault"), (0, u "()Z"), (3, u "law"), (0, u "(III)Z")] 2

def k1m0 : Method := { name := "<init>", desc := "()V", sig := { parameters := [], returnType := none }, accessFlags := 1, code := none }
def k1c1 : Code := { maxStack := 6, maxLocals := 4, code := method_2_code, exceptionTable := #[], attributes := #[] }
def k1m1 : Method := { name := "mk", desc := "(ICCC)Ljava/lang/String;", sig := { parameters := [.int, .char, .char, .char], returnType := some (.object "java/lang/String") }, accessFlags := 10, code := some k1c1 }
def k1c2 : Code := { maxStack := 8, maxLocals := 22, code := code, exceptionTable := #[], attributes := #[] }
def k1m2 : Method := { name := "law", desc := "(III)Z", sig := { parameters := [.int, .int, .int], returnType := some .boolean }, accessFlags := 9, code := some k1c2 }
/-- com/example/rightful_keys/rightfulkeys/store/ProjectIsDefaultPinLaw -/
def k1 : Class := { plain "com/example/rightful_keys/rightfulkeys/store/ProjectIsDefaultPinLaw" (some 0) with
  accessFlags := 49
  interfaces := #[]
  cf := some (fileOf pool1 13 #[] #[{ accessFlags := 1, nameIndex := 5, descriptorIndex := 6, attributes := #[] }, { accessFlags := 10, nameIndex := 16, descriptorIndex := 17, attributes := #[] }, { accessFlags := 9, nameIndex := 39, descriptorIndex := 40, attributes := #[] }] 49 2 #[] #[])
  fields := #[]
  methods := #[k1m0, k1m1, k1m2]
  instanceTypes := #[]
  staticTypes := #[]
  resolved := Array.replicate 43 none
  statics := none }

def pool2 : Array CpInfo := pool [(1, .class_ 2), (0, u "java/io/Serializable"), (0, .class_ 4), (0, u "java/lang/Object")] 2

/-- java/io/Serializable -/
def k2 : Class := { plain "java/io/Serializable" (some 0) with
  accessFlags := 1537
  interfaces := #[]
  cf := some (fileOf pool2 1 #[] #[] 1537 3 #[] #[])
  fields := #[]
  methods := #[]
  instanceTypes := #[]
  staticTypes := #[]
  resolved := Array.replicate 7 none
  statics := none }

def pool3 : Array CpInfo := pool [(1, .class_ 2), (0, u "java/lang/Comparable"), (0, .class_ 4), (0, u "java/lang/Object")] 7

/-- java/lang/Comparable -/
def k3 : Class := { plain "java/lang/Comparable" (some 0) with
  accessFlags := 1537
  interfaces := #[]
  cf := some (fileOf pool3 1 #[] #[] 1537 3 #[] #[])
  fields := #[]
  methods := #[]
  instanceTypes := #[]
  staticTypes := #[]
  resolved := Array.replicate 12 none
  statics := none }

def pool4 : Array CpInfo := pool [(2, .class_ 4), (1, u "java/lang/CharSequence"), (42, .class_ 48), (0, u "java/lang/CharSequence$1CodePointIterator"), (10, .class_ 60), (0, u "java/lang/CharSequence$1CharIterator"), (5, .class_ 67), (0, u "java/lang/Object")] 63

/-- java/lang/CharSequence -/
def k4 : Class := { plain "java/lang/CharSequence" (some 0) with
  accessFlags := 1537
  interfaces := #[]
  cf := some (fileOf pool4 2 #[.nestMembers #[47, 59]] #[] 1537 66 #[] #[])
  fields := #[]
  methods := #[]
  instanceTypes := #[]
  staticTypes := #[]
  resolved := Array.replicate 131 none
  statics := none }

def pool5 : Array CpInfo := pool [(1, .class_ 2), (0, u "java/lang/constant/Constable"), (0, .class_ 4), (0, u "java/lang/Object")] 6

/-- java/lang/constant/Constable -/
def k5 : Class := { plain "java/lang/constant/Constable" (some 0) with
  accessFlags := 1537
  interfaces := #[]
  cf := some (fileOf pool5 1 #[] #[] 1537 3 #[] #[])
  fields := #[]
  methods := #[]
  instanceTypes := #[]
  staticTypes := #[]
  resolved := Array.replicate 11 none
  statics := none }

def pool6 : Array CpInfo := pool [(1, .class_ 2), (0, u "java/lang/constant/ConstantDesc"), (0, .class_ 4), (0, u "java/lang/Object")] 32

/-- java/lang/constant/ConstantDesc -/
def k6 : Class := { plain "java/lang/constant/ConstantDesc" (some 0) with
  accessFlags := 1537
  interfaces := #[]
  cf := some (fileOf pool6 1 #[] #[] 1537 3 #[] #[])
  fields := #[]
  methods := #[]
  instanceTypes := #[]
  staticTypes := #[]
  resolved := Array.replicate 37 none
  statics := none }

def pool7 : Array CpInfo := pool [(1, .methodref 2 3), (0, .class_ 4), (0, .nameAndType 5 6), (0, u "java/lang/Object"), (0, u "<init>"), (0, u "()V"), (0, .string 8), (0, u ""), (0, .fieldref 10 11), (0, .class_ 12), (0, .nameAndType 13 14), (0, u "java/lang/String"), (0, u "value"), (0, u "[B"), (0, .fieldref 10 16), (0, .nameAndType 17 18), (0, u "coder"), (0, u "B"), (2, u "hash"), (0, u "I"), (2, u "hashIsZero"), (0, u "Z"), (0, .methodref 10 28), (0, .nameAndType 5 29), (0, u "([CIILjava/lang/Void;)V"), (8, .fieldref 10 39), (0, .nameAndType 40 26), (0, u "COMPACT_STRINGS"), (1, .class_ 44), (1, u "java/lang/StringUTF16"), (0, u "compress"), (1, .methodref 42 48), (0, .nameAndType 49 50), (0, u "coderFromArrayLen"), (0, u "([BI)B"), (2, u "toBytes"), (53, .class_ 109), (1, u "java/lang/StringLatin1"), (67, .methodref 42 178), (0, .nameAndType 45 179), (0, u "([CII)[B"), (29, .methodref 10 210), (0, .nameAndType 5 211), (0, u "([BB)V"), (157, u "(C)Z"), (171, .methodref 107 542), (0, .nameAndType 543 544), (0, u "equals"), (0, u "([B[B)Z"), (28, u "(Ljava/lang/Object;)Z"), (1, .class_ 576), (0, u "java/lang/CharSequence"), (22, u "CASE_INSENSITIVE_ORDER"), (0, u "Ljava/util/Comparator;"), (181, u "valueOf"), (0, u "(C)Ljava/lang/String;"), (226, u "([C)V"), (4, .methodref 107 1016), (0, .nameAndType 1017 369), (0, u "canEncode"), (0, .methodref 107 1019), (0, .nameAndType 53 1020), (0, u "(C)[B"), (80, u "serialPersistentFields"), (0, u "[Ljava/io/ObjectStreamField;"), (0, .class_ 1104), (0, u "java/lang/String$CaseInsensitiveComparator"), (1, .class_ 1107), (0, u "java/io/Serializable"), (0, .class_ 1109), (0, u "java/lang/Comparable"), (0, .class_ 1111), (0, u "java/lang/constant/Constable"), (0, .class_ 1113), (0, u "java/lang/constant/ConstantDesc"), (2, u "serialVersionUID"), (0, u "J"), (3, u "REPL"), (0, u "C"), (2, u "LATIN1"), (1, u "UTF16")] 323

def k7m0 : Method := { name := "<init>", desc := "()V", sig := { parameters := [], returnType := none }, accessFlags := 1, code := none }
def k7c1 : Code := { maxStack := 5, maxLocals := 2, code := jdk_42_method_3_code, exceptionTable := #[], attributes := #[] }
def k7m1 : Method := { name := "<init>", desc := "([C)V", sig := { parameters := [(.array .char)], returnType := none }, accessFlags := 1, code := some k7c1 }
def k7c2 : Code := { maxStack := 2, maxLocals := 3, code := jdk_42_method_66_code, exceptionTable := #[], attributes := #[] }
def k7m2 : Method := { name := "equals", desc := "(Ljava/lang/Object;)Z", sig := { parameters := [(.object "java/lang/Object")], returnType := some .boolean }, accessFlags := 1, code := some k7c2 }
def k7c3 : Code := { maxStack := 4, maxLocals := 1, code := jdk_42_method_139_code, exceptionTable := #[], attributes := #[] }
def k7m3 : Method := { name := "valueOf", desc := "(C)Ljava/lang/String;", sig := { parameters := [.char], returnType := some (.object "java/lang/String") }, accessFlags := 9, code := some k7c3 }
def k7c4 : Code := { maxStack := 4, maxLocals := 6, code := jdk_42_method_149_code, exceptionTable := #[], attributes := #[] }
def k7m4 : Method := { name := "<init>", desc := "([CIILjava/lang/Void;)V", sig := { parameters := [(.array .char), .int, .int, (.object "java/lang/Void")], returnType := none }, accessFlags := 2, code := some k7c4 }
def k7c5 : Code := { maxStack := 2, maxLocals := 3, code := jdk_42_method_151_code, exceptionTable := #[], attributes := #[] }
def k7m5 : Method := { name := "<init>", desc := "([BB)V", sig := { parameters := [(.array .byte), .byte], returnType := none }, accessFlags := 0, code := some k7c5 }
/-- java/lang/String -/
def k7 : Class := { plain "java/lang/String" (some 0) with
  accessFlags := 49
  interfaces := #[2, 3, 4, 5, 6]
  cf := some (fileOf pool7 10 #[.nestMembers #[1103]] #[{ accessFlags := 1, nameIndex := 5, descriptorIndex := 6, attributes := #[] }, { accessFlags := 1, nameIndex := 5, descriptorIndex := 1010, attributes := #[] }, { accessFlags := 1, nameIndex := 543, descriptorIndex := 573, attributes := #[] }, { accessFlags := 9, nameIndex := 782, descriptorIndex := 783, attributes := #[] }, { accessFlags := 2, nameIndex := 5, descriptorIndex := 29, attributes := #[] }, { accessFlags := 0, nameIndex := 5, descriptorIndex := 211, attributes := #[] }] 49 2 #[1106, 1108, 575, 1110, 1112] #[{ accessFlags := 18, nameIndex := 13, descriptorIndex := 14, attributes := #[] }, { accessFlags := 18, nameIndex := 17, descriptorIndex := 18, attributes := #[] }, { accessFlags := 2, nameIndex := 21, descriptorIndex := 22, attributes := #[] }, { accessFlags := 2, nameIndex := 25, descriptorIndex := 26, attributes := #[] }, { accessFlags := 26, nameIndex := 1116, descriptorIndex := 1117, attributes := #[] }, { accessFlags := 24, nameIndex := 40, descriptorIndex := 26, attributes := #[] }, { accessFlags := 26, nameIndex := 1101, descriptorIndex := 1102, attributes := #[] }, { accessFlags := 26, nameIndex := 1121, descriptorIndex := 1122, attributes := #[] }, { accessFlags := 25, nameIndex := 599, descriptorIndex := 600, attributes := #[] }, { accessFlags := 24, nameIndex := 1125, descriptorIndex := 18, attributes := #[] }, { accessFlags := 24, nameIndex := 1127, descriptorIndex := 18, attributes := #[] }])
  fields := #[{ name := "value", type := (.array .byte), accessFlags := 18, slot := 0, constantValue := 0 }, { name := "coder", type := .byte, accessFlags := 18, slot := 1, constantValue := 0 }, { name := "hash", type := .int, accessFlags := 2, slot := 2, constantValue := 0 }, { name := "hashIsZero", type := .boolean, accessFlags := 2, slot := 3, constantValue := 0 }, { name := "serialVersionUID", type := .long, accessFlags := 26, slot := 0, constantValue := 0 }, { name := "COMPACT_STRINGS", type := .boolean, accessFlags := 24, slot := 1, constantValue := 0 }, { name := "serialPersistentFields", type := (.array (.object "java/io/ObjectStreamField")), accessFlags := 26, slot := 2, constantValue := 0 }, { name := "REPL", type := .char, accessFlags := 26, slot := 3, constantValue := 0 }, { name := "CASE_INSENSITIVE_ORDER", type := (.object "java/util/Comparator"), accessFlags := 25, slot := 4, constantValue := 0 }, { name := "LATIN1", type := .byte, accessFlags := 24, slot := 5, constantValue := 0 }, { name := "UTF16", type := .byte, accessFlags := 24, slot := 6, constantValue := 0 }]
  methods := #[k7m0, k7m1, k7m2, k7m3, k7m4, k7m5]
  instanceTypes := #[(.array .byte), .byte, .int, .boolean]
  staticTypes := #[.long, .boolean, (.array (.object "java/io/ObjectStreamField")), .char, (.object "java/util/Comparator"), .byte, .byte]
  resolved := Array.replicate 1451 none
  statics := some 0 }

def pool8 : Array CpInfo := pool [(6, .class_ 8), (1, u "java/lang/Object"), (0, u "<init>"), (0, u "()V"), (1, .class_ 14), (1, u "java/lang/StringUTF16"), (31, u "$assertionsDisabled"), (0, u "Z"), (13, u "HI_BYTE_SHIFT"), (0, u "I"), (2, u "LO_BYTE_SHIFT"), (49, .methodref 12 116), (0, .nameAndType 117 118), (0, u "compress"), (0, u "([CI[BII)I"), (3, u "([CII)[B"), (138, u "coderFromArrayLen"), (0, u "([BI)B"), (106, .class_ 371), (1, u "java/lang/StringUTF16$LinesSpliterator"), (58, u "MAX_LENGTH"), (196, .class_ 628), (0, u "java/lang/StringUTF16$CodePointsSpliterator"), (0, .class_ 630), (0, u "java/lang/StringUTF16$CharsSpliterator")] 4

def k8m0 : Method := { name := "<init>", desc := "()V", sig := { parameters := [], returnType := none }, accessFlags := 0, code := none }
def k8c1 : Code := { maxStack := 2, maxLocals := 2, code := jdk_52_method_15_code, exceptionTable := #[], attributes := #[] }
def k8m1 : Method := { name := "coderFromArrayLen", desc := "([BI)B", sig := { parameters := [(.array .byte), .int], returnType := some .byte }, accessFlags := 8, code := some k8c1 }
def k8c2 : Code := { maxStack := 5, maxLocals := 6, code := jdk_52_method_16_code, exceptionTable := #[], attributes := #[] }
def k8m2 : Method := { name := "compress", desc := "([CII)[B", sig := { parameters := [(.array .char), .int, .int], returnType := some (.array .byte) }, accessFlags := 9, code := some k8c2 }
def k8c3 : Code := { maxStack := 3, maxLocals := 7, code := jdk_52_method_21_code, exceptionTable := #[], attributes := #[] }
def k8m3 : Method := { name := "compress", desc := "([CI[BII)I", sig := { parameters := [(.array .char), .int, (.array .byte), .int, .int], returnType := some .int }, accessFlags := 9, code := some k8c3 }
/-- java/lang/StringUTF16 -/
def k8 : Class := { plain "java/lang/StringUTF16" (some 0) with
  accessFlags := 48
  interfaces := #[]
  cf := some (fileOf pool8 12 #[.nestMembers #[627, 629, 369]] #[{ accessFlags := 0, nameIndex := 9, descriptorIndex := 10, attributes := #[] }, { accessFlags := 8, nameIndex := 261, descriptorIndex := 262, attributes := #[] }, { accessFlags := 9, nameIndex := 117, descriptorIndex := 122, attributes := #[] }, { accessFlags := 9, nameIndex := 117, descriptorIndex := 118, attributes := #[] }] 48 6 #[] #[{ accessFlags := 26, nameIndex := 61, descriptorIndex := 62, attributes := #[] }, { accessFlags := 26, nameIndex := 65, descriptorIndex := 62, attributes := #[] }, { accessFlags := 24, nameIndex := 430, descriptorIndex := 62, attributes := #[] }, { accessFlags := 4120, nameIndex := 46, descriptorIndex := 47, attributes := #[] }])
  fields := #[{ name := "HI_BYTE_SHIFT", type := .int, accessFlags := 26, slot := 0, constantValue := 0 }, { name := "LO_BYTE_SHIFT", type := .int, accessFlags := 26, slot := 1, constantValue := 0 }, { name := "MAX_LENGTH", type := .int, accessFlags := 24, slot := 2, constantValue := 0 }, { name := "$assertionsDisabled", type := .boolean, accessFlags := 4120, slot := 3, constantValue := 0 }]
  methods := #[k8m0, k8m1, k8m2, k8m3]
  instanceTypes := #[]
  staticTypes := #[.int, .int, .int, .boolean]
  resolved := Array.replicate 635 none
  statics := none }

def pool9 : Array CpInfo := pool [(4, .class_ 6), (1, u "java/lang/Object"), (0, u "<init>"), (0, u "()V"), (5, .class_ 16), (1, u "java/lang/StringLatin1"), (73, u "canEncode"), (14, u "(C)Z"), (15, u "$assertionsDisabled"), (0, u "Z"), (98, .class_ 223), (1, u "java/lang/StringLatin1$LinesSpliterator"), (57, u "equals"), (0, u "([B[B)Z"), (97, u "toBytes"), (1, u "(C)[B"), (7, .class_ 391), (0, u "java/lang/StringLatin1$CharsSpliterator")] 3

def k9m0 : Method := { name := "<init>", desc := "()V", sig := { parameters := [], returnType := none }, accessFlags := 0, code := none }
def k9c1 : Code := { maxStack := 2, maxLocals := 1, code := jdk_43_method_3_code, exceptionTable := #[], attributes := #[] }
def k9m1 : Method := { name := "canEncode", desc := "(C)Z", sig := { parameters := [.char], returnType := some .boolean }, accessFlags := 9, code := some k9c1 }
def k9c2 : Code := { maxStack := 3, maxLocals := 3, code := jdk_43_method_13_code, exceptionTable := #[], attributes := #[] }
def k9m2 : Method := { name := "equals", desc := "([B[B)Z", sig := { parameters := [(.array .byte), (.array .byte)], returnType := some .boolean }, accessFlags := 9, code := some k9c2 }
def k9c3 : Code := { maxStack := 4, maxLocals := 1, code := jdk_43_method_46_code, exceptionTable := #[], attributes := #[] }
def k9m3 : Method := { name := "toBytes", desc := "(C)[B", sig := { parameters := [.char], returnType := some (.array .byte) }, accessFlags := 9, code := some k9c3 }
/-- java/lang/StringLatin1 -/
def k9 : Class := { plain "java/lang/StringLatin1" (some 0) with
  accessFlags := 48
  interfaces := #[]
  cf := some (fileOf pool9 14 #[.nestMembers #[390, 221]] #[{ accessFlags := 0, nameIndex := 7, descriptorIndex := 8, attributes := #[] }, { accessFlags := 9, nameIndex := 90, descriptorIndex := 105, attributes := #[] }, { accessFlags := 9, nameIndex := 281, descriptorIndex := 282, attributes := #[] }, { accessFlags := 9, nameIndex := 380, descriptorIndex := 382, attributes := #[] }] 48 4 #[] #[{ accessFlags := 4120, nameIndex := 121, descriptorIndex := 122, attributes := #[] }])
  fields := #[{ name := "$assertionsDisabled", type := .boolean, accessFlags := 4120, slot := 0, constantValue := 0 }]
  methods := #[k9m0, k9m1, k9m2, k9m3]
  instanceTypes := #[]
  staticTypes := #[.boolean]
  resolved := Array.replicate 395 none
  statics := none }

def pool10 : Array CpInfo := pool [(1, .methodref 2 3), (0, .class_ 4), (0, .nameAndType 5 6), (0, u "java/lang/Object"), (0, u "<init>"), (0, u "()V"), (0, .class_ 8), (0, u "java/lang/Record")] 13

def k10c0 : Code := { maxStack := 1, maxLocals := 1, code := jdk_30_method_1_code, exceptionTable := #[], attributes := #[] }
def k10m0 : Method := { name := "<init>", desc := "()V", sig := { parameters := [], returnType := none }, accessFlags := 4, code := some k10c0 }
/-- java/lang/Record -/
def k10 : Class := { plain "java/lang/Record" (some 0) with
  accessFlags := 1057
  interfaces := #[]
  cf := some (fileOf pool10 7 #[] #[{ accessFlags := 4, nameIndex := 5, descriptorIndex := 6, attributes := #[] }] 1057 2 #[] #[])
  fields := #[]
  methods := #[k10m0]
  instanceTypes := #[]
  staticTypes := #[]
  resolved := Array.replicate 22 none
  statics := none }

def pool11 : Array CpInfo := pool [(1, .methodref 2 3), (0, .class_ 4), (0, .nameAndType 5 6), (0, u "java/lang/Record"), (0, u "<init>"), (0, u "()V"), (0, .fieldref 8 9), (0, .class_ 10), (0, .nameAndType 11 12), (0, u "com/example/rightful_keys/rightfulkeys/store/Account"), (0, u "id"), (0, u "Ljava/lang/String;"), (0, .fieldref 8 14), (0, .nameAndType 15 12), (0, u "name"), (12, u "(Ljava/lang/String;Ljava/lang/String;)V"), (3, u "()Ljava/lang/String;")] 23

def k11c0 : Code := { maxStack := 2, maxLocals := 3, code := prog_50_method_1_code, exceptionTable := #[], attributes := #[] }
def k11m0 : Method := { name := "<init>", desc := "(Ljava/lang/String;Ljava/lang/String;)V", sig := { parameters := [(.object "java/lang/String"), (.object "java/lang/String")], returnType := none }, accessFlags := 1, code := some k11c0 }
def k11c1 : Code := { maxStack := 1, maxLocals := 1, code := prog_50_method_5_code, exceptionTable := #[], attributes := #[] }
def k11m1 : Method := { name := "id", desc := "()Ljava/lang/String;", sig := { parameters := [], returnType := some (.object "java/lang/String") }, accessFlags := 1, code := some k11c1 }
/-- com/example/rightful_keys/rightfulkeys/store/Account -/
def k11 : Class := { plain "com/example/rightful_keys/rightfulkeys/store/Account" (some 10) with
  accessFlags := 49
  interfaces := #[]
  cf := some (fileOf pool11 8 #[] #[{ accessFlags := 1, nameIndex := 5, descriptorIndex := 28, attributes := #[] }, { accessFlags := 1, nameIndex := 11, descriptorIndex := 32, attributes := #[] }] 49 2 #[] #[{ accessFlags := 18, nameIndex := 11, descriptorIndex := 12, attributes := #[] }, { accessFlags := 18, nameIndex := 15, descriptorIndex := 12, attributes := #[] }])
  fields := #[{ name := "id", type := (.object "java/lang/String"), accessFlags := 18, slot := 0, constantValue := 0 }, { name := "name", type := (.object "java/lang/String"), accessFlags := 18, slot := 1, constantValue := 0 }]
  methods := #[k11m0, k11m1]
  instanceTypes := #[(.object "java/lang/String"), (.object "java/lang/String")]
  staticTypes := #[]
  resolved := Array.replicate 56 none
  statics := none }

def pool12 : Array CpInfo := pool [(1, .methodref 2 3), (0, .class_ 4), (0, .nameAndType 5 6), (0, u "java/lang/Record"), (0, u "<init>"), (0, u "()V"), (0, .fieldref 8 9), (0, .class_ 10), (0, .nameAndType 11 12), (0, u "com/example/rightful_keys/rightfulkeys/store/Project"), (0, u "id"), (0, u "Ljava/lang/String;"), (0, .fieldref 8 14), (0, .nameAndType 15 12), (0, u "name"), (0, .fieldref 8 17), (0, .nameAndType 18 19), (0, u "account"), (0, u "Lcom/example/rightful_keys/rightfulkeys/store/Account;"), (0, .fieldref 8 21), (0, .nameAndType 22 12), (0, u "description"), (0, .fieldref 8 24), (0, .nameAndType 25 26), (0, u "enabled"), (0, u "Z"), (0, .fieldref 8 28), (0, .nameAndType 29 12), (0, u "parentId"), (0, .methodref 31 32), (0, .class_ 33), (0, .nameAndType 11 34), (0, u "com/example/rightful_keys/rightfulkeys/store/Account"), (0, u "()Ljava/lang/String;"), (0, .methodref 36 37), (0, .class_ 38), (0, .nameAndType 39 40), (0, u "java/lang/String"), (0, u "equals"), (0, u "(Ljava/lang/Object;)Z"), (11, u "(Ljava/lang/String;Ljava/lang/String;Lcom/example/rightful_keys/rightfulkeys/store/Account;Ljava/lang/String;ZLjava/lang/String;)V"), (3, u "isDefault"), (0, u "()Z")] 27

def k12c0 : Code := { maxStack := 2, maxLocals := 7, code := prog_63_method_1_code, exceptionTable := #[], attributes := #[] }
def k12m0 : Method := { name := "<init>", desc := "(Ljava/lang/String;Ljava/lang/String;Lcom/example/rightful_keys/rightfulkeys/store/Account;Ljava/lang/String;ZLjava/lang/String;)V", sig := { parameters := [(.object "java/lang/String"), (.object "java/lang/String"), (.object "com/example/rightful_keys/rightfulkeys/store/Account"), (.object "java/lang/String"), .boolean, (.object "java/lang/String")], returnType := none }, accessFlags := 1, code := some k12c0 }
def k12c1 : Code := { maxStack := 2, maxLocals := 1, code := prog_63_method_2_code, exceptionTable := #[], attributes := #[] }
def k12m1 : Method := { name := "isDefault", desc := "()Z", sig := { parameters := [], returnType := some .boolean }, accessFlags := 1, code := some k12c1 }
/-- com/example/rightful_keys/rightfulkeys/store/Project -/
def k12 : Class := { plain "com/example/rightful_keys/rightfulkeys/store/Project" (some 10) with
  accessFlags := 49
  interfaces := #[]
  cf := some (fileOf pool12 8 #[] #[{ accessFlags := 1, nameIndex := 5, descriptorIndex := 52, attributes := #[] }, { accessFlags := 1, nameIndex := 56, descriptorIndex := 57, attributes := #[] }] 49 2 #[] #[{ accessFlags := 18, nameIndex := 11, descriptorIndex := 12, attributes := #[] }, { accessFlags := 18, nameIndex := 15, descriptorIndex := 12, attributes := #[] }, { accessFlags := 18, nameIndex := 18, descriptorIndex := 19, attributes := #[] }, { accessFlags := 18, nameIndex := 22, descriptorIndex := 12, attributes := #[] }, { accessFlags := 18, nameIndex := 25, descriptorIndex := 26, attributes := #[] }, { accessFlags := 18, nameIndex := 29, descriptorIndex := 12, attributes := #[] }])
  fields := #[{ name := "id", type := (.object "java/lang/String"), accessFlags := 18, slot := 0, constantValue := 0 }, { name := "name", type := (.object "java/lang/String"), accessFlags := 18, slot := 1, constantValue := 0 }, { name := "account", type := (.object "com/example/rightful_keys/rightfulkeys/store/Account"), accessFlags := 18, slot := 2, constantValue := 0 }, { name := "description", type := (.object "java/lang/String"), accessFlags := 18, slot := 3, constantValue := 0 }, { name := "enabled", type := .boolean, accessFlags := 18, slot := 4, constantValue := 0 }, { name := "parentId", type := (.object "java/lang/String"), accessFlags := 18, slot := 5, constantValue := 0 }]
  methods := #[k12m0, k12m1]
  instanceTypes := #[(.object "java/lang/String"), (.object "java/lang/String"), (.object "com/example/rightful_keys/rightfulkeys/store/Account"), (.object "java/lang/String"), .boolean, (.object "java/lang/String")]
  staticTypes := #[]
  resolved := Array.replicate 85 none
  statics := none }

def pool13 : Array CpInfo := pool [(2, .class_ 4), (1, u "java/lang/Object"), (0, u "<init>"), (0, u "()V"), (17, .class_ 26), (1, u "jdk/internal/util/Preconditions"), (28, .class_ 56), (0, u "jdk/internal/util/Preconditions$4"), (57, .class_ 115), (0, u "jdk/internal/util/Preconditions$1"), (7, u "SIOOBE_FORMATTER"), (0, u "Ljava/util/function/BiFunction;"), (0, .class_ 126), (0, u "jdk/internal/util/Preconditions$2"), (3, u "AIOOBE_FORMATTER"), (0, .class_ 132), (0, u "jdk/internal/util/Preconditions$3"), (3, u "IOOBE_FORMATTER")] 57

def k13m0 : Method := { name := "<init>", desc := "()V", sig := { parameters := [], returnType := none }, accessFlags := 1, code := none }
/-- jdk/internal/util/Preconditions -/
def k13 : Class := { plain "jdk/internal/util/Preconditions" (some 0) with
  accessFlags := 33
  interfaces := #[]
  cf := some (fileOf pool13 24 #[.nestMembers #[55, 131, 125, 114]] #[{ accessFlags := 1, nameIndex := 5, descriptorIndex := 6, attributes := #[] }] 33 2 #[] #[{ accessFlags := 25, nameIndex := 123, descriptorIndex := 124, attributes := #[] }, { accessFlags := 25, nameIndex := 130, descriptorIndex := 124, attributes := #[] }, { accessFlags := 25, nameIndex := 136, descriptorIndex := 124, attributes := #[] }])
  fields := #[{ name := "SIOOBE_FORMATTER", type := (.object "java/util/function/BiFunction"), accessFlags := 25, slot := 0, constantValue := 0 }, { name := "AIOOBE_FORMATTER", type := (.object "java/util/function/BiFunction"), accessFlags := 25, slot := 1, constantValue := 0 }, { name := "IOOBE_FORMATTER", type := (.object "java/util/function/BiFunction"), accessFlags := 25, slot := 2, constantValue := 0 }]
  methods := #[k13m0]
  instanceTypes := #[]
  staticTypes := #[(.object "java/util/function/BiFunction"), (.object "java/util/function/BiFunction"), (.object "java/util/function/BiFunction")]
  resolved := Array.replicate 194 none
  statics := some 1 }

def pool14 : Array CpInfo := pool [(9, u "<init>"), (6, .class_ 18), (1, u "java/lang/Object"), (0, u "()V"), (1, .class_ 23), (1, u "jdk/internal/util/ArraysSupport"), (0, u "LOG2_ARRAY_LONG_INDEX_SCALE"), (0, u "I"), (2, u "U"), (0, u "Ljdk/internal/misc/Unsafe;"), (8, u "BIG_ENDIAN"), (0, u "Z"), (8, u "LOG2_BYTE_BIT_SIZE"), (4, u "LOG2_ARRAY_INT_INDEX_SCALE"), (54, u "JLA"), (0, u "Ljdk/internal/access/JavaLangAccess;"), (11, u "LOG2_ARRAY_BOOLEAN_INDEX_SCALE"), (9, u "LOG2_ARRAY_BYTE_INDEX_SCALE"), (5, u "LOG2_ARRAY_CHAR_INDEX_SCALE"), (5, u "LOG2_ARRAY_SHORT_INDEX_SCALE"), (18, u "LOG2_ARRAY_FLOAT_INDEX_SCALE"), (24, u "LOG2_ARRAY_DOUBLE_INDEX_SCALE"), (89, u "T_BOOLEAN"), (2, u "T_CHAR"), (1, u "T_FLOAT"), (1, u "T_DOUBLE"), (1, u "T_BYTE"), (1, u "T_SHORT"), (1, u "T_INT"), (1, u "T_LONG"), (1, u "SOFT_MAX_ARRAY_LENGTH")] 83

def k14m0 : Method := { name := "<init>", desc := "()V", sig := { parameters := [], returnType := none }, accessFlags := 2, code := none }
/-- jdk/internal/util/ArraysSupport -/
def k14 : Class := { plain "jdk/internal/util/ArraysSupport" (some 0) with
  accessFlags := 33
  interfaces := #[]
  cf := some (fileOf pool14 21 #[] #[{ accessFlags := 2, nameIndex := 9, descriptorIndex := 19, attributes := #[] }] 33 16 #[] #[{ accessFlags := 24, nameIndex := 28, descriptorIndex := 29, attributes := #[] }, { accessFlags := 26, nameIndex := 38, descriptorIndex := 39, attributes := #[] }, { accessFlags := 25, nameIndex := 121, descriptorIndex := 25, attributes := #[] }, { accessFlags := 25, nameIndex := 131, descriptorIndex := 25, attributes := #[] }, { accessFlags := 25, nameIndex := 137, descriptorIndex := 25, attributes := #[] }, { accessFlags := 25, nameIndex := 143, descriptorIndex := 25, attributes := #[] }, { accessFlags := 25, nameIndex := 53, descriptorIndex := 25, attributes := #[] }, { accessFlags := 25, nameIndex := 24, descriptorIndex := 25, attributes := #[] }, { accessFlags := 25, nameIndex := 162, descriptorIndex := 25, attributes := #[] }, { accessFlags := 25, nameIndex := 187, descriptorIndex := 25, attributes := #[] }, { accessFlags := 26, nameIndex := 48, descriptorIndex := 25, attributes := #[] }, { accessFlags := 25, nameIndex := 277, descriptorIndex := 25, attributes := #[] }, { accessFlags := 25, nameIndex := 280, descriptorIndex := 25, attributes := #[] }, { accessFlags := 25, nameIndex := 282, descriptorIndex := 25, attributes := #[] }, { accessFlags := 25, nameIndex := 284, descriptorIndex := 25, attributes := #[] }, { accessFlags := 25, nameIndex := 286, descriptorIndex := 25, attributes := #[] }, { accessFlags := 25, nameIndex := 288, descriptorIndex := 25, attributes := #[] }, { accessFlags := 25, nameIndex := 290, descriptorIndex := 25, attributes := #[] }, { accessFlags := 25, nameIndex := 292, descriptorIndex := 25, attributes := #[] }, { accessFlags := 26, nameIndex := 108, descriptorIndex := 109, attributes := #[] }, { accessFlags := 25, nameIndex := 294, descriptorIndex := 25, attributes := #[] }])
  fields := #[{ name := "U", type := (.object "jdk/internal/misc/Unsafe"), accessFlags := 24, slot := 0, constantValue := 0 }, { name := "BIG_ENDIAN", type := .boolean, accessFlags := 26, slot := 1, constantValue := 0 }, { name := "LOG2_ARRAY_BOOLEAN_INDEX_SCALE", type := .int, accessFlags := 25, slot := 2, constantValue := 0 }, { name := "LOG2_ARRAY_BYTE_INDEX_SCALE", type := .int, accessFlags := 25, slot := 3, constantValue := 0 }, { name := "LOG2_ARRAY_CHAR_INDEX_SCALE", type := .int, accessFlags := 25, slot := 4, constantValue := 0 }, { name := "LOG2_ARRAY_SHORT_INDEX_SCALE", type := .int, accessFlags := 25, slot := 5, constantValue := 0 }, { name := "LOG2_ARRAY_INT_INDEX_SCALE", type := .int, accessFlags := 25, slot := 6, constantValue := 0 }, { name := "LOG2_ARRAY_LONG_INDEX_SCALE", type := .int, accessFlags := 25, slot := 7, constantValue := 0 }, { name := "LOG2_ARRAY_FLOAT_INDEX_SCALE", type := .int, accessFlags := 25, slot := 8, constantValue := 0 }, { name := "LOG2_ARRAY_DOUBLE_INDEX_SCALE", type := .int, accessFlags := 25, slot := 9, constantValue := 0 }, { name := "LOG2_BYTE_BIT_SIZE", type := .int, accessFlags := 26, slot := 10, constantValue := 0 }, { name := "T_BOOLEAN", type := .int, accessFlags := 25, slot := 11, constantValue := 0 }, { name := "T_CHAR", type := .int, accessFlags := 25, slot := 12, constantValue := 0 }, { name := "T_FLOAT", type := .int, accessFlags := 25, slot := 13, constantValue := 0 }, { name := "T_DOUBLE", type := .int, accessFlags := 25, slot := 14, constantValue := 0 }, { name := "T_BYTE", type := .int, accessFlags := 25, slot := 15, constantValue := 0 }, { name := "T_SHORT", type := .int, accessFlags := 25, slot := 16, constantValue := 0 }, { name := "T_INT", type := .int, accessFlags := 25, slot := 17, constantValue := 0 }, { name := "T_LONG", type := .int, accessFlags := 25, slot := 18, constantValue := 0 }, { name := "JLA", type := (.object "jdk/internal/access/JavaLangAccess"), accessFlags := 26, slot := 19, constantValue := 0 }, { name := "SOFT_MAX_ARRAY_LENGTH", type := .int, accessFlags := 25, slot := 20, constantValue := 0 }]
  methods := #[k14m0]
  instanceTypes := #[]
  staticTypes := #[(.object "jdk/internal/misc/Unsafe"), .boolean, .int, .int, .int, .int, .int, .int, .int, .int, .int, .int, .int, .int, .int, .int, .int, .int, .int, (.object "jdk/internal/access/JavaLangAccess"), .int]
  resolved := Array.replicate 378 none
  statics := none }

def pool15 : Array CpInfo := pool [(1, u "java/lang/Cloneable"), (0, .class_ 1), (0, u "java/lang/Object"), (0, .class_ 3)] 3

/-- java/lang/Cloneable -/
def k15 : Class := { plain "java/lang/Cloneable" (some 0) with
  accessFlags := 1537
  interfaces := #[]
  cf := some (fileOf pool15 2 #[] #[] 1537 4 #[] #[])
  fields := #[]
  methods := #[]
  instanceTypes := #[]
  staticTypes := #[]
  resolved := Array.replicate 8 none
  statics := none }

/-- the primitive byte -/
def k16 : Class := { plain "byte" none with kind := .primitive 'B', accessFlags := 0x411 }
/-- [B -/
def k17 : Class := { plain "[B" (some 0) with kind := .array 16 .byte, interfaces := #[15, 2], accessFlags := 1041 }

/-- the primitive char -/
def k18 : Class := { plain "char" none with kind := .primitive 'C', accessFlags := 0x411 }
/-- [C -/
def k19 : Class := { plain "[C" (some 0) with kind := .array 18 .char, interfaces := #[15, 2], accessFlags := 1041 }

/-- the primitive int -/
def k20 : Class := { plain "int" none with kind := .primitive 'I', accessFlags := 0x411 }
/-- [I -/
def k21 : Class := { plain "[I" (some 0) with kind := .array 20 .int, interfaces := #[15, 2], accessFlags := 1041 }

def heap : Heap := #[{ cls := 7, slots := #[.long 0, .int 1, .null, .int 0, .null, .int 0, .int 0], vm := .statics 7 },
  { cls := 13, slots := #[.null, .null, .null], vm := .statics 13 }]
def classes : Array Class := #[k0, k1, k2, k3, k4, k5, k6, k7, k8, k9, k10, k11, k12, k13, k14, k15, k16, k17, k18, k19, k20, k21]
def interned : List (Array UInt16 × Addr) := []
def slotsUsed : Nat := 10
def theMethod : MethodId := ⟨1, 2⟩
def args0 : Array Value := #[.int 5, .int 6, .int 7]
def aboutOver (below : List Frame) : State where
  vm := { classes := classes, interned := interned.toArray }
  heap := heap
  slotsUsed := slotsUsed
  threads := #[{ frames := .invoking theMethod args0 :: below }]
def below0 : List Frame := [.native { method := ⟨0, 0⟩, args := #[] }]
def about1 : State := aboutOver below0
def p0 : Program := .bare "" "" ""
def e0 : Env := launch0.env 0 0 0
theorem w_frames : about1.frames = Frame.invoking theMethod args0 :: below0 := rfl
set_option maxRecDepth 65536 in
theorem w_args : argsFit about1.vm theMethod args0 = true := by decide +kernel
set_option maxRecDepth 65536 in
theorem w_heap : heapFits about1 = true := by decide +kernel
set_option maxRecDepth 65536 in
theorem w_runnable : about1.curStatus? = some .runnable := by decide +kernel
set_option maxRecDepth 65536 in
theorem w_alone : about1.alone = true := by decide +kernel
set_option maxRecDepth 65536 in
theorem w_named : about1.methodNamed? x = some theMethod := by decide +kernel
set_option maxRecDepth 65536 in
theorem w_hears : about1.hears theMethod below0 = true := by decide +kernel
set_option maxRecDepth 65536 in
theorem w_ripe : about1.ripe theMethod args0 below0 = true := by decide +kernel
theorem w_running : about1.status = .running := rfl
set_option maxRecDepth 65536 in
theorem w_room : about1.hasRoom e0.platform room_1 = true :=
  launch0.hasRoom_least _ room_1 (by decide +kernel) (by decide +kernel) (by decide +kernel) (by decide +kernel) (by decide +kernel) (by decide +kernel)
theorem allAtoms_all (ts : List Jvm.Cond) (a : Array Jvm.Value) (st : Jvm.State) : (allAtoms ts).before a st = ts.all (fun c => c.before a st) := by
  induction ts with
  | nil => rfl
  | cons c t ih =>
    show (Jvm.Cond.and c (allAtoms t)).before a st = _
    rw [Jvm.Cond.before_and, ih, List.all_cons]
def words1 : List Jvm.Cond := Jvm.Cond.code x code maxLocals ret :: tables_1
/-- a 'code' word, met by the world's own term for the bytes: nothing is compared byte by byte -/
theorem code_word {y : MethodName} {bytes : ByteArray} {mx : Nat} {rt : Option FieldType} {a : Array Value} {s : State} {m : MethodId} {meth : Method} {c : Code} (h1 : s.methodNamed? y = some m) (h2 : s.vm.method? m = some meth) (h3 : meth.code = some c) (h4 : c.code = bytes)
    (h5 : (c.maxLocals == mx && c.exceptionTable.isEmpty && decide (c.maxStack ≤ mostOperands) && decide (meth.sig.returnType = rt) && !meth.locks && decide (parseMethodDescriptor y.desc = some meth.sig)) = true) : (Jvm.Cond.code y bytes mx rt).before a s = true := by
  simp only [Bool.and_eq_true, beq_iff_eq, Bool.not_eq_true', decide_eq_true_eq] at h5
  obtain ⟨⟨⟨⟨⟨g1, g2⟩, g3⟩, g4⟩, g5⟩, g6⟩ := h5
  simp [Cond.before, Cond.holds, Cond.value, h1, h2, h3, h4, g1, g2, g3, g4, g5, g6]
def isCode : Jvm.Cond → Bool
  | .code _ _ _ _ => true
  | _ => false
theorem all_split {L : List Jvm.Cond} {P : Jvm.Cond → Bool} (h1 : L.all (fun c => isCode c || P c) = true) (h2 : ∀ c ∈ L.filter isCode, P c = true) : L.all P = true := by
  refine List.all_eq_true.mpr fun c hc => ?_
  have h := List.all_eq_true.mp h1 c hc
  rcases Bool.eq_false_or_eq_true (isCode c) with hi | hi
  · exact h2 c (List.mem_filter.mpr ⟨hc, hi⟩)
  · simpa [hi] using h
set_option maxRecDepth 65536 in
theorem w_c0 : (Jvm.Cond.code x code maxLocals ret).before args0 about1 = true := code_word (m := ⟨1, 2⟩) (meth := k1m2) (c := k1c2) (by decide +kernel) rfl rfl rfl (by decide +kernel)
set_option maxRecDepth 65536 in
theorem w_c1 : (Jvm.Cond.code ({ cls := "com/example/rightful_keys/rightfulkeys/store/ProjectIsDefaultPinLaw", name := "mk", desc := "(ICCC)Ljava/lang/String;" } : Jvm.MethodName) method_2_code (4 : Nat) (Option.some (Jvm.ClassFile.FieldType.object "java/lang/String"))).before args0 about1 = true := code_word (m := ⟨1, 1⟩) (meth := k1m1) (c := k1c1) (by decide +kernel) rfl rfl rfl (by decide +kernel)
set_option maxRecDepth 65536 in
theorem w_c2 : (Jvm.Cond.code ({ cls := "java/lang/String", name := "<init>", desc := "([C)V" } : Jvm.MethodName) jdk_42_method_3_code (2 : Nat) (Option.none : Option Jvm.ClassFile.FieldType)).before args0 about1 = true := code_word (m := ⟨7, 1⟩) (meth := k7m1) (c := k7c1) (by decide +kernel) rfl rfl rfl (by decide +kernel)
set_option maxRecDepth 65536 in
theorem w_c3 : (Jvm.Cond.code ({ cls := "java/lang/String", name := "<init>", desc := "([CIILjava/lang/Void;)V" } : Jvm.MethodName) jdk_42_method_149_code (6 : Nat) (Option.none : Option Jvm.ClassFile.FieldType)).before args0 about1 = true := code_word (m := ⟨7, 4⟩) (meth := k7m4) (c := k7c4) (by decide +kernel) rfl rfl rfl (by decide +kernel)
set_option maxRecDepth 65536 in
theorem w_c4 : (Jvm.Cond.code ({ cls := "java/lang/Object", name := "<init>", desc := "()V" } : Jvm.MethodName) object_method_1_code (1 : Nat) (Option.none : Option Jvm.ClassFile.FieldType)).before args0 about1 = true := code_word (m := ⟨0, 0⟩) (meth := k0m0) (c := k0c0) (by decide +kernel) rfl rfl rfl (by decide +kernel)
set_option maxRecDepth 65536 in
theorem w_c5 : (Jvm.Cond.code ({ cls := "java/lang/StringUTF16", name := "compress", desc := "([CII)[B" } : Jvm.MethodName) jdk_52_method_16_code (6 : Nat) (Option.some (Jvm.ClassFile.FieldType.array Jvm.ClassFile.FieldType.byte))).before args0 about1 = true := code_word (m := ⟨8, 2⟩) (meth := k8m2) (c := k8c2) (by decide +kernel) rfl rfl rfl (by decide +kernel)
set_option maxRecDepth 65536 in
theorem w_c6 : (Jvm.Cond.code ({ cls := "java/lang/StringUTF16", name := "compress", desc := "([CI[BII)I" } : Jvm.MethodName) jdk_52_method_21_code (7 : Nat) (Option.some Jvm.ClassFile.FieldType.int)).before args0 about1 = true := code_word (m := ⟨8, 3⟩) (meth := k8m3) (c := k8c3) (by decide +kernel) rfl rfl rfl (by decide +kernel)
set_option maxRecDepth 65536 in
theorem w_c7 : (Jvm.Cond.code ({ cls := "java/lang/StringUTF16", name := "coderFromArrayLen", desc := "([BI)B" } : Jvm.MethodName) jdk_52_method_15_code (2 : Nat) (Option.some Jvm.ClassFile.FieldType.byte)).before args0 about1 = true := code_word (m := ⟨8, 1⟩) (meth := k8m1) (c := k8c1) (by decide +kernel) rfl rfl rfl (by decide +kernel)
set_option maxRecDepth 65536 in
theorem w_c8 : (Jvm.Cond.code ({ cls := "java/lang/String", name := "valueOf", desc := "(C)Ljava/lang/String;" } : Jvm.MethodName) jdk_42_method_139_code (1 : Nat) (Option.some (Jvm.ClassFile.FieldType.object "java/lang/String"))).before args0 about1 = true := code_word (m := ⟨7, 3⟩) (meth := k7m3) (c := k7c3) (by decide +kernel) rfl rfl rfl (by decide +kernel)
set_option maxRecDepth 65536 in
theorem w_c9 : (Jvm.Cond.code ({ cls := "java/lang/StringLatin1", name := "canEncode", desc := "(C)Z" } : Jvm.MethodName) jdk_43_method_3_code (1 : Nat) (Option.some Jvm.ClassFile.FieldType.boolean)).before args0 about1 = true := code_word (m := ⟨9, 1⟩) (meth := k9m1) (c := k9c1) (by decide +kernel) rfl rfl rfl (by decide +kernel)
set_option maxRecDepth 65536 in
theorem w_c10 : (Jvm.Cond.code ({ cls := "java/lang/StringLatin1", name := "toBytes", desc := "(C)[B" } : Jvm.MethodName) jdk_43_method_46_code (1 : Nat) (Option.some (Jvm.ClassFile.FieldType.array Jvm.ClassFile.FieldType.byte))).before args0 about1 = true := code_word (m := ⟨9, 3⟩) (meth := k9m3) (c := k9c3) (by decide +kernel) rfl rfl rfl (by decide +kernel)
set_option maxRecDepth 65536 in
theorem w_c11 : (Jvm.Cond.code ({ cls := "java/lang/String", name := "<init>", desc := "([BB)V" } : Jvm.MethodName) jdk_42_method_151_code (3 : Nat) (Option.none : Option Jvm.ClassFile.FieldType)).before args0 about1 = true := code_word (m := ⟨7, 5⟩) (meth := k7m5) (c := k7c5) (by decide +kernel) rfl rfl rfl (by decide +kernel)
set_option maxRecDepth 65536 in
theorem w_c12 : (Jvm.Cond.code ({ cls := "com/example/rightful_keys/rightfulkeys/store/Account", name := "<init>", desc := "(Ljava/lang/String;Ljava/lang/String;)V" } : Jvm.MethodName) prog_50_method_1_code (3 : Nat) (Option.none : Option Jvm.ClassFile.FieldType)).before args0 about1 = true := code_word (m := ⟨11, 0⟩) (meth := k11m0) (c := k11c0) (by decide +kernel) rfl rfl rfl (by decide +kernel)
set_option maxRecDepth 65536 in
theorem w_c13 : (Jvm.Cond.code ({ cls := "java/lang/Record", name := "<init>", desc := "()V" } : Jvm.MethodName) jdk_30_method_1_code (1 : Nat) (Option.none : Option Jvm.ClassFile.FieldType)).before args0 about1 = true := code_word (m := ⟨10, 0⟩) (meth := k10m0) (c := k10c0) (by decide +kernel) rfl rfl rfl (by decide +kernel)
set_option maxRecDepth 65536 in
theorem w_c14 : (Jvm.Cond.code ({ cls := "com/example/rightful_keys/rightfulkeys/store/Project", name := "<init>", desc := "(Ljava/lang/String;Ljava/lang/String;Lcom/example/rightful_keys/rightfulkeys/store/Account;Ljava/lang/String;ZLjava/lang/String;)V" } : Jvm.MethodName) prog_63_method_1_code (7 : Nat) (Option.none : Option Jvm.ClassFile.FieldType)).before args0 about1 = true := code_word (m := ⟨12, 0⟩) (meth := k12m0) (c := k12c0) (by decide +kernel) rfl rfl rfl (by decide +kernel)
set_option maxRecDepth 65536 in
theorem w_c15 : (Jvm.Cond.code ({ cls := "com/example/rightful_keys/rightfulkeys/store/Project", name := "isDefault", desc := "()Z" } : Jvm.MethodName) prog_63_method_2_code (1 : Nat) (Option.some Jvm.ClassFile.FieldType.boolean)).before args0 about1 = true := code_word (m := ⟨12, 1⟩) (meth := k12m1) (c := k12c1) (by decide +kernel) rfl rfl rfl (by decide +kernel)
set_option maxRecDepth 65536 in
theorem w_c16 : (Jvm.Cond.code ({ cls := "com/example/rightful_keys/rightfulkeys/store/Account", name := "id", desc := "()Ljava/lang/String;" } : Jvm.MethodName) prog_50_method_5_code (1 : Nat) (Option.some (Jvm.ClassFile.FieldType.object "java/lang/String"))).before args0 about1 = true := code_word (m := ⟨11, 1⟩) (meth := k11m1) (c := k11c1) (by decide +kernel) rfl rfl rfl (by decide +kernel)
set_option maxRecDepth 65536 in
theorem w_c17 : (Jvm.Cond.code ({ cls := "java/lang/String", name := "equals", desc := "(Ljava/lang/Object;)Z" } : Jvm.MethodName) jdk_42_method_66_code (3 : Nat) (Option.some Jvm.ClassFile.FieldType.boolean)).before args0 about1 = true := code_word (m := ⟨7, 2⟩) (meth := k7m2) (c := k7c2) (by decide +kernel) rfl rfl rfl (by decide +kernel)
set_option maxRecDepth 65536 in
theorem w_c18 : (Jvm.Cond.code ({ cls := "java/lang/StringLatin1", name := "equals", desc := "([B[B)Z" } : Jvm.MethodName) jdk_43_method_13_code (3 : Nat) (Option.some Jvm.ClassFile.FieldType.boolean)).before args0 about1 = true := code_word (m := ⟨9, 2⟩) (meth := k9m2) (c := k9c2) (by decide +kernel) rfl rfl rfl (by decide +kernel)
def codes1 : List Jvm.Cond := [Jvm.Cond.code x code maxLocals ret, Jvm.Cond.code ({ cls := "com/example/rightful_keys/rightfulkeys/store/ProjectIsDefaultPinLaw", name := "mk", desc := "(ICCC)Ljava/lang/String;" } : Jvm.MethodName) method_2_code (4 : Nat) (Option.some (Jvm.ClassFile.FieldType.object "java/lang/String")), Jvm.Cond.code ({ cls := "java/lang/String", name := "<init>", desc := "([C)V" } : Jvm.MethodName) jdk_42_method_3_code (2 : Nat) (Option.none : Option Jvm.ClassFile.FieldType), Jvm.Cond.code ({ cls := "java/lang/String", name := "<init>", desc := "([CIILjava/lang/Void;)V" } : Jvm.MethodName) jdk_42_method_149_code (6 : Nat) (Option.none : Option Jvm.ClassFile.FieldType), Jvm.Cond.code ({ cls := "java/lang/Object", name := "<init>", desc := "()V" } : Jvm.MethodName) object_method_1_code (1 : Nat) (Option.none : Option Jvm.ClassFile.FieldType), Jvm.Cond.code ({ cls := "java/lang/StringUTF16", name := "compress", desc := "([CII)[B" } : Jvm.MethodName) jdk_52_method_16_code (6 : Nat) (Option.some (Jvm.ClassFile.FieldType.array Jvm.ClassFile.FieldType.byte)), Jvm.Cond.code ({ cls := "java/lang/StringUTF16", name := "compress", desc := "([CI[BII)I" } : Jvm.MethodName) jdk_52_method_21_code (7 : Nat) (Option.some Jvm.ClassFile.FieldType.int), Jvm.Cond.code ({ cls := "java/lang/StringUTF16", name := "coderFromArrayLen", desc := "([BI)B" } : Jvm.MethodName) jdk_52_method_15_code (2 : Nat) (Option.some Jvm.ClassFile.FieldType.byte), Jvm.Cond.code ({ cls := "java/lang/String", name := "valueOf", desc := "(C)Ljava/lang/String;" } : Jvm.MethodName) jdk_42_method_139_code (1 : Nat) (Option.some (Jvm.ClassFile.FieldType.object "java/lang/String")), Jvm.Cond.code ({ cls := "java/lang/StringLatin1", name := "canEncode", desc := "(C)Z" } : Jvm.MethodName) jdk_43_method_3_code (1 : Nat) (Option.some Jvm.ClassFile.FieldType.boolean), Jvm.Cond.code ({ cls := "java/lang/StringLatin1", name := "toBytes", desc := "(C)[B" } : Jvm.MethodName) jdk_43_method_46_code (1 : Nat) (Option.some (Jvm.ClassFile.FieldType.array Jvm.ClassFile.FieldType.byte)), Jvm.Cond.code ({ cls := "java/lang/String", name := "<init>", desc := "([BB)V" } : Jvm.MethodName) jdk_42_method_151_code (3 : Nat) (Option.none : Option Jvm.ClassFile.FieldType), Jvm.Cond.code ({ cls := "com/example/rightful_keys/rightfulkeys/store/Account", name := "<init>", desc := "(Ljava/lang/String;Ljava/lang/String;)V" } : Jvm.MethodName) prog_50_method_1_code (3 : Nat) (Option.none : Option Jvm.ClassFile.FieldType), Jvm.Cond.code ({ cls := "java/lang/Record", name := "<init>", desc := "()V" } : Jvm.MethodName) jdk_30_method_1_code (1 : Nat) (Option.none : Option Jvm.ClassFile.FieldType), Jvm.Cond.code ({ cls := "com/example/rightful_keys/rightfulkeys/store/Project", name := "<init>", desc := "(Ljava/lang/String;Ljava/lang/String;Lcom/example/rightful_keys/rightfulkeys/store/Account;Ljava/lang/String;ZLjava/lang/String;)V" } : Jvm.MethodName) prog_63_method_1_code (7 : Nat) (Option.none : Option Jvm.ClassFile.FieldType), Jvm.Cond.code ({ cls := "com/example/rightful_keys/rightfulkeys/store/Project", name := "isDefault", desc := "()Z" } : Jvm.MethodName) prog_63_method_2_code (1 : Nat) (Option.some Jvm.ClassFile.FieldType.boolean), Jvm.Cond.code ({ cls := "com/example/rightful_keys/rightfulkeys/store/Account", name := "id", desc := "()Ljava/lang/String;" } : Jvm.MethodName) prog_50_method_5_code (1 : Nat) (Option.some (Jvm.ClassFile.FieldType.object "java/lang/String")), Jvm.Cond.code ({ cls := "java/lang/String", name := "equals", desc := "(Ljava/lang/Object;)Z" } : Jvm.MethodName) jdk_42_method_66_code (3 : Nat) (Option.some Jvm.ClassFile.FieldType.boolean), Jvm.Cond.code ({ cls := "java/lang/StringLatin1", name := "equals", desc := "([B[B)Z" } : Jvm.MethodName) jdk_43_method_13_code (3 : Nat) (Option.some Jvm.ClassFile.FieldType.boolean)]
set_option maxRecDepth 65536 in
theorem codes_eq : words1.filter isCode = codes1 := rfl
theorem w_codes : ∀ c ∈ words1.filter isCode, c.before args0 about1 = true := by
  rw [codes_eq]
  intro c hc
  simp only [codes1, List.mem_cons, List.not_mem_nil, or_false] at hc
  rcases hc with rfl | rfl | rfl | rfl | rfl | rfl | rfl | rfl | rfl | rfl | rfl | rfl | rfl | rfl | rfl | rfl | rfl | rfl | rfl
  · exact w_c0
  · exact w_c1
  · exact w_c2
  · exact w_c3
  · exact w_c4
  · exact w_c5
  · exact w_c6
  · exact w_c7
  · exact w_c8
  · exact w_c9
  · exact w_c10
  · exact w_c11
  · exact w_c12
  · exact w_c13
  · exact w_c14
  · exact w_c15
  · exact w_c16
  · exact w_c17
  · exact w_c18
set_option maxRecDepth 65536 in
theorem w_t1 : (words1.take 24).all (fun c => isCode c || c.before args0 about1) = true := by decide +kernel
set_option maxRecDepth 65536 in
theorem w_t2 : ((words1.drop 24).take 24).all (fun c => isCode c || c.before args0 about1) = true := by decide +kernel
set_option maxRecDepth 65536 in
theorem w_t3 : (((words1.drop 24).drop 24).take 24).all (fun c => isCode c || c.before args0 about1) = true := by decide +kernel
set_option maxRecDepth 65536 in
theorem w_t4 : ((((words1.drop 24).drop 24).drop 24).take 24).all (fun c => isCode c || c.before args0 about1) = true := by decide +kernel
set_option maxRecDepth 65536 in
theorem w_t5 : ((((words1.drop 24).drop 24).drop 24).drop 24).all (fun c => isCode c || c.before args0 about1) = true := by decide +kernel
theorem w_tables : (allAtoms (Jvm.Cond.code x code maxLocals ret :: tables_1)).before args0 about1 = true := by
  rw [allAtoms_all]
  show words1.all (fun c => c.before args0 about1) = true
  refine all_split ?_ w_codes
  rw [← List.take_append_drop 24 words1, List.all_append, w_t1, ← List.take_append_drop 24 (words1.drop 24), List.all_append, w_t2, ← List.take_append_drop 24 ((words1.drop 24).drop 24), List.all_append, w_t3, ← List.take_append_drop 24 (((words1.drop 24).drop 24).drop 24), List.all_append, w_t4, w_t5]
  rfl
set_option maxRecDepth 65536 in
theorem w_rest : rest_1_c.before args0 about1 = true := by decide +kernel
set_option maxRecDepth 65536 in
theorem w_case : (Jvm.Cond.and given_1 narrow_1).before args0 about1 = true := by decide +kernel
set_option maxRecDepth 65536 in
theorem w_consts : constsHeld consts_1 about1 := Jvm.Lit.constsHeldB_iff.mp (by decide +kernel)
theorem w_applies : (headSpec (Jvm.Cond.code x code maxLocals ret :: tables_1) room_1).applies x e0.platform about1 = true :=
  (Spec.applies_iff w_frames).mpr ⟨w_running, w_runnable, w_alone, w_named, w_hears, w_ripe, w_room, w_tables⟩
theorem atStart : AtStart classFile x code maxLocals ret World_1 tables_1 room_1 Calls_1 rest_1 Pre_1 launch0 p0 e0 about1 theMethod args0 below0 :=
  ⟨lists_1, trivial, launch0.admits_env _ _ _, launch0.least_env, fairChoices_fair.cas, fairChoices_fair.clock, w_frames, w_args, w_heap, w_applies, ⟨w_consts, trivial⟩, w_rest, w_case⟩
end start1
theorem witness_1 : WitnessClaimed_1 := ⟨start1.p0, start1.e0, start1.about1, start1.theMethod, start1.args0, start1.below0, start1.atStart⟩
end Jvm.Pilot.@@N@@
