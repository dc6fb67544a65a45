import JvmDerived
import JvmDerived.Pilot.@@N@@Statement
import JvmDerived.Pilot.@@N@@Code
set_option linter.unusedVariables false
set_option linter.unusedSimpArgs false
namespace Jvm.RoadKit
open Sem ClassFile Op Lib Jvm.Stand Jvm.Free Jvm.LawKit
section New
variable {p : Program} {l : Launch} {e : Env} {R : Room} {s : State} {m : MethodId} {args : Array Value} {below : List Frame} {meth : Method} {c : Code} {T : State} {locs : List Loc} {cells slots : Nat}
theorem retI (X : Stand p l e R s m args below meth c T locs cells slots) (hx : p.tables.exec = Jvm.exec) {pc : Nat} {Ls : Array Slot} {z : Int32} {rest : List Value} (hret : meth.sig.returnType = some .int) (hd : decode c.code pc = .ok (.ireturn, 1)) {fs : List Frame}
    (hl : ∀ (f : JFrame) (acts : List Action), f.method = m → f.locked = none → f.entered = [] → (doReturn e (T.setTop f) acts (some (.int z))).1 = T.setFrames fs) : Steps p.tables e below (T.setTop (mkF m pc Ls (.int z :: rest))) (T.setFrames fs) := by
  have hm' : T.vm.method? m = some meth := X.method'
  have hn : narrow .int (.int z) = .int z := rfl
  show Steps p.tables e below (T.setTop { method := m, pc := pc, locals := Ls, stack := _ :: rest, locked := none }) _
  jvm_step X.here [X.here.top, hx, hd, hm', hret, hn]
  first | (intro acts; rw [hl _ acts rfl rfl rfl]) | rw [hl _ _ rfl rfl rfl]
  exact Steps.refl _
end New
end Jvm.RoadKit
namespace Jvm.Pilot.@@N@@
open Jvm Jvm.ClassFile Sem Op Lib Jvm.Free Jvm.Stand Jvm.LawKit Jvm.RoadKit Bundle Jvm.Pilot.@@N@@.Jvm.D
theorem own_lclt {x y : Int64} (h : x < y) : lcmpW x y < 0 := by rw [lcW]; exact (lc_lt x y).2 h
theorem own_lcge {x y : Int64} (h : ¬ x < y) : ¬ (lcmpW x y < 0) := by rw [lcW]; exact fun k => h ((lc_lt x y).1 k)
theorem own_lcgt {x y : Int64} (h : y < x) : 0 < lcmpW x y := by rw [lcW]; exact (lc_gt x y).2 h
theorem own_lcle {x y : Int64} (h : ¬ y < x) : ¬ (0 < lcmpW x y) := by rw [lcW]; exact fun k => h ((lc_gt x y).1 k)
theorem own_lceq {x y : Int64} (h : x = y) : lcmpW x y = 0 := by rw [lcW]; exact (lc_eq x y).2 h
theorem own_lcne {x y : Int64} (h : ¬ (x = y)) : ¬ (lcmpW x y = 0) := by rw [lcW]; exact fun k => h ((lc_eq x y).1 k)
def isSp (p1 : Int32) : Int32 := (if p1 = (32 : Int32) then (1 : Int32) else (if p1 = (9 : Int32) then (1 : Int32) else (if p1 = (10 : Int32) then (1 : Int32) else (if p1 = (13 : Int32) then (1 : Int32) else (0 : Int32)))))
theorem d1_0 : decode prog_28_method_8_code 0 = .ok (.iload_n 0, 1) := by decide +kernel
theorem d1_1 : decode prog_28_method_8_code 1 = .ok (.bipush 32, 2) := by decide +kernel
theorem d1_3 : decode prog_28_method_8_code 3 = .ok (.if_icmp .eq 21, 3) := by decide +kernel
theorem d1_24 : decode prog_28_method_8_code 24 = .ok (.iconst 1, 1) := by decide +kernel
theorem d1_25 : decode prog_28_method_8_code 25 = .ok (.goto 4, 3) := by decide +kernel
theorem d1_29 : decode prog_28_method_8_code 29 = .ok (.ireturn, 1) := by decide +kernel
theorem d1_6 : decode prog_28_method_8_code 6 = .ok (.iload_n 0, 1) := by decide +kernel
theorem d1_7 : decode prog_28_method_8_code 7 = .ok (.bipush 9, 2) := by decide +kernel
theorem d1_9 : decode prog_28_method_8_code 9 = .ok (.if_icmp .eq 15, 3) := by decide +kernel
theorem d1_12 : decode prog_28_method_8_code 12 = .ok (.iload_n 0, 1) := by decide +kernel
theorem d1_13 : decode prog_28_method_8_code 13 = .ok (.bipush 10, 2) := by decide +kernel
theorem d1_15 : decode prog_28_method_8_code 15 = .ok (.if_icmp .eq 9, 3) := by decide +kernel
theorem d1_18 : decode prog_28_method_8_code 18 = .ok (.iload_n 0, 1) := by decide +kernel
theorem d1_19 : decode prog_28_method_8_code 19 = .ok (.bipush 13, 2) := by decide +kernel
theorem d1_21 : decode prog_28_method_8_code 21 = .ok (.if_icmp .ne 7, 3) := by decide +kernel
theorem d1_28 : decode prog_28_method_8_code 28 = .ok (.iconst 0, 1) := by decide +kernel
def Q_rm1 (Z : State) (p1 : Int32)  (h0 : Heap) (n0 : Nat) (v : Option Value) (h : Heap) (L : List Loc) : Prop := v = some (.int (isSp p1)) ∧ Fr n0 L ∧ h = h0
theorem pn_com_example_keen_verdict_keenverdict_DataType : plainName "com/example/keen_verdict/keenverdict/DataType" = true := by first | (simp [plainName, overriddenIn]; done) | decide +kernel
set_option maxRecDepth 65536 in
set_option maxHeartbeats 40000000 in
theorem rm1 (l : Launch) (Z : State) (a0 : Array Value) (hw : ∀ d ∈ tables_1, d.before a0 Z = true) (ws : List Jvm.Cond) (p1 : Int32)  (h0 : Heap) (n0 : Nat) (Z0 : n0 ≤ h0.size)  :
    MetFree l (⟨"com/example/keen_verdict/keenverdict/DataType", "isWhiteSpace", "(C)Z"⟩ : MethodName) (head1 (Jvm.Cond.code (⟨"com/example/keen_verdict/keenverdict/DataType", "isWhiteSpace", "(C)Z"⟩ : MethodName) prog_28_method_8_code 1 (some .boolean) :: ws) ({ frames := 0, cells := 0, slots := 0, locals := 0 } : Room)) (fun a U => a = #[(.int p1)] ∧ Z.Warmed39 U.vm ∧ U.heap = h0) (fun _ _ _ _ _ => True) (fun _ U o U' => ∃ v L, o = .returned v ∧ Q_rm1 Z p1 h0 n0 v U'.heap L ∧ FrameEnd U o U' L ({ frames := 0, cells := 0, slots := 0, locals := 0 } : Room).cells ({ frames := 0, cells := 0, slots := 0, locals := 0 } : Room).slots) := by
  refine MetFree.of_bodySF (plainFor_of_name pn_com_example_keen_verdict_keenverdict_DataType) hisR ?_
  intro p e s m args below meth c s₁ Bd hml0 hP hK
  obtain ⟨rfl, hZ, hh⟩ := hP
  have hx := Bd.exec
  have hby := Bd.bytes
  have hml : c.maxLocals = 1 := hml0
  have hown : s.vm.findClass "com/example/keen_verdict/keenverdict/DataType" = some m.cls := findClass_of_methodNamed Bd.named
  have hnm := (name_of_methodNamed Bd.named Bd.method).1
  have X0 : Stand p l e ({ frames := 0, cells := 0, slots := 0, locals := 0 } : Room) s m #[(.int p1)] below meth c s₁ [] 0 0 := Stand.of_body Bd
  have e0 : s₁.heap = h0 := by rw [← hh, Bd.state]; rfl
  have N0 := Fr.nil n0
  have go0 : Goes p e below s₁ (entryFrame m #[(.int p1)] 1) s₁ (mkF m 0 #[.val (.int p1)] []) := fun t k => castTop (by first | (simp [entryFrame, mkF, argsToLocals, Value.category]; done) | rfl) k
  have go1 : Goes p e below s₁ (entryFrame m #[(.int p1)] 1) s₁ (mkF m 3 #[.val (.int p1)] [(.int (32 : Int32)), (.int p1)]) := fun t k => go0 t (by
    show Steps p.tables e below (s₁.setTop (mkF m 0 #[.val (.int p1)] [])) _
    refine XS.iloadN X0.here hx rfl (hb hby d1_0) rfl ?_
    show Steps p.tables e below (s₁.setTop (mkF m 1 #[.val (.int p1)] [(.int p1)])) _
    refine XS.bipush X0.here hx rfl (hb hby d1_1) ?_
    exact k)
  by_cases hc3_2 : p1 = (32 : Int32)
  · have go3 : Goes p e below s₁ (entryFrame m #[(.int p1)] 1) s₁ (mkF m 29 #[.val (.int p1)] [(.int (1 : Int32))]) := fun t k => go1 t (by
      show Steps p.tables e below (s₁.setTop (mkF m 3 #[.val (.int p1)] [(.int (32 : Int32)), (.int p1)])) _
      refine XS.icmpYes X0.here hx rfl (pc0 := 3) (pc' := 24) rfl (hb hby d1_3) rfl (teq hc3_2).1 (by decide) (by decide) ?_
      show Steps p.tables e below (s₁.setTop (mkF m 24 #[.val (.int p1)] [])) _
      refine XS.iconst X0.here hx rfl (hb hby d1_24) ?_
      show Steps p.tables e below (s₁.setTop (mkF m 25 #[.val (.int p1)] [(.int (1 : Int32))])) _
      refine XS.goto X0.here hx rfl (pc0 := 25) (pc' := 29) rfl (hb hby d1_25) (by decide) (by decide) ?_
      exact k)
    obtain ⟨fs, hr, hrun, hended, hW, hsame⟩ := X0.leave (v := some (.int (1 : Int32))) (fun h => by rw [Bd.returns] at h; cases h)
    refine ⟨_, _, go3 _ ?_, hrun, hended, _, _, rfl, ?_, ⟨_, rfl⟩, hW, hsame.mono (by decide) (by decide)⟩
    · exact retN X0 hx (t := .boolean) Bd.returns (by simp) (hb hby d1_29) hr
    · show Q_rm1 Z p1 h0 n0 _ s₁.heap _
      rw [e0]
      exact ⟨by unfold isSp; rw [if_pos hc3_2], N0, rfl⟩
  · have go4 : Goes p e below s₁ (entryFrame m #[(.int p1)] 1) s₁ (mkF m 9 #[.val (.int p1)] [(.int (9 : Int32)), (.int p1)]) := fun t k => go1 t (by
      show Steps p.tables e below (s₁.setTop (mkF m 3 #[.val (.int p1)] [(.int (32 : Int32)), (.int p1)])) _
      refine XS.icmpNo X0.here hx rfl (hb hby d1_3) rfl (feq hc3_2).1 ?_
      show Steps p.tables e below (s₁.setTop (mkF m 6 #[.val (.int p1)] [])) _
      refine XS.iloadN X0.here hx rfl (hb hby d1_6) rfl ?_
      show Steps p.tables e below (s₁.setTop (mkF m 7 #[.val (.int p1)] [(.int p1)])) _
      refine XS.bipush X0.here hx rfl (hb hby d1_7) ?_
      exact k)
    by_cases hc9_5 : p1 = (9 : Int32)
    · have go6 : Goes p e below s₁ (entryFrame m #[(.int p1)] 1) s₁ (mkF m 29 #[.val (.int p1)] [(.int (1 : Int32))]) := fun t k => go4 t (by
        show Steps p.tables e below (s₁.setTop (mkF m 9 #[.val (.int p1)] [(.int (9 : Int32)), (.int p1)])) _
        refine XS.icmpYes X0.here hx rfl (pc0 := 9) (pc' := 24) rfl (hb hby d1_9) rfl (teq hc9_5).1 (by decide) (by decide) ?_
        show Steps p.tables e below (s₁.setTop (mkF m 24 #[.val (.int p1)] [])) _
        refine XS.iconst X0.here hx rfl (hb hby d1_24) ?_
        show Steps p.tables e below (s₁.setTop (mkF m 25 #[.val (.int p1)] [(.int (1 : Int32))])) _
        refine XS.goto X0.here hx rfl (pc0 := 25) (pc' := 29) rfl (hb hby d1_25) (by decide) (by decide) ?_
        exact k)
      obtain ⟨fs, hr, hrun, hended, hW, hsame⟩ := X0.leave (v := some (.int (1 : Int32))) (fun h => by rw [Bd.returns] at h; cases h)
      refine ⟨_, _, go6 _ ?_, hrun, hended, _, _, rfl, ?_, ⟨_, rfl⟩, hW, hsame.mono (by decide) (by decide)⟩
      · exact retN X0 hx (t := .boolean) Bd.returns (by simp) (hb hby d1_29) hr
      · show Q_rm1 Z p1 h0 n0 _ s₁.heap _
        rw [e0]
        exact ⟨by unfold isSp; rw [if_neg hc3_2, if_pos hc9_5], N0, rfl⟩
    · have go7 : Goes p e below s₁ (entryFrame m #[(.int p1)] 1) s₁ (mkF m 15 #[.val (.int p1)] [(.int (10 : Int32)), (.int p1)]) := fun t k => go4 t (by
        show Steps p.tables e below (s₁.setTop (mkF m 9 #[.val (.int p1)] [(.int (9 : Int32)), (.int p1)])) _
        refine XS.icmpNo X0.here hx rfl (hb hby d1_9) rfl (feq hc9_5).1 ?_
        show Steps p.tables e below (s₁.setTop (mkF m 12 #[.val (.int p1)] [])) _
        refine XS.iloadN X0.here hx rfl (hb hby d1_12) rfl ?_
        show Steps p.tables e below (s₁.setTop (mkF m 13 #[.val (.int p1)] [(.int p1)])) _
        refine XS.bipush X0.here hx rfl (hb hby d1_13) ?_
        exact k)
      by_cases hc15_8 : p1 = (10 : Int32)
      · have go9 : Goes p e below s₁ (entryFrame m #[(.int p1)] 1) s₁ (mkF m 29 #[.val (.int p1)] [(.int (1 : Int32))]) := fun t k => go7 t (by
          show Steps p.tables e below (s₁.setTop (mkF m 15 #[.val (.int p1)] [(.int (10 : Int32)), (.int p1)])) _
          refine XS.icmpYes X0.here hx rfl (pc0 := 15) (pc' := 24) rfl (hb hby d1_15) rfl (teq hc15_8).1 (by decide) (by decide) ?_
          show Steps p.tables e below (s₁.setTop (mkF m 24 #[.val (.int p1)] [])) _
          refine XS.iconst X0.here hx rfl (hb hby d1_24) ?_
          show Steps p.tables e below (s₁.setTop (mkF m 25 #[.val (.int p1)] [(.int (1 : Int32))])) _
          refine XS.goto X0.here hx rfl (pc0 := 25) (pc' := 29) rfl (hb hby d1_25) (by decide) (by decide) ?_
          exact k)
        obtain ⟨fs, hr, hrun, hended, hW, hsame⟩ := X0.leave (v := some (.int (1 : Int32))) (fun h => by rw [Bd.returns] at h; cases h)
        refine ⟨_, _, go9 _ ?_, hrun, hended, _, _, rfl, ?_, ⟨_, rfl⟩, hW, hsame.mono (by decide) (by decide)⟩
        · exact retN X0 hx (t := .boolean) Bd.returns (by simp) (hb hby d1_29) hr
        · show Q_rm1 Z p1 h0 n0 _ s₁.heap _
          rw [e0]
          exact ⟨by unfold isSp; rw [if_neg hc3_2, if_neg hc9_5, if_pos hc15_8], N0, rfl⟩
      · have go10 : Goes p e below s₁ (entryFrame m #[(.int p1)] 1) s₁ (mkF m 21 #[.val (.int p1)] [(.int (13 : Int32)), (.int p1)]) := fun t k => go7 t (by
          show Steps p.tables e below (s₁.setTop (mkF m 15 #[.val (.int p1)] [(.int (10 : Int32)), (.int p1)])) _
          refine XS.icmpNo X0.here hx rfl (hb hby d1_15) rfl (feq hc15_8).1 ?_
          show Steps p.tables e below (s₁.setTop (mkF m 18 #[.val (.int p1)] [])) _
          refine XS.iloadN X0.here hx rfl (hb hby d1_18) rfl ?_
          show Steps p.tables e below (s₁.setTop (mkF m 19 #[.val (.int p1)] [(.int p1)])) _
          refine XS.bipush X0.here hx rfl (hb hby d1_19) ?_
          exact k)
        by_cases hc21_11 : p1 = (13 : Int32)
        · have go13 : Goes p e below s₁ (entryFrame m #[(.int p1)] 1) s₁ (mkF m 29 #[.val (.int p1)] [(.int (1 : Int32))]) := fun t k => go10 t (by
            show Steps p.tables e below (s₁.setTop (mkF m 21 #[.val (.int p1)] [(.int (13 : Int32)), (.int p1)])) _
            refine XS.icmpNo X0.here hx rfl (hb hby d1_21) rfl (teq hc21_11).2 ?_
            show Steps p.tables e below (s₁.setTop (mkF m 24 #[.val (.int p1)] [])) _
            refine XS.iconst X0.here hx rfl (hb hby d1_24) ?_
            show Steps p.tables e below (s₁.setTop (mkF m 25 #[.val (.int p1)] [(.int (1 : Int32))])) _
            refine XS.goto X0.here hx rfl (pc0 := 25) (pc' := 29) rfl (hb hby d1_25) (by decide) (by decide) ?_
            exact k)
          obtain ⟨fs, hr, hrun, hended, hW, hsame⟩ := X0.leave (v := some (.int (1 : Int32))) (fun h => by rw [Bd.returns] at h; cases h)
          refine ⟨_, _, go13 _ ?_, hrun, hended, _, _, rfl, ?_, ⟨_, rfl⟩, hW, hsame.mono (by decide) (by decide)⟩
          · exact retN X0 hx (t := .boolean) Bd.returns (by simp) (hb hby d1_29) hr
          · show Q_rm1 Z p1 h0 n0 _ s₁.heap _
            rw [e0]
            exact ⟨by unfold isSp; rw [if_neg hc3_2, if_neg hc9_5, if_neg hc15_8, if_pos hc21_11], N0, rfl⟩
        · have go12 : Goes p e below s₁ (entryFrame m #[(.int p1)] 1) s₁ (mkF m 29 #[.val (.int p1)] [(.int (0 : Int32))]) := fun t k => go10 t (by
            show Steps p.tables e below (s₁.setTop (mkF m 21 #[.val (.int p1)] [(.int (13 : Int32)), (.int p1)])) _
            refine XS.icmpYes X0.here hx rfl (pc0 := 21) (pc' := 28) rfl (hb hby d1_21) rfl (feq hc21_11).2 (by decide) (by decide) ?_
            show Steps p.tables e below (s₁.setTop (mkF m 28 #[.val (.int p1)] [])) _
            refine XS.iconst X0.here hx rfl (hb hby d1_28) ?_
            exact k)
          obtain ⟨fs, hr, hrun, hended, hW, hsame⟩ := X0.leave (v := some (.int (0 : Int32))) (fun h => by rw [Bd.returns] at h; cases h)
          refine ⟨_, _, go12 _ ?_, hrun, hended, _, _, rfl, ?_, ⟨_, rfl⟩, hW, hsame.mono (by decide) (by decide)⟩
          · exact retN X0 hx (t := .boolean) Bd.returns (by simp) (hb hby d1_29) hr
          · show Q_rm1 Z p1 h0 n0 _ s₁.heap _
            rw [e0]
            exact ⟨by unfold isSp; rw [if_neg hc3_2, if_neg hc9_5, if_neg hc15_8, if_neg hc21_11], N0, rfl⟩
def expd (p1 : Int32) : Int32 := (if p1 < (64 : Int32) then (if ((((4294977024 : Int64).toUInt64 >>> (p1 &&& 0x3f).toInt64.toUInt64).toInt64) &&& (1 : Int64)) = (0 : Int64) then (0 : Int32) else (1 : Int32)) else (0 : Int32))
theorem d2_0 : decode method_2_code 0 = .ok (.iload_n 0, 1) := by decide +kernel
theorem d2_1 : decode method_2_code 1 = .ok (.istore_n 1, 1) := by decide +kernel
theorem d2_2 : decode method_2_code 2 = .ok (.iload_n 1, 1) := by decide +kernel
theorem d2_3 : decode method_2_code 3 = .ok (.bipush 64, 2) := by decide +kernel
theorem d2_5 : decode method_2_code 5 = .ok (.if_icmp .lt 5, 3) := by decide +kernel
theorem d2_10 : decode method_2_code 10 = .ok (.ldc2_w 9, 3) := by decide +kernel
theorem d2_13 : decode method_2_code 13 = .ok (.iload_n 1, 1) := by decide +kernel
theorem d2_14 : decode method_2_code 14 = .ok (.lushr, 1) := by decide +kernel
theorem d2_15 : decode method_2_code 15 = .ok (.lconst 1, 1) := by decide +kernel
theorem d2_16 : decode method_2_code 16 = .ok (.land, 1) := by decide +kernel
theorem d2_17 : decode method_2_code 17 = .ok (.lconst 0, 1) := by decide +kernel
theorem d2_18 : decode method_2_code 18 = .ok (.lcmp, 1) := by decide +kernel
theorem d2_19 : decode method_2_code 19 = .ok (.ifCond .eq 7, 3) := by decide +kernel
theorem d2_26 : decode method_2_code 26 = .ok (.iconst 0, 1) := by decide +kernel
theorem d2_27 : decode method_2_code 27 = .ok (.ireturn, 1) := by decide +kernel
theorem d2_22 : decode method_2_code 22 = .ok (.iconst 1, 1) := by decide +kernel
theorem d2_23 : decode method_2_code 23 = .ok (.goto 4, 3) := by decide +kernel
theorem d2_8 : decode method_2_code 8 = .ok (.iconst 0, 1) := by decide +kernel
theorem d2_9 : decode method_2_code 9 = .ok (.ireturn, 1) := by decide +kernel
def Q_rm2 (Z : State) (p1 : Int32)  (h0 : Heap) (n0 : Nat) (v : Option Value) (h : Heap) (L : List Loc) : Prop := v = some (.int (expd p1)) ∧ Fr n0 L ∧ h = h0
theorem pn_com_example_keen_verdict_keenverdict_DataTypeIsWhiteSpacePinLaw : plainName "com/example/keen_verdict/keenverdict/DataTypeIsWhiteSpacePinLaw" = true := by first | (simp [plainName, overriddenIn]; done) | decide +kernel
set_option maxRecDepth 65536 in
set_option maxHeartbeats 40000000 in
theorem rm2 (l : Launch) (Z : State) (a0 : Array Value) (hw : ∀ d ∈ tables_1, d.before a0 Z = true) (ws : List Jvm.Cond) (p1 : Int32)  (h0 : Heap) (n0 : Nat) (Z0 : n0 ≤ h0.size)  :
    MetFree l (⟨"com/example/keen_verdict/keenverdict/DataTypeIsWhiteSpacePinLaw", "reference", "(C)Z"⟩ : MethodName) (head1 (Jvm.Cond.code (⟨"com/example/keen_verdict/keenverdict/DataTypeIsWhiteSpacePinLaw", "reference", "(C)Z"⟩ : MethodName) method_2_code 2 (some .boolean) :: ws) ({ frames := 0, cells := 0, slots := 0, locals := 0 } : Room)) (fun a U => a = #[(.int p1)] ∧ Z.Warmed39 U.vm ∧ U.heap = h0) (fun _ _ _ _ _ => True) (fun _ U o U' => ∃ v L, o = .returned v ∧ Q_rm2 Z p1 h0 n0 v U'.heap L ∧ FrameEnd U o U' L ({ frames := 0, cells := 0, slots := 0, locals := 0 } : Room).cells ({ frames := 0, cells := 0, slots := 0, locals := 0 } : Room).slots) := by
  refine MetFree.of_bodySF (plainFor_of_name pn_com_example_keen_verdict_keenverdict_DataTypeIsWhiteSpacePinLaw) hisR ?_
  intro p e s m args below meth c s₁ Bd hml0 hP hK
  obtain ⟨rfl, hZ, hh⟩ := hP
  have hx := Bd.exec
  have hby := Bd.bytes
  have hml : c.maxLocals = 2 := hml0
  have hown : s.vm.findClass "com/example/keen_verdict/keenverdict/DataTypeIsWhiteSpacePinLaw" = some m.cls := findClass_of_methodNamed Bd.named
  have hnm := (name_of_methodNamed Bd.named Bd.method).1
  have X0 : Stand p l e ({ frames := 0, cells := 0, slots := 0, locals := 0 } : Room) s m #[(.int p1)] below meth c s₁ [] 0 0 := Stand.of_body Bd
  have e0 : s₁.heap = h0 := by rw [← hh, Bd.state]; rfl
  have N0 := Fr.nil n0
  have go0 : Goes p e below s₁ (entryFrame m #[(.int p1)] 2) s₁ (mkF m 0 #[.val (.int p1), .unset] []) := fun t k => castTop (by first | (simp [entryFrame, mkF, argsToLocals, Value.category]; done) | rfl) k
  have go14 : Goes p e below s₁ (entryFrame m #[(.int p1)] 2) s₁ (mkF m 5 #[.val (.int p1), .val (.int p1)] [(.int (64 : Int32)), (.int p1)]) := fun t k => go0 t (by
    show Steps p.tables e below (s₁.setTop (mkF m 0 #[.val (.int p1), .unset] [])) _
    refine XS.iloadN X0.here hx rfl (hb hby d2_0) rfl ?_
    show Steps p.tables e below (s₁.setTop (mkF m 1 #[.val (.int p1), .unset] [(.int p1)])) _
    refine XS.istoreN X0.here hx rfl (hb hby d2_1) rfl (l' := #[.val (.int p1), .val (.int p1)]) rfl ?_
    show Steps p.tables e below (s₁.setTop (mkF m 2 #[.val (.int p1), .val (.int p1)] [])) _
    refine XS.iloadN X0.here hx rfl (hb hby d2_2) rfl ?_
    show Steps p.tables e below (s₁.setTop (mkF m 3 #[.val (.int p1), .val (.int p1)] [(.int p1)])) _
    refine XS.bipush X0.here hx rfl (hb hby d2_3) ?_
    exact k)
  by_cases hc5_15 : p1 < (64 : Int32)
  · have go16 : Goes p e below s₁ (entryFrame m #[(.int p1)] 2) s₁ (mkF m 19 #[.val (.int p1), .val (.int p1)] [(.int (lcmpW ((((4294977024 : Int64).toUInt64 >>> (p1 &&& 0x3f).toInt64.toUInt64).toInt64) &&& (1 : Int64)) (0 : Int64)))]) := fun t k => go14 t (by
      show Steps p.tables e below (s₁.setTop (mkF m 5 #[.val (.int p1), .val (.int p1)] [(.int (64 : Int32)), (.int p1)])) _
      refine XS.icmpYes X0.here hx rfl (pc0 := 5) (pc' := 10) rfl (hb hby d2_5) rfl (tlt hc5_15).1 (by decide) (by decide) ?_
      show Steps p.tables e below (s₁.setTop (mkF m 10 #[.val (.int p1), .val (.int p1)] [])) _
      refine X0.ldc2Long hx hown (mvT hZ (hw _ (List.mem_of_getElem? (i := 10) rfl))) (g := (mkF m 10 #[.val (.int p1), .val (.int p1)] [])) rfl (hb hby d2_10) _ ?_
      show Steps p.tables e below (s₁.setTop (mkF m 13 #[.val (.int p1), .val (.int p1)] [(.long (4294977024 : Int64))])) _
      refine XS.iloadN X0.here hx rfl (hb hby d2_13) rfl ?_
      show Steps p.tables e below (s₁.setTop (mkF m 14 #[.val (.int p1), .val (.int p1)] [(.int p1), (.long (4294977024 : Int64))])) _
      refine XS.lushr X0.here hx rfl (hb hby d2_14) rfl ?_
      show Steps p.tables e below (s₁.setTop (mkF m 15 #[.val (.int p1), .val (.int p1)] [(.long (((4294977024 : Int64).toUInt64 >>> (p1 &&& 0x3f).toInt64.toUInt64).toInt64))])) _
      refine XS.lconst X0.here hx rfl (hb hby d2_15) ?_
      show Steps p.tables e below (s₁.setTop (mkF m 16 #[.val (.int p1), .val (.int p1)] [(.long (1 : Int64)), (.long (((4294977024 : Int64).toUInt64 >>> (p1 &&& 0x3f).toInt64.toUInt64).toInt64))])) _
      refine XS.land X0.here hx rfl (hb hby d2_16) rfl ?_
      show Steps p.tables e below (s₁.setTop (mkF m 17 #[.val (.int p1), .val (.int p1)] [(.long ((((4294977024 : Int64).toUInt64 >>> (p1 &&& 0x3f).toInt64.toUInt64).toInt64) &&& (1 : Int64)))])) _
      refine XS.lconst X0.here hx rfl (hb hby d2_17) ?_
      show Steps p.tables e below (s₁.setTop (mkF m 18 #[.val (.int p1), .val (.int p1)] [(.long (0 : Int64)), (.long ((((4294977024 : Int64).toUInt64 >>> (p1 &&& 0x3f).toInt64.toUInt64).toInt64) &&& (1 : Int64)))])) _
      refine XS.lcmp X0.here hx rfl (hb hby d2_18) rfl ?_
      exact k)
    by_cases hc19_17 : ((((4294977024 : Int64).toUInt64 >>> (p1 &&& 0x3f).toInt64.toUInt64).toInt64) &&& (1 : Int64)) = (0 : Int64)
    · have go18 : Goes p e below s₁ (entryFrame m #[(.int p1)] 2) s₁ (mkF m 27 #[.val (.int p1), .val (.int p1)] [(.int (0 : Int32))]) := fun t k => go16 t (by
        show Steps p.tables e below (s₁.setTop (mkF m 19 #[.val (.int p1), .val (.int p1)] [(.int (lcmpW ((((4294977024 : Int64).toUInt64 >>> (p1 &&& 0x3f).toInt64.toUInt64).toInt64) &&& (1 : Int64)) (0 : Int64)))])) _
        refine XS.ifYes X0.here hx rfl (pc0 := 19) (pc' := 26) rfl (hb hby d2_19) rfl ((if0 _ _).trans (teq (own_lceq hc19_17)).1) (by decide) (by decide) ?_
        show Steps p.tables e below (s₁.setTop (mkF m 26 #[.val (.int p1), .val (.int p1)] [])) _
        refine XS.iconst X0.here hx rfl (hb hby d2_26) ?_
        exact k)
      obtain ⟨fs, hr, hrun, hended, hW, hsame⟩ := X0.leave (v := some (.int (0 : Int32))) (fun h => by rw [Bd.returns] at h; cases h)
      refine ⟨_, _, go18 _ ?_, hrun, hended, _, _, rfl, ?_, ⟨_, rfl⟩, hW, hsame.mono (by decide) (by decide)⟩
      · exact retN X0 hx (t := .boolean) Bd.returns (by simp) (hb hby d2_27) hr
      · show Q_rm2 Z p1 h0 n0 _ s₁.heap _
        rw [e0]
        exact ⟨by unfold expd; rw [if_pos hc5_15, if_pos hc19_17], N0, rfl⟩
    · have go19 : Goes p e below s₁ (entryFrame m #[(.int p1)] 2) s₁ (mkF m 27 #[.val (.int p1), .val (.int p1)] [(.int (1 : Int32))]) := fun t k => go16 t (by
        show Steps p.tables e below (s₁.setTop (mkF m 19 #[.val (.int p1), .val (.int p1)] [(.int (lcmpW ((((4294977024 : Int64).toUInt64 >>> (p1 &&& 0x3f).toInt64.toUInt64).toInt64) &&& (1 : Int64)) (0 : Int64)))])) _
        refine XS.ifNo X0.here hx rfl (hb hby d2_19) rfl ((if0 _ _).trans (feq (own_lcne hc19_17)).1) ?_
        show Steps p.tables e below (s₁.setTop (mkF m 22 #[.val (.int p1), .val (.int p1)] [])) _
        refine XS.iconst X0.here hx rfl (hb hby d2_22) ?_
        show Steps p.tables e below (s₁.setTop (mkF m 23 #[.val (.int p1), .val (.int p1)] [(.int (1 : Int32))])) _
        refine XS.goto X0.here hx rfl (pc0 := 23) (pc' := 27) rfl (hb hby d2_23) (by decide) (by decide) ?_
        exact k)
      obtain ⟨fs, hr, hrun, hended, hW, hsame⟩ := X0.leave (v := some (.int (1 : Int32))) (fun h => by rw [Bd.returns] at h; cases h)
      refine ⟨_, _, go19 _ ?_, hrun, hended, _, _, rfl, ?_, ⟨_, rfl⟩, hW, hsame.mono (by decide) (by decide)⟩
      · exact retN X0 hx (t := .boolean) Bd.returns (by simp) (hb hby d2_27) hr
      · show Q_rm2 Z p1 h0 n0 _ s₁.heap _
        rw [e0]
        exact ⟨by unfold expd; rw [if_pos hc5_15, if_neg hc19_17], N0, rfl⟩
  · have go20 : Goes p e below s₁ (entryFrame m #[(.int p1)] 2) s₁ (mkF m 9 #[.val (.int p1), .val (.int p1)] [(.int (0 : Int32))]) := fun t k => go14 t (by
      show Steps p.tables e below (s₁.setTop (mkF m 5 #[.val (.int p1), .val (.int p1)] [(.int (64 : Int32)), (.int p1)])) _
      refine XS.icmpNo X0.here hx rfl (hb hby d2_5) rfl (flt hc5_15).1 ?_
      show Steps p.tables e below (s₁.setTop (mkF m 8 #[.val (.int p1), .val (.int p1)] [])) _
      refine XS.iconst X0.here hx rfl (hb hby d2_8) ?_
      exact k)
    obtain ⟨fs, hr, hrun, hended, hW, hsame⟩ := X0.leave (v := some (.int (0 : Int32))) (fun h => by rw [Bd.returns] at h; cases h)
    refine ⟨_, _, go20 _ ?_, hrun, hended, _, _, rfl, ?_, ⟨_, rfl⟩, hW, hsame.mono (by decide) (by decide)⟩
    · exact retN X0 hx (t := .boolean) Bd.returns (by simp) (hb hby d2_9) hr
    · show Q_rm2 Z p1 h0 n0 _ s₁.heap _
      rw [e0]
      exact ⟨by unfold expd; rw [if_neg hc5_15], N0, rfl⟩
theorem own_char (x : Int32) : 0 ≤ (x.toUInt32.toUInt16.toUInt32.toInt32).toInt := by
  have h : (x.toUInt32.toUInt16.toUInt32).toNat < 65536 := by
    rw [UInt16.toNat_toUInt32]; exact x.toUInt32.toUInt16.toNat_lt
  have : (x.toUInt32.toUInt16.toUInt32.toInt32).toInt = ((x.toUInt32.toUInt16.toUInt32).toNat : Int) := by
    show (x.toUInt32.toUInt16.toUInt32.toBitVec).toInt = _
    rw [BitVec.toInt_eq_toNat_of_lt]
    · rfl
    · show 2 * (x.toUInt32.toUInt16.toUInt32).toNat < _; omega
  omega
theorem own_small : ∀ n : Fin 64, isSp (Int32.ofNat n.val) = expd (Int32.ofNat n.val) := by decide +kernel
theorem own_eq {c : Int32} (h : 0 ≤ c.toInt) : isSp c = expd c := by
  by_cases q : c < 64
  · have q' : c.toInt < 64 := by simpa [Int32.lt_iff_toInt_lt] using q
    obtain ⟨n, hn⟩ : ∃ n : Nat, c.toInt = (n : Int) := ⟨c.toInt.toNat, by omega⟩
    have e : c = Int32.ofNat n := by
      apply Int32.toInt_inj.mp
      rw [hn]; exact (Int32.toInt_ofNat_small (by omega)).symm
    rw [e]; exact own_small ⟨n, by omega⟩
  · have a1 : ¬ c = 32 := fun k => q (by rw [k]; decide)
    have a2 : ¬ c = 9 := fun k => q (by rw [k]; decide)
    have a3 : ¬ c = 10 := fun k => q (by rw [k]; decide)
    have a4 : ¬ c = 13 := fun k => q (by rw [k]; decide)
    simp only [isSp, expd, q, a1, a2, a3, a4, if_false]
theorem pd_0 : parseMethodDescriptor "(C)Z" = some ⟨[.char], some .boolean⟩ := by decide +kernel
def Q_rm0 (Z : State) (p1 : Int32)  (h0 : Heap) (n0 : Nat) (v : Option Value) (h : Heap) (L : List Loc) : Prop := v = some (.int (1 : Int32)) ∧ Fr n0 L
set_option maxRecDepth 65536 in
set_option maxHeartbeats 40000000 in
theorem rm0 (l : Launch) (Z : State) (a0 : Array Value) (hw : ∀ d ∈ tables_1, d.before a0 Z = true) (ws : List Jvm.Cond) (p1 : Int32)  (h0 : Heap) (n0 : Nat) (Z0 : n0 ≤ h0.size)  :
    MetFree l x (head1 (Jvm.Cond.code x code maxLocals ret :: ws) room_1) (fun a U => a = #[(.int p1)] ∧ Z.Warmed39 U.vm ∧ U.heap = h0) (fun _ _ _ _ _ => True) (fun _ U o U' => ∃ v L, o = .returned v ∧ Q_rm0 Z p1 h0 n0 v U'.heap L ∧ FrameEnd U o U' L room_1.cells room_1.slots) := by
  refine MetFree.of_bodySF (plainFor_of_name pn_com_example_keen_verdict_keenverdict_DataTypeIsWhiteSpacePinLaw) hisR ?_
  intro p e s m args below meth c s₁ Bd hml0 hP hK
  obtain ⟨rfl, hZ, hh⟩ := hP
  have hx := Bd.exec
  have hby := Bd.bytes
  have hml : c.maxLocals = 2 := hml0
  have hown : s.vm.findClass "com/example/keen_verdict/keenverdict/DataTypeIsWhiteSpacePinLaw" = some m.cls := findClass_of_methodNamed Bd.named
  have hnm := (name_of_methodNamed Bd.named Bd.method).1
  have X0 : Stand p l e room_1 s m #[(.int p1)] below meth c s₁ [] 0 0 := Stand.of_body Bd
  have e0 : s₁.heap = h0 := by rw [← hh, Bd.state]; rfl
  have N0 := Fr.nil n0
  have go0 : Goes p e below s₁ (entryFrame m #[(.int p1)] maxLocals) s₁ (mkF m 0 #[.val (.int p1), .unset] []) := fun t k => castTop (by first | (simp [entryFrame, mkF, argsToLocals, Value.category, maxLocals]; done) | rfl) k
  have go21 : Goes p e below s₁ (entryFrame m #[(.int p1)] maxLocals) s₁ (mkF m 4 #[.val (.int p1), .unset] [(.int (p1 &&& (65536 : Int32)))]) := fun t k => go0 t (by
    show Steps p.tables e below (s₁.setTop (mkF m 0 #[.val (.int p1), .unset] [])) _
    refine XS.iloadN X0.here hx rfl (hb hby at_0) rfl ?_
    show Steps p.tables e below (s₁.setTop (mkF m 1 #[.val (.int p1), .unset] [(.int p1)])) _
    refine X0.ldcInt hx hown (mvT hZ (hw _ (List.mem_of_getElem? (i := 0) rfl))) (g := (mkF m 1 #[.val (.int p1), .unset] [(.int p1)])) rfl (hb hby at_1) _ ?_
    show Steps p.tables e below (s₁.setTop (mkF m 3 #[.val (.int p1), .unset] [(.int (65536 : Int32)), (.int p1)])) _
    refine XS.iand X0.here hx rfl (hb hby at_3) rfl ?_
    exact k)
  by_cases hc4_22 : (p1 &&& (65536 : Int32)) = (0 : Int32)
  · have go23 : Goes p e below s₁ (entryFrame m #[(.int p1)] maxLocals) s₁ (mkF m 25 #[.val (.int p1), .val (.int ((p1 &&& (65535 : Int32)).toUInt32.toUInt16.toUInt32.toInt32))] []) := fun t k => go21 t (by
      show Steps p.tables e below (s₁.setTop (mkF m 4 #[.val (.int p1), .unset] [(.int (p1 &&& (65536 : Int32)))])) _
      refine XS.ifYes X0.here hx rfl (pc0 := 4) (pc' := 19) rfl (hb hby at_4) rfl ((if0 _ _).trans (teq hc4_22).1) (by decide) (by decide) ?_
      show Steps p.tables e below (s₁.setTop (mkF m 19 #[.val (.int p1), .unset] [])) _
      refine XS.iloadN X0.here hx rfl (hb hby at_19) rfl ?_
      show Steps p.tables e below (s₁.setTop (mkF m 20 #[.val (.int p1), .unset] [(.int p1)])) _
      refine X0.ldcInt hx hown (mvT hZ (hw _ (List.mem_of_getElem? (i := 1) rfl))) (g := (mkF m 20 #[.val (.int p1), .unset] [(.int p1)])) rfl (hb hby at_20) _ ?_
      show Steps p.tables e below (s₁.setTop (mkF m 22 #[.val (.int p1), .unset] [(.int (65535 : Int32)), (.int p1)])) _
      refine XS.iand X0.here hx rfl (hb hby at_22) rfl ?_
      show Steps p.tables e below (s₁.setTop (mkF m 23 #[.val (.int p1), .unset] [(.int (p1 &&& (65535 : Int32)))])) _
      refine XS.i2c X0.here hx rfl (hb hby at_23) rfl ?_
      show Steps p.tables e below (s₁.setTop (mkF m 24 #[.val (.int p1), .unset] [(.int ((p1 &&& (65535 : Int32)).toUInt32.toUInt16.toUInt32.toInt32))])) _
      refine XS.istoreN X0.here hx rfl (hb hby at_24) rfl (l' := #[.val (.int p1), .val (.int ((p1 &&& (65535 : Int32)).toUInt32.toUInt16.toUInt32.toInt32))]) rfl ?_
      exact k)
    obtain ⟨cc, h_cc⟩ : ∃ z, z = ((p1 &&& (65535 : Int32)).toUInt32.toUInt16.toUInt32.toInt32) := ⟨_, rfl⟩
    rw [← h_cc] at go23
    have go24 : Goes p e below s₁ (entryFrame m #[(.int p1)] maxLocals) s₁ (mkF m 26 #[.val (.int p1), .val (.int cc)] [(.int cc)]) := fun t k => go23 t (by
      show Steps p.tables e below (s₁.setTop (mkF m 25 #[.val (.int p1), .val (.int cc)] [])) _
      refine XS.iloadN X0.here hx rfl (hb hby at_25) rfl ?_
      exact k)
    have hcc : 0 ≤ cc.toInt := by rw [h_cc]; exact own_char _
    obtain ⟨_, _, ⟨T25, L25, k25, n25⟩, -, X25, ⟨Lc25, hQ25, l25, y25, z25⟩, st25⟩ := Jvm.LawKit.callS X0 hx (y := (⟨"com/example/keen_verdict/keenverdict/DataType", "isWhiteSpace", "(C)Z"⟩ : MethodName)) hown (mvT hZ (hw _ (List.mem_of_getElem? (i := 2) rfl))) (mvT hZ (hw _ (List.mem_of_getElem? (i := 3) rfl))) (mvT hZ (hw _ (List.mem_of_getElem? (i := 4) rfl))) (mvT hZ (hw _ (List.mem_of_getElem? (i := 5) rfl))) (by decide) (backOf (W := 0) (rm1 l Z a0 hw [] cc  h0 n0 Z0 ) hZ (hw _ (List.mem_of_getElem? (i := 5) rfl)) (hw _ (List.mem_of_getElem? (i := 4) rfl)) (by decide) (by decide)) (g := (mkF m 26 #[.val (.int p1), .val (.int cc)] [(.int cc)])) rfl (by rw [hml]; rfl) (argsL := [(.int cc)]) (rest := []) (lenOf pd_0 rfl) rfl (by show 2 * 0 + _ ≤ _; exact Nat.le_of_eq rfl) (hb hby at_26) (fun _ _ => ⟨rfl, e0, (by decide : 0 + 0 ≤ _), (by decide : 0 + 0 ≤ _)⟩)
    dsimp only [Pt.U, Pt.locs, Pt.cells, Pt.slots] at X25 l25 y25 z25 st25 hQ25
    subst l25 y25 z25
    obtain ⟨rfl, Nq25, eq25⟩ := hQ25
    have N25 := Fr.app N0 Nq25
    have go25 : Goes p e below s₁ (entryFrame m #[(.int p1)] maxLocals) T25 (mkF m 29 #[.val (.int p1), .val (.int cc)] [(.int (isSp cc))]) := fun t k => go24 t (st25 _ k)
    have go26 : Goes p e below s₁ (entryFrame m #[(.int p1)] maxLocals) T25 (mkF m 30 #[.val (.int p1), .val (.int cc)] [(.int cc), (.int (isSp cc))]) := fun t k => go25 t (by
      show Steps p.tables e below (T25.setTop (mkF m 29 #[.val (.int p1), .val (.int cc)] [(.int (isSp cc))])) _
      refine XS.iloadN X25.here hx rfl (hb hby at_29) rfl ?_
      exact k)
    obtain ⟨_, _, ⟨T27, L27, k27, n27⟩, -, X27, ⟨Lc27, hQ27, l27, y27, z27⟩, st27⟩ := Jvm.LawKit.callS X25 hx (y := (⟨"com/example/keen_verdict/keenverdict/DataTypeIsWhiteSpacePinLaw", "reference", "(C)Z"⟩ : MethodName)) hown (mvT hZ (hw _ (List.mem_of_getElem? (i := 6) rfl))) (mvT hZ (hw _ (List.mem_of_getElem? (i := 7) rfl))) (mvT hZ (hw _ (List.mem_of_getElem? (i := 8) rfl))) (mvT hZ (hw _ (List.mem_of_getElem? (i := 9) rfl))) (by decide) (backOf (W := 1) (rm2 l Z a0 hw [] cc  h0 n0 Z0 ) hZ (hw _ (List.mem_of_getElem? (i := 9) rfl)) (hw _ (List.mem_of_getElem? (i := 8) rfl)) (by decide) (by decide)) (g := (mkF m 30 #[.val (.int p1), .val (.int cc)] [(.int cc), (.int (isSp cc))])) rfl (by rw [hml]; rfl) (argsL := [(.int cc)]) (rest := [(.int (isSp cc))]) (lenOf pd_0 rfl) rfl (by show 2 * 0 + _ ≤ _; exact Nat.le_of_eq rfl) (hb hby at_30) (fun _ _ => ⟨rfl, eq25, (by decide : 0 + 0 ≤ _), (by decide : 0 + 0 ≤ _)⟩)
    dsimp only [Pt.U, Pt.locs, Pt.cells, Pt.slots] at X27 l27 y27 z27 st27 hQ27
    subst l27 y27 z27
    obtain ⟨rfl, Nq27, eq27⟩ := hQ27
    have N27 := Fr.app N25 Nq27
    have go27 : Goes p e below s₁ (entryFrame m #[(.int p1)] maxLocals) T27 (mkF m 33 #[.val (.int p1), .val (.int cc)] [(.int (expd cc)), (.int (isSp cc))]) := fun t k => go26 t (st27 _ k)
    have go28 : Goes p e below s₁ (entryFrame m #[(.int p1)] maxLocals) T27 (mkF m 41 #[.val (.int p1), .val (.int cc)] [(.int (1 : Int32))]) := fun t k => go27 t (by
      show Steps p.tables e below (T27.setTop (mkF m 33 #[.val (.int p1), .val (.int cc)] [(.int (expd cc)), (.int (isSp cc))])) _
      refine XS.icmpNo X27.here hx rfl (hb hby at_33) rfl (teq (own_eq hcc)).2 ?_
      show Steps p.tables e below (T27.setTop (mkF m 36 #[.val (.int p1), .val (.int cc)] [])) _
      refine XS.iconst X27.here hx rfl (hb hby at_36) ?_
      show Steps p.tables e below (T27.setTop (mkF m 37 #[.val (.int p1), .val (.int cc)] [(.int (1 : Int32))])) _
      refine XS.goto X27.here hx rfl (pc0 := 37) (pc' := 41) rfl (hb hby at_37) (by decide) (by decide) ?_
      exact k)
    obtain ⟨fs, hr, hrun, hended, hW, hsame⟩ := X27.leave (v := some (.int (1 : Int32))) (fun h => by rw [Bd.returns] at h; cases h)
    refine ⟨_, _, go28 _ ?_, hrun, hended, _, _, rfl, ?_, ⟨_, rfl⟩, hW, hsame.mono (by decide) (by decide)⟩
    · exact retN X27 hx (t := .boolean) Bd.returns (by simp) (hb hby at_41) hr
    · show Q_rm0 Z p1 h0 n0 _ T27.heap _
      rw [eq27]
      exact ⟨rfl, N27⟩
  · have go29 : Goes p e below s₁ (entryFrame m #[(.int p1)] maxLocals) s₁ (mkF m 25 #[.val (.int p1), .val (.int (((((p1.toUInt32 >>> ((17 : Int32) &&& 31).toUInt32).toInt32) &&& (63 : Int32))).toUInt32.toUInt16.toUInt32.toInt32))] []) := fun t k => go21 t (by
      show Steps p.tables e below (s₁.setTop (mkF m 4 #[.val (.int p1), .unset] [(.int (p1 &&& (65536 : Int32)))])) _
      refine XS.ifNo X0.here hx rfl (hb hby at_4) rfl ((if0 _ _).trans (feq hc4_22).1) ?_
      show Steps p.tables e below (s₁.setTop (mkF m 7 #[.val (.int p1), .unset] [])) _
      refine XS.iloadN X0.here hx rfl (hb hby at_7) rfl ?_
      show Steps p.tables e below (s₁.setTop (mkF m 8 #[.val (.int p1), .unset] [(.int p1)])) _
      refine XS.bipush X0.here hx rfl (hb hby at_8) ?_
      show Steps p.tables e below (s₁.setTop (mkF m 10 #[.val (.int p1), .unset] [(.int (17 : Int32)), (.int p1)])) _
      refine XS.iushr X0.here hx rfl (hb hby at_10) rfl ?_
      show Steps p.tables e below (s₁.setTop (mkF m 11 #[.val (.int p1), .unset] [(.int ((p1.toUInt32 >>> ((17 : Int32) &&& 31).toUInt32).toInt32))])) _
      refine XS.bipush X0.here hx rfl (hb hby at_11) ?_
      show Steps p.tables e below (s₁.setTop (mkF m 13 #[.val (.int p1), .unset] [(.int (63 : Int32)), (.int ((p1.toUInt32 >>> ((17 : Int32) &&& 31).toUInt32).toInt32))])) _
      refine XS.iand X0.here hx rfl (hb hby at_13) rfl ?_
      show Steps p.tables e below (s₁.setTop (mkF m 14 #[.val (.int p1), .unset] [(.int (((p1.toUInt32 >>> ((17 : Int32) &&& 31).toUInt32).toInt32) &&& (63 : Int32)))])) _
      refine XS.i2c X0.here hx rfl (hb hby at_14) rfl ?_
      show Steps p.tables e below (s₁.setTop (mkF m 15 #[.val (.int p1), .unset] [(.int (((((p1.toUInt32 >>> ((17 : Int32) &&& 31).toUInt32).toInt32) &&& (63 : Int32))).toUInt32.toUInt16.toUInt32.toInt32))])) _
      refine XS.istoreN X0.here hx rfl (hb hby at_15) rfl (l' := #[.val (.int p1), .val (.int (((((p1.toUInt32 >>> ((17 : Int32) &&& 31).toUInt32).toInt32) &&& (63 : Int32))).toUInt32.toUInt16.toUInt32.toInt32))]) rfl ?_
      show Steps p.tables e below (s₁.setTop (mkF m 16 #[.val (.int p1), .val (.int (((((p1.toUInt32 >>> ((17 : Int32) &&& 31).toUInt32).toInt32) &&& (63 : Int32))).toUInt32.toUInt16.toUInt32.toInt32))] [])) _
      refine XS.goto X0.here hx rfl (pc0 := 16) (pc' := 25) rfl (hb hby at_16) (by decide) (by decide) ?_
      exact k)
    obtain ⟨cc, h_cc⟩ : ∃ z, z = (((((p1.toUInt32 >>> ((17 : Int32) &&& 31).toUInt32).toInt32) &&& (63 : Int32))).toUInt32.toUInt16.toUInt32.toInt32) := ⟨_, rfl⟩
    rw [← h_cc] at go29
    have go30 : Goes p e below s₁ (entryFrame m #[(.int p1)] maxLocals) s₁ (mkF m 26 #[.val (.int p1), .val (.int cc)] [(.int cc)]) := fun t k => go29 t (by
      show Steps p.tables e below (s₁.setTop (mkF m 25 #[.val (.int p1), .val (.int cc)] [])) _
      refine XS.iloadN X0.here hx rfl (hb hby at_25) rfl ?_
      exact k)
    have hcc : 0 ≤ cc.toInt := by rw [h_cc]; exact own_char _
    obtain ⟨_, _, ⟨T31, L31, k31, n31⟩, -, X31, ⟨Lc31, hQ31, l31, y31, z31⟩, st31⟩ := Jvm.LawKit.callS X0 hx (y := (⟨"com/example/keen_verdict/keenverdict/DataType", "isWhiteSpace", "(C)Z"⟩ : MethodName)) hown (mvT hZ (hw _ (List.mem_of_getElem? (i := 2) rfl))) (mvT hZ (hw _ (List.mem_of_getElem? (i := 3) rfl))) (mvT hZ (hw _ (List.mem_of_getElem? (i := 4) rfl))) (mvT hZ (hw _ (List.mem_of_getElem? (i := 5) rfl))) (by decide) (backOf (W := 0) (rm1 l Z a0 hw [] cc  h0 n0 Z0 ) hZ (hw _ (List.mem_of_getElem? (i := 5) rfl)) (hw _ (List.mem_of_getElem? (i := 4) rfl)) (by decide) (by decide)) (g := (mkF m 26 #[.val (.int p1), .val (.int cc)] [(.int cc)])) rfl (by rw [hml]; rfl) (argsL := [(.int cc)]) (rest := []) (lenOf pd_0 rfl) rfl (by show 2 * 0 + _ ≤ _; exact Nat.le_of_eq rfl) (hb hby at_26) (fun _ _ => ⟨rfl, e0, (by decide : 0 + 0 ≤ _), (by decide : 0 + 0 ≤ _)⟩)
    dsimp only [Pt.U, Pt.locs, Pt.cells, Pt.slots] at X31 l31 y31 z31 st31 hQ31
    subst l31 y31 z31
    obtain ⟨rfl, Nq31, eq31⟩ := hQ31
    have N31 := Fr.app N0 Nq31
    have go31 : Goes p e below s₁ (entryFrame m #[(.int p1)] maxLocals) T31 (mkF m 29 #[.val (.int p1), .val (.int cc)] [(.int (isSp cc))]) := fun t k => go30 t (st31 _ k)
    have go32 : Goes p e below s₁ (entryFrame m #[(.int p1)] maxLocals) T31 (mkF m 30 #[.val (.int p1), .val (.int cc)] [(.int cc), (.int (isSp cc))]) := fun t k => go31 t (by
      show Steps p.tables e below (T31.setTop (mkF m 29 #[.val (.int p1), .val (.int cc)] [(.int (isSp cc))])) _
      refine XS.iloadN X31.here hx rfl (hb hby at_29) rfl ?_
      exact k)
    obtain ⟨_, _, ⟨T33, L33, k33, n33⟩, -, X33, ⟨Lc33, hQ33, l33, y33, z33⟩, st33⟩ := Jvm.LawKit.callS X31 hx (y := (⟨"com/example/keen_verdict/keenverdict/DataTypeIsWhiteSpacePinLaw", "reference", "(C)Z"⟩ : MethodName)) hown (mvT hZ (hw _ (List.mem_of_getElem? (i := 6) rfl))) (mvT hZ (hw _ (List.mem_of_getElem? (i := 7) rfl))) (mvT hZ (hw _ (List.mem_of_getElem? (i := 8) rfl))) (mvT hZ (hw _ (List.mem_of_getElem? (i := 9) rfl))) (by decide) (backOf (W := 1) (rm2 l Z a0 hw [] cc  h0 n0 Z0 ) hZ (hw _ (List.mem_of_getElem? (i := 9) rfl)) (hw _ (List.mem_of_getElem? (i := 8) rfl)) (by decide) (by decide)) (g := (mkF m 30 #[.val (.int p1), .val (.int cc)] [(.int cc), (.int (isSp cc))])) rfl (by rw [hml]; rfl) (argsL := [(.int cc)]) (rest := [(.int (isSp cc))]) (lenOf pd_0 rfl) rfl (by show 2 * 0 + _ ≤ _; exact Nat.le_of_eq rfl) (hb hby at_30) (fun _ _ => ⟨rfl, eq31, (by decide : 0 + 0 ≤ _), (by decide : 0 + 0 ≤ _)⟩)
    dsimp only [Pt.U, Pt.locs, Pt.cells, Pt.slots] at X33 l33 y33 z33 st33 hQ33
    subst l33 y33 z33
    obtain ⟨rfl, Nq33, eq33⟩ := hQ33
    have N33 := Fr.app N31 Nq33
    have go33 : Goes p e below s₁ (entryFrame m #[(.int p1)] maxLocals) T33 (mkF m 33 #[.val (.int p1), .val (.int cc)] [(.int (expd cc)), (.int (isSp cc))]) := fun t k => go32 t (st33 _ k)
    have go34 : Goes p e below s₁ (entryFrame m #[(.int p1)] maxLocals) T33 (mkF m 41 #[.val (.int p1), .val (.int cc)] [(.int (1 : Int32))]) := fun t k => go33 t (by
      show Steps p.tables e below (T33.setTop (mkF m 33 #[.val (.int p1), .val (.int cc)] [(.int (expd cc)), (.int (isSp cc))])) _
      refine XS.icmpNo X33.here hx rfl (hb hby at_33) rfl (teq (own_eq hcc)).2 ?_
      show Steps p.tables e below (T33.setTop (mkF m 36 #[.val (.int p1), .val (.int cc)] [])) _
      refine XS.iconst X33.here hx rfl (hb hby at_36) ?_
      show Steps p.tables e below (T33.setTop (mkF m 37 #[.val (.int p1), .val (.int cc)] [(.int (1 : Int32))])) _
      refine XS.goto X33.here hx rfl (pc0 := 37) (pc' := 41) rfl (hb hby at_37) (by decide) (by decide) ?_
      exact k)
    obtain ⟨fs, hr, hrun, hended, hW, hsame⟩ := X33.leave (v := some (.int (1 : Int32))) (fun h => by rw [Bd.returns] at h; cases h)
    refine ⟨_, _, go34 _ ?_, hrun, hended, _, _, rfl, ?_, ⟨_, rfl⟩, hW, hsame.mono (by decide) (by decide)⟩
    · exact retN X33 hx (t := .boolean) Bd.returns (by simp) (hb hby at_41) hr
    · show Q_rm0 Z p1 h0 n0 _ T33.heap _
      rw [eq33]
      exact ⟨rfl, N33⟩
set_option maxRecDepth 65536 in
set_option maxHeartbeats 40000000 in
theorem comes_1 {Post : Tables → Env → Array Value → State → Outcome → State → Prop} (hpost : ∀ tb e args s v u, (limb_1_1.after args s (.returned v) u = true ∧ limb_1_2.after args s (.returned v) u = true ∧ True) → FrameEnd s (.returned v) u (Jvm.fieldLocs frame_1_writes args s ++ Jvm.arrayLocs frame_1_arrays args s ++ Jvm.staticLocs frame_1_statics s) 0 0 → Post tb e args s (.returned v) u) :
    ArmFor flags0 classFile x code maxLocals ret World_1 tables_1 room_1 Calls_1 rest_1 Pre_1 Post := by
  intro l hfl _ _ p e ha hc hk s m args below hf hA hF happ hP
  obtain ⟨hcalls, hrest, hpre⟩ := hP
  obtain ⟨-, -, -, hnamed, -, -, -, hat⟩ := (Spec.applies_iff hf).mp happ
  obtain ⟨hg, hn⟩ := and_e (Cond.before_iff.mp (show (Jvm.Cond.and given_1 narrow_1).before args s = true from hpre))
  obtain ⟨g0, hg0⟩ := and_e hg
  obtain ⟨w0, rfl⟩ : ∃ w0 : Value, args = #[w0] := by
    have hs : args.size = 1 := by simpa [Cond.value, given_1] using g0
    obtain ⟨L⟩ := args
    match L, hs with
    | [w0], _ => exact ⟨w0, rfl⟩
  have hw := fun d (hd : d ∈ tables_1) => atoms_spec (ws := Jvm.Cond.code x code maxLocals ret :: tables_1) hat d (List.mem_cons_of_mem _ hd)
  have hfit : Fit s := fun {y c} hc i hi => by
    obtain ⟨ha, rfl⟩ := Array.getElem?_eq_some_iff.mp hc
    have q := List.all_eq_true.mp ((Array.all_eq_true_iff_forall_mem.mp hF) _ (Array.getElem_mem ha)) i (List.mem_range.mpr hi)
    simpa [Array.getElem?_eq_getElem hi] using q
  obtain ⟨i0, ei0⟩ := is_v hg0
  obtain rfl : w0 = (.int i0) := Option.some.inj ei0
  obtain ⟨n, o, h1, h2, h3, _, L, rfl, ⟨rfl, N⟩, hq⟩ := rm0 l s _ hw tables_1 i0  s.heap s.heap.size (Nat.le_refl _)  p e ha hc hk s m _ below hf ((Spec.applies_iff_loose hf).mp happ).1 ⟨rfl, State.Warmed39.refl s, rfl⟩ trivial
  refine ⟨n, _, h1, h2, h3, hpost _ _ _ _ _ _ ⟨Cond.after_iff.mpr rfl, Cond.after_iff.mpr (eq_i res_at (Term.int_eval (1)) rfl), trivial⟩ ⟨hq.1, hq.2.1, (hq.2.2.sift fun y hy => Or.inr (N y hy)).mono (by decide) (by decide)⟩⟩
theorem main_1_1 : Claimed_1_1 := comes_1 fun _ _ _ _ _ _ h hF => ⟨h.1, hF⟩
theorem main_1_2 : Claimed_1_2 := comes_1 fun _ _ _ _ _ _ h hF => ⟨h.2.1, hF⟩
end Jvm.Pilot.@@N@@
namespace Jvm.Pilot.@@N@@
open Jvm Jvm.ClassFile Sem Op Lib Jvm.Free Jvm.Stand Jvm.Pilot.@@N@@.Jvm.D
/-! MADE BY PROGRAM (witnessworld.py) out of the Statement's table words and the real class files: 7 classes; the members and pool entries that the words name. The judged class is class 1, her method 2. -/
namespace start1
open Jvm.ClassFile
def u (s : String) : CpInfo := .utf8 (stringToUtf16 s)
/-- a pool by its gaps: so many unusable entries, then the entry; so many at the end -/
def gap : Nat → List CpInfo → List CpInfo
  | 0, r => r
  | n + 1, r => .unusable :: gap n r
def poolList (es : List (Nat × CpInfo)) (last : Nat) : List CpInfo := es.foldr (fun e r => gap e.1 (e.2 :: r)) (gap last [])
def pool (es : List (Nat × CpInfo)) (last : Nat) : Array CpInfo := ⟨poolList es last⟩
def fileOf (pool : Array CpInfo) (this : Nat) (attrs : Array Attribute := #[]) (ms : Array MethodInfo := #[]) (fl : Nat := 33) (sup : Nat := 0) (ifs : Array Nat := #[]) (fds : Array FieldInfo := #[]) : ClassFile where
  minorVersion := 0
  majorVersion := 65
  constantPool := pool
  accessFlags := fl
  thisClass := this
  superClass := sup
  interfaces := ifs
  fields := fds
  methods := ms
  attributes := attrs
def plain (name : String) (sup : Option ClassId) : Class where
  name := name
  kind := .ordinary
  loader := none
  accessFlags := 33
  super := sup
  interfaces := #[]
  cf := none
  fields := #[]
  methods := #[]
  instanceTypes := #[]
  staticTypes := #[]
  resolved := #[]
  callSites := []
  init := .initialized
  statics := none
  mirror := none

def pool0 : Array CpInfo := pool [(5, u "<init>"), (0, u "()V"), (1, .class_ 10), (1, u "java/lang/Object")] 113

def k0m0 : Method := { name := "<init>", desc := "()V", sig := { parameters := [], returnType := none }, accessFlags := 1, code := none }
/-- java/lang/Object -/
def k0 : Class := { plain "java/lang/Object" none with
  accessFlags := 33
  interfaces := #[]
  cf := some (fileOf pool0 8 #[] #[{ accessFlags := 1, nameIndex := 5, descriptorIndex := 6, attributes := #[] }] 33 0 #[] #[])
  fields := #[]
  methods := #[k0m0]
  instanceTypes := #[]
  staticTypes := #[]
  resolved := Array.replicate 124 none
  statics := none }

def pool1 : Array CpInfo := pool [(2, .class_ 4), (1, u "java/lang/Object"), (0, u "<init>"), (0, u "()V"), (0, .class_ 8), (0, u "com/example/keen_verdict/keenverdict/DataTypeIsWhiteSpacePinLaw"), (0, .long 4294977024), (1, .integer 65536), (0, .integer 65535), (0, .methodref 14 15), (0, .class_ 16), (0, .nameAndType 17 18), (0, u "com/example/keen_verdict/keenverdict/DataType"), (0, u "isWhiteSpace"), (0, u "(C)Z"), (0, .methodref 7 20), (0, .nameAndType 21 18), (0, u "reference"), (0, u "XML_SPACE_BITS"), (0, u "J"), (4, u "law"), (0, u "(I)Z")] 2

def k1m0 : Method := { name := "<init>", desc := "()V", sig := { parameters := [], returnType := none }, accessFlags := 2, code := none }
def k1c1 : Code := { maxStack := 4, maxLocals := 2, code := method_2_code, exceptionTable := #[], attributes := #[] }
def k1m1 : Method := { name := "reference", desc := "(C)Z", sig := { parameters := [.char], returnType := some .boolean }, accessFlags := 10, code := some k1c1 }
def k1c2 : Code := { maxStack := 2, maxLocals := 2, code := code, exceptionTable := #[], attributes := #[] }
def k1m2 : Method := { name := "law", desc := "(I)Z", sig := { parameters := [.int], returnType := some .boolean }, accessFlags := 9, code := some k1c2 }
/-- com/example/keen_verdict/keenverdict/DataTypeIsWhiteSpacePinLaw -/
def k1 : Class := { plain "com/example/keen_verdict/keenverdict/DataTypeIsWhiteSpacePinLaw" (some 0) with
  accessFlags := 49
  interfaces := #[]
  cf := some (fileOf pool1 7 #[] #[{ accessFlags := 2, nameIndex := 5, descriptorIndex := 6, attributes := #[] }, { accessFlags := 10, nameIndex := 21, descriptorIndex := 18, attributes := #[] }, { accessFlags := 9, nameIndex := 28, descriptorIndex := 29, attributes := #[] }] 49 2 #[] #[{ accessFlags := 26, nameIndex := 22, descriptorIndex := 23, attributes := #[] }])
  fields := #[{ name := "XML_SPACE_BITS", type := .long, accessFlags := 26, slot := 0, constantValue := 0 }]
  methods := #[k1m0, k1m1, k1m2]
  instanceTypes := #[]
  staticTypes := #[.long]
  resolved := Array.replicate 32 none
  statics := none }

def pool2 : Array CpInfo := pool [(2, .class_ 4), (1, u "com/example/keen_verdict/keenverdict/DataType"), (3, .class_ 10), (1, u "java/lang/Object"), (3, u "uri"), (0, u "Ljava/lang/String;"), (2, u "keepsWhiteSpace"), (0, u "Z"), (2, u "parser"), (0, u "Ljava/util/function/Function;"), (2, u "STANDARD"), (0, u "Ljava/util/Map;"), (8, u "STANDARD_BY_SHORT_NAME"), (65, u "isWhiteSpace"), (0, u "(C)Z"), (22, u "INTEGER_TEXT"), (0, u "Ljava/util/regex/Pattern;"), (41, u "DOUBLE_TEXT"), (54, u "ROUNDINGS"), (0, u "Ljava/util/List;"), (64, u "STRING"), (0, u "Lcom/example/keen_verdict/keenverdict/DataType;"), (8, u "BOOLEAN"), (5, u "INTEGER"), (5, u "DOUBLE"), (5, u "TIME"), (5, u "DATE"), (5, u "DATE_TIME"), (5, u "ANY_URI"), (5, u "HEX_BINARY"), (5, u "BASE64_BINARY"), (5, u "DAY_TIME_DURATION"), (5, u "YEAR_MONTH_DURATION"), (5, u "X500_NAME"), (5, u "RFC822_NAME"), (5, u "IP_ADDRESS"), (5, u "DNS_NAME"), (50, u "XS"), (5, u "MAX_INTEGER_DIGITS"), (0, u "I"), (35, .class_ 479), (0, u "com/example/keen_verdict/keenverdict/DataType$Octets")] 127

def k2c0 : Code := { maxStack := 2, maxLocals := 1, code := prog_28_method_8_code, exceptionTable := #[], attributes := #[] }
def k2m0 : Method := { name := "isWhiteSpace", desc := "(C)Z", sig := { parameters := [.char], returnType := some .boolean }, accessFlags := 8, code := some k2c0 }
/-- com/example/keen_verdict/keenverdict/DataType -/
def k2 : Class := { plain "com/example/keen_verdict/keenverdict/DataType" (some 0) with
  accessFlags := 49
  interfaces := #[]
  cf := some (fileOf pool2 2 #[.nestMembers #[478]] #[{ accessFlags := 8, nameIndex := 102, descriptorIndex := 103, attributes := #[] }] 49 8 #[] #[{ accessFlags := 26, nameIndex := 435, descriptorIndex := 15, attributes := #[] }, { accessFlags := 25, nameIndex := 290, descriptorIndex := 291, attributes := #[] }, { accessFlags := 25, nameIndex := 300, descriptorIndex := 291, attributes := #[] }, { accessFlags := 25, nameIndex := 306, descriptorIndex := 291, attributes := #[] }, { accessFlags := 25, nameIndex := 312, descriptorIndex := 291, attributes := #[] }, { accessFlags := 25, nameIndex := 318, descriptorIndex := 291, attributes := #[] }, { accessFlags := 25, nameIndex := 324, descriptorIndex := 291, attributes := #[] }, { accessFlags := 25, nameIndex := 330, descriptorIndex := 291, attributes := #[] }, { accessFlags := 25, nameIndex := 336, descriptorIndex := 291, attributes := #[] }, { accessFlags := 25, nameIndex := 342, descriptorIndex := 291, attributes := #[] }, { accessFlags := 25, nameIndex := 348, descriptorIndex := 291, attributes := #[] }, { accessFlags := 25, nameIndex := 354, descriptorIndex := 291, attributes := #[] }, { accessFlags := 25, nameIndex := 360, descriptorIndex := 291, attributes := #[] }, { accessFlags := 25, nameIndex := 366, descriptorIndex := 291, attributes := #[] }, { accessFlags := 25, nameIndex := 372, descriptorIndex := 291, attributes := #[] }, { accessFlags := 25, nameIndex := 378, descriptorIndex := 291, attributes := #[] }, { accessFlags := 25, nameIndex := 384, descriptorIndex := 291, attributes := #[] }, { accessFlags := 26, nameIndex := 26, descriptorIndex := 27, attributes := #[] }, { accessFlags := 26, nameIndex := 36, descriptorIndex := 27, attributes := #[] }, { accessFlags := 24, nameIndex := 441, descriptorIndex := 442, attributes := #[] }, { accessFlags := 26, nameIndex := 126, descriptorIndex := 127, attributes := #[] }, { accessFlags := 26, nameIndex := 169, descriptorIndex := 127, attributes := #[] }, { accessFlags := 26, nameIndex := 224, descriptorIndex := 225, attributes := #[] }, { accessFlags := 18, nameIndex := 14, descriptorIndex := 15, attributes := #[] }, { accessFlags := 18, nameIndex := 18, descriptorIndex := 19, attributes := #[] }, { accessFlags := 18, nameIndex := 22, descriptorIndex := 23, attributes := #[] }])
  fields := #[{ name := "XS", type := (.object "java/lang/String"), accessFlags := 26, slot := 0, constantValue := 0 }, { name := "STRING", type := (.object "com/example/keen_verdict/keenverdict/DataType"), accessFlags := 25, slot := 1, constantValue := 0 }, { name := "BOOLEAN", type := (.object "com/example/keen_verdict/keenverdict/DataType"), accessFlags := 25, slot := 2, constantValue := 0 }, { name := "INTEGER", type := (.object "com/example/keen_verdict/keenverdict/DataType"), accessFlags := 25, slot := 3, constantValue := 0 }, { name := "DOUBLE", type := (.object "com/example/keen_verdict/keenverdict/DataType"), accessFlags := 25, slot := 4, constantValue := 0 }, { name := "TIME", type := (.object "com/example/keen_verdict/keenverdict/DataType"), accessFlags := 25, slot := 5, constantValue := 0 }, { name := "DATE", type := (.object "com/example/keen_verdict/keenverdict/DataType"), accessFlags := 25, slot := 6, constantValue := 0 }, { name := "DATE_TIME", type := (.object "com/example/keen_verdict/keenverdict/DataType"), accessFlags := 25, slot := 7, constantValue := 0 }, { name := "ANY_URI", type := (.object "com/example/keen_verdict/keenverdict/DataType"), accessFlags := 25, slot := 8, constantValue := 0 }, { name := "HEX_BINARY", type := (.object "com/example/keen_verdict/keenverdict/DataType"), accessFlags := 25, slot := 9, constantValue := 0 }, { name := "BASE64_BINARY", type := (.object "com/example/keen_verdict/keenverdict/DataType"), accessFlags := 25, slot := 10, constantValue := 0 }, { name := "DAY_TIME_DURATION", type := (.object "com/example/keen_verdict/keenverdict/DataType"), accessFlags := 25, slot := 11, constantValue := 0 }, { name := "YEAR_MONTH_DURATION", type := (.object "com/example/keen_verdict/keenverdict/DataType"), accessFlags := 25, slot := 12, constantValue := 0 }, { name := "X500_NAME", type := (.object "com/example/keen_verdict/keenverdict/DataType"), accessFlags := 25, slot := 13, constantValue := 0 }, { name := "RFC822_NAME", type := (.object "com/example/keen_verdict/keenverdict/DataType"), accessFlags := 25, slot := 14, constantValue := 0 }, { name := "IP_ADDRESS", type := (.object "com/example/keen_verdict/keenverdict/DataType"), accessFlags := 25, slot := 15, constantValue := 0 }, { name := "DNS_NAME", type := (.object "com/example/keen_verdict/keenverdict/DataType"), accessFlags := 25, slot := 16, constantValue := 0 }, { name := "STANDARD", type := (.object "java/util/Map"), accessFlags := 26, slot := 17, constantValue := 0 }, { name := "STANDARD_BY_SHORT_NAME", type := (.object "java/util/Map"), accessFlags := 26, slot := 18, constantValue := 0 }, { name := "MAX_INTEGER_DIGITS", type := .int, accessFlags := 24, slot := 19, constantValue := 0 }, { name := "INTEGER_TEXT", type := (.object "java/util/regex/Pattern"), accessFlags := 26, slot := 20, constantValue := 0 }, { name := "DOUBLE_TEXT", type := (.object "java/util/regex/Pattern"), accessFlags := 26, slot := 21, constantValue := 0 }, { name := "ROUNDINGS", type := (.object "java/util/List"), accessFlags := 26, slot := 22, constantValue := 0 }, { name := "uri", type := (.object "java/lang/String"), accessFlags := 18, slot := 0, constantValue := 0 }, { name := "keepsWhiteSpace", type := .boolean, accessFlags := 18, slot := 1, constantValue := 0 }, { name := "parser", type := (.object "java/util/function/Function"), accessFlags := 18, slot := 2, constantValue := 0 }]
  methods := #[k2m0]
  instanceTypes := #[(.object "java/lang/String"), .boolean, (.object "java/util/function/Function")]
  staticTypes := #[(.object "java/lang/String"), (.object "com/example/keen_verdict/keenverdict/DataType"), (.object "com/example/keen_verdict/keenverdict/DataType"), (.object "com/example/keen_verdict/keenverdict/DataType"), (.object "com/example/keen_verdict/keenverdict/DataType"), (.object "com/example/keen_verdict/keenverdict/DataType"), (.object "com/example/keen_verdict/keenverdict/DataType"), (.object "com/example/keen_verdict/keenverdict/DataType"), (.object "com/example/keen_verdict/keenverdict/DataType"), (.object "com/example/keen_verdict/keenverdict/DataType"), (.object "com/example/keen_verdict/keenverdict/DataType"), (.object "com/example/keen_verdict/keenverdict/DataType"), (.object "com/example/keen_verdict/keenverdict/DataType"), (.object "com/example/keen_verdict/keenverdict/DataType"), (.object "com/example/keen_verdict/keenverdict/DataType"), (.object "com/example/keen_verdict/keenverdict/DataType"), (.object "com/example/keen_verdict/keenverdict/DataType"), (.object "java/util/Map"), (.object "java/util/Map"), .int, (.object "java/util/regex/Pattern"), (.object "java/util/regex/Pattern"), (.object "java/util/List")]
  resolved := Array.replicate 607 none
  statics := none }

def pool3 : Array CpInfo := pool [(1, u "java/lang/Cloneable"), (0, .class_ 1), (0, u "java/lang/Object"), (0, .class_ 3)] 3

/-- java/lang/Cloneable -/
def k3 : Class := { plain "java/lang/Cloneable" (some 0) with
  accessFlags := 1537
  interfaces := #[]
  cf := some (fileOf pool3 2 #[] #[] 1537 4 #[] #[])
  fields := #[]
  methods := #[]
  instanceTypes := #[]
  staticTypes := #[]
  resolved := Array.replicate 8 none
  statics := none }

def pool4 : Array CpInfo := pool [(1, u "java/io/Serializable"), (0, .class_ 1), (0, u "java/lang/Object"), (0, .class_ 3)] 3

/-- java/io/Serializable -/
def k4 : Class := { plain "java/io/Serializable" (some 0) with
  accessFlags := 1537
  interfaces := #[]
  cf := some (fileOf pool4 2 #[] #[] 1537 4 #[] #[])
  fields := #[]
  methods := #[]
  instanceTypes := #[]
  staticTypes := #[]
  resolved := Array.replicate 8 none
  statics := none }

/-- the primitive byte -/
def k5 : Class := { plain "byte" none with kind := .primitive 'B', accessFlags := 0x411 }
/-- [B -/
def k6 : Class := { plain "[B" (some 0) with kind := .array 5 .byte, interfaces := #[3, 4], accessFlags := 1041 }

def heap : Heap := #[]
def classes : Array Class := #[k0, k1, k2, k3, k4, k5, k6]
def interned : List (Array UInt16 × Addr) := []
def slotsUsed : Nat := 0
def theMethod : MethodId := ⟨1, 2⟩
def args0 : Array Value := #[.int 32]
def aboutOver (below : List Frame) : State where
  vm := { classes := classes, interned := interned.toArray }
  heap := heap
  slotsUsed := slotsUsed
  threads := #[{ frames := .invoking theMethod args0 :: below }]
def below0 : List Frame := [.native { method := ⟨0, 0⟩, args := #[] }]
def about1 : State := aboutOver below0
def p0 : Program := .bare "" "" ""
def e0 : Env := launch0.env 0 0 0
theorem w_frames : about1.frames = Frame.invoking theMethod args0 :: below0 := rfl
set_option maxRecDepth 65536 in
theorem w_args : argsFit about1.vm theMethod args0 = true := by decide +kernel
set_option maxRecDepth 65536 in
theorem w_heap : heapFits about1 = true := by decide +kernel
set_option maxRecDepth 65536 in
theorem w_runnable : about1.curStatus? = some .runnable := by decide +kernel
set_option maxRecDepth 65536 in
theorem w_alone : about1.alone = true := by decide +kernel
set_option maxRecDepth 65536 in
theorem w_named : about1.methodNamed? x = some theMethod := by decide +kernel
set_option maxRecDepth 65536 in
theorem w_hears : about1.hears theMethod below0 = true := by decide +kernel
set_option maxRecDepth 65536 in
theorem w_ripe : about1.ripe theMethod args0 below0 = true := by decide +kernel
theorem w_running : about1.status = .running := rfl
set_option maxRecDepth 65536 in
theorem w_room : about1.hasRoom e0.platform room_1 = true :=
  launch0.hasRoom_least _ room_1 (by decide +kernel) (by decide +kernel) (by decide +kernel) (by decide +kernel) (by decide +kernel) (by decide +kernel)
theorem allAtoms_all (ts : List Jvm.Cond) (a : Array Jvm.Value) (st : Jvm.State) : (allAtoms ts).before a st = ts.all (fun c => c.before a st) := by
  induction ts with
  | nil => rfl
  | cons c t ih =>
    show (Jvm.Cond.and c (allAtoms t)).before a st = _
    rw [Jvm.Cond.before_and, ih, List.all_cons]
def words1 : List Jvm.Cond := Jvm.Cond.code x code maxLocals ret :: tables_1
/-- a 'code' word, met by the world's own term for the bytes: nothing is compared byte by byte -/
theorem code_word {y : MethodName} {bytes : ByteArray} {mx : Nat} {rt : Option FieldType} {a : Array Value} {s : State} {m : MethodId} {meth : Method} {c : Code} (h1 : s.methodNamed? y = some m) (h2 : s.vm.method? m = some meth) (h3 : meth.code = some c) (h4 : c.code = bytes)
    (h5 : (c.maxLocals == mx && c.exceptionTable.isEmpty && decide (c.maxStack ≤ mostOperands) && decide (meth.sig.returnType = rt) && !meth.locks && decide (parseMethodDescriptor y.desc = some meth.sig)) = true) : (Jvm.Cond.code y bytes mx rt).before a s = true := by
  simp only [Bool.and_eq_true, beq_iff_eq, Bool.not_eq_true', decide_eq_true_eq] at h5
  obtain ⟨⟨⟨⟨⟨g1, g2⟩, g3⟩, g4⟩, g5⟩, g6⟩ := h5
  simp [Cond.before, Cond.holds, Cond.value, h1, h2, h3, h4, g1, g2, g3, g4, g5, g6]
def isCode : Jvm.Cond → Bool
  | .code _ _ _ _ => true
  | _ => false
theorem all_split {L : List Jvm.Cond} {P : Jvm.Cond → Bool} (h1 : L.all (fun c => isCode c || P c) = true) (h2 : ∀ c ∈ L.filter isCode, P c = true) : L.all P = true := by
  refine List.all_eq_true.mpr fun c hc => ?_
  have h := List.all_eq_true.mp h1 c hc
  rcases Bool.eq_false_or_eq_true (isCode c) with hi | hi
  · exact h2 c (List.mem_filter.mpr ⟨hc, hi⟩)
  · simpa [hi] using h
set_option maxRecDepth 65536 in
theorem w_c0 : (Jvm.Cond.code x code maxLocals ret).before args0 about1 = true := code_word (m := ⟨1, 2⟩) (meth := k1m2) (c := k1c2) (by decide +kernel) rfl rfl rfl (by decide +kernel)
set_option maxRecDepth 65536 in
theorem w_c1 : (Jvm.Cond.code ({ cls := "com/example/keen_verdict/keenverdict/DataType", name := "isWhiteSpace", desc := "(C)Z" } : Jvm.MethodName) prog_28_method_8_code (1 : Nat) (Option.some Jvm.ClassFile.FieldType.boolean)).before args0 about1 = true := code_word (m := ⟨2, 0⟩) (meth := k2m0) (c := k2c0) (by decide +kernel) rfl rfl rfl (by decide +kernel)
set_option maxRecDepth 65536 in
theorem w_c2 : (Jvm.Cond.code ({ cls := "com/example/keen_verdict/keenverdict/DataTypeIsWhiteSpacePinLaw", name := "reference", desc := "(C)Z" } : Jvm.MethodName) method_2_code (2 : Nat) (Option.some Jvm.ClassFile.FieldType.boolean)).before args0 about1 = true := code_word (m := ⟨1, 1⟩) (meth := k1m1) (c := k1c1) (by decide +kernel) rfl rfl rfl (by decide +kernel)
def codes1 : List Jvm.Cond := [Jvm.Cond.code x code maxLocals ret, Jvm.Cond.code ({ cls := "com/example/keen_verdict/keenverdict/DataType", name := "isWhiteSpace", desc := "(C)Z" } : Jvm.MethodName) prog_28_method_8_code (1 : Nat) (Option.some Jvm.ClassFile.FieldType.boolean), Jvm.Cond.code ({ cls := "com/example/keen_verdict/keenverdict/DataTypeIsWhiteSpacePinLaw", name := "reference", desc := "(C)Z" } : Jvm.MethodName) method_2_code (2 : Nat) (Option.some Jvm.ClassFile.FieldType.boolean)]
set_option maxRecDepth 65536 in
theorem codes_eq : words1.filter isCode = codes1 := rfl
theorem w_codes : ∀ c ∈ words1.filter isCode, c.before args0 about1 = true := by
  rw [codes_eq]
  intro c hc
  simp only [codes1, List.mem_cons, List.not_mem_nil, or_false] at hc
  rcases hc with rfl | rfl | rfl
  · exact w_c0
  · exact w_c1
  · exact w_c2
set_option maxRecDepth 65536 in
theorem w_t1 : words1.all (fun c => isCode c || c.before args0 about1) = true := by decide +kernel
theorem w_tables : (allAtoms (Jvm.Cond.code x code maxLocals ret :: tables_1)).before args0 about1 = true := by
  rw [allAtoms_all]
  show words1.all (fun c => c.before args0 about1) = true
  refine all_split ?_ w_codes
  rw [w_t1]
set_option maxRecDepth 65536 in
theorem w_case : (Jvm.Cond.and given_1 narrow_1).before args0 about1 = true := by decide +kernel
theorem w_applies : (headSpec (Jvm.Cond.code x code maxLocals ret :: tables_1) room_1).applies x e0.platform about1 = true :=
  (Spec.applies_iff w_frames).mpr ⟨w_running, w_runnable, w_alone, w_named, w_hears, w_ripe, w_room, w_tables⟩
theorem atStart : AtStart classFile x code maxLocals ret World_1 tables_1 room_1 Calls_1 rest_1 Pre_1 launch0 p0 e0 about1 theMethod args0 below0 :=
  ⟨lists_1, trivial, launch0.admits_env _ _ _, launch0.least_env, fairChoices_fair.cas, fairChoices_fair.clock, w_frames, w_args, w_heap, w_applies, trivial, trivial, w_case⟩
end start1
theorem witness_1 : WitnessClaimed_1 := ⟨start1.p0, start1.e0, start1.about1, start1.theMethod, start1.args0, start1.below0, start1.atStart⟩
end Jvm.Pilot.@@N@@
