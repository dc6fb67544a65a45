import JvmDerived
import JvmDerived.Pilot.@@N@@Statement
import JvmDerived.Pilot.@@N@@Code
set_option linter.unusedVariables false
set_option linter.unusedSimpArgs false
@@BLOCK:NumsL.lean.txt@@
namespace Jvm.RoadKit
open Sem ClassFile Op Lib Jvm.Stand Jvm.Free Jvm.LawKit
section New
variable {p : Program} {l : Launch} {e : Env} {R : Room} {s : State} {m : MethodId} {args : Array Value} {below : List Frame} {meth : Method} {c : Code} {T : State} {locs : List Loc} {cells slots : Nat}
theorem retI (X : Stand p l e R s m args below meth c T locs cells slots) (hx : p.tables.exec = Jvm.exec) {pc : Nat} {Ls : Array Slot} {z : Int32} {rest : List Value} (hret : meth.sig.returnType = some .int) (hd : decode c.code pc = .ok (.ireturn, 1)) {fs : List Frame}
    (hl : ∀ (f : JFrame) (acts : List Action), f.method = m → f.locked = none → f.entered = [] → (doReturn e (T.setTop f) acts (some (.int z))).1 = T.setFrames fs) : Steps p.tables e below (T.setTop (mkF m pc Ls (.int z :: rest))) (T.setFrames fs) := by
  have hm' : T.vm.method? m = some meth := X.method'
  have hn : narrow .int (.int z) = .int z := rfl
  show Steps p.tables e below (T.setTop { method := m, pc := pc, locals := Ls, stack := _ :: rest, locked := none }) _
  jvm_step X.here [X.here.top, hx, hd, hm', hret, hn]
  first | (intro acts; rw [hl _ acts rfl rfl rfl]) | rw [hl _ _ rfl rfl rfl]
  exact Steps.refl _
end New
end Jvm.RoadKit
namespace Jvm.Pilot.@@N@@
open Jvm Jvm.ClassFile Sem Op Lib Jvm.Free Jvm.Stand Jvm.LawKit Jvm.RoadKit Bundle Jvm.Pilot.@@N@@.Jvm.D
theorem own_lclt {x y : Int64} (h : x < y) : lcmpW x y < 0 := by rw [lcW]; exact (lc_lt x y).2 h
theorem own_lcge {x y : Int64} (h : ¬ x < y) : ¬ (lcmpW x y < 0) := by rw [lcW]; exact fun k => h ((lc_lt x y).1 k)
theorem own_lcgt {x y : Int64} (h : y < x) : 0 < lcmpW x y := by rw [lcW]; exact (lc_gt x y).2 h
theorem own_lcle {x y : Int64} (h : ¬ y < x) : ¬ (0 < lcmpW x y) := by rw [lcW]; exact fun k => h ((lc_gt x y).1 k)
theorem own_lceq {x y : Int64} (h : x = y) : lcmpW x y = 0 := by rw [lcW]; exact (lc_eq x y).2 h
theorem own_lcne {x y : Int64} (h : ¬ (x = y)) : ¬ (lcmpW x y = 0) := by rw [lcW]; exact fun k => h ((lc_eq x y).1 k)
theorem d1_0 : decode prog_5_method_1_code 0 = .ok (.aload_n 0, 1) := by decide +kernel
theorem d1_1 : decode prog_5_method_1_code 1 = .ok (.invokespecial 1, 3) := by decide +kernel
theorem d1_4 : decode prog_5_method_1_code 4 = .ok (.iload_n 1, 1) := by decide +kernel
theorem d1_5 : decode prog_5_method_1_code 5 = .ok (.ifCond .lt 25, 3) := by decide +kernel
theorem d1_8 : decode prog_5_method_1_code 8 = .ok (.iload_n 3, 1) := by decide +kernel
theorem d1_9 : decode prog_5_method_1_code 9 = .ok (.ifCond .lt 21, 3) := by decide +kernel
theorem d1_12 : decode prog_5_method_1_code 12 = .ok (.iload_n 1, 1) := by decide +kernel
theorem d1_13 : decode prog_5_method_1_code 13 = .ok (.iload_n 2, 1) := by decide +kernel
theorem d1_14 : decode prog_5_method_1_code 14 = .ok (.if_icmp .gt 16, 3) := by decide +kernel
theorem d1_17 : decode prog_5_method_1_code 17 = .ok (.iload_n 3, 1) := by decide +kernel
theorem d1_18 : decode prog_5_method_1_code 18 = .ok (.iload 4, 2) := by decide +kernel
theorem d1_20 : decode prog_5_method_1_code 20 = .ok (.if_icmp .gt 10, 3) := by decide +kernel
theorem d1_23 : decode prog_5_method_1_code 23 = .ok (.iload_n 2, 1) := by decide +kernel
theorem d1_24 : decode prog_5_method_1_code 24 = .ok (.iload 4, 2) := by decide +kernel
theorem d1_26 : decode prog_5_method_1_code 26 = .ok (.iadd, 1) := by decide +kernel
theorem d1_27 : decode prog_5_method_1_code 27 = .ok (.ifCond .ne 21, 3) := by decide +kernel
theorem d1_48 : decode prog_5_method_1_code 48 = .ok (.aload_n 0, 1) := by decide +kernel
theorem d1_49 : decode prog_5_method_1_code 49 = .ok (.iload_n 1, 1) := by decide +kernel
theorem d1_50 : decode prog_5_method_1_code 50 = .ok (.putfield 16, 3) := by decide +kernel
theorem d1_53 : decode prog_5_method_1_code 53 = .ok (.aload_n 0, 1) := by decide +kernel
theorem d1_54 : decode prog_5_method_1_code 54 = .ok (.iload_n 2, 1) := by decide +kernel
theorem d1_55 : decode prog_5_method_1_code 55 = .ok (.putfield 22, 3) := by decide +kernel
theorem d1_58 : decode prog_5_method_1_code 58 = .ok (.aload_n 0, 1) := by decide +kernel
theorem d1_59 : decode prog_5_method_1_code 59 = .ok (.iload_n 3, 1) := by decide +kernel
theorem d1_60 : decode prog_5_method_1_code 60 = .ok (.putfield 25, 3) := by decide +kernel
theorem d1_63 : decode prog_5_method_1_code 63 = .ok (.aload_n 0, 1) := by decide +kernel
theorem d1_64 : decode prog_5_method_1_code 64 = .ok (.iload 4, 2) := by decide +kernel
theorem d1_66 : decode prog_5_method_1_code 66 = .ok (.putfield 28, 3) := by decide +kernel
theorem d1_69 : decode prog_5_method_1_code 69 = .ok (.return_, 1) := by decide +kernel
def Q_rm1 (Z : State) (a1 : Addr) (p2 : Int32) (p3 : Int32) (p4 : Int32) (p5 : Int32)  (h0 : Heap) (n0 : Nat) (v : Option Value) (h : Heap) (L : List Loc) : Prop := v = none ∧ Fr n0 L ∧ Keep h0 h [a1] ∧ Exa Z h a1 "com/example/nuthatch/nuthatch/model/Score" ∧ Fld Z h a1 "com/example/nuthatch/nuthatch/model/Score" "positivesCovered" "I" (.int p2) ∧ Fld Z h a1 "com/example/nuthatch/nuthatch/model/Score" "positives" "I" (.int p3) ∧ Fld Z h a1 "com/example/nuthatch/nuthatch/model/Score" "negativesCovered" "I" (.int p4) ∧ Fld Z h a1 "com/example/nuthatch/nuthatch/model/Score" "negatives" "I" (.int p5)
theorem pn_com_example_nuthatch_nuthatch_model_Score : plainName "com/example/nuthatch/nuthatch/model/Score" = true := by first | (simp [plainName, overriddenIn]; done) | decide +kernel
set_option maxRecDepth 65536 in
set_option maxHeartbeats 40000000 in
theorem rm1 (l : Launch) (Z : State) (a0 : Array Value) (hw : ∀ d ∈ tables_1, d.before a0 Z = true) (ws : List Jvm.Cond) (a1 : Addr) (p2 : Int32) (p3 : Int32) (p4 : Int32) (p5 : Int32)  (h0 : Heap) (n0 : Nat) (Z0 : n0 ≤ h0.size) (g_a1 : n0 ≤ a1) (Ex : Exa Z h0 a1 "com/example/nuthatch/nuthatch/model/Score") (F0 : Fld Z h0 a1 "com/example/nuthatch/nuthatch/model/Score" "positivesCovered" "I" (.int (0 : Int32))) (F1 : Fld Z h0 a1 "com/example/nuthatch/nuthatch/model/Score" "positives" "I" (.int (0 : Int32))) (F2 : Fld Z h0 a1 "com/example/nuthatch/nuthatch/model/Score" "negativesCovered" "I" (.int (0 : Int32))) (F3 : Fld Z h0 a1 "com/example/nuthatch/nuthatch/model/Score" "negatives" "I" (.int (0 : Int32))) (c1 : ¬ (p2 < (0 : Int32))) (c2 : ¬ (p4 < (0 : Int32))) (c3 : ¬ (p3 < p2)) (c4 : ¬ (p5 < p4)) (c5 : ¬ ((p3 + p5) = (0 : Int32))) :
    MetFree l (⟨"com/example/nuthatch/nuthatch/model/Score", "<init>", "(IIII)V"⟩ : MethodName) (head1 (Jvm.Cond.code (⟨"com/example/nuthatch/nuthatch/model/Score", "<init>", "(IIII)V"⟩ : MethodName) prog_5_method_1_code 5 none :: ws) ({ frames := 1, cells := 0, slots := 0, locals := 12 } : Room)) (fun a U => a = #[(.ref a1), (.int p2), (.int p3), (.int p4), (.int p5)] ∧ Z.Warmed39 U.vm ∧ U.heap = h0) (fun _ _ _ _ _ => True) (fun _ U o U' => ∃ v L, o = .returned v ∧ Q_rm1 Z a1 p2 p3 p4 p5 h0 n0 v U'.heap L ∧ FrameEnd U o U' L ({ frames := 1, cells := 0, slots := 0, locals := 12 } : Room).cells ({ frames := 1, cells := 0, slots := 0, locals := 12 } : Room).slots) := by
  refine MetFree.of_bodySF (plainFor_of_name pn_com_example_nuthatch_nuthatch_model_Score) hisR ?_
  intro p e s m args below meth c s₁ Bd hml0 hP hK
  obtain ⟨rfl, hZ, hh⟩ := hP
  have hx := Bd.exec
  have hby := Bd.bytes
  have hml : c.maxLocals = 5 := hml0
  have hown : s.vm.findClass "com/example/nuthatch/nuthatch/model/Score" = some m.cls := findClass_of_methodNamed Bd.named
  have hnm := (name_of_methodNamed Bd.named Bd.method).1
  have X0 : Stand p l e ({ frames := 1, cells := 0, slots := 0, locals := 12 } : Room) s m #[(.ref a1), (.int p2), (.int p3), (.int p4), (.int p5)] below meth c s₁ [] 0 0 := Stand.of_body Bd
  have e0 : s₁.heap = h0 := by rw [← hh, Bd.state]; rfl
  have N0 := Fr.nil n0
  have KP0 : Keep h0 h0 [a1] := Keep.refl h0 [a1]
  have go0 : Goes p e below s₁ (entryFrame m #[(.ref a1), (.int p2), (.int p3), (.int p4), (.int p5)] 5) s₁ (mkF m 0 #[.val (.ref a1), .val (.int p2), .val (.int p3), .val (.int p4), .val (.int p5)] []) := fun t k => castTop (by first | (simp [entryFrame, mkF, argsToLocals, Value.category]; done) | rfl) k
  have go1 : Goes p e below s₁ (entryFrame m #[(.ref a1), (.int p2), (.int p3), (.int p4), (.int p5)] 5) s₁ (mkF m 1 #[.val (.ref a1), .val (.int p2), .val (.int p3), .val (.int p4), .val (.int p5)] [(.ref a1)]) := fun t k => go0 t (by
    show Steps p.tables e below (s₁.setTop (mkF m 0 #[.val (.ref a1), .val (.int p2), .val (.int p3), .val (.int p4), .val (.int p5)] [])) _
    refine XS.aloadN X0.here hx rfl (hb hby d1_0) rfl rfl ?_
    exact k)
  obtain ⟨T2, X2, e2, st2⟩ := initO X0 hx hZ hown (hw _ (List.mem_of_getElem? (i := 8) rfl)) (hw _ (List.mem_of_getElem? (i := 9) rfl)) (hw _ (List.mem_of_getElem? (i := 10) rfl)) e0 (g := (mkF m 1 #[.val (.ref a1), .val (.int p2), .val (.int p3), .val (.int p4), .val (.int p5)] [(.ref a1)])) rfl (by rw [hml]; rfl) rfl (hb hby d1_1) (by decide) (W := 0) (by show 2 * 0 + _ ≤ _; exact Nat.le_of_eq rfl) (by decide)
  have go2 : Goes p e below s₁ (entryFrame m #[(.ref a1), (.int p2), (.int p3), (.int p4), (.int p5)] 5) T2 (mkF m 4 #[.val (.ref a1), .val (.int p2), .val (.int p3), .val (.int p4), .val (.int p5)] []) := fun t k => go1 t (st2 _ k)
  have go3 : Goes p e below s₁ (entryFrame m #[(.ref a1), (.int p2), (.int p3), (.int p4), (.int p5)] 5) T2 (mkF m 5 #[.val (.ref a1), .val (.int p2), .val (.int p3), .val (.int p4), .val (.int p5)] [(.int p2)]) := fun t k => go2 t (by
    show Steps p.tables e below (T2.setTop (mkF m 4 #[.val (.ref a1), .val (.int p2), .val (.int p3), .val (.int p4), .val (.int p5)] [])) _
    refine XS.iloadN X2.here hx rfl (hb hby d1_4) rfl ?_
    exact k)
  have go4 : Goes p e below s₁ (entryFrame m #[(.ref a1), (.int p2), (.int p3), (.int p4), (.int p5)] 5) T2 (mkF m 9 #[.val (.ref a1), .val (.int p2), .val (.int p3), .val (.int p4), .val (.int p5)] [(.int p4)]) := fun t k => go3 t (by
    show Steps p.tables e below (T2.setTop (mkF m 5 #[.val (.ref a1), .val (.int p2), .val (.int p3), .val (.int p4), .val (.int p5)] [(.int p2)])) _
    refine XS.ifNo X2.here hx rfl (hb hby d1_5) rfl ((if0 _ _).trans (flt c1).1) ?_
    show Steps p.tables e below (T2.setTop (mkF m 8 #[.val (.ref a1), .val (.int p2), .val (.int p3), .val (.int p4), .val (.int p5)] [])) _
    refine XS.iloadN X2.here hx rfl (hb hby d1_8) rfl ?_
    exact k)
  have go5 : Goes p e below s₁ (entryFrame m #[(.ref a1), (.int p2), (.int p3), (.int p4), (.int p5)] 5) T2 (mkF m 14 #[.val (.ref a1), .val (.int p2), .val (.int p3), .val (.int p4), .val (.int p5)] [(.int p3), (.int p2)]) := fun t k => go4 t (by
    show Steps p.tables e below (T2.setTop (mkF m 9 #[.val (.ref a1), .val (.int p2), .val (.int p3), .val (.int p4), .val (.int p5)] [(.int p4)])) _
    refine XS.ifNo X2.here hx rfl (hb hby d1_9) rfl ((if0 _ _).trans (flt c2).1) ?_
    show Steps p.tables e below (T2.setTop (mkF m 12 #[.val (.ref a1), .val (.int p2), .val (.int p3), .val (.int p4), .val (.int p5)] [])) _
    refine XS.iloadN X2.here hx rfl (hb hby d1_12) rfl ?_
    show Steps p.tables e below (T2.setTop (mkF m 13 #[.val (.ref a1), .val (.int p2), .val (.int p3), .val (.int p4), .val (.int p5)] [(.int p2)])) _
    refine XS.iloadN X2.here hx rfl (hb hby d1_13) rfl ?_
    exact k)
  have go6 : Goes p e below s₁ (entryFrame m #[(.ref a1), (.int p2), (.int p3), (.int p4), (.int p5)] 5) T2 (mkF m 20 #[.val (.ref a1), .val (.int p2), .val (.int p3), .val (.int p4), .val (.int p5)] [(.int p5), (.int p4)]) := fun t k => go5 t (by
    show Steps p.tables e below (T2.setTop (mkF m 14 #[.val (.ref a1), .val (.int p2), .val (.int p3), .val (.int p4), .val (.int p5)] [(.int p3), (.int p2)])) _
    refine XS.icmpNo X2.here hx rfl (hb hby d1_14) rfl (flt c3).2.2.1 ?_
    show Steps p.tables e below (T2.setTop (mkF m 17 #[.val (.ref a1), .val (.int p2), .val (.int p3), .val (.int p4), .val (.int p5)] [])) _
    refine XS.iloadN X2.here hx rfl (hb hby d1_17) rfl ?_
    show Steps p.tables e below (T2.setTop (mkF m 18 #[.val (.ref a1), .val (.int p2), .val (.int p3), .val (.int p4), .val (.int p5)] [(.int p4)])) _
    refine XS.iload X2.here hx rfl (hb hby d1_18) rfl ?_
    exact k)
  have go7 : Goes p e below s₁ (entryFrame m #[(.ref a1), (.int p2), (.int p3), (.int p4), (.int p5)] 5) T2 (mkF m 27 #[.val (.ref a1), .val (.int p2), .val (.int p3), .val (.int p4), .val (.int p5)] [(.int (p3 + p5))]) := fun t k => go6 t (by
    show Steps p.tables e below (T2.setTop (mkF m 20 #[.val (.ref a1), .val (.int p2), .val (.int p3), .val (.int p4), .val (.int p5)] [(.int p5), (.int p4)])) _
    refine XS.icmpNo X2.here hx rfl (hb hby d1_20) rfl (flt c4).2.2.1 ?_
    show Steps p.tables e below (T2.setTop (mkF m 23 #[.val (.ref a1), .val (.int p2), .val (.int p3), .val (.int p4), .val (.int p5)] [])) _
    refine XS.iloadN X2.here hx rfl (hb hby d1_23) rfl ?_
    show Steps p.tables e below (T2.setTop (mkF m 24 #[.val (.ref a1), .val (.int p2), .val (.int p3), .val (.int p4), .val (.int p5)] [(.int p3)])) _
    refine XS.iload X2.here hx rfl (hb hby d1_24) rfl ?_
    show Steps p.tables e below (T2.setTop (mkF m 26 #[.val (.ref a1), .val (.int p2), .val (.int p3), .val (.int p4), .val (.int p5)] [(.int p5), (.int p3)])) _
    refine XS.iadd X2.here hx rfl (hb hby d1_26) rfl ?_
    exact k)
  have go8 : Goes p e below s₁ (entryFrame m #[(.ref a1), (.int p2), (.int p3), (.int p4), (.int p5)] 5) T2 (mkF m 50 #[.val (.ref a1), .val (.int p2), .val (.int p3), .val (.int p4), .val (.int p5)] [(.int p2), (.ref a1)]) := fun t k => go7 t (by
    show Steps p.tables e below (T2.setTop (mkF m 27 #[.val (.ref a1), .val (.int p2), .val (.int p3), .val (.int p4), .val (.int p5)] [(.int (p3 + p5))])) _
    refine XS.ifYes X2.here hx rfl (pc0 := 27) (pc' := 48) rfl (hb hby d1_27) rfl ((if0 _ _).trans (feq c5).2) (by decide) (by decide) ?_
    show Steps p.tables e below (T2.setTop (mkF m 48 #[.val (.ref a1), .val (.int p2), .val (.int p3), .val (.int p4), .val (.int p5)] [])) _
    refine XS.aloadN X2.here hx rfl (hb hby d1_48) rfl rfl ?_
    show Steps p.tables e below (T2.setTop (mkF m 49 #[.val (.ref a1), .val (.int p2), .val (.int p3), .val (.int p4), .val (.int p5)] [(.ref a1)])) _
    refine XS.iloadN X2.here hx rfl (hb hby d1_49) rfl ?_
    exact k)
  obtain ⟨T9, h9, X9, e9, W9, st9⟩ := putF X2 hx hZ hown (host := "") (Or.inl (hw _ (List.mem_of_getElem? (i := 11) rfl))) Via.refl e2 F0 Ex (Or.inr ⟨(hw _ (List.mem_of_getElem? (i := 12) rfl)), rfl, hnm⟩) (hw _ (List.mem_of_getElem? (i := 3) rfl)) (ty := .int) (by decide) rfl rfl (g := (mkF m 50 #[.val (.ref a1), .val (.int p2), .val (.int p3), .val (.int p4), .val (.int p5)] [(.int p2), (.ref a1)])) rfl rfl (hb hby d1_50)
  have N9 := Fr.snoc X9 N0 g_a1
  have KP9 : Keep h0 h9 [a1] := KP0.wr W9 (Or.inl (List.mem_of_getElem? (i := 0) rfl))
  have ZS9 : n0 ≤ h9.size := Nat.le_trans Z0 (Keep.of_wr W9).1
  have F9 := Fld.same W9 F0
  have go9 : Goes p e below s₁ (entryFrame m #[(.ref a1), (.int p2), (.int p3), (.int p4), (.int p5)] 5) T9 (mkF m 53 #[.val (.ref a1), .val (.int p2), .val (.int p3), .val (.int p4), .val (.int p5)] []) := fun t k => go8 t (st9 _ k)
  have f10 := (Fld.other W9 F1 (Or.inr (slot_ne (Or.inr (hw _ (List.mem_of_getElem? (i := 14) rfl))) (Or.inr (hw _ (List.mem_of_getElem? (i := 12) rfl))) (by decide) (t := .int) (t' := .int) (by decide) (by decide))))
  have go11 : Goes p e below s₁ (entryFrame m #[(.ref a1), (.int p2), (.int p3), (.int p4), (.int p5)] 5) T9 (mkF m 55 #[.val (.ref a1), .val (.int p2), .val (.int p3), .val (.int p4), .val (.int p5)] [(.int p3), (.ref a1)]) := fun t k => go9 t (by
    show Steps p.tables e below (T9.setTop (mkF m 53 #[.val (.ref a1), .val (.int p2), .val (.int p3), .val (.int p4), .val (.int p5)] [])) _
    refine XS.aloadN X9.here hx rfl (hb hby d1_53) rfl rfl ?_
    show Steps p.tables e below (T9.setTop (mkF m 54 #[.val (.ref a1), .val (.int p2), .val (.int p3), .val (.int p4), .val (.int p5)] [(.ref a1)])) _
    refine XS.iloadN X9.here hx rfl (hb hby d1_54) rfl ?_
    exact k)
  obtain ⟨T12, h12, X12, e12, W12, st12⟩ := putF X9 hx hZ hown (host := "") (Or.inl (hw _ (List.mem_of_getElem? (i := 13) rfl))) Via.refl e9 f10 (Exa.wr W9 Ex) (Or.inr ⟨(hw _ (List.mem_of_getElem? (i := 14) rfl)), rfl, hnm⟩) (hw _ (List.mem_of_getElem? (i := 3) rfl)) (ty := .int) (by decide) rfl rfl (g := (mkF m 55 #[.val (.ref a1), .val (.int p2), .val (.int p3), .val (.int p4), .val (.int p5)] [(.int p3), (.ref a1)])) rfl rfl (hb hby d1_55)
  have N12 := Fr.snoc X12 N9 g_a1
  have KP12 : Keep h0 h12 [a1] := KP9.wr W12 (Or.inl (List.mem_of_getElem? (i := 0) rfl))
  have ZS12 : n0 ≤ h12.size := Nat.le_trans ZS9 (Keep.of_wr W12).1
  have F12 := Fld.same W12 f10
  have go12 : Goes p e below s₁ (entryFrame m #[(.ref a1), (.int p2), (.int p3), (.int p4), (.int p5)] 5) T12 (mkF m 58 #[.val (.ref a1), .val (.int p2), .val (.int p3), .val (.int p4), .val (.int p5)] []) := fun t k => go11 t (st12 _ k)
  have f13 := (Fld.other W12 (Fld.other W9 F2 (Or.inr (slot_ne (Or.inr (hw _ (List.mem_of_getElem? (i := 16) rfl))) (Or.inr (hw _ (List.mem_of_getElem? (i := 12) rfl))) (by decide) (t := .int) (t' := .int) (by decide) (by decide)))) (Or.inr (slot_ne (Or.inr (hw _ (List.mem_of_getElem? (i := 16) rfl))) (Or.inr (hw _ (List.mem_of_getElem? (i := 14) rfl))) (by decide) (t := .int) (t' := .int) (by decide) (by decide))))
  have go14 : Goes p e below s₁ (entryFrame m #[(.ref a1), (.int p2), (.int p3), (.int p4), (.int p5)] 5) T12 (mkF m 60 #[.val (.ref a1), .val (.int p2), .val (.int p3), .val (.int p4), .val (.int p5)] [(.int p4), (.ref a1)]) := fun t k => go12 t (by
    show Steps p.tables e below (T12.setTop (mkF m 58 #[.val (.ref a1), .val (.int p2), .val (.int p3), .val (.int p4), .val (.int p5)] [])) _
    refine XS.aloadN X12.here hx rfl (hb hby d1_58) rfl rfl ?_
    show Steps p.tables e below (T12.setTop (mkF m 59 #[.val (.ref a1), .val (.int p2), .val (.int p3), .val (.int p4), .val (.int p5)] [(.ref a1)])) _
    refine XS.iloadN X12.here hx rfl (hb hby d1_59) rfl ?_
    exact k)
  obtain ⟨T15, h15, X15, e15, W15, st15⟩ := putF X12 hx hZ hown (host := "") (Or.inl (hw _ (List.mem_of_getElem? (i := 15) rfl))) Via.refl e12 f13 (Exa.wr W12 (Exa.wr W9 Ex)) (Or.inr ⟨(hw _ (List.mem_of_getElem? (i := 16) rfl)), rfl, hnm⟩) (hw _ (List.mem_of_getElem? (i := 3) rfl)) (ty := .int) (by decide) rfl rfl (g := (mkF m 60 #[.val (.ref a1), .val (.int p2), .val (.int p3), .val (.int p4), .val (.int p5)] [(.int p4), (.ref a1)])) rfl rfl (hb hby d1_60)
  have N15 := Fr.snoc X15 N12 g_a1
  have KP15 : Keep h0 h15 [a1] := KP12.wr W15 (Or.inl (List.mem_of_getElem? (i := 0) rfl))
  have ZS15 : n0 ≤ h15.size := Nat.le_trans ZS12 (Keep.of_wr W15).1
  have F15 := Fld.same W15 f13
  have go15 : Goes p e below s₁ (entryFrame m #[(.ref a1), (.int p2), (.int p3), (.int p4), (.int p5)] 5) T15 (mkF m 63 #[.val (.ref a1), .val (.int p2), .val (.int p3), .val (.int p4), .val (.int p5)] []) := fun t k => go14 t (st15 _ k)
  have f16 := (Fld.other W15 (Fld.other W12 (Fld.other W9 F3 (Or.inr (slot_ne (Or.inr (hw _ (List.mem_of_getElem? (i := 18) rfl))) (Or.inr (hw _ (List.mem_of_getElem? (i := 12) rfl))) (by decide) (t := .int) (t' := .int) (by decide) (by decide)))) (Or.inr (slot_ne (Or.inr (hw _ (List.mem_of_getElem? (i := 18) rfl))) (Or.inr (hw _ (List.mem_of_getElem? (i := 14) rfl))) (by decide) (t := .int) (t' := .int) (by decide) (by decide)))) (Or.inr (slot_ne (Or.inr (hw _ (List.mem_of_getElem? (i := 18) rfl))) (Or.inr (hw _ (List.mem_of_getElem? (i := 16) rfl))) (by decide) (t := .int) (t' := .int) (by decide) (by decide))))
  have go17 : Goes p e below s₁ (entryFrame m #[(.ref a1), (.int p2), (.int p3), (.int p4), (.int p5)] 5) T15 (mkF m 66 #[.val (.ref a1), .val (.int p2), .val (.int p3), .val (.int p4), .val (.int p5)] [(.int p5), (.ref a1)]) := fun t k => go15 t (by
    show Steps p.tables e below (T15.setTop (mkF m 63 #[.val (.ref a1), .val (.int p2), .val (.int p3), .val (.int p4), .val (.int p5)] [])) _
    refine XS.aloadN X15.here hx rfl (hb hby d1_63) rfl rfl ?_
    show Steps p.tables e below (T15.setTop (mkF m 64 #[.val (.ref a1), .val (.int p2), .val (.int p3), .val (.int p4), .val (.int p5)] [(.ref a1)])) _
    refine XS.iload X15.here hx rfl (hb hby d1_64) rfl ?_
    exact k)
  obtain ⟨T18, h18, X18, e18, W18, st18⟩ := putF X15 hx hZ hown (host := "") (Or.inl (hw _ (List.mem_of_getElem? (i := 17) rfl))) Via.refl e15 f16 (Exa.wr W15 (Exa.wr W12 (Exa.wr W9 Ex))) (Or.inr ⟨(hw _ (List.mem_of_getElem? (i := 18) rfl)), rfl, hnm⟩) (hw _ (List.mem_of_getElem? (i := 3) rfl)) (ty := .int) (by decide) rfl rfl (g := (mkF m 66 #[.val (.ref a1), .val (.int p2), .val (.int p3), .val (.int p4), .val (.int p5)] [(.int p5), (.ref a1)])) rfl rfl (hb hby d1_66)
  have N18 := Fr.snoc X18 N15 g_a1
  have KP18 : Keep h0 h18 [a1] := KP15.wr W18 (Or.inl (List.mem_of_getElem? (i := 0) rfl))
  have ZS18 : n0 ≤ h18.size := Nat.le_trans ZS15 (Keep.of_wr W18).1
  have F18 := Fld.same W18 f16
  have go18 : Goes p e below s₁ (entryFrame m #[(.ref a1), (.int p2), (.int p3), (.int p4), (.int p5)] 5) T18 (mkF m 69 #[.val (.ref a1), .val (.int p2), .val (.int p3), .val (.int p4), .val (.int p5)] []) := fun t k => go17 t (st18 _ k)
  have f19 := (Fld.other W18 (Fld.other W15 (Fld.other W12 F9 (Or.inr (slot_ne (Or.inr (hw _ (List.mem_of_getElem? (i := 12) rfl))) (Or.inr (hw _ (List.mem_of_getElem? (i := 14) rfl))) (by decide) (t := .int) (t' := .int) (by decide) (by decide)))) (Or.inr (slot_ne (Or.inr (hw _ (List.mem_of_getElem? (i := 12) rfl))) (Or.inr (hw _ (List.mem_of_getElem? (i := 16) rfl))) (by decide) (t := .int) (t' := .int) (by decide) (by decide)))) (Or.inr (slot_ne (Or.inr (hw _ (List.mem_of_getElem? (i := 12) rfl))) (Or.inr (hw _ (List.mem_of_getElem? (i := 18) rfl))) (by decide) (t := .int) (t' := .int) (by decide) (by decide))))
  have f20 := (Fld.other W18 (Fld.other W15 F12 (Or.inr (slot_ne (Or.inr (hw _ (List.mem_of_getElem? (i := 14) rfl))) (Or.inr (hw _ (List.mem_of_getElem? (i := 16) rfl))) (by decide) (t := .int) (t' := .int) (by decide) (by decide)))) (Or.inr (slot_ne (Or.inr (hw _ (List.mem_of_getElem? (i := 14) rfl))) (Or.inr (hw _ (List.mem_of_getElem? (i := 18) rfl))) (by decide) (t := .int) (t' := .int) (by decide) (by decide))))
  have f21 := (Fld.other W18 F15 (Or.inr (slot_ne (Or.inr (hw _ (List.mem_of_getElem? (i := 16) rfl))) (Or.inr (hw _ (List.mem_of_getElem? (i := 18) rfl))) (by decide) (t := .int) (t' := .int) (by decide) (by decide))))
  obtain ⟨fs, hr, hrun, hended, hW, hsame⟩ := X18.leave (v := none) (fun _ => rfl)
  refine ⟨_, _, go18 _ ?_, hrun, hended, _, _, rfl, ?_, ⟨_, rfl⟩, hW, hsame.mono (by decide) (by decide)⟩
  · exact X18.returnOut hx Bd.returns (hb hby d1_69) hr
  · show Q_rm1 Z a1 p2 p3 p4 p5 h0 n0 _ T18.heap _
    rw [e18]
    exact ⟨rfl, N18, KP18, (Exa.wr W18 (Exa.wr W15 (Exa.wr W12 (Exa.wr W9 Ex)))), f19, f20, f21, F18⟩
theorem d3_0 : decode prog_5_method_6_code 0 = .ok (.aload_n 0, 1) := by decide +kernel
theorem d3_1 : decode prog_5_method_6_code 1 = .ok (.getfield 16, 3) := by decide +kernel
theorem d3_4 : decode prog_5_method_6_code 4 = .ok (.aload_n 0, 1) := by decide +kernel
theorem d3_5 : decode prog_5_method_6_code 5 = .ok (.getfield 28, 3) := by decide +kernel
theorem d3_8 : decode prog_5_method_6_code 8 = .ok (.iadd, 1) := by decide +kernel
theorem d3_9 : decode prog_5_method_6_code 9 = .ok (.aload_n 0, 1) := by decide +kernel
theorem d3_10 : decode prog_5_method_6_code 10 = .ok (.getfield 25, 3) := by decide +kernel
theorem d3_13 : decode prog_5_method_6_code 13 = .ok (.isub, 1) := by decide +kernel
theorem d3_14 : decode prog_5_method_6_code 14 = .ok (.ireturn, 1) := by decide +kernel
def Q_rm3 (Z : State) (a1 : Addr) (x0 x2 x3 : Int32) (h0 : Heap) (n0 : Nat) (v : Option Value) (h : Heap) (L : List Loc) : Prop := v = some (.int ((x0 + x3) - x2)) ∧ Fr n0 L ∧ h = h0
set_option maxRecDepth 65536 in
set_option maxHeartbeats 40000000 in
theorem rm3 (l : Launch) (Z : State) (a0 : Array Value) (hw : ∀ d ∈ tables_1, d.before a0 Z = true) (ws : List Jvm.Cond) (a1 : Addr) (x0 x2 x3 : Int32) (h0 : Heap) (n0 : Nat) (Z0 : n0 ≤ h0.size) (F_positivesCovered : Fld Z h0 a1 "com/example/nuthatch/nuthatch/model/Score" "positivesCovered" "I" (.int x0)) (F_negativesCovered : Fld Z h0 a1 "com/example/nuthatch/nuthatch/model/Score" "negativesCovered" "I" (.int x2)) (F_negatives : Fld Z h0 a1 "com/example/nuthatch/nuthatch/model/Score" "negatives" "I" (.int x3)) :
    MetFree l (⟨"com/example/nuthatch/nuthatch/model/Score", "right", "()I"⟩ : MethodName) (head1 (Jvm.Cond.code (⟨"com/example/nuthatch/nuthatch/model/Score", "right", "()I"⟩ : MethodName) prog_5_method_6_code 1 (some .int) :: ws) ({ frames := 0, cells := 0, slots := 0, locals := 0 } : Room)) (fun a U => a = #[(.ref a1)] ∧ Z.Warmed39 U.vm ∧ U.heap = h0) (fun _ _ _ _ _ => True) (fun _ U o U' => ∃ v L, o = .returned v ∧ Q_rm3 Z a1 x0 x2 x3 h0 n0 v U'.heap L ∧ FrameEnd U o U' L ({ frames := 0, cells := 0, slots := 0, locals := 0 } : Room).cells ({ frames := 0, cells := 0, slots := 0, locals := 0 } : Room).slots) := by
  refine MetFree.of_bodySF (plainFor_of_name pn_com_example_nuthatch_nuthatch_model_Score) hisR ?_
  intro p e s m args below meth c s₁ Bd hml0 hP hK
  obtain ⟨rfl, hZ, hh⟩ := hP
  have hx := Bd.exec
  have hby := Bd.bytes
  have hml : c.maxLocals = 1 := hml0
  have hown : s.vm.findClass "com/example/nuthatch/nuthatch/model/Score" = some m.cls := findClass_of_methodNamed Bd.named
  have hnm := (name_of_methodNamed Bd.named Bd.method).1
  have X0 : Stand p l e ({ frames := 0, cells := 0, slots := 0, locals := 0 } : Room) s m #[(.ref a1)] below meth c s₁ [] 0 0 := Stand.of_body Bd
  have e0 : s₁.heap = h0 := by rw [← hh, Bd.state]; rfl
  have N0 := Fr.nil n0
  have go0 : Goes p e below s₁ (entryFrame m #[(.ref a1)] 1) s₁ (mkF m 0 #[.val (.ref a1)] []) := fun t k => castTop (by first | (simp [entryFrame, mkF, argsToLocals, Value.category]; done) | rfl) k
  have go22 : Goes p e below s₁ (entryFrame m #[(.ref a1)] 1) s₁ (mkF m 1 #[.val (.ref a1)] [(.ref a1)]) := fun t k => go0 t (by
    show Steps p.tables e below (s₁.setTop (mkF m 0 #[.val (.ref a1)] [])) _
    refine XS.aloadN X0.here hx rfl (hb hby d3_0) rfl rfl ?_
    exact k)
  obtain ⟨T23, X23, e23, st23⟩ := getF X0 hx hZ hown (host := "") (Or.inl (hw _ (List.mem_of_getElem? (i := 11) rfl))) Via.refl e0 F_positivesCovered (g := (mkF m 1 #[.val (.ref a1)] [(.ref a1)])) rfl rfl (hb hby d3_1)
  have go23 : Goes p e below s₁ (entryFrame m #[(.ref a1)] 1) T23 (mkF m 4 #[.val (.ref a1)] [(.int x0)]) := fun t k => go22 t (st23 _ k)
  have go24 : Goes p e below s₁ (entryFrame m #[(.ref a1)] 1) T23 (mkF m 5 #[.val (.ref a1)] [(.ref a1), (.int x0)]) := fun t k => go23 t (by
    show Steps p.tables e below (T23.setTop (mkF m 4 #[.val (.ref a1)] [(.int x0)])) _
    refine XS.aloadN X23.here hx rfl (hb hby d3_4) rfl rfl ?_
    exact k)
  obtain ⟨T25, X25, e25, st25⟩ := getF X23 hx hZ hown (host := "") (Or.inl (hw _ (List.mem_of_getElem? (i := 17) rfl))) Via.refl e23 F_negatives (g := (mkF m 5 #[.val (.ref a1)] [(.ref a1), (.int x0)])) rfl rfl (hb hby d3_5)
  have go25 : Goes p e below s₁ (entryFrame m #[(.ref a1)] 1) T25 (mkF m 8 #[.val (.ref a1)] [(.int x3), (.int x0)]) := fun t k => go24 t (st25 _ k)
  have go26 : Goes p e below s₁ (entryFrame m #[(.ref a1)] 1) T25 (mkF m 10 #[.val (.ref a1)] [(.ref a1), (.int (x0 + x3))]) := fun t k => go25 t (by
    show Steps p.tables e below (T25.setTop (mkF m 8 #[.val (.ref a1)] [(.int x3), (.int x0)])) _
    refine XS.iadd X25.here hx rfl (hb hby d3_8) rfl ?_
    show Steps p.tables e below (T25.setTop (mkF m 9 #[.val (.ref a1)] [(.int (x0 + x3))])) _
    refine XS.aloadN X25.here hx rfl (hb hby d3_9) rfl rfl ?_
    exact k)
  obtain ⟨T27, X27, e27, st27⟩ := getF X25 hx hZ hown (host := "") (Or.inl (hw _ (List.mem_of_getElem? (i := 15) rfl))) Via.refl e25 F_negativesCovered (g := (mkF m 10 #[.val (.ref a1)] [(.ref a1), (.int (x0 + x3))])) rfl rfl (hb hby d3_10)
  have go27 : Goes p e below s₁ (entryFrame m #[(.ref a1)] 1) T27 (mkF m 13 #[.val (.ref a1)] [(.int x2), (.int (x0 + x3))]) := fun t k => go26 t (st27 _ k)
  have go28 : Goes p e below s₁ (entryFrame m #[(.ref a1)] 1) T27 (mkF m 14 #[.val (.ref a1)] [(.int ((x0 + x3) - x2))]) := fun t k => go27 t (by
    show Steps p.tables e below (T27.setTop (mkF m 13 #[.val (.ref a1)] [(.int x2), (.int (x0 + x3))])) _
    refine XS.isub X27.here hx rfl (hb hby d3_13) rfl ?_
    exact k)
  obtain ⟨fs, hr, hrun, hended, hW, hsame⟩ := X27.leave (v := some (.int ((x0 + x3) - x2))) (fun h => by rw [Bd.returns] at h; cases h)
  refine ⟨_, _, go28 _ ?_, hrun, hended, _, _, rfl, ?_, ⟨_, rfl⟩, hW, hsame.mono (by decide) (by decide)⟩
  · exact retI X27 hx Bd.returns (hb hby d3_14) hr
  · show Q_rm3 Z a1 x0 x2 x3 h0 n0 _ T27.heap _
    rw [e27]
    exact ⟨rfl, N0, rfl⟩
theorem own_m30 (b : Int32) : 0 ≤ (b &&& (1073741823 : Int32)).toInt ∧ (b &&& (1073741823 : Int32)).toInt < 1073741824 := by
  rw [Jvm.Kit.i32_mask b 1073741823 (k := 30) (by decide) (by decide)]; omega
theorem own_m31 (b : Int32) : 0 ≤ (b &&& (2147483647 : Int32)).toInt := by
  rw [Jvm.Kit.i32_mask b 2147483647 (k := 31) (by decide) (by decide)]; omega
theorem own_one : (1 : Int32).toInt = 1 := by decide
theorem own_succ {x : Int32} (h : 0 ≤ x.toInt ∧ x.toInt < 1073741824) : (x + (1 : Int32)).toInt = x.toInt + 1 := by
  rw [Jvm.Kit.i32_add (by rw [own_one]; omega) (by rw [own_one]; omega), own_one]
theorem own_nz {x : Int32} (h : 0 ≤ x.toInt ∧ x.toInt < 1073741824) : x + (1 : Int32) ≠ 0 := fun k => by
  have := congrArg Int32.toInt k
  rw [own_succ h, Int32.toInt_zero] at this; omega
theorem own_rem {a x : Int32} (h : 0 ≤ x.toInt ∧ x.toInt < 1073741824) : 0 ≤ ((a &&& (2147483647 : Int32)) % (x + (1 : Int32))).toInt ∧ ((a &&& (2147483647 : Int32)) % (x + (1 : Int32))).toInt ≤ x.toInt := by
  rw [Jvm.Kit.i32_rem_nonneg (own_m31 a), own_succ h]
  have := Int.emod_lt_of_pos (a &&& (2147483647 : Int32)).toInt (show (0 : Int) < x.toInt + 1 by omega)
  exact ⟨Int.emod_nonneg _ (by omega), by omega⟩
theorem own_ge {x : Int32} (h : 0 ≤ x.toInt) : ¬ (x < (0 : Int32)) := by rw [Int32.lt_iff_toInt_lt, Int32.toInt_zero]; omega
theorem own_nlt {x y : Int32} (h : y.toInt ≤ x.toInt) : ¬ (x < y) := by rw [Int32.lt_iff_toInt_lt]; omega
theorem pd_0 : parseMethodDescriptor "(IIII)V" = some ⟨[.int, .int, .int, .int], none⟩ := by decide +kernel
theorem pd_1 : parseMethodDescriptor "()I" = some ⟨[], some .int⟩ := by decide +kernel
def Q_rm0 (Z : State) (p1 : Int32) (p2 : Int32) (p3 : Int32) (p4 : Int32)  (h0 : Heap) (n0 : Nat) (v : Option Value) (h : Heap) (L : List Loc) : Prop := v = some (.int (1 : Int32)) ∧ Fr n0 L
theorem pn_com_example_nuthatch_nuthatch_model_ScoreRightPinLaw : plainName "com/example/nuthatch/nuthatch/model/ScoreRightPinLaw" = true := by first | (simp [plainName, overriddenIn]; done) | decide +kernel
set_option maxRecDepth 65536 in
set_option maxHeartbeats 40000000 in
theorem rm0 (l : Launch) (Z : State) (a0 : Array Value) (hw : ∀ d ∈ tables_1, d.before a0 Z = true) (ws : List Jvm.Cond) (p1 : Int32) (p2 : Int32) (p3 : Int32) (p4 : Int32)  (h0 : Heap) (n0 : Nat) (Z0 : n0 ≤ h0.size)  :
    MetFree l x (head1 (Jvm.Cond.code x code maxLocals ret :: ws) room_1) (fun a U => a = #[(.int p1), (.int p2), (.int p3), (.int p4)] ∧ Z.Warmed39 U.vm ∧ U.heap = h0) (fun _ _ _ _ _ => True) (fun _ U o U' => ∃ v L, o = .returned v ∧ Q_rm0 Z p1 p2 p3 p4 h0 n0 v U'.heap L ∧ FrameEnd U o U' L room_1.cells room_1.slots) := by
  refine MetFree.of_bodySF (plainFor_of_name pn_com_example_nuthatch_nuthatch_model_ScoreRightPinLaw) hisR ?_
  intro p e s m args below meth c s₁ Bd hml0 hP hK
  obtain ⟨rfl, hZ, hh⟩ := hP
  have hx := Bd.exec
  have hby := Bd.bytes
  have hml : c.maxLocals = 12 := hml0
  have hown : s.vm.findClass "com/example/nuthatch/nuthatch/model/ScoreRightPinLaw" = some m.cls := findClass_of_methodNamed Bd.named
  have hnm := (name_of_methodNamed Bd.named Bd.method).1
  have X0 : Stand p l e room_1 s m #[(.int p1), (.int p2), (.int p3), (.int p4)] below meth c s₁ [] 0 0 := Stand.of_body Bd
  have e0 : s₁.heap = h0 := by rw [← hh, Bd.state]; rfl
  have N0 := Fr.nil n0
  have go0 : Goes p e below s₁ (entryFrame m #[(.int p1), (.int p2), (.int p3), (.int p4)] maxLocals) s₁ (mkF m 0 #[.val (.int p1), .val (.int p2), .val (.int p3), .val (.int p4), .unset, .unset, .unset, .unset, .unset, .unset, .unset, .unset] []) := fun t k => castTop (by first | (simp [entryFrame, mkF, argsToLocals, Value.category, maxLocals]; done) | rfl) k
  have go29 : Goes p e below s₁ (entryFrame m #[(.int p1), (.int p2), (.int p3), (.int p4)] maxLocals) s₁ (mkF m 6 #[.val (.int p1), .val (.int p2), .val (.int p3), .val (.int p4), .val (.int (p1 &&& (1073741823 : Int32))), .unset, .unset, .unset, .unset, .unset, .unset, .unset] []) := fun t k => go0 t (by
    show Steps p.tables e below (s₁.setTop (mkF m 0 #[.val (.int p1), .val (.int p2), .val (.int p3), .val (.int p4), .unset, .unset, .unset, .unset, .unset, .unset, .unset, .unset] [])) _
    refine XS.iloadN X0.here hx rfl (hb hby at_0) rfl ?_
    show Steps p.tables e below (s₁.setTop (mkF m 1 #[.val (.int p1), .val (.int p2), .val (.int p3), .val (.int p4), .unset, .unset, .unset, .unset, .unset, .unset, .unset, .unset] [(.int p1)])) _
    refine X0.ldcInt hx hown (mvT hZ (hw _ (List.mem_of_getElem? (i := 0) rfl))) (g := (mkF m 1 #[.val (.int p1), .val (.int p2), .val (.int p3), .val (.int p4), .unset, .unset, .unset, .unset, .unset, .unset, .unset, .unset] [(.int p1)])) rfl (hb hby at_1) _ ?_
    show Steps p.tables e below (s₁.setTop (mkF m 3 #[.val (.int p1), .val (.int p2), .val (.int p3), .val (.int p4), .unset, .unset, .unset, .unset, .unset, .unset, .unset, .unset] [(.int (1073741823 : Int32)), (.int p1)])) _
    refine XS.iand X0.here hx rfl (hb hby at_3) rfl ?_
    show Steps p.tables e below (s₁.setTop (mkF m 4 #[.val (.int p1), .val (.int p2), .val (.int p3), .val (.int p4), .unset, .unset, .unset, .unset, .unset, .unset, .unset, .unset] [(.int (p1 &&& (1073741823 : Int32)))])) _
    refine XS.istore X0.here hx rfl (hb hby at_4) rfl (l' := #[.val (.int p1), .val (.int p2), .val (.int p3), .val (.int p4), .val (.int (p1 &&& (1073741823 : Int32))), .unset, .unset, .unset, .unset, .unset, .unset, .unset]) rfl ?_
    exact k)
  obtain ⟨pp, h_pp⟩ : ∃ z, z = (p1 &&& (1073741823 : Int32)) := ⟨_, rfl⟩
  rw [← h_pp] at go29
  have go30 : Goes p e below s₁ (entryFrame m #[(.int p1), (.int p2), (.int p3), (.int p4)] maxLocals) s₁ (mkF m 12 #[.val (.int p1), .val (.int p2), .val (.int p3), .val (.int p4), .val (.int pp), .val (.int (p2 &&& (1073741823 : Int32))), .unset, .unset, .unset, .unset, .unset, .unset] []) := fun t k => go29 t (by
    show Steps p.tables e below (s₁.setTop (mkF m 6 #[.val (.int p1), .val (.int p2), .val (.int p3), .val (.int p4), .val (.int pp), .unset, .unset, .unset, .unset, .unset, .unset, .unset] [])) _
    refine XS.iloadN X0.here hx rfl (hb hby at_6) rfl ?_
    show Steps p.tables e below (s₁.setTop (mkF m 7 #[.val (.int p1), .val (.int p2), .val (.int p3), .val (.int p4), .val (.int pp), .unset, .unset, .unset, .unset, .unset, .unset, .unset] [(.int p2)])) _
    refine X0.ldcInt hx hown (mvT hZ (hw _ (List.mem_of_getElem? (i := 0) rfl))) (g := (mkF m 7 #[.val (.int p1), .val (.int p2), .val (.int p3), .val (.int p4), .val (.int pp), .unset, .unset, .unset, .unset, .unset, .unset, .unset] [(.int p2)])) rfl (hb hby at_7) _ ?_
    show Steps p.tables e below (s₁.setTop (mkF m 9 #[.val (.int p1), .val (.int p2), .val (.int p3), .val (.int p4), .val (.int pp), .unset, .unset, .unset, .unset, .unset, .unset, .unset] [(.int (1073741823 : Int32)), (.int p2)])) _
    refine XS.iand X0.here hx rfl (hb hby at_9) rfl ?_
    show Steps p.tables e below (s₁.setTop (mkF m 10 #[.val (.int p1), .val (.int p2), .val (.int p3), .val (.int p4), .val (.int pp), .unset, .unset, .unset, .unset, .unset, .unset, .unset] [(.int (p2 &&& (1073741823 : Int32)))])) _
    refine XS.istore X0.here hx rfl (hb hby at_10) rfl (l' := #[.val (.int p1), .val (.int p2), .val (.int p3), .val (.int p4), .val (.int pp), .val (.int (p2 &&& (1073741823 : Int32))), .unset, .unset, .unset, .unset, .unset, .unset]) rfl ?_
    exact k)
  obtain ⟨nn, h_nn⟩ : ∃ z, z = (p2 &&& (1073741823 : Int32)) := ⟨_, rfl⟩
  rw [← h_nn] at go30
  have hpp : 0 ≤ pp.toInt ∧ pp.toInt < 1073741824 := by rw [h_pp]; exact own_m30 _
  have hnn : 0 ≤ nn.toInt ∧ nn.toInt < 1073741824 := by rw [h_nn]; exact own_m30 _
  have go31 : Goes p e below s₁ (entryFrame m #[(.int p1), (.int p2), (.int p3), (.int p4)] maxLocals) s₁ (mkF m 17 #[.val (.int p1), .val (.int p2), .val (.int p3), .val (.int p4), .val (.int pp), .val (.int nn), .unset, .unset, .unset, .unset, .unset, .unset] [(.int (pp + nn))]) := fun t k => go30 t (by
    show Steps p.tables e below (s₁.setTop (mkF m 12 #[.val (.int p1), .val (.int p2), .val (.int p3), .val (.int p4), .val (.int pp), .val (.int nn), .unset, .unset, .unset, .unset, .unset, .unset] [])) _
    refine XS.iload X0.here hx rfl (hb hby at_12) rfl ?_
    show Steps p.tables e below (s₁.setTop (mkF m 14 #[.val (.int p1), .val (.int p2), .val (.int p3), .val (.int p4), .val (.int pp), .val (.int nn), .unset, .unset, .unset, .unset, .unset, .unset] [(.int pp)])) _
    refine XS.iload X0.here hx rfl (hb hby at_14) rfl ?_
    show Steps p.tables e below (s₁.setTop (mkF m 16 #[.val (.int p1), .val (.int p2), .val (.int p3), .val (.int p4), .val (.int pp), .val (.int nn), .unset, .unset, .unset, .unset, .unset, .unset] [(.int nn), (.int pp)])) _
    refine XS.iadd X0.here hx rfl (hb hby at_16) rfl ?_
    exact k)
  by_cases hz : (pp + nn) = (0 : Int32)
  · have go32 : Goes p e below s₁ (entryFrame m #[(.int p1), (.int p2), (.int p3), (.int p4)] maxLocals) s₁ (mkF m 21 #[.val (.int p1), .val (.int p2), .val (.int p3), .val (.int p4), .val (.int pp), .val (.int nn), .unset, .unset, .unset, .unset, .unset, .unset] [(.int (1 : Int32))]) := fun t k => go31 t (by
      show Steps p.tables e below (s₁.setTop (mkF m 17 #[.val (.int p1), .val (.int p2), .val (.int p3), .val (.int p4), .val (.int pp), .val (.int nn), .unset, .unset, .unset, .unset, .unset, .unset] [(.int (pp + nn))])) _
      refine XS.ifNo X0.here hx rfl (hb hby at_17) rfl ((if0 _ _).trans (teq hz).2) ?_
      show Steps p.tables e below (s₁.setTop (mkF m 20 #[.val (.int p1), .val (.int p2), .val (.int p3), .val (.int p4), .val (.int pp), .val (.int nn), .unset, .unset, .unset, .unset, .unset, .unset] [])) _
      refine XS.iconst X0.here hx rfl (hb hby at_20) ?_
      exact k)
    obtain ⟨fs, hr, hrun, hended, hW, hsame⟩ := X0.leave (v := some (.int (1 : Int32))) (fun h => by rw [Bd.returns] at h; cases h)
    refine ⟨_, _, go32 _ ?_, hrun, hended, _, _, rfl, ?_, ⟨_, rfl⟩, hW, hsame.mono (by decide) (by decide)⟩
    · exact retN X0 hx (t := .boolean) Bd.returns (by simp) (hb hby at_21) hr
    · show Q_rm0 Z p1 p2 p3 p4 h0 n0 _ s₁.heap _
      rw [e0]
      exact ⟨rfl, N0⟩
  · have go33 : Goes p e below s₁ (entryFrame m #[(.int p1), (.int p2), (.int p3), (.int p4)] maxLocals) s₁ (mkF m 33 #[.val (.int p1), .val (.int p2), .val (.int p3), .val (.int p4), .val (.int pp), .val (.int nn), .val (.int ((p3 &&& (2147483647 : Int32)) % (pp + (1 : Int32)))), .unset, .unset, .unset, .unset, .unset] []) := fun t k => go31 t (by
      show Steps p.tables e below (s₁.setTop (mkF m 17 #[.val (.int p1), .val (.int p2), .val (.int p3), .val (.int p4), .val (.int pp), .val (.int nn), .unset, .unset, .unset, .unset, .unset, .unset] [(.int (pp + nn))])) _
      refine XS.ifYes X0.here hx rfl (pc0 := 17) (pc' := 22) rfl (hb hby at_17) rfl ((if0 _ _).trans (feq hz).2) (by decide) (by decide) ?_
      show Steps p.tables e below (s₁.setTop (mkF m 22 #[.val (.int p1), .val (.int p2), .val (.int p3), .val (.int p4), .val (.int pp), .val (.int nn), .unset, .unset, .unset, .unset, .unset, .unset] [])) _
      refine XS.iloadN X0.here hx rfl (hb hby at_22) rfl ?_
      show Steps p.tables e below (s₁.setTop (mkF m 23 #[.val (.int p1), .val (.int p2), .val (.int p3), .val (.int p4), .val (.int pp), .val (.int nn), .unset, .unset, .unset, .unset, .unset, .unset] [(.int p3)])) _
      refine X0.ldcInt hx hown (mvT hZ (hw _ (List.mem_of_getElem? (i := 1) rfl))) (g := (mkF m 23 #[.val (.int p1), .val (.int p2), .val (.int p3), .val (.int p4), .val (.int pp), .val (.int nn), .unset, .unset, .unset, .unset, .unset, .unset] [(.int p3)])) rfl (hb hby at_23) _ ?_
      show Steps p.tables e below (s₁.setTop (mkF m 25 #[.val (.int p1), .val (.int p2), .val (.int p3), .val (.int p4), .val (.int pp), .val (.int nn), .unset, .unset, .unset, .unset, .unset, .unset] [(.int (2147483647 : Int32)), (.int p3)])) _
      refine XS.iand X0.here hx rfl (hb hby at_25) rfl ?_
      show Steps p.tables e below (s₁.setTop (mkF m 26 #[.val (.int p1), .val (.int p2), .val (.int p3), .val (.int p4), .val (.int pp), .val (.int nn), .unset, .unset, .unset, .unset, .unset, .unset] [(.int (p3 &&& (2147483647 : Int32)))])) _
      refine XS.iload X0.here hx rfl (hb hby at_26) rfl ?_
      show Steps p.tables e below (s₁.setTop (mkF m 28 #[.val (.int p1), .val (.int p2), .val (.int p3), .val (.int p4), .val (.int pp), .val (.int nn), .unset, .unset, .unset, .unset, .unset, .unset] [(.int pp), (.int (p3 &&& (2147483647 : Int32)))])) _
      refine XS.iconst X0.here hx rfl (hb hby at_28) ?_
      show Steps p.tables e below (s₁.setTop (mkF m 29 #[.val (.int p1), .val (.int p2), .val (.int p3), .val (.int p4), .val (.int pp), .val (.int nn), .unset, .unset, .unset, .unset, .unset, .unset] [(.int (1 : Int32)), (.int pp), (.int (p3 &&& (2147483647 : Int32)))])) _
      refine XS.iadd X0.here hx rfl (hb hby at_29) rfl ?_
      show Steps p.tables e below (s₁.setTop (mkF m 30 #[.val (.int p1), .val (.int p2), .val (.int p3), .val (.int p4), .val (.int pp), .val (.int nn), .unset, .unset, .unset, .unset, .unset, .unset] [(.int (pp + (1 : Int32))), (.int (p3 &&& (2147483647 : Int32)))])) _
      refine iremM X0 hx rfl (hb hby at_30) rfl (own_nz hpp) ?_
      show Steps p.tables e below (s₁.setTop (mkF m 31 #[.val (.int p1), .val (.int p2), .val (.int p3), .val (.int p4), .val (.int pp), .val (.int nn), .unset, .unset, .unset, .unset, .unset, .unset] [(.int ((p3 &&& (2147483647 : Int32)) % (pp + (1 : Int32))))])) _
      refine XS.istore X0.here hx rfl (hb hby at_31) rfl (l' := #[.val (.int p1), .val (.int p2), .val (.int p3), .val (.int p4), .val (.int pp), .val (.int nn), .val (.int ((p3 &&& (2147483647 : Int32)) % (pp + (1 : Int32)))), .unset, .unset, .unset, .unset, .unset]) rfl ?_
      exact k)
    obtain ⟨pc, h_pc⟩ : ∃ z, z = ((p3 &&& (2147483647 : Int32)) % (pp + (1 : Int32))) := ⟨_, rfl⟩
    rw [← h_pc] at go33
    have go34 : Goes p e below s₁ (entryFrame m #[(.int p1), (.int p2), (.int p3), (.int p4)] maxLocals) s₁ (mkF m 44 #[.val (.int p1), .val (.int p2), .val (.int p3), .val (.int p4), .val (.int pp), .val (.int nn), .val (.int pc), .val (.int ((p4 &&& (2147483647 : Int32)) % (nn + (1 : Int32)))), .unset, .unset, .unset, .unset] []) := fun t k => go33 t (by
      show Steps p.tables e below (s₁.setTop (mkF m 33 #[.val (.int p1), .val (.int p2), .val (.int p3), .val (.int p4), .val (.int pp), .val (.int nn), .val (.int pc), .unset, .unset, .unset, .unset, .unset] [])) _
      refine XS.iloadN X0.here hx rfl (hb hby at_33) rfl ?_
      show Steps p.tables e below (s₁.setTop (mkF m 34 #[.val (.int p1), .val (.int p2), .val (.int p3), .val (.int p4), .val (.int pp), .val (.int nn), .val (.int pc), .unset, .unset, .unset, .unset, .unset] [(.int p4)])) _
      refine X0.ldcInt hx hown (mvT hZ (hw _ (List.mem_of_getElem? (i := 1) rfl))) (g := (mkF m 34 #[.val (.int p1), .val (.int p2), .val (.int p3), .val (.int p4), .val (.int pp), .val (.int nn), .val (.int pc), .unset, .unset, .unset, .unset, .unset] [(.int p4)])) rfl (hb hby at_34) _ ?_
      show Steps p.tables e below (s₁.setTop (mkF m 36 #[.val (.int p1), .val (.int p2), .val (.int p3), .val (.int p4), .val (.int pp), .val (.int nn), .val (.int pc), .unset, .unset, .unset, .unset, .unset] [(.int (2147483647 : Int32)), (.int p4)])) _
      refine XS.iand X0.here hx rfl (hb hby at_36) rfl ?_
      show Steps p.tables e below (s₁.setTop (mkF m 37 #[.val (.int p1), .val (.int p2), .val (.int p3), .val (.int p4), .val (.int pp), .val (.int nn), .val (.int pc), .unset, .unset, .unset, .unset, .unset] [(.int (p4 &&& (2147483647 : Int32)))])) _
      refine XS.iload X0.here hx rfl (hb hby at_37) rfl ?_
      show Steps p.tables e below (s₁.setTop (mkF m 39 #[.val (.int p1), .val (.int p2), .val (.int p3), .val (.int p4), .val (.int pp), .val (.int nn), .val (.int pc), .unset, .unset, .unset, .unset, .unset] [(.int nn), (.int (p4 &&& (2147483647 : Int32)))])) _
      refine XS.iconst X0.here hx rfl (hb hby at_39) ?_
      show Steps p.tables e below (s₁.setTop (mkF m 40 #[.val (.int p1), .val (.int p2), .val (.int p3), .val (.int p4), .val (.int pp), .val (.int nn), .val (.int pc), .unset, .unset, .unset, .unset, .unset] [(.int (1 : Int32)), (.int nn), (.int (p4 &&& (2147483647 : Int32)))])) _
      refine XS.iadd X0.here hx rfl (hb hby at_40) rfl ?_
      show Steps p.tables e below (s₁.setTop (mkF m 41 #[.val (.int p1), .val (.int p2), .val (.int p3), .val (.int p4), .val (.int pp), .val (.int nn), .val (.int pc), .unset, .unset, .unset, .unset, .unset] [(.int (nn + (1 : Int32))), (.int (p4 &&& (2147483647 : Int32)))])) _
      refine iremM X0 hx rfl (hb hby at_41) rfl (own_nz hnn) ?_
      show Steps p.tables e below (s₁.setTop (mkF m 42 #[.val (.int p1), .val (.int p2), .val (.int p3), .val (.int p4), .val (.int pp), .val (.int nn), .val (.int pc), .unset, .unset, .unset, .unset, .unset] [(.int ((p4 &&& (2147483647 : Int32)) % (nn + (1 : Int32))))])) _
      refine XS.istore X0.here hx rfl (hb hby at_42) rfl (l' := #[.val (.int p1), .val (.int p2), .val (.int p3), .val (.int p4), .val (.int pp), .val (.int nn), .val (.int pc), .val (.int ((p4 &&& (2147483647 : Int32)) % (nn + (1 : Int32)))), .unset, .unset, .unset, .unset]) rfl ?_
      exact k)
    obtain ⟨nc, h_nc⟩ : ∃ z, z = ((p4 &&& (2147483647 : Int32)) % (nn + (1 : Int32))) := ⟨_, rfl⟩
    rw [← h_nc] at go34
    have hpc : 0 ≤ pc.toInt ∧ pc.toInt ≤ pp.toInt := by rw [h_pc]; exact own_rem hpp
    have hnc : 0 ≤ nc.toInt ∧ nc.toInt ≤ nn.toInt := by rw [h_nc]; exact own_rem hnn
    obtain ⟨T35, h35, X35, e35, E35, A35, D35, -, st35⟩ := newO X0 hx hZ hown (hw _ (List.mem_of_getElem? (i := 2) rfl)) (hw _ (List.mem_of_getElem? (i := 3) rfl)) (hw _ (List.mem_of_getElem? (i := 4) rfl)) e0 (g := (mkF m 44 #[.val (.int p1), .val (.int p2), .val (.int p3), .val (.int p4), .val (.int pp), .val (.int nn), .val (.int pc), .val (.int nc), .unset, .unset, .unset, .unset] [])) rfl (hb hby at_44) (by decide) (by decide)
    obtain ⟨b35, g35⟩ : ∃ z, z = h0.size := ⟨_, rfl⟩
    rw [← g35] at A35 D35 st35
    have g_b35 : n0 ≤ b35 := Nat.le_trans Z0 (Nat.le_of_eq g35.symm)
    have ZS35 : n0 ≤ h35.size := Nat.le_trans Z0 E35.1
    have F35_positivesCovered : Fld Z h35 b35 "com/example/nuthatch/nuthatch/model/Score" "positivesCovered" "I" (.int (0 : Int32)) := D35 (Or.inr (hw _ (List.mem_of_getElem? (i := 12) rfl))) (ty := .int) (by decide)
    have F35_positives : Fld Z h35 b35 "com/example/nuthatch/nuthatch/model/Score" "positives" "I" (.int (0 : Int32)) := D35 (Or.inr (hw _ (List.mem_of_getElem? (i := 14) rfl))) (ty := .int) (by decide)
    have F35_negativesCovered : Fld Z h35 b35 "com/example/nuthatch/nuthatch/model/Score" "negativesCovered" "I" (.int (0 : Int32)) := D35 (Or.inr (hw _ (List.mem_of_getElem? (i := 16) rfl))) (ty := .int) (by decide)
    have F35_negatives : Fld Z h35 b35 "com/example/nuthatch/nuthatch/model/Score" "negatives" "I" (.int (0 : Int32)) := D35 (Or.inr (hw _ (List.mem_of_getElem? (i := 18) rfl))) (ty := .int) (by decide)
    have go35 : Goes p e below s₁ (entryFrame m #[(.int p1), (.int p2), (.int p3), (.int p4)] maxLocals) T35 (mkF m 47 #[.val (.int p1), .val (.int p2), .val (.int p3), .val (.int p4), .val (.int pp), .val (.int nn), .val (.int pc), .val (.int nc), .unset, .unset, .unset, .unset] [(.ref b35)]) := fun t k => go34 t (st35 _ k)
    have go36 : Goes p e below s₁ (entryFrame m #[(.int p1), (.int p2), (.int p3), (.int p4)] maxLocals) T35 (mkF m 56 #[.val (.int p1), .val (.int p2), .val (.int p3), .val (.int p4), .val (.int pp), .val (.int nn), .val (.int pc), .val (.int nc), .unset, .unset, .unset, .unset] [(.int nn), (.int nc), (.int pp), (.int pc), (.ref b35), (.ref b35)]) := fun t k => go35 t (by
      show Steps p.tables e below (T35.setTop (mkF m 47 #[.val (.int p1), .val (.int p2), .val (.int p3), .val (.int p4), .val (.int pp), .val (.int nn), .val (.int pc), .val (.int nc), .unset, .unset, .unset, .unset] [(.ref b35)])) _
      refine XS.dup X35.here hx rfl (hb hby at_47) rfl rfl ?_
      show Steps p.tables e below (T35.setTop (mkF m 48 #[.val (.int p1), .val (.int p2), .val (.int p3), .val (.int p4), .val (.int pp), .val (.int nn), .val (.int pc), .val (.int nc), .unset, .unset, .unset, .unset] [(.ref b35), (.ref b35)])) _
      refine XS.iload X35.here hx rfl (hb hby at_48) rfl ?_
      show Steps p.tables e below (T35.setTop (mkF m 50 #[.val (.int p1), .val (.int p2), .val (.int p3), .val (.int p4), .val (.int pp), .val (.int nn), .val (.int pc), .val (.int nc), .unset, .unset, .unset, .unset] [(.int pc), (.ref b35), (.ref b35)])) _
      refine XS.iload X35.here hx rfl (hb hby at_50) rfl ?_
      show Steps p.tables e below (T35.setTop (mkF m 52 #[.val (.int p1), .val (.int p2), .val (.int p3), .val (.int p4), .val (.int pp), .val (.int nn), .val (.int pc), .val (.int nc), .unset, .unset, .unset, .unset] [(.int pp), (.int pc), (.ref b35), (.ref b35)])) _
      refine XS.iload X35.here hx rfl (hb hby at_52) rfl ?_
      show Steps p.tables e below (T35.setTop (mkF m 54 #[.val (.int p1), .val (.int p2), .val (.int p3), .val (.int p4), .val (.int pp), .val (.int nn), .val (.int pc), .val (.int nc), .unset, .unset, .unset, .unset] [(.int nc), (.int pp), (.int pc), (.ref b35), (.ref b35)])) _
      refine XS.iload X35.here hx rfl (hb hby at_54) rfl ?_
      exact k)
    obtain ⟨_, _, ⟨T37, L37, k37, n37⟩, -, X37, ⟨Lc37, hQ37, l37, y37, z37⟩, st37⟩ := X35.specialBack hx (y := (⟨"com/example/nuthatch/nuthatch/model/Score", "<init>", "(IIII)V"⟩ : MethodName)) rfl hown (mvT hZ (hw _ (List.mem_of_getElem? (i := 5) rfl))) (mvT hZ (hw _ (List.mem_of_getElem? (i := 6) rfl))) (mvT hZ (hw _ (List.mem_of_getElem? (i := 7) rfl))) (by decide) (backOf (W := 1) (rm1 l Z a0 hw [] b35 pc pp nc nn  h35 n0 ZS35 g_b35 A35 F35_positivesCovered F35_positives F35_negativesCovered F35_negatives (own_ge hpc.1) (own_ge hnc.1) (own_nlt hpc.2) (own_nlt hnc.2) hz) hZ (hw _ (List.mem_of_getElem? (i := 7) rfl)) (hw _ (List.mem_of_getElem? (i := 4) rfl)) (by decide) (by decide)) (g := (mkF m 56 #[.val (.int p1), .val (.int p2), .val (.int p3), .val (.int p4), .val (.int pp), .val (.int nn), .val (.int pc), .val (.int nc), .unset, .unset, .unset, .unset] [(.int nn), (.int nc), (.int pp), (.int pc), (.ref b35), (.ref b35)])) rfl (by rw [hml]; rfl) (Steps.refl _) (a := b35) (argsL := [(.int pc), (.int pp), (.int nc), (.int nn)]) (rest := [(.ref b35)]) (lenOf pd_0 rfl) rfl (by show 2 * 0 + _ ≤ _; exact Nat.le_of_eq rfl) (hb hby at_56) (fun _ _ => ⟨rfl, e35, (by decide : 1 + 0 ≤ _), (by decide : 4 + 0 ≤ _)⟩)
    dsimp only [Pt.U, Pt.locs, Pt.cells, Pt.slots] at X37 l37 y37 z37 st37 hQ37
    subst l37 y37 z37
    obtain ⟨rfl, Nq37, K37, A37, Fa37, Fb37, Fc37, Fd37⟩ := hQ37
    have N37 := Fr.app N0 Nq37
    have ZS37 : n0 ≤ T37.heap.size := Nat.le_trans ZS35 K37.1
    have go37 : Goes p e below s₁ (entryFrame m #[(.int p1), (.int p2), (.int p3), (.int p4)] maxLocals) T37 (mkF m 59 #[.val (.int p1), .val (.int p2), .val (.int p3), .val (.int p4), .val (.int pp), .val (.int nn), .val (.int pc), .val (.int nc), .unset, .unset, .unset, .unset] [(.ref b35)]) := fun t k => go36 t (st37.trans k)
    have go38 : Goes p e below s₁ (entryFrame m #[(.int p1), (.int p2), (.int p3), (.int p4)] maxLocals) T37 (mkF m 63 #[.val (.int p1), .val (.int p2), .val (.int p3), .val (.int p4), .val (.int pp), .val (.int nn), .val (.int pc), .val (.int nc), .val (.ref b35), .unset, .unset, .unset] [(.ref b35)]) := fun t k => go37 t (by
      show Steps p.tables e below (T37.setTop (mkF m 59 #[.val (.int p1), .val (.int p2), .val (.int p3), .val (.int p4), .val (.int pp), .val (.int nn), .val (.int pc), .val (.int nc), .unset, .unset, .unset, .unset] [(.ref b35)])) _
      refine XS.astore X37.here hx rfl (hb hby at_59) rfl rfl (l' := #[.val (.int p1), .val (.int p2), .val (.int p3), .val (.int p4), .val (.int pp), .val (.int nn), .val (.int pc), .val (.int nc), .val (.ref b35), .unset, .unset, .unset]) rfl ?_
      show Steps p.tables e below (T37.setTop (mkF m 61 #[.val (.int p1), .val (.int p2), .val (.int p3), .val (.int p4), .val (.int pp), .val (.int nn), .val (.int pc), .val (.int nc), .val (.ref b35), .unset, .unset, .unset] [])) _
      refine XS.aload X37.here hx rfl (hb hby at_61) rfl rfl ?_
      exact k)
    obtain ⟨cq39, kq39, q39a, q39b, q39c⟩ := isOf hZ rfl A37
    obtain ⟨_, _, ⟨T39, L39, k39, n39⟩, -, X39, ⟨Lc39, hQ39, l39, y39, z39⟩, st39⟩ := X37.virtualBack hx (y := (⟨"com/example/nuthatch/nuthatch/model/Score", "right", "()I"⟩ : MethodName)) (z := (⟨"com/example/nuthatch/nuthatch/model/Score", "right", "()I"⟩ : MethodName)) hown (mvT hZ (hw _ (List.mem_of_getElem? (i := 19) rfl))) (mvT hZ (hw _ (List.mem_of_getElem? (i := 20) rfl))) (notFace_of_selects (args := #[]) (mvT hZ (hw _ (List.mem_of_getElem? (i := 22) rfl)))) (mvT hZ (hw _ (List.mem_of_getElem? (i := 22) rfl))) (mvT hZ (hw _ (List.mem_of_getElem? (i := 21) rfl))) (by decide) (backOf (W := 0) (rm3 l Z a0 hw [] b35 pc nc nn T37.heap n0 ZS37 Fa37 Fc37 Fd37) hZ (hw _ (List.mem_of_getElem? (i := 23) rfl)) (hw _ (List.mem_of_getElem? (i := 4) rfl)) (by decide) (by decide)) q39a q39c (g := (mkF m 63 #[.val (.int p1), .val (.int p2), .val (.int p3), .val (.int p4), .val (.int pp), .val (.int nn), .val (.int pc), .val (.int nc), .val (.ref b35), .unset, .unset, .unset] [(.ref b35)])) rfl (by rw [hml]; rfl) (Steps.refl _) (argsL := []) (rest := []) (lenOf pd_1 rfl) rfl (by show 2 * 0 + _ ≤ _; exact Nat.le_of_eq rfl) (hb hby at_63) (fun _ _ => ⟨rfl, rfl, (by decide : 1 + 0 ≤ _), (by decide : 4 + 0 ≤ _)⟩)
    dsimp only [Pt.U, Pt.locs, Pt.cells, Pt.slots] at X39 l39 y39 z39 st39 hQ39
    subst l39 y39 z39
    obtain ⟨rfl, Nq39, eq39⟩ := hQ39
    have N39 := Fr.app N37 Nq39
    have go39 : Goes p e below s₁ (entryFrame m #[(.int p1), (.int p2), (.int p3), (.int p4)] maxLocals) T39 (mkF m 66 #[.val (.int p1), .val (.int p2), .val (.int p3), .val (.int p4), .val (.int pp), .val (.int nn), .val (.int pc), .val (.int nc), .val (.ref b35), .unset, .unset, .unset] [(.int ((pc + nn) - nc))]) := fun t k => go38 t (st39.trans k)
    have e1 : (pc + nn).toInt = pc.toInt + nn.toInt := Jvm.Kit.i32_add (by omega) (by omega)
    have e2 : ((pc + nn) - nc).toInt = pc.toInt + nn.toInt - nc.toInt := by rw [Jvm.Kit.i32_sub (by rw [e1]; omega) (by rw [e1]; omega), e1]
    have e3 : (pp + nn).toInt = pp.toInt + nn.toInt := Jvm.Kit.i32_add (by omega) (by omega)
    have e4 : (pp - pc).toInt = pp.toInt - pc.toInt := Jvm.Kit.i32_sub (by omega) (by omega)
    have e5 : ((pp - pc) + nc).toInt = pp.toInt - pc.toInt + nc.toInt := by rw [Jvm.Kit.i32_add (by rw [e4]; omega) (by rw [e4]; omega), e4]
    have e6 : ((pp + nn) - ((pp - pc) + nc)).toInt = (pp.toInt + nn.toInt) - (pp.toInt - pc.toInt + nc.toInt) := by rw [Jvm.Kit.i32_sub (by rw [e3, e5]; omega) (by rw [e3, e5]; omega), e3, e5]
    have q1 : ((pc + nn) - nc) = ((pp + nn) - ((pp - pc) + nc)) := Int32.toInt_inj.mp (by rw [e2, e6]; omega)
    have go40 : Goes p e below s₁ (entryFrame m #[(.int p1), (.int p2), (.int p3), (.int p4)] maxLocals) T39 (mkF m 92 #[.val (.int p1), .val (.int p2), .val (.int p3), .val (.int p4), .val (.int pp), .val (.int nn), .val (.int pc), .val (.int nc), .val (.ref b35), .val (.int ((pc + nn) - nc)), .val (.int (pp + nn)), .val (.int ((pp - pc) + nc))] [(.int ((pp + nn) - ((pp - pc) + nc))), (.int ((pc + nn) - nc))]) := fun t k => go39 t (by
      show Steps p.tables e below (T39.setTop (mkF m 66 #[.val (.int p1), .val (.int p2), .val (.int p3), .val (.int p4), .val (.int pp), .val (.int nn), .val (.int pc), .val (.int nc), .val (.ref b35), .unset, .unset, .unset] [(.int ((pc + nn) - nc))])) _
      refine XS.istore X39.here hx rfl (hb hby at_66) rfl (l' := #[.val (.int p1), .val (.int p2), .val (.int p3), .val (.int p4), .val (.int pp), .val (.int nn), .val (.int pc), .val (.int nc), .val (.ref b35), .val (.int ((pc + nn) - nc)), .unset, .unset]) rfl ?_
      show Steps p.tables e below (T39.setTop (mkF m 68 #[.val (.int p1), .val (.int p2), .val (.int p3), .val (.int p4), .val (.int pp), .val (.int nn), .val (.int pc), .val (.int nc), .val (.ref b35), .val (.int ((pc + nn) - nc)), .unset, .unset] [])) _
      refine XS.iload X39.here hx rfl (hb hby at_68) rfl ?_
      show Steps p.tables e below (T39.setTop (mkF m 70 #[.val (.int p1), .val (.int p2), .val (.int p3), .val (.int p4), .val (.int pp), .val (.int nn), .val (.int pc), .val (.int nc), .val (.ref b35), .val (.int ((pc + nn) - nc)), .unset, .unset] [(.int pp)])) _
      refine XS.iload X39.here hx rfl (hb hby at_70) rfl ?_
      show Steps p.tables e below (T39.setTop (mkF m 72 #[.val (.int p1), .val (.int p2), .val (.int p3), .val (.int p4), .val (.int pp), .val (.int nn), .val (.int pc), .val (.int nc), .val (.ref b35), .val (.int ((pc + nn) - nc)), .unset, .unset] [(.int nn), (.int pp)])) _
      refine XS.iadd X39.here hx rfl (hb hby at_72) rfl ?_
      show Steps p.tables e below (T39.setTop (mkF m 73 #[.val (.int p1), .val (.int p2), .val (.int p3), .val (.int p4), .val (.int pp), .val (.int nn), .val (.int pc), .val (.int nc), .val (.ref b35), .val (.int ((pc + nn) - nc)), .unset, .unset] [(.int (pp + nn))])) _
      refine XS.istore X39.here hx rfl (hb hby at_73) rfl (l' := #[.val (.int p1), .val (.int p2), .val (.int p3), .val (.int p4), .val (.int pp), .val (.int nn), .val (.int pc), .val (.int nc), .val (.ref b35), .val (.int ((pc + nn) - nc)), .val (.int (pp + nn)), .unset]) rfl ?_
      show Steps p.tables e below (T39.setTop (mkF m 75 #[.val (.int p1), .val (.int p2), .val (.int p3), .val (.int p4), .val (.int pp), .val (.int nn), .val (.int pc), .val (.int nc), .val (.ref b35), .val (.int ((pc + nn) - nc)), .val (.int (pp + nn)), .unset] [])) _
      refine XS.iload X39.here hx rfl (hb hby at_75) rfl ?_
      show Steps p.tables e below (T39.setTop (mkF m 77 #[.val (.int p1), .val (.int p2), .val (.int p3), .val (.int p4), .val (.int pp), .val (.int nn), .val (.int pc), .val (.int nc), .val (.ref b35), .val (.int ((pc + nn) - nc)), .val (.int (pp + nn)), .unset] [(.int pp)])) _
      refine XS.iload X39.here hx rfl (hb hby at_77) rfl ?_
      show Steps p.tables e below (T39.setTop (mkF m 79 #[.val (.int p1), .val (.int p2), .val (.int p3), .val (.int p4), .val (.int pp), .val (.int nn), .val (.int pc), .val (.int nc), .val (.ref b35), .val (.int ((pc + nn) - nc)), .val (.int (pp + nn)), .unset] [(.int pc), (.int pp)])) _
      refine XS.isub X39.here hx rfl (hb hby at_79) rfl ?_
      show Steps p.tables e below (T39.setTop (mkF m 80 #[.val (.int p1), .val (.int p2), .val (.int p3), .val (.int p4), .val (.int pp), .val (.int nn), .val (.int pc), .val (.int nc), .val (.ref b35), .val (.int ((pc + nn) - nc)), .val (.int (pp + nn)), .unset] [(.int (pp - pc))])) _
      refine XS.iload X39.here hx rfl (hb hby at_80) rfl ?_
      show Steps p.tables e below (T39.setTop (mkF m 82 #[.val (.int p1), .val (.int p2), .val (.int p3), .val (.int p4), .val (.int pp), .val (.int nn), .val (.int pc), .val (.int nc), .val (.ref b35), .val (.int ((pc + nn) - nc)), .val (.int (pp + nn)), .unset] [(.int nc), (.int (pp - pc))])) _
      refine XS.iadd X39.here hx rfl (hb hby at_82) rfl ?_
      show Steps p.tables e below (T39.setTop (mkF m 83 #[.val (.int p1), .val (.int p2), .val (.int p3), .val (.int p4), .val (.int pp), .val (.int nn), .val (.int pc), .val (.int nc), .val (.ref b35), .val (.int ((pc + nn) - nc)), .val (.int (pp + nn)), .unset] [(.int ((pp - pc) + nc))])) _
      refine XS.istore X39.here hx rfl (hb hby at_83) rfl (l' := #[.val (.int p1), .val (.int p2), .val (.int p3), .val (.int p4), .val (.int pp), .val (.int nn), .val (.int pc), .val (.int nc), .val (.ref b35), .val (.int ((pc + nn) - nc)), .val (.int (pp + nn)), .val (.int ((pp - pc) + nc))]) rfl ?_
      show Steps p.tables e below (T39.setTop (mkF m 85 #[.val (.int p1), .val (.int p2), .val (.int p3), .val (.int p4), .val (.int pp), .val (.int nn), .val (.int pc), .val (.int nc), .val (.ref b35), .val (.int ((pc + nn) - nc)), .val (.int (pp + nn)), .val (.int ((pp - pc) + nc))] [])) _
      refine XS.iload X39.here hx rfl (hb hby at_85) rfl ?_
      show Steps p.tables e below (T39.setTop (mkF m 87 #[.val (.int p1), .val (.int p2), .val (.int p3), .val (.int p4), .val (.int pp), .val (.int nn), .val (.int pc), .val (.int nc), .val (.ref b35), .val (.int ((pc + nn) - nc)), .val (.int (pp + nn)), .val (.int ((pp - pc) + nc))] [(.int ((pc + nn) - nc))])) _
      refine XS.iload X39.here hx rfl (hb hby at_87) rfl ?_
      show Steps p.tables e below (T39.setTop (mkF m 89 #[.val (.int p1), .val (.int p2), .val (.int p3), .val (.int p4), .val (.int pp), .val (.int nn), .val (.int pc), .val (.int nc), .val (.ref b35), .val (.int ((pc + nn) - nc)), .val (.int (pp + nn)), .val (.int ((pp - pc) + nc))] [(.int (pp + nn)), (.int ((pc + nn) - nc))])) _
      refine XS.iload X39.here hx rfl (hb hby at_89) rfl ?_
      show Steps p.tables e below (T39.setTop (mkF m 91 #[.val (.int p1), .val (.int p2), .val (.int p3), .val (.int p4), .val (.int pp), .val (.int nn), .val (.int pc), .val (.int nc), .val (.ref b35), .val (.int ((pc + nn) - nc)), .val (.int (pp + nn)), .val (.int ((pp - pc) + nc))] [(.int ((pp - pc) + nc)), (.int (pp + nn)), (.int ((pc + nn) - nc))])) _
      refine XS.isub X39.here hx rfl (hb hby at_91) rfl ?_
      exact k)
    have go41 : Goes p e below s₁ (entryFrame m #[(.int p1), (.int p2), (.int p3), (.int p4)] maxLocals) T39 (mkF m 97 #[.val (.int p1), .val (.int p2), .val (.int p3), .val (.int p4), .val (.int pp), .val (.int nn), .val (.int pc), .val (.int nc), .val (.ref b35), .val (.int ((pc + nn) - nc)), .val (.int (pp + nn)), .val (.int ((pp - pc) + nc))] [(.int ((pc + nn) - nc))]) := fun t k => go40 t (by
      show Steps p.tables e below (T39.setTop (mkF m 92 #[.val (.int p1), .val (.int p2), .val (.int p3), .val (.int p4), .val (.int pp), .val (.int nn), .val (.int pc), .val (.int nc), .val (.ref b35), .val (.int ((pc + nn) - nc)), .val (.int (pp + nn)), .val (.int ((pp - pc) + nc))] [(.int ((pp + nn) - ((pp - pc) + nc))), (.int ((pc + nn) - nc))])) _
      refine XS.icmpNo X39.here hx rfl (hb hby at_92) rfl (teq q1).2 ?_
      show Steps p.tables e below (T39.setTop (mkF m 95 #[.val (.int p1), .val (.int p2), .val (.int p3), .val (.int p4), .val (.int pp), .val (.int nn), .val (.int pc), .val (.int nc), .val (.ref b35), .val (.int ((pc + nn) - nc)), .val (.int (pp + nn)), .val (.int ((pp - pc) + nc))] [])) _
      refine XS.iload X39.here hx rfl (hb hby at_95) rfl ?_
      exact k)
    have go42 : Goes p e below s₁ (entryFrame m #[(.int p1), (.int p2), (.int p3), (.int p4)] maxLocals) T39 (mkF m 104 #[.val (.int p1), .val (.int p2), .val (.int p3), .val (.int p4), .val (.int pp), .val (.int nn), .val (.int pc), .val (.int nc), .val (.ref b35), .val (.int ((pc + nn) - nc)), .val (.int (pp + nn)), .val (.int ((pp - pc) + nc))] [(.int (pp + nn)), (.int ((pc + nn) - nc))]) := fun t k => go41 t (by
      show Steps p.tables e below (T39.setTop (mkF m 97 #[.val (.int p1), .val (.int p2), .val (.int p3), .val (.int p4), .val (.int pp), .val (.int nn), .val (.int pc), .val (.int nc), .val (.ref b35), .val (.int ((pc + nn) - nc)), .val (.int (pp + nn)), .val (.int ((pp - pc) + nc))] [(.int ((pc + nn) - nc))])) _
      refine XS.ifNo X39.here hx rfl (hb hby at_97) rfl ((if0 _ _).trans (flt (own_ge (by rw [e2]; omega))).1) ?_
      show Steps p.tables e below (T39.setTop (mkF m 100 #[.val (.int p1), .val (.int p2), .val (.int p3), .val (.int p4), .val (.int pp), .val (.int nn), .val (.int pc), .val (.int nc), .val (.ref b35), .val (.int ((pc + nn) - nc)), .val (.int (pp + nn)), .val (.int ((pp - pc) + nc))] [])) _
      refine XS.iload X39.here hx rfl (hb hby at_100) rfl ?_
      show Steps p.tables e below (T39.setTop (mkF m 102 #[.val (.int p1), .val (.int p2), .val (.int p3), .val (.int p4), .val (.int pp), .val (.int nn), .val (.int pc), .val (.int nc), .val (.ref b35), .val (.int ((pc + nn) - nc)), .val (.int (pp + nn)), .val (.int ((pp - pc) + nc))] [(.int ((pc + nn) - nc))])) _
      refine XS.iload X39.here hx rfl (hb hby at_102) rfl ?_
      exact k)
    have go43 : Goes p e below s₁ (entryFrame m #[(.int p1), (.int p2), (.int p3), (.int p4)] maxLocals) T39 (mkF m 112 #[.val (.int p1), .val (.int p2), .val (.int p3), .val (.int p4), .val (.int pp), .val (.int nn), .val (.int pc), .val (.int nc), .val (.ref b35), .val (.int ((pc + nn) - nc)), .val (.int (pp + nn)), .val (.int ((pp - pc) + nc))] [(.int (1 : Int32))]) := fun t k => go42 t (by
      show Steps p.tables e below (T39.setTop (mkF m 104 #[.val (.int p1), .val (.int p2), .val (.int p3), .val (.int p4), .val (.int pp), .val (.int nn), .val (.int pc), .val (.int nc), .val (.ref b35), .val (.int ((pc + nn) - nc)), .val (.int (pp + nn)), .val (.int ((pp - pc) + nc))] [(.int (pp + nn)), (.int ((pc + nn) - nc))])) _
      refine XS.icmpNo X39.here hx rfl (hb hby at_104) rfl (flt (own_nlt (by rw [e2, e3]; omega))).2.2.1 ?_
      show Steps p.tables e below (T39.setTop (mkF m 107 #[.val (.int p1), .val (.int p2), .val (.int p3), .val (.int p4), .val (.int pp), .val (.int nn), .val (.int pc), .val (.int nc), .val (.ref b35), .val (.int ((pc + nn) - nc)), .val (.int (pp + nn)), .val (.int ((pp - pc) + nc))] [])) _
      refine XS.iconst X39.here hx rfl (hb hby at_107) ?_
      show Steps p.tables e below (T39.setTop (mkF m 108 #[.val (.int p1), .val (.int p2), .val (.int p3), .val (.int p4), .val (.int pp), .val (.int nn), .val (.int pc), .val (.int nc), .val (.ref b35), .val (.int ((pc + nn) - nc)), .val (.int (pp + nn)), .val (.int ((pp - pc) + nc))] [(.int (1 : Int32))])) _
      refine XS.goto X39.here hx rfl (pc0 := 108) (pc' := 112) rfl (hb hby at_108) (by decide) (by decide) ?_
      exact k)
    obtain ⟨fs, hr, hrun, hended, hW, hsame⟩ := X39.leave (v := some (.int (1 : Int32))) (fun h => by rw [Bd.returns] at h; cases h)
    refine ⟨_, _, go43 _ ?_, hrun, hended, _, _, rfl, ?_, ⟨_, rfl⟩, hW, hsame.mono (by decide) (by decide)⟩
    · exact retN X39 hx (t := .boolean) Bd.returns (by simp) (hb hby at_112) hr
    · show Q_rm0 Z p1 p2 p3 p4 h0 n0 _ T39.heap _
      rw [eq39]
      exact ⟨rfl, N39⟩
set_option maxRecDepth 65536 in
set_option maxHeartbeats 40000000 in
theorem comes_1 {Post : Tables → Env → Array Value → State → Outcome → State → Prop} (hpost : ∀ tb e args s v u, (limb_1_1.after args s (.returned v) u = true ∧ limb_1_2.after args s (.returned v) u = true ∧ True) → FrameEnd s (.returned v) u (Jvm.fieldLocs frame_1_writes args s ++ Jvm.arrayLocs frame_1_arrays args s ++ Jvm.staticLocs frame_1_statics s) 16 128 → Post tb e args s (.returned v) u) :
    ArmFor flags0 classFile x code maxLocals ret World_1 tables_1 room_1 Calls_1 rest_1 Pre_1 Post := by
  intro l hfl _ _ p e ha hc hk s m args below hf hA hF happ hP
  obtain ⟨hcalls, hrest, hpre⟩ := hP
  obtain ⟨-, -, -, hnamed, -, -, -, hat⟩ := (Spec.applies_iff hf).mp happ
  obtain ⟨hg, hn⟩ := and_e (Cond.before_iff.mp (show (Jvm.Cond.and given_1 narrow_1).before args s = true from hpre))
  obtain ⟨g0, hg0⟩ := and_e hg
  obtain ⟨g1, hg1⟩ := and_e hg0
  obtain ⟨g2, hg2⟩ := and_e hg1
  obtain ⟨g3, hg3⟩ := and_e hg2
  obtain ⟨w0, w1, w2, w3, rfl⟩ : ∃ w0 w1 w2 w3 : Value, args = #[w0, w1, w2, w3] := by
    have hs : args.size = 4 := by simpa [Cond.value, given_1] using g0
    obtain ⟨L⟩ := args
    match L, hs with
    | [w0, w1, w2, w3], _ => exact ⟨w0, w1, w2, w3, rfl⟩
  have hw := fun d (hd : d ∈ tables_1) => atoms_spec (ws := Jvm.Cond.code x code maxLocals ret :: tables_1) hat d (List.mem_cons_of_mem _ hd)
  have hfit : Fit s := fun {y c} hc i hi => by
    obtain ⟨ha, rfl⟩ := Array.getElem?_eq_some_iff.mp hc
    have q := List.all_eq_true.mp ((Array.all_eq_true_iff_forall_mem.mp hF) _ (Array.getElem_mem ha)) i (List.mem_range.mpr hi)
    simpa [Array.getElem?_eq_getElem hi] using q
  obtain ⟨i0, ei0⟩ := is_v g1
  obtain rfl : w0 = (.int i0) := Option.some.inj ei0
  obtain ⟨i1, ei1⟩ := is_v g2
  obtain rfl : w1 = (.int i1) := Option.some.inj ei1
  obtain ⟨i2, ei2⟩ := is_v g3
  obtain rfl : w2 = (.int i2) := Option.some.inj ei2
  obtain ⟨i3, ei3⟩ := is_v hg3
  obtain rfl : w3 = (.int i3) := Option.some.inj ei3
  obtain ⟨n, o, h1, h2, h3, _, L, rfl, ⟨rfl, N⟩, hq⟩ := rm0 l s _ hw tables_1 i0 i1 i2 i3  s.heap s.heap.size (Nat.le_refl _)  p e ha hc hk s m _ below hf ((Spec.applies_iff_loose hf).mp happ).1 ⟨rfl, State.Warmed39.refl s, rfl⟩ trivial
  refine ⟨n, _, h1, h2, h3, hpost _ _ _ _ _ _ ⟨Cond.after_iff.mpr rfl, Cond.after_iff.mpr (eq_i res_at (Term.int_eval (1)) rfl), trivial⟩ ⟨hq.1, hq.2.1, (hq.2.2.sift fun y hy => Or.inr (N y hy)).mono (by decide) (by decide)⟩⟩
theorem main_1_1 : Claimed_1_1 := comes_1 fun _ _ _ _ _ _ h hF => ⟨h.1, hF⟩
theorem main_1_2 : Claimed_1_2 := comes_1 fun _ _ _ _ _ _ h hF => ⟨h.2.1, hF⟩
end Jvm.Pilot.@@N@@
namespace Jvm.Pilot.@@N@@
open Jvm Jvm.ClassFile Sem Op Lib Jvm.Free Jvm.Stand Jvm.Pilot.@@N@@.Jvm.D
/-! MADE BY PROGRAM (witnessworld.py) out of the Statement's table words and the real class files: 7 classes; the members and pool entries that the words name. The judged class is class 1, her method 1. -/
namespace start1
open Jvm.ClassFile
def u (s : String) : CpInfo := .utf8 (stringToUtf16 s)
/-- a pool by its gaps: so many unusable entries, then the entry; so many at the end -/
def gap : Nat → List CpInfo → List CpInfo
  | 0, r => r
  | n + 1, r => .unusable :: gap n r
def poolList (es : List (Nat × CpInfo)) (last : Nat) : List CpInfo := es.foldr (fun e r => gap e.1 (e.2 :: r)) (gap last [])
def pool (es : List (Nat × CpInfo)) (last : Nat) : Array CpInfo := ⟨poolList es last⟩
def fileOf (pool : Array CpInfo) (this : Nat) (attrs : Array Attribute := #[]) (ms : Array MethodInfo := #[]) (fl : Nat := 33) (sup : Nat := 0) (ifs : Array Nat := #[]) (fds : Array FieldInfo := #[]) : ClassFile where
  minorVersion := 0
  majorVersion := 65
  constantPool := pool
  accessFlags := fl
  thisClass := this
  superClass := sup
  interfaces := ifs
  fields := fds
  methods := ms
  attributes := attrs
def plain (name : String) (sup : Option ClassId) : Class where
  name := name
  kind := .ordinary
  loader := none
  accessFlags := 33
  super := sup
  interfaces := #[]
  cf := none
  fields := #[]
  methods := #[]
  instanceTypes := #[]
  staticTypes := #[]
  resolved := #[]
  callSites := []
  init := .initialized
  statics := none
  mirror := none

def pool0 : Array CpInfo := pool [(5, u "<init>"), (0, u "()V"), (1, .class_ 10), (1, u "java/lang/Object")] 113

def k0c0 : Code := { maxStack := 0, maxLocals := 1, code := object_method_1_code, exceptionTable := #[], attributes := #[] }
def k0m0 : Method := { name := "<init>", desc := "()V", sig := { parameters := [], returnType := none }, accessFlags := 1, code := some k0c0 }
/-- java/lang/Object -/
def k0 : Class := { plain "java/lang/Object" none with
  accessFlags := 33
  interfaces := #[]
  cf := some (fileOf pool0 8 #[] #[{ accessFlags := 1, nameIndex := 5, descriptorIndex := 6, attributes := #[] }] 33 0 #[] #[])
  fields := #[]
  methods := #[k0m0]
  instanceTypes := #[]
  staticTypes := #[]
  resolved := Array.replicate 124 none
  statics := none }

def pool1 : Array CpInfo := pool [(2, .class_ 4), (1, u "java/lang/Object"), (0, u "<init>"), (0, u "()V"), (0, .integer 1073741823), (0, .integer 2147483647), (0, .class_ 10), (0, u "com/example/nuthatch/nuthatch/model/Score"), (0, .methodref 9 12), (0, .nameAndType 5 13), (0, u "(IIII)V"), (0, .methodref 9 15), (0, .nameAndType 16 17), (0, u "right"), (0, u "()I"), (0, .class_ 19), (0, u "com/example/nuthatch/nuthatch/model/ScoreRightPinLaw"), (2, u "law"), (0, u "(IIII)Z")] 3

def k1m0 : Method := { name := "<init>", desc := "()V", sig := { parameters := [], returnType := none }, accessFlags := 1, code := none }
def k1c1 : Code := { maxStack := 6, maxLocals := 12, code := code, exceptionTable := #[], attributes := #[] }
def k1m1 : Method := { name := "law", desc := "(IIII)Z", sig := { parameters := [.int, .int, .int, .int], returnType := some .boolean }, accessFlags := 9, code := some k1c1 }
/-- com/example/nuthatch/nuthatch/model/ScoreRightPinLaw -/
def k1 : Class := { plain "com/example/nuthatch/nuthatch/model/ScoreRightPinLaw" (some 0) with
  accessFlags := 49
  interfaces := #[]
  cf := some (fileOf pool1 18 #[] #[{ accessFlags := 1, nameIndex := 5, descriptorIndex := 6, attributes := #[] }, { accessFlags := 9, nameIndex := 22, descriptorIndex := 23, attributes := #[] }] 49 2 #[] #[])
  fields := #[]
  methods := #[k1m0, k1m1]
  instanceTypes := #[]
  staticTypes := #[]
  resolved := Array.replicate 27 none
  statics := none }

def pool2 : Array CpInfo := pool [(1, .methodref 2 3), (0, .class_ 4), (0, .nameAndType 5 6), (0, u "java/lang/Object"), (0, u "<init>"), (0, u "()V"), (9, .fieldref 17 18), (0, .class_ 19), (0, .nameAndType 20 21), (0, u "com/example/nuthatch/nuthatch/model/Score"), (0, u "positivesCovered"), (0, u "I"), (0, .fieldref 17 23), (0, .nameAndType 24 21), (0, u "positives"), (0, .fieldref 17 26), (0, .nameAndType 27 21), (0, u "negativesCovered"), (0, .fieldref 17 29), (0, .nameAndType 30 21), (0, u "negatives"), (2, u "right"), (0, u "()I"), (16, u "ACCURACY_DECIMALS"), (2, u "(IIII)V")] 22

def k2c0 : Code := { maxStack := 6, maxLocals := 5, code := prog_5_method_1_code, exceptionTable := #[], attributes := #[] }
def k2m0 : Method := { name := "<init>", desc := "(IIII)V", sig := { parameters := [.int, .int, .int, .int], returnType := none }, accessFlags := 1, code := some k2c0 }
def k2c1 : Code := { maxStack := 2, maxLocals := 1, code := prog_5_method_6_code, exceptionTable := #[], attributes := #[] }
def k2m1 : Method := { name := "right", desc := "()I", sig := { parameters := [], returnType := some .int }, accessFlags := 1, code := some k2c1 }
/-- com/example/nuthatch/nuthatch/model/Score -/
def k2 : Class := { plain "com/example/nuthatch/nuthatch/model/Score" (some 0) with
  accessFlags := 49
  interfaces := #[]
  cf := some (fileOf pool2 17 #[] #[{ accessFlags := 1, nameIndex := 5, descriptorIndex := 54, attributes := #[] }, { accessFlags := 1, nameIndex := 33, descriptorIndex := 34, attributes := #[] }] 49 2 #[] #[{ accessFlags := 26, nameIndex := 51, descriptorIndex := 21, attributes := #[] }, { accessFlags := 18, nameIndex := 20, descriptorIndex := 21, attributes := #[] }, { accessFlags := 18, nameIndex := 24, descriptorIndex := 21, attributes := #[] }, { accessFlags := 18, nameIndex := 27, descriptorIndex := 21, attributes := #[] }, { accessFlags := 18, nameIndex := 30, descriptorIndex := 21, attributes := #[] }])
  fields := #[{ name := "ACCURACY_DECIMALS", type := .int, accessFlags := 26, slot := 0, constantValue := 0 }, { name := "positivesCovered", type := .int, accessFlags := 18, slot := 0, constantValue := 0 }, { name := "positives", type := .int, accessFlags := 18, slot := 1, constantValue := 0 }, { name := "negativesCovered", type := .int, accessFlags := 18, slot := 2, constantValue := 0 }, { name := "negatives", type := .int, accessFlags := 18, slot := 3, constantValue := 0 }]
  methods := #[k2m0, k2m1]
  instanceTypes := #[.int, .int, .int, .int]
  staticTypes := #[.int]
  resolved := Array.replicate 77 none
  statics := none }

def pool3 : Array CpInfo := pool [(1, u "java/lang/Cloneable"), (0, .class_ 1), (0, u "java/lang/Object"), (0, .class_ 3)] 3

/-- java/lang/Cloneable -/
def k3 : Class := { plain "java/lang/Cloneable" (some 0) with
  accessFlags := 1537
  interfaces := #[]
  cf := some (fileOf pool3 2 #[] #[] 1537 4 #[] #[])
  fields := #[]
  methods := #[]
  instanceTypes := #[]
  staticTypes := #[]
  resolved := Array.replicate 8 none
  statics := none }

def pool4 : Array CpInfo := pool [(1, u "java/io/Serializable"), (0, .class_ 1), (0, u "java/lang/Object"), (0, .class_ 3)] 3

/-- java/io/Serializable -/
def k4 : Class := { plain "java/io/Serializable" (some 0) with
  accessFlags := 1537
  interfaces := #[]
  cf := some (fileOf pool4 2 #[] #[] 1537 4 #[] #[])
  fields := #[]
  methods := #[]
  instanceTypes := #[]
  staticTypes := #[]
  resolved := Array.replicate 8 none
  statics := none }

/-- the primitive byte -/
def k5 : Class := { plain "byte" none with kind := .primitive 'B', accessFlags := 0x411 }
/-- [B -/
def k6 : Class := { plain "[B" (some 0) with kind := .array 5 .byte, interfaces := #[3, 4], accessFlags := 1041 }

def heap : Heap := #[]
def classes : Array Class := #[k0, k1, k2, k3, k4, k5, k6]
def interned : List (Array UInt16 × Addr) := []
def slotsUsed : Nat := 0
def theMethod : MethodId := ⟨1, 1⟩
def args0 : Array Value := #[.int 7, .int 3, .int 5, .int 2]
def aboutOver (below : List Frame) : State where
  vm := { classes := classes, interned := interned.toArray }
  heap := heap
  slotsUsed := slotsUsed
  threads := #[{ frames := .invoking theMethod args0 :: below }]
def below0 : List Frame := [.native { method := ⟨0, 0⟩, args := #[] }]
def about1 : State := aboutOver below0
def p0 : Program := .bare "" "" ""
def e0 : Env := launch0.env 0 0 0
theorem w_frames : about1.frames = Frame.invoking theMethod args0 :: below0 := rfl
set_option maxRecDepth 65536 in
theorem w_args : argsFit about1.vm theMethod args0 = true := by decide +kernel
set_option maxRecDepth 65536 in
theorem w_heap : heapFits about1 = true := by decide +kernel
set_option maxRecDepth 65536 in
theorem w_runnable : about1.curStatus? = some .runnable := by decide +kernel
set_option maxRecDepth 65536 in
theorem w_alone : about1.alone = true := by decide +kernel
set_option maxRecDepth 65536 in
theorem w_named : about1.methodNamed? x = some theMethod := by decide +kernel
set_option maxRecDepth 65536 in
theorem w_hears : about1.hears theMethod below0 = true := by decide +kernel
set_option maxRecDepth 65536 in
theorem w_ripe : about1.ripe theMethod args0 below0 = true := by decide +kernel
theorem w_running : about1.status = .running := rfl
set_option maxRecDepth 65536 in
theorem w_room : about1.hasRoom e0.platform room_1 = true :=
  launch0.hasRoom_least _ room_1 (by decide +kernel) (by decide +kernel) (by decide +kernel) (by decide +kernel) (by decide +kernel) (by decide +kernel)
theorem allAtoms_all (ts : List Jvm.Cond) (a : Array Jvm.Value) (st : Jvm.State) : (allAtoms ts).before a st = ts.all (fun c => c.before a st) := by
  induction ts with
  | nil => rfl
  | cons c t ih =>
    show (Jvm.Cond.and c (allAtoms t)).before a st = _
    rw [Jvm.Cond.before_and, ih, List.all_cons]
def words1 : List Jvm.Cond := Jvm.Cond.code x code maxLocals ret :: tables_1
/-- a 'code' word, met by the world's own term for the bytes: nothing is compared byte by byte -/
theorem code_word {y : MethodName} {bytes : ByteArray} {mx : Nat} {rt : Option FieldType} {a : Array Value} {s : State} {m : MethodId} {meth : Method} {c : Code} (h1 : s.methodNamed? y = some m) (h2 : s.vm.method? m = some meth) (h3 : meth.code = some c) (h4 : c.code = bytes)
    (h5 : (c.maxLocals == mx && c.exceptionTable.isEmpty && decide (c.maxStack ≤ mostOperands) && decide (meth.sig.returnType = rt) && !meth.locks && decide (parseMethodDescriptor y.desc = some meth.sig)) = true) : (Jvm.Cond.code y bytes mx rt).before a s = true := by
  simp only [Bool.and_eq_true, beq_iff_eq, Bool.not_eq_true', decide_eq_true_eq] at h5
  obtain ⟨⟨⟨⟨⟨g1, g2⟩, g3⟩, g4⟩, g5⟩, g6⟩ := h5
  simp [Cond.before, Cond.holds, Cond.value, h1, h2, h3, h4, g1, g2, g3, g4, g5, g6]
def isCode : Jvm.Cond → Bool
  | .code _ _ _ _ => true
  | _ => false
theorem all_split {L : List Jvm.Cond} {P : Jvm.Cond → Bool} (h1 : L.all (fun c => isCode c || P c) = true) (h2 : ∀ c ∈ L.filter isCode, P c = true) : L.all P = true := by
  refine List.all_eq_true.mpr fun c hc => ?_
  have h := List.all_eq_true.mp h1 c hc
  rcases Bool.eq_false_or_eq_true (isCode c) with hi | hi
  · exact h2 c (List.mem_filter.mpr ⟨hc, hi⟩)
  · simpa [hi] using h
set_option maxRecDepth 65536 in
theorem w_c0 : (Jvm.Cond.code x code maxLocals ret).before args0 about1 = true := code_word (m := ⟨1, 1⟩) (meth := k1m1) (c := k1c1) (by decide +kernel) rfl rfl rfl (by decide +kernel)
set_option maxRecDepth 65536 in
theorem w_c1 : (Jvm.Cond.code ({ cls := "com/example/nuthatch/nuthatch/model/Score", name := "<init>", desc := "(IIII)V" } : Jvm.MethodName) prog_5_method_1_code (5 : Nat) (Option.none : Option Jvm.ClassFile.FieldType)).before args0 about1 = true := code_word (m := ⟨2, 0⟩) (meth := k2m0) (c := k2c0) (by decide +kernel) rfl rfl rfl (by decide +kernel)
set_option maxRecDepth 65536 in
theorem w_c2 : (Jvm.Cond.code ({ cls := "java/lang/Object", name := "<init>", desc := "()V" } : Jvm.MethodName) object_method_1_code (1 : Nat) (Option.none : Option Jvm.ClassFile.FieldType)).before args0 about1 = true := code_word (m := ⟨0, 0⟩) (meth := k0m0) (c := k0c0) (by decide +kernel) rfl rfl rfl (by decide +kernel)
set_option maxRecDepth 65536 in
theorem w_c3 : (Jvm.Cond.code ({ cls := "com/example/nuthatch/nuthatch/model/Score", name := "right", desc := "()I" } : Jvm.MethodName) prog_5_method_6_code (1 : Nat) (Option.some Jvm.ClassFile.FieldType.int)).before args0 about1 = true := code_word (m := ⟨2, 1⟩) (meth := k2m1) (c := k2c1) (by decide +kernel) rfl rfl rfl (by decide +kernel)
def codes1 : List Jvm.Cond := [Jvm.Cond.code x code maxLocals ret, Jvm.Cond.code ({ cls := "com/example/nuthatch/nuthatch/model/Score", name := "<init>", desc := "(IIII)V" } : Jvm.MethodName) prog_5_method_1_code (5 : Nat) (Option.none : Option Jvm.ClassFile.FieldType), Jvm.Cond.code ({ cls := "java/lang/Object", name := "<init>", desc := "()V" } : Jvm.MethodName) object_method_1_code (1 : Nat) (Option.none : Option Jvm.ClassFile.FieldType), Jvm.Cond.code ({ cls := "com/example/nuthatch/nuthatch/model/Score", name := "right", desc := "()I" } : Jvm.MethodName) prog_5_method_6_code (1 : Nat) (Option.some Jvm.ClassFile.FieldType.int)]
set_option maxRecDepth 65536 in
theorem codes_eq : words1.filter isCode = codes1 := rfl
theorem w_codes : ∀ c ∈ words1.filter isCode, c.before args0 about1 = true := by
  rw [codes_eq]
  intro c hc
  simp only [codes1, List.mem_cons, List.not_mem_nil, or_false] at hc
  rcases hc with rfl | rfl | rfl | rfl
  · exact w_c0
  · exact w_c1
  · exact w_c2
  · exact w_c3
set_option maxRecDepth 65536 in
theorem w_t1 : (words1.take 24).all (fun c => isCode c || c.before args0 about1) = true := by decide +kernel
set_option maxRecDepth 65536 in
theorem w_t2 : (words1.drop 24).all (fun c => isCode c || c.before args0 about1) = true := by decide +kernel
theorem w_tables : (allAtoms (Jvm.Cond.code x code maxLocals ret :: tables_1)).before args0 about1 = true := by
  rw [allAtoms_all]
  show words1.all (fun c => c.before args0 about1) = true
  refine all_split ?_ w_codes
  rw [← List.take_append_drop 24 words1, List.all_append, w_t1, w_t2]
  rfl
set_option maxRecDepth 65536 in
theorem w_case : (Jvm.Cond.and given_1 narrow_1).before args0 about1 = true := by decide +kernel
theorem w_applies : (headSpec (Jvm.Cond.code x code maxLocals ret :: tables_1) room_1).applies x e0.platform about1 = true :=
  (Spec.applies_iff w_frames).mpr ⟨w_running, w_runnable, w_alone, w_named, w_hears, w_ripe, w_room, w_tables⟩
theorem atStart : AtStart classFile x code maxLocals ret World_1 tables_1 room_1 Calls_1 rest_1 Pre_1 launch0 p0 e0 about1 theMethod args0 below0 :=
  ⟨lists_1, trivial, launch0.admits_env _ _ _, launch0.least_env, fairChoices_fair.cas, fairChoices_fair.clock, w_frames, w_args, w_heap, w_applies, trivial, trivial, w_case⟩
end start1
theorem witness_1 : WitnessClaimed_1 := ⟨start1.p0, start1.e0, start1.about1, start1.theMethod, start1.args0, start1.below0, start1.atStart⟩
end Jvm.Pilot.@@N@@
