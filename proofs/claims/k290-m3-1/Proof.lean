import JvmDerived
import JvmDerived.Pilot.@@N@@Statement
import JvmDerived.Pilot.@@N@@Code
set_option linter.unusedVariables false
set_option linter.unusedSimpArgs false
namespace Jvm.RoadKit
open Sem ClassFile Op Lib Jvm.Stand Jvm.Free Jvm.LawKit
section New
variable {p : Program} {l : Launch} {e : Env} {R : Room} {s : State} {m : MethodId} {args : Array Value} {below : List Frame} {meth : Method} {c : Code} {T : State} {locs : List Loc} {cells slots : Nat}
theorem retI (X : Stand p l e R s m args below meth c T locs cells slots) (hx : p.tables.exec = Jvm.exec) {pc : Nat} {Ls : Array Slot} {z : Int32} {rest : List Value} (hret : meth.sig.returnType = some .int) (hd : decode c.code pc = .ok (.ireturn, 1)) {fs : List Frame}
    (hl : ∀ (f : JFrame) (acts : List Action), f.method = m → f.locked = none → f.entered = [] → (doReturn e (T.setTop f) acts (some (.int z))).1 = T.setFrames fs) : Steps p.tables e below (T.setTop (mkF m pc Ls (.int z :: rest))) (T.setFrames fs) := by
  have hm' : T.vm.method? m = some meth := X.method'
  have hn : narrow .int (.int z) = .int z := rfl
  show Steps p.tables e below (T.setTop { method := m, pc := pc, locals := Ls, stack := _ :: rest, locked := none }) _
  jvm_step X.here [X.here.top, hx, hd, hm', hret, hn]
  first | (intro acts; rw [hl _ acts rfl rfl rfl]) | rw [hl _ _ rfl rfl rfl]
  exact Steps.refl _
end New
end Jvm.RoadKit
namespace Jvm.Pilot.@@N@@
open Jvm Jvm.ClassFile Sem Op Lib Jvm.Free Jvm.Stand Jvm.LawKit Jvm.RoadKit Bundle Jvm.Pilot.@@N@@.Jvm.D
theorem own_lclt {x y : Int64} (h : x < y) : lcmpW x y < 0 := by rw [lcW]; exact (lc_lt x y).2 h
theorem own_lcge {x y : Int64} (h : ¬ x < y) : ¬ (lcmpW x y < 0) := by rw [lcW]; exact fun k => h ((lc_lt x y).1 k)
theorem own_lcgt {x y : Int64} (h : y < x) : 0 < lcmpW x y := by rw [lcW]; exact (lc_gt x y).2 h
theorem own_lcle {x y : Int64} (h : ¬ y < x) : ¬ (0 < lcmpW x y) := by rw [lcW]; exact fun k => h ((lc_gt x y).1 k)
theorem own_lceq {x y : Int64} (h : x = y) : lcmpW x y = 0 := by rw [lcW]; exact (lc_eq x y).2 h
theorem own_lcne {x y : Int64} (h : ¬ (x = y)) : ¬ (lcmpW x y = 0) := by rw [lcW]; exact fun k => h ((lc_eq x y).1 k)
theorem d9_0 : decode object_method_4_code 0 = .ok (.aload_n 0, 1) := by decide +kernel
theorem d9_1 : decode object_method_4_code 1 = .ok (.aload_n 1, 1) := by decide +kernel
theorem d9_2 : decode object_method_4_code 2 = .ok (.if_acmp .ne 7, 3) := by decide +kernel
theorem d9_5 : decode object_method_4_code 5 = .ok (.iconst 1, 1) := by decide +kernel
theorem d9_6 : decode object_method_4_code 6 = .ok (.goto 4, 3) := by decide +kernel
theorem d9_10 : decode object_method_4_code 10 = .ok (.ireturn, 1) := by decide +kernel
theorem own_oeplain : plainFor (⟨"java/lang/Object", "equals", "(Ljava/lang/Object;)Z"⟩ : MethodName) = true := by decide +kernel
set_option maxRecDepth 65536 in
set_option maxHeartbeats 4000000 in
theorem own_objEq {p : Program} {l : Launch} {e : Env} {R : Room} {s : State} {sargs : Array Value} {below : List Frame} {W : Nat} {Z : State} {a0 : Array Value} {h : Heap} (x : Addr) (n0 : Nat) (hx : p.tables.exec = Jvm.exec) (hZ : Z.Warmed39 s.vm) (wc : (Jvm.Cond.code (⟨"java/lang/Object", "equals", "(Ljava/lang/Object;)Z"⟩ : MethodName) object_method_4_code 2 (some .boolean)).before a0 Z = true) (hf : 1 ≤ R.frames) (hl : W + 13 ≤ R.locals) :
    Back l R p e below s sargs (⟨"java/lang/Object", "equals", "(Ljava/lang/Object;)Z"⟩ : MethodName) 3 W (fun A a => a = #[.ref x, .ref x] ∧ A.U.heap = h ∧ A.cells + 0 ≤ R.cells ∧ A.slots + 0 ≤ R.slots)
      (fun A _ v B => ∃ L, (v = some (.int (1 : Int32)) ∧ Fr n0 L ∧ B.U.heap = h) ∧ B.locs = A.locs ++ L ∧ B.cells = A.cells + 0 ∧ B.slots = A.slots + 0) := by
  intro m meth c A g ig mk a X hg hsize hdg hW hn hp
  obtain ⟨rfl, hh, hc1, hs1⟩ := hp
  have hU : Z.Warmed39 A.U.vm := wtrans hZ X.warmed
  obtain ⟨mY, cY, hmY, hcY, hbY, hlY, hrY, hlkY, -⟩ := Cond.code_spec (args := #[]) hn (mv hU wc)
  have hpl : A.U.plainMethod mk := State.plainMethod.of_named (s := A.U) own_oeplain hn hmY
  obtain ⟨Y0, hin⟩ := X.into hg hsize hdg #[.ref x, .ref x] (R' := ({ frames := 0, cells := 0, slots := 0, locals := 0 } : Room)) hmY hcY hlkY hpl (by show 0 + 1 ≤ _; omega) (by rw [hlY]; show _ + (2 + 11) + 0 ≤ _; omega) hc1 hs1
  obtain ⟨fs, hr, hrun, hended, hWr, hsame⟩ := Y0.leave (v := some (.int (1 : Int32))) (fun h => by rw [hrY] at h; cases h) hlkY
  obtain ⟨T', X', hW', hsm, ht⟩ := X.outOf hg hdg hended hWr hsame
  refine ⟨some (.int (1 : Int32)), ⟨T', A.locs ++ [], A.cells + 0, A.slots + 0⟩, X', ⟨[], ⟨rfl, Fr.nil _, ?_⟩, rfl, rfl, rfl⟩, ?_⟩
  · have q := congrArg State.heap ht
    show T'.heap = h
    rw [← hh]; exact q.symm
  · rw [hin [], ← ht]
    refine Steps.weaken (mid := [.java g]) ?_
    have hloc : entryFrame mk #[.ref x, .ref x] cY.maxLocals = mkF mk 0 #[.val (.ref x), .val (.ref x)] [] := by rw [hlY]; rfl
    refine castTop hloc ?_
    refine XS.aloadN Y0.here hx rfl (hb hbY d9_0) rfl rfl ?_
    refine XS.aloadN Y0.here hx rfl (hb hbY d9_1) rfl rfl ?_
    refine Jvm.RoadKit.acmp (g := mkF mk 2 #[.val (.ref x), .val (.ref x)] [.ref x, .ref x]) Y0 hx rfl rfl rfl (pc0 := 2) (pc' := 5) (same := true) rfl (hb hbY d9_2) rfl (decide_eq_true rfl) (by decide) (by decide) ?_
    show Steps p.tables e _ (State.setTop _ (mkF mk 5 #[.val (.ref x), .val (.ref x)] [])) _
    refine XS.iconst Y0.here hx rfl (hb hbY d9_5) ?_
    show Steps p.tables e _ (State.setTop _ (mkF mk 6 #[.val (.ref x), .val (.ref x)] [(.int (1 : Int32))])) _
    refine XS.goto Y0.here hx rfl (pc0 := 6) (pc' := 10) rfl (hb hbY d9_6) (by decide) (by decide) ?_
    show Steps p.tables e _ (State.setTop _ (mkF mk 10 #[.val (.ref x), .val (.ref x)] [(.int (1 : Int32))])) _
    exact retN Y0 hx (t := .boolean) hrY (by simp) (hb hbY d9_10) hr

theorem d1_0 : decode prog_6_method_2_code 0 = .ok (.iload_n 0, 1) := by decide +kernel
theorem d1_1 : decode prog_6_method_2_code 1 = .ok (.ifCond .eq 9, 3) := by decide +kernel
theorem d1_4 : decode prog_6_method_2_code 4 = .ok (.getstatic 21, 3) := by decide +kernel
theorem d1_7 : decode prog_6_method_2_code 7 = .ok (.goto 6, 3) := by decide +kernel
theorem d1_13 : decode prog_6_method_2_code 13 = .ok (.areturn, 1) := by decide +kernel
def Q_of1 (Z : State)  (wT wF : Addr) (h0 : Heap) (n0 : Nat) (v : Option Value) (h : Heap) (L : List Loc) : Prop := v = some (.ref wT) ∧ Fr n0 L ∧ h = h0
theorem pn_com_example_keen_verdict_keenverdict_AttributeValue : plainName "com/example/keen_verdict/keenverdict/AttributeValue" = true := by first | (simp [plainName, overriddenIn]; done) | decide +kernel
set_option maxRecDepth 65536 in
set_option maxHeartbeats 40000000 in
theorem of1 (l : Launch) (Z : State) (a0 : Array Value) (hw : ∀ d ∈ tables_1, d.before a0 Z = true) (ws : List Jvm.Cond)  (wT wF : Addr) (h0 : Heap) (n0 : Nat) (Z0 : n0 ≤ h0.size) (ST : Sta Z h0 "com/example/keen_verdict/keenverdict/AttributeValue" "TRUE" "Lcom/example/keen_verdict/keenverdict/AttributeValue;" (.ref wT)) (SF : Sta Z h0 "com/example/keen_verdict/keenverdict/AttributeValue" "FALSE" "Lcom/example/keen_verdict/keenverdict/AttributeValue;" (.ref wF)) :
    MetFree l (⟨"com/example/keen_verdict/keenverdict/AttributeValue", "of", "(Z)Lcom/example/keen_verdict/keenverdict/AttributeValue;"⟩ : MethodName) (head1 (Jvm.Cond.code (⟨"com/example/keen_verdict/keenverdict/AttributeValue", "of", "(Z)Lcom/example/keen_verdict/keenverdict/AttributeValue;"⟩ : MethodName) prog_6_method_2_code 1 (some (.object "com/example/keen_verdict/keenverdict/AttributeValue")) :: ws) ({ frames := 0, cells := 0, slots := 0, locals := 0 } : Room)) (fun a U => a = #[(.int (1 : Int32))] ∧ Z.Warmed39 U.vm ∧ U.heap = h0) (fun _ _ _ _ _ => True) (fun _ U o U' => ∃ v L, o = .returned v ∧ Q_of1 Z wT wF h0 n0 v U'.heap L ∧ FrameEnd U o U' L ({ frames := 0, cells := 0, slots := 0, locals := 0 } : Room).cells ({ frames := 0, cells := 0, slots := 0, locals := 0 } : Room).slots) := by
  refine MetFree.of_bodySF (plainFor_of_name pn_com_example_keen_verdict_keenverdict_AttributeValue) hisR ?_
  intro p e s m args below meth c s₁ Bd hml0 hP hK
  obtain ⟨rfl, hZ, hh⟩ := hP
  have hx := Bd.exec
  have hby := Bd.bytes
  have hml : c.maxLocals = 1 := hml0
  have hown : s.vm.findClass "com/example/keen_verdict/keenverdict/AttributeValue" = some m.cls := findClass_of_methodNamed Bd.named
  have hnm := (name_of_methodNamed Bd.named Bd.method).1
  have X0 : Stand p l e ({ frames := 0, cells := 0, slots := 0, locals := 0 } : Room) s m #[(.int (1 : Int32))] below meth c s₁ [] 0 0 := Stand.of_body Bd
  have e0 : s₁.heap = h0 := by rw [← hh, Bd.state]; rfl
  have N0 := Fr.nil n0
  have go0 : Goes p e below s₁ (entryFrame m #[(.int (1 : Int32))] 1) s₁ (mkF m 0 #[.val (.int (1 : Int32))] []) := fun t k => castTop (by first | (simp [entryFrame, mkF, argsToLocals, Value.category]; done) | rfl) k
  have go1 : Goes p e below s₁ (entryFrame m #[(.int (1 : Int32))] 1) s₁ (mkF m 1 #[.val (.int (1 : Int32))] [(.int (1 : Int32))]) := fun t k => go0 t (by
    show Steps p.tables e below (s₁.setTop (mkF m 0 #[.val (.int (1 : Int32))] [])) _
    refine XS.iloadN X0.here hx rfl (hb hby d1_0) rfl ?_
    exact k)
  have go2 : Goes p e below s₁ (entryFrame m #[(.int (1 : Int32))] 1) s₁ (mkF m 4 #[.val (.int (1 : Int32))] []) := fun t k => go1 t (by
    show Steps p.tables e below (s₁.setTop (mkF m 1 #[.val (.int (1 : Int32))] [(.int (1 : Int32))])) _
    refine XS.ifNo X0.here hx rfl (hb hby d1_1) rfl ((if0 _ _).trans (feq (by decide)).1) ?_
    exact k)
  obtain ⟨T3, X3, e3, st3⟩ := getS2 X0 hx hZ hown (host := "") (Or.inl (hw _ (List.mem_of_getElem? (i := 6) rfl))) Via.refl e0 ST (g := (mkF m 4 #[.val (.int (1 : Int32))] [])) rfl (hb hby d1_4)
  have go3 : Goes p e below s₁ (entryFrame m #[(.int (1 : Int32))] 1) T3 (mkF m 7 #[.val (.int (1 : Int32))] [(.ref wT)]) := fun t k => go2 t (st3 _ k)
  have go4 : Goes p e below s₁ (entryFrame m #[(.int (1 : Int32))] 1) T3 (mkF m 13 #[.val (.int (1 : Int32))] [(.ref wT)]) := fun t k => go3 t (by
    show Steps p.tables e below (T3.setTop (mkF m 7 #[.val (.int (1 : Int32))] [(.ref wT)])) _
    refine XS.goto X3.here hx rfl (pc0 := 7) (pc' := 13) rfl (hb hby d1_7) (by decide) (by decide) ?_
    exact k)
  obtain ⟨fs, hr, hrun, hended, hW, hsame⟩ := X3.leave (v := some (.ref wT)) (fun h => by rw [Bd.returns] at h; cases h)
  refine ⟨_, _, go4 _ ?_, hrun, hended, _, _, rfl, ?_, ⟨_, rfl⟩, hW, hsame.mono (by decide) (by decide)⟩
  · jvm_step X3.here [X3.here.top, hx, (hb hby d1_13), X3.method', Bd.returns, Value.isRef, FieldType.isReference]
    first | (intro acts; rw [hr _ acts rfl rfl rfl]) | rw [hr _ _ rfl rfl rfl]
    exact Steps.refl _
  · show Q_of1 Z wT wF h0 n0 _ T3.heap _
    rw [e3]
    exact ⟨rfl, N0, rfl⟩
theorem d1_10 : decode prog_6_method_2_code 10 = .ok (.getstatic 25, 3) := by decide +kernel
def Q_of0 (Z : State)  (wT wF : Addr) (h0 : Heap) (n0 : Nat) (v : Option Value) (h : Heap) (L : List Loc) : Prop := v = some (.ref wF) ∧ Fr n0 L ∧ h = h0
set_option maxRecDepth 65536 in
set_option maxHeartbeats 40000000 in
theorem of0 (l : Launch) (Z : State) (a0 : Array Value) (hw : ∀ d ∈ tables_1, d.before a0 Z = true) (ws : List Jvm.Cond)  (wT wF : Addr) (h0 : Heap) (n0 : Nat) (Z0 : n0 ≤ h0.size) (ST : Sta Z h0 "com/example/keen_verdict/keenverdict/AttributeValue" "TRUE" "Lcom/example/keen_verdict/keenverdict/AttributeValue;" (.ref wT)) (SF : Sta Z h0 "com/example/keen_verdict/keenverdict/AttributeValue" "FALSE" "Lcom/example/keen_verdict/keenverdict/AttributeValue;" (.ref wF)) :
    MetFree l (⟨"com/example/keen_verdict/keenverdict/AttributeValue", "of", "(Z)Lcom/example/keen_verdict/keenverdict/AttributeValue;"⟩ : MethodName) (head1 (Jvm.Cond.code (⟨"com/example/keen_verdict/keenverdict/AttributeValue", "of", "(Z)Lcom/example/keen_verdict/keenverdict/AttributeValue;"⟩ : MethodName) prog_6_method_2_code 1 (some (.object "com/example/keen_verdict/keenverdict/AttributeValue")) :: ws) ({ frames := 0, cells := 0, slots := 0, locals := 0 } : Room)) (fun a U => a = #[(.int (0 : Int32))] ∧ Z.Warmed39 U.vm ∧ U.heap = h0) (fun _ _ _ _ _ => True) (fun _ U o U' => ∃ v L, o = .returned v ∧ Q_of0 Z wT wF h0 n0 v U'.heap L ∧ FrameEnd U o U' L ({ frames := 0, cells := 0, slots := 0, locals := 0 } : Room).cells ({ frames := 0, cells := 0, slots := 0, locals := 0 } : Room).slots) := by
  refine MetFree.of_bodySF (plainFor_of_name pn_com_example_keen_verdict_keenverdict_AttributeValue) hisR ?_
  intro p e s m args below meth c s₁ Bd hml0 hP hK
  obtain ⟨rfl, hZ, hh⟩ := hP
  have hx := Bd.exec
  have hby := Bd.bytes
  have hml : c.maxLocals = 1 := hml0
  have hown : s.vm.findClass "com/example/keen_verdict/keenverdict/AttributeValue" = some m.cls := findClass_of_methodNamed Bd.named
  have hnm := (name_of_methodNamed Bd.named Bd.method).1
  have X0 : Stand p l e ({ frames := 0, cells := 0, slots := 0, locals := 0 } : Room) s m #[(.int (0 : Int32))] below meth c s₁ [] 0 0 := Stand.of_body Bd
  have e0 : s₁.heap = h0 := by rw [← hh, Bd.state]; rfl
  have N0 := Fr.nil n0
  have go0 : Goes p e below s₁ (entryFrame m #[(.int (0 : Int32))] 1) s₁ (mkF m 0 #[.val (.int (0 : Int32))] []) := fun t k => castTop (by first | (simp [entryFrame, mkF, argsToLocals, Value.category]; done) | rfl) k
  have go5 : Goes p e below s₁ (entryFrame m #[(.int (0 : Int32))] 1) s₁ (mkF m 1 #[.val (.int (0 : Int32))] [(.int (0 : Int32))]) := fun t k => go0 t (by
    show Steps p.tables e below (s₁.setTop (mkF m 0 #[.val (.int (0 : Int32))] [])) _
    refine XS.iloadN X0.here hx rfl (hb hby d1_0) rfl ?_
    exact k)
  have go6 : Goes p e below s₁ (entryFrame m #[(.int (0 : Int32))] 1) s₁ (mkF m 10 #[.val (.int (0 : Int32))] []) := fun t k => go5 t (by
    show Steps p.tables e below (s₁.setTop (mkF m 1 #[.val (.int (0 : Int32))] [(.int (0 : Int32))])) _
    refine XS.ifYes X0.here hx rfl (pc0 := 1) (pc' := 10) rfl (hb hby d1_1) rfl ((if0 _ _).trans (teq (by decide)).1) (by decide) (by decide) ?_
    exact k)
  obtain ⟨T7, X7, e7, st7⟩ := getS2 X0 hx hZ hown (host := "") (Or.inl (hw _ (List.mem_of_getElem? (i := 4) rfl))) Via.refl e0 SF (g := (mkF m 10 #[.val (.int (0 : Int32))] [])) rfl (hb hby d1_10)
  have go7 : Goes p e below s₁ (entryFrame m #[(.int (0 : Int32))] 1) T7 (mkF m 13 #[.val (.int (0 : Int32))] [(.ref wF)]) := fun t k => go6 t (st7 _ k)
  obtain ⟨fs, hr, hrun, hended, hW, hsame⟩ := X7.leave (v := some (.ref wF)) (fun h => by rw [Bd.returns] at h; cases h)
  refine ⟨_, _, go7 _ ?_, hrun, hended, _, _, rfl, ?_, ⟨_, rfl⟩, hW, hsame.mono (by decide) (by decide)⟩
  · jvm_step X7.here [X7.here.top, hx, (hb hby d1_13), X7.method', Bd.returns, Value.isRef, FieldType.isReference]
    first | (intro acts; rw [hr _ acts rfl rfl rfl]) | rw [hr _ _ rfl rfl rfl]
    exact Steps.refl _
  · show Q_of0 Z wT wF h0 n0 _ T7.heap _
    rw [e7]
    exact ⟨rfl, N0, rfl⟩
theorem d2_0 : decode prog_6_method_9_code 0 = .ok (.aload_n 0, 1) := by decide +kernel
theorem d2_1 : decode prog_6_method_9_code 1 = .ok (.getfield 7, 3) := by decide +kernel
theorem d2_4 : decode prog_6_method_9_code 4 = .ok (.areturn, 1) := by decide +kernel
def Q_gDT (Z : State) (a1 : Addr) (rr : Addr) (h0 : Heap) (n0 : Nat) (v : Option Value) (h : Heap) (L : List Loc) : Prop := v = some (.ref rr) ∧ Fr n0 L ∧ h = h0
set_option maxRecDepth 65536 in
set_option maxHeartbeats 40000000 in
theorem gDT (l : Launch) (Z : State) (a0 : Array Value) (hw : ∀ d ∈ tables_1, d.before a0 Z = true) (ws : List Jvm.Cond) (a1 : Addr) (rr : Addr) (h0 : Heap) (n0 : Nat) (Z0 : n0 ≤ h0.size) (F : Fld Z h0 a1 "com/example/keen_verdict/keenverdict/AttributeValue" "dataType" "Lcom/example/keen_verdict/keenverdict/DataType;" (.ref rr)) :
    MetFree l (⟨"com/example/keen_verdict/keenverdict/AttributeValue", "dataType", "()Lcom/example/keen_verdict/keenverdict/DataType;"⟩ : MethodName) (head1 (Jvm.Cond.code (⟨"com/example/keen_verdict/keenverdict/AttributeValue", "dataType", "()Lcom/example/keen_verdict/keenverdict/DataType;"⟩ : MethodName) prog_6_method_9_code 1 (some (.object "com/example/keen_verdict/keenverdict/DataType")) :: ws) ({ frames := 0, cells := 0, slots := 0, locals := 0 } : Room)) (fun a U => a = #[(.ref a1)] ∧ Z.Warmed39 U.vm ∧ U.heap = h0) (fun _ _ _ _ _ => True) (fun _ U o U' => ∃ v L, o = .returned v ∧ Q_gDT Z a1 rr h0 n0 v U'.heap L ∧ FrameEnd U o U' L ({ frames := 0, cells := 0, slots := 0, locals := 0 } : Room).cells ({ frames := 0, cells := 0, slots := 0, locals := 0 } : Room).slots) := by
  refine MetFree.of_bodySF (plainFor_of_name pn_com_example_keen_verdict_keenverdict_AttributeValue) hisR ?_
  intro p e s m args below meth c s₁ Bd hml0 hP hK
  obtain ⟨rfl, hZ, hh⟩ := hP
  have hx := Bd.exec
  have hby := Bd.bytes
  have hml : c.maxLocals = 1 := hml0
  have hown : s.vm.findClass "com/example/keen_verdict/keenverdict/AttributeValue" = some m.cls := findClass_of_methodNamed Bd.named
  have hnm := (name_of_methodNamed Bd.named Bd.method).1
  have X0 : Stand p l e ({ frames := 0, cells := 0, slots := 0, locals := 0 } : Room) s m #[(.ref a1)] below meth c s₁ [] 0 0 := Stand.of_body Bd
  have e0 : s₁.heap = h0 := by rw [← hh, Bd.state]; rfl
  have N0 := Fr.nil n0
  have go0 : Goes p e below s₁ (entryFrame m #[(.ref a1)] 1) s₁ (mkF m 0 #[.val (.ref a1)] []) := fun t k => castTop (by first | (simp [entryFrame, mkF, argsToLocals, Value.category]; done) | rfl) k
  have go8 : Goes p e below s₁ (entryFrame m #[(.ref a1)] 1) s₁ (mkF m 1 #[.val (.ref a1)] [(.ref a1)]) := fun t k => go0 t (by
    show Steps p.tables e below (s₁.setTop (mkF m 0 #[.val (.ref a1)] [])) _
    refine XS.aloadN X0.here hx rfl (hb hby d2_0) rfl rfl ?_
    exact k)
  obtain ⟨T9, X9, e9, st9⟩ := getF X0 hx hZ hown (host := "") (Or.inl (hw _ (List.mem_of_getElem? (i := 13) rfl))) Via.refl e0 F (g := (mkF m 1 #[.val (.ref a1)] [(.ref a1)])) rfl rfl (hb hby d2_1)
  have go9 : Goes p e below s₁ (entryFrame m #[(.ref a1)] 1) T9 (mkF m 4 #[.val (.ref a1)] [(.ref rr)]) := fun t k => go8 t (st9 _ k)
  obtain ⟨fs, hr, hrun, hended, hW, hsame⟩ := X9.leave (v := some (.ref rr)) (fun h => by rw [Bd.returns] at h; cases h)
  refine ⟨_, _, go9 _ ?_, hrun, hended, _, _, rfl, ?_, ⟨_, rfl⟩, hW, hsame.mono (by decide) (by decide)⟩
  · jvm_step X9.here [X9.here.top, hx, (hb hby d2_4), X9.method', Bd.returns, Value.isRef, FieldType.isReference]
    first | (intro acts; rw [hr _ acts rfl rfl rfl]) | rw [hr _ _ rfl rfl rfl]
    exact Steps.refl _
  · show Q_gDT Z a1 rr h0 n0 _ T9.heap _
    rw [e9]
    exact ⟨rfl, N0, rfl⟩
theorem d3_0 : decode prog_6_method_11_code 0 = .ok (.aload_n 0, 1) := by decide +kernel
theorem d3_1 : decode prog_6_method_11_code 1 = .ok (.getfield 17, 3) := by decide +kernel
theorem d3_4 : decode prog_6_method_11_code 4 = .ok (.areturn, 1) := by decide +kernel
def Q_gTX (Z : State) (a1 : Addr) (rr : Addr) (h0 : Heap) (n0 : Nat) (v : Option Value) (h : Heap) (L : List Loc) : Prop := v = some (.ref rr) ∧ Fr n0 L ∧ h = h0
set_option maxRecDepth 65536 in
set_option maxHeartbeats 40000000 in
theorem gTX (l : Launch) (Z : State) (a0 : Array Value) (hw : ∀ d ∈ tables_1, d.before a0 Z = true) (ws : List Jvm.Cond) (a1 : Addr) (rr : Addr) (h0 : Heap) (n0 : Nat) (Z0 : n0 ≤ h0.size) (F : Fld Z h0 a1 "com/example/keen_verdict/keenverdict/AttributeValue" "text" "Ljava/lang/String;" (.ref rr)) :
    MetFree l (⟨"com/example/keen_verdict/keenverdict/AttributeValue", "text", "()Ljava/lang/String;"⟩ : MethodName) (head1 (Jvm.Cond.code (⟨"com/example/keen_verdict/keenverdict/AttributeValue", "text", "()Ljava/lang/String;"⟩ : MethodName) prog_6_method_11_code 1 (some (.object "java/lang/String")) :: ws) ({ frames := 0, cells := 0, slots := 0, locals := 0 } : Room)) (fun a U => a = #[(.ref a1)] ∧ Z.Warmed39 U.vm ∧ U.heap = h0) (fun _ _ _ _ _ => True) (fun _ U o U' => ∃ v L, o = .returned v ∧ Q_gTX Z a1 rr h0 n0 v U'.heap L ∧ FrameEnd U o U' L ({ frames := 0, cells := 0, slots := 0, locals := 0 } : Room).cells ({ frames := 0, cells := 0, slots := 0, locals := 0 } : Room).slots) := by
  refine MetFree.of_bodySF (plainFor_of_name pn_com_example_keen_verdict_keenverdict_AttributeValue) hisR ?_
  intro p e s m args below meth c s₁ Bd hml0 hP hK
  obtain ⟨rfl, hZ, hh⟩ := hP
  have hx := Bd.exec
  have hby := Bd.bytes
  have hml : c.maxLocals = 1 := hml0
  have hown : s.vm.findClass "com/example/keen_verdict/keenverdict/AttributeValue" = some m.cls := findClass_of_methodNamed Bd.named
  have hnm := (name_of_methodNamed Bd.named Bd.method).1
  have X0 : Stand p l e ({ frames := 0, cells := 0, slots := 0, locals := 0 } : Room) s m #[(.ref a1)] below meth c s₁ [] 0 0 := Stand.of_body Bd
  have e0 : s₁.heap = h0 := by rw [← hh, Bd.state]; rfl
  have N0 := Fr.nil n0
  have go0 : Goes p e below s₁ (entryFrame m #[(.ref a1)] 1) s₁ (mkF m 0 #[.val (.ref a1)] []) := fun t k => castTop (by first | (simp [entryFrame, mkF, argsToLocals, Value.category]; done) | rfl) k
  have go10 : Goes p e below s₁ (entryFrame m #[(.ref a1)] 1) s₁ (mkF m 1 #[.val (.ref a1)] [(.ref a1)]) := fun t k => go0 t (by
    show Steps p.tables e below (s₁.setTop (mkF m 0 #[.val (.ref a1)] [])) _
    refine XS.aloadN X0.here hx rfl (hb hby d3_0) rfl rfl ?_
    exact k)
  obtain ⟨T11, X11, e11, st11⟩ := getF X0 hx hZ hown (host := "") (Or.inl (hw _ (List.mem_of_getElem? (i := 31) rfl))) Via.refl e0 F (g := (mkF m 1 #[.val (.ref a1)] [(.ref a1)])) rfl rfl (hb hby d3_1)
  have go11 : Goes p e below s₁ (entryFrame m #[(.ref a1)] 1) T11 (mkF m 4 #[.val (.ref a1)] [(.ref rr)]) := fun t k => go10 t (st11 _ k)
  obtain ⟨fs, hr, hrun, hended, hW, hsame⟩ := X11.leave (v := some (.ref rr)) (fun h => by rw [Bd.returns] at h; cases h)
  refine ⟨_, _, go11 _ ?_, hrun, hended, _, _, rfl, ?_, ⟨_, rfl⟩, hW, hsame.mono (by decide) (by decide)⟩
  · jvm_step X11.here [X11.here.top, hx, (hb hby d3_4), X11.method', Bd.returns, Value.isRef, FieldType.isReference]
    first | (intro acts; rw [hr _ acts rfl rfl rfl]) | rw [hr _ _ rfl rfl rfl]
    exact Steps.refl _
  · show Q_gTX Z a1 rr h0 n0 _ T11.heap _
    rw [e11]
    exact ⟨rfl, N0, rfl⟩
theorem d6_0 : decode prog_6_method_10_code 0 = .ok (.aload_n 0, 1) := by decide +kernel
theorem d6_1 : decode prog_6_method_10_code 1 = .ok (.getfield 13, 3) := by decide +kernel
theorem d6_4 : decode prog_6_method_10_code 4 = .ok (.areturn, 1) := by decide +kernel
def Q_gVA (Z : State) (a1 : Addr) (rr : Addr) (h0 : Heap) (n0 : Nat) (v : Option Value) (h : Heap) (L : List Loc) : Prop := v = some (.ref rr) ∧ Fr n0 L ∧ h = h0
set_option maxRecDepth 65536 in
set_option maxHeartbeats 40000000 in
theorem gVA (l : Launch) (Z : State) (a0 : Array Value) (hw : ∀ d ∈ tables_1, d.before a0 Z = true) (ws : List Jvm.Cond) (a1 : Addr) (rr : Addr) (h0 : Heap) (n0 : Nat) (Z0 : n0 ≤ h0.size) (F : Fld Z h0 a1 "com/example/keen_verdict/keenverdict/AttributeValue" "value" "Ljava/lang/Object;" (.ref rr)) :
    MetFree l (⟨"com/example/keen_verdict/keenverdict/AttributeValue", "value", "()Ljava/lang/Object;"⟩ : MethodName) (head1 (Jvm.Cond.code (⟨"com/example/keen_verdict/keenverdict/AttributeValue", "value", "()Ljava/lang/Object;"⟩ : MethodName) prog_6_method_10_code 1 (some (.object "java/lang/Object")) :: ws) ({ frames := 0, cells := 0, slots := 0, locals := 0 } : Room)) (fun a U => a = #[(.ref a1)] ∧ Z.Warmed39 U.vm ∧ U.heap = h0) (fun _ _ _ _ _ => True) (fun _ U o U' => ∃ v L, o = .returned v ∧ Q_gVA Z a1 rr h0 n0 v U'.heap L ∧ FrameEnd U o U' L ({ frames := 0, cells := 0, slots := 0, locals := 0 } : Room).cells ({ frames := 0, cells := 0, slots := 0, locals := 0 } : Room).slots) := by
  refine MetFree.of_bodySF (plainFor_of_name pn_com_example_keen_verdict_keenverdict_AttributeValue) hisR ?_
  intro p e s m args below meth c s₁ Bd hml0 hP hK
  obtain ⟨rfl, hZ, hh⟩ := hP
  have hx := Bd.exec
  have hby := Bd.bytes
  have hml : c.maxLocals = 1 := hml0
  have hown : s.vm.findClass "com/example/keen_verdict/keenverdict/AttributeValue" = some m.cls := findClass_of_methodNamed Bd.named
  have hnm := (name_of_methodNamed Bd.named Bd.method).1
  have X0 : Stand p l e ({ frames := 0, cells := 0, slots := 0, locals := 0 } : Room) s m #[(.ref a1)] below meth c s₁ [] 0 0 := Stand.of_body Bd
  have e0 : s₁.heap = h0 := by rw [← hh, Bd.state]; rfl
  have N0 := Fr.nil n0
  have go0 : Goes p e below s₁ (entryFrame m #[(.ref a1)] 1) s₁ (mkF m 0 #[.val (.ref a1)] []) := fun t k => castTop (by first | (simp [entryFrame, mkF, argsToLocals, Value.category]; done) | rfl) k
  have go12 : Goes p e below s₁ (entryFrame m #[(.ref a1)] 1) s₁ (mkF m 1 #[.val (.ref a1)] [(.ref a1)]) := fun t k => go0 t (by
    show Steps p.tables e below (s₁.setTop (mkF m 0 #[.val (.ref a1)] [])) _
    refine XS.aloadN X0.here hx rfl (hb hby d6_0) rfl rfl ?_
    exact k)
  obtain ⟨T13, X13, e13, st13⟩ := getF X0 hx hZ hown (host := "") (Or.inl (hw _ (List.mem_of_getElem? (i := 52) rfl))) Via.refl e0 F (g := (mkF m 1 #[.val (.ref a1)] [(.ref a1)])) rfl rfl (hb hby d6_1)
  have go13 : Goes p e below s₁ (entryFrame m #[(.ref a1)] 1) T13 (mkF m 4 #[.val (.ref a1)] [(.ref rr)]) := fun t k => go12 t (st13 _ k)
  obtain ⟨fs, hr, hrun, hended, hW, hsame⟩ := X13.leave (v := some (.ref rr)) (fun h => by rw [Bd.returns] at h; cases h)
  refine ⟨_, _, go13 _ ?_, hrun, hended, _, _, rfl, ?_, ⟨_, rfl⟩, hW, hsame.mono (by decide) (by decide)⟩
  · jvm_step X13.here [X13.here.top, hx, (hb hby d6_4), X13.method', Bd.returns, Value.isRef, FieldType.isReference]
    first | (intro acts; rw [hr _ acts rfl rfl rfl]) | rw [hr _ _ rfl rfl rfl]
    exact Steps.refl _
  · show Q_gVA Z a1 rr h0 n0 _ T13.heap _
    rw [e13]
    exact ⟨rfl, N0, rfl⟩
theorem d7_0 : decode jdk_2055_method_4_code 0 = .ok (.aload_n 0, 1) := by decide +kernel
theorem d7_1 : decode jdk_2055_method_4_code 1 = .ok (.getfield 7, 3) := by decide +kernel
theorem d7_4 : decode jdk_2055_method_4_code 4 = .ok (.ireturn, 1) := by decide +kernel
def Q_bv0 (Z : State) (a1 : Addr)  (h0 : Heap) (n0 : Nat) (v : Option Value) (h : Heap) (L : List Loc) : Prop := v = some (.int (0 : Int32)) ∧ Fr n0 L ∧ h = h0
theorem pn_java_lang_Boolean : plainName "java/lang/Boolean" = true := by first | (simp [plainName, overriddenIn]; done) | decide +kernel
set_option maxRecDepth 65536 in
set_option maxHeartbeats 40000000 in
theorem bv0 (l : Launch) (Z : State) (a0 : Array Value) (hw : ∀ d ∈ tables_1, d.before a0 Z = true) (ws : List Jvm.Cond) (a1 : Addr)  (h0 : Heap) (n0 : Nat) (Z0 : n0 ≤ h0.size) (F : Fld Z h0 a1 "java/lang/Boolean" "value" "Z" (.int (0 : Int32))) :
    MetFree l (⟨"java/lang/Boolean", "booleanValue", "()Z"⟩ : MethodName) (head1 (Jvm.Cond.code (⟨"java/lang/Boolean", "booleanValue", "()Z"⟩ : MethodName) jdk_2055_method_4_code 1 (some .boolean) :: ws) ({ frames := 0, cells := 0, slots := 0, locals := 0 } : Room)) (fun a U => a = #[(.ref a1)] ∧ Z.Warmed39 U.vm ∧ U.heap = h0) (fun _ _ _ _ _ => True) (fun _ U o U' => ∃ v L, o = .returned v ∧ Q_bv0 Z a1 h0 n0 v U'.heap L ∧ FrameEnd U o U' L ({ frames := 0, cells := 0, slots := 0, locals := 0 } : Room).cells ({ frames := 0, cells := 0, slots := 0, locals := 0 } : Room).slots) := by
  refine MetFree.of_bodySF (plainFor_of_name pn_java_lang_Boolean) hisR ?_
  intro p e s m args below meth c s₁ Bd hml0 hP hK
  obtain ⟨rfl, hZ, hh⟩ := hP
  have hx := Bd.exec
  have hby := Bd.bytes
  have hml : c.maxLocals = 1 := hml0
  have hown : s.vm.findClass "java/lang/Boolean" = some m.cls := findClass_of_methodNamed Bd.named
  have hnm := (name_of_methodNamed Bd.named Bd.method).1
  have X0 : Stand p l e ({ frames := 0, cells := 0, slots := 0, locals := 0 } : Room) s m #[(.ref a1)] below meth c s₁ [] 0 0 := Stand.of_body Bd
  have e0 : s₁.heap = h0 := by rw [← hh, Bd.state]; rfl
  have N0 := Fr.nil n0
  have go0 : Goes p e below s₁ (entryFrame m #[(.ref a1)] 1) s₁ (mkF m 0 #[.val (.ref a1)] []) := fun t k => castTop (by first | (simp [entryFrame, mkF, argsToLocals, Value.category]; done) | rfl) k
  have go14 : Goes p e below s₁ (entryFrame m #[(.ref a1)] 1) s₁ (mkF m 1 #[.val (.ref a1)] [(.ref a1)]) := fun t k => go0 t (by
    show Steps p.tables e below (s₁.setTop (mkF m 0 #[.val (.ref a1)] [])) _
    refine XS.aloadN X0.here hx rfl (hb hby d7_0) rfl rfl ?_
    exact k)
  obtain ⟨T15, X15, e15, st15⟩ := getF X0 hx hZ hown (host := "") (Or.inl (hw _ (List.mem_of_getElem? (i := 62) rfl))) Via.refl e0 F (g := (mkF m 1 #[.val (.ref a1)] [(.ref a1)])) rfl rfl (hb hby d7_1)
  have go15 : Goes p e below s₁ (entryFrame m #[(.ref a1)] 1) T15 (mkF m 4 #[.val (.ref a1)] [(.int (0 : Int32))]) := fun t k => go14 t (st15 _ k)
  obtain ⟨fs, hr, hrun, hended, hW, hsame⟩ := X15.leave (v := some (.int (0 : Int32))) (fun h => by rw [Bd.returns] at h; cases h)
  refine ⟨_, _, go15 _ ?_, hrun, hended, _, _, rfl, ?_, ⟨_, rfl⟩, hW, hsame.mono (by decide) (by decide)⟩
  · exact retN X15 hx (t := .boolean) Bd.returns (by simp) (hb hby d7_4) hr
  · show Q_bv0 Z a1 h0 n0 _ T15.heap _
    rw [e15]
    exact ⟨rfl, N0, rfl⟩
def Q_bv1 (Z : State) (a1 : Addr)  (h0 : Heap) (n0 : Nat) (v : Option Value) (h : Heap) (L : List Loc) : Prop := v = some (.int (1 : Int32)) ∧ Fr n0 L ∧ h = h0
set_option maxRecDepth 65536 in
set_option maxHeartbeats 40000000 in
theorem bv1 (l : Launch) (Z : State) (a0 : Array Value) (hw : ∀ d ∈ tables_1, d.before a0 Z = true) (ws : List Jvm.Cond) (a1 : Addr)  (h0 : Heap) (n0 : Nat) (Z0 : n0 ≤ h0.size) (F : Fld Z h0 a1 "java/lang/Boolean" "value" "Z" (.int (1 : Int32))) :
    MetFree l (⟨"java/lang/Boolean", "booleanValue", "()Z"⟩ : MethodName) (head1 (Jvm.Cond.code (⟨"java/lang/Boolean", "booleanValue", "()Z"⟩ : MethodName) jdk_2055_method_4_code 1 (some .boolean) :: ws) ({ frames := 0, cells := 0, slots := 0, locals := 0 } : Room)) (fun a U => a = #[(.ref a1)] ∧ Z.Warmed39 U.vm ∧ U.heap = h0) (fun _ _ _ _ _ => True) (fun _ U o U' => ∃ v L, o = .returned v ∧ Q_bv1 Z a1 h0 n0 v U'.heap L ∧ FrameEnd U o U' L ({ frames := 0, cells := 0, slots := 0, locals := 0 } : Room).cells ({ frames := 0, cells := 0, slots := 0, locals := 0 } : Room).slots) := by
  refine MetFree.of_bodySF (plainFor_of_name pn_java_lang_Boolean) hisR ?_
  intro p e s m args below meth c s₁ Bd hml0 hP hK
  obtain ⟨rfl, hZ, hh⟩ := hP
  have hx := Bd.exec
  have hby := Bd.bytes
  have hml : c.maxLocals = 1 := hml0
  have hown : s.vm.findClass "java/lang/Boolean" = some m.cls := findClass_of_methodNamed Bd.named
  have hnm := (name_of_methodNamed Bd.named Bd.method).1
  have X0 : Stand p l e ({ frames := 0, cells := 0, slots := 0, locals := 0 } : Room) s m #[(.ref a1)] below meth c s₁ [] 0 0 := Stand.of_body Bd
  have e0 : s₁.heap = h0 := by rw [← hh, Bd.state]; rfl
  have N0 := Fr.nil n0
  have go0 : Goes p e below s₁ (entryFrame m #[(.ref a1)] 1) s₁ (mkF m 0 #[.val (.ref a1)] []) := fun t k => castTop (by first | (simp [entryFrame, mkF, argsToLocals, Value.category]; done) | rfl) k
  have go16 : Goes p e below s₁ (entryFrame m #[(.ref a1)] 1) s₁ (mkF m 1 #[.val (.ref a1)] [(.ref a1)]) := fun t k => go0 t (by
    show Steps p.tables e below (s₁.setTop (mkF m 0 #[.val (.ref a1)] [])) _
    refine XS.aloadN X0.here hx rfl (hb hby d7_0) rfl rfl ?_
    exact k)
  obtain ⟨T17, X17, e17, st17⟩ := getF X0 hx hZ hown (host := "") (Or.inl (hw _ (List.mem_of_getElem? (i := 62) rfl))) Via.refl e0 F (g := (mkF m 1 #[.val (.ref a1)] [(.ref a1)])) rfl rfl (hb hby d7_1)
  have go17 : Goes p e below s₁ (entryFrame m #[(.ref a1)] 1) T17 (mkF m 4 #[.val (.ref a1)] [(.int (1 : Int32))]) := fun t k => go16 t (st17 _ k)
  obtain ⟨fs, hr, hrun, hended, hW, hsame⟩ := X17.leave (v := some (.int (1 : Int32))) (fun h => by rw [Bd.returns] at h; cases h)
  refine ⟨_, _, go17 _ ?_, hrun, hended, _, _, rfl, ?_, ⟨_, rfl⟩, hW, hsame.mono (by decide) (by decide)⟩
  · exact retN X17 hx (t := .boolean) Bd.returns (by simp) (hb hby d7_4) hr
  · show Q_bv1 Z a1 h0 n0 _ T17.heap _
    rw [e17]
    exact ⟨rfl, N0, rfl⟩
theorem d10_0 : decode jdk_2055_method_11_code 0 = .ok (.aload_n 1, 1) := by decide +kernel
theorem d10_1 : decode jdk_2055_method_11_code 1 = .ok (.instanceof 8, 3) := by decide +kernel
theorem d10_4 : decode jdk_2055_method_11_code 4 = .ok (.ifCond .eq 23, 3) := by decide +kernel
theorem d10_7 : decode jdk_2055_method_11_code 7 = .ok (.aload_n 0, 1) := by decide +kernel
theorem d10_8 : decode jdk_2055_method_11_code 8 = .ok (.getfield 7, 3) := by decide +kernel
theorem d10_11 : decode jdk_2055_method_11_code 11 = .ok (.aload_n 1, 1) := by decide +kernel
theorem d10_12 : decode jdk_2055_method_11_code 12 = .ok (.checkcast 8, 3) := by decide +kernel
theorem d10_15 : decode jdk_2055_method_11_code 15 = .ok (.invokevirtual 42, 3) := by decide +kernel
theorem pd_0 : parseMethodDescriptor "()Z" = some ⟨[], some .boolean⟩ := by decide +kernel
theorem d10_18 : decode jdk_2055_method_11_code 18 = .ok (.if_icmp .ne 7, 3) := by decide +kernel
theorem d10_25 : decode jdk_2055_method_11_code 25 = .ok (.iconst 0, 1) := by decide +kernel
theorem d10_26 : decode jdk_2055_method_11_code 26 = .ok (.ireturn, 1) := by decide +kernel
def Q_be0 (Z : State) (a1 : Addr) (a2 : Addr)  (h0 : Heap) (n0 : Nat) (v : Option Value) (h : Heap) (L : List Loc) : Prop := v = some (.int (0 : Int32)) ∧ Fr n0 L ∧ h = h0
set_option maxRecDepth 65536 in
set_option maxHeartbeats 40000000 in
theorem be0 (l : Launch) (Z : State) (a0 : Array Value) (hw : ∀ d ∈ tables_1, d.before a0 Z = true) (ws : List Jvm.Cond) (a1 : Addr) (a2 : Addr)  (h0 : Heap) (n0 : Nat) (Z0 : n0 ≤ h0.size) (F1 : Fld Z h0 a1 "java/lang/Boolean" "value" "Z" (.int (0 : Int32))) (E2 : Exa Z h0 a2 "java/lang/Boolean") (F2 : Fld Z h0 a2 "java/lang/Boolean" "value" "Z" (.int (1 : Int32))) :
    MetFree l (⟨"java/lang/Boolean", "equals", "(Ljava/lang/Object;)Z"⟩ : MethodName) (head1 (Jvm.Cond.code (⟨"java/lang/Boolean", "equals", "(Ljava/lang/Object;)Z"⟩ : MethodName) jdk_2055_method_11_code 2 (some .boolean) :: ws) ({ frames := 1, cells := 0, slots := 0, locals := 13 } : Room)) (fun a U => a = #[(.ref a1), (.ref a2)] ∧ Z.Warmed39 U.vm ∧ U.heap = h0) (fun _ _ _ _ _ => True) (fun _ U o U' => ∃ v L, o = .returned v ∧ Q_be0 Z a1 a2 h0 n0 v U'.heap L ∧ FrameEnd U o U' L ({ frames := 1, cells := 0, slots := 0, locals := 13 } : Room).cells ({ frames := 1, cells := 0, slots := 0, locals := 13 } : Room).slots) := by
  refine MetFree.of_bodySF (plainFor_of_name pn_java_lang_Boolean) hisR ?_
  intro p e s m args below meth c s₁ Bd hml0 hP hK
  obtain ⟨rfl, hZ, hh⟩ := hP
  have hx := Bd.exec
  have hby := Bd.bytes
  have hml : c.maxLocals = 2 := hml0
  have hown : s.vm.findClass "java/lang/Boolean" = some m.cls := findClass_of_methodNamed Bd.named
  have hnm := (name_of_methodNamed Bd.named Bd.method).1
  have X0 : Stand p l e ({ frames := 1, cells := 0, slots := 0, locals := 13 } : Room) s m #[(.ref a1), (.ref a2)] below meth c s₁ [] 0 0 := Stand.of_body Bd
  have e0 : s₁.heap = h0 := by rw [← hh, Bd.state]; rfl
  have N0 := Fr.nil n0
  have go0 : Goes p e below s₁ (entryFrame m #[(.ref a1), (.ref a2)] 2) s₁ (mkF m 0 #[.val (.ref a1), .val (.ref a2)] []) := fun t k => castTop (by first | (simp [entryFrame, mkF, argsToLocals, Value.category]; done) | rfl) k
  have go18 : Goes p e below s₁ (entryFrame m #[(.ref a1), (.ref a2)] 2) s₁ (mkF m 1 #[.val (.ref a1), .val (.ref a2)] [(.ref a2)]) := fun t k => go0 t (by
    show Steps p.tables e below (s₁.setTop (mkF m 0 #[.val (.ref a1), .val (.ref a2)] [])) _
    refine XS.aloadN X0.here hx rfl (hb hby d10_0) rfl rfl ?_
    exact k)
  obtain ⟨T19, X19, e19, st19⟩ := instY X0 hx hZ hown (hw _ (List.mem_of_getElem? (i := 79) rfl)) e0 (Ins.self E2) (g := (mkF m 1 #[.val (.ref a1), .val (.ref a2)] [(.ref a2)])) rfl rfl (hb hby d10_1)
  have go19 : Goes p e below s₁ (entryFrame m #[(.ref a1), (.ref a2)] 2) T19 (mkF m 4 #[.val (.ref a1), .val (.ref a2)] [(.int (1 : Int32))]) := fun t k => go18 t (st19 _ k)
  have go20 : Goes p e below s₁ (entryFrame m #[(.ref a1), (.ref a2)] 2) T19 (mkF m 8 #[.val (.ref a1), .val (.ref a2)] [(.ref a1)]) := fun t k => go19 t (by
    show Steps p.tables e below (T19.setTop (mkF m 4 #[.val (.ref a1), .val (.ref a2)] [(.int (1 : Int32))])) _
    refine XS.ifNo X19.here hx rfl (hb hby d10_4) rfl ((if0 _ _).trans (feq (by decide)).1) ?_
    show Steps p.tables e below (T19.setTop (mkF m 7 #[.val (.ref a1), .val (.ref a2)] [])) _
    refine XS.aloadN X19.here hx rfl (hb hby d10_7) rfl rfl ?_
    exact k)
  obtain ⟨T21, X21, e21, st21⟩ := getF X19 hx hZ hown (host := "") (Or.inl (hw _ (List.mem_of_getElem? (i := 62) rfl))) Via.refl e19 F1 (g := (mkF m 8 #[.val (.ref a1), .val (.ref a2)] [(.ref a1)])) rfl rfl (hb hby d10_8)
  have go21 : Goes p e below s₁ (entryFrame m #[(.ref a1), (.ref a2)] 2) T21 (mkF m 11 #[.val (.ref a1), .val (.ref a2)] [(.int (0 : Int32))]) := fun t k => go20 t (st21 _ k)
  have go22 : Goes p e below s₁ (entryFrame m #[(.ref a1), (.ref a2)] 2) T21 (mkF m 12 #[.val (.ref a1), .val (.ref a2)] [(.ref a2), (.int (0 : Int32))]) := fun t k => go21 t (by
    show Steps p.tables e below (T21.setTop (mkF m 11 #[.val (.ref a1), .val (.ref a2)] [(.int (0 : Int32))])) _
    refine XS.aloadN X21.here hx rfl (hb hby d10_11) rfl rfl ?_
    exact k)
  obtain ⟨T23, X23, e23, st23⟩ := castY X21 hx hZ hown (hw _ (List.mem_of_getElem? (i := 79) rfl)) e21 (Ins.self E2) (g := (mkF m 12 #[.val (.ref a1), .val (.ref a2)] [(.ref a2), (.int (0 : Int32))])) rfl rfl (hb hby d10_12)
  have go23 : Goes p e below s₁ (entryFrame m #[(.ref a1), (.ref a2)] 2) T23 (mkF m 15 #[.val (.ref a1), .val (.ref a2)] [(.ref a2), (.int (0 : Int32))]) := fun t k => go22 t (st23 _ k)
  obtain ⟨cq24, kq24, q24a, q24b, q24c⟩ := isOf hZ e23 E2
  obtain ⟨_, _, ⟨T24, L24, k24, n24⟩, -, X24, ⟨Lc24, hQ24, l24, y24, z24⟩, st24⟩ := X23.virtualBack hx (y := (⟨"java/lang/Boolean", "booleanValue", "()Z"⟩ : MethodName)) (z := (⟨"java/lang/Boolean", "booleanValue", "()Z"⟩ : MethodName)) hown (mvT hZ (hw _ (List.mem_of_getElem? (i := 80) rfl))) (mvT hZ (hw _ (List.mem_of_getElem? (i := 57) rfl))) (notFace_of_selects (args := #[]) (mvT hZ (hw _ (List.mem_of_getElem? (i := 59) rfl)))) (mvT hZ (hw _ (List.mem_of_getElem? (i := 59) rfl))) (mvT hZ (hw _ (List.mem_of_getElem? (i := 58) rfl))) (by decide) (backOf (W := 1) (bv1 l Z a0 hw [] a2  h0 n0 Z0 F2) hZ (hw _ (List.mem_of_getElem? (i := 61) rfl)) (hw _ (List.mem_of_getElem? (i := 60) rfl)) (by decide) (by decide)) q24a q24c (g := (mkF m 15 #[.val (.ref a1), .val (.ref a2)] [(.ref a2), (.int (0 : Int32))])) rfl (by rw [hml]; rfl) (Steps.refl _) (argsL := []) (rest := [(.int (0 : Int32))]) (lenOf pd_0 rfl) rfl (by show 2 * 0 + _ ≤ _; exact Nat.le_of_eq rfl) (hb hby d10_15) (fun _ _ => ⟨rfl, e23, (by decide : 0 + 0 ≤ _), (by decide : 0 + 0 ≤ _)⟩)
  dsimp only [Pt.U, Pt.locs, Pt.cells, Pt.slots] at X24 l24 y24 z24 st24 hQ24
  subst l24 y24 z24
  obtain ⟨rfl, Nq24, eq24⟩ := hQ24
  have N24 := Fr.app N0 Nq24
  have go24 : Goes p e below s₁ (entryFrame m #[(.ref a1), (.ref a2)] 2) T24 (mkF m 18 #[.val (.ref a1), .val (.ref a2)] [(.int (1 : Int32)), (.int (0 : Int32))]) := fun t k => go23 t (st24.trans k)
  have go25 : Goes p e below s₁ (entryFrame m #[(.ref a1), (.ref a2)] 2) T24 (mkF m 26 #[.val (.ref a1), .val (.ref a2)] [(.int (0 : Int32))]) := fun t k => go24 t (by
    show Steps p.tables e below (T24.setTop (mkF m 18 #[.val (.ref a1), .val (.ref a2)] [(.int (1 : Int32)), (.int (0 : Int32))])) _
    refine XS.icmpYes X24.here hx rfl (pc0 := 18) (pc' := 25) rfl (hb hby d10_18) rfl (feq (by decide)).2 (by decide) (by decide) ?_
    show Steps p.tables e below (T24.setTop (mkF m 25 #[.val (.ref a1), .val (.ref a2)] [])) _
    refine XS.iconst X24.here hx rfl (hb hby d10_25) ?_
    exact k)
  obtain ⟨fs, hr, hrun, hended, hW, hsame⟩ := X24.leave (v := some (.int (0 : Int32))) (fun h => by rw [Bd.returns] at h; cases h)
  refine ⟨_, _, go25 _ ?_, hrun, hended, _, _, rfl, ?_, ⟨_, rfl⟩, hW, hsame.mono (by decide) (by decide)⟩
  · exact retN X24 hx (t := .boolean) Bd.returns (by simp) (hb hby d10_26) hr
  · show Q_be0 Z a1 a2 h0 n0 _ T24.heap _
    rw [eq24]
    exact ⟨rfl, N24, rfl⟩
def Q_be1 (Z : State) (a1 : Addr) (a2 : Addr)  (h0 : Heap) (n0 : Nat) (v : Option Value) (h : Heap) (L : List Loc) : Prop := v = some (.int (0 : Int32)) ∧ Fr n0 L ∧ h = h0
set_option maxRecDepth 65536 in
set_option maxHeartbeats 40000000 in
theorem be1 (l : Launch) (Z : State) (a0 : Array Value) (hw : ∀ d ∈ tables_1, d.before a0 Z = true) (ws : List Jvm.Cond) (a1 : Addr) (a2 : Addr)  (h0 : Heap) (n0 : Nat) (Z0 : n0 ≤ h0.size) (F1 : Fld Z h0 a1 "java/lang/Boolean" "value" "Z" (.int (1 : Int32))) (E2 : Exa Z h0 a2 "java/lang/Boolean") (F2 : Fld Z h0 a2 "java/lang/Boolean" "value" "Z" (.int (0 : Int32))) :
    MetFree l (⟨"java/lang/Boolean", "equals", "(Ljava/lang/Object;)Z"⟩ : MethodName) (head1 (Jvm.Cond.code (⟨"java/lang/Boolean", "equals", "(Ljava/lang/Object;)Z"⟩ : MethodName) jdk_2055_method_11_code 2 (some .boolean) :: ws) ({ frames := 1, cells := 0, slots := 0, locals := 13 } : Room)) (fun a U => a = #[(.ref a1), (.ref a2)] ∧ Z.Warmed39 U.vm ∧ U.heap = h0) (fun _ _ _ _ _ => True) (fun _ U o U' => ∃ v L, o = .returned v ∧ Q_be1 Z a1 a2 h0 n0 v U'.heap L ∧ FrameEnd U o U' L ({ frames := 1, cells := 0, slots := 0, locals := 13 } : Room).cells ({ frames := 1, cells := 0, slots := 0, locals := 13 } : Room).slots) := by
  refine MetFree.of_bodySF (plainFor_of_name pn_java_lang_Boolean) hisR ?_
  intro p e s m args below meth c s₁ Bd hml0 hP hK
  obtain ⟨rfl, hZ, hh⟩ := hP
  have hx := Bd.exec
  have hby := Bd.bytes
  have hml : c.maxLocals = 2 := hml0
  have hown : s.vm.findClass "java/lang/Boolean" = some m.cls := findClass_of_methodNamed Bd.named
  have hnm := (name_of_methodNamed Bd.named Bd.method).1
  have X0 : Stand p l e ({ frames := 1, cells := 0, slots := 0, locals := 13 } : Room) s m #[(.ref a1), (.ref a2)] below meth c s₁ [] 0 0 := Stand.of_body Bd
  have e0 : s₁.heap = h0 := by rw [← hh, Bd.state]; rfl
  have N0 := Fr.nil n0
  have go0 : Goes p e below s₁ (entryFrame m #[(.ref a1), (.ref a2)] 2) s₁ (mkF m 0 #[.val (.ref a1), .val (.ref a2)] []) := fun t k => castTop (by first | (simp [entryFrame, mkF, argsToLocals, Value.category]; done) | rfl) k
  have go26 : Goes p e below s₁ (entryFrame m #[(.ref a1), (.ref a2)] 2) s₁ (mkF m 1 #[.val (.ref a1), .val (.ref a2)] [(.ref a2)]) := fun t k => go0 t (by
    show Steps p.tables e below (s₁.setTop (mkF m 0 #[.val (.ref a1), .val (.ref a2)] [])) _
    refine XS.aloadN X0.here hx rfl (hb hby d10_0) rfl rfl ?_
    exact k)
  obtain ⟨T27, X27, e27, st27⟩ := instY X0 hx hZ hown (hw _ (List.mem_of_getElem? (i := 79) rfl)) e0 (Ins.self E2) (g := (mkF m 1 #[.val (.ref a1), .val (.ref a2)] [(.ref a2)])) rfl rfl (hb hby d10_1)
  have go27 : Goes p e below s₁ (entryFrame m #[(.ref a1), (.ref a2)] 2) T27 (mkF m 4 #[.val (.ref a1), .val (.ref a2)] [(.int (1 : Int32))]) := fun t k => go26 t (st27 _ k)
  have go28 : Goes p e below s₁ (entryFrame m #[(.ref a1), (.ref a2)] 2) T27 (mkF m 8 #[.val (.ref a1), .val (.ref a2)] [(.ref a1)]) := fun t k => go27 t (by
    show Steps p.tables e below (T27.setTop (mkF m 4 #[.val (.ref a1), .val (.ref a2)] [(.int (1 : Int32))])) _
    refine XS.ifNo X27.here hx rfl (hb hby d10_4) rfl ((if0 _ _).trans (feq (by decide)).1) ?_
    show Steps p.tables e below (T27.setTop (mkF m 7 #[.val (.ref a1), .val (.ref a2)] [])) _
    refine XS.aloadN X27.here hx rfl (hb hby d10_7) rfl rfl ?_
    exact k)
  obtain ⟨T29, X29, e29, st29⟩ := getF X27 hx hZ hown (host := "") (Or.inl (hw _ (List.mem_of_getElem? (i := 62) rfl))) Via.refl e27 F1 (g := (mkF m 8 #[.val (.ref a1), .val (.ref a2)] [(.ref a1)])) rfl rfl (hb hby d10_8)
  have go29 : Goes p e below s₁ (entryFrame m #[(.ref a1), (.ref a2)] 2) T29 (mkF m 11 #[.val (.ref a1), .val (.ref a2)] [(.int (1 : Int32))]) := fun t k => go28 t (st29 _ k)
  have go30 : Goes p e below s₁ (entryFrame m #[(.ref a1), (.ref a2)] 2) T29 (mkF m 12 #[.val (.ref a1), .val (.ref a2)] [(.ref a2), (.int (1 : Int32))]) := fun t k => go29 t (by
    show Steps p.tables e below (T29.setTop (mkF m 11 #[.val (.ref a1), .val (.ref a2)] [(.int (1 : Int32))])) _
    refine XS.aloadN X29.here hx rfl (hb hby d10_11) rfl rfl ?_
    exact k)
  obtain ⟨T31, X31, e31, st31⟩ := castY X29 hx hZ hown (hw _ (List.mem_of_getElem? (i := 79) rfl)) e29 (Ins.self E2) (g := (mkF m 12 #[.val (.ref a1), .val (.ref a2)] [(.ref a2), (.int (1 : Int32))])) rfl rfl (hb hby d10_12)
  have go31 : Goes p e below s₁ (entryFrame m #[(.ref a1), (.ref a2)] 2) T31 (mkF m 15 #[.val (.ref a1), .val (.ref a2)] [(.ref a2), (.int (1 : Int32))]) := fun t k => go30 t (st31 _ k)
  obtain ⟨cq32, kq32, q32a, q32b, q32c⟩ := isOf hZ e31 E2
  obtain ⟨_, _, ⟨T32, L32, k32, n32⟩, -, X32, ⟨Lc32, hQ32, l32, y32, z32⟩, st32⟩ := X31.virtualBack hx (y := (⟨"java/lang/Boolean", "booleanValue", "()Z"⟩ : MethodName)) (z := (⟨"java/lang/Boolean", "booleanValue", "()Z"⟩ : MethodName)) hown (mvT hZ (hw _ (List.mem_of_getElem? (i := 80) rfl))) (mvT hZ (hw _ (List.mem_of_getElem? (i := 57) rfl))) (notFace_of_selects (args := #[]) (mvT hZ (hw _ (List.mem_of_getElem? (i := 59) rfl)))) (mvT hZ (hw _ (List.mem_of_getElem? (i := 59) rfl))) (mvT hZ (hw _ (List.mem_of_getElem? (i := 58) rfl))) (by decide) (backOf (W := 1) (bv0 l Z a0 hw [] a2  h0 n0 Z0 F2) hZ (hw _ (List.mem_of_getElem? (i := 61) rfl)) (hw _ (List.mem_of_getElem? (i := 60) rfl)) (by decide) (by decide)) q32a q32c (g := (mkF m 15 #[.val (.ref a1), .val (.ref a2)] [(.ref a2), (.int (1 : Int32))])) rfl (by rw [hml]; rfl) (Steps.refl _) (argsL := []) (rest := [(.int (1 : Int32))]) (lenOf pd_0 rfl) rfl (by show 2 * 0 + _ ≤ _; exact Nat.le_of_eq rfl) (hb hby d10_15) (fun _ _ => ⟨rfl, e31, (by decide : 0 + 0 ≤ _), (by decide : 0 + 0 ≤ _)⟩)
  dsimp only [Pt.U, Pt.locs, Pt.cells, Pt.slots] at X32 l32 y32 z32 st32 hQ32
  subst l32 y32 z32
  obtain ⟨rfl, Nq32, eq32⟩ := hQ32
  have N32 := Fr.app N0 Nq32
  have go32 : Goes p e below s₁ (entryFrame m #[(.ref a1), (.ref a2)] 2) T32 (mkF m 18 #[.val (.ref a1), .val (.ref a2)] [(.int (0 : Int32)), (.int (1 : Int32))]) := fun t k => go31 t (st32.trans k)
  have go33 : Goes p e below s₁ (entryFrame m #[(.ref a1), (.ref a2)] 2) T32 (mkF m 26 #[.val (.ref a1), .val (.ref a2)] [(.int (0 : Int32))]) := fun t k => go32 t (by
    show Steps p.tables e below (T32.setTop (mkF m 18 #[.val (.ref a1), .val (.ref a2)] [(.int (0 : Int32)), (.int (1 : Int32))])) _
    refine XS.icmpYes X32.here hx rfl (pc0 := 18) (pc' := 25) rfl (hb hby d10_18) rfl (feq (by decide)).2 (by decide) (by decide) ?_
    show Steps p.tables e below (T32.setTop (mkF m 25 #[.val (.ref a1), .val (.ref a2)] [])) _
    refine XS.iconst X32.here hx rfl (hb hby d10_25) ?_
    exact k)
  obtain ⟨fs, hr, hrun, hended, hW, hsame⟩ := X32.leave (v := some (.int (0 : Int32))) (fun h => by rw [Bd.returns] at h; cases h)
  refine ⟨_, _, go33 _ ?_, hrun, hended, _, _, rfl, ?_, ⟨_, rfl⟩, hW, hsame.mono (by decide) (by decide)⟩
  · exact retN X32 hx (t := .boolean) Bd.returns (by simp) (hb hby d10_26) hr
  · show Q_be1 Z a1 a2 h0 n0 _ T32.heap _
    rw [eq32]
    exact ⟨rfl, N32, rfl⟩
theorem d8_0 : decode prog_6_method_15_code 0 = .ok (.aload_n 1, 1) := by decide +kernel
theorem d8_1 : decode prog_6_method_15_code 1 = .ok (.instanceof 8, 3) := by decide +kernel
theorem d8_4 : decode prog_6_method_15_code 4 = .ok (.ifCond .eq 40, 3) := by decide +kernel
theorem d8_7 : decode prog_6_method_15_code 7 = .ok (.aload_n 1, 1) := by decide +kernel
theorem d8_8 : decode prog_6_method_15_code 8 = .ok (.checkcast 8, 3) := by decide +kernel
theorem d8_11 : decode prog_6_method_15_code 11 = .ok (.astore_n 2, 1) := by decide +kernel
theorem d8_12 : decode prog_6_method_15_code 12 = .ok (.aload_n 0, 1) := by decide +kernel
theorem d8_13 : decode prog_6_method_15_code 13 = .ok (.getfield 7, 3) := by decide +kernel
theorem d8_16 : decode prog_6_method_15_code 16 = .ok (.aload_n 2, 1) := by decide +kernel
theorem d8_17 : decode prog_6_method_15_code 17 = .ok (.getfield 7, 3) := by decide +kernel
theorem d8_20 : decode prog_6_method_15_code 20 = .ok (.invokevirtual 89, 3) := by decide +kernel
theorem pd_1 : parseMethodDescriptor "(Ljava/lang/Object;)Z" = some ⟨[(.object "java/lang/Object")], some .boolean⟩ := by decide +kernel
theorem d8_23 : decode prog_6_method_15_code 23 = .ok (.ifCond .eq 21, 3) := by decide +kernel
theorem d8_26 : decode prog_6_method_15_code 26 = .ok (.aload_n 0, 1) := by decide +kernel
theorem d8_27 : decode prog_6_method_15_code 27 = .ok (.getfield 13, 3) := by decide +kernel
theorem d8_30 : decode prog_6_method_15_code 30 = .ok (.aload_n 2, 1) := by decide +kernel
theorem d8_31 : decode prog_6_method_15_code 31 = .ok (.getfield 13, 3) := by decide +kernel
theorem d8_34 : decode prog_6_method_15_code 34 = .ok (.invokevirtual 89, 3) := by decide +kernel
theorem d8_37 : decode prog_6_method_15_code 37 = .ok (.ifCond .eq 7, 3) := by decide +kernel
theorem d8_44 : decode prog_6_method_15_code 44 = .ok (.iconst 0, 1) := by decide +kernel
theorem d8_45 : decode prog_6_method_15_code 45 = .ok (.ireturn, 1) := by decide +kernel
def Q_ae0 (Z : State) (a1 : Addr) (a2 : Addr) (dd v1 v2 : Addr) (h0 : Heap) (n0 : Nat) (v : Option Value) (h : Heap) (L : List Loc) : Prop := v = some (.int (0 : Int32)) ∧ Fr n0 L ∧ h = h0
set_option maxRecDepth 65536 in
set_option maxHeartbeats 40000000 in
theorem ae0 (l : Launch) (Z : State) (a0 : Array Value) (hw : ∀ d ∈ tables_1, d.before a0 Z = true) (ws : List Jvm.Cond) (a1 : Addr) (a2 : Addr) (dd v1 v2 : Addr) (h0 : Heap) (n0 : Nat) (Z0 : n0 ≤ h0.size) (E2 : Exa Z h0 a2 "com/example/keen_verdict/keenverdict/AttributeValue") (D1 : Fld Z h0 a1 "com/example/keen_verdict/keenverdict/AttributeValue" "dataType" "Lcom/example/keen_verdict/keenverdict/DataType;" (.ref dd)) (D2 : Fld Z h0 a2 "com/example/keen_verdict/keenverdict/AttributeValue" "dataType" "Lcom/example/keen_verdict/keenverdict/DataType;" (.ref dd)) (ED : Exa Z h0 dd "com/example/keen_verdict/keenverdict/DataType") (V1 : Fld Z h0 a1 "com/example/keen_verdict/keenverdict/AttributeValue" "value" "Ljava/lang/Object;" (.ref v1)) (V2 : Fld Z h0 a2 "com/example/keen_verdict/keenverdict/AttributeValue" "value" "Ljava/lang/Object;" (.ref v2)) (B1 : Exa Z h0 v1 "java/lang/Boolean") (B2 : Exa Z h0 v2 "java/lang/Boolean") (Z1 : Fld Z h0 v1 "java/lang/Boolean" "value" "Z" (.int (0 : Int32))) (Z2 : Fld Z h0 v2 "java/lang/Boolean" "value" "Z" (.int (1 : Int32))) :
    MetFree l (⟨"com/example/keen_verdict/keenverdict/AttributeValue", "equals", "(Ljava/lang/Object;)Z"⟩ : MethodName) (head1 (Jvm.Cond.code (⟨"com/example/keen_verdict/keenverdict/AttributeValue", "equals", "(Ljava/lang/Object;)Z"⟩ : MethodName) prog_6_method_15_code 3 (some .boolean) :: ws) ({ frames := 2, cells := 0, slots := 0, locals := 26 } : Room)) (fun a U => a = #[(.ref a1), (.ref a2)] ∧ Z.Warmed39 U.vm ∧ U.heap = h0) (fun _ _ _ _ _ => True) (fun _ U o U' => ∃ v L, o = .returned v ∧ Q_ae0 Z a1 a2 dd v1 v2 h0 n0 v U'.heap L ∧ FrameEnd U o U' L ({ frames := 2, cells := 0, slots := 0, locals := 26 } : Room).cells ({ frames := 2, cells := 0, slots := 0, locals := 26 } : Room).slots) := by
  refine MetFree.of_bodySF (plainFor_of_name pn_com_example_keen_verdict_keenverdict_AttributeValue) hisR ?_
  intro p e s m args below meth c s₁ Bd hml0 hP hK
  obtain ⟨rfl, hZ, hh⟩ := hP
  have hx := Bd.exec
  have hby := Bd.bytes
  have hml : c.maxLocals = 3 := hml0
  have hown : s.vm.findClass "com/example/keen_verdict/keenverdict/AttributeValue" = some m.cls := findClass_of_methodNamed Bd.named
  have hnm := (name_of_methodNamed Bd.named Bd.method).1
  have X0 : Stand p l e ({ frames := 2, cells := 0, slots := 0, locals := 26 } : Room) s m #[(.ref a1), (.ref a2)] below meth c s₁ [] 0 0 := Stand.of_body Bd
  have e0 : s₁.heap = h0 := by rw [← hh, Bd.state]; rfl
  have N0 := Fr.nil n0
  have go0 : Goes p e below s₁ (entryFrame m #[(.ref a1), (.ref a2)] 3) s₁ (mkF m 0 #[.val (.ref a1), .val (.ref a2), .unset] []) := fun t k => castTop (by first | (simp [entryFrame, mkF, argsToLocals, Value.category]; done) | rfl) k
  have go34 : Goes p e below s₁ (entryFrame m #[(.ref a1), (.ref a2)] 3) s₁ (mkF m 1 #[.val (.ref a1), .val (.ref a2), .unset] [(.ref a2)]) := fun t k => go0 t (by
    show Steps p.tables e below (s₁.setTop (mkF m 0 #[.val (.ref a1), .val (.ref a2), .unset] [])) _
    refine XS.aloadN X0.here hx rfl (hb hby d8_0) rfl rfl ?_
    exact k)
  obtain ⟨T35, X35, e35, st35⟩ := instY X0 hx hZ hown (hw _ (List.mem_of_getElem? (i := 69) rfl)) e0 (Ins.self E2) (g := (mkF m 1 #[.val (.ref a1), .val (.ref a2), .unset] [(.ref a2)])) rfl rfl (hb hby d8_1)
  have go35 : Goes p e below s₁ (entryFrame m #[(.ref a1), (.ref a2)] 3) T35 (mkF m 4 #[.val (.ref a1), .val (.ref a2), .unset] [(.int (1 : Int32))]) := fun t k => go34 t (st35 _ k)
  have go36 : Goes p e below s₁ (entryFrame m #[(.ref a1), (.ref a2)] 3) T35 (mkF m 8 #[.val (.ref a1), .val (.ref a2), .unset] [(.ref a2)]) := fun t k => go35 t (by
    show Steps p.tables e below (T35.setTop (mkF m 4 #[.val (.ref a1), .val (.ref a2), .unset] [(.int (1 : Int32))])) _
    refine XS.ifNo X35.here hx rfl (hb hby d8_4) rfl ((if0 _ _).trans (feq (by decide)).1) ?_
    show Steps p.tables e below (T35.setTop (mkF m 7 #[.val (.ref a1), .val (.ref a2), .unset] [])) _
    refine XS.aloadN X35.here hx rfl (hb hby d8_7) rfl rfl ?_
    exact k)
  obtain ⟨T37, X37, e37, st37⟩ := castY X35 hx hZ hown (hw _ (List.mem_of_getElem? (i := 69) rfl)) e35 (Ins.self E2) (g := (mkF m 8 #[.val (.ref a1), .val (.ref a2), .unset] [(.ref a2)])) rfl rfl (hb hby d8_8)
  have go37 : Goes p e below s₁ (entryFrame m #[(.ref a1), (.ref a2)] 3) T37 (mkF m 11 #[.val (.ref a1), .val (.ref a2), .unset] [(.ref a2)]) := fun t k => go36 t (st37 _ k)
  have go38 : Goes p e below s₁ (entryFrame m #[(.ref a1), (.ref a2)] 3) T37 (mkF m 13 #[.val (.ref a1), .val (.ref a2), .val (.ref a2)] [(.ref a1)]) := fun t k => go37 t (by
    show Steps p.tables e below (T37.setTop (mkF m 11 #[.val (.ref a1), .val (.ref a2), .unset] [(.ref a2)])) _
    refine XS.astoreN X37.here hx rfl (hb hby d8_11) rfl rfl (l' := #[.val (.ref a1), .val (.ref a2), .val (.ref a2)]) rfl ?_
    show Steps p.tables e below (T37.setTop (mkF m 12 #[.val (.ref a1), .val (.ref a2), .val (.ref a2)] [])) _
    refine XS.aloadN X37.here hx rfl (hb hby d8_12) rfl rfl ?_
    exact k)
  obtain ⟨T39, X39, e39, st39⟩ := getF X37 hx hZ hown (host := "") (Or.inl (hw _ (List.mem_of_getElem? (i := 13) rfl))) Via.refl e37 D1 (g := (mkF m 13 #[.val (.ref a1), .val (.ref a2), .val (.ref a2)] [(.ref a1)])) rfl rfl (hb hby d8_13)
  have go39 : Goes p e below s₁ (entryFrame m #[(.ref a1), (.ref a2)] 3) T39 (mkF m 16 #[.val (.ref a1), .val (.ref a2), .val (.ref a2)] [(.ref dd)]) := fun t k => go38 t (st39 _ k)
  have go40 : Goes p e below s₁ (entryFrame m #[(.ref a1), (.ref a2)] 3) T39 (mkF m 17 #[.val (.ref a1), .val (.ref a2), .val (.ref a2)] [(.ref a2), (.ref dd)]) := fun t k => go39 t (by
    show Steps p.tables e below (T39.setTop (mkF m 16 #[.val (.ref a1), .val (.ref a2), .val (.ref a2)] [(.ref dd)])) _
    refine XS.aloadN X39.here hx rfl (hb hby d8_16) rfl rfl ?_
    exact k)
  obtain ⟨T41, X41, e41, st41⟩ := getF X39 hx hZ hown (host := "") (Or.inl (hw _ (List.mem_of_getElem? (i := 13) rfl))) Via.refl e39 D2 (g := (mkF m 17 #[.val (.ref a1), .val (.ref a2), .val (.ref a2)] [(.ref a2), (.ref dd)])) rfl rfl (hb hby d8_17)
  have go41 : Goes p e below s₁ (entryFrame m #[(.ref a1), (.ref a2)] 3) T41 (mkF m 20 #[.val (.ref a1), .val (.ref a2), .val (.ref a2)] [(.ref dd), (.ref dd)]) := fun t k => go40 t (st41 _ k)
  obtain ⟨cq42, kq42, q42a, q42b, q42c⟩ := isOf hZ e41 ED
  obtain ⟨_, _, ⟨T42, L42, k42, n42⟩, -, X42, ⟨Lc42, hQ42, l42, y42, z42⟩, st42⟩ := X41.virtualBack hx (y := (⟨"java/lang/Object", "equals", "(Ljava/lang/Object;)Z"⟩ : MethodName)) (z := (⟨"java/lang/Object", "equals", "(Ljava/lang/Object;)Z"⟩ : MethodName)) hown (mvT hZ (hw _ (List.mem_of_getElem? (i := 71) rfl))) (mvT hZ (hw _ (List.mem_of_getElem? (i := 72) rfl))) (notFace_of_selects (args := #[]) (mvT hZ (hw _ (List.mem_of_getElem? (i := 74) rfl)))) (mvT hZ (hw _ (List.mem_of_getElem? (i := 74) rfl))) (mvT hZ (hw _ (List.mem_of_getElem? (i := 73) rfl))) (by decide) (own_objEq (W := 0) dd n0 hx hZ (hw _ (List.mem_of_getElem? (i := 75) rfl)) (by decide) (by decide)) q42a q42c (g := (mkF m 20 #[.val (.ref a1), .val (.ref a2), .val (.ref a2)] [(.ref dd), (.ref dd)])) rfl (by rw [hml]; rfl) (Steps.refl _) (argsL := [(.ref dd)]) (rest := []) (lenOf pd_1 rfl) rfl (by show 2 * 0 + _ ≤ _; exact Nat.le_of_eq rfl) (hb hby d8_20) (fun _ _ => ⟨rfl, e41, (by decide : 0 + 0 ≤ _), (by decide : 0 + 0 ≤ _)⟩)
  dsimp only [Pt.U, Pt.locs, Pt.cells, Pt.slots] at X42 l42 y42 z42 st42 hQ42
  subst l42 y42 z42
  obtain ⟨rfl, Nq42, eq42⟩ := hQ42
  have N42 := Fr.app N0 Nq42
  have go42 : Goes p e below s₁ (entryFrame m #[(.ref a1), (.ref a2)] 3) T42 (mkF m 23 #[.val (.ref a1), .val (.ref a2), .val (.ref a2)] [(.int (1 : Int32))]) := fun t k => go41 t (st42.trans k)
  have go43 : Goes p e below s₁ (entryFrame m #[(.ref a1), (.ref a2)] 3) T42 (mkF m 27 #[.val (.ref a1), .val (.ref a2), .val (.ref a2)] [(.ref a1)]) := fun t k => go42 t (by
    show Steps p.tables e below (T42.setTop (mkF m 23 #[.val (.ref a1), .val (.ref a2), .val (.ref a2)] [(.int (1 : Int32))])) _
    refine XS.ifNo X42.here hx rfl (hb hby d8_23) rfl ((if0 _ _).trans (feq (by decide)).1) ?_
    show Steps p.tables e below (T42.setTop (mkF m 26 #[.val (.ref a1), .val (.ref a2), .val (.ref a2)] [])) _
    refine XS.aloadN X42.here hx rfl (hb hby d8_26) rfl rfl ?_
    exact k)
  obtain ⟨T44, X44, e44, st44⟩ := getF X42 hx hZ hown (host := "") (Or.inl (hw _ (List.mem_of_getElem? (i := 52) rfl))) Via.refl eq42 V1 (g := (mkF m 27 #[.val (.ref a1), .val (.ref a2), .val (.ref a2)] [(.ref a1)])) rfl rfl (hb hby d8_27)
  have go44 : Goes p e below s₁ (entryFrame m #[(.ref a1), (.ref a2)] 3) T44 (mkF m 30 #[.val (.ref a1), .val (.ref a2), .val (.ref a2)] [(.ref v1)]) := fun t k => go43 t (st44 _ k)
  have go45 : Goes p e below s₁ (entryFrame m #[(.ref a1), (.ref a2)] 3) T44 (mkF m 31 #[.val (.ref a1), .val (.ref a2), .val (.ref a2)] [(.ref a2), (.ref v1)]) := fun t k => go44 t (by
    show Steps p.tables e below (T44.setTop (mkF m 30 #[.val (.ref a1), .val (.ref a2), .val (.ref a2)] [(.ref v1)])) _
    refine XS.aloadN X44.here hx rfl (hb hby d8_30) rfl rfl ?_
    exact k)
  obtain ⟨T46, X46, e46, st46⟩ := getF X44 hx hZ hown (host := "") (Or.inl (hw _ (List.mem_of_getElem? (i := 52) rfl))) Via.refl e44 V2 (g := (mkF m 31 #[.val (.ref a1), .val (.ref a2), .val (.ref a2)] [(.ref a2), (.ref v1)])) rfl rfl (hb hby d8_31)
  have go46 : Goes p e below s₁ (entryFrame m #[(.ref a1), (.ref a2)] 3) T46 (mkF m 34 #[.val (.ref a1), .val (.ref a2), .val (.ref a2)] [(.ref v2), (.ref v1)]) := fun t k => go45 t (st46 _ k)
  obtain ⟨cq47, kq47, q47a, q47b, q47c⟩ := isOf hZ e46 B1
  obtain ⟨_, _, ⟨T47, L47, k47, n47⟩, -, X47, ⟨Lc47, hQ47, l47, y47, z47⟩, st47⟩ := X46.virtualBack hx (y := (⟨"java/lang/Object", "equals", "(Ljava/lang/Object;)Z"⟩ : MethodName)) (z := (⟨"java/lang/Boolean", "equals", "(Ljava/lang/Object;)Z"⟩ : MethodName)) hown (mvT hZ (hw _ (List.mem_of_getElem? (i := 71) rfl))) (mvT hZ (hw _ (List.mem_of_getElem? (i := 72) rfl))) (notFace_of_selects (args := #[]) (mvT hZ (hw _ (List.mem_of_getElem? (i := 74) rfl)))) (mvT hZ (hw _ (List.mem_of_getElem? (i := 76) rfl))) (mvT hZ (hw _ (List.mem_of_getElem? (i := 77) rfl))) (by decide) (backOf (W := 0) (be0 l Z a0 hw [] v1 v2  h0 n0 Z0 Z1 B2 Z2) hZ (hw _ (List.mem_of_getElem? (i := 78) rfl)) (hw _ (List.mem_of_getElem? (i := 60) rfl)) (by decide) (by decide)) q47a q47c (g := (mkF m 34 #[.val (.ref a1), .val (.ref a2), .val (.ref a2)] [(.ref v2), (.ref v1)])) rfl (by rw [hml]; rfl) (Steps.refl _) (argsL := [(.ref v2)]) (rest := []) (lenOf pd_1 rfl) rfl (by show 2 * 0 + _ ≤ _; exact Nat.le_of_eq rfl) (hb hby d8_34) (fun _ _ => ⟨rfl, e46, (by decide : 0 + 0 ≤ _), (by decide : 0 + 0 ≤ _)⟩)
  dsimp only [Pt.U, Pt.locs, Pt.cells, Pt.slots] at X47 l47 y47 z47 st47 hQ47
  subst l47 y47 z47
  obtain ⟨rfl, Nq47, eq47⟩ := hQ47
  have N47 := Fr.app N42 Nq47
  have go47 : Goes p e below s₁ (entryFrame m #[(.ref a1), (.ref a2)] 3) T47 (mkF m 37 #[.val (.ref a1), .val (.ref a2), .val (.ref a2)] [(.int (0 : Int32))]) := fun t k => go46 t (st47.trans k)
  have go48 : Goes p e below s₁ (entryFrame m #[(.ref a1), (.ref a2)] 3) T47 (mkF m 45 #[.val (.ref a1), .val (.ref a2), .val (.ref a2)] [(.int (0 : Int32))]) := fun t k => go47 t (by
    show Steps p.tables e below (T47.setTop (mkF m 37 #[.val (.ref a1), .val (.ref a2), .val (.ref a2)] [(.int (0 : Int32))])) _
    refine XS.ifYes X47.here hx rfl (pc0 := 37) (pc' := 44) rfl (hb hby d8_37) rfl ((if0 _ _).trans (teq (by decide)).1) (by decide) (by decide) ?_
    show Steps p.tables e below (T47.setTop (mkF m 44 #[.val (.ref a1), .val (.ref a2), .val (.ref a2)] [])) _
    refine XS.iconst X47.here hx rfl (hb hby d8_44) ?_
    exact k)
  obtain ⟨fs, hr, hrun, hended, hW, hsame⟩ := X47.leave (v := some (.int (0 : Int32))) (fun h => by rw [Bd.returns] at h; cases h)
  refine ⟨_, _, go48 _ ?_, hrun, hended, _, _, rfl, ?_, ⟨_, rfl⟩, hW, hsame.mono (by decide) (by decide)⟩
  · exact retN X47 hx (t := .boolean) Bd.returns (by simp) (hb hby d8_45) hr
  · show Q_ae0 Z a1 a2 dd v1 v2 h0 n0 _ T47.heap _
    rw [eq47]
    exact ⟨rfl, N47, rfl⟩
def Q_ae1 (Z : State) (a1 : Addr) (a2 : Addr) (dd v1 v2 : Addr) (h0 : Heap) (n0 : Nat) (v : Option Value) (h : Heap) (L : List Loc) : Prop := v = some (.int (0 : Int32)) ∧ Fr n0 L ∧ h = h0
set_option maxRecDepth 65536 in
set_option maxHeartbeats 40000000 in
theorem ae1 (l : Launch) (Z : State) (a0 : Array Value) (hw : ∀ d ∈ tables_1, d.before a0 Z = true) (ws : List Jvm.Cond) (a1 : Addr) (a2 : Addr) (dd v1 v2 : Addr) (h0 : Heap) (n0 : Nat) (Z0 : n0 ≤ h0.size) (E2 : Exa Z h0 a2 "com/example/keen_verdict/keenverdict/AttributeValue") (D1 : Fld Z h0 a1 "com/example/keen_verdict/keenverdict/AttributeValue" "dataType" "Lcom/example/keen_verdict/keenverdict/DataType;" (.ref dd)) (D2 : Fld Z h0 a2 "com/example/keen_verdict/keenverdict/AttributeValue" "dataType" "Lcom/example/keen_verdict/keenverdict/DataType;" (.ref dd)) (ED : Exa Z h0 dd "com/example/keen_verdict/keenverdict/DataType") (V1 : Fld Z h0 a1 "com/example/keen_verdict/keenverdict/AttributeValue" "value" "Ljava/lang/Object;" (.ref v1)) (V2 : Fld Z h0 a2 "com/example/keen_verdict/keenverdict/AttributeValue" "value" "Ljava/lang/Object;" (.ref v2)) (B1 : Exa Z h0 v1 "java/lang/Boolean") (B2 : Exa Z h0 v2 "java/lang/Boolean") (Z1 : Fld Z h0 v1 "java/lang/Boolean" "value" "Z" (.int (1 : Int32))) (Z2 : Fld Z h0 v2 "java/lang/Boolean" "value" "Z" (.int (0 : Int32))) :
    MetFree l (⟨"com/example/keen_verdict/keenverdict/AttributeValue", "equals", "(Ljava/lang/Object;)Z"⟩ : MethodName) (head1 (Jvm.Cond.code (⟨"com/example/keen_verdict/keenverdict/AttributeValue", "equals", "(Ljava/lang/Object;)Z"⟩ : MethodName) prog_6_method_15_code 3 (some .boolean) :: ws) ({ frames := 2, cells := 0, slots := 0, locals := 26 } : Room)) (fun a U => a = #[(.ref a1), (.ref a2)] ∧ Z.Warmed39 U.vm ∧ U.heap = h0) (fun _ _ _ _ _ => True) (fun _ U o U' => ∃ v L, o = .returned v ∧ Q_ae1 Z a1 a2 dd v1 v2 h0 n0 v U'.heap L ∧ FrameEnd U o U' L ({ frames := 2, cells := 0, slots := 0, locals := 26 } : Room).cells ({ frames := 2, cells := 0, slots := 0, locals := 26 } : Room).slots) := by
  refine MetFree.of_bodySF (plainFor_of_name pn_com_example_keen_verdict_keenverdict_AttributeValue) hisR ?_
  intro p e s m args below meth c s₁ Bd hml0 hP hK
  obtain ⟨rfl, hZ, hh⟩ := hP
  have hx := Bd.exec
  have hby := Bd.bytes
  have hml : c.maxLocals = 3 := hml0
  have hown : s.vm.findClass "com/example/keen_verdict/keenverdict/AttributeValue" = some m.cls := findClass_of_methodNamed Bd.named
  have hnm := (name_of_methodNamed Bd.named Bd.method).1
  have X0 : Stand p l e ({ frames := 2, cells := 0, slots := 0, locals := 26 } : Room) s m #[(.ref a1), (.ref a2)] below meth c s₁ [] 0 0 := Stand.of_body Bd
  have e0 : s₁.heap = h0 := by rw [← hh, Bd.state]; rfl
  have N0 := Fr.nil n0
  have go0 : Goes p e below s₁ (entryFrame m #[(.ref a1), (.ref a2)] 3) s₁ (mkF m 0 #[.val (.ref a1), .val (.ref a2), .unset] []) := fun t k => castTop (by first | (simp [entryFrame, mkF, argsToLocals, Value.category]; done) | rfl) k
  have go49 : Goes p e below s₁ (entryFrame m #[(.ref a1), (.ref a2)] 3) s₁ (mkF m 1 #[.val (.ref a1), .val (.ref a2), .unset] [(.ref a2)]) := fun t k => go0 t (by
    show Steps p.tables e below (s₁.setTop (mkF m 0 #[.val (.ref a1), .val (.ref a2), .unset] [])) _
    refine XS.aloadN X0.here hx rfl (hb hby d8_0) rfl rfl ?_
    exact k)
  obtain ⟨T50, X50, e50, st50⟩ := instY X0 hx hZ hown (hw _ (List.mem_of_getElem? (i := 69) rfl)) e0 (Ins.self E2) (g := (mkF m 1 #[.val (.ref a1), .val (.ref a2), .unset] [(.ref a2)])) rfl rfl (hb hby d8_1)
  have go50 : Goes p e below s₁ (entryFrame m #[(.ref a1), (.ref a2)] 3) T50 (mkF m 4 #[.val (.ref a1), .val (.ref a2), .unset] [(.int (1 : Int32))]) := fun t k => go49 t (st50 _ k)
  have go51 : Goes p e below s₁ (entryFrame m #[(.ref a1), (.ref a2)] 3) T50 (mkF m 8 #[.val (.ref a1), .val (.ref a2), .unset] [(.ref a2)]) := fun t k => go50 t (by
    show Steps p.tables e below (T50.setTop (mkF m 4 #[.val (.ref a1), .val (.ref a2), .unset] [(.int (1 : Int32))])) _
    refine XS.ifNo X50.here hx rfl (hb hby d8_4) rfl ((if0 _ _).trans (feq (by decide)).1) ?_
    show Steps p.tables e below (T50.setTop (mkF m 7 #[.val (.ref a1), .val (.ref a2), .unset] [])) _
    refine XS.aloadN X50.here hx rfl (hb hby d8_7) rfl rfl ?_
    exact k)
  obtain ⟨T52, X52, e52, st52⟩ := castY X50 hx hZ hown (hw _ (List.mem_of_getElem? (i := 69) rfl)) e50 (Ins.self E2) (g := (mkF m 8 #[.val (.ref a1), .val (.ref a2), .unset] [(.ref a2)])) rfl rfl (hb hby d8_8)
  have go52 : Goes p e below s₁ (entryFrame m #[(.ref a1), (.ref a2)] 3) T52 (mkF m 11 #[.val (.ref a1), .val (.ref a2), .unset] [(.ref a2)]) := fun t k => go51 t (st52 _ k)
  have go53 : Goes p e below s₁ (entryFrame m #[(.ref a1), (.ref a2)] 3) T52 (mkF m 13 #[.val (.ref a1), .val (.ref a2), .val (.ref a2)] [(.ref a1)]) := fun t k => go52 t (by
    show Steps p.tables e below (T52.setTop (mkF m 11 #[.val (.ref a1), .val (.ref a2), .unset] [(.ref a2)])) _
    refine XS.astoreN X52.here hx rfl (hb hby d8_11) rfl rfl (l' := #[.val (.ref a1), .val (.ref a2), .val (.ref a2)]) rfl ?_
    show Steps p.tables e below (T52.setTop (mkF m 12 #[.val (.ref a1), .val (.ref a2), .val (.ref a2)] [])) _
    refine XS.aloadN X52.here hx rfl (hb hby d8_12) rfl rfl ?_
    exact k)
  obtain ⟨T54, X54, e54, st54⟩ := getF X52 hx hZ hown (host := "") (Or.inl (hw _ (List.mem_of_getElem? (i := 13) rfl))) Via.refl e52 D1 (g := (mkF m 13 #[.val (.ref a1), .val (.ref a2), .val (.ref a2)] [(.ref a1)])) rfl rfl (hb hby d8_13)
  have go54 : Goes p e below s₁ (entryFrame m #[(.ref a1), (.ref a2)] 3) T54 (mkF m 16 #[.val (.ref a1), .val (.ref a2), .val (.ref a2)] [(.ref dd)]) := fun t k => go53 t (st54 _ k)
  have go55 : Goes p e below s₁ (entryFrame m #[(.ref a1), (.ref a2)] 3) T54 (mkF m 17 #[.val (.ref a1), .val (.ref a2), .val (.ref a2)] [(.ref a2), (.ref dd)]) := fun t k => go54 t (by
    show Steps p.tables e below (T54.setTop (mkF m 16 #[.val (.ref a1), .val (.ref a2), .val (.ref a2)] [(.ref dd)])) _
    refine XS.aloadN X54.here hx rfl (hb hby d8_16) rfl rfl ?_
    exact k)
  obtain ⟨T56, X56, e56, st56⟩ := getF X54 hx hZ hown (host := "") (Or.inl (hw _ (List.mem_of_getElem? (i := 13) rfl))) Via.refl e54 D2 (g := (mkF m 17 #[.val (.ref a1), .val (.ref a2), .val (.ref a2)] [(.ref a2), (.ref dd)])) rfl rfl (hb hby d8_17)
  have go56 : Goes p e below s₁ (entryFrame m #[(.ref a1), (.ref a2)] 3) T56 (mkF m 20 #[.val (.ref a1), .val (.ref a2), .val (.ref a2)] [(.ref dd), (.ref dd)]) := fun t k => go55 t (st56 _ k)
  obtain ⟨cq57, kq57, q57a, q57b, q57c⟩ := isOf hZ e56 ED
  obtain ⟨_, _, ⟨T57, L57, k57, n57⟩, -, X57, ⟨Lc57, hQ57, l57, y57, z57⟩, st57⟩ := X56.virtualBack hx (y := (⟨"java/lang/Object", "equals", "(Ljava/lang/Object;)Z"⟩ : MethodName)) (z := (⟨"java/lang/Object", "equals", "(Ljava/lang/Object;)Z"⟩ : MethodName)) hown (mvT hZ (hw _ (List.mem_of_getElem? (i := 71) rfl))) (mvT hZ (hw _ (List.mem_of_getElem? (i := 72) rfl))) (notFace_of_selects (args := #[]) (mvT hZ (hw _ (List.mem_of_getElem? (i := 74) rfl)))) (mvT hZ (hw _ (List.mem_of_getElem? (i := 74) rfl))) (mvT hZ (hw _ (List.mem_of_getElem? (i := 73) rfl))) (by decide) (own_objEq (W := 0) dd n0 hx hZ (hw _ (List.mem_of_getElem? (i := 75) rfl)) (by decide) (by decide)) q57a q57c (g := (mkF m 20 #[.val (.ref a1), .val (.ref a2), .val (.ref a2)] [(.ref dd), (.ref dd)])) rfl (by rw [hml]; rfl) (Steps.refl _) (argsL := [(.ref dd)]) (rest := []) (lenOf pd_1 rfl) rfl (by show 2 * 0 + _ ≤ _; exact Nat.le_of_eq rfl) (hb hby d8_20) (fun _ _ => ⟨rfl, e56, (by decide : 0 + 0 ≤ _), (by decide : 0 + 0 ≤ _)⟩)
  dsimp only [Pt.U, Pt.locs, Pt.cells, Pt.slots] at X57 l57 y57 z57 st57 hQ57
  subst l57 y57 z57
  obtain ⟨rfl, Nq57, eq57⟩ := hQ57
  have N57 := Fr.app N0 Nq57
  have go57 : Goes p e below s₁ (entryFrame m #[(.ref a1), (.ref a2)] 3) T57 (mkF m 23 #[.val (.ref a1), .val (.ref a2), .val (.ref a2)] [(.int (1 : Int32))]) := fun t k => go56 t (st57.trans k)
  have go58 : Goes p e below s₁ (entryFrame m #[(.ref a1), (.ref a2)] 3) T57 (mkF m 27 #[.val (.ref a1), .val (.ref a2), .val (.ref a2)] [(.ref a1)]) := fun t k => go57 t (by
    show Steps p.tables e below (T57.setTop (mkF m 23 #[.val (.ref a1), .val (.ref a2), .val (.ref a2)] [(.int (1 : Int32))])) _
    refine XS.ifNo X57.here hx rfl (hb hby d8_23) rfl ((if0 _ _).trans (feq (by decide)).1) ?_
    show Steps p.tables e below (T57.setTop (mkF m 26 #[.val (.ref a1), .val (.ref a2), .val (.ref a2)] [])) _
    refine XS.aloadN X57.here hx rfl (hb hby d8_26) rfl rfl ?_
    exact k)
  obtain ⟨T59, X59, e59, st59⟩ := getF X57 hx hZ hown (host := "") (Or.inl (hw _ (List.mem_of_getElem? (i := 52) rfl))) Via.refl eq57 V1 (g := (mkF m 27 #[.val (.ref a1), .val (.ref a2), .val (.ref a2)] [(.ref a1)])) rfl rfl (hb hby d8_27)
  have go59 : Goes p e below s₁ (entryFrame m #[(.ref a1), (.ref a2)] 3) T59 (mkF m 30 #[.val (.ref a1), .val (.ref a2), .val (.ref a2)] [(.ref v1)]) := fun t k => go58 t (st59 _ k)
  have go60 : Goes p e below s₁ (entryFrame m #[(.ref a1), (.ref a2)] 3) T59 (mkF m 31 #[.val (.ref a1), .val (.ref a2), .val (.ref a2)] [(.ref a2), (.ref v1)]) := fun t k => go59 t (by
    show Steps p.tables e below (T59.setTop (mkF m 30 #[.val (.ref a1), .val (.ref a2), .val (.ref a2)] [(.ref v1)])) _
    refine XS.aloadN X59.here hx rfl (hb hby d8_30) rfl rfl ?_
    exact k)
  obtain ⟨T61, X61, e61, st61⟩ := getF X59 hx hZ hown (host := "") (Or.inl (hw _ (List.mem_of_getElem? (i := 52) rfl))) Via.refl e59 V2 (g := (mkF m 31 #[.val (.ref a1), .val (.ref a2), .val (.ref a2)] [(.ref a2), (.ref v1)])) rfl rfl (hb hby d8_31)
  have go61 : Goes p e below s₁ (entryFrame m #[(.ref a1), (.ref a2)] 3) T61 (mkF m 34 #[.val (.ref a1), .val (.ref a2), .val (.ref a2)] [(.ref v2), (.ref v1)]) := fun t k => go60 t (st61 _ k)
  obtain ⟨cq62, kq62, q62a, q62b, q62c⟩ := isOf hZ e61 B1
  obtain ⟨_, _, ⟨T62, L62, k62, n62⟩, -, X62, ⟨Lc62, hQ62, l62, y62, z62⟩, st62⟩ := X61.virtualBack hx (y := (⟨"java/lang/Object", "equals", "(Ljava/lang/Object;)Z"⟩ : MethodName)) (z := (⟨"java/lang/Boolean", "equals", "(Ljava/lang/Object;)Z"⟩ : MethodName)) hown (mvT hZ (hw _ (List.mem_of_getElem? (i := 71) rfl))) (mvT hZ (hw _ (List.mem_of_getElem? (i := 72) rfl))) (notFace_of_selects (args := #[]) (mvT hZ (hw _ (List.mem_of_getElem? (i := 74) rfl)))) (mvT hZ (hw _ (List.mem_of_getElem? (i := 76) rfl))) (mvT hZ (hw _ (List.mem_of_getElem? (i := 77) rfl))) (by decide) (backOf (W := 0) (be1 l Z a0 hw [] v1 v2  h0 n0 Z0 Z1 B2 Z2) hZ (hw _ (List.mem_of_getElem? (i := 78) rfl)) (hw _ (List.mem_of_getElem? (i := 60) rfl)) (by decide) (by decide)) q62a q62c (g := (mkF m 34 #[.val (.ref a1), .val (.ref a2), .val (.ref a2)] [(.ref v2), (.ref v1)])) rfl (by rw [hml]; rfl) (Steps.refl _) (argsL := [(.ref v2)]) (rest := []) (lenOf pd_1 rfl) rfl (by show 2 * 0 + _ ≤ _; exact Nat.le_of_eq rfl) (hb hby d8_34) (fun _ _ => ⟨rfl, e61, (by decide : 0 + 0 ≤ _), (by decide : 0 + 0 ≤ _)⟩)
  dsimp only [Pt.U, Pt.locs, Pt.cells, Pt.slots] at X62 l62 y62 z62 st62 hQ62
  subst l62 y62 z62
  obtain ⟨rfl, Nq62, eq62⟩ := hQ62
  have N62 := Fr.app N57 Nq62
  have go62 : Goes p e below s₁ (entryFrame m #[(.ref a1), (.ref a2)] 3) T62 (mkF m 37 #[.val (.ref a1), .val (.ref a2), .val (.ref a2)] [(.int (0 : Int32))]) := fun t k => go61 t (st62.trans k)
  have go63 : Goes p e below s₁ (entryFrame m #[(.ref a1), (.ref a2)] 3) T62 (mkF m 45 #[.val (.ref a1), .val (.ref a2), .val (.ref a2)] [(.int (0 : Int32))]) := fun t k => go62 t (by
    show Steps p.tables e below (T62.setTop (mkF m 37 #[.val (.ref a1), .val (.ref a2), .val (.ref a2)] [(.int (0 : Int32))])) _
    refine XS.ifYes X62.here hx rfl (pc0 := 37) (pc' := 44) rfl (hb hby d8_37) rfl ((if0 _ _).trans (teq (by decide)).1) (by decide) (by decide) ?_
    show Steps p.tables e below (T62.setTop (mkF m 44 #[.val (.ref a1), .val (.ref a2), .val (.ref a2)] [])) _
    refine XS.iconst X62.here hx rfl (hb hby d8_44) ?_
    exact k)
  obtain ⟨fs, hr, hrun, hended, hW, hsame⟩ := X62.leave (v := some (.int (0 : Int32))) (fun h => by rw [Bd.returns] at h; cases h)
  refine ⟨_, _, go63 _ ?_, hrun, hended, _, _, rfl, ?_, ⟨_, rfl⟩, hW, hsame.mono (by decide) (by decide)⟩
  · exact retN X62 hx (t := .boolean) Bd.returns (by simp) (hb hby d8_45) hr
  · show Q_ae1 Z a1 a2 dd v1 v2 h0 n0 _ T62.heap _
    rw [eq62]
    exact ⟨rfl, N62, rfl⟩
theorem d5_0 : decode jdk_43_method_13_code 0 = .ok (.aload_n 0, 1) := by decide +kernel
theorem d5_1 : decode jdk_43_method_13_code 1 = .ok (.arraylength, 1) := by decide +kernel
theorem d5_2 : decode jdk_43_method_13_code 2 = .ok (.aload_n 1, 1) := by decide +kernel
theorem d5_3 : decode jdk_43_method_13_code 3 = .ok (.arraylength, 1) := by decide +kernel
theorem d5_4 : decode jdk_43_method_13_code 4 = .ok (.if_icmp .ne 30, 3) := by decide +kernel
theorem d5_7 : decode jdk_43_method_13_code 7 = .ok (.iconst 0, 1) := by decide +kernel
theorem d5_8 : decode jdk_43_method_13_code 8 = .ok (.istore_n 2, 1) := by decide +kernel
theorem d5_9 : decode jdk_43_method_13_code 9 = .ok (.iload_n 2, 1) := by decide +kernel
theorem d5_10 : decode jdk_43_method_13_code 10 = .ok (.aload_n 0, 1) := by decide +kernel
theorem d5_11 : decode jdk_43_method_13_code 11 = .ok (.arraylength, 1) := by decide +kernel
theorem d5_12 : decode jdk_43_method_13_code 12 = .ok (.if_icmp .ge 20, 3) := by decide +kernel
theorem d5_15 : decode jdk_43_method_13_code 15 = .ok (.aload_n 0, 1) := by decide +kernel
theorem d5_16 : decode jdk_43_method_13_code 16 = .ok (.iload_n 2, 1) := by decide +kernel
theorem d5_17 : decode jdk_43_method_13_code 17 = .ok (.baload, 1) := by decide +kernel
theorem d5_18 : decode jdk_43_method_13_code 18 = .ok (.aload_n 1, 1) := by decide +kernel
theorem d5_19 : decode jdk_43_method_13_code 19 = .ok (.iload_n 2, 1) := by decide +kernel
theorem d5_20 : decode jdk_43_method_13_code 20 = .ok (.baload, 1) := by decide +kernel
theorem d5_21 : decode jdk_43_method_13_code 21 = .ok (.if_icmp .eq 5, 3) := by decide +kernel
theorem d5_26 : decode jdk_43_method_13_code 26 = .ok (.iinc 2 1, 3) := by decide +kernel
theorem d5_29 : decode jdk_43_method_13_code 29 = .ok (.goto (-20), 3) := by decide +kernel
theorem d5_32 : decode jdk_43_method_13_code 32 = .ok (.iconst 1, 1) := by decide +kernel
theorem d5_33 : decode jdk_43_method_13_code 33 = .ok (.ireturn, 1) := by decide +kernel
def Q_le1 (Z : State) (a1 : Addr) (a2 : Addr) (k1 k2 : ClassId) (h0 : Heap) (n0 : Nat) (v : Option Value) (h : Heap) (L : List Loc) : Prop := v = some (.int (1 : Int32)) ∧ Fr n0 L ∧ h = h0
theorem pn_java_lang_StringLatin1 : plainName "java/lang/StringLatin1" = true := by first | (simp [plainName, overriddenIn]; done) | decide +kernel
set_option maxRecDepth 65536 in
set_option maxHeartbeats 40000000 in
theorem le1 (l : Launch) (Z : State) (a0 : Array Value) (hw : ∀ d ∈ tables_1, d.before a0 Z = true) (ws : List Jvm.Cond) (a1 : Addr) (a2 : Addr) (k1 k2 : ClassId) (h0 : Heap) (n0 : Nat) (Z0 : n0 ≤ h0.size) (V1 : Arv Z h0 a1 k1 .byte (4 : Int32) [(.int (116 : Int32)), (.int (114 : Int32)), (.int (117 : Int32)), (.int (101 : Int32))] (.int (0 : Int32))) (V2 : Arv Z h0 a2 k2 .byte (4 : Int32) [(.int (116 : Int32)), (.int (114 : Int32)), (.int (117 : Int32)), (.int (101 : Int32))] (.int (0 : Int32))) :
    MetFree l (⟨"java/lang/StringLatin1", "equals", "([B[B)Z"⟩ : MethodName) (head1 (Jvm.Cond.code (⟨"java/lang/StringLatin1", "equals", "([B[B)Z"⟩ : MethodName) jdk_43_method_13_code 3 (some .boolean) :: ws) ({ frames := 0, cells := 0, slots := 0, locals := 0 } : Room)) (fun a U => a = #[(.ref a1), (.ref a2)] ∧ Z.Warmed39 U.vm ∧ U.heap = h0) (fun _ _ _ _ _ => True) (fun _ U o U' => ∃ v L, o = .returned v ∧ Q_le1 Z a1 a2 k1 k2 h0 n0 v U'.heap L ∧ FrameEnd U o U' L ({ frames := 0, cells := 0, slots := 0, locals := 0 } : Room).cells ({ frames := 0, cells := 0, slots := 0, locals := 0 } : Room).slots) := by
  refine MetFree.of_bodySF (plainFor_of_name pn_java_lang_StringLatin1) hisR ?_
  intro p e s m args below meth c s₁ Bd hml0 hP hK
  obtain ⟨rfl, hZ, hh⟩ := hP
  have hx := Bd.exec
  have hby := Bd.bytes
  have hml : c.maxLocals = 3 := hml0
  have hown : s.vm.findClass "java/lang/StringLatin1" = some m.cls := findClass_of_methodNamed Bd.named
  have hnm := (name_of_methodNamed Bd.named Bd.method).1
  have X0 : Stand p l e ({ frames := 0, cells := 0, slots := 0, locals := 0 } : Room) s m #[(.ref a1), (.ref a2)] below meth c s₁ [] 0 0 := Stand.of_body Bd
  have e0 : s₁.heap = h0 := by rw [← hh, Bd.state]; rfl
  have N0 := Fr.nil n0
  have go0 : Goes p e below s₁ (entryFrame m #[(.ref a1), (.ref a2)] 3) s₁ (mkF m 0 #[.val (.ref a1), .val (.ref a2), .unset] []) := fun t k => castTop (by first | (simp [entryFrame, mkF, argsToLocals, Value.category]; done) | rfl) k
  have go64 : Goes p e below s₁ (entryFrame m #[(.ref a1), (.ref a2)] 3) s₁ (mkF m 1 #[.val (.ref a1), .val (.ref a2), .unset] [(.ref a1)]) := fun t k => go0 t (by
    show Steps p.tables e below (s₁.setTop (mkF m 0 #[.val (.ref a1), .val (.ref a2), .unset] [])) _
    refine XS.aloadN X0.here hx rfl (hb hby d5_0) rfl rfl ?_
    exact k)
  obtain ⟨cl65, Ar65, q65, S65, N_65, H65, G65⟩ := id (V1)
  have go66 : Goes p e below s₁ (entryFrame m #[(.ref a1), (.ref a2)] 3) s₁ (mkF m 3 #[.val (.ref a1), .val (.ref a2), .unset] [(.ref a2), (.int (4 : Int32))]) := fun t k => go64 t (by
    show Steps p.tables e below (s₁.setTop (mkF m 1 #[.val (.ref a1), .val (.ref a2), .unset] [(.ref a1)])) _
    refine X0.arraylength hx (by rw [e0]; exact Ar65.1) (State.isArrayOf_alike hZ.alike Ar65.2.1) (g := (mkF m 1 #[.val (.ref a1), .val (.ref a2), .unset] [(.ref a1)])) rfl rfl (hb hby d5_1) _ ?_
    rw [len_of S65 N_65]
    show Steps p.tables e below (s₁.setTop (mkF m 2 #[.val (.ref a1), .val (.ref a2), .unset] [(.int (4 : Int32))])) _
    refine XS.aloadN X0.here hx rfl (hb hby d5_2) rfl rfl ?_
    exact k)
  obtain ⟨cl67, Ar67, q67, S67, N_67, H67, G67⟩ := id (V2)
  have go68 : Goes p e below s₁ (entryFrame m #[(.ref a1), (.ref a2)] 3) s₁ (mkF m 4 #[.val (.ref a1), .val (.ref a2), .unset] [(.int (4 : Int32)), (.int (4 : Int32))]) := fun t k => go66 t (by
    show Steps p.tables e below (s₁.setTop (mkF m 3 #[.val (.ref a1), .val (.ref a2), .unset] [(.ref a2), (.int (4 : Int32))])) _
    refine X0.arraylength hx (by rw [e0]; exact Ar67.1) (State.isArrayOf_alike hZ.alike Ar67.2.1) (g := (mkF m 3 #[.val (.ref a1), .val (.ref a2), .unset] [(.ref a2), (.int (4 : Int32))])) rfl rfl (hb hby d5_3) _ ?_
    rw [len_of S67 N_67]
    exact k)
  have go69 : Goes p e below s₁ (entryFrame m #[(.ref a1), (.ref a2)] 3) s₁ (mkF m 11 #[.val (.ref a1), .val (.ref a2), .val (.int (0 : Int32))] [(.ref a1), (.int (0 : Int32))]) := fun t k => go68 t (by
    show Steps p.tables e below (s₁.setTop (mkF m 4 #[.val (.ref a1), .val (.ref a2), .unset] [(.int (4 : Int32)), (.int (4 : Int32))])) _
    refine XS.icmpNo X0.here hx rfl (hb hby d5_4) rfl (teq rfl).2 ?_
    show Steps p.tables e below (s₁.setTop (mkF m 7 #[.val (.ref a1), .val (.ref a2), .unset] [])) _
    refine XS.iconst X0.here hx rfl (hb hby d5_7) ?_
    show Steps p.tables e below (s₁.setTop (mkF m 8 #[.val (.ref a1), .val (.ref a2), .unset] [(.int (0 : Int32))])) _
    refine XS.istoreN X0.here hx rfl (hb hby d5_8) rfl (l' := #[.val (.ref a1), .val (.ref a2), .val (.int (0 : Int32))]) rfl ?_
    show Steps p.tables e below (s₁.setTop (mkF m 9 #[.val (.ref a1), .val (.ref a2), .val (.int (0 : Int32))] [])) _
    refine XS.iloadN X0.here hx rfl (hb hby d5_9) rfl ?_
    show Steps p.tables e below (s₁.setTop (mkF m 10 #[.val (.ref a1), .val (.ref a2), .val (.int (0 : Int32))] [(.int (0 : Int32))])) _
    refine XS.aloadN X0.here hx rfl (hb hby d5_10) rfl rfl ?_
    exact k)
  obtain ⟨cl70, Ar70, q70, S70, N_70, H70, G70⟩ := id (V1)
  have go71 : Goes p e below s₁ (entryFrame m #[(.ref a1), (.ref a2)] 3) s₁ (mkF m 12 #[.val (.ref a1), .val (.ref a2), .val (.int (0 : Int32))] [(.int (4 : Int32)), (.int (0 : Int32))]) := fun t k => go69 t (by
    show Steps p.tables e below (s₁.setTop (mkF m 11 #[.val (.ref a1), .val (.ref a2), .val (.int (0 : Int32))] [(.ref a1), (.int (0 : Int32))])) _
    refine X0.arraylength hx (by rw [e0]; exact Ar70.1) (State.isArrayOf_alike hZ.alike Ar70.2.1) (g := (mkF m 11 #[.val (.ref a1), .val (.ref a2), .val (.int (0 : Int32))] [(.ref a1), (.int (0 : Int32))])) rfl rfl (hb hby d5_11) _ ?_
    rw [len_of S70 N_70]
    exact k)
  have go72 : Goes p e below s₁ (entryFrame m #[(.ref a1), (.ref a2)] 3) s₁ (mkF m 17 #[.val (.ref a1), .val (.ref a2), .val (.int (0 : Int32))] [(.int (0 : Int32)), (.ref a1)]) := fun t k => go71 t (by
    show Steps p.tables e below (s₁.setTop (mkF m 12 #[.val (.ref a1), .val (.ref a2), .val (.int (0 : Int32))] [(.int (4 : Int32)), (.int (0 : Int32))])) _
    refine XS.icmpNo X0.here hx rfl (hb hby d5_12) rfl (tlt (by decide)).2.1 ?_
    show Steps p.tables e below (s₁.setTop (mkF m 15 #[.val (.ref a1), .val (.ref a2), .val (.int (0 : Int32))] [])) _
    refine XS.aloadN X0.here hx rfl (hb hby d5_15) rfl rfl ?_
    show Steps p.tables e below (s₁.setTop (mkF m 16 #[.val (.ref a1), .val (.ref a2), .val (.int (0 : Int32))] [(.ref a1)])) _
    refine XS.iloadN X0.here hx rfl (hb hby d5_16) rfl ?_
    exact k)
  obtain ⟨cl73, Ar73, q73, S73, N_73, H73, G73⟩ := id (V1)
  have hin73 : ¬ ((0 : Int32) < 0 ∨ cl73.slots.size ≤ ((0 : Int32)).toNatClampNeg) := inb_of S73 ⟨by decide, by decide⟩
  have hat73 := Has.at H73 hin73 (v := (.int (116 : Int32))) rfl
  have go74 : Goes p e below s₁ (entryFrame m #[(.ref a1), (.ref a2)] 3) s₁ (mkF m 20 #[.val (.ref a1), .val (.ref a2), .val (.int (0 : Int32))] [(.int (0 : Int32)), (.ref a2), (.int (116 : Int32))]) := fun t k => go72 t (by
    show Steps p.tables e below (s₁.setTop (mkF m 17 #[.val (.ref a1), .val (.ref a2), .val (.int (0 : Int32))] [(.int (0 : Int32)), (.ref a1)])) _
    refine X0.baloadBytes hx (j := (0 : Int32)) (v := (.int (116 : Int32))) (by rw [e0]; exact Ar73.1) (State.isArrayOf_alike hZ.alike Ar73.2.1) Ar73.2.2 hin73 hat73 (g := (mkF m 17 #[.val (.ref a1), .val (.ref a2), .val (.int (0 : Int32))] [(.int (0 : Int32)), (.ref a1)])) rfl rfl (hb hby d5_17) _ ?_
    show Steps p.tables e below (s₁.setTop (mkF m 18 #[.val (.ref a1), .val (.ref a2), .val (.int (0 : Int32))] [(.int (116 : Int32))])) _
    refine XS.aloadN X0.here hx rfl (hb hby d5_18) rfl rfl ?_
    show Steps p.tables e below (s₁.setTop (mkF m 19 #[.val (.ref a1), .val (.ref a2), .val (.int (0 : Int32))] [(.ref a2), (.int (116 : Int32))])) _
    refine XS.iloadN X0.here hx rfl (hb hby d5_19) rfl ?_
    exact k)
  obtain ⟨cl75, Ar75, q75, S75, N_75, H75, G75⟩ := id (V2)
  have hin75 : ¬ ((0 : Int32) < 0 ∨ cl75.slots.size ≤ ((0 : Int32)).toNatClampNeg) := inb_of S75 ⟨by decide, by decide⟩
  have hat75 := Has.at H75 hin75 (v := (.int (116 : Int32))) rfl
  have go76 : Goes p e below s₁ (entryFrame m #[(.ref a1), (.ref a2)] 3) s₁ (mkF m 21 #[.val (.ref a1), .val (.ref a2), .val (.int (0 : Int32))] [(.int (116 : Int32)), (.int (116 : Int32))]) := fun t k => go74 t (by
    show Steps p.tables e below (s₁.setTop (mkF m 20 #[.val (.ref a1), .val (.ref a2), .val (.int (0 : Int32))] [(.int (0 : Int32)), (.ref a2), (.int (116 : Int32))])) _
    refine X0.baloadBytes hx (j := (0 : Int32)) (v := (.int (116 : Int32))) (by rw [e0]; exact Ar75.1) (State.isArrayOf_alike hZ.alike Ar75.2.1) Ar75.2.2 hin75 hat75 (g := (mkF m 20 #[.val (.ref a1), .val (.ref a2), .val (.int (0 : Int32))] [(.int (0 : Int32)), (.ref a2), (.int (116 : Int32))])) rfl rfl (hb hby d5_20) _ ?_
    exact k)
  have go77 : Goes p e below s₁ (entryFrame m #[(.ref a1), (.ref a2)] 3) s₁ (mkF m 11 #[.val (.ref a1), .val (.ref a2), .val (.int (1 : Int32))] [(.ref a1), (.int (1 : Int32))]) := fun t k => go76 t (by
    show Steps p.tables e below (s₁.setTop (mkF m 21 #[.val (.ref a1), .val (.ref a2), .val (.int (0 : Int32))] [(.int (116 : Int32)), (.int (116 : Int32))])) _
    refine XS.icmpYes X0.here hx rfl (pc0 := 21) (pc' := 26) rfl (hb hby d5_21) rfl (teq rfl).1 (by decide) (by decide) ?_
    show Steps p.tables e below (s₁.setTop (mkF m 26 #[.val (.ref a1), .val (.ref a2), .val (.int (0 : Int32))] [])) _
    refine XS.iinc X0.here hx rfl (hb hby d5_26) rfl (l' := #[.val (.ref a1), .val (.ref a2), .val (.int (1 : Int32))]) rfl ?_
    show Steps p.tables e below (s₁.setTop (mkF m 29 #[.val (.ref a1), .val (.ref a2), .val (.int (1 : Int32))] [])) _
    refine XS.goto X0.here hx rfl (pc0 := 29) (pc' := 9) rfl (hb hby d5_29) (by decide) (by decide) ?_
    show Steps p.tables e below (s₁.setTop (mkF m 9 #[.val (.ref a1), .val (.ref a2), .val (.int (1 : Int32))] [])) _
    refine XS.iloadN X0.here hx rfl (hb hby d5_9) rfl ?_
    show Steps p.tables e below (s₁.setTop (mkF m 10 #[.val (.ref a1), .val (.ref a2), .val (.int (1 : Int32))] [(.int (1 : Int32))])) _
    refine XS.aloadN X0.here hx rfl (hb hby d5_10) rfl rfl ?_
    exact k)
  obtain ⟨cl78, Ar78, q78, S78, N_78, H78, G78⟩ := id (V1)
  have go79 : Goes p e below s₁ (entryFrame m #[(.ref a1), (.ref a2)] 3) s₁ (mkF m 12 #[.val (.ref a1), .val (.ref a2), .val (.int (1 : Int32))] [(.int (4 : Int32)), (.int (1 : Int32))]) := fun t k => go77 t (by
    show Steps p.tables e below (s₁.setTop (mkF m 11 #[.val (.ref a1), .val (.ref a2), .val (.int (1 : Int32))] [(.ref a1), (.int (1 : Int32))])) _
    refine X0.arraylength hx (by rw [e0]; exact Ar78.1) (State.isArrayOf_alike hZ.alike Ar78.2.1) (g := (mkF m 11 #[.val (.ref a1), .val (.ref a2), .val (.int (1 : Int32))] [(.ref a1), (.int (1 : Int32))])) rfl rfl (hb hby d5_11) _ ?_
    rw [len_of S78 N_78]
    exact k)
  have go80 : Goes p e below s₁ (entryFrame m #[(.ref a1), (.ref a2)] 3) s₁ (mkF m 17 #[.val (.ref a1), .val (.ref a2), .val (.int (1 : Int32))] [(.int (1 : Int32)), (.ref a1)]) := fun t k => go79 t (by
    show Steps p.tables e below (s₁.setTop (mkF m 12 #[.val (.ref a1), .val (.ref a2), .val (.int (1 : Int32))] [(.int (4 : Int32)), (.int (1 : Int32))])) _
    refine XS.icmpNo X0.here hx rfl (hb hby d5_12) rfl (tlt (by decide)).2.1 ?_
    show Steps p.tables e below (s₁.setTop (mkF m 15 #[.val (.ref a1), .val (.ref a2), .val (.int (1 : Int32))] [])) _
    refine XS.aloadN X0.here hx rfl (hb hby d5_15) rfl rfl ?_
    show Steps p.tables e below (s₁.setTop (mkF m 16 #[.val (.ref a1), .val (.ref a2), .val (.int (1 : Int32))] [(.ref a1)])) _
    refine XS.iloadN X0.here hx rfl (hb hby d5_16) rfl ?_
    exact k)
  obtain ⟨cl81, Ar81, q81, S81, N_81, H81, G81⟩ := id (V1)
  have hin81 : ¬ ((1 : Int32) < 0 ∨ cl81.slots.size ≤ ((1 : Int32)).toNatClampNeg) := inb_of S81 ⟨by decide, by decide⟩
  have hat81 := Has.at H81 hin81 (v := (.int (114 : Int32))) rfl
  have go82 : Goes p e below s₁ (entryFrame m #[(.ref a1), (.ref a2)] 3) s₁ (mkF m 20 #[.val (.ref a1), .val (.ref a2), .val (.int (1 : Int32))] [(.int (1 : Int32)), (.ref a2), (.int (114 : Int32))]) := fun t k => go80 t (by
    show Steps p.tables e below (s₁.setTop (mkF m 17 #[.val (.ref a1), .val (.ref a2), .val (.int (1 : Int32))] [(.int (1 : Int32)), (.ref a1)])) _
    refine X0.baloadBytes hx (j := (1 : Int32)) (v := (.int (114 : Int32))) (by rw [e0]; exact Ar81.1) (State.isArrayOf_alike hZ.alike Ar81.2.1) Ar81.2.2 hin81 hat81 (g := (mkF m 17 #[.val (.ref a1), .val (.ref a2), .val (.int (1 : Int32))] [(.int (1 : Int32)), (.ref a1)])) rfl rfl (hb hby d5_17) _ ?_
    show Steps p.tables e below (s₁.setTop (mkF m 18 #[.val (.ref a1), .val (.ref a2), .val (.int (1 : Int32))] [(.int (114 : Int32))])) _
    refine XS.aloadN X0.here hx rfl (hb hby d5_18) rfl rfl ?_
    show Steps p.tables e below (s₁.setTop (mkF m 19 #[.val (.ref a1), .val (.ref a2), .val (.int (1 : Int32))] [(.ref a2), (.int (114 : Int32))])) _
    refine XS.iloadN X0.here hx rfl (hb hby d5_19) rfl ?_
    exact k)
  obtain ⟨cl83, Ar83, q83, S83, N_83, H83, G83⟩ := id (V2)
  have hin83 : ¬ ((1 : Int32) < 0 ∨ cl83.slots.size ≤ ((1 : Int32)).toNatClampNeg) := inb_of S83 ⟨by decide, by decide⟩
  have hat83 := Has.at H83 hin83 (v := (.int (114 : Int32))) rfl
  have go84 : Goes p e below s₁ (entryFrame m #[(.ref a1), (.ref a2)] 3) s₁ (mkF m 21 #[.val (.ref a1), .val (.ref a2), .val (.int (1 : Int32))] [(.int (114 : Int32)), (.int (114 : Int32))]) := fun t k => go82 t (by
    show Steps p.tables e below (s₁.setTop (mkF m 20 #[.val (.ref a1), .val (.ref a2), .val (.int (1 : Int32))] [(.int (1 : Int32)), (.ref a2), (.int (114 : Int32))])) _
    refine X0.baloadBytes hx (j := (1 : Int32)) (v := (.int (114 : Int32))) (by rw [e0]; exact Ar83.1) (State.isArrayOf_alike hZ.alike Ar83.2.1) Ar83.2.2 hin83 hat83 (g := (mkF m 20 #[.val (.ref a1), .val (.ref a2), .val (.int (1 : Int32))] [(.int (1 : Int32)), (.ref a2), (.int (114 : Int32))])) rfl rfl (hb hby d5_20) _ ?_
    exact k)
  have go85 : Goes p e below s₁ (entryFrame m #[(.ref a1), (.ref a2)] 3) s₁ (mkF m 11 #[.val (.ref a1), .val (.ref a2), .val (.int (2 : Int32))] [(.ref a1), (.int (2 : Int32))]) := fun t k => go84 t (by
    show Steps p.tables e below (s₁.setTop (mkF m 21 #[.val (.ref a1), .val (.ref a2), .val (.int (1 : Int32))] [(.int (114 : Int32)), (.int (114 : Int32))])) _
    refine XS.icmpYes X0.here hx rfl (pc0 := 21) (pc' := 26) rfl (hb hby d5_21) rfl (teq rfl).1 (by decide) (by decide) ?_
    show Steps p.tables e below (s₁.setTop (mkF m 26 #[.val (.ref a1), .val (.ref a2), .val (.int (1 : Int32))] [])) _
    refine XS.iinc X0.here hx rfl (hb hby d5_26) rfl (l' := #[.val (.ref a1), .val (.ref a2), .val (.int (2 : Int32))]) rfl ?_
    show Steps p.tables e below (s₁.setTop (mkF m 29 #[.val (.ref a1), .val (.ref a2), .val (.int (2 : Int32))] [])) _
    refine XS.goto X0.here hx rfl (pc0 := 29) (pc' := 9) rfl (hb hby d5_29) (by decide) (by decide) ?_
    show Steps p.tables e below (s₁.setTop (mkF m 9 #[.val (.ref a1), .val (.ref a2), .val (.int (2 : Int32))] [])) _
    refine XS.iloadN X0.here hx rfl (hb hby d5_9) rfl ?_
    show Steps p.tables e below (s₁.setTop (mkF m 10 #[.val (.ref a1), .val (.ref a2), .val (.int (2 : Int32))] [(.int (2 : Int32))])) _
    refine XS.aloadN X0.here hx rfl (hb hby d5_10) rfl rfl ?_
    exact k)
  obtain ⟨cl86, Ar86, q86, S86, N_86, H86, G86⟩ := id (V1)
  have go87 : Goes p e below s₁ (entryFrame m #[(.ref a1), (.ref a2)] 3) s₁ (mkF m 12 #[.val (.ref a1), .val (.ref a2), .val (.int (2 : Int32))] [(.int (4 : Int32)), (.int (2 : Int32))]) := fun t k => go85 t (by
    show Steps p.tables e below (s₁.setTop (mkF m 11 #[.val (.ref a1), .val (.ref a2), .val (.int (2 : Int32))] [(.ref a1), (.int (2 : Int32))])) _
    refine X0.arraylength hx (by rw [e0]; exact Ar86.1) (State.isArrayOf_alike hZ.alike Ar86.2.1) (g := (mkF m 11 #[.val (.ref a1), .val (.ref a2), .val (.int (2 : Int32))] [(.ref a1), (.int (2 : Int32))])) rfl rfl (hb hby d5_11) _ ?_
    rw [len_of S86 N_86]
    exact k)
  have go88 : Goes p e below s₁ (entryFrame m #[(.ref a1), (.ref a2)] 3) s₁ (mkF m 17 #[.val (.ref a1), .val (.ref a2), .val (.int (2 : Int32))] [(.int (2 : Int32)), (.ref a1)]) := fun t k => go87 t (by
    show Steps p.tables e below (s₁.setTop (mkF m 12 #[.val (.ref a1), .val (.ref a2), .val (.int (2 : Int32))] [(.int (4 : Int32)), (.int (2 : Int32))])) _
    refine XS.icmpNo X0.here hx rfl (hb hby d5_12) rfl (tlt (by decide)).2.1 ?_
    show Steps p.tables e below (s₁.setTop (mkF m 15 #[.val (.ref a1), .val (.ref a2), .val (.int (2 : Int32))] [])) _
    refine XS.aloadN X0.here hx rfl (hb hby d5_15) rfl rfl ?_
    show Steps p.tables e below (s₁.setTop (mkF m 16 #[.val (.ref a1), .val (.ref a2), .val (.int (2 : Int32))] [(.ref a1)])) _
    refine XS.iloadN X0.here hx rfl (hb hby d5_16) rfl ?_
    exact k)
  obtain ⟨cl89, Ar89, q89, S89, N_89, H89, G89⟩ := id (V1)
  have hin89 : ¬ ((2 : Int32) < 0 ∨ cl89.slots.size ≤ ((2 : Int32)).toNatClampNeg) := inb_of S89 ⟨by decide, by decide⟩
  have hat89 := Has.at H89 hin89 (v := (.int (117 : Int32))) rfl
  have go90 : Goes p e below s₁ (entryFrame m #[(.ref a1), (.ref a2)] 3) s₁ (mkF m 20 #[.val (.ref a1), .val (.ref a2), .val (.int (2 : Int32))] [(.int (2 : Int32)), (.ref a2), (.int (117 : Int32))]) := fun t k => go88 t (by
    show Steps p.tables e below (s₁.setTop (mkF m 17 #[.val (.ref a1), .val (.ref a2), .val (.int (2 : Int32))] [(.int (2 : Int32)), (.ref a1)])) _
    refine X0.baloadBytes hx (j := (2 : Int32)) (v := (.int (117 : Int32))) (by rw [e0]; exact Ar89.1) (State.isArrayOf_alike hZ.alike Ar89.2.1) Ar89.2.2 hin89 hat89 (g := (mkF m 17 #[.val (.ref a1), .val (.ref a2), .val (.int (2 : Int32))] [(.int (2 : Int32)), (.ref a1)])) rfl rfl (hb hby d5_17) _ ?_
    show Steps p.tables e below (s₁.setTop (mkF m 18 #[.val (.ref a1), .val (.ref a2), .val (.int (2 : Int32))] [(.int (117 : Int32))])) _
    refine XS.aloadN X0.here hx rfl (hb hby d5_18) rfl rfl ?_
    show Steps p.tables e below (s₁.setTop (mkF m 19 #[.val (.ref a1), .val (.ref a2), .val (.int (2 : Int32))] [(.ref a2), (.int (117 : Int32))])) _
    refine XS.iloadN X0.here hx rfl (hb hby d5_19) rfl ?_
    exact k)
  obtain ⟨cl91, Ar91, q91, S91, N_91, H91, G91⟩ := id (V2)
  have hin91 : ¬ ((2 : Int32) < 0 ∨ cl91.slots.size ≤ ((2 : Int32)).toNatClampNeg) := inb_of S91 ⟨by decide, by decide⟩
  have hat91 := Has.at H91 hin91 (v := (.int (117 : Int32))) rfl
  have go92 : Goes p e below s₁ (entryFrame m #[(.ref a1), (.ref a2)] 3) s₁ (mkF m 21 #[.val (.ref a1), .val (.ref a2), .val (.int (2 : Int32))] [(.int (117 : Int32)), (.int (117 : Int32))]) := fun t k => go90 t (by
    show Steps p.tables e below (s₁.setTop (mkF m 20 #[.val (.ref a1), .val (.ref a2), .val (.int (2 : Int32))] [(.int (2 : Int32)), (.ref a2), (.int (117 : Int32))])) _
    refine X0.baloadBytes hx (j := (2 : Int32)) (v := (.int (117 : Int32))) (by rw [e0]; exact Ar91.1) (State.isArrayOf_alike hZ.alike Ar91.2.1) Ar91.2.2 hin91 hat91 (g := (mkF m 20 #[.val (.ref a1), .val (.ref a2), .val (.int (2 : Int32))] [(.int (2 : Int32)), (.ref a2), (.int (117 : Int32))])) rfl rfl (hb hby d5_20) _ ?_
    exact k)
  have go93 : Goes p e below s₁ (entryFrame m #[(.ref a1), (.ref a2)] 3) s₁ (mkF m 11 #[.val (.ref a1), .val (.ref a2), .val (.int (3 : Int32))] [(.ref a1), (.int (3 : Int32))]) := fun t k => go92 t (by
    show Steps p.tables e below (s₁.setTop (mkF m 21 #[.val (.ref a1), .val (.ref a2), .val (.int (2 : Int32))] [(.int (117 : Int32)), (.int (117 : Int32))])) _
    refine XS.icmpYes X0.here hx rfl (pc0 := 21) (pc' := 26) rfl (hb hby d5_21) rfl (teq rfl).1 (by decide) (by decide) ?_
    show Steps p.tables e below (s₁.setTop (mkF m 26 #[.val (.ref a1), .val (.ref a2), .val (.int (2 : Int32))] [])) _
    refine XS.iinc X0.here hx rfl (hb hby d5_26) rfl (l' := #[.val (.ref a1), .val (.ref a2), .val (.int (3 : Int32))]) rfl ?_
    show Steps p.tables e below (s₁.setTop (mkF m 29 #[.val (.ref a1), .val (.ref a2), .val (.int (3 : Int32))] [])) _
    refine XS.goto X0.here hx rfl (pc0 := 29) (pc' := 9) rfl (hb hby d5_29) (by decide) (by decide) ?_
    show Steps p.tables e below (s₁.setTop (mkF m 9 #[.val (.ref a1), .val (.ref a2), .val (.int (3 : Int32))] [])) _
    refine XS.iloadN X0.here hx rfl (hb hby d5_9) rfl ?_
    show Steps p.tables e below (s₁.setTop (mkF m 10 #[.val (.ref a1), .val (.ref a2), .val (.int (3 : Int32))] [(.int (3 : Int32))])) _
    refine XS.aloadN X0.here hx rfl (hb hby d5_10) rfl rfl ?_
    exact k)
  obtain ⟨cl94, Ar94, q94, S94, N_94, H94, G94⟩ := id (V1)
  have go95 : Goes p e below s₁ (entryFrame m #[(.ref a1), (.ref a2)] 3) s₁ (mkF m 12 #[.val (.ref a1), .val (.ref a2), .val (.int (3 : Int32))] [(.int (4 : Int32)), (.int (3 : Int32))]) := fun t k => go93 t (by
    show Steps p.tables e below (s₁.setTop (mkF m 11 #[.val (.ref a1), .val (.ref a2), .val (.int (3 : Int32))] [(.ref a1), (.int (3 : Int32))])) _
    refine X0.arraylength hx (by rw [e0]; exact Ar94.1) (State.isArrayOf_alike hZ.alike Ar94.2.1) (g := (mkF m 11 #[.val (.ref a1), .val (.ref a2), .val (.int (3 : Int32))] [(.ref a1), (.int (3 : Int32))])) rfl rfl (hb hby d5_11) _ ?_
    rw [len_of S94 N_94]
    exact k)
  have go96 : Goes p e below s₁ (entryFrame m #[(.ref a1), (.ref a2)] 3) s₁ (mkF m 17 #[.val (.ref a1), .val (.ref a2), .val (.int (3 : Int32))] [(.int (3 : Int32)), (.ref a1)]) := fun t k => go95 t (by
    show Steps p.tables e below (s₁.setTop (mkF m 12 #[.val (.ref a1), .val (.ref a2), .val (.int (3 : Int32))] [(.int (4 : Int32)), (.int (3 : Int32))])) _
    refine XS.icmpNo X0.here hx rfl (hb hby d5_12) rfl (tlt (by decide)).2.1 ?_
    show Steps p.tables e below (s₁.setTop (mkF m 15 #[.val (.ref a1), .val (.ref a2), .val (.int (3 : Int32))] [])) _
    refine XS.aloadN X0.here hx rfl (hb hby d5_15) rfl rfl ?_
    show Steps p.tables e below (s₁.setTop (mkF m 16 #[.val (.ref a1), .val (.ref a2), .val (.int (3 : Int32))] [(.ref a1)])) _
    refine XS.iloadN X0.here hx rfl (hb hby d5_16) rfl ?_
    exact k)
  obtain ⟨cl97, Ar97, q97, S97, N_97, H97, G97⟩ := id (V1)
  have hin97 : ¬ ((3 : Int32) < 0 ∨ cl97.slots.size ≤ ((3 : Int32)).toNatClampNeg) := inb_of S97 ⟨by decide, by decide⟩
  have hat97 := Has.at H97 hin97 (v := (.int (101 : Int32))) rfl
  have go98 : Goes p e below s₁ (entryFrame m #[(.ref a1), (.ref a2)] 3) s₁ (mkF m 20 #[.val (.ref a1), .val (.ref a2), .val (.int (3 : Int32))] [(.int (3 : Int32)), (.ref a2), (.int (101 : Int32))]) := fun t k => go96 t (by
    show Steps p.tables e below (s₁.setTop (mkF m 17 #[.val (.ref a1), .val (.ref a2), .val (.int (3 : Int32))] [(.int (3 : Int32)), (.ref a1)])) _
    refine X0.baloadBytes hx (j := (3 : Int32)) (v := (.int (101 : Int32))) (by rw [e0]; exact Ar97.1) (State.isArrayOf_alike hZ.alike Ar97.2.1) Ar97.2.2 hin97 hat97 (g := (mkF m 17 #[.val (.ref a1), .val (.ref a2), .val (.int (3 : Int32))] [(.int (3 : Int32)), (.ref a1)])) rfl rfl (hb hby d5_17) _ ?_
    show Steps p.tables e below (s₁.setTop (mkF m 18 #[.val (.ref a1), .val (.ref a2), .val (.int (3 : Int32))] [(.int (101 : Int32))])) _
    refine XS.aloadN X0.here hx rfl (hb hby d5_18) rfl rfl ?_
    show Steps p.tables e below (s₁.setTop (mkF m 19 #[.val (.ref a1), .val (.ref a2), .val (.int (3 : Int32))] [(.ref a2), (.int (101 : Int32))])) _
    refine XS.iloadN X0.here hx rfl (hb hby d5_19) rfl ?_
    exact k)
  obtain ⟨cl99, Ar99, q99, S99, N_99, H99, G99⟩ := id (V2)
  have hin99 : ¬ ((3 : Int32) < 0 ∨ cl99.slots.size ≤ ((3 : Int32)).toNatClampNeg) := inb_of S99 ⟨by decide, by decide⟩
  have hat99 := Has.at H99 hin99 (v := (.int (101 : Int32))) rfl
  have go100 : Goes p e below s₁ (entryFrame m #[(.ref a1), (.ref a2)] 3) s₁ (mkF m 21 #[.val (.ref a1), .val (.ref a2), .val (.int (3 : Int32))] [(.int (101 : Int32)), (.int (101 : Int32))]) := fun t k => go98 t (by
    show Steps p.tables e below (s₁.setTop (mkF m 20 #[.val (.ref a1), .val (.ref a2), .val (.int (3 : Int32))] [(.int (3 : Int32)), (.ref a2), (.int (101 : Int32))])) _
    refine X0.baloadBytes hx (j := (3 : Int32)) (v := (.int (101 : Int32))) (by rw [e0]; exact Ar99.1) (State.isArrayOf_alike hZ.alike Ar99.2.1) Ar99.2.2 hin99 hat99 (g := (mkF m 20 #[.val (.ref a1), .val (.ref a2), .val (.int (3 : Int32))] [(.int (3 : Int32)), (.ref a2), (.int (101 : Int32))])) rfl rfl (hb hby d5_20) _ ?_
    exact k)
  have go101 : Goes p e below s₁ (entryFrame m #[(.ref a1), (.ref a2)] 3) s₁ (mkF m 11 #[.val (.ref a1), .val (.ref a2), .val (.int (4 : Int32))] [(.ref a1), (.int (4 : Int32))]) := fun t k => go100 t (by
    show Steps p.tables e below (s₁.setTop (mkF m 21 #[.val (.ref a1), .val (.ref a2), .val (.int (3 : Int32))] [(.int (101 : Int32)), (.int (101 : Int32))])) _
    refine XS.icmpYes X0.here hx rfl (pc0 := 21) (pc' := 26) rfl (hb hby d5_21) rfl (teq rfl).1 (by decide) (by decide) ?_
    show Steps p.tables e below (s₁.setTop (mkF m 26 #[.val (.ref a1), .val (.ref a2), .val (.int (3 : Int32))] [])) _
    refine XS.iinc X0.here hx rfl (hb hby d5_26) rfl (l' := #[.val (.ref a1), .val (.ref a2), .val (.int (4 : Int32))]) rfl ?_
    show Steps p.tables e below (s₁.setTop (mkF m 29 #[.val (.ref a1), .val (.ref a2), .val (.int (4 : Int32))] [])) _
    refine XS.goto X0.here hx rfl (pc0 := 29) (pc' := 9) rfl (hb hby d5_29) (by decide) (by decide) ?_
    show Steps p.tables e below (s₁.setTop (mkF m 9 #[.val (.ref a1), .val (.ref a2), .val (.int (4 : Int32))] [])) _
    refine XS.iloadN X0.here hx rfl (hb hby d5_9) rfl ?_
    show Steps p.tables e below (s₁.setTop (mkF m 10 #[.val (.ref a1), .val (.ref a2), .val (.int (4 : Int32))] [(.int (4 : Int32))])) _
    refine XS.aloadN X0.here hx rfl (hb hby d5_10) rfl rfl ?_
    exact k)
  obtain ⟨cl102, Ar102, q102, S102, N_102, H102, G102⟩ := id (V1)
  have go103 : Goes p e below s₁ (entryFrame m #[(.ref a1), (.ref a2)] 3) s₁ (mkF m 12 #[.val (.ref a1), .val (.ref a2), .val (.int (4 : Int32))] [(.int (4 : Int32)), (.int (4 : Int32))]) := fun t k => go101 t (by
    show Steps p.tables e below (s₁.setTop (mkF m 11 #[.val (.ref a1), .val (.ref a2), .val (.int (4 : Int32))] [(.ref a1), (.int (4 : Int32))])) _
    refine X0.arraylength hx (by rw [e0]; exact Ar102.1) (State.isArrayOf_alike hZ.alike Ar102.2.1) (g := (mkF m 11 #[.val (.ref a1), .val (.ref a2), .val (.int (4 : Int32))] [(.ref a1), (.int (4 : Int32))])) rfl rfl (hb hby d5_11) _ ?_
    rw [len_of S102 N_102]
    exact k)
  have go104 : Goes p e below s₁ (entryFrame m #[(.ref a1), (.ref a2)] 3) s₁ (mkF m 33 #[.val (.ref a1), .val (.ref a2), .val (.int (4 : Int32))] [(.int (1 : Int32))]) := fun t k => go103 t (by
    show Steps p.tables e below (s₁.setTop (mkF m 12 #[.val (.ref a1), .val (.ref a2), .val (.int (4 : Int32))] [(.int (4 : Int32)), (.int (4 : Int32))])) _
    refine XS.icmpYes X0.here hx rfl (pc0 := 12) (pc' := 32) rfl (hb hby d5_12) rfl (flt (by decide)).2.1 (by decide) (by decide) ?_
    show Steps p.tables e below (s₁.setTop (mkF m 32 #[.val (.ref a1), .val (.ref a2), .val (.int (4 : Int32))] [])) _
    refine XS.iconst X0.here hx rfl (hb hby d5_32) ?_
    exact k)
  obtain ⟨fs, hr, hrun, hended, hW, hsame⟩ := X0.leave (v := some (.int (1 : Int32))) (fun h => by rw [Bd.returns] at h; cases h)
  refine ⟨_, _, go104 _ ?_, hrun, hended, _, _, rfl, ?_, ⟨_, rfl⟩, hW, hsame.mono (by decide) (by decide)⟩
  · exact retN X0 hx (t := .boolean) Bd.returns (by simp) (hb hby d5_33) hr
  · show Q_le1 Z a1 a2 k1 k2 h0 n0 _ s₁.heap _
    rw [e0]
    exact ⟨rfl, N0, rfl⟩
theorem d4_0 : decode jdk_42_method_66_code 0 = .ok (.aload_n 0, 1) := by decide +kernel
theorem d4_1 : decode jdk_42_method_66_code 1 = .ok (.aload_n 1, 1) := by decide +kernel
theorem d4_2 : decode jdk_42_method_66_code 2 = .ok (.if_acmp .ne 5, 3) := by decide +kernel
theorem d4_5 : decode jdk_42_method_66_code 5 = .ok (.iconst 1, 1) := by decide +kernel
theorem d4_6 : decode jdk_42_method_66_code 6 = .ok (.ireturn, 1) := by decide +kernel
theorem d4_7 : decode jdk_42_method_66_code 7 = .ok (.aload_n 1, 1) := by decide +kernel
theorem d4_8 : decode jdk_42_method_66_code 8 = .ok (.instanceof 10, 3) := by decide +kernel
theorem d4_11 : decode jdk_42_method_66_code 11 = .ok (.ifCond .eq 43, 3) := by decide +kernel
theorem d4_14 : decode jdk_42_method_66_code 14 = .ok (.aload_n 1, 1) := by decide +kernel
theorem d4_15 : decode jdk_42_method_66_code 15 = .ok (.checkcast 10, 3) := by decide +kernel
theorem d4_18 : decode jdk_42_method_66_code 18 = .ok (.astore_n 2, 1) := by decide +kernel
theorem d4_19 : decode jdk_42_method_66_code 19 = .ok (.getstatic 38, 3) := by decide +kernel
theorem d4_22 : decode jdk_42_method_66_code 22 = .ok (.ifCond .eq 14, 3) := by decide +kernel
theorem d4_25 : decode jdk_42_method_66_code 25 = .ok (.aload_n 0, 1) := by decide +kernel
theorem d4_26 : decode jdk_42_method_66_code 26 = .ok (.getfield 15, 3) := by decide +kernel
theorem d4_29 : decode jdk_42_method_66_code 29 = .ok (.aload_n 2, 1) := by decide +kernel
theorem d4_30 : decode jdk_42_method_66_code 30 = .ok (.getfield 15, 3) := by decide +kernel
theorem d4_33 : decode jdk_42_method_66_code 33 = .ok (.if_icmp .ne 21, 3) := by decide +kernel
theorem d4_36 : decode jdk_42_method_66_code 36 = .ok (.aload_n 0, 1) := by decide +kernel
theorem d4_37 : decode jdk_42_method_66_code 37 = .ok (.getfield 9, 3) := by decide +kernel
theorem d4_40 : decode jdk_42_method_66_code 40 = .ok (.aload_n 2, 1) := by decide +kernel
theorem d4_41 : decode jdk_42_method_66_code 41 = .ok (.getfield 9, 3) := by decide +kernel
theorem d4_44 : decode jdk_42_method_66_code 44 = .ok (.invokestatic 541, 3) := by decide +kernel
theorem pd_2 : parseMethodDescriptor "([B[B)Z" = some ⟨[(.array .byte), (.array .byte)], some .boolean⟩ := by decide +kernel
theorem d4_47 : decode jdk_42_method_66_code 47 = .ok (.ifCond .eq 7, 3) := by decide +kernel
theorem d4_50 : decode jdk_42_method_66_code 50 = .ok (.iconst 1, 1) := by decide +kernel
theorem d4_51 : decode jdk_42_method_66_code 51 = .ok (.goto 4, 3) := by decide +kernel
theorem d4_55 : decode jdk_42_method_66_code 55 = .ok (.ireturn, 1) := by decide +kernel
def Q_se1 (Z : State) (a1 : Addr) (a2 : Addr) (b1 b2 : Addr) (k1 k2 : ClassId) (cz : Int32) (h0 : Heap) (n0 : Nat) (v : Option Value) (h : Heap) (L : List Loc) : Prop := v = some (.int (1 : Int32)) ∧ Fr n0 L ∧ h = h0
theorem pn_java_lang_String : plainName "java/lang/String" = true := by first | (simp [plainName, overriddenIn]; done) | decide +kernel
set_option maxRecDepth 65536 in
set_option maxHeartbeats 40000000 in
theorem se1 (l : Launch) (Z : State) (a0 : Array Value) (hw : ∀ d ∈ tables_1, d.before a0 Z = true) (ws : List Jvm.Cond) (a1 : Addr) (a2 : Addr) (b1 b2 : Addr) (k1 k2 : ClassId) (cz : Int32) (h0 : Heap) (n0 : Nat) (Z0 : n0 ≤ h0.size) (E2 : Exa Z h0 a2 "java/lang/String") (C1 : Fld Z h0 a1 "java/lang/String" "coder" "B" (.int (0 : Int32))) (C2 : Fld Z h0 a2 "java/lang/String" "coder" "B" (.int (0 : Int32))) (Y1 : Fld Z h0 a1 "java/lang/String" "value" "[B" (.ref b1)) (Y2 : Fld Z h0 a2 "java/lang/String" "value" "[B" (.ref b2)) (V1 : Arv Z h0 b1 k1 .byte (4 : Int32) [(.int (116 : Int32)), (.int (114 : Int32)), (.int (117 : Int32)), (.int (101 : Int32))] (.int (0 : Int32))) (V2 : Arv Z h0 b2 k2 .byte (4 : Int32) [(.int (116 : Int32)), (.int (114 : Int32)), (.int (117 : Int32)), (.int (101 : Int32))] (.int (0 : Int32))) (SC : Sta Z h0 "java/lang/String" "COMPACT_STRINGS" "Z" (.int cz)) (hz : ¬ (cz = (0 : Int32))) :
    MetFree l (⟨"java/lang/String", "equals", "(Ljava/lang/Object;)Z"⟩ : MethodName) (head1 (Jvm.Cond.code (⟨"java/lang/String", "equals", "(Ljava/lang/Object;)Z"⟩ : MethodName) jdk_42_method_66_code 3 (some .boolean) :: ws) ({ frames := 1, cells := 0, slots := 0, locals := 14 } : Room)) (fun a U => a = #[(.ref a1), (.ref a2)] ∧ Z.Warmed39 U.vm ∧ U.heap = h0) (fun _ _ _ _ _ => True) (fun _ U o U' => ∃ v L, o = .returned v ∧ Q_se1 Z a1 a2 b1 b2 k1 k2 cz h0 n0 v U'.heap L ∧ FrameEnd U o U' L ({ frames := 1, cells := 0, slots := 0, locals := 14 } : Room).cells ({ frames := 1, cells := 0, slots := 0, locals := 14 } : Room).slots) := by
  refine MetFree.of_bodySF (plainFor_of_name pn_java_lang_String) hisR ?_
  intro p e s m args below meth c s₁ Bd hml0 hP hK
  obtain ⟨rfl, hZ, hh⟩ := hP
  have hx := Bd.exec
  have hby := Bd.bytes
  have hml : c.maxLocals = 3 := hml0
  have hown : s.vm.findClass "java/lang/String" = some m.cls := findClass_of_methodNamed Bd.named
  have hnm := (name_of_methodNamed Bd.named Bd.method).1
  have X0 : Stand p l e ({ frames := 1, cells := 0, slots := 0, locals := 14 } : Room) s m #[(.ref a1), (.ref a2)] below meth c s₁ [] 0 0 := Stand.of_body Bd
  have e0 : s₁.heap = h0 := by rw [← hh, Bd.state]; rfl
  have N0 := Fr.nil n0
  have go0 : Goes p e below s₁ (entryFrame m #[(.ref a1), (.ref a2)] 3) s₁ (mkF m 0 #[.val (.ref a1), .val (.ref a2), .unset] []) := fun t k => castTop (by first | (simp [entryFrame, mkF, argsToLocals, Value.category]; done) | rfl) k
  have go105 : Goes p e below s₁ (entryFrame m #[(.ref a1), (.ref a2)] 3) s₁ (mkF m 2 #[.val (.ref a1), .val (.ref a2), .unset] [(.ref a2), (.ref a1)]) := fun t k => go0 t (by
    show Steps p.tables e below (s₁.setTop (mkF m 0 #[.val (.ref a1), .val (.ref a2), .unset] [])) _
    refine XS.aloadN X0.here hx rfl (hb hby d4_0) rfl rfl ?_
    show Steps p.tables e below (s₁.setTop (mkF m 1 #[.val (.ref a1), .val (.ref a2), .unset] [(.ref a1)])) _
    refine XS.aloadN X0.here hx rfl (hb hby d4_1) rfl rfl ?_
    exact k)
  by_cases heq : a1 = a2
  · have go106 : Goes p e below s₁ (entryFrame m #[(.ref a1), (.ref a2)] 3) s₁ (mkF m 6 #[.val (.ref a1), .val (.ref a2), .unset] [(.int (1 : Int32))]) := fun t k => go105 t (by
      show Steps p.tables e below (s₁.setTop (mkF m 2 #[.val (.ref a1), .val (.ref a2), .unset] [(.ref a2), (.ref a1)])) _
      refine Jvm.RoadKit.acmp (g := (mkF m 2 #[.val (.ref a1), .val (.ref a2), .unset] [(.ref a2), (.ref a1)])) X0 hx rfl rfl rfl (pc0 := 2) (pc' := 5) (same := true) rfl (hb hby d4_2) rfl (decide_eq_true (congrArg Value.ref heq)) (by decide) (by decide) ?_
      show Steps p.tables e below (s₁.setTop (mkF m 5 #[.val (.ref a1), .val (.ref a2), .unset] [])) _
      refine XS.iconst X0.here hx rfl (hb hby d4_5) ?_
      exact k)
    obtain ⟨fs, hr, hrun, hended, hW, hsame⟩ := X0.leave (v := some (.int (1 : Int32))) (fun h => by rw [Bd.returns] at h; cases h)
    refine ⟨_, _, go106 _ ?_, hrun, hended, _, _, rfl, ?_, ⟨_, rfl⟩, hW, hsame.mono (by decide) (by decide)⟩
    · exact retN X0 hx (t := .boolean) Bd.returns (by simp) (hb hby d4_6) hr
    · show Q_se1 Z a1 a2 b1 b2 k1 k2 cz h0 n0 _ s₁.heap _
      rw [e0]
      exact ⟨rfl, N0, rfl⟩
  · have go107 : Goes p e below s₁ (entryFrame m #[(.ref a1), (.ref a2)] 3) s₁ (mkF m 8 #[.val (.ref a1), .val (.ref a2), .unset] [(.ref a2)]) := fun t k => go105 t (by
      show Steps p.tables e below (s₁.setTop (mkF m 2 #[.val (.ref a1), .val (.ref a2), .unset] [(.ref a2), (.ref a1)])) _
      refine Jvm.RoadKit.acmp (g := (mkF m 2 #[.val (.ref a1), .val (.ref a2), .unset] [(.ref a2), (.ref a1)])) X0 hx rfl rfl rfl (pc0 := 2) (pc' := 7) (same := false) rfl (hb hby d4_2) rfl (decide_eq_false fun q => heq (Value.ref.inj q)) (by decide) (by decide) ?_
      show Steps p.tables e below (s₁.setTop (mkF m 7 #[.val (.ref a1), .val (.ref a2), .unset] [])) _
      refine XS.aloadN X0.here hx rfl (hb hby d4_7) rfl rfl ?_
      exact k)
    obtain ⟨T108, X108, e108, st108⟩ := instY X0 hx hZ hown (hw _ (List.mem_of_getElem? (i := 38) rfl)) e0 (Ins.self E2) (g := (mkF m 8 #[.val (.ref a1), .val (.ref a2), .unset] [(.ref a2)])) rfl rfl (hb hby d4_8)
    have go108 : Goes p e below s₁ (entryFrame m #[(.ref a1), (.ref a2)] 3) T108 (mkF m 11 #[.val (.ref a1), .val (.ref a2), .unset] [(.int (1 : Int32))]) := fun t k => go107 t (st108 _ k)
    have go109 : Goes p e below s₁ (entryFrame m #[(.ref a1), (.ref a2)] 3) T108 (mkF m 15 #[.val (.ref a1), .val (.ref a2), .unset] [(.ref a2)]) := fun t k => go108 t (by
      show Steps p.tables e below (T108.setTop (mkF m 11 #[.val (.ref a1), .val (.ref a2), .unset] [(.int (1 : Int32))])) _
      refine XS.ifNo X108.here hx rfl (hb hby d4_11) rfl ((if0 _ _).trans (feq (by decide)).1) ?_
      show Steps p.tables e below (T108.setTop (mkF m 14 #[.val (.ref a1), .val (.ref a2), .unset] [])) _
      refine XS.aloadN X108.here hx rfl (hb hby d4_14) rfl rfl ?_
      exact k)
    obtain ⟨T110, X110, e110, st110⟩ := castY X108 hx hZ hown (hw _ (List.mem_of_getElem? (i := 38) rfl)) e108 (Ins.self E2) (g := (mkF m 15 #[.val (.ref a1), .val (.ref a2), .unset] [(.ref a2)])) rfl rfl (hb hby d4_15)
    have go110 : Goes p e below s₁ (entryFrame m #[(.ref a1), (.ref a2)] 3) T110 (mkF m 18 #[.val (.ref a1), .val (.ref a2), .unset] [(.ref a2)]) := fun t k => go109 t (st110 _ k)
    have go111 : Goes p e below s₁ (entryFrame m #[(.ref a1), (.ref a2)] 3) T110 (mkF m 19 #[.val (.ref a1), .val (.ref a2), .val (.ref a2)] []) := fun t k => go110 t (by
      show Steps p.tables e below (T110.setTop (mkF m 18 #[.val (.ref a1), .val (.ref a2), .unset] [(.ref a2)])) _
      refine XS.astoreN X110.here hx rfl (hb hby d4_18) rfl rfl (l' := #[.val (.ref a1), .val (.ref a2), .val (.ref a2)]) rfl ?_
      exact k)
    obtain ⟨T112, X112, e112, st112⟩ := getS2 X110 hx hZ hown (host := "") (Or.inl (hw _ (List.mem_of_getElem? (i := 40) rfl))) Via.refl e110 SC (g := (mkF m 19 #[.val (.ref a1), .val (.ref a2), .val (.ref a2)] [])) rfl (hb hby d4_19)
    have go112 : Goes p e below s₁ (entryFrame m #[(.ref a1), (.ref a2)] 3) T112 (mkF m 22 #[.val (.ref a1), .val (.ref a2), .val (.ref a2)] [(.int cz)]) := fun t k => go111 t (st112 _ k)
    have go113 : Goes p e below s₁ (entryFrame m #[(.ref a1), (.ref a2)] 3) T112 (mkF m 26 #[.val (.ref a1), .val (.ref a2), .val (.ref a2)] [(.ref a1)]) := fun t k => go112 t (by
      show Steps p.tables e below (T112.setTop (mkF m 22 #[.val (.ref a1), .val (.ref a2), .val (.ref a2)] [(.int cz)])) _
      refine XS.ifNo X112.here hx rfl (hb hby d4_22) rfl ((if0 _ _).trans (feq hz).1) ?_
      show Steps p.tables e below (T112.setTop (mkF m 25 #[.val (.ref a1), .val (.ref a2), .val (.ref a2)] [])) _
      refine XS.aloadN X112.here hx rfl (hb hby d4_25) rfl rfl ?_
      exact k)
    obtain ⟨T114, X114, e114, st114⟩ := getF X112 hx hZ hown (host := "") (Or.inl (hw _ (List.mem_of_getElem? (i := 41) rfl))) Via.refl e112 C1 (g := (mkF m 26 #[.val (.ref a1), .val (.ref a2), .val (.ref a2)] [(.ref a1)])) rfl rfl (hb hby d4_26)
    have go114 : Goes p e below s₁ (entryFrame m #[(.ref a1), (.ref a2)] 3) T114 (mkF m 29 #[.val (.ref a1), .val (.ref a2), .val (.ref a2)] [(.int (0 : Int32))]) := fun t k => go113 t (st114 _ k)
    have go115 : Goes p e below s₁ (entryFrame m #[(.ref a1), (.ref a2)] 3) T114 (mkF m 30 #[.val (.ref a1), .val (.ref a2), .val (.ref a2)] [(.ref a2), (.int (0 : Int32))]) := fun t k => go114 t (by
      show Steps p.tables e below (T114.setTop (mkF m 29 #[.val (.ref a1), .val (.ref a2), .val (.ref a2)] [(.int (0 : Int32))])) _
      refine XS.aloadN X114.here hx rfl (hb hby d4_29) rfl rfl ?_
      exact k)
    obtain ⟨T116, X116, e116, st116⟩ := getF X114 hx hZ hown (host := "") (Or.inl (hw _ (List.mem_of_getElem? (i := 41) rfl))) Via.refl e114 C2 (g := (mkF m 30 #[.val (.ref a1), .val (.ref a2), .val (.ref a2)] [(.ref a2), (.int (0 : Int32))])) rfl rfl (hb hby d4_30)
    have go116 : Goes p e below s₁ (entryFrame m #[(.ref a1), (.ref a2)] 3) T116 (mkF m 33 #[.val (.ref a1), .val (.ref a2), .val (.ref a2)] [(.int (0 : Int32)), (.int (0 : Int32))]) := fun t k => go115 t (st116 _ k)
    have go117 : Goes p e below s₁ (entryFrame m #[(.ref a1), (.ref a2)] 3) T116 (mkF m 37 #[.val (.ref a1), .val (.ref a2), .val (.ref a2)] [(.ref a1)]) := fun t k => go116 t (by
      show Steps p.tables e below (T116.setTop (mkF m 33 #[.val (.ref a1), .val (.ref a2), .val (.ref a2)] [(.int (0 : Int32)), (.int (0 : Int32))])) _
      refine XS.icmpNo X116.here hx rfl (hb hby d4_33) rfl (teq rfl).2 ?_
      show Steps p.tables e below (T116.setTop (mkF m 36 #[.val (.ref a1), .val (.ref a2), .val (.ref a2)] [])) _
      refine XS.aloadN X116.here hx rfl (hb hby d4_36) rfl rfl ?_
      exact k)
    obtain ⟨T118, X118, e118, st118⟩ := getF X116 hx hZ hown (host := "") (Or.inl (hw _ (List.mem_of_getElem? (i := 42) rfl))) Via.refl e116 Y1 (g := (mkF m 37 #[.val (.ref a1), .val (.ref a2), .val (.ref a2)] [(.ref a1)])) rfl rfl (hb hby d4_37)
    have go118 : Goes p e below s₁ (entryFrame m #[(.ref a1), (.ref a2)] 3) T118 (mkF m 40 #[.val (.ref a1), .val (.ref a2), .val (.ref a2)] [(.ref b1)]) := fun t k => go117 t (st118 _ k)
    have go119 : Goes p e below s₁ (entryFrame m #[(.ref a1), (.ref a2)] 3) T118 (mkF m 41 #[.val (.ref a1), .val (.ref a2), .val (.ref a2)] [(.ref a2), (.ref b1)]) := fun t k => go118 t (by
      show Steps p.tables e below (T118.setTop (mkF m 40 #[.val (.ref a1), .val (.ref a2), .val (.ref a2)] [(.ref b1)])) _
      refine XS.aloadN X118.here hx rfl (hb hby d4_40) rfl rfl ?_
      exact k)
    obtain ⟨T120, X120, e120, st120⟩ := getF X118 hx hZ hown (host := "") (Or.inl (hw _ (List.mem_of_getElem? (i := 42) rfl))) Via.refl e118 Y2 (g := (mkF m 41 #[.val (.ref a1), .val (.ref a2), .val (.ref a2)] [(.ref a2), (.ref b1)])) rfl rfl (hb hby d4_41)
    have go120 : Goes p e below s₁ (entryFrame m #[(.ref a1), (.ref a2)] 3) T120 (mkF m 44 #[.val (.ref a1), .val (.ref a2), .val (.ref a2)] [(.ref b2), (.ref b1)]) := fun t k => go119 t (st120 _ k)
    obtain ⟨_, _, ⟨T121, L121, k121, n121⟩, -, X121, ⟨Lc121, hQ121, l121, y121, z121⟩, st121⟩ := Jvm.LawKit.callS X120 hx (y := (⟨"java/lang/StringLatin1", "equals", "([B[B)Z"⟩ : MethodName)) hown (mvT hZ (hw _ (List.mem_of_getElem? (i := 43) rfl))) (mvT hZ (hw _ (List.mem_of_getElem? (i := 44) rfl))) (mvT hZ (hw _ (List.mem_of_getElem? (i := 45) rfl))) (mvT hZ (hw _ (List.mem_of_getElem? (i := 46) rfl))) (by decide) (backOf (W := 0) (le1 l Z a0 hw [] b1 b2 k1 k2 h0 n0 Z0 V1 V2) hZ (hw _ (List.mem_of_getElem? (i := 46) rfl)) (hw _ (List.mem_of_getElem? (i := 45) rfl)) (by decide) (by decide)) (g := (mkF m 44 #[.val (.ref a1), .val (.ref a2), .val (.ref a2)] [(.ref b2), (.ref b1)])) rfl (by rw [hml]; rfl) (argsL := [(.ref b1), (.ref b2)]) (rest := []) (lenOf pd_2 rfl) rfl (by show 2 * 0 + _ ≤ _; exact Nat.le_of_eq rfl) (hb hby d4_44) (fun _ _ => ⟨rfl, e120, (by decide : 0 + 0 ≤ _), (by decide : 0 + 0 ≤ _)⟩)
    dsimp only [Pt.U, Pt.locs, Pt.cells, Pt.slots] at X121 l121 y121 z121 st121 hQ121
    subst l121 y121 z121
    obtain ⟨rfl, Nq121, eq121⟩ := hQ121
    have N121 := Fr.app N0 Nq121
    have go121 : Goes p e below s₁ (entryFrame m #[(.ref a1), (.ref a2)] 3) T121 (mkF m 47 #[.val (.ref a1), .val (.ref a2), .val (.ref a2)] [(.int (1 : Int32))]) := fun t k => go120 t (st121 _ k)
    have go122 : Goes p e below s₁ (entryFrame m #[(.ref a1), (.ref a2)] 3) T121 (mkF m 55 #[.val (.ref a1), .val (.ref a2), .val (.ref a2)] [(.int (1 : Int32))]) := fun t k => go121 t (by
      show Steps p.tables e below (T121.setTop (mkF m 47 #[.val (.ref a1), .val (.ref a2), .val (.ref a2)] [(.int (1 : Int32))])) _
      refine XS.ifNo X121.here hx rfl (hb hby d4_47) rfl ((if0 _ _).trans (feq (by decide)).1) ?_
      show Steps p.tables e below (T121.setTop (mkF m 50 #[.val (.ref a1), .val (.ref a2), .val (.ref a2)] [])) _
      refine XS.iconst X121.here hx rfl (hb hby d4_50) ?_
      show Steps p.tables e below (T121.setTop (mkF m 51 #[.val (.ref a1), .val (.ref a2), .val (.ref a2)] [(.int (1 : Int32))])) _
      refine XS.goto X121.here hx rfl (pc0 := 51) (pc' := 55) rfl (hb hby d4_51) (by decide) (by decide) ?_
      exact k)
    obtain ⟨fs, hr, hrun, hended, hW, hsame⟩ := X121.leave (v := some (.int (1 : Int32))) (fun h => by rw [Bd.returns] at h; cases h)
    refine ⟨_, _, go122 _ ?_, hrun, hended, _, _, rfl, ?_, ⟨_, rfl⟩, hW, hsame.mono (by decide) (by decide)⟩
    · exact retN X121 hx (t := .boolean) Bd.returns (by simp) (hb hby d4_55) hr
    · show Q_se1 Z a1 a2 b1 b2 k1 k2 cz h0 n0 _ T121.heap _
      rw [eq121]
      exact ⟨rfl, N121, rfl⟩
def Q_le0 (Z : State) (a1 : Addr) (a2 : Addr) (k1 k2 : ClassId) (h0 : Heap) (n0 : Nat) (v : Option Value) (h : Heap) (L : List Loc) : Prop := v = some (.int (1 : Int32)) ∧ Fr n0 L ∧ h = h0
set_option maxRecDepth 65536 in
set_option maxHeartbeats 40000000 in
theorem le0 (l : Launch) (Z : State) (a0 : Array Value) (hw : ∀ d ∈ tables_1, d.before a0 Z = true) (ws : List Jvm.Cond) (a1 : Addr) (a2 : Addr) (k1 k2 : ClassId) (h0 : Heap) (n0 : Nat) (Z0 : n0 ≤ h0.size) (V1 : Arv Z h0 a1 k1 .byte (5 : Int32) [(.int (102 : Int32)), (.int (97 : Int32)), (.int (108 : Int32)), (.int (115 : Int32)), (.int (101 : Int32))] (.int (0 : Int32))) (V2 : Arv Z h0 a2 k2 .byte (5 : Int32) [(.int (102 : Int32)), (.int (97 : Int32)), (.int (108 : Int32)), (.int (115 : Int32)), (.int (101 : Int32))] (.int (0 : Int32))) :
    MetFree l (⟨"java/lang/StringLatin1", "equals", "([B[B)Z"⟩ : MethodName) (head1 (Jvm.Cond.code (⟨"java/lang/StringLatin1", "equals", "([B[B)Z"⟩ : MethodName) jdk_43_method_13_code 3 (some .boolean) :: ws) ({ frames := 0, cells := 0, slots := 0, locals := 0 } : Room)) (fun a U => a = #[(.ref a1), (.ref a2)] ∧ Z.Warmed39 U.vm ∧ U.heap = h0) (fun _ _ _ _ _ => True) (fun _ U o U' => ∃ v L, o = .returned v ∧ Q_le0 Z a1 a2 k1 k2 h0 n0 v U'.heap L ∧ FrameEnd U o U' L ({ frames := 0, cells := 0, slots := 0, locals := 0 } : Room).cells ({ frames := 0, cells := 0, slots := 0, locals := 0 } : Room).slots) := by
  refine MetFree.of_bodySF (plainFor_of_name pn_java_lang_StringLatin1) hisR ?_
  intro p e s m args below meth c s₁ Bd hml0 hP hK
  obtain ⟨rfl, hZ, hh⟩ := hP
  have hx := Bd.exec
  have hby := Bd.bytes
  have hml : c.maxLocals = 3 := hml0
  have hown : s.vm.findClass "java/lang/StringLatin1" = some m.cls := findClass_of_methodNamed Bd.named
  have hnm := (name_of_methodNamed Bd.named Bd.method).1
  have X0 : Stand p l e ({ frames := 0, cells := 0, slots := 0, locals := 0 } : Room) s m #[(.ref a1), (.ref a2)] below meth c s₁ [] 0 0 := Stand.of_body Bd
  have e0 : s₁.heap = h0 := by rw [← hh, Bd.state]; rfl
  have N0 := Fr.nil n0
  have go0 : Goes p e below s₁ (entryFrame m #[(.ref a1), (.ref a2)] 3) s₁ (mkF m 0 #[.val (.ref a1), .val (.ref a2), .unset] []) := fun t k => castTop (by first | (simp [entryFrame, mkF, argsToLocals, Value.category]; done) | rfl) k
  have go123 : Goes p e below s₁ (entryFrame m #[(.ref a1), (.ref a2)] 3) s₁ (mkF m 1 #[.val (.ref a1), .val (.ref a2), .unset] [(.ref a1)]) := fun t k => go0 t (by
    show Steps p.tables e below (s₁.setTop (mkF m 0 #[.val (.ref a1), .val (.ref a2), .unset] [])) _
    refine XS.aloadN X0.here hx rfl (hb hby d5_0) rfl rfl ?_
    exact k)
  obtain ⟨cl124, Ar124, q124, S124, N_124, H124, G124⟩ := id (V1)
  have go125 : Goes p e below s₁ (entryFrame m #[(.ref a1), (.ref a2)] 3) s₁ (mkF m 3 #[.val (.ref a1), .val (.ref a2), .unset] [(.ref a2), (.int (5 : Int32))]) := fun t k => go123 t (by
    show Steps p.tables e below (s₁.setTop (mkF m 1 #[.val (.ref a1), .val (.ref a2), .unset] [(.ref a1)])) _
    refine X0.arraylength hx (by rw [e0]; exact Ar124.1) (State.isArrayOf_alike hZ.alike Ar124.2.1) (g := (mkF m 1 #[.val (.ref a1), .val (.ref a2), .unset] [(.ref a1)])) rfl rfl (hb hby d5_1) _ ?_
    rw [len_of S124 N_124]
    show Steps p.tables e below (s₁.setTop (mkF m 2 #[.val (.ref a1), .val (.ref a2), .unset] [(.int (5 : Int32))])) _
    refine XS.aloadN X0.here hx rfl (hb hby d5_2) rfl rfl ?_
    exact k)
  obtain ⟨cl126, Ar126, q126, S126, N_126, H126, G126⟩ := id (V2)
  have go127 : Goes p e below s₁ (entryFrame m #[(.ref a1), (.ref a2)] 3) s₁ (mkF m 4 #[.val (.ref a1), .val (.ref a2), .unset] [(.int (5 : Int32)), (.int (5 : Int32))]) := fun t k => go125 t (by
    show Steps p.tables e below (s₁.setTop (mkF m 3 #[.val (.ref a1), .val (.ref a2), .unset] [(.ref a2), (.int (5 : Int32))])) _
    refine X0.arraylength hx (by rw [e0]; exact Ar126.1) (State.isArrayOf_alike hZ.alike Ar126.2.1) (g := (mkF m 3 #[.val (.ref a1), .val (.ref a2), .unset] [(.ref a2), (.int (5 : Int32))])) rfl rfl (hb hby d5_3) _ ?_
    rw [len_of S126 N_126]
    exact k)
  have go128 : Goes p e below s₁ (entryFrame m #[(.ref a1), (.ref a2)] 3) s₁ (mkF m 11 #[.val (.ref a1), .val (.ref a2), .val (.int (0 : Int32))] [(.ref a1), (.int (0 : Int32))]) := fun t k => go127 t (by
    show Steps p.tables e below (s₁.setTop (mkF m 4 #[.val (.ref a1), .val (.ref a2), .unset] [(.int (5 : Int32)), (.int (5 : Int32))])) _
    refine XS.icmpNo X0.here hx rfl (hb hby d5_4) rfl (teq rfl).2 ?_
    show Steps p.tables e below (s₁.setTop (mkF m 7 #[.val (.ref a1), .val (.ref a2), .unset] [])) _
    refine XS.iconst X0.here hx rfl (hb hby d5_7) ?_
    show Steps p.tables e below (s₁.setTop (mkF m 8 #[.val (.ref a1), .val (.ref a2), .unset] [(.int (0 : Int32))])) _
    refine XS.istoreN X0.here hx rfl (hb hby d5_8) rfl (l' := #[.val (.ref a1), .val (.ref a2), .val (.int (0 : Int32))]) rfl ?_
    show Steps p.tables e below (s₁.setTop (mkF m 9 #[.val (.ref a1), .val (.ref a2), .val (.int (0 : Int32))] [])) _
    refine XS.iloadN X0.here hx rfl (hb hby d5_9) rfl ?_
    show Steps p.tables e below (s₁.setTop (mkF m 10 #[.val (.ref a1), .val (.ref a2), .val (.int (0 : Int32))] [(.int (0 : Int32))])) _
    refine XS.aloadN X0.here hx rfl (hb hby d5_10) rfl rfl ?_
    exact k)
  obtain ⟨cl129, Ar129, q129, S129, N_129, H129, G129⟩ := id (V1)
  have go130 : Goes p e below s₁ (entryFrame m #[(.ref a1), (.ref a2)] 3) s₁ (mkF m 12 #[.val (.ref a1), .val (.ref a2), .val (.int (0 : Int32))] [(.int (5 : Int32)), (.int (0 : Int32))]) := fun t k => go128 t (by
    show Steps p.tables e below (s₁.setTop (mkF m 11 #[.val (.ref a1), .val (.ref a2), .val (.int (0 : Int32))] [(.ref a1), (.int (0 : Int32))])) _
    refine X0.arraylength hx (by rw [e0]; exact Ar129.1) (State.isArrayOf_alike hZ.alike Ar129.2.1) (g := (mkF m 11 #[.val (.ref a1), .val (.ref a2), .val (.int (0 : Int32))] [(.ref a1), (.int (0 : Int32))])) rfl rfl (hb hby d5_11) _ ?_
    rw [len_of S129 N_129]
    exact k)
  have go131 : Goes p e below s₁ (entryFrame m #[(.ref a1), (.ref a2)] 3) s₁ (mkF m 17 #[.val (.ref a1), .val (.ref a2), .val (.int (0 : Int32))] [(.int (0 : Int32)), (.ref a1)]) := fun t k => go130 t (by
    show Steps p.tables e below (s₁.setTop (mkF m 12 #[.val (.ref a1), .val (.ref a2), .val (.int (0 : Int32))] [(.int (5 : Int32)), (.int (0 : Int32))])) _
    refine XS.icmpNo X0.here hx rfl (hb hby d5_12) rfl (tlt (by decide)).2.1 ?_
    show Steps p.tables e below (s₁.setTop (mkF m 15 #[.val (.ref a1), .val (.ref a2), .val (.int (0 : Int32))] [])) _
    refine XS.aloadN X0.here hx rfl (hb hby d5_15) rfl rfl ?_
    show Steps p.tables e below (s₁.setTop (mkF m 16 #[.val (.ref a1), .val (.ref a2), .val (.int (0 : Int32))] [(.ref a1)])) _
    refine XS.iloadN X0.here hx rfl (hb hby d5_16) rfl ?_
    exact k)
  obtain ⟨cl132, Ar132, q132, S132, N_132, H132, G132⟩ := id (V1)
  have hin132 : ¬ ((0 : Int32) < 0 ∨ cl132.slots.size ≤ ((0 : Int32)).toNatClampNeg) := inb_of S132 ⟨by decide, by decide⟩
  have hat132 := Has.at H132 hin132 (v := (.int (102 : Int32))) rfl
  have go133 : Goes p e below s₁ (entryFrame m #[(.ref a1), (.ref a2)] 3) s₁ (mkF m 20 #[.val (.ref a1), .val (.ref a2), .val (.int (0 : Int32))] [(.int (0 : Int32)), (.ref a2), (.int (102 : Int32))]) := fun t k => go131 t (by
    show Steps p.tables e below (s₁.setTop (mkF m 17 #[.val (.ref a1), .val (.ref a2), .val (.int (0 : Int32))] [(.int (0 : Int32)), (.ref a1)])) _
    refine X0.baloadBytes hx (j := (0 : Int32)) (v := (.int (102 : Int32))) (by rw [e0]; exact Ar132.1) (State.isArrayOf_alike hZ.alike Ar132.2.1) Ar132.2.2 hin132 hat132 (g := (mkF m 17 #[.val (.ref a1), .val (.ref a2), .val (.int (0 : Int32))] [(.int (0 : Int32)), (.ref a1)])) rfl rfl (hb hby d5_17) _ ?_
    show Steps p.tables e below (s₁.setTop (mkF m 18 #[.val (.ref a1), .val (.ref a2), .val (.int (0 : Int32))] [(.int (102 : Int32))])) _
    refine XS.aloadN X0.here hx rfl (hb hby d5_18) rfl rfl ?_
    show Steps p.tables e below (s₁.setTop (mkF m 19 #[.val (.ref a1), .val (.ref a2), .val (.int (0 : Int32))] [(.ref a2), (.int (102 : Int32))])) _
    refine XS.iloadN X0.here hx rfl (hb hby d5_19) rfl ?_
    exact k)
  obtain ⟨cl134, Ar134, q134, S134, N_134, H134, G134⟩ := id (V2)
  have hin134 : ¬ ((0 : Int32) < 0 ∨ cl134.slots.size ≤ ((0 : Int32)).toNatClampNeg) := inb_of S134 ⟨by decide, by decide⟩
  have hat134 := Has.at H134 hin134 (v := (.int (102 : Int32))) rfl
  have go135 : Goes p e below s₁ (entryFrame m #[(.ref a1), (.ref a2)] 3) s₁ (mkF m 21 #[.val (.ref a1), .val (.ref a2), .val (.int (0 : Int32))] [(.int (102 : Int32)), (.int (102 : Int32))]) := fun t k => go133 t (by
    show Steps p.tables e below (s₁.setTop (mkF m 20 #[.val (.ref a1), .val (.ref a2), .val (.int (0 : Int32))] [(.int (0 : Int32)), (.ref a2), (.int (102 : Int32))])) _
    refine X0.baloadBytes hx (j := (0 : Int32)) (v := (.int (102 : Int32))) (by rw [e0]; exact Ar134.1) (State.isArrayOf_alike hZ.alike Ar134.2.1) Ar134.2.2 hin134 hat134 (g := (mkF m 20 #[.val (.ref a1), .val (.ref a2), .val (.int (0 : Int32))] [(.int (0 : Int32)), (.ref a2), (.int (102 : Int32))])) rfl rfl (hb hby d5_20) _ ?_
    exact k)
  have go136 : Goes p e below s₁ (entryFrame m #[(.ref a1), (.ref a2)] 3) s₁ (mkF m 11 #[.val (.ref a1), .val (.ref a2), .val (.int (1 : Int32))] [(.ref a1), (.int (1 : Int32))]) := fun t k => go135 t (by
    show Steps p.tables e below (s₁.setTop (mkF m 21 #[.val (.ref a1), .val (.ref a2), .val (.int (0 : Int32))] [(.int (102 : Int32)), (.int (102 : Int32))])) _
    refine XS.icmpYes X0.here hx rfl (pc0 := 21) (pc' := 26) rfl (hb hby d5_21) rfl (teq rfl).1 (by decide) (by decide) ?_
    show Steps p.tables e below (s₁.setTop (mkF m 26 #[.val (.ref a1), .val (.ref a2), .val (.int (0 : Int32))] [])) _
    refine XS.iinc X0.here hx rfl (hb hby d5_26) rfl (l' := #[.val (.ref a1), .val (.ref a2), .val (.int (1 : Int32))]) rfl ?_
    show Steps p.tables e below (s₁.setTop (mkF m 29 #[.val (.ref a1), .val (.ref a2), .val (.int (1 : Int32))] [])) _
    refine XS.goto X0.here hx rfl (pc0 := 29) (pc' := 9) rfl (hb hby d5_29) (by decide) (by decide) ?_
    show Steps p.tables e below (s₁.setTop (mkF m 9 #[.val (.ref a1), .val (.ref a2), .val (.int (1 : Int32))] [])) _
    refine XS.iloadN X0.here hx rfl (hb hby d5_9) rfl ?_
    show Steps p.tables e below (s₁.setTop (mkF m 10 #[.val (.ref a1), .val (.ref a2), .val (.int (1 : Int32))] [(.int (1 : Int32))])) _
    refine XS.aloadN X0.here hx rfl (hb hby d5_10) rfl rfl ?_
    exact k)
  obtain ⟨cl137, Ar137, q137, S137, N_137, H137, G137⟩ := id (V1)
  have go138 : Goes p e below s₁ (entryFrame m #[(.ref a1), (.ref a2)] 3) s₁ (mkF m 12 #[.val (.ref a1), .val (.ref a2), .val (.int (1 : Int32))] [(.int (5 : Int32)), (.int (1 : Int32))]) := fun t k => go136 t (by
    show Steps p.tables e below (s₁.setTop (mkF m 11 #[.val (.ref a1), .val (.ref a2), .val (.int (1 : Int32))] [(.ref a1), (.int (1 : Int32))])) _
    refine X0.arraylength hx (by rw [e0]; exact Ar137.1) (State.isArrayOf_alike hZ.alike Ar137.2.1) (g := (mkF m 11 #[.val (.ref a1), .val (.ref a2), .val (.int (1 : Int32))] [(.ref a1), (.int (1 : Int32))])) rfl rfl (hb hby d5_11) _ ?_
    rw [len_of S137 N_137]
    exact k)
  have go139 : Goes p e below s₁ (entryFrame m #[(.ref a1), (.ref a2)] 3) s₁ (mkF m 17 #[.val (.ref a1), .val (.ref a2), .val (.int (1 : Int32))] [(.int (1 : Int32)), (.ref a1)]) := fun t k => go138 t (by
    show Steps p.tables e below (s₁.setTop (mkF m 12 #[.val (.ref a1), .val (.ref a2), .val (.int (1 : Int32))] [(.int (5 : Int32)), (.int (1 : Int32))])) _
    refine XS.icmpNo X0.here hx rfl (hb hby d5_12) rfl (tlt (by decide)).2.1 ?_
    show Steps p.tables e below (s₁.setTop (mkF m 15 #[.val (.ref a1), .val (.ref a2), .val (.int (1 : Int32))] [])) _
    refine XS.aloadN X0.here hx rfl (hb hby d5_15) rfl rfl ?_
    show Steps p.tables e below (s₁.setTop (mkF m 16 #[.val (.ref a1), .val (.ref a2), .val (.int (1 : Int32))] [(.ref a1)])) _
    refine XS.iloadN X0.here hx rfl (hb hby d5_16) rfl ?_
    exact k)
  obtain ⟨cl140, Ar140, q140, S140, N_140, H140, G140⟩ := id (V1)
  have hin140 : ¬ ((1 : Int32) < 0 ∨ cl140.slots.size ≤ ((1 : Int32)).toNatClampNeg) := inb_of S140 ⟨by decide, by decide⟩
  have hat140 := Has.at H140 hin140 (v := (.int (97 : Int32))) rfl
  have go141 : Goes p e below s₁ (entryFrame m #[(.ref a1), (.ref a2)] 3) s₁ (mkF m 20 #[.val (.ref a1), .val (.ref a2), .val (.int (1 : Int32))] [(.int (1 : Int32)), (.ref a2), (.int (97 : Int32))]) := fun t k => go139 t (by
    show Steps p.tables e below (s₁.setTop (mkF m 17 #[.val (.ref a1), .val (.ref a2), .val (.int (1 : Int32))] [(.int (1 : Int32)), (.ref a1)])) _
    refine X0.baloadBytes hx (j := (1 : Int32)) (v := (.int (97 : Int32))) (by rw [e0]; exact Ar140.1) (State.isArrayOf_alike hZ.alike Ar140.2.1) Ar140.2.2 hin140 hat140 (g := (mkF m 17 #[.val (.ref a1), .val (.ref a2), .val (.int (1 : Int32))] [(.int (1 : Int32)), (.ref a1)])) rfl rfl (hb hby d5_17) _ ?_
    show Steps p.tables e below (s₁.setTop (mkF m 18 #[.val (.ref a1), .val (.ref a2), .val (.int (1 : Int32))] [(.int (97 : Int32))])) _
    refine XS.aloadN X0.here hx rfl (hb hby d5_18) rfl rfl ?_
    show Steps p.tables e below (s₁.setTop (mkF m 19 #[.val (.ref a1), .val (.ref a2), .val (.int (1 : Int32))] [(.ref a2), (.int (97 : Int32))])) _
    refine XS.iloadN X0.here hx rfl (hb hby d5_19) rfl ?_
    exact k)
  obtain ⟨cl142, Ar142, q142, S142, N_142, H142, G142⟩ := id (V2)
  have hin142 : ¬ ((1 : Int32) < 0 ∨ cl142.slots.size ≤ ((1 : Int32)).toNatClampNeg) := inb_of S142 ⟨by decide, by decide⟩
  have hat142 := Has.at H142 hin142 (v := (.int (97 : Int32))) rfl
  have go143 : Goes p e below s₁ (entryFrame m #[(.ref a1), (.ref a2)] 3) s₁ (mkF m 21 #[.val (.ref a1), .val (.ref a2), .val (.int (1 : Int32))] [(.int (97 : Int32)), (.int (97 : Int32))]) := fun t k => go141 t (by
    show Steps p.tables e below (s₁.setTop (mkF m 20 #[.val (.ref a1), .val (.ref a2), .val (.int (1 : Int32))] [(.int (1 : Int32)), (.ref a2), (.int (97 : Int32))])) _
    refine X0.baloadBytes hx (j := (1 : Int32)) (v := (.int (97 : Int32))) (by rw [e0]; exact Ar142.1) (State.isArrayOf_alike hZ.alike Ar142.2.1) Ar142.2.2 hin142 hat142 (g := (mkF m 20 #[.val (.ref a1), .val (.ref a2), .val (.int (1 : Int32))] [(.int (1 : Int32)), (.ref a2), (.int (97 : Int32))])) rfl rfl (hb hby d5_20) _ ?_
    exact k)
  have go144 : Goes p e below s₁ (entryFrame m #[(.ref a1), (.ref a2)] 3) s₁ (mkF m 11 #[.val (.ref a1), .val (.ref a2), .val (.int (2 : Int32))] [(.ref a1), (.int (2 : Int32))]) := fun t k => go143 t (by
    show Steps p.tables e below (s₁.setTop (mkF m 21 #[.val (.ref a1), .val (.ref a2), .val (.int (1 : Int32))] [(.int (97 : Int32)), (.int (97 : Int32))])) _
    refine XS.icmpYes X0.here hx rfl (pc0 := 21) (pc' := 26) rfl (hb hby d5_21) rfl (teq rfl).1 (by decide) (by decide) ?_
    show Steps p.tables e below (s₁.setTop (mkF m 26 #[.val (.ref a1), .val (.ref a2), .val (.int (1 : Int32))] [])) _
    refine XS.iinc X0.here hx rfl (hb hby d5_26) rfl (l' := #[.val (.ref a1), .val (.ref a2), .val (.int (2 : Int32))]) rfl ?_
    show Steps p.tables e below (s₁.setTop (mkF m 29 #[.val (.ref a1), .val (.ref a2), .val (.int (2 : Int32))] [])) _
    refine XS.goto X0.here hx rfl (pc0 := 29) (pc' := 9) rfl (hb hby d5_29) (by decide) (by decide) ?_
    show Steps p.tables e below (s₁.setTop (mkF m 9 #[.val (.ref a1), .val (.ref a2), .val (.int (2 : Int32))] [])) _
    refine XS.iloadN X0.here hx rfl (hb hby d5_9) rfl ?_
    show Steps p.tables e below (s₁.setTop (mkF m 10 #[.val (.ref a1), .val (.ref a2), .val (.int (2 : Int32))] [(.int (2 : Int32))])) _
    refine XS.aloadN X0.here hx rfl (hb hby d5_10) rfl rfl ?_
    exact k)
  obtain ⟨cl145, Ar145, q145, S145, N_145, H145, G145⟩ := id (V1)
  have go146 : Goes p e below s₁ (entryFrame m #[(.ref a1), (.ref a2)] 3) s₁ (mkF m 12 #[.val (.ref a1), .val (.ref a2), .val (.int (2 : Int32))] [(.int (5 : Int32)), (.int (2 : Int32))]) := fun t k => go144 t (by
    show Steps p.tables e below (s₁.setTop (mkF m 11 #[.val (.ref a1), .val (.ref a2), .val (.int (2 : Int32))] [(.ref a1), (.int (2 : Int32))])) _
    refine X0.arraylength hx (by rw [e0]; exact Ar145.1) (State.isArrayOf_alike hZ.alike Ar145.2.1) (g := (mkF m 11 #[.val (.ref a1), .val (.ref a2), .val (.int (2 : Int32))] [(.ref a1), (.int (2 : Int32))])) rfl rfl (hb hby d5_11) _ ?_
    rw [len_of S145 N_145]
    exact k)
  have go147 : Goes p e below s₁ (entryFrame m #[(.ref a1), (.ref a2)] 3) s₁ (mkF m 17 #[.val (.ref a1), .val (.ref a2), .val (.int (2 : Int32))] [(.int (2 : Int32)), (.ref a1)]) := fun t k => go146 t (by
    show Steps p.tables e below (s₁.setTop (mkF m 12 #[.val (.ref a1), .val (.ref a2), .val (.int (2 : Int32))] [(.int (5 : Int32)), (.int (2 : Int32))])) _
    refine XS.icmpNo X0.here hx rfl (hb hby d5_12) rfl (tlt (by decide)).2.1 ?_
    show Steps p.tables e below (s₁.setTop (mkF m 15 #[.val (.ref a1), .val (.ref a2), .val (.int (2 : Int32))] [])) _
    refine XS.aloadN X0.here hx rfl (hb hby d5_15) rfl rfl ?_
    show Steps p.tables e below (s₁.setTop (mkF m 16 #[.val (.ref a1), .val (.ref a2), .val (.int (2 : Int32))] [(.ref a1)])) _
    refine XS.iloadN X0.here hx rfl (hb hby d5_16) rfl ?_
    exact k)
  obtain ⟨cl148, Ar148, q148, S148, N_148, H148, G148⟩ := id (V1)
  have hin148 : ¬ ((2 : Int32) < 0 ∨ cl148.slots.size ≤ ((2 : Int32)).toNatClampNeg) := inb_of S148 ⟨by decide, by decide⟩
  have hat148 := Has.at H148 hin148 (v := (.int (108 : Int32))) rfl
  have go149 : Goes p e below s₁ (entryFrame m #[(.ref a1), (.ref a2)] 3) s₁ (mkF m 20 #[.val (.ref a1), .val (.ref a2), .val (.int (2 : Int32))] [(.int (2 : Int32)), (.ref a2), (.int (108 : Int32))]) := fun t k => go147 t (by
    show Steps p.tables e below (s₁.setTop (mkF m 17 #[.val (.ref a1), .val (.ref a2), .val (.int (2 : Int32))] [(.int (2 : Int32)), (.ref a1)])) _
    refine X0.baloadBytes hx (j := (2 : Int32)) (v := (.int (108 : Int32))) (by rw [e0]; exact Ar148.1) (State.isArrayOf_alike hZ.alike Ar148.2.1) Ar148.2.2 hin148 hat148 (g := (mkF m 17 #[.val (.ref a1), .val (.ref a2), .val (.int (2 : Int32))] [(.int (2 : Int32)), (.ref a1)])) rfl rfl (hb hby d5_17) _ ?_
    show Steps p.tables e below (s₁.setTop (mkF m 18 #[.val (.ref a1), .val (.ref a2), .val (.int (2 : Int32))] [(.int (108 : Int32))])) _
    refine XS.aloadN X0.here hx rfl (hb hby d5_18) rfl rfl ?_
    show Steps p.tables e below (s₁.setTop (mkF m 19 #[.val (.ref a1), .val (.ref a2), .val (.int (2 : Int32))] [(.ref a2), (.int (108 : Int32))])) _
    refine XS.iloadN X0.here hx rfl (hb hby d5_19) rfl ?_
    exact k)
  obtain ⟨cl150, Ar150, q150, S150, N_150, H150, G150⟩ := id (V2)
  have hin150 : ¬ ((2 : Int32) < 0 ∨ cl150.slots.size ≤ ((2 : Int32)).toNatClampNeg) := inb_of S150 ⟨by decide, by decide⟩
  have hat150 := Has.at H150 hin150 (v := (.int (108 : Int32))) rfl
  have go151 : Goes p e below s₁ (entryFrame m #[(.ref a1), (.ref a2)] 3) s₁ (mkF m 21 #[.val (.ref a1), .val (.ref a2), .val (.int (2 : Int32))] [(.int (108 : Int32)), (.int (108 : Int32))]) := fun t k => go149 t (by
    show Steps p.tables e below (s₁.setTop (mkF m 20 #[.val (.ref a1), .val (.ref a2), .val (.int (2 : Int32))] [(.int (2 : Int32)), (.ref a2), (.int (108 : Int32))])) _
    refine X0.baloadBytes hx (j := (2 : Int32)) (v := (.int (108 : Int32))) (by rw [e0]; exact Ar150.1) (State.isArrayOf_alike hZ.alike Ar150.2.1) Ar150.2.2 hin150 hat150 (g := (mkF m 20 #[.val (.ref a1), .val (.ref a2), .val (.int (2 : Int32))] [(.int (2 : Int32)), (.ref a2), (.int (108 : Int32))])) rfl rfl (hb hby d5_20) _ ?_
    exact k)
  have go152 : Goes p e below s₁ (entryFrame m #[(.ref a1), (.ref a2)] 3) s₁ (mkF m 11 #[.val (.ref a1), .val (.ref a2), .val (.int (3 : Int32))] [(.ref a1), (.int (3 : Int32))]) := fun t k => go151 t (by
    show Steps p.tables e below (s₁.setTop (mkF m 21 #[.val (.ref a1), .val (.ref a2), .val (.int (2 : Int32))] [(.int (108 : Int32)), (.int (108 : Int32))])) _
    refine XS.icmpYes X0.here hx rfl (pc0 := 21) (pc' := 26) rfl (hb hby d5_21) rfl (teq rfl).1 (by decide) (by decide) ?_
    show Steps p.tables e below (s₁.setTop (mkF m 26 #[.val (.ref a1), .val (.ref a2), .val (.int (2 : Int32))] [])) _
    refine XS.iinc X0.here hx rfl (hb hby d5_26) rfl (l' := #[.val (.ref a1), .val (.ref a2), .val (.int (3 : Int32))]) rfl ?_
    show Steps p.tables e below (s₁.setTop (mkF m 29 #[.val (.ref a1), .val (.ref a2), .val (.int (3 : Int32))] [])) _
    refine XS.goto X0.here hx rfl (pc0 := 29) (pc' := 9) rfl (hb hby d5_29) (by decide) (by decide) ?_
    show Steps p.tables e below (s₁.setTop (mkF m 9 #[.val (.ref a1), .val (.ref a2), .val (.int (3 : Int32))] [])) _
    refine XS.iloadN X0.here hx rfl (hb hby d5_9) rfl ?_
    show Steps p.tables e below (s₁.setTop (mkF m 10 #[.val (.ref a1), .val (.ref a2), .val (.int (3 : Int32))] [(.int (3 : Int32))])) _
    refine XS.aloadN X0.here hx rfl (hb hby d5_10) rfl rfl ?_
    exact k)
  obtain ⟨cl153, Ar153, q153, S153, N_153, H153, G153⟩ := id (V1)
  have go154 : Goes p e below s₁ (entryFrame m #[(.ref a1), (.ref a2)] 3) s₁ (mkF m 12 #[.val (.ref a1), .val (.ref a2), .val (.int (3 : Int32))] [(.int (5 : Int32)), (.int (3 : Int32))]) := fun t k => go152 t (by
    show Steps p.tables e below (s₁.setTop (mkF m 11 #[.val (.ref a1), .val (.ref a2), .val (.int (3 : Int32))] [(.ref a1), (.int (3 : Int32))])) _
    refine X0.arraylength hx (by rw [e0]; exact Ar153.1) (State.isArrayOf_alike hZ.alike Ar153.2.1) (g := (mkF m 11 #[.val (.ref a1), .val (.ref a2), .val (.int (3 : Int32))] [(.ref a1), (.int (3 : Int32))])) rfl rfl (hb hby d5_11) _ ?_
    rw [len_of S153 N_153]
    exact k)
  have go155 : Goes p e below s₁ (entryFrame m #[(.ref a1), (.ref a2)] 3) s₁ (mkF m 17 #[.val (.ref a1), .val (.ref a2), .val (.int (3 : Int32))] [(.int (3 : Int32)), (.ref a1)]) := fun t k => go154 t (by
    show Steps p.tables e below (s₁.setTop (mkF m 12 #[.val (.ref a1), .val (.ref a2), .val (.int (3 : Int32))] [(.int (5 : Int32)), (.int (3 : Int32))])) _
    refine XS.icmpNo X0.here hx rfl (hb hby d5_12) rfl (tlt (by decide)).2.1 ?_
    show Steps p.tables e below (s₁.setTop (mkF m 15 #[.val (.ref a1), .val (.ref a2), .val (.int (3 : Int32))] [])) _
    refine XS.aloadN X0.here hx rfl (hb hby d5_15) rfl rfl ?_
    show Steps p.tables e below (s₁.setTop (mkF m 16 #[.val (.ref a1), .val (.ref a2), .val (.int (3 : Int32))] [(.ref a1)])) _
    refine XS.iloadN X0.here hx rfl (hb hby d5_16) rfl ?_
    exact k)
  obtain ⟨cl156, Ar156, q156, S156, N_156, H156, G156⟩ := id (V1)
  have hin156 : ¬ ((3 : Int32) < 0 ∨ cl156.slots.size ≤ ((3 : Int32)).toNatClampNeg) := inb_of S156 ⟨by decide, by decide⟩
  have hat156 := Has.at H156 hin156 (v := (.int (115 : Int32))) rfl
  have go157 : Goes p e below s₁ (entryFrame m #[(.ref a1), (.ref a2)] 3) s₁ (mkF m 20 #[.val (.ref a1), .val (.ref a2), .val (.int (3 : Int32))] [(.int (3 : Int32)), (.ref a2), (.int (115 : Int32))]) := fun t k => go155 t (by
    show Steps p.tables e below (s₁.setTop (mkF m 17 #[.val (.ref a1), .val (.ref a2), .val (.int (3 : Int32))] [(.int (3 : Int32)), (.ref a1)])) _
    refine X0.baloadBytes hx (j := (3 : Int32)) (v := (.int (115 : Int32))) (by rw [e0]; exact Ar156.1) (State.isArrayOf_alike hZ.alike Ar156.2.1) Ar156.2.2 hin156 hat156 (g := (mkF m 17 #[.val (.ref a1), .val (.ref a2), .val (.int (3 : Int32))] [(.int (3 : Int32)), (.ref a1)])) rfl rfl (hb hby d5_17) _ ?_
    show Steps p.tables e below (s₁.setTop (mkF m 18 #[.val (.ref a1), .val (.ref a2), .val (.int (3 : Int32))] [(.int (115 : Int32))])) _
    refine XS.aloadN X0.here hx rfl (hb hby d5_18) rfl rfl ?_
    show Steps p.tables e below (s₁.setTop (mkF m 19 #[.val (.ref a1), .val (.ref a2), .val (.int (3 : Int32))] [(.ref a2), (.int (115 : Int32))])) _
    refine XS.iloadN X0.here hx rfl (hb hby d5_19) rfl ?_
    exact k)
  obtain ⟨cl158, Ar158, q158, S158, N_158, H158, G158⟩ := id (V2)
  have hin158 : ¬ ((3 : Int32) < 0 ∨ cl158.slots.size ≤ ((3 : Int32)).toNatClampNeg) := inb_of S158 ⟨by decide, by decide⟩
  have hat158 := Has.at H158 hin158 (v := (.int (115 : Int32))) rfl
  have go159 : Goes p e below s₁ (entryFrame m #[(.ref a1), (.ref a2)] 3) s₁ (mkF m 21 #[.val (.ref a1), .val (.ref a2), .val (.int (3 : Int32))] [(.int (115 : Int32)), (.int (115 : Int32))]) := fun t k => go157 t (by
    show Steps p.tables e below (s₁.setTop (mkF m 20 #[.val (.ref a1), .val (.ref a2), .val (.int (3 : Int32))] [(.int (3 : Int32)), (.ref a2), (.int (115 : Int32))])) _
    refine X0.baloadBytes hx (j := (3 : Int32)) (v := (.int (115 : Int32))) (by rw [e0]; exact Ar158.1) (State.isArrayOf_alike hZ.alike Ar158.2.1) Ar158.2.2 hin158 hat158 (g := (mkF m 20 #[.val (.ref a1), .val (.ref a2), .val (.int (3 : Int32))] [(.int (3 : Int32)), (.ref a2), (.int (115 : Int32))])) rfl rfl (hb hby d5_20) _ ?_
    exact k)
  have go160 : Goes p e below s₁ (entryFrame m #[(.ref a1), (.ref a2)] 3) s₁ (mkF m 11 #[.val (.ref a1), .val (.ref a2), .val (.int (4 : Int32))] [(.ref a1), (.int (4 : Int32))]) := fun t k => go159 t (by
    show Steps p.tables e below (s₁.setTop (mkF m 21 #[.val (.ref a1), .val (.ref a2), .val (.int (3 : Int32))] [(.int (115 : Int32)), (.int (115 : Int32))])) _
    refine XS.icmpYes X0.here hx rfl (pc0 := 21) (pc' := 26) rfl (hb hby d5_21) rfl (teq rfl).1 (by decide) (by decide) ?_
    show Steps p.tables e below (s₁.setTop (mkF m 26 #[.val (.ref a1), .val (.ref a2), .val (.int (3 : Int32))] [])) _
    refine XS.iinc X0.here hx rfl (hb hby d5_26) rfl (l' := #[.val (.ref a1), .val (.ref a2), .val (.int (4 : Int32))]) rfl ?_
    show Steps p.tables e below (s₁.setTop (mkF m 29 #[.val (.ref a1), .val (.ref a2), .val (.int (4 : Int32))] [])) _
    refine XS.goto X0.here hx rfl (pc0 := 29) (pc' := 9) rfl (hb hby d5_29) (by decide) (by decide) ?_
    show Steps p.tables e below (s₁.setTop (mkF m 9 #[.val (.ref a1), .val (.ref a2), .val (.int (4 : Int32))] [])) _
    refine XS.iloadN X0.here hx rfl (hb hby d5_9) rfl ?_
    show Steps p.tables e below (s₁.setTop (mkF m 10 #[.val (.ref a1), .val (.ref a2), .val (.int (4 : Int32))] [(.int (4 : Int32))])) _
    refine XS.aloadN X0.here hx rfl (hb hby d5_10) rfl rfl ?_
    exact k)
  obtain ⟨cl161, Ar161, q161, S161, N_161, H161, G161⟩ := id (V1)
  have go162 : Goes p e below s₁ (entryFrame m #[(.ref a1), (.ref a2)] 3) s₁ (mkF m 12 #[.val (.ref a1), .val (.ref a2), .val (.int (4 : Int32))] [(.int (5 : Int32)), (.int (4 : Int32))]) := fun t k => go160 t (by
    show Steps p.tables e below (s₁.setTop (mkF m 11 #[.val (.ref a1), .val (.ref a2), .val (.int (4 : Int32))] [(.ref a1), (.int (4 : Int32))])) _
    refine X0.arraylength hx (by rw [e0]; exact Ar161.1) (State.isArrayOf_alike hZ.alike Ar161.2.1) (g := (mkF m 11 #[.val (.ref a1), .val (.ref a2), .val (.int (4 : Int32))] [(.ref a1), (.int (4 : Int32))])) rfl rfl (hb hby d5_11) _ ?_
    rw [len_of S161 N_161]
    exact k)
  have go163 : Goes p e below s₁ (entryFrame m #[(.ref a1), (.ref a2)] 3) s₁ (mkF m 17 #[.val (.ref a1), .val (.ref a2), .val (.int (4 : Int32))] [(.int (4 : Int32)), (.ref a1)]) := fun t k => go162 t (by
    show Steps p.tables e below (s₁.setTop (mkF m 12 #[.val (.ref a1), .val (.ref a2), .val (.int (4 : Int32))] [(.int (5 : Int32)), (.int (4 : Int32))])) _
    refine XS.icmpNo X0.here hx rfl (hb hby d5_12) rfl (tlt (by decide)).2.1 ?_
    show Steps p.tables e below (s₁.setTop (mkF m 15 #[.val (.ref a1), .val (.ref a2), .val (.int (4 : Int32))] [])) _
    refine XS.aloadN X0.here hx rfl (hb hby d5_15) rfl rfl ?_
    show Steps p.tables e below (s₁.setTop (mkF m 16 #[.val (.ref a1), .val (.ref a2), .val (.int (4 : Int32))] [(.ref a1)])) _
    refine XS.iloadN X0.here hx rfl (hb hby d5_16) rfl ?_
    exact k)
  obtain ⟨cl164, Ar164, q164, S164, N_164, H164, G164⟩ := id (V1)
  have hin164 : ¬ ((4 : Int32) < 0 ∨ cl164.slots.size ≤ ((4 : Int32)).toNatClampNeg) := inb_of S164 ⟨by decide, by decide⟩
  have hat164 := Has.at H164 hin164 (v := (.int (101 : Int32))) rfl
  have go165 : Goes p e below s₁ (entryFrame m #[(.ref a1), (.ref a2)] 3) s₁ (mkF m 20 #[.val (.ref a1), .val (.ref a2), .val (.int (4 : Int32))] [(.int (4 : Int32)), (.ref a2), (.int (101 : Int32))]) := fun t k => go163 t (by
    show Steps p.tables e below (s₁.setTop (mkF m 17 #[.val (.ref a1), .val (.ref a2), .val (.int (4 : Int32))] [(.int (4 : Int32)), (.ref a1)])) _
    refine X0.baloadBytes hx (j := (4 : Int32)) (v := (.int (101 : Int32))) (by rw [e0]; exact Ar164.1) (State.isArrayOf_alike hZ.alike Ar164.2.1) Ar164.2.2 hin164 hat164 (g := (mkF m 17 #[.val (.ref a1), .val (.ref a2), .val (.int (4 : Int32))] [(.int (4 : Int32)), (.ref a1)])) rfl rfl (hb hby d5_17) _ ?_
    show Steps p.tables e below (s₁.setTop (mkF m 18 #[.val (.ref a1), .val (.ref a2), .val (.int (4 : Int32))] [(.int (101 : Int32))])) _
    refine XS.aloadN X0.here hx rfl (hb hby d5_18) rfl rfl ?_
    show Steps p.tables e below (s₁.setTop (mkF m 19 #[.val (.ref a1), .val (.ref a2), .val (.int (4 : Int32))] [(.ref a2), (.int (101 : Int32))])) _
    refine XS.iloadN X0.here hx rfl (hb hby d5_19) rfl ?_
    exact k)
  obtain ⟨cl166, Ar166, q166, S166, N_166, H166, G166⟩ := id (V2)
  have hin166 : ¬ ((4 : Int32) < 0 ∨ cl166.slots.size ≤ ((4 : Int32)).toNatClampNeg) := inb_of S166 ⟨by decide, by decide⟩
  have hat166 := Has.at H166 hin166 (v := (.int (101 : Int32))) rfl
  have go167 : Goes p e below s₁ (entryFrame m #[(.ref a1), (.ref a2)] 3) s₁ (mkF m 21 #[.val (.ref a1), .val (.ref a2), .val (.int (4 : Int32))] [(.int (101 : Int32)), (.int (101 : Int32))]) := fun t k => go165 t (by
    show Steps p.tables e below (s₁.setTop (mkF m 20 #[.val (.ref a1), .val (.ref a2), .val (.int (4 : Int32))] [(.int (4 : Int32)), (.ref a2), (.int (101 : Int32))])) _
    refine X0.baloadBytes hx (j := (4 : Int32)) (v := (.int (101 : Int32))) (by rw [e0]; exact Ar166.1) (State.isArrayOf_alike hZ.alike Ar166.2.1) Ar166.2.2 hin166 hat166 (g := (mkF m 20 #[.val (.ref a1), .val (.ref a2), .val (.int (4 : Int32))] [(.int (4 : Int32)), (.ref a2), (.int (101 : Int32))])) rfl rfl (hb hby d5_20) _ ?_
    exact k)
  have go168 : Goes p e below s₁ (entryFrame m #[(.ref a1), (.ref a2)] 3) s₁ (mkF m 11 #[.val (.ref a1), .val (.ref a2), .val (.int (5 : Int32))] [(.ref a1), (.int (5 : Int32))]) := fun t k => go167 t (by
    show Steps p.tables e below (s₁.setTop (mkF m 21 #[.val (.ref a1), .val (.ref a2), .val (.int (4 : Int32))] [(.int (101 : Int32)), (.int (101 : Int32))])) _
    refine XS.icmpYes X0.here hx rfl (pc0 := 21) (pc' := 26) rfl (hb hby d5_21) rfl (teq rfl).1 (by decide) (by decide) ?_
    show Steps p.tables e below (s₁.setTop (mkF m 26 #[.val (.ref a1), .val (.ref a2), .val (.int (4 : Int32))] [])) _
    refine XS.iinc X0.here hx rfl (hb hby d5_26) rfl (l' := #[.val (.ref a1), .val (.ref a2), .val (.int (5 : Int32))]) rfl ?_
    show Steps p.tables e below (s₁.setTop (mkF m 29 #[.val (.ref a1), .val (.ref a2), .val (.int (5 : Int32))] [])) _
    refine XS.goto X0.here hx rfl (pc0 := 29) (pc' := 9) rfl (hb hby d5_29) (by decide) (by decide) ?_
    show Steps p.tables e below (s₁.setTop (mkF m 9 #[.val (.ref a1), .val (.ref a2), .val (.int (5 : Int32))] [])) _
    refine XS.iloadN X0.here hx rfl (hb hby d5_9) rfl ?_
    show Steps p.tables e below (s₁.setTop (mkF m 10 #[.val (.ref a1), .val (.ref a2), .val (.int (5 : Int32))] [(.int (5 : Int32))])) _
    refine XS.aloadN X0.here hx rfl (hb hby d5_10) rfl rfl ?_
    exact k)
  obtain ⟨cl169, Ar169, q169, S169, N_169, H169, G169⟩ := id (V1)
  have go170 : Goes p e below s₁ (entryFrame m #[(.ref a1), (.ref a2)] 3) s₁ (mkF m 12 #[.val (.ref a1), .val (.ref a2), .val (.int (5 : Int32))] [(.int (5 : Int32)), (.int (5 : Int32))]) := fun t k => go168 t (by
    show Steps p.tables e below (s₁.setTop (mkF m 11 #[.val (.ref a1), .val (.ref a2), .val (.int (5 : Int32))] [(.ref a1), (.int (5 : Int32))])) _
    refine X0.arraylength hx (by rw [e0]; exact Ar169.1) (State.isArrayOf_alike hZ.alike Ar169.2.1) (g := (mkF m 11 #[.val (.ref a1), .val (.ref a2), .val (.int (5 : Int32))] [(.ref a1), (.int (5 : Int32))])) rfl rfl (hb hby d5_11) _ ?_
    rw [len_of S169 N_169]
    exact k)
  have go171 : Goes p e below s₁ (entryFrame m #[(.ref a1), (.ref a2)] 3) s₁ (mkF m 33 #[.val (.ref a1), .val (.ref a2), .val (.int (5 : Int32))] [(.int (1 : Int32))]) := fun t k => go170 t (by
    show Steps p.tables e below (s₁.setTop (mkF m 12 #[.val (.ref a1), .val (.ref a2), .val (.int (5 : Int32))] [(.int (5 : Int32)), (.int (5 : Int32))])) _
    refine XS.icmpYes X0.here hx rfl (pc0 := 12) (pc' := 32) rfl (hb hby d5_12) rfl (flt (by decide)).2.1 (by decide) (by decide) ?_
    show Steps p.tables e below (s₁.setTop (mkF m 32 #[.val (.ref a1), .val (.ref a2), .val (.int (5 : Int32))] [])) _
    refine XS.iconst X0.here hx rfl (hb hby d5_32) ?_
    exact k)
  obtain ⟨fs, hr, hrun, hended, hW, hsame⟩ := X0.leave (v := some (.int (1 : Int32))) (fun h => by rw [Bd.returns] at h; cases h)
  refine ⟨_, _, go171 _ ?_, hrun, hended, _, _, rfl, ?_, ⟨_, rfl⟩, hW, hsame.mono (by decide) (by decide)⟩
  · exact retN X0 hx (t := .boolean) Bd.returns (by simp) (hb hby d5_33) hr
  · show Q_le0 Z a1 a2 k1 k2 h0 n0 _ s₁.heap _
    rw [e0]
    exact ⟨rfl, N0, rfl⟩
def Q_se0 (Z : State) (a1 : Addr) (a2 : Addr) (b1 b2 : Addr) (k1 k2 : ClassId) (cz : Int32) (h0 : Heap) (n0 : Nat) (v : Option Value) (h : Heap) (L : List Loc) : Prop := v = some (.int (1 : Int32)) ∧ Fr n0 L ∧ h = h0
set_option maxRecDepth 65536 in
set_option maxHeartbeats 40000000 in
theorem se0 (l : Launch) (Z : State) (a0 : Array Value) (hw : ∀ d ∈ tables_1, d.before a0 Z = true) (ws : List Jvm.Cond) (a1 : Addr) (a2 : Addr) (b1 b2 : Addr) (k1 k2 : ClassId) (cz : Int32) (h0 : Heap) (n0 : Nat) (Z0 : n0 ≤ h0.size) (E2 : Exa Z h0 a2 "java/lang/String") (C1 : Fld Z h0 a1 "java/lang/String" "coder" "B" (.int (0 : Int32))) (C2 : Fld Z h0 a2 "java/lang/String" "coder" "B" (.int (0 : Int32))) (Y1 : Fld Z h0 a1 "java/lang/String" "value" "[B" (.ref b1)) (Y2 : Fld Z h0 a2 "java/lang/String" "value" "[B" (.ref b2)) (V1 : Arv Z h0 b1 k1 .byte (5 : Int32) [(.int (102 : Int32)), (.int (97 : Int32)), (.int (108 : Int32)), (.int (115 : Int32)), (.int (101 : Int32))] (.int (0 : Int32))) (V2 : Arv Z h0 b2 k2 .byte (5 : Int32) [(.int (102 : Int32)), (.int (97 : Int32)), (.int (108 : Int32)), (.int (115 : Int32)), (.int (101 : Int32))] (.int (0 : Int32))) (SC : Sta Z h0 "java/lang/String" "COMPACT_STRINGS" "Z" (.int cz)) (hz : ¬ (cz = (0 : Int32))) :
    MetFree l (⟨"java/lang/String", "equals", "(Ljava/lang/Object;)Z"⟩ : MethodName) (head1 (Jvm.Cond.code (⟨"java/lang/String", "equals", "(Ljava/lang/Object;)Z"⟩ : MethodName) jdk_42_method_66_code 3 (some .boolean) :: ws) ({ frames := 1, cells := 0, slots := 0, locals := 14 } : Room)) (fun a U => a = #[(.ref a1), (.ref a2)] ∧ Z.Warmed39 U.vm ∧ U.heap = h0) (fun _ _ _ _ _ => True) (fun _ U o U' => ∃ v L, o = .returned v ∧ Q_se0 Z a1 a2 b1 b2 k1 k2 cz h0 n0 v U'.heap L ∧ FrameEnd U o U' L ({ frames := 1, cells := 0, slots := 0, locals := 14 } : Room).cells ({ frames := 1, cells := 0, slots := 0, locals := 14 } : Room).slots) := by
  refine MetFree.of_bodySF (plainFor_of_name pn_java_lang_String) hisR ?_
  intro p e s m args below meth c s₁ Bd hml0 hP hK
  obtain ⟨rfl, hZ, hh⟩ := hP
  have hx := Bd.exec
  have hby := Bd.bytes
  have hml : c.maxLocals = 3 := hml0
  have hown : s.vm.findClass "java/lang/String" = some m.cls := findClass_of_methodNamed Bd.named
  have hnm := (name_of_methodNamed Bd.named Bd.method).1
  have X0 : Stand p l e ({ frames := 1, cells := 0, slots := 0, locals := 14 } : Room) s m #[(.ref a1), (.ref a2)] below meth c s₁ [] 0 0 := Stand.of_body Bd
  have e0 : s₁.heap = h0 := by rw [← hh, Bd.state]; rfl
  have N0 := Fr.nil n0
  have go0 : Goes p e below s₁ (entryFrame m #[(.ref a1), (.ref a2)] 3) s₁ (mkF m 0 #[.val (.ref a1), .val (.ref a2), .unset] []) := fun t k => castTop (by first | (simp [entryFrame, mkF, argsToLocals, Value.category]; done) | rfl) k
  have go172 : Goes p e below s₁ (entryFrame m #[(.ref a1), (.ref a2)] 3) s₁ (mkF m 2 #[.val (.ref a1), .val (.ref a2), .unset] [(.ref a2), (.ref a1)]) := fun t k => go0 t (by
    show Steps p.tables e below (s₁.setTop (mkF m 0 #[.val (.ref a1), .val (.ref a2), .unset] [])) _
    refine XS.aloadN X0.here hx rfl (hb hby d4_0) rfl rfl ?_
    show Steps p.tables e below (s₁.setTop (mkF m 1 #[.val (.ref a1), .val (.ref a2), .unset] [(.ref a1)])) _
    refine XS.aloadN X0.here hx rfl (hb hby d4_1) rfl rfl ?_
    exact k)
  by_cases heq : a1 = a2
  · have go173 : Goes p e below s₁ (entryFrame m #[(.ref a1), (.ref a2)] 3) s₁ (mkF m 6 #[.val (.ref a1), .val (.ref a2), .unset] [(.int (1 : Int32))]) := fun t k => go172 t (by
      show Steps p.tables e below (s₁.setTop (mkF m 2 #[.val (.ref a1), .val (.ref a2), .unset] [(.ref a2), (.ref a1)])) _
      refine Jvm.RoadKit.acmp (g := (mkF m 2 #[.val (.ref a1), .val (.ref a2), .unset] [(.ref a2), (.ref a1)])) X0 hx rfl rfl rfl (pc0 := 2) (pc' := 5) (same := true) rfl (hb hby d4_2) rfl (decide_eq_true (congrArg Value.ref heq)) (by decide) (by decide) ?_
      show Steps p.tables e below (s₁.setTop (mkF m 5 #[.val (.ref a1), .val (.ref a2), .unset] [])) _
      refine XS.iconst X0.here hx rfl (hb hby d4_5) ?_
      exact k)
    obtain ⟨fs, hr, hrun, hended, hW, hsame⟩ := X0.leave (v := some (.int (1 : Int32))) (fun h => by rw [Bd.returns] at h; cases h)
    refine ⟨_, _, go173 _ ?_, hrun, hended, _, _, rfl, ?_, ⟨_, rfl⟩, hW, hsame.mono (by decide) (by decide)⟩
    · exact retN X0 hx (t := .boolean) Bd.returns (by simp) (hb hby d4_6) hr
    · show Q_se0 Z a1 a2 b1 b2 k1 k2 cz h0 n0 _ s₁.heap _
      rw [e0]
      exact ⟨rfl, N0, rfl⟩
  · have go174 : Goes p e below s₁ (entryFrame m #[(.ref a1), (.ref a2)] 3) s₁ (mkF m 8 #[.val (.ref a1), .val (.ref a2), .unset] [(.ref a2)]) := fun t k => go172 t (by
      show Steps p.tables e below (s₁.setTop (mkF m 2 #[.val (.ref a1), .val (.ref a2), .unset] [(.ref a2), (.ref a1)])) _
      refine Jvm.RoadKit.acmp (g := (mkF m 2 #[.val (.ref a1), .val (.ref a2), .unset] [(.ref a2), (.ref a1)])) X0 hx rfl rfl rfl (pc0 := 2) (pc' := 7) (same := false) rfl (hb hby d4_2) rfl (decide_eq_false fun q => heq (Value.ref.inj q)) (by decide) (by decide) ?_
      show Steps p.tables e below (s₁.setTop (mkF m 7 #[.val (.ref a1), .val (.ref a2), .unset] [])) _
      refine XS.aloadN X0.here hx rfl (hb hby d4_7) rfl rfl ?_
      exact k)
    obtain ⟨T175, X175, e175, st175⟩ := instY X0 hx hZ hown (hw _ (List.mem_of_getElem? (i := 38) rfl)) e0 (Ins.self E2) (g := (mkF m 8 #[.val (.ref a1), .val (.ref a2), .unset] [(.ref a2)])) rfl rfl (hb hby d4_8)
    have go175 : Goes p e below s₁ (entryFrame m #[(.ref a1), (.ref a2)] 3) T175 (mkF m 11 #[.val (.ref a1), .val (.ref a2), .unset] [(.int (1 : Int32))]) := fun t k => go174 t (st175 _ k)
    have go176 : Goes p e below s₁ (entryFrame m #[(.ref a1), (.ref a2)] 3) T175 (mkF m 15 #[.val (.ref a1), .val (.ref a2), .unset] [(.ref a2)]) := fun t k => go175 t (by
      show Steps p.tables e below (T175.setTop (mkF m 11 #[.val (.ref a1), .val (.ref a2), .unset] [(.int (1 : Int32))])) _
      refine XS.ifNo X175.here hx rfl (hb hby d4_11) rfl ((if0 _ _).trans (feq (by decide)).1) ?_
      show Steps p.tables e below (T175.setTop (mkF m 14 #[.val (.ref a1), .val (.ref a2), .unset] [])) _
      refine XS.aloadN X175.here hx rfl (hb hby d4_14) rfl rfl ?_
      exact k)
    obtain ⟨T177, X177, e177, st177⟩ := castY X175 hx hZ hown (hw _ (List.mem_of_getElem? (i := 38) rfl)) e175 (Ins.self E2) (g := (mkF m 15 #[.val (.ref a1), .val (.ref a2), .unset] [(.ref a2)])) rfl rfl (hb hby d4_15)
    have go177 : Goes p e below s₁ (entryFrame m #[(.ref a1), (.ref a2)] 3) T177 (mkF m 18 #[.val (.ref a1), .val (.ref a2), .unset] [(.ref a2)]) := fun t k => go176 t (st177 _ k)
    have go178 : Goes p e below s₁ (entryFrame m #[(.ref a1), (.ref a2)] 3) T177 (mkF m 19 #[.val (.ref a1), .val (.ref a2), .val (.ref a2)] []) := fun t k => go177 t (by
      show Steps p.tables e below (T177.setTop (mkF m 18 #[.val (.ref a1), .val (.ref a2), .unset] [(.ref a2)])) _
      refine XS.astoreN X177.here hx rfl (hb hby d4_18) rfl rfl (l' := #[.val (.ref a1), .val (.ref a2), .val (.ref a2)]) rfl ?_
      exact k)
    obtain ⟨T179, X179, e179, st179⟩ := getS2 X177 hx hZ hown (host := "") (Or.inl (hw _ (List.mem_of_getElem? (i := 40) rfl))) Via.refl e177 SC (g := (mkF m 19 #[.val (.ref a1), .val (.ref a2), .val (.ref a2)] [])) rfl (hb hby d4_19)
    have go179 : Goes p e below s₁ (entryFrame m #[(.ref a1), (.ref a2)] 3) T179 (mkF m 22 #[.val (.ref a1), .val (.ref a2), .val (.ref a2)] [(.int cz)]) := fun t k => go178 t (st179 _ k)
    have go180 : Goes p e below s₁ (entryFrame m #[(.ref a1), (.ref a2)] 3) T179 (mkF m 26 #[.val (.ref a1), .val (.ref a2), .val (.ref a2)] [(.ref a1)]) := fun t k => go179 t (by
      show Steps p.tables e below (T179.setTop (mkF m 22 #[.val (.ref a1), .val (.ref a2), .val (.ref a2)] [(.int cz)])) _
      refine XS.ifNo X179.here hx rfl (hb hby d4_22) rfl ((if0 _ _).trans (feq hz).1) ?_
      show Steps p.tables e below (T179.setTop (mkF m 25 #[.val (.ref a1), .val (.ref a2), .val (.ref a2)] [])) _
      refine XS.aloadN X179.here hx rfl (hb hby d4_25) rfl rfl ?_
      exact k)
    obtain ⟨T181, X181, e181, st181⟩ := getF X179 hx hZ hown (host := "") (Or.inl (hw _ (List.mem_of_getElem? (i := 41) rfl))) Via.refl e179 C1 (g := (mkF m 26 #[.val (.ref a1), .val (.ref a2), .val (.ref a2)] [(.ref a1)])) rfl rfl (hb hby d4_26)
    have go181 : Goes p e below s₁ (entryFrame m #[(.ref a1), (.ref a2)] 3) T181 (mkF m 29 #[.val (.ref a1), .val (.ref a2), .val (.ref a2)] [(.int (0 : Int32))]) := fun t k => go180 t (st181 _ k)
    have go182 : Goes p e below s₁ (entryFrame m #[(.ref a1), (.ref a2)] 3) T181 (mkF m 30 #[.val (.ref a1), .val (.ref a2), .val (.ref a2)] [(.ref a2), (.int (0 : Int32))]) := fun t k => go181 t (by
      show Steps p.tables e below (T181.setTop (mkF m 29 #[.val (.ref a1), .val (.ref a2), .val (.ref a2)] [(.int (0 : Int32))])) _
      refine XS.aloadN X181.here hx rfl (hb hby d4_29) rfl rfl ?_
      exact k)
    obtain ⟨T183, X183, e183, st183⟩ := getF X181 hx hZ hown (host := "") (Or.inl (hw _ (List.mem_of_getElem? (i := 41) rfl))) Via.refl e181 C2 (g := (mkF m 30 #[.val (.ref a1), .val (.ref a2), .val (.ref a2)] [(.ref a2), (.int (0 : Int32))])) rfl rfl (hb hby d4_30)
    have go183 : Goes p e below s₁ (entryFrame m #[(.ref a1), (.ref a2)] 3) T183 (mkF m 33 #[.val (.ref a1), .val (.ref a2), .val (.ref a2)] [(.int (0 : Int32)), (.int (0 : Int32))]) := fun t k => go182 t (st183 _ k)
    have go184 : Goes p e below s₁ (entryFrame m #[(.ref a1), (.ref a2)] 3) T183 (mkF m 37 #[.val (.ref a1), .val (.ref a2), .val (.ref a2)] [(.ref a1)]) := fun t k => go183 t (by
      show Steps p.tables e below (T183.setTop (mkF m 33 #[.val (.ref a1), .val (.ref a2), .val (.ref a2)] [(.int (0 : Int32)), (.int (0 : Int32))])) _
      refine XS.icmpNo X183.here hx rfl (hb hby d4_33) rfl (teq rfl).2 ?_
      show Steps p.tables e below (T183.setTop (mkF m 36 #[.val (.ref a1), .val (.ref a2), .val (.ref a2)] [])) _
      refine XS.aloadN X183.here hx rfl (hb hby d4_36) rfl rfl ?_
      exact k)
    obtain ⟨T185, X185, e185, st185⟩ := getF X183 hx hZ hown (host := "") (Or.inl (hw _ (List.mem_of_getElem? (i := 42) rfl))) Via.refl e183 Y1 (g := (mkF m 37 #[.val (.ref a1), .val (.ref a2), .val (.ref a2)] [(.ref a1)])) rfl rfl (hb hby d4_37)
    have go185 : Goes p e below s₁ (entryFrame m #[(.ref a1), (.ref a2)] 3) T185 (mkF m 40 #[.val (.ref a1), .val (.ref a2), .val (.ref a2)] [(.ref b1)]) := fun t k => go184 t (st185 _ k)
    have go186 : Goes p e below s₁ (entryFrame m #[(.ref a1), (.ref a2)] 3) T185 (mkF m 41 #[.val (.ref a1), .val (.ref a2), .val (.ref a2)] [(.ref a2), (.ref b1)]) := fun t k => go185 t (by
      show Steps p.tables e below (T185.setTop (mkF m 40 #[.val (.ref a1), .val (.ref a2), .val (.ref a2)] [(.ref b1)])) _
      refine XS.aloadN X185.here hx rfl (hb hby d4_40) rfl rfl ?_
      exact k)
    obtain ⟨T187, X187, e187, st187⟩ := getF X185 hx hZ hown (host := "") (Or.inl (hw _ (List.mem_of_getElem? (i := 42) rfl))) Via.refl e185 Y2 (g := (mkF m 41 #[.val (.ref a1), .val (.ref a2), .val (.ref a2)] [(.ref a2), (.ref b1)])) rfl rfl (hb hby d4_41)
    have go187 : Goes p e below s₁ (entryFrame m #[(.ref a1), (.ref a2)] 3) T187 (mkF m 44 #[.val (.ref a1), .val (.ref a2), .val (.ref a2)] [(.ref b2), (.ref b1)]) := fun t k => go186 t (st187 _ k)
    obtain ⟨_, _, ⟨T188, L188, k188, n188⟩, -, X188, ⟨Lc188, hQ188, l188, y188, z188⟩, st188⟩ := Jvm.LawKit.callS X187 hx (y := (⟨"java/lang/StringLatin1", "equals", "([B[B)Z"⟩ : MethodName)) hown (mvT hZ (hw _ (List.mem_of_getElem? (i := 43) rfl))) (mvT hZ (hw _ (List.mem_of_getElem? (i := 44) rfl))) (mvT hZ (hw _ (List.mem_of_getElem? (i := 45) rfl))) (mvT hZ (hw _ (List.mem_of_getElem? (i := 46) rfl))) (by decide) (backOf (W := 0) (le0 l Z a0 hw [] b1 b2 k1 k2 h0 n0 Z0 V1 V2) hZ (hw _ (List.mem_of_getElem? (i := 46) rfl)) (hw _ (List.mem_of_getElem? (i := 45) rfl)) (by decide) (by decide)) (g := (mkF m 44 #[.val (.ref a1), .val (.ref a2), .val (.ref a2)] [(.ref b2), (.ref b1)])) rfl (by rw [hml]; rfl) (argsL := [(.ref b1), (.ref b2)]) (rest := []) (lenOf pd_2 rfl) rfl (by show 2 * 0 + _ ≤ _; exact Nat.le_of_eq rfl) (hb hby d4_44) (fun _ _ => ⟨rfl, e187, (by decide : 0 + 0 ≤ _), (by decide : 0 + 0 ≤ _)⟩)
    dsimp only [Pt.U, Pt.locs, Pt.cells, Pt.slots] at X188 l188 y188 z188 st188 hQ188
    subst l188 y188 z188
    obtain ⟨rfl, Nq188, eq188⟩ := hQ188
    have N188 := Fr.app N0 Nq188
    have go188 : Goes p e below s₁ (entryFrame m #[(.ref a1), (.ref a2)] 3) T188 (mkF m 47 #[.val (.ref a1), .val (.ref a2), .val (.ref a2)] [(.int (1 : Int32))]) := fun t k => go187 t (st188 _ k)
    have go189 : Goes p e below s₁ (entryFrame m #[(.ref a1), (.ref a2)] 3) T188 (mkF m 55 #[.val (.ref a1), .val (.ref a2), .val (.ref a2)] [(.int (1 : Int32))]) := fun t k => go188 t (by
      show Steps p.tables e below (T188.setTop (mkF m 47 #[.val (.ref a1), .val (.ref a2), .val (.ref a2)] [(.int (1 : Int32))])) _
      refine XS.ifNo X188.here hx rfl (hb hby d4_47) rfl ((if0 _ _).trans (feq (by decide)).1) ?_
      show Steps p.tables e below (T188.setTop (mkF m 50 #[.val (.ref a1), .val (.ref a2), .val (.ref a2)] [])) _
      refine XS.iconst X188.here hx rfl (hb hby d4_50) ?_
      show Steps p.tables e below (T188.setTop (mkF m 51 #[.val (.ref a1), .val (.ref a2), .val (.ref a2)] [(.int (1 : Int32))])) _
      refine XS.goto X188.here hx rfl (pc0 := 51) (pc' := 55) rfl (hb hby d4_51) (by decide) (by decide) ?_
      exact k)
    obtain ⟨fs, hr, hrun, hended, hW, hsame⟩ := X188.leave (v := some (.int (1 : Int32))) (fun h => by rw [Bd.returns] at h; cases h)
    refine ⟨_, _, go189 _ ?_, hrun, hended, _, _, rfl, ?_, ⟨_, rfl⟩, hW, hsame.mono (by decide) (by decide)⟩
    · exact retN X188 hx (t := .boolean) Bd.returns (by simp) (hb hby d4_55) hr
    · show Q_se0 Z a1 a2 b1 b2 k1 k2 cz h0 n0 _ T188.heap _
      rw [eq188]
      exact ⟨rfl, N188, rfl⟩
theorem pd_3 : parseMethodDescriptor "(Z)Lcom/example/keen_verdict/keenverdict/AttributeValue;" = some ⟨[.boolean], some (.object "com/example/keen_verdict/keenverdict/AttributeValue")⟩ := by decide +kernel
theorem pd_4 : parseMethodDescriptor "()Lcom/example/keen_verdict/keenverdict/DataType;" = some ⟨[], some (.object "com/example/keen_verdict/keenverdict/DataType")⟩ := by decide +kernel
theorem pd_5 : parseMethodDescriptor "()Ljava/lang/String;" = some ⟨[], some (.object "java/lang/String")⟩ := by decide +kernel
theorem pd_6 : parseMethodDescriptor "()Ljava/lang/Object;" = some ⟨[], some (.object "java/lang/Object")⟩ := by decide +kernel
def Q_rm0 (Z : State) (p1 : Int32) (wT wF dd tT tF vT vF yT yF : Addr) (kT kF : ClassId) (cz : Int32) (h0 : Heap) (n0 : Nat) (v : Option Value) (h : Heap) (L : List Loc) : Prop := v = some (.int (1 : Int32)) ∧ Fr n0 L
theorem pn_com_example_keen_verdict_keenverdict_AttributeValueOfPinLaw : plainName "com/example/keen_verdict/keenverdict/AttributeValueOfPinLaw" = true := by first | (simp [plainName, overriddenIn]; done) | decide +kernel
set_option maxRecDepth 65536 in
set_option maxHeartbeats 40000000 in
theorem rm0 (l : Launch) (Z : State) (a0 : Array Value) (hw : ∀ d ∈ tables_1, d.before a0 Z = true) (ws : List Jvm.Cond) (p1 : Int32) (wT wF dd tT tF vT vF yT yF : Addr) (kT kF : ClassId) (cz : Int32) (h0 : Heap) (n0 : Nat) (Z0 : n0 ≤ h0.size) (O0 : Old Z n0 h0) (hN0 : n0 = h0.size) (hcw : Jvm.Lit.compactW.before a0 Z = true) (hz : ¬ (cz = (0 : Int32))) (hl1 : Jvm.Lit.constHeld Z "com/example/keen_verdict/keenverdict/AttributeValueOfPinLaw" 23) (hl0 : Jvm.Lit.constHeld Z "com/example/keen_verdict/keenverdict/AttributeValueOfPinLaw" 25) (ST : Sta Z Z.heap "com/example/keen_verdict/keenverdict/AttributeValue" "TRUE" "Lcom/example/keen_verdict/keenverdict/AttributeValue;" (.ref wT)) (SF : Sta Z Z.heap "com/example/keen_verdict/keenverdict/AttributeValue" "FALSE" "Lcom/example/keen_verdict/keenverdict/AttributeValue;" (.ref wF)) (SB : Sta Z Z.heap "com/example/keen_verdict/keenverdict/DataType" "BOOLEAN" "Lcom/example/keen_verdict/keenverdict/DataType;" (.ref dd)) (SC : Sta Z Z.heap "java/lang/String" "COMPACT_STRINGS" "Z" (.int cz)) (ED : Exa Z Z.heap dd "com/example/keen_verdict/keenverdict/DataType") (ET : Exa Z Z.heap wT "com/example/keen_verdict/keenverdict/AttributeValue") (DT : Fld Z Z.heap wT "com/example/keen_verdict/keenverdict/AttributeValue" "dataType" "Lcom/example/keen_verdict/keenverdict/DataType;" (.ref dd)) (XT : Fld Z Z.heap wT "com/example/keen_verdict/keenverdict/AttributeValue" "text" "Ljava/lang/String;" (.ref tT)) (VT : Fld Z Z.heap wT "com/example/keen_verdict/keenverdict/AttributeValue" "value" "Ljava/lang/Object;" (.ref vT)) (BT : Exa Z Z.heap vT "java/lang/Boolean") (ZT : Fld Z Z.heap vT "java/lang/Boolean" "value" "Z" (.int (1 : Int32))) (TET : Exa Z Z.heap tT "java/lang/String") (TCT : Fld Z Z.heap tT "java/lang/String" "coder" "B" (.int (0 : Int32))) (TVT : Fld Z Z.heap tT "java/lang/String" "value" "[B" (.ref yT)) (TAT : Arv Z Z.heap yT kT .byte (4 : Int32) [(.int (116 : Int32)), (.int (114 : Int32)), (.int (117 : Int32)), (.int (101 : Int32))] (.int (0 : Int32))) (EF : Exa Z Z.heap wF "com/example/keen_verdict/keenverdict/AttributeValue") (DF : Fld Z Z.heap wF "com/example/keen_verdict/keenverdict/AttributeValue" "dataType" "Lcom/example/keen_verdict/keenverdict/DataType;" (.ref dd)) (XF : Fld Z Z.heap wF "com/example/keen_verdict/keenverdict/AttributeValue" "text" "Ljava/lang/String;" (.ref tF)) (VF : Fld Z Z.heap wF "com/example/keen_verdict/keenverdict/AttributeValue" "value" "Ljava/lang/Object;" (.ref vF)) (BF : Exa Z Z.heap vF "java/lang/Boolean") (ZF : Fld Z Z.heap vF "java/lang/Boolean" "value" "Z" (.int (0 : Int32))) (TEF : Exa Z Z.heap tF "java/lang/String") (TCF : Fld Z Z.heap tF "java/lang/String" "coder" "B" (.int (0 : Int32))) (TVF : Fld Z Z.heap tF "java/lang/String" "value" "[B" (.ref yF)) (TAF : Arv Z Z.heap yF kF .byte (5 : Int32) [(.int (102 : Int32)), (.int (97 : Int32)), (.int (108 : Int32)), (.int (115 : Int32)), (.int (101 : Int32))] (.int (0 : Int32))) :
    MetFree l x (head1 (Jvm.Cond.code x code maxLocals ret :: ws) room_1) (fun a U => a = #[(.int p1)] ∧ Z.Warmed39 U.vm ∧ U.heap = h0 ∧ IB Z U.vm []) (fun _ _ _ _ _ => True) (fun _ U o U' => ∃ v L, o = .returned v ∧ Q_rm0 Z p1 wT wF dd tT tF vT vF yT yF kT kF cz h0 n0 v U'.heap L ∧ ReturnedEndW U o U' L room_1.cells room_1.slots) := by
  refine MetFree.of_bodySF (plainFor_of_name pn_com_example_keen_verdict_keenverdict_AttributeValueOfPinLaw) hisR ?_
  intro p e s m args below meth c s₁ Bd hml0 hP hK
  obtain ⟨rfl, hZ, hh, hIB⟩ := hP
  have hx := Bd.exec
  have hby := Bd.bytes
  have hml : c.maxLocals = 7 := hml0
  have hown : s.vm.findClass "com/example/keen_verdict/keenverdict/AttributeValueOfPinLaw" = some m.cls := findClass_of_methodNamed Bd.named
  have hnm := (name_of_methodNamed Bd.named Bd.method).1
  have X0 : Stand p l e room_1 s m #[(.int p1)] below meth c s₁ [] 0 0 := Stand.of_body Bd
  have e0 : s₁.heap = h0 := by rw [← hh, Bd.state]; rfl
  have N0 := Fr.nil n0
  have wS : ∀ a ∈ Bundle.stringAtoms, a.before a0 Z = true := fun d hd => hw d ((by decide +kernel : ∀ d ∈ Bundle.stringAtoms, d ∈ tables_1) d hd)
  have hkeep : ∀ (b : Addr) (cl : Cell), Z.heap[b]? = some cl → s.heap[b]? = some cl := fun b cl q => by rw [hh]; exact O0.2.2 b cl q
  have go0 : Goes p e below s₁ (entryFrame m #[(.int p1)] maxLocals) s₁ (mkF m 0 #[.val (.int p1), .unset, .unset, .unset, .unset, .unset, .unset] []) := fun t k => castTop (by first | (simp [entryFrame, mkF, argsToLocals, Value.category, maxLocals]; done) | rfl) k
  have go190 : Goes p e below s₁ (entryFrame m #[(.int p1)] maxLocals) s₁ (mkF m 3 #[.val (.int p1), .unset, .unset, .unset, .unset, .unset, .unset] [(.int (p1 &&& (1 : Int32)))]) := fun t k => go0 t (by
    show Steps p.tables e below (s₁.setTop (mkF m 0 #[.val (.int p1), .unset, .unset, .unset, .unset, .unset, .unset] [])) _
    refine XS.iloadN X0.here hx rfl (hb hby at_0) rfl ?_
    show Steps p.tables e below (s₁.setTop (mkF m 1 #[.val (.int p1), .unset, .unset, .unset, .unset, .unset, .unset] [(.int p1)])) _
    refine XS.iconst X0.here hx rfl (hb hby at_1) ?_
    show Steps p.tables e below (s₁.setTop (mkF m 2 #[.val (.int p1), .unset, .unset, .unset, .unset, .unset, .unset] [(.int (1 : Int32)), (.int p1)])) _
    refine XS.iand X0.here hx rfl (hb hby at_2) rfl ?_
    exact k)
  by_cases hf : (p1 &&& (1 : Int32)) = (0 : Int32)
  · have go191 : Goes p e below s₁ (entryFrame m #[(.int p1)] maxLocals) s₁ (mkF m 13 #[.val (.int p1), .val (.int (0 : Int32)), .unset, .unset, .unset, .unset, .unset] [(.int (0 : Int32))]) := fun t k => go190 t (by
      show Steps p.tables e below (s₁.setTop (mkF m 3 #[.val (.int p1), .unset, .unset, .unset, .unset, .unset, .unset] [(.int (p1 &&& (1 : Int32)))])) _
      refine XS.ifYes X0.here hx rfl (pc0 := 3) (pc' := 10) rfl (hb hby at_3) rfl ((if0 _ _).trans (teq hf).1) (by decide) (by decide) ?_
      show Steps p.tables e below (s₁.setTop (mkF m 10 #[.val (.int p1), .unset, .unset, .unset, .unset, .unset, .unset] [])) _
      refine XS.iconst X0.here hx rfl (hb hby at_10) ?_
      show Steps p.tables e below (s₁.setTop (mkF m 11 #[.val (.int p1), .unset, .unset, .unset, .unset, .unset, .unset] [(.int (0 : Int32))])) _
      refine XS.istoreN X0.here hx rfl (hb hby at_11) rfl (l' := #[.val (.int p1), .val (.int (0 : Int32)), .unset, .unset, .unset, .unset, .unset]) rfl ?_
      show Steps p.tables e below (s₁.setTop (mkF m 12 #[.val (.int p1), .val (.int (0 : Int32)), .unset, .unset, .unset, .unset, .unset] [])) _
      refine XS.iloadN X0.here hx rfl (hb hby at_12) rfl ?_
      exact k)
    obtain ⟨_, _, ⟨T192, L192, k192, n192⟩, -, X192, ⟨Lc192, hQ192, l192, y192, z192⟩, st192⟩ := Jvm.LawKit.callS X0 hx (y := (⟨"com/example/keen_verdict/keenverdict/AttributeValue", "of", "(Z)Lcom/example/keen_verdict/keenverdict/AttributeValue;"⟩ : MethodName)) hown (mvT hZ (hw _ (List.mem_of_getElem? (i := 0) rfl))) (mvT hZ (hw _ (List.mem_of_getElem? (i := 1) rfl))) (mvT hZ (hw _ (List.mem_of_getElem? (i := 2) rfl))) (mvT hZ (hw _ (List.mem_of_getElem? (i := 3) rfl))) (by decide) (backOf (W := 0) (of0 l Z a0 hw []  wT wF h0 n0 Z0 (ST.ext O0.2) (SF.ext O0.2)) hZ (hw _ (List.mem_of_getElem? (i := 3) rfl)) (hw _ (List.mem_of_getElem? (i := 2) rfl)) (by decide) (by decide)) (g := (mkF m 13 #[.val (.int p1), .val (.int (0 : Int32)), .unset, .unset, .unset, .unset, .unset] [(.int (0 : Int32))])) rfl (by rw [hml]; rfl) (argsL := [(.int (0 : Int32))]) (rest := []) (lenOf pd_3 rfl) rfl (by show 2 * 0 + _ ≤ _; exact Nat.le_of_eq rfl) (hb hby at_13) (fun _ _ => ⟨rfl, e0, (by decide : 0 + 0 ≤ _), (by decide : 0 + 0 ≤ _)⟩)
    dsimp only [Pt.U, Pt.locs, Pt.cells, Pt.slots] at X192 l192 y192 z192 st192 hQ192
    subst l192 y192 z192
    obtain ⟨rfl, Nq192, eq192⟩ := hQ192
    have N192 := Fr.app N0 Nq192
    have go192 : Goes p e below s₁ (entryFrame m #[(.int p1)] maxLocals) T192 (mkF m 16 #[.val (.int p1), .val (.int (0 : Int32)), .unset, .unset, .unset, .unset, .unset] [(.ref wF)]) := fun t k => go191 t (st192 _ k)
    have go193 : Goes p e below s₁ (entryFrame m #[(.int p1)] maxLocals) T192 (mkF m 18 #[.val (.int p1), .val (.int (0 : Int32)), .val (.ref wF), .unset, .unset, .unset, .unset] [(.int (0 : Int32))]) := fun t k => go192 t (by
      show Steps p.tables e below (T192.setTop (mkF m 16 #[.val (.int p1), .val (.int (0 : Int32)), .unset, .unset, .unset, .unset, .unset] [(.ref wF)])) _
      refine XS.astoreN X192.here hx rfl (hb hby at_16) rfl rfl (l' := #[.val (.int p1), .val (.int (0 : Int32)), .val (.ref wF), .unset, .unset, .unset, .unset]) rfl ?_
      show Steps p.tables e below (T192.setTop (mkF m 17 #[.val (.int p1), .val (.int (0 : Int32)), .val (.ref wF), .unset, .unset, .unset, .unset] [])) _
      refine XS.iloadN X192.here hx rfl (hb hby at_17) rfl ?_
      exact k)
    have go194 : Goes p e below s₁ (entryFrame m #[(.int p1)] maxLocals) T192 (mkF m 26 #[.val (.int p1), .val (.int (0 : Int32)), .val (.ref wF), .unset, .unset, .unset, .unset] [(.int (1 : Int32))]) := fun t k => go193 t (by
      show Steps p.tables e below (T192.setTop (mkF m 18 #[.val (.int p1), .val (.int (0 : Int32)), .val (.ref wF), .unset, .unset, .unset, .unset] [(.int (0 : Int32))])) _
      refine XS.ifNo X192.here hx rfl (hb hby at_18) rfl ((if0 _ _).trans (teq (by decide)).2) ?_
      show Steps p.tables e below (T192.setTop (mkF m 21 #[.val (.int p1), .val (.int (0 : Int32)), .val (.ref wF), .unset, .unset, .unset, .unset] [])) _
      refine XS.iconst X192.here hx rfl (hb hby at_21) ?_
      show Steps p.tables e below (T192.setTop (mkF m 22 #[.val (.int p1), .val (.int (0 : Int32)), .val (.ref wF), .unset, .unset, .unset, .unset] [(.int (1 : Int32))])) _
      refine XS.goto X192.here hx rfl (pc0 := 22) (pc' := 26) rfl (hb hby at_22) (by decide) (by decide) ?_
      exact k)
    obtain ⟨_, _, ⟨T195, L195, k195, n195⟩, -, X195, ⟨Lc195, hQ195, l195, y195, z195⟩, st195⟩ := Jvm.LawKit.callS X192 hx (y := (⟨"com/example/keen_verdict/keenverdict/AttributeValue", "of", "(Z)Lcom/example/keen_verdict/keenverdict/AttributeValue;"⟩ : MethodName)) hown (mvT hZ (hw _ (List.mem_of_getElem? (i := 0) rfl))) (mvT hZ (hw _ (List.mem_of_getElem? (i := 1) rfl))) (mvT hZ (hw _ (List.mem_of_getElem? (i := 2) rfl))) (mvT hZ (hw _ (List.mem_of_getElem? (i := 3) rfl))) (by decide) (backOf (W := 0) (of1 l Z a0 hw []  wT wF h0 n0 Z0 (ST.ext O0.2) (SF.ext O0.2)) hZ (hw _ (List.mem_of_getElem? (i := 3) rfl)) (hw _ (List.mem_of_getElem? (i := 2) rfl)) (by decide) (by decide)) (g := (mkF m 26 #[.val (.int p1), .val (.int (0 : Int32)), .val (.ref wF), .unset, .unset, .unset, .unset] [(.int (1 : Int32))])) rfl (by rw [hml]; rfl) (argsL := [(.int (1 : Int32))]) (rest := []) (lenOf pd_3 rfl) rfl (by show 2 * 0 + _ ≤ _; exact Nat.le_of_eq rfl) (hb hby at_26) (fun _ _ => ⟨rfl, eq192, (by decide : 0 + 0 ≤ _), (by decide : 0 + 0 ≤ _)⟩)
    dsimp only [Pt.U, Pt.locs, Pt.cells, Pt.slots] at X195 l195 y195 z195 st195 hQ195
    subst l195 y195 z195
    obtain ⟨rfl, Nq195, eq195⟩ := hQ195
    have N195 := Fr.app N192 Nq195
    have go195 : Goes p e below s₁ (entryFrame m #[(.int p1)] maxLocals) T195 (mkF m 29 #[.val (.int p1), .val (.int (0 : Int32)), .val (.ref wF), .unset, .unset, .unset, .unset] [(.ref wT)]) := fun t k => go194 t (st195 _ k)
    have go196 : Goes p e below s₁ (entryFrame m #[(.int p1)] maxLocals) T195 (mkF m 31 #[.val (.int p1), .val (.int (0 : Int32)), .val (.ref wF), .val (.ref wT), .unset, .unset, .unset] [(.ref wF)]) := fun t k => go195 t (by
      show Steps p.tables e below (T195.setTop (mkF m 29 #[.val (.int p1), .val (.int (0 : Int32)), .val (.ref wF), .unset, .unset, .unset, .unset] [(.ref wT)])) _
      refine XS.astoreN X195.here hx rfl (hb hby at_29) rfl rfl (l' := #[.val (.int p1), .val (.int (0 : Int32)), .val (.ref wF), .val (.ref wT), .unset, .unset, .unset]) rfl ?_
      show Steps p.tables e below (T195.setTop (mkF m 30 #[.val (.int p1), .val (.int (0 : Int32)), .val (.ref wF), .val (.ref wT), .unset, .unset, .unset] [])) _
      refine XS.aloadN X195.here hx rfl (hb hby at_30) rfl rfl ?_
      exact k)
    have go197 : Goes p e below s₁ (entryFrame m #[(.int p1)] maxLocals) T195 (mkF m 35 #[.val (.int p1), .val (.int (0 : Int32)), .val (.ref wF), .val (.ref wT), .unset, .unset, .unset] [(.ref wT)]) := fun t k => go196 t (by
      show Steps p.tables e below (T195.setTop (mkF m 31 #[.val (.int p1), .val (.int (0 : Int32)), .val (.ref wF), .val (.ref wT), .unset, .unset, .unset] [(.ref wF)])) _
      refine XS.ifnullNo X195.here hx rfl (hb hby at_31) rfl ?_
      show Steps p.tables e below (T195.setTop (mkF m 34 #[.val (.int p1), .val (.int (0 : Int32)), .val (.ref wF), .val (.ref wT), .unset, .unset, .unset] [])) _
      refine XS.aloadN X195.here hx rfl (hb hby at_34) rfl rfl ?_
      exact k)
    have go198 : Goes p e below s₁ (entryFrame m #[(.int p1)] maxLocals) T195 (mkF m 41 #[.val (.int p1), .val (.int (0 : Int32)), .val (.ref wF), .val (.ref wT), .unset, .unset, .unset] [(.ref wF)]) := fun t k => go197 t (by
      show Steps p.tables e below (T195.setTop (mkF m 35 #[.val (.int p1), .val (.int (0 : Int32)), .val (.ref wF), .val (.ref wT), .unset, .unset, .unset] [(.ref wT)])) _
      refine XS.ifnonnullYes X195.here hx rfl (pc0 := 35) (pc' := 40) rfl (hb hby at_35) rfl (by decide) (by decide) ?_
      show Steps p.tables e below (T195.setTop (mkF m 40 #[.val (.int p1), .val (.int (0 : Int32)), .val (.ref wF), .val (.ref wT), .unset, .unset, .unset] [])) _
      refine XS.aloadN X195.here hx rfl (hb hby at_40) rfl rfl ?_
      exact k)
    obtain ⟨cq199, kq199, q199a, q199b, q199c⟩ := isOf hZ eq195 (EF.ext O0.2)
    obtain ⟨_, _, ⟨T199, L199, k199, n199⟩, -, X199, ⟨Lc199, hQ199, l199, y199, z199⟩, st199⟩ := X195.virtualBack hx (y := (⟨"com/example/keen_verdict/keenverdict/AttributeValue", "dataType", "()Lcom/example/keen_verdict/keenverdict/DataType;"⟩ : MethodName)) (z := (⟨"com/example/keen_verdict/keenverdict/AttributeValue", "dataType", "()Lcom/example/keen_verdict/keenverdict/DataType;"⟩ : MethodName)) hown (mvT hZ (hw _ (List.mem_of_getElem? (i := 8) rfl))) (mvT hZ (hw _ (List.mem_of_getElem? (i := 9) rfl))) (notFace_of_selects (args := #[]) (mvT hZ (hw _ (List.mem_of_getElem? (i := 11) rfl)))) (mvT hZ (hw _ (List.mem_of_getElem? (i := 11) rfl))) (mvT hZ (hw _ (List.mem_of_getElem? (i := 10) rfl))) (by decide) (backOf (W := 0) (gDT l Z a0 hw [] wF dd h0 n0 Z0 (DF.ext O0.2)) hZ (hw _ (List.mem_of_getElem? (i := 12) rfl)) (hw _ (List.mem_of_getElem? (i := 2) rfl)) (by decide) (by decide)) q199a q199c (g := (mkF m 41 #[.val (.int p1), .val (.int (0 : Int32)), .val (.ref wF), .val (.ref wT), .unset, .unset, .unset] [(.ref wF)])) rfl (by rw [hml]; rfl) (Steps.refl _) (argsL := []) (rest := []) (lenOf pd_4 rfl) rfl (by show 2 * 0 + _ ≤ _; exact Nat.le_of_eq rfl) (hb hby at_41) (fun _ _ => ⟨rfl, eq195, (by decide : 0 + 0 ≤ _), (by decide : 0 + 0 ≤ _)⟩)
    dsimp only [Pt.U, Pt.locs, Pt.cells, Pt.slots] at X199 l199 y199 z199 st199 hQ199
    subst l199 y199 z199
    obtain ⟨rfl, Nq199, eq199⟩ := hQ199
    have N199 := Fr.app N195 Nq199
    have go199 : Goes p e below s₁ (entryFrame m #[(.int p1)] maxLocals) T199 (mkF m 44 #[.val (.int p1), .val (.int (0 : Int32)), .val (.ref wF), .val (.ref wT), .unset, .unset, .unset] [(.ref dd)]) := fun t k => go198 t (st199.trans k)
    obtain ⟨T200, X200, e200, st200⟩ := getS2 X199 hx hZ hown (host := "") (Or.inl (hw _ (List.mem_of_getElem? (i := 15) rfl))) Via.refl eq199 (SB.ext O0.2) (g := (mkF m 44 #[.val (.int p1), .val (.int (0 : Int32)), .val (.ref wF), .val (.ref wT), .unset, .unset, .unset] [(.ref dd)])) rfl (hb hby at_44)
    have go200 : Goes p e below s₁ (entryFrame m #[(.int p1)] maxLocals) T200 (mkF m 47 #[.val (.int p1), .val (.int (0 : Int32)), .val (.ref wF), .val (.ref wT), .unset, .unset, .unset] [(.ref dd), (.ref dd)]) := fun t k => go199 t (st200 _ k)
    have go201 : Goes p e below s₁ (entryFrame m #[(.int p1)] maxLocals) T200 (mkF m 53 #[.val (.int p1), .val (.int (0 : Int32)), .val (.ref wF), .val (.ref wT), .unset, .unset, .unset] [(.int (0 : Int32))]) := fun t k => go200 t (by
      show Steps p.tables e below (T200.setTop (mkF m 47 #[.val (.int p1), .val (.int (0 : Int32)), .val (.ref wF), .val (.ref wT), .unset, .unset, .unset] [(.ref dd), (.ref dd)])) _
      refine Jvm.RoadKit.acmp (g := (mkF m 47 #[.val (.int p1), .val (.int (0 : Int32)), .val (.ref wF), .val (.ref wT), .unset, .unset, .unset] [(.ref dd), (.ref dd)])) X200 hx rfl rfl rfl (pc0 := 47) (pc' := 52) (same := true) rfl (hb hby at_47) rfl (decide_eq_true rfl) (by decide) (by decide) ?_
      show Steps p.tables e below (T200.setTop (mkF m 52 #[.val (.int p1), .val (.int (0 : Int32)), .val (.ref wF), .val (.ref wT), .unset, .unset, .unset] [])) _
      refine XS.iloadN X200.here hx rfl (hb hby at_52) rfl ?_
      exact k)
    have go202 : Goes p e below s₁ (entryFrame m #[(.int p1)] maxLocals) T200 (mkF m 61 #[.val (.int p1), .val (.int (0 : Int32)), .val (.ref wF), .val (.ref wT), .unset, .unset, .unset] []) := fun t k => go201 t (by
      show Steps p.tables e below (T200.setTop (mkF m 53 #[.val (.int p1), .val (.int (0 : Int32)), .val (.ref wF), .val (.ref wT), .unset, .unset, .unset] [(.int (0 : Int32))])) _
      refine XS.ifYes X200.here hx rfl (pc0 := 53) (pc' := 61) rfl (hb hby at_53) rfl ((if0 _ _).trans (teq (by decide)).1) (by decide) (by decide) ?_
      exact k)
    obtain ⟨a203, T203, h203, ks203, b203, kb203, X203, e203, E203, hS203, hk203, hZ203, hown203, A203, Fc203, Fv203, V203, la203, lb203, IB203, st203⟩ := ldcSV (s := s) (vm0 := s.vm) X200 hx hZ hown (hw _ (List.mem_of_getElem? (i := 18) rfl)) wS e200 ((State.WarmedH.refl s).since 0) (Nat.zero_le _) (show Fr s.heap.size _ by rw [hh, ← hN0]; exact N199) hkeep hIB (by decide) hl0 hcw (vs := [(.int (102 : Int32)), (.int (97 : Int32)), (.int (108 : Int32)), (.int (115 : Int32)), (.int (101 : Int32))]) (z := (5 : Int32)) ⟨by decide, by first | rfl | decide⟩ (by decide) rfl (g := (mkF m 61 #[.val (.int p1), .val (.int (0 : Int32)), .val (.ref wF), .val (.ref wT), .unset, .unset, .unset] [])) rfl (hb hby at_61) (n := 20) (by decide) (by decide) (by decide) (by decide)
    have O203 := O0.ext E203
    have ZS203 : n0 ≤ h203.size := Nat.le_trans Z0 E203.1
    have hZ := hZ203
    have hown := hown203
    have go203 : Goes p e below s₁ (entryFrame m #[(.int p1)] maxLocals) T203 (mkF m 63 #[.val (.int p1), .val (.int (0 : Int32)), .val (.ref wF), .val (.ref wT), .unset, .unset, .unset] [(.ref a203)]) := fun t k => go202 t (st203 _ k)
    have go204 : Goes p e below s₁ (entryFrame m #[(.int p1)] maxLocals) T203 (mkF m 66 #[.val (.int p1), .val (.int (0 : Int32)), .val (.ref wF), .val (.ref wT), .val (.ref a203), .unset, .unset] [(.ref wF)]) := fun t k => go203 t (by
      show Steps p.tables e below (T203.setTop (mkF m 63 #[.val (.int p1), .val (.int (0 : Int32)), .val (.ref wF), .val (.ref wT), .unset, .unset, .unset] [(.ref a203)])) _
      refine XS.astore X203.here hx rfl (hb hby at_63) rfl rfl (l' := #[.val (.int p1), .val (.int (0 : Int32)), .val (.ref wF), .val (.ref wT), .val (.ref a203), .unset, .unset]) rfl ?_
      show Steps p.tables e below (T203.setTop (mkF m 65 #[.val (.int p1), .val (.int (0 : Int32)), .val (.ref wF), .val (.ref wT), .val (.ref a203), .unset, .unset] [])) _
      refine XS.aloadN X203.here hx rfl (hb hby at_65) rfl rfl ?_
      exact k)
    obtain ⟨cq205, kq205, q205a, q205b, q205c⟩ := isOf hZ e203 (EF.ext O203.2)
    obtain ⟨_, _, ⟨T205, L205, k205, n205⟩, -, X205, ⟨Lc205, hQ205, l205, y205, z205⟩, st205⟩ := X203.virtualBack hx (y := (⟨"com/example/keen_verdict/keenverdict/AttributeValue", "text", "()Ljava/lang/String;"⟩ : MethodName)) (z := (⟨"com/example/keen_verdict/keenverdict/AttributeValue", "text", "()Ljava/lang/String;"⟩ : MethodName)) hown (mvT hZ (hw _ (List.mem_of_getElem? (i := 26) rfl))) (mvT hZ (hw _ (List.mem_of_getElem? (i := 27) rfl))) (notFace_of_selects (args := #[]) (mvT hZ (hw _ (List.mem_of_getElem? (i := 29) rfl)))) (mvT hZ (hw _ (List.mem_of_getElem? (i := 29) rfl))) (mvT hZ (hw _ (List.mem_of_getElem? (i := 28) rfl))) (by decide) (backOf (W := 0) (gTX l Z a0 hw [] wF tF h203 n0 ZS203 (XF.ext O203.2)) hZ (hw _ (List.mem_of_getElem? (i := 30) rfl)) (hw _ (List.mem_of_getElem? (i := 2) rfl)) (by decide) (by decide)) q205a q205c (g := (mkF m 66 #[.val (.int p1), .val (.int (0 : Int32)), .val (.ref wF), .val (.ref wT), .val (.ref a203), .unset, .unset] [(.ref wF)])) rfl (by rw [hml]; rfl) (Steps.refl _) (argsL := []) (rest := []) (lenOf pd_5 rfl) rfl (by show 2 * 0 + _ ≤ _; exact Nat.le_of_eq rfl) (hb hby at_66) (fun _ _ => ⟨rfl, e203, (by decide : 2 + 0 ≤ _), (by decide : 24 + 0 ≤ _)⟩)
    dsimp only [Pt.U, Pt.locs, Pt.cells, Pt.slots] at X205 l205 y205 z205 st205 hQ205
    subst l205 y205 z205
    obtain ⟨rfl, Nq205, eq205⟩ := hQ205
    have N205 := Fr.app N199 Nq205
    have go205 : Goes p e below s₁ (entryFrame m #[(.int p1)] maxLocals) T205 (mkF m 69 #[.val (.int p1), .val (.int (0 : Int32)), .val (.ref wF), .val (.ref wT), .val (.ref a203), .unset, .unset] [(.ref tF)]) := fun t k => go204 t (st205.trans k)
    have go206 : Goes p e below s₁ (entryFrame m #[(.int p1)] maxLocals) T205 (mkF m 73 #[.val (.int p1), .val (.int (0 : Int32)), .val (.ref wF), .val (.ref wT), .val (.ref a203), .val (.ref tF), .unset] [(.ref tF)]) := fun t k => go205 t (by
      show Steps p.tables e below (T205.setTop (mkF m 69 #[.val (.int p1), .val (.int (0 : Int32)), .val (.ref wF), .val (.ref wT), .val (.ref a203), .unset, .unset] [(.ref tF)])) _
      refine XS.astore X205.here hx rfl (hb hby at_69) rfl rfl (l' := #[.val (.int p1), .val (.int (0 : Int32)), .val (.ref wF), .val (.ref wT), .val (.ref a203), .val (.ref tF), .unset]) rfl ?_
      show Steps p.tables e below (T205.setTop (mkF m 71 #[.val (.int p1), .val (.int (0 : Int32)), .val (.ref wF), .val (.ref wT), .val (.ref a203), .val (.ref tF), .unset] [])) _
      refine XS.aload X205.here hx rfl (hb hby at_71) rfl rfl ?_
      exact k)
    have go207 : Goes p e below s₁ (entryFrame m #[(.int p1)] maxLocals) T205 (mkF m 80 #[.val (.int p1), .val (.int (0 : Int32)), .val (.ref wF), .val (.ref wT), .val (.ref a203), .val (.ref tF), .unset] [(.ref a203), (.ref tF)]) := fun t k => go206 t (by
      show Steps p.tables e below (T205.setTop (mkF m 73 #[.val (.int p1), .val (.int (0 : Int32)), .val (.ref wF), .val (.ref wT), .val (.ref a203), .val (.ref tF), .unset] [(.ref tF)])) _
      refine XS.ifnullNo X205.here hx rfl (hb hby at_73) rfl ?_
      show Steps p.tables e below (T205.setTop (mkF m 76 #[.val (.int p1), .val (.int (0 : Int32)), .val (.ref wF), .val (.ref wT), .val (.ref a203), .val (.ref tF), .unset] [])) _
      refine XS.aload X205.here hx rfl (hb hby at_76) rfl rfl ?_
      show Steps p.tables e below (T205.setTop (mkF m 78 #[.val (.int p1), .val (.int (0 : Int32)), .val (.ref wF), .val (.ref wT), .val (.ref a203), .val (.ref tF), .unset] [(.ref tF)])) _
      refine XS.aload X205.here hx rfl (hb hby at_78) rfl rfl ?_
      exact k)
    obtain ⟨cq208, kq208, q208a, q208b, q208c⟩ := isOf hZ eq205 (TEF.ext O203.2)
    obtain ⟨_, _, ⟨T208, L208, k208, n208⟩, -, X208, ⟨Lc208, hQ208, l208, y208, z208⟩, st208⟩ := X205.virtualBack hx (y := (⟨"java/lang/String", "equals", "(Ljava/lang/Object;)Z"⟩ : MethodName)) (z := (⟨"java/lang/String", "equals", "(Ljava/lang/Object;)Z"⟩ : MethodName)) hown (mvT hZ (hw _ (List.mem_of_getElem? (i := 33) rfl))) (mvT hZ (hw _ (List.mem_of_getElem? (i := 34) rfl))) (notFace_of_selects (args := #[]) (mvT hZ (hw _ (List.mem_of_getElem? (i := 36) rfl)))) (mvT hZ (hw _ (List.mem_of_getElem? (i := 36) rfl))) (mvT hZ (hw _ (List.mem_of_getElem? (i := 35) rfl))) (by decide) (backOf (W := 0) (se0 l Z a0 hw [] tF a203 yF b203 kF kb203 cz h203 n0 ZS203 A203 (TCF.ext O203.2) Fc203 (TVF.ext O203.2) Fv203 (TAF.ext O203.2) V203 (SC.ext O203.2) hz) hZ (hw _ (List.mem_of_getElem? (i := 37) rfl)) (hw _ (List.mem_of_getElem? (i := 19) rfl)) (by decide) (by decide)) q208a q208c (g := (mkF m 80 #[.val (.int p1), .val (.int (0 : Int32)), .val (.ref wF), .val (.ref wT), .val (.ref a203), .val (.ref tF), .unset] [(.ref a203), (.ref tF)])) rfl (by rw [hml]; rfl) (Steps.refl _) (argsL := [(.ref a203)]) (rest := []) (lenOf pd_1 rfl) rfl (by show 2 * 0 + _ ≤ _; exact Nat.le_of_eq rfl) (hb hby at_80) (fun _ _ => ⟨rfl, eq205, (by decide : 2 + 0 ≤ _), (by decide : 24 + 0 ≤ _)⟩)
    dsimp only [Pt.U, Pt.locs, Pt.cells, Pt.slots] at X208 l208 y208 z208 st208 hQ208
    subst l208 y208 z208
    obtain ⟨rfl, Nq208, eq208⟩ := hQ208
    have N208 := Fr.app N205 Nq208
    have go208 : Goes p e below s₁ (entryFrame m #[(.int p1)] maxLocals) T208 (mkF m 83 #[.val (.int p1), .val (.int (0 : Int32)), .val (.ref wF), .val (.ref wT), .val (.ref a203), .val (.ref tF), .unset] [(.int (1 : Int32))]) := fun t k => go207 t (st208.trans k)
    have go209 : Goes p e below s₁ (entryFrame m #[(.int p1)] maxLocals) T208 (mkF m 89 #[.val (.int p1), .val (.int (0 : Int32)), .val (.ref wF), .val (.ref wT), .val (.ref a203), .val (.ref tF), .unset] [(.ref wF)]) := fun t k => go208 t (by
      show Steps p.tables e below (T208.setTop (mkF m 83 #[.val (.int p1), .val (.int (0 : Int32)), .val (.ref wF), .val (.ref wT), .val (.ref a203), .val (.ref tF), .unset] [(.int (1 : Int32))])) _
      refine XS.ifYes X208.here hx rfl (pc0 := 83) (pc' := 88) rfl (hb hby at_83) rfl ((if0 _ _).trans (feq (by decide)).2) (by decide) (by decide) ?_
      show Steps p.tables e below (T208.setTop (mkF m 88 #[.val (.int p1), .val (.int (0 : Int32)), .val (.ref wF), .val (.ref wT), .val (.ref a203), .val (.ref tF), .unset] [])) _
      refine XS.aloadN X208.here hx rfl (hb hby at_88) rfl rfl ?_
      exact k)
    obtain ⟨cq210, kq210, q210a, q210b, q210c⟩ := isOf hZ eq208 (EF.ext O203.2)
    obtain ⟨_, _, ⟨T210, L210, k210, n210⟩, -, X210, ⟨Lc210, hQ210, l210, y210, z210⟩, st210⟩ := X208.virtualBack hx (y := (⟨"com/example/keen_verdict/keenverdict/AttributeValue", "value", "()Ljava/lang/Object;"⟩ : MethodName)) (z := (⟨"com/example/keen_verdict/keenverdict/AttributeValue", "value", "()Ljava/lang/Object;"⟩ : MethodName)) hown (mvT hZ (hw _ (List.mem_of_getElem? (i := 47) rfl))) (mvT hZ (hw _ (List.mem_of_getElem? (i := 48) rfl))) (notFace_of_selects (args := #[]) (mvT hZ (hw _ (List.mem_of_getElem? (i := 50) rfl)))) (mvT hZ (hw _ (List.mem_of_getElem? (i := 50) rfl))) (mvT hZ (hw _ (List.mem_of_getElem? (i := 49) rfl))) (by decide) (backOf (W := 0) (gVA l Z a0 hw [] wF vF h203 n0 ZS203 (VF.ext O203.2)) hZ (hw _ (List.mem_of_getElem? (i := 51) rfl)) (hw _ (List.mem_of_getElem? (i := 2) rfl)) (by decide) (by decide)) q210a q210c (g := (mkF m 89 #[.val (.int p1), .val (.int (0 : Int32)), .val (.ref wF), .val (.ref wT), .val (.ref a203), .val (.ref tF), .unset] [(.ref wF)])) rfl (by rw [hml]; rfl) (Steps.refl _) (argsL := []) (rest := []) (lenOf pd_6 rfl) rfl (by show 2 * 0 + _ ≤ _; exact Nat.le_of_eq rfl) (hb hby at_89) (fun _ _ => ⟨rfl, eq208, (by decide : 2 + 0 ≤ _), (by decide : 24 + 0 ≤ _)⟩)
    dsimp only [Pt.U, Pt.locs, Pt.cells, Pt.slots] at X210 l210 y210 z210 st210 hQ210
    subst l210 y210 z210
    obtain ⟨rfl, Nq210, eq210⟩ := hQ210
    have N210 := Fr.app N208 Nq210
    have go210 : Goes p e below s₁ (entryFrame m #[(.int p1)] maxLocals) T210 (mkF m 92 #[.val (.int p1), .val (.int (0 : Int32)), .val (.ref wF), .val (.ref wT), .val (.ref a203), .val (.ref tF), .unset] [(.ref vF)]) := fun t k => go209 t (st210.trans k)
    have go211 : Goes p e below s₁ (entryFrame m #[(.int p1)] maxLocals) T210 (mkF m 96 #[.val (.int p1), .val (.int (0 : Int32)), .val (.ref wF), .val (.ref wT), .val (.ref a203), .val (.ref tF), .val (.ref vF)] [(.ref vF)]) := fun t k => go210 t (by
      show Steps p.tables e below (T210.setTop (mkF m 92 #[.val (.int p1), .val (.int (0 : Int32)), .val (.ref wF), .val (.ref wT), .val (.ref a203), .val (.ref tF), .unset] [(.ref vF)])) _
      refine XS.astore X210.here hx rfl (hb hby at_92) rfl rfl (l' := #[.val (.int p1), .val (.int (0 : Int32)), .val (.ref wF), .val (.ref wT), .val (.ref a203), .val (.ref tF), .val (.ref vF)]) rfl ?_
      show Steps p.tables e below (T210.setTop (mkF m 94 #[.val (.int p1), .val (.int (0 : Int32)), .val (.ref wF), .val (.ref wT), .val (.ref a203), .val (.ref tF), .val (.ref vF)] [])) _
      refine XS.aload X210.here hx rfl (hb hby at_94) rfl rfl ?_
      exact k)
    obtain ⟨T212, X212, e212, st212⟩ := instY X210 hx hZ hown (hw _ (List.mem_of_getElem? (i := 54) rfl)) eq210 (Ins.self (BF.ext O203.2)) (g := (mkF m 96 #[.val (.int p1), .val (.int (0 : Int32)), .val (.ref wF), .val (.ref wT), .val (.ref a203), .val (.ref tF), .val (.ref vF)] [(.ref vF)])) rfl rfl (hb hby at_96)
    have go212 : Goes p e below s₁ (entryFrame m #[(.int p1)] maxLocals) T212 (mkF m 99 #[.val (.int p1), .val (.int (0 : Int32)), .val (.ref wF), .val (.ref wT), .val (.ref a203), .val (.ref tF), .val (.ref vF)] [(.int (1 : Int32))]) := fun t k => go211 t (st212 _ k)
    have go213 : Goes p e below s₁ (entryFrame m #[(.int p1)] maxLocals) T212 (mkF m 106 #[.val (.int p1), .val (.int (0 : Int32)), .val (.ref wF), .val (.ref wT), .val (.ref a203), .val (.ref tF), .val (.ref vF)] [(.ref vF)]) := fun t k => go212 t (by
      show Steps p.tables e below (T212.setTop (mkF m 99 #[.val (.int p1), .val (.int (0 : Int32)), .val (.ref wF), .val (.ref wT), .val (.ref a203), .val (.ref tF), .val (.ref vF)] [(.int (1 : Int32))])) _
      refine XS.ifYes X212.here hx rfl (pc0 := 99) (pc' := 104) rfl (hb hby at_99) rfl ((if0 _ _).trans (feq (by decide)).2) (by decide) (by decide) ?_
      show Steps p.tables e below (T212.setTop (mkF m 104 #[.val (.int p1), .val (.int (0 : Int32)), .val (.ref wF), .val (.ref wT), .val (.ref a203), .val (.ref tF), .val (.ref vF)] [])) _
      refine XS.aload X212.here hx rfl (hb hby at_104) rfl rfl ?_
      exact k)
    obtain ⟨T214, X214, e214, st214⟩ := castY X212 hx hZ hown (hw _ (List.mem_of_getElem? (i := 54) rfl)) e212 (Ins.self (BF.ext O203.2)) (g := (mkF m 106 #[.val (.int p1), .val (.int (0 : Int32)), .val (.ref wF), .val (.ref wT), .val (.ref a203), .val (.ref tF), .val (.ref vF)] [(.ref vF)])) rfl rfl (hb hby at_106)
    have go214 : Goes p e below s₁ (entryFrame m #[(.int p1)] maxLocals) T214 (mkF m 109 #[.val (.int p1), .val (.int (0 : Int32)), .val (.ref wF), .val (.ref wT), .val (.ref a203), .val (.ref tF), .val (.ref vF)] [(.ref vF)]) := fun t k => go213 t (st214 _ k)
    obtain ⟨cq215, kq215, q215a, q215b, q215c⟩ := isOf hZ e214 (BF.ext O203.2)
    obtain ⟨_, _, ⟨T215, L215, k215, n215⟩, -, X215, ⟨Lc215, hQ215, l215, y215, z215⟩, st215⟩ := X214.virtualBack hx (y := (⟨"java/lang/Boolean", "booleanValue", "()Z"⟩ : MethodName)) (z := (⟨"java/lang/Boolean", "booleanValue", "()Z"⟩ : MethodName)) hown (mvT hZ (hw _ (List.mem_of_getElem? (i := 56) rfl))) (mvT hZ (hw _ (List.mem_of_getElem? (i := 57) rfl))) (notFace_of_selects (args := #[]) (mvT hZ (hw _ (List.mem_of_getElem? (i := 59) rfl)))) (mvT hZ (hw _ (List.mem_of_getElem? (i := 59) rfl))) (mvT hZ (hw _ (List.mem_of_getElem? (i := 58) rfl))) (by decide) (backOf (W := 0) (bv0 l Z a0 hw [] vF  h203 n0 ZS203 (ZF.ext O203.2)) hZ (hw _ (List.mem_of_getElem? (i := 61) rfl)) (hw _ (List.mem_of_getElem? (i := 60) rfl)) (by decide) (by decide)) q215a q215c (g := (mkF m 109 #[.val (.int p1), .val (.int (0 : Int32)), .val (.ref wF), .val (.ref wT), .val (.ref a203), .val (.ref tF), .val (.ref vF)] [(.ref vF)])) rfl (by rw [hml]; rfl) (Steps.refl _) (argsL := []) (rest := []) (lenOf pd_0 rfl) rfl (by show 2 * 0 + _ ≤ _; exact Nat.le_of_eq rfl) (hb hby at_109) (fun _ _ => ⟨rfl, e214, (by decide : 2 + 0 ≤ _), (by decide : 24 + 0 ≤ _)⟩)
    dsimp only [Pt.U, Pt.locs, Pt.cells, Pt.slots] at X215 l215 y215 z215 st215 hQ215
    subst l215 y215 z215
    obtain ⟨rfl, Nq215, eq215⟩ := hQ215
    have N215 := Fr.app N210 Nq215
    have go215 : Goes p e below s₁ (entryFrame m #[(.int p1)] maxLocals) T215 (mkF m 112 #[.val (.int p1), .val (.int (0 : Int32)), .val (.ref wF), .val (.ref wT), .val (.ref a203), .val (.ref tF), .val (.ref vF)] [(.int (0 : Int32))]) := fun t k => go214 t (st215.trans k)
    have go216 : Goes p e below s₁ (entryFrame m #[(.int p1)] maxLocals) T215 (mkF m 113 #[.val (.int p1), .val (.int (0 : Int32)), .val (.ref wF), .val (.ref wT), .val (.ref a203), .val (.ref tF), .val (.ref vF)] [(.int (0 : Int32)), (.int (0 : Int32))]) := fun t k => go215 t (by
      show Steps p.tables e below (T215.setTop (mkF m 112 #[.val (.int p1), .val (.int (0 : Int32)), .val (.ref wF), .val (.ref wT), .val (.ref a203), .val (.ref tF), .val (.ref vF)] [(.int (0 : Int32))])) _
      refine XS.iloadN X215.here hx rfl (hb hby at_112) rfl ?_
      exact k)
    have go217 : Goes p e below s₁ (entryFrame m #[(.int p1)] maxLocals) T215 (mkF m 120 #[.val (.int p1), .val (.int (0 : Int32)), .val (.ref wF), .val (.ref wT), .val (.ref a203), .val (.ref tF), .val (.ref vF)] [(.ref wT), (.ref wF)]) := fun t k => go216 t (by
      show Steps p.tables e below (T215.setTop (mkF m 113 #[.val (.int p1), .val (.int (0 : Int32)), .val (.ref wF), .val (.ref wT), .val (.ref a203), .val (.ref tF), .val (.ref vF)] [(.int (0 : Int32)), (.int (0 : Int32))])) _
      refine XS.icmpYes X215.here hx rfl (pc0 := 113) (pc' := 118) rfl (hb hby at_113) rfl (teq rfl).1 (by decide) (by decide) ?_
      show Steps p.tables e below (T215.setTop (mkF m 118 #[.val (.int p1), .val (.int (0 : Int32)), .val (.ref wF), .val (.ref wT), .val (.ref a203), .val (.ref tF), .val (.ref vF)] [])) _
      refine XS.aloadN X215.here hx rfl (hb hby at_118) rfl rfl ?_
      show Steps p.tables e below (T215.setTop (mkF m 119 #[.val (.int p1), .val (.int (0 : Int32)), .val (.ref wF), .val (.ref wT), .val (.ref a203), .val (.ref tF), .val (.ref vF)] [(.ref wF)])) _
      refine XS.aloadN X215.here hx rfl (hb hby at_119) rfl rfl ?_
      exact k)
    obtain ⟨cq218, kq218, q218a, q218b, q218c⟩ := isOf hZ eq215 (EF.ext O203.2)
    obtain ⟨_, _, ⟨T218, L218, k218, n218⟩, -, X218, ⟨Lc218, hQ218, l218, y218, z218⟩, st218⟩ := X215.virtualBack hx (y := (⟨"com/example/keen_verdict/keenverdict/AttributeValue", "equals", "(Ljava/lang/Object;)Z"⟩ : MethodName)) (z := (⟨"com/example/keen_verdict/keenverdict/AttributeValue", "equals", "(Ljava/lang/Object;)Z"⟩ : MethodName)) hown (mvT hZ (hw _ (List.mem_of_getElem? (i := 64) rfl))) (mvT hZ (hw _ (List.mem_of_getElem? (i := 65) rfl))) (notFace_of_selects (args := #[]) (mvT hZ (hw _ (List.mem_of_getElem? (i := 67) rfl)))) (mvT hZ (hw _ (List.mem_of_getElem? (i := 67) rfl))) (mvT hZ (hw _ (List.mem_of_getElem? (i := 66) rfl))) (by decide) (backOf (W := 0) (ae0 l Z a0 hw [] wF wT dd vF vT h203 n0 ZS203 (ET.ext O203.2) (DF.ext O203.2) (DT.ext O203.2) (ED.ext O203.2) (VF.ext O203.2) (VT.ext O203.2) (BF.ext O203.2) (BT.ext O203.2) (ZF.ext O203.2) (ZT.ext O203.2)) hZ (hw _ (List.mem_of_getElem? (i := 68) rfl)) (hw _ (List.mem_of_getElem? (i := 2) rfl)) (by decide) (by decide)) q218a q218c (g := (mkF m 120 #[.val (.int p1), .val (.int (0 : Int32)), .val (.ref wF), .val (.ref wT), .val (.ref a203), .val (.ref tF), .val (.ref vF)] [(.ref wT), (.ref wF)])) rfl (by rw [hml]; rfl) (Steps.refl _) (argsL := [(.ref wT)]) (rest := []) (lenOf pd_1 rfl) rfl (by show 2 * 0 + _ ≤ _; exact Nat.le_of_eq rfl) (hb hby at_120) (fun _ _ => ⟨rfl, eq215, (by decide : 2 + 0 ≤ _), (by decide : 24 + 0 ≤ _)⟩)
    dsimp only [Pt.U, Pt.locs, Pt.cells, Pt.slots] at X218 l218 y218 z218 st218 hQ218
    subst l218 y218 z218
    obtain ⟨rfl, Nq218, eq218⟩ := hQ218
    have N218 := Fr.app N215 Nq218
    have go218 : Goes p e below s₁ (entryFrame m #[(.int p1)] maxLocals) T218 (mkF m 123 #[.val (.int p1), .val (.int (0 : Int32)), .val (.ref wF), .val (.ref wT), .val (.ref a203), .val (.ref tF), .val (.ref vF)] [(.int (0 : Int32))]) := fun t k => go217 t (st218.trans k)
    have go219 : Goes p e below s₁ (entryFrame m #[(.int p1)] maxLocals) T218 (mkF m 131 #[.val (.int p1), .val (.int (0 : Int32)), .val (.ref wF), .val (.ref wT), .val (.ref a203), .val (.ref tF), .val (.ref vF)] [(.int (1 : Int32))]) := fun t k => go218 t (by
      show Steps p.tables e below (T218.setTop (mkF m 123 #[.val (.int p1), .val (.int (0 : Int32)), .val (.ref wF), .val (.ref wT), .val (.ref a203), .val (.ref tF), .val (.ref vF)] [(.int (0 : Int32))])) _
      refine XS.ifNo X218.here hx rfl (hb hby at_123) rfl ((if0 _ _).trans (teq (by decide)).2) ?_
      show Steps p.tables e below (T218.setTop (mkF m 126 #[.val (.int p1), .val (.int (0 : Int32)), .val (.ref wF), .val (.ref wT), .val (.ref a203), .val (.ref tF), .val (.ref vF)] [])) _
      refine XS.iconst X218.here hx rfl (hb hby at_126) ?_
      show Steps p.tables e below (T218.setTop (mkF m 127 #[.val (.int p1), .val (.int (0 : Int32)), .val (.ref wF), .val (.ref wT), .val (.ref a203), .val (.ref tF), .val (.ref vF)] [(.int (1 : Int32))])) _
      refine XS.goto X218.here hx rfl (pc0 := 127) (pc' := 131) rfl (hb hby at_127) (by decide) (by decide) ?_
      exact k)
    obtain ⟨fs, hr, hrun, hended, hEW⟩ := Stand.leaveW (s := s) X218 hS203 (by rw [eq218]; exact hk203) (v := some (.int (1 : Int32))) (fun h => by rw [Bd.returns] at h; cases h)
    refine ⟨_, _, go219 _ ?_, hrun, hended, _, _, rfl, ?_, hEW.1, hEW.2.1, hEW.2.2.1, hEW.2.2.2.mono (by decide) (by decide)⟩
    · exact retN X218 hx (t := .boolean) Bd.returns (by simp) (hb hby at_131) hr
    · show Q_rm0 Z p1 wT wF dd tT tF vT vF yT yF kT kF cz h0 n0 _ T218.heap _
      rw [eq218]
      exact ⟨rfl, N218⟩
  · have go220 : Goes p e below s₁ (entryFrame m #[(.int p1)] maxLocals) s₁ (mkF m 13 #[.val (.int p1), .val (.int (1 : Int32)), .unset, .unset, .unset, .unset, .unset] [(.int (1 : Int32))]) := fun t k => go190 t (by
      show Steps p.tables e below (s₁.setTop (mkF m 3 #[.val (.int p1), .unset, .unset, .unset, .unset, .unset, .unset] [(.int (p1 &&& (1 : Int32)))])) _
      refine XS.ifNo X0.here hx rfl (hb hby at_3) rfl ((if0 _ _).trans (feq hf).1) ?_
      show Steps p.tables e below (s₁.setTop (mkF m 6 #[.val (.int p1), .unset, .unset, .unset, .unset, .unset, .unset] [])) _
      refine XS.iconst X0.here hx rfl (hb hby at_6) ?_
      show Steps p.tables e below (s₁.setTop (mkF m 7 #[.val (.int p1), .unset, .unset, .unset, .unset, .unset, .unset] [(.int (1 : Int32))])) _
      refine XS.goto X0.here hx rfl (pc0 := 7) (pc' := 11) rfl (hb hby at_7) (by decide) (by decide) ?_
      show Steps p.tables e below (s₁.setTop (mkF m 11 #[.val (.int p1), .unset, .unset, .unset, .unset, .unset, .unset] [(.int (1 : Int32))])) _
      refine XS.istoreN X0.here hx rfl (hb hby at_11) rfl (l' := #[.val (.int p1), .val (.int (1 : Int32)), .unset, .unset, .unset, .unset, .unset]) rfl ?_
      show Steps p.tables e below (s₁.setTop (mkF m 12 #[.val (.int p1), .val (.int (1 : Int32)), .unset, .unset, .unset, .unset, .unset] [])) _
      refine XS.iloadN X0.here hx rfl (hb hby at_12) rfl ?_
      exact k)
    obtain ⟨_, _, ⟨T221, L221, k221, n221⟩, -, X221, ⟨Lc221, hQ221, l221, y221, z221⟩, st221⟩ := Jvm.LawKit.callS X0 hx (y := (⟨"com/example/keen_verdict/keenverdict/AttributeValue", "of", "(Z)Lcom/example/keen_verdict/keenverdict/AttributeValue;"⟩ : MethodName)) hown (mvT hZ (hw _ (List.mem_of_getElem? (i := 0) rfl))) (mvT hZ (hw _ (List.mem_of_getElem? (i := 1) rfl))) (mvT hZ (hw _ (List.mem_of_getElem? (i := 2) rfl))) (mvT hZ (hw _ (List.mem_of_getElem? (i := 3) rfl))) (by decide) (backOf (W := 0) (of1 l Z a0 hw []  wT wF h0 n0 Z0 (ST.ext O0.2) (SF.ext O0.2)) hZ (hw _ (List.mem_of_getElem? (i := 3) rfl)) (hw _ (List.mem_of_getElem? (i := 2) rfl)) (by decide) (by decide)) (g := (mkF m 13 #[.val (.int p1), .val (.int (1 : Int32)), .unset, .unset, .unset, .unset, .unset] [(.int (1 : Int32))])) rfl (by rw [hml]; rfl) (argsL := [(.int (1 : Int32))]) (rest := []) (lenOf pd_3 rfl) rfl (by show 2 * 0 + _ ≤ _; exact Nat.le_of_eq rfl) (hb hby at_13) (fun _ _ => ⟨rfl, e0, (by decide : 0 + 0 ≤ _), (by decide : 0 + 0 ≤ _)⟩)
    dsimp only [Pt.U, Pt.locs, Pt.cells, Pt.slots] at X221 l221 y221 z221 st221 hQ221
    subst l221 y221 z221
    obtain ⟨rfl, Nq221, eq221⟩ := hQ221
    have N221 := Fr.app N0 Nq221
    have go221 : Goes p e below s₁ (entryFrame m #[(.int p1)] maxLocals) T221 (mkF m 16 #[.val (.int p1), .val (.int (1 : Int32)), .unset, .unset, .unset, .unset, .unset] [(.ref wT)]) := fun t k => go220 t (st221 _ k)
    have go222 : Goes p e below s₁ (entryFrame m #[(.int p1)] maxLocals) T221 (mkF m 18 #[.val (.int p1), .val (.int (1 : Int32)), .val (.ref wT), .unset, .unset, .unset, .unset] [(.int (1 : Int32))]) := fun t k => go221 t (by
      show Steps p.tables e below (T221.setTop (mkF m 16 #[.val (.int p1), .val (.int (1 : Int32)), .unset, .unset, .unset, .unset, .unset] [(.ref wT)])) _
      refine XS.astoreN X221.here hx rfl (hb hby at_16) rfl rfl (l' := #[.val (.int p1), .val (.int (1 : Int32)), .val (.ref wT), .unset, .unset, .unset, .unset]) rfl ?_
      show Steps p.tables e below (T221.setTop (mkF m 17 #[.val (.int p1), .val (.int (1 : Int32)), .val (.ref wT), .unset, .unset, .unset, .unset] [])) _
      refine XS.iloadN X221.here hx rfl (hb hby at_17) rfl ?_
      exact k)
    have go223 : Goes p e below s₁ (entryFrame m #[(.int p1)] maxLocals) T221 (mkF m 26 #[.val (.int p1), .val (.int (1 : Int32)), .val (.ref wT), .unset, .unset, .unset, .unset] [(.int (0 : Int32))]) := fun t k => go222 t (by
      show Steps p.tables e below (T221.setTop (mkF m 18 #[.val (.int p1), .val (.int (1 : Int32)), .val (.ref wT), .unset, .unset, .unset, .unset] [(.int (1 : Int32))])) _
      refine XS.ifYes X221.here hx rfl (pc0 := 18) (pc' := 25) rfl (hb hby at_18) rfl ((if0 _ _).trans (feq (by decide)).2) (by decide) (by decide) ?_
      show Steps p.tables e below (T221.setTop (mkF m 25 #[.val (.int p1), .val (.int (1 : Int32)), .val (.ref wT), .unset, .unset, .unset, .unset] [])) _
      refine XS.iconst X221.here hx rfl (hb hby at_25) ?_
      exact k)
    obtain ⟨_, _, ⟨T224, L224, k224, n224⟩, -, X224, ⟨Lc224, hQ224, l224, y224, z224⟩, st224⟩ := Jvm.LawKit.callS X221 hx (y := (⟨"com/example/keen_verdict/keenverdict/AttributeValue", "of", "(Z)Lcom/example/keen_verdict/keenverdict/AttributeValue;"⟩ : MethodName)) hown (mvT hZ (hw _ (List.mem_of_getElem? (i := 0) rfl))) (mvT hZ (hw _ (List.mem_of_getElem? (i := 1) rfl))) (mvT hZ (hw _ (List.mem_of_getElem? (i := 2) rfl))) (mvT hZ (hw _ (List.mem_of_getElem? (i := 3) rfl))) (by decide) (backOf (W := 0) (of0 l Z a0 hw []  wT wF h0 n0 Z0 (ST.ext O0.2) (SF.ext O0.2)) hZ (hw _ (List.mem_of_getElem? (i := 3) rfl)) (hw _ (List.mem_of_getElem? (i := 2) rfl)) (by decide) (by decide)) (g := (mkF m 26 #[.val (.int p1), .val (.int (1 : Int32)), .val (.ref wT), .unset, .unset, .unset, .unset] [(.int (0 : Int32))])) rfl (by rw [hml]; rfl) (argsL := [(.int (0 : Int32))]) (rest := []) (lenOf pd_3 rfl) rfl (by show 2 * 0 + _ ≤ _; exact Nat.le_of_eq rfl) (hb hby at_26) (fun _ _ => ⟨rfl, eq221, (by decide : 0 + 0 ≤ _), (by decide : 0 + 0 ≤ _)⟩)
    dsimp only [Pt.U, Pt.locs, Pt.cells, Pt.slots] at X224 l224 y224 z224 st224 hQ224
    subst l224 y224 z224
    obtain ⟨rfl, Nq224, eq224⟩ := hQ224
    have N224 := Fr.app N221 Nq224
    have go224 : Goes p e below s₁ (entryFrame m #[(.int p1)] maxLocals) T224 (mkF m 29 #[.val (.int p1), .val (.int (1 : Int32)), .val (.ref wT), .unset, .unset, .unset, .unset] [(.ref wF)]) := fun t k => go223 t (st224 _ k)
    have go225 : Goes p e below s₁ (entryFrame m #[(.int p1)] maxLocals) T224 (mkF m 31 #[.val (.int p1), .val (.int (1 : Int32)), .val (.ref wT), .val (.ref wF), .unset, .unset, .unset] [(.ref wT)]) := fun t k => go224 t (by
      show Steps p.tables e below (T224.setTop (mkF m 29 #[.val (.int p1), .val (.int (1 : Int32)), .val (.ref wT), .unset, .unset, .unset, .unset] [(.ref wF)])) _
      refine XS.astoreN X224.here hx rfl (hb hby at_29) rfl rfl (l' := #[.val (.int p1), .val (.int (1 : Int32)), .val (.ref wT), .val (.ref wF), .unset, .unset, .unset]) rfl ?_
      show Steps p.tables e below (T224.setTop (mkF m 30 #[.val (.int p1), .val (.int (1 : Int32)), .val (.ref wT), .val (.ref wF), .unset, .unset, .unset] [])) _
      refine XS.aloadN X224.here hx rfl (hb hby at_30) rfl rfl ?_
      exact k)
    have go226 : Goes p e below s₁ (entryFrame m #[(.int p1)] maxLocals) T224 (mkF m 35 #[.val (.int p1), .val (.int (1 : Int32)), .val (.ref wT), .val (.ref wF), .unset, .unset, .unset] [(.ref wF)]) := fun t k => go225 t (by
      show Steps p.tables e below (T224.setTop (mkF m 31 #[.val (.int p1), .val (.int (1 : Int32)), .val (.ref wT), .val (.ref wF), .unset, .unset, .unset] [(.ref wT)])) _
      refine XS.ifnullNo X224.here hx rfl (hb hby at_31) rfl ?_
      show Steps p.tables e below (T224.setTop (mkF m 34 #[.val (.int p1), .val (.int (1 : Int32)), .val (.ref wT), .val (.ref wF), .unset, .unset, .unset] [])) _
      refine XS.aloadN X224.here hx rfl (hb hby at_34) rfl rfl ?_
      exact k)
    have go227 : Goes p e below s₁ (entryFrame m #[(.int p1)] maxLocals) T224 (mkF m 41 #[.val (.int p1), .val (.int (1 : Int32)), .val (.ref wT), .val (.ref wF), .unset, .unset, .unset] [(.ref wT)]) := fun t k => go226 t (by
      show Steps p.tables e below (T224.setTop (mkF m 35 #[.val (.int p1), .val (.int (1 : Int32)), .val (.ref wT), .val (.ref wF), .unset, .unset, .unset] [(.ref wF)])) _
      refine XS.ifnonnullYes X224.here hx rfl (pc0 := 35) (pc' := 40) rfl (hb hby at_35) rfl (by decide) (by decide) ?_
      show Steps p.tables e below (T224.setTop (mkF m 40 #[.val (.int p1), .val (.int (1 : Int32)), .val (.ref wT), .val (.ref wF), .unset, .unset, .unset] [])) _
      refine XS.aloadN X224.here hx rfl (hb hby at_40) rfl rfl ?_
      exact k)
    obtain ⟨cq228, kq228, q228a, q228b, q228c⟩ := isOf hZ eq224 (ET.ext O0.2)
    obtain ⟨_, _, ⟨T228, L228, k228, n228⟩, -, X228, ⟨Lc228, hQ228, l228, y228, z228⟩, st228⟩ := X224.virtualBack hx (y := (⟨"com/example/keen_verdict/keenverdict/AttributeValue", "dataType", "()Lcom/example/keen_verdict/keenverdict/DataType;"⟩ : MethodName)) (z := (⟨"com/example/keen_verdict/keenverdict/AttributeValue", "dataType", "()Lcom/example/keen_verdict/keenverdict/DataType;"⟩ : MethodName)) hown (mvT hZ (hw _ (List.mem_of_getElem? (i := 8) rfl))) (mvT hZ (hw _ (List.mem_of_getElem? (i := 9) rfl))) (notFace_of_selects (args := #[]) (mvT hZ (hw _ (List.mem_of_getElem? (i := 11) rfl)))) (mvT hZ (hw _ (List.mem_of_getElem? (i := 11) rfl))) (mvT hZ (hw _ (List.mem_of_getElem? (i := 10) rfl))) (by decide) (backOf (W := 0) (gDT l Z a0 hw [] wT dd h0 n0 Z0 (DT.ext O0.2)) hZ (hw _ (List.mem_of_getElem? (i := 12) rfl)) (hw _ (List.mem_of_getElem? (i := 2) rfl)) (by decide) (by decide)) q228a q228c (g := (mkF m 41 #[.val (.int p1), .val (.int (1 : Int32)), .val (.ref wT), .val (.ref wF), .unset, .unset, .unset] [(.ref wT)])) rfl (by rw [hml]; rfl) (Steps.refl _) (argsL := []) (rest := []) (lenOf pd_4 rfl) rfl (by show 2 * 0 + _ ≤ _; exact Nat.le_of_eq rfl) (hb hby at_41) (fun _ _ => ⟨rfl, eq224, (by decide : 0 + 0 ≤ _), (by decide : 0 + 0 ≤ _)⟩)
    dsimp only [Pt.U, Pt.locs, Pt.cells, Pt.slots] at X228 l228 y228 z228 st228 hQ228
    subst l228 y228 z228
    obtain ⟨rfl, Nq228, eq228⟩ := hQ228
    have N228 := Fr.app N224 Nq228
    have go228 : Goes p e below s₁ (entryFrame m #[(.int p1)] maxLocals) T228 (mkF m 44 #[.val (.int p1), .val (.int (1 : Int32)), .val (.ref wT), .val (.ref wF), .unset, .unset, .unset] [(.ref dd)]) := fun t k => go227 t (st228.trans k)
    obtain ⟨T229, X229, e229, st229⟩ := getS2 X228 hx hZ hown (host := "") (Or.inl (hw _ (List.mem_of_getElem? (i := 15) rfl))) Via.refl eq228 (SB.ext O0.2) (g := (mkF m 44 #[.val (.int p1), .val (.int (1 : Int32)), .val (.ref wT), .val (.ref wF), .unset, .unset, .unset] [(.ref dd)])) rfl (hb hby at_44)
    have go229 : Goes p e below s₁ (entryFrame m #[(.int p1)] maxLocals) T229 (mkF m 47 #[.val (.int p1), .val (.int (1 : Int32)), .val (.ref wT), .val (.ref wF), .unset, .unset, .unset] [(.ref dd), (.ref dd)]) := fun t k => go228 t (st229 _ k)
    have go230 : Goes p e below s₁ (entryFrame m #[(.int p1)] maxLocals) T229 (mkF m 53 #[.val (.int p1), .val (.int (1 : Int32)), .val (.ref wT), .val (.ref wF), .unset, .unset, .unset] [(.int (1 : Int32))]) := fun t k => go229 t (by
      show Steps p.tables e below (T229.setTop (mkF m 47 #[.val (.int p1), .val (.int (1 : Int32)), .val (.ref wT), .val (.ref wF), .unset, .unset, .unset] [(.ref dd), (.ref dd)])) _
      refine Jvm.RoadKit.acmp (g := (mkF m 47 #[.val (.int p1), .val (.int (1 : Int32)), .val (.ref wT), .val (.ref wF), .unset, .unset, .unset] [(.ref dd), (.ref dd)])) X229 hx rfl rfl rfl (pc0 := 47) (pc' := 52) (same := true) rfl (hb hby at_47) rfl (decide_eq_true rfl) (by decide) (by decide) ?_
      show Steps p.tables e below (T229.setTop (mkF m 52 #[.val (.int p1), .val (.int (1 : Int32)), .val (.ref wT), .val (.ref wF), .unset, .unset, .unset] [])) _
      refine XS.iloadN X229.here hx rfl (hb hby at_52) rfl ?_
      exact k)
    have go231 : Goes p e below s₁ (entryFrame m #[(.int p1)] maxLocals) T229 (mkF m 56 #[.val (.int p1), .val (.int (1 : Int32)), .val (.ref wT), .val (.ref wF), .unset, .unset, .unset] []) := fun t k => go230 t (by
      show Steps p.tables e below (T229.setTop (mkF m 53 #[.val (.int p1), .val (.int (1 : Int32)), .val (.ref wT), .val (.ref wF), .unset, .unset, .unset] [(.int (1 : Int32))])) _
      refine XS.ifNo X229.here hx rfl (hb hby at_53) rfl ((if0 _ _).trans (feq (by decide)).1) ?_
      exact k)
    obtain ⟨a232, T232, h232, ks232, b232, kb232, X232, e232, E232, hS232, hk232, hZ232, hown232, A232, Fc232, Fv232, V232, la232, lb232, IB232, st232⟩ := ldcSV (s := s) (vm0 := s.vm) X229 hx hZ hown (hw _ (List.mem_of_getElem? (i := 81) rfl)) wS e229 ((State.WarmedH.refl s).since 0) (Nat.zero_le _) (show Fr s.heap.size _ by rw [hh, ← hN0]; exact N228) hkeep hIB (by decide) hl1 hcw (vs := [(.int (116 : Int32)), (.int (114 : Int32)), (.int (117 : Int32)), (.int (101 : Int32))]) (z := (4 : Int32)) ⟨by decide, by first | rfl | decide⟩ (by decide) rfl (g := (mkF m 56 #[.val (.int p1), .val (.int (1 : Int32)), .val (.ref wT), .val (.ref wF), .unset, .unset, .unset] [])) rfl (hb hby at_56) (n := 16) (by decide) (by decide) (by decide) (by decide)
    have O232 := O0.ext E232
    have ZS232 : n0 ≤ h232.size := Nat.le_trans Z0 E232.1
    have hZ := hZ232
    have hown := hown232
    have go232 : Goes p e below s₁ (entryFrame m #[(.int p1)] maxLocals) T232 (mkF m 58 #[.val (.int p1), .val (.int (1 : Int32)), .val (.ref wT), .val (.ref wF), .unset, .unset, .unset] [(.ref a232)]) := fun t k => go231 t (st232 _ k)
    have go233 : Goes p e below s₁ (entryFrame m #[(.int p1)] maxLocals) T232 (mkF m 66 #[.val (.int p1), .val (.int (1 : Int32)), .val (.ref wT), .val (.ref wF), .val (.ref a232), .unset, .unset] [(.ref wT)]) := fun t k => go232 t (by
      show Steps p.tables e below (T232.setTop (mkF m 58 #[.val (.int p1), .val (.int (1 : Int32)), .val (.ref wT), .val (.ref wF), .unset, .unset, .unset] [(.ref a232)])) _
      refine XS.goto X232.here hx rfl (pc0 := 58) (pc' := 63) rfl (hb hby at_58) (by decide) (by decide) ?_
      show Steps p.tables e below (T232.setTop (mkF m 63 #[.val (.int p1), .val (.int (1 : Int32)), .val (.ref wT), .val (.ref wF), .unset, .unset, .unset] [(.ref a232)])) _
      refine XS.astore X232.here hx rfl (hb hby at_63) rfl rfl (l' := #[.val (.int p1), .val (.int (1 : Int32)), .val (.ref wT), .val (.ref wF), .val (.ref a232), .unset, .unset]) rfl ?_
      show Steps p.tables e below (T232.setTop (mkF m 65 #[.val (.int p1), .val (.int (1 : Int32)), .val (.ref wT), .val (.ref wF), .val (.ref a232), .unset, .unset] [])) _
      refine XS.aloadN X232.here hx rfl (hb hby at_65) rfl rfl ?_
      exact k)
    obtain ⟨cq234, kq234, q234a, q234b, q234c⟩ := isOf hZ e232 (ET.ext O232.2)
    obtain ⟨_, _, ⟨T234, L234, k234, n234⟩, -, X234, ⟨Lc234, hQ234, l234, y234, z234⟩, st234⟩ := X232.virtualBack hx (y := (⟨"com/example/keen_verdict/keenverdict/AttributeValue", "text", "()Ljava/lang/String;"⟩ : MethodName)) (z := (⟨"com/example/keen_verdict/keenverdict/AttributeValue", "text", "()Ljava/lang/String;"⟩ : MethodName)) hown (mvT hZ (hw _ (List.mem_of_getElem? (i := 26) rfl))) (mvT hZ (hw _ (List.mem_of_getElem? (i := 27) rfl))) (notFace_of_selects (args := #[]) (mvT hZ (hw _ (List.mem_of_getElem? (i := 29) rfl)))) (mvT hZ (hw _ (List.mem_of_getElem? (i := 29) rfl))) (mvT hZ (hw _ (List.mem_of_getElem? (i := 28) rfl))) (by decide) (backOf (W := 0) (gTX l Z a0 hw [] wT tT h232 n0 ZS232 (XT.ext O232.2)) hZ (hw _ (List.mem_of_getElem? (i := 30) rfl)) (hw _ (List.mem_of_getElem? (i := 2) rfl)) (by decide) (by decide)) q234a q234c (g := (mkF m 66 #[.val (.int p1), .val (.int (1 : Int32)), .val (.ref wT), .val (.ref wF), .val (.ref a232), .unset, .unset] [(.ref wT)])) rfl (by rw [hml]; rfl) (Steps.refl _) (argsL := []) (rest := []) (lenOf pd_5 rfl) rfl (by show 2 * 0 + _ ≤ _; exact Nat.le_of_eq rfl) (hb hby at_66) (fun _ _ => ⟨rfl, e232, (by decide : 2 + 0 ≤ _), (by decide : 20 + 0 ≤ _)⟩)
    dsimp only [Pt.U, Pt.locs, Pt.cells, Pt.slots] at X234 l234 y234 z234 st234 hQ234
    subst l234 y234 z234
    obtain ⟨rfl, Nq234, eq234⟩ := hQ234
    have N234 := Fr.app N228 Nq234
    have go234 : Goes p e below s₁ (entryFrame m #[(.int p1)] maxLocals) T234 (mkF m 69 #[.val (.int p1), .val (.int (1 : Int32)), .val (.ref wT), .val (.ref wF), .val (.ref a232), .unset, .unset] [(.ref tT)]) := fun t k => go233 t (st234.trans k)
    have go235 : Goes p e below s₁ (entryFrame m #[(.int p1)] maxLocals) T234 (mkF m 73 #[.val (.int p1), .val (.int (1 : Int32)), .val (.ref wT), .val (.ref wF), .val (.ref a232), .val (.ref tT), .unset] [(.ref tT)]) := fun t k => go234 t (by
      show Steps p.tables e below (T234.setTop (mkF m 69 #[.val (.int p1), .val (.int (1 : Int32)), .val (.ref wT), .val (.ref wF), .val (.ref a232), .unset, .unset] [(.ref tT)])) _
      refine XS.astore X234.here hx rfl (hb hby at_69) rfl rfl (l' := #[.val (.int p1), .val (.int (1 : Int32)), .val (.ref wT), .val (.ref wF), .val (.ref a232), .val (.ref tT), .unset]) rfl ?_
      show Steps p.tables e below (T234.setTop (mkF m 71 #[.val (.int p1), .val (.int (1 : Int32)), .val (.ref wT), .val (.ref wF), .val (.ref a232), .val (.ref tT), .unset] [])) _
      refine XS.aload X234.here hx rfl (hb hby at_71) rfl rfl ?_
      exact k)
    have go236 : Goes p e below s₁ (entryFrame m #[(.int p1)] maxLocals) T234 (mkF m 80 #[.val (.int p1), .val (.int (1 : Int32)), .val (.ref wT), .val (.ref wF), .val (.ref a232), .val (.ref tT), .unset] [(.ref a232), (.ref tT)]) := fun t k => go235 t (by
      show Steps p.tables e below (T234.setTop (mkF m 73 #[.val (.int p1), .val (.int (1 : Int32)), .val (.ref wT), .val (.ref wF), .val (.ref a232), .val (.ref tT), .unset] [(.ref tT)])) _
      refine XS.ifnullNo X234.here hx rfl (hb hby at_73) rfl ?_
      show Steps p.tables e below (T234.setTop (mkF m 76 #[.val (.int p1), .val (.int (1 : Int32)), .val (.ref wT), .val (.ref wF), .val (.ref a232), .val (.ref tT), .unset] [])) _
      refine XS.aload X234.here hx rfl (hb hby at_76) rfl rfl ?_
      show Steps p.tables e below (T234.setTop (mkF m 78 #[.val (.int p1), .val (.int (1 : Int32)), .val (.ref wT), .val (.ref wF), .val (.ref a232), .val (.ref tT), .unset] [(.ref tT)])) _
      refine XS.aload X234.here hx rfl (hb hby at_78) rfl rfl ?_
      exact k)
    obtain ⟨cq237, kq237, q237a, q237b, q237c⟩ := isOf hZ eq234 (TET.ext O232.2)
    obtain ⟨_, _, ⟨T237, L237, k237, n237⟩, -, X237, ⟨Lc237, hQ237, l237, y237, z237⟩, st237⟩ := X234.virtualBack hx (y := (⟨"java/lang/String", "equals", "(Ljava/lang/Object;)Z"⟩ : MethodName)) (z := (⟨"java/lang/String", "equals", "(Ljava/lang/Object;)Z"⟩ : MethodName)) hown (mvT hZ (hw _ (List.mem_of_getElem? (i := 33) rfl))) (mvT hZ (hw _ (List.mem_of_getElem? (i := 34) rfl))) (notFace_of_selects (args := #[]) (mvT hZ (hw _ (List.mem_of_getElem? (i := 36) rfl)))) (mvT hZ (hw _ (List.mem_of_getElem? (i := 36) rfl))) (mvT hZ (hw _ (List.mem_of_getElem? (i := 35) rfl))) (by decide) (backOf (W := 0) (se1 l Z a0 hw [] tT a232 yT b232 kT kb232 cz h232 n0 ZS232 A232 (TCT.ext O232.2) Fc232 (TVT.ext O232.2) Fv232 (TAT.ext O232.2) V232 (SC.ext O232.2) hz) hZ (hw _ (List.mem_of_getElem? (i := 37) rfl)) (hw _ (List.mem_of_getElem? (i := 19) rfl)) (by decide) (by decide)) q237a q237c (g := (mkF m 80 #[.val (.int p1), .val (.int (1 : Int32)), .val (.ref wT), .val (.ref wF), .val (.ref a232), .val (.ref tT), .unset] [(.ref a232), (.ref tT)])) rfl (by rw [hml]; rfl) (Steps.refl _) (argsL := [(.ref a232)]) (rest := []) (lenOf pd_1 rfl) rfl (by show 2 * 0 + _ ≤ _; exact Nat.le_of_eq rfl) (hb hby at_80) (fun _ _ => ⟨rfl, eq234, (by decide : 2 + 0 ≤ _), (by decide : 20 + 0 ≤ _)⟩)
    dsimp only [Pt.U, Pt.locs, Pt.cells, Pt.slots] at X237 l237 y237 z237 st237 hQ237
    subst l237 y237 z237
    obtain ⟨rfl, Nq237, eq237⟩ := hQ237
    have N237 := Fr.app N234 Nq237
    have go237 : Goes p e below s₁ (entryFrame m #[(.int p1)] maxLocals) T237 (mkF m 83 #[.val (.int p1), .val (.int (1 : Int32)), .val (.ref wT), .val (.ref wF), .val (.ref a232), .val (.ref tT), .unset] [(.int (1 : Int32))]) := fun t k => go236 t (st237.trans k)
    have go238 : Goes p e below s₁ (entryFrame m #[(.int p1)] maxLocals) T237 (mkF m 89 #[.val (.int p1), .val (.int (1 : Int32)), .val (.ref wT), .val (.ref wF), .val (.ref a232), .val (.ref tT), .unset] [(.ref wT)]) := fun t k => go237 t (by
      show Steps p.tables e below (T237.setTop (mkF m 83 #[.val (.int p1), .val (.int (1 : Int32)), .val (.ref wT), .val (.ref wF), .val (.ref a232), .val (.ref tT), .unset] [(.int (1 : Int32))])) _
      refine XS.ifYes X237.here hx rfl (pc0 := 83) (pc' := 88) rfl (hb hby at_83) rfl ((if0 _ _).trans (feq (by decide)).2) (by decide) (by decide) ?_
      show Steps p.tables e below (T237.setTop (mkF m 88 #[.val (.int p1), .val (.int (1 : Int32)), .val (.ref wT), .val (.ref wF), .val (.ref a232), .val (.ref tT), .unset] [])) _
      refine XS.aloadN X237.here hx rfl (hb hby at_88) rfl rfl ?_
      exact k)
    obtain ⟨cq239, kq239, q239a, q239b, q239c⟩ := isOf hZ eq237 (ET.ext O232.2)
    obtain ⟨_, _, ⟨T239, L239, k239, n239⟩, -, X239, ⟨Lc239, hQ239, l239, y239, z239⟩, st239⟩ := X237.virtualBack hx (y := (⟨"com/example/keen_verdict/keenverdict/AttributeValue", "value", "()Ljava/lang/Object;"⟩ : MethodName)) (z := (⟨"com/example/keen_verdict/keenverdict/AttributeValue", "value", "()Ljava/lang/Object;"⟩ : MethodName)) hown (mvT hZ (hw _ (List.mem_of_getElem? (i := 47) rfl))) (mvT hZ (hw _ (List.mem_of_getElem? (i := 48) rfl))) (notFace_of_selects (args := #[]) (mvT hZ (hw _ (List.mem_of_getElem? (i := 50) rfl)))) (mvT hZ (hw _ (List.mem_of_getElem? (i := 50) rfl))) (mvT hZ (hw _ (List.mem_of_getElem? (i := 49) rfl))) (by decide) (backOf (W := 0) (gVA l Z a0 hw [] wT vT h232 n0 ZS232 (VT.ext O232.2)) hZ (hw _ (List.mem_of_getElem? (i := 51) rfl)) (hw _ (List.mem_of_getElem? (i := 2) rfl)) (by decide) (by decide)) q239a q239c (g := (mkF m 89 #[.val (.int p1), .val (.int (1 : Int32)), .val (.ref wT), .val (.ref wF), .val (.ref a232), .val (.ref tT), .unset] [(.ref wT)])) rfl (by rw [hml]; rfl) (Steps.refl _) (argsL := []) (rest := []) (lenOf pd_6 rfl) rfl (by show 2 * 0 + _ ≤ _; exact Nat.le_of_eq rfl) (hb hby at_89) (fun _ _ => ⟨rfl, eq237, (by decide : 2 + 0 ≤ _), (by decide : 20 + 0 ≤ _)⟩)
    dsimp only [Pt.U, Pt.locs, Pt.cells, Pt.slots] at X239 l239 y239 z239 st239 hQ239
    subst l239 y239 z239
    obtain ⟨rfl, Nq239, eq239⟩ := hQ239
    have N239 := Fr.app N237 Nq239
    have go239 : Goes p e below s₁ (entryFrame m #[(.int p1)] maxLocals) T239 (mkF m 92 #[.val (.int p1), .val (.int (1 : Int32)), .val (.ref wT), .val (.ref wF), .val (.ref a232), .val (.ref tT), .unset] [(.ref vT)]) := fun t k => go238 t (st239.trans k)
    have go240 : Goes p e below s₁ (entryFrame m #[(.int p1)] maxLocals) T239 (mkF m 96 #[.val (.int p1), .val (.int (1 : Int32)), .val (.ref wT), .val (.ref wF), .val (.ref a232), .val (.ref tT), .val (.ref vT)] [(.ref vT)]) := fun t k => go239 t (by
      show Steps p.tables e below (T239.setTop (mkF m 92 #[.val (.int p1), .val (.int (1 : Int32)), .val (.ref wT), .val (.ref wF), .val (.ref a232), .val (.ref tT), .unset] [(.ref vT)])) _
      refine XS.astore X239.here hx rfl (hb hby at_92) rfl rfl (l' := #[.val (.int p1), .val (.int (1 : Int32)), .val (.ref wT), .val (.ref wF), .val (.ref a232), .val (.ref tT), .val (.ref vT)]) rfl ?_
      show Steps p.tables e below (T239.setTop (mkF m 94 #[.val (.int p1), .val (.int (1 : Int32)), .val (.ref wT), .val (.ref wF), .val (.ref a232), .val (.ref tT), .val (.ref vT)] [])) _
      refine XS.aload X239.here hx rfl (hb hby at_94) rfl rfl ?_
      exact k)
    obtain ⟨T241, X241, e241, st241⟩ := instY X239 hx hZ hown (hw _ (List.mem_of_getElem? (i := 54) rfl)) eq239 (Ins.self (BT.ext O232.2)) (g := (mkF m 96 #[.val (.int p1), .val (.int (1 : Int32)), .val (.ref wT), .val (.ref wF), .val (.ref a232), .val (.ref tT), .val (.ref vT)] [(.ref vT)])) rfl rfl (hb hby at_96)
    have go241 : Goes p e below s₁ (entryFrame m #[(.int p1)] maxLocals) T241 (mkF m 99 #[.val (.int p1), .val (.int (1 : Int32)), .val (.ref wT), .val (.ref wF), .val (.ref a232), .val (.ref tT), .val (.ref vT)] [(.int (1 : Int32))]) := fun t k => go240 t (st241 _ k)
    have go242 : Goes p e below s₁ (entryFrame m #[(.int p1)] maxLocals) T241 (mkF m 106 #[.val (.int p1), .val (.int (1 : Int32)), .val (.ref wT), .val (.ref wF), .val (.ref a232), .val (.ref tT), .val (.ref vT)] [(.ref vT)]) := fun t k => go241 t (by
      show Steps p.tables e below (T241.setTop (mkF m 99 #[.val (.int p1), .val (.int (1 : Int32)), .val (.ref wT), .val (.ref wF), .val (.ref a232), .val (.ref tT), .val (.ref vT)] [(.int (1 : Int32))])) _
      refine XS.ifYes X241.here hx rfl (pc0 := 99) (pc' := 104) rfl (hb hby at_99) rfl ((if0 _ _).trans (feq (by decide)).2) (by decide) (by decide) ?_
      show Steps p.tables e below (T241.setTop (mkF m 104 #[.val (.int p1), .val (.int (1 : Int32)), .val (.ref wT), .val (.ref wF), .val (.ref a232), .val (.ref tT), .val (.ref vT)] [])) _
      refine XS.aload X241.here hx rfl (hb hby at_104) rfl rfl ?_
      exact k)
    obtain ⟨T243, X243, e243, st243⟩ := castY X241 hx hZ hown (hw _ (List.mem_of_getElem? (i := 54) rfl)) e241 (Ins.self (BT.ext O232.2)) (g := (mkF m 106 #[.val (.int p1), .val (.int (1 : Int32)), .val (.ref wT), .val (.ref wF), .val (.ref a232), .val (.ref tT), .val (.ref vT)] [(.ref vT)])) rfl rfl (hb hby at_106)
    have go243 : Goes p e below s₁ (entryFrame m #[(.int p1)] maxLocals) T243 (mkF m 109 #[.val (.int p1), .val (.int (1 : Int32)), .val (.ref wT), .val (.ref wF), .val (.ref a232), .val (.ref tT), .val (.ref vT)] [(.ref vT)]) := fun t k => go242 t (st243 _ k)
    obtain ⟨cq244, kq244, q244a, q244b, q244c⟩ := isOf hZ e243 (BT.ext O232.2)
    obtain ⟨_, _, ⟨T244, L244, k244, n244⟩, -, X244, ⟨Lc244, hQ244, l244, y244, z244⟩, st244⟩ := X243.virtualBack hx (y := (⟨"java/lang/Boolean", "booleanValue", "()Z"⟩ : MethodName)) (z := (⟨"java/lang/Boolean", "booleanValue", "()Z"⟩ : MethodName)) hown (mvT hZ (hw _ (List.mem_of_getElem? (i := 56) rfl))) (mvT hZ (hw _ (List.mem_of_getElem? (i := 57) rfl))) (notFace_of_selects (args := #[]) (mvT hZ (hw _ (List.mem_of_getElem? (i := 59) rfl)))) (mvT hZ (hw _ (List.mem_of_getElem? (i := 59) rfl))) (mvT hZ (hw _ (List.mem_of_getElem? (i := 58) rfl))) (by decide) (backOf (W := 0) (bv1 l Z a0 hw [] vT  h232 n0 ZS232 (ZT.ext O232.2)) hZ (hw _ (List.mem_of_getElem? (i := 61) rfl)) (hw _ (List.mem_of_getElem? (i := 60) rfl)) (by decide) (by decide)) q244a q244c (g := (mkF m 109 #[.val (.int p1), .val (.int (1 : Int32)), .val (.ref wT), .val (.ref wF), .val (.ref a232), .val (.ref tT), .val (.ref vT)] [(.ref vT)])) rfl (by rw [hml]; rfl) (Steps.refl _) (argsL := []) (rest := []) (lenOf pd_0 rfl) rfl (by show 2 * 0 + _ ≤ _; exact Nat.le_of_eq rfl) (hb hby at_109) (fun _ _ => ⟨rfl, e243, (by decide : 2 + 0 ≤ _), (by decide : 20 + 0 ≤ _)⟩)
    dsimp only [Pt.U, Pt.locs, Pt.cells, Pt.slots] at X244 l244 y244 z244 st244 hQ244
    subst l244 y244 z244
    obtain ⟨rfl, Nq244, eq244⟩ := hQ244
    have N244 := Fr.app N239 Nq244
    have go244 : Goes p e below s₁ (entryFrame m #[(.int p1)] maxLocals) T244 (mkF m 112 #[.val (.int p1), .val (.int (1 : Int32)), .val (.ref wT), .val (.ref wF), .val (.ref a232), .val (.ref tT), .val (.ref vT)] [(.int (1 : Int32))]) := fun t k => go243 t (st244.trans k)
    have go245 : Goes p e below s₁ (entryFrame m #[(.int p1)] maxLocals) T244 (mkF m 113 #[.val (.int p1), .val (.int (1 : Int32)), .val (.ref wT), .val (.ref wF), .val (.ref a232), .val (.ref tT), .val (.ref vT)] [(.int (1 : Int32)), (.int (1 : Int32))]) := fun t k => go244 t (by
      show Steps p.tables e below (T244.setTop (mkF m 112 #[.val (.int p1), .val (.int (1 : Int32)), .val (.ref wT), .val (.ref wF), .val (.ref a232), .val (.ref tT), .val (.ref vT)] [(.int (1 : Int32))])) _
      refine XS.iloadN X244.here hx rfl (hb hby at_112) rfl ?_
      exact k)
    have go246 : Goes p e below s₁ (entryFrame m #[(.int p1)] maxLocals) T244 (mkF m 120 #[.val (.int p1), .val (.int (1 : Int32)), .val (.ref wT), .val (.ref wF), .val (.ref a232), .val (.ref tT), .val (.ref vT)] [(.ref wF), (.ref wT)]) := fun t k => go245 t (by
      show Steps p.tables e below (T244.setTop (mkF m 113 #[.val (.int p1), .val (.int (1 : Int32)), .val (.ref wT), .val (.ref wF), .val (.ref a232), .val (.ref tT), .val (.ref vT)] [(.int (1 : Int32)), (.int (1 : Int32))])) _
      refine XS.icmpYes X244.here hx rfl (pc0 := 113) (pc' := 118) rfl (hb hby at_113) rfl (teq rfl).1 (by decide) (by decide) ?_
      show Steps p.tables e below (T244.setTop (mkF m 118 #[.val (.int p1), .val (.int (1 : Int32)), .val (.ref wT), .val (.ref wF), .val (.ref a232), .val (.ref tT), .val (.ref vT)] [])) _
      refine XS.aloadN X244.here hx rfl (hb hby at_118) rfl rfl ?_
      show Steps p.tables e below (T244.setTop (mkF m 119 #[.val (.int p1), .val (.int (1 : Int32)), .val (.ref wT), .val (.ref wF), .val (.ref a232), .val (.ref tT), .val (.ref vT)] [(.ref wT)])) _
      refine XS.aloadN X244.here hx rfl (hb hby at_119) rfl rfl ?_
      exact k)
    obtain ⟨cq247, kq247, q247a, q247b, q247c⟩ := isOf hZ eq244 (ET.ext O232.2)
    obtain ⟨_, _, ⟨T247, L247, k247, n247⟩, -, X247, ⟨Lc247, hQ247, l247, y247, z247⟩, st247⟩ := X244.virtualBack hx (y := (⟨"com/example/keen_verdict/keenverdict/AttributeValue", "equals", "(Ljava/lang/Object;)Z"⟩ : MethodName)) (z := (⟨"com/example/keen_verdict/keenverdict/AttributeValue", "equals", "(Ljava/lang/Object;)Z"⟩ : MethodName)) hown (mvT hZ (hw _ (List.mem_of_getElem? (i := 64) rfl))) (mvT hZ (hw _ (List.mem_of_getElem? (i := 65) rfl))) (notFace_of_selects (args := #[]) (mvT hZ (hw _ (List.mem_of_getElem? (i := 67) rfl)))) (mvT hZ (hw _ (List.mem_of_getElem? (i := 67) rfl))) (mvT hZ (hw _ (List.mem_of_getElem? (i := 66) rfl))) (by decide) (backOf (W := 0) (ae1 l Z a0 hw [] wT wF dd vT vF h232 n0 ZS232 (EF.ext O232.2) (DT.ext O232.2) (DF.ext O232.2) (ED.ext O232.2) (VT.ext O232.2) (VF.ext O232.2) (BT.ext O232.2) (BF.ext O232.2) (ZT.ext O232.2) (ZF.ext O232.2)) hZ (hw _ (List.mem_of_getElem? (i := 68) rfl)) (hw _ (List.mem_of_getElem? (i := 2) rfl)) (by decide) (by decide)) q247a q247c (g := (mkF m 120 #[.val (.int p1), .val (.int (1 : Int32)), .val (.ref wT), .val (.ref wF), .val (.ref a232), .val (.ref tT), .val (.ref vT)] [(.ref wF), (.ref wT)])) rfl (by rw [hml]; rfl) (Steps.refl _) (argsL := [(.ref wF)]) (rest := []) (lenOf pd_1 rfl) rfl (by show 2 * 0 + _ ≤ _; exact Nat.le_of_eq rfl) (hb hby at_120) (fun _ _ => ⟨rfl, eq244, (by decide : 2 + 0 ≤ _), (by decide : 20 + 0 ≤ _)⟩)
    dsimp only [Pt.U, Pt.locs, Pt.cells, Pt.slots] at X247 l247 y247 z247 st247 hQ247
    subst l247 y247 z247
    obtain ⟨rfl, Nq247, eq247⟩ := hQ247
    have N247 := Fr.app N244 Nq247
    have go247 : Goes p e below s₁ (entryFrame m #[(.int p1)] maxLocals) T247 (mkF m 123 #[.val (.int p1), .val (.int (1 : Int32)), .val (.ref wT), .val (.ref wF), .val (.ref a232), .val (.ref tT), .val (.ref vT)] [(.int (0 : Int32))]) := fun t k => go246 t (st247.trans k)
    have go248 : Goes p e below s₁ (entryFrame m #[(.int p1)] maxLocals) T247 (mkF m 131 #[.val (.int p1), .val (.int (1 : Int32)), .val (.ref wT), .val (.ref wF), .val (.ref a232), .val (.ref tT), .val (.ref vT)] [(.int (1 : Int32))]) := fun t k => go247 t (by
      show Steps p.tables e below (T247.setTop (mkF m 123 #[.val (.int p1), .val (.int (1 : Int32)), .val (.ref wT), .val (.ref wF), .val (.ref a232), .val (.ref tT), .val (.ref vT)] [(.int (0 : Int32))])) _
      refine XS.ifNo X247.here hx rfl (hb hby at_123) rfl ((if0 _ _).trans (teq (by decide)).2) ?_
      show Steps p.tables e below (T247.setTop (mkF m 126 #[.val (.int p1), .val (.int (1 : Int32)), .val (.ref wT), .val (.ref wF), .val (.ref a232), .val (.ref tT), .val (.ref vT)] [])) _
      refine XS.iconst X247.here hx rfl (hb hby at_126) ?_
      show Steps p.tables e below (T247.setTop (mkF m 127 #[.val (.int p1), .val (.int (1 : Int32)), .val (.ref wT), .val (.ref wF), .val (.ref a232), .val (.ref tT), .val (.ref vT)] [(.int (1 : Int32))])) _
      refine XS.goto X247.here hx rfl (pc0 := 127) (pc' := 131) rfl (hb hby at_127) (by decide) (by decide) ?_
      exact k)
    obtain ⟨fs, hr, hrun, hended, hEW⟩ := Stand.leaveW (s := s) X247 hS232 (by rw [eq247]; exact hk232) (v := some (.int (1 : Int32))) (fun h => by rw [Bd.returns] at h; cases h)
    refine ⟨_, _, go248 _ ?_, hrun, hended, _, _, rfl, ?_, hEW.1, hEW.2.1, hEW.2.2.1, hEW.2.2.2.mono (by decide) (by decide)⟩
    · exact retN X247 hx (t := .boolean) Bd.returns (by simp) (hb hby at_131) hr
    · show Q_rm0 Z p1 wT wF dd tT tF vT vF yT yF kT kF cz h0 n0 _ T247.heap _
      rw [eq247]
      exact ⟨rfl, N247⟩
theorem own_fldint {args : Array Value} {s : State} {t : Term} {C n d : String} {a : Addr} {k : Int32} (ht : t.eval args s none [] s = some (.ref a)) (h : (Jvm.Cond.eq (Term.field t C n d) (Term.int k)).value args s none s [] = some true) : s.fieldOf? a C n d = some (.int k) := by
  have e := fld_at (C := C) (n := n) (dd := d) ht
  have e2 : (Term.int k).eval args s none [] s = some (.int k) := Term.int_eval k
  simp only [Jvm.Cond.value, e, e2] at h
  cases hf : s.fieldOf? a C n d with
  | none => simp [hf] at h
  | some v => cases v <;> simp [hf] at h ⊢; exact h
theorem own_eqref {args : Array Value} {s : State} {t u : Term} {a : Addr} (hu : u.eval args s none [] s = some (.ref a)) (h : (Jvm.Cond.eq t u).value args s none s [] = some true) : t.eval args s none [] s = some (.ref a) := by
  simp only [Jvm.Cond.value, hu] at h
  cases hf : t.eval args s none [] s with
  | none => simp [hf] at h
  | some v => cases v <;> simp [hf] at h ⊢; exact h
theorem own_len {args : Array Value} {s : State} {t : Term} {a : Addr} {cl : Cell} {ty : FieldType} {k : Int32} (A : Arr s s.heap a cl ty) (ht : t.eval args s none [] s = some (.ref a)) (h : (Jvm.Cond.eq (Term.length t) (Term.int k)).value args s none s [] = some true) : cl.slots.size < 2 ^ 31 ∧ cl.slots.size.toInt32 = k := by
  have ha := A.fin (Vm.Alike.refl _)
  by_cases q : cl.slots.size < 2 ^ 31
  · have e := len_f ht ha q
    have e2 : (Term.int k).eval args s none [] s = some (.int k) := Term.int_eval k
    simp only [Jvm.Cond.value, e, e2] at h
    exact ⟨q, by simpa using h⟩
  · simp [Jvm.Cond.value, Term.eval, ht, ha, q] at h
theorem own_elem {args : Array Value} {s : State} {t : Term} {a : Addr} {cl : Cell} {ty : FieldType} {j k : Int32} (A : Arr s s.heap a cl ty) (ht : t.eval args s none [] s = some (.ref a)) (h : (Jvm.Cond.eq (Term.elem t (Term.int j)) (Term.int k)).value args s none s [] = some true) : cl.slots[j.toNatClampNeg]? = some (.int k) := by
  have e2 : (Term.int k).eval args s none [] s = some (.int k) := Term.int_eval k
  cases he : (Term.elem t (Term.int j)).eval args s none [] s with
  | none => simp [Jvm.Cond.value, he] at h
  | some v =>
    have q := (elem_in he ht (Term.int_eval j) A.1).2
    simp only [Jvm.Cond.value, he, e2] at h
    cases v <;> simp at h
    rw [q, h]
set_option maxRecDepth 65536 in
set_option maxHeartbeats 40000000 in
theorem comes_1 {Post : Tables → Env → Array Value → State → Outcome → State → Prop} (hpost : ∀ tb e args s v u, (limb_1_1.after args s (.returned v) u = true ∧ limb_1_2.after args s (.returned v) u = true ∧ True) → ReturnedEndW s (.returned v) u (Jvm.fieldLocs frame_1_writes args s ++ Jvm.arrayLocs frame_1_arrays args s ++ Jvm.staticLocs frame_1_statics s) 8 2112 → Post tb e args s (.returned v) u) :
    ArmFor flags0 classFile x code maxLocals ret World_1 tables_1 room_1 Calls_1 rest_1 Pre_1 Post := by
  intro l hfl _ _ p e ha hc hk s m args below hf hA hF happ hP
  obtain ⟨hcalls, hrest, hpre⟩ := hP
  obtain ⟨-, -, -, hnamed, -, -, -, hat⟩ := (Spec.applies_iff hf).mp happ
  obtain ⟨hg, hn⟩ := and_e (Cond.before_iff.mp (show (Jvm.Cond.and given_1 narrow_1).before args s = true from hpre))
  obtain ⟨g0, hg0⟩ := and_e hg
  obtain ⟨w0, rfl⟩ : ∃ w0 : Value, args = #[w0] := by
    have hs : args.size = 1 := by simpa [Cond.value, given_1] using g0
    obtain ⟨L⟩ := args
    match L, hs with
    | [w0], _ => exact ⟨w0, rfl⟩
  have hw := fun d (hd : d ∈ tables_1) => atoms_spec (ws := Jvm.Cond.code x code maxLocals ret :: tables_1) hat d (List.mem_cons_of_mem _ hd)
  have hfit : Fit s := fun {y c} hc i hi => by
    obtain ⟨ha, rfl⟩ := Array.getElem?_eq_some_iff.mp hc
    have q := List.all_eq_true.mp ((Array.all_eq_true_iff_forall_mem.mp hF) _ (Array.getElem_mem ha)) i (List.mem_range.mpr hi)
    simpa [Array.getElem?_eq_getElem hi] using q
  obtain ⟨hsets, hown0⟩ := atoms_of _ (rest_1_c_eq ▸ (show rest_1_c.before _ s = true from hrest))
  have hr0 := Cond.before_iff.mp hown0
  obtain ⟨i0, ei0⟩ := is_v hg0
  obtain rfl : w0 = (.int i0) := Option.some.inj ei0
  obtain ⟨n0, hn0⟩ := and_e hn
  obtain ⟨n1, hn1⟩ := and_e hn0
  obtain ⟨n2, hn2⟩ := and_e hn1
  obtain ⟨n3, hn3⟩ := and_e hn2
  obtain ⟨n4, hn4⟩ := and_e hn3
  obtain ⟨n5, hn5⟩ := and_e hn4
  obtain ⟨n6, hn6⟩ := and_e hn5
  obtain ⟨n7, hn7⟩ := and_e hn6
  obtain ⟨n8, hn8⟩ := and_e hn7
  obtain ⟨n9, hn9⟩ := and_e hn8
  obtain ⟨n10, hn10⟩ := and_e hn9
  obtain ⟨n11, hn11⟩ := and_e hn10
  obtain ⟨n12, hn12⟩ := and_e hn11
  obtain ⟨n13, hn13⟩ := and_e hn12
  obtain ⟨n14, hn14⟩ := and_e hn13
  obtain ⟨n15, hn15⟩ := and_e hn14
  obtain ⟨n16, hn16⟩ := and_e hn15
  obtain ⟨n17, hn17⟩ := and_e hn16
  obtain ⟨n18, hn18⟩ := and_e hn17
  obtain ⟨n19, hn19⟩ := and_e hn18
  obtain ⟨n20, hn20⟩ := and_e hn19
  obtain ⟨n21, hn21⟩ := and_e hn20
  obtain ⟨n22, hn22⟩ := and_e hn21
  obtain ⟨n23, hn23⟩ := and_e hn22
  obtain ⟨n24, hn24⟩ := and_e hn23
  obtain ⟨wF, ewF⟩ := exa_v n0
  have EF := Exa.start ewF n0
  have SF := Sta.start ewF (Or.inr ⟨(hw _ (List.mem_of_getElem? (i := 2) rfl)), (hw _ (List.mem_of_getElem? (i := 5) rfl))⟩)
  obtain ⟨wT, ewT⟩ := exa_v n1
  have ET := Exa.start ewT n1
  have ST := Sta.start ewT (Or.inr ⟨(hw _ (List.mem_of_getElem? (i := 2) rfl)), (hw _ (List.mem_of_getElem? (i := 7) rfl))⟩)
  obtain ⟨dd, edd⟩ := exa_v n2
  have ED := Exa.start edd n2
  have DF := Fld.start ((fld_at ewF).symm.trans edd)
  have eb := own_eqref edd n3
  have SB := Sta.start eb (Or.inr ⟨(hw _ (List.mem_of_getElem? (i := 16) rfl)), (hw _ (List.mem_of_getElem? (i := 17) rfl))⟩)
  have et := own_eqref edd n10
  have DT := Fld.start ((fld_at ewT).symm.trans et)
  obtain ⟨tF, etF⟩ := exa_v n4
  have TEF := Exa.start etF n4
  have XF := Fld.start ((fld_at ewF).symm.trans etF)
  have TCF := Fld.start (own_fldint etF n5)
  obtain ⟨yF, eyF⟩ := arr_v n6
  obtain ⟨cF, ArF⟩ := Arr.start eyF n6
  have TVF := Fld.start ((fld_at etF).symm.trans eyF)
  have lnF := own_len ArF eyF n7
  have TAF := Arv.start (vs := [(.int (102 : Int32)), (.int (97 : Int32)), (.int (108 : Int32)), (.int (115 : Int32)), (.int (101 : Int32))]) (dv := (.int (0 : Int32))) hfit ArF lnF.1 lnF.2 (by decide) rfl ⟨own_elem ArF eyF n21, own_elem ArF eyF n22, own_elem ArF eyF n23, own_elem ArF eyF n24, own_elem ArF eyF hn24, trivial⟩
  obtain ⟨vF, evF⟩ := exa_v n8
  have BF := Exa.start evF n8
  have VF := Fld.start ((fld_at ewF).symm.trans evF)
  have ZF := Fld.start (own_fldint evF n9)
  obtain ⟨tT, etT⟩ := exa_v n13
  have TET := Exa.start etT n13
  have XT := Fld.start ((fld_at ewT).symm.trans etT)
  have TCT := Fld.start (own_fldint etT n14)
  obtain ⟨yT, eyT⟩ := arr_v n15
  obtain ⟨cT, ArT⟩ := Arr.start eyT n15
  have TVT := Fld.start ((fld_at etT).symm.trans eyT)
  have lnT := own_len ArT eyT n16
  have TAT := Arv.start (vs := [(.int (116 : Int32)), (.int (114 : Int32)), (.int (117 : Int32)), (.int (101 : Int32))]) (dv := (.int (0 : Int32))) hfit ArT lnT.1 lnT.2 (by decide) rfl ⟨own_elem ArT eyT n17, own_elem ArT eyT n18, own_elem ArT eyT n19, own_elem ArT eyT n20, trivial⟩
  obtain ⟨vT, evT⟩ := exa_v n11
  have BT := Exa.start evT n11
  have VT := Fld.start ((fld_at ewT).symm.trans evT)
  have ZT := Fld.start (own_fldint evT n12)
  obtain ⟨cz, ecz⟩ := is_v (Cond.before_iff.mp (hsets _ (List.mem_of_getElem? (i := 1) rfl)))
  have SC := Sta.start ecz (Or.inl (hsets _ (List.mem_of_getElem? (i := 0) rfl)))
  have hcw := hsets _ (List.mem_of_getElem? (i := 2) rfl)
  have hz : ¬ (cz = (0 : Int32)) := fun q => by have h := not_v (Cond.before_iff.mp hcw); rw [eq_i ecz (Term.int_eval 0) (by rw [q])] at h; cases h
  obtain ⟨n, o, h1, h2, h3, _, L, rfl, ⟨rfl, N⟩, hq⟩ := rm0 l s _ hw tables_1 i0 wT wF dd tT tF vT vF yT yF cT.cls cF.cls cz s.heap s.heap.size (Nat.le_refl _) (Old.start s) rfl hcw hz (hcalls.1 ("com/example/keen_verdict/keenverdict/AttributeValueOfPinLaw", 23) (by simp [consts_1])) (hcalls.1 ("com/example/keen_verdict/keenverdict/AttributeValueOfPinLaw", 25) (by simp [consts_1])) ST SF SB SC ED ET DT XT VT BT ZT TET TCT TVT TAT EF DF XF VF BF ZF TEF TCF TVF TAF p e ha hc hk s m _ below hf ((Spec.applies_iff_loose hf).mp happ).1 ⟨rfl, State.Warmed39.refl s, rfl, IB.start⟩ trivial
  refine ⟨n, _, h1, h2, h3, hpost _ _ _ _ _ _ ⟨Cond.after_iff.mpr rfl, Cond.after_iff.mpr (eq_i res_at (Term.int_eval (1)) rfl), trivial⟩ ⟨hq.1, hq.2.1, hq.2.2.1, (hq.2.2.2.sift fun y hy => Or.inr (N y hy)).mono (by decide) (by decide)⟩⟩
theorem main_1_1 : Claimed_1_1 := comes_1 fun _ _ _ _ _ _ h hF => ⟨h.1, hF⟩
theorem main_1_2 : Claimed_1_2 := comes_1 fun _ _ _ _ _ _ h hF => ⟨h.2.1, hF⟩
end Jvm.Pilot.@@N@@
namespace Jvm.Pilot.@@N@@
open Jvm Jvm.ClassFile Sem Op Lib Jvm.Free Jvm.Stand Jvm.Pilot.@@N@@.Jvm.D
/-! MADE BY PROGRAM (witnessworld.py) out of the Statement's table words and the real class files: 21 classes; the members and pool entries that the words name. The judged class is class 1, her method 1. -/
namespace start1
open Jvm.ClassFile
def u (s : String) : CpInfo := .utf8 (stringToUtf16 s)
/-- a pool by its gaps: so many unusable entries, then the entry; so many at the end -/
def gap : Nat → List CpInfo → List CpInfo
  | 0, r => r
  | n + 1, r => .unusable :: gap n r
def poolList (es : List (Nat × CpInfo)) (last : Nat) : List CpInfo := es.foldr (fun e r => gap e.1 (e.2 :: r)) (gap last [])
def pool (es : List (Nat × CpInfo)) (last : Nat) : Array CpInfo := ⟨poolList es last⟩
def fileOf (pool : Array CpInfo) (this : Nat) (attrs : Array Attribute := #[]) (ms : Array MethodInfo := #[]) (fl : Nat := 33) (sup : Nat := 0) (ifs : Array Nat := #[]) (fds : Array FieldInfo := #[]) : ClassFile where
  minorVersion := 0
  majorVersion := 65
  constantPool := pool
  accessFlags := fl
  thisClass := this
  superClass := sup
  interfaces := ifs
  fields := fds
  methods := ms
  attributes := attrs
def plain (name : String) (sup : Option ClassId) : Class where
  name := name
  kind := .ordinary
  loader := none
  accessFlags := 33
  super := sup
  interfaces := #[]
  cf := none
  fields := #[]
  methods := #[]
  instanceTypes := #[]
  staticTypes := #[]
  resolved := #[]
  callSites := []
  init := .initialized
  statics := none
  mirror := none

def pool0 : Array CpInfo := pool [(5, u "<init>"), (0, u "()V"), (1, .class_ 10), (1, u "java/lang/Object"), (81, u "equals"), (0, u "(Ljava/lang/Object;)Z")] 30

def k0m0 : Method := { name := "<init>", desc := "()V", sig := { parameters := [], returnType := none }, accessFlags := 1, code := none }
def k0c1 : Code := { maxStack := 2, maxLocals := 2, code := object_method_4_code, exceptionTable := #[], attributes := #[] }
def k0m1 : Method := { name := "equals", desc := "(Ljava/lang/Object;)Z", sig := { parameters := [(.object "java/lang/Object")], returnType := some .boolean }, accessFlags := 1, code := some k0c1 }
/-- java/lang/Object -/
def k0 : Class := { plain "java/lang/Object" none with
  accessFlags := 33
  interfaces := #[]
  cf := some (fileOf pool0 8 #[] #[{ accessFlags := 1, nameIndex := 5, descriptorIndex := 6, attributes := #[] }, { accessFlags := 1, nameIndex := 92, descriptorIndex := 93, attributes := #[] }] 33 0 #[] #[])
  fields := #[]
  methods := #[k0m0, k0m1]
  instanceTypes := #[]
  staticTypes := #[]
  resolved := Array.replicate 124 none
  statics := none }

def pool1 : Array CpInfo := pool [(2, .class_ 4), (1, u "java/lang/Object"), (0, u "<init>"), (0, u "()V"), (0, .methodref 8 9), (0, .class_ 10), (0, .nameAndType 11 12), (0, u "com/example/keen_verdict/keenverdict/AttributeValue"), (0, u "of"), (0, u "(Z)Lcom/example/keen_verdict/keenverdict/AttributeValue;"), (0, .methodref 8 14), (0, .nameAndType 15 16), (0, u "dataType"), (0, u "()Lcom/example/keen_verdict/keenverdict/DataType;"), (0, .fieldref 18 19), (0, .class_ 20), (0, .nameAndType 21 22), (0, u "com/example/keen_verdict/keenverdict/DataType"), (0, u "BOOLEAN"), (0, u "Lcom/example/keen_verdict/keenverdict/DataType;"), (0, .string 24), (0, u "true"), (0, .string 26), (0, u "false"), (0, .methodref 8 28), (0, .nameAndType 29 30), (0, u "text"), (0, u "()Ljava/lang/String;"), (0, .methodref 32 33), (0, .class_ 34), (0, .nameAndType 35 36), (0, u "java/lang/String"), (0, u "equals"), (0, u "(Ljava/lang/Object;)Z"), (0, .methodref 8 38), (0, .nameAndType 39 40), (0, u "value"), (0, u "()Ljava/lang/Object;"), (0, .class_ 42), (0, u "java/lang/Boolean"), (0, .methodref 41 44), (0, .nameAndType 45 46), (0, u "booleanValue"), (0, u "()Z"), (0, .methodref 8 33), (0, .class_ 49), (0, u "com/example/keen_verdict/keenverdict/AttributeValueOfPinLaw"), (2, u "law"), (0, u "(I)Z")] 3

def k1m0 : Method := { name := "<init>", desc := "()V", sig := { parameters := [], returnType := none }, accessFlags := 2, code := none }
def k1c1 : Code := { maxStack := 2, maxLocals := 7, code := code, exceptionTable := #[], attributes := #[] }
def k1m1 : Method := { name := "law", desc := "(I)Z", sig := { parameters := [.int], returnType := some .boolean }, accessFlags := 9, code := some k1c1 }
/-- com/example/keen_verdict/keenverdict/AttributeValueOfPinLaw -/
def k1 : Class := { plain "com/example/keen_verdict/keenverdict/AttributeValueOfPinLaw" (some 0) with
  accessFlags := 49
  interfaces := #[]
  cf := some (fileOf pool1 48 #[] #[{ accessFlags := 2, nameIndex := 5, descriptorIndex := 6, attributes := #[] }, { accessFlags := 9, nameIndex := 52, descriptorIndex := 53, attributes := #[] }] 49 2 #[] #[])
  fields := #[]
  methods := #[k1m0, k1m1]
  instanceTypes := #[]
  staticTypes := #[]
  resolved := Array.replicate 57 none
  statics := none }

def pool2 : Array CpInfo := pool [(1, .class_ 2), (0, u "com/example/keen_verdict/keenverdict/Value"), (0, .class_ 4), (0, u "java/lang/Object")] 7

/-- com/example/keen_verdict/keenverdict/Value -/
def k2 : Class := { plain "com/example/keen_verdict/keenverdict/Value" (some 0) with
  accessFlags := 1536
  interfaces := #[]
  cf := some (fileOf pool2 1 #[] #[] 1536 3 #[] #[])
  fields := #[]
  methods := #[]
  instanceTypes := #[]
  staticTypes := #[]
  resolved := Array.replicate 12 none
  statics := none }

def pool3 : Array CpInfo := pool [(1, .class_ 2), (0, u "com/example/keen_verdict/keenverdict/Expression"), (0, .class_ 4), (0, u "java/lang/Object")] 13

/-- com/example/keen_verdict/keenverdict/Expression -/
def k3 : Class := { plain "com/example/keen_verdict/keenverdict/Expression" (some 0) with
  accessFlags := 1536
  interfaces := #[]
  cf := some (fileOf pool3 1 #[] #[] 1536 3 #[] #[])
  fields := #[]
  methods := #[]
  instanceTypes := #[]
  staticTypes := #[]
  resolved := Array.replicate 18 none
  statics := none }

def pool4 : Array CpInfo := pool [(2, .class_ 4), (1, u "java/lang/Object"), (2, .fieldref 8 9), (0, .class_ 10), (0, .nameAndType 11 12), (0, u "com/example/keen_verdict/keenverdict/AttributeValue"), (0, u "dataType"), (0, u "Lcom/example/keen_verdict/keenverdict/DataType;"), (0, .fieldref 8 14), (0, .nameAndType 15 16), (0, u "value"), (0, u "Ljava/lang/Object;"), (0, .fieldref 8 18), (0, .nameAndType 19 20), (0, u "text"), (0, u "Ljava/lang/String;"), (0, .fieldref 8 22), (0, .nameAndType 23 24), (0, u "TRUE"), (0, u "Lcom/example/keen_verdict/keenverdict/AttributeValue;"), (0, .fieldref 8 26), (0, .nameAndType 27 24), (0, u "FALSE"), (16, u "()Ljava/lang/String;"), (44, .methodref 2 90), (0, .nameAndType 91 92), (0, u "equals"), (0, u "(Ljava/lang/Object;)Z"), (29, .class_ 123), (0, u "com/example/keen_verdict/keenverdict/Value"), (0, .class_ 125), (0, u "com/example/keen_verdict/keenverdict/Expression"), (2, u "of"), (0, u "(Z)Lcom/example/keen_verdict/keenverdict/AttributeValue;"), (7, u "()Lcom/example/keen_verdict/keenverdict/DataType;"), (0, u "()Ljava/lang/Object;")] 32

def k4c0 : Code := { maxStack := 1, maxLocals := 1, code := prog_6_method_2_code, exceptionTable := #[], attributes := #[] }
def k4m0 : Method := { name := "of", desc := "(Z)Lcom/example/keen_verdict/keenverdict/AttributeValue;", sig := { parameters := [.boolean], returnType := some (.object "com/example/keen_verdict/keenverdict/AttributeValue") }, accessFlags := 8, code := some k4c0 }
def k4c1 : Code := { maxStack := 1, maxLocals := 1, code := prog_6_method_9_code, exceptionTable := #[], attributes := #[] }
def k4m1 : Method := { name := "dataType", desc := "()Lcom/example/keen_verdict/keenverdict/DataType;", sig := { parameters := [], returnType := some (.object "com/example/keen_verdict/keenverdict/DataType") }, accessFlags := 1, code := some k4c1 }
def k4c2 : Code := { maxStack := 1, maxLocals := 1, code := prog_6_method_10_code, exceptionTable := #[], attributes := #[] }
def k4m2 : Method := { name := "value", desc := "()Ljava/lang/Object;", sig := { parameters := [], returnType := some (.object "java/lang/Object") }, accessFlags := 0, code := some k4c2 }
def k4c3 : Code := { maxStack := 1, maxLocals := 1, code := prog_6_method_11_code, exceptionTable := #[], attributes := #[] }
def k4m3 : Method := { name := "text", desc := "()Ljava/lang/String;", sig := { parameters := [], returnType := some (.object "java/lang/String") }, accessFlags := 1, code := some k4c3 }
def k4c4 : Code := { maxStack := 2, maxLocals := 3, code := prog_6_method_15_code, exceptionTable := #[], attributes := #[] }
def k4m4 : Method := { name := "equals", desc := "(Ljava/lang/Object;)Z", sig := { parameters := [(.object "java/lang/Object")], returnType := some .boolean }, accessFlags := 1, code := some k4c4 }
/-- com/example/keen_verdict/keenverdict/AttributeValue -/
def k4 : Class := { plain "com/example/keen_verdict/keenverdict/AttributeValue" (some 0) with
  accessFlags := 49
  interfaces := #[2, 3]
  cf := some (fileOf pool4 8 #[] #[{ accessFlags := 8, nameIndex := 128, descriptorIndex := 129, attributes := #[] }, { accessFlags := 1, nameIndex := 11, descriptorIndex := 137, attributes := #[] }, { accessFlags := 0, nameIndex := 15, descriptorIndex := 138, attributes := #[] }, { accessFlags := 1, nameIndex := 19, descriptorIndex := 44, attributes := #[] }, { accessFlags := 1, nameIndex := 91, descriptorIndex := 92, attributes := #[] }] 49 2 #[122, 124] #[{ accessFlags := 24, nameIndex := 23, descriptorIndex := 24, attributes := #[] }, { accessFlags := 24, nameIndex := 27, descriptorIndex := 24, attributes := #[] }, { accessFlags := 18, nameIndex := 11, descriptorIndex := 12, attributes := #[] }, { accessFlags := 18, nameIndex := 15, descriptorIndex := 16, attributes := #[] }, { accessFlags := 18, nameIndex := 19, descriptorIndex := 20, attributes := #[] }])
  fields := #[{ name := "TRUE", type := (.object "com/example/keen_verdict/keenverdict/AttributeValue"), accessFlags := 24, slot := 0, constantValue := 0 }, { name := "FALSE", type := (.object "com/example/keen_verdict/keenverdict/AttributeValue"), accessFlags := 24, slot := 1, constantValue := 0 }, { name := "dataType", type := (.object "com/example/keen_verdict/keenverdict/DataType"), accessFlags := 18, slot := 0, constantValue := 0 }, { name := "value", type := (.object "java/lang/Object"), accessFlags := 18, slot := 1, constantValue := 0 }, { name := "text", type := (.object "java/lang/String"), accessFlags := 18, slot := 2, constantValue := 0 }]
  methods := #[k4m0, k4m1, k4m2, k4m3, k4m4]
  instanceTypes := #[(.object "com/example/keen_verdict/keenverdict/DataType"), (.object "java/lang/Object"), (.object "java/lang/String")]
  staticTypes := #[(.object "com/example/keen_verdict/keenverdict/AttributeValue"), (.object "com/example/keen_verdict/keenverdict/AttributeValue")]
  resolved := Array.replicate 171 none
  statics := some 0 }

def pool5 : Array CpInfo := pool [(2, .class_ 4), (1, u "com/example/keen_verdict/keenverdict/DataType"), (3, .class_ 10), (1, u "java/lang/Object"), (3, u "uri"), (0, u "Ljava/lang/String;"), (2, u "keepsWhiteSpace"), (0, u "Z"), (2, u "parser"), (0, u "Ljava/util/function/Function;"), (2, u "STANDARD"), (0, u "Ljava/util/Map;"), (8, u "STANDARD_BY_SHORT_NAME"), (89, u "INTEGER_TEXT"), (0, u "Ljava/util/regex/Pattern;"), (41, u "DOUBLE_TEXT"), (54, u "ROUNDINGS"), (0, u "Ljava/util/List;"), (64, u "STRING"), (0, u "Lcom/example/keen_verdict/keenverdict/DataType;"), (8, u "BOOLEAN"), (5, u "INTEGER"), (5, u "DOUBLE"), (5, u "TIME"), (5, u "DATE"), (5, u "DATE_TIME"), (5, u "ANY_URI"), (5, u "HEX_BINARY"), (5, u "BASE64_BINARY"), (5, u "DAY_TIME_DURATION"), (5, u "YEAR_MONTH_DURATION"), (5, u "X500_NAME"), (5, u "RFC822_NAME"), (5, u "IP_ADDRESS"), (5, u "DNS_NAME"), (50, u "XS"), (5, u "MAX_INTEGER_DIGITS"), (0, u "I"), (35, .class_ 479), (0, u "com/example/keen_verdict/keenverdict/DataType$Octets")] 127

/-- com/example/keen_verdict/keenverdict/DataType -/
def k5 : Class := { plain "com/example/keen_verdict/keenverdict/DataType" (some 0) with
  accessFlags := 49
  interfaces := #[]
  cf := some (fileOf pool5 2 #[.nestMembers #[478]] #[] 49 8 #[] #[{ accessFlags := 26, nameIndex := 435, descriptorIndex := 15, attributes := #[] }, { accessFlags := 25, nameIndex := 290, descriptorIndex := 291, attributes := #[] }, { accessFlags := 25, nameIndex := 300, descriptorIndex := 291, attributes := #[] }, { accessFlags := 25, nameIndex := 306, descriptorIndex := 291, attributes := #[] }, { accessFlags := 25, nameIndex := 312, descriptorIndex := 291, attributes := #[] }, { accessFlags := 25, nameIndex := 318, descriptorIndex := 291, attributes := #[] }, { accessFlags := 25, nameIndex := 324, descriptorIndex := 291, attributes := #[] }, { accessFlags := 25, nameIndex := 330, descriptorIndex := 291, attributes := #[] }, { accessFlags := 25, nameIndex := 336, descriptorIndex := 291, attributes := #[] }, { accessFlags := 25, nameIndex := 342, descriptorIndex := 291, attributes := #[] }, { accessFlags := 25, nameIndex := 348, descriptorIndex := 291, attributes := #[] }, { accessFlags := 25, nameIndex := 354, descriptorIndex := 291, attributes := #[] }, { accessFlags := 25, nameIndex := 360, descriptorIndex := 291, attributes := #[] }, { accessFlags := 25, nameIndex := 366, descriptorIndex := 291, attributes := #[] }, { accessFlags := 25, nameIndex := 372, descriptorIndex := 291, attributes := #[] }, { accessFlags := 25, nameIndex := 378, descriptorIndex := 291, attributes := #[] }, { accessFlags := 25, nameIndex := 384, descriptorIndex := 291, attributes := #[] }, { accessFlags := 26, nameIndex := 26, descriptorIndex := 27, attributes := #[] }, { accessFlags := 26, nameIndex := 36, descriptorIndex := 27, attributes := #[] }, { accessFlags := 24, nameIndex := 441, descriptorIndex := 442, attributes := #[] }, { accessFlags := 26, nameIndex := 126, descriptorIndex := 127, attributes := #[] }, { accessFlags := 26, nameIndex := 169, descriptorIndex := 127, attributes := #[] }, { accessFlags := 26, nameIndex := 224, descriptorIndex := 225, attributes := #[] }, { accessFlags := 18, nameIndex := 14, descriptorIndex := 15, attributes := #[] }, { accessFlags := 18, nameIndex := 18, descriptorIndex := 19, attributes := #[] }, { accessFlags := 18, nameIndex := 22, descriptorIndex := 23, attributes := #[] }])
  fields := #[{ name := "XS", type := (.object "java/lang/String"), accessFlags := 26, slot := 0, constantValue := 0 }, { name := "STRING", type := (.object "com/example/keen_verdict/keenverdict/DataType"), accessFlags := 25, slot := 1, constantValue := 0 }, { name := "BOOLEAN", type := (.object "com/example/keen_verdict/keenverdict/DataType"), accessFlags := 25, slot := 2, constantValue := 0 }, { name := "INTEGER", type := (.object "com/example/keen_verdict/keenverdict/DataType"), accessFlags := 25, slot := 3, constantValue := 0 }, { name := "DOUBLE", type := (.object "com/example/keen_verdict/keenverdict/DataType"), accessFlags := 25, slot := 4, constantValue := 0 }, { name := "TIME", type := (.object "com/example/keen_verdict/keenverdict/DataType"), accessFlags := 25, slot := 5, constantValue := 0 }, { name := "DATE", type := (.object "com/example/keen_verdict/keenverdict/DataType"), accessFlags := 25, slot := 6, constantValue := 0 }, { name := "DATE_TIME", type := (.object "com/example/keen_verdict/keenverdict/DataType"), accessFlags := 25, slot := 7, constantValue := 0 }, { name := "ANY_URI", type := (.object "com/example/keen_verdict/keenverdict/DataType"), accessFlags := 25, slot := 8, constantValue := 0 }, { name := "HEX_BINARY", type := (.object "com/example/keen_verdict/keenverdict/DataType"), accessFlags := 25, slot := 9, constantValue := 0 }, { name := "BASE64_BINARY", type := (.object "com/example/keen_verdict/keenverdict/DataType"), accessFlags := 25, slot := 10, constantValue := 0 }, { name := "DAY_TIME_DURATION", type := (.object "com/example/keen_verdict/keenverdict/DataType"), accessFlags := 25, slot := 11, constantValue := 0 }, { name := "YEAR_MONTH_DURATION", type := (.object "com/example/keen_verdict/keenverdict/DataType"), accessFlags := 25, slot := 12, constantValue := 0 }, { name := "X500_NAME", type := (.object "com/example/keen_verdict/keenverdict/DataType"), accessFlags := 25, slot := 13, constantValue := 0 }, { name := "RFC822_NAME", type := (.object "com/example/keen_verdict/keenverdict/DataType"), accessFlags := 25, slot := 14, constantValue := 0 }, { name := "IP_ADDRESS", type := (.object "com/example/keen_verdict/keenverdict/DataType"), accessFlags := 25, slot := 15, constantValue := 0 }, { name := "DNS_NAME", type := (.object "com/example/keen_verdict/keenverdict/DataType"), accessFlags := 25, slot := 16, constantValue := 0 }, { name := "STANDARD", type := (.object "java/util/Map"), accessFlags := 26, slot := 17, constantValue := 0 }, { name := "STANDARD_BY_SHORT_NAME", type := (.object "java/util/Map"), accessFlags := 26, slot := 18, constantValue := 0 }, { name := "MAX_INTEGER_DIGITS", type := .int, accessFlags := 24, slot := 19, constantValue := 0 }, { name := "INTEGER_TEXT", type := (.object "java/util/regex/Pattern"), accessFlags := 26, slot := 20, constantValue := 0 }, { name := "DOUBLE_TEXT", type := (.object "java/util/regex/Pattern"), accessFlags := 26, slot := 21, constantValue := 0 }, { name := "ROUNDINGS", type := (.object "java/util/List"), accessFlags := 26, slot := 22, constantValue := 0 }, { name := "uri", type := (.object "java/lang/String"), accessFlags := 18, slot := 0, constantValue := 0 }, { name := "keepsWhiteSpace", type := .boolean, accessFlags := 18, slot := 1, constantValue := 0 }, { name := "parser", type := (.object "java/util/function/Function"), accessFlags := 18, slot := 2, constantValue := 0 }]
  methods := #[]
  instanceTypes := #[(.object "java/lang/String"), .boolean, (.object "java/util/function/Function")]
  staticTypes := #[(.object "java/lang/String"), (.object "com/example/keen_verdict/keenverdict/DataType"), (.object "com/example/keen_verdict/keenverdict/DataType"), (.object "com/example/keen_verdict/keenverdict/DataType"), (.object "com/example/keen_verdict/keenverdict/DataType"), (.object "com/example/keen_verdict/keenverdict/DataType"), (.object "com/example/keen_verdict/keenverdict/DataType"), (.object "com/example/keen_verdict/keenverdict/DataType"), (.object "com/example/keen_verdict/keenverdict/DataType"), (.object "com/example/keen_verdict/keenverdict/DataType"), (.object "com/example/keen_verdict/keenverdict/DataType"), (.object "com/example/keen_verdict/keenverdict/DataType"), (.object "com/example/keen_verdict/keenverdict/DataType"), (.object "com/example/keen_verdict/keenverdict/DataType"), (.object "com/example/keen_verdict/keenverdict/DataType"), (.object "com/example/keen_verdict/keenverdict/DataType"), (.object "com/example/keen_verdict/keenverdict/DataType"), (.object "java/util/Map"), (.object "java/util/Map"), .int, (.object "java/util/regex/Pattern"), (.object "java/util/regex/Pattern"), (.object "java/util/List")]
  resolved := Array.replicate 607 none
  statics := some 1 }

def pool6 : Array CpInfo := pool [(1, .class_ 2), (0, u "java/io/Serializable"), (0, .class_ 4), (0, u "java/lang/Object")] 2

/-- java/io/Serializable -/
def k6 : Class := { plain "java/io/Serializable" (some 0) with
  accessFlags := 1537
  interfaces := #[]
  cf := some (fileOf pool6 1 #[] #[] 1537 3 #[] #[])
  fields := #[]
  methods := #[]
  instanceTypes := #[]
  staticTypes := #[]
  resolved := Array.replicate 7 none
  statics := none }

def pool7 : Array CpInfo := pool [(1, .class_ 2), (0, u "java/lang/Comparable"), (0, .class_ 4), (0, u "java/lang/Object")] 7

/-- java/lang/Comparable -/
def k7 : Class := { plain "java/lang/Comparable" (some 0) with
  accessFlags := 1537
  interfaces := #[]
  cf := some (fileOf pool7 1 #[] #[] 1537 3 #[] #[])
  fields := #[]
  methods := #[]
  instanceTypes := #[]
  staticTypes := #[]
  resolved := Array.replicate 12 none
  statics := none }

def pool8 : Array CpInfo := pool [(2, .class_ 4), (1, u "java/lang/CharSequence"), (42, .class_ 48), (0, u "java/lang/CharSequence$1CodePointIterator"), (10, .class_ 60), (0, u "java/lang/CharSequence$1CharIterator"), (5, .class_ 67), (0, u "java/lang/Object")] 63

/-- java/lang/CharSequence -/
def k8 : Class := { plain "java/lang/CharSequence" (some 0) with
  accessFlags := 1537
  interfaces := #[]
  cf := some (fileOf pool8 2 #[.nestMembers #[47, 59]] #[] 1537 66 #[] #[])
  fields := #[]
  methods := #[]
  instanceTypes := #[]
  staticTypes := #[]
  resolved := Array.replicate 131 none
  statics := none }

def pool9 : Array CpInfo := pool [(1, .class_ 2), (0, u "java/lang/constant/Constable"), (0, .class_ 4), (0, u "java/lang/Object")] 6

/-- java/lang/constant/Constable -/
def k9 : Class := { plain "java/lang/constant/Constable" (some 0) with
  accessFlags := 1537
  interfaces := #[]
  cf := some (fileOf pool9 1 #[] #[] 1537 3 #[] #[])
  fields := #[]
  methods := #[]
  instanceTypes := #[]
  staticTypes := #[]
  resolved := Array.replicate 11 none
  statics := none }

def pool10 : Array CpInfo := pool [(1, .class_ 2), (0, u "java/lang/constant/ConstantDesc"), (0, .class_ 4), (0, u "java/lang/Object")] 32

/-- java/lang/constant/ConstantDesc -/
def k10 : Class := { plain "java/lang/constant/ConstantDesc" (some 0) with
  accessFlags := 1537
  interfaces := #[]
  cf := some (fileOf pool10 1 #[] #[] 1537 3 #[] #[])
  fields := #[]
  methods := #[]
  instanceTypes := #[]
  staticTypes := #[]
  resolved := Array.replicate 37 none
  statics := none }

def pool11 : Array CpInfo := pool [(2, .class_ 4), (1, u "java/lang/Object"), (0, u "<init>"), (0, u "()V"), (2, .fieldref 10 11), (0, .class_ 12), (0, .nameAndType 13 14), (0, u "java/lang/String"), (0, u "value"), (0, u "[B"), (0, .fieldref 10 16), (0, .nameAndType 17 18), (0, u "coder"), (0, u "B"), (2, u "hash"), (0, u "I"), (2, u "hashIsZero"), (0, u "Z"), (11, .fieldref 10 39), (0, .nameAndType 40 26), (0, u "COMPACT_STRINGS"), (66, .class_ 109), (1, u "java/lang/StringLatin1"), (431, .methodref 107 542), (0, .nameAndType 543 544), (0, u "equals"), (0, u "([B[B)Z"), (28, u "(Ljava/lang/Object;)Z"), (1, .class_ 576), (0, u "java/lang/CharSequence"), (22, u "CASE_INSENSITIVE_ORDER"), (0, u "Ljava/util/Comparator;"), (500, u "serialPersistentFields"), (0, u "[Ljava/io/ObjectStreamField;"), (0, .class_ 1104), (0, u "java/lang/String$CaseInsensitiveComparator"), (1, .class_ 1107), (0, u "java/io/Serializable"), (0, .class_ 1109), (0, u "java/lang/Comparable"), (0, .class_ 1111), (0, u "java/lang/constant/Constable"), (0, .class_ 1113), (0, u "java/lang/constant/ConstantDesc"), (2, u "serialVersionUID"), (0, u "J"), (3, u "REPL"), (0, u "C"), (2, u "LATIN1"), (1, u "UTF16")] 323

def k11m0 : Method := { name := "<init>", desc := "()V", sig := { parameters := [], returnType := none }, accessFlags := 1, code := none }
def k11c1 : Code := { maxStack := 2, maxLocals := 3, code := jdk_42_method_66_code, exceptionTable := #[], attributes := #[] }
def k11m1 : Method := { name := "equals", desc := "(Ljava/lang/Object;)Z", sig := { parameters := [(.object "java/lang/Object")], returnType := some .boolean }, accessFlags := 1, code := some k11c1 }
/-- java/lang/String -/
def k11 : Class := { plain "java/lang/String" (some 0) with
  accessFlags := 49
  interfaces := #[6, 7, 8, 9, 10]
  cf := some (fileOf pool11 10 #[.nestMembers #[1103]] #[{ accessFlags := 1, nameIndex := 5, descriptorIndex := 6, attributes := #[] }, { accessFlags := 1, nameIndex := 543, descriptorIndex := 573, attributes := #[] }] 49 2 #[1106, 1108, 575, 1110, 1112] #[{ accessFlags := 18, nameIndex := 13, descriptorIndex := 14, attributes := #[] }, { accessFlags := 18, nameIndex := 17, descriptorIndex := 18, attributes := #[] }, { accessFlags := 2, nameIndex := 21, descriptorIndex := 22, attributes := #[] }, { accessFlags := 2, nameIndex := 25, descriptorIndex := 26, attributes := #[] }, { accessFlags := 26, nameIndex := 1116, descriptorIndex := 1117, attributes := #[] }, { accessFlags := 24, nameIndex := 40, descriptorIndex := 26, attributes := #[] }, { accessFlags := 26, nameIndex := 1101, descriptorIndex := 1102, attributes := #[] }, { accessFlags := 26, nameIndex := 1121, descriptorIndex := 1122, attributes := #[] }, { accessFlags := 25, nameIndex := 599, descriptorIndex := 600, attributes := #[] }, { accessFlags := 24, nameIndex := 1125, descriptorIndex := 18, attributes := #[] }, { accessFlags := 24, nameIndex := 1127, descriptorIndex := 18, attributes := #[] }])
  fields := #[{ name := "value", type := (.array .byte), accessFlags := 18, slot := 0, constantValue := 0 }, { name := "coder", type := .byte, accessFlags := 18, slot := 1, constantValue := 0 }, { name := "hash", type := .int, accessFlags := 2, slot := 2, constantValue := 0 }, { name := "hashIsZero", type := .boolean, accessFlags := 2, slot := 3, constantValue := 0 }, { name := "serialVersionUID", type := .long, accessFlags := 26, slot := 0, constantValue := 0 }, { name := "COMPACT_STRINGS", type := .boolean, accessFlags := 24, slot := 1, constantValue := 0 }, { name := "serialPersistentFields", type := (.array (.object "java/io/ObjectStreamField")), accessFlags := 26, slot := 2, constantValue := 0 }, { name := "REPL", type := .char, accessFlags := 26, slot := 3, constantValue := 0 }, { name := "CASE_INSENSITIVE_ORDER", type := (.object "java/util/Comparator"), accessFlags := 25, slot := 4, constantValue := 0 }, { name := "LATIN1", type := .byte, accessFlags := 24, slot := 5, constantValue := 0 }, { name := "UTF16", type := .byte, accessFlags := 24, slot := 6, constantValue := 0 }]
  methods := #[k11m0, k11m1]
  instanceTypes := #[(.array .byte), .byte, .int, .boolean]
  staticTypes := #[.long, .boolean, (.array (.object "java/io/ObjectStreamField")), .char, (.object "java/util/Comparator"), .byte, .byte]
  resolved := Array.replicate 1451 none
  statics := some 2 }

def pool12 : Array CpInfo := pool [(4, .class_ 6), (1, u "java/lang/Object"), (0, u "<init>"), (0, u "()V"), (5, .class_ 16), (1, u "java/lang/StringLatin1"), (104, u "$assertionsDisabled"), (0, u "Z"), (98, .class_ 223), (1, u "java/lang/StringLatin1$LinesSpliterator"), (57, u "equals"), (0, u "([B[B)Z"), (107, .class_ 391), (0, u "java/lang/StringLatin1$CharsSpliterator")] 3

def k12m0 : Method := { name := "<init>", desc := "()V", sig := { parameters := [], returnType := none }, accessFlags := 0, code := none }
def k12c1 : Code := { maxStack := 3, maxLocals := 3, code := jdk_43_method_13_code, exceptionTable := #[], attributes := #[] }
def k12m1 : Method := { name := "equals", desc := "([B[B)Z", sig := { parameters := [(.array .byte), (.array .byte)], returnType := some .boolean }, accessFlags := 9, code := some k12c1 }
/-- java/lang/StringLatin1 -/
def k12 : Class := { plain "java/lang/StringLatin1" (some 0) with
  accessFlags := 48
  interfaces := #[]
  cf := some (fileOf pool12 14 #[.nestMembers #[390, 221]] #[{ accessFlags := 0, nameIndex := 7, descriptorIndex := 8, attributes := #[] }, { accessFlags := 9, nameIndex := 281, descriptorIndex := 282, attributes := #[] }] 48 4 #[] #[{ accessFlags := 4120, nameIndex := 121, descriptorIndex := 122, attributes := #[] }])
  fields := #[{ name := "$assertionsDisabled", type := .boolean, accessFlags := 4120, slot := 0, constantValue := 0 }]
  methods := #[k12m0, k12m1]
  instanceTypes := #[]
  staticTypes := #[.boolean]
  resolved := Array.replicate 395 none
  statics := none }

def pool13 : Array CpInfo := pool [(2, .class_ 4), (1, u "java/lang/Object"), (2, .fieldref 8 9), (0, .class_ 10), (0, .nameAndType 11 12), (0, u "java/lang/Boolean"), (0, u "value"), (0, u "Z"), (16, u "TRUE"), (0, u "Ljava/lang/Boolean;"), (2, u "FALSE"), (8, .methodref 8 43), (0, .nameAndType 44 45), (0, u "booleanValue"), (0, u "()Z"), (41, u "TYPE"), (0, u "Ljava/lang/Class;"), (0, .class_ 90), (0, u "java/io/Serializable"), (0, .class_ 92), (0, u "java/lang/Comparable"), (0, .class_ 94), (0, u "java/lang/constant/Constable"), (2, u "serialVersionUID"), (0, u "J"), (25, u "equals"), (0, u "(Ljava/lang/Object;)Z")] 26

def k13c0 : Code := { maxStack := 1, maxLocals := 1, code := jdk_2055_method_4_code, exceptionTable := #[], attributes := #[] }
def k13m0 : Method := { name := "booleanValue", desc := "()Z", sig := { parameters := [], returnType := some .boolean }, accessFlags := 1, code := some k13c0 }
def k13c1 : Code := { maxStack := 2, maxLocals := 2, code := jdk_2055_method_11_code, exceptionTable := #[], attributes := #[] }
def k13m1 : Method := { name := "equals", desc := "(Ljava/lang/Object;)Z", sig := { parameters := [(.object "java/lang/Object")], returnType := some .boolean }, accessFlags := 1, code := some k13c1 }
/-- java/lang/Boolean -/
def k13 : Class := { plain "java/lang/Boolean" (some 0) with
  accessFlags := 49
  interfaces := #[6, 7, 9]
  cf := some (fileOf pool13 8 #[] #[{ accessFlags := 1, nameIndex := 44, descriptorIndex := 45, attributes := #[] }, { accessFlags := 1, nameIndex := 124, descriptorIndex := 125, attributes := #[] }] 49 2 #[89, 91, 93] #[{ accessFlags := 25, nameIndex := 29, descriptorIndex := 30, attributes := #[] }, { accessFlags := 25, nameIndex := 33, descriptorIndex := 30, attributes := #[] }, { accessFlags := 25, nameIndex := 87, descriptorIndex := 88, attributes := #[] }, { accessFlags := 18, nameIndex := 11, descriptorIndex := 12, attributes := #[] }, { accessFlags := 26, nameIndex := 97, descriptorIndex := 98, attributes := #[] }])
  fields := #[{ name := "TRUE", type := (.object "java/lang/Boolean"), accessFlags := 25, slot := 0, constantValue := 0 }, { name := "FALSE", type := (.object "java/lang/Boolean"), accessFlags := 25, slot := 1, constantValue := 0 }, { name := "TYPE", type := (.object "java/lang/Class"), accessFlags := 25, slot := 2, constantValue := 0 }, { name := "value", type := .boolean, accessFlags := 18, slot := 0, constantValue := 0 }, { name := "serialVersionUID", type := .long, accessFlags := 26, slot := 3, constantValue := 0 }]
  methods := #[k13m0, k13m1]
  instanceTypes := #[.boolean]
  staticTypes := #[(.object "java/lang/Boolean"), (.object "java/lang/Boolean"), (.object "java/lang/Class"), .long]
  resolved := Array.replicate 152 none
  statics := none }

def pool14 : Array CpInfo := pool [(2, .class_ 4), (1, u "java/lang/Object"), (0, u "<init>"), (0, u "()V"), (17, .class_ 26), (1, u "jdk/internal/util/Preconditions"), (28, .class_ 56), (0, u "jdk/internal/util/Preconditions$4"), (57, .class_ 115), (0, u "jdk/internal/util/Preconditions$1"), (7, u "SIOOBE_FORMATTER"), (0, u "Ljava/util/function/BiFunction;"), (0, .class_ 126), (0, u "jdk/internal/util/Preconditions$2"), (3, u "AIOOBE_FORMATTER"), (0, .class_ 132), (0, u "jdk/internal/util/Preconditions$3"), (3, u "IOOBE_FORMATTER")] 57

def k14m0 : Method := { name := "<init>", desc := "()V", sig := { parameters := [], returnType := none }, accessFlags := 1, code := none }
/-- jdk/internal/util/Preconditions -/
def k14 : Class := { plain "jdk/internal/util/Preconditions" (some 0) with
  accessFlags := 33
  interfaces := #[]
  cf := some (fileOf pool14 24 #[.nestMembers #[55, 131, 125, 114]] #[{ accessFlags := 1, nameIndex := 5, descriptorIndex := 6, attributes := #[] }] 33 2 #[] #[{ accessFlags := 25, nameIndex := 123, descriptorIndex := 124, attributes := #[] }, { accessFlags := 25, nameIndex := 130, descriptorIndex := 124, attributes := #[] }, { accessFlags := 25, nameIndex := 136, descriptorIndex := 124, attributes := #[] }])
  fields := #[{ name := "SIOOBE_FORMATTER", type := (.object "java/util/function/BiFunction"), accessFlags := 25, slot := 0, constantValue := 0 }, { name := "AIOOBE_FORMATTER", type := (.object "java/util/function/BiFunction"), accessFlags := 25, slot := 1, constantValue := 0 }, { name := "IOOBE_FORMATTER", type := (.object "java/util/function/BiFunction"), accessFlags := 25, slot := 2, constantValue := 0 }]
  methods := #[k14m0]
  instanceTypes := #[]
  staticTypes := #[(.object "java/util/function/BiFunction"), (.object "java/util/function/BiFunction"), (.object "java/util/function/BiFunction")]
  resolved := Array.replicate 194 none
  statics := some 3 }

def pool15 : Array CpInfo := pool [(9, u "<init>"), (6, .class_ 18), (1, u "java/lang/Object"), (0, u "()V"), (1, .class_ 23), (1, u "jdk/internal/util/ArraysSupport"), (0, u "LOG2_ARRAY_LONG_INDEX_SCALE"), (0, u "I"), (2, u "U"), (0, u "Ljdk/internal/misc/Unsafe;"), (8, u "BIG_ENDIAN"), (0, u "Z"), (8, u "LOG2_BYTE_BIT_SIZE"), (4, u "LOG2_ARRAY_INT_INDEX_SCALE"), (54, u "JLA"), (0, u "Ljdk/internal/access/JavaLangAccess;"), (11, u "LOG2_ARRAY_BOOLEAN_INDEX_SCALE"), (9, u "LOG2_ARRAY_BYTE_INDEX_SCALE"), (5, u "LOG2_ARRAY_CHAR_INDEX_SCALE"), (5, u "LOG2_ARRAY_SHORT_INDEX_SCALE"), (18, u "LOG2_ARRAY_FLOAT_INDEX_SCALE"), (24, u "LOG2_ARRAY_DOUBLE_INDEX_SCALE"), (89, u "T_BOOLEAN"), (2, u "T_CHAR"), (1, u "T_FLOAT"), (1, u "T_DOUBLE"), (1, u "T_BYTE"), (1, u "T_SHORT"), (1, u "T_INT"), (1, u "T_LONG"), (1, u "SOFT_MAX_ARRAY_LENGTH")] 83

def k15m0 : Method := { name := "<init>", desc := "()V", sig := { parameters := [], returnType := none }, accessFlags := 2, code := none }
/-- jdk/internal/util/ArraysSupport -/
def k15 : Class := { plain "jdk/internal/util/ArraysSupport" (some 0) with
  accessFlags := 33
  interfaces := #[]
  cf := some (fileOf pool15 21 #[] #[{ accessFlags := 2, nameIndex := 9, descriptorIndex := 19, attributes := #[] }] 33 16 #[] #[{ accessFlags := 24, nameIndex := 28, descriptorIndex := 29, attributes := #[] }, { accessFlags := 26, nameIndex := 38, descriptorIndex := 39, attributes := #[] }, { accessFlags := 25, nameIndex := 121, descriptorIndex := 25, attributes := #[] }, { accessFlags := 25, nameIndex := 131, descriptorIndex := 25, attributes := #[] }, { accessFlags := 25, nameIndex := 137, descriptorIndex := 25, attributes := #[] }, { accessFlags := 25, nameIndex := 143, descriptorIndex := 25, attributes := #[] }, { accessFlags := 25, nameIndex := 53, descriptorIndex := 25, attributes := #[] }, { accessFlags := 25, nameIndex := 24, descriptorIndex := 25, attributes := #[] }, { accessFlags := 25, nameIndex := 162, descriptorIndex := 25, attributes := #[] }, { accessFlags := 25, nameIndex := 187, descriptorIndex := 25, attributes := #[] }, { accessFlags := 26, nameIndex := 48, descriptorIndex := 25, attributes := #[] }, { accessFlags := 25, nameIndex := 277, descriptorIndex := 25, attributes := #[] }, { accessFlags := 25, nameIndex := 280, descriptorIndex := 25, attributes := #[] }, { accessFlags := 25, nameIndex := 282, descriptorIndex := 25, attributes := #[] }, { accessFlags := 25, nameIndex := 284, descriptorIndex := 25, attributes := #[] }, { accessFlags := 25, nameIndex := 286, descriptorIndex := 25, attributes := #[] }, { accessFlags := 25, nameIndex := 288, descriptorIndex := 25, attributes := #[] }, { accessFlags := 25, nameIndex := 290, descriptorIndex := 25, attributes := #[] }, { accessFlags := 25, nameIndex := 292, descriptorIndex := 25, attributes := #[] }, { accessFlags := 26, nameIndex := 108, descriptorIndex := 109, attributes := #[] }, { accessFlags := 25, nameIndex := 294, descriptorIndex := 25, attributes := #[] }])
  fields := #[{ name := "U", type := (.object "jdk/internal/misc/Unsafe"), accessFlags := 24, slot := 0, constantValue := 0 }, { name := "BIG_ENDIAN", type := .boolean, accessFlags := 26, slot := 1, constantValue := 0 }, { name := "LOG2_ARRAY_BOOLEAN_INDEX_SCALE", type := .int, accessFlags := 25, slot := 2, constantValue := 0 }, { name := "LOG2_ARRAY_BYTE_INDEX_SCALE", type := .int, accessFlags := 25, slot := 3, constantValue := 0 }, { name := "LOG2_ARRAY_CHAR_INDEX_SCALE", type := .int, accessFlags := 25, slot := 4, constantValue := 0 }, { name := "LOG2_ARRAY_SHORT_INDEX_SCALE", type := .int, accessFlags := 25, slot := 5, constantValue := 0 }, { name := "LOG2_ARRAY_INT_INDEX_SCALE", type := .int, accessFlags := 25, slot := 6, constantValue := 0 }, { name := "LOG2_ARRAY_LONG_INDEX_SCALE", type := .int, accessFlags := 25, slot := 7, constantValue := 0 }, { name := "LOG2_ARRAY_FLOAT_INDEX_SCALE", type := .int, accessFlags := 25, slot := 8, constantValue := 0 }, { name := "LOG2_ARRAY_DOUBLE_INDEX_SCALE", type := .int, accessFlags := 25, slot := 9, constantValue := 0 }, { name := "LOG2_BYTE_BIT_SIZE", type := .int, accessFlags := 26, slot := 10, constantValue := 0 }, { name := "T_BOOLEAN", type := .int, accessFlags := 25, slot := 11, constantValue := 0 }, { name := "T_CHAR", type := .int, accessFlags := 25, slot := 12, constantValue := 0 }, { name := "T_FLOAT", type := .int, accessFlags := 25, slot := 13, constantValue := 0 }, { name := "T_DOUBLE", type := .int, accessFlags := 25, slot := 14, constantValue := 0 }, { name := "T_BYTE", type := .int, accessFlags := 25, slot := 15, constantValue := 0 }, { name := "T_SHORT", type := .int, accessFlags := 25, slot := 16, constantValue := 0 }, { name := "T_INT", type := .int, accessFlags := 25, slot := 17, constantValue := 0 }, { name := "T_LONG", type := .int, accessFlags := 25, slot := 18, constantValue := 0 }, { name := "JLA", type := (.object "jdk/internal/access/JavaLangAccess"), accessFlags := 26, slot := 19, constantValue := 0 }, { name := "SOFT_MAX_ARRAY_LENGTH", type := .int, accessFlags := 25, slot := 20, constantValue := 0 }]
  methods := #[k15m0]
  instanceTypes := #[]
  staticTypes := #[(.object "jdk/internal/misc/Unsafe"), .boolean, .int, .int, .int, .int, .int, .int, .int, .int, .int, .int, .int, .int, .int, .int, .int, .int, .int, (.object "jdk/internal/access/JavaLangAccess"), .int]
  resolved := Array.replicate 378 none
  statics := none }

def pool16 : Array CpInfo := pool [(1, u "java/lang/Cloneable"), (0, .class_ 1), (0, u "java/lang/Object"), (0, .class_ 3)] 3

/-- java/lang/Cloneable -/
def k16 : Class := { plain "java/lang/Cloneable" (some 0) with
  accessFlags := 1537
  interfaces := #[]
  cf := some (fileOf pool16 2 #[] #[] 1537 4 #[] #[])
  fields := #[]
  methods := #[]
  instanceTypes := #[]
  staticTypes := #[]
  resolved := Array.replicate 8 none
  statics := none }

/-- the primitive byte -/
def k17 : Class := { plain "byte" none with kind := .primitive 'B', accessFlags := 0x411 }
/-- [B -/
def k18 : Class := { plain "[B" (some 0) with kind := .array 17 .byte, interfaces := #[16, 6], accessFlags := 1041 }

/-- the primitive int -/
def k19 : Class := { plain "int" none with kind := .primitive 'I', accessFlags := 0x411 }
/-- [I -/
def k20 : Class := { plain "[I" (some 0) with kind := .array 19 .int, interfaces := #[16, 6], accessFlags := 1041 }

def heap : Heap := #[{ cls := 4, slots := #[.ref 11, .ref 12], vm := .statics 4 },
  { cls := 5, slots := #[.null, .null, .ref 4, .null, .null, .null, .null, .null, .null, .null, .null, .null, .null, .null, .null, .null, .null, .null, .null, .int 0, .null, .null, .null], vm := .statics 5 },
  { cls := 11, slots := #[.long 0, .int 1, .null, .int 0, .null, .int 0, .int 0], vm := .statics 11 },
  { cls := 14, slots := #[.null, .null, .null], vm := .statics 14 },
  { cls := 5, slots := #[.null, .int 0, .null], vm := .none },
  { cls := 13, slots := #[.int 1], vm := .none },
  { cls := 13, slots := #[.int 0], vm := .none },
  { cls := 18, slots := #[.int 116, .int 114, .int 117, .int 101], vm := .none },
  { cls := 18, slots := #[.int 102, .int 97, .int 108, .int 115, .int 101], vm := .none },
  { cls := 11, slots := #[.ref 7, .int 0, .int 0, .int 0], vm := .none },
  { cls := 11, slots := #[.ref 8, .int 0, .int 0, .int 0], vm := .none },
  { cls := 4, slots := #[.ref 4, .ref 5, .ref 9], vm := .none },
  { cls := 4, slots := #[.ref 4, .ref 6, .ref 10], vm := .none }]
def classes : Array Class := #[k0, k1, k2, k3, k4, k5, k6, k7, k8, k9, k10, k11, k12, k13, k14, k15, k16, k17, k18, k19, k20]
def interned : List (Array UInt16 × Addr) := []
def slotsUsed : Nat := 63
def theMethod : MethodId := ⟨1, 1⟩
def args0 : Array Value := #[.int 1]
def aboutOver (below : List Frame) : State where
  vm := { classes := classes, interned := interned.toArray }
  heap := heap
  slotsUsed := slotsUsed
  threads := #[{ frames := .invoking theMethod args0 :: below }]
def below0 : List Frame := [.native { method := ⟨0, 0⟩, args := #[] }]
def about1 : State := aboutOver below0
def p0 : Program := .bare "" "" ""
def e0 : Env := launch0.env 0 0 0
theorem w_frames : about1.frames = Frame.invoking theMethod args0 :: below0 := rfl
set_option maxRecDepth 65536 in
theorem w_args : argsFit about1.vm theMethod args0 = true := by decide +kernel
set_option maxRecDepth 65536 in
theorem w_heap : heapFits about1 = true := by decide +kernel
set_option maxRecDepth 65536 in
theorem w_runnable : about1.curStatus? = some .runnable := by decide +kernel
set_option maxRecDepth 65536 in
theorem w_alone : about1.alone = true := by decide +kernel
set_option maxRecDepth 65536 in
theorem w_named : about1.methodNamed? x = some theMethod := by decide +kernel
set_option maxRecDepth 65536 in
theorem w_hears : about1.hears theMethod below0 = true := by decide +kernel
set_option maxRecDepth 65536 in
theorem w_ripe : about1.ripe theMethod args0 below0 = true := by decide +kernel
theorem w_running : about1.status = .running := rfl
set_option maxRecDepth 65536 in
theorem w_room : about1.hasRoom e0.platform room_1 = true :=
  launch0.hasRoom_least _ room_1 (by decide +kernel) (by decide +kernel) (by decide +kernel) (by decide +kernel) (by decide +kernel) (by decide +kernel)
theorem allAtoms_all (ts : List Jvm.Cond) (a : Array Jvm.Value) (st : Jvm.State) : (allAtoms ts).before a st = ts.all (fun c => c.before a st) := by
  induction ts with
  | nil => rfl
  | cons c t ih =>
    show (Jvm.Cond.and c (allAtoms t)).before a st = _
    rw [Jvm.Cond.before_and, ih, List.all_cons]
def words1 : List Jvm.Cond := Jvm.Cond.code x code maxLocals ret :: tables_1
/-- a 'code' word, met by the world's own term for the bytes: nothing is compared byte by byte -/
theorem code_word {y : MethodName} {bytes : ByteArray} {mx : Nat} {rt : Option FieldType} {a : Array Value} {s : State} {m : MethodId} {meth : Method} {c : Code} (h1 : s.methodNamed? y = some m) (h2 : s.vm.method? m = some meth) (h3 : meth.code = some c) (h4 : c.code = bytes)
    (h5 : (c.maxLocals == mx && c.exceptionTable.isEmpty && decide (c.maxStack ≤ mostOperands) && decide (meth.sig.returnType = rt) && !meth.locks && decide (parseMethodDescriptor y.desc = some meth.sig)) = true) : (Jvm.Cond.code y bytes mx rt).before a s = true := by
  simp only [Bool.and_eq_true, beq_iff_eq, Bool.not_eq_true', decide_eq_true_eq] at h5
  obtain ⟨⟨⟨⟨⟨g1, g2⟩, g3⟩, g4⟩, g5⟩, g6⟩ := h5
  simp [Cond.before, Cond.holds, Cond.value, h1, h2, h3, h4, g1, g2, g3, g4, g5, g6]
def isCode : Jvm.Cond → Bool
  | .code _ _ _ _ => true
  | _ => false
theorem all_split {L : List Jvm.Cond} {P : Jvm.Cond → Bool} (h1 : L.all (fun c => isCode c || P c) = true) (h2 : ∀ c ∈ L.filter isCode, P c = true) : L.all P = true := by
  refine List.all_eq_true.mpr fun c hc => ?_
  have h := List.all_eq_true.mp h1 c hc
  rcases Bool.eq_false_or_eq_true (isCode c) with hi | hi
  · exact h2 c (List.mem_filter.mpr ⟨hc, hi⟩)
  · simpa [hi] using h
set_option maxRecDepth 65536 in
theorem w_c0 : (Jvm.Cond.code x code maxLocals ret).before args0 about1 = true := code_word (m := ⟨1, 1⟩) (meth := k1m1) (c := k1c1) (by decide +kernel) rfl rfl rfl (by decide +kernel)
set_option maxRecDepth 65536 in
theorem w_c1 : (Jvm.Cond.code ({ cls := "com/example/keen_verdict/keenverdict/AttributeValue", name := "of", desc := "(Z)Lcom/example/keen_verdict/keenverdict/AttributeValue;" } : Jvm.MethodName) prog_6_method_2_code (1 : Nat) (Option.some (Jvm.ClassFile.FieldType.object "com/example/keen_verdict/keenverdict/AttributeValue"))).before args0 about1 = true := code_word (m := ⟨4, 0⟩) (meth := k4m0) (c := k4c0) (by decide +kernel) rfl rfl rfl (by decide +kernel)
set_option maxRecDepth 65536 in
theorem w_c2 : (Jvm.Cond.code ({ cls := "com/example/keen_verdict/keenverdict/AttributeValue", name := "dataType", desc := "()Lcom/example/keen_verdict/keenverdict/DataType;" } : Jvm.MethodName) prog_6_method_9_code (1 : Nat) (Option.some (Jvm.ClassFile.FieldType.object "com/example/keen_verdict/keenverdict/DataType"))).before args0 about1 = true := code_word (m := ⟨4, 1⟩) (meth := k4m1) (c := k4c1) (by decide +kernel) rfl rfl rfl (by decide +kernel)
set_option maxRecDepth 65536 in
theorem w_c3 : (Jvm.Cond.code ({ cls := "com/example/keen_verdict/keenverdict/AttributeValue", name := "text", desc := "()Ljava/lang/String;" } : Jvm.MethodName) prog_6_method_11_code (1 : Nat) (Option.some (Jvm.ClassFile.FieldType.object "java/lang/String"))).before args0 about1 = true := code_word (m := ⟨4, 3⟩) (meth := k4m3) (c := k4c3) (by decide +kernel) rfl rfl rfl (by decide +kernel)
set_option maxRecDepth 65536 in
theorem w_c4 : (Jvm.Cond.code ({ cls := "java/lang/String", name := "equals", desc := "(Ljava/lang/Object;)Z" } : Jvm.MethodName) jdk_42_method_66_code (3 : Nat) (Option.some Jvm.ClassFile.FieldType.boolean)).before args0 about1 = true := code_word (m := ⟨11, 1⟩) (meth := k11m1) (c := k11c1) (by decide +kernel) rfl rfl rfl (by decide +kernel)
set_option maxRecDepth 65536 in
theorem w_c5 : (Jvm.Cond.code ({ cls := "java/lang/StringLatin1", name := "equals", desc := "([B[B)Z" } : Jvm.MethodName) jdk_43_method_13_code (3 : Nat) (Option.some Jvm.ClassFile.FieldType.boolean)).before args0 about1 = true := code_word (m := ⟨12, 1⟩) (meth := k12m1) (c := k12c1) (by decide +kernel) rfl rfl rfl (by decide +kernel)
set_option maxRecDepth 65536 in
theorem w_c6 : (Jvm.Cond.code ({ cls := "com/example/keen_verdict/keenverdict/AttributeValue", name := "value", desc := "()Ljava/lang/Object;" } : Jvm.MethodName) prog_6_method_10_code (1 : Nat) (Option.some (Jvm.ClassFile.FieldType.object "java/lang/Object"))).before args0 about1 = true := code_word (m := ⟨4, 2⟩) (meth := k4m2) (c := k4c2) (by decide +kernel) rfl rfl rfl (by decide +kernel)
set_option maxRecDepth 65536 in
theorem w_c7 : (Jvm.Cond.code ({ cls := "java/lang/Boolean", name := "booleanValue", desc := "()Z" } : Jvm.MethodName) jdk_2055_method_4_code (1 : Nat) (Option.some Jvm.ClassFile.FieldType.boolean)).before args0 about1 = true := code_word (m := ⟨13, 0⟩) (meth := k13m0) (c := k13c0) (by decide +kernel) rfl rfl rfl (by decide +kernel)
set_option maxRecDepth 65536 in
theorem w_c8 : (Jvm.Cond.code ({ cls := "com/example/keen_verdict/keenverdict/AttributeValue", name := "equals", desc := "(Ljava/lang/Object;)Z" } : Jvm.MethodName) prog_6_method_15_code (3 : Nat) (Option.some Jvm.ClassFile.FieldType.boolean)).before args0 about1 = true := code_word (m := ⟨4, 4⟩) (meth := k4m4) (c := k4c4) (by decide +kernel) rfl rfl rfl (by decide +kernel)
set_option maxRecDepth 65536 in
theorem w_c9 : (Jvm.Cond.code ({ cls := "java/lang/Object", name := "equals", desc := "(Ljava/lang/Object;)Z" } : Jvm.MethodName) object_method_4_code (2 : Nat) (Option.some Jvm.ClassFile.FieldType.boolean)).before args0 about1 = true := code_word (m := ⟨0, 1⟩) (meth := k0m1) (c := k0c1) (by decide +kernel) rfl rfl rfl (by decide +kernel)
set_option maxRecDepth 65536 in
theorem w_c10 : (Jvm.Cond.code ({ cls := "java/lang/Boolean", name := "equals", desc := "(Ljava/lang/Object;)Z" } : Jvm.MethodName) jdk_2055_method_11_code (2 : Nat) (Option.some Jvm.ClassFile.FieldType.boolean)).before args0 about1 = true := code_word (m := ⟨13, 1⟩) (meth := k13m1) (c := k13c1) (by decide +kernel) rfl rfl rfl (by decide +kernel)
def codes1 : List Jvm.Cond := [Jvm.Cond.code x code maxLocals ret, Jvm.Cond.code ({ cls := "com/example/keen_verdict/keenverdict/AttributeValue", name := "of", desc := "(Z)Lcom/example/keen_verdict/keenverdict/AttributeValue;" } : Jvm.MethodName) prog_6_method_2_code (1 : Nat) (Option.some (Jvm.ClassFile.FieldType.object "com/example/keen_verdict/keenverdict/AttributeValue")), Jvm.Cond.code ({ cls := "com/example/keen_verdict/keenverdict/AttributeValue", name := "dataType", desc := "()Lcom/example/keen_verdict/keenverdict/DataType;" } : Jvm.MethodName) prog_6_method_9_code (1 : Nat) (Option.some (Jvm.ClassFile.FieldType.object "com/example/keen_verdict/keenverdict/DataType")), Jvm.Cond.code ({ cls := "com/example/keen_verdict/keenverdict/AttributeValue", name := "text", desc := "()Ljava/lang/String;" } : Jvm.MethodName) prog_6_method_11_code (1 : Nat) (Option.some (Jvm.ClassFile.FieldType.object "java/lang/String")), Jvm.Cond.code ({ cls := "java/lang/String", name := "equals", desc := "(Ljava/lang/Object;)Z" } : Jvm.MethodName) jdk_42_method_66_code (3 : Nat) (Option.some Jvm.ClassFile.FieldType.boolean), Jvm.Cond.code ({ cls := "java/lang/StringLatin1", name := "equals", desc := "([B[B)Z" } : Jvm.MethodName) jdk_43_method_13_code (3 : Nat) (Option.some Jvm.ClassFile.FieldType.boolean), Jvm.Cond.code ({ cls := "com/example/keen_verdict/keenverdict/AttributeValue", name := "value", desc := "()Ljava/lang/Object;" } : Jvm.MethodName) prog_6_method_10_code (1 : Nat) (Option.some (Jvm.ClassFile.FieldType.object "java/lang/Object")), Jvm.Cond.code ({ cls := "java/lang/Boolean", name := "booleanValue", desc := "()Z" } : Jvm.MethodName) jdk_2055_method_4_code (1 : Nat) (Option.some Jvm.ClassFile.FieldType.boolean), Jvm.Cond.code ({ cls := "com/example/keen_verdict/keenverdict/AttributeValue", name := "equals", desc := "(Ljava/lang/Object;)Z" } : Jvm.MethodName) prog_6_method_15_code (3 : Nat) (Option.some Jvm.ClassFile.FieldType.boolean), Jvm.Cond.code ({ cls := "java/lang/Object", name := "equals", desc := "(Ljava/lang/Object;)Z" } : Jvm.MethodName) object_method_4_code (2 : Nat) (Option.some Jvm.ClassFile.FieldType.boolean), Jvm.Cond.code ({ cls := "java/lang/Boolean", name := "equals", desc := "(Ljava/lang/Object;)Z" } : Jvm.MethodName) jdk_2055_method_11_code (2 : Nat) (Option.some Jvm.ClassFile.FieldType.boolean)]
set_option maxRecDepth 65536 in
theorem codes_eq : words1.filter isCode = codes1 := rfl
theorem w_codes : ∀ c ∈ words1.filter isCode, c.before args0 about1 = true := by
  rw [codes_eq]
  intro c hc
  simp only [codes1, List.mem_cons, List.not_mem_nil, or_false] at hc
  rcases hc with rfl | rfl | rfl | rfl | rfl | rfl | rfl | rfl | rfl | rfl | rfl
  · exact w_c0
  · exact w_c1
  · exact w_c2
  · exact w_c3
  · exact w_c4
  · exact w_c5
  · exact w_c6
  · exact w_c7
  · exact w_c8
  · exact w_c9
  · exact w_c10
set_option maxRecDepth 65536 in
theorem w_t1 : (words1.take 24).all (fun c => isCode c || c.before args0 about1) = true := by decide +kernel
set_option maxRecDepth 65536 in
theorem w_t2 : ((words1.drop 24).take 24).all (fun c => isCode c || c.before args0 about1) = true := by decide +kernel
set_option maxRecDepth 65536 in
theorem w_t3 : (((words1.drop 24).drop 24).take 24).all (fun c => isCode c || c.before args0 about1) = true := by decide +kernel
set_option maxRecDepth 65536 in
theorem w_t4 : (((words1.drop 24).drop 24).drop 24).all (fun c => isCode c || c.before args0 about1) = true := by decide +kernel
theorem w_tables : (allAtoms (Jvm.Cond.code x code maxLocals ret :: tables_1)).before args0 about1 = true := by
  rw [allAtoms_all]
  show words1.all (fun c => c.before args0 about1) = true
  refine all_split ?_ w_codes
  rw [← List.take_append_drop 24 words1, List.all_append, w_t1, ← List.take_append_drop 24 (words1.drop 24), List.all_append, w_t2, ← List.take_append_drop 24 ((words1.drop 24).drop 24), List.all_append, w_t3, w_t4]
  rfl
set_option maxRecDepth 65536 in
theorem w_rest : rest_1_c.before args0 about1 = true := by decide +kernel
set_option maxRecDepth 65536 in
theorem w_case : (Jvm.Cond.and given_1 narrow_1).before args0 about1 = true := by decide +kernel
set_option maxRecDepth 65536 in
theorem w_consts : constsHeld consts_1 about1 := Jvm.Lit.constsHeldB_iff.mp (by decide +kernel)
theorem w_applies : (headSpec (Jvm.Cond.code x code maxLocals ret :: tables_1) room_1).applies x e0.platform about1 = true :=
  (Spec.applies_iff w_frames).mpr ⟨w_running, w_runnable, w_alone, w_named, w_hears, w_ripe, w_room, w_tables⟩
theorem atStart : AtStart classFile x code maxLocals ret World_1 tables_1 room_1 Calls_1 rest_1 Pre_1 launch0 p0 e0 about1 theMethod args0 below0 :=
  ⟨lists_1, trivial, launch0.admits_env _ _ _, launch0.least_env, fairChoices_fair.cas, fairChoices_fair.clock, w_frames, w_args, w_heap, w_applies, ⟨w_consts, trivial⟩, w_rest, w_case⟩
end start1
theorem witness_1 : WitnessClaimed_1 := ⟨start1.p0, start1.e0, start1.about1, start1.theMethod, start1.args0, start1.below0, start1.atStart⟩
end Jvm.Pilot.@@N@@
