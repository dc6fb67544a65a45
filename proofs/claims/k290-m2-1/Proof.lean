import JvmDerived
import JvmDerived.Pilot.@@N@@Statement
import JvmDerived.Pilot.@@N@@Code
set_option linter.unusedVariables false
set_option linter.unusedSimpArgs false
namespace Jvm.RoadKit
open Sem ClassFile Op Lib Jvm.Stand Jvm.Free Jvm.LawKit
section New
variable {p : Program} {l : Launch} {e : Env} {R : Room} {s : State} {m : MethodId} {args : Array Value} {below : List Frame} {meth : Method} {c : Code} {T : State} {locs : List Loc} {cells slots : Nat}
theorem retI (X : Stand p l e R s m args below meth c T locs cells slots) (hx : p.tables.exec = Jvm.exec) {pc : Nat} {Ls : Array Slot} {z : Int32} {rest : List Value} (hret : meth.sig.returnType = some .int) (hd : decode c.code pc = .ok (.ireturn, 1)) {fs : List Frame}
    (hl : ∀ (f : JFrame) (acts : List Action), f.method = m → f.locked = none → f.entered = [] → (doReturn e (T.setTop f) acts (some (.int z))).1 = T.setFrames fs) : Steps p.tables e below (T.setTop (mkF m pc Ls (.int z :: rest))) (T.setFrames fs) := by
  have hm' : T.vm.method? m = some meth := X.method'
  have hn : narrow .int (.int z) = .int z := rfl
  show Steps p.tables e below (T.setTop { method := m, pc := pc, locals := Ls, stack := _ :: rest, locked := none }) _
  jvm_step X.here [X.here.top, hx, hd, hm', hret, hn]
  first | (intro acts; rw [hl _ acts rfl rfl rfl]) | rw [hl _ _ rfl rfl rfl]
  exact Steps.refl _
end New
end Jvm.RoadKit
namespace Jvm.Pilot.@@N@@
open Jvm Jvm.ClassFile Sem Op Lib Jvm.Free Jvm.Stand Jvm.LawKit Jvm.RoadKit Bundle Jvm.Pilot.@@N@@.Jvm.D
theorem own_lclt {x y : Int64} (h : x < y) : lcmpW x y < 0 := by rw [lcW]; exact (lc_lt x y).2 h
theorem own_lcge {x y : Int64} (h : ¬ x < y) : ¬ (lcmpW x y < 0) := by rw [lcW]; exact fun k => h ((lc_lt x y).1 k)
theorem own_lcgt {x y : Int64} (h : y < x) : 0 < lcmpW x y := by rw [lcW]; exact (lc_gt x y).2 h
theorem own_lcle {x y : Int64} (h : ¬ y < x) : ¬ (0 < lcmpW x y) := by rw [lcW]; exact fun k => h ((lc_gt x y).1 k)
theorem own_lceq {x y : Int64} (h : x = y) : lcmpW x y = 0 := by rw [lcW]; exact (lc_eq x y).2 h
theorem own_lcne {x y : Int64} (h : ¬ (x = y)) : ¬ (lcmpW x y = 0) := by rw [lcW]; exact fun k => h ((lc_eq x y).1 k)
theorem d1_0 : decode prog_42_method_6_code 0 = .ok (.aload_n 0, 1) := by decide +kernel
theorem d1_1 : decode prog_42_method_6_code 1 = .ok (.getstatic 3, 3) := by decide +kernel
theorem d1_4 : decode prog_42_method_6_code 4 = .ok (.if_acmp .ne 9, 3) := by decide +kernel
theorem d1_7 : decode prog_42_method_6_code 7 = .ok (.getstatic 7, 3) := by decide +kernel
theorem d1_10 : decode prog_42_method_6_code 10 = .ok (.goto 6, 3) := by decide +kernel
theorem d1_16 : decode prog_42_method_6_code 16 = .ok (.areturn, 1) := by decide +kernel
def Q_rm1a (Z : State) (a1 : Addr) (wP wD : Addr) (h0 : Heap) (n0 : Nat) (v : Option Value) (h : Heap) (L : List Loc) : Prop := v = some (.ref wD) ∧ Fr n0 L ∧ h = h0
theorem pn_com_example_keen_verdict_keenverdict_Effect : plainName "com/example/keen_verdict/keenverdict/Effect" = true := by first | (simp [plainName, overriddenIn]; done) | decide +kernel
set_option maxRecDepth 65536 in
set_option maxHeartbeats 40000000 in
theorem rm1a (l : Launch) (Z : State) (a0 : Array Value) (hw : ∀ d ∈ tables_1, d.before a0 Z = true) (ws : List Jvm.Cond) (a1 : Addr) (wP wD : Addr) (h0 : Heap) (n0 : Nat) (Z0 : n0 ≤ h0.size) (SP : Sta Z h0 "com/example/keen_verdict/keenverdict/Effect" "PERMIT" "Lcom/example/keen_verdict/keenverdict/Effect;" (.ref wP)) (SD : Sta Z h0 "com/example/keen_verdict/keenverdict/Effect" "DENY" "Lcom/example/keen_verdict/keenverdict/Effect;" (.ref wD)) (hs : a1 = wP) :
    MetFree l (⟨"com/example/keen_verdict/keenverdict/Effect", "opposite", "()Lcom/example/keen_verdict/keenverdict/Effect;"⟩ : MethodName) (head1 (Jvm.Cond.code (⟨"com/example/keen_verdict/keenverdict/Effect", "opposite", "()Lcom/example/keen_verdict/keenverdict/Effect;"⟩ : MethodName) prog_42_method_6_code 1 (some (.object "com/example/keen_verdict/keenverdict/Effect")) :: ws) ({ frames := 0, cells := 0, slots := 0, locals := 0 } : Room)) (fun a U => a = #[(.ref a1)] ∧ Z.Warmed39 U.vm ∧ U.heap = h0) (fun _ _ _ _ _ => True) (fun _ U o U' => ∃ v L, o = .returned v ∧ Q_rm1a Z a1 wP wD h0 n0 v U'.heap L ∧ FrameEnd U o U' L ({ frames := 0, cells := 0, slots := 0, locals := 0 } : Room).cells ({ frames := 0, cells := 0, slots := 0, locals := 0 } : Room).slots) := by
  refine MetFree.of_bodySF (plainFor_of_name pn_com_example_keen_verdict_keenverdict_Effect) hisR ?_
  intro p e s m args below meth c s₁ Bd hml0 hP hK
  obtain ⟨rfl, hZ, hh⟩ := hP
  have hx := Bd.exec
  have hby := Bd.bytes
  have hml : c.maxLocals = 1 := hml0
  have hown : s.vm.findClass "com/example/keen_verdict/keenverdict/Effect" = some m.cls := findClass_of_methodNamed Bd.named
  have hnm := (name_of_methodNamed Bd.named Bd.method).1
  have X0 : Stand p l e ({ frames := 0, cells := 0, slots := 0, locals := 0 } : Room) s m #[(.ref a1)] below meth c s₁ [] 0 0 := Stand.of_body Bd
  have e0 : s₁.heap = h0 := by rw [← hh, Bd.state]; rfl
  have N0 := Fr.nil n0
  have go0 : Goes p e below s₁ (entryFrame m #[(.ref a1)] 1) s₁ (mkF m 0 #[.val (.ref a1)] []) := fun t k => castTop (by first | (simp [entryFrame, mkF, argsToLocals, Value.category]; done) | rfl) k
  have go1 : Goes p e below s₁ (entryFrame m #[(.ref a1)] 1) s₁ (mkF m 1 #[.val (.ref a1)] [(.ref a1)]) := fun t k => go0 t (by
    show Steps p.tables e below (s₁.setTop (mkF m 0 #[.val (.ref a1)] [])) _
    refine XS.aloadN X0.here hx rfl (hb hby d1_0) rfl rfl ?_
    exact k)
  obtain ⟨T2, X2, e2, st2⟩ := getS2 X0 hx hZ hown (host := "") (Or.inl (hw _ (List.mem_of_getElem? (i := 10) rfl))) Via.refl e0 SP (g := (mkF m 1 #[.val (.ref a1)] [(.ref a1)])) rfl (hb hby d1_1)
  have go2 : Goes p e below s₁ (entryFrame m #[(.ref a1)] 1) T2 (mkF m 4 #[.val (.ref a1)] [(.ref wP), (.ref a1)]) := fun t k => go1 t (st2 _ k)
  have go3 : Goes p e below s₁ (entryFrame m #[(.ref a1)] 1) T2 (mkF m 7 #[.val (.ref a1)] []) := fun t k => go2 t (by
    show Steps p.tables e below (T2.setTop (mkF m 4 #[.val (.ref a1)] [(.ref wP), (.ref a1)])) _
    refine Jvm.RoadKit.acmp (g := (mkF m 4 #[.val (.ref a1)] [(.ref wP), (.ref a1)])) X2 hx rfl rfl rfl (pc0 := 4) (pc' := 7) (same := true) rfl (hb hby d1_4) rfl (decide_eq_true (congrArg Value.ref hs)) (by decide) (by decide) ?_
    exact k)
  obtain ⟨T4, X4, e4, st4⟩ := getS2 X2 hx hZ hown (host := "") (Or.inl (hw _ (List.mem_of_getElem? (i := 11) rfl))) Via.refl e2 SD (g := (mkF m 7 #[.val (.ref a1)] [])) rfl (hb hby d1_7)
  have go4 : Goes p e below s₁ (entryFrame m #[(.ref a1)] 1) T4 (mkF m 10 #[.val (.ref a1)] [(.ref wD)]) := fun t k => go3 t (st4 _ k)
  have go5 : Goes p e below s₁ (entryFrame m #[(.ref a1)] 1) T4 (mkF m 16 #[.val (.ref a1)] [(.ref wD)]) := fun t k => go4 t (by
    show Steps p.tables e below (T4.setTop (mkF m 10 #[.val (.ref a1)] [(.ref wD)])) _
    refine XS.goto X4.here hx rfl (pc0 := 10) (pc' := 16) rfl (hb hby d1_10) (by decide) (by decide) ?_
    exact k)
  obtain ⟨fs, hr, hrun, hended, hW, hsame⟩ := X4.leave (v := some (.ref wD)) (fun h => by rw [Bd.returns] at h; cases h)
  refine ⟨_, _, go5 _ ?_, hrun, hended, _, _, rfl, ?_, ⟨_, rfl⟩, hW, hsame.mono (by decide) (by decide)⟩
  · jvm_step X4.here [X4.here.top, hx, (hb hby d1_16), X4.method', Bd.returns, Value.isRef, FieldType.isReference]
    first | (intro acts; rw [hr _ acts rfl rfl rfl]) | rw [hr _ _ rfl rfl rfl]
    exact Steps.refl _
  · show Q_rm1a Z a1 wP wD h0 n0 _ T4.heap _
    rw [e4]
    exact ⟨rfl, N0, rfl⟩
theorem d1_13 : decode prog_42_method_6_code 13 = .ok (.getstatic 3, 3) := by decide +kernel
def Q_rm1b (Z : State) (a1 : Addr) (wP wD : Addr) (h0 : Heap) (n0 : Nat) (v : Option Value) (h : Heap) (L : List Loc) : Prop := v = some (.ref wP) ∧ Fr n0 L ∧ h = h0
set_option maxRecDepth 65536 in
set_option maxHeartbeats 40000000 in
theorem rm1b (l : Launch) (Z : State) (a0 : Array Value) (hw : ∀ d ∈ tables_1, d.before a0 Z = true) (ws : List Jvm.Cond) (a1 : Addr) (wP wD : Addr) (h0 : Heap) (n0 : Nat) (Z0 : n0 ≤ h0.size) (SP : Sta Z h0 "com/example/keen_verdict/keenverdict/Effect" "PERMIT" "Lcom/example/keen_verdict/keenverdict/Effect;" (.ref wP)) (SD : Sta Z h0 "com/example/keen_verdict/keenverdict/Effect" "DENY" "Lcom/example/keen_verdict/keenverdict/Effect;" (.ref wD)) (hs : ¬ (a1 = wP)) :
    MetFree l (⟨"com/example/keen_verdict/keenverdict/Effect", "opposite", "()Lcom/example/keen_verdict/keenverdict/Effect;"⟩ : MethodName) (head1 (Jvm.Cond.code (⟨"com/example/keen_verdict/keenverdict/Effect", "opposite", "()Lcom/example/keen_verdict/keenverdict/Effect;"⟩ : MethodName) prog_42_method_6_code 1 (some (.object "com/example/keen_verdict/keenverdict/Effect")) :: ws) ({ frames := 0, cells := 0, slots := 0, locals := 0 } : Room)) (fun a U => a = #[(.ref a1)] ∧ Z.Warmed39 U.vm ∧ U.heap = h0) (fun _ _ _ _ _ => True) (fun _ U o U' => ∃ v L, o = .returned v ∧ Q_rm1b Z a1 wP wD h0 n0 v U'.heap L ∧ FrameEnd U o U' L ({ frames := 0, cells := 0, slots := 0, locals := 0 } : Room).cells ({ frames := 0, cells := 0, slots := 0, locals := 0 } : Room).slots) := by
  refine MetFree.of_bodySF (plainFor_of_name pn_com_example_keen_verdict_keenverdict_Effect) hisR ?_
  intro p e s m args below meth c s₁ Bd hml0 hP hK
  obtain ⟨rfl, hZ, hh⟩ := hP
  have hx := Bd.exec
  have hby := Bd.bytes
  have hml : c.maxLocals = 1 := hml0
  have hown : s.vm.findClass "com/example/keen_verdict/keenverdict/Effect" = some m.cls := findClass_of_methodNamed Bd.named
  have hnm := (name_of_methodNamed Bd.named Bd.method).1
  have X0 : Stand p l e ({ frames := 0, cells := 0, slots := 0, locals := 0 } : Room) s m #[(.ref a1)] below meth c s₁ [] 0 0 := Stand.of_body Bd
  have e0 : s₁.heap = h0 := by rw [← hh, Bd.state]; rfl
  have N0 := Fr.nil n0
  have go0 : Goes p e below s₁ (entryFrame m #[(.ref a1)] 1) s₁ (mkF m 0 #[.val (.ref a1)] []) := fun t k => castTop (by first | (simp [entryFrame, mkF, argsToLocals, Value.category]; done) | rfl) k
  have go6 : Goes p e below s₁ (entryFrame m #[(.ref a1)] 1) s₁ (mkF m 1 #[.val (.ref a1)] [(.ref a1)]) := fun t k => go0 t (by
    show Steps p.tables e below (s₁.setTop (mkF m 0 #[.val (.ref a1)] [])) _
    refine XS.aloadN X0.here hx rfl (hb hby d1_0) rfl rfl ?_
    exact k)
  obtain ⟨T7, X7, e7, st7⟩ := getS2 X0 hx hZ hown (host := "") (Or.inl (hw _ (List.mem_of_getElem? (i := 10) rfl))) Via.refl e0 SP (g := (mkF m 1 #[.val (.ref a1)] [(.ref a1)])) rfl (hb hby d1_1)
  have go7 : Goes p e below s₁ (entryFrame m #[(.ref a1)] 1) T7 (mkF m 4 #[.val (.ref a1)] [(.ref wP), (.ref a1)]) := fun t k => go6 t (st7 _ k)
  have go8 : Goes p e below s₁ (entryFrame m #[(.ref a1)] 1) T7 (mkF m 13 #[.val (.ref a1)] []) := fun t k => go7 t (by
    show Steps p.tables e below (T7.setTop (mkF m 4 #[.val (.ref a1)] [(.ref wP), (.ref a1)])) _
    refine Jvm.RoadKit.acmp (g := (mkF m 4 #[.val (.ref a1)] [(.ref wP), (.ref a1)])) X7 hx rfl rfl rfl (pc0 := 4) (pc' := 13) (same := false) rfl (hb hby d1_4) rfl (decide_eq_false fun q => hs (Value.ref.inj q)) (by decide) (by decide) ?_
    exact k)
  obtain ⟨T9, X9, e9, st9⟩ := getS2 X7 hx hZ hown (host := "") (Or.inl (hw _ (List.mem_of_getElem? (i := 10) rfl))) Via.refl e7 SP (g := (mkF m 13 #[.val (.ref a1)] [])) rfl (hb hby d1_13)
  have go9 : Goes p e below s₁ (entryFrame m #[(.ref a1)] 1) T9 (mkF m 16 #[.val (.ref a1)] [(.ref wP)]) := fun t k => go8 t (st9 _ k)
  obtain ⟨fs, hr, hrun, hended, hW, hsame⟩ := X9.leave (v := some (.ref wP)) (fun h => by rw [Bd.returns] at h; cases h)
  refine ⟨_, _, go9 _ ?_, hrun, hended, _, _, rfl, ?_, ⟨_, rfl⟩, hW, hsame.mono (by decide) (by decide)⟩
  · jvm_step X9.here [X9.here.top, hx, (hb hby d1_16), X9.method', Bd.returns, Value.isRef, FieldType.isReference]
    first | (intro acts; rw [hr _ acts rfl rfl rfl]) | rw [hr _ _ rfl rfl rfl]
    exact Steps.refl _
  · show Q_rm1b Z a1 wP wD h0 n0 _ T9.heap _
    rw [e9]
    exact ⟨rfl, N0, rfl⟩
theorem pd_0 : parseMethodDescriptor "()Lcom/example/keen_verdict/keenverdict/Effect;" = some ⟨[], some (.object "com/example/keen_verdict/keenverdict/Effect")⟩ := by decide +kernel
def Q_rm0 (Z : State) (p1 : Int32) (wP wD : Addr) (h0 : Heap) (n0 : Nat) (v : Option Value) (h : Heap) (L : List Loc) : Prop := v = some (.int (1 : Int32)) ∧ Fr n0 L
theorem pn_com_example_keen_verdict_keenverdict_EffectOppositePinLaw : plainName "com/example/keen_verdict/keenverdict/EffectOppositePinLaw" = true := by first | (simp [plainName, overriddenIn]; done) | decide +kernel
set_option maxRecDepth 65536 in
set_option maxHeartbeats 40000000 in
theorem rm0 (l : Launch) (Z : State) (a0 : Array Value) (hw : ∀ d ∈ tables_1, d.before a0 Z = true) (ws : List Jvm.Cond) (p1 : Int32) (wP wD : Addr) (h0 : Heap) (n0 : Nat) (Z0 : n0 ≤ h0.size) (SP : Sta Z h0 "com/example/keen_verdict/keenverdict/Effect" "PERMIT" "Lcom/example/keen_verdict/keenverdict/Effect;" (.ref wP)) (SD : Sta Z h0 "com/example/keen_verdict/keenverdict/Effect" "DENY" "Lcom/example/keen_verdict/keenverdict/Effect;" (.ref wD)) (EP : Exa Z h0 wP "com/example/keen_verdict/keenverdict/Effect") (ED : Exa Z h0 wD "com/example/keen_verdict/keenverdict/Effect") (hne : ¬ (wD = wP)) :
    MetFree l x (head1 (Jvm.Cond.code x code maxLocals ret :: ws) room_1) (fun a U => a = #[(.int p1)] ∧ Z.Warmed39 U.vm ∧ U.heap = h0) (fun _ _ _ _ _ => True) (fun _ U o U' => ∃ v L, o = .returned v ∧ Q_rm0 Z p1 wP wD h0 n0 v U'.heap L ∧ FrameEnd U o U' L room_1.cells room_1.slots) := by
  refine MetFree.of_bodySF (plainFor_of_name pn_com_example_keen_verdict_keenverdict_EffectOppositePinLaw) hisR ?_
  intro p e s m args below meth c s₁ Bd hml0 hP hK
  obtain ⟨rfl, hZ, hh⟩ := hP
  have hx := Bd.exec
  have hby := Bd.bytes
  have hml : c.maxLocals = 6 := hml0
  have hown : s.vm.findClass "com/example/keen_verdict/keenverdict/EffectOppositePinLaw" = some m.cls := findClass_of_methodNamed Bd.named
  have hnm := (name_of_methodNamed Bd.named Bd.method).1
  have X0 : Stand p l e room_1 s m #[(.int p1)] below meth c s₁ [] 0 0 := Stand.of_body Bd
  have e0 : s₁.heap = h0 := by rw [← hh, Bd.state]; rfl
  have N0 := Fr.nil n0
  have go0 : Goes p e below s₁ (entryFrame m #[(.int p1)] maxLocals) s₁ (mkF m 0 #[.val (.int p1), .unset, .unset, .unset, .unset, .unset] []) := fun t k => castTop (by first | (simp [entryFrame, mkF, argsToLocals, Value.category, maxLocals]; done) | rfl) k
  have go10 : Goes p e below s₁ (entryFrame m #[(.int p1)] maxLocals) s₁ (mkF m 3 #[.val (.int p1), .unset, .unset, .unset, .unset, .unset] [(.int (p1 &&& (1 : Int32)))]) := fun t k => go0 t (by
    show Steps p.tables e below (s₁.setTop (mkF m 0 #[.val (.int p1), .unset, .unset, .unset, .unset, .unset] [])) _
    refine XS.iloadN X0.here hx rfl (hb hby at_0) rfl ?_
    show Steps p.tables e below (s₁.setTop (mkF m 1 #[.val (.int p1), .unset, .unset, .unset, .unset, .unset] [(.int p1)])) _
    refine XS.iconst X0.here hx rfl (hb hby at_1) ?_
    show Steps p.tables e below (s₁.setTop (mkF m 2 #[.val (.int p1), .unset, .unset, .unset, .unset, .unset] [(.int (1 : Int32)), (.int p1)])) _
    refine XS.iand X0.here hx rfl (hb hby at_2) rfl ?_
    exact k)
  by_cases hp : (p1 &&& (1 : Int32)) = (0 : Int32)
  · have go25 : Goes p e below s₁ (entryFrame m #[(.int p1)] maxLocals) s₁ (mkF m 13 #[.val (.int p1), .val (.int (1 : Int32)), .unset, .unset, .unset, .unset] [(.int (1 : Int32))]) := fun t k => go10 t (by
      show Steps p.tables e below (s₁.setTop (mkF m 3 #[.val (.int p1), .unset, .unset, .unset, .unset, .unset] [(.int (p1 &&& (1 : Int32)))])) _
      refine XS.ifNo X0.here hx rfl (hb hby at_3) rfl ((if0 _ _).trans (teq hp).2) ?_
      show Steps p.tables e below (s₁.setTop (mkF m 6 #[.val (.int p1), .unset, .unset, .unset, .unset, .unset] [])) _
      refine XS.iconst X0.here hx rfl (hb hby at_6) ?_
      show Steps p.tables e below (s₁.setTop (mkF m 7 #[.val (.int p1), .unset, .unset, .unset, .unset, .unset] [(.int (1 : Int32))])) _
      refine XS.goto X0.here hx rfl (pc0 := 7) (pc' := 11) rfl (hb hby at_7) (by decide) (by decide) ?_
      show Steps p.tables e below (s₁.setTop (mkF m 11 #[.val (.int p1), .unset, .unset, .unset, .unset, .unset] [(.int (1 : Int32))])) _
      refine XS.istoreN X0.here hx rfl (hb hby at_11) rfl (l' := #[.val (.int p1), .val (.int (1 : Int32)), .unset, .unset, .unset, .unset]) rfl ?_
      show Steps p.tables e below (s₁.setTop (mkF m 12 #[.val (.int p1), .val (.int (1 : Int32)), .unset, .unset, .unset, .unset] [])) _
      refine XS.iloadN X0.here hx rfl (hb hby at_12) rfl ?_
      exact k)
    have go26 : Goes p e below s₁ (entryFrame m #[(.int p1)] maxLocals) s₁ (mkF m 16 #[.val (.int p1), .val (.int (1 : Int32)), .unset, .unset, .unset, .unset] []) := fun t k => go25 t (by
      show Steps p.tables e below (s₁.setTop (mkF m 13 #[.val (.int p1), .val (.int (1 : Int32)), .unset, .unset, .unset, .unset] [(.int (1 : Int32))])) _
      refine XS.ifNo X0.here hx rfl (hb hby at_13) rfl ((if0 _ _).trans (feq (by decide)).1) ?_
      exact k)
    obtain ⟨T27, X27, e27, st27⟩ := getS2 X0 hx hZ hown (host := "") (Or.inl (hw _ (List.mem_of_getElem? (i := 0) rfl))) Via.refl e0 SP (g := (mkF m 16 #[.val (.int p1), .val (.int (1 : Int32)), .unset, .unset, .unset, .unset] [])) rfl (hb hby at_16)
    have go27 : Goes p e below s₁ (entryFrame m #[(.int p1)] maxLocals) T27 (mkF m 19 #[.val (.int p1), .val (.int (1 : Int32)), .unset, .unset, .unset, .unset] [(.ref wP)]) := fun t k => go26 t (st27 _ k)
    have go28 : Goes p e below s₁ (entryFrame m #[(.int p1)] maxLocals) T27 (mkF m 27 #[.val (.int p1), .val (.int (1 : Int32)), .val (.ref wP), .unset, .unset, .unset] [(.int (1 : Int32))]) := fun t k => go27 t (by
      show Steps p.tables e below (T27.setTop (mkF m 19 #[.val (.int p1), .val (.int (1 : Int32)), .unset, .unset, .unset, .unset] [(.ref wP)])) _
      refine XS.goto X27.here hx rfl (pc0 := 19) (pc' := 25) rfl (hb hby at_19) (by decide) (by decide) ?_
      show Steps p.tables e below (T27.setTop (mkF m 25 #[.val (.int p1), .val (.int (1 : Int32)), .unset, .unset, .unset, .unset] [(.ref wP)])) _
      refine XS.astoreN X27.here hx rfl (hb hby at_25) rfl rfl (l' := #[.val (.int p1), .val (.int (1 : Int32)), .val (.ref wP), .unset, .unset, .unset]) rfl ?_
      show Steps p.tables e below (T27.setTop (mkF m 26 #[.val (.int p1), .val (.int (1 : Int32)), .val (.ref wP), .unset, .unset, .unset] [])) _
      refine XS.iloadN X27.here hx rfl (hb hby at_26) rfl ?_
      exact k)
    have go29 : Goes p e below s₁ (entryFrame m #[(.int p1)] maxLocals) T27 (mkF m 30 #[.val (.int p1), .val (.int (1 : Int32)), .val (.ref wP), .unset, .unset, .unset] []) := fun t k => go28 t (by
      show Steps p.tables e below (T27.setTop (mkF m 27 #[.val (.int p1), .val (.int (1 : Int32)), .val (.ref wP), .unset, .unset, .unset] [(.int (1 : Int32))])) _
      refine XS.ifNo X27.here hx rfl (hb hby at_27) rfl ((if0 _ _).trans (feq (by decide)).1) ?_
      exact k)
    obtain ⟨T30, X30, e30, st30⟩ := getS2 X27 hx hZ hown (host := "") (Or.inl (hw _ (List.mem_of_getElem? (i := 3) rfl))) Via.refl e27 SD (g := (mkF m 30 #[.val (.int p1), .val (.int (1 : Int32)), .val (.ref wP), .unset, .unset, .unset] [])) rfl (hb hby at_30)
    have go30 : Goes p e below s₁ (entryFrame m #[(.int p1)] maxLocals) T30 (mkF m 33 #[.val (.int p1), .val (.int (1 : Int32)), .val (.ref wP), .unset, .unset, .unset] [(.ref wD)]) := fun t k => go29 t (st30 _ k)
    have go31 : Goes p e below s₁ (entryFrame m #[(.int p1)] maxLocals) T30 (mkF m 41 #[.val (.int p1), .val (.int (1 : Int32)), .val (.ref wP), .val (.ref wD), .unset, .unset] [(.ref wP)]) := fun t k => go30 t (by
      show Steps p.tables e below (T30.setTop (mkF m 33 #[.val (.int p1), .val (.int (1 : Int32)), .val (.ref wP), .unset, .unset, .unset] [(.ref wD)])) _
      refine XS.goto X30.here hx rfl (pc0 := 33) (pc' := 39) rfl (hb hby at_33) (by decide) (by decide) ?_
      show Steps p.tables e below (T30.setTop (mkF m 39 #[.val (.int p1), .val (.int (1 : Int32)), .val (.ref wP), .unset, .unset, .unset] [(.ref wD)])) _
      refine XS.astoreN X30.here hx rfl (hb hby at_39) rfl rfl (l' := #[.val (.int p1), .val (.int (1 : Int32)), .val (.ref wP), .val (.ref wD), .unset, .unset]) rfl ?_
      show Steps p.tables e below (T30.setTop (mkF m 40 #[.val (.int p1), .val (.int (1 : Int32)), .val (.ref wP), .val (.ref wD), .unset, .unset] [])) _
      refine XS.aloadN X30.here hx rfl (hb hby at_40) rfl rfl ?_
      exact k)
    obtain ⟨cq32, kq32, q32a, q32b, q32c⟩ := isOf hZ e30 EP
    obtain ⟨_, _, ⟨T32, L32, k32, n32⟩, -, X32, ⟨Lc32, hQ32, l32, y32, z32⟩, st32⟩ := X30.virtualBack hx (y := (⟨"com/example/keen_verdict/keenverdict/Effect", "opposite", "()Lcom/example/keen_verdict/keenverdict/Effect;"⟩ : MethodName)) (z := (⟨"com/example/keen_verdict/keenverdict/Effect", "opposite", "()Lcom/example/keen_verdict/keenverdict/Effect;"⟩ : MethodName)) hown (mvT hZ (hw _ (List.mem_of_getElem? (i := 5) rfl))) (mvT hZ (hw _ (List.mem_of_getElem? (i := 6) rfl))) (notFace_of_selects (args := #[]) (mvT hZ (hw _ (List.mem_of_getElem? (i := 8) rfl)))) (mvT hZ (hw _ (List.mem_of_getElem? (i := 8) rfl))) (mvT hZ (hw _ (List.mem_of_getElem? (i := 7) rfl))) (by decide) (backOf (W := 0) (rm1a l Z a0 hw [] wP wP wD h0 n0 Z0 SP SD rfl) hZ (hw _ (List.mem_of_getElem? (i := 9) rfl)) (hw _ (List.mem_of_getElem? (i := 1) rfl)) (by decide) (by decide)) q32a q32c (g := (mkF m 41 #[.val (.int p1), .val (.int (1 : Int32)), .val (.ref wP), .val (.ref wD), .unset, .unset] [(.ref wP)])) rfl (by rw [hml]; rfl) (Steps.refl _) (argsL := []) (rest := []) (lenOf pd_0 rfl) rfl (by show 2 * 0 + _ ≤ _; exact Nat.le_of_eq rfl) (hb hby at_41) (fun _ _ => ⟨rfl, e30, (by decide : 0 + 0 ≤ _), (by decide : 0 + 0 ≤ _)⟩)
    dsimp only [Pt.U, Pt.locs, Pt.cells, Pt.slots] at X32 l32 y32 z32 st32 hQ32
    subst l32 y32 z32
    obtain ⟨rfl, Nq32, eq32⟩ := hQ32
    have N32 := Fr.app N0 Nq32
    have go32 : Goes p e below s₁ (entryFrame m #[(.int p1)] maxLocals) T32 (mkF m 44 #[.val (.int p1), .val (.int (1 : Int32)), .val (.ref wP), .val (.ref wD), .unset, .unset] [(.ref wD)]) := fun t k => go31 t (st32.trans k)
    have go33 : Goes p e below s₁ (entryFrame m #[(.int p1)] maxLocals) T32 (mkF m 48 #[.val (.int p1), .val (.int (1 : Int32)), .val (.ref wP), .val (.ref wD), .val (.ref wD), .unset] [(.ref wD)]) := fun t k => go32 t (by
      show Steps p.tables e below (T32.setTop (mkF m 44 #[.val (.int p1), .val (.int (1 : Int32)), .val (.ref wP), .val (.ref wD), .unset, .unset] [(.ref wD)])) _
      refine XS.astore X32.here hx rfl (hb hby at_44) rfl rfl (l' := #[.val (.int p1), .val (.int (1 : Int32)), .val (.ref wP), .val (.ref wD), .val (.ref wD), .unset]) rfl ?_
      show Steps p.tables e below (T32.setTop (mkF m 46 #[.val (.int p1), .val (.int (1 : Int32)), .val (.ref wP), .val (.ref wD), .val (.ref wD), .unset] [])) _
      refine XS.aload X32.here hx rfl (hb hby at_46) rfl rfl ?_
      exact k)
    obtain ⟨cq34, kq34, q34a, q34b, q34c⟩ := isOf hZ eq32 ED
    obtain ⟨_, _, ⟨T34, L34, k34, n34⟩, -, X34, ⟨Lc34, hQ34, l34, y34, z34⟩, st34⟩ := X32.virtualBack hx (y := (⟨"com/example/keen_verdict/keenverdict/Effect", "opposite", "()Lcom/example/keen_verdict/keenverdict/Effect;"⟩ : MethodName)) (z := (⟨"com/example/keen_verdict/keenverdict/Effect", "opposite", "()Lcom/example/keen_verdict/keenverdict/Effect;"⟩ : MethodName)) hown (mvT hZ (hw _ (List.mem_of_getElem? (i := 5) rfl))) (mvT hZ (hw _ (List.mem_of_getElem? (i := 6) rfl))) (notFace_of_selects (args := #[]) (mvT hZ (hw _ (List.mem_of_getElem? (i := 8) rfl)))) (mvT hZ (hw _ (List.mem_of_getElem? (i := 8) rfl))) (mvT hZ (hw _ (List.mem_of_getElem? (i := 7) rfl))) (by decide) (backOf (W := 0) (rm1b l Z a0 hw [] wD wP wD h0 n0 Z0 SP SD hne) hZ (hw _ (List.mem_of_getElem? (i := 9) rfl)) (hw _ (List.mem_of_getElem? (i := 1) rfl)) (by decide) (by decide)) q34a q34c (g := (mkF m 48 #[.val (.int p1), .val (.int (1 : Int32)), .val (.ref wP), .val (.ref wD), .val (.ref wD), .unset] [(.ref wD)])) rfl (by rw [hml]; rfl) (Steps.refl _) (argsL := []) (rest := []) (lenOf pd_0 rfl) rfl (by show 2 * 0 + _ ≤ _; exact Nat.le_of_eq rfl) (hb hby at_48) (fun _ _ => ⟨rfl, eq32, (by decide : 0 + 0 ≤ _), (by decide : 0 + 0 ≤ _)⟩)
    dsimp only [Pt.U, Pt.locs, Pt.cells, Pt.slots] at X34 l34 y34 z34 st34 hQ34
    subst l34 y34 z34
    obtain ⟨rfl, Nq34, eq34⟩ := hQ34
    have N34 := Fr.app N32 Nq34
    have go34 : Goes p e below s₁ (entryFrame m #[(.int p1)] maxLocals) T34 (mkF m 51 #[.val (.int p1), .val (.int (1 : Int32)), .val (.ref wP), .val (.ref wD), .val (.ref wD), .unset] [(.ref wP)]) := fun t k => go33 t (st34.trans k)
    have go35 : Goes p e below s₁ (entryFrame m #[(.int p1)] maxLocals) T34 (mkF m 56 #[.val (.int p1), .val (.int (1 : Int32)), .val (.ref wP), .val (.ref wD), .val (.ref wD), .val (.ref wP)] [(.ref wD), (.ref wD)]) := fun t k => go34 t (by
      show Steps p.tables e below (T34.setTop (mkF m 51 #[.val (.int p1), .val (.int (1 : Int32)), .val (.ref wP), .val (.ref wD), .val (.ref wD), .unset] [(.ref wP)])) _
      refine XS.astore X34.here hx rfl (hb hby at_51) rfl rfl (l' := #[.val (.int p1), .val (.int (1 : Int32)), .val (.ref wP), .val (.ref wD), .val (.ref wD), .val (.ref wP)]) rfl ?_
      show Steps p.tables e below (T34.setTop (mkF m 53 #[.val (.int p1), .val (.int (1 : Int32)), .val (.ref wP), .val (.ref wD), .val (.ref wD), .val (.ref wP)] [])) _
      refine XS.aload X34.here hx rfl (hb hby at_53) rfl rfl ?_
      show Steps p.tables e below (T34.setTop (mkF m 55 #[.val (.int p1), .val (.int (1 : Int32)), .val (.ref wP), .val (.ref wD), .val (.ref wD), .val (.ref wP)] [(.ref wD)])) _
      refine XS.aloadN X34.here hx rfl (hb hby at_55) rfl rfl ?_
      exact k)
    have go36 : Goes p e below s₁ (entryFrame m #[(.int p1)] maxLocals) T34 (mkF m 62 #[.val (.int p1), .val (.int (1 : Int32)), .val (.ref wP), .val (.ref wD), .val (.ref wD), .val (.ref wP)] [(.ref wP), (.ref wD)]) := fun t k => go35 t (by
      show Steps p.tables e below (T34.setTop (mkF m 56 #[.val (.int p1), .val (.int (1 : Int32)), .val (.ref wP), .val (.ref wD), .val (.ref wD), .val (.ref wP)] [(.ref wD), (.ref wD)])) _
      refine Jvm.RoadKit.acmp (g := (mkF m 56 #[.val (.int p1), .val (.int (1 : Int32)), .val (.ref wP), .val (.ref wD), .val (.ref wD), .val (.ref wP)] [(.ref wD), (.ref wD)])) X34 hx rfl rfl rfl (pc0 := 56) (pc' := 59) (same := true) rfl (hb hby at_56) rfl (decide_eq_true rfl) (by decide) (by decide) ?_
      show Steps p.tables e below (T34.setTop (mkF m 59 #[.val (.int p1), .val (.int (1 : Int32)), .val (.ref wP), .val (.ref wD), .val (.ref wD), .val (.ref wP)] [])) _
      refine XS.aload X34.here hx rfl (hb hby at_59) rfl rfl ?_
      show Steps p.tables e below (T34.setTop (mkF m 61 #[.val (.int p1), .val (.int (1 : Int32)), .val (.ref wP), .val (.ref wD), .val (.ref wD), .val (.ref wP)] [(.ref wD)])) _
      refine XS.aloadN X34.here hx rfl (hb hby at_61) rfl rfl ?_
      exact k)
    have go37 : Goes p e below s₁ (entryFrame m #[(.int p1)] maxLocals) T34 (mkF m 68 #[.val (.int p1), .val (.int (1 : Int32)), .val (.ref wP), .val (.ref wD), .val (.ref wD), .val (.ref wP)] [(.ref wP), (.ref wP)]) := fun t k => go36 t (by
      show Steps p.tables e below (T34.setTop (mkF m 62 #[.val (.int p1), .val (.int (1 : Int32)), .val (.ref wP), .val (.ref wD), .val (.ref wD), .val (.ref wP)] [(.ref wP), (.ref wD)])) _
      refine Jvm.RoadKit.acmp (g := (mkF m 62 #[.val (.int p1), .val (.int (1 : Int32)), .val (.ref wP), .val (.ref wD), .val (.ref wD), .val (.ref wP)] [(.ref wP), (.ref wD)])) X34 hx rfl rfl rfl (pc0 := 62) (pc' := 65) (same := false) rfl (hb hby at_62) rfl (decide_eq_false fun q => hne (Value.ref.inj q)) (by decide) (by decide) ?_
      show Steps p.tables e below (T34.setTop (mkF m 65 #[.val (.int p1), .val (.int (1 : Int32)), .val (.ref wP), .val (.ref wD), .val (.ref wD), .val (.ref wP)] [])) _
      refine XS.aload X34.here hx rfl (hb hby at_65) rfl rfl ?_
      show Steps p.tables e below (T34.setTop (mkF m 67 #[.val (.int p1), .val (.int (1 : Int32)), .val (.ref wP), .val (.ref wD), .val (.ref wD), .val (.ref wP)] [(.ref wP)])) _
      refine XS.aloadN X34.here hx rfl (hb hby at_67) rfl rfl ?_
      exact k)
    have go38 : Goes p e below s₁ (entryFrame m #[(.int p1)] maxLocals) T34 (mkF m 76 #[.val (.int p1), .val (.int (1 : Int32)), .val (.ref wP), .val (.ref wD), .val (.ref wD), .val (.ref wP)] [(.int (1 : Int32))]) := fun t k => go37 t (by
      show Steps p.tables e below (T34.setTop (mkF m 68 #[.val (.int p1), .val (.int (1 : Int32)), .val (.ref wP), .val (.ref wD), .val (.ref wD), .val (.ref wP)] [(.ref wP), (.ref wP)])) _
      refine Jvm.RoadKit.acmp (g := (mkF m 68 #[.val (.int p1), .val (.int (1 : Int32)), .val (.ref wP), .val (.ref wD), .val (.ref wD), .val (.ref wP)] [(.ref wP), (.ref wP)])) X34 hx rfl rfl rfl (pc0 := 68) (pc' := 71) (same := true) rfl (hb hby at_68) rfl (decide_eq_true rfl) (by decide) (by decide) ?_
      show Steps p.tables e below (T34.setTop (mkF m 71 #[.val (.int p1), .val (.int (1 : Int32)), .val (.ref wP), .val (.ref wD), .val (.ref wD), .val (.ref wP)] [])) _
      refine XS.iconst X34.here hx rfl (hb hby at_71) ?_
      show Steps p.tables e below (T34.setTop (mkF m 72 #[.val (.int p1), .val (.int (1 : Int32)), .val (.ref wP), .val (.ref wD), .val (.ref wD), .val (.ref wP)] [(.int (1 : Int32))])) _
      refine XS.goto X34.here hx rfl (pc0 := 72) (pc' := 76) rfl (hb hby at_72) (by decide) (by decide) ?_
      exact k)
    obtain ⟨fs, hr, hrun, hended, hW, hsame⟩ := X34.leave (v := some (.int (1 : Int32))) (fun h => by rw [Bd.returns] at h; cases h)
    refine ⟨_, _, go38 _ ?_, hrun, hended, _, _, rfl, ?_, ⟨_, rfl⟩, hW, hsame.mono (by decide) (by decide)⟩
    · exact retN X34 hx (t := .boolean) Bd.returns (by simp) (hb hby at_76) hr
    · show Q_rm0 Z p1 wP wD h0 n0 _ T34.heap _
      rw [eq34]
      exact ⟨rfl, N34⟩
  · have go11 : Goes p e below s₁ (entryFrame m #[(.int p1)] maxLocals) s₁ (mkF m 13 #[.val (.int p1), .val (.int (0 : Int32)), .unset, .unset, .unset, .unset] [(.int (0 : Int32))]) := fun t k => go10 t (by
      show Steps p.tables e below (s₁.setTop (mkF m 3 #[.val (.int p1), .unset, .unset, .unset, .unset, .unset] [(.int (p1 &&& (1 : Int32)))])) _
      refine XS.ifYes X0.here hx rfl (pc0 := 3) (pc' := 10) rfl (hb hby at_3) rfl ((if0 _ _).trans (feq hp).2) (by decide) (by decide) ?_
      show Steps p.tables e below (s₁.setTop (mkF m 10 #[.val (.int p1), .unset, .unset, .unset, .unset, .unset] [])) _
      refine XS.iconst X0.here hx rfl (hb hby at_10) ?_
      show Steps p.tables e below (s₁.setTop (mkF m 11 #[.val (.int p1), .unset, .unset, .unset, .unset, .unset] [(.int (0 : Int32))])) _
      refine XS.istoreN X0.here hx rfl (hb hby at_11) rfl (l' := #[.val (.int p1), .val (.int (0 : Int32)), .unset, .unset, .unset, .unset]) rfl ?_
      show Steps p.tables e below (s₁.setTop (mkF m 12 #[.val (.int p1), .val (.int (0 : Int32)), .unset, .unset, .unset, .unset] [])) _
      refine XS.iloadN X0.here hx rfl (hb hby at_12) rfl ?_
      exact k)
    have go12 : Goes p e below s₁ (entryFrame m #[(.int p1)] maxLocals) s₁ (mkF m 22 #[.val (.int p1), .val (.int (0 : Int32)), .unset, .unset, .unset, .unset] []) := fun t k => go11 t (by
      show Steps p.tables e below (s₁.setTop (mkF m 13 #[.val (.int p1), .val (.int (0 : Int32)), .unset, .unset, .unset, .unset] [(.int (0 : Int32))])) _
      refine XS.ifYes X0.here hx rfl (pc0 := 13) (pc' := 22) rfl (hb hby at_13) rfl ((if0 _ _).trans (teq (by decide)).1) (by decide) (by decide) ?_
      exact k)
    obtain ⟨T13, X13, e13, st13⟩ := getS2 X0 hx hZ hown (host := "") (Or.inl (hw _ (List.mem_of_getElem? (i := 3) rfl))) Via.refl e0 SD (g := (mkF m 22 #[.val (.int p1), .val (.int (0 : Int32)), .unset, .unset, .unset, .unset] [])) rfl (hb hby at_22)
    have go13 : Goes p e below s₁ (entryFrame m #[(.int p1)] maxLocals) T13 (mkF m 25 #[.val (.int p1), .val (.int (0 : Int32)), .unset, .unset, .unset, .unset] [(.ref wD)]) := fun t k => go12 t (st13 _ k)
    have go14 : Goes p e below s₁ (entryFrame m #[(.int p1)] maxLocals) T13 (mkF m 27 #[.val (.int p1), .val (.int (0 : Int32)), .val (.ref wD), .unset, .unset, .unset] [(.int (0 : Int32))]) := fun t k => go13 t (by
      show Steps p.tables e below (T13.setTop (mkF m 25 #[.val (.int p1), .val (.int (0 : Int32)), .unset, .unset, .unset, .unset] [(.ref wD)])) _
      refine XS.astoreN X13.here hx rfl (hb hby at_25) rfl rfl (l' := #[.val (.int p1), .val (.int (0 : Int32)), .val (.ref wD), .unset, .unset, .unset]) rfl ?_
      show Steps p.tables e below (T13.setTop (mkF m 26 #[.val (.int p1), .val (.int (0 : Int32)), .val (.ref wD), .unset, .unset, .unset] [])) _
      refine XS.iloadN X13.here hx rfl (hb hby at_26) rfl ?_
      exact k)
    have go15 : Goes p e below s₁ (entryFrame m #[(.int p1)] maxLocals) T13 (mkF m 36 #[.val (.int p1), .val (.int (0 : Int32)), .val (.ref wD), .unset, .unset, .unset] []) := fun t k => go14 t (by
      show Steps p.tables e below (T13.setTop (mkF m 27 #[.val (.int p1), .val (.int (0 : Int32)), .val (.ref wD), .unset, .unset, .unset] [(.int (0 : Int32))])) _
      refine XS.ifYes X13.here hx rfl (pc0 := 27) (pc' := 36) rfl (hb hby at_27) rfl ((if0 _ _).trans (teq (by decide)).1) (by decide) (by decide) ?_
      exact k)
    obtain ⟨T16, X16, e16, st16⟩ := getS2 X13 hx hZ hown (host := "") (Or.inl (hw _ (List.mem_of_getElem? (i := 0) rfl))) Via.refl e13 SP (g := (mkF m 36 #[.val (.int p1), .val (.int (0 : Int32)), .val (.ref wD), .unset, .unset, .unset] [])) rfl (hb hby at_36)
    have go16 : Goes p e below s₁ (entryFrame m #[(.int p1)] maxLocals) T16 (mkF m 39 #[.val (.int p1), .val (.int (0 : Int32)), .val (.ref wD), .unset, .unset, .unset] [(.ref wP)]) := fun t k => go15 t (st16 _ k)
    have go17 : Goes p e below s₁ (entryFrame m #[(.int p1)] maxLocals) T16 (mkF m 41 #[.val (.int p1), .val (.int (0 : Int32)), .val (.ref wD), .val (.ref wP), .unset, .unset] [(.ref wD)]) := fun t k => go16 t (by
      show Steps p.tables e below (T16.setTop (mkF m 39 #[.val (.int p1), .val (.int (0 : Int32)), .val (.ref wD), .unset, .unset, .unset] [(.ref wP)])) _
      refine XS.astoreN X16.here hx rfl (hb hby at_39) rfl rfl (l' := #[.val (.int p1), .val (.int (0 : Int32)), .val (.ref wD), .val (.ref wP), .unset, .unset]) rfl ?_
      show Steps p.tables e below (T16.setTop (mkF m 40 #[.val (.int p1), .val (.int (0 : Int32)), .val (.ref wD), .val (.ref wP), .unset, .unset] [])) _
      refine XS.aloadN X16.here hx rfl (hb hby at_40) rfl rfl ?_
      exact k)
    obtain ⟨cq18, kq18, q18a, q18b, q18c⟩ := isOf hZ e16 ED
    obtain ⟨_, _, ⟨T18, L18, k18, n18⟩, -, X18, ⟨Lc18, hQ18, l18, y18, z18⟩, st18⟩ := X16.virtualBack hx (y := (⟨"com/example/keen_verdict/keenverdict/Effect", "opposite", "()Lcom/example/keen_verdict/keenverdict/Effect;"⟩ : MethodName)) (z := (⟨"com/example/keen_verdict/keenverdict/Effect", "opposite", "()Lcom/example/keen_verdict/keenverdict/Effect;"⟩ : MethodName)) hown (mvT hZ (hw _ (List.mem_of_getElem? (i := 5) rfl))) (mvT hZ (hw _ (List.mem_of_getElem? (i := 6) rfl))) (notFace_of_selects (args := #[]) (mvT hZ (hw _ (List.mem_of_getElem? (i := 8) rfl)))) (mvT hZ (hw _ (List.mem_of_getElem? (i := 8) rfl))) (mvT hZ (hw _ (List.mem_of_getElem? (i := 7) rfl))) (by decide) (backOf (W := 0) (rm1b l Z a0 hw [] wD wP wD h0 n0 Z0 SP SD hne) hZ (hw _ (List.mem_of_getElem? (i := 9) rfl)) (hw _ (List.mem_of_getElem? (i := 1) rfl)) (by decide) (by decide)) q18a q18c (g := (mkF m 41 #[.val (.int p1), .val (.int (0 : Int32)), .val (.ref wD), .val (.ref wP), .unset, .unset] [(.ref wD)])) rfl (by rw [hml]; rfl) (Steps.refl _) (argsL := []) (rest := []) (lenOf pd_0 rfl) rfl (by show 2 * 0 + _ ≤ _; exact Nat.le_of_eq rfl) (hb hby at_41) (fun _ _ => ⟨rfl, e16, (by decide : 0 + 0 ≤ _), (by decide : 0 + 0 ≤ _)⟩)
    dsimp only [Pt.U, Pt.locs, Pt.cells, Pt.slots] at X18 l18 y18 z18 st18 hQ18
    subst l18 y18 z18
    obtain ⟨rfl, Nq18, eq18⟩ := hQ18
    have N18 := Fr.app N0 Nq18
    have go18 : Goes p e below s₁ (entryFrame m #[(.int p1)] maxLocals) T18 (mkF m 44 #[.val (.int p1), .val (.int (0 : Int32)), .val (.ref wD), .val (.ref wP), .unset, .unset] [(.ref wP)]) := fun t k => go17 t (st18.trans k)
    have go19 : Goes p e below s₁ (entryFrame m #[(.int p1)] maxLocals) T18 (mkF m 48 #[.val (.int p1), .val (.int (0 : Int32)), .val (.ref wD), .val (.ref wP), .val (.ref wP), .unset] [(.ref wP)]) := fun t k => go18 t (by
      show Steps p.tables e below (T18.setTop (mkF m 44 #[.val (.int p1), .val (.int (0 : Int32)), .val (.ref wD), .val (.ref wP), .unset, .unset] [(.ref wP)])) _
      refine XS.astore X18.here hx rfl (hb hby at_44) rfl rfl (l' := #[.val (.int p1), .val (.int (0 : Int32)), .val (.ref wD), .val (.ref wP), .val (.ref wP), .unset]) rfl ?_
      show Steps p.tables e below (T18.setTop (mkF m 46 #[.val (.int p1), .val (.int (0 : Int32)), .val (.ref wD), .val (.ref wP), .val (.ref wP), .unset] [])) _
      refine XS.aload X18.here hx rfl (hb hby at_46) rfl rfl ?_
      exact k)
    obtain ⟨cq20, kq20, q20a, q20b, q20c⟩ := isOf hZ eq18 EP
    obtain ⟨_, _, ⟨T20, L20, k20, n20⟩, -, X20, ⟨Lc20, hQ20, l20, y20, z20⟩, st20⟩ := X18.virtualBack hx (y := (⟨"com/example/keen_verdict/keenverdict/Effect", "opposite", "()Lcom/example/keen_verdict/keenverdict/Effect;"⟩ : MethodName)) (z := (⟨"com/example/keen_verdict/keenverdict/Effect", "opposite", "()Lcom/example/keen_verdict/keenverdict/Effect;"⟩ : MethodName)) hown (mvT hZ (hw _ (List.mem_of_getElem? (i := 5) rfl))) (mvT hZ (hw _ (List.mem_of_getElem? (i := 6) rfl))) (notFace_of_selects (args := #[]) (mvT hZ (hw _ (List.mem_of_getElem? (i := 8) rfl)))) (mvT hZ (hw _ (List.mem_of_getElem? (i := 8) rfl))) (mvT hZ (hw _ (List.mem_of_getElem? (i := 7) rfl))) (by decide) (backOf (W := 0) (rm1a l Z a0 hw [] wP wP wD h0 n0 Z0 SP SD rfl) hZ (hw _ (List.mem_of_getElem? (i := 9) rfl)) (hw _ (List.mem_of_getElem? (i := 1) rfl)) (by decide) (by decide)) q20a q20c (g := (mkF m 48 #[.val (.int p1), .val (.int (0 : Int32)), .val (.ref wD), .val (.ref wP), .val (.ref wP), .unset] [(.ref wP)])) rfl (by rw [hml]; rfl) (Steps.refl _) (argsL := []) (rest := []) (lenOf pd_0 rfl) rfl (by show 2 * 0 + _ ≤ _; exact Nat.le_of_eq rfl) (hb hby at_48) (fun _ _ => ⟨rfl, eq18, (by decide : 0 + 0 ≤ _), (by decide : 0 + 0 ≤ _)⟩)
    dsimp only [Pt.U, Pt.locs, Pt.cells, Pt.slots] at X20 l20 y20 z20 st20 hQ20
    subst l20 y20 z20
    obtain ⟨rfl, Nq20, eq20⟩ := hQ20
    have N20 := Fr.app N18 Nq20
    have go20 : Goes p e below s₁ (entryFrame m #[(.int p1)] maxLocals) T20 (mkF m 51 #[.val (.int p1), .val (.int (0 : Int32)), .val (.ref wD), .val (.ref wP), .val (.ref wP), .unset] [(.ref wD)]) := fun t k => go19 t (st20.trans k)
    have go21 : Goes p e below s₁ (entryFrame m #[(.int p1)] maxLocals) T20 (mkF m 56 #[.val (.int p1), .val (.int (0 : Int32)), .val (.ref wD), .val (.ref wP), .val (.ref wP), .val (.ref wD)] [(.ref wP), (.ref wP)]) := fun t k => go20 t (by
      show Steps p.tables e below (T20.setTop (mkF m 51 #[.val (.int p1), .val (.int (0 : Int32)), .val (.ref wD), .val (.ref wP), .val (.ref wP), .unset] [(.ref wD)])) _
      refine XS.astore X20.here hx rfl (hb hby at_51) rfl rfl (l' := #[.val (.int p1), .val (.int (0 : Int32)), .val (.ref wD), .val (.ref wP), .val (.ref wP), .val (.ref wD)]) rfl ?_
      show Steps p.tables e below (T20.setTop (mkF m 53 #[.val (.int p1), .val (.int (0 : Int32)), .val (.ref wD), .val (.ref wP), .val (.ref wP), .val (.ref wD)] [])) _
      refine XS.aload X20.here hx rfl (hb hby at_53) rfl rfl ?_
      show Steps p.tables e below (T20.setTop (mkF m 55 #[.val (.int p1), .val (.int (0 : Int32)), .val (.ref wD), .val (.ref wP), .val (.ref wP), .val (.ref wD)] [(.ref wP)])) _
      refine XS.aloadN X20.here hx rfl (hb hby at_55) rfl rfl ?_
      exact k)
    have go22 : Goes p e below s₁ (entryFrame m #[(.int p1)] maxLocals) T20 (mkF m 62 #[.val (.int p1), .val (.int (0 : Int32)), .val (.ref wD), .val (.ref wP), .val (.ref wP), .val (.ref wD)] [(.ref wD), (.ref wP)]) := fun t k => go21 t (by
      show Steps p.tables e below (T20.setTop (mkF m 56 #[.val (.int p1), .val (.int (0 : Int32)), .val (.ref wD), .val (.ref wP), .val (.ref wP), .val (.ref wD)] [(.ref wP), (.ref wP)])) _
      refine Jvm.RoadKit.acmp (g := (mkF m 56 #[.val (.int p1), .val (.int (0 : Int32)), .val (.ref wD), .val (.ref wP), .val (.ref wP), .val (.ref wD)] [(.ref wP), (.ref wP)])) X20 hx rfl rfl rfl (pc0 := 56) (pc' := 59) (same := true) rfl (hb hby at_56) rfl (decide_eq_true rfl) (by decide) (by decide) ?_
      show Steps p.tables e below (T20.setTop (mkF m 59 #[.val (.int p1), .val (.int (0 : Int32)), .val (.ref wD), .val (.ref wP), .val (.ref wP), .val (.ref wD)] [])) _
      refine XS.aload X20.here hx rfl (hb hby at_59) rfl rfl ?_
      show Steps p.tables e below (T20.setTop (mkF m 61 #[.val (.int p1), .val (.int (0 : Int32)), .val (.ref wD), .val (.ref wP), .val (.ref wP), .val (.ref wD)] [(.ref wP)])) _
      refine XS.aloadN X20.here hx rfl (hb hby at_61) rfl rfl ?_
      exact k)
    have go23 : Goes p e below s₁ (entryFrame m #[(.int p1)] maxLocals) T20 (mkF m 68 #[.val (.int p1), .val (.int (0 : Int32)), .val (.ref wD), .val (.ref wP), .val (.ref wP), .val (.ref wD)] [(.ref wD), (.ref wD)]) := fun t k => go22 t (by
      show Steps p.tables e below (T20.setTop (mkF m 62 #[.val (.int p1), .val (.int (0 : Int32)), .val (.ref wD), .val (.ref wP), .val (.ref wP), .val (.ref wD)] [(.ref wD), (.ref wP)])) _
      refine Jvm.RoadKit.acmp (g := (mkF m 62 #[.val (.int p1), .val (.int (0 : Int32)), .val (.ref wD), .val (.ref wP), .val (.ref wP), .val (.ref wD)] [(.ref wD), (.ref wP)])) X20 hx rfl rfl rfl (pc0 := 62) (pc' := 65) (same := false) rfl (hb hby at_62) rfl (decide_eq_false fun q => (fun q => hne q.symm) (Value.ref.inj q)) (by decide) (by decide) ?_
      show Steps p.tables e below (T20.setTop (mkF m 65 #[.val (.int p1), .val (.int (0 : Int32)), .val (.ref wD), .val (.ref wP), .val (.ref wP), .val (.ref wD)] [])) _
      refine XS.aload X20.here hx rfl (hb hby at_65) rfl rfl ?_
      show Steps p.tables e below (T20.setTop (mkF m 67 #[.val (.int p1), .val (.int (0 : Int32)), .val (.ref wD), .val (.ref wP), .val (.ref wP), .val (.ref wD)] [(.ref wD)])) _
      refine XS.aloadN X20.here hx rfl (hb hby at_67) rfl rfl ?_
      exact k)
    have go24 : Goes p e below s₁ (entryFrame m #[(.int p1)] maxLocals) T20 (mkF m 76 #[.val (.int p1), .val (.int (0 : Int32)), .val (.ref wD), .val (.ref wP), .val (.ref wP), .val (.ref wD)] [(.int (1 : Int32))]) := fun t k => go23 t (by
      show Steps p.tables e below (T20.setTop (mkF m 68 #[.val (.int p1), .val (.int (0 : Int32)), .val (.ref wD), .val (.ref wP), .val (.ref wP), .val (.ref wD)] [(.ref wD), (.ref wD)])) _
      refine Jvm.RoadKit.acmp (g := (mkF m 68 #[.val (.int p1), .val (.int (0 : Int32)), .val (.ref wD), .val (.ref wP), .val (.ref wP), .val (.ref wD)] [(.ref wD), (.ref wD)])) X20 hx rfl rfl rfl (pc0 := 68) (pc' := 71) (same := true) rfl (hb hby at_68) rfl (decide_eq_true rfl) (by decide) (by decide) ?_
      show Steps p.tables e below (T20.setTop (mkF m 71 #[.val (.int p1), .val (.int (0 : Int32)), .val (.ref wD), .val (.ref wP), .val (.ref wP), .val (.ref wD)] [])) _
      refine XS.iconst X20.here hx rfl (hb hby at_71) ?_
      show Steps p.tables e below (T20.setTop (mkF m 72 #[.val (.int p1), .val (.int (0 : Int32)), .val (.ref wD), .val (.ref wP), .val (.ref wP), .val (.ref wD)] [(.int (1 : Int32))])) _
      refine XS.goto X20.here hx rfl (pc0 := 72) (pc' := 76) rfl (hb hby at_72) (by decide) (by decide) ?_
      exact k)
    obtain ⟨fs, hr, hrun, hended, hW, hsame⟩ := X20.leave (v := some (.int (1 : Int32))) (fun h => by rw [Bd.returns] at h; cases h)
    refine ⟨_, _, go24 _ ?_, hrun, hended, _, _, rfl, ?_, ⟨_, rfl⟩, hW, hsame.mono (by decide) (by decide)⟩
    · exact retN X20 hx (t := .boolean) Bd.returns (by simp) (hb hby at_76) hr
    · show Q_rm0 Z p1 wP wD h0 n0 _ T20.heap _
      rw [eq20]
      exact ⟨rfl, N20⟩
theorem own_fldint {args : Array Value} {s : State} {t : Term} {C n d : String} {a : Addr} {k : Int32} (ht : t.eval args s none [] s = some (.ref a)) (h : (Jvm.Cond.eq (Term.field t C n d) (Term.int k)).value args s none s [] = some true) : s.fieldOf? a C n d = some (.int k) := by
  have e := fld_at (C := C) (n := n) (dd := d) ht
  have e2 : (Term.int k).eval args s none [] s = some (.int k) := Term.int_eval k
  simp only [Jvm.Cond.value, e, e2] at h
  cases hf : s.fieldOf? a C n d with
  | none => simp [hf] at h
  | some v => cases v <;> simp [hf] at h ⊢; exact h
set_option maxRecDepth 65536 in
set_option maxHeartbeats 40000000 in
theorem comes_1 {Post : Tables → Env → Array Value → State → Outcome → State → Prop} (hpost : ∀ tb e args s v u, (limb_1_1.after args s (.returned v) u = true ∧ limb_1_2.after args s (.returned v) u = true ∧ True) → FrameEnd s (.returned v) u (Jvm.fieldLocs frame_1_writes args s ++ Jvm.arrayLocs frame_1_arrays args s ++ Jvm.staticLocs frame_1_statics s) 0 0 → Post tb e args s (.returned v) u) :
    ArmFor flags0 classFile x code maxLocals ret World_1 tables_1 room_1 Calls_1 rest_1 Pre_1 Post := by
  intro l hfl _ _ p e ha hc hk s m args below hf hA hF happ hP
  obtain ⟨hcalls, hrest, hpre⟩ := hP
  obtain ⟨-, -, -, hnamed, -, -, -, hat⟩ := (Spec.applies_iff hf).mp happ
  obtain ⟨hg, hn⟩ := and_e (Cond.before_iff.mp (show (Jvm.Cond.and given_1 narrow_1).before args s = true from hpre))
  obtain ⟨g0, hg0⟩ := and_e hg
  obtain ⟨w0, rfl⟩ : ∃ w0 : Value, args = #[w0] := by
    have hs : args.size = 1 := by simpa [Cond.value, given_1] using g0
    obtain ⟨L⟩ := args
    match L, hs with
    | [w0], _ => exact ⟨w0, rfl⟩
  have hw := fun d (hd : d ∈ tables_1) => atoms_spec (ws := Jvm.Cond.code x code maxLocals ret :: tables_1) hat d (List.mem_cons_of_mem _ hd)
  have hfit : Fit s := fun {y c} hc i hi => by
    obtain ⟨ha, rfl⟩ := Array.getElem?_eq_some_iff.mp hc
    have q := List.all_eq_true.mp ((Array.all_eq_true_iff_forall_mem.mp hF) _ (Array.getElem_mem ha)) i (List.mem_range.mpr hi)
    simpa [Array.getElem?_eq_getElem hi] using q
  obtain ⟨i0, ei0⟩ := is_v hg0
  obtain rfl : w0 = (.int i0) := Option.some.inj ei0
  obtain ⟨n1, hn1⟩ := and_e hn
  obtain ⟨n2, hn2⟩ := and_e hn1
  obtain ⟨n3, n4⟩ := and_e hn2
  obtain ⟨wP, ewP⟩ := exa_v n1
  obtain ⟨wD, ewD⟩ := exa_v n2
  have EP := Exa.start ewP n1
  have ED := Exa.start ewD n2
  have SP := Sta.start ewP (Or.inr ⟨(hw _ (List.mem_of_getElem? (i := 1) rfl)), (hw _ (List.mem_of_getElem? (i := 2) rfl))⟩)
  have SD := Sta.start ewD (Or.inr ⟨(hw _ (List.mem_of_getElem? (i := 1) rfl)), (hw _ (List.mem_of_getElem? (i := 4) rfl))⟩)
  have q3 := own_fldint ewD n3
  have q4 := own_fldint ewP n4
  have hne : ¬ (wD = wP) := fun q => by rw [q, q4] at q3; exact absurd (Value.int.inj (Option.some.inj q3)) (by decide)
  obtain ⟨n, o, h1, h2, h3, _, L, rfl, ⟨rfl, N⟩, hq⟩ := rm0 l s _ hw tables_1 i0 wP wD s.heap s.heap.size (Nat.le_refl _) SP SD EP ED hne p e ha hc hk s m _ below hf ((Spec.applies_iff_loose hf).mp happ).1 ⟨rfl, State.Warmed39.refl s, rfl⟩ trivial
  refine ⟨n, _, h1, h2, h3, hpost _ _ _ _ _ _ ⟨Cond.after_iff.mpr rfl, Cond.after_iff.mpr (eq_i res_at (Term.int_eval (1)) rfl), trivial⟩ ⟨hq.1, hq.2.1, (hq.2.2.sift fun y hy => Or.inr (N y hy)).mono (by decide) (by decide)⟩⟩
theorem main_1_1 : Claimed_1_1 := comes_1 fun _ _ _ _ _ _ h hF => ⟨h.1, hF⟩
theorem main_1_2 : Claimed_1_2 := comes_1 fun _ _ _ _ _ _ h hF => ⟨h.2.1, hF⟩
end Jvm.Pilot.@@N@@
namespace Jvm.Pilot.@@N@@
open Jvm Jvm.ClassFile Sem Op Lib Jvm.Free Jvm.Stand Jvm.Pilot.@@N@@.Jvm.D
/-! MADE BY PROGRAM (witnessworld.py) out of the Statement's table words and the real class files: 10 classes; the members and pool entries that the words name. The judged class is class 1, her method 1. -/
namespace start1
open Jvm.ClassFile
def u (s : String) : CpInfo := .utf8 (stringToUtf16 s)
/-- a pool by its gaps: so many unusable entries, then the entry; so many at the end -/
def gap : Nat → List CpInfo → List CpInfo
  | 0, r => r
  | n + 1, r => .unusable :: gap n r
def poolList (es : List (Nat × CpInfo)) (last : Nat) : List CpInfo := es.foldr (fun e r => gap e.1 (e.2 :: r)) (gap last [])
def pool (es : List (Nat × CpInfo)) (last : Nat) : Array CpInfo := ⟨poolList es last⟩
def fileOf (pool : Array CpInfo) (this : Nat) (attrs : Array Attribute := #[]) (ms : Array MethodInfo := #[]) (fl : Nat := 33) (sup : Nat := 0) (ifs : Array Nat := #[]) (fds : Array FieldInfo := #[]) : ClassFile where
  minorVersion := 0
  majorVersion := 65
  constantPool := pool
  accessFlags := fl
  thisClass := this
  superClass := sup
  interfaces := ifs
  fields := fds
  methods := ms
  attributes := attrs
def plain (name : String) (sup : Option ClassId) : Class where
  name := name
  kind := .ordinary
  loader := none
  accessFlags := 33
  super := sup
  interfaces := #[]
  cf := none
  fields := #[]
  methods := #[]
  instanceTypes := #[]
  staticTypes := #[]
  resolved := #[]
  callSites := []
  init := .initialized
  statics := none
  mirror := none

def pool0 : Array CpInfo := pool [(5, u "<init>"), (0, u "()V"), (1, .class_ 10), (1, u "java/lang/Object")] 113

def k0m0 : Method := { name := "<init>", desc := "()V", sig := { parameters := [], returnType := none }, accessFlags := 1, code := none }
/-- java/lang/Object -/
def k0 : Class := { plain "java/lang/Object" none with
  accessFlags := 33
  interfaces := #[]
  cf := some (fileOf pool0 8 #[] #[{ accessFlags := 1, nameIndex := 5, descriptorIndex := 6, attributes := #[] }] 33 0 #[] #[])
  fields := #[]
  methods := #[k0m0]
  instanceTypes := #[]
  staticTypes := #[]
  resolved := Array.replicate 124 none
  statics := none }

def pool1 : Array CpInfo := pool [(2, .class_ 4), (1, u "java/lang/Object"), (0, u "<init>"), (0, u "()V"), (0, .fieldref 8 9), (0, .class_ 10), (0, .nameAndType 11 12), (0, u "com/example/keen_verdict/keenverdict/Effect"), (0, u "PERMIT"), (0, u "Lcom/example/keen_verdict/keenverdict/Effect;"), (0, .fieldref 8 14), (0, .nameAndType 15 12), (0, u "DENY"), (0, .methodref 8 17), (0, .nameAndType 18 19), (0, u "opposite"), (0, u "()Lcom/example/keen_verdict/keenverdict/Effect;"), (0, .class_ 21), (0, u "com/example/keen_verdict/keenverdict/EffectOppositePinLaw"), (2, u "law"), (0, u "(I)Z")] 3

def k1m0 : Method := { name := "<init>", desc := "()V", sig := { parameters := [], returnType := none }, accessFlags := 2, code := none }
def k1c1 : Code := { maxStack := 2, maxLocals := 6, code := code, exceptionTable := #[], attributes := #[] }
def k1m1 : Method := { name := "law", desc := "(I)Z", sig := { parameters := [.int], returnType := some .boolean }, accessFlags := 9, code := some k1c1 }
/-- com/example/keen_verdict/keenverdict/EffectOppositePinLaw -/
def k1 : Class := { plain "com/example/keen_verdict/keenverdict/EffectOppositePinLaw" (some 0) with
  accessFlags := 49
  interfaces := #[]
  cf := some (fileOf pool1 20 #[] #[{ accessFlags := 2, nameIndex := 5, descriptorIndex := 6, attributes := #[] }, { accessFlags := 9, nameIndex := 24, descriptorIndex := 25, attributes := #[] }] 49 2 #[] #[])
  fields := #[]
  methods := #[k1m0, k1m1]
  instanceTypes := #[]
  staticTypes := #[]
  resolved := Array.replicate 29 none
  statics := none }

def pool2 : Array CpInfo := pool [(1, .class_ 2), (0, u "java/lang/constant/Constable"), (0, .class_ 4), (0, u "java/lang/Object")] 6

/-- java/lang/constant/Constable -/
def k2 : Class := { plain "java/lang/constant/Constable" (some 0) with
  accessFlags := 1537
  interfaces := #[]
  cf := some (fileOf pool2 1 #[] #[] 1537 3 #[] #[])
  fields := #[]
  methods := #[]
  instanceTypes := #[]
  staticTypes := #[]
  resolved := Array.replicate 11 none
  statics := none }

def pool3 : Array CpInfo := pool [(1, .class_ 2), (0, u "java/lang/Comparable"), (0, .class_ 4), (0, u "java/lang/Object")] 7

/-- java/lang/Comparable -/
def k3 : Class := { plain "java/lang/Comparable" (some 0) with
  accessFlags := 1537
  interfaces := #[]
  cf := some (fileOf pool3 1 #[] #[] 1537 3 #[] #[])
  fields := #[]
  methods := #[]
  instanceTypes := #[]
  staticTypes := #[]
  resolved := Array.replicate 12 none
  statics := none }

def pool4 : Array CpInfo := pool [(1, .class_ 2), (0, u "java/io/Serializable"), (0, .class_ 4), (0, u "java/lang/Object")] 2

/-- java/io/Serializable -/
def k4 : Class := { plain "java/io/Serializable" (some 0) with
  accessFlags := 1537
  interfaces := #[]
  cf := some (fileOf pool4 1 #[] #[] 1537 3 #[] #[])
  fields := #[]
  methods := #[]
  instanceTypes := #[]
  staticTypes := #[]
  resolved := Array.replicate 7 none
  statics := none }

def pool5 : Array CpInfo := pool [(2, .class_ 4), (1, u "java/lang/Enum"), (0, u "name"), (0, u "Ljava/lang/String;"), (2, u "ordinal"), (0, u "I"), (1, .class_ 14), (1, u "java/lang/Object"), (4, u "hash"), (86, .class_ 108), (1, u "java/lang/Enum$EnumDesc"), (2, .class_ 112), (0, u "java/lang/constant/Constable"), (0, .class_ 114), (0, u "java/lang/Comparable"), (0, .class_ 116), (0, u "java/io/Serializable")] 87

/-- java/lang/Enum -/
def k5 : Class := { plain "java/lang/Enum" (some 0) with
  accessFlags := 1057
  interfaces := #[2, 3, 4]
  cf := some (fileOf pool5 2 #[.nestMembers #[106]] #[] 1057 12 #[111, 113, 115] #[{ accessFlags := 18, nameIndex := 5, descriptorIndex := 6, attributes := #[] }, { accessFlags := 18, nameIndex := 9, descriptorIndex := 10, attributes := #[] }, { accessFlags := 2, nameIndex := 19, descriptorIndex := 10, attributes := #[] }])
  fields := #[{ name := "name", type := (.object "java/lang/String"), accessFlags := 18, slot := 0, constantValue := 0 }, { name := "ordinal", type := .int, accessFlags := 18, slot := 1, constantValue := 0 }, { name := "hash", type := .int, accessFlags := 2, slot := 2, constantValue := 0 }]
  methods := #[]
  instanceTypes := #[(.object "java/lang/String"), .int, .int]
  staticTypes := #[]
  resolved := Array.replicate 204 none
  statics := none }

def pool6 : Array CpInfo := pool [(1, .class_ 2), (0, u "com/example/keen_verdict/keenverdict/Effect"), (0, .fieldref 1 4), (0, .nameAndType 5 6), (0, u "PERMIT"), (0, u "Lcom/example/keen_verdict/keenverdict/Effect;"), (0, .fieldref 1 8), (0, .nameAndType 9 6), (0, u "DENY"), (2, u "$VALUES"), (0, u "[Lcom/example/keen_verdict/keenverdict/Effect;"), (6, .class_ 22), (1, u "java/lang/Enum"), (8, u "xmlName"), (0, u "Ljava/lang/String;"), (2, u "result"), (0, u "Lcom/example/keen_verdict/keenverdict/Result;"), (2, u "indeterminate"), (0, u "Lcom/example/keen_verdict/keenverdict/Decision;"), (11, .class_ 54), (1, u "com/example/keen_verdict/keenverdict/Effect$1"), (46, u "opposite"), (0, u "()Lcom/example/keen_verdict/keenverdict/Effect;")] 8

def k6c0 : Code := { maxStack := 2, maxLocals := 1, code := prog_42_method_6_code, exceptionTable := #[], attributes := #[] }
def k6m0 : Method := { name := "opposite", desc := "()Lcom/example/keen_verdict/keenverdict/Effect;", sig := { parameters := [], returnType := some (.object "com/example/keen_verdict/keenverdict/Effect") }, accessFlags := 0, code := some k6c0 }
/-- com/example/keen_verdict/keenverdict/Effect -/
def k6 : Class := { plain "com/example/keen_verdict/keenverdict/Effect" (some 5) with
  accessFlags := 16432
  interfaces := #[]
  cf := some (fileOf pool6 1 #[.nestMembers #[52]] #[{ accessFlags := 0, nameIndex := 101, descriptorIndex := 102, attributes := #[] }] 16432 20 #[] #[{ accessFlags := 16409, nameIndex := 5, descriptorIndex := 6, attributes := #[] }, { accessFlags := 16409, nameIndex := 9, descriptorIndex := 6, attributes := #[] }, { accessFlags := 18, nameIndex := 31, descriptorIndex := 32, attributes := #[] }, { accessFlags := 18, nameIndex := 35, descriptorIndex := 36, attributes := #[] }, { accessFlags := 18, nameIndex := 39, descriptorIndex := 40, attributes := #[] }, { accessFlags := 4122, nameIndex := 12, descriptorIndex := 13, attributes := #[] }])
  fields := #[{ name := "PERMIT", type := (.object "com/example/keen_verdict/keenverdict/Effect"), accessFlags := 16409, slot := 0, constantValue := 0 }, { name := "DENY", type := (.object "com/example/keen_verdict/keenverdict/Effect"), accessFlags := 16409, slot := 1, constantValue := 0 }, { name := "xmlName", type := (.object "java/lang/String"), accessFlags := 18, slot := 3, constantValue := 0 }, { name := "result", type := (.object "com/example/keen_verdict/keenverdict/Result"), accessFlags := 18, slot := 4, constantValue := 0 }, { name := "indeterminate", type := (.object "com/example/keen_verdict/keenverdict/Decision"), accessFlags := 18, slot := 5, constantValue := 0 }, { name := "$VALUES", type := (.array (.object "com/example/keen_verdict/keenverdict/Effect")), accessFlags := 4122, slot := 2, constantValue := 0 }]
  methods := #[k6m0]
  instanceTypes := #[(.object "java/lang/String"), .int, .int, (.object "java/lang/String"), (.object "com/example/keen_verdict/keenverdict/Result"), (.object "com/example/keen_verdict/keenverdict/Decision")]
  staticTypes := #[(.object "com/example/keen_verdict/keenverdict/Effect"), (.object "com/example/keen_verdict/keenverdict/Effect"), (.array (.object "com/example/keen_verdict/keenverdict/Effect"))]
  resolved := Array.replicate 111 none
  statics := some 0 }

def pool7 : Array CpInfo := pool [(1, u "java/lang/Cloneable"), (0, .class_ 1), (0, u "java/lang/Object"), (0, .class_ 3)] 3

/-- java/lang/Cloneable -/
def k7 : Class := { plain "java/lang/Cloneable" (some 0) with
  accessFlags := 1537
  interfaces := #[]
  cf := some (fileOf pool7 2 #[] #[] 1537 4 #[] #[])
  fields := #[]
  methods := #[]
  instanceTypes := #[]
  staticTypes := #[]
  resolved := Array.replicate 8 none
  statics := none }

/-- the primitive byte -/
def k8 : Class := { plain "byte" none with kind := .primitive 'B', accessFlags := 0x411 }
/-- [B -/
def k9 : Class := { plain "[B" (some 0) with kind := .array 8 .byte, interfaces := #[7, 4], accessFlags := 1041 }

def heap : Heap := #[{ cls := 6, slots := #[.ref 1, .ref 2, .null], vm := .statics 6 },
  { cls := 6, slots := #[.null, .int 0, .int 0, .null, .null, .null], vm := .none },
  { cls := 6, slots := #[.null, .int 1, .int 0, .null, .null, .null], vm := .none }]
def classes : Array Class := #[k0, k1, k2, k3, k4, k5, k6, k7, k8, k9]
def interned : List (Array UInt16 × Addr) := []
def slotsUsed : Nat := 15
def theMethod : MethodId := ⟨1, 1⟩
def args0 : Array Value := #[.int 1]
def aboutOver (below : List Frame) : State where
  vm := { classes := classes, interned := interned.toArray }
  heap := heap
  slotsUsed := slotsUsed
  threads := #[{ frames := .invoking theMethod args0 :: below }]
def below0 : List Frame := [.native { method := ⟨0, 0⟩, args := #[] }]
def about1 : State := aboutOver below0
def p0 : Program := .bare "" "" ""
def e0 : Env := launch0.env 0 0 0
theorem w_frames : about1.frames = Frame.invoking theMethod args0 :: below0 := rfl
set_option maxRecDepth 65536 in
theorem w_args : argsFit about1.vm theMethod args0 = true := by decide +kernel
set_option maxRecDepth 65536 in
theorem w_heap : heapFits about1 = true := by decide +kernel
set_option maxRecDepth 65536 in
theorem w_runnable : about1.curStatus? = some .runnable := by decide +kernel
set_option maxRecDepth 65536 in
theorem w_alone : about1.alone = true := by decide +kernel
set_option maxRecDepth 65536 in
theorem w_named : about1.methodNamed? x = some theMethod := by decide +kernel
set_option maxRecDepth 65536 in
theorem w_hears : about1.hears theMethod below0 = true := by decide +kernel
set_option maxRecDepth 65536 in
theorem w_ripe : about1.ripe theMethod args0 below0 = true := by decide +kernel
theorem w_running : about1.status = .running := rfl
set_option maxRecDepth 65536 in
theorem w_room : about1.hasRoom e0.platform room_1 = true :=
  launch0.hasRoom_least _ room_1 (by decide +kernel) (by decide +kernel) (by decide +kernel) (by decide +kernel) (by decide +kernel) (by decide +kernel)
theorem allAtoms_all (ts : List Jvm.Cond) (a : Array Jvm.Value) (st : Jvm.State) : (allAtoms ts).before a st = ts.all (fun c => c.before a st) := by
  induction ts with
  | nil => rfl
  | cons c t ih =>
    show (Jvm.Cond.and c (allAtoms t)).before a st = _
    rw [Jvm.Cond.before_and, ih, List.all_cons]
def words1 : List Jvm.Cond := Jvm.Cond.code x code maxLocals ret :: tables_1
/-- a 'code' word, met by the world's own term for the bytes: nothing is compared byte by byte -/
theorem code_word {y : MethodName} {bytes : ByteArray} {mx : Nat} {rt : Option FieldType} {a : Array Value} {s : State} {m : MethodId} {meth : Method} {c : Code} (h1 : s.methodNamed? y = some m) (h2 : s.vm.method? m = some meth) (h3 : meth.code = some c) (h4 : c.code = bytes)
    (h5 : (c.maxLocals == mx && c.exceptionTable.isEmpty && decide (c.maxStack ≤ mostOperands) && decide (meth.sig.returnType = rt) && !meth.locks && decide (parseMethodDescriptor y.desc = some meth.sig)) = true) : (Jvm.Cond.code y bytes mx rt).before a s = true := by
  simp only [Bool.and_eq_true, beq_iff_eq, Bool.not_eq_true', decide_eq_true_eq] at h5
  obtain ⟨⟨⟨⟨⟨g1, g2⟩, g3⟩, g4⟩, g5⟩, g6⟩ := h5
  simp [Cond.before, Cond.holds, Cond.value, h1, h2, h3, h4, g1, g2, g3, g4, g5, g6]
def isCode : Jvm.Cond → Bool
  | .code _ _ _ _ => true
  | _ => false
theorem all_split {L : List Jvm.Cond} {P : Jvm.Cond → Bool} (h1 : L.all (fun c => isCode c || P c) = true) (h2 : ∀ c ∈ L.filter isCode, P c = true) : L.all P = true := by
  refine List.all_eq_true.mpr fun c hc => ?_
  have h := List.all_eq_true.mp h1 c hc
  rcases Bool.eq_false_or_eq_true (isCode c) with hi | hi
  · exact h2 c (List.mem_filter.mpr ⟨hc, hi⟩)
  · simpa [hi] using h
set_option maxRecDepth 65536 in
theorem w_c0 : (Jvm.Cond.code x code maxLocals ret).before args0 about1 = true := code_word (m := ⟨1, 1⟩) (meth := k1m1) (c := k1c1) (by decide +kernel) rfl rfl rfl (by decide +kernel)
set_option maxRecDepth 65536 in
theorem w_c1 : (Jvm.Cond.code ({ cls := "com/example/keen_verdict/keenverdict/Effect", name := "opposite", desc := "()Lcom/example/keen_verdict/keenverdict/Effect;" } : Jvm.MethodName) prog_42_method_6_code (1 : Nat) (Option.some (Jvm.ClassFile.FieldType.object "com/example/keen_verdict/keenverdict/Effect"))).before args0 about1 = true := code_word (m := ⟨6, 0⟩) (meth := k6m0) (c := k6c0) (by decide +kernel) rfl rfl rfl (by decide +kernel)
def codes1 : List Jvm.Cond := [Jvm.Cond.code x code maxLocals ret, Jvm.Cond.code ({ cls := "com/example/keen_verdict/keenverdict/Effect", name := "opposite", desc := "()Lcom/example/keen_verdict/keenverdict/Effect;" } : Jvm.MethodName) prog_42_method_6_code (1 : Nat) (Option.some (Jvm.ClassFile.FieldType.object "com/example/keen_verdict/keenverdict/Effect"))]
set_option maxRecDepth 65536 in
theorem codes_eq : words1.filter isCode = codes1 := rfl
theorem w_codes : ∀ c ∈ words1.filter isCode, c.before args0 about1 = true := by
  rw [codes_eq]
  intro c hc
  simp only [codes1, List.mem_cons, List.not_mem_nil, or_false] at hc
  rcases hc with rfl | rfl
  · exact w_c0
  · exact w_c1
set_option maxRecDepth 65536 in
theorem w_t1 : words1.all (fun c => isCode c || c.before args0 about1) = true := by decide +kernel
theorem w_tables : (allAtoms (Jvm.Cond.code x code maxLocals ret :: tables_1)).before args0 about1 = true := by
  rw [allAtoms_all]
  show words1.all (fun c => c.before args0 about1) = true
  refine all_split ?_ w_codes
  rw [w_t1]
set_option maxRecDepth 65536 in
theorem w_case : (Jvm.Cond.and given_1 narrow_1).before args0 about1 = true := by decide +kernel
theorem w_applies : (headSpec (Jvm.Cond.code x code maxLocals ret :: tables_1) room_1).applies x e0.platform about1 = true :=
  (Spec.applies_iff w_frames).mpr ⟨w_running, w_runnable, w_alone, w_named, w_hears, w_ripe, w_room, w_tables⟩
theorem atStart : AtStart classFile x code maxLocals ret World_1 tables_1 room_1 Calls_1 rest_1 Pre_1 launch0 p0 e0 about1 theMethod args0 below0 :=
  ⟨lists_1, trivial, launch0.admits_env _ _ _, launch0.least_env, fairChoices_fair.cas, fairChoices_fair.clock, w_frames, w_args, w_heap, w_applies, trivial, trivial, w_case⟩
end start1
theorem witness_1 : WitnessClaimed_1 := ⟨start1.p0, start1.e0, start1.about1, start1.theMethod, start1.args0, start1.below0, start1.atStart⟩
end Jvm.Pilot.@@N@@
