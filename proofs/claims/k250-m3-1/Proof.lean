import JvmDerived
import JvmDerived.Pilot.@@N@@Statement
import JvmDerived.Pilot.@@N@@Code
set_option linter.unusedVariables false
set_option linter.unusedSimpArgs false
@@BLOCK:NumsL.lean.txt@@
namespace Jvm.RoadKit
open Sem ClassFile Op Lib Jvm.Stand Jvm.Free Jvm.LawKit
section New
variable {p : Program} {l : Launch} {e : Env} {R : Room} {s : State} {m : MethodId} {args : Array Value} {below : List Frame} {meth : Method} {c : Code} {T : State} {locs : List Loc} {cells slots : Nat}
theorem retI (X : Stand p l e R s m args below meth c T locs cells slots) (hx : p.tables.exec = Jvm.exec) {pc : Nat} {Ls : Array Slot} {z : Int32} {rest : List Value} (hret : meth.sig.returnType = some .int) (hd : decode c.code pc = .ok (.ireturn, 1)) {fs : List Frame}
    (hl : ∀ (f : JFrame) (acts : List Action), f.method = m → f.locked = none → f.entered = [] → (doReturn e (T.setTop f) acts (some (.int z))).1 = T.setFrames fs) : Steps p.tables e below (T.setTop (mkF m pc Ls (.int z :: rest))) (T.setFrames fs) := by
  have hm' : T.vm.method? m = some meth := X.method'
  have hn : narrow .int (.int z) = .int z := rfl
  show Steps p.tables e below (T.setTop { method := m, pc := pc, locals := Ls, stack := _ :: rest, locked := none }) _
  jvm_step X.here [X.here.top, hx, hd, hm', hret, hn]
  first | (intro acts; rw [hl _ acts rfl rfl rfl]) | rw [hl _ _ rfl rfl rfl]
  exact Steps.refl _
end New
end Jvm.RoadKit
namespace Jvm.Pilot.@@N@@
open Jvm Jvm.ClassFile Sem Op Lib Jvm.Free Jvm.Stand Jvm.LawKit Jvm.RoadKit Bundle Jvm.Pilot.@@N@@.Jvm.D
theorem own_lclt {x y : Int64} (h : x < y) : lcmpW x y < 0 := by rw [lcW]; exact (lc_lt x y).2 h
theorem own_lcge {x y : Int64} (h : ¬ x < y) : ¬ (lcmpW x y < 0) := by rw [lcW]; exact fun k => h ((lc_lt x y).1 k)
theorem own_lcgt {x y : Int64} (h : y < x) : 0 < lcmpW x y := by rw [lcW]; exact (lc_gt x y).2 h
theorem own_lcle {x y : Int64} (h : ¬ y < x) : ¬ (0 < lcmpW x y) := by rw [lcW]; exact fun k => h ((lc_gt x y).1 k)
theorem own_lceq {x y : Int64} (h : x = y) : lcmpW x y = 0 := by rw [lcW]; exact (lc_eq x y).2 h
theorem own_lcne {x y : Int64} (h : ¬ (x = y)) : ¬ (lcmpW x y = 0) := by rw [lcW]; exact fun k => h ((lc_eq x y).1 k)
theorem d1_0 : decode prog_46_method_6_code 0 = .ok (.aload_n 0, 1) := by decide +kernel
theorem d1_1 : decode prog_46_method_6_code 1 = .ok (.getfield 59, 3) := by decide +kernel
theorem d1_4 : decode prog_46_method_6_code 4 = .ok (.ifnull 7, 3) := by decide +kernel
theorem d1_7 : decode prog_46_method_6_code 7 = .ok (.iconst 1, 1) := by decide +kernel
theorem d1_8 : decode prog_46_method_6_code 8 = .ok (.goto 4, 3) := by decide +kernel
theorem d1_12 : decode prog_46_method_6_code 12 = .ok (.ireturn, 1) := by decide +kernel
def Q_rm1a (Z : State) (a1 : Addr) (r : Addr) (h0 : Heap) (n0 : Nat) (v : Option Value) (h : Heap) (L : List Loc) : Prop := v = some (.int (1 : Int32)) ∧ Fr n0 L ∧ h = h0
theorem pn_com_example_heft_heft_model_CombiningAlgorithm : plainName "com/example/heft/heft/model/CombiningAlgorithm" = true := by first | (simp [plainName, overriddenIn]; done) | decide +kernel
set_option maxRecDepth 65536 in
set_option maxHeartbeats 40000000 in
theorem rm1a (l : Launch) (Z : State) (a0 : Array Value) (hw : ∀ d ∈ tables_1, d.before a0 Z = true) (ws : List Jvm.Cond) (a1 : Addr) (r : Addr) (h0 : Heap) (n0 : Nat) (Z0 : n0 ≤ h0.size) (F : Fld Z h0 a1 "com/example/heft/heft/model/CombiningAlgorithm" "ruleIdentifier" "Ljava/lang/String;" (.ref r)) :
    MetFree l (⟨"com/example/heft/heft/model/CombiningAlgorithm", "combinesRules", "()Z"⟩ : MethodName) (head1 (Jvm.Cond.code (⟨"com/example/heft/heft/model/CombiningAlgorithm", "combinesRules", "()Z"⟩ : MethodName) prog_46_method_6_code 1 (some .boolean) :: ws) ({ frames := 0, cells := 0, slots := 0, locals := 0 } : Room)) (fun a U => a = #[(.ref a1)] ∧ Z.Warmed39 U.vm ∧ U.heap = h0) (fun _ _ _ _ _ => True) (fun _ U o U' => ∃ v L, o = .returned v ∧ Q_rm1a Z a1 r h0 n0 v U'.heap L ∧ FrameEnd U o U' L ({ frames := 0, cells := 0, slots := 0, locals := 0 } : Room).cells ({ frames := 0, cells := 0, slots := 0, locals := 0 } : Room).slots) := by
  refine MetFree.of_bodySF (plainFor_of_name pn_com_example_heft_heft_model_CombiningAlgorithm) hisR ?_
  intro p e s m args below meth c s₁ Bd hml0 hP hK
  obtain ⟨rfl, hZ, hh⟩ := hP
  have hx := Bd.exec
  have hby := Bd.bytes
  have hml : c.maxLocals = 1 := hml0
  have hown : s.vm.findClass "com/example/heft/heft/model/CombiningAlgorithm" = some m.cls := findClass_of_methodNamed Bd.named
  have hnm := (name_of_methodNamed Bd.named Bd.method).1
  have X0 : Stand p l e ({ frames := 0, cells := 0, slots := 0, locals := 0 } : Room) s m #[(.ref a1)] below meth c s₁ [] 0 0 := Stand.of_body Bd
  have e0 : s₁.heap = h0 := by rw [← hh, Bd.state]; rfl
  have N0 := Fr.nil n0
  have go0 : Goes p e below s₁ (entryFrame m #[(.ref a1)] 1) s₁ (mkF m 0 #[.val (.ref a1)] []) := fun t k => castTop (by first | (simp [entryFrame, mkF, argsToLocals, Value.category]; done) | rfl) k
  have go1 : Goes p e below s₁ (entryFrame m #[(.ref a1)] 1) s₁ (mkF m 1 #[.val (.ref a1)] [(.ref a1)]) := fun t k => go0 t (by
    show Steps p.tables e below (s₁.setTop (mkF m 0 #[.val (.ref a1)] [])) _
    refine XS.aloadN X0.here hx rfl (hb hby d1_0) rfl rfl ?_
    exact k)
  obtain ⟨T2, X2, e2, st2⟩ := getF X0 hx hZ hown (host := "") (Or.inl (hw _ (List.mem_of_getElem? (i := 34) rfl))) Via.refl e0 F (g := (mkF m 1 #[.val (.ref a1)] [(.ref a1)])) rfl rfl (hb hby d1_1)
  have go2 : Goes p e below s₁ (entryFrame m #[(.ref a1)] 1) T2 (mkF m 4 #[.val (.ref a1)] [(.ref r)]) := fun t k => go1 t (st2 _ k)
  have go3 : Goes p e below s₁ (entryFrame m #[(.ref a1)] 1) T2 (mkF m 12 #[.val (.ref a1)] [(.int (1 : Int32))]) := fun t k => go2 t (by
    show Steps p.tables e below (T2.setTop (mkF m 4 #[.val (.ref a1)] [(.ref r)])) _
    refine XS.ifnullNo X2.here hx rfl (hb hby d1_4) rfl ?_
    show Steps p.tables e below (T2.setTop (mkF m 7 #[.val (.ref a1)] [])) _
    refine XS.iconst X2.here hx rfl (hb hby d1_7) ?_
    show Steps p.tables e below (T2.setTop (mkF m 8 #[.val (.ref a1)] [(.int (1 : Int32))])) _
    refine XS.goto X2.here hx rfl (pc0 := 8) (pc' := 12) rfl (hb hby d1_8) (by decide) (by decide) ?_
    exact k)
  obtain ⟨fs, hr, hrun, hended, hW, hsame⟩ := X2.leave (v := some (.int (1 : Int32))) (fun h => by rw [Bd.returns] at h; cases h)
  refine ⟨_, _, go3 _ ?_, hrun, hended, _, _, rfl, ?_, ⟨_, rfl⟩, hW, hsame.mono (by decide) (by decide)⟩
  · exact retN X2 hx (t := .boolean) Bd.returns (by simp) (hb hby d1_12) hr
  · show Q_rm1a Z a1 r h0 n0 _ T2.heap _
    rw [e2]
    exact ⟨rfl, N0, rfl⟩
theorem d1_11 : decode prog_46_method_6_code 11 = .ok (.iconst 0, 1) := by decide +kernel
def Q_rm1b (Z : State) (a1 : Addr)  (h0 : Heap) (n0 : Nat) (v : Option Value) (h : Heap) (L : List Loc) : Prop := v = some (.int (0 : Int32)) ∧ Fr n0 L ∧ h = h0
set_option maxRecDepth 65536 in
set_option maxHeartbeats 40000000 in
theorem rm1b (l : Launch) (Z : State) (a0 : Array Value) (hw : ∀ d ∈ tables_1, d.before a0 Z = true) (ws : List Jvm.Cond) (a1 : Addr)  (h0 : Heap) (n0 : Nat) (Z0 : n0 ≤ h0.size) (F : Fld Z h0 a1 "com/example/heft/heft/model/CombiningAlgorithm" "ruleIdentifier" "Ljava/lang/String;" .null) :
    MetFree l (⟨"com/example/heft/heft/model/CombiningAlgorithm", "combinesRules", "()Z"⟩ : MethodName) (head1 (Jvm.Cond.code (⟨"com/example/heft/heft/model/CombiningAlgorithm", "combinesRules", "()Z"⟩ : MethodName) prog_46_method_6_code 1 (some .boolean) :: ws) ({ frames := 0, cells := 0, slots := 0, locals := 0 } : Room)) (fun a U => a = #[(.ref a1)] ∧ Z.Warmed39 U.vm ∧ U.heap = h0) (fun _ _ _ _ _ => True) (fun _ U o U' => ∃ v L, o = .returned v ∧ Q_rm1b Z a1 h0 n0 v U'.heap L ∧ FrameEnd U o U' L ({ frames := 0, cells := 0, slots := 0, locals := 0 } : Room).cells ({ frames := 0, cells := 0, slots := 0, locals := 0 } : Room).slots) := by
  refine MetFree.of_bodySF (plainFor_of_name pn_com_example_heft_heft_model_CombiningAlgorithm) hisR ?_
  intro p e s m args below meth c s₁ Bd hml0 hP hK
  obtain ⟨rfl, hZ, hh⟩ := hP
  have hx := Bd.exec
  have hby := Bd.bytes
  have hml : c.maxLocals = 1 := hml0
  have hown : s.vm.findClass "com/example/heft/heft/model/CombiningAlgorithm" = some m.cls := findClass_of_methodNamed Bd.named
  have hnm := (name_of_methodNamed Bd.named Bd.method).1
  have X0 : Stand p l e ({ frames := 0, cells := 0, slots := 0, locals := 0 } : Room) s m #[(.ref a1)] below meth c s₁ [] 0 0 := Stand.of_body Bd
  have e0 : s₁.heap = h0 := by rw [← hh, Bd.state]; rfl
  have N0 := Fr.nil n0
  have go0 : Goes p e below s₁ (entryFrame m #[(.ref a1)] 1) s₁ (mkF m 0 #[.val (.ref a1)] []) := fun t k => castTop (by first | (simp [entryFrame, mkF, argsToLocals, Value.category]; done) | rfl) k
  have go4 : Goes p e below s₁ (entryFrame m #[(.ref a1)] 1) s₁ (mkF m 1 #[.val (.ref a1)] [(.ref a1)]) := fun t k => go0 t (by
    show Steps p.tables e below (s₁.setTop (mkF m 0 #[.val (.ref a1)] [])) _
    refine XS.aloadN X0.here hx rfl (hb hby d1_0) rfl rfl ?_
    exact k)
  obtain ⟨T5, X5, e5, st5⟩ := getF X0 hx hZ hown (host := "") (Or.inl (hw _ (List.mem_of_getElem? (i := 34) rfl))) Via.refl e0 F (g := (mkF m 1 #[.val (.ref a1)] [(.ref a1)])) rfl rfl (hb hby d1_1)
  have go5 : Goes p e below s₁ (entryFrame m #[(.ref a1)] 1) T5 (mkF m 4 #[.val (.ref a1)] [.null]) := fun t k => go4 t (st5 _ k)
  have go6 : Goes p e below s₁ (entryFrame m #[(.ref a1)] 1) T5 (mkF m 12 #[.val (.ref a1)] [(.int (0 : Int32))]) := fun t k => go5 t (by
    show Steps p.tables e below (T5.setTop (mkF m 4 #[.val (.ref a1)] [.null])) _
    refine XS.ifnullYes X5.here hx rfl (pc0 := 4) (pc' := 11) rfl (hb hby d1_4) rfl (by decide) (by decide) ?_
    show Steps p.tables e below (T5.setTop (mkF m 11 #[.val (.ref a1)] [])) _
    refine XS.iconst X5.here hx rfl (hb hby d1_11) ?_
    exact k)
  obtain ⟨fs, hr, hrun, hended, hW, hsame⟩ := X5.leave (v := some (.int (0 : Int32))) (fun h => by rw [Bd.returns] at h; cases h)
  refine ⟨_, _, go6 _ ?_, hrun, hended, _, _, rfl, ?_, ⟨_, rfl⟩, hW, hsame.mono (by decide) (by decide)⟩
  · exact retN X5 hx (t := .boolean) Bd.returns (by simp) (hb hby d1_12) hr
  · show Q_rm1b Z a1 h0 n0 _ T5.heap _
    rw [e5]
    exact ⟨rfl, N0, rfl⟩
theorem own_k (b : Int32) : ∃ n : Nat, n < 12 ∧ ((b &&& (2147483647 : Int32)) % (12 : Int32)) = Int32.ofNat n := by
  have h : 0 ≤ (b &&& (2147483647 : Int32)).toInt := by
    rw [Jvm.Kit.i32_mask b 2147483647 (k := 31) (by decide) (by decide)]; omega
  have e : ((b &&& (2147483647 : Int32)) % (12 : Int32)).toInt = (b &&& (2147483647 : Int32)).toInt % 12 := by
    rw [Jvm.Kit.i32_rem_nonneg h]; rfl
  refine ⟨((b &&& (2147483647 : Int32)) % (12 : Int32)).toInt.toNat, by omega, ?_⟩
  apply Int32.toInt_inj.mp
  rw [Int32.toInt_ofNat_small (by omega)]; omega
theorem own_12 {n : Nat} (h : n < 12) : n = 0 ∨ n = 1 ∨ n = 2 ∨ n = 3 ∨ n = 4 ∨ n = 5 ∨ n = 6 ∨ n = 7 ∨ n = 8 ∨ n = 9 ∨ n = 10 ∨ n = 11 := by omega
theorem pd_0 : parseMethodDescriptor "()Z" = some ⟨[], some .boolean⟩ := by decide +kernel
def Q_rm0 (Z : State) (p1 : Int32) (w0 w1 w2 w3 w4 w5 w6 w7 w8 w9 w10 w11 r0 r1 r2 r3 r4 r5 r6 r8 r9 r10 r11 : Addr) (h0 : Heap) (n0 : Nat) (v : Option Value) (h : Heap) (L : List Loc) : Prop := v = some (.int (1 : Int32)) ∧ Fr n0 L
theorem pn_com_example_heft_heft_model_CombiningAlgorithmCombinesRulesPinLaw : plainName "com/example/heft/heft/model/CombiningAlgorithmCombinesRulesPinLaw" = true := by first | (simp [plainName, overriddenIn]; done) | decide +kernel
set_option maxRecDepth 65536 in
set_option maxHeartbeats 40000000 in
theorem rm0 (l : Launch) (Z : State) (a0 : Array Value) (hw : ∀ d ∈ tables_1, d.before a0 Z = true) (ws : List Jvm.Cond) (p1 : Int32) (w0 w1 w2 w3 w4 w5 w6 w7 w8 w9 w10 w11 r0 r1 r2 r3 r4 r5 r6 r8 r9 r10 r11 : Addr) (h0 : Heap) (n0 : Nat) (Z0 : n0 ≤ h0.size) (O0 : Old Z n0 h0) (SL0 : Sta Z Z.heap "com/example/heft/heft/model/CombiningAlgorithm" "DENY_OVERRIDES" "Lcom/example/heft/heft/model/CombiningAlgorithm;" (.ref w0)) (AL0 : Exa Z Z.heap w0 "com/example/heft/heft/model/CombiningAlgorithm") (FL0 : Fld Z Z.heap w0 "com/example/heft/heft/model/CombiningAlgorithm" "ruleIdentifier" "Ljava/lang/String;" (.ref r0)) (SL1 : Sta Z Z.heap "com/example/heft/heft/model/CombiningAlgorithm" "PERMIT_OVERRIDES" "Lcom/example/heft/heft/model/CombiningAlgorithm;" (.ref w1)) (AL1 : Exa Z Z.heap w1 "com/example/heft/heft/model/CombiningAlgorithm") (FL1 : Fld Z Z.heap w1 "com/example/heft/heft/model/CombiningAlgorithm" "ruleIdentifier" "Ljava/lang/String;" (.ref r1)) (SL2 : Sta Z Z.heap "com/example/heft/heft/model/CombiningAlgorithm" "ORDERED_DENY_OVERRIDES" "Lcom/example/heft/heft/model/CombiningAlgorithm;" (.ref w2)) (AL2 : Exa Z Z.heap w2 "com/example/heft/heft/model/CombiningAlgorithm") (FL2 : Fld Z Z.heap w2 "com/example/heft/heft/model/CombiningAlgorithm" "ruleIdentifier" "Ljava/lang/String;" (.ref r2)) (SL3 : Sta Z Z.heap "com/example/heft/heft/model/CombiningAlgorithm" "ORDERED_PERMIT_OVERRIDES" "Lcom/example/heft/heft/model/CombiningAlgorithm;" (.ref w3)) (AL3 : Exa Z Z.heap w3 "com/example/heft/heft/model/CombiningAlgorithm") (FL3 : Fld Z Z.heap w3 "com/example/heft/heft/model/CombiningAlgorithm" "ruleIdentifier" "Ljava/lang/String;" (.ref r3)) (SL4 : Sta Z Z.heap "com/example/heft/heft/model/CombiningAlgorithm" "DENY_UNLESS_PERMIT" "Lcom/example/heft/heft/model/CombiningAlgorithm;" (.ref w4)) (AL4 : Exa Z Z.heap w4 "com/example/heft/heft/model/CombiningAlgorithm") (FL4 : Fld Z Z.heap w4 "com/example/heft/heft/model/CombiningAlgorithm" "ruleIdentifier" "Ljava/lang/String;" (.ref r4)) (SL5 : Sta Z Z.heap "com/example/heft/heft/model/CombiningAlgorithm" "PERMIT_UNLESS_DENY" "Lcom/example/heft/heft/model/CombiningAlgorithm;" (.ref w5)) (AL5 : Exa Z Z.heap w5 "com/example/heft/heft/model/CombiningAlgorithm") (FL5 : Fld Z Z.heap w5 "com/example/heft/heft/model/CombiningAlgorithm" "ruleIdentifier" "Ljava/lang/String;" (.ref r5)) (SL6 : Sta Z Z.heap "com/example/heft/heft/model/CombiningAlgorithm" "FIRST_APPLICABLE" "Lcom/example/heft/heft/model/CombiningAlgorithm;" (.ref w6)) (AL6 : Exa Z Z.heap w6 "com/example/heft/heft/model/CombiningAlgorithm") (FL6 : Fld Z Z.heap w6 "com/example/heft/heft/model/CombiningAlgorithm" "ruleIdentifier" "Ljava/lang/String;" (.ref r6)) (SL7 : Sta Z Z.heap "com/example/heft/heft/model/CombiningAlgorithm" "ONLY_ONE_APPLICABLE" "Lcom/example/heft/heft/model/CombiningAlgorithm;" (.ref w7)) (AL7 : Exa Z Z.heap w7 "com/example/heft/heft/model/CombiningAlgorithm") (FL7 : Fld Z Z.heap w7 "com/example/heft/heft/model/CombiningAlgorithm" "ruleIdentifier" "Ljava/lang/String;" .null) (SL8 : Sta Z Z.heap "com/example/heft/heft/model/CombiningAlgorithm" "LEGACY_DENY_OVERRIDES" "Lcom/example/heft/heft/model/CombiningAlgorithm;" (.ref w8)) (AL8 : Exa Z Z.heap w8 "com/example/heft/heft/model/CombiningAlgorithm") (FL8 : Fld Z Z.heap w8 "com/example/heft/heft/model/CombiningAlgorithm" "ruleIdentifier" "Ljava/lang/String;" (.ref r8)) (SL9 : Sta Z Z.heap "com/example/heft/heft/model/CombiningAlgorithm" "LEGACY_PERMIT_OVERRIDES" "Lcom/example/heft/heft/model/CombiningAlgorithm;" (.ref w9)) (AL9 : Exa Z Z.heap w9 "com/example/heft/heft/model/CombiningAlgorithm") (FL9 : Fld Z Z.heap w9 "com/example/heft/heft/model/CombiningAlgorithm" "ruleIdentifier" "Ljava/lang/String;" (.ref r9)) (SL10 : Sta Z Z.heap "com/example/heft/heft/model/CombiningAlgorithm" "LEGACY_ORDERED_DENY_OVERRIDES" "Lcom/example/heft/heft/model/CombiningAlgorithm;" (.ref w10)) (AL10 : Exa Z Z.heap w10 "com/example/heft/heft/model/CombiningAlgorithm") (FL10 : Fld Z Z.heap w10 "com/example/heft/heft/model/CombiningAlgorithm" "ruleIdentifier" "Ljava/lang/String;" (.ref r10)) (SL11 : Sta Z Z.heap "com/example/heft/heft/model/CombiningAlgorithm" "LEGACY_ORDERED_PERMIT_OVERRIDES" "Lcom/example/heft/heft/model/CombiningAlgorithm;" (.ref w11)) (AL11 : Exa Z Z.heap w11 "com/example/heft/heft/model/CombiningAlgorithm") (FL11 : Fld Z Z.heap w11 "com/example/heft/heft/model/CombiningAlgorithm" "ruleIdentifier" "Ljava/lang/String;" (.ref r11)) :
    MetFree l x (head1 (Jvm.Cond.code x code maxLocals ret :: ws) room_1) (fun a U => a = #[(.int p1)] ∧ Z.Warmed39 U.vm ∧ U.heap = h0) (fun _ _ _ _ _ => True) (fun _ U o U' => ∃ v L, o = .returned v ∧ Q_rm0 Z p1 w0 w1 w2 w3 w4 w5 w6 w7 w8 w9 w10 w11 r0 r1 r2 r3 r4 r5 r6 r8 r9 r10 r11 h0 n0 v U'.heap L ∧ FrameEnd U o U' L room_1.cells room_1.slots) := by
  refine MetFree.of_bodySF (plainFor_of_name pn_com_example_heft_heft_model_CombiningAlgorithmCombinesRulesPinLaw) hisR ?_
  intro p e s m args below meth c s₁ Bd hml0 hP hK
  obtain ⟨rfl, hZ, hh⟩ := hP
  have hx := Bd.exec
  have hby := Bd.bytes
  have hml : c.maxLocals = 5 := hml0
  have hown : s.vm.findClass "com/example/heft/heft/model/CombiningAlgorithmCombinesRulesPinLaw" = some m.cls := findClass_of_methodNamed Bd.named
  have hnm := (name_of_methodNamed Bd.named Bd.method).1
  have X0 : Stand p l e room_1 s m #[(.int p1)] below meth c s₁ [] 0 0 := Stand.of_body Bd
  have e0 : s₁.heap = h0 := by rw [← hh, Bd.state]; rfl
  have N0 := Fr.nil n0
  have go0 : Goes p e below s₁ (entryFrame m #[(.int p1)] maxLocals) s₁ (mkF m 0 #[.val (.int p1), .unset, .unset, .unset, .unset] []) := fun t k => castTop (by first | (simp [entryFrame, mkF, argsToLocals, Value.category, maxLocals]; done) | rfl) k
  have go7 : Goes p e below s₁ (entryFrame m #[(.int p1)] maxLocals) s₁ (mkF m 2 #[.val (.int p1), .unset, .unset, .unset, .unset] [(.int (12 : Int32))]) := fun t k => go0 t (by
    show Steps p.tables e below (s₁.setTop (mkF m 0 #[.val (.int p1), .unset, .unset, .unset, .unset] [])) _
    refine XS.bipush X0.here hx rfl (hb hby at_0) ?_
    exact k)
  obtain ⟨T8, h8, k8, X8, e8, E8, A8, Ov8, st8⟩ := newR X0 hx hZ hown (hw _ (List.mem_of_getElem? (i := 0) rfl)) (hw _ (List.mem_of_getElem? (i := 1) rfl)) e0 (g := (mkF m 2 #[.val (.int p1), .unset, .unset, .unset, .unset] [(.int (12 : Int32))])) rfl (hb hby at_2) rfl (by decide) (cap := 12) (by decide) (by decide) (by decide) (by decide)
  obtain ⟨b8, g8⟩ : ∃ z, z = h0.size := ⟨_, rfl⟩
  rw [← g8] at A8 st8
  have g_b8 : n0 ≤ b8 := Nat.le_trans Z0 (Nat.le_of_eq g8.symm)
  have O8 := O0.ext E8
  have ZS8 : n0 ≤ h8.size := Nat.le_trans Z0 E8.1
  have V8 : Arv Z h8 b8 k8 (.object "com/example/heft/heft/model/CombiningAlgorithm") (12 : Int32) [.null, .null, .null, .null, .null, .null, .null, .null, .null, .null, .null, .null] .null := (Arv.new A8 (by decide)).pad (pad_rep [] .null 12)
  have ne9 : w0 ≠ b8 := Nat.ne_of_lt (Nat.lt_of_lt_of_le (AL0.ext O0.2).lt (Nat.le_of_eq g8.symm))
  have ne10 : w1 ≠ b8 := Nat.ne_of_lt (Nat.lt_of_lt_of_le (AL1.ext O0.2).lt (Nat.le_of_eq g8.symm))
  have ne11 : w2 ≠ b8 := Nat.ne_of_lt (Nat.lt_of_lt_of_le (AL2.ext O0.2).lt (Nat.le_of_eq g8.symm))
  have ne12 : w3 ≠ b8 := Nat.ne_of_lt (Nat.lt_of_lt_of_le (AL3.ext O0.2).lt (Nat.le_of_eq g8.symm))
  have ne13 : w4 ≠ b8 := Nat.ne_of_lt (Nat.lt_of_lt_of_le (AL4.ext O0.2).lt (Nat.le_of_eq g8.symm))
  have ne14 : w5 ≠ b8 := Nat.ne_of_lt (Nat.lt_of_lt_of_le (AL5.ext O0.2).lt (Nat.le_of_eq g8.symm))
  have ne15 : w6 ≠ b8 := Nat.ne_of_lt (Nat.lt_of_lt_of_le (AL6.ext O0.2).lt (Nat.le_of_eq g8.symm))
  have ne16 : w7 ≠ b8 := Nat.ne_of_lt (Nat.lt_of_lt_of_le (AL7.ext O0.2).lt (Nat.le_of_eq g8.symm))
  have ne17 : w8 ≠ b8 := Nat.ne_of_lt (Nat.lt_of_lt_of_le (AL8.ext O0.2).lt (Nat.le_of_eq g8.symm))
  have ne18 : w9 ≠ b8 := Nat.ne_of_lt (Nat.lt_of_lt_of_le (AL9.ext O0.2).lt (Nat.le_of_eq g8.symm))
  have ne19 : w10 ≠ b8 := Nat.ne_of_lt (Nat.lt_of_lt_of_le (AL10.ext O0.2).lt (Nat.le_of_eq g8.symm))
  have ne20 : w11 ≠ b8 := Nat.ne_of_lt (Nat.lt_of_lt_of_le (AL11.ext O0.2).lt (Nat.le_of_eq g8.symm))
  have go8 : Goes p e below s₁ (entryFrame m #[(.int p1)] maxLocals) T8 (mkF m 5 #[.val (.int p1), .unset, .unset, .unset, .unset] [(.ref b8)]) := fun t k => go7 t (st8 _ k)
  have go21 : Goes p e below s₁ (entryFrame m #[(.int p1)] maxLocals) T8 (mkF m 7 #[.val (.int p1), .unset, .unset, .unset, .unset] [(.int (0 : Int32)), (.ref b8), (.ref b8)]) := fun t k => go8 t (by
    show Steps p.tables e below (T8.setTop (mkF m 5 #[.val (.int p1), .unset, .unset, .unset, .unset] [(.ref b8)])) _
    refine XS.dup X8.here hx rfl (hb hby at_5) rfl rfl ?_
    show Steps p.tables e below (T8.setTop (mkF m 6 #[.val (.int p1), .unset, .unset, .unset, .unset] [(.ref b8), (.ref b8)])) _
    refine XS.iconst X8.here hx rfl (hb hby at_6) ?_
    exact k)
  obtain ⟨T22, X22, e22, st22⟩ := getS2 X8 hx hZ hown (host := "") (Or.inl (hw _ (List.mem_of_getElem? (i := 2) rfl))) Via.refl e8 (SL0.ext O8.2) (g := (mkF m 7 #[.val (.int p1), .unset, .unset, .unset, .unset] [(.int (0 : Int32)), (.ref b8), (.ref b8)])) rfl (hb hby at_7)
  have go22 : Goes p e below s₁ (entryFrame m #[(.int p1)] maxLocals) T22 (mkF m 10 #[.val (.int p1), .unset, .unset, .unset, .unset] [(.ref w0), (.int (0 : Int32)), (.ref b8), (.ref b8)]) := fun t k => go21 t (st22 _ k)
  obtain ⟨cl23, Ar23, q23, S23, N_23, H23, G23⟩ := V8
  have hin23 : ¬ ((0 : Int32) < 0 ∨ cl23.slots.size ≤ ((0 : Int32)).toNatClampNeg) := inb_of S23 ⟨by decide, by decide⟩
  obtain ⟨T24, h24, X24, e24, W24, st24⟩ := stR X22 hx hZ e22 Ar23 (j := (0 : Int32)) hin23 rfl (Sto.ofV Ar23 q23 Ov8 (Ins.self (AL0.ext O8.2))) (g := (mkF m 10 #[.val (.int p1), .unset, .unset, .unset, .unset] [(.ref w0), (.int (0 : Int32)), (.ref b8), (.ref b8)])) rfl rfl (hb hby at_10)
  have N24 := Fr.snoc X24 N0 g_b8
  have O24 := O8.wr W24 g_b8
  have ZS24 : n0 ≤ h24.size := Nat.le_trans ZS8 (Keep.of_wr W24).1
  have V24 : Arv Z h24 b8 k8 (.object "com/example/heft/heft/model/CombiningAlgorithm") (12 : Int32) [(.ref w0), .null, .null, .null, .null, .null, .null, .null, .null, .null, .null, .null] .null := Arv.set Ar23 q23 S23 N_23 H23 G23 rfl W24 0 rfl (Nat.le_of_ble_eq_true rfl)
  have go24 : Goes p e below s₁ (entryFrame m #[(.int p1)] maxLocals) T24 (mkF m 11 #[.val (.int p1), .unset, .unset, .unset, .unset] [(.ref b8)]) := fun t k => go22 t (st24 _ k)
  have go25 : Goes p e below s₁ (entryFrame m #[(.int p1)] maxLocals) T24 (mkF m 13 #[.val (.int p1), .unset, .unset, .unset, .unset] [(.int (1 : Int32)), (.ref b8), (.ref b8)]) := fun t k => go24 t (by
    show Steps p.tables e below (T24.setTop (mkF m 11 #[.val (.int p1), .unset, .unset, .unset, .unset] [(.ref b8)])) _
    refine XS.dup X24.here hx rfl (hb hby at_11) rfl rfl ?_
    show Steps p.tables e below (T24.setTop (mkF m 12 #[.val (.int p1), .unset, .unset, .unset, .unset] [(.ref b8), (.ref b8)])) _
    refine XS.iconst X24.here hx rfl (hb hby at_12) ?_
    exact k)
  obtain ⟨T26, X26, e26, st26⟩ := getS2 X24 hx hZ hown (host := "") (Or.inl (hw _ (List.mem_of_getElem? (i := 6) rfl))) Via.refl e24 (SL1.ext O24.2) (g := (mkF m 13 #[.val (.int p1), .unset, .unset, .unset, .unset] [(.int (1 : Int32)), (.ref b8), (.ref b8)])) rfl (hb hby at_13)
  have go26 : Goes p e below s₁ (entryFrame m #[(.int p1)] maxLocals) T26 (mkF m 16 #[.val (.int p1), .unset, .unset, .unset, .unset] [(.ref w1), (.int (1 : Int32)), (.ref b8), (.ref b8)]) := fun t k => go25 t (st26 _ k)
  obtain ⟨cl27, Ar27, q27, S27, N_27, H27, G27⟩ := V24
  have hin27 : ¬ ((1 : Int32) < 0 ∨ cl27.slots.size ≤ ((1 : Int32)).toNatClampNeg) := inb_of S27 ⟨by decide, by decide⟩
  obtain ⟨T28, h28, X28, e28, W28, st28⟩ := stR X26 hx hZ e26 Ar27 (j := (1 : Int32)) hin27 rfl (Sto.ofV Ar27 q27 Ov8 (Ins.self (AL1.ext O24.2))) (g := (mkF m 16 #[.val (.int p1), .unset, .unset, .unset, .unset] [(.ref w1), (.int (1 : Int32)), (.ref b8), (.ref b8)])) rfl rfl (hb hby at_16)
  have N28 := Fr.snoc X28 N24 g_b8
  have O28 := O24.wr W28 g_b8
  have ZS28 : n0 ≤ h28.size := Nat.le_trans ZS24 (Keep.of_wr W28).1
  have V28 : Arv Z h28 b8 k8 (.object "com/example/heft/heft/model/CombiningAlgorithm") (12 : Int32) [(.ref w0), (.ref w1), .null, .null, .null, .null, .null, .null, .null, .null, .null, .null] .null := Arv.set Ar27 q27 S27 N_27 H27 G27 rfl W28 1 rfl (Nat.le_of_ble_eq_true rfl)
  have go28 : Goes p e below s₁ (entryFrame m #[(.int p1)] maxLocals) T28 (mkF m 17 #[.val (.int p1), .unset, .unset, .unset, .unset] [(.ref b8)]) := fun t k => go26 t (st28 _ k)
  have go29 : Goes p e below s₁ (entryFrame m #[(.int p1)] maxLocals) T28 (mkF m 19 #[.val (.int p1), .unset, .unset, .unset, .unset] [(.int (2 : Int32)), (.ref b8), (.ref b8)]) := fun t k => go28 t (by
    show Steps p.tables e below (T28.setTop (mkF m 17 #[.val (.int p1), .unset, .unset, .unset, .unset] [(.ref b8)])) _
    refine XS.dup X28.here hx rfl (hb hby at_17) rfl rfl ?_
    show Steps p.tables e below (T28.setTop (mkF m 18 #[.val (.int p1), .unset, .unset, .unset, .unset] [(.ref b8), (.ref b8)])) _
    refine XS.iconst X28.here hx rfl (hb hby at_18) ?_
    exact k)
  obtain ⟨T30, X30, e30, st30⟩ := getS2 X28 hx hZ hown (host := "") (Or.inl (hw _ (List.mem_of_getElem? (i := 8) rfl))) Via.refl e28 (SL2.ext O28.2) (g := (mkF m 19 #[.val (.int p1), .unset, .unset, .unset, .unset] [(.int (2 : Int32)), (.ref b8), (.ref b8)])) rfl (hb hby at_19)
  have go30 : Goes p e below s₁ (entryFrame m #[(.int p1)] maxLocals) T30 (mkF m 22 #[.val (.int p1), .unset, .unset, .unset, .unset] [(.ref w2), (.int (2 : Int32)), (.ref b8), (.ref b8)]) := fun t k => go29 t (st30 _ k)
  obtain ⟨cl31, Ar31, q31, S31, N_31, H31, G31⟩ := V28
  have hin31 : ¬ ((2 : Int32) < 0 ∨ cl31.slots.size ≤ ((2 : Int32)).toNatClampNeg) := inb_of S31 ⟨by decide, by decide⟩
  obtain ⟨T32, h32, X32, e32, W32, st32⟩ := stR X30 hx hZ e30 Ar31 (j := (2 : Int32)) hin31 rfl (Sto.ofV Ar31 q31 Ov8 (Ins.self (AL2.ext O28.2))) (g := (mkF m 22 #[.val (.int p1), .unset, .unset, .unset, .unset] [(.ref w2), (.int (2 : Int32)), (.ref b8), (.ref b8)])) rfl rfl (hb hby at_22)
  have N32 := Fr.snoc X32 N28 g_b8
  have O32 := O28.wr W32 g_b8
  have ZS32 : n0 ≤ h32.size := Nat.le_trans ZS28 (Keep.of_wr W32).1
  have V32 : Arv Z h32 b8 k8 (.object "com/example/heft/heft/model/CombiningAlgorithm") (12 : Int32) [(.ref w0), (.ref w1), (.ref w2), .null, .null, .null, .null, .null, .null, .null, .null, .null] .null := Arv.set Ar31 q31 S31 N_31 H31 G31 rfl W32 2 rfl (Nat.le_of_ble_eq_true rfl)
  have go32 : Goes p e below s₁ (entryFrame m #[(.int p1)] maxLocals) T32 (mkF m 23 #[.val (.int p1), .unset, .unset, .unset, .unset] [(.ref b8)]) := fun t k => go30 t (st32 _ k)
  have go33 : Goes p e below s₁ (entryFrame m #[(.int p1)] maxLocals) T32 (mkF m 25 #[.val (.int p1), .unset, .unset, .unset, .unset] [(.int (3 : Int32)), (.ref b8), (.ref b8)]) := fun t k => go32 t (by
    show Steps p.tables e below (T32.setTop (mkF m 23 #[.val (.int p1), .unset, .unset, .unset, .unset] [(.ref b8)])) _
    refine XS.dup X32.here hx rfl (hb hby at_23) rfl rfl ?_
    show Steps p.tables e below (T32.setTop (mkF m 24 #[.val (.int p1), .unset, .unset, .unset, .unset] [(.ref b8), (.ref b8)])) _
    refine XS.iconst X32.here hx rfl (hb hby at_24) ?_
    exact k)
  obtain ⟨T34, X34, e34, st34⟩ := getS2 X32 hx hZ hown (host := "") (Or.inl (hw _ (List.mem_of_getElem? (i := 10) rfl))) Via.refl e32 (SL3.ext O32.2) (g := (mkF m 25 #[.val (.int p1), .unset, .unset, .unset, .unset] [(.int (3 : Int32)), (.ref b8), (.ref b8)])) rfl (hb hby at_25)
  have go34 : Goes p e below s₁ (entryFrame m #[(.int p1)] maxLocals) T34 (mkF m 28 #[.val (.int p1), .unset, .unset, .unset, .unset] [(.ref w3), (.int (3 : Int32)), (.ref b8), (.ref b8)]) := fun t k => go33 t (st34 _ k)
  obtain ⟨cl35, Ar35, q35, S35, N_35, H35, G35⟩ := V32
  have hin35 : ¬ ((3 : Int32) < 0 ∨ cl35.slots.size ≤ ((3 : Int32)).toNatClampNeg) := inb_of S35 ⟨by decide, by decide⟩
  obtain ⟨T36, h36, X36, e36, W36, st36⟩ := stR X34 hx hZ e34 Ar35 (j := (3 : Int32)) hin35 rfl (Sto.ofV Ar35 q35 Ov8 (Ins.self (AL3.ext O32.2))) (g := (mkF m 28 #[.val (.int p1), .unset, .unset, .unset, .unset] [(.ref w3), (.int (3 : Int32)), (.ref b8), (.ref b8)])) rfl rfl (hb hby at_28)
  have N36 := Fr.snoc X36 N32 g_b8
  have O36 := O32.wr W36 g_b8
  have ZS36 : n0 ≤ h36.size := Nat.le_trans ZS32 (Keep.of_wr W36).1
  have V36 : Arv Z h36 b8 k8 (.object "com/example/heft/heft/model/CombiningAlgorithm") (12 : Int32) [(.ref w0), (.ref w1), (.ref w2), (.ref w3), .null, .null, .null, .null, .null, .null, .null, .null] .null := Arv.set Ar35 q35 S35 N_35 H35 G35 rfl W36 3 rfl (Nat.le_of_ble_eq_true rfl)
  have go36 : Goes p e below s₁ (entryFrame m #[(.int p1)] maxLocals) T36 (mkF m 29 #[.val (.int p1), .unset, .unset, .unset, .unset] [(.ref b8)]) := fun t k => go34 t (st36 _ k)
  have go37 : Goes p e below s₁ (entryFrame m #[(.int p1)] maxLocals) T36 (mkF m 31 #[.val (.int p1), .unset, .unset, .unset, .unset] [(.int (4 : Int32)), (.ref b8), (.ref b8)]) := fun t k => go36 t (by
    show Steps p.tables e below (T36.setTop (mkF m 29 #[.val (.int p1), .unset, .unset, .unset, .unset] [(.ref b8)])) _
    refine XS.dup X36.here hx rfl (hb hby at_29) rfl rfl ?_
    show Steps p.tables e below (T36.setTop (mkF m 30 #[.val (.int p1), .unset, .unset, .unset, .unset] [(.ref b8), (.ref b8)])) _
    refine XS.iconst X36.here hx rfl (hb hby at_30) ?_
    exact k)
  obtain ⟨T38, X38, e38, st38⟩ := getS2 X36 hx hZ hown (host := "") (Or.inl (hw _ (List.mem_of_getElem? (i := 12) rfl))) Via.refl e36 (SL4.ext O36.2) (g := (mkF m 31 #[.val (.int p1), .unset, .unset, .unset, .unset] [(.int (4 : Int32)), (.ref b8), (.ref b8)])) rfl (hb hby at_31)
  have go38 : Goes p e below s₁ (entryFrame m #[(.int p1)] maxLocals) T38 (mkF m 34 #[.val (.int p1), .unset, .unset, .unset, .unset] [(.ref w4), (.int (4 : Int32)), (.ref b8), (.ref b8)]) := fun t k => go37 t (st38 _ k)
  obtain ⟨cl39, Ar39, q39, S39, N_39, H39, G39⟩ := V36
  have hin39 : ¬ ((4 : Int32) < 0 ∨ cl39.slots.size ≤ ((4 : Int32)).toNatClampNeg) := inb_of S39 ⟨by decide, by decide⟩
  obtain ⟨T40, h40, X40, e40, W40, st40⟩ := stR X38 hx hZ e38 Ar39 (j := (4 : Int32)) hin39 rfl (Sto.ofV Ar39 q39 Ov8 (Ins.self (AL4.ext O36.2))) (g := (mkF m 34 #[.val (.int p1), .unset, .unset, .unset, .unset] [(.ref w4), (.int (4 : Int32)), (.ref b8), (.ref b8)])) rfl rfl (hb hby at_34)
  have N40 := Fr.snoc X40 N36 g_b8
  have O40 := O36.wr W40 g_b8
  have ZS40 : n0 ≤ h40.size := Nat.le_trans ZS36 (Keep.of_wr W40).1
  have V40 : Arv Z h40 b8 k8 (.object "com/example/heft/heft/model/CombiningAlgorithm") (12 : Int32) [(.ref w0), (.ref w1), (.ref w2), (.ref w3), (.ref w4), .null, .null, .null, .null, .null, .null, .null] .null := Arv.set Ar39 q39 S39 N_39 H39 G39 rfl W40 4 rfl (Nat.le_of_ble_eq_true rfl)
  have go40 : Goes p e below s₁ (entryFrame m #[(.int p1)] maxLocals) T40 (mkF m 35 #[.val (.int p1), .unset, .unset, .unset, .unset] [(.ref b8)]) := fun t k => go38 t (st40 _ k)
  have go41 : Goes p e below s₁ (entryFrame m #[(.int p1)] maxLocals) T40 (mkF m 37 #[.val (.int p1), .unset, .unset, .unset, .unset] [(.int (5 : Int32)), (.ref b8), (.ref b8)]) := fun t k => go40 t (by
    show Steps p.tables e below (T40.setTop (mkF m 35 #[.val (.int p1), .unset, .unset, .unset, .unset] [(.ref b8)])) _
    refine XS.dup X40.here hx rfl (hb hby at_35) rfl rfl ?_
    show Steps p.tables e below (T40.setTop (mkF m 36 #[.val (.int p1), .unset, .unset, .unset, .unset] [(.ref b8), (.ref b8)])) _
    refine XS.iconst X40.here hx rfl (hb hby at_36) ?_
    exact k)
  obtain ⟨T42, X42, e42, st42⟩ := getS2 X40 hx hZ hown (host := "") (Or.inl (hw _ (List.mem_of_getElem? (i := 14) rfl))) Via.refl e40 (SL5.ext O40.2) (g := (mkF m 37 #[.val (.int p1), .unset, .unset, .unset, .unset] [(.int (5 : Int32)), (.ref b8), (.ref b8)])) rfl (hb hby at_37)
  have go42 : Goes p e below s₁ (entryFrame m #[(.int p1)] maxLocals) T42 (mkF m 40 #[.val (.int p1), .unset, .unset, .unset, .unset] [(.ref w5), (.int (5 : Int32)), (.ref b8), (.ref b8)]) := fun t k => go41 t (st42 _ k)
  obtain ⟨cl43, Ar43, q43, S43, N_43, H43, G43⟩ := V40
  have hin43 : ¬ ((5 : Int32) < 0 ∨ cl43.slots.size ≤ ((5 : Int32)).toNatClampNeg) := inb_of S43 ⟨by decide, by decide⟩
  obtain ⟨T44, h44, X44, e44, W44, st44⟩ := stR X42 hx hZ e42 Ar43 (j := (5 : Int32)) hin43 rfl (Sto.ofV Ar43 q43 Ov8 (Ins.self (AL5.ext O40.2))) (g := (mkF m 40 #[.val (.int p1), .unset, .unset, .unset, .unset] [(.ref w5), (.int (5 : Int32)), (.ref b8), (.ref b8)])) rfl rfl (hb hby at_40)
  have N44 := Fr.snoc X44 N40 g_b8
  have O44 := O40.wr W44 g_b8
  have ZS44 : n0 ≤ h44.size := Nat.le_trans ZS40 (Keep.of_wr W44).1
  have V44 : Arv Z h44 b8 k8 (.object "com/example/heft/heft/model/CombiningAlgorithm") (12 : Int32) [(.ref w0), (.ref w1), (.ref w2), (.ref w3), (.ref w4), (.ref w5), .null, .null, .null, .null, .null, .null] .null := Arv.set Ar43 q43 S43 N_43 H43 G43 rfl W44 5 rfl (Nat.le_of_ble_eq_true rfl)
  have go44 : Goes p e below s₁ (entryFrame m #[(.int p1)] maxLocals) T44 (mkF m 41 #[.val (.int p1), .unset, .unset, .unset, .unset] [(.ref b8)]) := fun t k => go42 t (st44 _ k)
  have go45 : Goes p e below s₁ (entryFrame m #[(.int p1)] maxLocals) T44 (mkF m 44 #[.val (.int p1), .unset, .unset, .unset, .unset] [(.int (6 : Int32)), (.ref b8), (.ref b8)]) := fun t k => go44 t (by
    show Steps p.tables e below (T44.setTop (mkF m 41 #[.val (.int p1), .unset, .unset, .unset, .unset] [(.ref b8)])) _
    refine XS.dup X44.here hx rfl (hb hby at_41) rfl rfl ?_
    show Steps p.tables e below (T44.setTop (mkF m 42 #[.val (.int p1), .unset, .unset, .unset, .unset] [(.ref b8), (.ref b8)])) _
    refine XS.bipush X44.here hx rfl (hb hby at_42) ?_
    exact k)
  obtain ⟨T46, X46, e46, st46⟩ := getS2 X44 hx hZ hown (host := "") (Or.inl (hw _ (List.mem_of_getElem? (i := 16) rfl))) Via.refl e44 (SL6.ext O44.2) (g := (mkF m 44 #[.val (.int p1), .unset, .unset, .unset, .unset] [(.int (6 : Int32)), (.ref b8), (.ref b8)])) rfl (hb hby at_44)
  have go46 : Goes p e below s₁ (entryFrame m #[(.int p1)] maxLocals) T46 (mkF m 47 #[.val (.int p1), .unset, .unset, .unset, .unset] [(.ref w6), (.int (6 : Int32)), (.ref b8), (.ref b8)]) := fun t k => go45 t (st46 _ k)
  obtain ⟨cl47, Ar47, q47, S47, N_47, H47, G47⟩ := V44
  have hin47 : ¬ ((6 : Int32) < 0 ∨ cl47.slots.size ≤ ((6 : Int32)).toNatClampNeg) := inb_of S47 ⟨by decide, by decide⟩
  obtain ⟨T48, h48, X48, e48, W48, st48⟩ := stR X46 hx hZ e46 Ar47 (j := (6 : Int32)) hin47 rfl (Sto.ofV Ar47 q47 Ov8 (Ins.self (AL6.ext O44.2))) (g := (mkF m 47 #[.val (.int p1), .unset, .unset, .unset, .unset] [(.ref w6), (.int (6 : Int32)), (.ref b8), (.ref b8)])) rfl rfl (hb hby at_47)
  have N48 := Fr.snoc X48 N44 g_b8
  have O48 := O44.wr W48 g_b8
  have ZS48 : n0 ≤ h48.size := Nat.le_trans ZS44 (Keep.of_wr W48).1
  have V48 : Arv Z h48 b8 k8 (.object "com/example/heft/heft/model/CombiningAlgorithm") (12 : Int32) [(.ref w0), (.ref w1), (.ref w2), (.ref w3), (.ref w4), (.ref w5), (.ref w6), .null, .null, .null, .null, .null] .null := Arv.set Ar47 q47 S47 N_47 H47 G47 rfl W48 6 rfl (Nat.le_of_ble_eq_true rfl)
  have go48 : Goes p e below s₁ (entryFrame m #[(.int p1)] maxLocals) T48 (mkF m 48 #[.val (.int p1), .unset, .unset, .unset, .unset] [(.ref b8)]) := fun t k => go46 t (st48 _ k)
  have go49 : Goes p e below s₁ (entryFrame m #[(.int p1)] maxLocals) T48 (mkF m 51 #[.val (.int p1), .unset, .unset, .unset, .unset] [(.int (7 : Int32)), (.ref b8), (.ref b8)]) := fun t k => go48 t (by
    show Steps p.tables e below (T48.setTop (mkF m 48 #[.val (.int p1), .unset, .unset, .unset, .unset] [(.ref b8)])) _
    refine XS.dup X48.here hx rfl (hb hby at_48) rfl rfl ?_
    show Steps p.tables e below (T48.setTop (mkF m 49 #[.val (.int p1), .unset, .unset, .unset, .unset] [(.ref b8), (.ref b8)])) _
    refine XS.bipush X48.here hx rfl (hb hby at_49) ?_
    exact k)
  obtain ⟨T50, X50, e50, st50⟩ := getS2 X48 hx hZ hown (host := "") (Or.inl (hw _ (List.mem_of_getElem? (i := 18) rfl))) Via.refl e48 (SL7.ext O48.2) (g := (mkF m 51 #[.val (.int p1), .unset, .unset, .unset, .unset] [(.int (7 : Int32)), (.ref b8), (.ref b8)])) rfl (hb hby at_51)
  have go50 : Goes p e below s₁ (entryFrame m #[(.int p1)] maxLocals) T50 (mkF m 54 #[.val (.int p1), .unset, .unset, .unset, .unset] [(.ref w7), (.int (7 : Int32)), (.ref b8), (.ref b8)]) := fun t k => go49 t (st50 _ k)
  obtain ⟨cl51, Ar51, q51, S51, N_51, H51, G51⟩ := V48
  have hin51 : ¬ ((7 : Int32) < 0 ∨ cl51.slots.size ≤ ((7 : Int32)).toNatClampNeg) := inb_of S51 ⟨by decide, by decide⟩
  obtain ⟨T52, h52, X52, e52, W52, st52⟩ := stR X50 hx hZ e50 Ar51 (j := (7 : Int32)) hin51 rfl (Sto.ofV Ar51 q51 Ov8 (Ins.self (AL7.ext O48.2))) (g := (mkF m 54 #[.val (.int p1), .unset, .unset, .unset, .unset] [(.ref w7), (.int (7 : Int32)), (.ref b8), (.ref b8)])) rfl rfl (hb hby at_54)
  have N52 := Fr.snoc X52 N48 g_b8
  have O52 := O48.wr W52 g_b8
  have ZS52 : n0 ≤ h52.size := Nat.le_trans ZS48 (Keep.of_wr W52).1
  have V52 : Arv Z h52 b8 k8 (.object "com/example/heft/heft/model/CombiningAlgorithm") (12 : Int32) [(.ref w0), (.ref w1), (.ref w2), (.ref w3), (.ref w4), (.ref w5), (.ref w6), (.ref w7), .null, .null, .null, .null] .null := Arv.set Ar51 q51 S51 N_51 H51 G51 rfl W52 7 rfl (Nat.le_of_ble_eq_true rfl)
  have go52 : Goes p e below s₁ (entryFrame m #[(.int p1)] maxLocals) T52 (mkF m 55 #[.val (.int p1), .unset, .unset, .unset, .unset] [(.ref b8)]) := fun t k => go50 t (st52 _ k)
  have go53 : Goes p e below s₁ (entryFrame m #[(.int p1)] maxLocals) T52 (mkF m 58 #[.val (.int p1), .unset, .unset, .unset, .unset] [(.int (8 : Int32)), (.ref b8), (.ref b8)]) := fun t k => go52 t (by
    show Steps p.tables e below (T52.setTop (mkF m 55 #[.val (.int p1), .unset, .unset, .unset, .unset] [(.ref b8)])) _
    refine XS.dup X52.here hx rfl (hb hby at_55) rfl rfl ?_
    show Steps p.tables e below (T52.setTop (mkF m 56 #[.val (.int p1), .unset, .unset, .unset, .unset] [(.ref b8), (.ref b8)])) _
    refine XS.bipush X52.here hx rfl (hb hby at_56) ?_
    exact k)
  obtain ⟨T54, X54, e54, st54⟩ := getS2 X52 hx hZ hown (host := "") (Or.inl (hw _ (List.mem_of_getElem? (i := 20) rfl))) Via.refl e52 (SL8.ext O52.2) (g := (mkF m 58 #[.val (.int p1), .unset, .unset, .unset, .unset] [(.int (8 : Int32)), (.ref b8), (.ref b8)])) rfl (hb hby at_58)
  have go54 : Goes p e below s₁ (entryFrame m #[(.int p1)] maxLocals) T54 (mkF m 61 #[.val (.int p1), .unset, .unset, .unset, .unset] [(.ref w8), (.int (8 : Int32)), (.ref b8), (.ref b8)]) := fun t k => go53 t (st54 _ k)
  obtain ⟨cl55, Ar55, q55, S55, N_55, H55, G55⟩ := V52
  have hin55 : ¬ ((8 : Int32) < 0 ∨ cl55.slots.size ≤ ((8 : Int32)).toNatClampNeg) := inb_of S55 ⟨by decide, by decide⟩
  obtain ⟨T56, h56, X56, e56, W56, st56⟩ := stR X54 hx hZ e54 Ar55 (j := (8 : Int32)) hin55 rfl (Sto.ofV Ar55 q55 Ov8 (Ins.self (AL8.ext O52.2))) (g := (mkF m 61 #[.val (.int p1), .unset, .unset, .unset, .unset] [(.ref w8), (.int (8 : Int32)), (.ref b8), (.ref b8)])) rfl rfl (hb hby at_61)
  have N56 := Fr.snoc X56 N52 g_b8
  have O56 := O52.wr W56 g_b8
  have ZS56 : n0 ≤ h56.size := Nat.le_trans ZS52 (Keep.of_wr W56).1
  have V56 : Arv Z h56 b8 k8 (.object "com/example/heft/heft/model/CombiningAlgorithm") (12 : Int32) [(.ref w0), (.ref w1), (.ref w2), (.ref w3), (.ref w4), (.ref w5), (.ref w6), (.ref w7), (.ref w8), .null, .null, .null] .null := Arv.set Ar55 q55 S55 N_55 H55 G55 rfl W56 8 rfl (Nat.le_of_ble_eq_true rfl)
  have go56 : Goes p e below s₁ (entryFrame m #[(.int p1)] maxLocals) T56 (mkF m 62 #[.val (.int p1), .unset, .unset, .unset, .unset] [(.ref b8)]) := fun t k => go54 t (st56 _ k)
  have go57 : Goes p e below s₁ (entryFrame m #[(.int p1)] maxLocals) T56 (mkF m 65 #[.val (.int p1), .unset, .unset, .unset, .unset] [(.int (9 : Int32)), (.ref b8), (.ref b8)]) := fun t k => go56 t (by
    show Steps p.tables e below (T56.setTop (mkF m 62 #[.val (.int p1), .unset, .unset, .unset, .unset] [(.ref b8)])) _
    refine XS.dup X56.here hx rfl (hb hby at_62) rfl rfl ?_
    show Steps p.tables e below (T56.setTop (mkF m 63 #[.val (.int p1), .unset, .unset, .unset, .unset] [(.ref b8), (.ref b8)])) _
    refine XS.bipush X56.here hx rfl (hb hby at_63) ?_
    exact k)
  obtain ⟨T58, X58, e58, st58⟩ := getS2 X56 hx hZ hown (host := "") (Or.inl (hw _ (List.mem_of_getElem? (i := 22) rfl))) Via.refl e56 (SL9.ext O56.2) (g := (mkF m 65 #[.val (.int p1), .unset, .unset, .unset, .unset] [(.int (9 : Int32)), (.ref b8), (.ref b8)])) rfl (hb hby at_65)
  have go58 : Goes p e below s₁ (entryFrame m #[(.int p1)] maxLocals) T58 (mkF m 68 #[.val (.int p1), .unset, .unset, .unset, .unset] [(.ref w9), (.int (9 : Int32)), (.ref b8), (.ref b8)]) := fun t k => go57 t (st58 _ k)
  obtain ⟨cl59, Ar59, q59, S59, N_59, H59, G59⟩ := V56
  have hin59 : ¬ ((9 : Int32) < 0 ∨ cl59.slots.size ≤ ((9 : Int32)).toNatClampNeg) := inb_of S59 ⟨by decide, by decide⟩
  obtain ⟨T60, h60, X60, e60, W60, st60⟩ := stR X58 hx hZ e58 Ar59 (j := (9 : Int32)) hin59 rfl (Sto.ofV Ar59 q59 Ov8 (Ins.self (AL9.ext O56.2))) (g := (mkF m 68 #[.val (.int p1), .unset, .unset, .unset, .unset] [(.ref w9), (.int (9 : Int32)), (.ref b8), (.ref b8)])) rfl rfl (hb hby at_68)
  have N60 := Fr.snoc X60 N56 g_b8
  have O60 := O56.wr W60 g_b8
  have ZS60 : n0 ≤ h60.size := Nat.le_trans ZS56 (Keep.of_wr W60).1
  have V60 : Arv Z h60 b8 k8 (.object "com/example/heft/heft/model/CombiningAlgorithm") (12 : Int32) [(.ref w0), (.ref w1), (.ref w2), (.ref w3), (.ref w4), (.ref w5), (.ref w6), (.ref w7), (.ref w8), (.ref w9), .null, .null] .null := Arv.set Ar59 q59 S59 N_59 H59 G59 rfl W60 9 rfl (Nat.le_of_ble_eq_true rfl)
  have go60 : Goes p e below s₁ (entryFrame m #[(.int p1)] maxLocals) T60 (mkF m 69 #[.val (.int p1), .unset, .unset, .unset, .unset] [(.ref b8)]) := fun t k => go58 t (st60 _ k)
  have go61 : Goes p e below s₁ (entryFrame m #[(.int p1)] maxLocals) T60 (mkF m 72 #[.val (.int p1), .unset, .unset, .unset, .unset] [(.int (10 : Int32)), (.ref b8), (.ref b8)]) := fun t k => go60 t (by
    show Steps p.tables e below (T60.setTop (mkF m 69 #[.val (.int p1), .unset, .unset, .unset, .unset] [(.ref b8)])) _
    refine XS.dup X60.here hx rfl (hb hby at_69) rfl rfl ?_
    show Steps p.tables e below (T60.setTop (mkF m 70 #[.val (.int p1), .unset, .unset, .unset, .unset] [(.ref b8), (.ref b8)])) _
    refine XS.bipush X60.here hx rfl (hb hby at_70) ?_
    exact k)
  obtain ⟨T62, X62, e62, st62⟩ := getS2 X60 hx hZ hown (host := "") (Or.inl (hw _ (List.mem_of_getElem? (i := 24) rfl))) Via.refl e60 (SL10.ext O60.2) (g := (mkF m 72 #[.val (.int p1), .unset, .unset, .unset, .unset] [(.int (10 : Int32)), (.ref b8), (.ref b8)])) rfl (hb hby at_72)
  have go62 : Goes p e below s₁ (entryFrame m #[(.int p1)] maxLocals) T62 (mkF m 75 #[.val (.int p1), .unset, .unset, .unset, .unset] [(.ref w10), (.int (10 : Int32)), (.ref b8), (.ref b8)]) := fun t k => go61 t (st62 _ k)
  obtain ⟨cl63, Ar63, q63, S63, N_63, H63, G63⟩ := V60
  have hin63 : ¬ ((10 : Int32) < 0 ∨ cl63.slots.size ≤ ((10 : Int32)).toNatClampNeg) := inb_of S63 ⟨by decide, by decide⟩
  obtain ⟨T64, h64, X64, e64, W64, st64⟩ := stR X62 hx hZ e62 Ar63 (j := (10 : Int32)) hin63 rfl (Sto.ofV Ar63 q63 Ov8 (Ins.self (AL10.ext O60.2))) (g := (mkF m 75 #[.val (.int p1), .unset, .unset, .unset, .unset] [(.ref w10), (.int (10 : Int32)), (.ref b8), (.ref b8)])) rfl rfl (hb hby at_75)
  have N64 := Fr.snoc X64 N60 g_b8
  have O64 := O60.wr W64 g_b8
  have ZS64 : n0 ≤ h64.size := Nat.le_trans ZS60 (Keep.of_wr W64).1
  have V64 : Arv Z h64 b8 k8 (.object "com/example/heft/heft/model/CombiningAlgorithm") (12 : Int32) [(.ref w0), (.ref w1), (.ref w2), (.ref w3), (.ref w4), (.ref w5), (.ref w6), (.ref w7), (.ref w8), (.ref w9), (.ref w10), .null] .null := Arv.set Ar63 q63 S63 N_63 H63 G63 rfl W64 10 rfl (Nat.le_of_ble_eq_true rfl)
  have go64 : Goes p e below s₁ (entryFrame m #[(.int p1)] maxLocals) T64 (mkF m 76 #[.val (.int p1), .unset, .unset, .unset, .unset] [(.ref b8)]) := fun t k => go62 t (st64 _ k)
  have go65 : Goes p e below s₁ (entryFrame m #[(.int p1)] maxLocals) T64 (mkF m 79 #[.val (.int p1), .unset, .unset, .unset, .unset] [(.int (11 : Int32)), (.ref b8), (.ref b8)]) := fun t k => go64 t (by
    show Steps p.tables e below (T64.setTop (mkF m 76 #[.val (.int p1), .unset, .unset, .unset, .unset] [(.ref b8)])) _
    refine XS.dup X64.here hx rfl (hb hby at_76) rfl rfl ?_
    show Steps p.tables e below (T64.setTop (mkF m 77 #[.val (.int p1), .unset, .unset, .unset, .unset] [(.ref b8), (.ref b8)])) _
    refine XS.bipush X64.here hx rfl (hb hby at_77) ?_
    exact k)
  obtain ⟨T66, X66, e66, st66⟩ := getS2 X64 hx hZ hown (host := "") (Or.inl (hw _ (List.mem_of_getElem? (i := 26) rfl))) Via.refl e64 (SL11.ext O64.2) (g := (mkF m 79 #[.val (.int p1), .unset, .unset, .unset, .unset] [(.int (11 : Int32)), (.ref b8), (.ref b8)])) rfl (hb hby at_79)
  have go66 : Goes p e below s₁ (entryFrame m #[(.int p1)] maxLocals) T66 (mkF m 82 #[.val (.int p1), .unset, .unset, .unset, .unset] [(.ref w11), (.int (11 : Int32)), (.ref b8), (.ref b8)]) := fun t k => go65 t (st66 _ k)
  obtain ⟨cl67, Ar67, q67, S67, N_67, H67, G67⟩ := V64
  have hin67 : ¬ ((11 : Int32) < 0 ∨ cl67.slots.size ≤ ((11 : Int32)).toNatClampNeg) := inb_of S67 ⟨by decide, by decide⟩
  obtain ⟨T68, h68, X68, e68, W68, st68⟩ := stR X66 hx hZ e66 Ar67 (j := (11 : Int32)) hin67 rfl (Sto.ofV Ar67 q67 Ov8 (Ins.self (AL11.ext O64.2))) (g := (mkF m 82 #[.val (.int p1), .unset, .unset, .unset, .unset] [(.ref w11), (.int (11 : Int32)), (.ref b8), (.ref b8)])) rfl rfl (hb hby at_82)
  have N68 := Fr.snoc X68 N64 g_b8
  have O68 := O64.wr W68 g_b8
  have ZS68 : n0 ≤ h68.size := Nat.le_trans ZS64 (Keep.of_wr W68).1
  have V68 : Arv Z h68 b8 k8 (.object "com/example/heft/heft/model/CombiningAlgorithm") (12 : Int32) [(.ref w0), (.ref w1), (.ref w2), (.ref w3), (.ref w4), (.ref w5), (.ref w6), (.ref w7), (.ref w8), (.ref w9), (.ref w10), (.ref w11)] .null := Arv.set Ar67 q67 S67 N_67 H67 G67 rfl W68 11 rfl (Nat.le_of_ble_eq_true rfl)
  have go68 : Goes p e below s₁ (entryFrame m #[(.int p1)] maxLocals) T68 (mkF m 83 #[.val (.int p1), .unset, .unset, .unset, .unset] [(.ref b8)]) := fun t k => go66 t (st68 _ k)
  have go69 : Goes p e below s₁ (entryFrame m #[(.int p1)] maxLocals) T68 (mkF m 92 #[.val (.int p1), .val (.ref b8), .val (.int ((p1 &&& (2147483647 : Int32)) % (12 : Int32))), .unset, .unset] []) := fun t k => go68 t (by
    show Steps p.tables e below (T68.setTop (mkF m 83 #[.val (.int p1), .unset, .unset, .unset, .unset] [(.ref b8)])) _
    refine XS.astoreN X68.here hx rfl (hb hby at_83) rfl rfl (l' := #[.val (.int p1), .val (.ref b8), .unset, .unset, .unset]) rfl ?_
    show Steps p.tables e below (T68.setTop (mkF m 84 #[.val (.int p1), .val (.ref b8), .unset, .unset, .unset] [])) _
    refine XS.iloadN X68.here hx rfl (hb hby at_84) rfl ?_
    show Steps p.tables e below (T68.setTop (mkF m 85 #[.val (.int p1), .val (.ref b8), .unset, .unset, .unset] [(.int p1)])) _
    refine X68.ldcInt hx hown (mvT hZ (hw _ (List.mem_of_getElem? (i := 28) rfl))) (g := (mkF m 85 #[.val (.int p1), .val (.ref b8), .unset, .unset, .unset] [(.int p1)])) rfl (hb hby at_85) _ ?_
    show Steps p.tables e below (T68.setTop (mkF m 87 #[.val (.int p1), .val (.ref b8), .unset, .unset, .unset] [(.int (2147483647 : Int32)), (.int p1)])) _
    refine XS.iand X68.here hx rfl (hb hby at_87) rfl ?_
    show Steps p.tables e below (T68.setTop (mkF m 88 #[.val (.int p1), .val (.ref b8), .unset, .unset, .unset] [(.int (p1 &&& (2147483647 : Int32)))])) _
    refine XS.bipush X68.here hx rfl (hb hby at_88) ?_
    show Steps p.tables e below (T68.setTop (mkF m 90 #[.val (.int p1), .val (.ref b8), .unset, .unset, .unset] [(.int (12 : Int32)), (.int (p1 &&& (2147483647 : Int32)))])) _
    refine iremM X68 hx rfl (hb hby at_90) rfl (by decide) ?_
    show Steps p.tables e below (T68.setTop (mkF m 91 #[.val (.int p1), .val (.ref b8), .unset, .unset, .unset] [(.int ((p1 &&& (2147483647 : Int32)) % (12 : Int32)))])) _
    refine XS.istoreN X68.here hx rfl (hb hby at_91) rfl (l' := #[.val (.int p1), .val (.ref b8), .val (.int ((p1 &&& (2147483647 : Int32)) % (12 : Int32))), .unset, .unset]) rfl ?_
    exact k)
  obtain ⟨kn, hkn, hk⟩ := own_k p1
  obtain ⟨kk, h_kk⟩ : ∃ z, z = ((p1 &&& (2147483647 : Int32)) % (12 : Int32)) := ⟨_, rfl⟩
  rw [← h_kk] at go69 hk
  have go70 : Goes p e below s₁ (entryFrame m #[(.int p1)] maxLocals) T68 (mkF m 94 #[.val (.int p1), .val (.ref b8), .val (.int kk), .unset, .unset] [(.int kk), (.ref b8)]) := fun t k => go69 t (by
    show Steps p.tables e below (T68.setTop (mkF m 92 #[.val (.int p1), .val (.ref b8), .val (.int kk), .unset, .unset] [])) _
    refine XS.aloadN X68.here hx rfl (hb hby at_92) rfl rfl ?_
    show Steps p.tables e below (T68.setTop (mkF m 93 #[.val (.int p1), .val (.ref b8), .val (.int kk), .unset, .unset] [(.ref b8)])) _
    refine XS.iloadN X68.here hx rfl (hb hby at_93) rfl ?_
    exact k)
  obtain ⟨cl71, Ar71, q71, S71, N_71, H71, G71⟩ := V68
  have hkl : ¬ kk < 0 ∧ kk < (12 : Int32) := by rw [hk]; rcases own_12 hkn with rfl | rfl | rfl | rfl | rfl | rfl | rfl | rfl | rfl | rfl | rfl | rfl <;> decide
  have hin : ¬ (kk < 0 ∨ cl71.slots.size ≤ (kk).toNatClampNeg) := inb_of S71 hkl
  obtain ⟨ww, hu, Ew, Fw⟩ : ∃ ww : Addr, ([(.ref w0), (.ref w1), (.ref w2), (.ref w3), (.ref w4), (.ref w5), (.ref w6), (.ref w7), (.ref w8), (.ref w9), (.ref w10), (.ref w11)] : List Value).getD kk.toNatClampNeg .null = .ref ww ∧ Exa Z h68 ww "com/example/heft/heft/model/CombiningAlgorithm" ∧ ((kk = (7 : Int32) ∧ Fld Z h68 ww "com/example/heft/heft/model/CombiningAlgorithm" "ruleIdentifier" "Ljava/lang/String;" .null) ∨ (¬ (kk = (7 : Int32)) ∧ ∃ r, Fld Z h68 ww "com/example/heft/heft/model/CombiningAlgorithm" "ruleIdentifier" "Ljava/lang/String;" (.ref r))) := by
    rw [hk]
    rcases own_12 hkn with rfl | rfl | rfl | rfl | rfl | rfl | rfl | rfl | rfl | rfl | rfl | rfl
    · exact ⟨w0, rfl, AL0.ext O68.2, Or.inr ⟨by decide, r0, FL0.ext O68.2⟩⟩
    · exact ⟨w1, rfl, AL1.ext O68.2, Or.inr ⟨by decide, r1, FL1.ext O68.2⟩⟩
    · exact ⟨w2, rfl, AL2.ext O68.2, Or.inr ⟨by decide, r2, FL2.ext O68.2⟩⟩
    · exact ⟨w3, rfl, AL3.ext O68.2, Or.inr ⟨by decide, r3, FL3.ext O68.2⟩⟩
    · exact ⟨w4, rfl, AL4.ext O68.2, Or.inr ⟨by decide, r4, FL4.ext O68.2⟩⟩
    · exact ⟨w5, rfl, AL5.ext O68.2, Or.inr ⟨by decide, r5, FL5.ext O68.2⟩⟩
    · exact ⟨w6, rfl, AL6.ext O68.2, Or.inr ⟨by decide, r6, FL6.ext O68.2⟩⟩
    · exact ⟨w7, rfl, AL7.ext O68.2, Or.inl ⟨by decide, FL7.ext O68.2⟩⟩
    · exact ⟨w8, rfl, AL8.ext O68.2, Or.inr ⟨by decide, r8, FL8.ext O68.2⟩⟩
    · exact ⟨w9, rfl, AL9.ext O68.2, Or.inr ⟨by decide, r9, FL9.ext O68.2⟩⟩
    · exact ⟨w10, rfl, AL10.ext O68.2, Or.inr ⟨by decide, r10, FL10.ext O68.2⟩⟩
    · exact ⟨w11, rfl, AL11.ext O68.2, Or.inr ⟨by decide, r11, FL11.ext O68.2⟩⟩
  have hat := Has.at H71 hin hu
  have go72 : Goes p e below s₁ (entryFrame m #[(.int p1)] maxLocals) T68 (mkF m 99 #[.val (.int p1), .val (.ref b8), .val (.int kk), .val (.ref ww), .unset] [(.int (7 : Int32)), (.int kk)]) := fun t k => go70 t (by
    show Steps p.tables e below (T68.setTop (mkF m 94 #[.val (.int p1), .val (.ref b8), .val (.int kk), .unset, .unset] [(.int kk), (.ref b8)])) _
    refine X68.aaload hx (j := kk) (v := (.ref ww)) (by rw [e68]; exact Ar71.1) (State.isArrayOf_alike hZ.alike Ar71.2.1) rfl Ar71.2.2 hin hat (g := (mkF m 94 #[.val (.int p1), .val (.ref b8), .val (.int kk), .unset, .unset] [(.int kk), (.ref b8)])) rfl rfl (hb hby at_94) _ ?_
    show Steps p.tables e below (T68.setTop (mkF m 95 #[.val (.int p1), .val (.ref b8), .val (.int kk), .unset, .unset] [(.ref ww)])) _
    refine XS.astoreN X68.here hx rfl (hb hby at_95) rfl rfl (l' := #[.val (.int p1), .val (.ref b8), .val (.int kk), .val (.ref ww), .unset]) rfl ?_
    show Steps p.tables e below (T68.setTop (mkF m 96 #[.val (.int p1), .val (.ref b8), .val (.int kk), .val (.ref ww), .unset] [])) _
    refine XS.iloadN X68.here hx rfl (hb hby at_96) rfl ?_
    show Steps p.tables e below (T68.setTop (mkF m 97 #[.val (.int p1), .val (.ref b8), .val (.int kk), .val (.ref ww), .unset] [(.int kk)])) _
    refine XS.bipush X68.here hx rfl (hb hby at_97) ?_
    exact k)
  rcases Fw with ⟨h7, Fw⟩ | ⟨h7, r, Fw⟩
  · have go73 : Goes p e below s₁ (entryFrame m #[(.int p1)] maxLocals) T68 (mkF m 110 #[.val (.int p1), .val (.ref b8), .val (.int kk), .val (.ref ww), .val (.int (0 : Int32))] [(.ref ww)]) := fun t k => go72 t (by
      show Steps p.tables e below (T68.setTop (mkF m 99 #[.val (.int p1), .val (.ref b8), .val (.int kk), .val (.ref ww), .unset] [(.int (7 : Int32)), (.int kk)])) _
      refine XS.icmpYes X68.here hx rfl (pc0 := 99) (pc' := 106) rfl (hb hby at_99) rfl (teq h7).1 (by decide) (by decide) ?_
      show Steps p.tables e below (T68.setTop (mkF m 106 #[.val (.int p1), .val (.ref b8), .val (.int kk), .val (.ref ww), .unset] [])) _
      refine XS.iconst X68.here hx rfl (hb hby at_106) ?_
      show Steps p.tables e below (T68.setTop (mkF m 107 #[.val (.int p1), .val (.ref b8), .val (.int kk), .val (.ref ww), .unset] [(.int (0 : Int32))])) _
      refine XS.istore X68.here hx rfl (hb hby at_107) rfl (l' := #[.val (.int p1), .val (.ref b8), .val (.int kk), .val (.ref ww), .val (.int (0 : Int32))]) rfl ?_
      show Steps p.tables e below (T68.setTop (mkF m 109 #[.val (.int p1), .val (.ref b8), .val (.int kk), .val (.ref ww), .val (.int (0 : Int32))] [])) _
      refine XS.aloadN X68.here hx rfl (hb hby at_109) rfl rfl ?_
      exact k)
    obtain ⟨cq74, kq74, q74a, q74b, q74c⟩ := isOf hZ e68 Ew
    obtain ⟨_, _, ⟨T74, L74, k74, n74⟩, -, X74, ⟨Lc74, hQ74, l74, y74, z74⟩, st74⟩ := X68.virtualBack hx (y := (⟨"com/example/heft/heft/model/CombiningAlgorithm", "combinesRules", "()Z"⟩ : MethodName)) (z := (⟨"com/example/heft/heft/model/CombiningAlgorithm", "combinesRules", "()Z"⟩ : MethodName)) hown (mvT hZ (hw _ (List.mem_of_getElem? (i := 29) rfl))) (mvT hZ (hw _ (List.mem_of_getElem? (i := 30) rfl))) (notFace_of_selects (args := #[]) (mvT hZ (hw _ (List.mem_of_getElem? (i := 32) rfl)))) (mvT hZ (hw _ (List.mem_of_getElem? (i := 32) rfl))) (mvT hZ (hw _ (List.mem_of_getElem? (i := 31) rfl))) (by decide) (backOf (W := 0) (rm1b l Z a0 hw [] ww  h68 n0 ZS68 Fw) hZ (hw _ (List.mem_of_getElem? (i := 33) rfl)) (hw _ (List.mem_of_getElem? (i := 3) rfl)) (by decide) (by decide)) q74a q74c (g := (mkF m 110 #[.val (.int p1), .val (.ref b8), .val (.int kk), .val (.ref ww), .val (.int (0 : Int32))] [(.ref ww)])) rfl (by rw [hml]; rfl) (Steps.refl _) (argsL := []) (rest := []) (lenOf pd_0 rfl) rfl (by show 2 * 0 + _ ≤ _; exact Nat.le_of_eq rfl) (hb hby at_110) (fun _ _ => ⟨rfl, e68, (by decide : 1 + 0 ≤ _), (by decide : 12 + 0 ≤ _)⟩)
    dsimp only [Pt.U, Pt.locs, Pt.cells, Pt.slots] at X74 l74 y74 z74 st74 hQ74
    subst l74 y74 z74
    obtain ⟨rfl, Nq74, eq74⟩ := hQ74
    have N74 := Fr.app N68 Nq74
    have go74 : Goes p e below s₁ (entryFrame m #[(.int p1)] maxLocals) T74 (mkF m 113 #[.val (.int p1), .val (.ref b8), .val (.int kk), .val (.ref ww), .val (.int (0 : Int32))] [(.int (0 : Int32))]) := fun t k => go73 t (st74.trans k)
    have go75 : Goes p e below s₁ (entryFrame m #[(.int p1)] maxLocals) T74 (mkF m 115 #[.val (.int p1), .val (.ref b8), .val (.int kk), .val (.ref ww), .val (.int (0 : Int32))] [(.int (0 : Int32)), (.int (0 : Int32))]) := fun t k => go74 t (by
      show Steps p.tables e below (T74.setTop (mkF m 113 #[.val (.int p1), .val (.ref b8), .val (.int kk), .val (.ref ww), .val (.int (0 : Int32))] [(.int (0 : Int32))])) _
      refine XS.iload X74.here hx rfl (hb hby at_113) rfl ?_
      exact k)
    have go76 : Goes p e below s₁ (entryFrame m #[(.int p1)] maxLocals) T74 (mkF m 123 #[.val (.int p1), .val (.ref b8), .val (.int kk), .val (.ref ww), .val (.int (0 : Int32))] [(.int (1 : Int32))]) := fun t k => go75 t (by
      show Steps p.tables e below (T74.setTop (mkF m 115 #[.val (.int p1), .val (.ref b8), .val (.int kk), .val (.ref ww), .val (.int (0 : Int32))] [(.int (0 : Int32)), (.int (0 : Int32))])) _
      refine XS.icmpNo X74.here hx rfl (hb hby at_115) rfl (teq rfl).2 ?_
      show Steps p.tables e below (T74.setTop (mkF m 118 #[.val (.int p1), .val (.ref b8), .val (.int kk), .val (.ref ww), .val (.int (0 : Int32))] [])) _
      refine XS.iconst X74.here hx rfl (hb hby at_118) ?_
      show Steps p.tables e below (T74.setTop (mkF m 119 #[.val (.int p1), .val (.ref b8), .val (.int kk), .val (.ref ww), .val (.int (0 : Int32))] [(.int (1 : Int32))])) _
      refine XS.goto X74.here hx rfl (pc0 := 119) (pc' := 123) rfl (hb hby at_119) (by decide) (by decide) ?_
      exact k)
    obtain ⟨fs, hr, hrun, hended, hW, hsame⟩ := X74.leave (v := some (.int (1 : Int32))) (fun h => by rw [Bd.returns] at h; cases h)
    refine ⟨_, _, go76 _ ?_, hrun, hended, _, _, rfl, ?_, ⟨_, rfl⟩, hW, hsame.mono (by decide) (by decide)⟩
    · exact retN X74 hx (t := .boolean) Bd.returns (by simp) (hb hby at_123) hr
    · show Q_rm0 Z p1 w0 w1 w2 w3 w4 w5 w6 w7 w8 w9 w10 w11 r0 r1 r2 r3 r4 r5 r6 r8 r9 r10 r11 h0 n0 _ T74.heap _
      rw [eq74]
      exact ⟨rfl, N74⟩
  · have go77 : Goes p e below s₁ (entryFrame m #[(.int p1)] maxLocals) T68 (mkF m 110 #[.val (.int p1), .val (.ref b8), .val (.int kk), .val (.ref ww), .val (.int (1 : Int32))] [(.ref ww)]) := fun t k => go72 t (by
      show Steps p.tables e below (T68.setTop (mkF m 99 #[.val (.int p1), .val (.ref b8), .val (.int kk), .val (.ref ww), .unset] [(.int (7 : Int32)), (.int kk)])) _
      refine XS.icmpNo X68.here hx rfl (hb hby at_99) rfl (feq h7).1 ?_
      show Steps p.tables e below (T68.setTop (mkF m 102 #[.val (.int p1), .val (.ref b8), .val (.int kk), .val (.ref ww), .unset] [])) _
      refine XS.iconst X68.here hx rfl (hb hby at_102) ?_
      show Steps p.tables e below (T68.setTop (mkF m 103 #[.val (.int p1), .val (.ref b8), .val (.int kk), .val (.ref ww), .unset] [(.int (1 : Int32))])) _
      refine XS.goto X68.here hx rfl (pc0 := 103) (pc' := 107) rfl (hb hby at_103) (by decide) (by decide) ?_
      show Steps p.tables e below (T68.setTop (mkF m 107 #[.val (.int p1), .val (.ref b8), .val (.int kk), .val (.ref ww), .unset] [(.int (1 : Int32))])) _
      refine XS.istore X68.here hx rfl (hb hby at_107) rfl (l' := #[.val (.int p1), .val (.ref b8), .val (.int kk), .val (.ref ww), .val (.int (1 : Int32))]) rfl ?_
      show Steps p.tables e below (T68.setTop (mkF m 109 #[.val (.int p1), .val (.ref b8), .val (.int kk), .val (.ref ww), .val (.int (1 : Int32))] [])) _
      refine XS.aloadN X68.here hx rfl (hb hby at_109) rfl rfl ?_
      exact k)
    obtain ⟨cq78, kq78, q78a, q78b, q78c⟩ := isOf hZ e68 Ew
    obtain ⟨_, _, ⟨T78, L78, k78, n78⟩, -, X78, ⟨Lc78, hQ78, l78, y78, z78⟩, st78⟩ := X68.virtualBack hx (y := (⟨"com/example/heft/heft/model/CombiningAlgorithm", "combinesRules", "()Z"⟩ : MethodName)) (z := (⟨"com/example/heft/heft/model/CombiningAlgorithm", "combinesRules", "()Z"⟩ : MethodName)) hown (mvT hZ (hw _ (List.mem_of_getElem? (i := 29) rfl))) (mvT hZ (hw _ (List.mem_of_getElem? (i := 30) rfl))) (notFace_of_selects (args := #[]) (mvT hZ (hw _ (List.mem_of_getElem? (i := 32) rfl)))) (mvT hZ (hw _ (List.mem_of_getElem? (i := 32) rfl))) (mvT hZ (hw _ (List.mem_of_getElem? (i := 31) rfl))) (by decide) (backOf (W := 0) (rm1a l Z a0 hw [] ww r h68 n0 ZS68 Fw) hZ (hw _ (List.mem_of_getElem? (i := 33) rfl)) (hw _ (List.mem_of_getElem? (i := 3) rfl)) (by decide) (by decide)) q78a q78c (g := (mkF m 110 #[.val (.int p1), .val (.ref b8), .val (.int kk), .val (.ref ww), .val (.int (1 : Int32))] [(.ref ww)])) rfl (by rw [hml]; rfl) (Steps.refl _) (argsL := []) (rest := []) (lenOf pd_0 rfl) rfl (by show 2 * 0 + _ ≤ _; exact Nat.le_of_eq rfl) (hb hby at_110) (fun _ _ => ⟨rfl, e68, (by decide : 1 + 0 ≤ _), (by decide : 12 + 0 ≤ _)⟩)
    dsimp only [Pt.U, Pt.locs, Pt.cells, Pt.slots] at X78 l78 y78 z78 st78 hQ78
    subst l78 y78 z78
    obtain ⟨rfl, Nq78, eq78⟩ := hQ78
    have N78 := Fr.app N68 Nq78
    have go78 : Goes p e below s₁ (entryFrame m #[(.int p1)] maxLocals) T78 (mkF m 113 #[.val (.int p1), .val (.ref b8), .val (.int kk), .val (.ref ww), .val (.int (1 : Int32))] [(.int (1 : Int32))]) := fun t k => go77 t (st78.trans k)
    have go79 : Goes p e below s₁ (entryFrame m #[(.int p1)] maxLocals) T78 (mkF m 115 #[.val (.int p1), .val (.ref b8), .val (.int kk), .val (.ref ww), .val (.int (1 : Int32))] [(.int (1 : Int32)), (.int (1 : Int32))]) := fun t k => go78 t (by
      show Steps p.tables e below (T78.setTop (mkF m 113 #[.val (.int p1), .val (.ref b8), .val (.int kk), .val (.ref ww), .val (.int (1 : Int32))] [(.int (1 : Int32))])) _
      refine XS.iload X78.here hx rfl (hb hby at_113) rfl ?_
      exact k)
    have go80 : Goes p e below s₁ (entryFrame m #[(.int p1)] maxLocals) T78 (mkF m 123 #[.val (.int p1), .val (.ref b8), .val (.int kk), .val (.ref ww), .val (.int (1 : Int32))] [(.int (1 : Int32))]) := fun t k => go79 t (by
      show Steps p.tables e below (T78.setTop (mkF m 115 #[.val (.int p1), .val (.ref b8), .val (.int kk), .val (.ref ww), .val (.int (1 : Int32))] [(.int (1 : Int32)), (.int (1 : Int32))])) _
      refine XS.icmpNo X78.here hx rfl (hb hby at_115) rfl (teq rfl).2 ?_
      show Steps p.tables e below (T78.setTop (mkF m 118 #[.val (.int p1), .val (.ref b8), .val (.int kk), .val (.ref ww), .val (.int (1 : Int32))] [])) _
      refine XS.iconst X78.here hx rfl (hb hby at_118) ?_
      show Steps p.tables e below (T78.setTop (mkF m 119 #[.val (.int p1), .val (.ref b8), .val (.int kk), .val (.ref ww), .val (.int (1 : Int32))] [(.int (1 : Int32))])) _
      refine XS.goto X78.here hx rfl (pc0 := 119) (pc' := 123) rfl (hb hby at_119) (by decide) (by decide) ?_
      exact k)
    obtain ⟨fs, hr, hrun, hended, hW, hsame⟩ := X78.leave (v := some (.int (1 : Int32))) (fun h => by rw [Bd.returns] at h; cases h)
    refine ⟨_, _, go80 _ ?_, hrun, hended, _, _, rfl, ?_, ⟨_, rfl⟩, hW, hsame.mono (by decide) (by decide)⟩
    · exact retN X78 hx (t := .boolean) Bd.returns (by simp) (hb hby at_123) hr
    · show Q_rm0 Z p1 w0 w1 w2 w3 w4 w5 w6 w7 w8 w9 w10 w11 r0 r1 r2 r3 r4 r5 r6 r8 r9 r10 r11 h0 n0 _ T78.heap _
      rw [eq78]
      exact ⟨rfl, N78⟩
set_option maxRecDepth 65536 in
set_option maxHeartbeats 40000000 in
theorem comes_1 {Post : Tables → Env → Array Value → State → Outcome → State → Prop} (hpost : ∀ tb e args s v u, (limb_1_1.after args s (.returned v) u = true ∧ limb_1_2.after args s (.returned v) u = true ∧ True) → FrameEnd s (.returned v) u (Jvm.fieldLocs frame_1_writes args s ++ Jvm.arrayLocs frame_1_arrays args s ++ Jvm.staticLocs frame_1_statics s) 16 128 → Post tb e args s (.returned v) u) :
    ArmFor flags0 classFile x code maxLocals ret World_1 tables_1 room_1 Calls_1 rest_1 Pre_1 Post := by
  intro l hfl _ _ p e ha hc hk s m args below hf hA hF happ hP
  obtain ⟨hcalls, hrest, hpre⟩ := hP
  obtain ⟨-, -, -, hnamed, -, -, -, hat⟩ := (Spec.applies_iff hf).mp happ
  obtain ⟨hg, hn⟩ := and_e (Cond.before_iff.mp (show (Jvm.Cond.and given_1 narrow_1).before args s = true from hpre))
  obtain ⟨g0, hg0⟩ := and_e hg
  obtain ⟨w0, rfl⟩ : ∃ w0 : Value, args = #[w0] := by
    have hs : args.size = 1 := by simpa [Cond.value, given_1] using g0
    obtain ⟨L⟩ := args
    match L, hs with
    | [w0], _ => exact ⟨w0, rfl⟩
  have hw := fun d (hd : d ∈ tables_1) => atoms_spec (ws := Jvm.Cond.code x code maxLocals ret :: tables_1) hat d (List.mem_cons_of_mem _ hd)
  have hfit : Fit s := fun {y c} hc i hi => by
    obtain ⟨ha, rfl⟩ := Array.getElem?_eq_some_iff.mp hc
    have q := List.all_eq_true.mp ((Array.all_eq_true_iff_forall_mem.mp hF) _ (Array.getElem_mem ha)) i (List.mem_range.mpr hi)
    simpa [Array.getElem?_eq_getElem hi] using q
  obtain ⟨i0, ei0⟩ := is_v hg0
  obtain rfl : w0 = (.int i0) := Option.some.inj ei0
  obtain ⟨n0, hn0⟩ := and_e hn
  obtain ⟨n1, hn1⟩ := and_e hn0
  obtain ⟨n2, hn2⟩ := and_e hn1
  obtain ⟨n3, hn3⟩ := and_e hn2
  obtain ⟨n4, hn4⟩ := and_e hn3
  obtain ⟨n5, hn5⟩ := and_e hn4
  obtain ⟨n6, hn6⟩ := and_e hn5
  obtain ⟨n7, hn7⟩ := and_e hn6
  obtain ⟨n8, hn8⟩ := and_e hn7
  obtain ⟨n9, hn9⟩ := and_e hn8
  obtain ⟨n10, hn10⟩ := and_e hn9
  obtain ⟨n11, hn11⟩ := and_e hn10
  obtain ⟨n12, hn12⟩ := and_e hn11
  obtain ⟨n13, hn13⟩ := and_e hn12
  obtain ⟨n14, hn14⟩ := and_e hn13
  obtain ⟨n15, hn15⟩ := and_e hn14
  obtain ⟨n16, hn16⟩ := and_e hn15
  obtain ⟨n17, hn17⟩ := and_e hn16
  obtain ⟨n18, hn18⟩ := and_e hn17
  obtain ⟨n19, hn19⟩ := and_e hn18
  obtain ⟨n20, hn20⟩ := and_e hn19
  obtain ⟨n21, hn21⟩ := and_e hn20
  obtain ⟨n22, hn22⟩ := and_e hn21
  obtain ⟨w0, ew0⟩ := exa_v n0
  have AL0 := Exa.start ew0 n0
  have SL0 := Sta.start ew0 (Or.inr ⟨(hw _ (List.mem_of_getElem? (i := 3) rfl)), (hw _ (List.mem_of_getElem? (i := 4) rfl))⟩)
  obtain ⟨w1, ew1⟩ := exa_v n1
  have AL1 := Exa.start ew1 n1
  have SL1 := Sta.start ew1 (Or.inr ⟨(hw _ (List.mem_of_getElem? (i := 3) rfl)), (hw _ (List.mem_of_getElem? (i := 7) rfl))⟩)
  obtain ⟨w2, ew2⟩ := exa_v n2
  have AL2 := Exa.start ew2 n2
  have SL2 := Sta.start ew2 (Or.inr ⟨(hw _ (List.mem_of_getElem? (i := 3) rfl)), (hw _ (List.mem_of_getElem? (i := 9) rfl))⟩)
  obtain ⟨w3, ew3⟩ := exa_v n3
  have AL3 := Exa.start ew3 n3
  have SL3 := Sta.start ew3 (Or.inr ⟨(hw _ (List.mem_of_getElem? (i := 3) rfl)), (hw _ (List.mem_of_getElem? (i := 11) rfl))⟩)
  obtain ⟨w4, ew4⟩ := exa_v n4
  have AL4 := Exa.start ew4 n4
  have SL4 := Sta.start ew4 (Or.inr ⟨(hw _ (List.mem_of_getElem? (i := 3) rfl)), (hw _ (List.mem_of_getElem? (i := 13) rfl))⟩)
  obtain ⟨w5, ew5⟩ := exa_v n5
  have AL5 := Exa.start ew5 n5
  have SL5 := Sta.start ew5 (Or.inr ⟨(hw _ (List.mem_of_getElem? (i := 3) rfl)), (hw _ (List.mem_of_getElem? (i := 15) rfl))⟩)
  obtain ⟨w6, ew6⟩ := exa_v n6
  have AL6 := Exa.start ew6 n6
  have SL6 := Sta.start ew6 (Or.inr ⟨(hw _ (List.mem_of_getElem? (i := 3) rfl)), (hw _ (List.mem_of_getElem? (i := 17) rfl))⟩)
  obtain ⟨w7, ew7⟩ := exa_v n7
  have AL7 := Exa.start ew7 n7
  have SL7 := Sta.start ew7 (Or.inr ⟨(hw _ (List.mem_of_getElem? (i := 3) rfl)), (hw _ (List.mem_of_getElem? (i := 19) rfl))⟩)
  obtain ⟨w8, ew8⟩ := exa_v n8
  have AL8 := Exa.start ew8 n8
  have SL8 := Sta.start ew8 (Or.inr ⟨(hw _ (List.mem_of_getElem? (i := 3) rfl)), (hw _ (List.mem_of_getElem? (i := 21) rfl))⟩)
  obtain ⟨w9, ew9⟩ := exa_v n9
  have AL9 := Exa.start ew9 n9
  have SL9 := Sta.start ew9 (Or.inr ⟨(hw _ (List.mem_of_getElem? (i := 3) rfl)), (hw _ (List.mem_of_getElem? (i := 23) rfl))⟩)
  obtain ⟨w10, ew10⟩ := exa_v n10
  have AL10 := Exa.start ew10 n10
  have SL10 := Sta.start ew10 (Or.inr ⟨(hw _ (List.mem_of_getElem? (i := 3) rfl)), (hw _ (List.mem_of_getElem? (i := 25) rfl))⟩)
  obtain ⟨w11, ew11⟩ := exa_v n11
  have AL11 := Exa.start ew11 n11
  have SL11 := Sta.start ew11 (Or.inr ⟨(hw _ (List.mem_of_getElem? (i := 3) rfl)), (hw _ (List.mem_of_getElem? (i := 27) rfl))⟩)
  obtain ⟨r0, er0⟩ := exa_v n12
  have FL0 := Fld.start ((fld_at ew0).symm.trans er0)
  obtain ⟨r3, er3⟩ := exa_v n13
  have FL3 := Fld.start ((fld_at ew3).symm.trans er3)
  obtain ⟨r2, er2⟩ := exa_v n14
  have FL2 := Fld.start ((fld_at ew2).symm.trans er2)
  have FL7 := Fld.start ((fld_at ew7).symm.trans (null_v n15))
  obtain ⟨r11, er11⟩ := exa_v n16
  have FL11 := Fld.start ((fld_at ew11).symm.trans er11)
  obtain ⟨r4, er4⟩ := exa_v n17
  have FL4 := Fld.start ((fld_at ew4).symm.trans er4)
  obtain ⟨r8, er8⟩ := exa_v n18
  have FL8 := Fld.start ((fld_at ew8).symm.trans er8)
  obtain ⟨r1, er1⟩ := exa_v n19
  have FL1 := Fld.start ((fld_at ew1).symm.trans er1)
  obtain ⟨r10, er10⟩ := exa_v n20
  have FL10 := Fld.start ((fld_at ew10).symm.trans er10)
  obtain ⟨r9, er9⟩ := exa_v n21
  have FL9 := Fld.start ((fld_at ew9).symm.trans er9)
  obtain ⟨r6, er6⟩ := exa_v n22
  have FL6 := Fld.start ((fld_at ew6).symm.trans er6)
  obtain ⟨r5, er5⟩ := exa_v hn22
  have FL5 := Fld.start ((fld_at ew5).symm.trans er5)
  obtain ⟨n, o, h1, h2, h3, _, L, rfl, ⟨rfl, N⟩, hq⟩ := rm0 l s _ hw tables_1 i0 w0 w1 w2 w3 w4 w5 w6 w7 w8 w9 w10 w11 r0 r1 r2 r3 r4 r5 r6 r8 r9 r10 r11 s.heap s.heap.size (Nat.le_refl _) (Old.start s) SL0 AL0 FL0 SL1 AL1 FL1 SL2 AL2 FL2 SL3 AL3 FL3 SL4 AL4 FL4 SL5 AL5 FL5 SL6 AL6 FL6 SL7 AL7 FL7 SL8 AL8 FL8 SL9 AL9 FL9 SL10 AL10 FL10 SL11 AL11 FL11 p e ha hc hk s m _ below hf ((Spec.applies_iff_loose hf).mp happ).1 ⟨rfl, State.Warmed39.refl s, rfl⟩ trivial
  refine ⟨n, _, h1, h2, h3, hpost _ _ _ _ _ _ ⟨Cond.after_iff.mpr rfl, Cond.after_iff.mpr (eq_i res_at (Term.int_eval (1)) rfl), trivial⟩ ⟨hq.1, hq.2.1, (hq.2.2.sift fun y hy => Or.inr (N y hy)).mono (by decide) (by decide)⟩⟩
theorem main_1_1 : Claimed_1_1 := comes_1 fun _ _ _ _ _ _ h hF => ⟨h.1, hF⟩
theorem main_1_2 : Claimed_1_2 := comes_1 fun _ _ _ _ _ _ h hF => ⟨h.2.1, hF⟩
end Jvm.Pilot.@@N@@
namespace Jvm.Pilot.@@N@@
open Jvm Jvm.ClassFile Sem Op Lib Jvm.Free Jvm.Stand Jvm.Pilot.@@N@@.Jvm.D
/-! MADE BY PROGRAM (witnessworld.py) out of the Statement's table words and the real class files: 16 classes; the members and pool entries that the words name. The judged class is class 1, her method 1. -/
namespace start1
open Jvm.ClassFile
def u (s : String) : CpInfo := .utf8 (stringToUtf16 s)
/-- a pool by its gaps: so many unusable entries, then the entry; so many at the end -/
def gap : Nat → List CpInfo → List CpInfo
  | 0, r => r
  | n + 1, r => .unusable :: gap n r
def poolList (es : List (Nat × CpInfo)) (last : Nat) : List CpInfo := es.foldr (fun e r => gap e.1 (e.2 :: r)) (gap last [])
def pool (es : List (Nat × CpInfo)) (last : Nat) : Array CpInfo := ⟨poolList es last⟩
def fileOf (pool : Array CpInfo) (this : Nat) (attrs : Array Attribute := #[]) (ms : Array MethodInfo := #[]) (fl : Nat := 33) (sup : Nat := 0) (ifs : Array Nat := #[]) (fds : Array FieldInfo := #[]) : ClassFile where
  minorVersion := 0
  majorVersion := 65
  constantPool := pool
  accessFlags := fl
  thisClass := this
  superClass := sup
  interfaces := ifs
  fields := fds
  methods := ms
  attributes := attrs
def plain (name : String) (sup : Option ClassId) : Class where
  name := name
  kind := .ordinary
  loader := none
  accessFlags := 33
  super := sup
  interfaces := #[]
  cf := none
  fields := #[]
  methods := #[]
  instanceTypes := #[]
  staticTypes := #[]
  resolved := #[]
  callSites := []
  init := .initialized
  statics := none
  mirror := none

def pool0 : Array CpInfo := pool [(5, u "<init>"), (0, u "()V"), (1, .class_ 10), (1, u "java/lang/Object")] 113

def k0m0 : Method := { name := "<init>", desc := "()V", sig := { parameters := [], returnType := none }, accessFlags := 1, code := none }
/-- java/lang/Object -/
def k0 : Class := { plain "java/lang/Object" none with
  accessFlags := 33
  interfaces := #[]
  cf := some (fileOf pool0 8 #[] #[{ accessFlags := 1, nameIndex := 5, descriptorIndex := 6, attributes := #[] }] 33 0 #[] #[])
  fields := #[]
  methods := #[k0m0]
  instanceTypes := #[]
  staticTypes := #[]
  resolved := Array.replicate 124 none
  statics := none }

def pool1 : Array CpInfo := pool [(2, .class_ 4), (1, u "java/lang/Object"), (0, u "<init>"), (0, u "()V"), (0, .class_ 8), (0, u "com/example/heft/heft/model/CombiningAlgorithm"), (0, .fieldref 7 10), (0, .nameAndType 11 12), (0, u "DENY_OVERRIDES"), (0, u "Lcom/example/heft/heft/model/CombiningAlgorithm;"), (0, .fieldref 7 14), (0, .nameAndType 15 12), (0, u "PERMIT_OVERRIDES"), (0, .fieldref 7 17), (0, .nameAndType 18 12), (0, u "ORDERED_DENY_OVERRIDES"), (0, .fieldref 7 20), (0, .nameAndType 21 12), (0, u "ORDERED_PERMIT_OVERRIDES"), (0, .fieldref 7 23), (0, .nameAndType 24 12), (0, u "DENY_UNLESS_PERMIT"), (0, .fieldref 7 26), (0, .nameAndType 27 12), (0, u "PERMIT_UNLESS_DENY"), (0, .fieldref 7 29), (0, .nameAndType 30 12), (0, u "FIRST_APPLICABLE"), (0, .fieldref 7 32), (0, .nameAndType 33 12), (0, u "ONLY_ONE_APPLICABLE"), (0, .fieldref 7 35), (0, .nameAndType 36 12), (0, u "LEGACY_DENY_OVERRIDES"), (0, .fieldref 7 38), (0, .nameAndType 39 12), (0, u "LEGACY_PERMIT_OVERRIDES"), (0, .fieldref 7 41), (0, .nameAndType 42 12), (0, u "LEGACY_ORDERED_DENY_OVERRIDES"), (0, .fieldref 7 44), (0, .nameAndType 45 12), (0, u "LEGACY_ORDERED_PERMIT_OVERRIDES"), (0, .integer 2147483647), (0, .methodref 7 48), (0, .nameAndType 49 50), (0, u "combinesRules"), (0, u "()Z"), (0, .class_ 52), (0, u "com/example/heft/heft/model/CombiningAlgorithmCombinesRulesPinLaw"), (2, u "law"), (0, u "(I)Z")] 5

def k1m0 : Method := { name := "<init>", desc := "()V", sig := { parameters := [], returnType := none }, accessFlags := 2, code := none }
def k1c1 : Code := { maxStack := 4, maxLocals := 5, code := code, exceptionTable := #[], attributes := #[] }
def k1m1 : Method := { name := "law", desc := "(I)Z", sig := { parameters := [.int], returnType := some .boolean }, accessFlags := 9, code := some k1c1 }
/-- com/example/heft/heft/model/CombiningAlgorithmCombinesRulesPinLaw -/
def k1 : Class := { plain "com/example/heft/heft/model/CombiningAlgorithmCombinesRulesPinLaw" (some 0) with
  accessFlags := 49
  interfaces := #[]
  cf := some (fileOf pool1 51 #[] #[{ accessFlags := 2, nameIndex := 5, descriptorIndex := 6, attributes := #[] }, { accessFlags := 9, nameIndex := 55, descriptorIndex := 56, attributes := #[] }] 49 2 #[] #[])
  fields := #[]
  methods := #[k1m0, k1m1]
  instanceTypes := #[]
  staticTypes := #[]
  resolved := Array.replicate 62 none
  statics := none }

def pool2 : Array CpInfo := pool [(1, .class_ 2), (0, u "java/lang/constant/Constable"), (0, .class_ 4), (0, u "java/lang/Object")] 6

/-- java/lang/constant/Constable -/
def k2 : Class := { plain "java/lang/constant/Constable" (some 0) with
  accessFlags := 1537
  interfaces := #[]
  cf := some (fileOf pool2 1 #[] #[] 1537 3 #[] #[])
  fields := #[]
  methods := #[]
  instanceTypes := #[]
  staticTypes := #[]
  resolved := Array.replicate 11 none
  statics := none }

def pool3 : Array CpInfo := pool [(1, .class_ 2), (0, u "java/lang/Comparable"), (0, .class_ 4), (0, u "java/lang/Object")] 7

/-- java/lang/Comparable -/
def k3 : Class := { plain "java/lang/Comparable" (some 0) with
  accessFlags := 1537
  interfaces := #[]
  cf := some (fileOf pool3 1 #[] #[] 1537 3 #[] #[])
  fields := #[]
  methods := #[]
  instanceTypes := #[]
  staticTypes := #[]
  resolved := Array.replicate 12 none
  statics := none }

def pool4 : Array CpInfo := pool [(1, .class_ 2), (0, u "java/io/Serializable"), (0, .class_ 4), (0, u "java/lang/Object")] 2

/-- java/io/Serializable -/
def k4 : Class := { plain "java/io/Serializable" (some 0) with
  accessFlags := 1537
  interfaces := #[]
  cf := some (fileOf pool4 1 #[] #[] 1537 3 #[] #[])
  fields := #[]
  methods := #[]
  instanceTypes := #[]
  staticTypes := #[]
  resolved := Array.replicate 7 none
  statics := none }

def pool5 : Array CpInfo := pool [(2, .class_ 4), (1, u "java/lang/Enum"), (0, u "name"), (0, u "Ljava/lang/String;"), (2, u "ordinal"), (0, u "I"), (1, .class_ 14), (1, u "java/lang/Object"), (4, u "hash"), (86, .class_ 108), (1, u "java/lang/Enum$EnumDesc"), (2, .class_ 112), (0, u "java/lang/constant/Constable"), (0, .class_ 114), (0, u "java/lang/Comparable"), (0, .class_ 116), (0, u "java/io/Serializable")] 87

/-- java/lang/Enum -/
def k5 : Class := { plain "java/lang/Enum" (some 0) with
  accessFlags := 1057
  interfaces := #[2, 3, 4]
  cf := some (fileOf pool5 2 #[.nestMembers #[106]] #[] 1057 12 #[111, 113, 115] #[{ accessFlags := 18, nameIndex := 5, descriptorIndex := 6, attributes := #[] }, { accessFlags := 18, nameIndex := 9, descriptorIndex := 10, attributes := #[] }, { accessFlags := 2, nameIndex := 19, descriptorIndex := 10, attributes := #[] }])
  fields := #[{ name := "name", type := (.object "java/lang/String"), accessFlags := 18, slot := 0, constantValue := 0 }, { name := "ordinal", type := .int, accessFlags := 18, slot := 1, constantValue := 0 }, { name := "hash", type := .int, accessFlags := 2, slot := 2, constantValue := 0 }]
  methods := #[]
  instanceTypes := #[(.object "java/lang/String"), .int, .int]
  staticTypes := #[]
  resolved := Array.replicate 204 none
  statics := none }

def pool6 : Array CpInfo := pool [(1, .class_ 2), (0, u "com/example/heft/heft/model/CombiningAlgorithm"), (2, u "DENY_OVERRIDES"), (0, u "Lcom/example/heft/heft/model/CombiningAlgorithm;"), (2, u "PERMIT_OVERRIDES"), (2, u "ORDERED_DENY_OVERRIDES"), (2, u "ORDERED_PERMIT_OVERRIDES"), (2, u "DENY_UNLESS_PERMIT"), (2, u "PERMIT_UNLESS_DENY"), (2, u "FIRST_APPLICABLE"), (2, u "ONLY_ONE_APPLICABLE"), (2, u "LEGACY_DENY_OVERRIDES"), (2, u "LEGACY_PERMIT_OVERRIDES"), (2, u "LEGACY_ORDERED_DENY_OVERRIDES"), (2, u "LEGACY_ORDERED_PERMIT_OVERRIDES"), (2, u "$VALUES"), (0, u "[Lcom/example/heft/heft/model/CombiningAlgorithm;"), (6, .class_ 52), (1, u "java/lang/Enum"), (6, .fieldref 1 60), (0, .nameAndType 61 62), (0, u "ruleIdentifier"), (0, u "Ljava/lang/String;"), (2, u "policyIdentifier"), (116, u "combinesRules"), (0, u "()Z")] 32

def k6c0 : Code := { maxStack := 1, maxLocals := 1, code := prog_46_method_6_code, exceptionTable := #[], attributes := #[] }
def k6m0 : Method := { name := "combinesRules", desc := "()Z", sig := { parameters := [], returnType := some .boolean }, accessFlags := 1, code := some k6c0 }
/-- com/example/heft/heft/model/CombiningAlgorithm -/
def k6 : Class := { plain "com/example/heft/heft/model/CombiningAlgorithm" (some 5) with
  accessFlags := 16433
  interfaces := #[]
  cf := some (fileOf pool6 1 #[] #[{ accessFlags := 1, nameIndex := 182, descriptorIndex := 183, attributes := #[] }] 16433 50 #[] #[{ accessFlags := 16409, nameIndex := 5, descriptorIndex := 6, attributes := #[] }, { accessFlags := 16409, nameIndex := 9, descriptorIndex := 6, attributes := #[] }, { accessFlags := 16409, nameIndex := 12, descriptorIndex := 6, attributes := #[] }, { accessFlags := 16409, nameIndex := 15, descriptorIndex := 6, attributes := #[] }, { accessFlags := 16409, nameIndex := 18, descriptorIndex := 6, attributes := #[] }, { accessFlags := 16409, nameIndex := 21, descriptorIndex := 6, attributes := #[] }, { accessFlags := 16409, nameIndex := 24, descriptorIndex := 6, attributes := #[] }, { accessFlags := 16409, nameIndex := 27, descriptorIndex := 6, attributes := #[] }, { accessFlags := 16409, nameIndex := 30, descriptorIndex := 6, attributes := #[] }, { accessFlags := 16409, nameIndex := 33, descriptorIndex := 6, attributes := #[] }, { accessFlags := 16409, nameIndex := 36, descriptorIndex := 6, attributes := #[] }, { accessFlags := 16409, nameIndex := 39, descriptorIndex := 6, attributes := #[] }, { accessFlags := 18, nameIndex := 61, descriptorIndex := 62, attributes := #[] }, { accessFlags := 18, nameIndex := 65, descriptorIndex := 62, attributes := #[] }, { accessFlags := 4122, nameIndex := 42, descriptorIndex := 43, attributes := #[] }])
  fields := #[{ name := "DENY_OVERRIDES", type := (.object "com/example/heft/heft/model/CombiningAlgorithm"), accessFlags := 16409, slot := 0, constantValue := 0 }, { name := "PERMIT_OVERRIDES", type := (.object "com/example/heft/heft/model/CombiningAlgorithm"), accessFlags := 16409, slot := 1, constantValue := 0 }, { name := "ORDERED_DENY_OVERRIDES", type := (.object "com/example/heft/heft/model/CombiningAlgorithm"), accessFlags := 16409, slot := 2, constantValue := 0 }, { name := "ORDERED_PERMIT_OVERRIDES", type := (.object "com/example/heft/heft/model/CombiningAlgorithm"), accessFlags := 16409, slot := 3, constantValue := 0 }, { name := "DENY_UNLESS_PERMIT", type := (.object "com/example/heft/heft/model/CombiningAlgorithm"), accessFlags := 16409, slot := 4, constantValue := 0 }, { name := "PERMIT_UNLESS_DENY", type := (.object "com/example/heft/heft/model/CombiningAlgorithm"), accessFlags := 16409, slot := 5, constantValue := 0 }, { name := "FIRST_APPLICABLE", type := (.object "com/example/heft/heft/model/CombiningAlgorithm"), accessFlags := 16409, slot := 6, constantValue := 0 }, { name := "ONLY_ONE_APPLICABLE", type := (.object "com/example/heft/heft/model/CombiningAlgorithm"), accessFlags := 16409, slot := 7, constantValue := 0 }, { name := "LEGACY_DENY_OVERRIDES", type := (.object "com/example/heft/heft/model/CombiningAlgorithm"), accessFlags := 16409, slot := 8, constantValue := 0 }, { name := "LEGACY_PERMIT_OVERRIDES", type := (.object "com/example/heft/heft/model/CombiningAlgorithm"), accessFlags := 16409, slot := 9, constantValue := 0 }, { name := "LEGACY_ORDERED_DENY_OVERRIDES", type := (.object "com/example/heft/heft/model/CombiningAlgorithm"), accessFlags := 16409, slot := 10, constantValue := 0 }, { name := "LEGACY_ORDERED_PERMIT_OVERRIDES", type := (.object "com/example/heft/heft/model/CombiningAlgorithm"), accessFlags := 16409, slot := 11, constantValue := 0 }, { name := "ruleIdentifier", type := (.object "java/lang/String"), accessFlags := 18, slot := 3, constantValue := 0 }, { name := "policyIdentifier", type := (.object "java/lang/String"), accessFlags := 18, slot := 4, constantValue := 0 }, { name := "$VALUES", type := (.array (.object "com/example/heft/heft/model/CombiningAlgorithm")), accessFlags := 4122, slot := 12, constantValue := 0 }]
  methods := #[k6m0]
  instanceTypes := #[(.object "java/lang/String"), .int, .int, (.object "java/lang/String"), (.object "java/lang/String")]
  staticTypes := #[(.object "com/example/heft/heft/model/CombiningAlgorithm"), (.object "com/example/heft/heft/model/CombiningAlgorithm"), (.object "com/example/heft/heft/model/CombiningAlgorithm"), (.object "com/example/heft/heft/model/CombiningAlgorithm"), (.object "com/example/heft/heft/model/CombiningAlgorithm"), (.object "com/example/heft/heft/model/CombiningAlgorithm"), (.object "com/example/heft/heft/model/CombiningAlgorithm"), (.object "com/example/heft/heft/model/CombiningAlgorithm"), (.object "com/example/heft/heft/model/CombiningAlgorithm"), (.object "com/example/heft/heft/model/CombiningAlgorithm"), (.object "com/example/heft/heft/model/CombiningAlgorithm"), (.object "com/example/heft/heft/model/CombiningAlgorithm"), (.array (.object "com/example/heft/heft/model/CombiningAlgorithm"))]
  resolved := Array.replicate 216 none
  statics := some 0 }

def pool7 : Array CpInfo := pool [(2, .class_ 4), (1, u "java/lang/CharSequence"), (42, .class_ 48), (0, u "java/lang/CharSequence$1CodePointIterator"), (10, .class_ 60), (0, u "java/lang/CharSequence$1CharIterator"), (5, .class_ 67), (0, u "java/lang/Object")] 63

/-- java/lang/CharSequence -/
def k7 : Class := { plain "java/lang/CharSequence" (some 0) with
  accessFlags := 1537
  interfaces := #[]
  cf := some (fileOf pool7 2 #[.nestMembers #[47, 59]] #[] 1537 66 #[] #[])
  fields := #[]
  methods := #[]
  instanceTypes := #[]
  staticTypes := #[]
  resolved := Array.replicate 131 none
  statics := none }

def pool8 : Array CpInfo := pool [(1, .class_ 2), (0, u "java/lang/constant/ConstantDesc"), (0, .class_ 4), (0, u "java/lang/Object")] 32

/-- java/lang/constant/ConstantDesc -/
def k8 : Class := { plain "java/lang/constant/ConstantDesc" (some 0) with
  accessFlags := 1537
  interfaces := #[]
  cf := some (fileOf pool8 1 #[] #[] 1537 3 #[] #[])
  fields := #[]
  methods := #[]
  instanceTypes := #[]
  staticTypes := #[]
  resolved := Array.replicate 37 none
  statics := none }

def pool9 : Array CpInfo := pool [(2, .class_ 4), (1, u "java/lang/Object"), (0, u "<init>"), (0, u "()V"), (3, .class_ 12), (1, u "java/lang/String"), (0, u "value"), (0, u "[B"), (2, u "coder"), (0, u "B"), (2, u "hash"), (0, u "I"), (2, u "hashIsZero"), (0, u "Z"), (13, u "COMPACT_STRINGS"), (534, .class_ 576), (0, u "java/lang/CharSequence"), (22, u "CASE_INSENSITIVE_ORDER"), (0, u "Ljava/util/Comparator;"), (500, u "serialPersistentFields"), (0, u "[Ljava/io/ObjectStreamField;"), (0, .class_ 1104), (0, u "java/lang/String$CaseInsensitiveComparator"), (1, .class_ 1107), (0, u "java/io/Serializable"), (0, .class_ 1109), (0, u "java/lang/Comparable"), (0, .class_ 1111), (0, u "java/lang/constant/Constable"), (0, .class_ 1113), (0, u "java/lang/constant/ConstantDesc"), (2, u "serialVersionUID"), (0, u "J"), (3, u "REPL"), (0, u "C"), (2, u "LATIN1"), (1, u "UTF16")] 323

def k9m0 : Method := { name := "<init>", desc := "()V", sig := { parameters := [], returnType := none }, accessFlags := 1, code := none }
/-- java/lang/String -/
def k9 : Class := { plain "java/lang/String" (some 0) with
  accessFlags := 49
  interfaces := #[4, 3, 7, 2, 8]
  cf := some (fileOf pool9 10 #[.nestMembers #[1103]] #[{ accessFlags := 1, nameIndex := 5, descriptorIndex := 6, attributes := #[] }] 49 2 #[1106, 1108, 575, 1110, 1112] #[{ accessFlags := 18, nameIndex := 13, descriptorIndex := 14, attributes := #[] }, { accessFlags := 18, nameIndex := 17, descriptorIndex := 18, attributes := #[] }, { accessFlags := 2, nameIndex := 21, descriptorIndex := 22, attributes := #[] }, { accessFlags := 2, nameIndex := 25, descriptorIndex := 26, attributes := #[] }, { accessFlags := 26, nameIndex := 1116, descriptorIndex := 1117, attributes := #[] }, { accessFlags := 24, nameIndex := 40, descriptorIndex := 26, attributes := #[] }, { accessFlags := 26, nameIndex := 1101, descriptorIndex := 1102, attributes := #[] }, { accessFlags := 26, nameIndex := 1121, descriptorIndex := 1122, attributes := #[] }, { accessFlags := 25, nameIndex := 599, descriptorIndex := 600, attributes := #[] }, { accessFlags := 24, nameIndex := 1125, descriptorIndex := 18, attributes := #[] }, { accessFlags := 24, nameIndex := 1127, descriptorIndex := 18, attributes := #[] }])
  fields := #[{ name := "value", type := (.array .byte), accessFlags := 18, slot := 0, constantValue := 0 }, { name := "coder", type := .byte, accessFlags := 18, slot := 1, constantValue := 0 }, { name := "hash", type := .int, accessFlags := 2, slot := 2, constantValue := 0 }, { name := "hashIsZero", type := .boolean, accessFlags := 2, slot := 3, constantValue := 0 }, { name := "serialVersionUID", type := .long, accessFlags := 26, slot := 0, constantValue := 0 }, { name := "COMPACT_STRINGS", type := .boolean, accessFlags := 24, slot := 1, constantValue := 0 }, { name := "serialPersistentFields", type := (.array (.object "java/io/ObjectStreamField")), accessFlags := 26, slot := 2, constantValue := 0 }, { name := "REPL", type := .char, accessFlags := 26, slot := 3, constantValue := 0 }, { name := "CASE_INSENSITIVE_ORDER", type := (.object "java/util/Comparator"), accessFlags := 25, slot := 4, constantValue := 0 }, { name := "LATIN1", type := .byte, accessFlags := 24, slot := 5, constantValue := 0 }, { name := "UTF16", type := .byte, accessFlags := 24, slot := 6, constantValue := 0 }]
  methods := #[k9m0]
  instanceTypes := #[(.array .byte), .byte, .int, .boolean]
  staticTypes := #[.long, .boolean, (.array (.object "java/io/ObjectStreamField")), .char, (.object "java/util/Comparator"), .byte, .byte]
  resolved := Array.replicate 1451 none
  statics := none }

def pool10 : Array CpInfo := pool [(1, u "java/lang/Cloneable"), (0, .class_ 1), (0, u "java/lang/Object"), (0, .class_ 3)] 3

/-- java/lang/Cloneable -/
def k10 : Class := { plain "java/lang/Cloneable" (some 0) with
  accessFlags := 1537
  interfaces := #[]
  cf := some (fileOf pool10 2 #[] #[] 1537 4 #[] #[])
  fields := #[]
  methods := #[]
  instanceTypes := #[]
  staticTypes := #[]
  resolved := Array.replicate 8 none
  statics := none }

/-- the primitive byte -/
def k11 : Class := { plain "byte" none with kind := .primitive 'B', accessFlags := 0x411 }
/-- [B -/
def k12 : Class := { plain "[B" (some 0) with kind := .array 11 .byte, interfaces := #[10, 4], accessFlags := 1041 }

/-- the primitive int -/
def k13 : Class := { plain "int" none with kind := .primitive 'I', accessFlags := 0x411 }
/-- [I -/
def k14 : Class := { plain "[I" (some 0) with kind := .array 13 .int, interfaces := #[10, 4], accessFlags := 1041 }

/-- [Lcom/example/heft/heft/model/CombiningAlgorithm; -/
def k15 : Class := { plain "[Lcom/example/heft/heft/model/CombiningAlgorithm;" (some 0) with kind := .array 6 (.object "com/example/heft/heft/model/CombiningAlgorithm"), interfaces := #[10, 4], accessFlags := 1041 }

def heap : Heap := #[{ cls := 6, slots := #[.ref 1, .ref 2, .ref 3, .ref 4, .ref 5, .ref 6, .ref 7, .ref 8, .ref 9, .ref 10, .ref 11, .ref 12, .null], vm := .statics 6 },
  { cls := 6, slots := #[.null, .int 0, .int 0, .ref 13, .null], vm := .none },
  { cls := 6, slots := #[.null, .int 1, .int 0, .ref 13, .null], vm := .none },
  { cls := 6, slots := #[.null, .int 2, .int 0, .ref 13, .null], vm := .none },
  { cls := 6, slots := #[.null, .int 3, .int 0, .ref 13, .null], vm := .none },
  { cls := 6, slots := #[.null, .int 4, .int 0, .ref 13, .null], vm := .none },
  { cls := 6, slots := #[.null, .int 5, .int 0, .ref 13, .null], vm := .none },
  { cls := 6, slots := #[.null, .int 6, .int 0, .ref 13, .null], vm := .none },
  { cls := 6, slots := #[.null, .int 7, .int 0, .null, .null], vm := .none },
  { cls := 6, slots := #[.null, .int 8, .int 0, .ref 13, .null], vm := .none },
  { cls := 6, slots := #[.null, .int 9, .int 0, .ref 13, .null], vm := .none },
  { cls := 6, slots := #[.null, .int 10, .int 0, .ref 13, .null], vm := .none },
  { cls := 6, slots := #[.null, .int 11, .int 0, .ref 13, .null], vm := .none },
  { cls := 9, slots := #[.null, .int 0, .int 0, .int 0], vm := .none }]
def classes : Array Class := #[k0, k1, k2, k3, k4, k5, k6, k7, k8, k9, k10, k11, k12, k13, k14, k15]
def interned : List (Array UInt16 × Addr) := []
def slotsUsed : Nat := 77
def theMethod : MethodId := ⟨1, 1⟩
def args0 : Array Value := #[.int 5]
def aboutOver (below : List Frame) : State where
  vm := { classes := classes, interned := interned.toArray }
  heap := heap
  slotsUsed := slotsUsed
  threads := #[{ frames := .invoking theMethod args0 :: below }]
def below0 : List Frame := [.native { method := ⟨0, 0⟩, args := #[] }]
def about1 : State := aboutOver below0
def p0 : Program := .bare "" "" ""
def e0 : Env := launch0.env 0 0 0
theorem w_frames : about1.frames = Frame.invoking theMethod args0 :: below0 := rfl
set_option maxRecDepth 65536 in
theorem w_args : argsFit about1.vm theMethod args0 = true := by decide +kernel
set_option maxRecDepth 65536 in
theorem w_heap : heapFits about1 = true := by decide +kernel
set_option maxRecDepth 65536 in
theorem w_runnable : about1.curStatus? = some .runnable := by decide +kernel
set_option maxRecDepth 65536 in
theorem w_alone : about1.alone = true := by decide +kernel
set_option maxRecDepth 65536 in
theorem w_named : about1.methodNamed? x = some theMethod := by decide +kernel
set_option maxRecDepth 65536 in
theorem w_hears : about1.hears theMethod below0 = true := by decide +kernel
set_option maxRecDepth 65536 in
theorem w_ripe : about1.ripe theMethod args0 below0 = true := by decide +kernel
theorem w_running : about1.status = .running := rfl
set_option maxRecDepth 65536 in
theorem w_room : about1.hasRoom e0.platform room_1 = true :=
  launch0.hasRoom_least _ room_1 (by decide +kernel) (by decide +kernel) (by decide +kernel) (by decide +kernel) (by decide +kernel) (by decide +kernel)
theorem allAtoms_all (ts : List Jvm.Cond) (a : Array Jvm.Value) (st : Jvm.State) : (allAtoms ts).before a st = ts.all (fun c => c.before a st) := by
  induction ts with
  | nil => rfl
  | cons c t ih =>
    show (Jvm.Cond.and c (allAtoms t)).before a st = _
    rw [Jvm.Cond.before_and, ih, List.all_cons]
def words1 : List Jvm.Cond := Jvm.Cond.code x code maxLocals ret :: tables_1
/-- a 'code' word, met by the world's own term for the bytes: nothing is compared byte by byte -/
theorem code_word {y : MethodName} {bytes : ByteArray} {mx : Nat} {rt : Option FieldType} {a : Array Value} {s : State} {m : MethodId} {meth : Method} {c : Code} (h1 : s.methodNamed? y = some m) (h2 : s.vm.method? m = some meth) (h3 : meth.code = some c) (h4 : c.code = bytes)
    (h5 : (c.maxLocals == mx && c.exceptionTable.isEmpty && decide (c.maxStack ≤ mostOperands) && decide (meth.sig.returnType = rt) && !meth.locks && decide (parseMethodDescriptor y.desc = some meth.sig)) = true) : (Jvm.Cond.code y bytes mx rt).before a s = true := by
  simp only [Bool.and_eq_true, beq_iff_eq, Bool.not_eq_true', decide_eq_true_eq] at h5
  obtain ⟨⟨⟨⟨⟨g1, g2⟩, g3⟩, g4⟩, g5⟩, g6⟩ := h5
  simp [Cond.before, Cond.holds, Cond.value, h1, h2, h3, h4, g1, g2, g3, g4, g5, g6]
def isCode : Jvm.Cond → Bool
  | .code _ _ _ _ => true
  | _ => false
theorem all_split {L : List Jvm.Cond} {P : Jvm.Cond → Bool} (h1 : L.all (fun c => isCode c || P c) = true) (h2 : ∀ c ∈ L.filter isCode, P c = true) : L.all P = true := by
  refine List.all_eq_true.mpr fun c hc => ?_
  have h := List.all_eq_true.mp h1 c hc
  rcases Bool.eq_false_or_eq_true (isCode c) with hi | hi
  · exact h2 c (List.mem_filter.mpr ⟨hc, hi⟩)
  · simpa [hi] using h
set_option maxRecDepth 65536 in
theorem w_c0 : (Jvm.Cond.code x code maxLocals ret).before args0 about1 = true := code_word (m := ⟨1, 1⟩) (meth := k1m1) (c := k1c1) (by decide +kernel) rfl rfl rfl (by decide +kernel)
set_option maxRecDepth 65536 in
theorem w_c1 : (Jvm.Cond.code ({ cls := "com/example/heft/heft/model/CombiningAlgorithm", name := "combinesRules", desc := "()Z" } : Jvm.MethodName) prog_46_method_6_code (1 : Nat) (Option.some Jvm.ClassFile.FieldType.boolean)).before args0 about1 = true := code_word (m := ⟨6, 0⟩) (meth := k6m0) (c := k6c0) (by decide +kernel) rfl rfl rfl (by decide +kernel)
def codes1 : List Jvm.Cond := [Jvm.Cond.code x code maxLocals ret, Jvm.Cond.code ({ cls := "com/example/heft/heft/model/CombiningAlgorithm", name := "combinesRules", desc := "()Z" } : Jvm.MethodName) prog_46_method_6_code (1 : Nat) (Option.some Jvm.ClassFile.FieldType.boolean)]
set_option maxRecDepth 65536 in
theorem codes_eq : words1.filter isCode = codes1 := rfl
theorem w_codes : ∀ c ∈ words1.filter isCode, c.before args0 about1 = true := by
  rw [codes_eq]
  intro c hc
  simp only [codes1, List.mem_cons, List.not_mem_nil, or_false] at hc
  rcases hc with rfl | rfl
  · exact w_c0
  · exact w_c1
set_option maxRecDepth 65536 in
theorem w_t1 : (words1.take 24).all (fun c => isCode c || c.before args0 about1) = true := by decide +kernel
set_option maxRecDepth 65536 in
theorem w_t2 : (words1.drop 24).all (fun c => isCode c || c.before args0 about1) = true := by decide +kernel
theorem w_tables : (allAtoms (Jvm.Cond.code x code maxLocals ret :: tables_1)).before args0 about1 = true := by
  rw [allAtoms_all]
  show words1.all (fun c => c.before args0 about1) = true
  refine all_split ?_ w_codes
  rw [← List.take_append_drop 24 words1, List.all_append, w_t1, w_t2]
  rfl
set_option maxRecDepth 65536 in
theorem w_case : (Jvm.Cond.and given_1 narrow_1).before args0 about1 = true := by decide +kernel
theorem w_applies : (headSpec (Jvm.Cond.code x code maxLocals ret :: tables_1) room_1).applies x e0.platform about1 = true :=
  (Spec.applies_iff w_frames).mpr ⟨w_running, w_runnable, w_alone, w_named, w_hears, w_ripe, w_room, w_tables⟩
theorem atStart : AtStart classFile x code maxLocals ret World_1 tables_1 room_1 Calls_1 rest_1 Pre_1 launch0 p0 e0 about1 theMethod args0 below0 :=
  ⟨lists_1, trivial, launch0.admits_env _ _ _, launch0.least_env, fairChoices_fair.cas, fairChoices_fair.clock, w_frames, w_args, w_heap, w_applies, trivial, trivial, w_case⟩
end start1
theorem witness_1 : WitnessClaimed_1 := ⟨start1.p0, start1.e0, start1.about1, start1.theMethod, start1.args0, start1.below0, start1.atStart⟩
end Jvm.Pilot.@@N@@
