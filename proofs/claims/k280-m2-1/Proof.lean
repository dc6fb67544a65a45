import JvmDerived
import JvmDerived.Pilot.@@N@@Statement
import JvmDerived.Pilot.@@N@@Code
set_option linter.unusedVariables false
set_option linter.unusedSimpArgs false
@@BLOCK:NumsL.lean.txt@@
namespace Jvm.RoadKit
open Sem ClassFile Op Lib Jvm.Stand Jvm.Free Jvm.LawKit
section New
variable {p : Program} {l : Launch} {e : Env} {R : Room} {s : State} {m : MethodId} {args : Array Value} {below : List Frame} {meth : Method} {c : Code} {T : State} {locs : List Loc} {cells slots : Nat}
theorem retI (X : Stand p l e R s m args below meth c T locs cells slots) (hx : p.tables.exec = Jvm.exec) {pc : Nat} {Ls : Array Slot} {z : Int32} {rest : List Value} (hret : meth.sig.returnType = some .int) (hd : decode c.code pc = .ok (.ireturn, 1)) {fs : List Frame}
    (hl : ∀ (f : JFrame) (acts : List Action), f.method = m → f.locked = none → f.entered = [] → (doReturn e (T.setTop f) acts (some (.int z))).1 = T.setFrames fs) : Steps p.tables e below (T.setTop (mkF m pc Ls (.int z :: rest))) (T.setFrames fs) := by
  have hm' : T.vm.method? m = some meth := X.method'
  have hn : narrow .int (.int z) = .int z := rfl
  show Steps p.tables e below (T.setTop { method := m, pc := pc, locals := Ls, stack := _ :: rest, locked := none }) _
  jvm_step X.here [X.here.top, hx, hd, hm', hret, hn]
  first | (intro acts; rw [hl _ acts rfl rfl rfl]) | rw [hl _ _ rfl rfl rfl]
  exact Steps.refl _
end New
end Jvm.RoadKit
namespace Jvm.Pilot.@@N@@
open Jvm Jvm.ClassFile Sem Op Lib Jvm.Free Jvm.Stand Jvm.LawKit Jvm.RoadKit Bundle Jvm.Pilot.@@N@@.Jvm.D
theorem own_lclt {x y : Int64} (h : x < y) : lcmpW x y < 0 := by rw [lcW]; exact (lc_lt x y).2 h
theorem own_lcge {x y : Int64} (h : ¬ x < y) : ¬ (lcmpW x y < 0) := by rw [lcW]; exact fun k => h ((lc_lt x y).1 k)
theorem own_lcgt {x y : Int64} (h : y < x) : 0 < lcmpW x y := by rw [lcW]; exact (lc_gt x y).2 h
theorem own_lcle {x y : Int64} (h : ¬ y < x) : ¬ (0 < lcmpW x y) := by rw [lcW]; exact fun k => h ((lc_gt x y).1 k)
theorem own_lceq {x y : Int64} (h : x = y) : lcmpW x y = 0 := by rw [lcW]; exact (lc_eq x y).2 h
theorem own_lcne {x y : Int64} (h : ¬ (x = y)) : ¬ (lcmpW x y = 0) := by rw [lcW]; exact fun k => h ((lc_eq x y).1 k)
theorem d1_0 : decode prog_19_method_1_code 0 = .ok (.aload_n 0, 1) := by decide +kernel
theorem d1_1 : decode prog_19_method_1_code 1 = .ok (.invokespecial 1, 3) := by decide +kernel
theorem d1_4 : decode prog_19_method_1_code 4 = .ok (.return_, 1) := by decide +kernel
def Q_rm1 (Z : State) (a1 : Addr)  (h0 : Heap) (n0 : Nat) (v : Option Value) (h : Heap) (L : List Loc) : Prop := v = none ∧ Fr n0 L ∧ h = h0
theorem pn_com_example_rightful_keys_rightfulkeys_policy_Budget : plainName "com/example/rightful_keys/rightfulkeys/policy/Budget" = true := by first | (simp [plainName, overriddenIn]; done) | decide +kernel
set_option maxRecDepth 65536 in
set_option maxHeartbeats 40000000 in
theorem rm1 (l : Launch) (Z : State) (a0 : Array Value) (hw : ∀ d ∈ tables_1, d.before a0 Z = true) (ws : List Jvm.Cond) (a1 : Addr)  (h0 : Heap) (n0 : Nat) (Z0 : n0 ≤ h0.size)  :
    MetFree l (⟨"com/example/rightful_keys/rightfulkeys/policy/Budget", "<init>", "()V"⟩ : MethodName) (head1 (Jvm.Cond.code (⟨"com/example/rightful_keys/rightfulkeys/policy/Budget", "<init>", "()V"⟩ : MethodName) prog_19_method_1_code 1 none :: ws) ({ frames := 1, cells := 0, slots := 0, locals := 12 } : Room)) (fun a U => a = #[(.ref a1)] ∧ Z.Warmed39 U.vm ∧ U.heap = h0) (fun _ _ _ _ _ => True) (fun _ U o U' => ∃ v L, o = .returned v ∧ Q_rm1 Z a1 h0 n0 v U'.heap L ∧ FrameEnd U o U' L ({ frames := 1, cells := 0, slots := 0, locals := 12 } : Room).cells ({ frames := 1, cells := 0, slots := 0, locals := 12 } : Room).slots) := by
  refine MetFree.of_bodySF (plainFor_of_name pn_com_example_rightful_keys_rightfulkeys_policy_Budget) hisR ?_
  intro p e s m args below meth c s₁ Bd hml0 hP hK
  obtain ⟨rfl, hZ, hh⟩ := hP
  have hx := Bd.exec
  have hby := Bd.bytes
  have hml : c.maxLocals = 1 := hml0
  have hown : s.vm.findClass "com/example/rightful_keys/rightfulkeys/policy/Budget" = some m.cls := findClass_of_methodNamed Bd.named
  have hnm := (name_of_methodNamed Bd.named Bd.method).1
  have X0 : Stand p l e ({ frames := 1, cells := 0, slots := 0, locals := 12 } : Room) s m #[(.ref a1)] below meth c s₁ [] 0 0 := Stand.of_body Bd
  have e0 : s₁.heap = h0 := by rw [← hh, Bd.state]; rfl
  have N0 := Fr.nil n0
  have go0 : Goes p e below s₁ (entryFrame m #[(.ref a1)] 1) s₁ (mkF m 0 #[.val (.ref a1)] []) := fun t k => castTop (by first | (simp [entryFrame, mkF, argsToLocals, Value.category]; done) | rfl) k
  have go1 : Goes p e below s₁ (entryFrame m #[(.ref a1)] 1) s₁ (mkF m 1 #[.val (.ref a1)] [(.ref a1)]) := fun t k => go0 t (by
    show Steps p.tables e below (s₁.setTop (mkF m 0 #[.val (.ref a1)] [])) _
    refine XS.aloadN X0.here hx rfl (hb hby d1_0) rfl rfl ?_
    exact k)
  obtain ⟨T2, X2, e2, st2⟩ := initO X0 hx hZ hown (hw _ (List.mem_of_getElem? (i := 8) rfl)) (hw _ (List.mem_of_getElem? (i := 9) rfl)) (hw _ (List.mem_of_getElem? (i := 10) rfl)) e0 (g := (mkF m 1 #[.val (.ref a1)] [(.ref a1)])) rfl (by rw [hml]; rfl) rfl (hb hby d1_1) (by decide) (W := 0) (by show 2 * 0 + _ ≤ _; exact Nat.le_of_eq rfl) (by decide)
  have go2 : Goes p e below s₁ (entryFrame m #[(.ref a1)] 1) T2 (mkF m 4 #[.val (.ref a1)] []) := fun t k => go1 t (st2 _ k)
  obtain ⟨fs, hr, hrun, hended, hW, hsame⟩ := X2.leave (v := none) (fun _ => rfl)
  refine ⟨_, _, go2 _ ?_, hrun, hended, _, _, rfl, ?_, ⟨_, rfl⟩, hW, hsame.mono (by decide) (by decide)⟩
  · exact X2.returnOut hx Bd.returns (hb hby d1_4) hr
  · show Q_rm1 Z a1 h0 n0 _ T2.heap _
    rw [e2]
    exact ⟨rfl, N0, rfl⟩
theorem d3_0 : decode prog_19_method_3_code 0 = .ok (.aload_n 0, 1) := by decide +kernel
theorem d3_1 : decode prog_19_method_3_code 1 = .ok (.dup, 1) := by decide +kernel
theorem d3_2 : decode prog_19_method_3_code 2 = .ok (.getfield 13, 3) := by decide +kernel
theorem d3_5 : decode prog_19_method_3_code 5 = .ok (.lload_n 1, 1) := by decide +kernel
theorem d3_6 : decode prog_19_method_3_code 6 = .ok (.ladd, 1) := by decide +kernel
theorem d3_7 : decode prog_19_method_3_code 7 = .ok (.putfield 13, 3) := by decide +kernel
theorem d3_10 : decode prog_19_method_3_code 10 = .ok (.aload_n 0, 1) := by decide +kernel
theorem d3_11 : decode prog_19_method_3_code 11 = .ok (.getfield 13, 3) := by decide +kernel
theorem d3_14 : decode prog_19_method_3_code 14 = .ok (.ldc2_w 17, 3) := by decide +kernel
theorem d3_17 : decode prog_19_method_3_code 17 = .ok (.lcmp, 1) := by decide +kernel
theorem d3_18 : decode prog_19_method_3_code 18 = .ok (.ifCond .le 18, 3) := by decide +kernel
theorem d3_36 : decode prog_19_method_3_code 36 = .ok (.return_, 1) := by decide +kernel
def Q_rm3 (Z : State) (a1 : Addr) (q2 : Int64) (w3 : Int64) (h0 : Heap) (n0 : Nat) (v : Option Value) (h : Heap) (L : List Loc) : Prop := v = none ∧ Fr n0 L ∧ Keep h0 h [a1] ∧ Exa Z h a1 "com/example/rightful_keys/rightfulkeys/policy/Budget" ∧ Fld Z h a1 "com/example/rightful_keys/rightfulkeys/policy/Budget" "spent" "J" (.long (w3 + q2))
set_option maxRecDepth 65536 in
set_option maxHeartbeats 40000000 in
theorem rm3 (l : Launch) (Z : State) (a0 : Array Value) (hw : ∀ d ∈ tables_1, d.before a0 Z = true) (ws : List Jvm.Cond) (a1 : Addr) (q2 : Int64) (w3 : Int64) (h0 : Heap) (n0 : Nat) (Z0 : n0 ≤ h0.size) (g_a1 : n0 ≤ a1) (Ex : Exa Z h0 a1 "com/example/rightful_keys/rightfulkeys/policy/Budget") (F : Fld Z h0 a1 "com/example/rightful_keys/rightfulkeys/policy/Budget" "spent" "J" (.long w3)) (hle : ¬ ((16000000 : Int64) < (w3 + q2))) :
    MetFree l (⟨"com/example/rightful_keys/rightfulkeys/policy/Budget", "spend", "(J)V"⟩ : MethodName) (head1 (Jvm.Cond.code (⟨"com/example/rightful_keys/rightfulkeys/policy/Budget", "spend", "(J)V"⟩ : MethodName) prog_19_method_3_code 3 none :: ws) ({ frames := 0, cells := 0, slots := 0, locals := 0 } : Room)) (fun a U => a = #[(.ref a1), (.long q2)] ∧ Z.Warmed39 U.vm ∧ U.heap = h0) (fun _ _ _ _ _ => True) (fun _ U o U' => ∃ v L, o = .returned v ∧ Q_rm3 Z a1 q2 w3 h0 n0 v U'.heap L ∧ FrameEnd U o U' L ({ frames := 0, cells := 0, slots := 0, locals := 0 } : Room).cells ({ frames := 0, cells := 0, slots := 0, locals := 0 } : Room).slots) := by
  refine MetFree.of_bodySF (plainFor_of_name pn_com_example_rightful_keys_rightfulkeys_policy_Budget) hisR ?_
  intro p e s m args below meth c s₁ Bd hml0 hP hK
  obtain ⟨rfl, hZ, hh⟩ := hP
  have hx := Bd.exec
  have hby := Bd.bytes
  have hml : c.maxLocals = 3 := hml0
  have hown : s.vm.findClass "com/example/rightful_keys/rightfulkeys/policy/Budget" = some m.cls := findClass_of_methodNamed Bd.named
  have hnm := (name_of_methodNamed Bd.named Bd.method).1
  have X0 : Stand p l e ({ frames := 0, cells := 0, slots := 0, locals := 0 } : Room) s m #[(.ref a1), (.long q2)] below meth c s₁ [] 0 0 := Stand.of_body Bd
  have e0 : s₁.heap = h0 := by rw [← hh, Bd.state]; rfl
  have N0 := Fr.nil n0
  have KP0 : Keep h0 h0 [a1] := Keep.refl h0 [a1]
  have go0 : Goes p e below s₁ (entryFrame m #[(.ref a1), (.long q2)] 3) s₁ (mkF m 0 #[.val (.ref a1), .val (.long q2), .second] []) := fun t k => castTop (by first | (simp [entryFrame, mkF, argsToLocals, Value.category]; done) | rfl) k
  have go3 : Goes p e below s₁ (entryFrame m #[(.ref a1), (.long q2)] 3) s₁ (mkF m 2 #[.val (.ref a1), .val (.long q2), .second] [(.ref a1), (.ref a1)]) := fun t k => go0 t (by
    show Steps p.tables e below (s₁.setTop (mkF m 0 #[.val (.ref a1), .val (.long q2), .second] [])) _
    refine XS.aloadN X0.here hx rfl (hb hby d3_0) rfl rfl ?_
    show Steps p.tables e below (s₁.setTop (mkF m 1 #[.val (.ref a1), .val (.long q2), .second] [(.ref a1)])) _
    refine XS.dup X0.here hx rfl (hb hby d3_1) rfl rfl ?_
    exact k)
  obtain ⟨T4, X4, e4, st4⟩ := getF X0 hx hZ hown (host := "") (Or.inl (hw _ (List.mem_of_getElem? (i := 16) rfl))) Via.refl e0 F (g := (mkF m 2 #[.val (.ref a1), .val (.long q2), .second] [(.ref a1), (.ref a1)])) rfl rfl (hb hby d3_2)
  have go4 : Goes p e below s₁ (entryFrame m #[(.ref a1), (.long q2)] 3) T4 (mkF m 5 #[.val (.ref a1), .val (.long q2), .second] [(.long w3), (.ref a1)]) := fun t k => go3 t (st4 _ k)
  have go5 : Goes p e below s₁ (entryFrame m #[(.ref a1), (.long q2)] 3) T4 (mkF m 7 #[.val (.ref a1), .val (.long q2), .second] [(.long (w3 + q2)), (.ref a1)]) := fun t k => go4 t (by
    show Steps p.tables e below (T4.setTop (mkF m 5 #[.val (.ref a1), .val (.long q2), .second] [(.long w3), (.ref a1)])) _
    refine XS.lloadN X4.here hx rfl (hb hby d3_5) rfl ?_
    show Steps p.tables e below (T4.setTop (mkF m 6 #[.val (.ref a1), .val (.long q2), .second] [(.long q2), (.long w3), (.ref a1)])) _
    refine XS.ladd X4.here hx rfl (hb hby d3_6) rfl ?_
    exact k)
  obtain ⟨T6, h6, X6, e6, W6, st6⟩ := putF X4 hx hZ hown (host := "") (Or.inl (hw _ (List.mem_of_getElem? (i := 16) rfl))) Via.refl e4 F Ex (Or.inl (hw _ (List.mem_of_getElem? (i := 17) rfl))) (hw _ (List.mem_of_getElem? (i := 3) rfl)) (ty := .long) (by decide) rfl rfl (g := (mkF m 7 #[.val (.ref a1), .val (.long q2), .second] [(.long (w3 + q2)), (.ref a1)])) rfl rfl (hb hby d3_7)
  have N6 := Fr.snoc X6 N0 g_a1
  have KP6 : Keep h0 h6 [a1] := KP0.wr W6 (Or.inl (List.mem_of_getElem? (i := 0) rfl))
  have ZS6 : n0 ≤ h6.size := Nat.le_trans Z0 (Keep.of_wr W6).1
  have F6 := Fld.same W6 F
  have go6 : Goes p e below s₁ (entryFrame m #[(.ref a1), (.long q2)] 3) T6 (mkF m 10 #[.val (.ref a1), .val (.long q2), .second] []) := fun t k => go5 t (st6 _ k)
  have go7 : Goes p e below s₁ (entryFrame m #[(.ref a1), (.long q2)] 3) T6 (mkF m 11 #[.val (.ref a1), .val (.long q2), .second] [(.ref a1)]) := fun t k => go6 t (by
    show Steps p.tables e below (T6.setTop (mkF m 10 #[.val (.ref a1), .val (.long q2), .second] [])) _
    refine XS.aloadN X6.here hx rfl (hb hby d3_10) rfl rfl ?_
    exact k)
  obtain ⟨T8, X8, e8, st8⟩ := getF X6 hx hZ hown (host := "") (Or.inl (hw _ (List.mem_of_getElem? (i := 16) rfl))) Via.refl e6 F6 (g := (mkF m 11 #[.val (.ref a1), .val (.long q2), .second] [(.ref a1)])) rfl rfl (hb hby d3_11)
  have go8 : Goes p e below s₁ (entryFrame m #[(.ref a1), (.long q2)] 3) T8 (mkF m 14 #[.val (.ref a1), .val (.long q2), .second] [(.long (w3 + q2))]) := fun t k => go7 t (st8 _ k)
  have go9 : Goes p e below s₁ (entryFrame m #[(.ref a1), (.long q2)] 3) T8 (mkF m 18 #[.val (.ref a1), .val (.long q2), .second] [(.int (lcmpW (w3 + q2) (16000000 : Int64)))]) := fun t k => go8 t (by
    show Steps p.tables e below (T8.setTop (mkF m 14 #[.val (.ref a1), .val (.long q2), .second] [(.long (w3 + q2))])) _
    refine X8.ldc2Long hx hown (mvT hZ (hw _ (List.mem_of_getElem? (i := 18) rfl))) (g := (mkF m 14 #[.val (.ref a1), .val (.long q2), .second] [(.long (w3 + q2))])) rfl (hb hby d3_14) _ ?_
    show Steps p.tables e below (T8.setTop (mkF m 17 #[.val (.ref a1), .val (.long q2), .second] [(.long (16000000 : Int64)), (.long (w3 + q2))])) _
    refine XS.lcmp X8.here hx rfl (hb hby d3_17) rfl ?_
    exact k)
  have go10 : Goes p e below s₁ (entryFrame m #[(.ref a1), (.long q2)] 3) T8 (mkF m 36 #[.val (.ref a1), .val (.long q2), .second] []) := fun t k => go9 t (by
    show Steps p.tables e below (T8.setTop (mkF m 18 #[.val (.ref a1), .val (.long q2), .second] [(.int (lcmpW (w3 + q2) (16000000 : Int64)))])) _
    refine XS.ifYes X8.here hx rfl (pc0 := 18) (pc' := 36) rfl (hb hby d3_18) rfl ((if0 _ _).trans (flt (own_lcle hle)).2.2.2) (by decide) (by decide) ?_
    exact k)
  obtain ⟨fs, hr, hrun, hended, hW, hsame⟩ := X8.leave (v := none) (fun _ => rfl)
  refine ⟨_, _, go10 _ ?_, hrun, hended, _, _, rfl, ?_, ⟨_, rfl⟩, hW, hsame.mono (by decide) (by decide)⟩
  · exact X8.returnOut hx Bd.returns (hb hby d3_36) hr
  · show Q_rm3 Z a1 q2 w3 h0 n0 _ T8.heap _
    rw [e8]
    exact ⟨rfl, N6, KP6, (Exa.wr W6 Ex), F6⟩
theorem own_mask63 (t : Int64) : 0 ≤ (t &&& (9223372036854775807 : Int64)).toInt := by
  rw [Jvm.Kit.i64_mask t 9223372036854775807 (k := 63) (by decide) (by decide)]; omega
theorem own_rem {t y : Int64} (ht : 0 ≤ t.toInt) (hy : 1 ≤ y.toInt) : 0 ≤ (t - (t / y) * y).toInt ∧ (t - (t / y) * y).toInt < y.toInt := by
  rw [Jvm.Kit.i64_rem_nonneg ht]
  exact ⟨Int.emod_nonneg _ (by omega), Int.emod_lt_of_pos _ (by omega)⟩
theorem own_S : (16000000 : Int64).toInt = 16000000 := by decide
theorem own_S1 : ((16000000 : Int64) + (1 : Int64)).toInt = 16000001 := by decide
theorem own_left {x : Int64} (h : 0 ≤ x.toInt ∧ x.toInt < 16000001) : ((16000000 : Int64) - x).toInt = 16000000 - x.toInt := by
  rw [Jvm.Kit.i64_sub (by rw [own_S]; omega) (by rw [own_S]; omega), own_S]
theorem own_left1 {x : Int64} (h : 0 ≤ x.toInt ∧ x.toInt < 16000001) : (((16000000 : Int64) - x) + (1 : Int64)).toInt = 16000001 - x.toInt := by
  have e := own_left h
  have o : (1 : Int64).toInt = 1 := by decide
  rw [Jvm.Kit.i64_add (by rw [e, o]; omega) (by rw [e, o]; omega), e, o]; omega
theorem own_nz {y : Int64} (h : 1 ≤ y.toInt) : y ≠ 0 := fun k => by
  have := congrArg Int64.toInt k
  rw [Int64.toInt_zero] at this; omega
theorem own_sum {u v : Int64} (hu : 0 ≤ u.toInt) (hv : 0 ≤ v.toInt) (h : u.toInt + v.toInt ≤ 16000000) : (u + v).toInt = u.toInt + v.toInt := Jvm.Kit.i64_add (by omega) (by omega)
theorem own_ok {u v : Int64} (hu : 0 ≤ u.toInt) (hv : 0 ≤ v.toInt) (h : u.toInt + v.toInt ≤ 16000000) : ¬ ((16000000 : Int64) < u + v) := by
  rw [Int64.lt_iff_toInt_lt, own_sum hu hv h, own_S]; omega
theorem pd_0 : parseMethodDescriptor "()V" = some ⟨[], none⟩ := by decide +kernel
theorem pd_1 : parseMethodDescriptor "(J)V" = some ⟨[.long], none⟩ := by decide +kernel
def Q_rm0 (Z : State) (q1 : Int64) (q2 : Int64)  (h0 : Heap) (n0 : Nat) (v : Option Value) (h : Heap) (L : List Loc) : Prop := v = some (.int (1 : Int32)) ∧ Fr n0 L
theorem pn_com_example_rightful_keys_rightfulkeys_policy_BudgetSpendPinLaw : plainName "com/example/rightful_keys/rightfulkeys/policy/BudgetSpendPinLaw" = true := by first | (simp [plainName, overriddenIn]; done) | decide +kernel
set_option maxRecDepth 65536 in
set_option maxHeartbeats 40000000 in
theorem rm0 (l : Launch) (Z : State) (a0 : Array Value) (hw : ∀ d ∈ tables_1, d.before a0 Z = true) (ws : List Jvm.Cond) (q1 : Int64) (q2 : Int64)  (h0 : Heap) (n0 : Nat) (Z0 : n0 ≤ h0.size)  :
    MetFree l x (head1 (Jvm.Cond.code x code maxLocals ret :: ws) room_1) (fun a U => a = #[(.long q1), (.long q2)] ∧ Z.Warmed39 U.vm ∧ U.heap = h0) (fun _ _ _ _ _ => True) (fun _ U o U' => ∃ v L, o = .returned v ∧ Q_rm0 Z q1 q2 h0 n0 v U'.heap L ∧ FrameEnd U o U' L room_1.cells room_1.slots) := by
  refine MetFree.of_bodySF (plainFor_of_name pn_com_example_rightful_keys_rightfulkeys_policy_BudgetSpendPinLaw) hisR ?_
  intro p e s m args below meth c s₁ Bd hml0 hP hK
  obtain ⟨rfl, hZ, hh⟩ := hP
  have hx := Bd.exec
  have hby := Bd.bytes
  have hml : c.maxLocals = 13 := hml0
  have hown : s.vm.findClass "com/example/rightful_keys/rightfulkeys/policy/BudgetSpendPinLaw" = some m.cls := findClass_of_methodNamed Bd.named
  have hnm := (name_of_methodNamed Bd.named Bd.method).1
  have X0 : Stand p l e room_1 s m #[(.long q1), (.long q2)] below meth c s₁ [] 0 0 := Stand.of_body Bd
  have e0 : s₁.heap = h0 := by rw [← hh, Bd.state]; rfl
  have N0 := Fr.nil n0
  have go0 : Goes p e below s₁ (entryFrame m #[(.long q1), (.long q2)] maxLocals) s₁ (mkF m 0 #[.val (.long q1), .second, .val (.long q2), .second, .unset, .unset, .unset, .unset, .unset, .unset, .unset, .unset, .unset] []) := fun t k => castTop (by first | (simp [entryFrame, mkF, argsToLocals, Value.category, maxLocals]; done) | rfl) k
  have go11 : Goes p e below s₁ (entryFrame m #[(.long q1), (.long q2)] maxLocals) s₁ (mkF m 17 #[.val (.long q1), .second, .val (.long q2), .second, .val (.long (16000000 : Int64)), .second, .val (.long ((q1 &&& (9223372036854775807 : Int64)) - ((q1 &&& (9223372036854775807 : Int64)) / ((16000000 : Int64) + (1 : Int64))) * ((16000000 : Int64) + (1 : Int64)))), .second, .unset, .unset, .unset, .unset, .unset] []) := fun t k => go0 t (by
    show Steps p.tables e below (s₁.setTop (mkF m 0 #[.val (.long q1), .second, .val (.long q2), .second, .unset, .unset, .unset, .unset, .unset, .unset, .unset, .unset, .unset] [])) _
    refine X0.ldc2Long hx hown (mvT hZ (hw _ (List.mem_of_getElem? (i := 0) rfl))) (g := (mkF m 0 #[.val (.long q1), .second, .val (.long q2), .second, .unset, .unset, .unset, .unset, .unset, .unset, .unset, .unset, .unset] [])) rfl (hb hby at_0) _ ?_
    show Steps p.tables e below (s₁.setTop (mkF m 3 #[.val (.long q1), .second, .val (.long q2), .second, .unset, .unset, .unset, .unset, .unset, .unset, .unset, .unset, .unset] [(.long (16000000 : Int64))])) _
    refine XS.lstore X0.here hx rfl (hb hby at_3) rfl (l' := #[.val (.long q1), .second, .val (.long q2), .second, .val (.long (16000000 : Int64)), .second, .unset, .unset, .unset, .unset, .unset, .unset, .unset]) rfl ?_
    show Steps p.tables e below (s₁.setTop (mkF m 5 #[.val (.long q1), .second, .val (.long q2), .second, .val (.long (16000000 : Int64)), .second, .unset, .unset, .unset, .unset, .unset, .unset, .unset] [])) _
    refine XS.lloadN X0.here hx rfl (hb hby at_5) rfl ?_
    show Steps p.tables e below (s₁.setTop (mkF m 6 #[.val (.long q1), .second, .val (.long q2), .second, .val (.long (16000000 : Int64)), .second, .unset, .unset, .unset, .unset, .unset, .unset, .unset] [(.long q1)])) _
    refine X0.ldc2Long hx hown (mvT hZ (hw _ (List.mem_of_getElem? (i := 1) rfl))) (g := (mkF m 6 #[.val (.long q1), .second, .val (.long q2), .second, .val (.long (16000000 : Int64)), .second, .unset, .unset, .unset, .unset, .unset, .unset, .unset] [(.long q1)])) rfl (hb hby at_6) _ ?_
    show Steps p.tables e below (s₁.setTop (mkF m 9 #[.val (.long q1), .second, .val (.long q2), .second, .val (.long (16000000 : Int64)), .second, .unset, .unset, .unset, .unset, .unset, .unset, .unset] [(.long (9223372036854775807 : Int64)), (.long q1)])) _
    refine XS.land X0.here hx rfl (hb hby at_9) rfl ?_
    show Steps p.tables e below (s₁.setTop (mkF m 10 #[.val (.long q1), .second, .val (.long q2), .second, .val (.long (16000000 : Int64)), .second, .unset, .unset, .unset, .unset, .unset, .unset, .unset] [(.long (q1 &&& (9223372036854775807 : Int64)))])) _
    refine XS.lload X0.here hx rfl (hb hby at_10) rfl ?_
    show Steps p.tables e below (s₁.setTop (mkF m 12 #[.val (.long q1), .second, .val (.long q2), .second, .val (.long (16000000 : Int64)), .second, .unset, .unset, .unset, .unset, .unset, .unset, .unset] [(.long (16000000 : Int64)), (.long (q1 &&& (9223372036854775807 : Int64)))])) _
    refine XS.lconst X0.here hx rfl (hb hby at_12) ?_
    show Steps p.tables e below (s₁.setTop (mkF m 13 #[.val (.long q1), .second, .val (.long q2), .second, .val (.long (16000000 : Int64)), .second, .unset, .unset, .unset, .unset, .unset, .unset, .unset] [(.long (1 : Int64)), (.long (16000000 : Int64)), (.long (q1 &&& (9223372036854775807 : Int64)))])) _
    refine XS.ladd X0.here hx rfl (hb hby at_13) rfl ?_
    show Steps p.tables e below (s₁.setTop (mkF m 14 #[.val (.long q1), .second, .val (.long q2), .second, .val (.long (16000000 : Int64)), .second, .unset, .unset, .unset, .unset, .unset, .unset, .unset] [(.long ((16000000 : Int64) + (1 : Int64))), (.long (q1 &&& (9223372036854775807 : Int64)))])) _
    refine XS.lrem X0.here hx rfl (hb hby at_14) rfl (by decide) ?_
    show Steps p.tables e below (s₁.setTop (mkF m 15 #[.val (.long q1), .second, .val (.long q2), .second, .val (.long (16000000 : Int64)), .second, .unset, .unset, .unset, .unset, .unset, .unset, .unset] [(.long ((q1 &&& (9223372036854775807 : Int64)) - ((q1 &&& (9223372036854775807 : Int64)) / ((16000000 : Int64) + (1 : Int64))) * ((16000000 : Int64) + (1 : Int64))))])) _
    refine XS.lstore X0.here hx rfl (hb hby at_15) rfl (l' := #[.val (.long q1), .second, .val (.long q2), .second, .val (.long (16000000 : Int64)), .second, .val (.long ((q1 &&& (9223372036854775807 : Int64)) - ((q1 &&& (9223372036854775807 : Int64)) / ((16000000 : Int64) + (1 : Int64))) * ((16000000 : Int64) + (1 : Int64)))), .second, .unset, .unset, .unset, .unset, .unset]) rfl ?_
    exact k)
  obtain ⟨xx, h_xx⟩ : ∃ z, z = ((q1 &&& (9223372036854775807 : Int64)) - ((q1 &&& (9223372036854775807 : Int64)) / ((16000000 : Int64) + (1 : Int64))) * ((16000000 : Int64) + (1 : Int64))) := ⟨_, rfl⟩
  rw [← h_xx] at go11
  have hxx : 0 ≤ xx.toInt ∧ xx.toInt < 16000001 := by rw [h_xx]; have := own_rem (own_mask63 q1) (y := (16000000 : Int64) + (1 : Int64)) (by rw [own_S1]; decide); rw [own_S1] at this; exact this
  have hnz : (((16000000 : Int64) - xx) + (1 : Int64)) ≠ 0 := own_nz (by rw [own_left1 hxx]; omega)
  have go12 : Goes p e below s₁ (entryFrame m #[(.long q1), (.long q2)] maxLocals) s₁ (mkF m 32 #[.val (.long q1), .second, .val (.long q2), .second, .val (.long (16000000 : Int64)), .second, .val (.long xx), .second, .val (.long ((q2 &&& (9223372036854775807 : Int64)) - ((q2 &&& (9223372036854775807 : Int64)) / (((16000000 : Int64) - xx) + (1 : Int64))) * (((16000000 : Int64) - xx) + (1 : Int64)))), .second, .unset, .unset, .unset] []) := fun t k => go11 t (by
    show Steps p.tables e below (s₁.setTop (mkF m 17 #[.val (.long q1), .second, .val (.long q2), .second, .val (.long (16000000 : Int64)), .second, .val (.long xx), .second, .unset, .unset, .unset, .unset, .unset] [])) _
    refine XS.lloadN X0.here hx rfl (hb hby at_17) rfl ?_
    show Steps p.tables e below (s₁.setTop (mkF m 18 #[.val (.long q1), .second, .val (.long q2), .second, .val (.long (16000000 : Int64)), .second, .val (.long xx), .second, .unset, .unset, .unset, .unset, .unset] [(.long q2)])) _
    refine X0.ldc2Long hx hown (mvT hZ (hw _ (List.mem_of_getElem? (i := 1) rfl))) (g := (mkF m 18 #[.val (.long q1), .second, .val (.long q2), .second, .val (.long (16000000 : Int64)), .second, .val (.long xx), .second, .unset, .unset, .unset, .unset, .unset] [(.long q2)])) rfl (hb hby at_18) _ ?_
    show Steps p.tables e below (s₁.setTop (mkF m 21 #[.val (.long q1), .second, .val (.long q2), .second, .val (.long (16000000 : Int64)), .second, .val (.long xx), .second, .unset, .unset, .unset, .unset, .unset] [(.long (9223372036854775807 : Int64)), (.long q2)])) _
    refine XS.land X0.here hx rfl (hb hby at_21) rfl ?_
    show Steps p.tables e below (s₁.setTop (mkF m 22 #[.val (.long q1), .second, .val (.long q2), .second, .val (.long (16000000 : Int64)), .second, .val (.long xx), .second, .unset, .unset, .unset, .unset, .unset] [(.long (q2 &&& (9223372036854775807 : Int64)))])) _
    refine XS.lload X0.here hx rfl (hb hby at_22) rfl ?_
    show Steps p.tables e below (s₁.setTop (mkF m 24 #[.val (.long q1), .second, .val (.long q2), .second, .val (.long (16000000 : Int64)), .second, .val (.long xx), .second, .unset, .unset, .unset, .unset, .unset] [(.long (16000000 : Int64)), (.long (q2 &&& (9223372036854775807 : Int64)))])) _
    refine XS.lload X0.here hx rfl (hb hby at_24) rfl ?_
    show Steps p.tables e below (s₁.setTop (mkF m 26 #[.val (.long q1), .second, .val (.long q2), .second, .val (.long (16000000 : Int64)), .second, .val (.long xx), .second, .unset, .unset, .unset, .unset, .unset] [(.long xx), (.long (16000000 : Int64)), (.long (q2 &&& (9223372036854775807 : Int64)))])) _
    refine XS.lsub X0.here hx rfl (hb hby at_26) rfl ?_
    show Steps p.tables e below (s₁.setTop (mkF m 27 #[.val (.long q1), .second, .val (.long q2), .second, .val (.long (16000000 : Int64)), .second, .val (.long xx), .second, .unset, .unset, .unset, .unset, .unset] [(.long ((16000000 : Int64) - xx)), (.long (q2 &&& (9223372036854775807 : Int64)))])) _
    refine XS.lconst X0.here hx rfl (hb hby at_27) ?_
    show Steps p.tables e below (s₁.setTop (mkF m 28 #[.val (.long q1), .second, .val (.long q2), .second, .val (.long (16000000 : Int64)), .second, .val (.long xx), .second, .unset, .unset, .unset, .unset, .unset] [(.long (1 : Int64)), (.long ((16000000 : Int64) - xx)), (.long (q2 &&& (9223372036854775807 : Int64)))])) _
    refine XS.ladd X0.here hx rfl (hb hby at_28) rfl ?_
    show Steps p.tables e below (s₁.setTop (mkF m 29 #[.val (.long q1), .second, .val (.long q2), .second, .val (.long (16000000 : Int64)), .second, .val (.long xx), .second, .unset, .unset, .unset, .unset, .unset] [(.long (((16000000 : Int64) - xx) + (1 : Int64))), (.long (q2 &&& (9223372036854775807 : Int64)))])) _
    refine XS.lrem X0.here hx rfl (hb hby at_29) rfl hnz ?_
    show Steps p.tables e below (s₁.setTop (mkF m 30 #[.val (.long q1), .second, .val (.long q2), .second, .val (.long (16000000 : Int64)), .second, .val (.long xx), .second, .unset, .unset, .unset, .unset, .unset] [(.long ((q2 &&& (9223372036854775807 : Int64)) - ((q2 &&& (9223372036854775807 : Int64)) / (((16000000 : Int64) - xx) + (1 : Int64))) * (((16000000 : Int64) - xx) + (1 : Int64))))])) _
    refine XS.lstore X0.here hx rfl (hb hby at_30) rfl (l' := #[.val (.long q1), .second, .val (.long q2), .second, .val (.long (16000000 : Int64)), .second, .val (.long xx), .second, .val (.long ((q2 &&& (9223372036854775807 : Int64)) - ((q2 &&& (9223372036854775807 : Int64)) / (((16000000 : Int64) - xx) + (1 : Int64))) * (((16000000 : Int64) - xx) + (1 : Int64)))), .second, .unset, .unset, .unset]) rfl ?_
    exact k)
  obtain ⟨yy, h_yy⟩ : ∃ z, z = ((q2 &&& (9223372036854775807 : Int64)) - ((q2 &&& (9223372036854775807 : Int64)) / (((16000000 : Int64) - xx) + (1 : Int64))) * (((16000000 : Int64) - xx) + (1 : Int64))) := ⟨_, rfl⟩
  rw [← h_yy] at go12
  have hyy : 0 ≤ yy.toInt ∧ yy.toInt < 16000001 - xx.toInt := by rw [h_yy]; have := own_rem (own_mask63 q2) (y := ((16000000 : Int64) - xx) + (1 : Int64)) (by rw [own_left1 hxx]; omega); rw [own_left1 hxx] at this; exact this
  have go13 : Goes p e below s₁ (entryFrame m #[(.long q1), (.long q2)] maxLocals) s₁ (mkF m 42 #[.val (.long q1), .second, .val (.long q2), .second, .val (.long (16000000 : Int64)), .second, .val (.long xx), .second, .val (.long yy), .second, .val (.long (((16000000 : Int64) - xx) - yy)), .second, .unset] []) := fun t k => go12 t (by
    show Steps p.tables e below (s₁.setTop (mkF m 32 #[.val (.long q1), .second, .val (.long q2), .second, .val (.long (16000000 : Int64)), .second, .val (.long xx), .second, .val (.long yy), .second, .unset, .unset, .unset] [])) _
    refine XS.lload X0.here hx rfl (hb hby at_32) rfl ?_
    show Steps p.tables e below (s₁.setTop (mkF m 34 #[.val (.long q1), .second, .val (.long q2), .second, .val (.long (16000000 : Int64)), .second, .val (.long xx), .second, .val (.long yy), .second, .unset, .unset, .unset] [(.long (16000000 : Int64))])) _
    refine XS.lload X0.here hx rfl (hb hby at_34) rfl ?_
    show Steps p.tables e below (s₁.setTop (mkF m 36 #[.val (.long q1), .second, .val (.long q2), .second, .val (.long (16000000 : Int64)), .second, .val (.long xx), .second, .val (.long yy), .second, .unset, .unset, .unset] [(.long xx), (.long (16000000 : Int64))])) _
    refine XS.lsub X0.here hx rfl (hb hby at_36) rfl ?_
    show Steps p.tables e below (s₁.setTop (mkF m 37 #[.val (.long q1), .second, .val (.long q2), .second, .val (.long (16000000 : Int64)), .second, .val (.long xx), .second, .val (.long yy), .second, .unset, .unset, .unset] [(.long ((16000000 : Int64) - xx))])) _
    refine XS.lload X0.here hx rfl (hb hby at_37) rfl ?_
    show Steps p.tables e below (s₁.setTop (mkF m 39 #[.val (.long q1), .second, .val (.long q2), .second, .val (.long (16000000 : Int64)), .second, .val (.long xx), .second, .val (.long yy), .second, .unset, .unset, .unset] [(.long yy), (.long ((16000000 : Int64) - xx))])) _
    refine XS.lsub X0.here hx rfl (hb hby at_39) rfl ?_
    show Steps p.tables e below (s₁.setTop (mkF m 40 #[.val (.long q1), .second, .val (.long q2), .second, .val (.long (16000000 : Int64)), .second, .val (.long xx), .second, .val (.long yy), .second, .unset, .unset, .unset] [(.long (((16000000 : Int64) - xx) - yy))])) _
    refine XS.lstore X0.here hx rfl (hb hby at_40) rfl (l' := #[.val (.long q1), .second, .val (.long q2), .second, .val (.long (16000000 : Int64)), .second, .val (.long xx), .second, .val (.long yy), .second, .val (.long (((16000000 : Int64) - xx) - yy)), .second, .unset]) rfl ?_
    exact k)
  obtain ⟨rr, h_rr⟩ : ∃ z, z = (((16000000 : Int64) - xx) - yy) := ⟨_, rfl⟩
  rw [← h_rr] at go13
  have hrr : rr.toInt = 16000000 - xx.toInt - yy.toInt := by rw [h_rr, Jvm.Kit.i64_sub (by rw [own_left hxx]; omega) (by rw [own_left hxx]; omega), own_left hxx]
  obtain ⟨T14, h14, X14, e14, E14, A14, D14, -, st14⟩ := newO X0 hx hZ hown (hw _ (List.mem_of_getElem? (i := 2) rfl)) (hw _ (List.mem_of_getElem? (i := 3) rfl)) (hw _ (List.mem_of_getElem? (i := 4) rfl)) e0 (g := (mkF m 42 #[.val (.long q1), .second, .val (.long q2), .second, .val (.long (16000000 : Int64)), .second, .val (.long xx), .second, .val (.long yy), .second, .val (.long rr), .second, .unset] [])) rfl (hb hby at_42) (by decide) (by decide)
  obtain ⟨b14, g14⟩ : ∃ z, z = h0.size := ⟨_, rfl⟩
  rw [← g14] at A14 D14 st14
  have g_b14 : n0 ≤ b14 := Nat.le_trans Z0 (Nat.le_of_eq g14.symm)
  have ZS14 : n0 ≤ h14.size := Nat.le_trans Z0 E14.1
  have F14_spent : Fld Z h14 b14 "com/example/rightful_keys/rightfulkeys/policy/Budget" "spent" "J" (.long (0 : Int64)) := D14 (Or.inl (hw _ (List.mem_of_getElem? (i := 17) rfl))) (ty := .long) (by decide)
  have go14 : Goes p e below s₁ (entryFrame m #[(.long q1), (.long q2)] maxLocals) T14 (mkF m 45 #[.val (.long q1), .second, .val (.long q2), .second, .val (.long (16000000 : Int64)), .second, .val (.long xx), .second, .val (.long yy), .second, .val (.long rr), .second, .unset] [(.ref b14)]) := fun t k => go13 t (st14 _ k)
  have go15 : Goes p e below s₁ (entryFrame m #[(.long q1), (.long q2)] maxLocals) T14 (mkF m 46 #[.val (.long q1), .second, .val (.long q2), .second, .val (.long (16000000 : Int64)), .second, .val (.long xx), .second, .val (.long yy), .second, .val (.long rr), .second, .unset] [(.ref b14), (.ref b14)]) := fun t k => go14 t (by
    show Steps p.tables e below (T14.setTop (mkF m 45 #[.val (.long q1), .second, .val (.long q2), .second, .val (.long (16000000 : Int64)), .second, .val (.long xx), .second, .val (.long yy), .second, .val (.long rr), .second, .unset] [(.ref b14)])) _
    refine XS.dup X14.here hx rfl (hb hby at_45) rfl rfl ?_
    exact k)
  obtain ⟨_, _, ⟨T16, L16, k16, n16⟩, -, X16, ⟨Lc16, hQ16, l16, y16, z16⟩, st16⟩ := X14.specialBack hx (y := (⟨"com/example/rightful_keys/rightfulkeys/policy/Budget", "<init>", "()V"⟩ : MethodName)) rfl hown (mvT hZ (hw _ (List.mem_of_getElem? (i := 5) rfl))) (mvT hZ (hw _ (List.mem_of_getElem? (i := 6) rfl))) (mvT hZ (hw _ (List.mem_of_getElem? (i := 7) rfl))) (by decide) (backOf (W := 1) (rm1 l Z a0 hw [] b14  h14 n0 ZS14 ) hZ (hw _ (List.mem_of_getElem? (i := 7) rfl)) (hw _ (List.mem_of_getElem? (i := 4) rfl)) (by decide) (by decide)) (g := (mkF m 46 #[.val (.long q1), .second, .val (.long q2), .second, .val (.long (16000000 : Int64)), .second, .val (.long xx), .second, .val (.long yy), .second, .val (.long rr), .second, .unset] [(.ref b14), (.ref b14)])) rfl (by rw [hml]; rfl) (Steps.refl _) (a := b14) (argsL := []) (rest := [(.ref b14)]) (lenOf pd_0 rfl) rfl (by show 2 * 0 + _ ≤ _; exact Nat.le_of_eq rfl) (hb hby at_46) (fun _ _ => ⟨rfl, e14, (by decide : 1 + 0 ≤ _), (by decide : 2 + 0 ≤ _)⟩)
  dsimp only [Pt.U, Pt.locs, Pt.cells, Pt.slots] at X16 l16 y16 z16 st16 hQ16
  subst l16 y16 z16
  obtain ⟨rfl, Nq16, eq16⟩ := hQ16
  have N16 := Fr.app N0 Nq16
  have go16 : Goes p e below s₁ (entryFrame m #[(.long q1), (.long q2)] maxLocals) T16 (mkF m 49 #[.val (.long q1), .second, .val (.long q2), .second, .val (.long (16000000 : Int64)), .second, .val (.long xx), .second, .val (.long yy), .second, .val (.long rr), .second, .unset] [(.ref b14)]) := fun t k => go15 t (st16.trans k)
  have go17 : Goes p e below s₁ (entryFrame m #[(.long q1), (.long q2)] maxLocals) T16 (mkF m 55 #[.val (.long q1), .second, .val (.long q2), .second, .val (.long (16000000 : Int64)), .second, .val (.long xx), .second, .val (.long yy), .second, .val (.long rr), .second, .val (.ref b14)] [(.long xx), (.ref b14)]) := fun t k => go16 t (by
    show Steps p.tables e below (T16.setTop (mkF m 49 #[.val (.long q1), .second, .val (.long q2), .second, .val (.long (16000000 : Int64)), .second, .val (.long xx), .second, .val (.long yy), .second, .val (.long rr), .second, .unset] [(.ref b14)])) _
    refine XS.astore X16.here hx rfl (hb hby at_49) rfl rfl (l' := #[.val (.long q1), .second, .val (.long q2), .second, .val (.long (16000000 : Int64)), .second, .val (.long xx), .second, .val (.long yy), .second, .val (.long rr), .second, .val (.ref b14)]) rfl ?_
    show Steps p.tables e below (T16.setTop (mkF m 51 #[.val (.long q1), .second, .val (.long q2), .second, .val (.long (16000000 : Int64)), .second, .val (.long xx), .second, .val (.long yy), .second, .val (.long rr), .second, .val (.ref b14)] [])) _
    refine XS.aload X16.here hx rfl (hb hby at_51) rfl rfl ?_
    show Steps p.tables e below (T16.setTop (mkF m 53 #[.val (.long q1), .second, .val (.long q2), .second, .val (.long (16000000 : Int64)), .second, .val (.long xx), .second, .val (.long yy), .second, .val (.long rr), .second, .val (.ref b14)] [(.ref b14)])) _
    refine XS.lload X16.here hx rfl (hb hby at_53) rfl ?_
    exact k)
  have hs0 : (0 : Int64).toInt = 0 := by decide
  have hs1 : ((0 : Int64) + xx).toInt = xx.toInt := by rw [own_sum (by omega) (by omega) (by omega)]; omega
  obtain ⟨cq18, kq18, q18a, q18b, q18c⟩ := isOf hZ eq16 A14
  obtain ⟨_, _, ⟨T18, L18, k18, n18⟩, -, X18, ⟨Lc18, hQ18, l18, y18, z18⟩, st18⟩ := X16.virtualBack hx (y := (⟨"com/example/rightful_keys/rightfulkeys/policy/Budget", "spend", "(J)V"⟩ : MethodName)) (z := (⟨"com/example/rightful_keys/rightfulkeys/policy/Budget", "spend", "(J)V"⟩ : MethodName)) hown (mvT hZ (hw _ (List.mem_of_getElem? (i := 11) rfl))) (mvT hZ (hw _ (List.mem_of_getElem? (i := 12) rfl))) (notFace_of_selects (args := #[]) (mvT hZ (hw _ (List.mem_of_getElem? (i := 14) rfl)))) (mvT hZ (hw _ (List.mem_of_getElem? (i := 14) rfl))) (mvT hZ (hw _ (List.mem_of_getElem? (i := 13) rfl))) (by decide) (backOf (W := 0) (rm3 l Z a0 hw [] b14 xx (0 : Int64) h14 n0 ZS14 g_b14 A14 F14_spent (own_ok (by omega) (by omega) (by omega))) hZ (hw _ (List.mem_of_getElem? (i := 15) rfl)) (hw _ (List.mem_of_getElem? (i := 4) rfl)) (by decide) (by decide)) q18a q18c (g := (mkF m 55 #[.val (.long q1), .second, .val (.long q2), .second, .val (.long (16000000 : Int64)), .second, .val (.long xx), .second, .val (.long yy), .second, .val (.long rr), .second, .val (.ref b14)] [(.long xx), (.ref b14)])) rfl (by rw [hml]; rfl) (Steps.refl _) (argsL := [(.long xx)]) (rest := []) (lenOf pd_1 rfl) rfl (by show 2 * 0 + _ ≤ _; exact Nat.le_of_eq rfl) (hb hby at_55) (fun _ _ => ⟨rfl, eq16, (by decide : 1 + 0 ≤ _), (by decide : 2 + 0 ≤ _)⟩)
  dsimp only [Pt.U, Pt.locs, Pt.cells, Pt.slots] at X18 l18 y18 z18 st18 hQ18
  subst l18 y18 z18
  obtain ⟨rfl, Nq18, K18, A18, F18⟩ := hQ18
  have N18 := Fr.app N16 Nq18
  have ZS18 : n0 ≤ T18.heap.size := Nat.le_trans ZS14 K18.1
  have go18 : Goes p e below s₁ (entryFrame m #[(.long q1), (.long q2)] maxLocals) T18 (mkF m 58 #[.val (.long q1), .second, .val (.long q2), .second, .val (.long (16000000 : Int64)), .second, .val (.long xx), .second, .val (.long yy), .second, .val (.long rr), .second, .val (.ref b14)] []) := fun t k => go17 t (st18.trans k)
  have go19 : Goes p e below s₁ (entryFrame m #[(.long q1), (.long q2)] maxLocals) T18 (mkF m 62 #[.val (.long q1), .second, .val (.long q2), .second, .val (.long (16000000 : Int64)), .second, .val (.long xx), .second, .val (.long yy), .second, .val (.long rr), .second, .val (.ref b14)] [(.long yy), (.ref b14)]) := fun t k => go18 t (by
    show Steps p.tables e below (T18.setTop (mkF m 58 #[.val (.long q1), .second, .val (.long q2), .second, .val (.long (16000000 : Int64)), .second, .val (.long xx), .second, .val (.long yy), .second, .val (.long rr), .second, .val (.ref b14)] [])) _
    refine XS.aload X18.here hx rfl (hb hby at_58) rfl rfl ?_
    show Steps p.tables e below (T18.setTop (mkF m 60 #[.val (.long q1), .second, .val (.long q2), .second, .val (.long (16000000 : Int64)), .second, .val (.long xx), .second, .val (.long yy), .second, .val (.long rr), .second, .val (.ref b14)] [(.ref b14)])) _
    refine XS.lload X18.here hx rfl (hb hby at_60) rfl ?_
    exact k)
  have hs2 : (((0 : Int64) + xx) + yy).toInt = xx.toInt + yy.toInt := by rw [own_sum (by omega) (by omega) (by omega)]; omega
  obtain ⟨cq20, kq20, q20a, q20b, q20c⟩ := isOf hZ rfl A18
  obtain ⟨_, _, ⟨T20, L20, k20, n20⟩, -, X20, ⟨Lc20, hQ20, l20, y20, z20⟩, st20⟩ := X18.virtualBack hx (y := (⟨"com/example/rightful_keys/rightfulkeys/policy/Budget", "spend", "(J)V"⟩ : MethodName)) (z := (⟨"com/example/rightful_keys/rightfulkeys/policy/Budget", "spend", "(J)V"⟩ : MethodName)) hown (mvT hZ (hw _ (List.mem_of_getElem? (i := 11) rfl))) (mvT hZ (hw _ (List.mem_of_getElem? (i := 12) rfl))) (notFace_of_selects (args := #[]) (mvT hZ (hw _ (List.mem_of_getElem? (i := 14) rfl)))) (mvT hZ (hw _ (List.mem_of_getElem? (i := 14) rfl))) (mvT hZ (hw _ (List.mem_of_getElem? (i := 13) rfl))) (by decide) (backOf (W := 0) (rm3 l Z a0 hw [] b14 yy ((0 : Int64) + xx) T18.heap n0 ZS18 g_b14 A18 F18 (own_ok (by omega) (by omega) (by omega))) hZ (hw _ (List.mem_of_getElem? (i := 15) rfl)) (hw _ (List.mem_of_getElem? (i := 4) rfl)) (by decide) (by decide)) q20a q20c (g := (mkF m 62 #[.val (.long q1), .second, .val (.long q2), .second, .val (.long (16000000 : Int64)), .second, .val (.long xx), .second, .val (.long yy), .second, .val (.long rr), .second, .val (.ref b14)] [(.long yy), (.ref b14)])) rfl (by rw [hml]; rfl) (Steps.refl _) (argsL := [(.long yy)]) (rest := []) (lenOf pd_1 rfl) rfl (by show 2 * 0 + _ ≤ _; exact Nat.le_of_eq rfl) (hb hby at_62) (fun _ _ => ⟨rfl, rfl, (by decide : 1 + 0 ≤ _), (by decide : 2 + 0 ≤ _)⟩)
  dsimp only [Pt.U, Pt.locs, Pt.cells, Pt.slots] at X20 l20 y20 z20 st20 hQ20
  subst l20 y20 z20
  obtain ⟨rfl, Nq20, K20, A20, F20⟩ := hQ20
  have N20 := Fr.app N18 Nq20
  have ZS20 : n0 ≤ T20.heap.size := Nat.le_trans ZS18 K20.1
  have go20 : Goes p e below s₁ (entryFrame m #[(.long q1), (.long q2)] maxLocals) T20 (mkF m 65 #[.val (.long q1), .second, .val (.long q2), .second, .val (.long (16000000 : Int64)), .second, .val (.long xx), .second, .val (.long yy), .second, .val (.long rr), .second, .val (.ref b14)] []) := fun t k => go19 t (st20.trans k)
  have go21 : Goes p e below s₁ (entryFrame m #[(.long q1), (.long q2)] maxLocals) T20 (mkF m 69 #[.val (.long q1), .second, .val (.long q2), .second, .val (.long (16000000 : Int64)), .second, .val (.long xx), .second, .val (.long yy), .second, .val (.long rr), .second, .val (.ref b14)] [(.long rr), (.ref b14)]) := fun t k => go20 t (by
    show Steps p.tables e below (T20.setTop (mkF m 65 #[.val (.long q1), .second, .val (.long q2), .second, .val (.long (16000000 : Int64)), .second, .val (.long xx), .second, .val (.long yy), .second, .val (.long rr), .second, .val (.ref b14)] [])) _
    refine XS.aload X20.here hx rfl (hb hby at_65) rfl rfl ?_
    show Steps p.tables e below (T20.setTop (mkF m 67 #[.val (.long q1), .second, .val (.long q2), .second, .val (.long (16000000 : Int64)), .second, .val (.long xx), .second, .val (.long yy), .second, .val (.long rr), .second, .val (.ref b14)] [(.ref b14)])) _
    refine XS.lload X20.here hx rfl (hb hby at_67) rfl ?_
    exact k)
  have hs3 : ((((0 : Int64) + xx) + yy) + rr).toInt = 16000000 := by rw [own_sum (by omega) (by omega) (by omega)]; omega
  obtain ⟨cq22, kq22, q22a, q22b, q22c⟩ := isOf hZ rfl A20
  obtain ⟨_, _, ⟨T22, L22, k22, n22⟩, -, X22, ⟨Lc22, hQ22, l22, y22, z22⟩, st22⟩ := X20.virtualBack hx (y := (⟨"com/example/rightful_keys/rightfulkeys/policy/Budget", "spend", "(J)V"⟩ : MethodName)) (z := (⟨"com/example/rightful_keys/rightfulkeys/policy/Budget", "spend", "(J)V"⟩ : MethodName)) hown (mvT hZ (hw _ (List.mem_of_getElem? (i := 11) rfl))) (mvT hZ (hw _ (List.mem_of_getElem? (i := 12) rfl))) (notFace_of_selects (args := #[]) (mvT hZ (hw _ (List.mem_of_getElem? (i := 14) rfl)))) (mvT hZ (hw _ (List.mem_of_getElem? (i := 14) rfl))) (mvT hZ (hw _ (List.mem_of_getElem? (i := 13) rfl))) (by decide) (backOf (W := 0) (rm3 l Z a0 hw [] b14 rr (((0 : Int64) + xx) + yy) T20.heap n0 ZS20 g_b14 A20 F20 (own_ok (by omega) (by omega) (by omega))) hZ (hw _ (List.mem_of_getElem? (i := 15) rfl)) (hw _ (List.mem_of_getElem? (i := 4) rfl)) (by decide) (by decide)) q22a q22c (g := (mkF m 69 #[.val (.long q1), .second, .val (.long q2), .second, .val (.long (16000000 : Int64)), .second, .val (.long xx), .second, .val (.long yy), .second, .val (.long rr), .second, .val (.ref b14)] [(.long rr), (.ref b14)])) rfl (by rw [hml]; rfl) (Steps.refl _) (argsL := [(.long rr)]) (rest := []) (lenOf pd_1 rfl) rfl (by show 2 * 0 + _ ≤ _; exact Nat.le_of_eq rfl) (hb hby at_69) (fun _ _ => ⟨rfl, rfl, (by decide : 1 + 0 ≤ _), (by decide : 2 + 0 ≤ _)⟩)
  dsimp only [Pt.U, Pt.locs, Pt.cells, Pt.slots] at X22 l22 y22 z22 st22 hQ22
  subst l22 y22 z22
  obtain ⟨rfl, Nq22, K22, A22, F22⟩ := hQ22
  have N22 := Fr.app N20 Nq22
  have ZS22 : n0 ≤ T22.heap.size := Nat.le_trans ZS20 K22.1
  have go22 : Goes p e below s₁ (entryFrame m #[(.long q1), (.long q2)] maxLocals) T22 (mkF m 72 #[.val (.long q1), .second, .val (.long q2), .second, .val (.long (16000000 : Int64)), .second, .val (.long xx), .second, .val (.long yy), .second, .val (.long rr), .second, .val (.ref b14)] []) := fun t k => go21 t (st22.trans k)
  have go23 : Goes p e below s₁ (entryFrame m #[(.long q1), (.long q2)] maxLocals) T22 (mkF m 75 #[.val (.long q1), .second, .val (.long q2), .second, .val (.long (16000000 : Int64)), .second, .val (.long xx), .second, .val (.long yy), .second, .val (.long rr), .second, .val (.ref b14)] [(.long (0 : Int64)), (.ref b14)]) := fun t k => go22 t (by
    show Steps p.tables e below (T22.setTop (mkF m 72 #[.val (.long q1), .second, .val (.long q2), .second, .val (.long (16000000 : Int64)), .second, .val (.long xx), .second, .val (.long yy), .second, .val (.long rr), .second, .val (.ref b14)] [])) _
    refine XS.aload X22.here hx rfl (hb hby at_72) rfl rfl ?_
    show Steps p.tables e below (T22.setTop (mkF m 74 #[.val (.long q1), .second, .val (.long q2), .second, .val (.long (16000000 : Int64)), .second, .val (.long xx), .second, .val (.long yy), .second, .val (.long rr), .second, .val (.ref b14)] [(.ref b14)])) _
    refine XS.lconst X22.here hx rfl (hb hby at_74) ?_
    exact k)
  have hs4 : (((((0 : Int64) + xx) + yy) + rr) + (0 : Int64)).toInt = 16000000 := by rw [own_sum (by omega) (by omega) (by omega)]; omega
  obtain ⟨cq24, kq24, q24a, q24b, q24c⟩ := isOf hZ rfl A22
  obtain ⟨_, _, ⟨T24, L24, k24, n24⟩, -, X24, ⟨Lc24, hQ24, l24, y24, z24⟩, st24⟩ := X22.virtualBack hx (y := (⟨"com/example/rightful_keys/rightfulkeys/policy/Budget", "spend", "(J)V"⟩ : MethodName)) (z := (⟨"com/example/rightful_keys/rightfulkeys/policy/Budget", "spend", "(J)V"⟩ : MethodName)) hown (mvT hZ (hw _ (List.mem_of_getElem? (i := 11) rfl))) (mvT hZ (hw _ (List.mem_of_getElem? (i := 12) rfl))) (notFace_of_selects (args := #[]) (mvT hZ (hw _ (List.mem_of_getElem? (i := 14) rfl)))) (mvT hZ (hw _ (List.mem_of_getElem? (i := 14) rfl))) (mvT hZ (hw _ (List.mem_of_getElem? (i := 13) rfl))) (by decide) (backOf (W := 0) (rm3 l Z a0 hw [] b14 (0 : Int64) ((((0 : Int64) + xx) + yy) + rr) T22.heap n0 ZS22 g_b14 A22 F22 (own_ok (by omega) (by omega) (by omega))) hZ (hw _ (List.mem_of_getElem? (i := 15) rfl)) (hw _ (List.mem_of_getElem? (i := 4) rfl)) (by decide) (by decide)) q24a q24c (g := (mkF m 75 #[.val (.long q1), .second, .val (.long q2), .second, .val (.long (16000000 : Int64)), .second, .val (.long xx), .second, .val (.long yy), .second, .val (.long rr), .second, .val (.ref b14)] [(.long (0 : Int64)), (.ref b14)])) rfl (by rw [hml]; rfl) (Steps.refl _) (argsL := [(.long (0 : Int64))]) (rest := []) (lenOf pd_1 rfl) rfl (by show 2 * 0 + _ ≤ _; exact Nat.le_of_eq rfl) (hb hby at_75) (fun _ _ => ⟨rfl, rfl, (by decide : 1 + 0 ≤ _), (by decide : 2 + 0 ≤ _)⟩)
  dsimp only [Pt.U, Pt.locs, Pt.cells, Pt.slots] at X24 l24 y24 z24 st24 hQ24
  subst l24 y24 z24
  obtain ⟨rfl, Nq24, K24, A24, F24⟩ := hQ24
  have N24 := Fr.app N22 Nq24
  have ZS24 : n0 ≤ T24.heap.size := Nat.le_trans ZS22 K24.1
  have go24 : Goes p e below s₁ (entryFrame m #[(.long q1), (.long q2)] maxLocals) T24 (mkF m 78 #[.val (.long q1), .second, .val (.long q2), .second, .val (.long (16000000 : Int64)), .second, .val (.long xx), .second, .val (.long yy), .second, .val (.long rr), .second, .val (.ref b14)] []) := fun t k => go23 t (st24.trans k)
  have go25 : Goes p e below s₁ (entryFrame m #[(.long q1), (.long q2)] maxLocals) T24 (mkF m 79 #[.val (.long q1), .second, .val (.long q2), .second, .val (.long (16000000 : Int64)), .second, .val (.long xx), .second, .val (.long yy), .second, .val (.long rr), .second, .val (.ref b14)] [(.int (1 : Int32))]) := fun t k => go24 t (by
    show Steps p.tables e below (T24.setTop (mkF m 78 #[.val (.long q1), .second, .val (.long q2), .second, .val (.long (16000000 : Int64)), .second, .val (.long xx), .second, .val (.long yy), .second, .val (.long rr), .second, .val (.ref b14)] [])) _
    refine XS.iconst X24.here hx rfl (hb hby at_78) ?_
    exact k)
  obtain ⟨fs, hr, hrun, hended, hW, hsame⟩ := X24.leave (v := some (.int (1 : Int32))) (fun h => by rw [Bd.returns] at h; cases h)
  refine ⟨_, _, go25 _ ?_, hrun, hended, _, _, rfl, ?_, ⟨_, rfl⟩, hW, hsame.mono (by decide) (by decide)⟩
  · exact retN X24 hx (t := .boolean) Bd.returns (by simp) (hb hby at_79) hr
  · show Q_rm0 Z q1 q2 h0 n0 _ T24.heap _
    exact ⟨rfl, N24⟩
set_option maxRecDepth 65536 in
set_option maxHeartbeats 40000000 in
theorem comes_1 {Post : Tables → Env → Array Value → State → Outcome → State → Prop} (hpost : ∀ tb e args s v u, (limb_1_1.after args s (.returned v) u = true ∧ limb_1_2.after args s (.returned v) u = true ∧ True) → FrameEnd s (.returned v) u (Jvm.fieldLocs frame_1_writes args s ++ Jvm.arrayLocs frame_1_arrays args s ++ Jvm.staticLocs frame_1_statics s) 16 128 → Post tb e args s (.returned v) u) :
    ArmFor flags0 classFile x code maxLocals ret World_1 tables_1 room_1 Calls_1 rest_1 Pre_1 Post := by
  intro l hfl _ _ p e ha hc hk s m args below hf hA hF happ hP
  obtain ⟨hcalls, hrest, hpre⟩ := hP
  obtain ⟨-, -, -, hnamed, -, -, -, hat⟩ := (Spec.applies_iff hf).mp happ
  obtain ⟨hg, hn⟩ := and_e (Cond.before_iff.mp (show (Jvm.Cond.and given_1 narrow_1).before args s = true from hpre))
  obtain ⟨g0, hg0⟩ := and_e hg
  obtain ⟨g1, hg1⟩ := and_e hg0
  obtain ⟨w0, w1, rfl⟩ : ∃ w0 w1 : Value, args = #[w0, w1] := by
    have hs : args.size = 2 := by simpa [Cond.value, given_1] using g0
    obtain ⟨L⟩ := args
    match L, hs with
    | [w0, w1], _ => exact ⟨w0, w1, rfl⟩
  have hw := fun d (hd : d ∈ tables_1) => atoms_spec (ws := Jvm.Cond.code x code maxLocals ret :: tables_1) hat d (List.mem_cons_of_mem _ hd)
  have hfit : Fit s := fun {y c} hc i hi => by
    obtain ⟨ha, rfl⟩ := Array.getElem?_eq_some_iff.mp hc
    have q := List.all_eq_true.mp ((Array.all_eq_true_iff_forall_mem.mp hF) _ (Array.getElem_mem ha)) i (List.mem_range.mpr hi)
    simpa [Array.getElem?_eq_getElem hi] using q
  obtain ⟨i0, ei0⟩ := isL_v g1
  obtain rfl : w0 = (.long i0) := Option.some.inj ei0
  obtain ⟨i1, ei1⟩ := isL_v hg1
  obtain rfl : w1 = (.long i1) := Option.some.inj ei1
  obtain ⟨n, o, h1, h2, h3, _, L, rfl, ⟨rfl, N⟩, hq⟩ := rm0 l s _ hw tables_1 i0 i1  s.heap s.heap.size (Nat.le_refl _)  p e ha hc hk s m _ below hf ((Spec.applies_iff_loose hf).mp happ).1 ⟨rfl, State.Warmed39.refl s, rfl⟩ trivial
  refine ⟨n, _, h1, h2, h3, hpost _ _ _ _ _ _ ⟨Cond.after_iff.mpr rfl, Cond.after_iff.mpr (eq_i res_at (Term.int_eval (1)) rfl), trivial⟩ ⟨hq.1, hq.2.1, (hq.2.2.sift fun y hy => Or.inr (N y hy)).mono (by decide) (by decide)⟩⟩
theorem main_1_1 : Claimed_1_1 := comes_1 fun _ _ _ _ _ _ h hF => ⟨h.1, hF⟩
theorem main_1_2 : Claimed_1_2 := comes_1 fun _ _ _ _ _ _ h hF => ⟨h.2.1, hF⟩
end Jvm.Pilot.@@N@@
namespace Jvm.Pilot.@@N@@
open Jvm Jvm.ClassFile Sem Op Lib Jvm.Free Jvm.Stand Jvm.Pilot.@@N@@.Jvm.D
/-! MADE BY PROGRAM (witnessworld.py) out of the Statement's table words and the real class files: 7 classes; the members and pool entries that the words name. The judged class is class 1, her method 1. -/
namespace start1
open Jvm.ClassFile
def u (s : String) : CpInfo := .utf8 (stringToUtf16 s)
/-- a pool by its gaps: so many unusable entries, then the entry; so many at the end -/
def gap : Nat → List CpInfo → List CpInfo
  | 0, r => r
  | n + 1, r => .unusable :: gap n r
def poolList (es : List (Nat × CpInfo)) (last : Nat) : List CpInfo := es.foldr (fun e r => gap e.1 (e.2 :: r)) (gap last [])
def pool (es : List (Nat × CpInfo)) (last : Nat) : Array CpInfo := ⟨poolList es last⟩
def fileOf (pool : Array CpInfo) (this : Nat) (attrs : Array Attribute := #[]) (ms : Array MethodInfo := #[]) (fl : Nat := 33) (sup : Nat := 0) (ifs : Array Nat := #[]) (fds : Array FieldInfo := #[]) : ClassFile where
  minorVersion := 0
  majorVersion := 65
  constantPool := pool
  accessFlags := fl
  thisClass := this
  superClass := sup
  interfaces := ifs
  fields := fds
  methods := ms
  attributes := attrs
def plain (name : String) (sup : Option ClassId) : Class where
  name := name
  kind := .ordinary
  loader := none
  accessFlags := 33
  super := sup
  interfaces := #[]
  cf := none
  fields := #[]
  methods := #[]
  instanceTypes := #[]
  staticTypes := #[]
  resolved := #[]
  callSites := []
  init := .initialized
  statics := none
  mirror := none

def pool0 : Array CpInfo := pool [(5, u "<init>"), (0, u "()V"), (1, .class_ 10), (1, u "java/lang/Object")] 113

def k0c0 : Code := { maxStack := 0, maxLocals := 1, code := object_method_1_code, exceptionTable := #[], attributes := #[] }
def k0m0 : Method := { name := "<init>", desc := "()V", sig := { parameters := [], returnType := none }, accessFlags := 1, code := some k0c0 }
/-- java/lang/Object -/
def k0 : Class := { plain "java/lang/Object" none with
  accessFlags := 33
  interfaces := #[]
  cf := some (fileOf pool0 8 #[] #[{ accessFlags := 1, nameIndex := 5, descriptorIndex := 6, attributes := #[] }] 33 0 #[] #[])
  fields := #[]
  methods := #[k0m0]
  instanceTypes := #[]
  staticTypes := #[]
  resolved := Array.replicate 124 none
  statics := none }

def pool1 : Array CpInfo := pool [(2, .class_ 4), (0, .nameAndType 5 6), (0, u "java/lang/Object"), (0, u "<init>"), (0, u "()V"), (0, .long 16000000), (3, .long 9223372036854775807), (1, .class_ 14), (0, u "com/example/rightful_keys/rightfulkeys/policy/Budget"), (0, .methodref 13 3), (0, .methodref 13 17), (0, .nameAndType 18 19), (0, u "spend"), (0, u "(J)V"), (0, .class_ 21), (0, u "com/example/rightful_keys/rightfulkeys/policy/BudgetSpendPinLaw"), (2, u "law"), (0, u "(JJ)Z")] 2

def k1m0 : Method := { name := "<init>", desc := "()V", sig := { parameters := [], returnType := none }, accessFlags := 1, code := none }
def k1c1 : Code := { maxStack := 6, maxLocals := 13, code := code, exceptionTable := #[], attributes := #[] }
def k1m1 : Method := { name := "law", desc := "(JJ)Z", sig := { parameters := [.long, .long], returnType := some .boolean }, accessFlags := 9, code := some k1c1 }
/-- com/example/rightful_keys/rightfulkeys/policy/BudgetSpendPinLaw -/
def k1 : Class := { plain "com/example/rightful_keys/rightfulkeys/policy/BudgetSpendPinLaw" (some 0) with
  accessFlags := 49
  interfaces := #[]
  cf := some (fileOf pool1 20 #[] #[{ accessFlags := 1, nameIndex := 5, descriptorIndex := 6, attributes := #[] }, { accessFlags := 9, nameIndex := 24, descriptorIndex := 25, attributes := #[] }] 49 2 #[] #[])
  fields := #[]
  methods := #[k1m0, k1m1]
  instanceTypes := #[]
  staticTypes := #[]
  resolved := Array.replicate 28 none
  statics := none }

def pool2 : Array CpInfo := pool [(1, .methodref 2 3), (0, .class_ 4), (0, .nameAndType 5 6), (0, u "java/lang/Object"), (0, u "<init>"), (0, u "()V"), (1, .class_ 10), (1, u "com/example/rightful_keys/rightfulkeys/policy/Budget"), (0, u "subject"), (0, u "Ljava/lang/String;"), (0, .fieldref 8 14), (0, .nameAndType 15 16), (0, u "spent"), (0, u "J"), (0, .long 16000000), (6, u "STEPS"), (5, u "spend"), (0, u "(J)V")] 3

def k2c0 : Code := { maxStack := 1, maxLocals := 1, code := prog_19_method_1_code, exceptionTable := #[], attributes := #[] }
def k2m0 : Method := { name := "<init>", desc := "()V", sig := { parameters := [], returnType := none }, accessFlags := 0, code := some k2c0 }
def k2c1 : Code := { maxStack := 5, maxLocals := 3, code := prog_19_method_3_code, exceptionTable := #[], attributes := #[] }
def k2m1 : Method := { name := "spend", desc := "(J)V", sig := { parameters := [.long], returnType := none }, accessFlags := 0, code := some k2c1 }
/-- com/example/rightful_keys/rightfulkeys/policy/Budget -/
def k2 : Class := { plain "com/example/rightful_keys/rightfulkeys/policy/Budget" (some 0) with
  accessFlags := 48
  interfaces := #[]
  cf := some (fileOf pool2 8 #[] #[{ accessFlags := 0, nameIndex := 5, descriptorIndex := 6, attributes := #[] }, { accessFlags := 0, nameIndex := 30, descriptorIndex := 31, attributes := #[] }] 48 2 #[] #[{ accessFlags := 24, nameIndex := 24, descriptorIndex := 16, attributes := #[] }, { accessFlags := 2, nameIndex := 15, descriptorIndex := 16, attributes := #[] }, { accessFlags := 2, nameIndex := 11, descriptorIndex := 12, attributes := #[] }])
  fields := #[{ name := "STEPS", type := .long, accessFlags := 24, slot := 0, constantValue := 0 }, { name := "spent", type := .long, accessFlags := 2, slot := 0, constantValue := 0 }, { name := "subject", type := (.object "java/lang/String"), accessFlags := 2, slot := 1, constantValue := 0 }]
  methods := #[k2m0, k2m1]
  instanceTypes := #[.long, (.object "java/lang/String")]
  staticTypes := #[.long]
  resolved := Array.replicate 35 none
  statics := none }

def pool3 : Array CpInfo := pool [(1, u "java/lang/Cloneable"), (0, .class_ 1), (0, u "java/lang/Object"), (0, .class_ 3)] 3

/-- java/lang/Cloneable -/
def k3 : Class := { plain "java/lang/Cloneable" (some 0) with
  accessFlags := 1537
  interfaces := #[]
  cf := some (fileOf pool3 2 #[] #[] 1537 4 #[] #[])
  fields := #[]
  methods := #[]
  instanceTypes := #[]
  staticTypes := #[]
  resolved := Array.replicate 8 none
  statics := none }

def pool4 : Array CpInfo := pool [(1, u "java/io/Serializable"), (0, .class_ 1), (0, u "java/lang/Object"), (0, .class_ 3)] 3

/-- java/io/Serializable -/
def k4 : Class := { plain "java/io/Serializable" (some 0) with
  accessFlags := 1537
  interfaces := #[]
  cf := some (fileOf pool4 2 #[] #[] 1537 4 #[] #[])
  fields := #[]
  methods := #[]
  instanceTypes := #[]
  staticTypes := #[]
  resolved := Array.replicate 8 none
  statics := none }

/-- the primitive byte -/
def k5 : Class := { plain "byte" none with kind := .primitive 'B', accessFlags := 0x411 }
/-- [B -/
def k6 : Class := { plain "[B" (some 0) with kind := .array 5 .byte, interfaces := #[3, 4], accessFlags := 1041 }

def heap : Heap := #[]
def classes : Array Class := #[k0, k1, k2, k3, k4, k5, k6]
def interned : List (Array UInt16 × Addr) := []
def slotsUsed : Nat := 0
def theMethod : MethodId := ⟨1, 1⟩
def args0 : Array Value := #[.long 7, .long 3]
def aboutOver (below : List Frame) : State where
  vm := { classes := classes, interned := interned.toArray }
  heap := heap
  slotsUsed := slotsUsed
  threads := #[{ frames := .invoking theMethod args0 :: below }]
def below0 : List Frame := [.native { method := ⟨0, 0⟩, args := #[] }]
def about1 : State := aboutOver below0
def p0 : Program := .bare "" "" ""
def e0 : Env := launch0.env 0 0 0
theorem w_frames : about1.frames = Frame.invoking theMethod args0 :: below0 := rfl
set_option maxRecDepth 65536 in
theorem w_args : argsFit about1.vm theMethod args0 = true := by decide +kernel
set_option maxRecDepth 65536 in
theorem w_heap : heapFits about1 = true := by decide +kernel
set_option maxRecDepth 65536 in
theorem w_runnable : about1.curStatus? = some .runnable := by decide +kernel
set_option maxRecDepth 65536 in
theorem w_alone : about1.alone = true := by decide +kernel
set_option maxRecDepth 65536 in
theorem w_named : about1.methodNamed? x = some theMethod := by decide +kernel
set_option maxRecDepth 65536 in
theorem w_hears : about1.hears theMethod below0 = true := by decide +kernel
set_option maxRecDepth 65536 in
theorem w_ripe : about1.ripe theMethod args0 below0 = true := by decide +kernel
theorem w_running : about1.status = .running := rfl
set_option maxRecDepth 65536 in
theorem w_room : about1.hasRoom e0.platform room_1 = true :=
  launch0.hasRoom_least _ room_1 (by decide +kernel) (by decide +kernel) (by decide +kernel) (by decide +kernel) (by decide +kernel) (by decide +kernel)
theorem allAtoms_all (ts : List Jvm.Cond) (a : Array Jvm.Value) (st : Jvm.State) : (allAtoms ts).before a st = ts.all (fun c => c.before a st) := by
  induction ts with
  | nil => rfl
  | cons c t ih =>
    show (Jvm.Cond.and c (allAtoms t)).before a st = _
    rw [Jvm.Cond.before_and, ih, List.all_cons]
def words1 : List Jvm.Cond := Jvm.Cond.code x code maxLocals ret :: tables_1
/-- a 'code' word, met by the world's own term for the bytes: nothing is compared byte by byte -/
theorem code_word {y : MethodName} {bytes : ByteArray} {mx : Nat} {rt : Option FieldType} {a : Array Value} {s : State} {m : MethodId} {meth : Method} {c : Code} (h1 : s.methodNamed? y = some m) (h2 : s.vm.method? m = some meth) (h3 : meth.code = some c) (h4 : c.code = bytes)
    (h5 : (c.maxLocals == mx && c.exceptionTable.isEmpty && decide (c.maxStack ≤ mostOperands) && decide (meth.sig.returnType = rt) && !meth.locks && decide (parseMethodDescriptor y.desc = some meth.sig)) = true) : (Jvm.Cond.code y bytes mx rt).before a s = true := by
  simp only [Bool.and_eq_true, beq_iff_eq, Bool.not_eq_true', decide_eq_true_eq] at h5
  obtain ⟨⟨⟨⟨⟨g1, g2⟩, g3⟩, g4⟩, g5⟩, g6⟩ := h5
  simp [Cond.before, Cond.holds, Cond.value, h1, h2, h3, h4, g1, g2, g3, g4, g5, g6]
def isCode : Jvm.Cond → Bool
  | .code _ _ _ _ => true
  | _ => false
theorem all_split {L : List Jvm.Cond} {P : Jvm.Cond → Bool} (h1 : L.all (fun c => isCode c || P c) = true) (h2 : ∀ c ∈ L.filter isCode, P c = true) : L.all P = true := by
  refine List.all_eq_true.mpr fun c hc => ?_
  have h := List.all_eq_true.mp h1 c hc
  rcases Bool.eq_false_or_eq_true (isCode c) with hi | hi
  · exact h2 c (List.mem_filter.mpr ⟨hc, hi⟩)
  · simpa [hi] using h
set_option maxRecDepth 65536 in
theorem w_c0 : (Jvm.Cond.code x code maxLocals ret).before args0 about1 = true := code_word (m := ⟨1, 1⟩) (meth := k1m1) (c := k1c1) (by decide +kernel) rfl rfl rfl (by decide +kernel)
set_option maxRecDepth 65536 in
theorem w_c1 : (Jvm.Cond.code ({ cls := "com/example/rightful_keys/rightfulkeys/policy/Budget", name := "<init>", desc := "()V" } : Jvm.MethodName) prog_19_method_1_code (1 : Nat) (Option.none : Option Jvm.ClassFile.FieldType)).before args0 about1 = true := code_word (m := ⟨2, 0⟩) (meth := k2m0) (c := k2c0) (by decide +kernel) rfl rfl rfl (by decide +kernel)
set_option maxRecDepth 65536 in
theorem w_c2 : (Jvm.Cond.code ({ cls := "java/lang/Object", name := "<init>", desc := "()V" } : Jvm.MethodName) object_method_1_code (1 : Nat) (Option.none : Option Jvm.ClassFile.FieldType)).before args0 about1 = true := code_word (m := ⟨0, 0⟩) (meth := k0m0) (c := k0c0) (by decide +kernel) rfl rfl rfl (by decide +kernel)
set_option maxRecDepth 65536 in
theorem w_c3 : (Jvm.Cond.code ({ cls := "com/example/rightful_keys/rightfulkeys/policy/Budget", name := "spend", desc := "(J)V" } : Jvm.MethodName) prog_19_method_3_code (3 : Nat) (Option.none : Option Jvm.ClassFile.FieldType)).before args0 about1 = true := code_word (m := ⟨2, 1⟩) (meth := k2m1) (c := k2c1) (by decide +kernel) rfl rfl rfl (by decide +kernel)
def codes1 : List Jvm.Cond := [Jvm.Cond.code x code maxLocals ret, Jvm.Cond.code ({ cls := "com/example/rightful_keys/rightfulkeys/policy/Budget", name := "<init>", desc := "()V" } : Jvm.MethodName) prog_19_method_1_code (1 : Nat) (Option.none : Option Jvm.ClassFile.FieldType), Jvm.Cond.code ({ cls := "java/lang/Object", name := "<init>", desc := "()V" } : Jvm.MethodName) object_method_1_code (1 : Nat) (Option.none : Option Jvm.ClassFile.FieldType), Jvm.Cond.code ({ cls := "com/example/rightful_keys/rightfulkeys/policy/Budget", name := "spend", desc := "(J)V" } : Jvm.MethodName) prog_19_method_3_code (3 : Nat) (Option.none : Option Jvm.ClassFile.FieldType)]
set_option maxRecDepth 65536 in
theorem codes_eq : words1.filter isCode = codes1 := rfl
theorem w_codes : ∀ c ∈ words1.filter isCode, c.before args0 about1 = true := by
  rw [codes_eq]
  intro c hc
  simp only [codes1, List.mem_cons, List.not_mem_nil, or_false] at hc
  rcases hc with rfl | rfl | rfl | rfl
  · exact w_c0
  · exact w_c1
  · exact w_c2
  · exact w_c3
set_option maxRecDepth 65536 in
theorem w_t1 : words1.all (fun c => isCode c || c.before args0 about1) = true := by decide +kernel
theorem w_tables : (allAtoms (Jvm.Cond.code x code maxLocals ret :: tables_1)).before args0 about1 = true := by
  rw [allAtoms_all]
  show words1.all (fun c => c.before args0 about1) = true
  refine all_split ?_ w_codes
  rw [w_t1]
set_option maxRecDepth 65536 in
theorem w_case : (Jvm.Cond.and given_1 narrow_1).before args0 about1 = true := by decide +kernel
theorem w_applies : (headSpec (Jvm.Cond.code x code maxLocals ret :: tables_1) room_1).applies x e0.platform about1 = true :=
  (Spec.applies_iff w_frames).mpr ⟨w_running, w_runnable, w_alone, w_named, w_hears, w_ripe, w_room, w_tables⟩
theorem atStart : AtStart classFile x code maxLocals ret World_1 tables_1 room_1 Calls_1 rest_1 Pre_1 launch0 p0 e0 about1 theMethod args0 below0 :=
  ⟨lists_1, trivial, launch0.admits_env _ _ _, launch0.least_env, fairChoices_fair.cas, fairChoices_fair.clock, w_frames, w_args, w_heap, w_applies, trivial, trivial, w_case⟩
end start1
theorem witness_1 : WitnessClaimed_1 := ⟨start1.p0, start1.e0, start1.about1, start1.theMethod, start1.args0, start1.below0, start1.atStart⟩
end Jvm.Pilot.@@N@@
