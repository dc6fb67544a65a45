import JvmDerived
import JvmDerived.Pilot.@@N@@Statement
import JvmDerived.Pilot.@@N@@Code
set_option linter.unusedVariables false
set_option linter.unusedSimpArgs false
@@BLOCK:NumsL.lean.txt@@
namespace Jvm.RoadKit
open Sem ClassFile Op Lib Jvm.Stand Jvm.Free Jvm.LawKit
section New
variable {p : Program} {l : Launch} {e : Env} {R : Room} {s : State} {m : MethodId} {args : Array Value} {below : List Frame} {meth : Method} {c : Code} {T : State} {locs : List Loc} {cells slots : Nat}
theorem retI (X : Stand p l e R s m args below meth c T locs cells slots) (hx : p.tables.exec = Jvm.exec) {pc : Nat} {Ls : Array Slot} {z : Int32} {rest : List Value} (hret : meth.sig.returnType = some .int) (hd : decode c.code pc = .ok (.ireturn, 1)) {fs : List Frame}
    (hl : ∀ (f : JFrame) (acts : List Action), f.method = m → f.locked = none → f.entered = [] → (doReturn e (T.setTop f) acts (some (.int z))).1 = T.setFrames fs) : Steps p.tables e below (T.setTop (mkF m pc Ls (.int z :: rest))) (T.setFrames fs) := by
  have hm' : T.vm.method? m = some meth := X.method'
  have hn : narrow .int (.int z) = .int z := rfl
  show Steps p.tables e below (T.setTop { method := m, pc := pc, locals := Ls, stack := _ :: rest, locked := none }) _
  jvm_step X.here [X.here.top, hx, hd, hm', hret, hn]
  first | (intro acts; rw [hl _ acts rfl rfl rfl]) | rw [hl _ _ rfl rfl rfl]
  exact Steps.refl _
end New
end Jvm.RoadKit
namespace Jvm.Pilot.@@N@@
open Jvm Jvm.ClassFile Sem Op Lib Jvm.Free Jvm.Stand Jvm.LawKit Jvm.RoadKit Bundle Jvm.Pilot.@@N@@.Jvm.D
theorem own_lclt {x y : Int64} (h : x < y) : lcmpW x y < 0 := by rw [lcW]; exact (lc_lt x y).2 h
theorem own_lcge {x y : Int64} (h : ¬ x < y) : ¬ (lcmpW x y < 0) := by rw [lcW]; exact fun k => h ((lc_lt x y).1 k)
theorem own_lcgt {x y : Int64} (h : y < x) : 0 < lcmpW x y := by rw [lcW]; exact (lc_gt x y).2 h
theorem own_lcle {x y : Int64} (h : ¬ y < x) : ¬ (0 < lcmpW x y) := by rw [lcW]; exact fun k => h ((lc_gt x y).1 k)
theorem own_lceq {x y : Int64} (h : x = y) : lcmpW x y = 0 := by rw [lcW]; exact (lc_eq x y).2 h
theorem own_lcne {x y : Int64} (h : ¬ (x = y)) : ¬ (lcmpW x y = 0) := by rw [lcW]; exact fun k => h ((lc_eq x y).1 k)
theorem tw0 {Z : State} {a0 : Array Value} (hw : ∀ d ∈ tables_1, d.before a0 Z = true) : ((Jvm.Cond.constantLong "com/example/cicada/cicada/ExpirySpanPinLaw" (9 : Nat) (9223372036854775807 : Int64)) : Jvm.Cond).before a0 Z = true := hw _ (List.mem_of_getElem? (i := 0) rfl)
theorem tw1 {Z : State} {a0 : Array Value} (hw : ∀ d ∈ tables_1, d.before a0 Z = true) : ((Jvm.Cond.constant "com/example/cicada/cicada/ExpirySpanPinLaw" (11 : Nat) (2147483647 : Int32)) : Jvm.Cond).before a0 Z = true := hw _ (List.mem_of_getElem? (i := 1) rfl)
theorem tw2 {Z : State} {a0 : Array Value} (hw : ∀ d ∈ tables_1, d.before a0 Z = true) : ((Jvm.Cond.methodLink "com/example/cicada/cicada/ExpirySpanPinLaw" (12 : Nat) ({ cls := "com/example/cicada/cicada/ExpirySpanPinLaw", name := "reference", desc := "(JI)J" } : Jvm.MethodName)) : Jvm.Cond).before a0 Z = true := hw _ (List.mem_of_getElem? (i := 2) rfl)
theorem tw3 {Z : State} {a0 : Array Value} (hw : ∀ d ∈ tables_1, d.before a0 Z = true) : ((Jvm.Cond.static ({ cls := "com/example/cicada/cicada/ExpirySpanPinLaw", name := "reference", desc := "(JI)J" } : Jvm.MethodName)) : Jvm.Cond).before a0 Z = true := hw _ (List.mem_of_getElem? (i := 3) rfl)
theorem tw4 {Z : State} {a0 : Array Value} (hw : ∀ d ∈ tables_1, d.before a0 Z = true) : ((Jvm.Cond.initialized "com/example/cicada/cicada/ExpirySpanPinLaw") : Jvm.Cond).before a0 Z = true := hw _ (List.mem_of_getElem? (i := 4) rfl)
theorem tw5 {Z : State} {a0 : Array Value} (hw : ∀ d ∈ tables_1, d.before a0 Z = true) : ((Jvm.Cond.code ({ cls := "com/example/cicada/cicada/ExpirySpanPinLaw", name := "reference", desc := "(JI)J" } : Jvm.MethodName) method_3_code (15 : Nat) (Option.some Jvm.ClassFile.FieldType.long)) : Jvm.Cond).before a0 Z = true := hw _ (List.mem_of_getElem? (i := 5) rfl)
theorem tw6 {Z : State} {a0 : Array Value} (hw : ∀ d ∈ tables_1, d.before a0 Z = true) : ((Jvm.Cond.constantLong "com/example/cicada/cicada/ExpirySpanPinLaw" (23 : Nat) (4294967295 : Int64)) : Jvm.Cond).before a0 Z = true := hw _ (List.mem_of_getElem? (i := 6) rfl)
theorem tw7 {Z : State} {a0 : Array Value} (hw : ∀ d ∈ tables_1, d.before a0 Z = true) : ((Jvm.Cond.constantLong "com/example/cicada/cicada/ExpirySpanPinLaw" (25 : Nat) (2147483648 : Int64)) : Jvm.Cond).before a0 Z = true := hw _ (List.mem_of_getElem? (i := 7) rfl)
theorem tw8 {Z : State} {a0 : Array Value} (hw : ∀ d ∈ tables_1, d.before a0 Z = true) : ((Jvm.Cond.methodLink "com/example/cicada/cicada/ExpirySpanPinLaw" (18 : Nat) ({ cls := "com/example/cicada/cicada/Expiry", name := "span", desc := "(JI)J" } : Jvm.MethodName)) : Jvm.Cond).before a0 Z = true := hw _ (List.mem_of_getElem? (i := 8) rfl)
theorem tw9 {Z : State} {a0 : Array Value} (hw : ∀ d ∈ tables_1, d.before a0 Z = true) : ((Jvm.Cond.static ({ cls := "com/example/cicada/cicada/Expiry", name := "span", desc := "(JI)J" } : Jvm.MethodName)) : Jvm.Cond).before a0 Z = true := hw _ (List.mem_of_getElem? (i := 9) rfl)
theorem tw10 {Z : State} {a0 : Array Value} (hw : ∀ d ∈ tables_1, d.before a0 Z = true) : ((Jvm.Cond.initialized "com/example/cicada/cicada/Expiry") : Jvm.Cond).before a0 Z = true := hw _ (List.mem_of_getElem? (i := 10) rfl)
theorem tw11 {Z : State} {a0 : Array Value} (hw : ∀ d ∈ tables_1, d.before a0 Z = true) : ((Jvm.Cond.code ({ cls := "com/example/cicada/cicada/Expiry", name := "span", desc := "(JI)J" } : Jvm.MethodName) prog_4_method_5_code (3 : Nat) (Option.some Jvm.ClassFile.FieldType.long)) : Jvm.Cond).before a0 Z = true := hw _ (List.mem_of_getElem? (i := 11) rfl)
theorem tw12 {Z : State} {a0 : Array Value} (hw : ∀ d ∈ tables_1, d.before a0 Z = true) : ((Jvm.Cond.constantLong "com/example/cicada/cicada/Expiry" (62 : Nat) (9223372036854775807 : Int64)) : Jvm.Cond).before a0 Z = true := hw _ (List.mem_of_getElem? (i := 12) rfl)
def refv (q1 : Int64) (p2 : Int32) : Int64 := if ((q1.toUInt64 >>> ((32 : Int32) &&& 63).toInt64.toUInt64).toInt64) * p2.toInt64 < (2147483648 : Int64) then (if ((9223372036854775807 : Int64) - (q1 &&& (4294967295 : Int64)) * p2.toInt64) < (((q1.toUInt64 >>> ((32 : Int32) &&& 63).toInt64.toUInt64).toInt64) * p2.toInt64) <<< ((32 : Int32) &&& 63).toInt64 then (9223372036854775807 : Int64) else ((((q1.toUInt64 >>> ((32 : Int32) &&& 63).toInt64.toUInt64).toInt64) * p2.toInt64) <<< ((32 : Int32) &&& 63).toInt64) + (q1 &&& (4294967295 : Int64)) * p2.toInt64) else (9223372036854775807 : Int64)
theorem own_ref1 {q1 bl th hb c31 : Int64} {p2 n32 : Int32} (h_bl : bl = p2.toInt64) (h_n32 : n32 = 32) (h_th : th = ((q1.toUInt64 >>> (n32 &&& 63).toInt64.toUInt64).toInt64)) (h_hb : hb = th * bl) (h_c31 : c31 = 2147483648) (hc : ¬ hb < c31) : (9223372036854775807 : Int64) = refv q1 p2 := by
  subst h_c31; subst h_hb; subst h_th; subst h_n32; subst h_bl
  exact (if_neg hc).symm
theorem own_ref2 {q1 bl th hb c31 mk tl hi lo mx df : Int64} {p2 n32 m32 : Int32} (h_bl : bl = p2.toInt64) (h_n32 : n32 = 32) (h_th : th = ((q1.toUInt64 >>> (n32 &&& 63).toInt64.toUInt64).toInt64)) (h_hb : hb = th * bl) (h_c31 : c31 = 2147483648) (hc : hb < c31) (h_mk : mk = 4294967295) (h_tl : tl = q1 &&& mk) (h_m32 : m32 = 32) (h_hi : hi = hb <<< (m32 &&& 63).toInt64) (h_lo : lo = tl * bl) (h_mx : mx = 9223372036854775807) (h_df : df = mx - lo) (hd : df < hi) : (9223372036854775807 : Int64) = refv q1 p2 := by
  subst h_df; subst h_mx; subst h_lo; subst h_hi; subst h_m32; subst h_tl; subst h_mk; subst h_c31; subst h_hb; subst h_th; subst h_n32; subst h_bl
  exact ((if_pos hc).trans (if_pos hd)).symm
theorem own_ref3 {q1 bl th hb c31 mk tl hi lo mx df : Int64} {p2 n32 m32 : Int32} (h_bl : bl = p2.toInt64) (h_n32 : n32 = 32) (h_th : th = ((q1.toUInt64 >>> (n32 &&& 63).toInt64.toUInt64).toInt64)) (h_hb : hb = th * bl) (h_c31 : c31 = 2147483648) (hc : hb < c31) (h_mk : mk = 4294967295) (h_tl : tl = q1 &&& mk) (h_m32 : m32 = 32) (h_hi : hi = hb <<< (m32 &&& 63).toInt64) (h_lo : lo = tl * bl) (h_mx : mx = 9223372036854775807) (h_df : df = mx - lo) (hd : ¬ df < hi) : hi + lo = refv q1 p2 := by
  subst h_df; subst h_mx; subst h_lo; subst h_hi; subst h_m32; subst h_tl; subst h_mk; subst h_c31; subst h_hb; subst h_th; subst h_n32; subst h_bl
  exact ((if_pos hc).trans (if_neg hd)).symm
abbrev G_rm1 (m : MethodId) (q1 : Int64) (p2 : Int32) : JFrame := (entryFrame m #[(.long q1), (.int p2)] 15)
theorem d1_0 : decode method_3_code 0 = .ok (.iload_n 2, 1) := by decide +kernel
theorem d1_1 : decode method_3_code 1 = .ok (.i2l, 1) := by decide +kernel
theorem d1_2 : decode method_3_code 2 = .ok (.lstore_n 3, 1) := by decide +kernel
theorem d1_3 : decode method_3_code 3 = .ok (.lload_n 0, 1) := by decide +kernel
theorem d1_4 : decode method_3_code 4 = .ok (.bipush 32, 2) := by decide +kernel
theorem d1_6 : decode method_3_code 6 = .ok (.lushr, 1) := by decide +kernel
theorem d1_7 : decode method_3_code 7 = .ok (.lstore 5, 2) := by decide +kernel
theorem d1_9 : decode method_3_code 9 = .ok (.lload_n 0, 1) := by decide +kernel
theorem d1_10 : decode method_3_code 10 = .ok (.ldc2_w 23, 3) := by decide +kernel
theorem d1_13 : decode method_3_code 13 = .ok (.land, 1) := by decide +kernel
theorem d1_14 : decode method_3_code 14 = .ok (.lstore 7, 2) := by decide +kernel
theorem d1_16 : decode method_3_code 16 = .ok (.lload 5, 2) := by decide +kernel
theorem d1_18 : decode method_3_code 18 = .ok (.lload_n 3, 1) := by decide +kernel
theorem d1_19 : decode method_3_code 19 = .ok (.lmul, 1) := by decide +kernel
theorem d1_20 : decode method_3_code 20 = .ok (.lstore 9, 2) := by decide +kernel
theorem d1_22 : decode method_3_code 22 = .ok (.lload 9, 2) := by decide +kernel
theorem d1_24 : decode method_3_code 24 = .ok (.ldc2_w 25, 3) := by decide +kernel
theorem d1_27 : decode method_3_code 27 = .ok (.lcmp, 1) := by decide +kernel
theorem d1_28 : decode method_3_code 28 = .ok (.ifCond .lt 7, 3) := by decide +kernel
theorem d1_31 : decode method_3_code 31 = .ok (.ldc2_w 9, 3) := by decide +kernel
theorem d1_34 : decode method_3_code 34 = .ok (.lreturn, 1) := by decide +kernel
theorem d1_35 : decode method_3_code 35 = .ok (.lload 9, 2) := by decide +kernel
theorem d1_37 : decode method_3_code 37 = .ok (.bipush 32, 2) := by decide +kernel
theorem d1_39 : decode method_3_code 39 = .ok (.lshl, 1) := by decide +kernel
theorem d1_40 : decode method_3_code 40 = .ok (.lstore 11, 2) := by decide +kernel
theorem d1_42 : decode method_3_code 42 = .ok (.lload 7, 2) := by decide +kernel
theorem d1_44 : decode method_3_code 44 = .ok (.lload_n 3, 1) := by decide +kernel
theorem d1_45 : decode method_3_code 45 = .ok (.lmul, 1) := by decide +kernel
theorem d1_46 : decode method_3_code 46 = .ok (.lstore 13, 2) := by decide +kernel
theorem d1_48 : decode method_3_code 48 = .ok (.lload 11, 2) := by decide +kernel
theorem d1_50 : decode method_3_code 50 = .ok (.ldc2_w 9, 3) := by decide +kernel
theorem d1_53 : decode method_3_code 53 = .ok (.lload 13, 2) := by decide +kernel
theorem d1_55 : decode method_3_code 55 = .ok (.lsub, 1) := by decide +kernel
theorem d1_56 : decode method_3_code 56 = .ok (.lcmp, 1) := by decide +kernel
theorem d1_57 : decode method_3_code 57 = .ok (.ifCond .le 7, 3) := by decide +kernel
theorem d1_64 : decode method_3_code 64 = .ok (.lload 11, 2) := by decide +kernel
theorem d1_66 : decode method_3_code 66 = .ok (.lload 13, 2) := by decide +kernel
theorem d1_68 : decode method_3_code 68 = .ok (.ladd, 1) := by decide +kernel
theorem d1_69 : decode method_3_code 69 = .ok (.lreturn, 1) := by decide +kernel
theorem d1_60 : decode method_3_code 60 = .ok (.ldc2_w 9, 3) := by decide +kernel
theorem d1_63 : decode method_3_code 63 = .ok (.lreturn, 1) := by decide +kernel
def Q_rm1 (Z : State) (q1 : Int64) (p2 : Int32)  (h0 : Heap) (n0 : Nat) (v : Option Value) (h : Heap) (L : List Loc) : Prop := v = some (.long (refv q1 p2)) ∧ Fr n0 L ∧ h = h0
theorem pn_com_example_cicada_cicada_ExpirySpanPinLaw : plainName "com/example/cicada/cicada/ExpirySpanPinLaw" = true := by first | (simp [plainName, overriddenIn]; done) | decide +kernel
set_option maxRecDepth 65536 in
set_option maxHeartbeats 40000000 in
theorem rm1 (l : Launch) (Z : State) (a0 : Array Value) (hw : ∀ d ∈ tables_1, d.before a0 Z = true) (ws : List Jvm.Cond) (q1 : Int64) (p2 : Int32)  (h0 : Heap) (n0 : Nat) (Z0 : n0 ≤ h0.size)  :
    MetFree l (⟨"com/example/cicada/cicada/ExpirySpanPinLaw", "reference", "(JI)J"⟩ : MethodName) (head1 (Jvm.Cond.code (⟨"com/example/cicada/cicada/ExpirySpanPinLaw", "reference", "(JI)J"⟩ : MethodName) method_3_code 15 (some .long) :: ws) ({ frames := 0, cells := 0, slots := 0, locals := 0 } : Room)) (fun a U => a = #[(.long q1), (.int p2)] ∧ Z.Warmed39 U.vm ∧ U.heap = h0) (fun _ _ _ _ _ => True) (fun _ U o U' => ∃ v L, o = .returned v ∧ Q_rm1 Z q1 p2 h0 n0 v U'.heap L ∧ FrameEnd U o U' L ({ frames := 0, cells := 0, slots := 0, locals := 0 } : Room).cells ({ frames := 0, cells := 0, slots := 0, locals := 0 } : Room).slots) := by
  refine MetFree.of_bodySF (plainFor_of_name pn_com_example_cicada_cicada_ExpirySpanPinLaw) hisR ?_
  intro p e s m args below meth c s₁ Bd hml0 hP hK
  obtain ⟨rfl, hZ, hh⟩ := hP
  have hx := Bd.exec
  have hby := Bd.bytes
  have hml : c.maxLocals = 15 := hml0
  have hown : s.vm.findClass "com/example/cicada/cicada/ExpirySpanPinLaw" = some m.cls := findClass_of_methodNamed Bd.named
  have hnm := (name_of_methodNamed Bd.named Bd.method).1
  have X0 : Stand p l e ({ frames := 0, cells := 0, slots := 0, locals := 0 } : Room) s m #[(.long q1), (.int p2)] below meth c s₁ [] 0 0 := Stand.of_body Bd
  have e0 : s₁.heap = h0 := by rw [← hh, Bd.state]; rfl
  have N0 := Fr.nil n0
  have go0 : Goes p e below s₁ (G_rm1 m q1 p2) s₁ (mkF m 0 #[.val (.long q1), .second, .val (.int p2), .unset, .unset, .unset, .unset, .unset, .unset, .unset, .unset, .unset, .unset, .unset, .unset] []) := fun t k => castTop (by first | (simp [entryFrame, mkF, argsToLocals, Value.category, G_rm1]; done) | rfl) k
  have go1 : Goes p e below s₁ (G_rm1 m q1 p2) s₁ (mkF m 3 #[.val (.long q1), .second, .val (.int p2), .val (.long (p2.toInt64)), .second, .unset, .unset, .unset, .unset, .unset, .unset, .unset, .unset, .unset, .unset] []) := fun t k => go0 t (by
    show Steps p.tables e below (s₁.setTop (mkF m 0 #[.val (.long q1), .second, .val (.int p2), .unset, .unset, .unset, .unset, .unset, .unset, .unset, .unset, .unset, .unset, .unset, .unset] [])) _
    refine XS.iloadN X0.here hx rfl (hb hby d1_0) rfl ?_
    show Steps p.tables e below (s₁.setTop (mkF m 1 #[.val (.long q1), .second, .val (.int p2), .unset, .unset, .unset, .unset, .unset, .unset, .unset, .unset, .unset, .unset, .unset, .unset] [(.int p2)])) _
    refine XS.i2l X0.here hx rfl (hb hby d1_1) rfl ?_
    show Steps p.tables e below (s₁.setTop (mkF m 2 #[.val (.long q1), .second, .val (.int p2), .unset, .unset, .unset, .unset, .unset, .unset, .unset, .unset, .unset, .unset, .unset, .unset] [(.long (p2.toInt64))])) _
    refine XS.lstoreN X0.here hx rfl (hb hby d1_2) rfl (l' := #[.val (.long q1), .second, .val (.int p2), .val (.long (p2.toInt64)), .second, .unset, .unset, .unset, .unset, .unset, .unset, .unset, .unset, .unset, .unset]) rfl ?_
    exact k)
  obtain ⟨bl, h_bl⟩ : ∃ z, z = (p2.toInt64) := ⟨_, rfl⟩
  rw [← h_bl] at go1
  have go2 : Goes p e below s₁ (G_rm1 m q1 p2) s₁ (mkF m 6 #[.val (.long q1), .second, .val (.int p2), .val (.long bl), .second, .unset, .unset, .unset, .unset, .unset, .unset, .unset, .unset, .unset, .unset] [(.int (32 : Int32)), (.long q1)]) := fun t k => go1 t (by
    show Steps p.tables e below (s₁.setTop (mkF m 3 #[.val (.long q1), .second, .val (.int p2), .val (.long bl), .second, .unset, .unset, .unset, .unset, .unset, .unset, .unset, .unset, .unset, .unset] [])) _
    refine XS.lloadN X0.here hx rfl (hb hby d1_3) rfl ?_
    show Steps p.tables e below (s₁.setTop (mkF m 4 #[.val (.long q1), .second, .val (.int p2), .val (.long bl), .second, .unset, .unset, .unset, .unset, .unset, .unset, .unset, .unset, .unset, .unset] [(.long q1)])) _
    refine XS.bipush X0.here hx rfl (hb hby d1_4) ?_
    exact k)
  obtain ⟨n32, h_n32⟩ : ∃ z, z = (32 : Int32) := ⟨_, rfl⟩
  rw [← h_n32] at go2
  have go3 : Goes p e below s₁ (G_rm1 m q1 p2) s₁ (mkF m 9 #[.val (.long q1), .second, .val (.int p2), .val (.long bl), .second, .val (.long ((q1.toUInt64 >>> (n32 &&& 63).toInt64.toUInt64).toInt64)), .second, .unset, .unset, .unset, .unset, .unset, .unset, .unset, .unset] []) := fun t k => go2 t (by
    show Steps p.tables e below (s₁.setTop (mkF m 6 #[.val (.long q1), .second, .val (.int p2), .val (.long bl), .second, .unset, .unset, .unset, .unset, .unset, .unset, .unset, .unset, .unset, .unset] [(.int n32), (.long q1)])) _
    refine XS.lushr X0.here hx rfl (hb hby d1_6) rfl ?_
    show Steps p.tables e below (s₁.setTop (mkF m 7 #[.val (.long q1), .second, .val (.int p2), .val (.long bl), .second, .unset, .unset, .unset, .unset, .unset, .unset, .unset, .unset, .unset, .unset] [(.long ((q1.toUInt64 >>> (n32 &&& 63).toInt64.toUInt64).toInt64))])) _
    refine XS.lstore X0.here hx rfl (hb hby d1_7) rfl (l' := #[.val (.long q1), .second, .val (.int p2), .val (.long bl), .second, .val (.long ((q1.toUInt64 >>> (n32 &&& 63).toInt64.toUInt64).toInt64)), .second, .unset, .unset, .unset, .unset, .unset, .unset, .unset, .unset]) rfl ?_
    exact k)
  obtain ⟨th, h_th⟩ : ∃ z, z = ((q1.toUInt64 >>> (n32 &&& 63).toInt64.toUInt64).toInt64) := ⟨_, rfl⟩
  rw [← h_th] at go3
  have go4 : Goes p e below s₁ (G_rm1 m q1 p2) s₁ (mkF m 13 #[.val (.long q1), .second, .val (.int p2), .val (.long bl), .second, .val (.long th), .second, .unset, .unset, .unset, .unset, .unset, .unset, .unset, .unset] [(.long (4294967295 : Int64)), (.long q1)]) := fun t k => go3 t (by
    show Steps p.tables e below (s₁.setTop (mkF m 9 #[.val (.long q1), .second, .val (.int p2), .val (.long bl), .second, .val (.long th), .second, .unset, .unset, .unset, .unset, .unset, .unset, .unset, .unset] [])) _
    refine XS.lloadN X0.here hx rfl (hb hby d1_9) rfl ?_
    show Steps p.tables e below (s₁.setTop (mkF m 10 #[.val (.long q1), .second, .val (.int p2), .val (.long bl), .second, .val (.long th), .second, .unset, .unset, .unset, .unset, .unset, .unset, .unset, .unset] [(.long q1)])) _
    refine X0.ldc2Long hx hown (mvT hZ (tw6 hw)) (g := (mkF m 10 #[.val (.long q1), .second, .val (.int p2), .val (.long bl), .second, .val (.long th), .second, .unset, .unset, .unset, .unset, .unset, .unset, .unset, .unset] [(.long q1)])) rfl (hb hby d1_10) _ ?_
    exact k)
  obtain ⟨zm, h_zm⟩ : ∃ z, z = (4294967295 : Int64) := ⟨_, rfl⟩
  rw [← h_zm] at go4
  have go5 : Goes p e below s₁ (G_rm1 m q1 p2) s₁ (mkF m 16 #[.val (.long q1), .second, .val (.int p2), .val (.long bl), .second, .val (.long th), .second, .val (.long (q1 &&& zm)), .second, .unset, .unset, .unset, .unset, .unset, .unset] []) := fun t k => go4 t (by
    show Steps p.tables e below (s₁.setTop (mkF m 13 #[.val (.long q1), .second, .val (.int p2), .val (.long bl), .second, .val (.long th), .second, .unset, .unset, .unset, .unset, .unset, .unset, .unset, .unset] [(.long zm), (.long q1)])) _
    refine XS.land X0.here hx rfl (hb hby d1_13) rfl ?_
    show Steps p.tables e below (s₁.setTop (mkF m 14 #[.val (.long q1), .second, .val (.int p2), .val (.long bl), .second, .val (.long th), .second, .unset, .unset, .unset, .unset, .unset, .unset, .unset, .unset] [(.long (q1 &&& zm))])) _
    refine XS.lstore X0.here hx rfl (hb hby d1_14) rfl (l' := #[.val (.long q1), .second, .val (.int p2), .val (.long bl), .second, .val (.long th), .second, .val (.long (q1 &&& zm)), .second, .unset, .unset, .unset, .unset, .unset, .unset]) rfl ?_
    exact k)
  obtain ⟨tl, h_tl⟩ : ∃ z, z = (q1 &&& zm) := ⟨_, rfl⟩
  rw [← h_tl] at go5
  have go6 : Goes p e below s₁ (G_rm1 m q1 p2) s₁ (mkF m 22 #[.val (.long q1), .second, .val (.int p2), .val (.long bl), .second, .val (.long th), .second, .val (.long tl), .second, .val (.long (th * bl)), .second, .unset, .unset, .unset, .unset] []) := fun t k => go5 t (by
    show Steps p.tables e below (s₁.setTop (mkF m 16 #[.val (.long q1), .second, .val (.int p2), .val (.long bl), .second, .val (.long th), .second, .val (.long tl), .second, .unset, .unset, .unset, .unset, .unset, .unset] [])) _
    refine XS.lload X0.here hx rfl (hb hby d1_16) rfl ?_
    show Steps p.tables e below (s₁.setTop (mkF m 18 #[.val (.long q1), .second, .val (.int p2), .val (.long bl), .second, .val (.long th), .second, .val (.long tl), .second, .unset, .unset, .unset, .unset, .unset, .unset] [(.long th)])) _
    refine XS.lloadN X0.here hx rfl (hb hby d1_18) rfl ?_
    show Steps p.tables e below (s₁.setTop (mkF m 19 #[.val (.long q1), .second, .val (.int p2), .val (.long bl), .second, .val (.long th), .second, .val (.long tl), .second, .unset, .unset, .unset, .unset, .unset, .unset] [(.long bl), (.long th)])) _
    refine XS.lmul X0.here hx rfl (hb hby d1_19) rfl ?_
    show Steps p.tables e below (s₁.setTop (mkF m 20 #[.val (.long q1), .second, .val (.int p2), .val (.long bl), .second, .val (.long th), .second, .val (.long tl), .second, .unset, .unset, .unset, .unset, .unset, .unset] [(.long (th * bl))])) _
    refine XS.lstore X0.here hx rfl (hb hby d1_20) rfl (l' := #[.val (.long q1), .second, .val (.int p2), .val (.long bl), .second, .val (.long th), .second, .val (.long tl), .second, .val (.long (th * bl)), .second, .unset, .unset, .unset, .unset]) rfl ?_
    exact k)
  obtain ⟨zb, h_zb⟩ : ∃ z, z = (th * bl) := ⟨_, rfl⟩
  rw [← h_zb] at go6
  have go7 : Goes p e below s₁ (G_rm1 m q1 p2) s₁ (mkF m 27 #[.val (.long q1), .second, .val (.int p2), .val (.long bl), .second, .val (.long th), .second, .val (.long tl), .second, .val (.long zb), .second, .unset, .unset, .unset, .unset] [(.long (2147483648 : Int64)), (.long zb)]) := fun t k => go6 t (by
    show Steps p.tables e below (s₁.setTop (mkF m 22 #[.val (.long q1), .second, .val (.int p2), .val (.long bl), .second, .val (.long th), .second, .val (.long tl), .second, .val (.long zb), .second, .unset, .unset, .unset, .unset] [])) _
    refine XS.lload X0.here hx rfl (hb hby d1_22) rfl ?_
    show Steps p.tables e below (s₁.setTop (mkF m 24 #[.val (.long q1), .second, .val (.int p2), .val (.long bl), .second, .val (.long th), .second, .val (.long tl), .second, .val (.long zb), .second, .unset, .unset, .unset, .unset] [(.long zb)])) _
    refine X0.ldc2Long hx hown (mvT hZ (tw7 hw)) (g := (mkF m 24 #[.val (.long q1), .second, .val (.int p2), .val (.long bl), .second, .val (.long th), .second, .val (.long tl), .second, .val (.long zb), .second, .unset, .unset, .unset, .unset] [(.long zb)])) rfl (hb hby d1_24) _ ?_
    exact k)
  obtain ⟨c31, h_c31⟩ : ∃ z, z = (2147483648 : Int64) := ⟨_, rfl⟩
  rw [← h_c31] at go7
  have go8 : Goes p e below s₁ (G_rm1 m q1 p2) s₁ (mkF m 28 #[.val (.long q1), .second, .val (.int p2), .val (.long bl), .second, .val (.long th), .second, .val (.long tl), .second, .val (.long zb), .second, .unset, .unset, .unset, .unset] [(.int (lcmpW zb c31))]) := fun t k => go7 t (by
    show Steps p.tables e below (s₁.setTop (mkF m 27 #[.val (.long q1), .second, .val (.int p2), .val (.long bl), .second, .val (.long th), .second, .val (.long tl), .second, .val (.long zb), .second, .unset, .unset, .unset, .unset] [(.long c31), (.long zb)])) _
    refine XS.lcmp X0.here hx rfl (hb hby d1_27) rfl ?_
    exact k)
  by_cases hc : zb < c31
  · have go10 : Goes p e below s₁ (G_rm1 m q1 p2) s₁ (mkF m 39 #[.val (.long q1), .second, .val (.int p2), .val (.long bl), .second, .val (.long th), .second, .val (.long tl), .second, .val (.long zb), .second, .unset, .unset, .unset, .unset] [(.int (32 : Int32)), (.long zb)]) := fun t k => go8 t (by
      show Steps p.tables e below (s₁.setTop (mkF m 28 #[.val (.long q1), .second, .val (.int p2), .val (.long bl), .second, .val (.long th), .second, .val (.long tl), .second, .val (.long zb), .second, .unset, .unset, .unset, .unset] [(.int (lcmpW zb c31))])) _
      refine XS.ifYes X0.here hx rfl (pc0 := 28) (pc' := 35) rfl (hb hby d1_28) rfl ((if0 _ _).trans (tlt (own_lclt hc)).1) (by decide) (by decide) ?_
      show Steps p.tables e below (s₁.setTop (mkF m 35 #[.val (.long q1), .second, .val (.int p2), .val (.long bl), .second, .val (.long th), .second, .val (.long tl), .second, .val (.long zb), .second, .unset, .unset, .unset, .unset] [])) _
      refine XS.lload X0.here hx rfl (hb hby d1_35) rfl ?_
      show Steps p.tables e below (s₁.setTop (mkF m 37 #[.val (.long q1), .second, .val (.int p2), .val (.long bl), .second, .val (.long th), .second, .val (.long tl), .second, .val (.long zb), .second, .unset, .unset, .unset, .unset] [(.long zb)])) _
      refine XS.bipush X0.here hx rfl (hb hby d1_37) ?_
      exact k)
    obtain ⟨m32, h_m32⟩ : ∃ z, z = (32 : Int32) := ⟨_, rfl⟩
    rw [← h_m32] at go10
    have go11 : Goes p e below s₁ (G_rm1 m q1 p2) s₁ (mkF m 42 #[.val (.long q1), .second, .val (.int p2), .val (.long bl), .second, .val (.long th), .second, .val (.long tl), .second, .val (.long zb), .second, .val (.long (zb <<< (m32 &&& 63).toInt64)), .second, .unset, .unset] []) := fun t k => go10 t (by
      show Steps p.tables e below (s₁.setTop (mkF m 39 #[.val (.long q1), .second, .val (.int p2), .val (.long bl), .second, .val (.long th), .second, .val (.long tl), .second, .val (.long zb), .second, .unset, .unset, .unset, .unset] [(.int m32), (.long zb)])) _
      refine XS.lshl X0.here hx rfl (hb hby d1_39) rfl ?_
      show Steps p.tables e below (s₁.setTop (mkF m 40 #[.val (.long q1), .second, .val (.int p2), .val (.long bl), .second, .val (.long th), .second, .val (.long tl), .second, .val (.long zb), .second, .unset, .unset, .unset, .unset] [(.long (zb <<< (m32 &&& 63).toInt64))])) _
      refine XS.lstore X0.here hx rfl (hb hby d1_40) rfl (l' := #[.val (.long q1), .second, .val (.int p2), .val (.long bl), .second, .val (.long th), .second, .val (.long tl), .second, .val (.long zb), .second, .val (.long (zb <<< (m32 &&& 63).toInt64)), .second, .unset, .unset]) rfl ?_
      exact k)
    obtain ⟨hi, h_hi⟩ : ∃ z, z = (zb <<< (m32 &&& 63).toInt64) := ⟨_, rfl⟩
    rw [← h_hi] at go11
    have go12 : Goes p e below s₁ (G_rm1 m q1 p2) s₁ (mkF m 48 #[.val (.long q1), .second, .val (.int p2), .val (.long bl), .second, .val (.long th), .second, .val (.long tl), .second, .val (.long zb), .second, .val (.long hi), .second, .val (.long (tl * bl)), .second] []) := fun t k => go11 t (by
      show Steps p.tables e below (s₁.setTop (mkF m 42 #[.val (.long q1), .second, .val (.int p2), .val (.long bl), .second, .val (.long th), .second, .val (.long tl), .second, .val (.long zb), .second, .val (.long hi), .second, .unset, .unset] [])) _
      refine XS.lload X0.here hx rfl (hb hby d1_42) rfl ?_
      show Steps p.tables e below (s₁.setTop (mkF m 44 #[.val (.long q1), .second, .val (.int p2), .val (.long bl), .second, .val (.long th), .second, .val (.long tl), .second, .val (.long zb), .second, .val (.long hi), .second, .unset, .unset] [(.long tl)])) _
      refine XS.lloadN X0.here hx rfl (hb hby d1_44) rfl ?_
      show Steps p.tables e below (s₁.setTop (mkF m 45 #[.val (.long q1), .second, .val (.int p2), .val (.long bl), .second, .val (.long th), .second, .val (.long tl), .second, .val (.long zb), .second, .val (.long hi), .second, .unset, .unset] [(.long bl), (.long tl)])) _
      refine XS.lmul X0.here hx rfl (hb hby d1_45) rfl ?_
      show Steps p.tables e below (s₁.setTop (mkF m 46 #[.val (.long q1), .second, .val (.int p2), .val (.long bl), .second, .val (.long th), .second, .val (.long tl), .second, .val (.long zb), .second, .val (.long hi), .second, .unset, .unset] [(.long (tl * bl))])) _
      refine XS.lstore X0.here hx rfl (hb hby d1_46) rfl (l' := #[.val (.long q1), .second, .val (.int p2), .val (.long bl), .second, .val (.long th), .second, .val (.long tl), .second, .val (.long zb), .second, .val (.long hi), .second, .val (.long (tl * bl)), .second]) rfl ?_
      exact k)
    obtain ⟨lo, h_lo⟩ : ∃ z, z = (tl * bl) := ⟨_, rfl⟩
    rw [← h_lo] at go12
    have go13 : Goes p e below s₁ (G_rm1 m q1 p2) s₁ (mkF m 53 #[.val (.long q1), .second, .val (.int p2), .val (.long bl), .second, .val (.long th), .second, .val (.long tl), .second, .val (.long zb), .second, .val (.long hi), .second, .val (.long lo), .second] [(.long (9223372036854775807 : Int64)), (.long hi)]) := fun t k => go12 t (by
      show Steps p.tables e below (s₁.setTop (mkF m 48 #[.val (.long q1), .second, .val (.int p2), .val (.long bl), .second, .val (.long th), .second, .val (.long tl), .second, .val (.long zb), .second, .val (.long hi), .second, .val (.long lo), .second] [])) _
      refine XS.lload X0.here hx rfl (hb hby d1_48) rfl ?_
      show Steps p.tables e below (s₁.setTop (mkF m 50 #[.val (.long q1), .second, .val (.int p2), .val (.long bl), .second, .val (.long th), .second, .val (.long tl), .second, .val (.long zb), .second, .val (.long hi), .second, .val (.long lo), .second] [(.long hi)])) _
      refine X0.ldc2Long hx hown (mvT hZ (tw0 hw)) (g := (mkF m 50 #[.val (.long q1), .second, .val (.int p2), .val (.long bl), .second, .val (.long th), .second, .val (.long tl), .second, .val (.long zb), .second, .val (.long hi), .second, .val (.long lo), .second] [(.long hi)])) rfl (hb hby d1_50) _ ?_
      exact k)
    obtain ⟨mx, h_mx⟩ : ∃ z, z = (9223372036854775807 : Int64) := ⟨_, rfl⟩
    rw [← h_mx] at go13
    have go14 : Goes p e below s₁ (G_rm1 m q1 p2) s₁ (mkF m 56 #[.val (.long q1), .second, .val (.int p2), .val (.long bl), .second, .val (.long th), .second, .val (.long tl), .second, .val (.long zb), .second, .val (.long hi), .second, .val (.long lo), .second] [(.long (mx - lo)), (.long hi)]) := fun t k => go13 t (by
      show Steps p.tables e below (s₁.setTop (mkF m 53 #[.val (.long q1), .second, .val (.int p2), .val (.long bl), .second, .val (.long th), .second, .val (.long tl), .second, .val (.long zb), .second, .val (.long hi), .second, .val (.long lo), .second] [(.long mx), (.long hi)])) _
      refine XS.lload X0.here hx rfl (hb hby d1_53) rfl ?_
      show Steps p.tables e below (s₁.setTop (mkF m 55 #[.val (.long q1), .second, .val (.int p2), .val (.long bl), .second, .val (.long th), .second, .val (.long tl), .second, .val (.long zb), .second, .val (.long hi), .second, .val (.long lo), .second] [(.long lo), (.long mx), (.long hi)])) _
      refine XS.lsub X0.here hx rfl (hb hby d1_55) rfl ?_
      exact k)
    obtain ⟨df, h_df⟩ : ∃ z, z = (mx - lo) := ⟨_, rfl⟩
    rw [← h_df] at go14
    have go15 : Goes p e below s₁ (G_rm1 m q1 p2) s₁ (mkF m 57 #[.val (.long q1), .second, .val (.int p2), .val (.long bl), .second, .val (.long th), .second, .val (.long tl), .second, .val (.long zb), .second, .val (.long hi), .second, .val (.long lo), .second] [(.int (lcmpW hi df))]) := fun t k => go14 t (by
      show Steps p.tables e below (s₁.setTop (mkF m 56 #[.val (.long q1), .second, .val (.int p2), .val (.long bl), .second, .val (.long th), .second, .val (.long tl), .second, .val (.long zb), .second, .val (.long hi), .second, .val (.long lo), .second] [(.long df), (.long hi)])) _
      refine XS.lcmp X0.here hx rfl (hb hby d1_56) rfl ?_
      exact k)
    by_cases hd : df < hi
    · have go17 : Goes p e below s₁ (G_rm1 m q1 p2) s₁ (mkF m 63 #[.val (.long q1), .second, .val (.int p2), .val (.long bl), .second, .val (.long th), .second, .val (.long tl), .second, .val (.long zb), .second, .val (.long hi), .second, .val (.long lo), .second] [(.long (9223372036854775807 : Int64))]) := fun t k => go15 t (by
        show Steps p.tables e below (s₁.setTop (mkF m 57 #[.val (.long q1), .second, .val (.int p2), .val (.long bl), .second, .val (.long th), .second, .val (.long tl), .second, .val (.long zb), .second, .val (.long hi), .second, .val (.long lo), .second] [(.int (lcmpW hi df))])) _
        refine XS.ifNo X0.here hx rfl (hb hby d1_57) rfl ((if0 _ _).trans (tlt (own_lcgt hd)).2.2.2) ?_
        show Steps p.tables e below (s₁.setTop (mkF m 60 #[.val (.long q1), .second, .val (.int p2), .val (.long bl), .second, .val (.long th), .second, .val (.long tl), .second, .val (.long zb), .second, .val (.long hi), .second, .val (.long lo), .second] [])) _
        refine X0.ldc2Long hx hown (mvT hZ (tw0 hw)) (g := (mkF m 60 #[.val (.long q1), .second, .val (.int p2), .val (.long bl), .second, .val (.long th), .second, .val (.long tl), .second, .val (.long zb), .second, .val (.long hi), .second, .val (.long lo), .second] [])) rfl (hb hby d1_60) _ ?_
        exact k)
      obtain ⟨fs, hr, hrun, hended, hW, hsame⟩ := X0.leave (v := some (.long (9223372036854775807 : Int64))) (fun h => by rw [Bd.returns] at h; cases h)
      refine ⟨_, _, go17 _ ?_, hrun, hended, _, _, rfl, ?_, ⟨_, rfl⟩, hW, hsame.mono (by decide) (by decide)⟩
      · jvm_step X0.here [X0.here.top, hx, (hb hby d1_63), X0.method', Bd.returns, narrow]
        first | (intro acts; rw [hr _ acts rfl rfl rfl]) | rw [hr _ _ rfl rfl rfl]
        exact Steps.refl _
      · show Q_rm1 Z q1 p2 h0 n0 _ s₁.heap _
        rw [e0]
        exact ⟨congrArg (fun z => some (Value.long z)) (own_ref2 h_bl h_n32 h_th h_zb h_c31 hc h_zm h_tl h_m32 h_hi h_lo h_mx h_df hd), N0, rfl⟩
    · have go16 : Goes p e below s₁ (G_rm1 m q1 p2) s₁ (mkF m 69 #[.val (.long q1), .second, .val (.int p2), .val (.long bl), .second, .val (.long th), .second, .val (.long tl), .second, .val (.long zb), .second, .val (.long hi), .second, .val (.long lo), .second] [(.long (hi + lo))]) := fun t k => go15 t (by
        show Steps p.tables e below (s₁.setTop (mkF m 57 #[.val (.long q1), .second, .val (.int p2), .val (.long bl), .second, .val (.long th), .second, .val (.long tl), .second, .val (.long zb), .second, .val (.long hi), .second, .val (.long lo), .second] [(.int (lcmpW hi df))])) _
        refine XS.ifYes X0.here hx rfl (pc0 := 57) (pc' := 64) rfl (hb hby d1_57) rfl ((if0 _ _).trans (flt (own_lcle hd)).2.2.2) (by decide) (by decide) ?_
        show Steps p.tables e below (s₁.setTop (mkF m 64 #[.val (.long q1), .second, .val (.int p2), .val (.long bl), .second, .val (.long th), .second, .val (.long tl), .second, .val (.long zb), .second, .val (.long hi), .second, .val (.long lo), .second] [])) _
        refine XS.lload X0.here hx rfl (hb hby d1_64) rfl ?_
        show Steps p.tables e below (s₁.setTop (mkF m 66 #[.val (.long q1), .second, .val (.int p2), .val (.long bl), .second, .val (.long th), .second, .val (.long tl), .second, .val (.long zb), .second, .val (.long hi), .second, .val (.long lo), .second] [(.long hi)])) _
        refine XS.lload X0.here hx rfl (hb hby d1_66) rfl ?_
        show Steps p.tables e below (s₁.setTop (mkF m 68 #[.val (.long q1), .second, .val (.int p2), .val (.long bl), .second, .val (.long th), .second, .val (.long tl), .second, .val (.long zb), .second, .val (.long hi), .second, .val (.long lo), .second] [(.long lo), (.long hi)])) _
        refine XS.ladd X0.here hx rfl (hb hby d1_68) rfl ?_
        exact k)
      obtain ⟨fs, hr, hrun, hended, hW, hsame⟩ := X0.leave (v := some (.long (hi + lo))) (fun h => by rw [Bd.returns] at h; cases h)
      refine ⟨_, _, go16 _ ?_, hrun, hended, _, _, rfl, ?_, ⟨_, rfl⟩, hW, hsame.mono (by decide) (by decide)⟩
      · jvm_step X0.here [X0.here.top, hx, (hb hby d1_69), X0.method', Bd.returns, narrow]
        first | (intro acts; rw [hr _ acts rfl rfl rfl]) | rw [hr _ _ rfl rfl rfl]
        exact Steps.refl _
      · show Q_rm1 Z q1 p2 h0 n0 _ s₁.heap _
        rw [e0]
        exact ⟨congrArg (fun z => some (Value.long z)) (own_ref3 h_bl h_n32 h_th h_zb h_c31 hc h_zm h_tl h_m32 h_hi h_lo h_mx h_df hd), N0, rfl⟩
  · have go9 : Goes p e below s₁ (G_rm1 m q1 p2) s₁ (mkF m 34 #[.val (.long q1), .second, .val (.int p2), .val (.long bl), .second, .val (.long th), .second, .val (.long tl), .second, .val (.long zb), .second, .unset, .unset, .unset, .unset] [(.long (9223372036854775807 : Int64))]) := fun t k => go8 t (by
      show Steps p.tables e below (s₁.setTop (mkF m 28 #[.val (.long q1), .second, .val (.int p2), .val (.long bl), .second, .val (.long th), .second, .val (.long tl), .second, .val (.long zb), .second, .unset, .unset, .unset, .unset] [(.int (lcmpW zb c31))])) _
      refine XS.ifNo X0.here hx rfl (hb hby d1_28) rfl ((if0 _ _).trans (flt (own_lcge hc)).1) ?_
      show Steps p.tables e below (s₁.setTop (mkF m 31 #[.val (.long q1), .second, .val (.int p2), .val (.long bl), .second, .val (.long th), .second, .val (.long tl), .second, .val (.long zb), .second, .unset, .unset, .unset, .unset] [])) _
      refine X0.ldc2Long hx hown (mvT hZ (tw0 hw)) (g := (mkF m 31 #[.val (.long q1), .second, .val (.int p2), .val (.long bl), .second, .val (.long th), .second, .val (.long tl), .second, .val (.long zb), .second, .unset, .unset, .unset, .unset] [])) rfl (hb hby d1_31) _ ?_
      exact k)
    obtain ⟨fs, hr, hrun, hended, hW, hsame⟩ := X0.leave (v := some (.long (9223372036854775807 : Int64))) (fun h => by rw [Bd.returns] at h; cases h)
    refine ⟨_, _, go9 _ ?_, hrun, hended, _, _, rfl, ?_, ⟨_, rfl⟩, hW, hsame.mono (by decide) (by decide)⟩
    · jvm_step X0.here [X0.here.top, hx, (hb hby d1_34), X0.method', Bd.returns, narrow]
      first | (intro acts; rw [hr _ acts rfl rfl rfl]) | rw [hr _ _ rfl rfl rfl]
      exact Steps.refl _
    · show Q_rm1 Z q1 p2 h0 n0 _ s₁.heap _
      rw [e0]
      exact ⟨congrArg (fun z => some (Value.long z)) (own_ref1 h_bl h_n32 h_th h_zb h_c31 hc), N0, rfl⟩
def spanv (q1 : Int64) (p2 : Int32) : Int64 := (if ((9223372036854775807 : Int64) / (p2.toInt64)) < q1 then (9223372036854775807 : Int64) else (q1 * (p2.toInt64)))
abbrev G_rm2 (m : MethodId) (q1 : Int64) (p2 : Int32) : JFrame := (entryFrame m #[(.long q1), (.int p2)] 3)
theorem d2_0 : decode prog_4_method_5_code 0 = .ok (.lload_n 0, 1) := by decide +kernel
theorem d2_1 : decode prog_4_method_5_code 1 = .ok (.ldc2_w 62, 3) := by decide +kernel
theorem d2_4 : decode prog_4_method_5_code 4 = .ok (.iload_n 2, 1) := by decide +kernel
theorem d2_5 : decode prog_4_method_5_code 5 = .ok (.i2l, 1) := by decide +kernel
theorem d2_6 : decode prog_4_method_5_code 6 = .ok (.ldiv, 1) := by decide +kernel
theorem d2_7 : decode prog_4_method_5_code 7 = .ok (.lcmp, 1) := by decide +kernel
theorem d2_8 : decode prog_4_method_5_code 8 = .ok (.ifCond .le 9, 3) := by decide +kernel
theorem d2_17 : decode prog_4_method_5_code 17 = .ok (.lload_n 0, 1) := by decide +kernel
theorem d2_18 : decode prog_4_method_5_code 18 = .ok (.iload_n 2, 1) := by decide +kernel
theorem d2_19 : decode prog_4_method_5_code 19 = .ok (.i2l, 1) := by decide +kernel
theorem d2_20 : decode prog_4_method_5_code 20 = .ok (.lmul, 1) := by decide +kernel
theorem d2_21 : decode prog_4_method_5_code 21 = .ok (.lreturn, 1) := by decide +kernel
theorem d2_11 : decode prog_4_method_5_code 11 = .ok (.ldc2_w 62, 3) := by decide +kernel
theorem d2_14 : decode prog_4_method_5_code 14 = .ok (.goto 7, 3) := by decide +kernel
def Q_rm2 (Z : State) (q1 : Int64) (p2 : Int32)  (h0 : Heap) (n0 : Nat) (v : Option Value) (h : Heap) (L : List Loc) : Prop := v = some (.long (spanv q1 p2)) ∧ Fr n0 L ∧ h = h0
theorem pn_com_example_cicada_cicada_Expiry : plainName "com/example/cicada/cicada/Expiry" = true := by first | (simp [plainName, overriddenIn]; done) | decide +kernel
set_option maxRecDepth 65536 in
set_option maxHeartbeats 40000000 in
theorem rm2 (l : Launch) (Z : State) (a0 : Array Value) (hw : ∀ d ∈ tables_1, d.before a0 Z = true) (ws : List Jvm.Cond) (q1 : Int64) (p2 : Int32)  (h0 : Heap) (n0 : Nat) (Z0 : n0 ≤ h0.size) (hnz : p2.toInt64 ≠ 0) :
    MetFree l (⟨"com/example/cicada/cicada/Expiry", "span", "(JI)J"⟩ : MethodName) (head1 (Jvm.Cond.code (⟨"com/example/cicada/cicada/Expiry", "span", "(JI)J"⟩ : MethodName) prog_4_method_5_code 3 (some .long) :: ws) ({ frames := 0, cells := 0, slots := 0, locals := 0 } : Room)) (fun a U => a = #[(.long q1), (.int p2)] ∧ Z.Warmed39 U.vm ∧ U.heap = h0) (fun _ _ _ _ _ => True) (fun _ U o U' => ∃ v L, o = .returned v ∧ Q_rm2 Z q1 p2 h0 n0 v U'.heap L ∧ FrameEnd U o U' L ({ frames := 0, cells := 0, slots := 0, locals := 0 } : Room).cells ({ frames := 0, cells := 0, slots := 0, locals := 0 } : Room).slots) := by
  refine MetFree.of_bodySF (plainFor_of_name pn_com_example_cicada_cicada_Expiry) hisR ?_
  intro p e s m args below meth c s₁ Bd hml0 hP hK
  obtain ⟨rfl, hZ, hh⟩ := hP
  have hx := Bd.exec
  have hby := Bd.bytes
  have hml : c.maxLocals = 3 := hml0
  have hown : s.vm.findClass "com/example/cicada/cicada/Expiry" = some m.cls := findClass_of_methodNamed Bd.named
  have hnm := (name_of_methodNamed Bd.named Bd.method).1
  have X0 : Stand p l e ({ frames := 0, cells := 0, slots := 0, locals := 0 } : Room) s m #[(.long q1), (.int p2)] below meth c s₁ [] 0 0 := Stand.of_body Bd
  have e0 : s₁.heap = h0 := by rw [← hh, Bd.state]; rfl
  have N0 := Fr.nil n0
  have go0 : Goes p e below s₁ (G_rm2 m q1 p2) s₁ (mkF m 0 #[.val (.long q1), .second, .val (.int p2)] []) := fun t k => castTop (by first | (simp [entryFrame, mkF, argsToLocals, Value.category, G_rm2]; done) | rfl) k
  have go18 : Goes p e below s₁ (G_rm2 m q1 p2) s₁ (mkF m 8 #[.val (.long q1), .second, .val (.int p2)] [(.int (lcmpW q1 ((9223372036854775807 : Int64) / (p2.toInt64))))]) := fun t k => go0 t (by
    show Steps p.tables e below (s₁.setTop (mkF m 0 #[.val (.long q1), .second, .val (.int p2)] [])) _
    refine XS.lloadN X0.here hx rfl (hb hby d2_0) rfl ?_
    show Steps p.tables e below (s₁.setTop (mkF m 1 #[.val (.long q1), .second, .val (.int p2)] [(.long q1)])) _
    refine X0.ldc2Long hx hown (mvT hZ (tw12 hw)) (g := (mkF m 1 #[.val (.long q1), .second, .val (.int p2)] [(.long q1)])) rfl (hb hby d2_1) _ ?_
    show Steps p.tables e below (s₁.setTop (mkF m 4 #[.val (.long q1), .second, .val (.int p2)] [(.long (9223372036854775807 : Int64)), (.long q1)])) _
    refine XS.iloadN X0.here hx rfl (hb hby d2_4) rfl ?_
    show Steps p.tables e below (s₁.setTop (mkF m 5 #[.val (.long q1), .second, .val (.int p2)] [(.int p2), (.long (9223372036854775807 : Int64)), (.long q1)])) _
    refine XS.i2l X0.here hx rfl (hb hby d2_5) rfl ?_
    show Steps p.tables e below (s₁.setTop (mkF m 6 #[.val (.long q1), .second, .val (.int p2)] [(.long (p2.toInt64)), (.long (9223372036854775807 : Int64)), (.long q1)])) _
    refine XS.ldiv X0.here hx rfl (hb hby d2_6) rfl hnz ?_
    show Steps p.tables e below (s₁.setTop (mkF m 7 #[.val (.long q1), .second, .val (.int p2)] [(.long ((9223372036854775807 : Int64) / (p2.toInt64))), (.long q1)])) _
    refine XS.lcmp X0.here hx rfl (hb hby d2_7) rfl ?_
    exact k)
  by_cases hc8_19 : ((9223372036854775807 : Int64) / (p2.toInt64)) < q1
  · have go21 : Goes p e below s₁ (G_rm2 m q1 p2) s₁ (mkF m 21 #[.val (.long q1), .second, .val (.int p2)] [(.long (9223372036854775807 : Int64))]) := fun t k => go18 t (by
      show Steps p.tables e below (s₁.setTop (mkF m 8 #[.val (.long q1), .second, .val (.int p2)] [(.int (lcmpW q1 ((9223372036854775807 : Int64) / (p2.toInt64))))])) _
      refine XS.ifNo X0.here hx rfl (hb hby d2_8) rfl ((if0 _ _).trans (tlt (own_lcgt hc8_19)).2.2.2) ?_
      show Steps p.tables e below (s₁.setTop (mkF m 11 #[.val (.long q1), .second, .val (.int p2)] [])) _
      refine X0.ldc2Long hx hown (mvT hZ (tw12 hw)) (g := (mkF m 11 #[.val (.long q1), .second, .val (.int p2)] [])) rfl (hb hby d2_11) _ ?_
      show Steps p.tables e below (s₁.setTop (mkF m 14 #[.val (.long q1), .second, .val (.int p2)] [(.long (9223372036854775807 : Int64))])) _
      refine XS.goto X0.here hx rfl (pc0 := 14) (pc' := 21) rfl (hb hby d2_14) (by decide) (by decide) ?_
      exact k)
    obtain ⟨fs, hr, hrun, hended, hW, hsame⟩ := X0.leave (v := some (.long (9223372036854775807 : Int64))) (fun h => by rw [Bd.returns] at h; cases h)
    refine ⟨_, _, go21 _ ?_, hrun, hended, _, _, rfl, ?_, ⟨_, rfl⟩, hW, hsame.mono (by decide) (by decide)⟩
    · jvm_step X0.here [X0.here.top, hx, (hb hby d2_21), X0.method', Bd.returns, narrow]
      first | (intro acts; rw [hr _ acts rfl rfl rfl]) | rw [hr _ _ rfl rfl rfl]
      exact Steps.refl _
    · show Q_rm2 Z q1 p2 h0 n0 _ s₁.heap _
      rw [e0]
      exact ⟨congrArg (fun z => some (Value.long z)) (Eq.symm (show (spanv q1 p2) = (9223372036854775807 : Int64) from (if_pos hc8_19))), N0, rfl⟩
  · have go20 : Goes p e below s₁ (G_rm2 m q1 p2) s₁ (mkF m 21 #[.val (.long q1), .second, .val (.int p2)] [(.long (q1 * (p2.toInt64)))]) := fun t k => go18 t (by
      show Steps p.tables e below (s₁.setTop (mkF m 8 #[.val (.long q1), .second, .val (.int p2)] [(.int (lcmpW q1 ((9223372036854775807 : Int64) / (p2.toInt64))))])) _
      refine XS.ifYes X0.here hx rfl (pc0 := 8) (pc' := 17) rfl (hb hby d2_8) rfl ((if0 _ _).trans (flt (own_lcle hc8_19)).2.2.2) (by decide) (by decide) ?_
      show Steps p.tables e below (s₁.setTop (mkF m 17 #[.val (.long q1), .second, .val (.int p2)] [])) _
      refine XS.lloadN X0.here hx rfl (hb hby d2_17) rfl ?_
      show Steps p.tables e below (s₁.setTop (mkF m 18 #[.val (.long q1), .second, .val (.int p2)] [(.long q1)])) _
      refine XS.iloadN X0.here hx rfl (hb hby d2_18) rfl ?_
      show Steps p.tables e below (s₁.setTop (mkF m 19 #[.val (.long q1), .second, .val (.int p2)] [(.int p2), (.long q1)])) _
      refine XS.i2l X0.here hx rfl (hb hby d2_19) rfl ?_
      show Steps p.tables e below (s₁.setTop (mkF m 20 #[.val (.long q1), .second, .val (.int p2)] [(.long (p2.toInt64)), (.long q1)])) _
      refine XS.lmul X0.here hx rfl (hb hby d2_20) rfl ?_
      exact k)
    obtain ⟨fs, hr, hrun, hended, hW, hsame⟩ := X0.leave (v := some (.long (q1 * (p2.toInt64)))) (fun h => by rw [Bd.returns] at h; cases h)
    refine ⟨_, _, go20 _ ?_, hrun, hended, _, _, rfl, ?_, ⟨_, rfl⟩, hW, hsame.mono (by decide) (by decide)⟩
    · jvm_step X0.here [X0.here.top, hx, (hb hby d2_21), X0.method', Bd.returns, narrow]
      first | (intro acts; rw [hr _ acts rfl rfl rfl]) | rw [hr _ _ rfl rfl rfl]
      exact Steps.refl _
    · show Q_rm2 Z q1 p2 h0 n0 _ s₁.heap _
      rw [e0]
      exact ⟨congrArg (fun z => some (Value.long z)) (Eq.symm (show (spanv q1 p2) = (q1 * (p2.toInt64)) from (if_neg hc8_19))), N0, rfl⟩
theorem own_tick0 (t : Int64) (n : UInt64) : 0 ≤ (((t &&& (9223372036854775807 : Int64)).toUInt64 >>> n).toInt64).toInt := by
  have h1 : 0 ≤ (t &&& (9223372036854775807 : Int64)).toInt := by
    rw [Jvm.Kit.i64_mask t 9223372036854775807 (k := 63) (by decide) (by decide)]; omega
  have h2 : (((t &&& (9223372036854775807 : Int64)).toUInt64 >>> n).toInt64).toInt = (t &&& (9223372036854775807 : Int64)).toInt / 2 ^ (n.toNat % 64) := by
    have e : (t &&& (9223372036854775807 : Int64)).toUInt64 >>> n = (t &&& (9223372036854775807 : Int64)).toUInt64 >>> (UInt64.ofNat (n.toNat % 64)) := by
      apply UInt64.toNat_inj.mp
      rw [UInt64.toNat_shiftRight, UInt64.toNat_shiftRight, UInt64.toNat_ofNat']
      congr 1
      have : n.toNat % 64 < 2 ^ 64 := by omega
      rw [Nat.mod_eq_of_lt this, Nat.mod_mod]
    rw [e]
    exact Jvm.Kit.i64_lushr (Jvm.Kit.i64_nonneg.mpr h1) (by rw [UInt64.toNat_ofNat']; exact Nat.mod_eq_of_lt (by omega)) (by omega)
  rw [h2]
  exact Int.ediv_nonneg h1 (Int.pow_nonneg (by decide))
theorem own_tick (t : Int64) (y : Int32) : 0 ≤ (((t &&& (9223372036854775807 : Int64)).toUInt64 >>> (y &&& 63).toInt64.toUInt64).toInt64).toInt := own_tick0 t _
theorem own_key (q B th tl : Int) (hq : 1 ≤ q) (hq2 : q < 9223372036854775808) (hB : 1 ≤ B) (hB2 : B < 2147483648) (e1 : th = q / 4294967296) (e2 : tl = q % 4294967296) :
    0 ≤ th * B ∧ th * B ≤ 4611686018427387904 ∧ 0 ≤ tl * B ∧ tl * B ≤ 9223372030412324865 ∧ q * B = th * B * 4294967296 + tl * B := by
  have s1 : 0 ≤ th ∧ th < 2147483648 := by omega
  have s2 : 0 ≤ tl ∧ tl < 4294967296 := by omega
  have sp : q = th * 4294967296 + tl := by omega
  refine ⟨Int.mul_nonneg s1.1 (by omega), ?_, Int.mul_nonneg s2.1 (by omega), ?_, ?_⟩
  · exact Int.le_trans (Int.mul_le_mul (show th ≤ 2147483648 by omega) (show B ≤ 2147483648 by omega) (by omega) (by omega)) (by decide)
  · exact Int.le_trans (Int.mul_le_mul (show tl ≤ 4294967295 by omega) (show B ≤ 2147483647 by omega) (by omega) (by omega)) (by decide)
  · rw [sp, Int.add_mul, Int.mul_right_comm]
theorem own_span {q : Int64} {b : Int32} (hq : 1 ≤ q.toInt) (hb : 1 ≤ b.toInt) : spanv q b = refv q b := by
  have hq2 : q.toInt < 9223372036854775808 := Int64.toInt_lt q
  have hb2 : b.toInt < 2147483648 := Int32.toInt_lt b
  have eb : b.toInt64.toInt = b.toInt := Int32.toInt_toInt64 b
  have eM : (9223372036854775807 : Int64).toInt = 9223372036854775807 := by decide
  have e31 : (2147483648 : Int64).toInt = 2147483648 := by decide
  have eth0 : ((q.toUInt64 >>> ((32 : Int32) &&& 63).toInt64.toUInt64).toInt64).toInt = q.toInt / 2 ^ 32 := Jvm.Kit.i64_lushr (n := ((32 : Int32) &&& 63).toInt64.toUInt64) (k := 32) (Jvm.Kit.i64_nonneg.mpr (by omega)) (by decide) (by decide)
  have eth : ((q.toUInt64 >>> ((32 : Int32) &&& 63).toInt64.toUInt64).toInt64).toInt = q.toInt / 4294967296 := by rw [eth0]; omega
  have etl0 : (q &&& (4294967295 : Int64)).toInt = q.toInt % 2 ^ 32 := Jvm.Kit.i64_mask q 4294967295 (k := 32) (by decide) (by decide)
  have etl : (q &&& (4294967295 : Int64)).toInt = q.toInt % 4294967296 := by rw [etl0]; omega
  clear eth0 etl0
  have ediv : ((9223372036854775807 : Int64) / b.toInt64).toInt = 9223372036854775807 / b.toInt := by
    rw [Jvm.Kit.i64_div (by rw [eM]; omega), eM, eb, Int.tdiv_eq_ediv_of_nonneg (by decide)]
  obtain ⟨m1, m2, m3, m4, prod⟩ := own_key q.toInt b.toInt _ _ hq hq2 hb hb2 eth etl
  have key : (9223372036854775807 / b.toInt < q.toInt) ↔ 9223372036854775807 < q.toInt * b.toInt := Int.ediv_lt_iff_lt_mul (by omega)
  clear hq2 hb2
  unfold spanv refv
  generalize ((q.toUInt64 >>> ((32 : Int32) &&& 63).toInt64.toUInt64).toInt64) = th at m1 m2 prod ⊢
  generalize (q &&& (4294967295 : Int64)) = tl at m3 m4 prod ⊢
  clear eth etl
  generalize b.toInt64 = bl at eb ediv ⊢
  generalize b.toInt = B at *
  generalize hP : th.toInt * B = P1 at *
  generalize hQ : tl.toInt * B = Q1 at *
  generalize hR : q.toInt * B = R1 at *
  have ehb : (th * bl).toInt = P1 := by rw [Int64.toInt_mul, eb, hP]; exact Jvm.Kit.bmod64 (by omega) (by omega)
  have elo : (tl * bl).toInt = Q1 := by rw [Int64.toInt_mul, eb, hQ]; exact Jvm.Kit.bmod64 (by omega) (by omega)
  by_cases c1 : th * bl < (2147483648 : Int64)
  · have c1' : P1 < 2147483648 := by rw [Int64.lt_iff_toInt_lt, ehb, e31] at c1; exact c1
    have x1 : -2 ^ 63 ≤ P1 * 2 ^ 32 := by clear key ediv c1 hP hQ hR ehb elo eb eM e31; omega
    have x2 : P1 * 2 ^ 32 < 2 ^ 63 := by clear key ediv c1 hP hQ hR ehb elo eb eM e31; omega
    have ehi : ((th * bl) <<< ((32 : Int32) &&& 63).toInt64).toInt = P1 * 4294967296 := by
      rw [Jvm.Kit.i64_shl _ _ (k := 32) (by decide) (by rw [ehb]; exact x1) (by rw [ehb]; exact x2), ehb]
      clear key ediv c1 hP hQ hR ehb elo eb eM e31; omega
    have x3 : -2 ^ 63 ≤ 9223372036854775807 - Q1 := by clear key ediv c1 hP hQ hR ehb elo eb eM e31 ehi; omega
    have x4 : 9223372036854775807 - Q1 < 2 ^ 63 := by clear key ediv c1 hP hQ hR ehb elo eb eM e31 ehi; omega
    have esub : ((9223372036854775807 : Int64) - tl * bl).toInt = 9223372036854775807 - Q1 := by
      rw [Jvm.Kit.i64_sub (by rw [elo, eM]; exact x3) (by rw [elo, eM]; exact x4), elo, eM]
    by_cases c2 : (9223372036854775807 : Int64) - tl * bl < (th * bl) <<< ((32 : Int32) &&& 63).toInt64
    · have c2' : 9223372036854775807 - Q1 < P1 * 4294967296 := by rw [Int64.lt_iff_toInt_lt, esub, ehi] at c2; exact c2
      have r1 : 9223372036854775807 < R1 := by
        clear key ediv c1 c2 hP hQ hR ehb elo ehi esub eb eM e31
        omega
      have d : (9223372036854775807 : Int64) / bl < q := by rw [Int64.lt_iff_toInt_lt, ediv]; exact key.mpr r1
      simp only [c1, c2, d, if_true]
    · have c2' : ¬ 9223372036854775807 - Q1 < P1 * 4294967296 := by rw [Int64.lt_iff_toInt_lt, esub, ehi] at c2; exact c2
      have r1 : ¬ 9223372036854775807 < R1 := by
        clear key ediv c1 c2 hP hQ hR ehb elo ehi esub eb eM e31
        omega
      have d : ¬ (9223372036854775807 : Int64) / bl < q := fun hd => r1 (key.mp (by rw [Int64.lt_iff_toInt_lt, ediv] at hd; exact hd))
      have y1 : -2 ^ 63 ≤ R1 ∧ R1 < 2 ^ 63 ∧ -2 ^ 63 ≤ P1 * 4294967296 + Q1 ∧ P1 * 4294967296 + Q1 < 2 ^ 63 := by
        clear key ediv c1 c2 hP hQ hR ehb elo ehi esub eb eM e31 d
        omega
      simp only [c1, c2, d, if_true, if_false]
      apply Int64.toInt_inj.mp
      rw [Int64.toInt_mul, eb, hR, Jvm.Kit.bmod64 y1.1 y1.2.1, Jvm.Kit.i64_add (by rw [ehi, elo]; exact y1.2.2.1) (by rw [ehi, elo]; exact y1.2.2.2), ehi, elo]
      exact prod
  · have c1' : ¬ P1 < 2147483648 := by rw [Int64.lt_iff_toInt_lt, ehb, e31] at c1; exact c1
    have r1 : 9223372036854775807 < R1 := by
      clear key ediv c1 hP hQ hR ehb elo eb eM e31
      omega
    have d : (9223372036854775807 : Int64) / bl < q := by rw [Int64.lt_iff_toInt_lt, ediv]; exact key.mpr r1
    simp only [c1, d, if_true, if_false]
theorem own_mask31 (b : Int32) : 0 ≤ (b &&& (2147483647 : Int32)).toInt := by
  rw [Jvm.Kit.i32_mask b 2147483647 (k := 31) (by decide) (by decide)]; omega
theorem own_nz {b : Int32} (h : 1 ≤ b.toInt) : b.toInt64 ≠ 0 := fun k => by
  have := congrArg Int64.toInt k
  rw [Int32.toInt_toInt64, Int64.toInt_zero] at this; omega
theorem own_pos64 {q : Int64} (h : 0 ≤ q.toInt) (n : ¬ q = 0) : 1 ≤ q.toInt := by
  have : q.toInt ≠ 0 := fun k => n (Int64.toInt_inj.mp (by rw [k]; rfl))
  omega
theorem own_pos32 {q : Int32} (h : 0 ≤ q.toInt) (n : ¬ q = 0) : 1 ≤ q.toInt := by
  have : q.toInt ≠ 0 := fun k => n (Int32.toInt_inj.mp (by rw [k]; rfl))
  omega
abbrev G_rm0 (m : MethodId) (q1 : Int64) (p2 : Int32) (p3 : Int32) : JFrame := (entryFrame m #[(.long q1), (.int p2), (.int p3)] maxLocals)
theorem pd_0 : parseMethodDescriptor "(JI)J" = some ⟨[.long, .int], some .long⟩ := by decide +kernel
def Q_rm0 (Z : State) (q1 : Int64) (p2 : Int32) (p3 : Int32)  (h0 : Heap) (n0 : Nat) (v : Option Value) (h : Heap) (L : List Loc) : Prop := v = some (.int (1 : Int32)) ∧ Fr n0 L
set_option maxRecDepth 65536 in
set_option maxHeartbeats 40000000 in
theorem rm0 (l : Launch) (Z : State) (a0 : Array Value) (hw : ∀ d ∈ tables_1, d.before a0 Z = true) (ws : List Jvm.Cond) (q1 : Int64) (p2 : Int32) (p3 : Int32)  (h0 : Heap) (n0 : Nat) (Z0 : n0 ≤ h0.size)  :
    MetFree l x (head1 (Jvm.Cond.code x code maxLocals ret :: ws) room_1) (fun a U => a = #[(.long q1), (.int p2), (.int p3)] ∧ Z.Warmed39 U.vm ∧ U.heap = h0) (fun _ _ _ _ _ => True) (fun _ U o U' => ∃ v L, o = .returned v ∧ Q_rm0 Z q1 p2 p3 h0 n0 v U'.heap L ∧ FrameEnd U o U' L room_1.cells room_1.slots) := by
  refine MetFree.of_bodySF (plainFor_of_name pn_com_example_cicada_cicada_ExpirySpanPinLaw) hisR ?_
  intro p e s m args below meth c s₁ Bd hml0 hP hK
  obtain ⟨rfl, hZ, hh⟩ := hP
  have hx := Bd.exec
  have hby := Bd.bytes
  have hml : c.maxLocals = 9 := hml0
  have hown : s.vm.findClass "com/example/cicada/cicada/ExpirySpanPinLaw" = some m.cls := findClass_of_methodNamed Bd.named
  have hnm := (name_of_methodNamed Bd.named Bd.method).1
  have X0 : Stand p l e room_1 s m #[(.long q1), (.int p2), (.int p3)] below meth c s₁ [] 0 0 := Stand.of_body Bd
  have e0 : s₁.heap = h0 := by rw [← hh, Bd.state]; rfl
  have N0 := Fr.nil n0
  have go0 : Goes p e below s₁ (G_rm0 m q1 p2 p3) s₁ (mkF m 0 #[.val (.long q1), .second, .val (.int p2), .val (.int p3), .unset, .unset, .unset, .unset, .unset] []) := fun t k => castTop (by first | (simp [entryFrame, mkF, argsToLocals, Value.category, G_rm0, maxLocals]; done) | rfl) k
  have go22 : Goes p e below s₁ (G_rm0 m q1 p2 p3) s₁ (mkF m 12 #[.val (.long q1), .second, .val (.int p2), .val (.int p3), .val (.long (((q1 &&& (9223372036854775807 : Int64)).toUInt64 >>> ((p3 &&& (63 : Int32)) &&& 63).toInt64.toUInt64).toInt64)), .second, .unset, .unset, .unset] []) := fun t k => go0 t (by
    show Steps p.tables e below (s₁.setTop (mkF m 0 #[.val (.long q1), .second, .val (.int p2), .val (.int p3), .unset, .unset, .unset, .unset, .unset] [])) _
    refine XS.lloadN X0.here hx rfl (hb hby at_0) rfl ?_
    show Steps p.tables e below (s₁.setTop (mkF m 1 #[.val (.long q1), .second, .val (.int p2), .val (.int p3), .unset, .unset, .unset, .unset, .unset] [(.long q1)])) _
    refine X0.ldc2Long hx hown (mvT hZ (tw0 hw)) (g := (mkF m 1 #[.val (.long q1), .second, .val (.int p2), .val (.int p3), .unset, .unset, .unset, .unset, .unset] [(.long q1)])) rfl (hb hby at_1) _ ?_
    show Steps p.tables e below (s₁.setTop (mkF m 4 #[.val (.long q1), .second, .val (.int p2), .val (.int p3), .unset, .unset, .unset, .unset, .unset] [(.long (9223372036854775807 : Int64)), (.long q1)])) _
    refine XS.land X0.here hx rfl (hb hby at_4) rfl ?_
    show Steps p.tables e below (s₁.setTop (mkF m 5 #[.val (.long q1), .second, .val (.int p2), .val (.int p3), .unset, .unset, .unset, .unset, .unset] [(.long (q1 &&& (9223372036854775807 : Int64)))])) _
    refine XS.iloadN X0.here hx rfl (hb hby at_5) rfl ?_
    show Steps p.tables e below (s₁.setTop (mkF m 6 #[.val (.long q1), .second, .val (.int p2), .val (.int p3), .unset, .unset, .unset, .unset, .unset] [(.int p3), (.long (q1 &&& (9223372036854775807 : Int64)))])) _
    refine XS.bipush X0.here hx rfl (hb hby at_6) ?_
    show Steps p.tables e below (s₁.setTop (mkF m 8 #[.val (.long q1), .second, .val (.int p2), .val (.int p3), .unset, .unset, .unset, .unset, .unset] [(.int (63 : Int32)), (.int p3), (.long (q1 &&& (9223372036854775807 : Int64)))])) _
    refine XS.iand X0.here hx rfl (hb hby at_8) rfl ?_
    show Steps p.tables e below (s₁.setTop (mkF m 9 #[.val (.long q1), .second, .val (.int p2), .val (.int p3), .unset, .unset, .unset, .unset, .unset] [(.int (p3 &&& (63 : Int32))), (.long (q1 &&& (9223372036854775807 : Int64)))])) _
    refine XS.lushr X0.here hx rfl (hb hby at_9) rfl ?_
    show Steps p.tables e below (s₁.setTop (mkF m 10 #[.val (.long q1), .second, .val (.int p2), .val (.int p3), .unset, .unset, .unset, .unset, .unset] [(.long (((q1 &&& (9223372036854775807 : Int64)).toUInt64 >>> ((p3 &&& (63 : Int32)) &&& 63).toInt64.toUInt64).toInt64))])) _
    refine XS.lstore X0.here hx rfl (hb hby at_10) rfl (l' := #[.val (.long q1), .second, .val (.int p2), .val (.int p3), .val (.long (((q1 &&& (9223372036854775807 : Int64)).toUInt64 >>> ((p3 &&& (63 : Int32)) &&& 63).toInt64.toUInt64).toInt64)), .second, .unset, .unset, .unset]) rfl ?_
    exact k)
  obtain ⟨tk, h_tk⟩ : ∃ z, z = (((q1 &&& (9223372036854775807 : Int64)).toUInt64 >>> ((p3 &&& (63 : Int32)) &&& 63).toInt64.toUInt64).toInt64) := ⟨_, rfl⟩
  rw [← h_tk] at go22
  have go23 : Goes p e below s₁ (G_rm0 m q1 p2 p3) s₁ (mkF m 16 #[.val (.long q1), .second, .val (.int p2), .val (.int p3), .val (.long tk), .second, .unset, .unset, .unset] [(.int (lcmpW tk (0 : Int64)))]) := fun t k => go22 t (by
    show Steps p.tables e below (s₁.setTop (mkF m 12 #[.val (.long q1), .second, .val (.int p2), .val (.int p3), .val (.long tk), .second, .unset, .unset, .unset] [])) _
    refine XS.lload X0.here hx rfl (hb hby at_12) rfl ?_
    show Steps p.tables e below (s₁.setTop (mkF m 14 #[.val (.long q1), .second, .val (.int p2), .val (.int p3), .val (.long tk), .second, .unset, .unset, .unset] [(.long tk)])) _
    refine XS.lconst X0.here hx rfl (hb hby at_14) ?_
    show Steps p.tables e below (s₁.setTop (mkF m 15 #[.val (.long q1), .second, .val (.int p2), .val (.int p3), .val (.long tk), .second, .unset, .unset, .unset] [(.long (0 : Int64)), (.long tk)])) _
    refine XS.lcmp X0.here hx rfl (hb hby at_15) rfl ?_
    exact k)
  by_cases hct : tk = (0 : Int64)
  · have go39 : Goes p e below s₁ (G_rm0 m q1 p2 p3) s₁ (mkF m 22 #[.val (.long q1), .second, .val (.int p2), .val (.int p3), .val (.long (1 : Int64)), .second, .unset, .unset, .unset] []) := fun t k => go23 t (by
      show Steps p.tables e below (s₁.setTop (mkF m 16 #[.val (.long q1), .second, .val (.int p2), .val (.int p3), .val (.long tk), .second, .unset, .unset, .unset] [(.int (lcmpW tk (0 : Int64)))])) _
      refine XS.ifNo X0.here hx rfl (hb hby at_16) rfl ((if0 _ _).trans (teq (own_lceq hct)).2) ?_
      show Steps p.tables e below (s₁.setTop (mkF m 19 #[.val (.long q1), .second, .val (.int p2), .val (.int p3), .val (.long tk), .second, .unset, .unset, .unset] [])) _
      refine XS.lconst X0.here hx rfl (hb hby at_19) ?_
      show Steps p.tables e below (s₁.setTop (mkF m 20 #[.val (.long q1), .second, .val (.int p2), .val (.int p3), .val (.long tk), .second, .unset, .unset, .unset] [(.long (1 : Int64))])) _
      refine XS.lstore X0.here hx rfl (hb hby at_20) rfl (l' := #[.val (.long q1), .second, .val (.int p2), .val (.int p3), .val (.long (1 : Int64)), .second, .unset, .unset, .unset]) rfl ?_
      exact k)
    have htk : 1 ≤ ((1 : Int64)).toInt := by decide
    have go40 : Goes p e below s₁ (G_rm0 m q1 p2 p3) s₁ (mkF m 28 #[.val (.long q1), .second, .val (.int p2), .val (.int p3), .val (.long (1 : Int64)), .second, .val (.int (p2 &&& (2147483647 : Int32))), .unset, .unset] []) := fun t k => go39 t (by
      show Steps p.tables e below (s₁.setTop (mkF m 22 #[.val (.long q1), .second, .val (.int p2), .val (.int p3), .val (.long (1 : Int64)), .second, .unset, .unset, .unset] [])) _
      refine XS.iloadN X0.here hx rfl (hb hby at_22) rfl ?_
      show Steps p.tables e below (s₁.setTop (mkF m 23 #[.val (.long q1), .second, .val (.int p2), .val (.int p3), .val (.long (1 : Int64)), .second, .unset, .unset, .unset] [(.int p2)])) _
      refine X0.ldcInt hx hown (mvT hZ (tw1 hw)) (g := (mkF m 23 #[.val (.long q1), .second, .val (.int p2), .val (.int p3), .val (.long (1 : Int64)), .second, .unset, .unset, .unset] [(.int p2)])) rfl (hb hby at_23) _ ?_
      show Steps p.tables e below (s₁.setTop (mkF m 25 #[.val (.long q1), .second, .val (.int p2), .val (.int p3), .val (.long (1 : Int64)), .second, .unset, .unset, .unset] [(.int (2147483647 : Int32)), (.int p2)])) _
      refine XS.iand X0.here hx rfl (hb hby at_25) rfl ?_
      show Steps p.tables e below (s₁.setTop (mkF m 26 #[.val (.long q1), .second, .val (.int p2), .val (.int p3), .val (.long (1 : Int64)), .second, .unset, .unset, .unset] [(.int (p2 &&& (2147483647 : Int32)))])) _
      refine XS.istore X0.here hx rfl (hb hby at_26) rfl (l' := #[.val (.long q1), .second, .val (.int p2), .val (.int p3), .val (.long (1 : Int64)), .second, .val (.int (p2 &&& (2147483647 : Int32))), .unset, .unset]) rfl ?_
      exact k)
    obtain ⟨bk, h_bk⟩ : ∃ z, z = (p2 &&& (2147483647 : Int32)) := ⟨_, rfl⟩
    rw [← h_bk] at go40
    have go41 : Goes p e below s₁ (G_rm0 m q1 p2 p3) s₁ (mkF m 30 #[.val (.long q1), .second, .val (.int p2), .val (.int p3), .val (.long (1 : Int64)), .second, .val (.int bk), .unset, .unset] [(.int bk)]) := fun t k => go40 t (by
      show Steps p.tables e below (s₁.setTop (mkF m 28 #[.val (.long q1), .second, .val (.int p2), .val (.int p3), .val (.long (1 : Int64)), .second, .val (.int bk), .unset, .unset] [])) _
      refine XS.iload X0.here hx rfl (hb hby at_28) rfl ?_
      exact k)
    by_cases hcb : bk = (0 : Int32)
    · have go42 : Goes p e below s₁ (G_rm0 m q1 p2 p3) s₁ (mkF m 36 #[.val (.long q1), .second, .val (.int p2), .val (.int p3), .val (.long (1 : Int64)), .second, .val (.int (1 : Int32)), .unset, .unset] []) := fun t k => go41 t (by
        show Steps p.tables e below (s₁.setTop (mkF m 30 #[.val (.long q1), .second, .val (.int p2), .val (.int p3), .val (.long (1 : Int64)), .second, .val (.int bk), .unset, .unset] [(.int bk)])) _
        refine XS.ifNo X0.here hx rfl (hb hby at_30) rfl ((if0 _ _).trans (teq hcb).2) ?_
        show Steps p.tables e below (s₁.setTop (mkF m 33 #[.val (.long q1), .second, .val (.int p2), .val (.int p3), .val (.long (1 : Int64)), .second, .val (.int bk), .unset, .unset] [])) _
        refine XS.iconst X0.here hx rfl (hb hby at_33) ?_
        show Steps p.tables e below (s₁.setTop (mkF m 34 #[.val (.long q1), .second, .val (.int p2), .val (.int p3), .val (.long (1 : Int64)), .second, .val (.int bk), .unset, .unset] [(.int (1 : Int32))])) _
        refine XS.istore X0.here hx rfl (hb hby at_34) rfl (l' := #[.val (.long q1), .second, .val (.int p2), .val (.int p3), .val (.long (1 : Int64)), .second, .val (.int (1 : Int32)), .unset, .unset]) rfl ?_
        exact k)
      have hbk : 1 ≤ ((1 : Int32)).toInt := by decide
      have go49 : Goes p e below s₁ (G_rm0 m q1 p2 p3) s₁ (mkF m 40 #[.val (.long q1), .second, .val (.int p2), .val (.int p3), .val (.long (1 : Int64)), .second, .val (.int (1 : Int32)), .unset, .unset] [(.int (1 : Int32)), (.long (1 : Int64))]) := fun t k => go42 t (by
        show Steps p.tables e below (s₁.setTop (mkF m 36 #[.val (.long q1), .second, .val (.int p2), .val (.int p3), .val (.long (1 : Int64)), .second, .val (.int (1 : Int32)), .unset, .unset] [])) _
        refine XS.lload X0.here hx rfl (hb hby at_36) rfl ?_
        show Steps p.tables e below (s₁.setTop (mkF m 38 #[.val (.long q1), .second, .val (.int p2), .val (.int p3), .val (.long (1 : Int64)), .second, .val (.int (1 : Int32)), .unset, .unset] [(.long (1 : Int64))])) _
        refine XS.iload X0.here hx rfl (hb hby at_38) rfl ?_
        exact k)
      have hnz := own_nz hbk
      obtain ⟨vv50, _, ⟨T50, L50, k50, n50⟩, -, X50, ⟨Lc50, hQ50, l50, y50, z50⟩, st50⟩ := Jvm.LawKit.callS X0 hx (y := (⟨"com/example/cicada/cicada/ExpirySpanPinLaw", "reference", "(JI)J"⟩ : MethodName)) hown (mvT hZ (tw2 hw)) (mvT hZ (tw3 hw)) (mvT hZ (tw4 hw)) (mvT hZ (tw5 hw)) (by decide) (backOf (W := 0) (rm1 l Z a0 hw [] (1 : Int64) (1 : Int32)  h0 n0 Z0 ) hZ (tw5 hw) (tw4 hw) (by decide) (by decide)) (g := (mkF m 40 #[.val (.long q1), .second, .val (.int p2), .val (.int p3), .val (.long (1 : Int64)), .second, .val (.int (1 : Int32)), .unset, .unset] [(.int (1 : Int32)), (.long (1 : Int64))])) rfl (by rw [hml]; rfl) (argsL := [(.long (1 : Int64)), (.int (1 : Int32))]) (rest := []) (lenOf pd_0 rfl) rfl (by show 2 * 0 + _ ≤ _; exact Nat.le_of_eq rfl) (hb hby at_40) (fun _ _ => ⟨rfl, e0, (by decide : 0 + 0 ≤ _), (by decide : 0 + 0 ≤ _)⟩)
      dsimp only [Pt.U, Pt.locs, Pt.cells, Pt.slots] at X50 l50 y50 z50 st50 hQ50
      subst l50 y50 z50
      obtain ⟨rfl, Nq50, eq50⟩ := hQ50
      have N50 := Fr.app N0 Nq50
      have go50 : Goes p e below s₁ (G_rm0 m q1 p2 p3) T50 (mkF m 43 #[.val (.long q1), .second, .val (.int p2), .val (.int p3), .val (.long (1 : Int64)), .second, .val (.int (1 : Int32)), .unset, .unset] [(.long (refv (1 : Int64) (1 : Int32)))]) := fun t k => go49 t (st50 _ k)
      have go51 : Goes p e below s₁ (G_rm0 m q1 p2 p3) T50 (mkF m 49 #[.val (.long q1), .second, .val (.int p2), .val (.int p3), .val (.long (1 : Int64)), .second, .val (.int (1 : Int32)), .val (.long (refv (1 : Int64) (1 : Int32))), .second] [(.int (1 : Int32)), (.long (1 : Int64))]) := fun t k => go50 t (by
        show Steps p.tables e below (T50.setTop (mkF m 43 #[.val (.long q1), .second, .val (.int p2), .val (.int p3), .val (.long (1 : Int64)), .second, .val (.int (1 : Int32)), .unset, .unset] [(.long (refv (1 : Int64) (1 : Int32)))])) _
        refine XS.lstore X50.here hx rfl (hb hby at_43) rfl (l' := #[.val (.long q1), .second, .val (.int p2), .val (.int p3), .val (.long (1 : Int64)), .second, .val (.int (1 : Int32)), .val (.long (refv (1 : Int64) (1 : Int32))), .second]) rfl ?_
        show Steps p.tables e below (T50.setTop (mkF m 45 #[.val (.long q1), .second, .val (.int p2), .val (.int p3), .val (.long (1 : Int64)), .second, .val (.int (1 : Int32)), .val (.long (refv (1 : Int64) (1 : Int32))), .second] [])) _
        refine XS.lload X50.here hx rfl (hb hby at_45) rfl ?_
        show Steps p.tables e below (T50.setTop (mkF m 47 #[.val (.long q1), .second, .val (.int p2), .val (.int p3), .val (.long (1 : Int64)), .second, .val (.int (1 : Int32)), .val (.long (refv (1 : Int64) (1 : Int32))), .second] [(.long (1 : Int64))])) _
        refine XS.iload X50.here hx rfl (hb hby at_47) rfl ?_
        exact k)
      obtain ⟨vv52, _, ⟨T52, L52, k52, n52⟩, -, X52, ⟨Lc52, hQ52, l52, y52, z52⟩, st52⟩ := Jvm.LawKit.callS X50 hx (y := (⟨"com/example/cicada/cicada/Expiry", "span", "(JI)J"⟩ : MethodName)) hown (mvT hZ (tw8 hw)) (mvT hZ (tw9 hw)) (mvT hZ (tw10 hw)) (mvT hZ (tw11 hw)) (by decide) (backOf (W := 0) (rm2 l Z a0 hw [] (1 : Int64) (1 : Int32)  h0 n0 Z0 hnz) hZ (tw11 hw) (tw10 hw) (by decide) (by decide)) (g := (mkF m 49 #[.val (.long q1), .second, .val (.int p2), .val (.int p3), .val (.long (1 : Int64)), .second, .val (.int (1 : Int32)), .val (.long (refv (1 : Int64) (1 : Int32))), .second] [(.int (1 : Int32)), (.long (1 : Int64))])) rfl (by rw [hml]; rfl) (argsL := [(.long (1 : Int64)), (.int (1 : Int32))]) (rest := []) (lenOf pd_0 rfl) rfl (by show 2 * 0 + _ ≤ _; exact Nat.le_of_eq rfl) (hb hby at_49) (fun _ _ => ⟨rfl, eq50, (by decide : 0 + 0 ≤ _), (by decide : 0 + 0 ≤ _)⟩)
      dsimp only [Pt.U, Pt.locs, Pt.cells, Pt.slots] at X52 l52 y52 z52 st52 hQ52
      subst l52 y52 z52
      obtain ⟨rfl, Nq52, eq52⟩ := hQ52
      have N52 := Fr.app N50 Nq52
      have go52 : Goes p e below s₁ (G_rm0 m q1 p2 p3) T52 (mkF m 52 #[.val (.long q1), .second, .val (.int p2), .val (.int p3), .val (.long (1 : Int64)), .second, .val (.int (1 : Int32)), .val (.long (refv (1 : Int64) (1 : Int32))), .second] [(.long (spanv (1 : Int64) (1 : Int32)))]) := fun t k => go51 t (st52 _ k)
      have go53 : Goes p e below s₁ (G_rm0 m q1 p2 p3) T52 (mkF m 55 #[.val (.long q1), .second, .val (.int p2), .val (.int p3), .val (.long (1 : Int64)), .second, .val (.int (1 : Int32)), .val (.long (refv (1 : Int64) (1 : Int32))), .second] [(.int (lcmpW (spanv (1 : Int64) (1 : Int32)) (refv (1 : Int64) (1 : Int32))))]) := fun t k => go52 t (by
        show Steps p.tables e below (T52.setTop (mkF m 52 #[.val (.long q1), .second, .val (.int p2), .val (.int p3), .val (.long (1 : Int64)), .second, .val (.int (1 : Int32)), .val (.long (refv (1 : Int64) (1 : Int32))), .second] [(.long (spanv (1 : Int64) (1 : Int32)))])) _
        refine XS.lload X52.here hx rfl (hb hby at_52) rfl ?_
        show Steps p.tables e below (T52.setTop (mkF m 54 #[.val (.long q1), .second, .val (.int p2), .val (.int p3), .val (.long (1 : Int64)), .second, .val (.int (1 : Int32)), .val (.long (refv (1 : Int64) (1 : Int32))), .second] [(.long (refv (1 : Int64) (1 : Int32))), (.long (spanv (1 : Int64) (1 : Int32)))])) _
        refine XS.lcmp X52.here hx rfl (hb hby at_54) rfl ?_
        exact k)
      have go54 : Goes p e below s₁ (G_rm0 m q1 p2 p3) T52 (mkF m 63 #[.val (.long q1), .second, .val (.int p2), .val (.int p3), .val (.long (1 : Int64)), .second, .val (.int (1 : Int32)), .val (.long (refv (1 : Int64) (1 : Int32))), .second] [(.int (1 : Int32))]) := fun t k => go53 t (by
        show Steps p.tables e below (T52.setTop (mkF m 55 #[.val (.long q1), .second, .val (.int p2), .val (.int p3), .val (.long (1 : Int64)), .second, .val (.int (1 : Int32)), .val (.long (refv (1 : Int64) (1 : Int32))), .second] [(.int (lcmpW (spanv (1 : Int64) (1 : Int32)) (refv (1 : Int64) (1 : Int32))))])) _
        refine XS.ifNo X52.here hx rfl (hb hby at_55) rfl ((if0 _ _).trans (teq (own_lceq (own_span htk hbk))).2) ?_
        show Steps p.tables e below (T52.setTop (mkF m 58 #[.val (.long q1), .second, .val (.int p2), .val (.int p3), .val (.long (1 : Int64)), .second, .val (.int (1 : Int32)), .val (.long (refv (1 : Int64) (1 : Int32))), .second] [])) _
        refine XS.iconst X52.here hx rfl (hb hby at_58) ?_
        show Steps p.tables e below (T52.setTop (mkF m 59 #[.val (.long q1), .second, .val (.int p2), .val (.int p3), .val (.long (1 : Int64)), .second, .val (.int (1 : Int32)), .val (.long (refv (1 : Int64) (1 : Int32))), .second] [(.int (1 : Int32))])) _
        refine XS.goto X52.here hx rfl (pc0 := 59) (pc' := 63) rfl (hb hby at_59) (by decide) (by decide) ?_
        exact k)
      obtain ⟨fs, hr, hrun, hended, hW, hsame⟩ := X52.leave (v := some (.int (1 : Int32))) (fun h => by rw [Bd.returns] at h; cases h)
      refine ⟨_, _, go54 _ ?_, hrun, hended, _, _, rfl, ?_, ⟨_, rfl⟩, hW, hsame.mono (by decide) (by decide)⟩
      · exact retN X52 hx (t := .boolean) Bd.returns (by simp) (hb hby at_63) hr
      · show Q_rm0 Z q1 p2 p3 h0 n0 _ T52.heap _
        rw [eq52]
        exact ⟨rfl, N52⟩
    · have hbk : 1 ≤ bk.toInt := own_pos32 (by rw [h_bk]; exact own_mask31 _) hcb
      have go43 : Goes p e below s₁ (G_rm0 m q1 p2 p3) s₁ (mkF m 40 #[.val (.long q1), .second, .val (.int p2), .val (.int p3), .val (.long (1 : Int64)), .second, .val (.int bk), .unset, .unset] [(.int bk), (.long (1 : Int64))]) := fun t k => go41 t (by
        show Steps p.tables e below (s₁.setTop (mkF m 30 #[.val (.long q1), .second, .val (.int p2), .val (.int p3), .val (.long (1 : Int64)), .second, .val (.int bk), .unset, .unset] [(.int bk)])) _
        refine XS.ifYes X0.here hx rfl (pc0 := 30) (pc' := 36) rfl (hb hby at_30) rfl ((if0 _ _).trans (feq hcb).2) (by decide) (by decide) ?_
        show Steps p.tables e below (s₁.setTop (mkF m 36 #[.val (.long q1), .second, .val (.int p2), .val (.int p3), .val (.long (1 : Int64)), .second, .val (.int bk), .unset, .unset] [])) _
        refine XS.lload X0.here hx rfl (hb hby at_36) rfl ?_
        show Steps p.tables e below (s₁.setTop (mkF m 38 #[.val (.long q1), .second, .val (.int p2), .val (.int p3), .val (.long (1 : Int64)), .second, .val (.int bk), .unset, .unset] [(.long (1 : Int64))])) _
        refine XS.iload X0.here hx rfl (hb hby at_38) rfl ?_
        exact k)
      have hnz := own_nz hbk
      obtain ⟨vv44, _, ⟨T44, L44, k44, n44⟩, -, X44, ⟨Lc44, hQ44, l44, y44, z44⟩, st44⟩ := Jvm.LawKit.callS X0 hx (y := (⟨"com/example/cicada/cicada/ExpirySpanPinLaw", "reference", "(JI)J"⟩ : MethodName)) hown (mvT hZ (tw2 hw)) (mvT hZ (tw3 hw)) (mvT hZ (tw4 hw)) (mvT hZ (tw5 hw)) (by decide) (backOf (W := 0) (rm1 l Z a0 hw [] (1 : Int64) bk  h0 n0 Z0 ) hZ (tw5 hw) (tw4 hw) (by decide) (by decide)) (g := (mkF m 40 #[.val (.long q1), .second, .val (.int p2), .val (.int p3), .val (.long (1 : Int64)), .second, .val (.int bk), .unset, .unset] [(.int bk), (.long (1 : Int64))])) rfl (by rw [hml]; rfl) (argsL := [(.long (1 : Int64)), (.int bk)]) (rest := []) (lenOf pd_0 rfl) rfl (by show 2 * 0 + _ ≤ _; exact Nat.le_of_eq rfl) (hb hby at_40) (fun _ _ => ⟨rfl, e0, (by decide : 0 + 0 ≤ _), (by decide : 0 + 0 ≤ _)⟩)
      dsimp only [Pt.U, Pt.locs, Pt.cells, Pt.slots] at X44 l44 y44 z44 st44 hQ44
      subst l44 y44 z44
      obtain ⟨rfl, Nq44, eq44⟩ := hQ44
      have N44 := Fr.app N0 Nq44
      have go44 : Goes p e below s₁ (G_rm0 m q1 p2 p3) T44 (mkF m 43 #[.val (.long q1), .second, .val (.int p2), .val (.int p3), .val (.long (1 : Int64)), .second, .val (.int bk), .unset, .unset] [(.long (refv (1 : Int64) bk))]) := fun t k => go43 t (st44 _ k)
      have go45 : Goes p e below s₁ (G_rm0 m q1 p2 p3) T44 (mkF m 49 #[.val (.long q1), .second, .val (.int p2), .val (.int p3), .val (.long (1 : Int64)), .second, .val (.int bk), .val (.long (refv (1 : Int64) bk)), .second] [(.int bk), (.long (1 : Int64))]) := fun t k => go44 t (by
        show Steps p.tables e below (T44.setTop (mkF m 43 #[.val (.long q1), .second, .val (.int p2), .val (.int p3), .val (.long (1 : Int64)), .second, .val (.int bk), .unset, .unset] [(.long (refv (1 : Int64) bk))])) _
        refine XS.lstore X44.here hx rfl (hb hby at_43) rfl (l' := #[.val (.long q1), .second, .val (.int p2), .val (.int p3), .val (.long (1 : Int64)), .second, .val (.int bk), .val (.long (refv (1 : Int64) bk)), .second]) rfl ?_
        show Steps p.tables e below (T44.setTop (mkF m 45 #[.val (.long q1), .second, .val (.int p2), .val (.int p3), .val (.long (1 : Int64)), .second, .val (.int bk), .val (.long (refv (1 : Int64) bk)), .second] [])) _
        refine XS.lload X44.here hx rfl (hb hby at_45) rfl ?_
        show Steps p.tables e below (T44.setTop (mkF m 47 #[.val (.long q1), .second, .val (.int p2), .val (.int p3), .val (.long (1 : Int64)), .second, .val (.int bk), .val (.long (refv (1 : Int64) bk)), .second] [(.long (1 : Int64))])) _
        refine XS.iload X44.here hx rfl (hb hby at_47) rfl ?_
        exact k)
      obtain ⟨vv46, _, ⟨T46, L46, k46, n46⟩, -, X46, ⟨Lc46, hQ46, l46, y46, z46⟩, st46⟩ := Jvm.LawKit.callS X44 hx (y := (⟨"com/example/cicada/cicada/Expiry", "span", "(JI)J"⟩ : MethodName)) hown (mvT hZ (tw8 hw)) (mvT hZ (tw9 hw)) (mvT hZ (tw10 hw)) (mvT hZ (tw11 hw)) (by decide) (backOf (W := 0) (rm2 l Z a0 hw [] (1 : Int64) bk  h0 n0 Z0 hnz) hZ (tw11 hw) (tw10 hw) (by decide) (by decide)) (g := (mkF m 49 #[.val (.long q1), .second, .val (.int p2), .val (.int p3), .val (.long (1 : Int64)), .second, .val (.int bk), .val (.long (refv (1 : Int64) bk)), .second] [(.int bk), (.long (1 : Int64))])) rfl (by rw [hml]; rfl) (argsL := [(.long (1 : Int64)), (.int bk)]) (rest := []) (lenOf pd_0 rfl) rfl (by show 2 * 0 + _ ≤ _; exact Nat.le_of_eq rfl) (hb hby at_49) (fun _ _ => ⟨rfl, eq44, (by decide : 0 + 0 ≤ _), (by decide : 0 + 0 ≤ _)⟩)
      dsimp only [Pt.U, Pt.locs, Pt.cells, Pt.slots] at X46 l46 y46 z46 st46 hQ46
      subst l46 y46 z46
      obtain ⟨rfl, Nq46, eq46⟩ := hQ46
      have N46 := Fr.app N44 Nq46
      have go46 : Goes p e below s₁ (G_rm0 m q1 p2 p3) T46 (mkF m 52 #[.val (.long q1), .second, .val (.int p2), .val (.int p3), .val (.long (1 : Int64)), .second, .val (.int bk), .val (.long (refv (1 : Int64) bk)), .second] [(.long (spanv (1 : Int64) bk))]) := fun t k => go45 t (st46 _ k)
      have go47 : Goes p e below s₁ (G_rm0 m q1 p2 p3) T46 (mkF m 55 #[.val (.long q1), .second, .val (.int p2), .val (.int p3), .val (.long (1 : Int64)), .second, .val (.int bk), .val (.long (refv (1 : Int64) bk)), .second] [(.int (lcmpW (spanv (1 : Int64) bk) (refv (1 : Int64) bk)))]) := fun t k => go46 t (by
        show Steps p.tables e below (T46.setTop (mkF m 52 #[.val (.long q1), .second, .val (.int p2), .val (.int p3), .val (.long (1 : Int64)), .second, .val (.int bk), .val (.long (refv (1 : Int64) bk)), .second] [(.long (spanv (1 : Int64) bk))])) _
        refine XS.lload X46.here hx rfl (hb hby at_52) rfl ?_
        show Steps p.tables e below (T46.setTop (mkF m 54 #[.val (.long q1), .second, .val (.int p2), .val (.int p3), .val (.long (1 : Int64)), .second, .val (.int bk), .val (.long (refv (1 : Int64) bk)), .second] [(.long (refv (1 : Int64) bk)), (.long (spanv (1 : Int64) bk))])) _
        refine XS.lcmp X46.here hx rfl (hb hby at_54) rfl ?_
        exact k)
      have go48 : Goes p e below s₁ (G_rm0 m q1 p2 p3) T46 (mkF m 63 #[.val (.long q1), .second, .val (.int p2), .val (.int p3), .val (.long (1 : Int64)), .second, .val (.int bk), .val (.long (refv (1 : Int64) bk)), .second] [(.int (1 : Int32))]) := fun t k => go47 t (by
        show Steps p.tables e below (T46.setTop (mkF m 55 #[.val (.long q1), .second, .val (.int p2), .val (.int p3), .val (.long (1 : Int64)), .second, .val (.int bk), .val (.long (refv (1 : Int64) bk)), .second] [(.int (lcmpW (spanv (1 : Int64) bk) (refv (1 : Int64) bk)))])) _
        refine XS.ifNo X46.here hx rfl (hb hby at_55) rfl ((if0 _ _).trans (teq (own_lceq (own_span htk hbk))).2) ?_
        show Steps p.tables e below (T46.setTop (mkF m 58 #[.val (.long q1), .second, .val (.int p2), .val (.int p3), .val (.long (1 : Int64)), .second, .val (.int bk), .val (.long (refv (1 : Int64) bk)), .second] [])) _
        refine XS.iconst X46.here hx rfl (hb hby at_58) ?_
        show Steps p.tables e below (T46.setTop (mkF m 59 #[.val (.long q1), .second, .val (.int p2), .val (.int p3), .val (.long (1 : Int64)), .second, .val (.int bk), .val (.long (refv (1 : Int64) bk)), .second] [(.int (1 : Int32))])) _
        refine XS.goto X46.here hx rfl (pc0 := 59) (pc' := 63) rfl (hb hby at_59) (by decide) (by decide) ?_
        exact k)
      obtain ⟨fs, hr, hrun, hended, hW, hsame⟩ := X46.leave (v := some (.int (1 : Int32))) (fun h => by rw [Bd.returns] at h; cases h)
      refine ⟨_, _, go48 _ ?_, hrun, hended, _, _, rfl, ?_, ⟨_, rfl⟩, hW, hsame.mono (by decide) (by decide)⟩
      · exact retN X46 hx (t := .boolean) Bd.returns (by simp) (hb hby at_63) hr
      · show Q_rm0 Z q1 p2 p3 h0 n0 _ T46.heap _
        rw [eq46]
        exact ⟨rfl, N46⟩
  · have htk : 1 ≤ tk.toInt := own_pos64 (by rw [h_tk]; exact own_tick _ _) hct
    have go24 : Goes p e below s₁ (G_rm0 m q1 p2 p3) s₁ (mkF m 28 #[.val (.long q1), .second, .val (.int p2), .val (.int p3), .val (.long tk), .second, .val (.int (p2 &&& (2147483647 : Int32))), .unset, .unset] []) := fun t k => go23 t (by
      show Steps p.tables e below (s₁.setTop (mkF m 16 #[.val (.long q1), .second, .val (.int p2), .val (.int p3), .val (.long tk), .second, .unset, .unset, .unset] [(.int (lcmpW tk (0 : Int64)))])) _
      refine XS.ifYes X0.here hx rfl (pc0 := 16) (pc' := 22) rfl (hb hby at_16) rfl ((if0 _ _).trans (feq (own_lcne hct)).2) (by decide) (by decide) ?_
      show Steps p.tables e below (s₁.setTop (mkF m 22 #[.val (.long q1), .second, .val (.int p2), .val (.int p3), .val (.long tk), .second, .unset, .unset, .unset] [])) _
      refine XS.iloadN X0.here hx rfl (hb hby at_22) rfl ?_
      show Steps p.tables e below (s₁.setTop (mkF m 23 #[.val (.long q1), .second, .val (.int p2), .val (.int p3), .val (.long tk), .second, .unset, .unset, .unset] [(.int p2)])) _
      refine X0.ldcInt hx hown (mvT hZ (tw1 hw)) (g := (mkF m 23 #[.val (.long q1), .second, .val (.int p2), .val (.int p3), .val (.long tk), .second, .unset, .unset, .unset] [(.int p2)])) rfl (hb hby at_23) _ ?_
      show Steps p.tables e below (s₁.setTop (mkF m 25 #[.val (.long q1), .second, .val (.int p2), .val (.int p3), .val (.long tk), .second, .unset, .unset, .unset] [(.int (2147483647 : Int32)), (.int p2)])) _
      refine XS.iand X0.here hx rfl (hb hby at_25) rfl ?_
      show Steps p.tables e below (s₁.setTop (mkF m 26 #[.val (.long q1), .second, .val (.int p2), .val (.int p3), .val (.long tk), .second, .unset, .unset, .unset] [(.int (p2 &&& (2147483647 : Int32)))])) _
      refine XS.istore X0.here hx rfl (hb hby at_26) rfl (l' := #[.val (.long q1), .second, .val (.int p2), .val (.int p3), .val (.long tk), .second, .val (.int (p2 &&& (2147483647 : Int32))), .unset, .unset]) rfl ?_
      exact k)
    obtain ⟨bk, h_bk⟩ : ∃ z, z = (p2 &&& (2147483647 : Int32)) := ⟨_, rfl⟩
    rw [← h_bk] at go24
    have go25 : Goes p e below s₁ (G_rm0 m q1 p2 p3) s₁ (mkF m 30 #[.val (.long q1), .second, .val (.int p2), .val (.int p3), .val (.long tk), .second, .val (.int bk), .unset, .unset] [(.int bk)]) := fun t k => go24 t (by
      show Steps p.tables e below (s₁.setTop (mkF m 28 #[.val (.long q1), .second, .val (.int p2), .val (.int p3), .val (.long tk), .second, .val (.int bk), .unset, .unset] [])) _
      refine XS.iload X0.here hx rfl (hb hby at_28) rfl ?_
      exact k)
    by_cases hcb : bk = (0 : Int32)
    · have go26 : Goes p e below s₁ (G_rm0 m q1 p2 p3) s₁ (mkF m 36 #[.val (.long q1), .second, .val (.int p2), .val (.int p3), .val (.long tk), .second, .val (.int (1 : Int32)), .unset, .unset] []) := fun t k => go25 t (by
        show Steps p.tables e below (s₁.setTop (mkF m 30 #[.val (.long q1), .second, .val (.int p2), .val (.int p3), .val (.long tk), .second, .val (.int bk), .unset, .unset] [(.int bk)])) _
        refine XS.ifNo X0.here hx rfl (hb hby at_30) rfl ((if0 _ _).trans (teq hcb).2) ?_
        show Steps p.tables e below (s₁.setTop (mkF m 33 #[.val (.long q1), .second, .val (.int p2), .val (.int p3), .val (.long tk), .second, .val (.int bk), .unset, .unset] [])) _
        refine XS.iconst X0.here hx rfl (hb hby at_33) ?_
        show Steps p.tables e below (s₁.setTop (mkF m 34 #[.val (.long q1), .second, .val (.int p2), .val (.int p3), .val (.long tk), .second, .val (.int bk), .unset, .unset] [(.int (1 : Int32))])) _
        refine XS.istore X0.here hx rfl (hb hby at_34) rfl (l' := #[.val (.long q1), .second, .val (.int p2), .val (.int p3), .val (.long tk), .second, .val (.int (1 : Int32)), .unset, .unset]) rfl ?_
        exact k)
      have hbk : 1 ≤ ((1 : Int32)).toInt := by decide
      have go33 : Goes p e below s₁ (G_rm0 m q1 p2 p3) s₁ (mkF m 40 #[.val (.long q1), .second, .val (.int p2), .val (.int p3), .val (.long tk), .second, .val (.int (1 : Int32)), .unset, .unset] [(.int (1 : Int32)), (.long tk)]) := fun t k => go26 t (by
        show Steps p.tables e below (s₁.setTop (mkF m 36 #[.val (.long q1), .second, .val (.int p2), .val (.int p3), .val (.long tk), .second, .val (.int (1 : Int32)), .unset, .unset] [])) _
        refine XS.lload X0.here hx rfl (hb hby at_36) rfl ?_
        show Steps p.tables e below (s₁.setTop (mkF m 38 #[.val (.long q1), .second, .val (.int p2), .val (.int p3), .val (.long tk), .second, .val (.int (1 : Int32)), .unset, .unset] [(.long tk)])) _
        refine XS.iload X0.here hx rfl (hb hby at_38) rfl ?_
        exact k)
      have hnz := own_nz hbk
      obtain ⟨vv34, _, ⟨T34, L34, k34, n34⟩, -, X34, ⟨Lc34, hQ34, l34, y34, z34⟩, st34⟩ := Jvm.LawKit.callS X0 hx (y := (⟨"com/example/cicada/cicada/ExpirySpanPinLaw", "reference", "(JI)J"⟩ : MethodName)) hown (mvT hZ (tw2 hw)) (mvT hZ (tw3 hw)) (mvT hZ (tw4 hw)) (mvT hZ (tw5 hw)) (by decide) (backOf (W := 0) (rm1 l Z a0 hw [] tk (1 : Int32)  h0 n0 Z0 ) hZ (tw5 hw) (tw4 hw) (by decide) (by decide)) (g := (mkF m 40 #[.val (.long q1), .second, .val (.int p2), .val (.int p3), .val (.long tk), .second, .val (.int (1 : Int32)), .unset, .unset] [(.int (1 : Int32)), (.long tk)])) rfl (by rw [hml]; rfl) (argsL := [(.long tk), (.int (1 : Int32))]) (rest := []) (lenOf pd_0 rfl) rfl (by show 2 * 0 + _ ≤ _; exact Nat.le_of_eq rfl) (hb hby at_40) (fun _ _ => ⟨rfl, e0, (by decide : 0 + 0 ≤ _), (by decide : 0 + 0 ≤ _)⟩)
      dsimp only [Pt.U, Pt.locs, Pt.cells, Pt.slots] at X34 l34 y34 z34 st34 hQ34
      subst l34 y34 z34
      obtain ⟨rfl, Nq34, eq34⟩ := hQ34
      have N34 := Fr.app N0 Nq34
      have go34 : Goes p e below s₁ (G_rm0 m q1 p2 p3) T34 (mkF m 43 #[.val (.long q1), .second, .val (.int p2), .val (.int p3), .val (.long tk), .second, .val (.int (1 : Int32)), .unset, .unset] [(.long (refv tk (1 : Int32)))]) := fun t k => go33 t (st34 _ k)
      have go35 : Goes p e below s₁ (G_rm0 m q1 p2 p3) T34 (mkF m 49 #[.val (.long q1), .second, .val (.int p2), .val (.int p3), .val (.long tk), .second, .val (.int (1 : Int32)), .val (.long (refv tk (1 : Int32))), .second] [(.int (1 : Int32)), (.long tk)]) := fun t k => go34 t (by
        show Steps p.tables e below (T34.setTop (mkF m 43 #[.val (.long q1), .second, .val (.int p2), .val (.int p3), .val (.long tk), .second, .val (.int (1 : Int32)), .unset, .unset] [(.long (refv tk (1 : Int32)))])) _
        refine XS.lstore X34.here hx rfl (hb hby at_43) rfl (l' := #[.val (.long q1), .second, .val (.int p2), .val (.int p3), .val (.long tk), .second, .val (.int (1 : Int32)), .val (.long (refv tk (1 : Int32))), .second]) rfl ?_
        show Steps p.tables e below (T34.setTop (mkF m 45 #[.val (.long q1), .second, .val (.int p2), .val (.int p3), .val (.long tk), .second, .val (.int (1 : Int32)), .val (.long (refv tk (1 : Int32))), .second] [])) _
        refine XS.lload X34.here hx rfl (hb hby at_45) rfl ?_
        show Steps p.tables e below (T34.setTop (mkF m 47 #[.val (.long q1), .second, .val (.int p2), .val (.int p3), .val (.long tk), .second, .val (.int (1 : Int32)), .val (.long (refv tk (1 : Int32))), .second] [(.long tk)])) _
        refine XS.iload X34.here hx rfl (hb hby at_47) rfl ?_
        exact k)
      obtain ⟨vv36, _, ⟨T36, L36, k36, n36⟩, -, X36, ⟨Lc36, hQ36, l36, y36, z36⟩, st36⟩ := Jvm.LawKit.callS X34 hx (y := (⟨"com/example/cicada/cicada/Expiry", "span", "(JI)J"⟩ : MethodName)) hown (mvT hZ (tw8 hw)) (mvT hZ (tw9 hw)) (mvT hZ (tw10 hw)) (mvT hZ (tw11 hw)) (by decide) (backOf (W := 0) (rm2 l Z a0 hw [] tk (1 : Int32)  h0 n0 Z0 hnz) hZ (tw11 hw) (tw10 hw) (by decide) (by decide)) (g := (mkF m 49 #[.val (.long q1), .second, .val (.int p2), .val (.int p3), .val (.long tk), .second, .val (.int (1 : Int32)), .val (.long (refv tk (1 : Int32))), .second] [(.int (1 : Int32)), (.long tk)])) rfl (by rw [hml]; rfl) (argsL := [(.long tk), (.int (1 : Int32))]) (rest := []) (lenOf pd_0 rfl) rfl (by show 2 * 0 + _ ≤ _; exact Nat.le_of_eq rfl) (hb hby at_49) (fun _ _ => ⟨rfl, eq34, (by decide : 0 + 0 ≤ _), (by decide : 0 + 0 ≤ _)⟩)
      dsimp only [Pt.U, Pt.locs, Pt.cells, Pt.slots] at X36 l36 y36 z36 st36 hQ36
      subst l36 y36 z36
      obtain ⟨rfl, Nq36, eq36⟩ := hQ36
      have N36 := Fr.app N34 Nq36
      have go36 : Goes p e below s₁ (G_rm0 m q1 p2 p3) T36 (mkF m 52 #[.val (.long q1), .second, .val (.int p2), .val (.int p3), .val (.long tk), .second, .val (.int (1 : Int32)), .val (.long (refv tk (1 : Int32))), .second] [(.long (spanv tk (1 : Int32)))]) := fun t k => go35 t (st36 _ k)
      have go37 : Goes p e below s₁ (G_rm0 m q1 p2 p3) T36 (mkF m 55 #[.val (.long q1), .second, .val (.int p2), .val (.int p3), .val (.long tk), .second, .val (.int (1 : Int32)), .val (.long (refv tk (1 : Int32))), .second] [(.int (lcmpW (spanv tk (1 : Int32)) (refv tk (1 : Int32))))]) := fun t k => go36 t (by
        show Steps p.tables e below (T36.setTop (mkF m 52 #[.val (.long q1), .second, .val (.int p2), .val (.int p3), .val (.long tk), .second, .val (.int (1 : Int32)), .val (.long (refv tk (1 : Int32))), .second] [(.long (spanv tk (1 : Int32)))])) _
        refine XS.lload X36.here hx rfl (hb hby at_52) rfl ?_
        show Steps p.tables e below (T36.setTop (mkF m 54 #[.val (.long q1), .second, .val (.int p2), .val (.int p3), .val (.long tk), .second, .val (.int (1 : Int32)), .val (.long (refv tk (1 : Int32))), .second] [(.long (refv tk (1 : Int32))), (.long (spanv tk (1 : Int32)))])) _
        refine XS.lcmp X36.here hx rfl (hb hby at_54) rfl ?_
        exact k)
      have go38 : Goes p e below s₁ (G_rm0 m q1 p2 p3) T36 (mkF m 63 #[.val (.long q1), .second, .val (.int p2), .val (.int p3), .val (.long tk), .second, .val (.int (1 : Int32)), .val (.long (refv tk (1 : Int32))), .second] [(.int (1 : Int32))]) := fun t k => go37 t (by
        show Steps p.tables e below (T36.setTop (mkF m 55 #[.val (.long q1), .second, .val (.int p2), .val (.int p3), .val (.long tk), .second, .val (.int (1 : Int32)), .val (.long (refv tk (1 : Int32))), .second] [(.int (lcmpW (spanv tk (1 : Int32)) (refv tk (1 : Int32))))])) _
        refine XS.ifNo X36.here hx rfl (hb hby at_55) rfl ((if0 _ _).trans (teq (own_lceq (own_span htk hbk))).2) ?_
        show Steps p.tables e below (T36.setTop (mkF m 58 #[.val (.long q1), .second, .val (.int p2), .val (.int p3), .val (.long tk), .second, .val (.int (1 : Int32)), .val (.long (refv tk (1 : Int32))), .second] [])) _
        refine XS.iconst X36.here hx rfl (hb hby at_58) ?_
        show Steps p.tables e below (T36.setTop (mkF m 59 #[.val (.long q1), .second, .val (.int p2), .val (.int p3), .val (.long tk), .second, .val (.int (1 : Int32)), .val (.long (refv tk (1 : Int32))), .second] [(.int (1 : Int32))])) _
        refine XS.goto X36.here hx rfl (pc0 := 59) (pc' := 63) rfl (hb hby at_59) (by decide) (by decide) ?_
        exact k)
      obtain ⟨fs, hr, hrun, hended, hW, hsame⟩ := X36.leave (v := some (.int (1 : Int32))) (fun h => by rw [Bd.returns] at h; cases h)
      refine ⟨_, _, go38 _ ?_, hrun, hended, _, _, rfl, ?_, ⟨_, rfl⟩, hW, hsame.mono (by decide) (by decide)⟩
      · exact retN X36 hx (t := .boolean) Bd.returns (by simp) (hb hby at_63) hr
      · show Q_rm0 Z q1 p2 p3 h0 n0 _ T36.heap _
        rw [eq36]
        exact ⟨rfl, N36⟩
    · have hbk : 1 ≤ bk.toInt := own_pos32 (by rw [h_bk]; exact own_mask31 _) hcb
      have go27 : Goes p e below s₁ (G_rm0 m q1 p2 p3) s₁ (mkF m 40 #[.val (.long q1), .second, .val (.int p2), .val (.int p3), .val (.long tk), .second, .val (.int bk), .unset, .unset] [(.int bk), (.long tk)]) := fun t k => go25 t (by
        show Steps p.tables e below (s₁.setTop (mkF m 30 #[.val (.long q1), .second, .val (.int p2), .val (.int p3), .val (.long tk), .second, .val (.int bk), .unset, .unset] [(.int bk)])) _
        refine XS.ifYes X0.here hx rfl (pc0 := 30) (pc' := 36) rfl (hb hby at_30) rfl ((if0 _ _).trans (feq hcb).2) (by decide) (by decide) ?_
        show Steps p.tables e below (s₁.setTop (mkF m 36 #[.val (.long q1), .second, .val (.int p2), .val (.int p3), .val (.long tk), .second, .val (.int bk), .unset, .unset] [])) _
        refine XS.lload X0.here hx rfl (hb hby at_36) rfl ?_
        show Steps p.tables e below (s₁.setTop (mkF m 38 #[.val (.long q1), .second, .val (.int p2), .val (.int p3), .val (.long tk), .second, .val (.int bk), .unset, .unset] [(.long tk)])) _
        refine XS.iload X0.here hx rfl (hb hby at_38) rfl ?_
        exact k)
      have hnz := own_nz hbk
      obtain ⟨vv28, _, ⟨T28, L28, k28, n28⟩, -, X28, ⟨Lc28, hQ28, l28, y28, z28⟩, st28⟩ := Jvm.LawKit.callS X0 hx (y := (⟨"com/example/cicada/cicada/ExpirySpanPinLaw", "reference", "(JI)J"⟩ : MethodName)) hown (mvT hZ (tw2 hw)) (mvT hZ (tw3 hw)) (mvT hZ (tw4 hw)) (mvT hZ (tw5 hw)) (by decide) (backOf (W := 0) (rm1 l Z a0 hw [] tk bk  h0 n0 Z0 ) hZ (tw5 hw) (tw4 hw) (by decide) (by decide)) (g := (mkF m 40 #[.val (.long q1), .second, .val (.int p2), .val (.int p3), .val (.long tk), .second, .val (.int bk), .unset, .unset] [(.int bk), (.long tk)])) rfl (by rw [hml]; rfl) (argsL := [(.long tk), (.int bk)]) (rest := []) (lenOf pd_0 rfl) rfl (by show 2 * 0 + _ ≤ _; exact Nat.le_of_eq rfl) (hb hby at_40) (fun _ _ => ⟨rfl, e0, (by decide : 0 + 0 ≤ _), (by decide : 0 + 0 ≤ _)⟩)
      dsimp only [Pt.U, Pt.locs, Pt.cells, Pt.slots] at X28 l28 y28 z28 st28 hQ28
      subst l28 y28 z28
      obtain ⟨rfl, Nq28, eq28⟩ := hQ28
      have N28 := Fr.app N0 Nq28
      have go28 : Goes p e below s₁ (G_rm0 m q1 p2 p3) T28 (mkF m 43 #[.val (.long q1), .second, .val (.int p2), .val (.int p3), .val (.long tk), .second, .val (.int bk), .unset, .unset] [(.long (refv tk bk))]) := fun t k => go27 t (st28 _ k)
      have go29 : Goes p e below s₁ (G_rm0 m q1 p2 p3) T28 (mkF m 49 #[.val (.long q1), .second, .val (.int p2), .val (.int p3), .val (.long tk), .second, .val (.int bk), .val (.long (refv tk bk)), .second] [(.int bk), (.long tk)]) := fun t k => go28 t (by
        show Steps p.tables e below (T28.setTop (mkF m 43 #[.val (.long q1), .second, .val (.int p2), .val (.int p3), .val (.long tk), .second, .val (.int bk), .unset, .unset] [(.long (refv tk bk))])) _
        refine XS.lstore X28.here hx rfl (hb hby at_43) rfl (l' := #[.val (.long q1), .second, .val (.int p2), .val (.int p3), .val (.long tk), .second, .val (.int bk), .val (.long (refv tk bk)), .second]) rfl ?_
        show Steps p.tables e below (T28.setTop (mkF m 45 #[.val (.long q1), .second, .val (.int p2), .val (.int p3), .val (.long tk), .second, .val (.int bk), .val (.long (refv tk bk)), .second] [])) _
        refine XS.lload X28.here hx rfl (hb hby at_45) rfl ?_
        show Steps p.tables e below (T28.setTop (mkF m 47 #[.val (.long q1), .second, .val (.int p2), .val (.int p3), .val (.long tk), .second, .val (.int bk), .val (.long (refv tk bk)), .second] [(.long tk)])) _
        refine XS.iload X28.here hx rfl (hb hby at_47) rfl ?_
        exact k)
      obtain ⟨vv30, _, ⟨T30, L30, k30, n30⟩, -, X30, ⟨Lc30, hQ30, l30, y30, z30⟩, st30⟩ := Jvm.LawKit.callS X28 hx (y := (⟨"com/example/cicada/cicada/Expiry", "span", "(JI)J"⟩ : MethodName)) hown (mvT hZ (tw8 hw)) (mvT hZ (tw9 hw)) (mvT hZ (tw10 hw)) (mvT hZ (tw11 hw)) (by decide) (backOf (W := 0) (rm2 l Z a0 hw [] tk bk  h0 n0 Z0 hnz) hZ (tw11 hw) (tw10 hw) (by decide) (by decide)) (g := (mkF m 49 #[.val (.long q1), .second, .val (.int p2), .val (.int p3), .val (.long tk), .second, .val (.int bk), .val (.long (refv tk bk)), .second] [(.int bk), (.long tk)])) rfl (by rw [hml]; rfl) (argsL := [(.long tk), (.int bk)]) (rest := []) (lenOf pd_0 rfl) rfl (by show 2 * 0 + _ ≤ _; exact Nat.le_of_eq rfl) (hb hby at_49) (fun _ _ => ⟨rfl, eq28, (by decide : 0 + 0 ≤ _), (by decide : 0 + 0 ≤ _)⟩)
      dsimp only [Pt.U, Pt.locs, Pt.cells, Pt.slots] at X30 l30 y30 z30 st30 hQ30
      subst l30 y30 z30
      obtain ⟨rfl, Nq30, eq30⟩ := hQ30
      have N30 := Fr.app N28 Nq30
      have go30 : Goes p e below s₁ (G_rm0 m q1 p2 p3) T30 (mkF m 52 #[.val (.long q1), .second, .val (.int p2), .val (.int p3), .val (.long tk), .second, .val (.int bk), .val (.long (refv tk bk)), .second] [(.long (spanv tk bk))]) := fun t k => go29 t (st30 _ k)
      have go31 : Goes p e below s₁ (G_rm0 m q1 p2 p3) T30 (mkF m 55 #[.val (.long q1), .second, .val (.int p2), .val (.int p3), .val (.long tk), .second, .val (.int bk), .val (.long (refv tk bk)), .second] [(.int (lcmpW (spanv tk bk) (refv tk bk)))]) := fun t k => go30 t (by
        show Steps p.tables e below (T30.setTop (mkF m 52 #[.val (.long q1), .second, .val (.int p2), .val (.int p3), .val (.long tk), .second, .val (.int bk), .val (.long (refv tk bk)), .second] [(.long (spanv tk bk))])) _
        refine XS.lload X30.here hx rfl (hb hby at_52) rfl ?_
        show Steps p.tables e below (T30.setTop (mkF m 54 #[.val (.long q1), .second, .val (.int p2), .val (.int p3), .val (.long tk), .second, .val (.int bk), .val (.long (refv tk bk)), .second] [(.long (refv tk bk)), (.long (spanv tk bk))])) _
        refine XS.lcmp X30.here hx rfl (hb hby at_54) rfl ?_
        exact k)
      have go32 : Goes p e below s₁ (G_rm0 m q1 p2 p3) T30 (mkF m 63 #[.val (.long q1), .second, .val (.int p2), .val (.int p3), .val (.long tk), .second, .val (.int bk), .val (.long (refv tk bk)), .second] [(.int (1 : Int32))]) := fun t k => go31 t (by
        show Steps p.tables e below (T30.setTop (mkF m 55 #[.val (.long q1), .second, .val (.int p2), .val (.int p3), .val (.long tk), .second, .val (.int bk), .val (.long (refv tk bk)), .second] [(.int (lcmpW (spanv tk bk) (refv tk bk)))])) _
        refine XS.ifNo X30.here hx rfl (hb hby at_55) rfl ((if0 _ _).trans (teq (own_lceq (own_span htk hbk))).2) ?_
        show Steps p.tables e below (T30.setTop (mkF m 58 #[.val (.long q1), .second, .val (.int p2), .val (.int p3), .val (.long tk), .second, .val (.int bk), .val (.long (refv tk bk)), .second] [])) _
        refine XS.iconst X30.here hx rfl (hb hby at_58) ?_
        show Steps p.tables e below (T30.setTop (mkF m 59 #[.val (.long q1), .second, .val (.int p2), .val (.int p3), .val (.long tk), .second, .val (.int bk), .val (.long (refv tk bk)), .second] [(.int (1 : Int32))])) _
        refine XS.goto X30.here hx rfl (pc0 := 59) (pc' := 63) rfl (hb hby at_59) (by decide) (by decide) ?_
        exact k)
      obtain ⟨fs, hr, hrun, hended, hW, hsame⟩ := X30.leave (v := some (.int (1 : Int32))) (fun h => by rw [Bd.returns] at h; cases h)
      refine ⟨_, _, go32 _ ?_, hrun, hended, _, _, rfl, ?_, ⟨_, rfl⟩, hW, hsame.mono (by decide) (by decide)⟩
      · exact retN X30 hx (t := .boolean) Bd.returns (by simp) (hb hby at_63) hr
      · show Q_rm0 Z q1 p2 p3 h0 n0 _ T30.heap _
        rw [eq30]
        exact ⟨rfl, N30⟩
set_option maxRecDepth 65536 in
set_option maxHeartbeats 40000000 in
theorem comes_1 {Post : Tables → Env → Array Value → State → Outcome → State → Prop} (hpost : ∀ tb e args s v u, (limb_1_1.after args s (.returned v) u = true ∧ limb_1_2.after args s (.returned v) u = true ∧ True) → FrameEnd s (.returned v) u (Jvm.fieldLocs frame_1_writes args s ++ Jvm.arrayLocs frame_1_arrays args s ++ Jvm.staticLocs frame_1_statics s) 0 0 → Post tb e args s (.returned v) u) :
    ArmFor flags0 classFile x code maxLocals ret World_1 tables_1 room_1 Calls_1 rest_1 Pre_1 Post := by
  intro l hfl _ _ p e ha hc hk s m args below hf hA hF happ hP
  obtain ⟨hcalls, hrest, hpre⟩ := hP
  obtain ⟨-, -, -, hnamed, -, -, -, hat⟩ := (Spec.applies_iff hf).mp happ
  obtain ⟨hg, hn⟩ := and_e (Cond.before_iff.mp (show (Jvm.Cond.and given_1 narrow_1).before args s = true from hpre))
  obtain ⟨g0, hg0⟩ := and_e hg
  obtain ⟨g1, hg1⟩ := and_e hg0
  obtain ⟨g2, hg2⟩ := and_e hg1
  obtain ⟨w0, w1, w2, rfl⟩ : ∃ w0 w1 w2 : Value, args = #[w0, w1, w2] := by
    have hs : args.size = 3 := by simpa [Cond.value, given_1] using g0
    obtain ⟨L⟩ := args
    match L, hs with
    | [w0, w1, w2], _ => exact ⟨w0, w1, w2, rfl⟩
  have hw := fun d (hd : d ∈ tables_1) => atoms_spec (ws := Jvm.Cond.code x code maxLocals ret :: tables_1) hat d (List.mem_cons_of_mem _ hd)
  have hfit : Fit s := fun {y c} hc i hi => by
    obtain ⟨ha, rfl⟩ := Array.getElem?_eq_some_iff.mp hc
    have q := List.all_eq_true.mp ((Array.all_eq_true_iff_forall_mem.mp hF) _ (Array.getElem_mem ha)) i (List.mem_range.mpr hi)
    simpa [Array.getElem?_eq_getElem hi] using q
  obtain ⟨i0, ei0⟩ := isL_v g1
  obtain rfl : w0 = (.long i0) := Option.some.inj ei0
  obtain ⟨i1, ei1⟩ := is_v g2
  obtain rfl : w1 = (.int i1) := Option.some.inj ei1
  obtain ⟨i2, ei2⟩ := is_v hg2
  obtain rfl : w2 = (.int i2) := Option.some.inj ei2
  obtain ⟨n, o, h1, h2, h3, _, L, rfl, ⟨rfl, N⟩, hq⟩ := rm0 l s _ hw tables_1 i0 i1 i2  s.heap s.heap.size (Nat.le_refl _)  p e ha hc hk s m _ below hf ((Spec.applies_iff_loose hf).mp happ).1 ⟨rfl, State.Warmed39.refl s, rfl⟩ trivial
  refine ⟨n, _, h1, h2, h3, hpost _ _ _ _ _ _ ⟨Cond.after_iff.mpr rfl, Cond.after_iff.mpr (eq_i res_at (Term.int_eval (1)) rfl), trivial⟩ ⟨hq.1, hq.2.1, (hq.2.2.sift fun y hy => Or.inr (N y hy)).mono (by decide) (by decide)⟩⟩
theorem main_1_1 : Claimed_1_1 := comes_1 fun _ _ _ _ _ _ h hF => ⟨h.1, hF⟩
theorem main_1_2 : Claimed_1_2 := comes_1 fun _ _ _ _ _ _ h hF => ⟨h.2.1, hF⟩
end Jvm.Pilot.@@N@@
namespace Jvm.Pilot.@@N@@
open Jvm Jvm.ClassFile Sem Op Lib Jvm.Free Jvm.Stand Jvm.Pilot.@@N@@.Jvm.D
/-! MADE BY PROGRAM (witnessworld.py) out of the Statement's table words and the real class files: 9 classes; the members and pool entries that the words name. The judged class is class 1, her method 1. -/
namespace start1
open Jvm.ClassFile
def u (s : String) : CpInfo := .utf8 (stringToUtf16 s)
/-- a pool by its gaps: so many unusable entries, then the entry; so many at the end -/
def gap : Nat → List CpInfo → List CpInfo
  | 0, r => r
  | n + 1, r => .unusable :: gap n r
def poolList (es : List (Nat × CpInfo)) (last : Nat) : List CpInfo := es.foldr (fun e r => gap e.1 (e.2 :: r)) (gap last [])
def pool (es : List (Nat × CpInfo)) (last : Nat) : Array CpInfo := ⟨poolList es last⟩
def fileOf (pool : Array CpInfo) (this : Nat) (attrs : Array Attribute := #[]) (ms : Array MethodInfo := #[]) (fl : Nat := 33) (sup : Nat := 0) (ifs : Array Nat := #[]) (fds : Array FieldInfo := #[]) : ClassFile where
  minorVersion := 0
  majorVersion := 65
  constantPool := pool
  accessFlags := fl
  thisClass := this
  superClass := sup
  interfaces := ifs
  fields := fds
  methods := ms
  attributes := attrs
def plain (name : String) (sup : Option ClassId) : Class where
  name := name
  kind := .ordinary
  loader := none
  accessFlags := 33
  super := sup
  interfaces := #[]
  cf := none
  fields := #[]
  methods := #[]
  instanceTypes := #[]
  staticTypes := #[]
  resolved := #[]
  callSites := []
  init := .initialized
  statics := none
  mirror := none

def pool0 : Array CpInfo := pool [(5, u "<init>"), (0, u "()V"), (1, .class_ 10), (1, u "java/lang/Object")] 113

def k0m0 : Method := { name := "<init>", desc := "()V", sig := { parameters := [], returnType := none }, accessFlags := 1, code := none }
/-- java/lang/Object -/
def k0 : Class := { plain "java/lang/Object" none with
  accessFlags := 33
  interfaces := #[]
  cf := some (fileOf pool0 8 #[] #[{ accessFlags := 1, nameIndex := 5, descriptorIndex := 6, attributes := #[] }] 33 0 #[] #[])
  fields := #[]
  methods := #[k0m0]
  instanceTypes := #[]
  staticTypes := #[]
  resolved := Array.replicate 124 none
  statics := none }

def pool1 : Array CpInfo := pool [(2, .class_ 4), (1, u "java/lang/Object"), (0, u "<init>"), (0, u "()V"), (2, .long 9223372036854775807), (1, .integer 2147483647), (0, .methodref 13 14), (0, .class_ 15), (0, .nameAndType 16 17), (0, u "com/example/cicada/cicada/ExpirySpanPinLaw"), (0, u "reference"), (0, u "(JI)J"), (0, .methodref 19 20), (0, .class_ 21), (0, .nameAndType 22 17), (0, u "com/example/cicada/cicada/Expiry"), (0, u "span"), (0, .long 4294967295), (1, .long 2147483648), (3, u "law"), (0, u "(JII)Z")] 3

def k1m0 : Method := { name := "<init>", desc := "()V", sig := { parameters := [], returnType := none }, accessFlags := 2, code := none }
def k1c1 : Code := { maxStack := 4, maxLocals := 9, code := code, exceptionTable := #[], attributes := #[] }
def k1m1 : Method := { name := "law", desc := "(JII)Z", sig := { parameters := [.long, .int, .int], returnType := some .boolean }, accessFlags := 9, code := some k1c1 }
def k1c2 : Code := { maxStack := 6, maxLocals := 15, code := method_3_code, exceptionTable := #[], attributes := #[] }
def k1m2 : Method := { name := "reference", desc := "(JI)J", sig := { parameters := [.long, .int], returnType := some .long }, accessFlags := 10, code := some k1c2 }
/-- com/example/cicada/cicada/ExpirySpanPinLaw -/
def k1 : Class := { plain "com/example/cicada/cicada/ExpirySpanPinLaw" (some 0) with
  accessFlags := 49
  interfaces := #[]
  cf := some (fileOf pool1 13 #[] #[{ accessFlags := 2, nameIndex := 5, descriptorIndex := 6, attributes := #[] }, { accessFlags := 9, nameIndex := 29, descriptorIndex := 30, attributes := #[] }, { accessFlags := 10, nameIndex := 16, descriptorIndex := 17, attributes := #[] }] 49 2 #[] #[])
  fields := #[]
  methods := #[k1m0, k1m1, k1m2]
  instanceTypes := #[]
  staticTypes := #[]
  resolved := Array.replicate 34 none
  statics := none }

def pool2 : Array CpInfo := pool [(2, .class_ 4), (1, u "java/lang/Object"), (0, u "<init>"), (0, u "()V"), (38, .class_ 47), (1, u "com/example/cicada/cicada/Expiry"), (14, .long 9223372036854775807), (14, u "span"), (0, u "(JI)J")] 5

def k2m0 : Method := { name := "<init>", desc := "()V", sig := { parameters := [], returnType := none }, accessFlags := 2, code := none }
def k2c1 : Code := { maxStack := 6, maxLocals := 3, code := prog_4_method_5_code, exceptionTable := #[], attributes := #[] }
def k2m1 : Method := { name := "span", desc := "(JI)J", sig := { parameters := [.long, .int], returnType := some .long }, accessFlags := 8, code := some k2c1 }
/-- com/example/cicada/cicada/Expiry -/
def k2 : Class := { plain "com/example/cicada/cicada/Expiry" (some 0) with
  accessFlags := 48
  interfaces := #[]
  cf := some (fileOf pool2 45 #[] #[{ accessFlags := 2, nameIndex := 5, descriptorIndex := 6, attributes := #[] }, { accessFlags := 8, nameIndex := 77, descriptorIndex := 78, attributes := #[] }] 48 2 #[] #[])
  fields := #[]
  methods := #[k2m0, k2m1]
  instanceTypes := #[]
  staticTypes := #[]
  resolved := Array.replicate 84 none
  statics := none }

def pool3 : Array CpInfo := pool [(1, u "java/lang/Cloneable"), (0, .class_ 1), (0, u "java/lang/Object"), (0, .class_ 3)] 3

/-- java/lang/Cloneable -/
def k3 : Class := { plain "java/lang/Cloneable" (some 0) with
  accessFlags := 1537
  interfaces := #[]
  cf := some (fileOf pool3 2 #[] #[] 1537 4 #[] #[])
  fields := #[]
  methods := #[]
  instanceTypes := #[]
  staticTypes := #[]
  resolved := Array.replicate 8 none
  statics := none }

def pool4 : Array CpInfo := pool [(1, u "java/io/Serializable"), (0, .class_ 1), (0, u "java/lang/Object"), (0, .class_ 3)] 3

/-- java/io/Serializable -/
def k4 : Class := { plain "java/io/Serializable" (some 0) with
  accessFlags := 1537
  interfaces := #[]
  cf := some (fileOf pool4 2 #[] #[] 1537 4 #[] #[])
  fields := #[]
  methods := #[]
  instanceTypes := #[]
  staticTypes := #[]
  resolved := Array.replicate 8 none
  statics := none }

/-- the primitive byte -/
def k5 : Class := { plain "byte" none with kind := .primitive 'B', accessFlags := 0x411 }
/-- [B -/
def k6 : Class := { plain "[B" (some 0) with kind := .array 5 .byte, interfaces := #[3, 4], accessFlags := 1041 }

/-- the primitive int -/
def k7 : Class := { plain "int" none with kind := .primitive 'I', accessFlags := 0x411 }
/-- [I -/
def k8 : Class := { plain "[I" (some 0) with kind := .array 7 .int, interfaces := #[3, 4], accessFlags := 1041 }

def heap : Heap := #[]
def classes : Array Class := #[k0, k1, k2, k3, k4, k5, k6, k7, k8]
def interned : List (Array UInt16 × Addr) := []
def slotsUsed : Nat := 0
def theMethod : MethodId := ⟨1, 1⟩
def args0 : Array Value := #[.long 7, .int 3, .int 0]
def aboutOver (below : List Frame) : State where
  vm := { classes := classes, interned := interned.toArray }
  heap := heap
  slotsUsed := slotsUsed
  threads := #[{ frames := .invoking theMethod args0 :: below }]
def below0 : List Frame := [.native { method := ⟨0, 0⟩, args := #[] }]
def about1 : State := aboutOver below0
def p0 : Program := .bare "" "" ""
def e0 : Env := launch0.env 0 0 0
theorem w_frames : about1.frames = Frame.invoking theMethod args0 :: below0 := rfl
set_option maxRecDepth 65536 in
theorem w_args : argsFit about1.vm theMethod args0 = true := by decide +kernel
set_option maxRecDepth 65536 in
theorem w_heap : heapFits about1 = true := by decide +kernel
set_option maxRecDepth 65536 in
theorem w_runnable : about1.curStatus? = some .runnable := by decide +kernel
set_option maxRecDepth 65536 in
theorem w_alone : about1.alone = true := by decide +kernel
set_option maxRecDepth 65536 in
theorem w_named : about1.methodNamed? x = some theMethod := by decide +kernel
set_option maxRecDepth 65536 in
theorem w_hears : about1.hears theMethod below0 = true := by decide +kernel
set_option maxRecDepth 65536 in
theorem w_ripe : about1.ripe theMethod args0 below0 = true := by decide +kernel
theorem w_running : about1.status = .running := rfl
set_option maxRecDepth 65536 in
theorem w_room : about1.hasRoom e0.platform room_1 = true :=
  launch0.hasRoom_least _ room_1 (by decide +kernel) (by decide +kernel) (by decide +kernel) (by decide +kernel) (by decide +kernel) (by decide +kernel)
theorem allAtoms_all (ts : List Jvm.Cond) (a : Array Jvm.Value) (st : Jvm.State) : (allAtoms ts).before a st = ts.all (fun c => c.before a st) := by
  induction ts with
  | nil => rfl
  | cons c t ih =>
    show (Jvm.Cond.and c (allAtoms t)).before a st = _
    rw [Jvm.Cond.before_and, ih, List.all_cons]
def words1 : List Jvm.Cond := Jvm.Cond.code x code maxLocals ret :: tables_1
/-- a 'code' word, met by the world's own term for the bytes: nothing is compared byte by byte -/
theorem code_word {y : MethodName} {bytes : ByteArray} {mx : Nat} {rt : Option FieldType} {a : Array Value} {s : State} {m : MethodId} {meth : Method} {c : Code} (h1 : s.methodNamed? y = some m) (h2 : s.vm.method? m = some meth) (h3 : meth.code = some c) (h4 : c.code = bytes)
    (h5 : (c.maxLocals == mx && c.exceptionTable.isEmpty && decide (c.maxStack ≤ mostOperands) && decide (meth.sig.returnType = rt) && !meth.locks && decide (parseMethodDescriptor y.desc = some meth.sig)) = true) : (Jvm.Cond.code y bytes mx rt).before a s = true := by
  simp only [Bool.and_eq_true, beq_iff_eq, Bool.not_eq_true', decide_eq_true_eq] at h5
  obtain ⟨⟨⟨⟨⟨g1, g2⟩, g3⟩, g4⟩, g5⟩, g6⟩ := h5
  simp [Cond.before, Cond.holds, Cond.value, h1, h2, h3, h4, g1, g2, g3, g4, g5, g6]
def isCode : Jvm.Cond → Bool
  | .code _ _ _ _ => true
  | _ => false
theorem all_split {L : List Jvm.Cond} {P : Jvm.Cond → Bool} (h1 : L.all (fun c => isCode c || P c) = true) (h2 : ∀ c ∈ L.filter isCode, P c = true) : L.all P = true := by
  refine List.all_eq_true.mpr fun c hc => ?_
  have h := List.all_eq_true.mp h1 c hc
  rcases Bool.eq_false_or_eq_true (isCode c) with hi | hi
  · exact h2 c (List.mem_filter.mpr ⟨hc, hi⟩)
  · simpa [hi] using h
set_option maxRecDepth 65536 in
theorem w_c0 : (Jvm.Cond.code x code maxLocals ret).before args0 about1 = true := code_word (m := ⟨1, 1⟩) (meth := k1m1) (c := k1c1) (by decide +kernel) rfl rfl rfl (by decide +kernel)
set_option maxRecDepth 65536 in
theorem w_c1 : (Jvm.Cond.code ({ cls := "com/example/cicada/cicada/ExpirySpanPinLaw", name := "reference", desc := "(JI)J" } : Jvm.MethodName) method_3_code (15 : Nat) (Option.some Jvm.ClassFile.FieldType.long)).before args0 about1 = true := code_word (m := ⟨1, 2⟩) (meth := k1m2) (c := k1c2) (by decide +kernel) rfl rfl rfl (by decide +kernel)
set_option maxRecDepth 65536 in
theorem w_c2 : (Jvm.Cond.code ({ cls := "com/example/cicada/cicada/Expiry", name := "span", desc := "(JI)J" } : Jvm.MethodName) prog_4_method_5_code (3 : Nat) (Option.some Jvm.ClassFile.FieldType.long)).before args0 about1 = true := code_word (m := ⟨2, 1⟩) (meth := k2m1) (c := k2c1) (by decide +kernel) rfl rfl rfl (by decide +kernel)
def codes1 : List Jvm.Cond := [Jvm.Cond.code x code maxLocals ret, Jvm.Cond.code ({ cls := "com/example/cicada/cicada/ExpirySpanPinLaw", name := "reference", desc := "(JI)J" } : Jvm.MethodName) method_3_code (15 : Nat) (Option.some Jvm.ClassFile.FieldType.long), Jvm.Cond.code ({ cls := "com/example/cicada/cicada/Expiry", name := "span", desc := "(JI)J" } : Jvm.MethodName) prog_4_method_5_code (3 : Nat) (Option.some Jvm.ClassFile.FieldType.long)]
set_option maxRecDepth 65536 in
theorem codes_eq : words1.filter isCode = codes1 := rfl
theorem w_codes : ∀ c ∈ words1.filter isCode, c.before args0 about1 = true := by
  rw [codes_eq]
  intro c hc
  simp only [codes1, List.mem_cons, List.not_mem_nil, or_false] at hc
  rcases hc with rfl | rfl | rfl
  · exact w_c0
  · exact w_c1
  · exact w_c2
set_option maxRecDepth 65536 in
theorem w_t1 : words1.all (fun c => isCode c || c.before args0 about1) = true := by decide +kernel
theorem w_tables : (allAtoms (Jvm.Cond.code x code maxLocals ret :: tables_1)).before args0 about1 = true := by
  rw [allAtoms_all]
  show words1.all (fun c => c.before args0 about1) = true
  refine all_split ?_ w_codes
  rw [w_t1]
set_option maxRecDepth 65536 in
theorem w_case : (Jvm.Cond.and given_1 narrow_1).before args0 about1 = true := by decide +kernel
theorem w_applies : (headSpec (Jvm.Cond.code x code maxLocals ret :: tables_1) room_1).applies x e0.platform about1 = true :=
  (Spec.applies_iff w_frames).mpr ⟨w_running, w_runnable, w_alone, w_named, w_hears, w_ripe, w_room, w_tables⟩
theorem atStart : AtStart classFile x code maxLocals ret World_1 tables_1 room_1 Calls_1 rest_1 Pre_1 launch0 p0 e0 about1 theMethod args0 below0 :=
  ⟨lists_1, trivial, launch0.admits_env _ _ _, launch0.least_env, fairChoices_fair.cas, fairChoices_fair.clock, w_frames, w_args, w_heap, w_applies, trivial, trivial, w_case⟩
end start1
theorem witness_1 : WitnessClaimed_1 := ⟨start1.p0, start1.e0, start1.about1, start1.theMethod, start1.args0, start1.below0, start1.atStart⟩
end Jvm.Pilot.@@N@@
