import JvmDerived
import JvmDerived.Pilot.@@N@@Statement
import JvmDerived.Pilot.@@N@@Code
set_option linter.unusedVariables false
set_option linter.unusedSimpArgs false
@@BLOCK:NumsL.lean.txt@@
namespace Jvm.RoadKit
open Sem ClassFile Op Lib Jvm.Stand Jvm.Free Jvm.LawKit
section New
variable {p : Program} {l : Launch} {e : Env} {R : Room} {s : State} {m : MethodId} {args : Array Value} {below : List Frame} {meth : Method} {c : Code} {T : State} {locs : List Loc} {cells slots : Nat}
theorem retI (X : Stand p l e R s m args below meth c T locs cells slots) (hx : p.tables.exec = Jvm.exec) {pc : Nat} {Ls : Array Slot} {z : Int32} {rest : List Value} (hret : meth.sig.returnType = some .int) (hd : decode c.code pc = .ok (.ireturn, 1)) {fs : List Frame}
    (hl : ∀ (f : JFrame) (acts : List Action), f.method = m → f.locked = none → f.entered = [] → (doReturn e (T.setTop f) acts (some (.int z))).1 = T.setFrames fs) : Steps p.tables e below (T.setTop (mkF m pc Ls (.int z :: rest))) (T.setFrames fs) := by
  have hm' : T.vm.method? m = some meth := X.method'
  have hn : narrow .int (.int z) = .int z := rfl
  show Steps p.tables e below (T.setTop { method := m, pc := pc, locals := Ls, stack := _ :: rest, locked := none }) _
  jvm_step X.here [X.here.top, hx, hd, hm', hret, hn]
  first | (intro acts; rw [hl _ acts rfl rfl rfl]) | rw [hl _ _ rfl rfl rfl]
  exact Steps.refl _
end New
end Jvm.RoadKit
namespace Jvm.Pilot.@@N@@
open Jvm Jvm.ClassFile Sem Op Lib Jvm.Free Jvm.Stand Jvm.LawKit Jvm.RoadKit Bundle Jvm.Pilot.@@N@@.Jvm.D
theorem own_lclt {x y : Int64} (h : x < y) : lcmpW x y < 0 := by rw [lcW]; exact (lc_lt x y).2 h
theorem own_lcge {x y : Int64} (h : ¬ x < y) : ¬ (lcmpW x y < 0) := by rw [lcW]; exact fun k => h ((lc_lt x y).1 k)
theorem own_lcgt {x y : Int64} (h : y < x) : 0 < lcmpW x y := by rw [lcW]; exact (lc_gt x y).2 h
theorem own_lcle {x y : Int64} (h : ¬ y < x) : ¬ (0 < lcmpW x y) := by rw [lcW]; exact fun k => h ((lc_gt x y).1 k)
theorem own_lceq {x y : Int64} (h : x = y) : lcmpW x y = 0 := by rw [lcW]; exact (lc_eq x y).2 h
theorem own_lcne {x y : Int64} (h : ¬ (x = y)) : ¬ (lcmpW x y = 0) := by rw [lcW]; exact fun k => h ((lc_eq x y).1 k)
theorem tw0 {Z : State} {a0 : Array Value} (hw : ∀ d ∈ tables_1, d.before a0 Z = true) : ((Jvm.Cond.constant "com/example/heft/heft/model/ComparisonOrdersNumbersPinLaw" (28 : Nat) (2147483647 : Int32)) : Jvm.Cond).before a0 Z = true := hw _ (List.mem_of_getElem? (i := 0) rfl)
theorem tw1 {Z : State} {a0 : Array Value} (hw : ∀ d ∈ tables_1, d.before a0 Z = true) : ((Jvm.Cond.methodLink "com/example/heft/heft/model/ComparisonOrdersNumbersPinLaw" (29 : Nat) ({ cls := "com/example/heft/heft/model/ComparisonOrdersNumbersPinLaw", name := "pick", desc := "(I)Lcom/example/heft/heft/model/XPath$Comparison;" } : Jvm.MethodName)) : Jvm.Cond).before a0 Z = true := hw _ (List.mem_of_getElem? (i := 1) rfl)
theorem tw2 {Z : State} {a0 : Array Value} (hw : ∀ d ∈ tables_1, d.before a0 Z = true) : ((Jvm.Cond.static ({ cls := "com/example/heft/heft/model/ComparisonOrdersNumbersPinLaw", name := "pick", desc := "(I)Lcom/example/heft/heft/model/XPath$Comparison;" } : Jvm.MethodName)) : Jvm.Cond).before a0 Z = true := hw _ (List.mem_of_getElem? (i := 2) rfl)
theorem tw3 {Z : State} {a0 : Array Value} (hw : ∀ d ∈ tables_1, d.before a0 Z = true) : ((Jvm.Cond.initialized "com/example/heft/heft/model/ComparisonOrdersNumbersPinLaw") : Jvm.Cond).before a0 Z = true := hw _ (List.mem_of_getElem? (i := 3) rfl)
theorem tw4 {Z : State} {a0 : Array Value} (hw : ∀ d ∈ tables_1, d.before a0 Z = true) : ((Jvm.Cond.code ({ cls := "com/example/heft/heft/model/ComparisonOrdersNumbersPinLaw", name := "pick", desc := "(I)Lcom/example/heft/heft/model/XPath$Comparison;" } : Jvm.MethodName) method_2_code (1 : Nat) (Option.some (Jvm.ClassFile.FieldType.object "com/example/heft/heft/model/XPath$Comparison"))) : Jvm.Cond).before a0 Z = true := hw _ (List.mem_of_getElem? (i := 4) rfl)
theorem tw5 {Z : State} {a0 : Array Value} (hw : ∀ d ∈ tables_1, d.before a0 Z = true) : ((Jvm.Cond.fieldLink "com/example/heft/heft/model/ComparisonOrdersNumbersPinLaw" (7 : Nat) "com/example/heft/heft/model/XPath$Comparison" "EQUAL" "Lcom/example/heft/heft/model/XPath$Comparison;") : Jvm.Cond).before a0 Z = true := hw _ (List.mem_of_getElem? (i := 5) rfl)
theorem tw6 {Z : State} {a0 : Array Value} (hw : ∀ d ∈ tables_1, d.before a0 Z = true) : ((Jvm.Cond.initialized "com/example/heft/heft/model/XPath$Comparison") : Jvm.Cond).before a0 Z = true := hw _ (List.mem_of_getElem? (i := 6) rfl)
theorem tw7 {Z : State} {a0 : Array Value} (hw : ∀ d ∈ tables_1, d.before a0 Z = true) : ((Jvm.Cond.laysStatic "com/example/heft/heft/model/XPath$Comparison" "EQUAL" "Lcom/example/heft/heft/model/XPath$Comparison;") : Jvm.Cond).before a0 Z = true := hw _ (List.mem_of_getElem? (i := 7) rfl)
theorem tw8 {Z : State} {a0 : Array Value} (hw : ∀ d ∈ tables_1, d.before a0 Z = true) : ((Jvm.Cond.methodLink "com/example/heft/heft/model/ComparisonOrdersNumbersPinLaw" (35 : Nat) ({ cls := "com/example/heft/heft/model/XPath$Comparison", name := "ordersNumbers", desc := "()Z" } : Jvm.MethodName)) : Jvm.Cond).before a0 Z = true := hw _ (List.mem_of_getElem? (i := 8) rfl)
theorem tw9 {Z : State} {a0 : Array Value} (hw : ∀ d ∈ tables_1, d.before a0 Z = true) : ((Jvm.Cond.declares ({ cls := "com/example/heft/heft/model/XPath$Comparison", name := "ordersNumbers", desc := "()Z" } : Jvm.MethodName)) : Jvm.Cond).before a0 Z = true := hw _ (List.mem_of_getElem? (i := 9) rfl)
theorem tw10 {Z : State} {a0 : Array Value} (hw : ∀ d ∈ tables_1, d.before a0 Z = true) : ((Jvm.Cond.instanceMethod ({ cls := "com/example/heft/heft/model/XPath$Comparison", name := "ordersNumbers", desc := "()Z" } : Jvm.MethodName)) : Jvm.Cond).before a0 Z = true := hw _ (List.mem_of_getElem? (i := 10) rfl)
theorem tw11 {Z : State} {a0 : Array Value} (hw : ∀ d ∈ tables_1, d.before a0 Z = true) : ((Jvm.Cond.selects "com/example/heft/heft/model/XPath$Comparison" ({ cls := "com/example/heft/heft/model/XPath$Comparison", name := "ordersNumbers", desc := "()Z" } : Jvm.MethodName) ({ cls := "com/example/heft/heft/model/XPath$Comparison", name := "ordersNumbers", desc := "()Z" } : Jvm.MethodName)) : Jvm.Cond).before a0 Z = true := hw _ (List.mem_of_getElem? (i := 11) rfl)
theorem tw12 {Z : State} {a0 : Array Value} (hw : ∀ d ∈ tables_1, d.before a0 Z = true) : ((Jvm.Cond.code ({ cls := "com/example/heft/heft/model/XPath$Comparison", name := "ordersNumbers", desc := "()Z" } : Jvm.MethodName) prog_107_method_6_code (1 : Nat) (Option.some Jvm.ClassFile.FieldType.boolean)) : Jvm.Cond).before a0 Z = true := hw _ (List.mem_of_getElem? (i := 12) rfl)
theorem tw13 {Z : State} {a0 : Array Value} (hw : ∀ d ∈ tables_1, d.before a0 Z = true) : ((Jvm.Cond.fieldLink "com/example/heft/heft/model/XPath$Comparison" (3 : Nat) "com/example/heft/heft/model/XPath$Comparison" "EQUAL" "Lcom/example/heft/heft/model/XPath$Comparison;") : Jvm.Cond).before a0 Z = true := hw _ (List.mem_of_getElem? (i := 13) rfl)
theorem tw14 {Z : State} {a0 : Array Value} (hw : ∀ d ∈ tables_1, d.before a0 Z = true) : ((Jvm.Cond.methodLink "com/example/heft/heft/model/ComparisonOrdersNumbersPinLaw" (39 : Nat) ({ cls := "com/example/heft/heft/model/XPath$Comparison", name := "holds", desc := "(DD)Z" } : Jvm.MethodName)) : Jvm.Cond).before a0 Z = true := hw _ (List.mem_of_getElem? (i := 14) rfl)
theorem tw15 {Z : State} {a0 : Array Value} (hw : ∀ d ∈ tables_1, d.before a0 Z = true) : ((Jvm.Cond.declares ({ cls := "com/example/heft/heft/model/XPath$Comparison", name := "holds", desc := "(DD)Z" } : Jvm.MethodName)) : Jvm.Cond).before a0 Z = true := hw _ (List.mem_of_getElem? (i := 15) rfl)
theorem tw16 {Z : State} {a0 : Array Value} (hw : ∀ d ∈ tables_1, d.before a0 Z = true) : ((Jvm.Cond.instanceMethod ({ cls := "com/example/heft/heft/model/XPath$Comparison", name := "holds", desc := "(DD)Z" } : Jvm.MethodName)) : Jvm.Cond).before a0 Z = true := hw _ (List.mem_of_getElem? (i := 16) rfl)
theorem tw17 {Z : State} {a0 : Array Value} (hw : ∀ d ∈ tables_1, d.before a0 Z = true) : ((Jvm.Cond.selects "com/example/heft/heft/model/XPath$Comparison" ({ cls := "com/example/heft/heft/model/XPath$Comparison", name := "holds", desc := "(DD)Z" } : Jvm.MethodName) ({ cls := "com/example/heft/heft/model/XPath$Comparison", name := "holds", desc := "(DD)Z" } : Jvm.MethodName)) : Jvm.Cond).before a0 Z = true := hw _ (List.mem_of_getElem? (i := 17) rfl)
theorem tw18 {Z : State} {a0 : Array Value} (hw : ∀ d ∈ tables_1, d.before a0 Z = true) : ((Jvm.Cond.code ({ cls := "com/example/heft/heft/model/XPath$Comparison", name := "holds", desc := "(DD)Z" } : Jvm.MethodName) prog_107_method_7_code (5 : Nat) (Option.some Jvm.ClassFile.FieldType.boolean)) : Jvm.Cond).before a0 Z = true := hw _ (List.mem_of_getElem? (i := 18) rfl)
theorem tw19 {Z : State} {a0 : Array Value} (hw : ∀ d ∈ tables_1, d.before a0 Z = true) : ((Jvm.Cond.methodLink "com/example/heft/heft/model/XPath$Comparison" (65 : Nat) ({ cls := "com/example/heft/heft/model/XPath$Comparison", name := "ordinal", desc := "()I" } : Jvm.MethodName)) : Jvm.Cond).before a0 Z = true := hw _ (List.mem_of_getElem? (i := 19) rfl)
theorem tw20 {Z : State} {a0 : Array Value} (hw : ∀ d ∈ tables_1, d.before a0 Z = true) : ((Jvm.Cond.sameMethod "com/example/heft/heft/model/XPath$Comparison" "java/lang/Enum" "ordinal" "()I") : Jvm.Cond).before a0 Z = true := hw _ (List.mem_of_getElem? (i := 20) rfl)
theorem tw21 {Z : State} {a0 : Array Value} (hw : ∀ d ∈ tables_1, d.before a0 Z = true) : ((Jvm.Cond.declares ({ cls := "java/lang/Enum", name := "ordinal", desc := "()I" } : Jvm.MethodName)) : Jvm.Cond).before a0 Z = true := hw _ (List.mem_of_getElem? (i := 21) rfl)
theorem tw22 {Z : State} {a0 : Array Value} (hw : ∀ d ∈ tables_1, d.before a0 Z = true) : ((Jvm.Cond.instanceMethod ({ cls := "java/lang/Enum", name := "ordinal", desc := "()I" } : Jvm.MethodName)) : Jvm.Cond).before a0 Z = true := hw _ (List.mem_of_getElem? (i := 22) rfl)
theorem tw23 {Z : State} {a0 : Array Value} (hw : ∀ d ∈ tables_1, d.before a0 Z = true) : ((Jvm.Cond.selects "com/example/heft/heft/model/XPath$Comparison" ({ cls := "com/example/heft/heft/model/XPath$Comparison", name := "ordinal", desc := "()I" } : Jvm.MethodName) ({ cls := "java/lang/Enum", name := "ordinal", desc := "()I" } : Jvm.MethodName)) : Jvm.Cond).before a0 Z = true := hw _ (List.mem_of_getElem? (i := 23) rfl)
theorem tw24 {Z : State} {a0 : Array Value} (hw : ∀ d ∈ tables_1, d.before a0 Z = true) : ((Jvm.Cond.initialized "java/lang/Enum") : Jvm.Cond).before a0 Z = true := hw _ (List.mem_of_getElem? (i := 24) rfl)
theorem tw25 {Z : State} {a0 : Array Value} (hw : ∀ d ∈ tables_1, d.before a0 Z = true) : ((Jvm.Cond.code ({ cls := "java/lang/Enum", name := "ordinal", desc := "()I" } : Jvm.MethodName) jdk_37_method_2_code (1 : Nat) (Option.some Jvm.ClassFile.FieldType.int)) : Jvm.Cond).before a0 Z = true := hw _ (List.mem_of_getElem? (i := 25) rfl)
theorem tw26 {Z : State} {a0 : Array Value} (hw : ∀ d ∈ tables_1, d.before a0 Z = true) : ((Jvm.Cond.fieldLink "java/lang/Enum" (7 : Nat) "java/lang/Enum" "ordinal" "I") : Jvm.Cond).before a0 Z = true := hw _ (List.mem_of_getElem? (i := 26) rfl)
theorem tw28 {Z : State} {a0 : Array Value} (hw : ∀ d ∈ tables_1, d.before a0 Z = true) : ((Jvm.Cond.methodLink "com/example/heft/heft/model/ComparisonOrdersNumbersPinLaw" (43 : Nat) ({ cls := "com/example/heft/heft/model/XPath$Comparison", name := "swapped", desc := "()Lcom/example/heft/heft/model/XPath$Comparison;" } : Jvm.MethodName)) : Jvm.Cond).before a0 Z = true := hw _ (List.mem_of_getElem? (i := 28) rfl)
theorem tw29 {Z : State} {a0 : Array Value} (hw : ∀ d ∈ tables_1, d.before a0 Z = true) : ((Jvm.Cond.declares ({ cls := "com/example/heft/heft/model/XPath$Comparison", name := "swapped", desc := "()Lcom/example/heft/heft/model/XPath$Comparison;" } : Jvm.MethodName)) : Jvm.Cond).before a0 Z = true := hw _ (List.mem_of_getElem? (i := 29) rfl)
theorem tw30 {Z : State} {a0 : Array Value} (hw : ∀ d ∈ tables_1, d.before a0 Z = true) : ((Jvm.Cond.instanceMethod ({ cls := "com/example/heft/heft/model/XPath$Comparison", name := "swapped", desc := "()Lcom/example/heft/heft/model/XPath$Comparison;" } : Jvm.MethodName)) : Jvm.Cond).before a0 Z = true := hw _ (List.mem_of_getElem? (i := 30) rfl)
theorem tw31 {Z : State} {a0 : Array Value} (hw : ∀ d ∈ tables_1, d.before a0 Z = true) : ((Jvm.Cond.selects "com/example/heft/heft/model/XPath$Comparison" ({ cls := "com/example/heft/heft/model/XPath$Comparison", name := "swapped", desc := "()Lcom/example/heft/heft/model/XPath$Comparison;" } : Jvm.MethodName) ({ cls := "com/example/heft/heft/model/XPath$Comparison", name := "swapped", desc := "()Lcom/example/heft/heft/model/XPath$Comparison;" } : Jvm.MethodName)) : Jvm.Cond).before a0 Z = true := hw _ (List.mem_of_getElem? (i := 31) rfl)
theorem tw32 {Z : State} {a0 : Array Value} (hw : ∀ d ∈ tables_1, d.before a0 Z = true) : ((Jvm.Cond.code ({ cls := "com/example/heft/heft/model/XPath$Comparison", name := "swapped", desc := "()Lcom/example/heft/heft/model/XPath$Comparison;" } : Jvm.MethodName) prog_107_method_5_code (1 : Nat) (Option.some (Jvm.ClassFile.FieldType.object "com/example/heft/heft/model/XPath$Comparison"))) : Jvm.Cond).before a0 Z = true := hw _ (List.mem_of_getElem? (i := 32) rfl)
theorem tw33 {Z : State} {a0 : Array Value} (hw : ∀ d ∈ tables_1, d.before a0 Z = true) : ((Jvm.Cond.fieldLink "com/example/heft/heft/model/ComparisonOrdersNumbersPinLaw" (16 : Nat) "com/example/heft/heft/model/XPath$Comparison" "LESS" "Lcom/example/heft/heft/model/XPath$Comparison;") : Jvm.Cond).before a0 Z = true := hw _ (List.mem_of_getElem? (i := 33) rfl)
theorem tw34 {Z : State} {a0 : Array Value} (hw : ∀ d ∈ tables_1, d.before a0 Z = true) : ((Jvm.Cond.laysStatic "com/example/heft/heft/model/XPath$Comparison" "LESS" "Lcom/example/heft/heft/model/XPath$Comparison;") : Jvm.Cond).before a0 Z = true := hw _ (List.mem_of_getElem? (i := 34) rfl)
theorem tw35 {Z : State} {a0 : Array Value} (hw : ∀ d ∈ tables_1, d.before a0 Z = true) : ((Jvm.Cond.fieldLink "com/example/heft/heft/model/XPath$Comparison" (7 : Nat) "com/example/heft/heft/model/XPath$Comparison" "NOT_EQUAL" "Lcom/example/heft/heft/model/XPath$Comparison;") : Jvm.Cond).before a0 Z = true := hw _ (List.mem_of_getElem? (i := 35) rfl)
theorem tw36 {Z : State} {a0 : Array Value} (hw : ∀ d ∈ tables_1, d.before a0 Z = true) : ((Jvm.Cond.laysStatic "com/example/heft/heft/model/XPath$Comparison" "NOT_EQUAL" "Lcom/example/heft/heft/model/XPath$Comparison;") : Jvm.Cond).before a0 Z = true := hw _ (List.mem_of_getElem? (i := 36) rfl)
theorem tw37 {Z : State} {a0 : Array Value} (hw : ∀ d ∈ tables_1, d.before a0 Z = true) : ((Jvm.Cond.fieldLink "com/example/heft/heft/model/XPath$Comparison" (16 : Nat) "com/example/heft/heft/model/XPath$Comparison" "GREATER" "Lcom/example/heft/heft/model/XPath$Comparison;") : Jvm.Cond).before a0 Z = true := hw _ (List.mem_of_getElem? (i := 37) rfl)
theorem tw38 {Z : State} {a0 : Array Value} (hw : ∀ d ∈ tables_1, d.before a0 Z = true) : ((Jvm.Cond.laysStatic "com/example/heft/heft/model/XPath$Comparison" "GREATER" "Lcom/example/heft/heft/model/XPath$Comparison;") : Jvm.Cond).before a0 Z = true := hw _ (List.mem_of_getElem? (i := 38) rfl)
theorem tw39 {Z : State} {a0 : Array Value} (hw : ∀ d ∈ tables_1, d.before a0 Z = true) : ((Jvm.Cond.fieldLink "com/example/heft/heft/model/ComparisonOrdersNumbersPinLaw" (22 : Nat) "com/example/heft/heft/model/XPath$Comparison" "GREATER" "Lcom/example/heft/heft/model/XPath$Comparison;") : Jvm.Cond).before a0 Z = true := hw _ (List.mem_of_getElem? (i := 39) rfl)
theorem tw40 {Z : State} {a0 : Array Value} (hw : ∀ d ∈ tables_1, d.before a0 Z = true) : ((Jvm.Cond.fieldLink "com/example/heft/heft/model/XPath$Comparison" (10 : Nat) "com/example/heft/heft/model/XPath$Comparison" "LESS" "Lcom/example/heft/heft/model/XPath$Comparison;") : Jvm.Cond).before a0 Z = true := hw _ (List.mem_of_getElem? (i := 40) rfl)
theorem tw41 {Z : State} {a0 : Array Value} (hw : ∀ d ∈ tables_1, d.before a0 Z = true) : ((Jvm.Cond.fieldLink "com/example/heft/heft/model/ComparisonOrdersNumbersPinLaw" (13 : Nat) "com/example/heft/heft/model/XPath$Comparison" "NOT_EQUAL" "Lcom/example/heft/heft/model/XPath$Comparison;") : Jvm.Cond).before a0 Z = true := hw _ (List.mem_of_getElem? (i := 41) rfl)
theorem tw42 {Z : State} {a0 : Array Value} (hw : ∀ d ∈ tables_1, d.before a0 Z = true) : ((Jvm.Cond.fieldLink "com/example/heft/heft/model/ComparisonOrdersNumbersPinLaw" (25 : Nat) "com/example/heft/heft/model/XPath$Comparison" "GREATER_OR_EQUAL" "Lcom/example/heft/heft/model/XPath$Comparison;") : Jvm.Cond).before a0 Z = true := hw _ (List.mem_of_getElem? (i := 42) rfl)
theorem tw43 {Z : State} {a0 : Array Value} (hw : ∀ d ∈ tables_1, d.before a0 Z = true) : ((Jvm.Cond.laysStatic "com/example/heft/heft/model/XPath$Comparison" "GREATER_OR_EQUAL" "Lcom/example/heft/heft/model/XPath$Comparison;") : Jvm.Cond).before a0 Z = true := hw _ (List.mem_of_getElem? (i := 43) rfl)
theorem tw44 {Z : State} {a0 : Array Value} (hw : ∀ d ∈ tables_1, d.before a0 Z = true) : ((Jvm.Cond.fieldLink "com/example/heft/heft/model/XPath$Comparison" (13 : Nat) "com/example/heft/heft/model/XPath$Comparison" "LESS_OR_EQUAL" "Lcom/example/heft/heft/model/XPath$Comparison;") : Jvm.Cond).before a0 Z = true := hw _ (List.mem_of_getElem? (i := 44) rfl)
theorem tw45 {Z : State} {a0 : Array Value} (hw : ∀ d ∈ tables_1, d.before a0 Z = true) : ((Jvm.Cond.laysStatic "com/example/heft/heft/model/XPath$Comparison" "LESS_OR_EQUAL" "Lcom/example/heft/heft/model/XPath$Comparison;") : Jvm.Cond).before a0 Z = true := hw _ (List.mem_of_getElem? (i := 45) rfl)
theorem tw46 {Z : State} {a0 : Array Value} (hw : ∀ d ∈ tables_1, d.before a0 Z = true) : ((Jvm.Cond.fieldLink "com/example/heft/heft/model/ComparisonOrdersNumbersPinLaw" (19 : Nat) "com/example/heft/heft/model/XPath$Comparison" "LESS_OR_EQUAL" "Lcom/example/heft/heft/model/XPath$Comparison;") : Jvm.Cond).before a0 Z = true := hw _ (List.mem_of_getElem? (i := 46) rfl)
theorem tw47 {Z : State} {a0 : Array Value} (hw : ∀ d ∈ tables_1, d.before a0 Z = true) : ((Jvm.Cond.fieldLink "com/example/heft/heft/model/XPath$Comparison" (19 : Nat) "com/example/heft/heft/model/XPath$Comparison" "GREATER_OR_EQUAL" "Lcom/example/heft/heft/model/XPath$Comparison;") : Jvm.Cond).before a0 Z = true := hw _ (List.mem_of_getElem? (i := 47) rfl)
theorem own_d1 : FP.dconst1 = FP.l2d 1 := by decide +kernel
abbrev G_pick0 (m : MethodId)  : JFrame := (entryFrame m #[(.int (0 : Int32))] 1)
theorem d1_0 : decode method_2_code 0 = .ok (.iload_n 0, 1) := by decide +kernel
theorem d1_1 : decode method_2_code 1 = .ok (.ifCond .ne 7, 3) := by decide +kernel
theorem d1_4 : decode method_2_code 4 = .ok (.getstatic 7, 3) := by decide +kernel
theorem d1_7 : decode method_2_code 7 = .ok (.areturn, 1) := by decide +kernel
def Q_pick0 (Z : State)  (w0 w1 w2 w3 w4 w5 : Addr) (h0 : Heap) (n0 : Nat) (v : Option Value) (h : Heap) (L : List Loc) : Prop := v = some (.ref w0) ∧ Fr n0 L ∧ h = h0
theorem pn_com_example_heft_heft_model_ComparisonOrdersNumbersPinLaw : plainName "com/example/heft/heft/model/ComparisonOrdersNumbersPinLaw" = true := by first | (simp [plainName, overriddenIn]; done) | decide +kernel
set_option maxRecDepth 65536 in
set_option maxHeartbeats 40000000 in
theorem pick0 (l : Launch) (Z : State) (a0 : Array Value) (hw : ∀ d ∈ tables_1, d.before a0 Z = true) (ws : List Jvm.Cond)  (w0 w1 w2 w3 w4 w5 : Addr) (h0 : Heap) (n0 : Nat) (Z0 : n0 ≤ h0.size) (S0 : Sta Z h0 "com/example/heft/heft/model/XPath$Comparison" "EQUAL" "Lcom/example/heft/heft/model/XPath$Comparison;" (.ref w0)) (S1 : Sta Z h0 "com/example/heft/heft/model/XPath$Comparison" "NOT_EQUAL" "Lcom/example/heft/heft/model/XPath$Comparison;" (.ref w1)) (S2 : Sta Z h0 "com/example/heft/heft/model/XPath$Comparison" "LESS" "Lcom/example/heft/heft/model/XPath$Comparison;" (.ref w2)) (S3 : Sta Z h0 "com/example/heft/heft/model/XPath$Comparison" "LESS_OR_EQUAL" "Lcom/example/heft/heft/model/XPath$Comparison;" (.ref w3)) (S4 : Sta Z h0 "com/example/heft/heft/model/XPath$Comparison" "GREATER" "Lcom/example/heft/heft/model/XPath$Comparison;" (.ref w4)) (S5 : Sta Z h0 "com/example/heft/heft/model/XPath$Comparison" "GREATER_OR_EQUAL" "Lcom/example/heft/heft/model/XPath$Comparison;" (.ref w5)) :
    MetFree l (⟨"com/example/heft/heft/model/ComparisonOrdersNumbersPinLaw", "pick", "(I)Lcom/example/heft/heft/model/XPath$Comparison;"⟩ : MethodName) (head1 (Jvm.Cond.code (⟨"com/example/heft/heft/model/ComparisonOrdersNumbersPinLaw", "pick", "(I)Lcom/example/heft/heft/model/XPath$Comparison;"⟩ : MethodName) method_2_code 1 (some (.object "com/example/heft/heft/model/XPath$Comparison")) :: ws) ({ frames := 0, cells := 0, slots := 0, locals := 0 } : Room)) (fun a U => a = #[(.int (0 : Int32))] ∧ Z.Warmed39 U.vm ∧ U.heap = h0) (fun _ _ _ _ _ => True) (fun _ U o U' => ∃ v L, o = .returned v ∧ Q_pick0 Z w0 w1 w2 w3 w4 w5 h0 n0 v U'.heap L ∧ FrameEnd U o U' L ({ frames := 0, cells := 0, slots := 0, locals := 0 } : Room).cells ({ frames := 0, cells := 0, slots := 0, locals := 0 } : Room).slots) := by
  refine MetFree.of_bodySF (plainFor_of_name pn_com_example_heft_heft_model_ComparisonOrdersNumbersPinLaw) hisR ?_
  intro p e s m args below meth c s₁ Bd hml0 hP hK
  obtain ⟨rfl, hZ, hh⟩ := hP
  have hx := Bd.exec
  have hby := Bd.bytes
  have hml : c.maxLocals = 1 := hml0
  have hown : s.vm.findClass "com/example/heft/heft/model/ComparisonOrdersNumbersPinLaw" = some m.cls := findClass_of_methodNamed Bd.named
  have hnm := (name_of_methodNamed Bd.named Bd.method).1
  have X0 : Stand p l e ({ frames := 0, cells := 0, slots := 0, locals := 0 } : Room) s m #[(.int (0 : Int32))] below meth c s₁ [] 0 0 := Stand.of_body Bd
  have e0 : s₁.heap = h0 := by rw [← hh, Bd.state]; rfl
  have N0 := Fr.nil n0
  have go0 : Goes p e below s₁ (G_pick0 m) s₁ (mkF m 0 #[.val (.int (0 : Int32))] []) := fun tq kq => castTop (by first | (simp [entryFrame, mkF, argsToLocals, Value.category, G_pick0]; done) | rfl) kq
  have go1 : Goes p e below s₁ (G_pick0 m) s₁ (mkF m 1 #[.val (.int (0 : Int32))] [(.int (0 : Int32))]) := fun tq kq => go0 tq (by
    show Steps p.tables e below (s₁.setTop (mkF m 0 #[.val (.int (0 : Int32))] [])) _
    refine XS.iloadN X0.here hx rfl (hb hby d1_0) rfl ?_
    exact kq)
  have go2 : Goes p e below s₁ (G_pick0 m) s₁ (mkF m 4 #[.val (.int (0 : Int32))] []) := fun tq kq => go1 tq (by
    show Steps p.tables e below (s₁.setTop (mkF m 1 #[.val (.int (0 : Int32))] [(.int (0 : Int32))])) _
    refine XS.ifNo X0.here hx rfl (hb hby d1_1) rfl ((if0 _ _).trans (teq (by decide)).2) ?_
    exact kq)
  obtain ⟨T3, X3, e3, st3⟩ := getS2 X0 hx hZ hown (host := "") (Or.inl (tw5 hw)) Via.refl e0 S0 (g := (mkF m 4 #[.val (.int (0 : Int32))] [])) rfl (hb hby d1_4)
  have go3 : Goes p e below s₁ (G_pick0 m) T3 (mkF m 7 #[.val (.int (0 : Int32))] [(.ref w0)]) := fun tq kq => go2 tq (st3 _ kq)
  obtain ⟨fs, hr, hrun, hended, hW, hsame⟩ := X3.leave (v := some (.ref w0)) (fun h => by rw [Bd.returns] at h; cases h)
  refine ⟨_, _, go3 _ ?_, hrun, hended, _, _, rfl, ?_, ⟨_, rfl⟩, hW, hsame.mono (by decide) (by decide)⟩
  · jvm_step X3.here [X3.here.top, hx, (hb hby d1_7), X3.method', Bd.returns, Value.isRef, FieldType.isReference]
    first | (intro acts; rw [hr _ acts rfl rfl rfl]) | rw [hr _ _ rfl rfl rfl]
    exact Steps.refl _
  · show Q_pick0 Z w0 w1 w2 w3 w4 w5 h0 n0 _ T3.heap _
    rw [e3]
    exact ⟨rfl, N0, rfl⟩
abbrev G_ord0 (m : MethodId) (w0 : Addr) : JFrame := (entryFrame m #[(.ref w0)] 1)
theorem d2_0 : decode prog_107_method_6_code 0 = .ok (.aload_n 0, 1) := by decide +kernel
theorem d2_1 : decode prog_107_method_6_code 1 = .ok (.getstatic 3, 3) := by decide +kernel
theorem d2_4 : decode prog_107_method_6_code 4 = .ok (.if_acmp .eq 14, 3) := by decide +kernel
theorem d2_18 : decode prog_107_method_6_code 18 = .ok (.iconst 0, 1) := by decide +kernel
theorem d2_19 : decode prog_107_method_6_code 19 = .ok (.ireturn, 1) := by decide +kernel
def Q_ord0 (Z : State)  (w0 w1 w2 w3 w4 w5 : Addr) (h0 : Heap) (n0 : Nat) (v : Option Value) (h : Heap) (L : List Loc) : Prop := v = some (.int (0 : Int32)) ∧ Fr n0 L ∧ h = h0
theorem pn_com_example_heft_heft_model_XPath_Comparison : plainName "com/example/heft/heft/model/XPath$Comparison" = true := by first | (simp [plainName, overriddenIn]; done) | decide +kernel
set_option maxRecDepth 65536 in
set_option maxHeartbeats 40000000 in
theorem ord0 (l : Launch) (Z : State) (a0 : Array Value) (hw : ∀ d ∈ tables_1, d.before a0 Z = true) (ws : List Jvm.Cond)  (w0 w1 w2 w3 w4 w5 : Addr) (h0 : Heap) (n0 : Nat) (Z0 : n0 ≤ h0.size) (S0 : Sta Z h0 "com/example/heft/heft/model/XPath$Comparison" "EQUAL" "Lcom/example/heft/heft/model/XPath$Comparison;" (.ref w0)) (S1 : Sta Z h0 "com/example/heft/heft/model/XPath$Comparison" "NOT_EQUAL" "Lcom/example/heft/heft/model/XPath$Comparison;" (.ref w1)) (S2 : Sta Z h0 "com/example/heft/heft/model/XPath$Comparison" "LESS" "Lcom/example/heft/heft/model/XPath$Comparison;" (.ref w2)) (S3 : Sta Z h0 "com/example/heft/heft/model/XPath$Comparison" "LESS_OR_EQUAL" "Lcom/example/heft/heft/model/XPath$Comparison;" (.ref w3)) (S4 : Sta Z h0 "com/example/heft/heft/model/XPath$Comparison" "GREATER" "Lcom/example/heft/heft/model/XPath$Comparison;" (.ref w4)) (S5 : Sta Z h0 "com/example/heft/heft/model/XPath$Comparison" "GREATER_OR_EQUAL" "Lcom/example/heft/heft/model/XPath$Comparison;" (.ref w5)) :
    MetFree l (⟨"com/example/heft/heft/model/XPath$Comparison", "ordersNumbers", "()Z"⟩ : MethodName) (head1 (Jvm.Cond.code (⟨"com/example/heft/heft/model/XPath$Comparison", "ordersNumbers", "()Z"⟩ : MethodName) prog_107_method_6_code 1 (some .boolean) :: ws) ({ frames := 0, cells := 0, slots := 0, locals := 0 } : Room)) (fun a U => a = #[(.ref w0)] ∧ Z.Warmed39 U.vm ∧ U.heap = h0) (fun _ _ _ _ _ => True) (fun _ U o U' => ∃ v L, o = .returned v ∧ Q_ord0 Z w0 w1 w2 w3 w4 w5 h0 n0 v U'.heap L ∧ FrameEnd U o U' L ({ frames := 0, cells := 0, slots := 0, locals := 0 } : Room).cells ({ frames := 0, cells := 0, slots := 0, locals := 0 } : Room).slots) := by
  refine MetFree.of_bodySF (plainFor_of_name pn_com_example_heft_heft_model_XPath_Comparison) hisR ?_
  intro p e s m args below meth c s₁ Bd hml0 hP hK
  obtain ⟨rfl, hZ, hh⟩ := hP
  have hx := Bd.exec
  have hby := Bd.bytes
  have hml : c.maxLocals = 1 := hml0
  have hown : s.vm.findClass "com/example/heft/heft/model/XPath$Comparison" = some m.cls := findClass_of_methodNamed Bd.named
  have hnm := (name_of_methodNamed Bd.named Bd.method).1
  have X0 : Stand p l e ({ frames := 0, cells := 0, slots := 0, locals := 0 } : Room) s m #[(.ref w0)] below meth c s₁ [] 0 0 := Stand.of_body Bd
  have e0 : s₁.heap = h0 := by rw [← hh, Bd.state]; rfl
  have N0 := Fr.nil n0
  have go0 : Goes p e below s₁ (G_ord0 m w0) s₁ (mkF m 0 #[.val (.ref w0)] []) := fun tq kq => castTop (by first | (simp [entryFrame, mkF, argsToLocals, Value.category, G_ord0]; done) | rfl) kq
  have go4 : Goes p e below s₁ (G_ord0 m w0) s₁ (mkF m 1 #[.val (.ref w0)] [(.ref w0)]) := fun tq kq => go0 tq (by
    show Steps p.tables e below (s₁.setTop (mkF m 0 #[.val (.ref w0)] [])) _
    refine XS.aloadN X0.here hx rfl (hb hby d2_0) rfl rfl ?_
    exact kq)
  obtain ⟨T5, X5, e5, st5⟩ := getS2 X0 hx hZ hown (host := "") (Or.inl (tw13 hw)) Via.refl e0 S0 (g := (mkF m 1 #[.val (.ref w0)] [(.ref w0)])) rfl (hb hby d2_1)
  have go5 : Goes p e below s₁ (G_ord0 m w0) T5 (mkF m 4 #[.val (.ref w0)] [(.ref w0), (.ref w0)]) := fun tq kq => go4 tq (st5 _ kq)
  have go6 : Goes p e below s₁ (G_ord0 m w0) T5 (mkF m 19 #[.val (.ref w0)] [(.int (0 : Int32))]) := fun tq kq => go5 tq (by
    show Steps p.tables e below (T5.setTop (mkF m 4 #[.val (.ref w0)] [(.ref w0), (.ref w0)])) _
    refine Jvm.RoadKit.acmp (g := (mkF m 4 #[.val (.ref w0)] [(.ref w0), (.ref w0)])) X5 hx rfl rfl rfl (pc0 := 4) (pc' := 18) (same := true) rfl (hb hby d2_4) rfl (decide_eq_true rfl) (by decide) (by decide) ?_
    show Steps p.tables e below (T5.setTop (mkF m 18 #[.val (.ref w0)] [])) _
    refine XS.iconst X5.here hx rfl (hb hby d2_18) ?_
    exact kq)
  obtain ⟨fs, hr, hrun, hended, hW, hsame⟩ := X5.leave (v := some (.int (0 : Int32))) (fun h => by rw [Bd.returns] at h; cases h)
  refine ⟨_, _, go6 _ ?_, hrun, hended, _, _, rfl, ?_, ⟨_, rfl⟩, hW, hsame.mono (by decide) (by decide)⟩
  · exact retN X5 hx (t := .boolean) Bd.returns (by simp) (hb hby d2_19) hr
  · show Q_ord0 Z w0 w1 w2 w3 w4 w5 h0 n0 _ T5.heap _
    rw [e5]
    exact ⟨rfl, N0, rfl⟩
abbrev G_pick1 (m : MethodId)  : JFrame := (entryFrame m #[(.int (1 : Int32))] 1)
theorem d1_8 : decode method_2_code 8 = .ok (.iload_n 0, 1) := by decide +kernel
theorem d1_9 : decode method_2_code 9 = .ok (.iconst 1, 1) := by decide +kernel
theorem d1_10 : decode method_2_code 10 = .ok (.if_icmp .ne 7, 3) := by decide +kernel
theorem d1_13 : decode method_2_code 13 = .ok (.getstatic 13, 3) := by decide +kernel
theorem d1_16 : decode method_2_code 16 = .ok (.areturn, 1) := by decide +kernel
def Q_pick1 (Z : State)  (w0 w1 w2 w3 w4 w5 : Addr) (h0 : Heap) (n0 : Nat) (v : Option Value) (h : Heap) (L : List Loc) : Prop := v = some (.ref w1) ∧ Fr n0 L ∧ h = h0
set_option maxRecDepth 65536 in
set_option maxHeartbeats 40000000 in
theorem pick1 (l : Launch) (Z : State) (a0 : Array Value) (hw : ∀ d ∈ tables_1, d.before a0 Z = true) (ws : List Jvm.Cond)  (w0 w1 w2 w3 w4 w5 : Addr) (h0 : Heap) (n0 : Nat) (Z0 : n0 ≤ h0.size) (S0 : Sta Z h0 "com/example/heft/heft/model/XPath$Comparison" "EQUAL" "Lcom/example/heft/heft/model/XPath$Comparison;" (.ref w0)) (S1 : Sta Z h0 "com/example/heft/heft/model/XPath$Comparison" "NOT_EQUAL" "Lcom/example/heft/heft/model/XPath$Comparison;" (.ref w1)) (S2 : Sta Z h0 "com/example/heft/heft/model/XPath$Comparison" "LESS" "Lcom/example/heft/heft/model/XPath$Comparison;" (.ref w2)) (S3 : Sta Z h0 "com/example/heft/heft/model/XPath$Comparison" "LESS_OR_EQUAL" "Lcom/example/heft/heft/model/XPath$Comparison;" (.ref w3)) (S4 : Sta Z h0 "com/example/heft/heft/model/XPath$Comparison" "GREATER" "Lcom/example/heft/heft/model/XPath$Comparison;" (.ref w4)) (S5 : Sta Z h0 "com/example/heft/heft/model/XPath$Comparison" "GREATER_OR_EQUAL" "Lcom/example/heft/heft/model/XPath$Comparison;" (.ref w5)) :
    MetFree l (⟨"com/example/heft/heft/model/ComparisonOrdersNumbersPinLaw", "pick", "(I)Lcom/example/heft/heft/model/XPath$Comparison;"⟩ : MethodName) (head1 (Jvm.Cond.code (⟨"com/example/heft/heft/model/ComparisonOrdersNumbersPinLaw", "pick", "(I)Lcom/example/heft/heft/model/XPath$Comparison;"⟩ : MethodName) method_2_code 1 (some (.object "com/example/heft/heft/model/XPath$Comparison")) :: ws) ({ frames := 0, cells := 0, slots := 0, locals := 0 } : Room)) (fun a U => a = #[(.int (1 : Int32))] ∧ Z.Warmed39 U.vm ∧ U.heap = h0) (fun _ _ _ _ _ => True) (fun _ U o U' => ∃ v L, o = .returned v ∧ Q_pick1 Z w0 w1 w2 w3 w4 w5 h0 n0 v U'.heap L ∧ FrameEnd U o U' L ({ frames := 0, cells := 0, slots := 0, locals := 0 } : Room).cells ({ frames := 0, cells := 0, slots := 0, locals := 0 } : Room).slots) := by
  refine MetFree.of_bodySF (plainFor_of_name pn_com_example_heft_heft_model_ComparisonOrdersNumbersPinLaw) hisR ?_
  intro p e s m args below meth c s₁ Bd hml0 hP hK
  obtain ⟨rfl, hZ, hh⟩ := hP
  have hx := Bd.exec
  have hby := Bd.bytes
  have hml : c.maxLocals = 1 := hml0
  have hown : s.vm.findClass "com/example/heft/heft/model/ComparisonOrdersNumbersPinLaw" = some m.cls := findClass_of_methodNamed Bd.named
  have hnm := (name_of_methodNamed Bd.named Bd.method).1
  have X0 : Stand p l e ({ frames := 0, cells := 0, slots := 0, locals := 0 } : Room) s m #[(.int (1 : Int32))] below meth c s₁ [] 0 0 := Stand.of_body Bd
  have e0 : s₁.heap = h0 := by rw [← hh, Bd.state]; rfl
  have N0 := Fr.nil n0
  have go0 : Goes p e below s₁ (G_pick1 m) s₁ (mkF m 0 #[.val (.int (1 : Int32))] []) := fun tq kq => castTop (by first | (simp [entryFrame, mkF, argsToLocals, Value.category, G_pick1]; done) | rfl) kq
  have go7 : Goes p e below s₁ (G_pick1 m) s₁ (mkF m 1 #[.val (.int (1 : Int32))] [(.int (1 : Int32))]) := fun tq kq => go0 tq (by
    show Steps p.tables e below (s₁.setTop (mkF m 0 #[.val (.int (1 : Int32))] [])) _
    refine XS.iloadN X0.here hx rfl (hb hby d1_0) rfl ?_
    exact kq)
  have go8 : Goes p e below s₁ (G_pick1 m) s₁ (mkF m 10 #[.val (.int (1 : Int32))] [(.int (1 : Int32)), (.int (1 : Int32))]) := fun tq kq => go7 tq (by
    show Steps p.tables e below (s₁.setTop (mkF m 1 #[.val (.int (1 : Int32))] [(.int (1 : Int32))])) _
    refine XS.ifYes X0.here hx rfl (pc0 := 1) (pc' := 8) rfl (hb hby d1_1) rfl ((if0 _ _).trans (feq (by decide)).2) (by decide) (by decide) ?_
    show Steps p.tables e below (s₁.setTop (mkF m 8 #[.val (.int (1 : Int32))] [])) _
    refine XS.iloadN X0.here hx rfl (hb hby d1_8) rfl ?_
    show Steps p.tables e below (s₁.setTop (mkF m 9 #[.val (.int (1 : Int32))] [(.int (1 : Int32))])) _
    refine XS.iconst X0.here hx rfl (hb hby d1_9) ?_
    exact kq)
  have go9 : Goes p e below s₁ (G_pick1 m) s₁ (mkF m 13 #[.val (.int (1 : Int32))] []) := fun tq kq => go8 tq (by
    show Steps p.tables e below (s₁.setTop (mkF m 10 #[.val (.int (1 : Int32))] [(.int (1 : Int32)), (.int (1 : Int32))])) _
    refine XS.icmpNo X0.here hx rfl (hb hby d1_10) rfl (teq (by decide)).2 ?_
    exact kq)
  obtain ⟨T10, X10, e10, st10⟩ := getS2 X0 hx hZ hown (host := "") (Or.inl (tw41 hw)) Via.refl e0 S1 (g := (mkF m 13 #[.val (.int (1 : Int32))] [])) rfl (hb hby d1_13)
  have go10 : Goes p e below s₁ (G_pick1 m) T10 (mkF m 16 #[.val (.int (1 : Int32))] [(.ref w1)]) := fun tq kq => go9 tq (st10 _ kq)
  obtain ⟨fs, hr, hrun, hended, hW, hsame⟩ := X10.leave (v := some (.ref w1)) (fun h => by rw [Bd.returns] at h; cases h)
  refine ⟨_, _, go10 _ ?_, hrun, hended, _, _, rfl, ?_, ⟨_, rfl⟩, hW, hsame.mono (by decide) (by decide)⟩
  · jvm_step X10.here [X10.here.top, hx, (hb hby d1_16), X10.method', Bd.returns, Value.isRef, FieldType.isReference]
    first | (intro acts; rw [hr _ acts rfl rfl rfl]) | rw [hr _ _ rfl rfl rfl]
    exact Steps.refl _
  · show Q_pick1 Z w0 w1 w2 w3 w4 w5 h0 n0 _ T10.heap _
    rw [e10]
    exact ⟨rfl, N0, rfl⟩
abbrev G_ord1 (m : MethodId) (w1 : Addr) : JFrame := (entryFrame m #[(.ref w1)] 1)
theorem d2_7 : decode prog_107_method_6_code 7 = .ok (.aload_n 0, 1) := by decide +kernel
theorem d2_8 : decode prog_107_method_6_code 8 = .ok (.getstatic 7, 3) := by decide +kernel
theorem d2_11 : decode prog_107_method_6_code 11 = .ok (.if_acmp .eq 7, 3) := by decide +kernel
def Q_ord1 (Z : State)  (w0 w1 w2 w3 w4 w5 : Addr) (h0 : Heap) (n0 : Nat) (v : Option Value) (h : Heap) (L : List Loc) : Prop := v = some (.int (0 : Int32)) ∧ Fr n0 L ∧ h = h0
set_option maxRecDepth 65536 in
set_option maxHeartbeats 40000000 in
theorem ord1 (l : Launch) (Z : State) (a0 : Array Value) (hw : ∀ d ∈ tables_1, d.before a0 Z = true) (ws : List Jvm.Cond)  (w0 w1 w2 w3 w4 w5 : Addr) (h0 : Heap) (n0 : Nat) (Z0 : n0 ≤ h0.size) (S0 : Sta Z h0 "com/example/heft/heft/model/XPath$Comparison" "EQUAL" "Lcom/example/heft/heft/model/XPath$Comparison;" (.ref w0)) (S1 : Sta Z h0 "com/example/heft/heft/model/XPath$Comparison" "NOT_EQUAL" "Lcom/example/heft/heft/model/XPath$Comparison;" (.ref w1)) (S2 : Sta Z h0 "com/example/heft/heft/model/XPath$Comparison" "LESS" "Lcom/example/heft/heft/model/XPath$Comparison;" (.ref w2)) (S3 : Sta Z h0 "com/example/heft/heft/model/XPath$Comparison" "LESS_OR_EQUAL" "Lcom/example/heft/heft/model/XPath$Comparison;" (.ref w3)) (S4 : Sta Z h0 "com/example/heft/heft/model/XPath$Comparison" "GREATER" "Lcom/example/heft/heft/model/XPath$Comparison;" (.ref w4)) (S5 : Sta Z h0 "com/example/heft/heft/model/XPath$Comparison" "GREATER_OR_EQUAL" "Lcom/example/heft/heft/model/XPath$Comparison;" (.ref w5)) (n0k : ¬ (w1 = w0)) :
    MetFree l (⟨"com/example/heft/heft/model/XPath$Comparison", "ordersNumbers", "()Z"⟩ : MethodName) (head1 (Jvm.Cond.code (⟨"com/example/heft/heft/model/XPath$Comparison", "ordersNumbers", "()Z"⟩ : MethodName) prog_107_method_6_code 1 (some .boolean) :: ws) ({ frames := 0, cells := 0, slots := 0, locals := 0 } : Room)) (fun a U => a = #[(.ref w1)] ∧ Z.Warmed39 U.vm ∧ U.heap = h0) (fun _ _ _ _ _ => True) (fun _ U o U' => ∃ v L, o = .returned v ∧ Q_ord1 Z w0 w1 w2 w3 w4 w5 h0 n0 v U'.heap L ∧ FrameEnd U o U' L ({ frames := 0, cells := 0, slots := 0, locals := 0 } : Room).cells ({ frames := 0, cells := 0, slots := 0, locals := 0 } : Room).slots) := by
  refine MetFree.of_bodySF (plainFor_of_name pn_com_example_heft_heft_model_XPath_Comparison) hisR ?_
  intro p e s m args below meth c s₁ Bd hml0 hP hK
  obtain ⟨rfl, hZ, hh⟩ := hP
  have hx := Bd.exec
  have hby := Bd.bytes
  have hml : c.maxLocals = 1 := hml0
  have hown : s.vm.findClass "com/example/heft/heft/model/XPath$Comparison" = some m.cls := findClass_of_methodNamed Bd.named
  have hnm := (name_of_methodNamed Bd.named Bd.method).1
  have X0 : Stand p l e ({ frames := 0, cells := 0, slots := 0, locals := 0 } : Room) s m #[(.ref w1)] below meth c s₁ [] 0 0 := Stand.of_body Bd
  have e0 : s₁.heap = h0 := by rw [← hh, Bd.state]; rfl
  have N0 := Fr.nil n0
  have go0 : Goes p e below s₁ (G_ord1 m w1) s₁ (mkF m 0 #[.val (.ref w1)] []) := fun tq kq => castTop (by first | (simp [entryFrame, mkF, argsToLocals, Value.category, G_ord1]; done) | rfl) kq
  have go11 : Goes p e below s₁ (G_ord1 m w1) s₁ (mkF m 1 #[.val (.ref w1)] [(.ref w1)]) := fun tq kq => go0 tq (by
    show Steps p.tables e below (s₁.setTop (mkF m 0 #[.val (.ref w1)] [])) _
    refine XS.aloadN X0.here hx rfl (hb hby d2_0) rfl rfl ?_
    exact kq)
  obtain ⟨T12, X12, e12, st12⟩ := getS2 X0 hx hZ hown (host := "") (Or.inl (tw13 hw)) Via.refl e0 S0 (g := (mkF m 1 #[.val (.ref w1)] [(.ref w1)])) rfl (hb hby d2_1)
  have go12 : Goes p e below s₁ (G_ord1 m w1) T12 (mkF m 4 #[.val (.ref w1)] [(.ref w0), (.ref w1)]) := fun tq kq => go11 tq (st12 _ kq)
  have go13 : Goes p e below s₁ (G_ord1 m w1) T12 (mkF m 8 #[.val (.ref w1)] [(.ref w1)]) := fun tq kq => go12 tq (by
    show Steps p.tables e below (T12.setTop (mkF m 4 #[.val (.ref w1)] [(.ref w0), (.ref w1)])) _
    refine Jvm.RoadKit.acmp (g := (mkF m 4 #[.val (.ref w1)] [(.ref w0), (.ref w1)])) X12 hx rfl rfl rfl (pc0 := 4) (pc' := 7) (same := false) rfl (hb hby d2_4) rfl (decide_eq_false fun q => n0k (Value.ref.inj q)) (by decide) (by decide) ?_
    show Steps p.tables e below (T12.setTop (mkF m 7 #[.val (.ref w1)] [])) _
    refine XS.aloadN X12.here hx rfl (hb hby d2_7) rfl rfl ?_
    exact kq)
  obtain ⟨T14, X14, e14, st14⟩ := getS2 X12 hx hZ hown (host := "") (Or.inl (tw35 hw)) Via.refl e12 S1 (g := (mkF m 8 #[.val (.ref w1)] [(.ref w1)])) rfl (hb hby d2_8)
  have go14 : Goes p e below s₁ (G_ord1 m w1) T14 (mkF m 11 #[.val (.ref w1)] [(.ref w1), (.ref w1)]) := fun tq kq => go13 tq (st14 _ kq)
  have go15 : Goes p e below s₁ (G_ord1 m w1) T14 (mkF m 19 #[.val (.ref w1)] [(.int (0 : Int32))]) := fun tq kq => go14 tq (by
    show Steps p.tables e below (T14.setTop (mkF m 11 #[.val (.ref w1)] [(.ref w1), (.ref w1)])) _
    refine Jvm.RoadKit.acmp (g := (mkF m 11 #[.val (.ref w1)] [(.ref w1), (.ref w1)])) X14 hx rfl rfl rfl (pc0 := 11) (pc' := 18) (same := true) rfl (hb hby d2_11) rfl (decide_eq_true rfl) (by decide) (by decide) ?_
    show Steps p.tables e below (T14.setTop (mkF m 18 #[.val (.ref w1)] [])) _
    refine XS.iconst X14.here hx rfl (hb hby d2_18) ?_
    exact kq)
  obtain ⟨fs, hr, hrun, hended, hW, hsame⟩ := X14.leave (v := some (.int (0 : Int32))) (fun h => by rw [Bd.returns] at h; cases h)
  refine ⟨_, _, go15 _ ?_, hrun, hended, _, _, rfl, ?_, ⟨_, rfl⟩, hW, hsame.mono (by decide) (by decide)⟩
  · exact retN X14 hx (t := .boolean) Bd.returns (by simp) (hb hby d2_19) hr
  · show Q_ord1 Z w0 w1 w2 w3 w4 w5 h0 n0 _ T14.heap _
    rw [e14]
    exact ⟨rfl, N0, rfl⟩
abbrev G_pick2 (m : MethodId)  : JFrame := (entryFrame m #[(.int (2 : Int32))] 1)
theorem d1_17 : decode method_2_code 17 = .ok (.iload_n 0, 1) := by decide +kernel
theorem d1_18 : decode method_2_code 18 = .ok (.iconst 2, 1) := by decide +kernel
theorem d1_19 : decode method_2_code 19 = .ok (.if_icmp .ne 7, 3) := by decide +kernel
theorem d1_22 : decode method_2_code 22 = .ok (.getstatic 16, 3) := by decide +kernel
theorem d1_25 : decode method_2_code 25 = .ok (.areturn, 1) := by decide +kernel
def Q_pick2 (Z : State)  (w0 w1 w2 w3 w4 w5 : Addr) (h0 : Heap) (n0 : Nat) (v : Option Value) (h : Heap) (L : List Loc) : Prop := v = some (.ref w2) ∧ Fr n0 L ∧ h = h0
set_option maxRecDepth 65536 in
set_option maxHeartbeats 40000000 in
theorem pick2 (l : Launch) (Z : State) (a0 : Array Value) (hw : ∀ d ∈ tables_1, d.before a0 Z = true) (ws : List Jvm.Cond)  (w0 w1 w2 w3 w4 w5 : Addr) (h0 : Heap) (n0 : Nat) (Z0 : n0 ≤ h0.size) (S0 : Sta Z h0 "com/example/heft/heft/model/XPath$Comparison" "EQUAL" "Lcom/example/heft/heft/model/XPath$Comparison;" (.ref w0)) (S1 : Sta Z h0 "com/example/heft/heft/model/XPath$Comparison" "NOT_EQUAL" "Lcom/example/heft/heft/model/XPath$Comparison;" (.ref w1)) (S2 : Sta Z h0 "com/example/heft/heft/model/XPath$Comparison" "LESS" "Lcom/example/heft/heft/model/XPath$Comparison;" (.ref w2)) (S3 : Sta Z h0 "com/example/heft/heft/model/XPath$Comparison" "LESS_OR_EQUAL" "Lcom/example/heft/heft/model/XPath$Comparison;" (.ref w3)) (S4 : Sta Z h0 "com/example/heft/heft/model/XPath$Comparison" "GREATER" "Lcom/example/heft/heft/model/XPath$Comparison;" (.ref w4)) (S5 : Sta Z h0 "com/example/heft/heft/model/XPath$Comparison" "GREATER_OR_EQUAL" "Lcom/example/heft/heft/model/XPath$Comparison;" (.ref w5)) :
    MetFree l (⟨"com/example/heft/heft/model/ComparisonOrdersNumbersPinLaw", "pick", "(I)Lcom/example/heft/heft/model/XPath$Comparison;"⟩ : MethodName) (head1 (Jvm.Cond.code (⟨"com/example/heft/heft/model/ComparisonOrdersNumbersPinLaw", "pick", "(I)Lcom/example/heft/heft/model/XPath$Comparison;"⟩ : MethodName) method_2_code 1 (some (.object "com/example/heft/heft/model/XPath$Comparison")) :: ws) ({ frames := 0, cells := 0, slots := 0, locals := 0 } : Room)) (fun a U => a = #[(.int (2 : Int32))] ∧ Z.Warmed39 U.vm ∧ U.heap = h0) (fun _ _ _ _ _ => True) (fun _ U o U' => ∃ v L, o = .returned v ∧ Q_pick2 Z w0 w1 w2 w3 w4 w5 h0 n0 v U'.heap L ∧ FrameEnd U o U' L ({ frames := 0, cells := 0, slots := 0, locals := 0 } : Room).cells ({ frames := 0, cells := 0, slots := 0, locals := 0 } : Room).slots) := by
  refine MetFree.of_bodySF (plainFor_of_name pn_com_example_heft_heft_model_ComparisonOrdersNumbersPinLaw) hisR ?_
  intro p e s m args below meth c s₁ Bd hml0 hP hK
  obtain ⟨rfl, hZ, hh⟩ := hP
  have hx := Bd.exec
  have hby := Bd.bytes
  have hml : c.maxLocals = 1 := hml0
  have hown : s.vm.findClass "com/example/heft/heft/model/ComparisonOrdersNumbersPinLaw" = some m.cls := findClass_of_methodNamed Bd.named
  have hnm := (name_of_methodNamed Bd.named Bd.method).1
  have X0 : Stand p l e ({ frames := 0, cells := 0, slots := 0, locals := 0 } : Room) s m #[(.int (2 : Int32))] below meth c s₁ [] 0 0 := Stand.of_body Bd
  have e0 : s₁.heap = h0 := by rw [← hh, Bd.state]; rfl
  have N0 := Fr.nil n0
  have go0 : Goes p e below s₁ (G_pick2 m) s₁ (mkF m 0 #[.val (.int (2 : Int32))] []) := fun tq kq => castTop (by first | (simp [entryFrame, mkF, argsToLocals, Value.category, G_pick2]; done) | rfl) kq
  have go16 : Goes p e below s₁ (G_pick2 m) s₁ (mkF m 1 #[.val (.int (2 : Int32))] [(.int (2 : Int32))]) := fun tq kq => go0 tq (by
    show Steps p.tables e below (s₁.setTop (mkF m 0 #[.val (.int (2 : Int32))] [])) _
    refine XS.iloadN X0.here hx rfl (hb hby d1_0) rfl ?_
    exact kq)
  have go17 : Goes p e below s₁ (G_pick2 m) s₁ (mkF m 10 #[.val (.int (2 : Int32))] [(.int (1 : Int32)), (.int (2 : Int32))]) := fun tq kq => go16 tq (by
    show Steps p.tables e below (s₁.setTop (mkF m 1 #[.val (.int (2 : Int32))] [(.int (2 : Int32))])) _
    refine XS.ifYes X0.here hx rfl (pc0 := 1) (pc' := 8) rfl (hb hby d1_1) rfl ((if0 _ _).trans (feq (by decide)).2) (by decide) (by decide) ?_
    show Steps p.tables e below (s₁.setTop (mkF m 8 #[.val (.int (2 : Int32))] [])) _
    refine XS.iloadN X0.here hx rfl (hb hby d1_8) rfl ?_
    show Steps p.tables e below (s₁.setTop (mkF m 9 #[.val (.int (2 : Int32))] [(.int (2 : Int32))])) _
    refine XS.iconst X0.here hx rfl (hb hby d1_9) ?_
    exact kq)
  have go18 : Goes p e below s₁ (G_pick2 m) s₁ (mkF m 19 #[.val (.int (2 : Int32))] [(.int (2 : Int32)), (.int (2 : Int32))]) := fun tq kq => go17 tq (by
    show Steps p.tables e below (s₁.setTop (mkF m 10 #[.val (.int (2 : Int32))] [(.int (1 : Int32)), (.int (2 : Int32))])) _
    refine XS.icmpYes X0.here hx rfl (pc0 := 10) (pc' := 17) rfl (hb hby d1_10) rfl (feq (by decide)).2 (by decide) (by decide) ?_
    show Steps p.tables e below (s₁.setTop (mkF m 17 #[.val (.int (2 : Int32))] [])) _
    refine XS.iloadN X0.here hx rfl (hb hby d1_17) rfl ?_
    show Steps p.tables e below (s₁.setTop (mkF m 18 #[.val (.int (2 : Int32))] [(.int (2 : Int32))])) _
    refine XS.iconst X0.here hx rfl (hb hby d1_18) ?_
    exact kq)
  have go19 : Goes p e below s₁ (G_pick2 m) s₁ (mkF m 22 #[.val (.int (2 : Int32))] []) := fun tq kq => go18 tq (by
    show Steps p.tables e below (s₁.setTop (mkF m 19 #[.val (.int (2 : Int32))] [(.int (2 : Int32)), (.int (2 : Int32))])) _
    refine XS.icmpNo X0.here hx rfl (hb hby d1_19) rfl (teq (by decide)).2 ?_
    exact kq)
  obtain ⟨T20, X20, e20, st20⟩ := getS2 X0 hx hZ hown (host := "") (Or.inl (tw33 hw)) Via.refl e0 S2 (g := (mkF m 22 #[.val (.int (2 : Int32))] [])) rfl (hb hby d1_22)
  have go20 : Goes p e below s₁ (G_pick2 m) T20 (mkF m 25 #[.val (.int (2 : Int32))] [(.ref w2)]) := fun tq kq => go19 tq (st20 _ kq)
  obtain ⟨fs, hr, hrun, hended, hW, hsame⟩ := X20.leave (v := some (.ref w2)) (fun h => by rw [Bd.returns] at h; cases h)
  refine ⟨_, _, go20 _ ?_, hrun, hended, _, _, rfl, ?_, ⟨_, rfl⟩, hW, hsame.mono (by decide) (by decide)⟩
  · jvm_step X20.here [X20.here.top, hx, (hb hby d1_25), X20.method', Bd.returns, Value.isRef, FieldType.isReference]
    first | (intro acts; rw [hr _ acts rfl rfl rfl]) | rw [hr _ _ rfl rfl rfl]
    exact Steps.refl _
  · show Q_pick2 Z w0 w1 w2 w3 w4 w5 h0 n0 _ T20.heap _
    rw [e20]
    exact ⟨rfl, N0, rfl⟩
abbrev G_ord2 (m : MethodId) (w2 : Addr) : JFrame := (entryFrame m #[(.ref w2)] 1)
theorem d2_14 : decode prog_107_method_6_code 14 = .ok (.iconst 1, 1) := by decide +kernel
theorem d2_15 : decode prog_107_method_6_code 15 = .ok (.goto 4, 3) := by decide +kernel
def Q_ord2 (Z : State)  (w0 w1 w2 w3 w4 w5 : Addr) (h0 : Heap) (n0 : Nat) (v : Option Value) (h : Heap) (L : List Loc) : Prop := v = some (.int (1 : Int32)) ∧ Fr n0 L ∧ h = h0
set_option maxRecDepth 65536 in
set_option maxHeartbeats 40000000 in
theorem ord2 (l : Launch) (Z : State) (a0 : Array Value) (hw : ∀ d ∈ tables_1, d.before a0 Z = true) (ws : List Jvm.Cond)  (w0 w1 w2 w3 w4 w5 : Addr) (h0 : Heap) (n0 : Nat) (Z0 : n0 ≤ h0.size) (S0 : Sta Z h0 "com/example/heft/heft/model/XPath$Comparison" "EQUAL" "Lcom/example/heft/heft/model/XPath$Comparison;" (.ref w0)) (S1 : Sta Z h0 "com/example/heft/heft/model/XPath$Comparison" "NOT_EQUAL" "Lcom/example/heft/heft/model/XPath$Comparison;" (.ref w1)) (S2 : Sta Z h0 "com/example/heft/heft/model/XPath$Comparison" "LESS" "Lcom/example/heft/heft/model/XPath$Comparison;" (.ref w2)) (S3 : Sta Z h0 "com/example/heft/heft/model/XPath$Comparison" "LESS_OR_EQUAL" "Lcom/example/heft/heft/model/XPath$Comparison;" (.ref w3)) (S4 : Sta Z h0 "com/example/heft/heft/model/XPath$Comparison" "GREATER" "Lcom/example/heft/heft/model/XPath$Comparison;" (.ref w4)) (S5 : Sta Z h0 "com/example/heft/heft/model/XPath$Comparison" "GREATER_OR_EQUAL" "Lcom/example/heft/heft/model/XPath$Comparison;" (.ref w5)) (n0k : ¬ (w2 = w0)) (n1k : ¬ (w2 = w1)) :
    MetFree l (⟨"com/example/heft/heft/model/XPath$Comparison", "ordersNumbers", "()Z"⟩ : MethodName) (head1 (Jvm.Cond.code (⟨"com/example/heft/heft/model/XPath$Comparison", "ordersNumbers", "()Z"⟩ : MethodName) prog_107_method_6_code 1 (some .boolean) :: ws) ({ frames := 0, cells := 0, slots := 0, locals := 0 } : Room)) (fun a U => a = #[(.ref w2)] ∧ Z.Warmed39 U.vm ∧ U.heap = h0) (fun _ _ _ _ _ => True) (fun _ U o U' => ∃ v L, o = .returned v ∧ Q_ord2 Z w0 w1 w2 w3 w4 w5 h0 n0 v U'.heap L ∧ FrameEnd U o U' L ({ frames := 0, cells := 0, slots := 0, locals := 0 } : Room).cells ({ frames := 0, cells := 0, slots := 0, locals := 0 } : Room).slots) := by
  refine MetFree.of_bodySF (plainFor_of_name pn_com_example_heft_heft_model_XPath_Comparison) hisR ?_
  intro p e s m args below meth c s₁ Bd hml0 hP hK
  obtain ⟨rfl, hZ, hh⟩ := hP
  have hx := Bd.exec
  have hby := Bd.bytes
  have hml : c.maxLocals = 1 := hml0
  have hown : s.vm.findClass "com/example/heft/heft/model/XPath$Comparison" = some m.cls := findClass_of_methodNamed Bd.named
  have hnm := (name_of_methodNamed Bd.named Bd.method).1
  have X0 : Stand p l e ({ frames := 0, cells := 0, slots := 0, locals := 0 } : Room) s m #[(.ref w2)] below meth c s₁ [] 0 0 := Stand.of_body Bd
  have e0 : s₁.heap = h0 := by rw [← hh, Bd.state]; rfl
  have N0 := Fr.nil n0
  have go0 : Goes p e below s₁ (G_ord2 m w2) s₁ (mkF m 0 #[.val (.ref w2)] []) := fun tq kq => castTop (by first | (simp [entryFrame, mkF, argsToLocals, Value.category, G_ord2]; done) | rfl) kq
  have go21 : Goes p e below s₁ (G_ord2 m w2) s₁ (mkF m 1 #[.val (.ref w2)] [(.ref w2)]) := fun tq kq => go0 tq (by
    show Steps p.tables e below (s₁.setTop (mkF m 0 #[.val (.ref w2)] [])) _
    refine XS.aloadN X0.here hx rfl (hb hby d2_0) rfl rfl ?_
    exact kq)
  obtain ⟨T22, X22, e22, st22⟩ := getS2 X0 hx hZ hown (host := "") (Or.inl (tw13 hw)) Via.refl e0 S0 (g := (mkF m 1 #[.val (.ref w2)] [(.ref w2)])) rfl (hb hby d2_1)
  have go22 : Goes p e below s₁ (G_ord2 m w2) T22 (mkF m 4 #[.val (.ref w2)] [(.ref w0), (.ref w2)]) := fun tq kq => go21 tq (st22 _ kq)
  have go23 : Goes p e below s₁ (G_ord2 m w2) T22 (mkF m 8 #[.val (.ref w2)] [(.ref w2)]) := fun tq kq => go22 tq (by
    show Steps p.tables e below (T22.setTop (mkF m 4 #[.val (.ref w2)] [(.ref w0), (.ref w2)])) _
    refine Jvm.RoadKit.acmp (g := (mkF m 4 #[.val (.ref w2)] [(.ref w0), (.ref w2)])) X22 hx rfl rfl rfl (pc0 := 4) (pc' := 7) (same := false) rfl (hb hby d2_4) rfl (decide_eq_false fun q => n0k (Value.ref.inj q)) (by decide) (by decide) ?_
    show Steps p.tables e below (T22.setTop (mkF m 7 #[.val (.ref w2)] [])) _
    refine XS.aloadN X22.here hx rfl (hb hby d2_7) rfl rfl ?_
    exact kq)
  obtain ⟨T24, X24, e24, st24⟩ := getS2 X22 hx hZ hown (host := "") (Or.inl (tw35 hw)) Via.refl e22 S1 (g := (mkF m 8 #[.val (.ref w2)] [(.ref w2)])) rfl (hb hby d2_8)
  have go24 : Goes p e below s₁ (G_ord2 m w2) T24 (mkF m 11 #[.val (.ref w2)] [(.ref w1), (.ref w2)]) := fun tq kq => go23 tq (st24 _ kq)
  have go25 : Goes p e below s₁ (G_ord2 m w2) T24 (mkF m 19 #[.val (.ref w2)] [(.int (1 : Int32))]) := fun tq kq => go24 tq (by
    show Steps p.tables e below (T24.setTop (mkF m 11 #[.val (.ref w2)] [(.ref w1), (.ref w2)])) _
    refine Jvm.RoadKit.acmp (g := (mkF m 11 #[.val (.ref w2)] [(.ref w1), (.ref w2)])) X24 hx rfl rfl rfl (pc0 := 11) (pc' := 14) (same := false) rfl (hb hby d2_11) rfl (decide_eq_false fun q => n1k (Value.ref.inj q)) (by decide) (by decide) ?_
    show Steps p.tables e below (T24.setTop (mkF m 14 #[.val (.ref w2)] [])) _
    refine XS.iconst X24.here hx rfl (hb hby d2_14) ?_
    show Steps p.tables e below (T24.setTop (mkF m 15 #[.val (.ref w2)] [(.int (1 : Int32))])) _
    refine XS.goto X24.here hx rfl (pc0 := 15) (pc' := 19) rfl (hb hby d2_15) (by decide) (by decide) ?_
    exact kq)
  obtain ⟨fs, hr, hrun, hended, hW, hsame⟩ := X24.leave (v := some (.int (1 : Int32))) (fun h => by rw [Bd.returns] at h; cases h)
  refine ⟨_, _, go25 _ ?_, hrun, hended, _, _, rfl, ?_, ⟨_, rfl⟩, hW, hsame.mono (by decide) (by decide)⟩
  · exact retN X24 hx (t := .boolean) Bd.returns (by simp) (hb hby d2_19) hr
  · show Q_ord2 Z w0 w1 w2 w3 w4 w5 h0 n0 _ T24.heap _
    rw [e24]
    exact ⟨rfl, N0, rfl⟩
abbrev G_pick3 (m : MethodId)  : JFrame := (entryFrame m #[(.int (3 : Int32))] 1)
theorem d1_26 : decode method_2_code 26 = .ok (.iload_n 0, 1) := by decide +kernel
theorem d1_27 : decode method_2_code 27 = .ok (.iconst 3, 1) := by decide +kernel
theorem d1_28 : decode method_2_code 28 = .ok (.if_icmp .ne 7, 3) := by decide +kernel
theorem d1_31 : decode method_2_code 31 = .ok (.getstatic 19, 3) := by decide +kernel
theorem d1_34 : decode method_2_code 34 = .ok (.areturn, 1) := by decide +kernel
def Q_pick3 (Z : State)  (w0 w1 w2 w3 w4 w5 : Addr) (h0 : Heap) (n0 : Nat) (v : Option Value) (h : Heap) (L : List Loc) : Prop := v = some (.ref w3) ∧ Fr n0 L ∧ h = h0
set_option maxRecDepth 65536 in
set_option maxHeartbeats 40000000 in
theorem pick3 (l : Launch) (Z : State) (a0 : Array Value) (hw : ∀ d ∈ tables_1, d.before a0 Z = true) (ws : List Jvm.Cond)  (w0 w1 w2 w3 w4 w5 : Addr) (h0 : Heap) (n0 : Nat) (Z0 : n0 ≤ h0.size) (S0 : Sta Z h0 "com/example/heft/heft/model/XPath$Comparison" "EQUAL" "Lcom/example/heft/heft/model/XPath$Comparison;" (.ref w0)) (S1 : Sta Z h0 "com/example/heft/heft/model/XPath$Comparison" "NOT_EQUAL" "Lcom/example/heft/heft/model/XPath$Comparison;" (.ref w1)) (S2 : Sta Z h0 "com/example/heft/heft/model/XPath$Comparison" "LESS" "Lcom/example/heft/heft/model/XPath$Comparison;" (.ref w2)) (S3 : Sta Z h0 "com/example/heft/heft/model/XPath$Comparison" "LESS_OR_EQUAL" "Lcom/example/heft/heft/model/XPath$Comparison;" (.ref w3)) (S4 : Sta Z h0 "com/example/heft/heft/model/XPath$Comparison" "GREATER" "Lcom/example/heft/heft/model/XPath$Comparison;" (.ref w4)) (S5 : Sta Z h0 "com/example/heft/heft/model/XPath$Comparison" "GREATER_OR_EQUAL" "Lcom/example/heft/heft/model/XPath$Comparison;" (.ref w5)) :
    MetFree l (⟨"com/example/heft/heft/model/ComparisonOrdersNumbersPinLaw", "pick", "(I)Lcom/example/heft/heft/model/XPath$Comparison;"⟩ : MethodName) (head1 (Jvm.Cond.code (⟨"com/example/heft/heft/model/ComparisonOrdersNumbersPinLaw", "pick", "(I)Lcom/example/heft/heft/model/XPath$Comparison;"⟩ : MethodName) method_2_code 1 (some (.object "com/example/heft/heft/model/XPath$Comparison")) :: ws) ({ frames := 0, cells := 0, slots := 0, locals := 0 } : Room)) (fun a U => a = #[(.int (3 : Int32))] ∧ Z.Warmed39 U.vm ∧ U.heap = h0) (fun _ _ _ _ _ => True) (fun _ U o U' => ∃ v L, o = .returned v ∧ Q_pick3 Z w0 w1 w2 w3 w4 w5 h0 n0 v U'.heap L ∧ FrameEnd U o U' L ({ frames := 0, cells := 0, slots := 0, locals := 0 } : Room).cells ({ frames := 0, cells := 0, slots := 0, locals := 0 } : Room).slots) := by
  refine MetFree.of_bodySF (plainFor_of_name pn_com_example_heft_heft_model_ComparisonOrdersNumbersPinLaw) hisR ?_
  intro p e s m args below meth c s₁ Bd hml0 hP hK
  obtain ⟨rfl, hZ, hh⟩ := hP
  have hx := Bd.exec
  have hby := Bd.bytes
  have hml : c.maxLocals = 1 := hml0
  have hown : s.vm.findClass "com/example/heft/heft/model/ComparisonOrdersNumbersPinLaw" = some m.cls := findClass_of_methodNamed Bd.named
  have hnm := (name_of_methodNamed Bd.named Bd.method).1
  have X0 : Stand p l e ({ frames := 0, cells := 0, slots := 0, locals := 0 } : Room) s m #[(.int (3 : Int32))] below meth c s₁ [] 0 0 := Stand.of_body Bd
  have e0 : s₁.heap = h0 := by rw [← hh, Bd.state]; rfl
  have N0 := Fr.nil n0
  have go0 : Goes p e below s₁ (G_pick3 m) s₁ (mkF m 0 #[.val (.int (3 : Int32))] []) := fun tq kq => castTop (by first | (simp [entryFrame, mkF, argsToLocals, Value.category, G_pick3]; done) | rfl) kq
  have go26 : Goes p e below s₁ (G_pick3 m) s₁ (mkF m 1 #[.val (.int (3 : Int32))] [(.int (3 : Int32))]) := fun tq kq => go0 tq (by
    show Steps p.tables e below (s₁.setTop (mkF m 0 #[.val (.int (3 : Int32))] [])) _
    refine XS.iloadN X0.here hx rfl (hb hby d1_0) rfl ?_
    exact kq)
  have go27 : Goes p e below s₁ (G_pick3 m) s₁ (mkF m 10 #[.val (.int (3 : Int32))] [(.int (1 : Int32)), (.int (3 : Int32))]) := fun tq kq => go26 tq (by
    show Steps p.tables e below (s₁.setTop (mkF m 1 #[.val (.int (3 : Int32))] [(.int (3 : Int32))])) _
    refine XS.ifYes X0.here hx rfl (pc0 := 1) (pc' := 8) rfl (hb hby d1_1) rfl ((if0 _ _).trans (feq (by decide)).2) (by decide) (by decide) ?_
    show Steps p.tables e below (s₁.setTop (mkF m 8 #[.val (.int (3 : Int32))] [])) _
    refine XS.iloadN X0.here hx rfl (hb hby d1_8) rfl ?_
    show Steps p.tables e below (s₁.setTop (mkF m 9 #[.val (.int (3 : Int32))] [(.int (3 : Int32))])) _
    refine XS.iconst X0.here hx rfl (hb hby d1_9) ?_
    exact kq)
  have go28 : Goes p e below s₁ (G_pick3 m) s₁ (mkF m 19 #[.val (.int (3 : Int32))] [(.int (2 : Int32)), (.int (3 : Int32))]) := fun tq kq => go27 tq (by
    show Steps p.tables e below (s₁.setTop (mkF m 10 #[.val (.int (3 : Int32))] [(.int (1 : Int32)), (.int (3 : Int32))])) _
    refine XS.icmpYes X0.here hx rfl (pc0 := 10) (pc' := 17) rfl (hb hby d1_10) rfl (feq (by decide)).2 (by decide) (by decide) ?_
    show Steps p.tables e below (s₁.setTop (mkF m 17 #[.val (.int (3 : Int32))] [])) _
    refine XS.iloadN X0.here hx rfl (hb hby d1_17) rfl ?_
    show Steps p.tables e below (s₁.setTop (mkF m 18 #[.val (.int (3 : Int32))] [(.int (3 : Int32))])) _
    refine XS.iconst X0.here hx rfl (hb hby d1_18) ?_
    exact kq)
  have go29 : Goes p e below s₁ (G_pick3 m) s₁ (mkF m 28 #[.val (.int (3 : Int32))] [(.int (3 : Int32)), (.int (3 : Int32))]) := fun tq kq => go28 tq (by
    show Steps p.tables e below (s₁.setTop (mkF m 19 #[.val (.int (3 : Int32))] [(.int (2 : Int32)), (.int (3 : Int32))])) _
    refine XS.icmpYes X0.here hx rfl (pc0 := 19) (pc' := 26) rfl (hb hby d1_19) rfl (feq (by decide)).2 (by decide) (by decide) ?_
    show Steps p.tables e below (s₁.setTop (mkF m 26 #[.val (.int (3 : Int32))] [])) _
    refine XS.iloadN X0.here hx rfl (hb hby d1_26) rfl ?_
    show Steps p.tables e below (s₁.setTop (mkF m 27 #[.val (.int (3 : Int32))] [(.int (3 : Int32))])) _
    refine XS.iconst X0.here hx rfl (hb hby d1_27) ?_
    exact kq)
  have go30 : Goes p e below s₁ (G_pick3 m) s₁ (mkF m 31 #[.val (.int (3 : Int32))] []) := fun tq kq => go29 tq (by
    show Steps p.tables e below (s₁.setTop (mkF m 28 #[.val (.int (3 : Int32))] [(.int (3 : Int32)), (.int (3 : Int32))])) _
    refine XS.icmpNo X0.here hx rfl (hb hby d1_28) rfl (teq (by decide)).2 ?_
    exact kq)
  obtain ⟨T31, X31, e31, st31⟩ := getS2 X0 hx hZ hown (host := "") (Or.inl (tw46 hw)) Via.refl e0 S3 (g := (mkF m 31 #[.val (.int (3 : Int32))] [])) rfl (hb hby d1_31)
  have go31 : Goes p e below s₁ (G_pick3 m) T31 (mkF m 34 #[.val (.int (3 : Int32))] [(.ref w3)]) := fun tq kq => go30 tq (st31 _ kq)
  obtain ⟨fs, hr, hrun, hended, hW, hsame⟩ := X31.leave (v := some (.ref w3)) (fun h => by rw [Bd.returns] at h; cases h)
  refine ⟨_, _, go31 _ ?_, hrun, hended, _, _, rfl, ?_, ⟨_, rfl⟩, hW, hsame.mono (by decide) (by decide)⟩
  · jvm_step X31.here [X31.here.top, hx, (hb hby d1_34), X31.method', Bd.returns, Value.isRef, FieldType.isReference]
    first | (intro acts; rw [hr _ acts rfl rfl rfl]) | rw [hr _ _ rfl rfl rfl]
    exact Steps.refl _
  · show Q_pick3 Z w0 w1 w2 w3 w4 w5 h0 n0 _ T31.heap _
    rw [e31]
    exact ⟨rfl, N0, rfl⟩
abbrev G_ord3 (m : MethodId) (w3 : Addr) : JFrame := (entryFrame m #[(.ref w3)] 1)
def Q_ord3 (Z : State)  (w0 w1 w2 w3 w4 w5 : Addr) (h0 : Heap) (n0 : Nat) (v : Option Value) (h : Heap) (L : List Loc) : Prop := v = some (.int (1 : Int32)) ∧ Fr n0 L ∧ h = h0
set_option maxRecDepth 65536 in
set_option maxHeartbeats 40000000 in
theorem ord3 (l : Launch) (Z : State) (a0 : Array Value) (hw : ∀ d ∈ tables_1, d.before a0 Z = true) (ws : List Jvm.Cond)  (w0 w1 w2 w3 w4 w5 : Addr) (h0 : Heap) (n0 : Nat) (Z0 : n0 ≤ h0.size) (S0 : Sta Z h0 "com/example/heft/heft/model/XPath$Comparison" "EQUAL" "Lcom/example/heft/heft/model/XPath$Comparison;" (.ref w0)) (S1 : Sta Z h0 "com/example/heft/heft/model/XPath$Comparison" "NOT_EQUAL" "Lcom/example/heft/heft/model/XPath$Comparison;" (.ref w1)) (S2 : Sta Z h0 "com/example/heft/heft/model/XPath$Comparison" "LESS" "Lcom/example/heft/heft/model/XPath$Comparison;" (.ref w2)) (S3 : Sta Z h0 "com/example/heft/heft/model/XPath$Comparison" "LESS_OR_EQUAL" "Lcom/example/heft/heft/model/XPath$Comparison;" (.ref w3)) (S4 : Sta Z h0 "com/example/heft/heft/model/XPath$Comparison" "GREATER" "Lcom/example/heft/heft/model/XPath$Comparison;" (.ref w4)) (S5 : Sta Z h0 "com/example/heft/heft/model/XPath$Comparison" "GREATER_OR_EQUAL" "Lcom/example/heft/heft/model/XPath$Comparison;" (.ref w5)) (n0k : ¬ (w3 = w0)) (n1k : ¬ (w3 = w1)) :
    MetFree l (⟨"com/example/heft/heft/model/XPath$Comparison", "ordersNumbers", "()Z"⟩ : MethodName) (head1 (Jvm.Cond.code (⟨"com/example/heft/heft/model/XPath$Comparison", "ordersNumbers", "()Z"⟩ : MethodName) prog_107_method_6_code 1 (some .boolean) :: ws) ({ frames := 0, cells := 0, slots := 0, locals := 0 } : Room)) (fun a U => a = #[(.ref w3)] ∧ Z.Warmed39 U.vm ∧ U.heap = h0) (fun _ _ _ _ _ => True) (fun _ U o U' => ∃ v L, o = .returned v ∧ Q_ord3 Z w0 w1 w2 w3 w4 w5 h0 n0 v U'.heap L ∧ FrameEnd U o U' L ({ frames := 0, cells := 0, slots := 0, locals := 0 } : Room).cells ({ frames := 0, cells := 0, slots := 0, locals := 0 } : Room).slots) := by
  refine MetFree.of_bodySF (plainFor_of_name pn_com_example_heft_heft_model_XPath_Comparison) hisR ?_
  intro p e s m args below meth c s₁ Bd hml0 hP hK
  obtain ⟨rfl, hZ, hh⟩ := hP
  have hx := Bd.exec
  have hby := Bd.bytes
  have hml : c.maxLocals = 1 := hml0
  have hown : s.vm.findClass "com/example/heft/heft/model/XPath$Comparison" = some m.cls := findClass_of_methodNamed Bd.named
  have hnm := (name_of_methodNamed Bd.named Bd.method).1
  have X0 : Stand p l e ({ frames := 0, cells := 0, slots := 0, locals := 0 } : Room) s m #[(.ref w3)] below meth c s₁ [] 0 0 := Stand.of_body Bd
  have e0 : s₁.heap = h0 := by rw [← hh, Bd.state]; rfl
  have N0 := Fr.nil n0
  have go0 : Goes p e below s₁ (G_ord3 m w3) s₁ (mkF m 0 #[.val (.ref w3)] []) := fun tq kq => castTop (by first | (simp [entryFrame, mkF, argsToLocals, Value.category, G_ord3]; done) | rfl) kq
  have go32 : Goes p e below s₁ (G_ord3 m w3) s₁ (mkF m 1 #[.val (.ref w3)] [(.ref w3)]) := fun tq kq => go0 tq (by
    show Steps p.tables e below (s₁.setTop (mkF m 0 #[.val (.ref w3)] [])) _
    refine XS.aloadN X0.here hx rfl (hb hby d2_0) rfl rfl ?_
    exact kq)
  obtain ⟨T33, X33, e33, st33⟩ := getS2 X0 hx hZ hown (host := "") (Or.inl (tw13 hw)) Via.refl e0 S0 (g := (mkF m 1 #[.val (.ref w3)] [(.ref w3)])) rfl (hb hby d2_1)
  have go33 : Goes p e below s₁ (G_ord3 m w3) T33 (mkF m 4 #[.val (.ref w3)] [(.ref w0), (.ref w3)]) := fun tq kq => go32 tq (st33 _ kq)
  have go34 : Goes p e below s₁ (G_ord3 m w3) T33 (mkF m 8 #[.val (.ref w3)] [(.ref w3)]) := fun tq kq => go33 tq (by
    show Steps p.tables e below (T33.setTop (mkF m 4 #[.val (.ref w3)] [(.ref w0), (.ref w3)])) _
    refine Jvm.RoadKit.acmp (g := (mkF m 4 #[.val (.ref w3)] [(.ref w0), (.ref w3)])) X33 hx rfl rfl rfl (pc0 := 4) (pc' := 7) (same := false) rfl (hb hby d2_4) rfl (decide_eq_false fun q => n0k (Value.ref.inj q)) (by decide) (by decide) ?_
    show Steps p.tables e below (T33.setTop (mkF m 7 #[.val (.ref w3)] [])) _
    refine XS.aloadN X33.here hx rfl (hb hby d2_7) rfl rfl ?_
    exact kq)
  obtain ⟨T35, X35, e35, st35⟩ := getS2 X33 hx hZ hown (host := "") (Or.inl (tw35 hw)) Via.refl e33 S1 (g := (mkF m 8 #[.val (.ref w3)] [(.ref w3)])) rfl (hb hby d2_8)
  have go35 : Goes p e below s₁ (G_ord3 m w3) T35 (mkF m 11 #[.val (.ref w3)] [(.ref w1), (.ref w3)]) := fun tq kq => go34 tq (st35 _ kq)
  have go36 : Goes p e below s₁ (G_ord3 m w3) T35 (mkF m 19 #[.val (.ref w3)] [(.int (1 : Int32))]) := fun tq kq => go35 tq (by
    show Steps p.tables e below (T35.setTop (mkF m 11 #[.val (.ref w3)] [(.ref w1), (.ref w3)])) _
    refine Jvm.RoadKit.acmp (g := (mkF m 11 #[.val (.ref w3)] [(.ref w1), (.ref w3)])) X35 hx rfl rfl rfl (pc0 := 11) (pc' := 14) (same := false) rfl (hb hby d2_11) rfl (decide_eq_false fun q => n1k (Value.ref.inj q)) (by decide) (by decide) ?_
    show Steps p.tables e below (T35.setTop (mkF m 14 #[.val (.ref w3)] [])) _
    refine XS.iconst X35.here hx rfl (hb hby d2_14) ?_
    show Steps p.tables e below (T35.setTop (mkF m 15 #[.val (.ref w3)] [(.int (1 : Int32))])) _
    refine XS.goto X35.here hx rfl (pc0 := 15) (pc' := 19) rfl (hb hby d2_15) (by decide) (by decide) ?_
    exact kq)
  obtain ⟨fs, hr, hrun, hended, hW, hsame⟩ := X35.leave (v := some (.int (1 : Int32))) (fun h => by rw [Bd.returns] at h; cases h)
  refine ⟨_, _, go36 _ ?_, hrun, hended, _, _, rfl, ?_, ⟨_, rfl⟩, hW, hsame.mono (by decide) (by decide)⟩
  · exact retN X35 hx (t := .boolean) Bd.returns (by simp) (hb hby d2_19) hr
  · show Q_ord3 Z w0 w1 w2 w3 w4 w5 h0 n0 _ T35.heap _
    rw [e35]
    exact ⟨rfl, N0, rfl⟩
abbrev G_pick4 (m : MethodId)  : JFrame := (entryFrame m #[(.int (4 : Int32))] 1)
theorem d1_35 : decode method_2_code 35 = .ok (.iload_n 0, 1) := by decide +kernel
theorem d1_36 : decode method_2_code 36 = .ok (.iconst 4, 1) := by decide +kernel
theorem d1_37 : decode method_2_code 37 = .ok (.if_icmp .ne 7, 3) := by decide +kernel
theorem d1_40 : decode method_2_code 40 = .ok (.getstatic 22, 3) := by decide +kernel
theorem d1_43 : decode method_2_code 43 = .ok (.areturn, 1) := by decide +kernel
def Q_pick4 (Z : State)  (w0 w1 w2 w3 w4 w5 : Addr) (h0 : Heap) (n0 : Nat) (v : Option Value) (h : Heap) (L : List Loc) : Prop := v = some (.ref w4) ∧ Fr n0 L ∧ h = h0
set_option maxRecDepth 65536 in
set_option maxHeartbeats 40000000 in
theorem pick4 (l : Launch) (Z : State) (a0 : Array Value) (hw : ∀ d ∈ tables_1, d.before a0 Z = true) (ws : List Jvm.Cond)  (w0 w1 w2 w3 w4 w5 : Addr) (h0 : Heap) (n0 : Nat) (Z0 : n0 ≤ h0.size) (S0 : Sta Z h0 "com/example/heft/heft/model/XPath$Comparison" "EQUAL" "Lcom/example/heft/heft/model/XPath$Comparison;" (.ref w0)) (S1 : Sta Z h0 "com/example/heft/heft/model/XPath$Comparison" "NOT_EQUAL" "Lcom/example/heft/heft/model/XPath$Comparison;" (.ref w1)) (S2 : Sta Z h0 "com/example/heft/heft/model/XPath$Comparison" "LESS" "Lcom/example/heft/heft/model/XPath$Comparison;" (.ref w2)) (S3 : Sta Z h0 "com/example/heft/heft/model/XPath$Comparison" "LESS_OR_EQUAL" "Lcom/example/heft/heft/model/XPath$Comparison;" (.ref w3)) (S4 : Sta Z h0 "com/example/heft/heft/model/XPath$Comparison" "GREATER" "Lcom/example/heft/heft/model/XPath$Comparison;" (.ref w4)) (S5 : Sta Z h0 "com/example/heft/heft/model/XPath$Comparison" "GREATER_OR_EQUAL" "Lcom/example/heft/heft/model/XPath$Comparison;" (.ref w5)) :
    MetFree l (⟨"com/example/heft/heft/model/ComparisonOrdersNumbersPinLaw", "pick", "(I)Lcom/example/heft/heft/model/XPath$Comparison;"⟩ : MethodName) (head1 (Jvm.Cond.code (⟨"com/example/heft/heft/model/ComparisonOrdersNumbersPinLaw", "pick", "(I)Lcom/example/heft/heft/model/XPath$Comparison;"⟩ : MethodName) method_2_code 1 (some (.object "com/example/heft/heft/model/XPath$Comparison")) :: ws) ({ frames := 0, cells := 0, slots := 0, locals := 0 } : Room)) (fun a U => a = #[(.int (4 : Int32))] ∧ Z.Warmed39 U.vm ∧ U.heap = h0) (fun _ _ _ _ _ => True) (fun _ U o U' => ∃ v L, o = .returned v ∧ Q_pick4 Z w0 w1 w2 w3 w4 w5 h0 n0 v U'.heap L ∧ FrameEnd U o U' L ({ frames := 0, cells := 0, slots := 0, locals := 0 } : Room).cells ({ frames := 0, cells := 0, slots := 0, locals := 0 } : Room).slots) := by
  refine MetFree.of_bodySF (plainFor_of_name pn_com_example_heft_heft_model_ComparisonOrdersNumbersPinLaw) hisR ?_
  intro p e s m args below meth c s₁ Bd hml0 hP hK
  obtain ⟨rfl, hZ, hh⟩ := hP
  have hx := Bd.exec
  have hby := Bd.bytes
  have hml : c.maxLocals = 1 := hml0
  have hown : s.vm.findClass "com/example/heft/heft/model/ComparisonOrdersNumbersPinLaw" = some m.cls := findClass_of_methodNamed Bd.named
  have hnm := (name_of_methodNamed Bd.named Bd.method).1
  have X0 : Stand p l e ({ frames := 0, cells := 0, slots := 0, locals := 0 } : Room) s m #[(.int (4 : Int32))] below meth c s₁ [] 0 0 := Stand.of_body Bd
  have e0 : s₁.heap = h0 := by rw [← hh, Bd.state]; rfl
  have N0 := Fr.nil n0
  have go0 : Goes p e below s₁ (G_pick4 m) s₁ (mkF m 0 #[.val (.int (4 : Int32))] []) := fun tq kq => castTop (by first | (simp [entryFrame, mkF, argsToLocals, Value.category, G_pick4]; done) | rfl) kq
  have go37 : Goes p e below s₁ (G_pick4 m) s₁ (mkF m 1 #[.val (.int (4 : Int32))] [(.int (4 : Int32))]) := fun tq kq => go0 tq (by
    show Steps p.tables e below (s₁.setTop (mkF m 0 #[.val (.int (4 : Int32))] [])) _
    refine XS.iloadN X0.here hx rfl (hb hby d1_0) rfl ?_
    exact kq)
  have go38 : Goes p e below s₁ (G_pick4 m) s₁ (mkF m 10 #[.val (.int (4 : Int32))] [(.int (1 : Int32)), (.int (4 : Int32))]) := fun tq kq => go37 tq (by
    show Steps p.tables e below (s₁.setTop (mkF m 1 #[.val (.int (4 : Int32))] [(.int (4 : Int32))])) _
    refine XS.ifYes X0.here hx rfl (pc0 := 1) (pc' := 8) rfl (hb hby d1_1) rfl ((if0 _ _).trans (feq (by decide)).2) (by decide) (by decide) ?_
    show Steps p.tables e below (s₁.setTop (mkF m 8 #[.val (.int (4 : Int32))] [])) _
    refine XS.iloadN X0.here hx rfl (hb hby d1_8) rfl ?_
    show Steps p.tables e below (s₁.setTop (mkF m 9 #[.val (.int (4 : Int32))] [(.int (4 : Int32))])) _
    refine XS.iconst X0.here hx rfl (hb hby d1_9) ?_
    exact kq)
  have go39 : Goes p e below s₁ (G_pick4 m) s₁ (mkF m 19 #[.val (.int (4 : Int32))] [(.int (2 : Int32)), (.int (4 : Int32))]) := fun tq kq => go38 tq (by
    show Steps p.tables e below (s₁.setTop (mkF m 10 #[.val (.int (4 : Int32))] [(.int (1 : Int32)), (.int (4 : Int32))])) _
    refine XS.icmpYes X0.here hx rfl (pc0 := 10) (pc' := 17) rfl (hb hby d1_10) rfl (feq (by decide)).2 (by decide) (by decide) ?_
    show Steps p.tables e below (s₁.setTop (mkF m 17 #[.val (.int (4 : Int32))] [])) _
    refine XS.iloadN X0.here hx rfl (hb hby d1_17) rfl ?_
    show Steps p.tables e below (s₁.setTop (mkF m 18 #[.val (.int (4 : Int32))] [(.int (4 : Int32))])) _
    refine XS.iconst X0.here hx rfl (hb hby d1_18) ?_
    exact kq)
  have go40 : Goes p e below s₁ (G_pick4 m) s₁ (mkF m 28 #[.val (.int (4 : Int32))] [(.int (3 : Int32)), (.int (4 : Int32))]) := fun tq kq => go39 tq (by
    show Steps p.tables e below (s₁.setTop (mkF m 19 #[.val (.int (4 : Int32))] [(.int (2 : Int32)), (.int (4 : Int32))])) _
    refine XS.icmpYes X0.here hx rfl (pc0 := 19) (pc' := 26) rfl (hb hby d1_19) rfl (feq (by decide)).2 (by decide) (by decide) ?_
    show Steps p.tables e below (s₁.setTop (mkF m 26 #[.val (.int (4 : Int32))] [])) _
    refine XS.iloadN X0.here hx rfl (hb hby d1_26) rfl ?_
    show Steps p.tables e below (s₁.setTop (mkF m 27 #[.val (.int (4 : Int32))] [(.int (4 : Int32))])) _
    refine XS.iconst X0.here hx rfl (hb hby d1_27) ?_
    exact kq)
  have go41 : Goes p e below s₁ (G_pick4 m) s₁ (mkF m 37 #[.val (.int (4 : Int32))] [(.int (4 : Int32)), (.int (4 : Int32))]) := fun tq kq => go40 tq (by
    show Steps p.tables e below (s₁.setTop (mkF m 28 #[.val (.int (4 : Int32))] [(.int (3 : Int32)), (.int (4 : Int32))])) _
    refine XS.icmpYes X0.here hx rfl (pc0 := 28) (pc' := 35) rfl (hb hby d1_28) rfl (feq (by decide)).2 (by decide) (by decide) ?_
    show Steps p.tables e below (s₁.setTop (mkF m 35 #[.val (.int (4 : Int32))] [])) _
    refine XS.iloadN X0.here hx rfl (hb hby d1_35) rfl ?_
    show Steps p.tables e below (s₁.setTop (mkF m 36 #[.val (.int (4 : Int32))] [(.int (4 : Int32))])) _
    refine XS.iconst X0.here hx rfl (hb hby d1_36) ?_
    exact kq)
  have go42 : Goes p e below s₁ (G_pick4 m) s₁ (mkF m 40 #[.val (.int (4 : Int32))] []) := fun tq kq => go41 tq (by
    show Steps p.tables e below (s₁.setTop (mkF m 37 #[.val (.int (4 : Int32))] [(.int (4 : Int32)), (.int (4 : Int32))])) _
    refine XS.icmpNo X0.here hx rfl (hb hby d1_37) rfl (teq (by decide)).2 ?_
    exact kq)
  obtain ⟨T43, X43, e43, st43⟩ := getS2 X0 hx hZ hown (host := "") (Or.inl (tw39 hw)) Via.refl e0 S4 (g := (mkF m 40 #[.val (.int (4 : Int32))] [])) rfl (hb hby d1_40)
  have go43 : Goes p e below s₁ (G_pick4 m) T43 (mkF m 43 #[.val (.int (4 : Int32))] [(.ref w4)]) := fun tq kq => go42 tq (st43 _ kq)
  obtain ⟨fs, hr, hrun, hended, hW, hsame⟩ := X43.leave (v := some (.ref w4)) (fun h => by rw [Bd.returns] at h; cases h)
  refine ⟨_, _, go43 _ ?_, hrun, hended, _, _, rfl, ?_, ⟨_, rfl⟩, hW, hsame.mono (by decide) (by decide)⟩
  · jvm_step X43.here [X43.here.top, hx, (hb hby d1_43), X43.method', Bd.returns, Value.isRef, FieldType.isReference]
    first | (intro acts; rw [hr _ acts rfl rfl rfl]) | rw [hr _ _ rfl rfl rfl]
    exact Steps.refl _
  · show Q_pick4 Z w0 w1 w2 w3 w4 w5 h0 n0 _ T43.heap _
    rw [e43]
    exact ⟨rfl, N0, rfl⟩
abbrev G_ord4 (m : MethodId) (w4 : Addr) : JFrame := (entryFrame m #[(.ref w4)] 1)
def Q_ord4 (Z : State)  (w0 w1 w2 w3 w4 w5 : Addr) (h0 : Heap) (n0 : Nat) (v : Option Value) (h : Heap) (L : List Loc) : Prop := v = some (.int (1 : Int32)) ∧ Fr n0 L ∧ h = h0
set_option maxRecDepth 65536 in
set_option maxHeartbeats 40000000 in
theorem ord4 (l : Launch) (Z : State) (a0 : Array Value) (hw : ∀ d ∈ tables_1, d.before a0 Z = true) (ws : List Jvm.Cond)  (w0 w1 w2 w3 w4 w5 : Addr) (h0 : Heap) (n0 : Nat) (Z0 : n0 ≤ h0.size) (S0 : Sta Z h0 "com/example/heft/heft/model/XPath$Comparison" "EQUAL" "Lcom/example/heft/heft/model/XPath$Comparison;" (.ref w0)) (S1 : Sta Z h0 "com/example/heft/heft/model/XPath$Comparison" "NOT_EQUAL" "Lcom/example/heft/heft/model/XPath$Comparison;" (.ref w1)) (S2 : Sta Z h0 "com/example/heft/heft/model/XPath$Comparison" "LESS" "Lcom/example/heft/heft/model/XPath$Comparison;" (.ref w2)) (S3 : Sta Z h0 "com/example/heft/heft/model/XPath$Comparison" "LESS_OR_EQUAL" "Lcom/example/heft/heft/model/XPath$Comparison;" (.ref w3)) (S4 : Sta Z h0 "com/example/heft/heft/model/XPath$Comparison" "GREATER" "Lcom/example/heft/heft/model/XPath$Comparison;" (.ref w4)) (S5 : Sta Z h0 "com/example/heft/heft/model/XPath$Comparison" "GREATER_OR_EQUAL" "Lcom/example/heft/heft/model/XPath$Comparison;" (.ref w5)) (n0k : ¬ (w4 = w0)) (n1k : ¬ (w4 = w1)) :
    MetFree l (⟨"com/example/heft/heft/model/XPath$Comparison", "ordersNumbers", "()Z"⟩ : MethodName) (head1 (Jvm.Cond.code (⟨"com/example/heft/heft/model/XPath$Comparison", "ordersNumbers", "()Z"⟩ : MethodName) prog_107_method_6_code 1 (some .boolean) :: ws) ({ frames := 0, cells := 0, slots := 0, locals := 0 } : Room)) (fun a U => a = #[(.ref w4)] ∧ Z.Warmed39 U.vm ∧ U.heap = h0) (fun _ _ _ _ _ => True) (fun _ U o U' => ∃ v L, o = .returned v ∧ Q_ord4 Z w0 w1 w2 w3 w4 w5 h0 n0 v U'.heap L ∧ FrameEnd U o U' L ({ frames := 0, cells := 0, slots := 0, locals := 0 } : Room).cells ({ frames := 0, cells := 0, slots := 0, locals := 0 } : Room).slots) := by
  refine MetFree.of_bodySF (plainFor_of_name pn_com_example_heft_heft_model_XPath_Comparison) hisR ?_
  intro p e s m args below meth c s₁ Bd hml0 hP hK
  obtain ⟨rfl, hZ, hh⟩ := hP
  have hx := Bd.exec
  have hby := Bd.bytes
  have hml : c.maxLocals = 1 := hml0
  have hown : s.vm.findClass "com/example/heft/heft/model/XPath$Comparison" = some m.cls := findClass_of_methodNamed Bd.named
  have hnm := (name_of_methodNamed Bd.named Bd.method).1
  have X0 : Stand p l e ({ frames := 0, cells := 0, slots := 0, locals := 0 } : Room) s m #[(.ref w4)] below meth c s₁ [] 0 0 := Stand.of_body Bd
  have e0 : s₁.heap = h0 := by rw [← hh, Bd.state]; rfl
  have N0 := Fr.nil n0
  have go0 : Goes p e below s₁ (G_ord4 m w4) s₁ (mkF m 0 #[.val (.ref w4)] []) := fun tq kq => castTop (by first | (simp [entryFrame, mkF, argsToLocals, Value.category, G_ord4]; done) | rfl) kq
  have go44 : Goes p e below s₁ (G_ord4 m w4) s₁ (mkF m 1 #[.val (.ref w4)] [(.ref w4)]) := fun tq kq => go0 tq (by
    show Steps p.tables e below (s₁.setTop (mkF m 0 #[.val (.ref w4)] [])) _
    refine XS.aloadN X0.here hx rfl (hb hby d2_0) rfl rfl ?_
    exact kq)
  obtain ⟨T45, X45, e45, st45⟩ := getS2 X0 hx hZ hown (host := "") (Or.inl (tw13 hw)) Via.refl e0 S0 (g := (mkF m 1 #[.val (.ref w4)] [(.ref w4)])) rfl (hb hby d2_1)
  have go45 : Goes p e below s₁ (G_ord4 m w4) T45 (mkF m 4 #[.val (.ref w4)] [(.ref w0), (.ref w4)]) := fun tq kq => go44 tq (st45 _ kq)
  have go46 : Goes p e below s₁ (G_ord4 m w4) T45 (mkF m 8 #[.val (.ref w4)] [(.ref w4)]) := fun tq kq => go45 tq (by
    show Steps p.tables e below (T45.setTop (mkF m 4 #[.val (.ref w4)] [(.ref w0), (.ref w4)])) _
    refine Jvm.RoadKit.acmp (g := (mkF m 4 #[.val (.ref w4)] [(.ref w0), (.ref w4)])) X45 hx rfl rfl rfl (pc0 := 4) (pc' := 7) (same := false) rfl (hb hby d2_4) rfl (decide_eq_false fun q => n0k (Value.ref.inj q)) (by decide) (by decide) ?_
    show Steps p.tables e below (T45.setTop (mkF m 7 #[.val (.ref w4)] [])) _
    refine XS.aloadN X45.here hx rfl (hb hby d2_7) rfl rfl ?_
    exact kq)
  obtain ⟨T47, X47, e47, st47⟩ := getS2 X45 hx hZ hown (host := "") (Or.inl (tw35 hw)) Via.refl e45 S1 (g := (mkF m 8 #[.val (.ref w4)] [(.ref w4)])) rfl (hb hby d2_8)
  have go47 : Goes p e below s₁ (G_ord4 m w4) T47 (mkF m 11 #[.val (.ref w4)] [(.ref w1), (.ref w4)]) := fun tq kq => go46 tq (st47 _ kq)
  have go48 : Goes p e below s₁ (G_ord4 m w4) T47 (mkF m 19 #[.val (.ref w4)] [(.int (1 : Int32))]) := fun tq kq => go47 tq (by
    show Steps p.tables e below (T47.setTop (mkF m 11 #[.val (.ref w4)] [(.ref w1), (.ref w4)])) _
    refine Jvm.RoadKit.acmp (g := (mkF m 11 #[.val (.ref w4)] [(.ref w1), (.ref w4)])) X47 hx rfl rfl rfl (pc0 := 11) (pc' := 14) (same := false) rfl (hb hby d2_11) rfl (decide_eq_false fun q => n1k (Value.ref.inj q)) (by decide) (by decide) ?_
    show Steps p.tables e below (T47.setTop (mkF m 14 #[.val (.ref w4)] [])) _
    refine XS.iconst X47.here hx rfl (hb hby d2_14) ?_
    show Steps p.tables e below (T47.setTop (mkF m 15 #[.val (.ref w4)] [(.int (1 : Int32))])) _
    refine XS.goto X47.here hx rfl (pc0 := 15) (pc' := 19) rfl (hb hby d2_15) (by decide) (by decide) ?_
    exact kq)
  obtain ⟨fs, hr, hrun, hended, hW, hsame⟩ := X47.leave (v := some (.int (1 : Int32))) (fun h => by rw [Bd.returns] at h; cases h)
  refine ⟨_, _, go48 _ ?_, hrun, hended, _, _, rfl, ?_, ⟨_, rfl⟩, hW, hsame.mono (by decide) (by decide)⟩
  · exact retN X47 hx (t := .boolean) Bd.returns (by simp) (hb hby d2_19) hr
  · show Q_ord4 Z w0 w1 w2 w3 w4 w5 h0 n0 _ T47.heap _
    rw [e47]
    exact ⟨rfl, N0, rfl⟩
abbrev G_pick5 (m : MethodId)  : JFrame := (entryFrame m #[(.int (5 : Int32))] 1)
theorem d1_44 : decode method_2_code 44 = .ok (.getstatic 25, 3) := by decide +kernel
theorem d1_47 : decode method_2_code 47 = .ok (.areturn, 1) := by decide +kernel
def Q_pick5 (Z : State)  (w0 w1 w2 w3 w4 w5 : Addr) (h0 : Heap) (n0 : Nat) (v : Option Value) (h : Heap) (L : List Loc) : Prop := v = some (.ref w5) ∧ Fr n0 L ∧ h = h0
set_option maxRecDepth 65536 in
set_option maxHeartbeats 40000000 in
theorem pick5 (l : Launch) (Z : State) (a0 : Array Value) (hw : ∀ d ∈ tables_1, d.before a0 Z = true) (ws : List Jvm.Cond)  (w0 w1 w2 w3 w4 w5 : Addr) (h0 : Heap) (n0 : Nat) (Z0 : n0 ≤ h0.size) (S0 : Sta Z h0 "com/example/heft/heft/model/XPath$Comparison" "EQUAL" "Lcom/example/heft/heft/model/XPath$Comparison;" (.ref w0)) (S1 : Sta Z h0 "com/example/heft/heft/model/XPath$Comparison" "NOT_EQUAL" "Lcom/example/heft/heft/model/XPath$Comparison;" (.ref w1)) (S2 : Sta Z h0 "com/example/heft/heft/model/XPath$Comparison" "LESS" "Lcom/example/heft/heft/model/XPath$Comparison;" (.ref w2)) (S3 : Sta Z h0 "com/example/heft/heft/model/XPath$Comparison" "LESS_OR_EQUAL" "Lcom/example/heft/heft/model/XPath$Comparison;" (.ref w3)) (S4 : Sta Z h0 "com/example/heft/heft/model/XPath$Comparison" "GREATER" "Lcom/example/heft/heft/model/XPath$Comparison;" (.ref w4)) (S5 : Sta Z h0 "com/example/heft/heft/model/XPath$Comparison" "GREATER_OR_EQUAL" "Lcom/example/heft/heft/model/XPath$Comparison;" (.ref w5)) :
    MetFree l (⟨"com/example/heft/heft/model/ComparisonOrdersNumbersPinLaw", "pick", "(I)Lcom/example/heft/heft/model/XPath$Comparison;"⟩ : MethodName) (head1 (Jvm.Cond.code (⟨"com/example/heft/heft/model/ComparisonOrdersNumbersPinLaw", "pick", "(I)Lcom/example/heft/heft/model/XPath$Comparison;"⟩ : MethodName) method_2_code 1 (some (.object "com/example/heft/heft/model/XPath$Comparison")) :: ws) ({ frames := 0, cells := 0, slots := 0, locals := 0 } : Room)) (fun a U => a = #[(.int (5 : Int32))] ∧ Z.Warmed39 U.vm ∧ U.heap = h0) (fun _ _ _ _ _ => True) (fun _ U o U' => ∃ v L, o = .returned v ∧ Q_pick5 Z w0 w1 w2 w3 w4 w5 h0 n0 v U'.heap L ∧ FrameEnd U o U' L ({ frames := 0, cells := 0, slots := 0, locals := 0 } : Room).cells ({ frames := 0, cells := 0, slots := 0, locals := 0 } : Room).slots) := by
  refine MetFree.of_bodySF (plainFor_of_name pn_com_example_heft_heft_model_ComparisonOrdersNumbersPinLaw) hisR ?_
  intro p e s m args below meth c s₁ Bd hml0 hP hK
  obtain ⟨rfl, hZ, hh⟩ := hP
  have hx := Bd.exec
  have hby := Bd.bytes
  have hml : c.maxLocals = 1 := hml0
  have hown : s.vm.findClass "com/example/heft/heft/model/ComparisonOrdersNumbersPinLaw" = some m.cls := findClass_of_methodNamed Bd.named
  have hnm := (name_of_methodNamed Bd.named Bd.method).1
  have X0 : Stand p l e ({ frames := 0, cells := 0, slots := 0, locals := 0 } : Room) s m #[(.int (5 : Int32))] below meth c s₁ [] 0 0 := Stand.of_body Bd
  have e0 : s₁.heap = h0 := by rw [← hh, Bd.state]; rfl
  have N0 := Fr.nil n0
  have go0 : Goes p e below s₁ (G_pick5 m) s₁ (mkF m 0 #[.val (.int (5 : Int32))] []) := fun tq kq => castTop (by first | (simp [entryFrame, mkF, argsToLocals, Value.category, G_pick5]; done) | rfl) kq
  have go49 : Goes p e below s₁ (G_pick5 m) s₁ (mkF m 1 #[.val (.int (5 : Int32))] [(.int (5 : Int32))]) := fun tq kq => go0 tq (by
    show Steps p.tables e below (s₁.setTop (mkF m 0 #[.val (.int (5 : Int32))] [])) _
    refine XS.iloadN X0.here hx rfl (hb hby d1_0) rfl ?_
    exact kq)
  have go50 : Goes p e below s₁ (G_pick5 m) s₁ (mkF m 10 #[.val (.int (5 : Int32))] [(.int (1 : Int32)), (.int (5 : Int32))]) := fun tq kq => go49 tq (by
    show Steps p.tables e below (s₁.setTop (mkF m 1 #[.val (.int (5 : Int32))] [(.int (5 : Int32))])) _
    refine XS.ifYes X0.here hx rfl (pc0 := 1) (pc' := 8) rfl (hb hby d1_1) rfl ((if0 _ _).trans (feq (by decide)).2) (by decide) (by decide) ?_
    show Steps p.tables e below (s₁.setTop (mkF m 8 #[.val (.int (5 : Int32))] [])) _
    refine XS.iloadN X0.here hx rfl (hb hby d1_8) rfl ?_
    show Steps p.tables e below (s₁.setTop (mkF m 9 #[.val (.int (5 : Int32))] [(.int (5 : Int32))])) _
    refine XS.iconst X0.here hx rfl (hb hby d1_9) ?_
    exact kq)
  have go51 : Goes p e below s₁ (G_pick5 m) s₁ (mkF m 19 #[.val (.int (5 : Int32))] [(.int (2 : Int32)), (.int (5 : Int32))]) := fun tq kq => go50 tq (by
    show Steps p.tables e below (s₁.setTop (mkF m 10 #[.val (.int (5 : Int32))] [(.int (1 : Int32)), (.int (5 : Int32))])) _
    refine XS.icmpYes X0.here hx rfl (pc0 := 10) (pc' := 17) rfl (hb hby d1_10) rfl (feq (by decide)).2 (by decide) (by decide) ?_
    show Steps p.tables e below (s₁.setTop (mkF m 17 #[.val (.int (5 : Int32))] [])) _
    refine XS.iloadN X0.here hx rfl (hb hby d1_17) rfl ?_
    show Steps p.tables e below (s₁.setTop (mkF m 18 #[.val (.int (5 : Int32))] [(.int (5 : Int32))])) _
    refine XS.iconst X0.here hx rfl (hb hby d1_18) ?_
    exact kq)
  have go52 : Goes p e below s₁ (G_pick5 m) s₁ (mkF m 28 #[.val (.int (5 : Int32))] [(.int (3 : Int32)), (.int (5 : Int32))]) := fun tq kq => go51 tq (by
    show Steps p.tables e below (s₁.setTop (mkF m 19 #[.val (.int (5 : Int32))] [(.int (2 : Int32)), (.int (5 : Int32))])) _
    refine XS.icmpYes X0.here hx rfl (pc0 := 19) (pc' := 26) rfl (hb hby d1_19) rfl (feq (by decide)).2 (by decide) (by decide) ?_
    show Steps p.tables e below (s₁.setTop (mkF m 26 #[.val (.int (5 : Int32))] [])) _
    refine XS.iloadN X0.here hx rfl (hb hby d1_26) rfl ?_
    show Steps p.tables e below (s₁.setTop (mkF m 27 #[.val (.int (5 : Int32))] [(.int (5 : Int32))])) _
    refine XS.iconst X0.here hx rfl (hb hby d1_27) ?_
    exact kq)
  have go53 : Goes p e below s₁ (G_pick5 m) s₁ (mkF m 37 #[.val (.int (5 : Int32))] [(.int (4 : Int32)), (.int (5 : Int32))]) := fun tq kq => go52 tq (by
    show Steps p.tables e below (s₁.setTop (mkF m 28 #[.val (.int (5 : Int32))] [(.int (3 : Int32)), (.int (5 : Int32))])) _
    refine XS.icmpYes X0.here hx rfl (pc0 := 28) (pc' := 35) rfl (hb hby d1_28) rfl (feq (by decide)).2 (by decide) (by decide) ?_
    show Steps p.tables e below (s₁.setTop (mkF m 35 #[.val (.int (5 : Int32))] [])) _
    refine XS.iloadN X0.here hx rfl (hb hby d1_35) rfl ?_
    show Steps p.tables e below (s₁.setTop (mkF m 36 #[.val (.int (5 : Int32))] [(.int (5 : Int32))])) _
    refine XS.iconst X0.here hx rfl (hb hby d1_36) ?_
    exact kq)
  have go54 : Goes p e below s₁ (G_pick5 m) s₁ (mkF m 44 #[.val (.int (5 : Int32))] []) := fun tq kq => go53 tq (by
    show Steps p.tables e below (s₁.setTop (mkF m 37 #[.val (.int (5 : Int32))] [(.int (4 : Int32)), (.int (5 : Int32))])) _
    refine XS.icmpYes X0.here hx rfl (pc0 := 37) (pc' := 44) rfl (hb hby d1_37) rfl (feq (by decide)).2 (by decide) (by decide) ?_
    exact kq)
  obtain ⟨T55, X55, e55, st55⟩ := getS2 X0 hx hZ hown (host := "") (Or.inl (tw42 hw)) Via.refl e0 S5 (g := (mkF m 44 #[.val (.int (5 : Int32))] [])) rfl (hb hby d1_44)
  have go55 : Goes p e below s₁ (G_pick5 m) T55 (mkF m 47 #[.val (.int (5 : Int32))] [(.ref w5)]) := fun tq kq => go54 tq (st55 _ kq)
  obtain ⟨fs, hr, hrun, hended, hW, hsame⟩ := X55.leave (v := some (.ref w5)) (fun h => by rw [Bd.returns] at h; cases h)
  refine ⟨_, _, go55 _ ?_, hrun, hended, _, _, rfl, ?_, ⟨_, rfl⟩, hW, hsame.mono (by decide) (by decide)⟩
  · jvm_step X55.here [X55.here.top, hx, (hb hby d1_47), X55.method', Bd.returns, Value.isRef, FieldType.isReference]
    first | (intro acts; rw [hr _ acts rfl rfl rfl]) | rw [hr _ _ rfl rfl rfl]
    exact Steps.refl _
  · show Q_pick5 Z w0 w1 w2 w3 w4 w5 h0 n0 _ T55.heap _
    rw [e55]
    exact ⟨rfl, N0, rfl⟩
abbrev G_ord5 (m : MethodId) (w5 : Addr) : JFrame := (entryFrame m #[(.ref w5)] 1)
def Q_ord5 (Z : State)  (w0 w1 w2 w3 w4 w5 : Addr) (h0 : Heap) (n0 : Nat) (v : Option Value) (h : Heap) (L : List Loc) : Prop := v = some (.int (1 : Int32)) ∧ Fr n0 L ∧ h = h0
set_option maxRecDepth 65536 in
set_option maxHeartbeats 40000000 in
theorem ord5 (l : Launch) (Z : State) (a0 : Array Value) (hw : ∀ d ∈ tables_1, d.before a0 Z = true) (ws : List Jvm.Cond)  (w0 w1 w2 w3 w4 w5 : Addr) (h0 : Heap) (n0 : Nat) (Z0 : n0 ≤ h0.size) (S0 : Sta Z h0 "com/example/heft/heft/model/XPath$Comparison" "EQUAL" "Lcom/example/heft/heft/model/XPath$Comparison;" (.ref w0)) (S1 : Sta Z h0 "com/example/heft/heft/model/XPath$Comparison" "NOT_EQUAL" "Lcom/example/heft/heft/model/XPath$Comparison;" (.ref w1)) (S2 : Sta Z h0 "com/example/heft/heft/model/XPath$Comparison" "LESS" "Lcom/example/heft/heft/model/XPath$Comparison;" (.ref w2)) (S3 : Sta Z h0 "com/example/heft/heft/model/XPath$Comparison" "LESS_OR_EQUAL" "Lcom/example/heft/heft/model/XPath$Comparison;" (.ref w3)) (S4 : Sta Z h0 "com/example/heft/heft/model/XPath$Comparison" "GREATER" "Lcom/example/heft/heft/model/XPath$Comparison;" (.ref w4)) (S5 : Sta Z h0 "com/example/heft/heft/model/XPath$Comparison" "GREATER_OR_EQUAL" "Lcom/example/heft/heft/model/XPath$Comparison;" (.ref w5)) (n0k : ¬ (w5 = w0)) (n1k : ¬ (w5 = w1)) :
    MetFree l (⟨"com/example/heft/heft/model/XPath$Comparison", "ordersNumbers", "()Z"⟩ : MethodName) (head1 (Jvm.Cond.code (⟨"com/example/heft/heft/model/XPath$Comparison", "ordersNumbers", "()Z"⟩ : MethodName) prog_107_method_6_code 1 (some .boolean) :: ws) ({ frames := 0, cells := 0, slots := 0, locals := 0 } : Room)) (fun a U => a = #[(.ref w5)] ∧ Z.Warmed39 U.vm ∧ U.heap = h0) (fun _ _ _ _ _ => True) (fun _ U o U' => ∃ v L, o = .returned v ∧ Q_ord5 Z w0 w1 w2 w3 w4 w5 h0 n0 v U'.heap L ∧ FrameEnd U o U' L ({ frames := 0, cells := 0, slots := 0, locals := 0 } : Room).cells ({ frames := 0, cells := 0, slots := 0, locals := 0 } : Room).slots) := by
  refine MetFree.of_bodySF (plainFor_of_name pn_com_example_heft_heft_model_XPath_Comparison) hisR ?_
  intro p e s m args below meth c s₁ Bd hml0 hP hK
  obtain ⟨rfl, hZ, hh⟩ := hP
  have hx := Bd.exec
  have hby := Bd.bytes
  have hml : c.maxLocals = 1 := hml0
  have hown : s.vm.findClass "com/example/heft/heft/model/XPath$Comparison" = some m.cls := findClass_of_methodNamed Bd.named
  have hnm := (name_of_methodNamed Bd.named Bd.method).1
  have X0 : Stand p l e ({ frames := 0, cells := 0, slots := 0, locals := 0 } : Room) s m #[(.ref w5)] below meth c s₁ [] 0 0 := Stand.of_body Bd
  have e0 : s₁.heap = h0 := by rw [← hh, Bd.state]; rfl
  have N0 := Fr.nil n0
  have go0 : Goes p e below s₁ (G_ord5 m w5) s₁ (mkF m 0 #[.val (.ref w5)] []) := fun tq kq => castTop (by first | (simp [entryFrame, mkF, argsToLocals, Value.category, G_ord5]; done) | rfl) kq
  have go56 : Goes p e below s₁ (G_ord5 m w5) s₁ (mkF m 1 #[.val (.ref w5)] [(.ref w5)]) := fun tq kq => go0 tq (by
    show Steps p.tables e below (s₁.setTop (mkF m 0 #[.val (.ref w5)] [])) _
    refine XS.aloadN X0.here hx rfl (hb hby d2_0) rfl rfl ?_
    exact kq)
  obtain ⟨T57, X57, e57, st57⟩ := getS2 X0 hx hZ hown (host := "") (Or.inl (tw13 hw)) Via.refl e0 S0 (g := (mkF m 1 #[.val (.ref w5)] [(.ref w5)])) rfl (hb hby d2_1)
  have go57 : Goes p e below s₁ (G_ord5 m w5) T57 (mkF m 4 #[.val (.ref w5)] [(.ref w0), (.ref w5)]) := fun tq kq => go56 tq (st57 _ kq)
  have go58 : Goes p e below s₁ (G_ord5 m w5) T57 (mkF m 8 #[.val (.ref w5)] [(.ref w5)]) := fun tq kq => go57 tq (by
    show Steps p.tables e below (T57.setTop (mkF m 4 #[.val (.ref w5)] [(.ref w0), (.ref w5)])) _
    refine Jvm.RoadKit.acmp (g := (mkF m 4 #[.val (.ref w5)] [(.ref w0), (.ref w5)])) X57 hx rfl rfl rfl (pc0 := 4) (pc' := 7) (same := false) rfl (hb hby d2_4) rfl (decide_eq_false fun q => n0k (Value.ref.inj q)) (by decide) (by decide) ?_
    show Steps p.tables e below (T57.setTop (mkF m 7 #[.val (.ref w5)] [])) _
    refine XS.aloadN X57.here hx rfl (hb hby d2_7) rfl rfl ?_
    exact kq)
  obtain ⟨T59, X59, e59, st59⟩ := getS2 X57 hx hZ hown (host := "") (Or.inl (tw35 hw)) Via.refl e57 S1 (g := (mkF m 8 #[.val (.ref w5)] [(.ref w5)])) rfl (hb hby d2_8)
  have go59 : Goes p e below s₁ (G_ord5 m w5) T59 (mkF m 11 #[.val (.ref w5)] [(.ref w1), (.ref w5)]) := fun tq kq => go58 tq (st59 _ kq)
  have go60 : Goes p e below s₁ (G_ord5 m w5) T59 (mkF m 19 #[.val (.ref w5)] [(.int (1 : Int32))]) := fun tq kq => go59 tq (by
    show Steps p.tables e below (T59.setTop (mkF m 11 #[.val (.ref w5)] [(.ref w1), (.ref w5)])) _
    refine Jvm.RoadKit.acmp (g := (mkF m 11 #[.val (.ref w5)] [(.ref w1), (.ref w5)])) X59 hx rfl rfl rfl (pc0 := 11) (pc' := 14) (same := false) rfl (hb hby d2_11) rfl (decide_eq_false fun q => n1k (Value.ref.inj q)) (by decide) (by decide) ?_
    show Steps p.tables e below (T59.setTop (mkF m 14 #[.val (.ref w5)] [])) _
    refine XS.iconst X59.here hx rfl (hb hby d2_14) ?_
    show Steps p.tables e below (T59.setTop (mkF m 15 #[.val (.ref w5)] [(.int (1 : Int32))])) _
    refine XS.goto X59.here hx rfl (pc0 := 15) (pc' := 19) rfl (hb hby d2_15) (by decide) (by decide) ?_
    exact kq)
  obtain ⟨fs, hr, hrun, hended, hW, hsame⟩ := X59.leave (v := some (.int (1 : Int32))) (fun h => by rw [Bd.returns] at h; cases h)
  refine ⟨_, _, go60 _ ?_, hrun, hended, _, _, rfl, ?_, ⟨_, rfl⟩, hW, hsame.mono (by decide) (by decide)⟩
  · exact retN X59 hx (t := .boolean) Bd.returns (by simp) (hb hby d2_19) hr
  · show Q_ord5 Z w0 w1 w2 w3 w4 w5 h0 n0 _ T59.heap _
    rw [e59]
    exact ⟨rfl, N0, rfl⟩
abbrev G_ordi (m : MethodId) (a1 : Addr) : JFrame := (entryFrame m #[(.ref a1)] 1)
theorem d4_0 : decode jdk_37_method_2_code 0 = .ok (.aload_n 0, 1) := by decide +kernel
theorem d4_1 : decode jdk_37_method_2_code 1 = .ok (.getfield 7, 3) := by decide +kernel
theorem d4_4 : decode jdk_37_method_2_code 4 = .ok (.ireturn, 1) := by decide +kernel
def Q_ordi (Z : State) (a1 : Addr) (oo : Int32) (h0 : Heap) (n0 : Nat) (v : Option Value) (h : Heap) (L : List Loc) : Prop := v = some (.int oo) ∧ Fr n0 L ∧ h = h0
theorem pn_java_lang_Enum : plainName "java/lang/Enum" = true := by first | (simp [plainName, overriddenIn]; done) | decide +kernel
set_option maxRecDepth 65536 in
set_option maxHeartbeats 40000000 in
theorem ordi (l : Launch) (Z : State) (a0 : Array Value) (hw : ∀ d ∈ tables_1, d.before a0 Z = true) (ws : List Jvm.Cond) (a1 : Addr) (oo : Int32) (h0 : Heap) (n0 : Nat) (Z0 : n0 ≤ h0.size) (F : Fld Z h0 a1 "java/lang/Enum" "ordinal" "I" (.int oo)) :
    MetFree l (⟨"java/lang/Enum", "ordinal", "()I"⟩ : MethodName) (head1 (Jvm.Cond.code (⟨"java/lang/Enum", "ordinal", "()I"⟩ : MethodName) jdk_37_method_2_code 1 (some .int) :: ws) ({ frames := 0, cells := 0, slots := 0, locals := 0 } : Room)) (fun a U => a = #[(.ref a1)] ∧ Z.Warmed39 U.vm ∧ U.heap = h0) (fun _ _ _ _ _ => True) (fun _ U o U' => ∃ v L, o = .returned v ∧ Q_ordi Z a1 oo h0 n0 v U'.heap L ∧ FrameEnd U o U' L ({ frames := 0, cells := 0, slots := 0, locals := 0 } : Room).cells ({ frames := 0, cells := 0, slots := 0, locals := 0 } : Room).slots) := by
  refine MetFree.of_bodySF (plainFor_of_name pn_java_lang_Enum) hisR ?_
  intro p e s m args below meth c s₁ Bd hml0 hP hK
  obtain ⟨rfl, hZ, hh⟩ := hP
  have hx := Bd.exec
  have hby := Bd.bytes
  have hml : c.maxLocals = 1 := hml0
  have hown : s.vm.findClass "java/lang/Enum" = some m.cls := findClass_of_methodNamed Bd.named
  have hnm := (name_of_methodNamed Bd.named Bd.method).1
  have X0 : Stand p l e ({ frames := 0, cells := 0, slots := 0, locals := 0 } : Room) s m #[(.ref a1)] below meth c s₁ [] 0 0 := Stand.of_body Bd
  have e0 : s₁.heap = h0 := by rw [← hh, Bd.state]; rfl
  have N0 := Fr.nil n0
  have go0 : Goes p e below s₁ (G_ordi m a1) s₁ (mkF m 0 #[.val (.ref a1)] []) := fun tq kq => castTop (by first | (simp [entryFrame, mkF, argsToLocals, Value.category, G_ordi]; done) | rfl) kq
  have go61 : Goes p e below s₁ (G_ordi m a1) s₁ (mkF m 1 #[.val (.ref a1)] [(.ref a1)]) := fun tq kq => go0 tq (by
    show Steps p.tables e below (s₁.setTop (mkF m 0 #[.val (.ref a1)] [])) _
    refine XS.aloadN X0.here hx rfl (hb hby d4_0) rfl rfl ?_
    exact kq)
  obtain ⟨T62, X62, e62, st62⟩ := getF X0 hx hZ hown (host := "") (Or.inl (tw26 hw)) Via.refl e0 F (g := (mkF m 1 #[.val (.ref a1)] [(.ref a1)])) rfl rfl (hb hby d4_1)
  have go62 : Goes p e below s₁ (G_ordi m a1) T62 (mkF m 4 #[.val (.ref a1)] [(.int oo)]) := fun tq kq => go61 tq (st62 _ kq)
  obtain ⟨fs, hr, hrun, hended, hW, hsame⟩ := X62.leave (v := some (.int oo)) (fun h => by rw [Bd.returns] at h; cases h)
  refine ⟨_, _, go62 _ ?_, hrun, hended, _, _, rfl, ?_, ⟨_, rfl⟩, hW, hsame.mono (by decide) (by decide)⟩
  · exact retI X62 hx Bd.returns (hb hby d4_4) hr
  · show Q_ordi Z a1 oo h0 n0 _ T62.heap _
    rw [e62]
    exact ⟨rfl, N0, rfl⟩
abbrev G_holds0l (m : MethodId) (a1 : Addr) (dA : UInt64) (dB : UInt64) : JFrame := (entryFrame m #[(.ref a1), (.double dA), (.double dB)] 5)
theorem d3_0 : decode prog_107_method_7_code 0 = .ok (.aload_n 0, 1) := by decide +kernel
theorem d3_1 : decode prog_107_method_7_code 1 = .ok (.invokevirtual 65, 3) := by decide +kernel
theorem pd_0 : parseMethodDescriptor "()I" = some ⟨[], some .int⟩ := by decide +kernel
theorem d3_4 : decode prog_107_method_7_code 4 = .ok (.tableswitch 40 0 5 #[50, 64, 78, 92, 106, 120], 40) := by decide +kernel
theorem d3_54 : decode prog_107_method_7_code 54 = .ok (.dload_n 1, 1) := by decide +kernel
theorem d3_55 : decode prog_107_method_7_code 55 = .ok (.dload_n 3, 1) := by decide +kernel
theorem d3_56 : decode prog_107_method_7_code 56 = .ok (.dcmp .l, 1) := by decide +kernel
theorem d3_57 : decode prog_107_method_7_code 57 = .ok (.ifCond .ne 7, 3) := by decide +kernel
theorem d3_64 : decode prog_107_method_7_code 64 = .ok (.iconst 0, 1) := by decide +kernel
theorem d3_65 : decode prog_107_method_7_code 65 = .ok (.goto 70, 3) := by decide +kernel
theorem d3_135 : decode prog_107_method_7_code 135 = .ok (.ireturn, 1) := by decide +kernel
def Q_holds0l (Z : State) (a1 : Addr) (dA : UInt64) (dB : UInt64) (A B : Int64) (h0 : Heap) (n0 : Nat) (v : Option Value) (h : Heap) (L : List Loc) : Prop := v = some (.int (0 : Int32)) ∧ Fr n0 L ∧ h = h0
set_option maxRecDepth 65536 in
set_option maxHeartbeats 40000000 in
theorem holds0l (l : Launch) (Z : State) (a0 : Array Value) (hw : ∀ d ∈ tables_1, d.before a0 Z = true) (ws : List Jvm.Cond) (a1 : Addr) (dA : UInt64) (dB : UInt64) (A B : Int64) (h0 : Heap) (n0 : Nat) (Z0 : n0 ≤ h0.size) (Ex : Exa Z h0 a1 "com/example/heft/heft/model/XPath$Comparison") (F : Fld Z h0 a1 "java/lang/Enum" "ordinal" "I" (.int (0 : Int32))) (eA : dA = FP.l2d A) (eB : dB = FP.l2d B) (hA : B53 A) (hB : B53 B) (hE : ¬ (A = B)) (hL : A < B) (hG : ¬ (B < A)) :
    MetFree l (⟨"com/example/heft/heft/model/XPath$Comparison", "holds", "(DD)Z"⟩ : MethodName) (head1 (Jvm.Cond.code (⟨"com/example/heft/heft/model/XPath$Comparison", "holds", "(DD)Z"⟩ : MethodName) prog_107_method_7_code 5 (some .boolean) :: ws) ({ frames := 1, cells := 0, slots := 0, locals := 12 } : Room)) (fun a U => a = #[(.ref a1), (.double dA), (.double dB)] ∧ Z.Warmed39 U.vm ∧ U.heap = h0) (fun _ _ _ _ _ => True) (fun _ U o U' => ∃ v L, o = .returned v ∧ Q_holds0l Z a1 dA dB A B h0 n0 v U'.heap L ∧ FrameEnd U o U' L ({ frames := 1, cells := 0, slots := 0, locals := 12 } : Room).cells ({ frames := 1, cells := 0, slots := 0, locals := 12 } : Room).slots) := by
  refine MetFree.of_bodySF (plainFor_of_name pn_com_example_heft_heft_model_XPath_Comparison) hisR ?_
  intro p e s m args below meth c s₁ Bd hml0 hP hK
  obtain ⟨rfl, hZ, hh⟩ := hP
  have hx := Bd.exec
  have hby := Bd.bytes
  have hml : c.maxLocals = 5 := hml0
  have hown : s.vm.findClass "com/example/heft/heft/model/XPath$Comparison" = some m.cls := findClass_of_methodNamed Bd.named
  have hnm := (name_of_methodNamed Bd.named Bd.method).1
  have X0 : Stand p l e ({ frames := 1, cells := 0, slots := 0, locals := 12 } : Room) s m #[(.ref a1), (.double dA), (.double dB)] below meth c s₁ [] 0 0 := Stand.of_body Bd
  have e0 : s₁.heap = h0 := by rw [← hh, Bd.state]; rfl
  have N0 := Fr.nil n0
  have go0 : Goes p e below s₁ (G_holds0l m a1 dA dB) s₁ (mkF m 0 #[.val (.ref a1), .val (.double dA), .second, .val (.double dB), .second] []) := fun tq kq => castTop (by first | (simp [entryFrame, mkF, argsToLocals, Value.category, G_holds0l]; done) | rfl) kq
  have go63 : Goes p e below s₁ (G_holds0l m a1 dA dB) s₁ (mkF m 1 #[.val (.ref a1), .val (.double dA), .second, .val (.double dB), .second] [(.ref a1)]) := fun tq kq => go0 tq (by
    show Steps p.tables e below (s₁.setTop (mkF m 0 #[.val (.ref a1), .val (.double dA), .second, .val (.double dB), .second] [])) _
    refine XS.aloadN X0.here hx rfl (hb hby d3_0) rfl rfl ?_
    exact kq)
  obtain ⟨cq64, kq64, q64a, q64b, q64c⟩ := isOf hZ e0 Ex
  obtain ⟨vv64, _, ⟨T64, L64, k64, n64⟩, -, X64, ⟨Lc64, hQ64, l64, y64, z64⟩, st64⟩ := X0.virtualBackUp hx (x := (⟨"com/example/heft/heft/model/XPath$Comparison", "ordinal", "()I"⟩ : MethodName)) (y := (⟨"java/lang/Enum", "ordinal", "()I"⟩ : MethodName)) hown (mvT hZ (tw19 hw)) (mvT hZ (tw20 hw)) (mvT hZ (tw21 hw)) (by decide) (mvT hZ (tw23 hw)) (mvT hZ (tw22 hw)) (backOf (W := 0) (ordi l Z a0 hw [] a1 (0 : Int32) h0 n0 Z0 F) hZ (tw25 hw) (tw24 hw) (by decide) (by decide)) q64a q64c (g := (mkF m 1 #[.val (.ref a1), .val (.double dA), .second, .val (.double dB), .second] [(.ref a1)])) rfl (by rw [hml]; rfl) (Steps.refl _) (argsL := []) (rest := []) (lenOf pd_0 rfl) rfl (by show 2 * 0 + _ ≤ _; exact Nat.le_of_eq rfl) (hb hby d3_1) (fun _ _ => ⟨rfl, e0, (by decide : 0 + 0 ≤ _), (by decide : 0 + 0 ≤ _)⟩)
  dsimp only [Pt.U, Pt.locs, Pt.cells, Pt.slots] at X64 l64 y64 z64 st64 hQ64
  subst l64 y64 z64
  obtain ⟨rfl, Nq64, eq64⟩ := hQ64
  have N64 := Fr.app N0 Nq64
  have go64 : Goes p e below s₁ (G_holds0l m a1 dA dB) T64 (mkF m 4 #[.val (.ref a1), .val (.double dA), .second, .val (.double dB), .second] [(.int (0 : Int32))]) := fun tq kq => go63 tq (st64.trans kq)
  have go65 : Goes p e below s₁ (G_holds0l m a1 dA dB) T64 (mkF m 57 #[.val (.ref a1), .val (.double dA), .second, .val (.double dB), .second] [(.int (lcmpW A B))]) := fun tq kq => go64 tq (by
    show Steps p.tables e below (T64.setTop (mkF m 4 #[.val (.ref a1), .val (.double dA), .second, .val (.double dB), .second] [(.int (0 : Int32))])) _
    refine XS.tswIn X64.here hx rfl (pc0 := 4) (pc' := 54) (o := 50) rfl (hb hby d3_4) rfl (by decide) (by decide +kernel) (by decide) (by decide) ?_
    show Steps p.tables e below (T64.setTop (mkF m 54 #[.val (.ref a1), .val (.double dA), .second, .val (.double dB), .second] [])) _
    refine XS.dloadN X64.here hx rfl (hb hby d3_54) rfl ?_
    show Steps p.tables e below (T64.setTop (mkF m 55 #[.val (.ref a1), .val (.double dA), .second, .val (.double dB), .second] [(.double dA)])) _
    refine XS.dloadN X64.here hx rfl (hb hby d3_55) rfl ?_
    show Steps p.tables e below (T64.setTop (mkF m 56 #[.val (.ref a1), .val (.double dA), .second, .val (.double dB), .second] [(.double dB), (.double dA)])) _
    refine XS.dcmpS X64.here hx rfl (hb hby d3_56) rfl (show cmpValue (FP.dcmp dA dB) _ = lcmpW A B from (congrArg (fun z => cmpValue z _) (congr (congrArg FP.dcmp eA) eB)).trans (dcmpV_w hA hB _)) ?_
    exact kq)
  have go66 : Goes p e below s₁ (G_holds0l m a1 dA dB) T64 (mkF m 135 #[.val (.ref a1), .val (.double dA), .second, .val (.double dB), .second] [(.int (0 : Int32))]) := fun tq kq => go65 tq (by
    show Steps p.tables e below (T64.setTop (mkF m 57 #[.val (.ref a1), .val (.double dA), .second, .val (.double dB), .second] [(.int (lcmpW A B))])) _
    refine XS.ifYes X64.here hx rfl (pc0 := 57) (pc' := 64) rfl (hb hby d3_57) rfl ((if0 _ _).trans (feq (own_lcne hE)).2) (by decide) (by decide) ?_
    show Steps p.tables e below (T64.setTop (mkF m 64 #[.val (.ref a1), .val (.double dA), .second, .val (.double dB), .second] [])) _
    refine XS.iconst X64.here hx rfl (hb hby d3_64) ?_
    show Steps p.tables e below (T64.setTop (mkF m 65 #[.val (.ref a1), .val (.double dA), .second, .val (.double dB), .second] [(.int (0 : Int32))])) _
    refine XS.goto X64.here hx rfl (pc0 := 65) (pc' := 135) rfl (hb hby d3_65) (by decide) (by decide) ?_
    exact kq)
  obtain ⟨fs, hr, hrun, hended, hW, hsame⟩ := X64.leave (v := some (.int (0 : Int32))) (fun h => by rw [Bd.returns] at h; cases h)
  refine ⟨_, _, go66 _ ?_, hrun, hended, _, _, rfl, ?_, ⟨_, rfl⟩, hW, hsame.mono (by decide) (by decide)⟩
  · exact retN X64 hx (t := .boolean) Bd.returns (by simp) (hb hby d3_135) hr
  · show Q_holds0l Z a1 dA dB A B h0 n0 _ T64.heap _
    rw [eq64]
    exact ⟨rfl, N64, rfl⟩
abbrev G_holds0g (m : MethodId) (a1 : Addr) (dA : UInt64) (dB : UInt64) : JFrame := (entryFrame m #[(.ref a1), (.double dA), (.double dB)] 5)
def Q_holds0g (Z : State) (a1 : Addr) (dA : UInt64) (dB : UInt64) (A B : Int64) (h0 : Heap) (n0 : Nat) (v : Option Value) (h : Heap) (L : List Loc) : Prop := v = some (.int (0 : Int32)) ∧ Fr n0 L ∧ h = h0
set_option maxRecDepth 65536 in
set_option maxHeartbeats 40000000 in
theorem holds0g (l : Launch) (Z : State) (a0 : Array Value) (hw : ∀ d ∈ tables_1, d.before a0 Z = true) (ws : List Jvm.Cond) (a1 : Addr) (dA : UInt64) (dB : UInt64) (A B : Int64) (h0 : Heap) (n0 : Nat) (Z0 : n0 ≤ h0.size) (Ex : Exa Z h0 a1 "com/example/heft/heft/model/XPath$Comparison") (F : Fld Z h0 a1 "java/lang/Enum" "ordinal" "I" (.int (0 : Int32))) (eA : dA = FP.l2d A) (eB : dB = FP.l2d B) (hA : B53 A) (hB : B53 B) (hE : ¬ (A = B)) (hL : ¬ (A < B)) (hG : B < A) :
    MetFree l (⟨"com/example/heft/heft/model/XPath$Comparison", "holds", "(DD)Z"⟩ : MethodName) (head1 (Jvm.Cond.code (⟨"com/example/heft/heft/model/XPath$Comparison", "holds", "(DD)Z"⟩ : MethodName) prog_107_method_7_code 5 (some .boolean) :: ws) ({ frames := 1, cells := 0, slots := 0, locals := 12 } : Room)) (fun a U => a = #[(.ref a1), (.double dA), (.double dB)] ∧ Z.Warmed39 U.vm ∧ U.heap = h0) (fun _ _ _ _ _ => True) (fun _ U o U' => ∃ v L, o = .returned v ∧ Q_holds0g Z a1 dA dB A B h0 n0 v U'.heap L ∧ FrameEnd U o U' L ({ frames := 1, cells := 0, slots := 0, locals := 12 } : Room).cells ({ frames := 1, cells := 0, slots := 0, locals := 12 } : Room).slots) := by
  refine MetFree.of_bodySF (plainFor_of_name pn_com_example_heft_heft_model_XPath_Comparison) hisR ?_
  intro p e s m args below meth c s₁ Bd hml0 hP hK
  obtain ⟨rfl, hZ, hh⟩ := hP
  have hx := Bd.exec
  have hby := Bd.bytes
  have hml : c.maxLocals = 5 := hml0
  have hown : s.vm.findClass "com/example/heft/heft/model/XPath$Comparison" = some m.cls := findClass_of_methodNamed Bd.named
  have hnm := (name_of_methodNamed Bd.named Bd.method).1
  have X0 : Stand p l e ({ frames := 1, cells := 0, slots := 0, locals := 12 } : Room) s m #[(.ref a1), (.double dA), (.double dB)] below meth c s₁ [] 0 0 := Stand.of_body Bd
  have e0 : s₁.heap = h0 := by rw [← hh, Bd.state]; rfl
  have N0 := Fr.nil n0
  have go0 : Goes p e below s₁ (G_holds0g m a1 dA dB) s₁ (mkF m 0 #[.val (.ref a1), .val (.double dA), .second, .val (.double dB), .second] []) := fun tq kq => castTop (by first | (simp [entryFrame, mkF, argsToLocals, Value.category, G_holds0g]; done) | rfl) kq
  have go67 : Goes p e below s₁ (G_holds0g m a1 dA dB) s₁ (mkF m 1 #[.val (.ref a1), .val (.double dA), .second, .val (.double dB), .second] [(.ref a1)]) := fun tq kq => go0 tq (by
    show Steps p.tables e below (s₁.setTop (mkF m 0 #[.val (.ref a1), .val (.double dA), .second, .val (.double dB), .second] [])) _
    refine XS.aloadN X0.here hx rfl (hb hby d3_0) rfl rfl ?_
    exact kq)
  obtain ⟨cq68, kq68, q68a, q68b, q68c⟩ := isOf hZ e0 Ex
  obtain ⟨vv68, _, ⟨T68, L68, k68, n68⟩, -, X68, ⟨Lc68, hQ68, l68, y68, z68⟩, st68⟩ := X0.virtualBackUp hx (x := (⟨"com/example/heft/heft/model/XPath$Comparison", "ordinal", "()I"⟩ : MethodName)) (y := (⟨"java/lang/Enum", "ordinal", "()I"⟩ : MethodName)) hown (mvT hZ (tw19 hw)) (mvT hZ (tw20 hw)) (mvT hZ (tw21 hw)) (by decide) (mvT hZ (tw23 hw)) (mvT hZ (tw22 hw)) (backOf (W := 0) (ordi l Z a0 hw [] a1 (0 : Int32) h0 n0 Z0 F) hZ (tw25 hw) (tw24 hw) (by decide) (by decide)) q68a q68c (g := (mkF m 1 #[.val (.ref a1), .val (.double dA), .second, .val (.double dB), .second] [(.ref a1)])) rfl (by rw [hml]; rfl) (Steps.refl _) (argsL := []) (rest := []) (lenOf pd_0 rfl) rfl (by show 2 * 0 + _ ≤ _; exact Nat.le_of_eq rfl) (hb hby d3_1) (fun _ _ => ⟨rfl, e0, (by decide : 0 + 0 ≤ _), (by decide : 0 + 0 ≤ _)⟩)
  dsimp only [Pt.U, Pt.locs, Pt.cells, Pt.slots] at X68 l68 y68 z68 st68 hQ68
  subst l68 y68 z68
  obtain ⟨rfl, Nq68, eq68⟩ := hQ68
  have N68 := Fr.app N0 Nq68
  have go68 : Goes p e below s₁ (G_holds0g m a1 dA dB) T68 (mkF m 4 #[.val (.ref a1), .val (.double dA), .second, .val (.double dB), .second] [(.int (0 : Int32))]) := fun tq kq => go67 tq (st68.trans kq)
  have go69 : Goes p e below s₁ (G_holds0g m a1 dA dB) T68 (mkF m 57 #[.val (.ref a1), .val (.double dA), .second, .val (.double dB), .second] [(.int (lcmpW A B))]) := fun tq kq => go68 tq (by
    show Steps p.tables e below (T68.setTop (mkF m 4 #[.val (.ref a1), .val (.double dA), .second, .val (.double dB), .second] [(.int (0 : Int32))])) _
    refine XS.tswIn X68.here hx rfl (pc0 := 4) (pc' := 54) (o := 50) rfl (hb hby d3_4) rfl (by decide) (by decide +kernel) (by decide) (by decide) ?_
    show Steps p.tables e below (T68.setTop (mkF m 54 #[.val (.ref a1), .val (.double dA), .second, .val (.double dB), .second] [])) _
    refine XS.dloadN X68.here hx rfl (hb hby d3_54) rfl ?_
    show Steps p.tables e below (T68.setTop (mkF m 55 #[.val (.ref a1), .val (.double dA), .second, .val (.double dB), .second] [(.double dA)])) _
    refine XS.dloadN X68.here hx rfl (hb hby d3_55) rfl ?_
    show Steps p.tables e below (T68.setTop (mkF m 56 #[.val (.ref a1), .val (.double dA), .second, .val (.double dB), .second] [(.double dB), (.double dA)])) _
    refine XS.dcmpS X68.here hx rfl (hb hby d3_56) rfl (show cmpValue (FP.dcmp dA dB) _ = lcmpW A B from (congrArg (fun z => cmpValue z _) (congr (congrArg FP.dcmp eA) eB)).trans (dcmpV_w hA hB _)) ?_
    exact kq)
  have go70 : Goes p e below s₁ (G_holds0g m a1 dA dB) T68 (mkF m 135 #[.val (.ref a1), .val (.double dA), .second, .val (.double dB), .second] [(.int (0 : Int32))]) := fun tq kq => go69 tq (by
    show Steps p.tables e below (T68.setTop (mkF m 57 #[.val (.ref a1), .val (.double dA), .second, .val (.double dB), .second] [(.int (lcmpW A B))])) _
    refine XS.ifYes X68.here hx rfl (pc0 := 57) (pc' := 64) rfl (hb hby d3_57) rfl ((if0 _ _).trans (feq (own_lcne hE)).2) (by decide) (by decide) ?_
    show Steps p.tables e below (T68.setTop (mkF m 64 #[.val (.ref a1), .val (.double dA), .second, .val (.double dB), .second] [])) _
    refine XS.iconst X68.here hx rfl (hb hby d3_64) ?_
    show Steps p.tables e below (T68.setTop (mkF m 65 #[.val (.ref a1), .val (.double dA), .second, .val (.double dB), .second] [(.int (0 : Int32))])) _
    refine XS.goto X68.here hx rfl (pc0 := 65) (pc' := 135) rfl (hb hby d3_65) (by decide) (by decide) ?_
    exact kq)
  obtain ⟨fs, hr, hrun, hended, hW, hsame⟩ := X68.leave (v := some (.int (0 : Int32))) (fun h => by rw [Bd.returns] at h; cases h)
  refine ⟨_, _, go70 _ ?_, hrun, hended, _, _, rfl, ?_, ⟨_, rfl⟩, hW, hsame.mono (by decide) (by decide)⟩
  · exact retN X68 hx (t := .boolean) Bd.returns (by simp) (hb hby d3_135) hr
  · show Q_holds0g Z a1 dA dB A B h0 n0 _ T68.heap _
    rw [eq68]
    exact ⟨rfl, N68, rfl⟩
abbrev G_swap0 (m : MethodId) (w0 : Addr) : JFrame := (entryFrame m #[(.ref w0)] 1)
theorem d5_0 : decode prog_107_method_5_code 0 = .ok (.aload_n 0, 1) := by decide +kernel
theorem d5_1 : decode prog_107_method_5_code 1 = .ok (.invokevirtual 65, 3) := by decide +kernel
theorem d5_4 : decode prog_107_method_5_code 4 = .ok (.tableswitch 40 0 5 #[74, 74, 50, 56, 62, 68], 40) := by decide +kernel
theorem d5_78 : decode prog_107_method_5_code 78 = .ok (.aload_n 0, 1) := by decide +kernel
theorem d5_79 : decode prog_107_method_5_code 79 = .ok (.areturn, 1) := by decide +kernel
def Q_swap0 (Z : State)  (w0 w1 w2 w3 w4 w5 : Addr) (h0 : Heap) (n0 : Nat) (v : Option Value) (h : Heap) (L : List Loc) : Prop := v = some (.ref w0) ∧ Fr n0 L ∧ h = h0
set_option maxRecDepth 65536 in
set_option maxHeartbeats 40000000 in
theorem swap0 (l : Launch) (Z : State) (a0 : Array Value) (hw : ∀ d ∈ tables_1, d.before a0 Z = true) (ws : List Jvm.Cond)  (w0 w1 w2 w3 w4 w5 : Addr) (h0 : Heap) (n0 : Nat) (Z0 : n0 ≤ h0.size) (S0 : Sta Z h0 "com/example/heft/heft/model/XPath$Comparison" "EQUAL" "Lcom/example/heft/heft/model/XPath$Comparison;" (.ref w0)) (S1 : Sta Z h0 "com/example/heft/heft/model/XPath$Comparison" "NOT_EQUAL" "Lcom/example/heft/heft/model/XPath$Comparison;" (.ref w1)) (S2 : Sta Z h0 "com/example/heft/heft/model/XPath$Comparison" "LESS" "Lcom/example/heft/heft/model/XPath$Comparison;" (.ref w2)) (S3 : Sta Z h0 "com/example/heft/heft/model/XPath$Comparison" "LESS_OR_EQUAL" "Lcom/example/heft/heft/model/XPath$Comparison;" (.ref w3)) (S4 : Sta Z h0 "com/example/heft/heft/model/XPath$Comparison" "GREATER" "Lcom/example/heft/heft/model/XPath$Comparison;" (.ref w4)) (S5 : Sta Z h0 "com/example/heft/heft/model/XPath$Comparison" "GREATER_OR_EQUAL" "Lcom/example/heft/heft/model/XPath$Comparison;" (.ref w5)) (Ex : Exa Z h0 w0 "com/example/heft/heft/model/XPath$Comparison") (F : Fld Z h0 w0 "java/lang/Enum" "ordinal" "I" (.int (0 : Int32))) :
    MetFree l (⟨"com/example/heft/heft/model/XPath$Comparison", "swapped", "()Lcom/example/heft/heft/model/XPath$Comparison;"⟩ : MethodName) (head1 (Jvm.Cond.code (⟨"com/example/heft/heft/model/XPath$Comparison", "swapped", "()Lcom/example/heft/heft/model/XPath$Comparison;"⟩ : MethodName) prog_107_method_5_code 1 (some (.object "com/example/heft/heft/model/XPath$Comparison")) :: ws) ({ frames := 1, cells := 0, slots := 0, locals := 12 } : Room)) (fun a U => a = #[(.ref w0)] ∧ Z.Warmed39 U.vm ∧ U.heap = h0) (fun _ _ _ _ _ => True) (fun _ U o U' => ∃ v L, o = .returned v ∧ Q_swap0 Z w0 w1 w2 w3 w4 w5 h0 n0 v U'.heap L ∧ FrameEnd U o U' L ({ frames := 1, cells := 0, slots := 0, locals := 12 } : Room).cells ({ frames := 1, cells := 0, slots := 0, locals := 12 } : Room).slots) := by
  refine MetFree.of_bodySF (plainFor_of_name pn_com_example_heft_heft_model_XPath_Comparison) hisR ?_
  intro p e s m args below meth c s₁ Bd hml0 hP hK
  obtain ⟨rfl, hZ, hh⟩ := hP
  have hx := Bd.exec
  have hby := Bd.bytes
  have hml : c.maxLocals = 1 := hml0
  have hown : s.vm.findClass "com/example/heft/heft/model/XPath$Comparison" = some m.cls := findClass_of_methodNamed Bd.named
  have hnm := (name_of_methodNamed Bd.named Bd.method).1
  have X0 : Stand p l e ({ frames := 1, cells := 0, slots := 0, locals := 12 } : Room) s m #[(.ref w0)] below meth c s₁ [] 0 0 := Stand.of_body Bd
  have e0 : s₁.heap = h0 := by rw [← hh, Bd.state]; rfl
  have N0 := Fr.nil n0
  have go0 : Goes p e below s₁ (G_swap0 m w0) s₁ (mkF m 0 #[.val (.ref w0)] []) := fun tq kq => castTop (by first | (simp [entryFrame, mkF, argsToLocals, Value.category, G_swap0]; done) | rfl) kq
  have go71 : Goes p e below s₁ (G_swap0 m w0) s₁ (mkF m 1 #[.val (.ref w0)] [(.ref w0)]) := fun tq kq => go0 tq (by
    show Steps p.tables e below (s₁.setTop (mkF m 0 #[.val (.ref w0)] [])) _
    refine XS.aloadN X0.here hx rfl (hb hby d5_0) rfl rfl ?_
    exact kq)
  obtain ⟨cq72, kq72, q72a, q72b, q72c⟩ := isOf hZ e0 Ex
  obtain ⟨vv72, _, ⟨T72, L72, k72, n72⟩, -, X72, ⟨Lc72, hQ72, l72, y72, z72⟩, st72⟩ := X0.virtualBackUp hx (x := (⟨"com/example/heft/heft/model/XPath$Comparison", "ordinal", "()I"⟩ : MethodName)) (y := (⟨"java/lang/Enum", "ordinal", "()I"⟩ : MethodName)) hown (mvT hZ (tw19 hw)) (mvT hZ (tw20 hw)) (mvT hZ (tw21 hw)) (by decide) (mvT hZ (tw23 hw)) (mvT hZ (tw22 hw)) (backOf (W := 0) (ordi l Z a0 hw [] w0 (0 : Int32) h0 n0 Z0 F) hZ (tw25 hw) (tw24 hw) (by decide) (by decide)) q72a q72c (g := (mkF m 1 #[.val (.ref w0)] [(.ref w0)])) rfl (by rw [hml]; rfl) (Steps.refl _) (argsL := []) (rest := []) (lenOf pd_0 rfl) rfl (by show 2 * 0 + _ ≤ _; exact Nat.le_of_eq rfl) (hb hby d5_1) (fun _ _ => ⟨rfl, e0, (by decide : 0 + 0 ≤ _), (by decide : 0 + 0 ≤ _)⟩)
  dsimp only [Pt.U, Pt.locs, Pt.cells, Pt.slots] at X72 l72 y72 z72 st72 hQ72
  subst l72 y72 z72
  obtain ⟨rfl, Nq72, eq72⟩ := hQ72
  have N72 := Fr.app N0 Nq72
  have go72 : Goes p e below s₁ (G_swap0 m w0) T72 (mkF m 4 #[.val (.ref w0)] [(.int (0 : Int32))]) := fun tq kq => go71 tq (st72.trans kq)
  have go73 : Goes p e below s₁ (G_swap0 m w0) T72 (mkF m 79 #[.val (.ref w0)] [(.ref w0)]) := fun tq kq => go72 tq (by
    show Steps p.tables e below (T72.setTop (mkF m 4 #[.val (.ref w0)] [(.int (0 : Int32))])) _
    refine XS.tswIn X72.here hx rfl (pc0 := 4) (pc' := 78) (o := 74) rfl (hb hby d5_4) rfl (by decide) (by decide +kernel) (by decide) (by decide) ?_
    show Steps p.tables e below (T72.setTop (mkF m 78 #[.val (.ref w0)] [])) _
    refine XS.aloadN X72.here hx rfl (hb hby d5_78) rfl rfl ?_
    exact kq)
  obtain ⟨fs, hr, hrun, hended, hW, hsame⟩ := X72.leave (v := some (.ref w0)) (fun h => by rw [Bd.returns] at h; cases h)
  refine ⟨_, _, go73 _ ?_, hrun, hended, _, _, rfl, ?_, ⟨_, rfl⟩, hW, hsame.mono (by decide) (by decide)⟩
  · jvm_step X72.here [X72.here.top, hx, (hb hby d5_79), X72.method', Bd.returns, Value.isRef, FieldType.isReference]
    first | (intro acts; rw [hr _ acts rfl rfl rfl]) | rw [hr _ _ rfl rfl rfl]
    exact Steps.refl _
  · show Q_swap0 Z w0 w1 w2 w3 w4 w5 h0 n0 _ T72.heap _
    rw [eq72]
    exact ⟨rfl, N72, rfl⟩
abbrev G_holds1l (m : MethodId) (a1 : Addr) (dA : UInt64) (dB : UInt64) : JFrame := (entryFrame m #[(.ref a1), (.double dA), (.double dB)] 5)
theorem d3_68 : decode prog_107_method_7_code 68 = .ok (.dload_n 1, 1) := by decide +kernel
theorem d3_69 : decode prog_107_method_7_code 69 = .ok (.dload_n 3, 1) := by decide +kernel
theorem d3_70 : decode prog_107_method_7_code 70 = .ok (.dcmp .l, 1) := by decide +kernel
theorem d3_71 : decode prog_107_method_7_code 71 = .ok (.ifCond .eq 7, 3) := by decide +kernel
theorem d3_74 : decode prog_107_method_7_code 74 = .ok (.iconst 1, 1) := by decide +kernel
theorem d3_75 : decode prog_107_method_7_code 75 = .ok (.goto 60, 3) := by decide +kernel
def Q_holds1l (Z : State) (a1 : Addr) (dA : UInt64) (dB : UInt64) (A B : Int64) (h0 : Heap) (n0 : Nat) (v : Option Value) (h : Heap) (L : List Loc) : Prop := v = some (.int (1 : Int32)) ∧ Fr n0 L ∧ h = h0
set_option maxRecDepth 65536 in
set_option maxHeartbeats 40000000 in
theorem holds1l (l : Launch) (Z : State) (a0 : Array Value) (hw : ∀ d ∈ tables_1, d.before a0 Z = true) (ws : List Jvm.Cond) (a1 : Addr) (dA : UInt64) (dB : UInt64) (A B : Int64) (h0 : Heap) (n0 : Nat) (Z0 : n0 ≤ h0.size) (Ex : Exa Z h0 a1 "com/example/heft/heft/model/XPath$Comparison") (F : Fld Z h0 a1 "java/lang/Enum" "ordinal" "I" (.int (1 : Int32))) (eA : dA = FP.l2d A) (eB : dB = FP.l2d B) (hA : B53 A) (hB : B53 B) (hE : ¬ (A = B)) (hL : A < B) (hG : ¬ (B < A)) :
    MetFree l (⟨"com/example/heft/heft/model/XPath$Comparison", "holds", "(DD)Z"⟩ : MethodName) (head1 (Jvm.Cond.code (⟨"com/example/heft/heft/model/XPath$Comparison", "holds", "(DD)Z"⟩ : MethodName) prog_107_method_7_code 5 (some .boolean) :: ws) ({ frames := 1, cells := 0, slots := 0, locals := 12 } : Room)) (fun a U => a = #[(.ref a1), (.double dA), (.double dB)] ∧ Z.Warmed39 U.vm ∧ U.heap = h0) (fun _ _ _ _ _ => True) (fun _ U o U' => ∃ v L, o = .returned v ∧ Q_holds1l Z a1 dA dB A B h0 n0 v U'.heap L ∧ FrameEnd U o U' L ({ frames := 1, cells := 0, slots := 0, locals := 12 } : Room).cells ({ frames := 1, cells := 0, slots := 0, locals := 12 } : Room).slots) := by
  refine MetFree.of_bodySF (plainFor_of_name pn_com_example_heft_heft_model_XPath_Comparison) hisR ?_
  intro p e s m args below meth c s₁ Bd hml0 hP hK
  obtain ⟨rfl, hZ, hh⟩ := hP
  have hx := Bd.exec
  have hby := Bd.bytes
  have hml : c.maxLocals = 5 := hml0
  have hown : s.vm.findClass "com/example/heft/heft/model/XPath$Comparison" = some m.cls := findClass_of_methodNamed Bd.named
  have hnm := (name_of_methodNamed Bd.named Bd.method).1
  have X0 : Stand p l e ({ frames := 1, cells := 0, slots := 0, locals := 12 } : Room) s m #[(.ref a1), (.double dA), (.double dB)] below meth c s₁ [] 0 0 := Stand.of_body Bd
  have e0 : s₁.heap = h0 := by rw [← hh, Bd.state]; rfl
  have N0 := Fr.nil n0
  have go0 : Goes p e below s₁ (G_holds1l m a1 dA dB) s₁ (mkF m 0 #[.val (.ref a1), .val (.double dA), .second, .val (.double dB), .second] []) := fun tq kq => castTop (by first | (simp [entryFrame, mkF, argsToLocals, Value.category, G_holds1l]; done) | rfl) kq
  have go74 : Goes p e below s₁ (G_holds1l m a1 dA dB) s₁ (mkF m 1 #[.val (.ref a1), .val (.double dA), .second, .val (.double dB), .second] [(.ref a1)]) := fun tq kq => go0 tq (by
    show Steps p.tables e below (s₁.setTop (mkF m 0 #[.val (.ref a1), .val (.double dA), .second, .val (.double dB), .second] [])) _
    refine XS.aloadN X0.here hx rfl (hb hby d3_0) rfl rfl ?_
    exact kq)
  obtain ⟨cq75, kq75, q75a, q75b, q75c⟩ := isOf hZ e0 Ex
  obtain ⟨vv75, _, ⟨T75, L75, k75, n75⟩, -, X75, ⟨Lc75, hQ75, l75, y75, z75⟩, st75⟩ := X0.virtualBackUp hx (x := (⟨"com/example/heft/heft/model/XPath$Comparison", "ordinal", "()I"⟩ : MethodName)) (y := (⟨"java/lang/Enum", "ordinal", "()I"⟩ : MethodName)) hown (mvT hZ (tw19 hw)) (mvT hZ (tw20 hw)) (mvT hZ (tw21 hw)) (by decide) (mvT hZ (tw23 hw)) (mvT hZ (tw22 hw)) (backOf (W := 0) (ordi l Z a0 hw [] a1 (1 : Int32) h0 n0 Z0 F) hZ (tw25 hw) (tw24 hw) (by decide) (by decide)) q75a q75c (g := (mkF m 1 #[.val (.ref a1), .val (.double dA), .second, .val (.double dB), .second] [(.ref a1)])) rfl (by rw [hml]; rfl) (Steps.refl _) (argsL := []) (rest := []) (lenOf pd_0 rfl) rfl (by show 2 * 0 + _ ≤ _; exact Nat.le_of_eq rfl) (hb hby d3_1) (fun _ _ => ⟨rfl, e0, (by decide : 0 + 0 ≤ _), (by decide : 0 + 0 ≤ _)⟩)
  dsimp only [Pt.U, Pt.locs, Pt.cells, Pt.slots] at X75 l75 y75 z75 st75 hQ75
  subst l75 y75 z75
  obtain ⟨rfl, Nq75, eq75⟩ := hQ75
  have N75 := Fr.app N0 Nq75
  have go75 : Goes p e below s₁ (G_holds1l m a1 dA dB) T75 (mkF m 4 #[.val (.ref a1), .val (.double dA), .second, .val (.double dB), .second] [(.int (1 : Int32))]) := fun tq kq => go74 tq (st75.trans kq)
  have go76 : Goes p e below s₁ (G_holds1l m a1 dA dB) T75 (mkF m 71 #[.val (.ref a1), .val (.double dA), .second, .val (.double dB), .second] [(.int (lcmpW A B))]) := fun tq kq => go75 tq (by
    show Steps p.tables e below (T75.setTop (mkF m 4 #[.val (.ref a1), .val (.double dA), .second, .val (.double dB), .second] [(.int (1 : Int32))])) _
    refine XS.tswIn X75.here hx rfl (pc0 := 4) (pc' := 68) (o := 64) rfl (hb hby d3_4) rfl (by decide) (by decide +kernel) (by decide) (by decide) ?_
    show Steps p.tables e below (T75.setTop (mkF m 68 #[.val (.ref a1), .val (.double dA), .second, .val (.double dB), .second] [])) _
    refine XS.dloadN X75.here hx rfl (hb hby d3_68) rfl ?_
    show Steps p.tables e below (T75.setTop (mkF m 69 #[.val (.ref a1), .val (.double dA), .second, .val (.double dB), .second] [(.double dA)])) _
    refine XS.dloadN X75.here hx rfl (hb hby d3_69) rfl ?_
    show Steps p.tables e below (T75.setTop (mkF m 70 #[.val (.ref a1), .val (.double dA), .second, .val (.double dB), .second] [(.double dB), (.double dA)])) _
    refine XS.dcmpS X75.here hx rfl (hb hby d3_70) rfl (show cmpValue (FP.dcmp dA dB) _ = lcmpW A B from (congrArg (fun z => cmpValue z _) (congr (congrArg FP.dcmp eA) eB)).trans (dcmpV_w hA hB _)) ?_
    exact kq)
  have go77 : Goes p e below s₁ (G_holds1l m a1 dA dB) T75 (mkF m 135 #[.val (.ref a1), .val (.double dA), .second, .val (.double dB), .second] [(.int (1 : Int32))]) := fun tq kq => go76 tq (by
    show Steps p.tables e below (T75.setTop (mkF m 71 #[.val (.ref a1), .val (.double dA), .second, .val (.double dB), .second] [(.int (lcmpW A B))])) _
    refine XS.ifNo X75.here hx rfl (hb hby d3_71) rfl ((if0 _ _).trans (feq (own_lcne hE)).1) ?_
    show Steps p.tables e below (T75.setTop (mkF m 74 #[.val (.ref a1), .val (.double dA), .second, .val (.double dB), .second] [])) _
    refine XS.iconst X75.here hx rfl (hb hby d3_74) ?_
    show Steps p.tables e below (T75.setTop (mkF m 75 #[.val (.ref a1), .val (.double dA), .second, .val (.double dB), .second] [(.int (1 : Int32))])) _
    refine XS.goto X75.here hx rfl (pc0 := 75) (pc' := 135) rfl (hb hby d3_75) (by decide) (by decide) ?_
    exact kq)
  obtain ⟨fs, hr, hrun, hended, hW, hsame⟩ := X75.leave (v := some (.int (1 : Int32))) (fun h => by rw [Bd.returns] at h; cases h)
  refine ⟨_, _, go77 _ ?_, hrun, hended, _, _, rfl, ?_, ⟨_, rfl⟩, hW, hsame.mono (by decide) (by decide)⟩
  · exact retN X75 hx (t := .boolean) Bd.returns (by simp) (hb hby d3_135) hr
  · show Q_holds1l Z a1 dA dB A B h0 n0 _ T75.heap _
    rw [eq75]
    exact ⟨rfl, N75, rfl⟩
abbrev G_holds1g (m : MethodId) (a1 : Addr) (dA : UInt64) (dB : UInt64) : JFrame := (entryFrame m #[(.ref a1), (.double dA), (.double dB)] 5)
def Q_holds1g (Z : State) (a1 : Addr) (dA : UInt64) (dB : UInt64) (A B : Int64) (h0 : Heap) (n0 : Nat) (v : Option Value) (h : Heap) (L : List Loc) : Prop := v = some (.int (1 : Int32)) ∧ Fr n0 L ∧ h = h0
set_option maxRecDepth 65536 in
set_option maxHeartbeats 40000000 in
theorem holds1g (l : Launch) (Z : State) (a0 : Array Value) (hw : ∀ d ∈ tables_1, d.before a0 Z = true) (ws : List Jvm.Cond) (a1 : Addr) (dA : UInt64) (dB : UInt64) (A B : Int64) (h0 : Heap) (n0 : Nat) (Z0 : n0 ≤ h0.size) (Ex : Exa Z h0 a1 "com/example/heft/heft/model/XPath$Comparison") (F : Fld Z h0 a1 "java/lang/Enum" "ordinal" "I" (.int (1 : Int32))) (eA : dA = FP.l2d A) (eB : dB = FP.l2d B) (hA : B53 A) (hB : B53 B) (hE : ¬ (A = B)) (hL : ¬ (A < B)) (hG : B < A) :
    MetFree l (⟨"com/example/heft/heft/model/XPath$Comparison", "holds", "(DD)Z"⟩ : MethodName) (head1 (Jvm.Cond.code (⟨"com/example/heft/heft/model/XPath$Comparison", "holds", "(DD)Z"⟩ : MethodName) prog_107_method_7_code 5 (some .boolean) :: ws) ({ frames := 1, cells := 0, slots := 0, locals := 12 } : Room)) (fun a U => a = #[(.ref a1), (.double dA), (.double dB)] ∧ Z.Warmed39 U.vm ∧ U.heap = h0) (fun _ _ _ _ _ => True) (fun _ U o U' => ∃ v L, o = .returned v ∧ Q_holds1g Z a1 dA dB A B h0 n0 v U'.heap L ∧ FrameEnd U o U' L ({ frames := 1, cells := 0, slots := 0, locals := 12 } : Room).cells ({ frames := 1, cells := 0, slots := 0, locals := 12 } : Room).slots) := by
  refine MetFree.of_bodySF (plainFor_of_name pn_com_example_heft_heft_model_XPath_Comparison) hisR ?_
  intro p e s m args below meth c s₁ Bd hml0 hP hK
  obtain ⟨rfl, hZ, hh⟩ := hP
  have hx := Bd.exec
  have hby := Bd.bytes
  have hml : c.maxLocals = 5 := hml0
  have hown : s.vm.findClass "com/example/heft/heft/model/XPath$Comparison" = some m.cls := findClass_of_methodNamed Bd.named
  have hnm := (name_of_methodNamed Bd.named Bd.method).1
  have X0 : Stand p l e ({ frames := 1, cells := 0, slots := 0, locals := 12 } : Room) s m #[(.ref a1), (.double dA), (.double dB)] below meth c s₁ [] 0 0 := Stand.of_body Bd
  have e0 : s₁.heap = h0 := by rw [← hh, Bd.state]; rfl
  have N0 := Fr.nil n0
  have go0 : Goes p e below s₁ (G_holds1g m a1 dA dB) s₁ (mkF m 0 #[.val (.ref a1), .val (.double dA), .second, .val (.double dB), .second] []) := fun tq kq => castTop (by first | (simp [entryFrame, mkF, argsToLocals, Value.category, G_holds1g]; done) | rfl) kq
  have go78 : Goes p e below s₁ (G_holds1g m a1 dA dB) s₁ (mkF m 1 #[.val (.ref a1), .val (.double dA), .second, .val (.double dB), .second] [(.ref a1)]) := fun tq kq => go0 tq (by
    show Steps p.tables e below (s₁.setTop (mkF m 0 #[.val (.ref a1), .val (.double dA), .second, .val (.double dB), .second] [])) _
    refine XS.aloadN X0.here hx rfl (hb hby d3_0) rfl rfl ?_
    exact kq)
  obtain ⟨cq79, kq79, q79a, q79b, q79c⟩ := isOf hZ e0 Ex
  obtain ⟨vv79, _, ⟨T79, L79, k79, n79⟩, -, X79, ⟨Lc79, hQ79, l79, y79, z79⟩, st79⟩ := X0.virtualBackUp hx (x := (⟨"com/example/heft/heft/model/XPath$Comparison", "ordinal", "()I"⟩ : MethodName)) (y := (⟨"java/lang/Enum", "ordinal", "()I"⟩ : MethodName)) hown (mvT hZ (tw19 hw)) (mvT hZ (tw20 hw)) (mvT hZ (tw21 hw)) (by decide) (mvT hZ (tw23 hw)) (mvT hZ (tw22 hw)) (backOf (W := 0) (ordi l Z a0 hw [] a1 (1 : Int32) h0 n0 Z0 F) hZ (tw25 hw) (tw24 hw) (by decide) (by decide)) q79a q79c (g := (mkF m 1 #[.val (.ref a1), .val (.double dA), .second, .val (.double dB), .second] [(.ref a1)])) rfl (by rw [hml]; rfl) (Steps.refl _) (argsL := []) (rest := []) (lenOf pd_0 rfl) rfl (by show 2 * 0 + _ ≤ _; exact Nat.le_of_eq rfl) (hb hby d3_1) (fun _ _ => ⟨rfl, e0, (by decide : 0 + 0 ≤ _), (by decide : 0 + 0 ≤ _)⟩)
  dsimp only [Pt.U, Pt.locs, Pt.cells, Pt.slots] at X79 l79 y79 z79 st79 hQ79
  subst l79 y79 z79
  obtain ⟨rfl, Nq79, eq79⟩ := hQ79
  have N79 := Fr.app N0 Nq79
  have go79 : Goes p e below s₁ (G_holds1g m a1 dA dB) T79 (mkF m 4 #[.val (.ref a1), .val (.double dA), .second, .val (.double dB), .second] [(.int (1 : Int32))]) := fun tq kq => go78 tq (st79.trans kq)
  have go80 : Goes p e below s₁ (G_holds1g m a1 dA dB) T79 (mkF m 71 #[.val (.ref a1), .val (.double dA), .second, .val (.double dB), .second] [(.int (lcmpW A B))]) := fun tq kq => go79 tq (by
    show Steps p.tables e below (T79.setTop (mkF m 4 #[.val (.ref a1), .val (.double dA), .second, .val (.double dB), .second] [(.int (1 : Int32))])) _
    refine XS.tswIn X79.here hx rfl (pc0 := 4) (pc' := 68) (o := 64) rfl (hb hby d3_4) rfl (by decide) (by decide +kernel) (by decide) (by decide) ?_
    show Steps p.tables e below (T79.setTop (mkF m 68 #[.val (.ref a1), .val (.double dA), .second, .val (.double dB), .second] [])) _
    refine XS.dloadN X79.here hx rfl (hb hby d3_68) rfl ?_
    show Steps p.tables e below (T79.setTop (mkF m 69 #[.val (.ref a1), .val (.double dA), .second, .val (.double dB), .second] [(.double dA)])) _
    refine XS.dloadN X79.here hx rfl (hb hby d3_69) rfl ?_
    show Steps p.tables e below (T79.setTop (mkF m 70 #[.val (.ref a1), .val (.double dA), .second, .val (.double dB), .second] [(.double dB), (.double dA)])) _
    refine XS.dcmpS X79.here hx rfl (hb hby d3_70) rfl (show cmpValue (FP.dcmp dA dB) _ = lcmpW A B from (congrArg (fun z => cmpValue z _) (congr (congrArg FP.dcmp eA) eB)).trans (dcmpV_w hA hB _)) ?_
    exact kq)
  have go81 : Goes p e below s₁ (G_holds1g m a1 dA dB) T79 (mkF m 135 #[.val (.ref a1), .val (.double dA), .second, .val (.double dB), .second] [(.int (1 : Int32))]) := fun tq kq => go80 tq (by
    show Steps p.tables e below (T79.setTop (mkF m 71 #[.val (.ref a1), .val (.double dA), .second, .val (.double dB), .second] [(.int (lcmpW A B))])) _
    refine XS.ifNo X79.here hx rfl (hb hby d3_71) rfl ((if0 _ _).trans (feq (own_lcne hE)).1) ?_
    show Steps p.tables e below (T79.setTop (mkF m 74 #[.val (.ref a1), .val (.double dA), .second, .val (.double dB), .second] [])) _
    refine XS.iconst X79.here hx rfl (hb hby d3_74) ?_
    show Steps p.tables e below (T79.setTop (mkF m 75 #[.val (.ref a1), .val (.double dA), .second, .val (.double dB), .second] [(.int (1 : Int32))])) _
    refine XS.goto X79.here hx rfl (pc0 := 75) (pc' := 135) rfl (hb hby d3_75) (by decide) (by decide) ?_
    exact kq)
  obtain ⟨fs, hr, hrun, hended, hW, hsame⟩ := X79.leave (v := some (.int (1 : Int32))) (fun h => by rw [Bd.returns] at h; cases h)
  refine ⟨_, _, go81 _ ?_, hrun, hended, _, _, rfl, ?_, ⟨_, rfl⟩, hW, hsame.mono (by decide) (by decide)⟩
  · exact retN X79 hx (t := .boolean) Bd.returns (by simp) (hb hby d3_135) hr
  · show Q_holds1g Z a1 dA dB A B h0 n0 _ T79.heap _
    rw [eq79]
    exact ⟨rfl, N79, rfl⟩
abbrev G_swap1 (m : MethodId) (w1 : Addr) : JFrame := (entryFrame m #[(.ref w1)] 1)
def Q_swap1 (Z : State)  (w0 w1 w2 w3 w4 w5 : Addr) (h0 : Heap) (n0 : Nat) (v : Option Value) (h : Heap) (L : List Loc) : Prop := v = some (.ref w1) ∧ Fr n0 L ∧ h = h0
set_option maxRecDepth 65536 in
set_option maxHeartbeats 40000000 in
theorem swap1 (l : Launch) (Z : State) (a0 : Array Value) (hw : ∀ d ∈ tables_1, d.before a0 Z = true) (ws : List Jvm.Cond)  (w0 w1 w2 w3 w4 w5 : Addr) (h0 : Heap) (n0 : Nat) (Z0 : n0 ≤ h0.size) (S0 : Sta Z h0 "com/example/heft/heft/model/XPath$Comparison" "EQUAL" "Lcom/example/heft/heft/model/XPath$Comparison;" (.ref w0)) (S1 : Sta Z h0 "com/example/heft/heft/model/XPath$Comparison" "NOT_EQUAL" "Lcom/example/heft/heft/model/XPath$Comparison;" (.ref w1)) (S2 : Sta Z h0 "com/example/heft/heft/model/XPath$Comparison" "LESS" "Lcom/example/heft/heft/model/XPath$Comparison;" (.ref w2)) (S3 : Sta Z h0 "com/example/heft/heft/model/XPath$Comparison" "LESS_OR_EQUAL" "Lcom/example/heft/heft/model/XPath$Comparison;" (.ref w3)) (S4 : Sta Z h0 "com/example/heft/heft/model/XPath$Comparison" "GREATER" "Lcom/example/heft/heft/model/XPath$Comparison;" (.ref w4)) (S5 : Sta Z h0 "com/example/heft/heft/model/XPath$Comparison" "GREATER_OR_EQUAL" "Lcom/example/heft/heft/model/XPath$Comparison;" (.ref w5)) (Ex : Exa Z h0 w1 "com/example/heft/heft/model/XPath$Comparison") (F : Fld Z h0 w1 "java/lang/Enum" "ordinal" "I" (.int (1 : Int32))) :
    MetFree l (⟨"com/example/heft/heft/model/XPath$Comparison", "swapped", "()Lcom/example/heft/heft/model/XPath$Comparison;"⟩ : MethodName) (head1 (Jvm.Cond.code (⟨"com/example/heft/heft/model/XPath$Comparison", "swapped", "()Lcom/example/heft/heft/model/XPath$Comparison;"⟩ : MethodName) prog_107_method_5_code 1 (some (.object "com/example/heft/heft/model/XPath$Comparison")) :: ws) ({ frames := 1, cells := 0, slots := 0, locals := 12 } : Room)) (fun a U => a = #[(.ref w1)] ∧ Z.Warmed39 U.vm ∧ U.heap = h0) (fun _ _ _ _ _ => True) (fun _ U o U' => ∃ v L, o = .returned v ∧ Q_swap1 Z w0 w1 w2 w3 w4 w5 h0 n0 v U'.heap L ∧ FrameEnd U o U' L ({ frames := 1, cells := 0, slots := 0, locals := 12 } : Room).cells ({ frames := 1, cells := 0, slots := 0, locals := 12 } : Room).slots) := by
  refine MetFree.of_bodySF (plainFor_of_name pn_com_example_heft_heft_model_XPath_Comparison) hisR ?_
  intro p e s m args below meth c s₁ Bd hml0 hP hK
  obtain ⟨rfl, hZ, hh⟩ := hP
  have hx := Bd.exec
  have hby := Bd.bytes
  have hml : c.maxLocals = 1 := hml0
  have hown : s.vm.findClass "com/example/heft/heft/model/XPath$Comparison" = some m.cls := findClass_of_methodNamed Bd.named
  have hnm := (name_of_methodNamed Bd.named Bd.method).1
  have X0 : Stand p l e ({ frames := 1, cells := 0, slots := 0, locals := 12 } : Room) s m #[(.ref w1)] below meth c s₁ [] 0 0 := Stand.of_body Bd
  have e0 : s₁.heap = h0 := by rw [← hh, Bd.state]; rfl
  have N0 := Fr.nil n0
  have go0 : Goes p e below s₁ (G_swap1 m w1) s₁ (mkF m 0 #[.val (.ref w1)] []) := fun tq kq => castTop (by first | (simp [entryFrame, mkF, argsToLocals, Value.category, G_swap1]; done) | rfl) kq
  have go82 : Goes p e below s₁ (G_swap1 m w1) s₁ (mkF m 1 #[.val (.ref w1)] [(.ref w1)]) := fun tq kq => go0 tq (by
    show Steps p.tables e below (s₁.setTop (mkF m 0 #[.val (.ref w1)] [])) _
    refine XS.aloadN X0.here hx rfl (hb hby d5_0) rfl rfl ?_
    exact kq)
  obtain ⟨cq83, kq83, q83a, q83b, q83c⟩ := isOf hZ e0 Ex
  obtain ⟨vv83, _, ⟨T83, L83, k83, n83⟩, -, X83, ⟨Lc83, hQ83, l83, y83, z83⟩, st83⟩ := X0.virtualBackUp hx (x := (⟨"com/example/heft/heft/model/XPath$Comparison", "ordinal", "()I"⟩ : MethodName)) (y := (⟨"java/lang/Enum", "ordinal", "()I"⟩ : MethodName)) hown (mvT hZ (tw19 hw)) (mvT hZ (tw20 hw)) (mvT hZ (tw21 hw)) (by decide) (mvT hZ (tw23 hw)) (mvT hZ (tw22 hw)) (backOf (W := 0) (ordi l Z a0 hw [] w1 (1 : Int32) h0 n0 Z0 F) hZ (tw25 hw) (tw24 hw) (by decide) (by decide)) q83a q83c (g := (mkF m 1 #[.val (.ref w1)] [(.ref w1)])) rfl (by rw [hml]; rfl) (Steps.refl _) (argsL := []) (rest := []) (lenOf pd_0 rfl) rfl (by show 2 * 0 + _ ≤ _; exact Nat.le_of_eq rfl) (hb hby d5_1) (fun _ _ => ⟨rfl, e0, (by decide : 0 + 0 ≤ _), (by decide : 0 + 0 ≤ _)⟩)
  dsimp only [Pt.U, Pt.locs, Pt.cells, Pt.slots] at X83 l83 y83 z83 st83 hQ83
  subst l83 y83 z83
  obtain ⟨rfl, Nq83, eq83⟩ := hQ83
  have N83 := Fr.app N0 Nq83
  have go83 : Goes p e below s₁ (G_swap1 m w1) T83 (mkF m 4 #[.val (.ref w1)] [(.int (1 : Int32))]) := fun tq kq => go82 tq (st83.trans kq)
  have go84 : Goes p e below s₁ (G_swap1 m w1) T83 (mkF m 79 #[.val (.ref w1)] [(.ref w1)]) := fun tq kq => go83 tq (by
    show Steps p.tables e below (T83.setTop (mkF m 4 #[.val (.ref w1)] [(.int (1 : Int32))])) _
    refine XS.tswIn X83.here hx rfl (pc0 := 4) (pc' := 78) (o := 74) rfl (hb hby d5_4) rfl (by decide) (by decide +kernel) (by decide) (by decide) ?_
    show Steps p.tables e below (T83.setTop (mkF m 78 #[.val (.ref w1)] [])) _
    refine XS.aloadN X83.here hx rfl (hb hby d5_78) rfl rfl ?_
    exact kq)
  obtain ⟨fs, hr, hrun, hended, hW, hsame⟩ := X83.leave (v := some (.ref w1)) (fun h => by rw [Bd.returns] at h; cases h)
  refine ⟨_, _, go84 _ ?_, hrun, hended, _, _, rfl, ?_, ⟨_, rfl⟩, hW, hsame.mono (by decide) (by decide)⟩
  · jvm_step X83.here [X83.here.top, hx, (hb hby d5_79), X83.method', Bd.returns, Value.isRef, FieldType.isReference]
    first | (intro acts; rw [hr _ acts rfl rfl rfl]) | rw [hr _ _ rfl rfl rfl]
    exact Steps.refl _
  · show Q_swap1 Z w0 w1 w2 w3 w4 w5 h0 n0 _ T83.heap _
    rw [eq83]
    exact ⟨rfl, N83, rfl⟩
abbrev G_holds2l (m : MethodId) (a1 : Addr) (dA : UInt64) (dB : UInt64) : JFrame := (entryFrame m #[(.ref a1), (.double dA), (.double dB)] 5)
theorem d3_82 : decode prog_107_method_7_code 82 = .ok (.dload_n 1, 1) := by decide +kernel
theorem d3_83 : decode prog_107_method_7_code 83 = .ok (.dload_n 3, 1) := by decide +kernel
theorem d3_84 : decode prog_107_method_7_code 84 = .ok (.dcmp .g, 1) := by decide +kernel
theorem d3_85 : decode prog_107_method_7_code 85 = .ok (.ifCond .ge 7, 3) := by decide +kernel
theorem d3_88 : decode prog_107_method_7_code 88 = .ok (.iconst 1, 1) := by decide +kernel
theorem d3_89 : decode prog_107_method_7_code 89 = .ok (.goto 46, 3) := by decide +kernel
def Q_holds2l (Z : State) (a1 : Addr) (dA : UInt64) (dB : UInt64) (A B : Int64) (h0 : Heap) (n0 : Nat) (v : Option Value) (h : Heap) (L : List Loc) : Prop := v = some (.int (1 : Int32)) ∧ Fr n0 L ∧ h = h0
set_option maxRecDepth 65536 in
set_option maxHeartbeats 40000000 in
theorem holds2l (l : Launch) (Z : State) (a0 : Array Value) (hw : ∀ d ∈ tables_1, d.before a0 Z = true) (ws : List Jvm.Cond) (a1 : Addr) (dA : UInt64) (dB : UInt64) (A B : Int64) (h0 : Heap) (n0 : Nat) (Z0 : n0 ≤ h0.size) (Ex : Exa Z h0 a1 "com/example/heft/heft/model/XPath$Comparison") (F : Fld Z h0 a1 "java/lang/Enum" "ordinal" "I" (.int (2 : Int32))) (eA : dA = FP.l2d A) (eB : dB = FP.l2d B) (hA : B53 A) (hB : B53 B) (hE : ¬ (A = B)) (hL : A < B) (hG : ¬ (B < A)) :
    MetFree l (⟨"com/example/heft/heft/model/XPath$Comparison", "holds", "(DD)Z"⟩ : MethodName) (head1 (Jvm.Cond.code (⟨"com/example/heft/heft/model/XPath$Comparison", "holds", "(DD)Z"⟩ : MethodName) prog_107_method_7_code 5 (some .boolean) :: ws) ({ frames := 1, cells := 0, slots := 0, locals := 12 } : Room)) (fun a U => a = #[(.ref a1), (.double dA), (.double dB)] ∧ Z.Warmed39 U.vm ∧ U.heap = h0) (fun _ _ _ _ _ => True) (fun _ U o U' => ∃ v L, o = .returned v ∧ Q_holds2l Z a1 dA dB A B h0 n0 v U'.heap L ∧ FrameEnd U o U' L ({ frames := 1, cells := 0, slots := 0, locals := 12 } : Room).cells ({ frames := 1, cells := 0, slots := 0, locals := 12 } : Room).slots) := by
  refine MetFree.of_bodySF (plainFor_of_name pn_com_example_heft_heft_model_XPath_Comparison) hisR ?_
  intro p e s m args below meth c s₁ Bd hml0 hP hK
  obtain ⟨rfl, hZ, hh⟩ := hP
  have hx := Bd.exec
  have hby := Bd.bytes
  have hml : c.maxLocals = 5 := hml0
  have hown : s.vm.findClass "com/example/heft/heft/model/XPath$Comparison" = some m.cls := findClass_of_methodNamed Bd.named
  have hnm := (name_of_methodNamed Bd.named Bd.method).1
  have X0 : Stand p l e ({ frames := 1, cells := 0, slots := 0, locals := 12 } : Room) s m #[(.ref a1), (.double dA), (.double dB)] below meth c s₁ [] 0 0 := Stand.of_body Bd
  have e0 : s₁.heap = h0 := by rw [← hh, Bd.state]; rfl
  have N0 := Fr.nil n0
  have go0 : Goes p e below s₁ (G_holds2l m a1 dA dB) s₁ (mkF m 0 #[.val (.ref a1), .val (.double dA), .second, .val (.double dB), .second] []) := fun tq kq => castTop (by first | (simp [entryFrame, mkF, argsToLocals, Value.category, G_holds2l]; done) | rfl) kq
  have go85 : Goes p e below s₁ (G_holds2l m a1 dA dB) s₁ (mkF m 1 #[.val (.ref a1), .val (.double dA), .second, .val (.double dB), .second] [(.ref a1)]) := fun tq kq => go0 tq (by
    show Steps p.tables e below (s₁.setTop (mkF m 0 #[.val (.ref a1), .val (.double dA), .second, .val (.double dB), .second] [])) _
    refine XS.aloadN X0.here hx rfl (hb hby d3_0) rfl rfl ?_
    exact kq)
  obtain ⟨cq86, kq86, q86a, q86b, q86c⟩ := isOf hZ e0 Ex
  obtain ⟨vv86, _, ⟨T86, L86, k86, n86⟩, -, X86, ⟨Lc86, hQ86, l86, y86, z86⟩, st86⟩ := X0.virtualBackUp hx (x := (⟨"com/example/heft/heft/model/XPath$Comparison", "ordinal", "()I"⟩ : MethodName)) (y := (⟨"java/lang/Enum", "ordinal", "()I"⟩ : MethodName)) hown (mvT hZ (tw19 hw)) (mvT hZ (tw20 hw)) (mvT hZ (tw21 hw)) (by decide) (mvT hZ (tw23 hw)) (mvT hZ (tw22 hw)) (backOf (W := 0) (ordi l Z a0 hw [] a1 (2 : Int32) h0 n0 Z0 F) hZ (tw25 hw) (tw24 hw) (by decide) (by decide)) q86a q86c (g := (mkF m 1 #[.val (.ref a1), .val (.double dA), .second, .val (.double dB), .second] [(.ref a1)])) rfl (by rw [hml]; rfl) (Steps.refl _) (argsL := []) (rest := []) (lenOf pd_0 rfl) rfl (by show 2 * 0 + _ ≤ _; exact Nat.le_of_eq rfl) (hb hby d3_1) (fun _ _ => ⟨rfl, e0, (by decide : 0 + 0 ≤ _), (by decide : 0 + 0 ≤ _)⟩)
  dsimp only [Pt.U, Pt.locs, Pt.cells, Pt.slots] at X86 l86 y86 z86 st86 hQ86
  subst l86 y86 z86
  obtain ⟨rfl, Nq86, eq86⟩ := hQ86
  have N86 := Fr.app N0 Nq86
  have go86 : Goes p e below s₁ (G_holds2l m a1 dA dB) T86 (mkF m 4 #[.val (.ref a1), .val (.double dA), .second, .val (.double dB), .second] [(.int (2 : Int32))]) := fun tq kq => go85 tq (st86.trans kq)
  have go87 : Goes p e below s₁ (G_holds2l m a1 dA dB) T86 (mkF m 85 #[.val (.ref a1), .val (.double dA), .second, .val (.double dB), .second] [(.int (lcmpW A B))]) := fun tq kq => go86 tq (by
    show Steps p.tables e below (T86.setTop (mkF m 4 #[.val (.ref a1), .val (.double dA), .second, .val (.double dB), .second] [(.int (2 : Int32))])) _
    refine XS.tswIn X86.here hx rfl (pc0 := 4) (pc' := 82) (o := 78) rfl (hb hby d3_4) rfl (by decide) (by decide +kernel) (by decide) (by decide) ?_
    show Steps p.tables e below (T86.setTop (mkF m 82 #[.val (.ref a1), .val (.double dA), .second, .val (.double dB), .second] [])) _
    refine XS.dloadN X86.here hx rfl (hb hby d3_82) rfl ?_
    show Steps p.tables e below (T86.setTop (mkF m 83 #[.val (.ref a1), .val (.double dA), .second, .val (.double dB), .second] [(.double dA)])) _
    refine XS.dloadN X86.here hx rfl (hb hby d3_83) rfl ?_
    show Steps p.tables e below (T86.setTop (mkF m 84 #[.val (.ref a1), .val (.double dA), .second, .val (.double dB), .second] [(.double dB), (.double dA)])) _
    refine XS.dcmpS X86.here hx rfl (hb hby d3_84) rfl (show cmpValue (FP.dcmp dA dB) _ = lcmpW A B from (congrArg (fun z => cmpValue z _) (congr (congrArg FP.dcmp eA) eB)).trans (dcmpV_w hA hB _)) ?_
    exact kq)
  have go88 : Goes p e below s₁ (G_holds2l m a1 dA dB) T86 (mkF m 135 #[.val (.ref a1), .val (.double dA), .second, .val (.double dB), .second] [(.int (1 : Int32))]) := fun tq kq => go87 tq (by
    show Steps p.tables e below (T86.setTop (mkF m 85 #[.val (.ref a1), .val (.double dA), .second, .val (.double dB), .second] [(.int (lcmpW A B))])) _
    refine XS.ifNo X86.here hx rfl (hb hby d3_85) rfl ((if0 _ _).trans (tlt (own_lclt hL)).2.1) ?_
    show Steps p.tables e below (T86.setTop (mkF m 88 #[.val (.ref a1), .val (.double dA), .second, .val (.double dB), .second] [])) _
    refine XS.iconst X86.here hx rfl (hb hby d3_88) ?_
    show Steps p.tables e below (T86.setTop (mkF m 89 #[.val (.ref a1), .val (.double dA), .second, .val (.double dB), .second] [(.int (1 : Int32))])) _
    refine XS.goto X86.here hx rfl (pc0 := 89) (pc' := 135) rfl (hb hby d3_89) (by decide) (by decide) ?_
    exact kq)
  obtain ⟨fs, hr, hrun, hended, hW, hsame⟩ := X86.leave (v := some (.int (1 : Int32))) (fun h => by rw [Bd.returns] at h; cases h)
  refine ⟨_, _, go88 _ ?_, hrun, hended, _, _, rfl, ?_, ⟨_, rfl⟩, hW, hsame.mono (by decide) (by decide)⟩
  · exact retN X86 hx (t := .boolean) Bd.returns (by simp) (hb hby d3_135) hr
  · show Q_holds2l Z a1 dA dB A B h0 n0 _ T86.heap _
    rw [eq86]
    exact ⟨rfl, N86, rfl⟩
abbrev G_holds2g (m : MethodId) (a1 : Addr) (dA : UInt64) (dB : UInt64) : JFrame := (entryFrame m #[(.ref a1), (.double dA), (.double dB)] 5)
theorem d3_92 : decode prog_107_method_7_code 92 = .ok (.iconst 0, 1) := by decide +kernel
theorem d3_93 : decode prog_107_method_7_code 93 = .ok (.goto 42, 3) := by decide +kernel
def Q_holds2g (Z : State) (a1 : Addr) (dA : UInt64) (dB : UInt64) (A B : Int64) (h0 : Heap) (n0 : Nat) (v : Option Value) (h : Heap) (L : List Loc) : Prop := v = some (.int (0 : Int32)) ∧ Fr n0 L ∧ h = h0
set_option maxRecDepth 65536 in
set_option maxHeartbeats 40000000 in
theorem holds2g (l : Launch) (Z : State) (a0 : Array Value) (hw : ∀ d ∈ tables_1, d.before a0 Z = true) (ws : List Jvm.Cond) (a1 : Addr) (dA : UInt64) (dB : UInt64) (A B : Int64) (h0 : Heap) (n0 : Nat) (Z0 : n0 ≤ h0.size) (Ex : Exa Z h0 a1 "com/example/heft/heft/model/XPath$Comparison") (F : Fld Z h0 a1 "java/lang/Enum" "ordinal" "I" (.int (2 : Int32))) (eA : dA = FP.l2d A) (eB : dB = FP.l2d B) (hA : B53 A) (hB : B53 B) (hE : ¬ (A = B)) (hL : ¬ (A < B)) (hG : B < A) :
    MetFree l (⟨"com/example/heft/heft/model/XPath$Comparison", "holds", "(DD)Z"⟩ : MethodName) (head1 (Jvm.Cond.code (⟨"com/example/heft/heft/model/XPath$Comparison", "holds", "(DD)Z"⟩ : MethodName) prog_107_method_7_code 5 (some .boolean) :: ws) ({ frames := 1, cells := 0, slots := 0, locals := 12 } : Room)) (fun a U => a = #[(.ref a1), (.double dA), (.double dB)] ∧ Z.Warmed39 U.vm ∧ U.heap = h0) (fun _ _ _ _ _ => True) (fun _ U o U' => ∃ v L, o = .returned v ∧ Q_holds2g Z a1 dA dB A B h0 n0 v U'.heap L ∧ FrameEnd U o U' L ({ frames := 1, cells := 0, slots := 0, locals := 12 } : Room).cells ({ frames := 1, cells := 0, slots := 0, locals := 12 } : Room).slots) := by
  refine MetFree.of_bodySF (plainFor_of_name pn_com_example_heft_heft_model_XPath_Comparison) hisR ?_
  intro p e s m args below meth c s₁ Bd hml0 hP hK
  obtain ⟨rfl, hZ, hh⟩ := hP
  have hx := Bd.exec
  have hby := Bd.bytes
  have hml : c.maxLocals = 5 := hml0
  have hown : s.vm.findClass "com/example/heft/heft/model/XPath$Comparison" = some m.cls := findClass_of_methodNamed Bd.named
  have hnm := (name_of_methodNamed Bd.named Bd.method).1
  have X0 : Stand p l e ({ frames := 1, cells := 0, slots := 0, locals := 12 } : Room) s m #[(.ref a1), (.double dA), (.double dB)] below meth c s₁ [] 0 0 := Stand.of_body Bd
  have e0 : s₁.heap = h0 := by rw [← hh, Bd.state]; rfl
  have N0 := Fr.nil n0
  have go0 : Goes p e below s₁ (G_holds2g m a1 dA dB) s₁ (mkF m 0 #[.val (.ref a1), .val (.double dA), .second, .val (.double dB), .second] []) := fun tq kq => castTop (by first | (simp [entryFrame, mkF, argsToLocals, Value.category, G_holds2g]; done) | rfl) kq
  have go89 : Goes p e below s₁ (G_holds2g m a1 dA dB) s₁ (mkF m 1 #[.val (.ref a1), .val (.double dA), .second, .val (.double dB), .second] [(.ref a1)]) := fun tq kq => go0 tq (by
    show Steps p.tables e below (s₁.setTop (mkF m 0 #[.val (.ref a1), .val (.double dA), .second, .val (.double dB), .second] [])) _
    refine XS.aloadN X0.here hx rfl (hb hby d3_0) rfl rfl ?_
    exact kq)
  obtain ⟨cq90, kq90, q90a, q90b, q90c⟩ := isOf hZ e0 Ex
  obtain ⟨vv90, _, ⟨T90, L90, k90, n90⟩, -, X90, ⟨Lc90, hQ90, l90, y90, z90⟩, st90⟩ := X0.virtualBackUp hx (x := (⟨"com/example/heft/heft/model/XPath$Comparison", "ordinal", "()I"⟩ : MethodName)) (y := (⟨"java/lang/Enum", "ordinal", "()I"⟩ : MethodName)) hown (mvT hZ (tw19 hw)) (mvT hZ (tw20 hw)) (mvT hZ (tw21 hw)) (by decide) (mvT hZ (tw23 hw)) (mvT hZ (tw22 hw)) (backOf (W := 0) (ordi l Z a0 hw [] a1 (2 : Int32) h0 n0 Z0 F) hZ (tw25 hw) (tw24 hw) (by decide) (by decide)) q90a q90c (g := (mkF m 1 #[.val (.ref a1), .val (.double dA), .second, .val (.double dB), .second] [(.ref a1)])) rfl (by rw [hml]; rfl) (Steps.refl _) (argsL := []) (rest := []) (lenOf pd_0 rfl) rfl (by show 2 * 0 + _ ≤ _; exact Nat.le_of_eq rfl) (hb hby d3_1) (fun _ _ => ⟨rfl, e0, (by decide : 0 + 0 ≤ _), (by decide : 0 + 0 ≤ _)⟩)
  dsimp only [Pt.U, Pt.locs, Pt.cells, Pt.slots] at X90 l90 y90 z90 st90 hQ90
  subst l90 y90 z90
  obtain ⟨rfl, Nq90, eq90⟩ := hQ90
  have N90 := Fr.app N0 Nq90
  have go90 : Goes p e below s₁ (G_holds2g m a1 dA dB) T90 (mkF m 4 #[.val (.ref a1), .val (.double dA), .second, .val (.double dB), .second] [(.int (2 : Int32))]) := fun tq kq => go89 tq (st90.trans kq)
  have go91 : Goes p e below s₁ (G_holds2g m a1 dA dB) T90 (mkF m 85 #[.val (.ref a1), .val (.double dA), .second, .val (.double dB), .second] [(.int (lcmpW A B))]) := fun tq kq => go90 tq (by
    show Steps p.tables e below (T90.setTop (mkF m 4 #[.val (.ref a1), .val (.double dA), .second, .val (.double dB), .second] [(.int (2 : Int32))])) _
    refine XS.tswIn X90.here hx rfl (pc0 := 4) (pc' := 82) (o := 78) rfl (hb hby d3_4) rfl (by decide) (by decide +kernel) (by decide) (by decide) ?_
    show Steps p.tables e below (T90.setTop (mkF m 82 #[.val (.ref a1), .val (.double dA), .second, .val (.double dB), .second] [])) _
    refine XS.dloadN X90.here hx rfl (hb hby d3_82) rfl ?_
    show Steps p.tables e below (T90.setTop (mkF m 83 #[.val (.ref a1), .val (.double dA), .second, .val (.double dB), .second] [(.double dA)])) _
    refine XS.dloadN X90.here hx rfl (hb hby d3_83) rfl ?_
    show Steps p.tables e below (T90.setTop (mkF m 84 #[.val (.ref a1), .val (.double dA), .second, .val (.double dB), .second] [(.double dB), (.double dA)])) _
    refine XS.dcmpS X90.here hx rfl (hb hby d3_84) rfl (show cmpValue (FP.dcmp dA dB) _ = lcmpW A B from (congrArg (fun z => cmpValue z _) (congr (congrArg FP.dcmp eA) eB)).trans (dcmpV_w hA hB _)) ?_
    exact kq)
  have go92 : Goes p e below s₁ (G_holds2g m a1 dA dB) T90 (mkF m 135 #[.val (.ref a1), .val (.double dA), .second, .val (.double dB), .second] [(.int (0 : Int32))]) := fun tq kq => go91 tq (by
    show Steps p.tables e below (T90.setTop (mkF m 85 #[.val (.ref a1), .val (.double dA), .second, .val (.double dB), .second] [(.int (lcmpW A B))])) _
    refine XS.ifYes X90.here hx rfl (pc0 := 85) (pc' := 92) rfl (hb hby d3_85) rfl ((if0 _ _).trans (flt (own_lcge hL)).2.1) (by decide) (by decide) ?_
    show Steps p.tables e below (T90.setTop (mkF m 92 #[.val (.ref a1), .val (.double dA), .second, .val (.double dB), .second] [])) _
    refine XS.iconst X90.here hx rfl (hb hby d3_92) ?_
    show Steps p.tables e below (T90.setTop (mkF m 93 #[.val (.ref a1), .val (.double dA), .second, .val (.double dB), .second] [(.int (0 : Int32))])) _
    refine XS.goto X90.here hx rfl (pc0 := 93) (pc' := 135) rfl (hb hby d3_93) (by decide) (by decide) ?_
    exact kq)
  obtain ⟨fs, hr, hrun, hended, hW, hsame⟩ := X90.leave (v := some (.int (0 : Int32))) (fun h => by rw [Bd.returns] at h; cases h)
  refine ⟨_, _, go92 _ ?_, hrun, hended, _, _, rfl, ?_, ⟨_, rfl⟩, hW, hsame.mono (by decide) (by decide)⟩
  · exact retN X90 hx (t := .boolean) Bd.returns (by simp) (hb hby d3_135) hr
  · show Q_holds2g Z a1 dA dB A B h0 n0 _ T90.heap _
    rw [eq90]
    exact ⟨rfl, N90, rfl⟩
abbrev G_swap2 (m : MethodId) (w2 : Addr) : JFrame := (entryFrame m #[(.ref w2)] 1)
theorem d5_54 : decode prog_107_method_5_code 54 = .ok (.getstatic 16, 3) := by decide +kernel
theorem d5_57 : decode prog_107_method_5_code 57 = .ok (.goto 22, 3) := by decide +kernel
def Q_swap2 (Z : State)  (w0 w1 w2 w3 w4 w5 : Addr) (h0 : Heap) (n0 : Nat) (v : Option Value) (h : Heap) (L : List Loc) : Prop := v = some (.ref w4) ∧ Fr n0 L ∧ h = h0
set_option maxRecDepth 65536 in
set_option maxHeartbeats 40000000 in
theorem swap2 (l : Launch) (Z : State) (a0 : Array Value) (hw : ∀ d ∈ tables_1, d.before a0 Z = true) (ws : List Jvm.Cond)  (w0 w1 w2 w3 w4 w5 : Addr) (h0 : Heap) (n0 : Nat) (Z0 : n0 ≤ h0.size) (S0 : Sta Z h0 "com/example/heft/heft/model/XPath$Comparison" "EQUAL" "Lcom/example/heft/heft/model/XPath$Comparison;" (.ref w0)) (S1 : Sta Z h0 "com/example/heft/heft/model/XPath$Comparison" "NOT_EQUAL" "Lcom/example/heft/heft/model/XPath$Comparison;" (.ref w1)) (S2 : Sta Z h0 "com/example/heft/heft/model/XPath$Comparison" "LESS" "Lcom/example/heft/heft/model/XPath$Comparison;" (.ref w2)) (S3 : Sta Z h0 "com/example/heft/heft/model/XPath$Comparison" "LESS_OR_EQUAL" "Lcom/example/heft/heft/model/XPath$Comparison;" (.ref w3)) (S4 : Sta Z h0 "com/example/heft/heft/model/XPath$Comparison" "GREATER" "Lcom/example/heft/heft/model/XPath$Comparison;" (.ref w4)) (S5 : Sta Z h0 "com/example/heft/heft/model/XPath$Comparison" "GREATER_OR_EQUAL" "Lcom/example/heft/heft/model/XPath$Comparison;" (.ref w5)) (Ex : Exa Z h0 w2 "com/example/heft/heft/model/XPath$Comparison") (F : Fld Z h0 w2 "java/lang/Enum" "ordinal" "I" (.int (2 : Int32))) :
    MetFree l (⟨"com/example/heft/heft/model/XPath$Comparison", "swapped", "()Lcom/example/heft/heft/model/XPath$Comparison;"⟩ : MethodName) (head1 (Jvm.Cond.code (⟨"com/example/heft/heft/model/XPath$Comparison", "swapped", "()Lcom/example/heft/heft/model/XPath$Comparison;"⟩ : MethodName) prog_107_method_5_code 1 (some (.object "com/example/heft/heft/model/XPath$Comparison")) :: ws) ({ frames := 1, cells := 0, slots := 0, locals := 12 } : Room)) (fun a U => a = #[(.ref w2)] ∧ Z.Warmed39 U.vm ∧ U.heap = h0) (fun _ _ _ _ _ => True) (fun _ U o U' => ∃ v L, o = .returned v ∧ Q_swap2 Z w0 w1 w2 w3 w4 w5 h0 n0 v U'.heap L ∧ FrameEnd U o U' L ({ frames := 1, cells := 0, slots := 0, locals := 12 } : Room).cells ({ frames := 1, cells := 0, slots := 0, locals := 12 } : Room).slots) := by
  refine MetFree.of_bodySF (plainFor_of_name pn_com_example_heft_heft_model_XPath_Comparison) hisR ?_
  intro p e s m args below meth c s₁ Bd hml0 hP hK
  obtain ⟨rfl, hZ, hh⟩ := hP
  have hx := Bd.exec
  have hby := Bd.bytes
  have hml : c.maxLocals = 1 := hml0
  have hown : s.vm.findClass "com/example/heft/heft/model/XPath$Comparison" = some m.cls := findClass_of_methodNamed Bd.named
  have hnm := (name_of_methodNamed Bd.named Bd.method).1
  have X0 : Stand p l e ({ frames := 1, cells := 0, slots := 0, locals := 12 } : Room) s m #[(.ref w2)] below meth c s₁ [] 0 0 := Stand.of_body Bd
  have e0 : s₁.heap = h0 := by rw [← hh, Bd.state]; rfl
  have N0 := Fr.nil n0
  have go0 : Goes p e below s₁ (G_swap2 m w2) s₁ (mkF m 0 #[.val (.ref w2)] []) := fun tq kq => castTop (by first | (simp [entryFrame, mkF, argsToLocals, Value.category, G_swap2]; done) | rfl) kq
  have go93 : Goes p e below s₁ (G_swap2 m w2) s₁ (mkF m 1 #[.val (.ref w2)] [(.ref w2)]) := fun tq kq => go0 tq (by
    show Steps p.tables e below (s₁.setTop (mkF m 0 #[.val (.ref w2)] [])) _
    refine XS.aloadN X0.here hx rfl (hb hby d5_0) rfl rfl ?_
    exact kq)
  obtain ⟨cq94, kq94, q94a, q94b, q94c⟩ := isOf hZ e0 Ex
  obtain ⟨vv94, _, ⟨T94, L94, k94, n94⟩, -, X94, ⟨Lc94, hQ94, l94, y94, z94⟩, st94⟩ := X0.virtualBackUp hx (x := (⟨"com/example/heft/heft/model/XPath$Comparison", "ordinal", "()I"⟩ : MethodName)) (y := (⟨"java/lang/Enum", "ordinal", "()I"⟩ : MethodName)) hown (mvT hZ (tw19 hw)) (mvT hZ (tw20 hw)) (mvT hZ (tw21 hw)) (by decide) (mvT hZ (tw23 hw)) (mvT hZ (tw22 hw)) (backOf (W := 0) (ordi l Z a0 hw [] w2 (2 : Int32) h0 n0 Z0 F) hZ (tw25 hw) (tw24 hw) (by decide) (by decide)) q94a q94c (g := (mkF m 1 #[.val (.ref w2)] [(.ref w2)])) rfl (by rw [hml]; rfl) (Steps.refl _) (argsL := []) (rest := []) (lenOf pd_0 rfl) rfl (by show 2 * 0 + _ ≤ _; exact Nat.le_of_eq rfl) (hb hby d5_1) (fun _ _ => ⟨rfl, e0, (by decide : 0 + 0 ≤ _), (by decide : 0 + 0 ≤ _)⟩)
  dsimp only [Pt.U, Pt.locs, Pt.cells, Pt.slots] at X94 l94 y94 z94 st94 hQ94
  subst l94 y94 z94
  obtain ⟨rfl, Nq94, eq94⟩ := hQ94
  have N94 := Fr.app N0 Nq94
  have go94 : Goes p e below s₁ (G_swap2 m w2) T94 (mkF m 4 #[.val (.ref w2)] [(.int (2 : Int32))]) := fun tq kq => go93 tq (st94.trans kq)
  have go95 : Goes p e below s₁ (G_swap2 m w2) T94 (mkF m 54 #[.val (.ref w2)] []) := fun tq kq => go94 tq (by
    show Steps p.tables e below (T94.setTop (mkF m 4 #[.val (.ref w2)] [(.int (2 : Int32))])) _
    refine XS.tswIn X94.here hx rfl (pc0 := 4) (pc' := 54) (o := 50) rfl (hb hby d5_4) rfl (by decide) (by decide +kernel) (by decide) (by decide) ?_
    exact kq)
  obtain ⟨T96, X96, e96, st96⟩ := getS2 X94 hx hZ hown (host := "") (Or.inl (tw37 hw)) Via.refl eq94 S4 (g := (mkF m 54 #[.val (.ref w2)] [])) rfl (hb hby d5_54)
  have go96 : Goes p e below s₁ (G_swap2 m w2) T96 (mkF m 57 #[.val (.ref w2)] [(.ref w4)]) := fun tq kq => go95 tq (st96 _ kq)
  have go97 : Goes p e below s₁ (G_swap2 m w2) T96 (mkF m 79 #[.val (.ref w2)] [(.ref w4)]) := fun tq kq => go96 tq (by
    show Steps p.tables e below (T96.setTop (mkF m 57 #[.val (.ref w2)] [(.ref w4)])) _
    refine XS.goto X96.here hx rfl (pc0 := 57) (pc' := 79) rfl (hb hby d5_57) (by decide) (by decide) ?_
    exact kq)
  obtain ⟨fs, hr, hrun, hended, hW, hsame⟩ := X96.leave (v := some (.ref w4)) (fun h => by rw [Bd.returns] at h; cases h)
  refine ⟨_, _, go97 _ ?_, hrun, hended, _, _, rfl, ?_, ⟨_, rfl⟩, hW, hsame.mono (by decide) (by decide)⟩
  · jvm_step X96.here [X96.here.top, hx, (hb hby d5_79), X96.method', Bd.returns, Value.isRef, FieldType.isReference]
    first | (intro acts; rw [hr _ acts rfl rfl rfl]) | rw [hr _ _ rfl rfl rfl]
    exact Steps.refl _
  · show Q_swap2 Z w0 w1 w2 w3 w4 w5 h0 n0 _ T96.heap _
    rw [e96]
    exact ⟨rfl, N94, rfl⟩
abbrev G_holds3l (m : MethodId) (a1 : Addr) (dA : UInt64) (dB : UInt64) : JFrame := (entryFrame m #[(.ref a1), (.double dA), (.double dB)] 5)
theorem d3_96 : decode prog_107_method_7_code 96 = .ok (.dload_n 1, 1) := by decide +kernel
theorem d3_97 : decode prog_107_method_7_code 97 = .ok (.dload_n 3, 1) := by decide +kernel
theorem d3_98 : decode prog_107_method_7_code 98 = .ok (.dcmp .g, 1) := by decide +kernel
theorem d3_99 : decode prog_107_method_7_code 99 = .ok (.ifCond .gt 7, 3) := by decide +kernel
theorem d3_102 : decode prog_107_method_7_code 102 = .ok (.iconst 1, 1) := by decide +kernel
theorem d3_103 : decode prog_107_method_7_code 103 = .ok (.goto 32, 3) := by decide +kernel
def Q_holds3l (Z : State) (a1 : Addr) (dA : UInt64) (dB : UInt64) (A B : Int64) (h0 : Heap) (n0 : Nat) (v : Option Value) (h : Heap) (L : List Loc) : Prop := v = some (.int (1 : Int32)) ∧ Fr n0 L ∧ h = h0
set_option maxRecDepth 65536 in
set_option maxHeartbeats 40000000 in
theorem holds3l (l : Launch) (Z : State) (a0 : Array Value) (hw : ∀ d ∈ tables_1, d.before a0 Z = true) (ws : List Jvm.Cond) (a1 : Addr) (dA : UInt64) (dB : UInt64) (A B : Int64) (h0 : Heap) (n0 : Nat) (Z0 : n0 ≤ h0.size) (Ex : Exa Z h0 a1 "com/example/heft/heft/model/XPath$Comparison") (F : Fld Z h0 a1 "java/lang/Enum" "ordinal" "I" (.int (3 : Int32))) (eA : dA = FP.l2d A) (eB : dB = FP.l2d B) (hA : B53 A) (hB : B53 B) (hE : ¬ (A = B)) (hL : A < B) (hG : ¬ (B < A)) :
    MetFree l (⟨"com/example/heft/heft/model/XPath$Comparison", "holds", "(DD)Z"⟩ : MethodName) (head1 (Jvm.Cond.code (⟨"com/example/heft/heft/model/XPath$Comparison", "holds", "(DD)Z"⟩ : MethodName) prog_107_method_7_code 5 (some .boolean) :: ws) ({ frames := 1, cells := 0, slots := 0, locals := 12 } : Room)) (fun a U => a = #[(.ref a1), (.double dA), (.double dB)] ∧ Z.Warmed39 U.vm ∧ U.heap = h0) (fun _ _ _ _ _ => True) (fun _ U o U' => ∃ v L, o = .returned v ∧ Q_holds3l Z a1 dA dB A B h0 n0 v U'.heap L ∧ FrameEnd U o U' L ({ frames := 1, cells := 0, slots := 0, locals := 12 } : Room).cells ({ frames := 1, cells := 0, slots := 0, locals := 12 } : Room).slots) := by
  refine MetFree.of_bodySF (plainFor_of_name pn_com_example_heft_heft_model_XPath_Comparison) hisR ?_
  intro p e s m args below meth c s₁ Bd hml0 hP hK
  obtain ⟨rfl, hZ, hh⟩ := hP
  have hx := Bd.exec
  have hby := Bd.bytes
  have hml : c.maxLocals = 5 := hml0
  have hown : s.vm.findClass "com/example/heft/heft/model/XPath$Comparison" = some m.cls := findClass_of_methodNamed Bd.named
  have hnm := (name_of_methodNamed Bd.named Bd.method).1
  have X0 : Stand p l e ({ frames := 1, cells := 0, slots := 0, locals := 12 } : Room) s m #[(.ref a1), (.double dA), (.double dB)] below meth c s₁ [] 0 0 := Stand.of_body Bd
  have e0 : s₁.heap = h0 := by rw [← hh, Bd.state]; rfl
  have N0 := Fr.nil n0
  have go0 : Goes p e below s₁ (G_holds3l m a1 dA dB) s₁ (mkF m 0 #[.val (.ref a1), .val (.double dA), .second, .val (.double dB), .second] []) := fun tq kq => castTop (by first | (simp [entryFrame, mkF, argsToLocals, Value.category, G_holds3l]; done) | rfl) kq
  have go98 : Goes p e below s₁ (G_holds3l m a1 dA dB) s₁ (mkF m 1 #[.val (.ref a1), .val (.double dA), .second, .val (.double dB), .second] [(.ref a1)]) := fun tq kq => go0 tq (by
    show Steps p.tables e below (s₁.setTop (mkF m 0 #[.val (.ref a1), .val (.double dA), .second, .val (.double dB), .second] [])) _
    refine XS.aloadN X0.here hx rfl (hb hby d3_0) rfl rfl ?_
    exact kq)
  obtain ⟨cq99, kq99, q99a, q99b, q99c⟩ := isOf hZ e0 Ex
  obtain ⟨vv99, _, ⟨T99, L99, k99, n99⟩, -, X99, ⟨Lc99, hQ99, l99, y99, z99⟩, st99⟩ := X0.virtualBackUp hx (x := (⟨"com/example/heft/heft/model/XPath$Comparison", "ordinal", "()I"⟩ : MethodName)) (y := (⟨"java/lang/Enum", "ordinal", "()I"⟩ : MethodName)) hown (mvT hZ (tw19 hw)) (mvT hZ (tw20 hw)) (mvT hZ (tw21 hw)) (by decide) (mvT hZ (tw23 hw)) (mvT hZ (tw22 hw)) (backOf (W := 0) (ordi l Z a0 hw [] a1 (3 : Int32) h0 n0 Z0 F) hZ (tw25 hw) (tw24 hw) (by decide) (by decide)) q99a q99c (g := (mkF m 1 #[.val (.ref a1), .val (.double dA), .second, .val (.double dB), .second] [(.ref a1)])) rfl (by rw [hml]; rfl) (Steps.refl _) (argsL := []) (rest := []) (lenOf pd_0 rfl) rfl (by show 2 * 0 + _ ≤ _; exact Nat.le_of_eq rfl) (hb hby d3_1) (fun _ _ => ⟨rfl, e0, (by decide : 0 + 0 ≤ _), (by decide : 0 + 0 ≤ _)⟩)
  dsimp only [Pt.U, Pt.locs, Pt.cells, Pt.slots] at X99 l99 y99 z99 st99 hQ99
  subst l99 y99 z99
  obtain ⟨rfl, Nq99, eq99⟩ := hQ99
  have N99 := Fr.app N0 Nq99
  have go99 : Goes p e below s₁ (G_holds3l m a1 dA dB) T99 (mkF m 4 #[.val (.ref a1), .val (.double dA), .second, .val (.double dB), .second] [(.int (3 : Int32))]) := fun tq kq => go98 tq (st99.trans kq)
  have go100 : Goes p e below s₁ (G_holds3l m a1 dA dB) T99 (mkF m 99 #[.val (.ref a1), .val (.double dA), .second, .val (.double dB), .second] [(.int (lcmpW A B))]) := fun tq kq => go99 tq (by
    show Steps p.tables e below (T99.setTop (mkF m 4 #[.val (.ref a1), .val (.double dA), .second, .val (.double dB), .second] [(.int (3 : Int32))])) _
    refine XS.tswIn X99.here hx rfl (pc0 := 4) (pc' := 96) (o := 92) rfl (hb hby d3_4) rfl (by decide) (by decide +kernel) (by decide) (by decide) ?_
    show Steps p.tables e below (T99.setTop (mkF m 96 #[.val (.ref a1), .val (.double dA), .second, .val (.double dB), .second] [])) _
    refine XS.dloadN X99.here hx rfl (hb hby d3_96) rfl ?_
    show Steps p.tables e below (T99.setTop (mkF m 97 #[.val (.ref a1), .val (.double dA), .second, .val (.double dB), .second] [(.double dA)])) _
    refine XS.dloadN X99.here hx rfl (hb hby d3_97) rfl ?_
    show Steps p.tables e below (T99.setTop (mkF m 98 #[.val (.ref a1), .val (.double dA), .second, .val (.double dB), .second] [(.double dB), (.double dA)])) _
    refine XS.dcmpS X99.here hx rfl (hb hby d3_98) rfl (show cmpValue (FP.dcmp dA dB) _ = lcmpW A B from (congrArg (fun z => cmpValue z _) (congr (congrArg FP.dcmp eA) eB)).trans (dcmpV_w hA hB _)) ?_
    exact kq)
  have go101 : Goes p e below s₁ (G_holds3l m a1 dA dB) T99 (mkF m 135 #[.val (.ref a1), .val (.double dA), .second, .val (.double dB), .second] [(.int (1 : Int32))]) := fun tq kq => go100 tq (by
    show Steps p.tables e below (T99.setTop (mkF m 99 #[.val (.ref a1), .val (.double dA), .second, .val (.double dB), .second] [(.int (lcmpW A B))])) _
    refine XS.ifNo X99.here hx rfl (hb hby d3_99) rfl ((if0 _ _).trans (flt (own_lcle hG)).2.2.1) ?_
    show Steps p.tables e below (T99.setTop (mkF m 102 #[.val (.ref a1), .val (.double dA), .second, .val (.double dB), .second] [])) _
    refine XS.iconst X99.here hx rfl (hb hby d3_102) ?_
    show Steps p.tables e below (T99.setTop (mkF m 103 #[.val (.ref a1), .val (.double dA), .second, .val (.double dB), .second] [(.int (1 : Int32))])) _
    refine XS.goto X99.here hx rfl (pc0 := 103) (pc' := 135) rfl (hb hby d3_103) (by decide) (by decide) ?_
    exact kq)
  obtain ⟨fs, hr, hrun, hended, hW, hsame⟩ := X99.leave (v := some (.int (1 : Int32))) (fun h => by rw [Bd.returns] at h; cases h)
  refine ⟨_, _, go101 _ ?_, hrun, hended, _, _, rfl, ?_, ⟨_, rfl⟩, hW, hsame.mono (by decide) (by decide)⟩
  · exact retN X99 hx (t := .boolean) Bd.returns (by simp) (hb hby d3_135) hr
  · show Q_holds3l Z a1 dA dB A B h0 n0 _ T99.heap _
    rw [eq99]
    exact ⟨rfl, N99, rfl⟩
abbrev G_holds3g (m : MethodId) (a1 : Addr) (dA : UInt64) (dB : UInt64) : JFrame := (entryFrame m #[(.ref a1), (.double dA), (.double dB)] 5)
theorem d3_106 : decode prog_107_method_7_code 106 = .ok (.iconst 0, 1) := by decide +kernel
theorem d3_107 : decode prog_107_method_7_code 107 = .ok (.goto 28, 3) := by decide +kernel
def Q_holds3g (Z : State) (a1 : Addr) (dA : UInt64) (dB : UInt64) (A B : Int64) (h0 : Heap) (n0 : Nat) (v : Option Value) (h : Heap) (L : List Loc) : Prop := v = some (.int (0 : Int32)) ∧ Fr n0 L ∧ h = h0
set_option maxRecDepth 65536 in
set_option maxHeartbeats 40000000 in
theorem holds3g (l : Launch) (Z : State) (a0 : Array Value) (hw : ∀ d ∈ tables_1, d.before a0 Z = true) (ws : List Jvm.Cond) (a1 : Addr) (dA : UInt64) (dB : UInt64) (A B : Int64) (h0 : Heap) (n0 : Nat) (Z0 : n0 ≤ h0.size) (Ex : Exa Z h0 a1 "com/example/heft/heft/model/XPath$Comparison") (F : Fld Z h0 a1 "java/lang/Enum" "ordinal" "I" (.int (3 : Int32))) (eA : dA = FP.l2d A) (eB : dB = FP.l2d B) (hA : B53 A) (hB : B53 B) (hE : ¬ (A = B)) (hL : ¬ (A < B)) (hG : B < A) :
    MetFree l (⟨"com/example/heft/heft/model/XPath$Comparison", "holds", "(DD)Z"⟩ : MethodName) (head1 (Jvm.Cond.code (⟨"com/example/heft/heft/model/XPath$Comparison", "holds", "(DD)Z"⟩ : MethodName) prog_107_method_7_code 5 (some .boolean) :: ws) ({ frames := 1, cells := 0, slots := 0, locals := 12 } : Room)) (fun a U => a = #[(.ref a1), (.double dA), (.double dB)] ∧ Z.Warmed39 U.vm ∧ U.heap = h0) (fun _ _ _ _ _ => True) (fun _ U o U' => ∃ v L, o = .returned v ∧ Q_holds3g Z a1 dA dB A B h0 n0 v U'.heap L ∧ FrameEnd U o U' L ({ frames := 1, cells := 0, slots := 0, locals := 12 } : Room).cells ({ frames := 1, cells := 0, slots := 0, locals := 12 } : Room).slots) := by
  refine MetFree.of_bodySF (plainFor_of_name pn_com_example_heft_heft_model_XPath_Comparison) hisR ?_
  intro p e s m args below meth c s₁ Bd hml0 hP hK
  obtain ⟨rfl, hZ, hh⟩ := hP
  have hx := Bd.exec
  have hby := Bd.bytes
  have hml : c.maxLocals = 5 := hml0
  have hown : s.vm.findClass "com/example/heft/heft/model/XPath$Comparison" = some m.cls := findClass_of_methodNamed Bd.named
  have hnm := (name_of_methodNamed Bd.named Bd.method).1
  have X0 : Stand p l e ({ frames := 1, cells := 0, slots := 0, locals := 12 } : Room) s m #[(.ref a1), (.double dA), (.double dB)] below meth c s₁ [] 0 0 := Stand.of_body Bd
  have e0 : s₁.heap = h0 := by rw [← hh, Bd.state]; rfl
  have N0 := Fr.nil n0
  have go0 : Goes p e below s₁ (G_holds3g m a1 dA dB) s₁ (mkF m 0 #[.val (.ref a1), .val (.double dA), .second, .val (.double dB), .second] []) := fun tq kq => castTop (by first | (simp [entryFrame, mkF, argsToLocals, Value.category, G_holds3g]; done) | rfl) kq
  have go102 : Goes p e below s₁ (G_holds3g m a1 dA dB) s₁ (mkF m 1 #[.val (.ref a1), .val (.double dA), .second, .val (.double dB), .second] [(.ref a1)]) := fun tq kq => go0 tq (by
    show Steps p.tables e below (s₁.setTop (mkF m 0 #[.val (.ref a1), .val (.double dA), .second, .val (.double dB), .second] [])) _
    refine XS.aloadN X0.here hx rfl (hb hby d3_0) rfl rfl ?_
    exact kq)
  obtain ⟨cq103, kq103, q103a, q103b, q103c⟩ := isOf hZ e0 Ex
  obtain ⟨vv103, _, ⟨T103, L103, k103, n103⟩, -, X103, ⟨Lc103, hQ103, l103, y103, z103⟩, st103⟩ := X0.virtualBackUp hx (x := (⟨"com/example/heft/heft/model/XPath$Comparison", "ordinal", "()I"⟩ : MethodName)) (y := (⟨"java/lang/Enum", "ordinal", "()I"⟩ : MethodName)) hown (mvT hZ (tw19 hw)) (mvT hZ (tw20 hw)) (mvT hZ (tw21 hw)) (by decide) (mvT hZ (tw23 hw)) (mvT hZ (tw22 hw)) (backOf (W := 0) (ordi l Z a0 hw [] a1 (3 : Int32) h0 n0 Z0 F) hZ (tw25 hw) (tw24 hw) (by decide) (by decide)) q103a q103c (g := (mkF m 1 #[.val (.ref a1), .val (.double dA), .second, .val (.double dB), .second] [(.ref a1)])) rfl (by rw [hml]; rfl) (Steps.refl _) (argsL := []) (rest := []) (lenOf pd_0 rfl) rfl (by show 2 * 0 + _ ≤ _; exact Nat.le_of_eq rfl) (hb hby d3_1) (fun _ _ => ⟨rfl, e0, (by decide : 0 + 0 ≤ _), (by decide : 0 + 0 ≤ _)⟩)
  dsimp only [Pt.U, Pt.locs, Pt.cells, Pt.slots] at X103 l103 y103 z103 st103 hQ103
  subst l103 y103 z103
  obtain ⟨rfl, Nq103, eq103⟩ := hQ103
  have N103 := Fr.app N0 Nq103
  have go103 : Goes p e below s₁ (G_holds3g m a1 dA dB) T103 (mkF m 4 #[.val (.ref a1), .val (.double dA), .second, .val (.double dB), .second] [(.int (3 : Int32))]) := fun tq kq => go102 tq (st103.trans kq)
  have go104 : Goes p e below s₁ (G_holds3g m a1 dA dB) T103 (mkF m 99 #[.val (.ref a1), .val (.double dA), .second, .val (.double dB), .second] [(.int (lcmpW A B))]) := fun tq kq => go103 tq (by
    show Steps p.tables e below (T103.setTop (mkF m 4 #[.val (.ref a1), .val (.double dA), .second, .val (.double dB), .second] [(.int (3 : Int32))])) _
    refine XS.tswIn X103.here hx rfl (pc0 := 4) (pc' := 96) (o := 92) rfl (hb hby d3_4) rfl (by decide) (by decide +kernel) (by decide) (by decide) ?_
    show Steps p.tables e below (T103.setTop (mkF m 96 #[.val (.ref a1), .val (.double dA), .second, .val (.double dB), .second] [])) _
    refine XS.dloadN X103.here hx rfl (hb hby d3_96) rfl ?_
    show Steps p.tables e below (T103.setTop (mkF m 97 #[.val (.ref a1), .val (.double dA), .second, .val (.double dB), .second] [(.double dA)])) _
    refine XS.dloadN X103.here hx rfl (hb hby d3_97) rfl ?_
    show Steps p.tables e below (T103.setTop (mkF m 98 #[.val (.ref a1), .val (.double dA), .second, .val (.double dB), .second] [(.double dB), (.double dA)])) _
    refine XS.dcmpS X103.here hx rfl (hb hby d3_98) rfl (show cmpValue (FP.dcmp dA dB) _ = lcmpW A B from (congrArg (fun z => cmpValue z _) (congr (congrArg FP.dcmp eA) eB)).trans (dcmpV_w hA hB _)) ?_
    exact kq)
  have go105 : Goes p e below s₁ (G_holds3g m a1 dA dB) T103 (mkF m 135 #[.val (.ref a1), .val (.double dA), .second, .val (.double dB), .second] [(.int (0 : Int32))]) := fun tq kq => go104 tq (by
    show Steps p.tables e below (T103.setTop (mkF m 99 #[.val (.ref a1), .val (.double dA), .second, .val (.double dB), .second] [(.int (lcmpW A B))])) _
    refine XS.ifYes X103.here hx rfl (pc0 := 99) (pc' := 106) rfl (hb hby d3_99) rfl ((if0 _ _).trans (tlt (own_lcgt hG)).2.2.1) (by decide) (by decide) ?_
    show Steps p.tables e below (T103.setTop (mkF m 106 #[.val (.ref a1), .val (.double dA), .second, .val (.double dB), .second] [])) _
    refine XS.iconst X103.here hx rfl (hb hby d3_106) ?_
    show Steps p.tables e below (T103.setTop (mkF m 107 #[.val (.ref a1), .val (.double dA), .second, .val (.double dB), .second] [(.int (0 : Int32))])) _
    refine XS.goto X103.here hx rfl (pc0 := 107) (pc' := 135) rfl (hb hby d3_107) (by decide) (by decide) ?_
    exact kq)
  obtain ⟨fs, hr, hrun, hended, hW, hsame⟩ := X103.leave (v := some (.int (0 : Int32))) (fun h => by rw [Bd.returns] at h; cases h)
  refine ⟨_, _, go105 _ ?_, hrun, hended, _, _, rfl, ?_, ⟨_, rfl⟩, hW, hsame.mono (by decide) (by decide)⟩
  · exact retN X103 hx (t := .boolean) Bd.returns (by simp) (hb hby d3_135) hr
  · show Q_holds3g Z a1 dA dB A B h0 n0 _ T103.heap _
    rw [eq103]
    exact ⟨rfl, N103, rfl⟩
abbrev G_swap3 (m : MethodId) (w3 : Addr) : JFrame := (entryFrame m #[(.ref w3)] 1)
theorem d5_60 : decode prog_107_method_5_code 60 = .ok (.getstatic 19, 3) := by decide +kernel
theorem d5_63 : decode prog_107_method_5_code 63 = .ok (.goto 16, 3) := by decide +kernel
def Q_swap3 (Z : State)  (w0 w1 w2 w3 w4 w5 : Addr) (h0 : Heap) (n0 : Nat) (v : Option Value) (h : Heap) (L : List Loc) : Prop := v = some (.ref w5) ∧ Fr n0 L ∧ h = h0
set_option maxRecDepth 65536 in
set_option maxHeartbeats 40000000 in
theorem swap3 (l : Launch) (Z : State) (a0 : Array Value) (hw : ∀ d ∈ tables_1, d.before a0 Z = true) (ws : List Jvm.Cond)  (w0 w1 w2 w3 w4 w5 : Addr) (h0 : Heap) (n0 : Nat) (Z0 : n0 ≤ h0.size) (S0 : Sta Z h0 "com/example/heft/heft/model/XPath$Comparison" "EQUAL" "Lcom/example/heft/heft/model/XPath$Comparison;" (.ref w0)) (S1 : Sta Z h0 "com/example/heft/heft/model/XPath$Comparison" "NOT_EQUAL" "Lcom/example/heft/heft/model/XPath$Comparison;" (.ref w1)) (S2 : Sta Z h0 "com/example/heft/heft/model/XPath$Comparison" "LESS" "Lcom/example/heft/heft/model/XPath$Comparison;" (.ref w2)) (S3 : Sta Z h0 "com/example/heft/heft/model/XPath$Comparison" "LESS_OR_EQUAL" "Lcom/example/heft/heft/model/XPath$Comparison;" (.ref w3)) (S4 : Sta Z h0 "com/example/heft/heft/model/XPath$Comparison" "GREATER" "Lcom/example/heft/heft/model/XPath$Comparison;" (.ref w4)) (S5 : Sta Z h0 "com/example/heft/heft/model/XPath$Comparison" "GREATER_OR_EQUAL" "Lcom/example/heft/heft/model/XPath$Comparison;" (.ref w5)) (Ex : Exa Z h0 w3 "com/example/heft/heft/model/XPath$Comparison") (F : Fld Z h0 w3 "java/lang/Enum" "ordinal" "I" (.int (3 : Int32))) :
    MetFree l (⟨"com/example/heft/heft/model/XPath$Comparison", "swapped", "()Lcom/example/heft/heft/model/XPath$Comparison;"⟩ : MethodName) (head1 (Jvm.Cond.code (⟨"com/example/heft/heft/model/XPath$Comparison", "swapped", "()Lcom/example/heft/heft/model/XPath$Comparison;"⟩ : MethodName) prog_107_method_5_code 1 (some (.object "com/example/heft/heft/model/XPath$Comparison")) :: ws) ({ frames := 1, cells := 0, slots := 0, locals := 12 } : Room)) (fun a U => a = #[(.ref w3)] ∧ Z.Warmed39 U.vm ∧ U.heap = h0) (fun _ _ _ _ _ => True) (fun _ U o U' => ∃ v L, o = .returned v ∧ Q_swap3 Z w0 w1 w2 w3 w4 w5 h0 n0 v U'.heap L ∧ FrameEnd U o U' L ({ frames := 1, cells := 0, slots := 0, locals := 12 } : Room).cells ({ frames := 1, cells := 0, slots := 0, locals := 12 } : Room).slots) := by
  refine MetFree.of_bodySF (plainFor_of_name pn_com_example_heft_heft_model_XPath_Comparison) hisR ?_
  intro p e s m args below meth c s₁ Bd hml0 hP hK
  obtain ⟨rfl, hZ, hh⟩ := hP
  have hx := Bd.exec
  have hby := Bd.bytes
  have hml : c.maxLocals = 1 := hml0
  have hown : s.vm.findClass "com/example/heft/heft/model/XPath$Comparison" = some m.cls := findClass_of_methodNamed Bd.named
  have hnm := (name_of_methodNamed Bd.named Bd.method).1
  have X0 : Stand p l e ({ frames := 1, cells := 0, slots := 0, locals := 12 } : Room) s m #[(.ref w3)] below meth c s₁ [] 0 0 := Stand.of_body Bd
  have e0 : s₁.heap = h0 := by rw [← hh, Bd.state]; rfl
  have N0 := Fr.nil n0
  have go0 : Goes p e below s₁ (G_swap3 m w3) s₁ (mkF m 0 #[.val (.ref w3)] []) := fun tq kq => castTop (by first | (simp [entryFrame, mkF, argsToLocals, Value.category, G_swap3]; done) | rfl) kq
  have go106 : Goes p e below s₁ (G_swap3 m w3) s₁ (mkF m 1 #[.val (.ref w3)] [(.ref w3)]) := fun tq kq => go0 tq (by
    show Steps p.tables e below (s₁.setTop (mkF m 0 #[.val (.ref w3)] [])) _
    refine XS.aloadN X0.here hx rfl (hb hby d5_0) rfl rfl ?_
    exact kq)
  obtain ⟨cq107, kq107, q107a, q107b, q107c⟩ := isOf hZ e0 Ex
  obtain ⟨vv107, _, ⟨T107, L107, k107, n107⟩, -, X107, ⟨Lc107, hQ107, l107, y107, z107⟩, st107⟩ := X0.virtualBackUp hx (x := (⟨"com/example/heft/heft/model/XPath$Comparison", "ordinal", "()I"⟩ : MethodName)) (y := (⟨"java/lang/Enum", "ordinal", "()I"⟩ : MethodName)) hown (mvT hZ (tw19 hw)) (mvT hZ (tw20 hw)) (mvT hZ (tw21 hw)) (by decide) (mvT hZ (tw23 hw)) (mvT hZ (tw22 hw)) (backOf (W := 0) (ordi l Z a0 hw [] w3 (3 : Int32) h0 n0 Z0 F) hZ (tw25 hw) (tw24 hw) (by decide) (by decide)) q107a q107c (g := (mkF m 1 #[.val (.ref w3)] [(.ref w3)])) rfl (by rw [hml]; rfl) (Steps.refl _) (argsL := []) (rest := []) (lenOf pd_0 rfl) rfl (by show 2 * 0 + _ ≤ _; exact Nat.le_of_eq rfl) (hb hby d5_1) (fun _ _ => ⟨rfl, e0, (by decide : 0 + 0 ≤ _), (by decide : 0 + 0 ≤ _)⟩)
  dsimp only [Pt.U, Pt.locs, Pt.cells, Pt.slots] at X107 l107 y107 z107 st107 hQ107
  subst l107 y107 z107
  obtain ⟨rfl, Nq107, eq107⟩ := hQ107
  have N107 := Fr.app N0 Nq107
  have go107 : Goes p e below s₁ (G_swap3 m w3) T107 (mkF m 4 #[.val (.ref w3)] [(.int (3 : Int32))]) := fun tq kq => go106 tq (st107.trans kq)
  have go108 : Goes p e below s₁ (G_swap3 m w3) T107 (mkF m 60 #[.val (.ref w3)] []) := fun tq kq => go107 tq (by
    show Steps p.tables e below (T107.setTop (mkF m 4 #[.val (.ref w3)] [(.int (3 : Int32))])) _
    refine XS.tswIn X107.here hx rfl (pc0 := 4) (pc' := 60) (o := 56) rfl (hb hby d5_4) rfl (by decide) (by decide +kernel) (by decide) (by decide) ?_
    exact kq)
  obtain ⟨T109, X109, e109, st109⟩ := getS2 X107 hx hZ hown (host := "") (Or.inl (tw47 hw)) Via.refl eq107 S5 (g := (mkF m 60 #[.val (.ref w3)] [])) rfl (hb hby d5_60)
  have go109 : Goes p e below s₁ (G_swap3 m w3) T109 (mkF m 63 #[.val (.ref w3)] [(.ref w5)]) := fun tq kq => go108 tq (st109 _ kq)
  have go110 : Goes p e below s₁ (G_swap3 m w3) T109 (mkF m 79 #[.val (.ref w3)] [(.ref w5)]) := fun tq kq => go109 tq (by
    show Steps p.tables e below (T109.setTop (mkF m 63 #[.val (.ref w3)] [(.ref w5)])) _
    refine XS.goto X109.here hx rfl (pc0 := 63) (pc' := 79) rfl (hb hby d5_63) (by decide) (by decide) ?_
    exact kq)
  obtain ⟨fs, hr, hrun, hended, hW, hsame⟩ := X109.leave (v := some (.ref w5)) (fun h => by rw [Bd.returns] at h; cases h)
  refine ⟨_, _, go110 _ ?_, hrun, hended, _, _, rfl, ?_, ⟨_, rfl⟩, hW, hsame.mono (by decide) (by decide)⟩
  · jvm_step X109.here [X109.here.top, hx, (hb hby d5_79), X109.method', Bd.returns, Value.isRef, FieldType.isReference]
    first | (intro acts; rw [hr _ acts rfl rfl rfl]) | rw [hr _ _ rfl rfl rfl]
    exact Steps.refl _
  · show Q_swap3 Z w0 w1 w2 w3 w4 w5 h0 n0 _ T109.heap _
    rw [e109]
    exact ⟨rfl, N107, rfl⟩
abbrev G_holds4l (m : MethodId) (a1 : Addr) (dA : UInt64) (dB : UInt64) : JFrame := (entryFrame m #[(.ref a1), (.double dA), (.double dB)] 5)
theorem d3_110 : decode prog_107_method_7_code 110 = .ok (.dload_n 1, 1) := by decide +kernel
theorem d3_111 : decode prog_107_method_7_code 111 = .ok (.dload_n 3, 1) := by decide +kernel
theorem d3_112 : decode prog_107_method_7_code 112 = .ok (.dcmp .l, 1) := by decide +kernel
theorem d3_113 : decode prog_107_method_7_code 113 = .ok (.ifCond .le 7, 3) := by decide +kernel
theorem d3_120 : decode prog_107_method_7_code 120 = .ok (.iconst 0, 1) := by decide +kernel
theorem d3_121 : decode prog_107_method_7_code 121 = .ok (.goto 14, 3) := by decide +kernel
def Q_holds4l (Z : State) (a1 : Addr) (dA : UInt64) (dB : UInt64) (A B : Int64) (h0 : Heap) (n0 : Nat) (v : Option Value) (h : Heap) (L : List Loc) : Prop := v = some (.int (0 : Int32)) ∧ Fr n0 L ∧ h = h0
set_option maxRecDepth 65536 in
set_option maxHeartbeats 40000000 in
theorem holds4l (l : Launch) (Z : State) (a0 : Array Value) (hw : ∀ d ∈ tables_1, d.before a0 Z = true) (ws : List Jvm.Cond) (a1 : Addr) (dA : UInt64) (dB : UInt64) (A B : Int64) (h0 : Heap) (n0 : Nat) (Z0 : n0 ≤ h0.size) (Ex : Exa Z h0 a1 "com/example/heft/heft/model/XPath$Comparison") (F : Fld Z h0 a1 "java/lang/Enum" "ordinal" "I" (.int (4 : Int32))) (eA : dA = FP.l2d A) (eB : dB = FP.l2d B) (hA : B53 A) (hB : B53 B) (hE : ¬ (A = B)) (hL : A < B) (hG : ¬ (B < A)) :
    MetFree l (⟨"com/example/heft/heft/model/XPath$Comparison", "holds", "(DD)Z"⟩ : MethodName) (head1 (Jvm.Cond.code (⟨"com/example/heft/heft/model/XPath$Comparison", "holds", "(DD)Z"⟩ : MethodName) prog_107_method_7_code 5 (some .boolean) :: ws) ({ frames := 1, cells := 0, slots := 0, locals := 12 } : Room)) (fun a U => a = #[(.ref a1), (.double dA), (.double dB)] ∧ Z.Warmed39 U.vm ∧ U.heap = h0) (fun _ _ _ _ _ => True) (fun _ U o U' => ∃ v L, o = .returned v ∧ Q_holds4l Z a1 dA dB A B h0 n0 v U'.heap L ∧ FrameEnd U o U' L ({ frames := 1, cells := 0, slots := 0, locals := 12 } : Room).cells ({ frames := 1, cells := 0, slots := 0, locals := 12 } : Room).slots) := by
  refine MetFree.of_bodySF (plainFor_of_name pn_com_example_heft_heft_model_XPath_Comparison) hisR ?_
  intro p e s m args below meth c s₁ Bd hml0 hP hK
  obtain ⟨rfl, hZ, hh⟩ := hP
  have hx := Bd.exec
  have hby := Bd.bytes
  have hml : c.maxLocals = 5 := hml0
  have hown : s.vm.findClass "com/example/heft/heft/model/XPath$Comparison" = some m.cls := findClass_of_methodNamed Bd.named
  have hnm := (name_of_methodNamed Bd.named Bd.method).1
  have X0 : Stand p l e ({ frames := 1, cells := 0, slots := 0, locals := 12 } : Room) s m #[(.ref a1), (.double dA), (.double dB)] below meth c s₁ [] 0 0 := Stand.of_body Bd
  have e0 : s₁.heap = h0 := by rw [← hh, Bd.state]; rfl
  have N0 := Fr.nil n0
  have go0 : Goes p e below s₁ (G_holds4l m a1 dA dB) s₁ (mkF m 0 #[.val (.ref a1), .val (.double dA), .second, .val (.double dB), .second] []) := fun tq kq => castTop (by first | (simp [entryFrame, mkF, argsToLocals, Value.category, G_holds4l]; done) | rfl) kq
  have go111 : Goes p e below s₁ (G_holds4l m a1 dA dB) s₁ (mkF m 1 #[.val (.ref a1), .val (.double dA), .second, .val (.double dB), .second] [(.ref a1)]) := fun tq kq => go0 tq (by
    show Steps p.tables e below (s₁.setTop (mkF m 0 #[.val (.ref a1), .val (.double dA), .second, .val (.double dB), .second] [])) _
    refine XS.aloadN X0.here hx rfl (hb hby d3_0) rfl rfl ?_
    exact kq)
  obtain ⟨cq112, kq112, q112a, q112b, q112c⟩ := isOf hZ e0 Ex
  obtain ⟨vv112, _, ⟨T112, L112, k112, n112⟩, -, X112, ⟨Lc112, hQ112, l112, y112, z112⟩, st112⟩ := X0.virtualBackUp hx (x := (⟨"com/example/heft/heft/model/XPath$Comparison", "ordinal", "()I"⟩ : MethodName)) (y := (⟨"java/lang/Enum", "ordinal", "()I"⟩ : MethodName)) hown (mvT hZ (tw19 hw)) (mvT hZ (tw20 hw)) (mvT hZ (tw21 hw)) (by decide) (mvT hZ (tw23 hw)) (mvT hZ (tw22 hw)) (backOf (W := 0) (ordi l Z a0 hw [] a1 (4 : Int32) h0 n0 Z0 F) hZ (tw25 hw) (tw24 hw) (by decide) (by decide)) q112a q112c (g := (mkF m 1 #[.val (.ref a1), .val (.double dA), .second, .val (.double dB), .second] [(.ref a1)])) rfl (by rw [hml]; rfl) (Steps.refl _) (argsL := []) (rest := []) (lenOf pd_0 rfl) rfl (by show 2 * 0 + _ ≤ _; exact Nat.le_of_eq rfl) (hb hby d3_1) (fun _ _ => ⟨rfl, e0, (by decide : 0 + 0 ≤ _), (by decide : 0 + 0 ≤ _)⟩)
  dsimp only [Pt.U, Pt.locs, Pt.cells, Pt.slots] at X112 l112 y112 z112 st112 hQ112
  subst l112 y112 z112
  obtain ⟨rfl, Nq112, eq112⟩ := hQ112
  have N112 := Fr.app N0 Nq112
  have go112 : Goes p e below s₁ (G_holds4l m a1 dA dB) T112 (mkF m 4 #[.val (.ref a1), .val (.double dA), .second, .val (.double dB), .second] [(.int (4 : Int32))]) := fun tq kq => go111 tq (st112.trans kq)
  have go113 : Goes p e below s₁ (G_holds4l m a1 dA dB) T112 (mkF m 113 #[.val (.ref a1), .val (.double dA), .second, .val (.double dB), .second] [(.int (lcmpW A B))]) := fun tq kq => go112 tq (by
    show Steps p.tables e below (T112.setTop (mkF m 4 #[.val (.ref a1), .val (.double dA), .second, .val (.double dB), .second] [(.int (4 : Int32))])) _
    refine XS.tswIn X112.here hx rfl (pc0 := 4) (pc' := 110) (o := 106) rfl (hb hby d3_4) rfl (by decide) (by decide +kernel) (by decide) (by decide) ?_
    show Steps p.tables e below (T112.setTop (mkF m 110 #[.val (.ref a1), .val (.double dA), .second, .val (.double dB), .second] [])) _
    refine XS.dloadN X112.here hx rfl (hb hby d3_110) rfl ?_
    show Steps p.tables e below (T112.setTop (mkF m 111 #[.val (.ref a1), .val (.double dA), .second, .val (.double dB), .second] [(.double dA)])) _
    refine XS.dloadN X112.here hx rfl (hb hby d3_111) rfl ?_
    show Steps p.tables e below (T112.setTop (mkF m 112 #[.val (.ref a1), .val (.double dA), .second, .val (.double dB), .second] [(.double dB), (.double dA)])) _
    refine XS.dcmpS X112.here hx rfl (hb hby d3_112) rfl (show cmpValue (FP.dcmp dA dB) _ = lcmpW A B from (congrArg (fun z => cmpValue z _) (congr (congrArg FP.dcmp eA) eB)).trans (dcmpV_w hA hB _)) ?_
    exact kq)
  have go114 : Goes p e below s₁ (G_holds4l m a1 dA dB) T112 (mkF m 135 #[.val (.ref a1), .val (.double dA), .second, .val (.double dB), .second] [(.int (0 : Int32))]) := fun tq kq => go113 tq (by
    show Steps p.tables e below (T112.setTop (mkF m 113 #[.val (.ref a1), .val (.double dA), .second, .val (.double dB), .second] [(.int (lcmpW A B))])) _
    refine XS.ifYes X112.here hx rfl (pc0 := 113) (pc' := 120) rfl (hb hby d3_113) rfl ((if0 _ _).trans (flt (own_lcle hG)).2.2.2) (by decide) (by decide) ?_
    show Steps p.tables e below (T112.setTop (mkF m 120 #[.val (.ref a1), .val (.double dA), .second, .val (.double dB), .second] [])) _
    refine XS.iconst X112.here hx rfl (hb hby d3_120) ?_
    show Steps p.tables e below (T112.setTop (mkF m 121 #[.val (.ref a1), .val (.double dA), .second, .val (.double dB), .second] [(.int (0 : Int32))])) _
    refine XS.goto X112.here hx rfl (pc0 := 121) (pc' := 135) rfl (hb hby d3_121) (by decide) (by decide) ?_
    exact kq)
  obtain ⟨fs, hr, hrun, hended, hW, hsame⟩ := X112.leave (v := some (.int (0 : Int32))) (fun h => by rw [Bd.returns] at h; cases h)
  refine ⟨_, _, go114 _ ?_, hrun, hended, _, _, rfl, ?_, ⟨_, rfl⟩, hW, hsame.mono (by decide) (by decide)⟩
  · exact retN X112 hx (t := .boolean) Bd.returns (by simp) (hb hby d3_135) hr
  · show Q_holds4l Z a1 dA dB A B h0 n0 _ T112.heap _
    rw [eq112]
    exact ⟨rfl, N112, rfl⟩
abbrev G_holds4g (m : MethodId) (a1 : Addr) (dA : UInt64) (dB : UInt64) : JFrame := (entryFrame m #[(.ref a1), (.double dA), (.double dB)] 5)
theorem d3_116 : decode prog_107_method_7_code 116 = .ok (.iconst 1, 1) := by decide +kernel
theorem d3_117 : decode prog_107_method_7_code 117 = .ok (.goto 18, 3) := by decide +kernel
def Q_holds4g (Z : State) (a1 : Addr) (dA : UInt64) (dB : UInt64) (A B : Int64) (h0 : Heap) (n0 : Nat) (v : Option Value) (h : Heap) (L : List Loc) : Prop := v = some (.int (1 : Int32)) ∧ Fr n0 L ∧ h = h0
set_option maxRecDepth 65536 in
set_option maxHeartbeats 40000000 in
theorem holds4g (l : Launch) (Z : State) (a0 : Array Value) (hw : ∀ d ∈ tables_1, d.before a0 Z = true) (ws : List Jvm.Cond) (a1 : Addr) (dA : UInt64) (dB : UInt64) (A B : Int64) (h0 : Heap) (n0 : Nat) (Z0 : n0 ≤ h0.size) (Ex : Exa Z h0 a1 "com/example/heft/heft/model/XPath$Comparison") (F : Fld Z h0 a1 "java/lang/Enum" "ordinal" "I" (.int (4 : Int32))) (eA : dA = FP.l2d A) (eB : dB = FP.l2d B) (hA : B53 A) (hB : B53 B) (hE : ¬ (A = B)) (hL : ¬ (A < B)) (hG : B < A) :
    MetFree l (⟨"com/example/heft/heft/model/XPath$Comparison", "holds", "(DD)Z"⟩ : MethodName) (head1 (Jvm.Cond.code (⟨"com/example/heft/heft/model/XPath$Comparison", "holds", "(DD)Z"⟩ : MethodName) prog_107_method_7_code 5 (some .boolean) :: ws) ({ frames := 1, cells := 0, slots := 0, locals := 12 } : Room)) (fun a U => a = #[(.ref a1), (.double dA), (.double dB)] ∧ Z.Warmed39 U.vm ∧ U.heap = h0) (fun _ _ _ _ _ => True) (fun _ U o U' => ∃ v L, o = .returned v ∧ Q_holds4g Z a1 dA dB A B h0 n0 v U'.heap L ∧ FrameEnd U o U' L ({ frames := 1, cells := 0, slots := 0, locals := 12 } : Room).cells ({ frames := 1, cells := 0, slots := 0, locals := 12 } : Room).slots) := by
  refine MetFree.of_bodySF (plainFor_of_name pn_com_example_heft_heft_model_XPath_Comparison) hisR ?_
  intro p e s m args below meth c s₁ Bd hml0 hP hK
  obtain ⟨rfl, hZ, hh⟩ := hP
  have hx := Bd.exec
  have hby := Bd.bytes
  have hml : c.maxLocals = 5 := hml0
  have hown : s.vm.findClass "com/example/heft/heft/model/XPath$Comparison" = some m.cls := findClass_of_methodNamed Bd.named
  have hnm := (name_of_methodNamed Bd.named Bd.method).1
  have X0 : Stand p l e ({ frames := 1, cells := 0, slots := 0, locals := 12 } : Room) s m #[(.ref a1), (.double dA), (.double dB)] below meth c s₁ [] 0 0 := Stand.of_body Bd
  have e0 : s₁.heap = h0 := by rw [← hh, Bd.state]; rfl
  have N0 := Fr.nil n0
  have go0 : Goes p e below s₁ (G_holds4g m a1 dA dB) s₁ (mkF m 0 #[.val (.ref a1), .val (.double dA), .second, .val (.double dB), .second] []) := fun tq kq => castTop (by first | (simp [entryFrame, mkF, argsToLocals, Value.category, G_holds4g]; done) | rfl) kq
  have go115 : Goes p e below s₁ (G_holds4g m a1 dA dB) s₁ (mkF m 1 #[.val (.ref a1), .val (.double dA), .second, .val (.double dB), .second] [(.ref a1)]) := fun tq kq => go0 tq (by
    show Steps p.tables e below (s₁.setTop (mkF m 0 #[.val (.ref a1), .val (.double dA), .second, .val (.double dB), .second] [])) _
    refine XS.aloadN X0.here hx rfl (hb hby d3_0) rfl rfl ?_
    exact kq)
  obtain ⟨cq116, kq116, q116a, q116b, q116c⟩ := isOf hZ e0 Ex
  obtain ⟨vv116, _, ⟨T116, L116, k116, n116⟩, -, X116, ⟨Lc116, hQ116, l116, y116, z116⟩, st116⟩ := X0.virtualBackUp hx (x := (⟨"com/example/heft/heft/model/XPath$Comparison", "ordinal", "()I"⟩ : MethodName)) (y := (⟨"java/lang/Enum", "ordinal", "()I"⟩ : MethodName)) hown (mvT hZ (tw19 hw)) (mvT hZ (tw20 hw)) (mvT hZ (tw21 hw)) (by decide) (mvT hZ (tw23 hw)) (mvT hZ (tw22 hw)) (backOf (W := 0) (ordi l Z a0 hw [] a1 (4 : Int32) h0 n0 Z0 F) hZ (tw25 hw) (tw24 hw) (by decide) (by decide)) q116a q116c (g := (mkF m 1 #[.val (.ref a1), .val (.double dA), .second, .val (.double dB), .second] [(.ref a1)])) rfl (by rw [hml]; rfl) (Steps.refl _) (argsL := []) (rest := []) (lenOf pd_0 rfl) rfl (by show 2 * 0 + _ ≤ _; exact Nat.le_of_eq rfl) (hb hby d3_1) (fun _ _ => ⟨rfl, e0, (by decide : 0 + 0 ≤ _), (by decide : 0 + 0 ≤ _)⟩)
  dsimp only [Pt.U, Pt.locs, Pt.cells, Pt.slots] at X116 l116 y116 z116 st116 hQ116
  subst l116 y116 z116
  obtain ⟨rfl, Nq116, eq116⟩ := hQ116
  have N116 := Fr.app N0 Nq116
  have go116 : Goes p e below s₁ (G_holds4g m a1 dA dB) T116 (mkF m 4 #[.val (.ref a1), .val (.double dA), .second, .val (.double dB), .second] [(.int (4 : Int32))]) := fun tq kq => go115 tq (st116.trans kq)
  have go117 : Goes p e below s₁ (G_holds4g m a1 dA dB) T116 (mkF m 113 #[.val (.ref a1), .val (.double dA), .second, .val (.double dB), .second] [(.int (lcmpW A B))]) := fun tq kq => go116 tq (by
    show Steps p.tables e below (T116.setTop (mkF m 4 #[.val (.ref a1), .val (.double dA), .second, .val (.double dB), .second] [(.int (4 : Int32))])) _
    refine XS.tswIn X116.here hx rfl (pc0 := 4) (pc' := 110) (o := 106) rfl (hb hby d3_4) rfl (by decide) (by decide +kernel) (by decide) (by decide) ?_
    show Steps p.tables e below (T116.setTop (mkF m 110 #[.val (.ref a1), .val (.double dA), .second, .val (.double dB), .second] [])) _
    refine XS.dloadN X116.here hx rfl (hb hby d3_110) rfl ?_
    show Steps p.tables e below (T116.setTop (mkF m 111 #[.val (.ref a1), .val (.double dA), .second, .val (.double dB), .second] [(.double dA)])) _
    refine XS.dloadN X116.here hx rfl (hb hby d3_111) rfl ?_
    show Steps p.tables e below (T116.setTop (mkF m 112 #[.val (.ref a1), .val (.double dA), .second, .val (.double dB), .second] [(.double dB), (.double dA)])) _
    refine XS.dcmpS X116.here hx rfl (hb hby d3_112) rfl (show cmpValue (FP.dcmp dA dB) _ = lcmpW A B from (congrArg (fun z => cmpValue z _) (congr (congrArg FP.dcmp eA) eB)).trans (dcmpV_w hA hB _)) ?_
    exact kq)
  have go118 : Goes p e below s₁ (G_holds4g m a1 dA dB) T116 (mkF m 135 #[.val (.ref a1), .val (.double dA), .second, .val (.double dB), .second] [(.int (1 : Int32))]) := fun tq kq => go117 tq (by
    show Steps p.tables e below (T116.setTop (mkF m 113 #[.val (.ref a1), .val (.double dA), .second, .val (.double dB), .second] [(.int (lcmpW A B))])) _
    refine XS.ifNo X116.here hx rfl (hb hby d3_113) rfl ((if0 _ _).trans (tlt (own_lcgt hG)).2.2.2) ?_
    show Steps p.tables e below (T116.setTop (mkF m 116 #[.val (.ref a1), .val (.double dA), .second, .val (.double dB), .second] [])) _
    refine XS.iconst X116.here hx rfl (hb hby d3_116) ?_
    show Steps p.tables e below (T116.setTop (mkF m 117 #[.val (.ref a1), .val (.double dA), .second, .val (.double dB), .second] [(.int (1 : Int32))])) _
    refine XS.goto X116.here hx rfl (pc0 := 117) (pc' := 135) rfl (hb hby d3_117) (by decide) (by decide) ?_
    exact kq)
  obtain ⟨fs, hr, hrun, hended, hW, hsame⟩ := X116.leave (v := some (.int (1 : Int32))) (fun h => by rw [Bd.returns] at h; cases h)
  refine ⟨_, _, go118 _ ?_, hrun, hended, _, _, rfl, ?_, ⟨_, rfl⟩, hW, hsame.mono (by decide) (by decide)⟩
  · exact retN X116 hx (t := .boolean) Bd.returns (by simp) (hb hby d3_135) hr
  · show Q_holds4g Z a1 dA dB A B h0 n0 _ T116.heap _
    rw [eq116]
    exact ⟨rfl, N116, rfl⟩
abbrev G_swap4 (m : MethodId) (w4 : Addr) : JFrame := (entryFrame m #[(.ref w4)] 1)
theorem d5_66 : decode prog_107_method_5_code 66 = .ok (.getstatic 10, 3) := by decide +kernel
theorem d5_69 : decode prog_107_method_5_code 69 = .ok (.goto 10, 3) := by decide +kernel
def Q_swap4 (Z : State)  (w0 w1 w2 w3 w4 w5 : Addr) (h0 : Heap) (n0 : Nat) (v : Option Value) (h : Heap) (L : List Loc) : Prop := v = some (.ref w2) ∧ Fr n0 L ∧ h = h0
set_option maxRecDepth 65536 in
set_option maxHeartbeats 40000000 in
theorem swap4 (l : Launch) (Z : State) (a0 : Array Value) (hw : ∀ d ∈ tables_1, d.before a0 Z = true) (ws : List Jvm.Cond)  (w0 w1 w2 w3 w4 w5 : Addr) (h0 : Heap) (n0 : Nat) (Z0 : n0 ≤ h0.size) (S0 : Sta Z h0 "com/example/heft/heft/model/XPath$Comparison" "EQUAL" "Lcom/example/heft/heft/model/XPath$Comparison;" (.ref w0)) (S1 : Sta Z h0 "com/example/heft/heft/model/XPath$Comparison" "NOT_EQUAL" "Lcom/example/heft/heft/model/XPath$Comparison;" (.ref w1)) (S2 : Sta Z h0 "com/example/heft/heft/model/XPath$Comparison" "LESS" "Lcom/example/heft/heft/model/XPath$Comparison;" (.ref w2)) (S3 : Sta Z h0 "com/example/heft/heft/model/XPath$Comparison" "LESS_OR_EQUAL" "Lcom/example/heft/heft/model/XPath$Comparison;" (.ref w3)) (S4 : Sta Z h0 "com/example/heft/heft/model/XPath$Comparison" "GREATER" "Lcom/example/heft/heft/model/XPath$Comparison;" (.ref w4)) (S5 : Sta Z h0 "com/example/heft/heft/model/XPath$Comparison" "GREATER_OR_EQUAL" "Lcom/example/heft/heft/model/XPath$Comparison;" (.ref w5)) (Ex : Exa Z h0 w4 "com/example/heft/heft/model/XPath$Comparison") (F : Fld Z h0 w4 "java/lang/Enum" "ordinal" "I" (.int (4 : Int32))) :
    MetFree l (⟨"com/example/heft/heft/model/XPath$Comparison", "swapped", "()Lcom/example/heft/heft/model/XPath$Comparison;"⟩ : MethodName) (head1 (Jvm.Cond.code (⟨"com/example/heft/heft/model/XPath$Comparison", "swapped", "()Lcom/example/heft/heft/model/XPath$Comparison;"⟩ : MethodName) prog_107_method_5_code 1 (some (.object "com/example/heft/heft/model/XPath$Comparison")) :: ws) ({ frames := 1, cells := 0, slots := 0, locals := 12 } : Room)) (fun a U => a = #[(.ref w4)] ∧ Z.Warmed39 U.vm ∧ U.heap = h0) (fun _ _ _ _ _ => True) (fun _ U o U' => ∃ v L, o = .returned v ∧ Q_swap4 Z w0 w1 w2 w3 w4 w5 h0 n0 v U'.heap L ∧ FrameEnd U o U' L ({ frames := 1, cells := 0, slots := 0, locals := 12 } : Room).cells ({ frames := 1, cells := 0, slots := 0, locals := 12 } : Room).slots) := by
  refine MetFree.of_bodySF (plainFor_of_name pn_com_example_heft_heft_model_XPath_Comparison) hisR ?_
  intro p e s m args below meth c s₁ Bd hml0 hP hK
  obtain ⟨rfl, hZ, hh⟩ := hP
  have hx := Bd.exec
  have hby := Bd.bytes
  have hml : c.maxLocals = 1 := hml0
  have hown : s.vm.findClass "com/example/heft/heft/model/XPath$Comparison" = some m.cls := findClass_of_methodNamed Bd.named
  have hnm := (name_of_methodNamed Bd.named Bd.method).1
  have X0 : Stand p l e ({ frames := 1, cells := 0, slots := 0, locals := 12 } : Room) s m #[(.ref w4)] below meth c s₁ [] 0 0 := Stand.of_body Bd
  have e0 : s₁.heap = h0 := by rw [← hh, Bd.state]; rfl
  have N0 := Fr.nil n0
  have go0 : Goes p e below s₁ (G_swap4 m w4) s₁ (mkF m 0 #[.val (.ref w4)] []) := fun tq kq => castTop (by first | (simp [entryFrame, mkF, argsToLocals, Value.category, G_swap4]; done) | rfl) kq
  have go119 : Goes p e below s₁ (G_swap4 m w4) s₁ (mkF m 1 #[.val (.ref w4)] [(.ref w4)]) := fun tq kq => go0 tq (by
    show Steps p.tables e below (s₁.setTop (mkF m 0 #[.val (.ref w4)] [])) _
    refine XS.aloadN X0.here hx rfl (hb hby d5_0) rfl rfl ?_
    exact kq)
  obtain ⟨cq120, kq120, q120a, q120b, q120c⟩ := isOf hZ e0 Ex
  obtain ⟨vv120, _, ⟨T120, L120, k120, n120⟩, -, X120, ⟨Lc120, hQ120, l120, y120, z120⟩, st120⟩ := X0.virtualBackUp hx (x := (⟨"com/example/heft/heft/model/XPath$Comparison", "ordinal", "()I"⟩ : MethodName)) (y := (⟨"java/lang/Enum", "ordinal", "()I"⟩ : MethodName)) hown (mvT hZ (tw19 hw)) (mvT hZ (tw20 hw)) (mvT hZ (tw21 hw)) (by decide) (mvT hZ (tw23 hw)) (mvT hZ (tw22 hw)) (backOf (W := 0) (ordi l Z a0 hw [] w4 (4 : Int32) h0 n0 Z0 F) hZ (tw25 hw) (tw24 hw) (by decide) (by decide)) q120a q120c (g := (mkF m 1 #[.val (.ref w4)] [(.ref w4)])) rfl (by rw [hml]; rfl) (Steps.refl _) (argsL := []) (rest := []) (lenOf pd_0 rfl) rfl (by show 2 * 0 + _ ≤ _; exact Nat.le_of_eq rfl) (hb hby d5_1) (fun _ _ => ⟨rfl, e0, (by decide : 0 + 0 ≤ _), (by decide : 0 + 0 ≤ _)⟩)
  dsimp only [Pt.U, Pt.locs, Pt.cells, Pt.slots] at X120 l120 y120 z120 st120 hQ120
  subst l120 y120 z120
  obtain ⟨rfl, Nq120, eq120⟩ := hQ120
  have N120 := Fr.app N0 Nq120
  have go120 : Goes p e below s₁ (G_swap4 m w4) T120 (mkF m 4 #[.val (.ref w4)] [(.int (4 : Int32))]) := fun tq kq => go119 tq (st120.trans kq)
  have go121 : Goes p e below s₁ (G_swap4 m w4) T120 (mkF m 66 #[.val (.ref w4)] []) := fun tq kq => go120 tq (by
    show Steps p.tables e below (T120.setTop (mkF m 4 #[.val (.ref w4)] [(.int (4 : Int32))])) _
    refine XS.tswIn X120.here hx rfl (pc0 := 4) (pc' := 66) (o := 62) rfl (hb hby d5_4) rfl (by decide) (by decide +kernel) (by decide) (by decide) ?_
    exact kq)
  obtain ⟨T122, X122, e122, st122⟩ := getS2 X120 hx hZ hown (host := "") (Or.inl (tw40 hw)) Via.refl eq120 S2 (g := (mkF m 66 #[.val (.ref w4)] [])) rfl (hb hby d5_66)
  have go122 : Goes p e below s₁ (G_swap4 m w4) T122 (mkF m 69 #[.val (.ref w4)] [(.ref w2)]) := fun tq kq => go121 tq (st122 _ kq)
  have go123 : Goes p e below s₁ (G_swap4 m w4) T122 (mkF m 79 #[.val (.ref w4)] [(.ref w2)]) := fun tq kq => go122 tq (by
    show Steps p.tables e below (T122.setTop (mkF m 69 #[.val (.ref w4)] [(.ref w2)])) _
    refine XS.goto X122.here hx rfl (pc0 := 69) (pc' := 79) rfl (hb hby d5_69) (by decide) (by decide) ?_
    exact kq)
  obtain ⟨fs, hr, hrun, hended, hW, hsame⟩ := X122.leave (v := some (.ref w2)) (fun h => by rw [Bd.returns] at h; cases h)
  refine ⟨_, _, go123 _ ?_, hrun, hended, _, _, rfl, ?_, ⟨_, rfl⟩, hW, hsame.mono (by decide) (by decide)⟩
  · jvm_step X122.here [X122.here.top, hx, (hb hby d5_79), X122.method', Bd.returns, Value.isRef, FieldType.isReference]
    first | (intro acts; rw [hr _ acts rfl rfl rfl]) | rw [hr _ _ rfl rfl rfl]
    exact Steps.refl _
  · show Q_swap4 Z w0 w1 w2 w3 w4 w5 h0 n0 _ T122.heap _
    rw [e122]
    exact ⟨rfl, N120, rfl⟩
abbrev G_holds5l (m : MethodId) (a1 : Addr) (dA : UInt64) (dB : UInt64) : JFrame := (entryFrame m #[(.ref a1), (.double dA), (.double dB)] 5)
theorem d3_124 : decode prog_107_method_7_code 124 = .ok (.dload_n 1, 1) := by decide +kernel
theorem d3_125 : decode prog_107_method_7_code 125 = .ok (.dload_n 3, 1) := by decide +kernel
theorem d3_126 : decode prog_107_method_7_code 126 = .ok (.dcmp .l, 1) := by decide +kernel
theorem d3_127 : decode prog_107_method_7_code 127 = .ok (.ifCond .lt 7, 3) := by decide +kernel
theorem d3_134 : decode prog_107_method_7_code 134 = .ok (.iconst 0, 1) := by decide +kernel
def Q_holds5l (Z : State) (a1 : Addr) (dA : UInt64) (dB : UInt64) (A B : Int64) (h0 : Heap) (n0 : Nat) (v : Option Value) (h : Heap) (L : List Loc) : Prop := v = some (.int (0 : Int32)) ∧ Fr n0 L ∧ h = h0
set_option maxRecDepth 65536 in
set_option maxHeartbeats 40000000 in
theorem holds5l (l : Launch) (Z : State) (a0 : Array Value) (hw : ∀ d ∈ tables_1, d.before a0 Z = true) (ws : List Jvm.Cond) (a1 : Addr) (dA : UInt64) (dB : UInt64) (A B : Int64) (h0 : Heap) (n0 : Nat) (Z0 : n0 ≤ h0.size) (Ex : Exa Z h0 a1 "com/example/heft/heft/model/XPath$Comparison") (F : Fld Z h0 a1 "java/lang/Enum" "ordinal" "I" (.int (5 : Int32))) (eA : dA = FP.l2d A) (eB : dB = FP.l2d B) (hA : B53 A) (hB : B53 B) (hE : ¬ (A = B)) (hL : A < B) (hG : ¬ (B < A)) :
    MetFree l (⟨"com/example/heft/heft/model/XPath$Comparison", "holds", "(DD)Z"⟩ : MethodName) (head1 (Jvm.Cond.code (⟨"com/example/heft/heft/model/XPath$Comparison", "holds", "(DD)Z"⟩ : MethodName) prog_107_method_7_code 5 (some .boolean) :: ws) ({ frames := 1, cells := 0, slots := 0, locals := 12 } : Room)) (fun a U => a = #[(.ref a1), (.double dA), (.double dB)] ∧ Z.Warmed39 U.vm ∧ U.heap = h0) (fun _ _ _ _ _ => True) (fun _ U o U' => ∃ v L, o = .returned v ∧ Q_holds5l Z a1 dA dB A B h0 n0 v U'.heap L ∧ FrameEnd U o U' L ({ frames := 1, cells := 0, slots := 0, locals := 12 } : Room).cells ({ frames := 1, cells := 0, slots := 0, locals := 12 } : Room).slots) := by
  refine MetFree.of_bodySF (plainFor_of_name pn_com_example_heft_heft_model_XPath_Comparison) hisR ?_
  intro p e s m args below meth c s₁ Bd hml0 hP hK
  obtain ⟨rfl, hZ, hh⟩ := hP
  have hx := Bd.exec
  have hby := Bd.bytes
  have hml : c.maxLocals = 5 := hml0
  have hown : s.vm.findClass "com/example/heft/heft/model/XPath$Comparison" = some m.cls := findClass_of_methodNamed Bd.named
  have hnm := (name_of_methodNamed Bd.named Bd.method).1
  have X0 : Stand p l e ({ frames := 1, cells := 0, slots := 0, locals := 12 } : Room) s m #[(.ref a1), (.double dA), (.double dB)] below meth c s₁ [] 0 0 := Stand.of_body Bd
  have e0 : s₁.heap = h0 := by rw [← hh, Bd.state]; rfl
  have N0 := Fr.nil n0
  have go0 : Goes p e below s₁ (G_holds5l m a1 dA dB) s₁ (mkF m 0 #[.val (.ref a1), .val (.double dA), .second, .val (.double dB), .second] []) := fun tq kq => castTop (by first | (simp [entryFrame, mkF, argsToLocals, Value.category, G_holds5l]; done) | rfl) kq
  have go124 : Goes p e below s₁ (G_holds5l m a1 dA dB) s₁ (mkF m 1 #[.val (.ref a1), .val (.double dA), .second, .val (.double dB), .second] [(.ref a1)]) := fun tq kq => go0 tq (by
    show Steps p.tables e below (s₁.setTop (mkF m 0 #[.val (.ref a1), .val (.double dA), .second, .val (.double dB), .second] [])) _
    refine XS.aloadN X0.here hx rfl (hb hby d3_0) rfl rfl ?_
    exact kq)
  obtain ⟨cq125, kq125, q125a, q125b, q125c⟩ := isOf hZ e0 Ex
  obtain ⟨vv125, _, ⟨T125, L125, k125, n125⟩, -, X125, ⟨Lc125, hQ125, l125, y125, z125⟩, st125⟩ := X0.virtualBackUp hx (x := (⟨"com/example/heft/heft/model/XPath$Comparison", "ordinal", "()I"⟩ : MethodName)) (y := (⟨"java/lang/Enum", "ordinal", "()I"⟩ : MethodName)) hown (mvT hZ (tw19 hw)) (mvT hZ (tw20 hw)) (mvT hZ (tw21 hw)) (by decide) (mvT hZ (tw23 hw)) (mvT hZ (tw22 hw)) (backOf (W := 0) (ordi l Z a0 hw [] a1 (5 : Int32) h0 n0 Z0 F) hZ (tw25 hw) (tw24 hw) (by decide) (by decide)) q125a q125c (g := (mkF m 1 #[.val (.ref a1), .val (.double dA), .second, .val (.double dB), .second] [(.ref a1)])) rfl (by rw [hml]; rfl) (Steps.refl _) (argsL := []) (rest := []) (lenOf pd_0 rfl) rfl (by show 2 * 0 + _ ≤ _; exact Nat.le_of_eq rfl) (hb hby d3_1) (fun _ _ => ⟨rfl, e0, (by decide : 0 + 0 ≤ _), (by decide : 0 + 0 ≤ _)⟩)
  dsimp only [Pt.U, Pt.locs, Pt.cells, Pt.slots] at X125 l125 y125 z125 st125 hQ125
  subst l125 y125 z125
  obtain ⟨rfl, Nq125, eq125⟩ := hQ125
  have N125 := Fr.app N0 Nq125
  have go125 : Goes p e below s₁ (G_holds5l m a1 dA dB) T125 (mkF m 4 #[.val (.ref a1), .val (.double dA), .second, .val (.double dB), .second] [(.int (5 : Int32))]) := fun tq kq => go124 tq (st125.trans kq)
  have go126 : Goes p e below s₁ (G_holds5l m a1 dA dB) T125 (mkF m 127 #[.val (.ref a1), .val (.double dA), .second, .val (.double dB), .second] [(.int (lcmpW A B))]) := fun tq kq => go125 tq (by
    show Steps p.tables e below (T125.setTop (mkF m 4 #[.val (.ref a1), .val (.double dA), .second, .val (.double dB), .second] [(.int (5 : Int32))])) _
    refine XS.tswIn X125.here hx rfl (pc0 := 4) (pc' := 124) (o := 120) rfl (hb hby d3_4) rfl (by decide) (by decide +kernel) (by decide) (by decide) ?_
    show Steps p.tables e below (T125.setTop (mkF m 124 #[.val (.ref a1), .val (.double dA), .second, .val (.double dB), .second] [])) _
    refine XS.dloadN X125.here hx rfl (hb hby d3_124) rfl ?_
    show Steps p.tables e below (T125.setTop (mkF m 125 #[.val (.ref a1), .val (.double dA), .second, .val (.double dB), .second] [(.double dA)])) _
    refine XS.dloadN X125.here hx rfl (hb hby d3_125) rfl ?_
    show Steps p.tables e below (T125.setTop (mkF m 126 #[.val (.ref a1), .val (.double dA), .second, .val (.double dB), .second] [(.double dB), (.double dA)])) _
    refine XS.dcmpS X125.here hx rfl (hb hby d3_126) rfl (show cmpValue (FP.dcmp dA dB) _ = lcmpW A B from (congrArg (fun z => cmpValue z _) (congr (congrArg FP.dcmp eA) eB)).trans (dcmpV_w hA hB _)) ?_
    exact kq)
  have go127 : Goes p e below s₁ (G_holds5l m a1 dA dB) T125 (mkF m 135 #[.val (.ref a1), .val (.double dA), .second, .val (.double dB), .second] [(.int (0 : Int32))]) := fun tq kq => go126 tq (by
    show Steps p.tables e below (T125.setTop (mkF m 127 #[.val (.ref a1), .val (.double dA), .second, .val (.double dB), .second] [(.int (lcmpW A B))])) _
    refine XS.ifYes X125.here hx rfl (pc0 := 127) (pc' := 134) rfl (hb hby d3_127) rfl ((if0 _ _).trans (tlt (own_lclt hL)).1) (by decide) (by decide) ?_
    show Steps p.tables e below (T125.setTop (mkF m 134 #[.val (.ref a1), .val (.double dA), .second, .val (.double dB), .second] [])) _
    refine XS.iconst X125.here hx rfl (hb hby d3_134) ?_
    exact kq)
  obtain ⟨fs, hr, hrun, hended, hW, hsame⟩ := X125.leave (v := some (.int (0 : Int32))) (fun h => by rw [Bd.returns] at h; cases h)
  refine ⟨_, _, go127 _ ?_, hrun, hended, _, _, rfl, ?_, ⟨_, rfl⟩, hW, hsame.mono (by decide) (by decide)⟩
  · exact retN X125 hx (t := .boolean) Bd.returns (by simp) (hb hby d3_135) hr
  · show Q_holds5l Z a1 dA dB A B h0 n0 _ T125.heap _
    rw [eq125]
    exact ⟨rfl, N125, rfl⟩
abbrev G_holds5g (m : MethodId) (a1 : Addr) (dA : UInt64) (dB : UInt64) : JFrame := (entryFrame m #[(.ref a1), (.double dA), (.double dB)] 5)
theorem d3_130 : decode prog_107_method_7_code 130 = .ok (.iconst 1, 1) := by decide +kernel
theorem d3_131 : decode prog_107_method_7_code 131 = .ok (.goto 4, 3) := by decide +kernel
def Q_holds5g (Z : State) (a1 : Addr) (dA : UInt64) (dB : UInt64) (A B : Int64) (h0 : Heap) (n0 : Nat) (v : Option Value) (h : Heap) (L : List Loc) : Prop := v = some (.int (1 : Int32)) ∧ Fr n0 L ∧ h = h0
set_option maxRecDepth 65536 in
set_option maxHeartbeats 40000000 in
theorem holds5g (l : Launch) (Z : State) (a0 : Array Value) (hw : ∀ d ∈ tables_1, d.before a0 Z = true) (ws : List Jvm.Cond) (a1 : Addr) (dA : UInt64) (dB : UInt64) (A B : Int64) (h0 : Heap) (n0 : Nat) (Z0 : n0 ≤ h0.size) (Ex : Exa Z h0 a1 "com/example/heft/heft/model/XPath$Comparison") (F : Fld Z h0 a1 "java/lang/Enum" "ordinal" "I" (.int (5 : Int32))) (eA : dA = FP.l2d A) (eB : dB = FP.l2d B) (hA : B53 A) (hB : B53 B) (hE : ¬ (A = B)) (hL : ¬ (A < B)) (hG : B < A) :
    MetFree l (⟨"com/example/heft/heft/model/XPath$Comparison", "holds", "(DD)Z"⟩ : MethodName) (head1 (Jvm.Cond.code (⟨"com/example/heft/heft/model/XPath$Comparison", "holds", "(DD)Z"⟩ : MethodName) prog_107_method_7_code 5 (some .boolean) :: ws) ({ frames := 1, cells := 0, slots := 0, locals := 12 } : Room)) (fun a U => a = #[(.ref a1), (.double dA), (.double dB)] ∧ Z.Warmed39 U.vm ∧ U.heap = h0) (fun _ _ _ _ _ => True) (fun _ U o U' => ∃ v L, o = .returned v ∧ Q_holds5g Z a1 dA dB A B h0 n0 v U'.heap L ∧ FrameEnd U o U' L ({ frames := 1, cells := 0, slots := 0, locals := 12 } : Room).cells ({ frames := 1, cells := 0, slots := 0, locals := 12 } : Room).slots) := by
  refine MetFree.of_bodySF (plainFor_of_name pn_com_example_heft_heft_model_XPath_Comparison) hisR ?_
  intro p e s m args below meth c s₁ Bd hml0 hP hK
  obtain ⟨rfl, hZ, hh⟩ := hP
  have hx := Bd.exec
  have hby := Bd.bytes
  have hml : c.maxLocals = 5 := hml0
  have hown : s.vm.findClass "com/example/heft/heft/model/XPath$Comparison" = some m.cls := findClass_of_methodNamed Bd.named
  have hnm := (name_of_methodNamed Bd.named Bd.method).1
  have X0 : Stand p l e ({ frames := 1, cells := 0, slots := 0, locals := 12 } : Room) s m #[(.ref a1), (.double dA), (.double dB)] below meth c s₁ [] 0 0 := Stand.of_body Bd
  have e0 : s₁.heap = h0 := by rw [← hh, Bd.state]; rfl
  have N0 := Fr.nil n0
  have go0 : Goes p e below s₁ (G_holds5g m a1 dA dB) s₁ (mkF m 0 #[.val (.ref a1), .val (.double dA), .second, .val (.double dB), .second] []) := fun tq kq => castTop (by first | (simp [entryFrame, mkF, argsToLocals, Value.category, G_holds5g]; done) | rfl) kq
  have go128 : Goes p e below s₁ (G_holds5g m a1 dA dB) s₁ (mkF m 1 #[.val (.ref a1), .val (.double dA), .second, .val (.double dB), .second] [(.ref a1)]) := fun tq kq => go0 tq (by
    show Steps p.tables e below (s₁.setTop (mkF m 0 #[.val (.ref a1), .val (.double dA), .second, .val (.double dB), .second] [])) _
    refine XS.aloadN X0.here hx rfl (hb hby d3_0) rfl rfl ?_
    exact kq)
  obtain ⟨cq129, kq129, q129a, q129b, q129c⟩ := isOf hZ e0 Ex
  obtain ⟨vv129, _, ⟨T129, L129, k129, n129⟩, -, X129, ⟨Lc129, hQ129, l129, y129, z129⟩, st129⟩ := X0.virtualBackUp hx (x := (⟨"com/example/heft/heft/model/XPath$Comparison", "ordinal", "()I"⟩ : MethodName)) (y := (⟨"java/lang/Enum", "ordinal", "()I"⟩ : MethodName)) hown (mvT hZ (tw19 hw)) (mvT hZ (tw20 hw)) (mvT hZ (tw21 hw)) (by decide) (mvT hZ (tw23 hw)) (mvT hZ (tw22 hw)) (backOf (W := 0) (ordi l Z a0 hw [] a1 (5 : Int32) h0 n0 Z0 F) hZ (tw25 hw) (tw24 hw) (by decide) (by decide)) q129a q129c (g := (mkF m 1 #[.val (.ref a1), .val (.double dA), .second, .val (.double dB), .second] [(.ref a1)])) rfl (by rw [hml]; rfl) (Steps.refl _) (argsL := []) (rest := []) (lenOf pd_0 rfl) rfl (by show 2 * 0 + _ ≤ _; exact Nat.le_of_eq rfl) (hb hby d3_1) (fun _ _ => ⟨rfl, e0, (by decide : 0 + 0 ≤ _), (by decide : 0 + 0 ≤ _)⟩)
  dsimp only [Pt.U, Pt.locs, Pt.cells, Pt.slots] at X129 l129 y129 z129 st129 hQ129
  subst l129 y129 z129
  obtain ⟨rfl, Nq129, eq129⟩ := hQ129
  have N129 := Fr.app N0 Nq129
  have go129 : Goes p e below s₁ (G_holds5g m a1 dA dB) T129 (mkF m 4 #[.val (.ref a1), .val (.double dA), .second, .val (.double dB), .second] [(.int (5 : Int32))]) := fun tq kq => go128 tq (st129.trans kq)
  have go130 : Goes p e below s₁ (G_holds5g m a1 dA dB) T129 (mkF m 127 #[.val (.ref a1), .val (.double dA), .second, .val (.double dB), .second] [(.int (lcmpW A B))]) := fun tq kq => go129 tq (by
    show Steps p.tables e below (T129.setTop (mkF m 4 #[.val (.ref a1), .val (.double dA), .second, .val (.double dB), .second] [(.int (5 : Int32))])) _
    refine XS.tswIn X129.here hx rfl (pc0 := 4) (pc' := 124) (o := 120) rfl (hb hby d3_4) rfl (by decide) (by decide +kernel) (by decide) (by decide) ?_
    show Steps p.tables e below (T129.setTop (mkF m 124 #[.val (.ref a1), .val (.double dA), .second, .val (.double dB), .second] [])) _
    refine XS.dloadN X129.here hx rfl (hb hby d3_124) rfl ?_
    show Steps p.tables e below (T129.setTop (mkF m 125 #[.val (.ref a1), .val (.double dA), .second, .val (.double dB), .second] [(.double dA)])) _
    refine XS.dloadN X129.here hx rfl (hb hby d3_125) rfl ?_
    show Steps p.tables e below (T129.setTop (mkF m 126 #[.val (.ref a1), .val (.double dA), .second, .val (.double dB), .second] [(.double dB), (.double dA)])) _
    refine XS.dcmpS X129.here hx rfl (hb hby d3_126) rfl (show cmpValue (FP.dcmp dA dB) _ = lcmpW A B from (congrArg (fun z => cmpValue z _) (congr (congrArg FP.dcmp eA) eB)).trans (dcmpV_w hA hB _)) ?_
    exact kq)
  have go131 : Goes p e below s₁ (G_holds5g m a1 dA dB) T129 (mkF m 135 #[.val (.ref a1), .val (.double dA), .second, .val (.double dB), .second] [(.int (1 : Int32))]) := fun tq kq => go130 tq (by
    show Steps p.tables e below (T129.setTop (mkF m 127 #[.val (.ref a1), .val (.double dA), .second, .val (.double dB), .second] [(.int (lcmpW A B))])) _
    refine XS.ifNo X129.here hx rfl (hb hby d3_127) rfl ((if0 _ _).trans (flt (own_lcge hL)).1) ?_
    show Steps p.tables e below (T129.setTop (mkF m 130 #[.val (.ref a1), .val (.double dA), .second, .val (.double dB), .second] [])) _
    refine XS.iconst X129.here hx rfl (hb hby d3_130) ?_
    show Steps p.tables e below (T129.setTop (mkF m 131 #[.val (.ref a1), .val (.double dA), .second, .val (.double dB), .second] [(.int (1 : Int32))])) _
    refine XS.goto X129.here hx rfl (pc0 := 131) (pc' := 135) rfl (hb hby d3_131) (by decide) (by decide) ?_
    exact kq)
  obtain ⟨fs, hr, hrun, hended, hW, hsame⟩ := X129.leave (v := some (.int (1 : Int32))) (fun h => by rw [Bd.returns] at h; cases h)
  refine ⟨_, _, go131 _ ?_, hrun, hended, _, _, rfl, ?_, ⟨_, rfl⟩, hW, hsame.mono (by decide) (by decide)⟩
  · exact retN X129 hx (t := .boolean) Bd.returns (by simp) (hb hby d3_135) hr
  · show Q_holds5g Z a1 dA dB A B h0 n0 _ T129.heap _
    rw [eq129]
    exact ⟨rfl, N129, rfl⟩
abbrev G_swap5 (m : MethodId) (w5 : Addr) : JFrame := (entryFrame m #[(.ref w5)] 1)
theorem d5_72 : decode prog_107_method_5_code 72 = .ok (.getstatic 13, 3) := by decide +kernel
theorem d5_75 : decode prog_107_method_5_code 75 = .ok (.goto 4, 3) := by decide +kernel
def Q_swap5 (Z : State)  (w0 w1 w2 w3 w4 w5 : Addr) (h0 : Heap) (n0 : Nat) (v : Option Value) (h : Heap) (L : List Loc) : Prop := v = some (.ref w3) ∧ Fr n0 L ∧ h = h0
set_option maxRecDepth 65536 in
set_option maxHeartbeats 40000000 in
theorem swap5 (l : Launch) (Z : State) (a0 : Array Value) (hw : ∀ d ∈ tables_1, d.before a0 Z = true) (ws : List Jvm.Cond)  (w0 w1 w2 w3 w4 w5 : Addr) (h0 : Heap) (n0 : Nat) (Z0 : n0 ≤ h0.size) (S0 : Sta Z h0 "com/example/heft/heft/model/XPath$Comparison" "EQUAL" "Lcom/example/heft/heft/model/XPath$Comparison;" (.ref w0)) (S1 : Sta Z h0 "com/example/heft/heft/model/XPath$Comparison" "NOT_EQUAL" "Lcom/example/heft/heft/model/XPath$Comparison;" (.ref w1)) (S2 : Sta Z h0 "com/example/heft/heft/model/XPath$Comparison" "LESS" "Lcom/example/heft/heft/model/XPath$Comparison;" (.ref w2)) (S3 : Sta Z h0 "com/example/heft/heft/model/XPath$Comparison" "LESS_OR_EQUAL" "Lcom/example/heft/heft/model/XPath$Comparison;" (.ref w3)) (S4 : Sta Z h0 "com/example/heft/heft/model/XPath$Comparison" "GREATER" "Lcom/example/heft/heft/model/XPath$Comparison;" (.ref w4)) (S5 : Sta Z h0 "com/example/heft/heft/model/XPath$Comparison" "GREATER_OR_EQUAL" "Lcom/example/heft/heft/model/XPath$Comparison;" (.ref w5)) (Ex : Exa Z h0 w5 "com/example/heft/heft/model/XPath$Comparison") (F : Fld Z h0 w5 "java/lang/Enum" "ordinal" "I" (.int (5 : Int32))) :
    MetFree l (⟨"com/example/heft/heft/model/XPath$Comparison", "swapped", "()Lcom/example/heft/heft/model/XPath$Comparison;"⟩ : MethodName) (head1 (Jvm.Cond.code (⟨"com/example/heft/heft/model/XPath$Comparison", "swapped", "()Lcom/example/heft/heft/model/XPath$Comparison;"⟩ : MethodName) prog_107_method_5_code 1 (some (.object "com/example/heft/heft/model/XPath$Comparison")) :: ws) ({ frames := 1, cells := 0, slots := 0, locals := 12 } : Room)) (fun a U => a = #[(.ref w5)] ∧ Z.Warmed39 U.vm ∧ U.heap = h0) (fun _ _ _ _ _ => True) (fun _ U o U' => ∃ v L, o = .returned v ∧ Q_swap5 Z w0 w1 w2 w3 w4 w5 h0 n0 v U'.heap L ∧ FrameEnd U o U' L ({ frames := 1, cells := 0, slots := 0, locals := 12 } : Room).cells ({ frames := 1, cells := 0, slots := 0, locals := 12 } : Room).slots) := by
  refine MetFree.of_bodySF (plainFor_of_name pn_com_example_heft_heft_model_XPath_Comparison) hisR ?_
  intro p e s m args below meth c s₁ Bd hml0 hP hK
  obtain ⟨rfl, hZ, hh⟩ := hP
  have hx := Bd.exec
  have hby := Bd.bytes
  have hml : c.maxLocals = 1 := hml0
  have hown : s.vm.findClass "com/example/heft/heft/model/XPath$Comparison" = some m.cls := findClass_of_methodNamed Bd.named
  have hnm := (name_of_methodNamed Bd.named Bd.method).1
  have X0 : Stand p l e ({ frames := 1, cells := 0, slots := 0, locals := 12 } : Room) s m #[(.ref w5)] below meth c s₁ [] 0 0 := Stand.of_body Bd
  have e0 : s₁.heap = h0 := by rw [← hh, Bd.state]; rfl
  have N0 := Fr.nil n0
  have go0 : Goes p e below s₁ (G_swap5 m w5) s₁ (mkF m 0 #[.val (.ref w5)] []) := fun tq kq => castTop (by first | (simp [entryFrame, mkF, argsToLocals, Value.category, G_swap5]; done) | rfl) kq
  have go132 : Goes p e below s₁ (G_swap5 m w5) s₁ (mkF m 1 #[.val (.ref w5)] [(.ref w5)]) := fun tq kq => go0 tq (by
    show Steps p.tables e below (s₁.setTop (mkF m 0 #[.val (.ref w5)] [])) _
    refine XS.aloadN X0.here hx rfl (hb hby d5_0) rfl rfl ?_
    exact kq)
  obtain ⟨cq133, kq133, q133a, q133b, q133c⟩ := isOf hZ e0 Ex
  obtain ⟨vv133, _, ⟨T133, L133, k133, n133⟩, -, X133, ⟨Lc133, hQ133, l133, y133, z133⟩, st133⟩ := X0.virtualBackUp hx (x := (⟨"com/example/heft/heft/model/XPath$Comparison", "ordinal", "()I"⟩ : MethodName)) (y := (⟨"java/lang/Enum", "ordinal", "()I"⟩ : MethodName)) hown (mvT hZ (tw19 hw)) (mvT hZ (tw20 hw)) (mvT hZ (tw21 hw)) (by decide) (mvT hZ (tw23 hw)) (mvT hZ (tw22 hw)) (backOf (W := 0) (ordi l Z a0 hw [] w5 (5 : Int32) h0 n0 Z0 F) hZ (tw25 hw) (tw24 hw) (by decide) (by decide)) q133a q133c (g := (mkF m 1 #[.val (.ref w5)] [(.ref w5)])) rfl (by rw [hml]; rfl) (Steps.refl _) (argsL := []) (rest := []) (lenOf pd_0 rfl) rfl (by show 2 * 0 + _ ≤ _; exact Nat.le_of_eq rfl) (hb hby d5_1) (fun _ _ => ⟨rfl, e0, (by decide : 0 + 0 ≤ _), (by decide : 0 + 0 ≤ _)⟩)
  dsimp only [Pt.U, Pt.locs, Pt.cells, Pt.slots] at X133 l133 y133 z133 st133 hQ133
  subst l133 y133 z133
  obtain ⟨rfl, Nq133, eq133⟩ := hQ133
  have N133 := Fr.app N0 Nq133
  have go133 : Goes p e below s₁ (G_swap5 m w5) T133 (mkF m 4 #[.val (.ref w5)] [(.int (5 : Int32))]) := fun tq kq => go132 tq (st133.trans kq)
  have go134 : Goes p e below s₁ (G_swap5 m w5) T133 (mkF m 72 #[.val (.ref w5)] []) := fun tq kq => go133 tq (by
    show Steps p.tables e below (T133.setTop (mkF m 4 #[.val (.ref w5)] [(.int (5 : Int32))])) _
    refine XS.tswIn X133.here hx rfl (pc0 := 4) (pc' := 72) (o := 68) rfl (hb hby d5_4) rfl (by decide) (by decide +kernel) (by decide) (by decide) ?_
    exact kq)
  obtain ⟨T135, X135, e135, st135⟩ := getS2 X133 hx hZ hown (host := "") (Or.inl (tw44 hw)) Via.refl eq133 S3 (g := (mkF m 72 #[.val (.ref w5)] [])) rfl (hb hby d5_72)
  have go135 : Goes p e below s₁ (G_swap5 m w5) T135 (mkF m 75 #[.val (.ref w5)] [(.ref w3)]) := fun tq kq => go134 tq (st135 _ kq)
  have go136 : Goes p e below s₁ (G_swap5 m w5) T135 (mkF m 79 #[.val (.ref w5)] [(.ref w3)]) := fun tq kq => go135 tq (by
    show Steps p.tables e below (T135.setTop (mkF m 75 #[.val (.ref w5)] [(.ref w3)])) _
    refine XS.goto X135.here hx rfl (pc0 := 75) (pc' := 79) rfl (hb hby d5_75) (by decide) (by decide) ?_
    exact kq)
  obtain ⟨fs, hr, hrun, hended, hW, hsame⟩ := X135.leave (v := some (.ref w3)) (fun h => by rw [Bd.returns] at h; cases h)
  refine ⟨_, _, go136 _ ?_, hrun, hended, _, _, rfl, ?_, ⟨_, rfl⟩, hW, hsame.mono (by decide) (by decide)⟩
  · jvm_step X135.here [X135.here.top, hx, (hb hby d5_79), X135.method', Bd.returns, Value.isRef, FieldType.isReference]
    first | (intro acts; rw [hr _ acts rfl rfl rfl]) | rw [hr _ _ rfl rfl rfl]
    exact Steps.refl _
  · show Q_swap5 Z w0 w1 w2 w3 w4 w5 h0 n0 _ T135.heap _
    rw [e135]
    exact ⟨rfl, N133, rfl⟩
theorem own_k (b : Int32) : ((b &&& (2147483647 : Int32)) % (6 : Int32)) = 0 ∨ ((b &&& (2147483647 : Int32)) % (6 : Int32)) = 1 ∨ ((b &&& (2147483647 : Int32)) % (6 : Int32)) = 2 ∨ ((b &&& (2147483647 : Int32)) % (6 : Int32)) = 3 ∨ ((b &&& (2147483647 : Int32)) % (6 : Int32)) = 4 ∨ ((b &&& (2147483647 : Int32)) % (6 : Int32)) = 5 := by
  have h : 0 ≤ (b &&& (2147483647 : Int32)).toInt := by
    rw [Jvm.Kit.i32_mask b 2147483647 (k := 31) (by decide) (by decide)]; omega
  have e : ((b &&& (2147483647 : Int32)) % (6 : Int32)).toInt = (b &&& (2147483647 : Int32)).toInt % 6 := by
    rw [Jvm.Kit.i32_rem_nonneg h]; rfl
  have c : ∀ z : Int32, z.toInt = 0 ∨ z.toInt = 1 ∨ z.toInt = 2 ∨ z.toInt = 3 ∨ z.toInt = 4 ∨ z.toInt = 5 → z = 0 ∨ z = 1 ∨ z = 2 ∨ z = 3 ∨ z = 4 ∨ z = 5 := by
    intro z hz
    rcases hz with q | q | q | q | q | q
    · exact Or.inl (Int32.toInt_inj.mp q)
    · exact Or.inr (Or.inl (Int32.toInt_inj.mp q))
    · exact Or.inr (Or.inr (Or.inl (Int32.toInt_inj.mp q)))
    · exact Or.inr (Or.inr (Or.inr (Or.inl (Int32.toInt_inj.mp q))))
    · exact Or.inr (Or.inr (Or.inr (Or.inr (Or.inl (Int32.toInt_inj.mp q)))))
    · exact Or.inr (Or.inr (Or.inr (Or.inr (Or.inr (Int32.toInt_inj.mp q)))))
  exact c _ (by rw [e]; omega)
theorem own_b1 (x : Int32) : B53 x.toInt64 := by
  have e : x.toInt64.toInt = x.toInt := Int32.toInt_toInt64 x
  have h1 := Int32.toInt_lt x
  have h2 := Int32.le_toInt x
  exact ⟨by rw [e]; omega, by rw [e]; omega⟩
theorem own_o1 : B53 (1 : Int64) := ⟨by decide, by decide⟩
theorem own_sum (x : Int32) : (x.toInt64 + (1 : Int64)).toInt = x.toInt + 1 := by
  rw [add64 (own_b1 x) own_o1, Int32.toInt_toInt64]; rfl
theorem own_b2 (x : Int32) : B53 (x.toInt64 + (1 : Int64)) := by
  have h1 := Int32.toInt_lt x
  have h2 := Int32.le_toInt x
  exact ⟨by rw [own_sum]; omega, by rw [own_sum]; omega⟩
theorem own_lt (x : Int32) : x.toInt64 < x.toInt64 + (1 : Int64) := by rw [Int64.lt_iff_toInt_lt, own_sum, Int32.toInt_toInt64]; omega
theorem own_nlt (x : Int32) : ¬ (x.toInt64 + (1 : Int64) < x.toInt64) := by rw [Int64.lt_iff_toInt_lt, own_sum, Int32.toInt_toInt64]; omega
theorem own_ne (x : Int32) : ¬ (x.toInt64 = x.toInt64 + (1 : Int64)) := fun k => by
  have := congrArg Int64.toInt k
  rw [own_sum, Int32.toInt_toInt64] at this; omega
abbrev G_rm0 (m : MethodId) (p1 : Int32) (p2 : Int32) : JFrame := (entryFrame m #[(.int p1), (.int p2)] maxLocals)
theorem pd_1 : parseMethodDescriptor "(I)Lcom/example/heft/heft/model/XPath$Comparison;" = some ⟨[.int], some (.object "com/example/heft/heft/model/XPath$Comparison")⟩ := by decide +kernel
theorem pd_2 : parseMethodDescriptor "()Z" = some ⟨[], some .boolean⟩ := by decide +kernel
theorem pd_3 : parseMethodDescriptor "(DD)Z" = some ⟨[.double, .double], some .boolean⟩ := by decide +kernel
theorem pd_4 : parseMethodDescriptor "()Lcom/example/heft/heft/model/XPath$Comparison;" = some ⟨[], some (.object "com/example/heft/heft/model/XPath$Comparison")⟩ := by decide +kernel
def Q_rm0 (Z : State) (p1 : Int32) (p2 : Int32) (w0 w1 w2 w3 w4 w5 : Addr) (h0 : Heap) (n0 : Nat) (v : Option Value) (h : Heap) (L : List Loc) : Prop := v = some (.int (1 : Int32)) ∧ Fr n0 L
set_option maxRecDepth 65536 in
set_option maxHeartbeats 40000000 in
theorem rm0 (l : Launch) (Z : State) (a0 : Array Value) (hw : ∀ d ∈ tables_1, d.before a0 Z = true) (ws : List Jvm.Cond) (p1 : Int32) (p2 : Int32) (w0 w1 w2 w3 w4 w5 : Addr) (h0 : Heap) (n0 : Nat) (Z0 : n0 ≤ h0.size) (S0 : Sta Z h0 "com/example/heft/heft/model/XPath$Comparison" "EQUAL" "Lcom/example/heft/heft/model/XPath$Comparison;" (.ref w0)) (S1 : Sta Z h0 "com/example/heft/heft/model/XPath$Comparison" "NOT_EQUAL" "Lcom/example/heft/heft/model/XPath$Comparison;" (.ref w1)) (S2 : Sta Z h0 "com/example/heft/heft/model/XPath$Comparison" "LESS" "Lcom/example/heft/heft/model/XPath$Comparison;" (.ref w2)) (S3 : Sta Z h0 "com/example/heft/heft/model/XPath$Comparison" "LESS_OR_EQUAL" "Lcom/example/heft/heft/model/XPath$Comparison;" (.ref w3)) (S4 : Sta Z h0 "com/example/heft/heft/model/XPath$Comparison" "GREATER" "Lcom/example/heft/heft/model/XPath$Comparison;" (.ref w4)) (S5 : Sta Z h0 "com/example/heft/heft/model/XPath$Comparison" "GREATER_OR_EQUAL" "Lcom/example/heft/heft/model/XPath$Comparison;" (.ref w5)) (E0 : Exa Z h0 w0 "com/example/heft/heft/model/XPath$Comparison") (O0 : Fld Z h0 w0 "java/lang/Enum" "ordinal" "I" (.int (0 : Int32))) (E1 : Exa Z h0 w1 "com/example/heft/heft/model/XPath$Comparison") (O1 : Fld Z h0 w1 "java/lang/Enum" "ordinal" "I" (.int (1 : Int32))) (E2 : Exa Z h0 w2 "com/example/heft/heft/model/XPath$Comparison") (O2 : Fld Z h0 w2 "java/lang/Enum" "ordinal" "I" (.int (2 : Int32))) (E3 : Exa Z h0 w3 "com/example/heft/heft/model/XPath$Comparison") (O3 : Fld Z h0 w3 "java/lang/Enum" "ordinal" "I" (.int (3 : Int32))) (E4 : Exa Z h0 w4 "com/example/heft/heft/model/XPath$Comparison") (O4 : Fld Z h0 w4 "java/lang/Enum" "ordinal" "I" (.int (4 : Int32))) (E5 : Exa Z h0 w5 "com/example/heft/heft/model/XPath$Comparison") (O5 : Fld Z h0 w5 "java/lang/Enum" "ordinal" "I" (.int (5 : Int32))) (n10 : ¬ (w1 = w0)) (n20 : ¬ (w2 = w0)) (n30 : ¬ (w3 = w0)) (n40 : ¬ (w4 = w0)) (n50 : ¬ (w5 = w0)) (n21 : ¬ (w2 = w1)) (n31 : ¬ (w3 = w1)) (n41 : ¬ (w4 = w1)) (n51 : ¬ (w5 = w1)) (n42 : ¬ (w4 = w2)) (n53 : ¬ (w5 = w3)) :
    MetFree l x (head1 (Jvm.Cond.code x code maxLocals ret :: ws) room_1) (fun a U => a = #[(.int p1), (.int p2)] ∧ Z.Warmed39 U.vm ∧ U.heap = h0) (fun _ _ _ _ _ => True) (fun _ U o U' => ∃ v L, o = .returned v ∧ Q_rm0 Z p1 p2 w0 w1 w2 w3 w4 w5 h0 n0 v U'.heap L ∧ FrameEnd U o U' L room_1.cells room_1.slots) := by
  refine MetFree.of_bodySF (plainFor_of_name pn_com_example_heft_heft_model_ComparisonOrdersNumbersPinLaw) hisR ?_
  intro p e s m args below meth c s₁ Bd hml0 hP hK
  obtain ⟨rfl, hZ, hh⟩ := hP
  have hx := Bd.exec
  have hby := Bd.bytes
  have hml : c.maxLocals = 12 := hml0
  have hown : s.vm.findClass "com/example/heft/heft/model/ComparisonOrdersNumbersPinLaw" = some m.cls := findClass_of_methodNamed Bd.named
  have hnm := (name_of_methodNamed Bd.named Bd.method).1
  have X0 : Stand p l e room_1 s m #[(.int p1), (.int p2)] below meth c s₁ [] 0 0 := Stand.of_body Bd
  have e0 : s₁.heap = h0 := by rw [← hh, Bd.state]; rfl
  have N0 := Fr.nil n0
  have go0 : Goes p e below s₁ (G_rm0 m p1 p2) s₁ (mkF m 0 #[.val (.int p1), .val (.int p2), .unset, .unset, .unset, .unset, .unset, .unset, .unset, .unset, .unset, .unset] []) := fun tq kq => castTop (by first | (simp [entryFrame, mkF, argsToLocals, Value.category, G_rm0, maxLocals]; done) | rfl) kq
  have go137 : Goes p e below s₁ (G_rm0 m p1 p2) s₁ (mkF m 8 #[.val (.int p1), .val (.int p2), .val (.int ((p1 &&& (2147483647 : Int32)) % (6 : Int32))), .unset, .unset, .unset, .unset, .unset, .unset, .unset, .unset, .unset] []) := fun tq kq => go0 tq (by
    show Steps p.tables e below (s₁.setTop (mkF m 0 #[.val (.int p1), .val (.int p2), .unset, .unset, .unset, .unset, .unset, .unset, .unset, .unset, .unset, .unset] [])) _
    refine XS.iloadN X0.here hx rfl (hb hby at_0) rfl ?_
    show Steps p.tables e below (s₁.setTop (mkF m 1 #[.val (.int p1), .val (.int p2), .unset, .unset, .unset, .unset, .unset, .unset, .unset, .unset, .unset, .unset] [(.int p1)])) _
    refine X0.ldcInt hx hown (mvT hZ (tw0 hw)) (g := (mkF m 1 #[.val (.int p1), .val (.int p2), .unset, .unset, .unset, .unset, .unset, .unset, .unset, .unset, .unset, .unset] [(.int p1)])) rfl (hb hby at_1) _ ?_
    show Steps p.tables e below (s₁.setTop (mkF m 3 #[.val (.int p1), .val (.int p2), .unset, .unset, .unset, .unset, .unset, .unset, .unset, .unset, .unset, .unset] [(.int (2147483647 : Int32)), (.int p1)])) _
    refine XS.iand X0.here hx rfl (hb hby at_3) rfl ?_
    show Steps p.tables e below (s₁.setTop (mkF m 4 #[.val (.int p1), .val (.int p2), .unset, .unset, .unset, .unset, .unset, .unset, .unset, .unset, .unset, .unset] [(.int (p1 &&& (2147483647 : Int32)))])) _
    refine XS.bipush X0.here hx rfl (hb hby at_4) ?_
    show Steps p.tables e below (s₁.setTop (mkF m 6 #[.val (.int p1), .val (.int p2), .unset, .unset, .unset, .unset, .unset, .unset, .unset, .unset, .unset, .unset] [(.int (6 : Int32)), (.int (p1 &&& (2147483647 : Int32)))])) _
    refine iremM X0 hx rfl (hb hby at_6) rfl (by decide) ?_
    show Steps p.tables e below (s₁.setTop (mkF m 7 #[.val (.int p1), .val (.int p2), .unset, .unset, .unset, .unset, .unset, .unset, .unset, .unset, .unset, .unset] [(.int ((p1 &&& (2147483647 : Int32)) % (6 : Int32)))])) _
    refine XS.istoreN X0.here hx rfl (hb hby at_7) rfl (l' := #[.val (.int p1), .val (.int p2), .val (.int ((p1 &&& (2147483647 : Int32)) % (6 : Int32))), .unset, .unset, .unset, .unset, .unset, .unset, .unset, .unset, .unset]) rfl ?_
    exact kq)
  obtain ⟨kk, h_kk⟩ : ∃ z, z = ((p1 &&& (2147483647 : Int32)) % (6 : Int32)) := ⟨_, rfl⟩
  have hk := own_k p1
  rw [← h_kk] at go137 hk
  clear h_kk
  rcases hk with rfl | rfl | rfl | rfl | rfl | rfl
  · have go138 : Goes p e below s₁ (G_rm0 m p1 p2) s₁ (mkF m 9 #[.val (.int p1), .val (.int p2), .val (.int (0 : Int32)), .unset, .unset, .unset, .unset, .unset, .unset, .unset, .unset, .unset] [(.int (0 : Int32))]) := fun tq kq => go137 tq (by
      show Steps p.tables e below (s₁.setTop (mkF m 8 #[.val (.int p1), .val (.int p2), .val (.int (0 : Int32)), .unset, .unset, .unset, .unset, .unset, .unset, .unset, .unset, .unset] [])) _
      refine XS.iloadN X0.here hx rfl (hb hby at_8) rfl ?_
      exact kq)
    obtain ⟨vv139, _, ⟨T139, L139, k139, n139⟩, -, X139, ⟨Lc139, hQ139, l139, y139, z139⟩, st139⟩ := Jvm.LawKit.callS X0 hx (y := (⟨"com/example/heft/heft/model/ComparisonOrdersNumbersPinLaw", "pick", "(I)Lcom/example/heft/heft/model/XPath$Comparison;"⟩ : MethodName)) hown (mvT hZ (tw1 hw)) (mvT hZ (tw2 hw)) (mvT hZ (tw3 hw)) (mvT hZ (tw4 hw)) (by decide) (backOf (W := 0) (pick0 l Z a0 hw []  w0 w1 w2 w3 w4 w5 h0 n0 Z0 S0 S1 S2 S3 S4 S5) hZ (tw4 hw) (tw3 hw) (by decide) (by decide)) (g := (mkF m 9 #[.val (.int p1), .val (.int p2), .val (.int (0 : Int32)), .unset, .unset, .unset, .unset, .unset, .unset, .unset, .unset, .unset] [(.int (0 : Int32))])) rfl (by rw [hml]; rfl) (argsL := [(.int (0 : Int32))]) (rest := []) (lenOf pd_1 rfl) rfl (by show 2 * 0 + _ ≤ _; exact Nat.le_of_eq rfl) (hb hby at_9) (fun _ _ => ⟨rfl, e0, (by decide : 0 + 0 ≤ _), (by decide : 0 + 0 ≤ _)⟩)
    dsimp only [Pt.U, Pt.locs, Pt.cells, Pt.slots] at X139 l139 y139 z139 st139 hQ139
    subst l139 y139 z139
    obtain ⟨rfl, Nq139, eq139⟩ := hQ139
    have N139 := Fr.app N0 Nq139
    have go139 : Goes p e below s₁ (G_rm0 m p1 p2) T139 (mkF m 12 #[.val (.int p1), .val (.int p2), .val (.int (0 : Int32)), .unset, .unset, .unset, .unset, .unset, .unset, .unset, .unset, .unset] [(.ref w0)]) := fun tq kq => go138 tq (st139 _ kq)
    have go140 : Goes p e below s₁ (G_rm0 m p1 p2) T139 (mkF m 24 #[.val (.int p1), .val (.int p2), .val (.int (0 : Int32)), .val (.ref w0), .val (.double (FP.l2d (p2.toInt64))), .second, .val (.double (FP.l2d ((p2.toInt64) + (1 : Int64)))), .second, .unset, .unset, .unset, .unset] [(.ref w0)]) := fun tq kq => go139 tq (by
      show Steps p.tables e below (T139.setTop (mkF m 12 #[.val (.int p1), .val (.int p2), .val (.int (0 : Int32)), .unset, .unset, .unset, .unset, .unset, .unset, .unset, .unset, .unset] [(.ref w0)])) _
      refine XS.astoreN X139.here hx rfl (hb hby at_12) rfl rfl (l' := #[.val (.int p1), .val (.int p2), .val (.int (0 : Int32)), .val (.ref w0), .unset, .unset, .unset, .unset, .unset, .unset, .unset, .unset]) rfl ?_
      show Steps p.tables e below (T139.setTop (mkF m 13 #[.val (.int p1), .val (.int p2), .val (.int (0 : Int32)), .val (.ref w0), .unset, .unset, .unset, .unset, .unset, .unset, .unset, .unset] [])) _
      refine XS.iloadN X139.here hx rfl (hb hby at_13) rfl ?_
      show Steps p.tables e below (T139.setTop (mkF m 14 #[.val (.int p1), .val (.int p2), .val (.int (0 : Int32)), .val (.ref w0), .unset, .unset, .unset, .unset, .unset, .unset, .unset, .unset] [(.int p2)])) _
      refine XS.i2dS X139.here hx rfl (hb hby at_14) rfl (i2d_w _) ?_
      show Steps p.tables e below (T139.setTop (mkF m 15 #[.val (.int p1), .val (.int p2), .val (.int (0 : Int32)), .val (.ref w0), .unset, .unset, .unset, .unset, .unset, .unset, .unset, .unset] [(.double (FP.l2d (p2.toInt64)))])) _
      refine XS.dstore X139.here hx rfl (hb hby at_15) rfl (l' := #[.val (.int p1), .val (.int p2), .val (.int (0 : Int32)), .val (.ref w0), .val (.double (FP.l2d (p2.toInt64))), .second, .unset, .unset, .unset, .unset, .unset, .unset]) rfl ?_
      show Steps p.tables e below (T139.setTop (mkF m 17 #[.val (.int p1), .val (.int p2), .val (.int (0 : Int32)), .val (.ref w0), .val (.double (FP.l2d (p2.toInt64))), .second, .unset, .unset, .unset, .unset, .unset, .unset] [])) _
      refine XS.dload X139.here hx rfl (hb hby at_17) rfl ?_
      show Steps p.tables e below (T139.setTop (mkF m 19 #[.val (.int p1), .val (.int p2), .val (.int (0 : Int32)), .val (.ref w0), .val (.double (FP.l2d (p2.toInt64))), .second, .unset, .unset, .unset, .unset, .unset, .unset] [(.double (FP.l2d (p2.toInt64)))])) _
      refine XS.dconst1 X139.here hx rfl (hb hby at_19) own_d1 ?_
      show Steps p.tables e below (T139.setTop (mkF m 20 #[.val (.int p1), .val (.int p2), .val (.int (0 : Int32)), .val (.ref w0), .val (.double (FP.l2d (p2.toInt64))), .second, .unset, .unset, .unset, .unset, .unset, .unset] [(.double (FP.l2d (1 : Int64))), (.double (FP.l2d (p2.toInt64)))])) _
      refine XS.daddS X139.here hx rfl (hb hby at_20) rfl (nn_w (dadd_w (own_b1 p2) own_o1)) (dadd_w (own_b1 p2) own_o1) ?_
      show Steps p.tables e below (T139.setTop (mkF m 21 #[.val (.int p1), .val (.int p2), .val (.int (0 : Int32)), .val (.ref w0), .val (.double (FP.l2d (p2.toInt64))), .second, .unset, .unset, .unset, .unset, .unset, .unset] [(.double (FP.l2d ((p2.toInt64) + (1 : Int64))))])) _
      refine XS.dstore X139.here hx rfl (hb hby at_21) rfl (l' := #[.val (.int p1), .val (.int p2), .val (.int (0 : Int32)), .val (.ref w0), .val (.double (FP.l2d (p2.toInt64))), .second, .val (.double (FP.l2d ((p2.toInt64) + (1 : Int64)))), .second, .unset, .unset, .unset, .unset]) rfl ?_
      show Steps p.tables e below (T139.setTop (mkF m 23 #[.val (.int p1), .val (.int p2), .val (.int (0 : Int32)), .val (.ref w0), .val (.double (FP.l2d (p2.toInt64))), .second, .val (.double (FP.l2d ((p2.toInt64) + (1 : Int64)))), .second, .unset, .unset, .unset, .unset] [])) _
      refine XS.aloadN X139.here hx rfl (hb hby at_23) rfl rfl ?_
      exact kq)
    obtain ⟨cq141, kq141, q141a, q141b, q141c⟩ := isOf hZ eq139 E0
    obtain ⟨vv141, _, ⟨T141, L141, k141, n141⟩, -, X141, ⟨Lc141, hQ141, l141, y141, z141⟩, st141⟩ := X139.virtualBack hx (y := (⟨"com/example/heft/heft/model/XPath$Comparison", "ordersNumbers", "()Z"⟩ : MethodName)) (z := (⟨"com/example/heft/heft/model/XPath$Comparison", "ordersNumbers", "()Z"⟩ : MethodName)) hown (mvT hZ (tw8 hw)) (mvT hZ (tw9 hw)) (notFace_of_selects (args := #[]) (mvT hZ (tw11 hw))) (mvT hZ (tw11 hw)) (mvT hZ (tw10 hw)) (by decide) (backOf (W := 0) (ord0 l Z a0 hw []  w0 w1 w2 w3 w4 w5 h0 n0 Z0 S0 S1 S2 S3 S4 S5) hZ (tw12 hw) (tw6 hw) (by decide) (by decide)) q141a q141c (g := (mkF m 24 #[.val (.int p1), .val (.int p2), .val (.int (0 : Int32)), .val (.ref w0), .val (.double (FP.l2d (p2.toInt64))), .second, .val (.double (FP.l2d ((p2.toInt64) + (1 : Int64)))), .second, .unset, .unset, .unset, .unset] [(.ref w0)])) rfl (by rw [hml]; rfl) (Steps.refl _) (argsL := []) (rest := []) (lenOf pd_2 rfl) rfl (by show 2 * 0 + _ ≤ _; exact Nat.le_of_eq rfl) (hb hby at_24) (fun _ _ => ⟨rfl, eq139, (by decide : 0 + 0 ≤ _), (by decide : 0 + 0 ≤ _)⟩)
    dsimp only [Pt.U, Pt.locs, Pt.cells, Pt.slots] at X141 l141 y141 z141 st141 hQ141
    subst l141 y141 z141
    obtain ⟨rfl, Nq141, eq141⟩ := hQ141
    have N141 := Fr.app N139 Nq141
    have go141 : Goes p e below s₁ (G_rm0 m p1 p2) T141 (mkF m 27 #[.val (.int p1), .val (.int p2), .val (.int (0 : Int32)), .val (.ref w0), .val (.double (FP.l2d (p2.toInt64))), .second, .val (.double (FP.l2d ((p2.toInt64) + (1 : Int64)))), .second, .unset, .unset, .unset, .unset] [(.int (0 : Int32))]) := fun tq kq => go140 tq (st141.trans kq)
    have go142 : Goes p e below s₁ (G_rm0 m p1 p2) T141 (mkF m 34 #[.val (.int p1), .val (.int p2), .val (.int (0 : Int32)), .val (.ref w0), .val (.double (FP.l2d (p2.toInt64))), .second, .val (.double (FP.l2d ((p2.toInt64) + (1 : Int64)))), .second, .val (.int (0 : Int32)), .unset, .unset, .unset] [(.double (FP.l2d ((p2.toInt64) + (1 : Int64)))), (.double (FP.l2d (p2.toInt64))), (.ref w0)]) := fun tq kq => go141 tq (by
      show Steps p.tables e below (T141.setTop (mkF m 27 #[.val (.int p1), .val (.int p2), .val (.int (0 : Int32)), .val (.ref w0), .val (.double (FP.l2d (p2.toInt64))), .second, .val (.double (FP.l2d ((p2.toInt64) + (1 : Int64)))), .second, .unset, .unset, .unset, .unset] [(.int (0 : Int32))])) _
      refine XS.istore X141.here hx rfl (hb hby at_27) rfl (l' := #[.val (.int p1), .val (.int p2), .val (.int (0 : Int32)), .val (.ref w0), .val (.double (FP.l2d (p2.toInt64))), .second, .val (.double (FP.l2d ((p2.toInt64) + (1 : Int64)))), .second, .val (.int (0 : Int32)), .unset, .unset, .unset]) rfl ?_
      show Steps p.tables e below (T141.setTop (mkF m 29 #[.val (.int p1), .val (.int p2), .val (.int (0 : Int32)), .val (.ref w0), .val (.double (FP.l2d (p2.toInt64))), .second, .val (.double (FP.l2d ((p2.toInt64) + (1 : Int64)))), .second, .val (.int (0 : Int32)), .unset, .unset, .unset] [])) _
      refine XS.aloadN X141.here hx rfl (hb hby at_29) rfl rfl ?_
      show Steps p.tables e below (T141.setTop (mkF m 30 #[.val (.int p1), .val (.int p2), .val (.int (0 : Int32)), .val (.ref w0), .val (.double (FP.l2d (p2.toInt64))), .second, .val (.double (FP.l2d ((p2.toInt64) + (1 : Int64)))), .second, .val (.int (0 : Int32)), .unset, .unset, .unset] [(.ref w0)])) _
      refine XS.dload X141.here hx rfl (hb hby at_30) rfl ?_
      show Steps p.tables e below (T141.setTop (mkF m 32 #[.val (.int p1), .val (.int p2), .val (.int (0 : Int32)), .val (.ref w0), .val (.double (FP.l2d (p2.toInt64))), .second, .val (.double (FP.l2d ((p2.toInt64) + (1 : Int64)))), .second, .val (.int (0 : Int32)), .unset, .unset, .unset] [(.double (FP.l2d (p2.toInt64))), (.ref w0)])) _
      refine XS.dload X141.here hx rfl (hb hby at_32) rfl ?_
      exact kq)
    obtain ⟨cq143, kq143, q143a, q143b, q143c⟩ := isOf hZ eq141 E0
    obtain ⟨vv143, _, ⟨T143, L143, k143, n143⟩, -, X143, ⟨Lc143, hQ143, l143, y143, z143⟩, st143⟩ := X141.virtualBack hx (y := (⟨"com/example/heft/heft/model/XPath$Comparison", "holds", "(DD)Z"⟩ : MethodName)) (z := (⟨"com/example/heft/heft/model/XPath$Comparison", "holds", "(DD)Z"⟩ : MethodName)) hown (mvT hZ (tw14 hw)) (mvT hZ (tw15 hw)) (notFace_of_selects (args := #[]) (mvT hZ (tw17 hw))) (mvT hZ (tw17 hw)) (mvT hZ (tw16 hw)) (by decide) (backOf (W := 0) (holds0l l Z a0 hw [] w0 (FP.l2d (p2.toInt64)) (FP.l2d ((p2.toInt64) + (1 : Int64))) (p2.toInt64) ((p2.toInt64) + (1 : Int64)) h0 n0 Z0 E0 O0 rfl rfl (own_b1 p2) (own_b2 p2) (own_ne p2) (own_lt p2) (own_nlt p2)) hZ (tw18 hw) (tw6 hw) (by decide) (by decide)) q143a q143c (g := (mkF m 34 #[.val (.int p1), .val (.int p2), .val (.int (0 : Int32)), .val (.ref w0), .val (.double (FP.l2d (p2.toInt64))), .second, .val (.double (FP.l2d ((p2.toInt64) + (1 : Int64)))), .second, .val (.int (0 : Int32)), .unset, .unset, .unset] [(.double (FP.l2d ((p2.toInt64) + (1 : Int64)))), (.double (FP.l2d (p2.toInt64))), (.ref w0)])) rfl (by rw [hml]; rfl) (Steps.refl _) (argsL := [(.double (FP.l2d (p2.toInt64))), (.double (FP.l2d ((p2.toInt64) + (1 : Int64))))]) (rest := []) (lenOf pd_3 rfl) rfl (by show 2 * 0 + _ ≤ _; exact Nat.le_of_eq rfl) (hb hby at_34) (fun _ _ => ⟨rfl, eq141, (by decide : 0 + 0 ≤ _), (by decide : 0 + 0 ≤ _)⟩)
    dsimp only [Pt.U, Pt.locs, Pt.cells, Pt.slots] at X143 l143 y143 z143 st143 hQ143
    subst l143 y143 z143
    obtain ⟨rfl, Nq143, eq143⟩ := hQ143
    have N143 := Fr.app N141 Nq143
    have go143 : Goes p e below s₁ (G_rm0 m p1 p2) T143 (mkF m 37 #[.val (.int p1), .val (.int p2), .val (.int (0 : Int32)), .val (.ref w0), .val (.double (FP.l2d (p2.toInt64))), .second, .val (.double (FP.l2d ((p2.toInt64) + (1 : Int64)))), .second, .val (.int (0 : Int32)), .unset, .unset, .unset] [(.int (0 : Int32))]) := fun tq kq => go142 tq (st143.trans kq)
    have go144 : Goes p e below s₁ (G_rm0 m p1 p2) T143 (mkF m 42 #[.val (.int p1), .val (.int p2), .val (.int (0 : Int32)), .val (.ref w0), .val (.double (FP.l2d (p2.toInt64))), .second, .val (.double (FP.l2d ((p2.toInt64) + (1 : Int64)))), .second, .val (.int (0 : Int32)), .unset, .unset, .unset] [(.double (FP.l2d (p2.toInt64))), (.double (FP.l2d ((p2.toInt64) + (1 : Int64)))), (.ref w0), (.int (0 : Int32))]) := fun tq kq => go143 tq (by
      show Steps p.tables e below (T143.setTop (mkF m 37 #[.val (.int p1), .val (.int p2), .val (.int (0 : Int32)), .val (.ref w0), .val (.double (FP.l2d (p2.toInt64))), .second, .val (.double (FP.l2d ((p2.toInt64) + (1 : Int64)))), .second, .val (.int (0 : Int32)), .unset, .unset, .unset] [(.int (0 : Int32))])) _
      refine XS.aloadN X143.here hx rfl (hb hby at_37) rfl rfl ?_
      show Steps p.tables e below (T143.setTop (mkF m 38 #[.val (.int p1), .val (.int p2), .val (.int (0 : Int32)), .val (.ref w0), .val (.double (FP.l2d (p2.toInt64))), .second, .val (.double (FP.l2d ((p2.toInt64) + (1 : Int64)))), .second, .val (.int (0 : Int32)), .unset, .unset, .unset] [(.ref w0), (.int (0 : Int32))])) _
      refine XS.dload X143.here hx rfl (hb hby at_38) rfl ?_
      show Steps p.tables e below (T143.setTop (mkF m 40 #[.val (.int p1), .val (.int p2), .val (.int (0 : Int32)), .val (.ref w0), .val (.double (FP.l2d (p2.toInt64))), .second, .val (.double (FP.l2d ((p2.toInt64) + (1 : Int64)))), .second, .val (.int (0 : Int32)), .unset, .unset, .unset] [(.double (FP.l2d ((p2.toInt64) + (1 : Int64)))), (.ref w0), (.int (0 : Int32))])) _
      refine XS.dload X143.here hx rfl (hb hby at_40) rfl ?_
      exact kq)
    obtain ⟨cq145, kq145, q145a, q145b, q145c⟩ := isOf hZ eq143 E0
    obtain ⟨vv145, _, ⟨T145, L145, k145, n145⟩, -, X145, ⟨Lc145, hQ145, l145, y145, z145⟩, st145⟩ := X143.virtualBack hx (y := (⟨"com/example/heft/heft/model/XPath$Comparison", "holds", "(DD)Z"⟩ : MethodName)) (z := (⟨"com/example/heft/heft/model/XPath$Comparison", "holds", "(DD)Z"⟩ : MethodName)) hown (mvT hZ (tw14 hw)) (mvT hZ (tw15 hw)) (notFace_of_selects (args := #[]) (mvT hZ (tw17 hw))) (mvT hZ (tw17 hw)) (mvT hZ (tw16 hw)) (by decide) (backOf (W := 1) (holds0g l Z a0 hw [] w0 (FP.l2d ((p2.toInt64) + (1 : Int64))) (FP.l2d (p2.toInt64)) ((p2.toInt64) + (1 : Int64)) (p2.toInt64) h0 n0 Z0 E0 O0 rfl rfl (own_b2 p2) (own_b1 p2) (fun q => own_ne p2 q.symm) (own_nlt p2) (own_lt p2)) hZ (tw18 hw) (tw6 hw) (by decide) (by decide)) q145a q145c (g := (mkF m 42 #[.val (.int p1), .val (.int p2), .val (.int (0 : Int32)), .val (.ref w0), .val (.double (FP.l2d (p2.toInt64))), .second, .val (.double (FP.l2d ((p2.toInt64) + (1 : Int64)))), .second, .val (.int (0 : Int32)), .unset, .unset, .unset] [(.double (FP.l2d (p2.toInt64))), (.double (FP.l2d ((p2.toInt64) + (1 : Int64)))), (.ref w0), (.int (0 : Int32))])) rfl (by rw [hml]; rfl) (Steps.refl _) (argsL := [(.double (FP.l2d ((p2.toInt64) + (1 : Int64)))), (.double (FP.l2d (p2.toInt64)))]) (rest := [(.int (0 : Int32))]) (lenOf pd_3 rfl) rfl (by show 2 * 0 + _ ≤ _; exact Nat.le_of_eq rfl) (hb hby at_42) (fun _ _ => ⟨rfl, eq143, (by decide : 0 + 0 ≤ _), (by decide : 0 + 0 ≤ _)⟩)
    dsimp only [Pt.U, Pt.locs, Pt.cells, Pt.slots] at X145 l145 y145 z145 st145 hQ145
    subst l145 y145 z145
    obtain ⟨rfl, Nq145, eq145⟩ := hQ145
    have N145 := Fr.app N143 Nq145
    have go145 : Goes p e below s₁ (G_rm0 m p1 p2) T145 (mkF m 45 #[.val (.int p1), .val (.int p2), .val (.int (0 : Int32)), .val (.ref w0), .val (.double (FP.l2d (p2.toInt64))), .second, .val (.double (FP.l2d ((p2.toInt64) + (1 : Int64)))), .second, .val (.int (0 : Int32)), .unset, .unset, .unset] [(.int (0 : Int32)), (.int (0 : Int32))]) := fun tq kq => go144 tq (st145.trans kq)
    have go146 : Goes p e below s₁ (G_rm0 m p1 p2) T145 (mkF m 56 #[.val (.int p1), .val (.int p2), .val (.int (0 : Int32)), .val (.ref w0), .val (.double (FP.l2d (p2.toInt64))), .second, .val (.double (FP.l2d ((p2.toInt64) + (1 : Int64)))), .second, .val (.int (0 : Int32)), .val (.int (0 : Int32)), .unset, .unset] [(.ref w0)]) := fun tq kq => go145 tq (by
      show Steps p.tables e below (T145.setTop (mkF m 45 #[.val (.int p1), .val (.int p2), .val (.int (0 : Int32)), .val (.ref w0), .val (.double (FP.l2d (p2.toInt64))), .second, .val (.double (FP.l2d ((p2.toInt64) + (1 : Int64)))), .second, .val (.int (0 : Int32)), .unset, .unset, .unset] [(.int (0 : Int32)), (.int (0 : Int32))])) _
      refine XS.icmpYes X145.here hx rfl (pc0 := 45) (pc' := 52) rfl (hb hby at_45) rfl (teq (by decide)).1 (by decide) (by decide) ?_
      show Steps p.tables e below (T145.setTop (mkF m 52 #[.val (.int p1), .val (.int p2), .val (.int (0 : Int32)), .val (.ref w0), .val (.double (FP.l2d (p2.toInt64))), .second, .val (.double (FP.l2d ((p2.toInt64) + (1 : Int64)))), .second, .val (.int (0 : Int32)), .unset, .unset, .unset] [])) _
      refine XS.iconst X145.here hx rfl (hb hby at_52) ?_
      show Steps p.tables e below (T145.setTop (mkF m 53 #[.val (.int p1), .val (.int p2), .val (.int (0 : Int32)), .val (.ref w0), .val (.double (FP.l2d (p2.toInt64))), .second, .val (.double (FP.l2d ((p2.toInt64) + (1 : Int64)))), .second, .val (.int (0 : Int32)), .unset, .unset, .unset] [(.int (0 : Int32))])) _
      refine XS.istore X145.here hx rfl (hb hby at_53) rfl (l' := #[.val (.int p1), .val (.int p2), .val (.int (0 : Int32)), .val (.ref w0), .val (.double (FP.l2d (p2.toInt64))), .second, .val (.double (FP.l2d ((p2.toInt64) + (1 : Int64)))), .second, .val (.int (0 : Int32)), .val (.int (0 : Int32)), .unset, .unset]) rfl ?_
      show Steps p.tables e below (T145.setTop (mkF m 55 #[.val (.int p1), .val (.int p2), .val (.int (0 : Int32)), .val (.ref w0), .val (.double (FP.l2d (p2.toInt64))), .second, .val (.double (FP.l2d ((p2.toInt64) + (1 : Int64)))), .second, .val (.int (0 : Int32)), .val (.int (0 : Int32)), .unset, .unset] [])) _
      refine XS.aloadN X145.here hx rfl (hb hby at_55) rfl rfl ?_
      exact kq)
    obtain ⟨cq147, kq147, q147a, q147b, q147c⟩ := isOf hZ eq145 E0
    obtain ⟨vv147, _, ⟨T147, L147, k147, n147⟩, -, X147, ⟨Lc147, hQ147, l147, y147, z147⟩, st147⟩ := X145.virtualBack hx (y := (⟨"com/example/heft/heft/model/XPath$Comparison", "swapped", "()Lcom/example/heft/heft/model/XPath$Comparison;"⟩ : MethodName)) (z := (⟨"com/example/heft/heft/model/XPath$Comparison", "swapped", "()Lcom/example/heft/heft/model/XPath$Comparison;"⟩ : MethodName)) hown (mvT hZ (tw28 hw)) (mvT hZ (tw29 hw)) (notFace_of_selects (args := #[]) (mvT hZ (tw31 hw))) (mvT hZ (tw31 hw)) (mvT hZ (tw30 hw)) (by decide) (backOf (W := 0) (swap0 l Z a0 hw []  w0 w1 w2 w3 w4 w5 h0 n0 Z0 S0 S1 S2 S3 S4 S5 E0 O0) hZ (tw32 hw) (tw6 hw) (by decide) (by decide)) q147a q147c (g := (mkF m 56 #[.val (.int p1), .val (.int p2), .val (.int (0 : Int32)), .val (.ref w0), .val (.double (FP.l2d (p2.toInt64))), .second, .val (.double (FP.l2d ((p2.toInt64) + (1 : Int64)))), .second, .val (.int (0 : Int32)), .val (.int (0 : Int32)), .unset, .unset] [(.ref w0)])) rfl (by rw [hml]; rfl) (Steps.refl _) (argsL := []) (rest := []) (lenOf pd_4 rfl) rfl (by show 2 * 0 + _ ≤ _; exact Nat.le_of_eq rfl) (hb hby at_56) (fun _ _ => ⟨rfl, eq145, (by decide : 0 + 0 ≤ _), (by decide : 0 + 0 ≤ _)⟩)
    dsimp only [Pt.U, Pt.locs, Pt.cells, Pt.slots] at X147 l147 y147 z147 st147 hQ147
    subst l147 y147 z147
    obtain ⟨rfl, Nq147, eq147⟩ := hQ147
    have N147 := Fr.app N145 Nq147
    have go147 : Goes p e below s₁ (G_rm0 m p1 p2) T147 (mkF m 59 #[.val (.int p1), .val (.int p2), .val (.int (0 : Int32)), .val (.ref w0), .val (.double (FP.l2d (p2.toInt64))), .second, .val (.double (FP.l2d ((p2.toInt64) + (1 : Int64)))), .second, .val (.int (0 : Int32)), .val (.int (0 : Int32)), .unset, .unset] [(.ref w0)]) := fun tq kq => go146 tq (st147.trans kq)
    have go148 : Goes p e below s₁ (G_rm0 m p1 p2) T147 (mkF m 60 #[.val (.int p1), .val (.int p2), .val (.int (0 : Int32)), .val (.ref w0), .val (.double (FP.l2d (p2.toInt64))), .second, .val (.double (FP.l2d ((p2.toInt64) + (1 : Int64)))), .second, .val (.int (0 : Int32)), .val (.int (0 : Int32)), .unset, .unset] [(.ref w0), (.ref w0)]) := fun tq kq => go147 tq (by
      show Steps p.tables e below (T147.setTop (mkF m 59 #[.val (.int p1), .val (.int p2), .val (.int (0 : Int32)), .val (.ref w0), .val (.double (FP.l2d (p2.toInt64))), .second, .val (.double (FP.l2d ((p2.toInt64) + (1 : Int64)))), .second, .val (.int (0 : Int32)), .val (.int (0 : Int32)), .unset, .unset] [(.ref w0)])) _
      refine XS.aloadN X147.here hx rfl (hb hby at_59) rfl rfl ?_
      exact kq)
    have go149 : Goes p e below s₁ (G_rm0 m p1 p2) T147 (mkF m 72 #[.val (.int p1), .val (.int p2), .val (.int (0 : Int32)), .val (.ref w0), .val (.double (FP.l2d (p2.toInt64))), .second, .val (.double (FP.l2d ((p2.toInt64) + (1 : Int64)))), .second, .val (.int (0 : Int32)), .val (.int (0 : Int32)), .val (.int (0 : Int32)), .unset] [(.int (2 : Int32)), (.int (0 : Int32))]) := fun tq kq => go148 tq (by
      show Steps p.tables e below (T147.setTop (mkF m 60 #[.val (.int p1), .val (.int p2), .val (.int (0 : Int32)), .val (.ref w0), .val (.double (FP.l2d (p2.toInt64))), .second, .val (.double (FP.l2d ((p2.toInt64) + (1 : Int64)))), .second, .val (.int (0 : Int32)), .val (.int (0 : Int32)), .unset, .unset] [(.ref w0), (.ref w0)])) _
      refine Jvm.RoadKit.acmp (g := (mkF m 60 #[.val (.int p1), .val (.int p2), .val (.int (0 : Int32)), .val (.ref w0), .val (.double (FP.l2d (p2.toInt64))), .second, .val (.double (FP.l2d ((p2.toInt64) + (1 : Int64)))), .second, .val (.int (0 : Int32)), .val (.int (0 : Int32)), .unset, .unset] [(.ref w0), (.ref w0)])) X147 hx rfl rfl rfl (pc0 := 60) (pc' := 67) (same := true) rfl (hb hby at_60) rfl (decide_eq_true rfl) (by decide) (by decide) ?_
      show Steps p.tables e below (T147.setTop (mkF m 67 #[.val (.int p1), .val (.int p2), .val (.int (0 : Int32)), .val (.ref w0), .val (.double (FP.l2d (p2.toInt64))), .second, .val (.double (FP.l2d ((p2.toInt64) + (1 : Int64)))), .second, .val (.int (0 : Int32)), .val (.int (0 : Int32)), .unset, .unset] [])) _
      refine XS.iconst X147.here hx rfl (hb hby at_67) ?_
      show Steps p.tables e below (T147.setTop (mkF m 68 #[.val (.int p1), .val (.int p2), .val (.int (0 : Int32)), .val (.ref w0), .val (.double (FP.l2d (p2.toInt64))), .second, .val (.double (FP.l2d ((p2.toInt64) + (1 : Int64)))), .second, .val (.int (0 : Int32)), .val (.int (0 : Int32)), .unset, .unset] [(.int (0 : Int32))])) _
      refine XS.istore X147.here hx rfl (hb hby at_68) rfl (l' := #[.val (.int p1), .val (.int p2), .val (.int (0 : Int32)), .val (.ref w0), .val (.double (FP.l2d (p2.toInt64))), .second, .val (.double (FP.l2d ((p2.toInt64) + (1 : Int64)))), .second, .val (.int (0 : Int32)), .val (.int (0 : Int32)), .val (.int (0 : Int32)), .unset]) rfl ?_
      show Steps p.tables e below (T147.setTop (mkF m 70 #[.val (.int p1), .val (.int p2), .val (.int (0 : Int32)), .val (.ref w0), .val (.double (FP.l2d (p2.toInt64))), .second, .val (.double (FP.l2d ((p2.toInt64) + (1 : Int64)))), .second, .val (.int (0 : Int32)), .val (.int (0 : Int32)), .val (.int (0 : Int32)), .unset] [])) _
      refine XS.iloadN X147.here hx rfl (hb hby at_70) rfl ?_
      show Steps p.tables e below (T147.setTop (mkF m 71 #[.val (.int p1), .val (.int p2), .val (.int (0 : Int32)), .val (.ref w0), .val (.double (FP.l2d (p2.toInt64))), .second, .val (.double (FP.l2d ((p2.toInt64) + (1 : Int64)))), .second, .val (.int (0 : Int32)), .val (.int (0 : Int32)), .val (.int (0 : Int32)), .unset] [(.int (0 : Int32))])) _
      refine XS.iconst X147.here hx rfl (hb hby at_71) ?_
      exact kq)
    have go150 : Goes p e below s₁ (G_rm0 m p1 p2) T147 (mkF m 86 #[.val (.int p1), .val (.int p2), .val (.int (0 : Int32)), .val (.ref w0), .val (.double (FP.l2d (p2.toInt64))), .second, .val (.double (FP.l2d ((p2.toInt64) + (1 : Int64)))), .second, .val (.int (0 : Int32)), .val (.int (0 : Int32)), .val (.int (0 : Int32)), .val (.int (0 : Int32))] [(.int (0 : Int32)), (.int (0 : Int32))]) := fun tq kq => go149 tq (by
      show Steps p.tables e below (T147.setTop (mkF m 72 #[.val (.int p1), .val (.int p2), .val (.int (0 : Int32)), .val (.ref w0), .val (.double (FP.l2d (p2.toInt64))), .second, .val (.double (FP.l2d ((p2.toInt64) + (1 : Int64)))), .second, .val (.int (0 : Int32)), .val (.int (0 : Int32)), .val (.int (0 : Int32)), .unset] [(.int (2 : Int32)), (.int (0 : Int32))])) _
      refine XS.icmpYes X147.here hx rfl (pc0 := 72) (pc' := 79) rfl (hb hby at_72) rfl (tlt (by decide)).1 (by decide) (by decide) ?_
      show Steps p.tables e below (T147.setTop (mkF m 79 #[.val (.int p1), .val (.int p2), .val (.int (0 : Int32)), .val (.ref w0), .val (.double (FP.l2d (p2.toInt64))), .second, .val (.double (FP.l2d ((p2.toInt64) + (1 : Int64)))), .second, .val (.int (0 : Int32)), .val (.int (0 : Int32)), .val (.int (0 : Int32)), .unset] [])) _
      refine XS.iconst X147.here hx rfl (hb hby at_79) ?_
      show Steps p.tables e below (T147.setTop (mkF m 80 #[.val (.int p1), .val (.int p2), .val (.int (0 : Int32)), .val (.ref w0), .val (.double (FP.l2d (p2.toInt64))), .second, .val (.double (FP.l2d ((p2.toInt64) + (1 : Int64)))), .second, .val (.int (0 : Int32)), .val (.int (0 : Int32)), .val (.int (0 : Int32)), .unset] [(.int (0 : Int32))])) _
      refine XS.istore X147.here hx rfl (hb hby at_80) rfl (l' := #[.val (.int p1), .val (.int p2), .val (.int (0 : Int32)), .val (.ref w0), .val (.double (FP.l2d (p2.toInt64))), .second, .val (.double (FP.l2d ((p2.toInt64) + (1 : Int64)))), .second, .val (.int (0 : Int32)), .val (.int (0 : Int32)), .val (.int (0 : Int32)), .val (.int (0 : Int32))]) rfl ?_
      show Steps p.tables e below (T147.setTop (mkF m 82 #[.val (.int p1), .val (.int p2), .val (.int (0 : Int32)), .val (.ref w0), .val (.double (FP.l2d (p2.toInt64))), .second, .val (.double (FP.l2d ((p2.toInt64) + (1 : Int64)))), .second, .val (.int (0 : Int32)), .val (.int (0 : Int32)), .val (.int (0 : Int32)), .val (.int (0 : Int32))] [])) _
      refine XS.iload X147.here hx rfl (hb hby at_82) rfl ?_
      show Steps p.tables e below (T147.setTop (mkF m 84 #[.val (.int p1), .val (.int p2), .val (.int (0 : Int32)), .val (.ref w0), .val (.double (FP.l2d (p2.toInt64))), .second, .val (.double (FP.l2d ((p2.toInt64) + (1 : Int64)))), .second, .val (.int (0 : Int32)), .val (.int (0 : Int32)), .val (.int (0 : Int32)), .val (.int (0 : Int32))] [(.int (0 : Int32))])) _
      refine XS.iload X147.here hx rfl (hb hby at_84) rfl ?_
      exact kq)
    have go151 : Goes p e below s₁ (G_rm0 m p1 p2) T147 (mkF m 93 #[.val (.int p1), .val (.int p2), .val (.int (0 : Int32)), .val (.ref w0), .val (.double (FP.l2d (p2.toInt64))), .second, .val (.double (FP.l2d ((p2.toInt64) + (1 : Int64)))), .second, .val (.int (0 : Int32)), .val (.int (0 : Int32)), .val (.int (0 : Int32)), .val (.int (0 : Int32))] [(.int (0 : Int32)), (.int (0 : Int32))]) := fun tq kq => go150 tq (by
      show Steps p.tables e below (T147.setTop (mkF m 86 #[.val (.int p1), .val (.int p2), .val (.int (0 : Int32)), .val (.ref w0), .val (.double (FP.l2d (p2.toInt64))), .second, .val (.double (FP.l2d ((p2.toInt64) + (1 : Int64)))), .second, .val (.int (0 : Int32)), .val (.int (0 : Int32)), .val (.int (0 : Int32)), .val (.int (0 : Int32))] [(.int (0 : Int32)), (.int (0 : Int32))])) _
      refine XS.icmpNo X147.here hx rfl (hb hby at_86) rfl (teq rfl).2 ?_
      show Steps p.tables e below (T147.setTop (mkF m 89 #[.val (.int p1), .val (.int p2), .val (.int (0 : Int32)), .val (.ref w0), .val (.double (FP.l2d (p2.toInt64))), .second, .val (.double (FP.l2d ((p2.toInt64) + (1 : Int64)))), .second, .val (.int (0 : Int32)), .val (.int (0 : Int32)), .val (.int (0 : Int32)), .val (.int (0 : Int32))] [])) _
      refine XS.iload X147.here hx rfl (hb hby at_89) rfl ?_
      show Steps p.tables e below (T147.setTop (mkF m 91 #[.val (.int p1), .val (.int p2), .val (.int (0 : Int32)), .val (.ref w0), .val (.double (FP.l2d (p2.toInt64))), .second, .val (.double (FP.l2d ((p2.toInt64) + (1 : Int64)))), .second, .val (.int (0 : Int32)), .val (.int (0 : Int32)), .val (.int (0 : Int32)), .val (.int (0 : Int32))] [(.int (0 : Int32))])) _
      refine XS.iload X147.here hx rfl (hb hby at_91) rfl ?_
      exact kq)
    have go152 : Goes p e below s₁ (G_rm0 m p1 p2) T147 (mkF m 100 #[.val (.int p1), .val (.int p2), .val (.int (0 : Int32)), .val (.ref w0), .val (.double (FP.l2d (p2.toInt64))), .second, .val (.double (FP.l2d ((p2.toInt64) + (1 : Int64)))), .second, .val (.int (0 : Int32)), .val (.int (0 : Int32)), .val (.int (0 : Int32)), .val (.int (0 : Int32))] [(.int (0 : Int32)), (.int (0 : Int32))]) := fun tq kq => go151 tq (by
      show Steps p.tables e below (T147.setTop (mkF m 93 #[.val (.int p1), .val (.int p2), .val (.int (0 : Int32)), .val (.ref w0), .val (.double (FP.l2d (p2.toInt64))), .second, .val (.double (FP.l2d ((p2.toInt64) + (1 : Int64)))), .second, .val (.int (0 : Int32)), .val (.int (0 : Int32)), .val (.int (0 : Int32)), .val (.int (0 : Int32))] [(.int (0 : Int32)), (.int (0 : Int32))])) _
      refine XS.icmpNo X147.here hx rfl (hb hby at_93) rfl (teq rfl).2 ?_
      show Steps p.tables e below (T147.setTop (mkF m 96 #[.val (.int p1), .val (.int p2), .val (.int (0 : Int32)), .val (.ref w0), .val (.double (FP.l2d (p2.toInt64))), .second, .val (.double (FP.l2d ((p2.toInt64) + (1 : Int64)))), .second, .val (.int (0 : Int32)), .val (.int (0 : Int32)), .val (.int (0 : Int32)), .val (.int (0 : Int32))] [])) _
      refine XS.iload X147.here hx rfl (hb hby at_96) rfl ?_
      show Steps p.tables e below (T147.setTop (mkF m 98 #[.val (.int p1), .val (.int p2), .val (.int (0 : Int32)), .val (.ref w0), .val (.double (FP.l2d (p2.toInt64))), .second, .val (.double (FP.l2d ((p2.toInt64) + (1 : Int64)))), .second, .val (.int (0 : Int32)), .val (.int (0 : Int32)), .val (.int (0 : Int32)), .val (.int (0 : Int32))] [(.int (0 : Int32))])) _
      refine XS.iload X147.here hx rfl (hb hby at_98) rfl ?_
      exact kq)
    have go153 : Goes p e below s₁ (G_rm0 m p1 p2) T147 (mkF m 108 #[.val (.int p1), .val (.int p2), .val (.int (0 : Int32)), .val (.ref w0), .val (.double (FP.l2d (p2.toInt64))), .second, .val (.double (FP.l2d ((p2.toInt64) + (1 : Int64)))), .second, .val (.int (0 : Int32)), .val (.int (0 : Int32)), .val (.int (0 : Int32)), .val (.int (0 : Int32))] [(.int (1 : Int32))]) := fun tq kq => go152 tq (by
      show Steps p.tables e below (T147.setTop (mkF m 100 #[.val (.int p1), .val (.int p2), .val (.int (0 : Int32)), .val (.ref w0), .val (.double (FP.l2d (p2.toInt64))), .second, .val (.double (FP.l2d ((p2.toInt64) + (1 : Int64)))), .second, .val (.int (0 : Int32)), .val (.int (0 : Int32)), .val (.int (0 : Int32)), .val (.int (0 : Int32))] [(.int (0 : Int32)), (.int (0 : Int32))])) _
      refine XS.icmpNo X147.here hx rfl (hb hby at_100) rfl (teq rfl).2 ?_
      show Steps p.tables e below (T147.setTop (mkF m 103 #[.val (.int p1), .val (.int p2), .val (.int (0 : Int32)), .val (.ref w0), .val (.double (FP.l2d (p2.toInt64))), .second, .val (.double (FP.l2d ((p2.toInt64) + (1 : Int64)))), .second, .val (.int (0 : Int32)), .val (.int (0 : Int32)), .val (.int (0 : Int32)), .val (.int (0 : Int32))] [])) _
      refine XS.iconst X147.here hx rfl (hb hby at_103) ?_
      show Steps p.tables e below (T147.setTop (mkF m 104 #[.val (.int p1), .val (.int p2), .val (.int (0 : Int32)), .val (.ref w0), .val (.double (FP.l2d (p2.toInt64))), .second, .val (.double (FP.l2d ((p2.toInt64) + (1 : Int64)))), .second, .val (.int (0 : Int32)), .val (.int (0 : Int32)), .val (.int (0 : Int32)), .val (.int (0 : Int32))] [(.int (1 : Int32))])) _
      refine XS.goto X147.here hx rfl (pc0 := 104) (pc' := 108) rfl (hb hby at_104) (by decide) (by decide) ?_
      exact kq)
    obtain ⟨fs, hr, hrun, hended, hW, hsame⟩ := X147.leave (v := some (.int (1 : Int32))) (fun h => by rw [Bd.returns] at h; cases h)
    refine ⟨_, _, go153 _ ?_, hrun, hended, _, _, rfl, ?_, ⟨_, rfl⟩, hW, hsame.mono (by decide) (by decide)⟩
    · exact retN X147 hx (t := .boolean) Bd.returns (by simp) (hb hby at_108) hr
    · show Q_rm0 Z p1 p2 w0 w1 w2 w3 w4 w5 h0 n0 _ T147.heap _
      rw [eq147]
      exact ⟨rfl, N147⟩
  · have go154 : Goes p e below s₁ (G_rm0 m p1 p2) s₁ (mkF m 9 #[.val (.int p1), .val (.int p2), .val (.int (1 : Int32)), .unset, .unset, .unset, .unset, .unset, .unset, .unset, .unset, .unset] [(.int (1 : Int32))]) := fun tq kq => go137 tq (by
      show Steps p.tables e below (s₁.setTop (mkF m 8 #[.val (.int p1), .val (.int p2), .val (.int (1 : Int32)), .unset, .unset, .unset, .unset, .unset, .unset, .unset, .unset, .unset] [])) _
      refine XS.iloadN X0.here hx rfl (hb hby at_8) rfl ?_
      exact kq)
    obtain ⟨vv155, _, ⟨T155, L155, k155, n155⟩, -, X155, ⟨Lc155, hQ155, l155, y155, z155⟩, st155⟩ := Jvm.LawKit.callS X0 hx (y := (⟨"com/example/heft/heft/model/ComparisonOrdersNumbersPinLaw", "pick", "(I)Lcom/example/heft/heft/model/XPath$Comparison;"⟩ : MethodName)) hown (mvT hZ (tw1 hw)) (mvT hZ (tw2 hw)) (mvT hZ (tw3 hw)) (mvT hZ (tw4 hw)) (by decide) (backOf (W := 0) (pick1 l Z a0 hw []  w0 w1 w2 w3 w4 w5 h0 n0 Z0 S0 S1 S2 S3 S4 S5) hZ (tw4 hw) (tw3 hw) (by decide) (by decide)) (g := (mkF m 9 #[.val (.int p1), .val (.int p2), .val (.int (1 : Int32)), .unset, .unset, .unset, .unset, .unset, .unset, .unset, .unset, .unset] [(.int (1 : Int32))])) rfl (by rw [hml]; rfl) (argsL := [(.int (1 : Int32))]) (rest := []) (lenOf pd_1 rfl) rfl (by show 2 * 0 + _ ≤ _; exact Nat.le_of_eq rfl) (hb hby at_9) (fun _ _ => ⟨rfl, e0, (by decide : 0 + 0 ≤ _), (by decide : 0 + 0 ≤ _)⟩)
    dsimp only [Pt.U, Pt.locs, Pt.cells, Pt.slots] at X155 l155 y155 z155 st155 hQ155
    subst l155 y155 z155
    obtain ⟨rfl, Nq155, eq155⟩ := hQ155
    have N155 := Fr.app N0 Nq155
    have go155 : Goes p e below s₁ (G_rm0 m p1 p2) T155 (mkF m 12 #[.val (.int p1), .val (.int p2), .val (.int (1 : Int32)), .unset, .unset, .unset, .unset, .unset, .unset, .unset, .unset, .unset] [(.ref w1)]) := fun tq kq => go154 tq (st155 _ kq)
    have go156 : Goes p e below s₁ (G_rm0 m p1 p2) T155 (mkF m 24 #[.val (.int p1), .val (.int p2), .val (.int (1 : Int32)), .val (.ref w1), .val (.double (FP.l2d (p2.toInt64))), .second, .val (.double (FP.l2d ((p2.toInt64) + (1 : Int64)))), .second, .unset, .unset, .unset, .unset] [(.ref w1)]) := fun tq kq => go155 tq (by
      show Steps p.tables e below (T155.setTop (mkF m 12 #[.val (.int p1), .val (.int p2), .val (.int (1 : Int32)), .unset, .unset, .unset, .unset, .unset, .unset, .unset, .unset, .unset] [(.ref w1)])) _
      refine XS.astoreN X155.here hx rfl (hb hby at_12) rfl rfl (l' := #[.val (.int p1), .val (.int p2), .val (.int (1 : Int32)), .val (.ref w1), .unset, .unset, .unset, .unset, .unset, .unset, .unset, .unset]) rfl ?_
      show Steps p.tables e below (T155.setTop (mkF m 13 #[.val (.int p1), .val (.int p2), .val (.int (1 : Int32)), .val (.ref w1), .unset, .unset, .unset, .unset, .unset, .unset, .unset, .unset] [])) _
      refine XS.iloadN X155.here hx rfl (hb hby at_13) rfl ?_
      show Steps p.tables e below (T155.setTop (mkF m 14 #[.val (.int p1), .val (.int p2), .val (.int (1 : Int32)), .val (.ref w1), .unset, .unset, .unset, .unset, .unset, .unset, .unset, .unset] [(.int p2)])) _
      refine XS.i2dS X155.here hx rfl (hb hby at_14) rfl (i2d_w _) ?_
      show Steps p.tables e below (T155.setTop (mkF m 15 #[.val (.int p1), .val (.int p2), .val (.int (1 : Int32)), .val (.ref w1), .unset, .unset, .unset, .unset, .unset, .unset, .unset, .unset] [(.double (FP.l2d (p2.toInt64)))])) _
      refine XS.dstore X155.here hx rfl (hb hby at_15) rfl (l' := #[.val (.int p1), .val (.int p2), .val (.int (1 : Int32)), .val (.ref w1), .val (.double (FP.l2d (p2.toInt64))), .second, .unset, .unset, .unset, .unset, .unset, .unset]) rfl ?_
      show Steps p.tables e below (T155.setTop (mkF m 17 #[.val (.int p1), .val (.int p2), .val (.int (1 : Int32)), .val (.ref w1), .val (.double (FP.l2d (p2.toInt64))), .second, .unset, .unset, .unset, .unset, .unset, .unset] [])) _
      refine XS.dload X155.here hx rfl (hb hby at_17) rfl ?_
      show Steps p.tables e below (T155.setTop (mkF m 19 #[.val (.int p1), .val (.int p2), .val (.int (1 : Int32)), .val (.ref w1), .val (.double (FP.l2d (p2.toInt64))), .second, .unset, .unset, .unset, .unset, .unset, .unset] [(.double (FP.l2d (p2.toInt64)))])) _
      refine XS.dconst1 X155.here hx rfl (hb hby at_19) own_d1 ?_
      show Steps p.tables e below (T155.setTop (mkF m 20 #[.val (.int p1), .val (.int p2), .val (.int (1 : Int32)), .val (.ref w1), .val (.double (FP.l2d (p2.toInt64))), .second, .unset, .unset, .unset, .unset, .unset, .unset] [(.double (FP.l2d (1 : Int64))), (.double (FP.l2d (p2.toInt64)))])) _
      refine XS.daddS X155.here hx rfl (hb hby at_20) rfl (nn_w (dadd_w (own_b1 p2) own_o1)) (dadd_w (own_b1 p2) own_o1) ?_
      show Steps p.tables e below (T155.setTop (mkF m 21 #[.val (.int p1), .val (.int p2), .val (.int (1 : Int32)), .val (.ref w1), .val (.double (FP.l2d (p2.toInt64))), .second, .unset, .unset, .unset, .unset, .unset, .unset] [(.double (FP.l2d ((p2.toInt64) + (1 : Int64))))])) _
      refine XS.dstore X155.here hx rfl (hb hby at_21) rfl (l' := #[.val (.int p1), .val (.int p2), .val (.int (1 : Int32)), .val (.ref w1), .val (.double (FP.l2d (p2.toInt64))), .second, .val (.double (FP.l2d ((p2.toInt64) + (1 : Int64)))), .second, .unset, .unset, .unset, .unset]) rfl ?_
      show Steps p.tables e below (T155.setTop (mkF m 23 #[.val (.int p1), .val (.int p2), .val (.int (1 : Int32)), .val (.ref w1), .val (.double (FP.l2d (p2.toInt64))), .second, .val (.double (FP.l2d ((p2.toInt64) + (1 : Int64)))), .second, .unset, .unset, .unset, .unset] [])) _
      refine XS.aloadN X155.here hx rfl (hb hby at_23) rfl rfl ?_
      exact kq)
    obtain ⟨cq157, kq157, q157a, q157b, q157c⟩ := isOf hZ eq155 E1
    obtain ⟨vv157, _, ⟨T157, L157, k157, n157⟩, -, X157, ⟨Lc157, hQ157, l157, y157, z157⟩, st157⟩ := X155.virtualBack hx (y := (⟨"com/example/heft/heft/model/XPath$Comparison", "ordersNumbers", "()Z"⟩ : MethodName)) (z := (⟨"com/example/heft/heft/model/XPath$Comparison", "ordersNumbers", "()Z"⟩ : MethodName)) hown (mvT hZ (tw8 hw)) (mvT hZ (tw9 hw)) (notFace_of_selects (args := #[]) (mvT hZ (tw11 hw))) (mvT hZ (tw11 hw)) (mvT hZ (tw10 hw)) (by decide) (backOf (W := 0) (ord1 l Z a0 hw []  w0 w1 w2 w3 w4 w5 h0 n0 Z0 S0 S1 S2 S3 S4 S5 n10) hZ (tw12 hw) (tw6 hw) (by decide) (by decide)) q157a q157c (g := (mkF m 24 #[.val (.int p1), .val (.int p2), .val (.int (1 : Int32)), .val (.ref w1), .val (.double (FP.l2d (p2.toInt64))), .second, .val (.double (FP.l2d ((p2.toInt64) + (1 : Int64)))), .second, .unset, .unset, .unset, .unset] [(.ref w1)])) rfl (by rw [hml]; rfl) (Steps.refl _) (argsL := []) (rest := []) (lenOf pd_2 rfl) rfl (by show 2 * 0 + _ ≤ _; exact Nat.le_of_eq rfl) (hb hby at_24) (fun _ _ => ⟨rfl, eq155, (by decide : 0 + 0 ≤ _), (by decide : 0 + 0 ≤ _)⟩)
    dsimp only [Pt.U, Pt.locs, Pt.cells, Pt.slots] at X157 l157 y157 z157 st157 hQ157
    subst l157 y157 z157
    obtain ⟨rfl, Nq157, eq157⟩ := hQ157
    have N157 := Fr.app N155 Nq157
    have go157 : Goes p e below s₁ (G_rm0 m p1 p2) T157 (mkF m 27 #[.val (.int p1), .val (.int p2), .val (.int (1 : Int32)), .val (.ref w1), .val (.double (FP.l2d (p2.toInt64))), .second, .val (.double (FP.l2d ((p2.toInt64) + (1 : Int64)))), .second, .unset, .unset, .unset, .unset] [(.int (0 : Int32))]) := fun tq kq => go156 tq (st157.trans kq)
    have go158 : Goes p e below s₁ (G_rm0 m p1 p2) T157 (mkF m 34 #[.val (.int p1), .val (.int p2), .val (.int (1 : Int32)), .val (.ref w1), .val (.double (FP.l2d (p2.toInt64))), .second, .val (.double (FP.l2d ((p2.toInt64) + (1 : Int64)))), .second, .val (.int (0 : Int32)), .unset, .unset, .unset] [(.double (FP.l2d ((p2.toInt64) + (1 : Int64)))), (.double (FP.l2d (p2.toInt64))), (.ref w1)]) := fun tq kq => go157 tq (by
      show Steps p.tables e below (T157.setTop (mkF m 27 #[.val (.int p1), .val (.int p2), .val (.int (1 : Int32)), .val (.ref w1), .val (.double (FP.l2d (p2.toInt64))), .second, .val (.double (FP.l2d ((p2.toInt64) + (1 : Int64)))), .second, .unset, .unset, .unset, .unset] [(.int (0 : Int32))])) _
      refine XS.istore X157.here hx rfl (hb hby at_27) rfl (l' := #[.val (.int p1), .val (.int p2), .val (.int (1 : Int32)), .val (.ref w1), .val (.double (FP.l2d (p2.toInt64))), .second, .val (.double (FP.l2d ((p2.toInt64) + (1 : Int64)))), .second, .val (.int (0 : Int32)), .unset, .unset, .unset]) rfl ?_
      show Steps p.tables e below (T157.setTop (mkF m 29 #[.val (.int p1), .val (.int p2), .val (.int (1 : Int32)), .val (.ref w1), .val (.double (FP.l2d (p2.toInt64))), .second, .val (.double (FP.l2d ((p2.toInt64) + (1 : Int64)))), .second, .val (.int (0 : Int32)), .unset, .unset, .unset] [])) _
      refine XS.aloadN X157.here hx rfl (hb hby at_29) rfl rfl ?_
      show Steps p.tables e below (T157.setTop (mkF m 30 #[.val (.int p1), .val (.int p2), .val (.int (1 : Int32)), .val (.ref w1), .val (.double (FP.l2d (p2.toInt64))), .second, .val (.double (FP.l2d ((p2.toInt64) + (1 : Int64)))), .second, .val (.int (0 : Int32)), .unset, .unset, .unset] [(.ref w1)])) _
      refine XS.dload X157.here hx rfl (hb hby at_30) rfl ?_
      show Steps p.tables e below (T157.setTop (mkF m 32 #[.val (.int p1), .val (.int p2), .val (.int (1 : Int32)), .val (.ref w1), .val (.double (FP.l2d (p2.toInt64))), .second, .val (.double (FP.l2d ((p2.toInt64) + (1 : Int64)))), .second, .val (.int (0 : Int32)), .unset, .unset, .unset] [(.double (FP.l2d (p2.toInt64))), (.ref w1)])) _
      refine XS.dload X157.here hx rfl (hb hby at_32) rfl ?_
      exact kq)
    obtain ⟨cq159, kq159, q159a, q159b, q159c⟩ := isOf hZ eq157 E1
    obtain ⟨vv159, _, ⟨T159, L159, k159, n159⟩, -, X159, ⟨Lc159, hQ159, l159, y159, z159⟩, st159⟩ := X157.virtualBack hx (y := (⟨"com/example/heft/heft/model/XPath$Comparison", "holds", "(DD)Z"⟩ : MethodName)) (z := (⟨"com/example/heft/heft/model/XPath$Comparison", "holds", "(DD)Z"⟩ : MethodName)) hown (mvT hZ (tw14 hw)) (mvT hZ (tw15 hw)) (notFace_of_selects (args := #[]) (mvT hZ (tw17 hw))) (mvT hZ (tw17 hw)) (mvT hZ (tw16 hw)) (by decide) (backOf (W := 0) (holds1l l Z a0 hw [] w1 (FP.l2d (p2.toInt64)) (FP.l2d ((p2.toInt64) + (1 : Int64))) (p2.toInt64) ((p2.toInt64) + (1 : Int64)) h0 n0 Z0 E1 O1 rfl rfl (own_b1 p2) (own_b2 p2) (own_ne p2) (own_lt p2) (own_nlt p2)) hZ (tw18 hw) (tw6 hw) (by decide) (by decide)) q159a q159c (g := (mkF m 34 #[.val (.int p1), .val (.int p2), .val (.int (1 : Int32)), .val (.ref w1), .val (.double (FP.l2d (p2.toInt64))), .second, .val (.double (FP.l2d ((p2.toInt64) + (1 : Int64)))), .second, .val (.int (0 : Int32)), .unset, .unset, .unset] [(.double (FP.l2d ((p2.toInt64) + (1 : Int64)))), (.double (FP.l2d (p2.toInt64))), (.ref w1)])) rfl (by rw [hml]; rfl) (Steps.refl _) (argsL := [(.double (FP.l2d (p2.toInt64))), (.double (FP.l2d ((p2.toInt64) + (1 : Int64))))]) (rest := []) (lenOf pd_3 rfl) rfl (by show 2 * 0 + _ ≤ _; exact Nat.le_of_eq rfl) (hb hby at_34) (fun _ _ => ⟨rfl, eq157, (by decide : 0 + 0 ≤ _), (by decide : 0 + 0 ≤ _)⟩)
    dsimp only [Pt.U, Pt.locs, Pt.cells, Pt.slots] at X159 l159 y159 z159 st159 hQ159
    subst l159 y159 z159
    obtain ⟨rfl, Nq159, eq159⟩ := hQ159
    have N159 := Fr.app N157 Nq159
    have go159 : Goes p e below s₁ (G_rm0 m p1 p2) T159 (mkF m 37 #[.val (.int p1), .val (.int p2), .val (.int (1 : Int32)), .val (.ref w1), .val (.double (FP.l2d (p2.toInt64))), .second, .val (.double (FP.l2d ((p2.toInt64) + (1 : Int64)))), .second, .val (.int (0 : Int32)), .unset, .unset, .unset] [(.int (1 : Int32))]) := fun tq kq => go158 tq (st159.trans kq)
    have go160 : Goes p e below s₁ (G_rm0 m p1 p2) T159 (mkF m 42 #[.val (.int p1), .val (.int p2), .val (.int (1 : Int32)), .val (.ref w1), .val (.double (FP.l2d (p2.toInt64))), .second, .val (.double (FP.l2d ((p2.toInt64) + (1 : Int64)))), .second, .val (.int (0 : Int32)), .unset, .unset, .unset] [(.double (FP.l2d (p2.toInt64))), (.double (FP.l2d ((p2.toInt64) + (1 : Int64)))), (.ref w1), (.int (1 : Int32))]) := fun tq kq => go159 tq (by
      show Steps p.tables e below (T159.setTop (mkF m 37 #[.val (.int p1), .val (.int p2), .val (.int (1 : Int32)), .val (.ref w1), .val (.double (FP.l2d (p2.toInt64))), .second, .val (.double (FP.l2d ((p2.toInt64) + (1 : Int64)))), .second, .val (.int (0 : Int32)), .unset, .unset, .unset] [(.int (1 : Int32))])) _
      refine XS.aloadN X159.here hx rfl (hb hby at_37) rfl rfl ?_
      show Steps p.tables e below (T159.setTop (mkF m 38 #[.val (.int p1), .val (.int p2), .val (.int (1 : Int32)), .val (.ref w1), .val (.double (FP.l2d (p2.toInt64))), .second, .val (.double (FP.l2d ((p2.toInt64) + (1 : Int64)))), .second, .val (.int (0 : Int32)), .unset, .unset, .unset] [(.ref w1), (.int (1 : Int32))])) _
      refine XS.dload X159.here hx rfl (hb hby at_38) rfl ?_
      show Steps p.tables e below (T159.setTop (mkF m 40 #[.val (.int p1), .val (.int p2), .val (.int (1 : Int32)), .val (.ref w1), .val (.double (FP.l2d (p2.toInt64))), .second, .val (.double (FP.l2d ((p2.toInt64) + (1 : Int64)))), .second, .val (.int (0 : Int32)), .unset, .unset, .unset] [(.double (FP.l2d ((p2.toInt64) + (1 : Int64)))), (.ref w1), (.int (1 : Int32))])) _
      refine XS.dload X159.here hx rfl (hb hby at_40) rfl ?_
      exact kq)
    obtain ⟨cq161, kq161, q161a, q161b, q161c⟩ := isOf hZ eq159 E1
    obtain ⟨vv161, _, ⟨T161, L161, k161, n161⟩, -, X161, ⟨Lc161, hQ161, l161, y161, z161⟩, st161⟩ := X159.virtualBack hx (y := (⟨"com/example/heft/heft/model/XPath$Comparison", "holds", "(DD)Z"⟩ : MethodName)) (z := (⟨"com/example/heft/heft/model/XPath$Comparison", "holds", "(DD)Z"⟩ : MethodName)) hown (mvT hZ (tw14 hw)) (mvT hZ (tw15 hw)) (notFace_of_selects (args := #[]) (mvT hZ (tw17 hw))) (mvT hZ (tw17 hw)) (mvT hZ (tw16 hw)) (by decide) (backOf (W := 1) (holds1g l Z a0 hw [] w1 (FP.l2d ((p2.toInt64) + (1 : Int64))) (FP.l2d (p2.toInt64)) ((p2.toInt64) + (1 : Int64)) (p2.toInt64) h0 n0 Z0 E1 O1 rfl rfl (own_b2 p2) (own_b1 p2) (fun q => own_ne p2 q.symm) (own_nlt p2) (own_lt p2)) hZ (tw18 hw) (tw6 hw) (by decide) (by decide)) q161a q161c (g := (mkF m 42 #[.val (.int p1), .val (.int p2), .val (.int (1 : Int32)), .val (.ref w1), .val (.double (FP.l2d (p2.toInt64))), .second, .val (.double (FP.l2d ((p2.toInt64) + (1 : Int64)))), .second, .val (.int (0 : Int32)), .unset, .unset, .unset] [(.double (FP.l2d (p2.toInt64))), (.double (FP.l2d ((p2.toInt64) + (1 : Int64)))), (.ref w1), (.int (1 : Int32))])) rfl (by rw [hml]; rfl) (Steps.refl _) (argsL := [(.double (FP.l2d ((p2.toInt64) + (1 : Int64)))), (.double (FP.l2d (p2.toInt64)))]) (rest := [(.int (1 : Int32))]) (lenOf pd_3 rfl) rfl (by show 2 * 0 + _ ≤ _; exact Nat.le_of_eq rfl) (hb hby at_42) (fun _ _ => ⟨rfl, eq159, (by decide : 0 + 0 ≤ _), (by decide : 0 + 0 ≤ _)⟩)
    dsimp only [Pt.U, Pt.locs, Pt.cells, Pt.slots] at X161 l161 y161 z161 st161 hQ161
    subst l161 y161 z161
    obtain ⟨rfl, Nq161, eq161⟩ := hQ161
    have N161 := Fr.app N159 Nq161
    have go161 : Goes p e below s₁ (G_rm0 m p1 p2) T161 (mkF m 45 #[.val (.int p1), .val (.int p2), .val (.int (1 : Int32)), .val (.ref w1), .val (.double (FP.l2d (p2.toInt64))), .second, .val (.double (FP.l2d ((p2.toInt64) + (1 : Int64)))), .second, .val (.int (0 : Int32)), .unset, .unset, .unset] [(.int (1 : Int32)), (.int (1 : Int32))]) := fun tq kq => go160 tq (st161.trans kq)
    have go162 : Goes p e below s₁ (G_rm0 m p1 p2) T161 (mkF m 56 #[.val (.int p1), .val (.int p2), .val (.int (1 : Int32)), .val (.ref w1), .val (.double (FP.l2d (p2.toInt64))), .second, .val (.double (FP.l2d ((p2.toInt64) + (1 : Int64)))), .second, .val (.int (0 : Int32)), .val (.int (0 : Int32)), .unset, .unset] [(.ref w1)]) := fun tq kq => go161 tq (by
      show Steps p.tables e below (T161.setTop (mkF m 45 #[.val (.int p1), .val (.int p2), .val (.int (1 : Int32)), .val (.ref w1), .val (.double (FP.l2d (p2.toInt64))), .second, .val (.double (FP.l2d ((p2.toInt64) + (1 : Int64)))), .second, .val (.int (0 : Int32)), .unset, .unset, .unset] [(.int (1 : Int32)), (.int (1 : Int32))])) _
      refine XS.icmpYes X161.here hx rfl (pc0 := 45) (pc' := 52) rfl (hb hby at_45) rfl (teq (by decide)).1 (by decide) (by decide) ?_
      show Steps p.tables e below (T161.setTop (mkF m 52 #[.val (.int p1), .val (.int p2), .val (.int (1 : Int32)), .val (.ref w1), .val (.double (FP.l2d (p2.toInt64))), .second, .val (.double (FP.l2d ((p2.toInt64) + (1 : Int64)))), .second, .val (.int (0 : Int32)), .unset, .unset, .unset] [])) _
      refine XS.iconst X161.here hx rfl (hb hby at_52) ?_
      show Steps p.tables e below (T161.setTop (mkF m 53 #[.val (.int p1), .val (.int p2), .val (.int (1 : Int32)), .val (.ref w1), .val (.double (FP.l2d (p2.toInt64))), .second, .val (.double (FP.l2d ((p2.toInt64) + (1 : Int64)))), .second, .val (.int (0 : Int32)), .unset, .unset, .unset] [(.int (0 : Int32))])) _
      refine XS.istore X161.here hx rfl (hb hby at_53) rfl (l' := #[.val (.int p1), .val (.int p2), .val (.int (1 : Int32)), .val (.ref w1), .val (.double (FP.l2d (p2.toInt64))), .second, .val (.double (FP.l2d ((p2.toInt64) + (1 : Int64)))), .second, .val (.int (0 : Int32)), .val (.int (0 : Int32)), .unset, .unset]) rfl ?_
      show Steps p.tables e below (T161.setTop (mkF m 55 #[.val (.int p1), .val (.int p2), .val (.int (1 : Int32)), .val (.ref w1), .val (.double (FP.l2d (p2.toInt64))), .second, .val (.double (FP.l2d ((p2.toInt64) + (1 : Int64)))), .second, .val (.int (0 : Int32)), .val (.int (0 : Int32)), .unset, .unset] [])) _
      refine XS.aloadN X161.here hx rfl (hb hby at_55) rfl rfl ?_
      exact kq)
    obtain ⟨cq163, kq163, q163a, q163b, q163c⟩ := isOf hZ eq161 E1
    obtain ⟨vv163, _, ⟨T163, L163, k163, n163⟩, -, X163, ⟨Lc163, hQ163, l163, y163, z163⟩, st163⟩ := X161.virtualBack hx (y := (⟨"com/example/heft/heft/model/XPath$Comparison", "swapped", "()Lcom/example/heft/heft/model/XPath$Comparison;"⟩ : MethodName)) (z := (⟨"com/example/heft/heft/model/XPath$Comparison", "swapped", "()Lcom/example/heft/heft/model/XPath$Comparison;"⟩ : MethodName)) hown (mvT hZ (tw28 hw)) (mvT hZ (tw29 hw)) (notFace_of_selects (args := #[]) (mvT hZ (tw31 hw))) (mvT hZ (tw31 hw)) (mvT hZ (tw30 hw)) (by decide) (backOf (W := 0) (swap1 l Z a0 hw []  w0 w1 w2 w3 w4 w5 h0 n0 Z0 S0 S1 S2 S3 S4 S5 E1 O1) hZ (tw32 hw) (tw6 hw) (by decide) (by decide)) q163a q163c (g := (mkF m 56 #[.val (.int p1), .val (.int p2), .val (.int (1 : Int32)), .val (.ref w1), .val (.double (FP.l2d (p2.toInt64))), .second, .val (.double (FP.l2d ((p2.toInt64) + (1 : Int64)))), .second, .val (.int (0 : Int32)), .val (.int (0 : Int32)), .unset, .unset] [(.ref w1)])) rfl (by rw [hml]; rfl) (Steps.refl _) (argsL := []) (rest := []) (lenOf pd_4 rfl) rfl (by show 2 * 0 + _ ≤ _; exact Nat.le_of_eq rfl) (hb hby at_56) (fun _ _ => ⟨rfl, eq161, (by decide : 0 + 0 ≤ _), (by decide : 0 + 0 ≤ _)⟩)
    dsimp only [Pt.U, Pt.locs, Pt.cells, Pt.slots] at X163 l163 y163 z163 st163 hQ163
    subst l163 y163 z163
    obtain ⟨rfl, Nq163, eq163⟩ := hQ163
    have N163 := Fr.app N161 Nq163
    have go163 : Goes p e below s₁ (G_rm0 m p1 p2) T163 (mkF m 59 #[.val (.int p1), .val (.int p2), .val (.int (1 : Int32)), .val (.ref w1), .val (.double (FP.l2d (p2.toInt64))), .second, .val (.double (FP.l2d ((p2.toInt64) + (1 : Int64)))), .second, .val (.int (0 : Int32)), .val (.int (0 : Int32)), .unset, .unset] [(.ref w1)]) := fun tq kq => go162 tq (st163.trans kq)
    have go164 : Goes p e below s₁ (G_rm0 m p1 p2) T163 (mkF m 60 #[.val (.int p1), .val (.int p2), .val (.int (1 : Int32)), .val (.ref w1), .val (.double (FP.l2d (p2.toInt64))), .second, .val (.double (FP.l2d ((p2.toInt64) + (1 : Int64)))), .second, .val (.int (0 : Int32)), .val (.int (0 : Int32)), .unset, .unset] [(.ref w1), (.ref w1)]) := fun tq kq => go163 tq (by
      show Steps p.tables e below (T163.setTop (mkF m 59 #[.val (.int p1), .val (.int p2), .val (.int (1 : Int32)), .val (.ref w1), .val (.double (FP.l2d (p2.toInt64))), .second, .val (.double (FP.l2d ((p2.toInt64) + (1 : Int64)))), .second, .val (.int (0 : Int32)), .val (.int (0 : Int32)), .unset, .unset] [(.ref w1)])) _
      refine XS.aloadN X163.here hx rfl (hb hby at_59) rfl rfl ?_
      exact kq)
    have go165 : Goes p e below s₁ (G_rm0 m p1 p2) T163 (mkF m 72 #[.val (.int p1), .val (.int p2), .val (.int (1 : Int32)), .val (.ref w1), .val (.double (FP.l2d (p2.toInt64))), .second, .val (.double (FP.l2d ((p2.toInt64) + (1 : Int64)))), .second, .val (.int (0 : Int32)), .val (.int (0 : Int32)), .val (.int (0 : Int32)), .unset] [(.int (2 : Int32)), (.int (1 : Int32))]) := fun tq kq => go164 tq (by
      show Steps p.tables e below (T163.setTop (mkF m 60 #[.val (.int p1), .val (.int p2), .val (.int (1 : Int32)), .val (.ref w1), .val (.double (FP.l2d (p2.toInt64))), .second, .val (.double (FP.l2d ((p2.toInt64) + (1 : Int64)))), .second, .val (.int (0 : Int32)), .val (.int (0 : Int32)), .unset, .unset] [(.ref w1), (.ref w1)])) _
      refine Jvm.RoadKit.acmp (g := (mkF m 60 #[.val (.int p1), .val (.int p2), .val (.int (1 : Int32)), .val (.ref w1), .val (.double (FP.l2d (p2.toInt64))), .second, .val (.double (FP.l2d ((p2.toInt64) + (1 : Int64)))), .second, .val (.int (0 : Int32)), .val (.int (0 : Int32)), .unset, .unset] [(.ref w1), (.ref w1)])) X163 hx rfl rfl rfl (pc0 := 60) (pc' := 67) (same := true) rfl (hb hby at_60) rfl (decide_eq_true rfl) (by decide) (by decide) ?_
      show Steps p.tables e below (T163.setTop (mkF m 67 #[.val (.int p1), .val (.int p2), .val (.int (1 : Int32)), .val (.ref w1), .val (.double (FP.l2d (p2.toInt64))), .second, .val (.double (FP.l2d ((p2.toInt64) + (1 : Int64)))), .second, .val (.int (0 : Int32)), .val (.int (0 : Int32)), .unset, .unset] [])) _
      refine XS.iconst X163.here hx rfl (hb hby at_67) ?_
      show Steps p.tables e below (T163.setTop (mkF m 68 #[.val (.int p1), .val (.int p2), .val (.int (1 : Int32)), .val (.ref w1), .val (.double (FP.l2d (p2.toInt64))), .second, .val (.double (FP.l2d ((p2.toInt64) + (1 : Int64)))), .second, .val (.int (0 : Int32)), .val (.int (0 : Int32)), .unset, .unset] [(.int (0 : Int32))])) _
      refine XS.istore X163.here hx rfl (hb hby at_68) rfl (l' := #[.val (.int p1), .val (.int p2), .val (.int (1 : Int32)), .val (.ref w1), .val (.double (FP.l2d (p2.toInt64))), .second, .val (.double (FP.l2d ((p2.toInt64) + (1 : Int64)))), .second, .val (.int (0 : Int32)), .val (.int (0 : Int32)), .val (.int (0 : Int32)), .unset]) rfl ?_
      show Steps p.tables e below (T163.setTop (mkF m 70 #[.val (.int p1), .val (.int p2), .val (.int (1 : Int32)), .val (.ref w1), .val (.double (FP.l2d (p2.toInt64))), .second, .val (.double (FP.l2d ((p2.toInt64) + (1 : Int64)))), .second, .val (.int (0 : Int32)), .val (.int (0 : Int32)), .val (.int (0 : Int32)), .unset] [])) _
      refine XS.iloadN X163.here hx rfl (hb hby at_70) rfl ?_
      show Steps p.tables e below (T163.setTop (mkF m 71 #[.val (.int p1), .val (.int p2), .val (.int (1 : Int32)), .val (.ref w1), .val (.double (FP.l2d (p2.toInt64))), .second, .val (.double (FP.l2d ((p2.toInt64) + (1 : Int64)))), .second, .val (.int (0 : Int32)), .val (.int (0 : Int32)), .val (.int (0 : Int32)), .unset] [(.int (1 : Int32))])) _
      refine XS.iconst X163.here hx rfl (hb hby at_71) ?_
      exact kq)
    have go166 : Goes p e below s₁ (G_rm0 m p1 p2) T163 (mkF m 86 #[.val (.int p1), .val (.int p2), .val (.int (1 : Int32)), .val (.ref w1), .val (.double (FP.l2d (p2.toInt64))), .second, .val (.double (FP.l2d ((p2.toInt64) + (1 : Int64)))), .second, .val (.int (0 : Int32)), .val (.int (0 : Int32)), .val (.int (0 : Int32)), .val (.int (0 : Int32))] [(.int (0 : Int32)), (.int (0 : Int32))]) := fun tq kq => go165 tq (by
      show Steps p.tables e below (T163.setTop (mkF m 72 #[.val (.int p1), .val (.int p2), .val (.int (1 : Int32)), .val (.ref w1), .val (.double (FP.l2d (p2.toInt64))), .second, .val (.double (FP.l2d ((p2.toInt64) + (1 : Int64)))), .second, .val (.int (0 : Int32)), .val (.int (0 : Int32)), .val (.int (0 : Int32)), .unset] [(.int (2 : Int32)), (.int (1 : Int32))])) _
      refine XS.icmpYes X163.here hx rfl (pc0 := 72) (pc' := 79) rfl (hb hby at_72) rfl (tlt (by decide)).1 (by decide) (by decide) ?_
      show Steps p.tables e below (T163.setTop (mkF m 79 #[.val (.int p1), .val (.int p2), .val (.int (1 : Int32)), .val (.ref w1), .val (.double (FP.l2d (p2.toInt64))), .second, .val (.double (FP.l2d ((p2.toInt64) + (1 : Int64)))), .second, .val (.int (0 : Int32)), .val (.int (0 : Int32)), .val (.int (0 : Int32)), .unset] [])) _
      refine XS.iconst X163.here hx rfl (hb hby at_79) ?_
      show Steps p.tables e below (T163.setTop (mkF m 80 #[.val (.int p1), .val (.int p2), .val (.int (1 : Int32)), .val (.ref w1), .val (.double (FP.l2d (p2.toInt64))), .second, .val (.double (FP.l2d ((p2.toInt64) + (1 : Int64)))), .second, .val (.int (0 : Int32)), .val (.int (0 : Int32)), .val (.int (0 : Int32)), .unset] [(.int (0 : Int32))])) _
      refine XS.istore X163.here hx rfl (hb hby at_80) rfl (l' := #[.val (.int p1), .val (.int p2), .val (.int (1 : Int32)), .val (.ref w1), .val (.double (FP.l2d (p2.toInt64))), .second, .val (.double (FP.l2d ((p2.toInt64) + (1 : Int64)))), .second, .val (.int (0 : Int32)), .val (.int (0 : Int32)), .val (.int (0 : Int32)), .val (.int (0 : Int32))]) rfl ?_
      show Steps p.tables e below (T163.setTop (mkF m 82 #[.val (.int p1), .val (.int p2), .val (.int (1 : Int32)), .val (.ref w1), .val (.double (FP.l2d (p2.toInt64))), .second, .val (.double (FP.l2d ((p2.toInt64) + (1 : Int64)))), .second, .val (.int (0 : Int32)), .val (.int (0 : Int32)), .val (.int (0 : Int32)), .val (.int (0 : Int32))] [])) _
      refine XS.iload X163.here hx rfl (hb hby at_82) rfl ?_
      show Steps p.tables e below (T163.setTop (mkF m 84 #[.val (.int p1), .val (.int p2), .val (.int (1 : Int32)), .val (.ref w1), .val (.double (FP.l2d (p2.toInt64))), .second, .val (.double (FP.l2d ((p2.toInt64) + (1 : Int64)))), .second, .val (.int (0 : Int32)), .val (.int (0 : Int32)), .val (.int (0 : Int32)), .val (.int (0 : Int32))] [(.int (0 : Int32))])) _
      refine XS.iload X163.here hx rfl (hb hby at_84) rfl ?_
      exact kq)
    have go167 : Goes p e below s₁ (G_rm0 m p1 p2) T163 (mkF m 93 #[.val (.int p1), .val (.int p2), .val (.int (1 : Int32)), .val (.ref w1), .val (.double (FP.l2d (p2.toInt64))), .second, .val (.double (FP.l2d ((p2.toInt64) + (1 : Int64)))), .second, .val (.int (0 : Int32)), .val (.int (0 : Int32)), .val (.int (0 : Int32)), .val (.int (0 : Int32))] [(.int (0 : Int32)), (.int (0 : Int32))]) := fun tq kq => go166 tq (by
      show Steps p.tables e below (T163.setTop (mkF m 86 #[.val (.int p1), .val (.int p2), .val (.int (1 : Int32)), .val (.ref w1), .val (.double (FP.l2d (p2.toInt64))), .second, .val (.double (FP.l2d ((p2.toInt64) + (1 : Int64)))), .second, .val (.int (0 : Int32)), .val (.int (0 : Int32)), .val (.int (0 : Int32)), .val (.int (0 : Int32))] [(.int (0 : Int32)), (.int (0 : Int32))])) _
      refine XS.icmpNo X163.here hx rfl (hb hby at_86) rfl (teq rfl).2 ?_
      show Steps p.tables e below (T163.setTop (mkF m 89 #[.val (.int p1), .val (.int p2), .val (.int (1 : Int32)), .val (.ref w1), .val (.double (FP.l2d (p2.toInt64))), .second, .val (.double (FP.l2d ((p2.toInt64) + (1 : Int64)))), .second, .val (.int (0 : Int32)), .val (.int (0 : Int32)), .val (.int (0 : Int32)), .val (.int (0 : Int32))] [])) _
      refine XS.iload X163.here hx rfl (hb hby at_89) rfl ?_
      show Steps p.tables e below (T163.setTop (mkF m 91 #[.val (.int p1), .val (.int p2), .val (.int (1 : Int32)), .val (.ref w1), .val (.double (FP.l2d (p2.toInt64))), .second, .val (.double (FP.l2d ((p2.toInt64) + (1 : Int64)))), .second, .val (.int (0 : Int32)), .val (.int (0 : Int32)), .val (.int (0 : Int32)), .val (.int (0 : Int32))] [(.int (0 : Int32))])) _
      refine XS.iload X163.here hx rfl (hb hby at_91) rfl ?_
      exact kq)
    have go168 : Goes p e below s₁ (G_rm0 m p1 p2) T163 (mkF m 100 #[.val (.int p1), .val (.int p2), .val (.int (1 : Int32)), .val (.ref w1), .val (.double (FP.l2d (p2.toInt64))), .second, .val (.double (FP.l2d ((p2.toInt64) + (1 : Int64)))), .second, .val (.int (0 : Int32)), .val (.int (0 : Int32)), .val (.int (0 : Int32)), .val (.int (0 : Int32))] [(.int (0 : Int32)), (.int (0 : Int32))]) := fun tq kq => go167 tq (by
      show Steps p.tables e below (T163.setTop (mkF m 93 #[.val (.int p1), .val (.int p2), .val (.int (1 : Int32)), .val (.ref w1), .val (.double (FP.l2d (p2.toInt64))), .second, .val (.double (FP.l2d ((p2.toInt64) + (1 : Int64)))), .second, .val (.int (0 : Int32)), .val (.int (0 : Int32)), .val (.int (0 : Int32)), .val (.int (0 : Int32))] [(.int (0 : Int32)), (.int (0 : Int32))])) _
      refine XS.icmpNo X163.here hx rfl (hb hby at_93) rfl (teq rfl).2 ?_
      show Steps p.tables e below (T163.setTop (mkF m 96 #[.val (.int p1), .val (.int p2), .val (.int (1 : Int32)), .val (.ref w1), .val (.double (FP.l2d (p2.toInt64))), .second, .val (.double (FP.l2d ((p2.toInt64) + (1 : Int64)))), .second, .val (.int (0 : Int32)), .val (.int (0 : Int32)), .val (.int (0 : Int32)), .val (.int (0 : Int32))] [])) _
      refine XS.iload X163.here hx rfl (hb hby at_96) rfl ?_
      show Steps p.tables e below (T163.setTop (mkF m 98 #[.val (.int p1), .val (.int p2), .val (.int (1 : Int32)), .val (.ref w1), .val (.double (FP.l2d (p2.toInt64))), .second, .val (.double (FP.l2d ((p2.toInt64) + (1 : Int64)))), .second, .val (.int (0 : Int32)), .val (.int (0 : Int32)), .val (.int (0 : Int32)), .val (.int (0 : Int32))] [(.int (0 : Int32))])) _
      refine XS.iload X163.here hx rfl (hb hby at_98) rfl ?_
      exact kq)
    have go169 : Goes p e below s₁ (G_rm0 m p1 p2) T163 (mkF m 108 #[.val (.int p1), .val (.int p2), .val (.int (1 : Int32)), .val (.ref w1), .val (.double (FP.l2d (p2.toInt64))), .second, .val (.double (FP.l2d ((p2.toInt64) + (1 : Int64)))), .second, .val (.int (0 : Int32)), .val (.int (0 : Int32)), .val (.int (0 : Int32)), .val (.int (0 : Int32))] [(.int (1 : Int32))]) := fun tq kq => go168 tq (by
      show Steps p.tables e below (T163.setTop (mkF m 100 #[.val (.int p1), .val (.int p2), .val (.int (1 : Int32)), .val (.ref w1), .val (.double (FP.l2d (p2.toInt64))), .second, .val (.double (FP.l2d ((p2.toInt64) + (1 : Int64)))), .second, .val (.int (0 : Int32)), .val (.int (0 : Int32)), .val (.int (0 : Int32)), .val (.int (0 : Int32))] [(.int (0 : Int32)), (.int (0 : Int32))])) _
      refine XS.icmpNo X163.here hx rfl (hb hby at_100) rfl (teq rfl).2 ?_
      show Steps p.tables e below (T163.setTop (mkF m 103 #[.val (.int p1), .val (.int p2), .val (.int (1 : Int32)), .val (.ref w1), .val (.double (FP.l2d (p2.toInt64))), .second, .val (.double (FP.l2d ((p2.toInt64) + (1 : Int64)))), .second, .val (.int (0 : Int32)), .val (.int (0 : Int32)), .val (.int (0 : Int32)), .val (.int (0 : Int32))] [])) _
      refine XS.iconst X163.here hx rfl (hb hby at_103) ?_
      show Steps p.tables e below (T163.setTop (mkF m 104 #[.val (.int p1), .val (.int p2), .val (.int (1 : Int32)), .val (.ref w1), .val (.double (FP.l2d (p2.toInt64))), .second, .val (.double (FP.l2d ((p2.toInt64) + (1 : Int64)))), .second, .val (.int (0 : Int32)), .val (.int (0 : Int32)), .val (.int (0 : Int32)), .val (.int (0 : Int32))] [(.int (1 : Int32))])) _
      refine XS.goto X163.here hx rfl (pc0 := 104) (pc' := 108) rfl (hb hby at_104) (by decide) (by decide) ?_
      exact kq)
    obtain ⟨fs, hr, hrun, hended, hW, hsame⟩ := X163.leave (v := some (.int (1 : Int32))) (fun h => by rw [Bd.returns] at h; cases h)
    refine ⟨_, _, go169 _ ?_, hrun, hended, _, _, rfl, ?_, ⟨_, rfl⟩, hW, hsame.mono (by decide) (by decide)⟩
    · exact retN X163 hx (t := .boolean) Bd.returns (by simp) (hb hby at_108) hr
    · show Q_rm0 Z p1 p2 w0 w1 w2 w3 w4 w5 h0 n0 _ T163.heap _
      rw [eq163]
      exact ⟨rfl, N163⟩
  · have go170 : Goes p e below s₁ (G_rm0 m p1 p2) s₁ (mkF m 9 #[.val (.int p1), .val (.int p2), .val (.int (2 : Int32)), .unset, .unset, .unset, .unset, .unset, .unset, .unset, .unset, .unset] [(.int (2 : Int32))]) := fun tq kq => go137 tq (by
      show Steps p.tables e below (s₁.setTop (mkF m 8 #[.val (.int p1), .val (.int p2), .val (.int (2 : Int32)), .unset, .unset, .unset, .unset, .unset, .unset, .unset, .unset, .unset] [])) _
      refine XS.iloadN X0.here hx rfl (hb hby at_8) rfl ?_
      exact kq)
    obtain ⟨vv171, _, ⟨T171, L171, k171, n171⟩, -, X171, ⟨Lc171, hQ171, l171, y171, z171⟩, st171⟩ := Jvm.LawKit.callS X0 hx (y := (⟨"com/example/heft/heft/model/ComparisonOrdersNumbersPinLaw", "pick", "(I)Lcom/example/heft/heft/model/XPath$Comparison;"⟩ : MethodName)) hown (mvT hZ (tw1 hw)) (mvT hZ (tw2 hw)) (mvT hZ (tw3 hw)) (mvT hZ (tw4 hw)) (by decide) (backOf (W := 0) (pick2 l Z a0 hw []  w0 w1 w2 w3 w4 w5 h0 n0 Z0 S0 S1 S2 S3 S4 S5) hZ (tw4 hw) (tw3 hw) (by decide) (by decide)) (g := (mkF m 9 #[.val (.int p1), .val (.int p2), .val (.int (2 : Int32)), .unset, .unset, .unset, .unset, .unset, .unset, .unset, .unset, .unset] [(.int (2 : Int32))])) rfl (by rw [hml]; rfl) (argsL := [(.int (2 : Int32))]) (rest := []) (lenOf pd_1 rfl) rfl (by show 2 * 0 + _ ≤ _; exact Nat.le_of_eq rfl) (hb hby at_9) (fun _ _ => ⟨rfl, e0, (by decide : 0 + 0 ≤ _), (by decide : 0 + 0 ≤ _)⟩)
    dsimp only [Pt.U, Pt.locs, Pt.cells, Pt.slots] at X171 l171 y171 z171 st171 hQ171
    subst l171 y171 z171
    obtain ⟨rfl, Nq171, eq171⟩ := hQ171
    have N171 := Fr.app N0 Nq171
    have go171 : Goes p e below s₁ (G_rm0 m p1 p2) T171 (mkF m 12 #[.val (.int p1), .val (.int p2), .val (.int (2 : Int32)), .unset, .unset, .unset, .unset, .unset, .unset, .unset, .unset, .unset] [(.ref w2)]) := fun tq kq => go170 tq (st171 _ kq)
    have go172 : Goes p e below s₁ (G_rm0 m p1 p2) T171 (mkF m 24 #[.val (.int p1), .val (.int p2), .val (.int (2 : Int32)), .val (.ref w2), .val (.double (FP.l2d (p2.toInt64))), .second, .val (.double (FP.l2d ((p2.toInt64) + (1 : Int64)))), .second, .unset, .unset, .unset, .unset] [(.ref w2)]) := fun tq kq => go171 tq (by
      show Steps p.tables e below (T171.setTop (mkF m 12 #[.val (.int p1), .val (.int p2), .val (.int (2 : Int32)), .unset, .unset, .unset, .unset, .unset, .unset, .unset, .unset, .unset] [(.ref w2)])) _
      refine XS.astoreN X171.here hx rfl (hb hby at_12) rfl rfl (l' := #[.val (.int p1), .val (.int p2), .val (.int (2 : Int32)), .val (.ref w2), .unset, .unset, .unset, .unset, .unset, .unset, .unset, .unset]) rfl ?_
      show Steps p.tables e below (T171.setTop (mkF m 13 #[.val (.int p1), .val (.int p2), .val (.int (2 : Int32)), .val (.ref w2), .unset, .unset, .unset, .unset, .unset, .unset, .unset, .unset] [])) _
      refine XS.iloadN X171.here hx rfl (hb hby at_13) rfl ?_
      show Steps p.tables e below (T171.setTop (mkF m 14 #[.val (.int p1), .val (.int p2), .val (.int (2 : Int32)), .val (.ref w2), .unset, .unset, .unset, .unset, .unset, .unset, .unset, .unset] [(.int p2)])) _
      refine XS.i2dS X171.here hx rfl (hb hby at_14) rfl (i2d_w _) ?_
      show Steps p.tables e below (T171.setTop (mkF m 15 #[.val (.int p1), .val (.int p2), .val (.int (2 : Int32)), .val (.ref w2), .unset, .unset, .unset, .unset, .unset, .unset, .unset, .unset] [(.double (FP.l2d (p2.toInt64)))])) _
      refine XS.dstore X171.here hx rfl (hb hby at_15) rfl (l' := #[.val (.int p1), .val (.int p2), .val (.int (2 : Int32)), .val (.ref w2), .val (.double (FP.l2d (p2.toInt64))), .second, .unset, .unset, .unset, .unset, .unset, .unset]) rfl ?_
      show Steps p.tables e below (T171.setTop (mkF m 17 #[.val (.int p1), .val (.int p2), .val (.int (2 : Int32)), .val (.ref w2), .val (.double (FP.l2d (p2.toInt64))), .second, .unset, .unset, .unset, .unset, .unset, .unset] [])) _
      refine XS.dload X171.here hx rfl (hb hby at_17) rfl ?_
      show Steps p.tables e below (T171.setTop (mkF m 19 #[.val (.int p1), .val (.int p2), .val (.int (2 : Int32)), .val (.ref w2), .val (.double (FP.l2d (p2.toInt64))), .second, .unset, .unset, .unset, .unset, .unset, .unset] [(.double (FP.l2d (p2.toInt64)))])) _
      refine XS.dconst1 X171.here hx rfl (hb hby at_19) own_d1 ?_
      show Steps p.tables e below (T171.setTop (mkF m 20 #[.val (.int p1), .val (.int p2), .val (.int (2 : Int32)), .val (.ref w2), .val (.double (FP.l2d (p2.toInt64))), .second, .unset, .unset, .unset, .unset, .unset, .unset] [(.double (FP.l2d (1 : Int64))), (.double (FP.l2d (p2.toInt64)))])) _
      refine XS.daddS X171.here hx rfl (hb hby at_20) rfl (nn_w (dadd_w (own_b1 p2) own_o1)) (dadd_w (own_b1 p2) own_o1) ?_
      show Steps p.tables e below (T171.setTop (mkF m 21 #[.val (.int p1), .val (.int p2), .val (.int (2 : Int32)), .val (.ref w2), .val (.double (FP.l2d (p2.toInt64))), .second, .unset, .unset, .unset, .unset, .unset, .unset] [(.double (FP.l2d ((p2.toInt64) + (1 : Int64))))])) _
      refine XS.dstore X171.here hx rfl (hb hby at_21) rfl (l' := #[.val (.int p1), .val (.int p2), .val (.int (2 : Int32)), .val (.ref w2), .val (.double (FP.l2d (p2.toInt64))), .second, .val (.double (FP.l2d ((p2.toInt64) + (1 : Int64)))), .second, .unset, .unset, .unset, .unset]) rfl ?_
      show Steps p.tables e below (T171.setTop (mkF m 23 #[.val (.int p1), .val (.int p2), .val (.int (2 : Int32)), .val (.ref w2), .val (.double (FP.l2d (p2.toInt64))), .second, .val (.double (FP.l2d ((p2.toInt64) + (1 : Int64)))), .second, .unset, .unset, .unset, .unset] [])) _
      refine XS.aloadN X171.here hx rfl (hb hby at_23) rfl rfl ?_
      exact kq)
    obtain ⟨cq173, kq173, q173a, q173b, q173c⟩ := isOf hZ eq171 E2
    obtain ⟨vv173, _, ⟨T173, L173, k173, n173⟩, -, X173, ⟨Lc173, hQ173, l173, y173, z173⟩, st173⟩ := X171.virtualBack hx (y := (⟨"com/example/heft/heft/model/XPath$Comparison", "ordersNumbers", "()Z"⟩ : MethodName)) (z := (⟨"com/example/heft/heft/model/XPath$Comparison", "ordersNumbers", "()Z"⟩ : MethodName)) hown (mvT hZ (tw8 hw)) (mvT hZ (tw9 hw)) (notFace_of_selects (args := #[]) (mvT hZ (tw11 hw))) (mvT hZ (tw11 hw)) (mvT hZ (tw10 hw)) (by decide) (backOf (W := 0) (ord2 l Z a0 hw []  w0 w1 w2 w3 w4 w5 h0 n0 Z0 S0 S1 S2 S3 S4 S5 n20 n21) hZ (tw12 hw) (tw6 hw) (by decide) (by decide)) q173a q173c (g := (mkF m 24 #[.val (.int p1), .val (.int p2), .val (.int (2 : Int32)), .val (.ref w2), .val (.double (FP.l2d (p2.toInt64))), .second, .val (.double (FP.l2d ((p2.toInt64) + (1 : Int64)))), .second, .unset, .unset, .unset, .unset] [(.ref w2)])) rfl (by rw [hml]; rfl) (Steps.refl _) (argsL := []) (rest := []) (lenOf pd_2 rfl) rfl (by show 2 * 0 + _ ≤ _; exact Nat.le_of_eq rfl) (hb hby at_24) (fun _ _ => ⟨rfl, eq171, (by decide : 0 + 0 ≤ _), (by decide : 0 + 0 ≤ _)⟩)
    dsimp only [Pt.U, Pt.locs, Pt.cells, Pt.slots] at X173 l173 y173 z173 st173 hQ173
    subst l173 y173 z173
    obtain ⟨rfl, Nq173, eq173⟩ := hQ173
    have N173 := Fr.app N171 Nq173
    have go173 : Goes p e below s₁ (G_rm0 m p1 p2) T173 (mkF m 27 #[.val (.int p1), .val (.int p2), .val (.int (2 : Int32)), .val (.ref w2), .val (.double (FP.l2d (p2.toInt64))), .second, .val (.double (FP.l2d ((p2.toInt64) + (1 : Int64)))), .second, .unset, .unset, .unset, .unset] [(.int (1 : Int32))]) := fun tq kq => go172 tq (st173.trans kq)
    have go174 : Goes p e below s₁ (G_rm0 m p1 p2) T173 (mkF m 34 #[.val (.int p1), .val (.int p2), .val (.int (2 : Int32)), .val (.ref w2), .val (.double (FP.l2d (p2.toInt64))), .second, .val (.double (FP.l2d ((p2.toInt64) + (1 : Int64)))), .second, .val (.int (1 : Int32)), .unset, .unset, .unset] [(.double (FP.l2d ((p2.toInt64) + (1 : Int64)))), (.double (FP.l2d (p2.toInt64))), (.ref w2)]) := fun tq kq => go173 tq (by
      show Steps p.tables e below (T173.setTop (mkF m 27 #[.val (.int p1), .val (.int p2), .val (.int (2 : Int32)), .val (.ref w2), .val (.double (FP.l2d (p2.toInt64))), .second, .val (.double (FP.l2d ((p2.toInt64) + (1 : Int64)))), .second, .unset, .unset, .unset, .unset] [(.int (1 : Int32))])) _
      refine XS.istore X173.here hx rfl (hb hby at_27) rfl (l' := #[.val (.int p1), .val (.int p2), .val (.int (2 : Int32)), .val (.ref w2), .val (.double (FP.l2d (p2.toInt64))), .second, .val (.double (FP.l2d ((p2.toInt64) + (1 : Int64)))), .second, .val (.int (1 : Int32)), .unset, .unset, .unset]) rfl ?_
      show Steps p.tables e below (T173.setTop (mkF m 29 #[.val (.int p1), .val (.int p2), .val (.int (2 : Int32)), .val (.ref w2), .val (.double (FP.l2d (p2.toInt64))), .second, .val (.double (FP.l2d ((p2.toInt64) + (1 : Int64)))), .second, .val (.int (1 : Int32)), .unset, .unset, .unset] [])) _
      refine XS.aloadN X173.here hx rfl (hb hby at_29) rfl rfl ?_
      show Steps p.tables e below (T173.setTop (mkF m 30 #[.val (.int p1), .val (.int p2), .val (.int (2 : Int32)), .val (.ref w2), .val (.double (FP.l2d (p2.toInt64))), .second, .val (.double (FP.l2d ((p2.toInt64) + (1 : Int64)))), .second, .val (.int (1 : Int32)), .unset, .unset, .unset] [(.ref w2)])) _
      refine XS.dload X173.here hx rfl (hb hby at_30) rfl ?_
      show Steps p.tables e below (T173.setTop (mkF m 32 #[.val (.int p1), .val (.int p2), .val (.int (2 : Int32)), .val (.ref w2), .val (.double (FP.l2d (p2.toInt64))), .second, .val (.double (FP.l2d ((p2.toInt64) + (1 : Int64)))), .second, .val (.int (1 : Int32)), .unset, .unset, .unset] [(.double (FP.l2d (p2.toInt64))), (.ref w2)])) _
      refine XS.dload X173.here hx rfl (hb hby at_32) rfl ?_
      exact kq)
    obtain ⟨cq175, kq175, q175a, q175b, q175c⟩ := isOf hZ eq173 E2
    obtain ⟨vv175, _, ⟨T175, L175, k175, n175⟩, -, X175, ⟨Lc175, hQ175, l175, y175, z175⟩, st175⟩ := X173.virtualBack hx (y := (⟨"com/example/heft/heft/model/XPath$Comparison", "holds", "(DD)Z"⟩ : MethodName)) (z := (⟨"com/example/heft/heft/model/XPath$Comparison", "holds", "(DD)Z"⟩ : MethodName)) hown (mvT hZ (tw14 hw)) (mvT hZ (tw15 hw)) (notFace_of_selects (args := #[]) (mvT hZ (tw17 hw))) (mvT hZ (tw17 hw)) (mvT hZ (tw16 hw)) (by decide) (backOf (W := 0) (holds2l l Z a0 hw [] w2 (FP.l2d (p2.toInt64)) (FP.l2d ((p2.toInt64) + (1 : Int64))) (p2.toInt64) ((p2.toInt64) + (1 : Int64)) h0 n0 Z0 E2 O2 rfl rfl (own_b1 p2) (own_b2 p2) (own_ne p2) (own_lt p2) (own_nlt p2)) hZ (tw18 hw) (tw6 hw) (by decide) (by decide)) q175a q175c (g := (mkF m 34 #[.val (.int p1), .val (.int p2), .val (.int (2 : Int32)), .val (.ref w2), .val (.double (FP.l2d (p2.toInt64))), .second, .val (.double (FP.l2d ((p2.toInt64) + (1 : Int64)))), .second, .val (.int (1 : Int32)), .unset, .unset, .unset] [(.double (FP.l2d ((p2.toInt64) + (1 : Int64)))), (.double (FP.l2d (p2.toInt64))), (.ref w2)])) rfl (by rw [hml]; rfl) (Steps.refl _) (argsL := [(.double (FP.l2d (p2.toInt64))), (.double (FP.l2d ((p2.toInt64) + (1 : Int64))))]) (rest := []) (lenOf pd_3 rfl) rfl (by show 2 * 0 + _ ≤ _; exact Nat.le_of_eq rfl) (hb hby at_34) (fun _ _ => ⟨rfl, eq173, (by decide : 0 + 0 ≤ _), (by decide : 0 + 0 ≤ _)⟩)
    dsimp only [Pt.U, Pt.locs, Pt.cells, Pt.slots] at X175 l175 y175 z175 st175 hQ175
    subst l175 y175 z175
    obtain ⟨rfl, Nq175, eq175⟩ := hQ175
    have N175 := Fr.app N173 Nq175
    have go175 : Goes p e below s₁ (G_rm0 m p1 p2) T175 (mkF m 37 #[.val (.int p1), .val (.int p2), .val (.int (2 : Int32)), .val (.ref w2), .val (.double (FP.l2d (p2.toInt64))), .second, .val (.double (FP.l2d ((p2.toInt64) + (1 : Int64)))), .second, .val (.int (1 : Int32)), .unset, .unset, .unset] [(.int (1 : Int32))]) := fun tq kq => go174 tq (st175.trans kq)
    have go176 : Goes p e below s₁ (G_rm0 m p1 p2) T175 (mkF m 42 #[.val (.int p1), .val (.int p2), .val (.int (2 : Int32)), .val (.ref w2), .val (.double (FP.l2d (p2.toInt64))), .second, .val (.double (FP.l2d ((p2.toInt64) + (1 : Int64)))), .second, .val (.int (1 : Int32)), .unset, .unset, .unset] [(.double (FP.l2d (p2.toInt64))), (.double (FP.l2d ((p2.toInt64) + (1 : Int64)))), (.ref w2), (.int (1 : Int32))]) := fun tq kq => go175 tq (by
      show Steps p.tables e below (T175.setTop (mkF m 37 #[.val (.int p1), .val (.int p2), .val (.int (2 : Int32)), .val (.ref w2), .val (.double (FP.l2d (p2.toInt64))), .second, .val (.double (FP.l2d ((p2.toInt64) + (1 : Int64)))), .second, .val (.int (1 : Int32)), .unset, .unset, .unset] [(.int (1 : Int32))])) _
      refine XS.aloadN X175.here hx rfl (hb hby at_37) rfl rfl ?_
      show Steps p.tables e below (T175.setTop (mkF m 38 #[.val (.int p1), .val (.int p2), .val (.int (2 : Int32)), .val (.ref w2), .val (.double (FP.l2d (p2.toInt64))), .second, .val (.double (FP.l2d ((p2.toInt64) + (1 : Int64)))), .second, .val (.int (1 : Int32)), .unset, .unset, .unset] [(.ref w2), (.int (1 : Int32))])) _
      refine XS.dload X175.here hx rfl (hb hby at_38) rfl ?_
      show Steps p.tables e below (T175.setTop (mkF m 40 #[.val (.int p1), .val (.int p2), .val (.int (2 : Int32)), .val (.ref w2), .val (.double (FP.l2d (p2.toInt64))), .second, .val (.double (FP.l2d ((p2.toInt64) + (1 : Int64)))), .second, .val (.int (1 : Int32)), .unset, .unset, .unset] [(.double (FP.l2d ((p2.toInt64) + (1 : Int64)))), (.ref w2), (.int (1 : Int32))])) _
      refine XS.dload X175.here hx rfl (hb hby at_40) rfl ?_
      exact kq)
    obtain ⟨cq177, kq177, q177a, q177b, q177c⟩ := isOf hZ eq175 E2
    obtain ⟨vv177, _, ⟨T177, L177, k177, n177⟩, -, X177, ⟨Lc177, hQ177, l177, y177, z177⟩, st177⟩ := X175.virtualBack hx (y := (⟨"com/example/heft/heft/model/XPath$Comparison", "holds", "(DD)Z"⟩ : MethodName)) (z := (⟨"com/example/heft/heft/model/XPath$Comparison", "holds", "(DD)Z"⟩ : MethodName)) hown (mvT hZ (tw14 hw)) (mvT hZ (tw15 hw)) (notFace_of_selects (args := #[]) (mvT hZ (tw17 hw))) (mvT hZ (tw17 hw)) (mvT hZ (tw16 hw)) (by decide) (backOf (W := 1) (holds2g l Z a0 hw [] w2 (FP.l2d ((p2.toInt64) + (1 : Int64))) (FP.l2d (p2.toInt64)) ((p2.toInt64) + (1 : Int64)) (p2.toInt64) h0 n0 Z0 E2 O2 rfl rfl (own_b2 p2) (own_b1 p2) (fun q => own_ne p2 q.symm) (own_nlt p2) (own_lt p2)) hZ (tw18 hw) (tw6 hw) (by decide) (by decide)) q177a q177c (g := (mkF m 42 #[.val (.int p1), .val (.int p2), .val (.int (2 : Int32)), .val (.ref w2), .val (.double (FP.l2d (p2.toInt64))), .second, .val (.double (FP.l2d ((p2.toInt64) + (1 : Int64)))), .second, .val (.int (1 : Int32)), .unset, .unset, .unset] [(.double (FP.l2d (p2.toInt64))), (.double (FP.l2d ((p2.toInt64) + (1 : Int64)))), (.ref w2), (.int (1 : Int32))])) rfl (by rw [hml]; rfl) (Steps.refl _) (argsL := [(.double (FP.l2d ((p2.toInt64) + (1 : Int64)))), (.double (FP.l2d (p2.toInt64)))]) (rest := [(.int (1 : Int32))]) (lenOf pd_3 rfl) rfl (by show 2 * 0 + _ ≤ _; exact Nat.le_of_eq rfl) (hb hby at_42) (fun _ _ => ⟨rfl, eq175, (by decide : 0 + 0 ≤ _), (by decide : 0 + 0 ≤ _)⟩)
    dsimp only [Pt.U, Pt.locs, Pt.cells, Pt.slots] at X177 l177 y177 z177 st177 hQ177
    subst l177 y177 z177
    obtain ⟨rfl, Nq177, eq177⟩ := hQ177
    have N177 := Fr.app N175 Nq177
    have go177 : Goes p e below s₁ (G_rm0 m p1 p2) T177 (mkF m 45 #[.val (.int p1), .val (.int p2), .val (.int (2 : Int32)), .val (.ref w2), .val (.double (FP.l2d (p2.toInt64))), .second, .val (.double (FP.l2d ((p2.toInt64) + (1 : Int64)))), .second, .val (.int (1 : Int32)), .unset, .unset, .unset] [(.int (0 : Int32)), (.int (1 : Int32))]) := fun tq kq => go176 tq (st177.trans kq)
    have go178 : Goes p e below s₁ (G_rm0 m p1 p2) T177 (mkF m 56 #[.val (.int p1), .val (.int p2), .val (.int (2 : Int32)), .val (.ref w2), .val (.double (FP.l2d (p2.toInt64))), .second, .val (.double (FP.l2d ((p2.toInt64) + (1 : Int64)))), .second, .val (.int (1 : Int32)), .val (.int (1 : Int32)), .unset, .unset] [(.ref w2)]) := fun tq kq => go177 tq (by
      show Steps p.tables e below (T177.setTop (mkF m 45 #[.val (.int p1), .val (.int p2), .val (.int (2 : Int32)), .val (.ref w2), .val (.double (FP.l2d (p2.toInt64))), .second, .val (.double (FP.l2d ((p2.toInt64) + (1 : Int64)))), .second, .val (.int (1 : Int32)), .unset, .unset, .unset] [(.int (0 : Int32)), (.int (1 : Int32))])) _
      refine XS.icmpNo X177.here hx rfl (hb hby at_45) rfl (feq (by decide)).1 ?_
      show Steps p.tables e below (T177.setTop (mkF m 48 #[.val (.int p1), .val (.int p2), .val (.int (2 : Int32)), .val (.ref w2), .val (.double (FP.l2d (p2.toInt64))), .second, .val (.double (FP.l2d ((p2.toInt64) + (1 : Int64)))), .second, .val (.int (1 : Int32)), .unset, .unset, .unset] [])) _
      refine XS.iconst X177.here hx rfl (hb hby at_48) ?_
      show Steps p.tables e below (T177.setTop (mkF m 49 #[.val (.int p1), .val (.int p2), .val (.int (2 : Int32)), .val (.ref w2), .val (.double (FP.l2d (p2.toInt64))), .second, .val (.double (FP.l2d ((p2.toInt64) + (1 : Int64)))), .second, .val (.int (1 : Int32)), .unset, .unset, .unset] [(.int (1 : Int32))])) _
      refine XS.goto X177.here hx rfl (pc0 := 49) (pc' := 53) rfl (hb hby at_49) (by decide) (by decide) ?_
      show Steps p.tables e below (T177.setTop (mkF m 53 #[.val (.int p1), .val (.int p2), .val (.int (2 : Int32)), .val (.ref w2), .val (.double (FP.l2d (p2.toInt64))), .second, .val (.double (FP.l2d ((p2.toInt64) + (1 : Int64)))), .second, .val (.int (1 : Int32)), .unset, .unset, .unset] [(.int (1 : Int32))])) _
      refine XS.istore X177.here hx rfl (hb hby at_53) rfl (l' := #[.val (.int p1), .val (.int p2), .val (.int (2 : Int32)), .val (.ref w2), .val (.double (FP.l2d (p2.toInt64))), .second, .val (.double (FP.l2d ((p2.toInt64) + (1 : Int64)))), .second, .val (.int (1 : Int32)), .val (.int (1 : Int32)), .unset, .unset]) rfl ?_
      show Steps p.tables e below (T177.setTop (mkF m 55 #[.val (.int p1), .val (.int p2), .val (.int (2 : Int32)), .val (.ref w2), .val (.double (FP.l2d (p2.toInt64))), .second, .val (.double (FP.l2d ((p2.toInt64) + (1 : Int64)))), .second, .val (.int (1 : Int32)), .val (.int (1 : Int32)), .unset, .unset] [])) _
      refine XS.aloadN X177.here hx rfl (hb hby at_55) rfl rfl ?_
      exact kq)
    obtain ⟨cq179, kq179, q179a, q179b, q179c⟩ := isOf hZ eq177 E2
    obtain ⟨vv179, _, ⟨T179, L179, k179, n179⟩, -, X179, ⟨Lc179, hQ179, l179, y179, z179⟩, st179⟩ := X177.virtualBack hx (y := (⟨"com/example/heft/heft/model/XPath$Comparison", "swapped", "()Lcom/example/heft/heft/model/XPath$Comparison;"⟩ : MethodName)) (z := (⟨"com/example/heft/heft/model/XPath$Comparison", "swapped", "()Lcom/example/heft/heft/model/XPath$Comparison;"⟩ : MethodName)) hown (mvT hZ (tw28 hw)) (mvT hZ (tw29 hw)) (notFace_of_selects (args := #[]) (mvT hZ (tw31 hw))) (mvT hZ (tw31 hw)) (mvT hZ (tw30 hw)) (by decide) (backOf (W := 0) (swap2 l Z a0 hw []  w0 w1 w2 w3 w4 w5 h0 n0 Z0 S0 S1 S2 S3 S4 S5 E2 O2) hZ (tw32 hw) (tw6 hw) (by decide) (by decide)) q179a q179c (g := (mkF m 56 #[.val (.int p1), .val (.int p2), .val (.int (2 : Int32)), .val (.ref w2), .val (.double (FP.l2d (p2.toInt64))), .second, .val (.double (FP.l2d ((p2.toInt64) + (1 : Int64)))), .second, .val (.int (1 : Int32)), .val (.int (1 : Int32)), .unset, .unset] [(.ref w2)])) rfl (by rw [hml]; rfl) (Steps.refl _) (argsL := []) (rest := []) (lenOf pd_4 rfl) rfl (by show 2 * 0 + _ ≤ _; exact Nat.le_of_eq rfl) (hb hby at_56) (fun _ _ => ⟨rfl, eq177, (by decide : 0 + 0 ≤ _), (by decide : 0 + 0 ≤ _)⟩)
    dsimp only [Pt.U, Pt.locs, Pt.cells, Pt.slots] at X179 l179 y179 z179 st179 hQ179
    subst l179 y179 z179
    obtain ⟨rfl, Nq179, eq179⟩ := hQ179
    have N179 := Fr.app N177 Nq179
    have go179 : Goes p e below s₁ (G_rm0 m p1 p2) T179 (mkF m 59 #[.val (.int p1), .val (.int p2), .val (.int (2 : Int32)), .val (.ref w2), .val (.double (FP.l2d (p2.toInt64))), .second, .val (.double (FP.l2d ((p2.toInt64) + (1 : Int64)))), .second, .val (.int (1 : Int32)), .val (.int (1 : Int32)), .unset, .unset] [(.ref w4)]) := fun tq kq => go178 tq (st179.trans kq)
    have go180 : Goes p e below s₁ (G_rm0 m p1 p2) T179 (mkF m 60 #[.val (.int p1), .val (.int p2), .val (.int (2 : Int32)), .val (.ref w2), .val (.double (FP.l2d (p2.toInt64))), .second, .val (.double (FP.l2d ((p2.toInt64) + (1 : Int64)))), .second, .val (.int (1 : Int32)), .val (.int (1 : Int32)), .unset, .unset] [(.ref w2), (.ref w4)]) := fun tq kq => go179 tq (by
      show Steps p.tables e below (T179.setTop (mkF m 59 #[.val (.int p1), .val (.int p2), .val (.int (2 : Int32)), .val (.ref w2), .val (.double (FP.l2d (p2.toInt64))), .second, .val (.double (FP.l2d ((p2.toInt64) + (1 : Int64)))), .second, .val (.int (1 : Int32)), .val (.int (1 : Int32)), .unset, .unset] [(.ref w4)])) _
      refine XS.aloadN X179.here hx rfl (hb hby at_59) rfl rfl ?_
      exact kq)
    have go181 : Goes p e below s₁ (G_rm0 m p1 p2) T179 (mkF m 72 #[.val (.int p1), .val (.int p2), .val (.int (2 : Int32)), .val (.ref w2), .val (.double (FP.l2d (p2.toInt64))), .second, .val (.double (FP.l2d ((p2.toInt64) + (1 : Int64)))), .second, .val (.int (1 : Int32)), .val (.int (1 : Int32)), .val (.int (1 : Int32)), .unset] [(.int (2 : Int32)), (.int (2 : Int32))]) := fun tq kq => go180 tq (by
      show Steps p.tables e below (T179.setTop (mkF m 60 #[.val (.int p1), .val (.int p2), .val (.int (2 : Int32)), .val (.ref w2), .val (.double (FP.l2d (p2.toInt64))), .second, .val (.double (FP.l2d ((p2.toInt64) + (1 : Int64)))), .second, .val (.int (1 : Int32)), .val (.int (1 : Int32)), .unset, .unset] [(.ref w2), (.ref w4)])) _
      refine Jvm.RoadKit.acmp (g := (mkF m 60 #[.val (.int p1), .val (.int p2), .val (.int (2 : Int32)), .val (.ref w2), .val (.double (FP.l2d (p2.toInt64))), .second, .val (.double (FP.l2d ((p2.toInt64) + (1 : Int64)))), .second, .val (.int (1 : Int32)), .val (.int (1 : Int32)), .unset, .unset] [(.ref w2), (.ref w4)])) X179 hx rfl rfl rfl (pc0 := 60) (pc' := 63) (same := false) rfl (hb hby at_60) rfl (decide_eq_false fun q => (fun q => n42 q) (Value.ref.inj q)) (by decide) (by decide) ?_
      show Steps p.tables e below (T179.setTop (mkF m 63 #[.val (.int p1), .val (.int p2), .val (.int (2 : Int32)), .val (.ref w2), .val (.double (FP.l2d (p2.toInt64))), .second, .val (.double (FP.l2d ((p2.toInt64) + (1 : Int64)))), .second, .val (.int (1 : Int32)), .val (.int (1 : Int32)), .unset, .unset] [])) _
      refine XS.iconst X179.here hx rfl (hb hby at_63) ?_
      show Steps p.tables e below (T179.setTop (mkF m 64 #[.val (.int p1), .val (.int p2), .val (.int (2 : Int32)), .val (.ref w2), .val (.double (FP.l2d (p2.toInt64))), .second, .val (.double (FP.l2d ((p2.toInt64) + (1 : Int64)))), .second, .val (.int (1 : Int32)), .val (.int (1 : Int32)), .unset, .unset] [(.int (1 : Int32))])) _
      refine XS.goto X179.here hx rfl (pc0 := 64) (pc' := 68) rfl (hb hby at_64) (by decide) (by decide) ?_
      show Steps p.tables e below (T179.setTop (mkF m 68 #[.val (.int p1), .val (.int p2), .val (.int (2 : Int32)), .val (.ref w2), .val (.double (FP.l2d (p2.toInt64))), .second, .val (.double (FP.l2d ((p2.toInt64) + (1 : Int64)))), .second, .val (.int (1 : Int32)), .val (.int (1 : Int32)), .unset, .unset] [(.int (1 : Int32))])) _
      refine XS.istore X179.here hx rfl (hb hby at_68) rfl (l' := #[.val (.int p1), .val (.int p2), .val (.int (2 : Int32)), .val (.ref w2), .val (.double (FP.l2d (p2.toInt64))), .second, .val (.double (FP.l2d ((p2.toInt64) + (1 : Int64)))), .second, .val (.int (1 : Int32)), .val (.int (1 : Int32)), .val (.int (1 : Int32)), .unset]) rfl ?_
      show Steps p.tables e below (T179.setTop (mkF m 70 #[.val (.int p1), .val (.int p2), .val (.int (2 : Int32)), .val (.ref w2), .val (.double (FP.l2d (p2.toInt64))), .second, .val (.double (FP.l2d ((p2.toInt64) + (1 : Int64)))), .second, .val (.int (1 : Int32)), .val (.int (1 : Int32)), .val (.int (1 : Int32)), .unset] [])) _
      refine XS.iloadN X179.here hx rfl (hb hby at_70) rfl ?_
      show Steps p.tables e below (T179.setTop (mkF m 71 #[.val (.int p1), .val (.int p2), .val (.int (2 : Int32)), .val (.ref w2), .val (.double (FP.l2d (p2.toInt64))), .second, .val (.double (FP.l2d ((p2.toInt64) + (1 : Int64)))), .second, .val (.int (1 : Int32)), .val (.int (1 : Int32)), .val (.int (1 : Int32)), .unset] [(.int (2 : Int32))])) _
      refine XS.iconst X179.here hx rfl (hb hby at_71) ?_
      exact kq)
    have go182 : Goes p e below s₁ (G_rm0 m p1 p2) T179 (mkF m 86 #[.val (.int p1), .val (.int p2), .val (.int (2 : Int32)), .val (.ref w2), .val (.double (FP.l2d (p2.toInt64))), .second, .val (.double (FP.l2d ((p2.toInt64) + (1 : Int64)))), .second, .val (.int (1 : Int32)), .val (.int (1 : Int32)), .val (.int (1 : Int32)), .val (.int (1 : Int32))] [(.int (1 : Int32)), (.int (1 : Int32))]) := fun tq kq => go181 tq (by
      show Steps p.tables e below (T179.setTop (mkF m 72 #[.val (.int p1), .val (.int p2), .val (.int (2 : Int32)), .val (.ref w2), .val (.double (FP.l2d (p2.toInt64))), .second, .val (.double (FP.l2d ((p2.toInt64) + (1 : Int64)))), .second, .val (.int (1 : Int32)), .val (.int (1 : Int32)), .val (.int (1 : Int32)), .unset] [(.int (2 : Int32)), (.int (2 : Int32))])) _
      refine XS.icmpNo X179.here hx rfl (hb hby at_72) rfl (flt (by decide)).1 ?_
      show Steps p.tables e below (T179.setTop (mkF m 75 #[.val (.int p1), .val (.int p2), .val (.int (2 : Int32)), .val (.ref w2), .val (.double (FP.l2d (p2.toInt64))), .second, .val (.double (FP.l2d ((p2.toInt64) + (1 : Int64)))), .second, .val (.int (1 : Int32)), .val (.int (1 : Int32)), .val (.int (1 : Int32)), .unset] [])) _
      refine XS.iconst X179.here hx rfl (hb hby at_75) ?_
      show Steps p.tables e below (T179.setTop (mkF m 76 #[.val (.int p1), .val (.int p2), .val (.int (2 : Int32)), .val (.ref w2), .val (.double (FP.l2d (p2.toInt64))), .second, .val (.double (FP.l2d ((p2.toInt64) + (1 : Int64)))), .second, .val (.int (1 : Int32)), .val (.int (1 : Int32)), .val (.int (1 : Int32)), .unset] [(.int (1 : Int32))])) _
      refine XS.goto X179.here hx rfl (pc0 := 76) (pc' := 80) rfl (hb hby at_76) (by decide) (by decide) ?_
      show Steps p.tables e below (T179.setTop (mkF m 80 #[.val (.int p1), .val (.int p2), .val (.int (2 : Int32)), .val (.ref w2), .val (.double (FP.l2d (p2.toInt64))), .second, .val (.double (FP.l2d ((p2.toInt64) + (1 : Int64)))), .second, .val (.int (1 : Int32)), .val (.int (1 : Int32)), .val (.int (1 : Int32)), .unset] [(.int (1 : Int32))])) _
      refine XS.istore X179.here hx rfl (hb hby at_80) rfl (l' := #[.val (.int p1), .val (.int p2), .val (.int (2 : Int32)), .val (.ref w2), .val (.double (FP.l2d (p2.toInt64))), .second, .val (.double (FP.l2d ((p2.toInt64) + (1 : Int64)))), .second, .val (.int (1 : Int32)), .val (.int (1 : Int32)), .val (.int (1 : Int32)), .val (.int (1 : Int32))]) rfl ?_
      show Steps p.tables e below (T179.setTop (mkF m 82 #[.val (.int p1), .val (.int p2), .val (.int (2 : Int32)), .val (.ref w2), .val (.double (FP.l2d (p2.toInt64))), .second, .val (.double (FP.l2d ((p2.toInt64) + (1 : Int64)))), .second, .val (.int (1 : Int32)), .val (.int (1 : Int32)), .val (.int (1 : Int32)), .val (.int (1 : Int32))] [])) _
      refine XS.iload X179.here hx rfl (hb hby at_82) rfl ?_
      show Steps p.tables e below (T179.setTop (mkF m 84 #[.val (.int p1), .val (.int p2), .val (.int (2 : Int32)), .val (.ref w2), .val (.double (FP.l2d (p2.toInt64))), .second, .val (.double (FP.l2d ((p2.toInt64) + (1 : Int64)))), .second, .val (.int (1 : Int32)), .val (.int (1 : Int32)), .val (.int (1 : Int32)), .val (.int (1 : Int32))] [(.int (1 : Int32))])) _
      refine XS.iload X179.here hx rfl (hb hby at_84) rfl ?_
      exact kq)
    have go183 : Goes p e below s₁ (G_rm0 m p1 p2) T179 (mkF m 93 #[.val (.int p1), .val (.int p2), .val (.int (2 : Int32)), .val (.ref w2), .val (.double (FP.l2d (p2.toInt64))), .second, .val (.double (FP.l2d ((p2.toInt64) + (1 : Int64)))), .second, .val (.int (1 : Int32)), .val (.int (1 : Int32)), .val (.int (1 : Int32)), .val (.int (1 : Int32))] [(.int (1 : Int32)), (.int (1 : Int32))]) := fun tq kq => go182 tq (by
      show Steps p.tables e below (T179.setTop (mkF m 86 #[.val (.int p1), .val (.int p2), .val (.int (2 : Int32)), .val (.ref w2), .val (.double (FP.l2d (p2.toInt64))), .second, .val (.double (FP.l2d ((p2.toInt64) + (1 : Int64)))), .second, .val (.int (1 : Int32)), .val (.int (1 : Int32)), .val (.int (1 : Int32)), .val (.int (1 : Int32))] [(.int (1 : Int32)), (.int (1 : Int32))])) _
      refine XS.icmpNo X179.here hx rfl (hb hby at_86) rfl (teq rfl).2 ?_
      show Steps p.tables e below (T179.setTop (mkF m 89 #[.val (.int p1), .val (.int p2), .val (.int (2 : Int32)), .val (.ref w2), .val (.double (FP.l2d (p2.toInt64))), .second, .val (.double (FP.l2d ((p2.toInt64) + (1 : Int64)))), .second, .val (.int (1 : Int32)), .val (.int (1 : Int32)), .val (.int (1 : Int32)), .val (.int (1 : Int32))] [])) _
      refine XS.iload X179.here hx rfl (hb hby at_89) rfl ?_
      show Steps p.tables e below (T179.setTop (mkF m 91 #[.val (.int p1), .val (.int p2), .val (.int (2 : Int32)), .val (.ref w2), .val (.double (FP.l2d (p2.toInt64))), .second, .val (.double (FP.l2d ((p2.toInt64) + (1 : Int64)))), .second, .val (.int (1 : Int32)), .val (.int (1 : Int32)), .val (.int (1 : Int32)), .val (.int (1 : Int32))] [(.int (1 : Int32))])) _
      refine XS.iload X179.here hx rfl (hb hby at_91) rfl ?_
      exact kq)
    have go184 : Goes p e below s₁ (G_rm0 m p1 p2) T179 (mkF m 100 #[.val (.int p1), .val (.int p2), .val (.int (2 : Int32)), .val (.ref w2), .val (.double (FP.l2d (p2.toInt64))), .second, .val (.double (FP.l2d ((p2.toInt64) + (1 : Int64)))), .second, .val (.int (1 : Int32)), .val (.int (1 : Int32)), .val (.int (1 : Int32)), .val (.int (1 : Int32))] [(.int (1 : Int32)), (.int (1 : Int32))]) := fun tq kq => go183 tq (by
      show Steps p.tables e below (T179.setTop (mkF m 93 #[.val (.int p1), .val (.int p2), .val (.int (2 : Int32)), .val (.ref w2), .val (.double (FP.l2d (p2.toInt64))), .second, .val (.double (FP.l2d ((p2.toInt64) + (1 : Int64)))), .second, .val (.int (1 : Int32)), .val (.int (1 : Int32)), .val (.int (1 : Int32)), .val (.int (1 : Int32))] [(.int (1 : Int32)), (.int (1 : Int32))])) _
      refine XS.icmpNo X179.here hx rfl (hb hby at_93) rfl (teq rfl).2 ?_
      show Steps p.tables e below (T179.setTop (mkF m 96 #[.val (.int p1), .val (.int p2), .val (.int (2 : Int32)), .val (.ref w2), .val (.double (FP.l2d (p2.toInt64))), .second, .val (.double (FP.l2d ((p2.toInt64) + (1 : Int64)))), .second, .val (.int (1 : Int32)), .val (.int (1 : Int32)), .val (.int (1 : Int32)), .val (.int (1 : Int32))] [])) _
      refine XS.iload X179.here hx rfl (hb hby at_96) rfl ?_
      show Steps p.tables e below (T179.setTop (mkF m 98 #[.val (.int p1), .val (.int p2), .val (.int (2 : Int32)), .val (.ref w2), .val (.double (FP.l2d (p2.toInt64))), .second, .val (.double (FP.l2d ((p2.toInt64) + (1 : Int64)))), .second, .val (.int (1 : Int32)), .val (.int (1 : Int32)), .val (.int (1 : Int32)), .val (.int (1 : Int32))] [(.int (1 : Int32))])) _
      refine XS.iload X179.here hx rfl (hb hby at_98) rfl ?_
      exact kq)
    have go185 : Goes p e below s₁ (G_rm0 m p1 p2) T179 (mkF m 108 #[.val (.int p1), .val (.int p2), .val (.int (2 : Int32)), .val (.ref w2), .val (.double (FP.l2d (p2.toInt64))), .second, .val (.double (FP.l2d ((p2.toInt64) + (1 : Int64)))), .second, .val (.int (1 : Int32)), .val (.int (1 : Int32)), .val (.int (1 : Int32)), .val (.int (1 : Int32))] [(.int (1 : Int32))]) := fun tq kq => go184 tq (by
      show Steps p.tables e below (T179.setTop (mkF m 100 #[.val (.int p1), .val (.int p2), .val (.int (2 : Int32)), .val (.ref w2), .val (.double (FP.l2d (p2.toInt64))), .second, .val (.double (FP.l2d ((p2.toInt64) + (1 : Int64)))), .second, .val (.int (1 : Int32)), .val (.int (1 : Int32)), .val (.int (1 : Int32)), .val (.int (1 : Int32))] [(.int (1 : Int32)), (.int (1 : Int32))])) _
      refine XS.icmpNo X179.here hx rfl (hb hby at_100) rfl (teq rfl).2 ?_
      show Steps p.tables e below (T179.setTop (mkF m 103 #[.val (.int p1), .val (.int p2), .val (.int (2 : Int32)), .val (.ref w2), .val (.double (FP.l2d (p2.toInt64))), .second, .val (.double (FP.l2d ((p2.toInt64) + (1 : Int64)))), .second, .val (.int (1 : Int32)), .val (.int (1 : Int32)), .val (.int (1 : Int32)), .val (.int (1 : Int32))] [])) _
      refine XS.iconst X179.here hx rfl (hb hby at_103) ?_
      show Steps p.tables e below (T179.setTop (mkF m 104 #[.val (.int p1), .val (.int p2), .val (.int (2 : Int32)), .val (.ref w2), .val (.double (FP.l2d (p2.toInt64))), .second, .val (.double (FP.l2d ((p2.toInt64) + (1 : Int64)))), .second, .val (.int (1 : Int32)), .val (.int (1 : Int32)), .val (.int (1 : Int32)), .val (.int (1 : Int32))] [(.int (1 : Int32))])) _
      refine XS.goto X179.here hx rfl (pc0 := 104) (pc' := 108) rfl (hb hby at_104) (by decide) (by decide) ?_
      exact kq)
    obtain ⟨fs, hr, hrun, hended, hW, hsame⟩ := X179.leave (v := some (.int (1 : Int32))) (fun h => by rw [Bd.returns] at h; cases h)
    refine ⟨_, _, go185 _ ?_, hrun, hended, _, _, rfl, ?_, ⟨_, rfl⟩, hW, hsame.mono (by decide) (by decide)⟩
    · exact retN X179 hx (t := .boolean) Bd.returns (by simp) (hb hby at_108) hr
    · show Q_rm0 Z p1 p2 w0 w1 w2 w3 w4 w5 h0 n0 _ T179.heap _
      rw [eq179]
      exact ⟨rfl, N179⟩
  · have go186 : Goes p e below s₁ (G_rm0 m p1 p2) s₁ (mkF m 9 #[.val (.int p1), .val (.int p2), .val (.int (3 : Int32)), .unset, .unset, .unset, .unset, .unset, .unset, .unset, .unset, .unset] [(.int (3 : Int32))]) := fun tq kq => go137 tq (by
      show Steps p.tables e below (s₁.setTop (mkF m 8 #[.val (.int p1), .val (.int p2), .val (.int (3 : Int32)), .unset, .unset, .unset, .unset, .unset, .unset, .unset, .unset, .unset] [])) _
      refine XS.iloadN X0.here hx rfl (hb hby at_8) rfl ?_
      exact kq)
    obtain ⟨vv187, _, ⟨T187, L187, k187, n187⟩, -, X187, ⟨Lc187, hQ187, l187, y187, z187⟩, st187⟩ := Jvm.LawKit.callS X0 hx (y := (⟨"com/example/heft/heft/model/ComparisonOrdersNumbersPinLaw", "pick", "(I)Lcom/example/heft/heft/model/XPath$Comparison;"⟩ : MethodName)) hown (mvT hZ (tw1 hw)) (mvT hZ (tw2 hw)) (mvT hZ (tw3 hw)) (mvT hZ (tw4 hw)) (by decide) (backOf (W := 0) (pick3 l Z a0 hw []  w0 w1 w2 w3 w4 w5 h0 n0 Z0 S0 S1 S2 S3 S4 S5) hZ (tw4 hw) (tw3 hw) (by decide) (by decide)) (g := (mkF m 9 #[.val (.int p1), .val (.int p2), .val (.int (3 : Int32)), .unset, .unset, .unset, .unset, .unset, .unset, .unset, .unset, .unset] [(.int (3 : Int32))])) rfl (by rw [hml]; rfl) (argsL := [(.int (3 : Int32))]) (rest := []) (lenOf pd_1 rfl) rfl (by show 2 * 0 + _ ≤ _; exact Nat.le_of_eq rfl) (hb hby at_9) (fun _ _ => ⟨rfl, e0, (by decide : 0 + 0 ≤ _), (by decide : 0 + 0 ≤ _)⟩)
    dsimp only [Pt.U, Pt.locs, Pt.cells, Pt.slots] at X187 l187 y187 z187 st187 hQ187
    subst l187 y187 z187
    obtain ⟨rfl, Nq187, eq187⟩ := hQ187
    have N187 := Fr.app N0 Nq187
    have go187 : Goes p e below s₁ (G_rm0 m p1 p2) T187 (mkF m 12 #[.val (.int p1), .val (.int p2), .val (.int (3 : Int32)), .unset, .unset, .unset, .unset, .unset, .unset, .unset, .unset, .unset] [(.ref w3)]) := fun tq kq => go186 tq (st187 _ kq)
    have go188 : Goes p e below s₁ (G_rm0 m p1 p2) T187 (mkF m 24 #[.val (.int p1), .val (.int p2), .val (.int (3 : Int32)), .val (.ref w3), .val (.double (FP.l2d (p2.toInt64))), .second, .val (.double (FP.l2d ((p2.toInt64) + (1 : Int64)))), .second, .unset, .unset, .unset, .unset] [(.ref w3)]) := fun tq kq => go187 tq (by
      show Steps p.tables e below (T187.setTop (mkF m 12 #[.val (.int p1), .val (.int p2), .val (.int (3 : Int32)), .unset, .unset, .unset, .unset, .unset, .unset, .unset, .unset, .unset] [(.ref w3)])) _
      refine XS.astoreN X187.here hx rfl (hb hby at_12) rfl rfl (l' := #[.val (.int p1), .val (.int p2), .val (.int (3 : Int32)), .val (.ref w3), .unset, .unset, .unset, .unset, .unset, .unset, .unset, .unset]) rfl ?_
      show Steps p.tables e below (T187.setTop (mkF m 13 #[.val (.int p1), .val (.int p2), .val (.int (3 : Int32)), .val (.ref w3), .unset, .unset, .unset, .unset, .unset, .unset, .unset, .unset] [])) _
      refine XS.iloadN X187.here hx rfl (hb hby at_13) rfl ?_
      show Steps p.tables e below (T187.setTop (mkF m 14 #[.val (.int p1), .val (.int p2), .val (.int (3 : Int32)), .val (.ref w3), .unset, .unset, .unset, .unset, .unset, .unset, .unset, .unset] [(.int p2)])) _
      refine XS.i2dS X187.here hx rfl (hb hby at_14) rfl (i2d_w _) ?_
      show Steps p.tables e below (T187.setTop (mkF m 15 #[.val (.int p1), .val (.int p2), .val (.int (3 : Int32)), .val (.ref w3), .unset, .unset, .unset, .unset, .unset, .unset, .unset, .unset] [(.double (FP.l2d (p2.toInt64)))])) _
      refine XS.dstore X187.here hx rfl (hb hby at_15) rfl (l' := #[.val (.int p1), .val (.int p2), .val (.int (3 : Int32)), .val (.ref w3), .val (.double (FP.l2d (p2.toInt64))), .second, .unset, .unset, .unset, .unset, .unset, .unset]) rfl ?_
      show Steps p.tables e below (T187.setTop (mkF m 17 #[.val (.int p1), .val (.int p2), .val (.int (3 : Int32)), .val (.ref w3), .val (.double (FP.l2d (p2.toInt64))), .second, .unset, .unset, .unset, .unset, .unset, .unset] [])) _
      refine XS.dload X187.here hx rfl (hb hby at_17) rfl ?_
      show Steps p.tables e below (T187.setTop (mkF m 19 #[.val (.int p1), .val (.int p2), .val (.int (3 : Int32)), .val (.ref w3), .val (.double (FP.l2d (p2.toInt64))), .second, .unset, .unset, .unset, .unset, .unset, .unset] [(.double (FP.l2d (p2.toInt64)))])) _
      refine XS.dconst1 X187.here hx rfl (hb hby at_19) own_d1 ?_
      show Steps p.tables e below (T187.setTop (mkF m 20 #[.val (.int p1), .val (.int p2), .val (.int (3 : Int32)), .val (.ref w3), .val (.double (FP.l2d (p2.toInt64))), .second, .unset, .unset, .unset, .unset, .unset, .unset] [(.double (FP.l2d (1 : Int64))), (.double (FP.l2d (p2.toInt64)))])) _
      refine XS.daddS X187.here hx rfl (hb hby at_20) rfl (nn_w (dadd_w (own_b1 p2) own_o1)) (dadd_w (own_b1 p2) own_o1) ?_
      show Steps p.tables e below (T187.setTop (mkF m 21 #[.val (.int p1), .val (.int p2), .val (.int (3 : Int32)), .val (.ref w3), .val (.double (FP.l2d (p2.toInt64))), .second, .unset, .unset, .unset, .unset, .unset, .unset] [(.double (FP.l2d ((p2.toInt64) + (1 : Int64))))])) _
      refine XS.dstore X187.here hx rfl (hb hby at_21) rfl (l' := #[.val (.int p1), .val (.int p2), .val (.int (3 : Int32)), .val (.ref w3), .val (.double (FP.l2d (p2.toInt64))), .second, .val (.double (FP.l2d ((p2.toInt64) + (1 : Int64)))), .second, .unset, .unset, .unset, .unset]) rfl ?_
      show Steps p.tables e below (T187.setTop (mkF m 23 #[.val (.int p1), .val (.int p2), .val (.int (3 : Int32)), .val (.ref w3), .val (.double (FP.l2d (p2.toInt64))), .second, .val (.double (FP.l2d ((p2.toInt64) + (1 : Int64)))), .second, .unset, .unset, .unset, .unset] [])) _
      refine XS.aloadN X187.here hx rfl (hb hby at_23) rfl rfl ?_
      exact kq)
    obtain ⟨cq189, kq189, q189a, q189b, q189c⟩ := isOf hZ eq187 E3
    obtain ⟨vv189, _, ⟨T189, L189, k189, n189⟩, -, X189, ⟨Lc189, hQ189, l189, y189, z189⟩, st189⟩ := X187.virtualBack hx (y := (⟨"com/example/heft/heft/model/XPath$Comparison", "ordersNumbers", "()Z"⟩ : MethodName)) (z := (⟨"com/example/heft/heft/model/XPath$Comparison", "ordersNumbers", "()Z"⟩ : MethodName)) hown (mvT hZ (tw8 hw)) (mvT hZ (tw9 hw)) (notFace_of_selects (args := #[]) (mvT hZ (tw11 hw))) (mvT hZ (tw11 hw)) (mvT hZ (tw10 hw)) (by decide) (backOf (W := 0) (ord3 l Z a0 hw []  w0 w1 w2 w3 w4 w5 h0 n0 Z0 S0 S1 S2 S3 S4 S5 n30 n31) hZ (tw12 hw) (tw6 hw) (by decide) (by decide)) q189a q189c (g := (mkF m 24 #[.val (.int p1), .val (.int p2), .val (.int (3 : Int32)), .val (.ref w3), .val (.double (FP.l2d (p2.toInt64))), .second, .val (.double (FP.l2d ((p2.toInt64) + (1 : Int64)))), .second, .unset, .unset, .unset, .unset] [(.ref w3)])) rfl (by rw [hml]; rfl) (Steps.refl _) (argsL := []) (rest := []) (lenOf pd_2 rfl) rfl (by show 2 * 0 + _ ≤ _; exact Nat.le_of_eq rfl) (hb hby at_24) (fun _ _ => ⟨rfl, eq187, (by decide : 0 + 0 ≤ _), (by decide : 0 + 0 ≤ _)⟩)
    dsimp only [Pt.U, Pt.locs, Pt.cells, Pt.slots] at X189 l189 y189 z189 st189 hQ189
    subst l189 y189 z189
    obtain ⟨rfl, Nq189, eq189⟩ := hQ189
    have N189 := Fr.app N187 Nq189
    have go189 : Goes p e below s₁ (G_rm0 m p1 p2) T189 (mkF m 27 #[.val (.int p1), .val (.int p2), .val (.int (3 : Int32)), .val (.ref w3), .val (.double (FP.l2d (p2.toInt64))), .second, .val (.double (FP.l2d ((p2.toInt64) + (1 : Int64)))), .second, .unset, .unset, .unset, .unset] [(.int (1 : Int32))]) := fun tq kq => go188 tq (st189.trans kq)
    have go190 : Goes p e below s₁ (G_rm0 m p1 p2) T189 (mkF m 34 #[.val (.int p1), .val (.int p2), .val (.int (3 : Int32)), .val (.ref w3), .val (.double (FP.l2d (p2.toInt64))), .second, .val (.double (FP.l2d ((p2.toInt64) + (1 : Int64)))), .second, .val (.int (1 : Int32)), .unset, .unset, .unset] [(.double (FP.l2d ((p2.toInt64) + (1 : Int64)))), (.double (FP.l2d (p2.toInt64))), (.ref w3)]) := fun tq kq => go189 tq (by
      show Steps p.tables e below (T189.setTop (mkF m 27 #[.val (.int p1), .val (.int p2), .val (.int (3 : Int32)), .val (.ref w3), .val (.double (FP.l2d (p2.toInt64))), .second, .val (.double (FP.l2d ((p2.toInt64) + (1 : Int64)))), .second, .unset, .unset, .unset, .unset] [(.int (1 : Int32))])) _
      refine XS.istore X189.here hx rfl (hb hby at_27) rfl (l' := #[.val (.int p1), .val (.int p2), .val (.int (3 : Int32)), .val (.ref w3), .val (.double (FP.l2d (p2.toInt64))), .second, .val (.double (FP.l2d ((p2.toInt64) + (1 : Int64)))), .second, .val (.int (1 : Int32)), .unset, .unset, .unset]) rfl ?_
      show Steps p.tables e below (T189.setTop (mkF m 29 #[.val (.int p1), .val (.int p2), .val (.int (3 : Int32)), .val (.ref w3), .val (.double (FP.l2d (p2.toInt64))), .second, .val (.double (FP.l2d ((p2.toInt64) + (1 : Int64)))), .second, .val (.int (1 : Int32)), .unset, .unset, .unset] [])) _
      refine XS.aloadN X189.here hx rfl (hb hby at_29) rfl rfl ?_
      show Steps p.tables e below (T189.setTop (mkF m 30 #[.val (.int p1), .val (.int p2), .val (.int (3 : Int32)), .val (.ref w3), .val (.double (FP.l2d (p2.toInt64))), .second, .val (.double (FP.l2d ((p2.toInt64) + (1 : Int64)))), .second, .val (.int (1 : Int32)), .unset, .unset, .unset] [(.ref w3)])) _
      refine XS.dload X189.here hx rfl (hb hby at_30) rfl ?_
      show Steps p.tables e below (T189.setTop (mkF m 32 #[.val (.int p1), .val (.int p2), .val (.int (3 : Int32)), .val (.ref w3), .val (.double (FP.l2d (p2.toInt64))), .second, .val (.double (FP.l2d ((p2.toInt64) + (1 : Int64)))), .second, .val (.int (1 : Int32)), .unset, .unset, .unset] [(.double (FP.l2d (p2.toInt64))), (.ref w3)])) _
      refine XS.dload X189.here hx rfl (hb hby at_32) rfl ?_
      exact kq)
    obtain ⟨cq191, kq191, q191a, q191b, q191c⟩ := isOf hZ eq189 E3
    obtain ⟨vv191, _, ⟨T191, L191, k191, n191⟩, -, X191, ⟨Lc191, hQ191, l191, y191, z191⟩, st191⟩ := X189.virtualBack hx (y := (⟨"com/example/heft/heft/model/XPath$Comparison", "holds", "(DD)Z"⟩ : MethodName)) (z := (⟨"com/example/heft/heft/model/XPath$Comparison", "holds", "(DD)Z"⟩ : MethodName)) hown (mvT hZ (tw14 hw)) (mvT hZ (tw15 hw)) (notFace_of_selects (args := #[]) (mvT hZ (tw17 hw))) (mvT hZ (tw17 hw)) (mvT hZ (tw16 hw)) (by decide) (backOf (W := 0) (holds3l l Z a0 hw [] w3 (FP.l2d (p2.toInt64)) (FP.l2d ((p2.toInt64) + (1 : Int64))) (p2.toInt64) ((p2.toInt64) + (1 : Int64)) h0 n0 Z0 E3 O3 rfl rfl (own_b1 p2) (own_b2 p2) (own_ne p2) (own_lt p2) (own_nlt p2)) hZ (tw18 hw) (tw6 hw) (by decide) (by decide)) q191a q191c (g := (mkF m 34 #[.val (.int p1), .val (.int p2), .val (.int (3 : Int32)), .val (.ref w3), .val (.double (FP.l2d (p2.toInt64))), .second, .val (.double (FP.l2d ((p2.toInt64) + (1 : Int64)))), .second, .val (.int (1 : Int32)), .unset, .unset, .unset] [(.double (FP.l2d ((p2.toInt64) + (1 : Int64)))), (.double (FP.l2d (p2.toInt64))), (.ref w3)])) rfl (by rw [hml]; rfl) (Steps.refl _) (argsL := [(.double (FP.l2d (p2.toInt64))), (.double (FP.l2d ((p2.toInt64) + (1 : Int64))))]) (rest := []) (lenOf pd_3 rfl) rfl (by show 2 * 0 + _ ≤ _; exact Nat.le_of_eq rfl) (hb hby at_34) (fun _ _ => ⟨rfl, eq189, (by decide : 0 + 0 ≤ _), (by decide : 0 + 0 ≤ _)⟩)
    dsimp only [Pt.U, Pt.locs, Pt.cells, Pt.slots] at X191 l191 y191 z191 st191 hQ191
    subst l191 y191 z191
    obtain ⟨rfl, Nq191, eq191⟩ := hQ191
    have N191 := Fr.app N189 Nq191
    have go191 : Goes p e below s₁ (G_rm0 m p1 p2) T191 (mkF m 37 #[.val (.int p1), .val (.int p2), .val (.int (3 : Int32)), .val (.ref w3), .val (.double (FP.l2d (p2.toInt64))), .second, .val (.double (FP.l2d ((p2.toInt64) + (1 : Int64)))), .second, .val (.int (1 : Int32)), .unset, .unset, .unset] [(.int (1 : Int32))]) := fun tq kq => go190 tq (st191.trans kq)
    have go192 : Goes p e below s₁ (G_rm0 m p1 p2) T191 (mkF m 42 #[.val (.int p1), .val (.int p2), .val (.int (3 : Int32)), .val (.ref w3), .val (.double (FP.l2d (p2.toInt64))), .second, .val (.double (FP.l2d ((p2.toInt64) + (1 : Int64)))), .second, .val (.int (1 : Int32)), .unset, .unset, .unset] [(.double (FP.l2d (p2.toInt64))), (.double (FP.l2d ((p2.toInt64) + (1 : Int64)))), (.ref w3), (.int (1 : Int32))]) := fun tq kq => go191 tq (by
      show Steps p.tables e below (T191.setTop (mkF m 37 #[.val (.int p1), .val (.int p2), .val (.int (3 : Int32)), .val (.ref w3), .val (.double (FP.l2d (p2.toInt64))), .second, .val (.double (FP.l2d ((p2.toInt64) + (1 : Int64)))), .second, .val (.int (1 : Int32)), .unset, .unset, .unset] [(.int (1 : Int32))])) _
      refine XS.aloadN X191.here hx rfl (hb hby at_37) rfl rfl ?_
      show Steps p.tables e below (T191.setTop (mkF m 38 #[.val (.int p1), .val (.int p2), .val (.int (3 : Int32)), .val (.ref w3), .val (.double (FP.l2d (p2.toInt64))), .second, .val (.double (FP.l2d ((p2.toInt64) + (1 : Int64)))), .second, .val (.int (1 : Int32)), .unset, .unset, .unset] [(.ref w3), (.int (1 : Int32))])) _
      refine XS.dload X191.here hx rfl (hb hby at_38) rfl ?_
      show Steps p.tables e below (T191.setTop (mkF m 40 #[.val (.int p1), .val (.int p2), .val (.int (3 : Int32)), .val (.ref w3), .val (.double (FP.l2d (p2.toInt64))), .second, .val (.double (FP.l2d ((p2.toInt64) + (1 : Int64)))), .second, .val (.int (1 : Int32)), .unset, .unset, .unset] [(.double (FP.l2d ((p2.toInt64) + (1 : Int64)))), (.ref w3), (.int (1 : Int32))])) _
      refine XS.dload X191.here hx rfl (hb hby at_40) rfl ?_
      exact kq)
    obtain ⟨cq193, kq193, q193a, q193b, q193c⟩ := isOf hZ eq191 E3
    obtain ⟨vv193, _, ⟨T193, L193, k193, n193⟩, -, X193, ⟨Lc193, hQ193, l193, y193, z193⟩, st193⟩ := X191.virtualBack hx (y := (⟨"com/example/heft/heft/model/XPath$Comparison", "holds", "(DD)Z"⟩ : MethodName)) (z := (⟨"com/example/heft/heft/model/XPath$Comparison", "holds", "(DD)Z"⟩ : MethodName)) hown (mvT hZ (tw14 hw)) (mvT hZ (tw15 hw)) (notFace_of_selects (args := #[]) (mvT hZ (tw17 hw))) (mvT hZ (tw17 hw)) (mvT hZ (tw16 hw)) (by decide) (backOf (W := 1) (holds3g l Z a0 hw [] w3 (FP.l2d ((p2.toInt64) + (1 : Int64))) (FP.l2d (p2.toInt64)) ((p2.toInt64) + (1 : Int64)) (p2.toInt64) h0 n0 Z0 E3 O3 rfl rfl (own_b2 p2) (own_b1 p2) (fun q => own_ne p2 q.symm) (own_nlt p2) (own_lt p2)) hZ (tw18 hw) (tw6 hw) (by decide) (by decide)) q193a q193c (g := (mkF m 42 #[.val (.int p1), .val (.int p2), .val (.int (3 : Int32)), .val (.ref w3), .val (.double (FP.l2d (p2.toInt64))), .second, .val (.double (FP.l2d ((p2.toInt64) + (1 : Int64)))), .second, .val (.int (1 : Int32)), .unset, .unset, .unset] [(.double (FP.l2d (p2.toInt64))), (.double (FP.l2d ((p2.toInt64) + (1 : Int64)))), (.ref w3), (.int (1 : Int32))])) rfl (by rw [hml]; rfl) (Steps.refl _) (argsL := [(.double (FP.l2d ((p2.toInt64) + (1 : Int64)))), (.double (FP.l2d (p2.toInt64)))]) (rest := [(.int (1 : Int32))]) (lenOf pd_3 rfl) rfl (by show 2 * 0 + _ ≤ _; exact Nat.le_of_eq rfl) (hb hby at_42) (fun _ _ => ⟨rfl, eq191, (by decide : 0 + 0 ≤ _), (by decide : 0 + 0 ≤ _)⟩)
    dsimp only [Pt.U, Pt.locs, Pt.cells, Pt.slots] at X193 l193 y193 z193 st193 hQ193
    subst l193 y193 z193
    obtain ⟨rfl, Nq193, eq193⟩ := hQ193
    have N193 := Fr.app N191 Nq193
    have go193 : Goes p e below s₁ (G_rm0 m p1 p2) T193 (mkF m 45 #[.val (.int p1), .val (.int p2), .val (.int (3 : Int32)), .val (.ref w3), .val (.double (FP.l2d (p2.toInt64))), .second, .val (.double (FP.l2d ((p2.toInt64) + (1 : Int64)))), .second, .val (.int (1 : Int32)), .unset, .unset, .unset] [(.int (0 : Int32)), (.int (1 : Int32))]) := fun tq kq => go192 tq (st193.trans kq)
    have go194 : Goes p e below s₁ (G_rm0 m p1 p2) T193 (mkF m 56 #[.val (.int p1), .val (.int p2), .val (.int (3 : Int32)), .val (.ref w3), .val (.double (FP.l2d (p2.toInt64))), .second, .val (.double (FP.l2d ((p2.toInt64) + (1 : Int64)))), .second, .val (.int (1 : Int32)), .val (.int (1 : Int32)), .unset, .unset] [(.ref w3)]) := fun tq kq => go193 tq (by
      show Steps p.tables e below (T193.setTop (mkF m 45 #[.val (.int p1), .val (.int p2), .val (.int (3 : Int32)), .val (.ref w3), .val (.double (FP.l2d (p2.toInt64))), .second, .val (.double (FP.l2d ((p2.toInt64) + (1 : Int64)))), .second, .val (.int (1 : Int32)), .unset, .unset, .unset] [(.int (0 : Int32)), (.int (1 : Int32))])) _
      refine XS.icmpNo X193.here hx rfl (hb hby at_45) rfl (feq (by decide)).1 ?_
      show Steps p.tables e below (T193.setTop (mkF m 48 #[.val (.int p1), .val (.int p2), .val (.int (3 : Int32)), .val (.ref w3), .val (.double (FP.l2d (p2.toInt64))), .second, .val (.double (FP.l2d ((p2.toInt64) + (1 : Int64)))), .second, .val (.int (1 : Int32)), .unset, .unset, .unset] [])) _
      refine XS.iconst X193.here hx rfl (hb hby at_48) ?_
      show Steps p.tables e below (T193.setTop (mkF m 49 #[.val (.int p1), .val (.int p2), .val (.int (3 : Int32)), .val (.ref w3), .val (.double (FP.l2d (p2.toInt64))), .second, .val (.double (FP.l2d ((p2.toInt64) + (1 : Int64)))), .second, .val (.int (1 : Int32)), .unset, .unset, .unset] [(.int (1 : Int32))])) _
      refine XS.goto X193.here hx rfl (pc0 := 49) (pc' := 53) rfl (hb hby at_49) (by decide) (by decide) ?_
      show Steps p.tables e below (T193.setTop (mkF m 53 #[.val (.int p1), .val (.int p2), .val (.int (3 : Int32)), .val (.ref w3), .val (.double (FP.l2d (p2.toInt64))), .second, .val (.double (FP.l2d ((p2.toInt64) + (1 : Int64)))), .second, .val (.int (1 : Int32)), .unset, .unset, .unset] [(.int (1 : Int32))])) _
      refine XS.istore X193.here hx rfl (hb hby at_53) rfl (l' := #[.val (.int p1), .val (.int p2), .val (.int (3 : Int32)), .val (.ref w3), .val (.double (FP.l2d (p2.toInt64))), .second, .val (.double (FP.l2d ((p2.toInt64) + (1 : Int64)))), .second, .val (.int (1 : Int32)), .val (.int (1 : Int32)), .unset, .unset]) rfl ?_
      show Steps p.tables e below (T193.setTop (mkF m 55 #[.val (.int p1), .val (.int p2), .val (.int (3 : Int32)), .val (.ref w3), .val (.double (FP.l2d (p2.toInt64))), .second, .val (.double (FP.l2d ((p2.toInt64) + (1 : Int64)))), .second, .val (.int (1 : Int32)), .val (.int (1 : Int32)), .unset, .unset] [])) _
      refine XS.aloadN X193.here hx rfl (hb hby at_55) rfl rfl ?_
      exact kq)
    obtain ⟨cq195, kq195, q195a, q195b, q195c⟩ := isOf hZ eq193 E3
    obtain ⟨vv195, _, ⟨T195, L195, k195, n195⟩, -, X195, ⟨Lc195, hQ195, l195, y195, z195⟩, st195⟩ := X193.virtualBack hx (y := (⟨"com/example/heft/heft/model/XPath$Comparison", "swapped", "()Lcom/example/heft/heft/model/XPath$Comparison;"⟩ : MethodName)) (z := (⟨"com/example/heft/heft/model/XPath$Comparison", "swapped", "()Lcom/example/heft/heft/model/XPath$Comparison;"⟩ : MethodName)) hown (mvT hZ (tw28 hw)) (mvT hZ (tw29 hw)) (notFace_of_selects (args := #[]) (mvT hZ (tw31 hw))) (mvT hZ (tw31 hw)) (mvT hZ (tw30 hw)) (by decide) (backOf (W := 0) (swap3 l Z a0 hw []  w0 w1 w2 w3 w4 w5 h0 n0 Z0 S0 S1 S2 S3 S4 S5 E3 O3) hZ (tw32 hw) (tw6 hw) (by decide) (by decide)) q195a q195c (g := (mkF m 56 #[.val (.int p1), .val (.int p2), .val (.int (3 : Int32)), .val (.ref w3), .val (.double (FP.l2d (p2.toInt64))), .second, .val (.double (FP.l2d ((p2.toInt64) + (1 : Int64)))), .second, .val (.int (1 : Int32)), .val (.int (1 : Int32)), .unset, .unset] [(.ref w3)])) rfl (by rw [hml]; rfl) (Steps.refl _) (argsL := []) (rest := []) (lenOf pd_4 rfl) rfl (by show 2 * 0 + _ ≤ _; exact Nat.le_of_eq rfl) (hb hby at_56) (fun _ _ => ⟨rfl, eq193, (by decide : 0 + 0 ≤ _), (by decide : 0 + 0 ≤ _)⟩)
    dsimp only [Pt.U, Pt.locs, Pt.cells, Pt.slots] at X195 l195 y195 z195 st195 hQ195
    subst l195 y195 z195
    obtain ⟨rfl, Nq195, eq195⟩ := hQ195
    have N195 := Fr.app N193 Nq195
    have go195 : Goes p e below s₁ (G_rm0 m p1 p2) T195 (mkF m 59 #[.val (.int p1), .val (.int p2), .val (.int (3 : Int32)), .val (.ref w3), .val (.double (FP.l2d (p2.toInt64))), .second, .val (.double (FP.l2d ((p2.toInt64) + (1 : Int64)))), .second, .val (.int (1 : Int32)), .val (.int (1 : Int32)), .unset, .unset] [(.ref w5)]) := fun tq kq => go194 tq (st195.trans kq)
    have go196 : Goes p e below s₁ (G_rm0 m p1 p2) T195 (mkF m 60 #[.val (.int p1), .val (.int p2), .val (.int (3 : Int32)), .val (.ref w3), .val (.double (FP.l2d (p2.toInt64))), .second, .val (.double (FP.l2d ((p2.toInt64) + (1 : Int64)))), .second, .val (.int (1 : Int32)), .val (.int (1 : Int32)), .unset, .unset] [(.ref w3), (.ref w5)]) := fun tq kq => go195 tq (by
      show Steps p.tables e below (T195.setTop (mkF m 59 #[.val (.int p1), .val (.int p2), .val (.int (3 : Int32)), .val (.ref w3), .val (.double (FP.l2d (p2.toInt64))), .second, .val (.double (FP.l2d ((p2.toInt64) + (1 : Int64)))), .second, .val (.int (1 : Int32)), .val (.int (1 : Int32)), .unset, .unset] [(.ref w5)])) _
      refine XS.aloadN X195.here hx rfl (hb hby at_59) rfl rfl ?_
      exact kq)
    have go197 : Goes p e below s₁ (G_rm0 m p1 p2) T195 (mkF m 72 #[.val (.int p1), .val (.int p2), .val (.int (3 : Int32)), .val (.ref w3), .val (.double (FP.l2d (p2.toInt64))), .second, .val (.double (FP.l2d ((p2.toInt64) + (1 : Int64)))), .second, .val (.int (1 : Int32)), .val (.int (1 : Int32)), .val (.int (1 : Int32)), .unset] [(.int (2 : Int32)), (.int (3 : Int32))]) := fun tq kq => go196 tq (by
      show Steps p.tables e below (T195.setTop (mkF m 60 #[.val (.int p1), .val (.int p2), .val (.int (3 : Int32)), .val (.ref w3), .val (.double (FP.l2d (p2.toInt64))), .second, .val (.double (FP.l2d ((p2.toInt64) + (1 : Int64)))), .second, .val (.int (1 : Int32)), .val (.int (1 : Int32)), .unset, .unset] [(.ref w3), (.ref w5)])) _
      refine Jvm.RoadKit.acmp (g := (mkF m 60 #[.val (.int p1), .val (.int p2), .val (.int (3 : Int32)), .val (.ref w3), .val (.double (FP.l2d (p2.toInt64))), .second, .val (.double (FP.l2d ((p2.toInt64) + (1 : Int64)))), .second, .val (.int (1 : Int32)), .val (.int (1 : Int32)), .unset, .unset] [(.ref w3), (.ref w5)])) X195 hx rfl rfl rfl (pc0 := 60) (pc' := 63) (same := false) rfl (hb hby at_60) rfl (decide_eq_false fun q => n53 (Value.ref.inj q)) (by decide) (by decide) ?_
      show Steps p.tables e below (T195.setTop (mkF m 63 #[.val (.int p1), .val (.int p2), .val (.int (3 : Int32)), .val (.ref w3), .val (.double (FP.l2d (p2.toInt64))), .second, .val (.double (FP.l2d ((p2.toInt64) + (1 : Int64)))), .second, .val (.int (1 : Int32)), .val (.int (1 : Int32)), .unset, .unset] [])) _
      refine XS.iconst X195.here hx rfl (hb hby at_63) ?_
      show Steps p.tables e below (T195.setTop (mkF m 64 #[.val (.int p1), .val (.int p2), .val (.int (3 : Int32)), .val (.ref w3), .val (.double (FP.l2d (p2.toInt64))), .second, .val (.double (FP.l2d ((p2.toInt64) + (1 : Int64)))), .second, .val (.int (1 : Int32)), .val (.int (1 : Int32)), .unset, .unset] [(.int (1 : Int32))])) _
      refine XS.goto X195.here hx rfl (pc0 := 64) (pc' := 68) rfl (hb hby at_64) (by decide) (by decide) ?_
      show Steps p.tables e below (T195.setTop (mkF m 68 #[.val (.int p1), .val (.int p2), .val (.int (3 : Int32)), .val (.ref w3), .val (.double (FP.l2d (p2.toInt64))), .second, .val (.double (FP.l2d ((p2.toInt64) + (1 : Int64)))), .second, .val (.int (1 : Int32)), .val (.int (1 : Int32)), .unset, .unset] [(.int (1 : Int32))])) _
      refine XS.istore X195.here hx rfl (hb hby at_68) rfl (l' := #[.val (.int p1), .val (.int p2), .val (.int (3 : Int32)), .val (.ref w3), .val (.double (FP.l2d (p2.toInt64))), .second, .val (.double (FP.l2d ((p2.toInt64) + (1 : Int64)))), .second, .val (.int (1 : Int32)), .val (.int (1 : Int32)), .val (.int (1 : Int32)), .unset]) rfl ?_
      show Steps p.tables e below (T195.setTop (mkF m 70 #[.val (.int p1), .val (.int p2), .val (.int (3 : Int32)), .val (.ref w3), .val (.double (FP.l2d (p2.toInt64))), .second, .val (.double (FP.l2d ((p2.toInt64) + (1 : Int64)))), .second, .val (.int (1 : Int32)), .val (.int (1 : Int32)), .val (.int (1 : Int32)), .unset] [])) _
      refine XS.iloadN X195.here hx rfl (hb hby at_70) rfl ?_
      show Steps p.tables e below (T195.setTop (mkF m 71 #[.val (.int p1), .val (.int p2), .val (.int (3 : Int32)), .val (.ref w3), .val (.double (FP.l2d (p2.toInt64))), .second, .val (.double (FP.l2d ((p2.toInt64) + (1 : Int64)))), .second, .val (.int (1 : Int32)), .val (.int (1 : Int32)), .val (.int (1 : Int32)), .unset] [(.int (3 : Int32))])) _
      refine XS.iconst X195.here hx rfl (hb hby at_71) ?_
      exact kq)
    have go198 : Goes p e below s₁ (G_rm0 m p1 p2) T195 (mkF m 86 #[.val (.int p1), .val (.int p2), .val (.int (3 : Int32)), .val (.ref w3), .val (.double (FP.l2d (p2.toInt64))), .second, .val (.double (FP.l2d ((p2.toInt64) + (1 : Int64)))), .second, .val (.int (1 : Int32)), .val (.int (1 : Int32)), .val (.int (1 : Int32)), .val (.int (1 : Int32))] [(.int (1 : Int32)), (.int (1 : Int32))]) := fun tq kq => go197 tq (by
      show Steps p.tables e below (T195.setTop (mkF m 72 #[.val (.int p1), .val (.int p2), .val (.int (3 : Int32)), .val (.ref w3), .val (.double (FP.l2d (p2.toInt64))), .second, .val (.double (FP.l2d ((p2.toInt64) + (1 : Int64)))), .second, .val (.int (1 : Int32)), .val (.int (1 : Int32)), .val (.int (1 : Int32)), .unset] [(.int (2 : Int32)), (.int (3 : Int32))])) _
      refine XS.icmpNo X195.here hx rfl (hb hby at_72) rfl (flt (by decide)).1 ?_
      show Steps p.tables e below (T195.setTop (mkF m 75 #[.val (.int p1), .val (.int p2), .val (.int (3 : Int32)), .val (.ref w3), .val (.double (FP.l2d (p2.toInt64))), .second, .val (.double (FP.l2d ((p2.toInt64) + (1 : Int64)))), .second, .val (.int (1 : Int32)), .val (.int (1 : Int32)), .val (.int (1 : Int32)), .unset] [])) _
      refine XS.iconst X195.here hx rfl (hb hby at_75) ?_
      show Steps p.tables e below (T195.setTop (mkF m 76 #[.val (.int p1), .val (.int p2), .val (.int (3 : Int32)), .val (.ref w3), .val (.double (FP.l2d (p2.toInt64))), .second, .val (.double (FP.l2d ((p2.toInt64) + (1 : Int64)))), .second, .val (.int (1 : Int32)), .val (.int (1 : Int32)), .val (.int (1 : Int32)), .unset] [(.int (1 : Int32))])) _
      refine XS.goto X195.here hx rfl (pc0 := 76) (pc' := 80) rfl (hb hby at_76) (by decide) (by decide) ?_
      show Steps p.tables e below (T195.setTop (mkF m 80 #[.val (.int p1), .val (.int p2), .val (.int (3 : Int32)), .val (.ref w3), .val (.double (FP.l2d (p2.toInt64))), .second, .val (.double (FP.l2d ((p2.toInt64) + (1 : Int64)))), .second, .val (.int (1 : Int32)), .val (.int (1 : Int32)), .val (.int (1 : Int32)), .unset] [(.int (1 : Int32))])) _
      refine XS.istore X195.here hx rfl (hb hby at_80) rfl (l' := #[.val (.int p1), .val (.int p2), .val (.int (3 : Int32)), .val (.ref w3), .val (.double (FP.l2d (p2.toInt64))), .second, .val (.double (FP.l2d ((p2.toInt64) + (1 : Int64)))), .second, .val (.int (1 : Int32)), .val (.int (1 : Int32)), .val (.int (1 : Int32)), .val (.int (1 : Int32))]) rfl ?_
      show Steps p.tables e below (T195.setTop (mkF m 82 #[.val (.int p1), .val (.int p2), .val (.int (3 : Int32)), .val (.ref w3), .val (.double (FP.l2d (p2.toInt64))), .second, .val (.double (FP.l2d ((p2.toInt64) + (1 : Int64)))), .second, .val (.int (1 : Int32)), .val (.int (1 : Int32)), .val (.int (1 : Int32)), .val (.int (1 : Int32))] [])) _
      refine XS.iload X195.here hx rfl (hb hby at_82) rfl ?_
      show Steps p.tables e below (T195.setTop (mkF m 84 #[.val (.int p1), .val (.int p2), .val (.int (3 : Int32)), .val (.ref w3), .val (.double (FP.l2d (p2.toInt64))), .second, .val (.double (FP.l2d ((p2.toInt64) + (1 : Int64)))), .second, .val (.int (1 : Int32)), .val (.int (1 : Int32)), .val (.int (1 : Int32)), .val (.int (1 : Int32))] [(.int (1 : Int32))])) _
      refine XS.iload X195.here hx rfl (hb hby at_84) rfl ?_
      exact kq)
    have go199 : Goes p e below s₁ (G_rm0 m p1 p2) T195 (mkF m 93 #[.val (.int p1), .val (.int p2), .val (.int (3 : Int32)), .val (.ref w3), .val (.double (FP.l2d (p2.toInt64))), .second, .val (.double (FP.l2d ((p2.toInt64) + (1 : Int64)))), .second, .val (.int (1 : Int32)), .val (.int (1 : Int32)), .val (.int (1 : Int32)), .val (.int (1 : Int32))] [(.int (1 : Int32)), (.int (1 : Int32))]) := fun tq kq => go198 tq (by
      show Steps p.tables e below (T195.setTop (mkF m 86 #[.val (.int p1), .val (.int p2), .val (.int (3 : Int32)), .val (.ref w3), .val (.double (FP.l2d (p2.toInt64))), .second, .val (.double (FP.l2d ((p2.toInt64) + (1 : Int64)))), .second, .val (.int (1 : Int32)), .val (.int (1 : Int32)), .val (.int (1 : Int32)), .val (.int (1 : Int32))] [(.int (1 : Int32)), (.int (1 : Int32))])) _
      refine XS.icmpNo X195.here hx rfl (hb hby at_86) rfl (teq rfl).2 ?_
      show Steps p.tables e below (T195.setTop (mkF m 89 #[.val (.int p1), .val (.int p2), .val (.int (3 : Int32)), .val (.ref w3), .val (.double (FP.l2d (p2.toInt64))), .second, .val (.double (FP.l2d ((p2.toInt64) + (1 : Int64)))), .second, .val (.int (1 : Int32)), .val (.int (1 : Int32)), .val (.int (1 : Int32)), .val (.int (1 : Int32))] [])) _
      refine XS.iload X195.here hx rfl (hb hby at_89) rfl ?_
      show Steps p.tables e below (T195.setTop (mkF m 91 #[.val (.int p1), .val (.int p2), .val (.int (3 : Int32)), .val (.ref w3), .val (.double (FP.l2d (p2.toInt64))), .second, .val (.double (FP.l2d ((p2.toInt64) + (1 : Int64)))), .second, .val (.int (1 : Int32)), .val (.int (1 : Int32)), .val (.int (1 : Int32)), .val (.int (1 : Int32))] [(.int (1 : Int32))])) _
      refine XS.iload X195.here hx rfl (hb hby at_91) rfl ?_
      exact kq)
    have go200 : Goes p e below s₁ (G_rm0 m p1 p2) T195 (mkF m 100 #[.val (.int p1), .val (.int p2), .val (.int (3 : Int32)), .val (.ref w3), .val (.double (FP.l2d (p2.toInt64))), .second, .val (.double (FP.l2d ((p2.toInt64) + (1 : Int64)))), .second, .val (.int (1 : Int32)), .val (.int (1 : Int32)), .val (.int (1 : Int32)), .val (.int (1 : Int32))] [(.int (1 : Int32)), (.int (1 : Int32))]) := fun tq kq => go199 tq (by
      show Steps p.tables e below (T195.setTop (mkF m 93 #[.val (.int p1), .val (.int p2), .val (.int (3 : Int32)), .val (.ref w3), .val (.double (FP.l2d (p2.toInt64))), .second, .val (.double (FP.l2d ((p2.toInt64) + (1 : Int64)))), .second, .val (.int (1 : Int32)), .val (.int (1 : Int32)), .val (.int (1 : Int32)), .val (.int (1 : Int32))] [(.int (1 : Int32)), (.int (1 : Int32))])) _
      refine XS.icmpNo X195.here hx rfl (hb hby at_93) rfl (teq rfl).2 ?_
      show Steps p.tables e below (T195.setTop (mkF m 96 #[.val (.int p1), .val (.int p2), .val (.int (3 : Int32)), .val (.ref w3), .val (.double (FP.l2d (p2.toInt64))), .second, .val (.double (FP.l2d ((p2.toInt64) + (1 : Int64)))), .second, .val (.int (1 : Int32)), .val (.int (1 : Int32)), .val (.int (1 : Int32)), .val (.int (1 : Int32))] [])) _
      refine XS.iload X195.here hx rfl (hb hby at_96) rfl ?_
      show Steps p.tables e below (T195.setTop (mkF m 98 #[.val (.int p1), .val (.int p2), .val (.int (3 : Int32)), .val (.ref w3), .val (.double (FP.l2d (p2.toInt64))), .second, .val (.double (FP.l2d ((p2.toInt64) + (1 : Int64)))), .second, .val (.int (1 : Int32)), .val (.int (1 : Int32)), .val (.int (1 : Int32)), .val (.int (1 : Int32))] [(.int (1 : Int32))])) _
      refine XS.iload X195.here hx rfl (hb hby at_98) rfl ?_
      exact kq)
    have go201 : Goes p e below s₁ (G_rm0 m p1 p2) T195 (mkF m 108 #[.val (.int p1), .val (.int p2), .val (.int (3 : Int32)), .val (.ref w3), .val (.double (FP.l2d (p2.toInt64))), .second, .val (.double (FP.l2d ((p2.toInt64) + (1 : Int64)))), .second, .val (.int (1 : Int32)), .val (.int (1 : Int32)), .val (.int (1 : Int32)), .val (.int (1 : Int32))] [(.int (1 : Int32))]) := fun tq kq => go200 tq (by
      show Steps p.tables e below (T195.setTop (mkF m 100 #[.val (.int p1), .val (.int p2), .val (.int (3 : Int32)), .val (.ref w3), .val (.double (FP.l2d (p2.toInt64))), .second, .val (.double (FP.l2d ((p2.toInt64) + (1 : Int64)))), .second, .val (.int (1 : Int32)), .val (.int (1 : Int32)), .val (.int (1 : Int32)), .val (.int (1 : Int32))] [(.int (1 : Int32)), (.int (1 : Int32))])) _
      refine XS.icmpNo X195.here hx rfl (hb hby at_100) rfl (teq rfl).2 ?_
      show Steps p.tables e below (T195.setTop (mkF m 103 #[.val (.int p1), .val (.int p2), .val (.int (3 : Int32)), .val (.ref w3), .val (.double (FP.l2d (p2.toInt64))), .second, .val (.double (FP.l2d ((p2.toInt64) + (1 : Int64)))), .second, .val (.int (1 : Int32)), .val (.int (1 : Int32)), .val (.int (1 : Int32)), .val (.int (1 : Int32))] [])) _
      refine XS.iconst X195.here hx rfl (hb hby at_103) ?_
      show Steps p.tables e below (T195.setTop (mkF m 104 #[.val (.int p1), .val (.int p2), .val (.int (3 : Int32)), .val (.ref w3), .val (.double (FP.l2d (p2.toInt64))), .second, .val (.double (FP.l2d ((p2.toInt64) + (1 : Int64)))), .second, .val (.int (1 : Int32)), .val (.int (1 : Int32)), .val (.int (1 : Int32)), .val (.int (1 : Int32))] [(.int (1 : Int32))])) _
      refine XS.goto X195.here hx rfl (pc0 := 104) (pc' := 108) rfl (hb hby at_104) (by decide) (by decide) ?_
      exact kq)
    obtain ⟨fs, hr, hrun, hended, hW, hsame⟩ := X195.leave (v := some (.int (1 : Int32))) (fun h => by rw [Bd.returns] at h; cases h)
    refine ⟨_, _, go201 _ ?_, hrun, hended, _, _, rfl, ?_, ⟨_, rfl⟩, hW, hsame.mono (by decide) (by decide)⟩
    · exact retN X195 hx (t := .boolean) Bd.returns (by simp) (hb hby at_108) hr
    · show Q_rm0 Z p1 p2 w0 w1 w2 w3 w4 w5 h0 n0 _ T195.heap _
      rw [eq195]
      exact ⟨rfl, N195⟩
  · have go202 : Goes p e below s₁ (G_rm0 m p1 p2) s₁ (mkF m 9 #[.val (.int p1), .val (.int p2), .val (.int (4 : Int32)), .unset, .unset, .unset, .unset, .unset, .unset, .unset, .unset, .unset] [(.int (4 : Int32))]) := fun tq kq => go137 tq (by
      show Steps p.tables e below (s₁.setTop (mkF m 8 #[.val (.int p1), .val (.int p2), .val (.int (4 : Int32)), .unset, .unset, .unset, .unset, .unset, .unset, .unset, .unset, .unset] [])) _
      refine XS.iloadN X0.here hx rfl (hb hby at_8) rfl ?_
      exact kq)
    obtain ⟨vv203, _, ⟨T203, L203, k203, n203⟩, -, X203, ⟨Lc203, hQ203, l203, y203, z203⟩, st203⟩ := Jvm.LawKit.callS X0 hx (y := (⟨"com/example/heft/heft/model/ComparisonOrdersNumbersPinLaw", "pick", "(I)Lcom/example/heft/heft/model/XPath$Comparison;"⟩ : MethodName)) hown (mvT hZ (tw1 hw)) (mvT hZ (tw2 hw)) (mvT hZ (tw3 hw)) (mvT hZ (tw4 hw)) (by decide) (backOf (W := 0) (pick4 l Z a0 hw []  w0 w1 w2 w3 w4 w5 h0 n0 Z0 S0 S1 S2 S3 S4 S5) hZ (tw4 hw) (tw3 hw) (by decide) (by decide)) (g := (mkF m 9 #[.val (.int p1), .val (.int p2), .val (.int (4 : Int32)), .unset, .unset, .unset, .unset, .unset, .unset, .unset, .unset, .unset] [(.int (4 : Int32))])) rfl (by rw [hml]; rfl) (argsL := [(.int (4 : Int32))]) (rest := []) (lenOf pd_1 rfl) rfl (by show 2 * 0 + _ ≤ _; exact Nat.le_of_eq rfl) (hb hby at_9) (fun _ _ => ⟨rfl, e0, (by decide : 0 + 0 ≤ _), (by decide : 0 + 0 ≤ _)⟩)
    dsimp only [Pt.U, Pt.locs, Pt.cells, Pt.slots] at X203 l203 y203 z203 st203 hQ203
    subst l203 y203 z203
    obtain ⟨rfl, Nq203, eq203⟩ := hQ203
    have N203 := Fr.app N0 Nq203
    have go203 : Goes p e below s₁ (G_rm0 m p1 p2) T203 (mkF m 12 #[.val (.int p1), .val (.int p2), .val (.int (4 : Int32)), .unset, .unset, .unset, .unset, .unset, .unset, .unset, .unset, .unset] [(.ref w4)]) := fun tq kq => go202 tq (st203 _ kq)
    have go204 : Goes p e below s₁ (G_rm0 m p1 p2) T203 (mkF m 24 #[.val (.int p1), .val (.int p2), .val (.int (4 : Int32)), .val (.ref w4), .val (.double (FP.l2d (p2.toInt64))), .second, .val (.double (FP.l2d ((p2.toInt64) + (1 : Int64)))), .second, .unset, .unset, .unset, .unset] [(.ref w4)]) := fun tq kq => go203 tq (by
      show Steps p.tables e below (T203.setTop (mkF m 12 #[.val (.int p1), .val (.int p2), .val (.int (4 : Int32)), .unset, .unset, .unset, .unset, .unset, .unset, .unset, .unset, .unset] [(.ref w4)])) _
      refine XS.astoreN X203.here hx rfl (hb hby at_12) rfl rfl (l' := #[.val (.int p1), .val (.int p2), .val (.int (4 : Int32)), .val (.ref w4), .unset, .unset, .unset, .unset, .unset, .unset, .unset, .unset]) rfl ?_
      show Steps p.tables e below (T203.setTop (mkF m 13 #[.val (.int p1), .val (.int p2), .val (.int (4 : Int32)), .val (.ref w4), .unset, .unset, .unset, .unset, .unset, .unset, .unset, .unset] [])) _
      refine XS.iloadN X203.here hx rfl (hb hby at_13) rfl ?_
      show Steps p.tables e below (T203.setTop (mkF m 14 #[.val (.int p1), .val (.int p2), .val (.int (4 : Int32)), .val (.ref w4), .unset, .unset, .unset, .unset, .unset, .unset, .unset, .unset] [(.int p2)])) _
      refine XS.i2dS X203.here hx rfl (hb hby at_14) rfl (i2d_w _) ?_
      show Steps p.tables e below (T203.setTop (mkF m 15 #[.val (.int p1), .val (.int p2), .val (.int (4 : Int32)), .val (.ref w4), .unset, .unset, .unset, .unset, .unset, .unset, .unset, .unset] [(.double (FP.l2d (p2.toInt64)))])) _
      refine XS.dstore X203.here hx rfl (hb hby at_15) rfl (l' := #[.val (.int p1), .val (.int p2), .val (.int (4 : Int32)), .val (.ref w4), .val (.double (FP.l2d (p2.toInt64))), .second, .unset, .unset, .unset, .unset, .unset, .unset]) rfl ?_
      show Steps p.tables e below (T203.setTop (mkF m 17 #[.val (.int p1), .val (.int p2), .val (.int (4 : Int32)), .val (.ref w4), .val (.double (FP.l2d (p2.toInt64))), .second, .unset, .unset, .unset, .unset, .unset, .unset] [])) _
      refine XS.dload X203.here hx rfl (hb hby at_17) rfl ?_
      show Steps p.tables e below (T203.setTop (mkF m 19 #[.val (.int p1), .val (.int p2), .val (.int (4 : Int32)), .val (.ref w4), .val (.double (FP.l2d (p2.toInt64))), .second, .unset, .unset, .unset, .unset, .unset, .unset] [(.double (FP.l2d (p2.toInt64)))])) _
      refine XS.dconst1 X203.here hx rfl (hb hby at_19) own_d1 ?_
      show Steps p.tables e below (T203.setTop (mkF m 20 #[.val (.int p1), .val (.int p2), .val (.int (4 : Int32)), .val (.ref w4), .val (.double (FP.l2d (p2.toInt64))), .second, .unset, .unset, .unset, .unset, .unset, .unset] [(.double (FP.l2d (1 : Int64))), (.double (FP.l2d (p2.toInt64)))])) _
      refine XS.daddS X203.here hx rfl (hb hby at_20) rfl (nn_w (dadd_w (own_b1 p2) own_o1)) (dadd_w (own_b1 p2) own_o1) ?_
      show Steps p.tables e below (T203.setTop (mkF m 21 #[.val (.int p1), .val (.int p2), .val (.int (4 : Int32)), .val (.ref w4), .val (.double (FP.l2d (p2.toInt64))), .second, .unset, .unset, .unset, .unset, .unset, .unset] [(.double (FP.l2d ((p2.toInt64) + (1 : Int64))))])) _
      refine XS.dstore X203.here hx rfl (hb hby at_21) rfl (l' := #[.val (.int p1), .val (.int p2), .val (.int (4 : Int32)), .val (.ref w4), .val (.double (FP.l2d (p2.toInt64))), .second, .val (.double (FP.l2d ((p2.toInt64) + (1 : Int64)))), .second, .unset, .unset, .unset, .unset]) rfl ?_
      show Steps p.tables e below (T203.setTop (mkF m 23 #[.val (.int p1), .val (.int p2), .val (.int (4 : Int32)), .val (.ref w4), .val (.double (FP.l2d (p2.toInt64))), .second, .val (.double (FP.l2d ((p2.toInt64) + (1 : Int64)))), .second, .unset, .unset, .unset, .unset] [])) _
      refine XS.aloadN X203.here hx rfl (hb hby at_23) rfl rfl ?_
      exact kq)
    obtain ⟨cq205, kq205, q205a, q205b, q205c⟩ := isOf hZ eq203 E4
    obtain ⟨vv205, _, ⟨T205, L205, k205, n205⟩, -, X205, ⟨Lc205, hQ205, l205, y205, z205⟩, st205⟩ := X203.virtualBack hx (y := (⟨"com/example/heft/heft/model/XPath$Comparison", "ordersNumbers", "()Z"⟩ : MethodName)) (z := (⟨"com/example/heft/heft/model/XPath$Comparison", "ordersNumbers", "()Z"⟩ : MethodName)) hown (mvT hZ (tw8 hw)) (mvT hZ (tw9 hw)) (notFace_of_selects (args := #[]) (mvT hZ (tw11 hw))) (mvT hZ (tw11 hw)) (mvT hZ (tw10 hw)) (by decide) (backOf (W := 0) (ord4 l Z a0 hw []  w0 w1 w2 w3 w4 w5 h0 n0 Z0 S0 S1 S2 S3 S4 S5 n40 n41) hZ (tw12 hw) (tw6 hw) (by decide) (by decide)) q205a q205c (g := (mkF m 24 #[.val (.int p1), .val (.int p2), .val (.int (4 : Int32)), .val (.ref w4), .val (.double (FP.l2d (p2.toInt64))), .second, .val (.double (FP.l2d ((p2.toInt64) + (1 : Int64)))), .second, .unset, .unset, .unset, .unset] [(.ref w4)])) rfl (by rw [hml]; rfl) (Steps.refl _) (argsL := []) (rest := []) (lenOf pd_2 rfl) rfl (by show 2 * 0 + _ ≤ _; exact Nat.le_of_eq rfl) (hb hby at_24) (fun _ _ => ⟨rfl, eq203, (by decide : 0 + 0 ≤ _), (by decide : 0 + 0 ≤ _)⟩)
    dsimp only [Pt.U, Pt.locs, Pt.cells, Pt.slots] at X205 l205 y205 z205 st205 hQ205
    subst l205 y205 z205
    obtain ⟨rfl, Nq205, eq205⟩ := hQ205
    have N205 := Fr.app N203 Nq205
    have go205 : Goes p e below s₁ (G_rm0 m p1 p2) T205 (mkF m 27 #[.val (.int p1), .val (.int p2), .val (.int (4 : Int32)), .val (.ref w4), .val (.double (FP.l2d (p2.toInt64))), .second, .val (.double (FP.l2d ((p2.toInt64) + (1 : Int64)))), .second, .unset, .unset, .unset, .unset] [(.int (1 : Int32))]) := fun tq kq => go204 tq (st205.trans kq)
    have go206 : Goes p e below s₁ (G_rm0 m p1 p2) T205 (mkF m 34 #[.val (.int p1), .val (.int p2), .val (.int (4 : Int32)), .val (.ref w4), .val (.double (FP.l2d (p2.toInt64))), .second, .val (.double (FP.l2d ((p2.toInt64) + (1 : Int64)))), .second, .val (.int (1 : Int32)), .unset, .unset, .unset] [(.double (FP.l2d ((p2.toInt64) + (1 : Int64)))), (.double (FP.l2d (p2.toInt64))), (.ref w4)]) := fun tq kq => go205 tq (by
      show Steps p.tables e below (T205.setTop (mkF m 27 #[.val (.int p1), .val (.int p2), .val (.int (4 : Int32)), .val (.ref w4), .val (.double (FP.l2d (p2.toInt64))), .second, .val (.double (FP.l2d ((p2.toInt64) + (1 : Int64)))), .second, .unset, .unset, .unset, .unset] [(.int (1 : Int32))])) _
      refine XS.istore X205.here hx rfl (hb hby at_27) rfl (l' := #[.val (.int p1), .val (.int p2), .val (.int (4 : Int32)), .val (.ref w4), .val (.double (FP.l2d (p2.toInt64))), .second, .val (.double (FP.l2d ((p2.toInt64) + (1 : Int64)))), .second, .val (.int (1 : Int32)), .unset, .unset, .unset]) rfl ?_
      show Steps p.tables e below (T205.setTop (mkF m 29 #[.val (.int p1), .val (.int p2), .val (.int (4 : Int32)), .val (.ref w4), .val (.double (FP.l2d (p2.toInt64))), .second, .val (.double (FP.l2d ((p2.toInt64) + (1 : Int64)))), .second, .val (.int (1 : Int32)), .unset, .unset, .unset] [])) _
      refine XS.aloadN X205.here hx rfl (hb hby at_29) rfl rfl ?_
      show Steps p.tables e below (T205.setTop (mkF m 30 #[.val (.int p1), .val (.int p2), .val (.int (4 : Int32)), .val (.ref w4), .val (.double (FP.l2d (p2.toInt64))), .second, .val (.double (FP.l2d ((p2.toInt64) + (1 : Int64)))), .second, .val (.int (1 : Int32)), .unset, .unset, .unset] [(.ref w4)])) _
      refine XS.dload X205.here hx rfl (hb hby at_30) rfl ?_
      show Steps p.tables e below (T205.setTop (mkF m 32 #[.val (.int p1), .val (.int p2), .val (.int (4 : Int32)), .val (.ref w4), .val (.double (FP.l2d (p2.toInt64))), .second, .val (.double (FP.l2d ((p2.toInt64) + (1 : Int64)))), .second, .val (.int (1 : Int32)), .unset, .unset, .unset] [(.double (FP.l2d (p2.toInt64))), (.ref w4)])) _
      refine XS.dload X205.here hx rfl (hb hby at_32) rfl ?_
      exact kq)
    obtain ⟨cq207, kq207, q207a, q207b, q207c⟩ := isOf hZ eq205 E4
    obtain ⟨vv207, _, ⟨T207, L207, k207, n207⟩, -, X207, ⟨Lc207, hQ207, l207, y207, z207⟩, st207⟩ := X205.virtualBack hx (y := (⟨"com/example/heft/heft/model/XPath$Comparison", "holds", "(DD)Z"⟩ : MethodName)) (z := (⟨"com/example/heft/heft/model/XPath$Comparison", "holds", "(DD)Z"⟩ : MethodName)) hown (mvT hZ (tw14 hw)) (mvT hZ (tw15 hw)) (notFace_of_selects (args := #[]) (mvT hZ (tw17 hw))) (mvT hZ (tw17 hw)) (mvT hZ (tw16 hw)) (by decide) (backOf (W := 0) (holds4l l Z a0 hw [] w4 (FP.l2d (p2.toInt64)) (FP.l2d ((p2.toInt64) + (1 : Int64))) (p2.toInt64) ((p2.toInt64) + (1 : Int64)) h0 n0 Z0 E4 O4 rfl rfl (own_b1 p2) (own_b2 p2) (own_ne p2) (own_lt p2) (own_nlt p2)) hZ (tw18 hw) (tw6 hw) (by decide) (by decide)) q207a q207c (g := (mkF m 34 #[.val (.int p1), .val (.int p2), .val (.int (4 : Int32)), .val (.ref w4), .val (.double (FP.l2d (p2.toInt64))), .second, .val (.double (FP.l2d ((p2.toInt64) + (1 : Int64)))), .second, .val (.int (1 : Int32)), .unset, .unset, .unset] [(.double (FP.l2d ((p2.toInt64) + (1 : Int64)))), (.double (FP.l2d (p2.toInt64))), (.ref w4)])) rfl (by rw [hml]; rfl) (Steps.refl _) (argsL := [(.double (FP.l2d (p2.toInt64))), (.double (FP.l2d ((p2.toInt64) + (1 : Int64))))]) (rest := []) (lenOf pd_3 rfl) rfl (by show 2 * 0 + _ ≤ _; exact Nat.le_of_eq rfl) (hb hby at_34) (fun _ _ => ⟨rfl, eq205, (by decide : 0 + 0 ≤ _), (by decide : 0 + 0 ≤ _)⟩)
    dsimp only [Pt.U, Pt.locs, Pt.cells, Pt.slots] at X207 l207 y207 z207 st207 hQ207
    subst l207 y207 z207
    obtain ⟨rfl, Nq207, eq207⟩ := hQ207
    have N207 := Fr.app N205 Nq207
    have go207 : Goes p e below s₁ (G_rm0 m p1 p2) T207 (mkF m 37 #[.val (.int p1), .val (.int p2), .val (.int (4 : Int32)), .val (.ref w4), .val (.double (FP.l2d (p2.toInt64))), .second, .val (.double (FP.l2d ((p2.toInt64) + (1 : Int64)))), .second, .val (.int (1 : Int32)), .unset, .unset, .unset] [(.int (0 : Int32))]) := fun tq kq => go206 tq (st207.trans kq)
    have go208 : Goes p e below s₁ (G_rm0 m p1 p2) T207 (mkF m 42 #[.val (.int p1), .val (.int p2), .val (.int (4 : Int32)), .val (.ref w4), .val (.double (FP.l2d (p2.toInt64))), .second, .val (.double (FP.l2d ((p2.toInt64) + (1 : Int64)))), .second, .val (.int (1 : Int32)), .unset, .unset, .unset] [(.double (FP.l2d (p2.toInt64))), (.double (FP.l2d ((p2.toInt64) + (1 : Int64)))), (.ref w4), (.int (0 : Int32))]) := fun tq kq => go207 tq (by
      show Steps p.tables e below (T207.setTop (mkF m 37 #[.val (.int p1), .val (.int p2), .val (.int (4 : Int32)), .val (.ref w4), .val (.double (FP.l2d (p2.toInt64))), .second, .val (.double (FP.l2d ((p2.toInt64) + (1 : Int64)))), .second, .val (.int (1 : Int32)), .unset, .unset, .unset] [(.int (0 : Int32))])) _
      refine XS.aloadN X207.here hx rfl (hb hby at_37) rfl rfl ?_
      show Steps p.tables e below (T207.setTop (mkF m 38 #[.val (.int p1), .val (.int p2), .val (.int (4 : Int32)), .val (.ref w4), .val (.double (FP.l2d (p2.toInt64))), .second, .val (.double (FP.l2d ((p2.toInt64) + (1 : Int64)))), .second, .val (.int (1 : Int32)), .unset, .unset, .unset] [(.ref w4), (.int (0 : Int32))])) _
      refine XS.dload X207.here hx rfl (hb hby at_38) rfl ?_
      show Steps p.tables e below (T207.setTop (mkF m 40 #[.val (.int p1), .val (.int p2), .val (.int (4 : Int32)), .val (.ref w4), .val (.double (FP.l2d (p2.toInt64))), .second, .val (.double (FP.l2d ((p2.toInt64) + (1 : Int64)))), .second, .val (.int (1 : Int32)), .unset, .unset, .unset] [(.double (FP.l2d ((p2.toInt64) + (1 : Int64)))), (.ref w4), (.int (0 : Int32))])) _
      refine XS.dload X207.here hx rfl (hb hby at_40) rfl ?_
      exact kq)
    obtain ⟨cq209, kq209, q209a, q209b, q209c⟩ := isOf hZ eq207 E4
    obtain ⟨vv209, _, ⟨T209, L209, k209, n209⟩, -, X209, ⟨Lc209, hQ209, l209, y209, z209⟩, st209⟩ := X207.virtualBack hx (y := (⟨"com/example/heft/heft/model/XPath$Comparison", "holds", "(DD)Z"⟩ : MethodName)) (z := (⟨"com/example/heft/heft/model/XPath$Comparison", "holds", "(DD)Z"⟩ : MethodName)) hown (mvT hZ (tw14 hw)) (mvT hZ (tw15 hw)) (notFace_of_selects (args := #[]) (mvT hZ (tw17 hw))) (mvT hZ (tw17 hw)) (mvT hZ (tw16 hw)) (by decide) (backOf (W := 1) (holds4g l Z a0 hw [] w4 (FP.l2d ((p2.toInt64) + (1 : Int64))) (FP.l2d (p2.toInt64)) ((p2.toInt64) + (1 : Int64)) (p2.toInt64) h0 n0 Z0 E4 O4 rfl rfl (own_b2 p2) (own_b1 p2) (fun q => own_ne p2 q.symm) (own_nlt p2) (own_lt p2)) hZ (tw18 hw) (tw6 hw) (by decide) (by decide)) q209a q209c (g := (mkF m 42 #[.val (.int p1), .val (.int p2), .val (.int (4 : Int32)), .val (.ref w4), .val (.double (FP.l2d (p2.toInt64))), .second, .val (.double (FP.l2d ((p2.toInt64) + (1 : Int64)))), .second, .val (.int (1 : Int32)), .unset, .unset, .unset] [(.double (FP.l2d (p2.toInt64))), (.double (FP.l2d ((p2.toInt64) + (1 : Int64)))), (.ref w4), (.int (0 : Int32))])) rfl (by rw [hml]; rfl) (Steps.refl _) (argsL := [(.double (FP.l2d ((p2.toInt64) + (1 : Int64)))), (.double (FP.l2d (p2.toInt64)))]) (rest := [(.int (0 : Int32))]) (lenOf pd_3 rfl) rfl (by show 2 * 0 + _ ≤ _; exact Nat.le_of_eq rfl) (hb hby at_42) (fun _ _ => ⟨rfl, eq207, (by decide : 0 + 0 ≤ _), (by decide : 0 + 0 ≤ _)⟩)
    dsimp only [Pt.U, Pt.locs, Pt.cells, Pt.slots] at X209 l209 y209 z209 st209 hQ209
    subst l209 y209 z209
    obtain ⟨rfl, Nq209, eq209⟩ := hQ209
    have N209 := Fr.app N207 Nq209
    have go209 : Goes p e below s₁ (G_rm0 m p1 p2) T209 (mkF m 45 #[.val (.int p1), .val (.int p2), .val (.int (4 : Int32)), .val (.ref w4), .val (.double (FP.l2d (p2.toInt64))), .second, .val (.double (FP.l2d ((p2.toInt64) + (1 : Int64)))), .second, .val (.int (1 : Int32)), .unset, .unset, .unset] [(.int (1 : Int32)), (.int (0 : Int32))]) := fun tq kq => go208 tq (st209.trans kq)
    have go210 : Goes p e below s₁ (G_rm0 m p1 p2) T209 (mkF m 56 #[.val (.int p1), .val (.int p2), .val (.int (4 : Int32)), .val (.ref w4), .val (.double (FP.l2d (p2.toInt64))), .second, .val (.double (FP.l2d ((p2.toInt64) + (1 : Int64)))), .second, .val (.int (1 : Int32)), .val (.int (1 : Int32)), .unset, .unset] [(.ref w4)]) := fun tq kq => go209 tq (by
      show Steps p.tables e below (T209.setTop (mkF m 45 #[.val (.int p1), .val (.int p2), .val (.int (4 : Int32)), .val (.ref w4), .val (.double (FP.l2d (p2.toInt64))), .second, .val (.double (FP.l2d ((p2.toInt64) + (1 : Int64)))), .second, .val (.int (1 : Int32)), .unset, .unset, .unset] [(.int (1 : Int32)), (.int (0 : Int32))])) _
      refine XS.icmpNo X209.here hx rfl (hb hby at_45) rfl (feq (by decide)).1 ?_
      show Steps p.tables e below (T209.setTop (mkF m 48 #[.val (.int p1), .val (.int p2), .val (.int (4 : Int32)), .val (.ref w4), .val (.double (FP.l2d (p2.toInt64))), .second, .val (.double (FP.l2d ((p2.toInt64) + (1 : Int64)))), .second, .val (.int (1 : Int32)), .unset, .unset, .unset] [])) _
      refine XS.iconst X209.here hx rfl (hb hby at_48) ?_
      show Steps p.tables e below (T209.setTop (mkF m 49 #[.val (.int p1), .val (.int p2), .val (.int (4 : Int32)), .val (.ref w4), .val (.double (FP.l2d (p2.toInt64))), .second, .val (.double (FP.l2d ((p2.toInt64) + (1 : Int64)))), .second, .val (.int (1 : Int32)), .unset, .unset, .unset] [(.int (1 : Int32))])) _
      refine XS.goto X209.here hx rfl (pc0 := 49) (pc' := 53) rfl (hb hby at_49) (by decide) (by decide) ?_
      show Steps p.tables e below (T209.setTop (mkF m 53 #[.val (.int p1), .val (.int p2), .val (.int (4 : Int32)), .val (.ref w4), .val (.double (FP.l2d (p2.toInt64))), .second, .val (.double (FP.l2d ((p2.toInt64) + (1 : Int64)))), .second, .val (.int (1 : Int32)), .unset, .unset, .unset] [(.int (1 : Int32))])) _
      refine XS.istore X209.here hx rfl (hb hby at_53) rfl (l' := #[.val (.int p1), .val (.int p2), .val (.int (4 : Int32)), .val (.ref w4), .val (.double (FP.l2d (p2.toInt64))), .second, .val (.double (FP.l2d ((p2.toInt64) + (1 : Int64)))), .second, .val (.int (1 : Int32)), .val (.int (1 : Int32)), .unset, .unset]) rfl ?_
      show Steps p.tables e below (T209.setTop (mkF m 55 #[.val (.int p1), .val (.int p2), .val (.int (4 : Int32)), .val (.ref w4), .val (.double (FP.l2d (p2.toInt64))), .second, .val (.double (FP.l2d ((p2.toInt64) + (1 : Int64)))), .second, .val (.int (1 : Int32)), .val (.int (1 : Int32)), .unset, .unset] [])) _
      refine XS.aloadN X209.here hx rfl (hb hby at_55) rfl rfl ?_
      exact kq)
    obtain ⟨cq211, kq211, q211a, q211b, q211c⟩ := isOf hZ eq209 E4
    obtain ⟨vv211, _, ⟨T211, L211, k211, n211⟩, -, X211, ⟨Lc211, hQ211, l211, y211, z211⟩, st211⟩ := X209.virtualBack hx (y := (⟨"com/example/heft/heft/model/XPath$Comparison", "swapped", "()Lcom/example/heft/heft/model/XPath$Comparison;"⟩ : MethodName)) (z := (⟨"com/example/heft/heft/model/XPath$Comparison", "swapped", "()Lcom/example/heft/heft/model/XPath$Comparison;"⟩ : MethodName)) hown (mvT hZ (tw28 hw)) (mvT hZ (tw29 hw)) (notFace_of_selects (args := #[]) (mvT hZ (tw31 hw))) (mvT hZ (tw31 hw)) (mvT hZ (tw30 hw)) (by decide) (backOf (W := 0) (swap4 l Z a0 hw []  w0 w1 w2 w3 w4 w5 h0 n0 Z0 S0 S1 S2 S3 S4 S5 E4 O4) hZ (tw32 hw) (tw6 hw) (by decide) (by decide)) q211a q211c (g := (mkF m 56 #[.val (.int p1), .val (.int p2), .val (.int (4 : Int32)), .val (.ref w4), .val (.double (FP.l2d (p2.toInt64))), .second, .val (.double (FP.l2d ((p2.toInt64) + (1 : Int64)))), .second, .val (.int (1 : Int32)), .val (.int (1 : Int32)), .unset, .unset] [(.ref w4)])) rfl (by rw [hml]; rfl) (Steps.refl _) (argsL := []) (rest := []) (lenOf pd_4 rfl) rfl (by show 2 * 0 + _ ≤ _; exact Nat.le_of_eq rfl) (hb hby at_56) (fun _ _ => ⟨rfl, eq209, (by decide : 0 + 0 ≤ _), (by decide : 0 + 0 ≤ _)⟩)
    dsimp only [Pt.U, Pt.locs, Pt.cells, Pt.slots] at X211 l211 y211 z211 st211 hQ211
    subst l211 y211 z211
    obtain ⟨rfl, Nq211, eq211⟩ := hQ211
    have N211 := Fr.app N209 Nq211
    have go211 : Goes p e below s₁ (G_rm0 m p1 p2) T211 (mkF m 59 #[.val (.int p1), .val (.int p2), .val (.int (4 : Int32)), .val (.ref w4), .val (.double (FP.l2d (p2.toInt64))), .second, .val (.double (FP.l2d ((p2.toInt64) + (1 : Int64)))), .second, .val (.int (1 : Int32)), .val (.int (1 : Int32)), .unset, .unset] [(.ref w2)]) := fun tq kq => go210 tq (st211.trans kq)
    have go212 : Goes p e below s₁ (G_rm0 m p1 p2) T211 (mkF m 60 #[.val (.int p1), .val (.int p2), .val (.int (4 : Int32)), .val (.ref w4), .val (.double (FP.l2d (p2.toInt64))), .second, .val (.double (FP.l2d ((p2.toInt64) + (1 : Int64)))), .second, .val (.int (1 : Int32)), .val (.int (1 : Int32)), .unset, .unset] [(.ref w4), (.ref w2)]) := fun tq kq => go211 tq (by
      show Steps p.tables e below (T211.setTop (mkF m 59 #[.val (.int p1), .val (.int p2), .val (.int (4 : Int32)), .val (.ref w4), .val (.double (FP.l2d (p2.toInt64))), .second, .val (.double (FP.l2d ((p2.toInt64) + (1 : Int64)))), .second, .val (.int (1 : Int32)), .val (.int (1 : Int32)), .unset, .unset] [(.ref w2)])) _
      refine XS.aloadN X211.here hx rfl (hb hby at_59) rfl rfl ?_
      exact kq)
    have go213 : Goes p e below s₁ (G_rm0 m p1 p2) T211 (mkF m 72 #[.val (.int p1), .val (.int p2), .val (.int (4 : Int32)), .val (.ref w4), .val (.double (FP.l2d (p2.toInt64))), .second, .val (.double (FP.l2d ((p2.toInt64) + (1 : Int64)))), .second, .val (.int (1 : Int32)), .val (.int (1 : Int32)), .val (.int (1 : Int32)), .unset] [(.int (2 : Int32)), (.int (4 : Int32))]) := fun tq kq => go212 tq (by
      show Steps p.tables e below (T211.setTop (mkF m 60 #[.val (.int p1), .val (.int p2), .val (.int (4 : Int32)), .val (.ref w4), .val (.double (FP.l2d (p2.toInt64))), .second, .val (.double (FP.l2d ((p2.toInt64) + (1 : Int64)))), .second, .val (.int (1 : Int32)), .val (.int (1 : Int32)), .unset, .unset] [(.ref w4), (.ref w2)])) _
      refine Jvm.RoadKit.acmp (g := (mkF m 60 #[.val (.int p1), .val (.int p2), .val (.int (4 : Int32)), .val (.ref w4), .val (.double (FP.l2d (p2.toInt64))), .second, .val (.double (FP.l2d ((p2.toInt64) + (1 : Int64)))), .second, .val (.int (1 : Int32)), .val (.int (1 : Int32)), .unset, .unset] [(.ref w4), (.ref w2)])) X211 hx rfl rfl rfl (pc0 := 60) (pc' := 63) (same := false) rfl (hb hby at_60) rfl (decide_eq_false fun q => (fun q => n42 q.symm) (Value.ref.inj q)) (by decide) (by decide) ?_
      show Steps p.tables e below (T211.setTop (mkF m 63 #[.val (.int p1), .val (.int p2), .val (.int (4 : Int32)), .val (.ref w4), .val (.double (FP.l2d (p2.toInt64))), .second, .val (.double (FP.l2d ((p2.toInt64) + (1 : Int64)))), .second, .val (.int (1 : Int32)), .val (.int (1 : Int32)), .unset, .unset] [])) _
      refine XS.iconst X211.here hx rfl (hb hby at_63) ?_
      show Steps p.tables e below (T211.setTop (mkF m 64 #[.val (.int p1), .val (.int p2), .val (.int (4 : Int32)), .val (.ref w4), .val (.double (FP.l2d (p2.toInt64))), .second, .val (.double (FP.l2d ((p2.toInt64) + (1 : Int64)))), .second, .val (.int (1 : Int32)), .val (.int (1 : Int32)), .unset, .unset] [(.int (1 : Int32))])) _
      refine XS.goto X211.here hx rfl (pc0 := 64) (pc' := 68) rfl (hb hby at_64) (by decide) (by decide) ?_
      show Steps p.tables e below (T211.setTop (mkF m 68 #[.val (.int p1), .val (.int p2), .val (.int (4 : Int32)), .val (.ref w4), .val (.double (FP.l2d (p2.toInt64))), .second, .val (.double (FP.l2d ((p2.toInt64) + (1 : Int64)))), .second, .val (.int (1 : Int32)), .val (.int (1 : Int32)), .unset, .unset] [(.int (1 : Int32))])) _
      refine XS.istore X211.here hx rfl (hb hby at_68) rfl (l' := #[.val (.int p1), .val (.int p2), .val (.int (4 : Int32)), .val (.ref w4), .val (.double (FP.l2d (p2.toInt64))), .second, .val (.double (FP.l2d ((p2.toInt64) + (1 : Int64)))), .second, .val (.int (1 : Int32)), .val (.int (1 : Int32)), .val (.int (1 : Int32)), .unset]) rfl ?_
      show Steps p.tables e below (T211.setTop (mkF m 70 #[.val (.int p1), .val (.int p2), .val (.int (4 : Int32)), .val (.ref w4), .val (.double (FP.l2d (p2.toInt64))), .second, .val (.double (FP.l2d ((p2.toInt64) + (1 : Int64)))), .second, .val (.int (1 : Int32)), .val (.int (1 : Int32)), .val (.int (1 : Int32)), .unset] [])) _
      refine XS.iloadN X211.here hx rfl (hb hby at_70) rfl ?_
      show Steps p.tables e below (T211.setTop (mkF m 71 #[.val (.int p1), .val (.int p2), .val (.int (4 : Int32)), .val (.ref w4), .val (.double (FP.l2d (p2.toInt64))), .second, .val (.double (FP.l2d ((p2.toInt64) + (1 : Int64)))), .second, .val (.int (1 : Int32)), .val (.int (1 : Int32)), .val (.int (1 : Int32)), .unset] [(.int (4 : Int32))])) _
      refine XS.iconst X211.here hx rfl (hb hby at_71) ?_
      exact kq)
    have go214 : Goes p e below s₁ (G_rm0 m p1 p2) T211 (mkF m 86 #[.val (.int p1), .val (.int p2), .val (.int (4 : Int32)), .val (.ref w4), .val (.double (FP.l2d (p2.toInt64))), .second, .val (.double (FP.l2d ((p2.toInt64) + (1 : Int64)))), .second, .val (.int (1 : Int32)), .val (.int (1 : Int32)), .val (.int (1 : Int32)), .val (.int (1 : Int32))] [(.int (1 : Int32)), (.int (1 : Int32))]) := fun tq kq => go213 tq (by
      show Steps p.tables e below (T211.setTop (mkF m 72 #[.val (.int p1), .val (.int p2), .val (.int (4 : Int32)), .val (.ref w4), .val (.double (FP.l2d (p2.toInt64))), .second, .val (.double (FP.l2d ((p2.toInt64) + (1 : Int64)))), .second, .val (.int (1 : Int32)), .val (.int (1 : Int32)), .val (.int (1 : Int32)), .unset] [(.int (2 : Int32)), (.int (4 : Int32))])) _
      refine XS.icmpNo X211.here hx rfl (hb hby at_72) rfl (flt (by decide)).1 ?_
      show Steps p.tables e below (T211.setTop (mkF m 75 #[.val (.int p1), .val (.int p2), .val (.int (4 : Int32)), .val (.ref w4), .val (.double (FP.l2d (p2.toInt64))), .second, .val (.double (FP.l2d ((p2.toInt64) + (1 : Int64)))), .second, .val (.int (1 : Int32)), .val (.int (1 : Int32)), .val (.int (1 : Int32)), .unset] [])) _
      refine XS.iconst X211.here hx rfl (hb hby at_75) ?_
      show Steps p.tables e below (T211.setTop (mkF m 76 #[.val (.int p1), .val (.int p2), .val (.int (4 : Int32)), .val (.ref w4), .val (.double (FP.l2d (p2.toInt64))), .second, .val (.double (FP.l2d ((p2.toInt64) + (1 : Int64)))), .second, .val (.int (1 : Int32)), .val (.int (1 : Int32)), .val (.int (1 : Int32)), .unset] [(.int (1 : Int32))])) _
      refine XS.goto X211.here hx rfl (pc0 := 76) (pc' := 80) rfl (hb hby at_76) (by decide) (by decide) ?_
      show Steps p.tables e below (T211.setTop (mkF m 80 #[.val (.int p1), .val (.int p2), .val (.int (4 : Int32)), .val (.ref w4), .val (.double (FP.l2d (p2.toInt64))), .second, .val (.double (FP.l2d ((p2.toInt64) + (1 : Int64)))), .second, .val (.int (1 : Int32)), .val (.int (1 : Int32)), .val (.int (1 : Int32)), .unset] [(.int (1 : Int32))])) _
      refine XS.istore X211.here hx rfl (hb hby at_80) rfl (l' := #[.val (.int p1), .val (.int p2), .val (.int (4 : Int32)), .val (.ref w4), .val (.double (FP.l2d (p2.toInt64))), .second, .val (.double (FP.l2d ((p2.toInt64) + (1 : Int64)))), .second, .val (.int (1 : Int32)), .val (.int (1 : Int32)), .val (.int (1 : Int32)), .val (.int (1 : Int32))]) rfl ?_
      show Steps p.tables e below (T211.setTop (mkF m 82 #[.val (.int p1), .val (.int p2), .val (.int (4 : Int32)), .val (.ref w4), .val (.double (FP.l2d (p2.toInt64))), .second, .val (.double (FP.l2d ((p2.toInt64) + (1 : Int64)))), .second, .val (.int (1 : Int32)), .val (.int (1 : Int32)), .val (.int (1 : Int32)), .val (.int (1 : Int32))] [])) _
      refine XS.iload X211.here hx rfl (hb hby at_82) rfl ?_
      show Steps p.tables e below (T211.setTop (mkF m 84 #[.val (.int p1), .val (.int p2), .val (.int (4 : Int32)), .val (.ref w4), .val (.double (FP.l2d (p2.toInt64))), .second, .val (.double (FP.l2d ((p2.toInt64) + (1 : Int64)))), .second, .val (.int (1 : Int32)), .val (.int (1 : Int32)), .val (.int (1 : Int32)), .val (.int (1 : Int32))] [(.int (1 : Int32))])) _
      refine XS.iload X211.here hx rfl (hb hby at_84) rfl ?_
      exact kq)
    have go215 : Goes p e below s₁ (G_rm0 m p1 p2) T211 (mkF m 93 #[.val (.int p1), .val (.int p2), .val (.int (4 : Int32)), .val (.ref w4), .val (.double (FP.l2d (p2.toInt64))), .second, .val (.double (FP.l2d ((p2.toInt64) + (1 : Int64)))), .second, .val (.int (1 : Int32)), .val (.int (1 : Int32)), .val (.int (1 : Int32)), .val (.int (1 : Int32))] [(.int (1 : Int32)), (.int (1 : Int32))]) := fun tq kq => go214 tq (by
      show Steps p.tables e below (T211.setTop (mkF m 86 #[.val (.int p1), .val (.int p2), .val (.int (4 : Int32)), .val (.ref w4), .val (.double (FP.l2d (p2.toInt64))), .second, .val (.double (FP.l2d ((p2.toInt64) + (1 : Int64)))), .second, .val (.int (1 : Int32)), .val (.int (1 : Int32)), .val (.int (1 : Int32)), .val (.int (1 : Int32))] [(.int (1 : Int32)), (.int (1 : Int32))])) _
      refine XS.icmpNo X211.here hx rfl (hb hby at_86) rfl (teq rfl).2 ?_
      show Steps p.tables e below (T211.setTop (mkF m 89 #[.val (.int p1), .val (.int p2), .val (.int (4 : Int32)), .val (.ref w4), .val (.double (FP.l2d (p2.toInt64))), .second, .val (.double (FP.l2d ((p2.toInt64) + (1 : Int64)))), .second, .val (.int (1 : Int32)), .val (.int (1 : Int32)), .val (.int (1 : Int32)), .val (.int (1 : Int32))] [])) _
      refine XS.iload X211.here hx rfl (hb hby at_89) rfl ?_
      show Steps p.tables e below (T211.setTop (mkF m 91 #[.val (.int p1), .val (.int p2), .val (.int (4 : Int32)), .val (.ref w4), .val (.double (FP.l2d (p2.toInt64))), .second, .val (.double (FP.l2d ((p2.toInt64) + (1 : Int64)))), .second, .val (.int (1 : Int32)), .val (.int (1 : Int32)), .val (.int (1 : Int32)), .val (.int (1 : Int32))] [(.int (1 : Int32))])) _
      refine XS.iload X211.here hx rfl (hb hby at_91) rfl ?_
      exact kq)
    have go216 : Goes p e below s₁ (G_rm0 m p1 p2) T211 (mkF m 100 #[.val (.int p1), .val (.int p2), .val (.int (4 : Int32)), .val (.ref w4), .val (.double (FP.l2d (p2.toInt64))), .second, .val (.double (FP.l2d ((p2.toInt64) + (1 : Int64)))), .second, .val (.int (1 : Int32)), .val (.int (1 : Int32)), .val (.int (1 : Int32)), .val (.int (1 : Int32))] [(.int (1 : Int32)), (.int (1 : Int32))]) := fun tq kq => go215 tq (by
      show Steps p.tables e below (T211.setTop (mkF m 93 #[.val (.int p1), .val (.int p2), .val (.int (4 : Int32)), .val (.ref w4), .val (.double (FP.l2d (p2.toInt64))), .second, .val (.double (FP.l2d ((p2.toInt64) + (1 : Int64)))), .second, .val (.int (1 : Int32)), .val (.int (1 : Int32)), .val (.int (1 : Int32)), .val (.int (1 : Int32))] [(.int (1 : Int32)), (.int (1 : Int32))])) _
      refine XS.icmpNo X211.here hx rfl (hb hby at_93) rfl (teq rfl).2 ?_
      show Steps p.tables e below (T211.setTop (mkF m 96 #[.val (.int p1), .val (.int p2), .val (.int (4 : Int32)), .val (.ref w4), .val (.double (FP.l2d (p2.toInt64))), .second, .val (.double (FP.l2d ((p2.toInt64) + (1 : Int64)))), .second, .val (.int (1 : Int32)), .val (.int (1 : Int32)), .val (.int (1 : Int32)), .val (.int (1 : Int32))] [])) _
      refine XS.iload X211.here hx rfl (hb hby at_96) rfl ?_
      show Steps p.tables e below (T211.setTop (mkF m 98 #[.val (.int p1), .val (.int p2), .val (.int (4 : Int32)), .val (.ref w4), .val (.double (FP.l2d (p2.toInt64))), .second, .val (.double (FP.l2d ((p2.toInt64) + (1 : Int64)))), .second, .val (.int (1 : Int32)), .val (.int (1 : Int32)), .val (.int (1 : Int32)), .val (.int (1 : Int32))] [(.int (1 : Int32))])) _
      refine XS.iload X211.here hx rfl (hb hby at_98) rfl ?_
      exact kq)
    have go217 : Goes p e below s₁ (G_rm0 m p1 p2) T211 (mkF m 108 #[.val (.int p1), .val (.int p2), .val (.int (4 : Int32)), .val (.ref w4), .val (.double (FP.l2d (p2.toInt64))), .second, .val (.double (FP.l2d ((p2.toInt64) + (1 : Int64)))), .second, .val (.int (1 : Int32)), .val (.int (1 : Int32)), .val (.int (1 : Int32)), .val (.int (1 : Int32))] [(.int (1 : Int32))]) := fun tq kq => go216 tq (by
      show Steps p.tables e below (T211.setTop (mkF m 100 #[.val (.int p1), .val (.int p2), .val (.int (4 : Int32)), .val (.ref w4), .val (.double (FP.l2d (p2.toInt64))), .second, .val (.double (FP.l2d ((p2.toInt64) + (1 : Int64)))), .second, .val (.int (1 : Int32)), .val (.int (1 : Int32)), .val (.int (1 : Int32)), .val (.int (1 : Int32))] [(.int (1 : Int32)), (.int (1 : Int32))])) _
      refine XS.icmpNo X211.here hx rfl (hb hby at_100) rfl (teq rfl).2 ?_
      show Steps p.tables e below (T211.setTop (mkF m 103 #[.val (.int p1), .val (.int p2), .val (.int (4 : Int32)), .val (.ref w4), .val (.double (FP.l2d (p2.toInt64))), .second, .val (.double (FP.l2d ((p2.toInt64) + (1 : Int64)))), .second, .val (.int (1 : Int32)), .val (.int (1 : Int32)), .val (.int (1 : Int32)), .val (.int (1 : Int32))] [])) _
      refine XS.iconst X211.here hx rfl (hb hby at_103) ?_
      show Steps p.tables e below (T211.setTop (mkF m 104 #[.val (.int p1), .val (.int p2), .val (.int (4 : Int32)), .val (.ref w4), .val (.double (FP.l2d (p2.toInt64))), .second, .val (.double (FP.l2d ((p2.toInt64) + (1 : Int64)))), .second, .val (.int (1 : Int32)), .val (.int (1 : Int32)), .val (.int (1 : Int32)), .val (.int (1 : Int32))] [(.int (1 : Int32))])) _
      refine XS.goto X211.here hx rfl (pc0 := 104) (pc' := 108) rfl (hb hby at_104) (by decide) (by decide) ?_
      exact kq)
    obtain ⟨fs, hr, hrun, hended, hW, hsame⟩ := X211.leave (v := some (.int (1 : Int32))) (fun h => by rw [Bd.returns] at h; cases h)
    refine ⟨_, _, go217 _ ?_, hrun, hended, _, _, rfl, ?_, ⟨_, rfl⟩, hW, hsame.mono (by decide) (by decide)⟩
    · exact retN X211 hx (t := .boolean) Bd.returns (by simp) (hb hby at_108) hr
    · show Q_rm0 Z p1 p2 w0 w1 w2 w3 w4 w5 h0 n0 _ T211.heap _
      rw [eq211]
      exact ⟨rfl, N211⟩
  · have go218 : Goes p e below s₁ (G_rm0 m p1 p2) s₁ (mkF m 9 #[.val (.int p1), .val (.int p2), .val (.int (5 : Int32)), .unset, .unset, .unset, .unset, .unset, .unset, .unset, .unset, .unset] [(.int (5 : Int32))]) := fun tq kq => go137 tq (by
      show Steps p.tables e below (s₁.setTop (mkF m 8 #[.val (.int p1), .val (.int p2), .val (.int (5 : Int32)), .unset, .unset, .unset, .unset, .unset, .unset, .unset, .unset, .unset] [])) _
      refine XS.iloadN X0.here hx rfl (hb hby at_8) rfl ?_
      exact kq)
    obtain ⟨vv219, _, ⟨T219, L219, k219, n219⟩, -, X219, ⟨Lc219, hQ219, l219, y219, z219⟩, st219⟩ := Jvm.LawKit.callS X0 hx (y := (⟨"com/example/heft/heft/model/ComparisonOrdersNumbersPinLaw", "pick", "(I)Lcom/example/heft/heft/model/XPath$Comparison;"⟩ : MethodName)) hown (mvT hZ (tw1 hw)) (mvT hZ (tw2 hw)) (mvT hZ (tw3 hw)) (mvT hZ (tw4 hw)) (by decide) (backOf (W := 0) (pick5 l Z a0 hw []  w0 w1 w2 w3 w4 w5 h0 n0 Z0 S0 S1 S2 S3 S4 S5) hZ (tw4 hw) (tw3 hw) (by decide) (by decide)) (g := (mkF m 9 #[.val (.int p1), .val (.int p2), .val (.int (5 : Int32)), .unset, .unset, .unset, .unset, .unset, .unset, .unset, .unset, .unset] [(.int (5 : Int32))])) rfl (by rw [hml]; rfl) (argsL := [(.int (5 : Int32))]) (rest := []) (lenOf pd_1 rfl) rfl (by show 2 * 0 + _ ≤ _; exact Nat.le_of_eq rfl) (hb hby at_9) (fun _ _ => ⟨rfl, e0, (by decide : 0 + 0 ≤ _), (by decide : 0 + 0 ≤ _)⟩)
    dsimp only [Pt.U, Pt.locs, Pt.cells, Pt.slots] at X219 l219 y219 z219 st219 hQ219
    subst l219 y219 z219
    obtain ⟨rfl, Nq219, eq219⟩ := hQ219
    have N219 := Fr.app N0 Nq219
    have go219 : Goes p e below s₁ (G_rm0 m p1 p2) T219 (mkF m 12 #[.val (.int p1), .val (.int p2), .val (.int (5 : Int32)), .unset, .unset, .unset, .unset, .unset, .unset, .unset, .unset, .unset] [(.ref w5)]) := fun tq kq => go218 tq (st219 _ kq)
    have go220 : Goes p e below s₁ (G_rm0 m p1 p2) T219 (mkF m 24 #[.val (.int p1), .val (.int p2), .val (.int (5 : Int32)), .val (.ref w5), .val (.double (FP.l2d (p2.toInt64))), .second, .val (.double (FP.l2d ((p2.toInt64) + (1 : Int64)))), .second, .unset, .unset, .unset, .unset] [(.ref w5)]) := fun tq kq => go219 tq (by
      show Steps p.tables e below (T219.setTop (mkF m 12 #[.val (.int p1), .val (.int p2), .val (.int (5 : Int32)), .unset, .unset, .unset, .unset, .unset, .unset, .unset, .unset, .unset] [(.ref w5)])) _
      refine XS.astoreN X219.here hx rfl (hb hby at_12) rfl rfl (l' := #[.val (.int p1), .val (.int p2), .val (.int (5 : Int32)), .val (.ref w5), .unset, .unset, .unset, .unset, .unset, .unset, .unset, .unset]) rfl ?_
      show Steps p.tables e below (T219.setTop (mkF m 13 #[.val (.int p1), .val (.int p2), .val (.int (5 : Int32)), .val (.ref w5), .unset, .unset, .unset, .unset, .unset, .unset, .unset, .unset] [])) _
      refine XS.iloadN X219.here hx rfl (hb hby at_13) rfl ?_
      show Steps p.tables e below (T219.setTop (mkF m 14 #[.val (.int p1), .val (.int p2), .val (.int (5 : Int32)), .val (.ref w5), .unset, .unset, .unset, .unset, .unset, .unset, .unset, .unset] [(.int p2)])) _
      refine XS.i2dS X219.here hx rfl (hb hby at_14) rfl (i2d_w _) ?_
      show Steps p.tables e below (T219.setTop (mkF m 15 #[.val (.int p1), .val (.int p2), .val (.int (5 : Int32)), .val (.ref w5), .unset, .unset, .unset, .unset, .unset, .unset, .unset, .unset] [(.double (FP.l2d (p2.toInt64)))])) _
      refine XS.dstore X219.here hx rfl (hb hby at_15) rfl (l' := #[.val (.int p1), .val (.int p2), .val (.int (5 : Int32)), .val (.ref w5), .val (.double (FP.l2d (p2.toInt64))), .second, .unset, .unset, .unset, .unset, .unset, .unset]) rfl ?_
      show Steps p.tables e below (T219.setTop (mkF m 17 #[.val (.int p1), .val (.int p2), .val (.int (5 : Int32)), .val (.ref w5), .val (.double (FP.l2d (p2.toInt64))), .second, .unset, .unset, .unset, .unset, .unset, .unset] [])) _
      refine XS.dload X219.here hx rfl (hb hby at_17) rfl ?_
      show Steps p.tables e below (T219.setTop (mkF m 19 #[.val (.int p1), .val (.int p2), .val (.int (5 : Int32)), .val (.ref w5), .val (.double (FP.l2d (p2.toInt64))), .second, .unset, .unset, .unset, .unset, .unset, .unset] [(.double (FP.l2d (p2.toInt64)))])) _
      refine XS.dconst1 X219.here hx rfl (hb hby at_19) own_d1 ?_
      show Steps p.tables e below (T219.setTop (mkF m 20 #[.val (.int p1), .val (.int p2), .val (.int (5 : Int32)), .val (.ref w5), .val (.double (FP.l2d (p2.toInt64))), .second, .unset, .unset, .unset, .unset, .unset, .unset] [(.double (FP.l2d (1 : Int64))), (.double (FP.l2d (p2.toInt64)))])) _
      refine XS.daddS X219.here hx rfl (hb hby at_20) rfl (nn_w (dadd_w (own_b1 p2) own_o1)) (dadd_w (own_b1 p2) own_o1) ?_
      show Steps p.tables e below (T219.setTop (mkF m 21 #[.val (.int p1), .val (.int p2), .val (.int (5 : Int32)), .val (.ref w5), .val (.double (FP.l2d (p2.toInt64))), .second, .unset, .unset, .unset, .unset, .unset, .unset] [(.double (FP.l2d ((p2.toInt64) + (1 : Int64))))])) _
      refine XS.dstore X219.here hx rfl (hb hby at_21) rfl (l' := #[.val (.int p1), .val (.int p2), .val (.int (5 : Int32)), .val (.ref w5), .val (.double (FP.l2d (p2.toInt64))), .second, .val (.double (FP.l2d ((p2.toInt64) + (1 : Int64)))), .second, .unset, .unset, .unset, .unset]) rfl ?_
      show Steps p.tables e below (T219.setTop (mkF m 23 #[.val (.int p1), .val (.int p2), .val (.int (5 : Int32)), .val (.ref w5), .val (.double (FP.l2d (p2.toInt64))), .second, .val (.double (FP.l2d ((p2.toInt64) + (1 : Int64)))), .second, .unset, .unset, .unset, .unset] [])) _
      refine XS.aloadN X219.here hx rfl (hb hby at_23) rfl rfl ?_
      exact kq)
    obtain ⟨cq221, kq221, q221a, q221b, q221c⟩ := isOf hZ eq219 E5
    obtain ⟨vv221, _, ⟨T221, L221, k221, n221⟩, -, X221, ⟨Lc221, hQ221, l221, y221, z221⟩, st221⟩ := X219.virtualBack hx (y := (⟨"com/example/heft/heft/model/XPath$Comparison", "ordersNumbers", "()Z"⟩ : MethodName)) (z := (⟨"com/example/heft/heft/model/XPath$Comparison", "ordersNumbers", "()Z"⟩ : MethodName)) hown (mvT hZ (tw8 hw)) (mvT hZ (tw9 hw)) (notFace_of_selects (args := #[]) (mvT hZ (tw11 hw))) (mvT hZ (tw11 hw)) (mvT hZ (tw10 hw)) (by decide) (backOf (W := 0) (ord5 l Z a0 hw []  w0 w1 w2 w3 w4 w5 h0 n0 Z0 S0 S1 S2 S3 S4 S5 n50 n51) hZ (tw12 hw) (tw6 hw) (by decide) (by decide)) q221a q221c (g := (mkF m 24 #[.val (.int p1), .val (.int p2), .val (.int (5 : Int32)), .val (.ref w5), .val (.double (FP.l2d (p2.toInt64))), .second, .val (.double (FP.l2d ((p2.toInt64) + (1 : Int64)))), .second, .unset, .unset, .unset, .unset] [(.ref w5)])) rfl (by rw [hml]; rfl) (Steps.refl _) (argsL := []) (rest := []) (lenOf pd_2 rfl) rfl (by show 2 * 0 + _ ≤ _; exact Nat.le_of_eq rfl) (hb hby at_24) (fun _ _ => ⟨rfl, eq219, (by decide : 0 + 0 ≤ _), (by decide : 0 + 0 ≤ _)⟩)
    dsimp only [Pt.U, Pt.locs, Pt.cells, Pt.slots] at X221 l221 y221 z221 st221 hQ221
    subst l221 y221 z221
    obtain ⟨rfl, Nq221, eq221⟩ := hQ221
    have N221 := Fr.app N219 Nq221
    have go221 : Goes p e below s₁ (G_rm0 m p1 p2) T221 (mkF m 27 #[.val (.int p1), .val (.int p2), .val (.int (5 : Int32)), .val (.ref w5), .val (.double (FP.l2d (p2.toInt64))), .second, .val (.double (FP.l2d ((p2.toInt64) + (1 : Int64)))), .second, .unset, .unset, .unset, .unset] [(.int (1 : Int32))]) := fun tq kq => go220 tq (st221.trans kq)
    have go222 : Goes p e below s₁ (G_rm0 m p1 p2) T221 (mkF m 34 #[.val (.int p1), .val (.int p2), .val (.int (5 : Int32)), .val (.ref w5), .val (.double (FP.l2d (p2.toInt64))), .second, .val (.double (FP.l2d ((p2.toInt64) + (1 : Int64)))), .second, .val (.int (1 : Int32)), .unset, .unset, .unset] [(.double (FP.l2d ((p2.toInt64) + (1 : Int64)))), (.double (FP.l2d (p2.toInt64))), (.ref w5)]) := fun tq kq => go221 tq (by
      show Steps p.tables e below (T221.setTop (mkF m 27 #[.val (.int p1), .val (.int p2), .val (.int (5 : Int32)), .val (.ref w5), .val (.double (FP.l2d (p2.toInt64))), .second, .val (.double (FP.l2d ((p2.toInt64) + (1 : Int64)))), .second, .unset, .unset, .unset, .unset] [(.int (1 : Int32))])) _
      refine XS.istore X221.here hx rfl (hb hby at_27) rfl (l' := #[.val (.int p1), .val (.int p2), .val (.int (5 : Int32)), .val (.ref w5), .val (.double (FP.l2d (p2.toInt64))), .second, .val (.double (FP.l2d ((p2.toInt64) + (1 : Int64)))), .second, .val (.int (1 : Int32)), .unset, .unset, .unset]) rfl ?_
      show Steps p.tables e below (T221.setTop (mkF m 29 #[.val (.int p1), .val (.int p2), .val (.int (5 : Int32)), .val (.ref w5), .val (.double (FP.l2d (p2.toInt64))), .second, .val (.double (FP.l2d ((p2.toInt64) + (1 : Int64)))), .second, .val (.int (1 : Int32)), .unset, .unset, .unset] [])) _
      refine XS.aloadN X221.here hx rfl (hb hby at_29) rfl rfl ?_
      show Steps p.tables e below (T221.setTop (mkF m 30 #[.val (.int p1), .val (.int p2), .val (.int (5 : Int32)), .val (.ref w5), .val (.double (FP.l2d (p2.toInt64))), .second, .val (.double (FP.l2d ((p2.toInt64) + (1 : Int64)))), .second, .val (.int (1 : Int32)), .unset, .unset, .unset] [(.ref w5)])) _
      refine XS.dload X221.here hx rfl (hb hby at_30) rfl ?_
      show Steps p.tables e below (T221.setTop (mkF m 32 #[.val (.int p1), .val (.int p2), .val (.int (5 : Int32)), .val (.ref w5), .val (.double (FP.l2d (p2.toInt64))), .second, .val (.double (FP.l2d ((p2.toInt64) + (1 : Int64)))), .second, .val (.int (1 : Int32)), .unset, .unset, .unset] [(.double (FP.l2d (p2.toInt64))), (.ref w5)])) _
      refine XS.dload X221.here hx rfl (hb hby at_32) rfl ?_
      exact kq)
    obtain ⟨cq223, kq223, q223a, q223b, q223c⟩ := isOf hZ eq221 E5
    obtain ⟨vv223, _, ⟨T223, L223, k223, n223⟩, -, X223, ⟨Lc223, hQ223, l223, y223, z223⟩, st223⟩ := X221.virtualBack hx (y := (⟨"com/example/heft/heft/model/XPath$Comparison", "holds", "(DD)Z"⟩ : MethodName)) (z := (⟨"com/example/heft/heft/model/XPath$Comparison", "holds", "(DD)Z"⟩ : MethodName)) hown (mvT hZ (tw14 hw)) (mvT hZ (tw15 hw)) (notFace_of_selects (args := #[]) (mvT hZ (tw17 hw))) (mvT hZ (tw17 hw)) (mvT hZ (tw16 hw)) (by decide) (backOf (W := 0) (holds5l l Z a0 hw [] w5 (FP.l2d (p2.toInt64)) (FP.l2d ((p2.toInt64) + (1 : Int64))) (p2.toInt64) ((p2.toInt64) + (1 : Int64)) h0 n0 Z0 E5 O5 rfl rfl (own_b1 p2) (own_b2 p2) (own_ne p2) (own_lt p2) (own_nlt p2)) hZ (tw18 hw) (tw6 hw) (by decide) (by decide)) q223a q223c (g := (mkF m 34 #[.val (.int p1), .val (.int p2), .val (.int (5 : Int32)), .val (.ref w5), .val (.double (FP.l2d (p2.toInt64))), .second, .val (.double (FP.l2d ((p2.toInt64) + (1 : Int64)))), .second, .val (.int (1 : Int32)), .unset, .unset, .unset] [(.double (FP.l2d ((p2.toInt64) + (1 : Int64)))), (.double (FP.l2d (p2.toInt64))), (.ref w5)])) rfl (by rw [hml]; rfl) (Steps.refl _) (argsL := [(.double (FP.l2d (p2.toInt64))), (.double (FP.l2d ((p2.toInt64) + (1 : Int64))))]) (rest := []) (lenOf pd_3 rfl) rfl (by show 2 * 0 + _ ≤ _; exact Nat.le_of_eq rfl) (hb hby at_34) (fun _ _ => ⟨rfl, eq221, (by decide : 0 + 0 ≤ _), (by decide : 0 + 0 ≤ _)⟩)
    dsimp only [Pt.U, Pt.locs, Pt.cells, Pt.slots] at X223 l223 y223 z223 st223 hQ223
    subst l223 y223 z223
    obtain ⟨rfl, Nq223, eq223⟩ := hQ223
    have N223 := Fr.app N221 Nq223
    have go223 : Goes p e below s₁ (G_rm0 m p1 p2) T223 (mkF m 37 #[.val (.int p1), .val (.int p2), .val (.int (5 : Int32)), .val (.ref w5), .val (.double (FP.l2d (p2.toInt64))), .second, .val (.double (FP.l2d ((p2.toInt64) + (1 : Int64)))), .second, .val (.int (1 : Int32)), .unset, .unset, .unset] [(.int (0 : Int32))]) := fun tq kq => go222 tq (st223.trans kq)
    have go224 : Goes p e below s₁ (G_rm0 m p1 p2) T223 (mkF m 42 #[.val (.int p1), .val (.int p2), .val (.int (5 : Int32)), .val (.ref w5), .val (.double (FP.l2d (p2.toInt64))), .second, .val (.double (FP.l2d ((p2.toInt64) + (1 : Int64)))), .second, .val (.int (1 : Int32)), .unset, .unset, .unset] [(.double (FP.l2d (p2.toInt64))), (.double (FP.l2d ((p2.toInt64) + (1 : Int64)))), (.ref w5), (.int (0 : Int32))]) := fun tq kq => go223 tq (by
      show Steps p.tables e below (T223.setTop (mkF m 37 #[.val (.int p1), .val (.int p2), .val (.int (5 : Int32)), .val (.ref w5), .val (.double (FP.l2d (p2.toInt64))), .second, .val (.double (FP.l2d ((p2.toInt64) + (1 : Int64)))), .second, .val (.int (1 : Int32)), .unset, .unset, .unset] [(.int (0 : Int32))])) _
      refine XS.aloadN X223.here hx rfl (hb hby at_37) rfl rfl ?_
      show Steps p.tables e below (T223.setTop (mkF m 38 #[.val (.int p1), .val (.int p2), .val (.int (5 : Int32)), .val (.ref w5), .val (.double (FP.l2d (p2.toInt64))), .second, .val (.double (FP.l2d ((p2.toInt64) + (1 : Int64)))), .second, .val (.int (1 : Int32)), .unset, .unset, .unset] [(.ref w5), (.int (0 : Int32))])) _
      refine XS.dload X223.here hx rfl (hb hby at_38) rfl ?_
      show Steps p.tables e below (T223.setTop (mkF m 40 #[.val (.int p1), .val (.int p2), .val (.int (5 : Int32)), .val (.ref w5), .val (.double (FP.l2d (p2.toInt64))), .second, .val (.double (FP.l2d ((p2.toInt64) + (1 : Int64)))), .second, .val (.int (1 : Int32)), .unset, .unset, .unset] [(.double (FP.l2d ((p2.toInt64) + (1 : Int64)))), (.ref w5), (.int (0 : Int32))])) _
      refine XS.dload X223.here hx rfl (hb hby at_40) rfl ?_
      exact kq)
    obtain ⟨cq225, kq225, q225a, q225b, q225c⟩ := isOf hZ eq223 E5
    obtain ⟨vv225, _, ⟨T225, L225, k225, n225⟩, -, X225, ⟨Lc225, hQ225, l225, y225, z225⟩, st225⟩ := X223.virtualBack hx (y := (⟨"com/example/heft/heft/model/XPath$Comparison", "holds", "(DD)Z"⟩ : MethodName)) (z := (⟨"com/example/heft/heft/model/XPath$Comparison", "holds", "(DD)Z"⟩ : MethodName)) hown (mvT hZ (tw14 hw)) (mvT hZ (tw15 hw)) (notFace_of_selects (args := #[]) (mvT hZ (tw17 hw))) (mvT hZ (tw17 hw)) (mvT hZ (tw16 hw)) (by decide) (backOf (W := 1) (holds5g l Z a0 hw [] w5 (FP.l2d ((p2.toInt64) + (1 : Int64))) (FP.l2d (p2.toInt64)) ((p2.toInt64) + (1 : Int64)) (p2.toInt64) h0 n0 Z0 E5 O5 rfl rfl (own_b2 p2) (own_b1 p2) (fun q => own_ne p2 q.symm) (own_nlt p2) (own_lt p2)) hZ (tw18 hw) (tw6 hw) (by decide) (by decide)) q225a q225c (g := (mkF m 42 #[.val (.int p1), .val (.int p2), .val (.int (5 : Int32)), .val (.ref w5), .val (.double (FP.l2d (p2.toInt64))), .second, .val (.double (FP.l2d ((p2.toInt64) + (1 : Int64)))), .second, .val (.int (1 : Int32)), .unset, .unset, .unset] [(.double (FP.l2d (p2.toInt64))), (.double (FP.l2d ((p2.toInt64) + (1 : Int64)))), (.ref w5), (.int (0 : Int32))])) rfl (by rw [hml]; rfl) (Steps.refl _) (argsL := [(.double (FP.l2d ((p2.toInt64) + (1 : Int64)))), (.double (FP.l2d (p2.toInt64)))]) (rest := [(.int (0 : Int32))]) (lenOf pd_3 rfl) rfl (by show 2 * 0 + _ ≤ _; exact Nat.le_of_eq rfl) (hb hby at_42) (fun _ _ => ⟨rfl, eq223, (by decide : 0 + 0 ≤ _), (by decide : 0 + 0 ≤ _)⟩)
    dsimp only [Pt.U, Pt.locs, Pt.cells, Pt.slots] at X225 l225 y225 z225 st225 hQ225
    subst l225 y225 z225
    obtain ⟨rfl, Nq225, eq225⟩ := hQ225
    have N225 := Fr.app N223 Nq225
    have go225 : Goes p e below s₁ (G_rm0 m p1 p2) T225 (mkF m 45 #[.val (.int p1), .val (.int p2), .val (.int (5 : Int32)), .val (.ref w5), .val (.double (FP.l2d (p2.toInt64))), .second, .val (.double (FP.l2d ((p2.toInt64) + (1 : Int64)))), .second, .val (.int (1 : Int32)), .unset, .unset, .unset] [(.int (1 : Int32)), (.int (0 : Int32))]) := fun tq kq => go224 tq (st225.trans kq)
    have go226 : Goes p e below s₁ (G_rm0 m p1 p2) T225 (mkF m 56 #[.val (.int p1), .val (.int p2), .val (.int (5 : Int32)), .val (.ref w5), .val (.double (FP.l2d (p2.toInt64))), .second, .val (.double (FP.l2d ((p2.toInt64) + (1 : Int64)))), .second, .val (.int (1 : Int32)), .val (.int (1 : Int32)), .unset, .unset] [(.ref w5)]) := fun tq kq => go225 tq (by
      show Steps p.tables e below (T225.setTop (mkF m 45 #[.val (.int p1), .val (.int p2), .val (.int (5 : Int32)), .val (.ref w5), .val (.double (FP.l2d (p2.toInt64))), .second, .val (.double (FP.l2d ((p2.toInt64) + (1 : Int64)))), .second, .val (.int (1 : Int32)), .unset, .unset, .unset] [(.int (1 : Int32)), (.int (0 : Int32))])) _
      refine XS.icmpNo X225.here hx rfl (hb hby at_45) rfl (feq (by decide)).1 ?_
      show Steps p.tables e below (T225.setTop (mkF m 48 #[.val (.int p1), .val (.int p2), .val (.int (5 : Int32)), .val (.ref w5), .val (.double (FP.l2d (p2.toInt64))), .second, .val (.double (FP.l2d ((p2.toInt64) + (1 : Int64)))), .second, .val (.int (1 : Int32)), .unset, .unset, .unset] [])) _
      refine XS.iconst X225.here hx rfl (hb hby at_48) ?_
      show Steps p.tables e below (T225.setTop (mkF m 49 #[.val (.int p1), .val (.int p2), .val (.int (5 : Int32)), .val (.ref w5), .val (.double (FP.l2d (p2.toInt64))), .second, .val (.double (FP.l2d ((p2.toInt64) + (1 : Int64)))), .second, .val (.int (1 : Int32)), .unset, .unset, .unset] [(.int (1 : Int32))])) _
      refine XS.goto X225.here hx rfl (pc0 := 49) (pc' := 53) rfl (hb hby at_49) (by decide) (by decide) ?_
      show Steps p.tables e below (T225.setTop (mkF m 53 #[.val (.int p1), .val (.int p2), .val (.int (5 : Int32)), .val (.ref w5), .val (.double (FP.l2d (p2.toInt64))), .second, .val (.double (FP.l2d ((p2.toInt64) + (1 : Int64)))), .second, .val (.int (1 : Int32)), .unset, .unset, .unset] [(.int (1 : Int32))])) _
      refine XS.istore X225.here hx rfl (hb hby at_53) rfl (l' := #[.val (.int p1), .val (.int p2), .val (.int (5 : Int32)), .val (.ref w5), .val (.double (FP.l2d (p2.toInt64))), .second, .val (.double (FP.l2d ((p2.toInt64) + (1 : Int64)))), .second, .val (.int (1 : Int32)), .val (.int (1 : Int32)), .unset, .unset]) rfl ?_
      show Steps p.tables e below (T225.setTop (mkF m 55 #[.val (.int p1), .val (.int p2), .val (.int (5 : Int32)), .val (.ref w5), .val (.double (FP.l2d (p2.toInt64))), .second, .val (.double (FP.l2d ((p2.toInt64) + (1 : Int64)))), .second, .val (.int (1 : Int32)), .val (.int (1 : Int32)), .unset, .unset] [])) _
      refine XS.aloadN X225.here hx rfl (hb hby at_55) rfl rfl ?_
      exact kq)
    obtain ⟨cq227, kq227, q227a, q227b, q227c⟩ := isOf hZ eq225 E5
    obtain ⟨vv227, _, ⟨T227, L227, k227, n227⟩, -, X227, ⟨Lc227, hQ227, l227, y227, z227⟩, st227⟩ := X225.virtualBack hx (y := (⟨"com/example/heft/heft/model/XPath$Comparison", "swapped", "()Lcom/example/heft/heft/model/XPath$Comparison;"⟩ : MethodName)) (z := (⟨"com/example/heft/heft/model/XPath$Comparison", "swapped", "()Lcom/example/heft/heft/model/XPath$Comparison;"⟩ : MethodName)) hown (mvT hZ (tw28 hw)) (mvT hZ (tw29 hw)) (notFace_of_selects (args := #[]) (mvT hZ (tw31 hw))) (mvT hZ (tw31 hw)) (mvT hZ (tw30 hw)) (by decide) (backOf (W := 0) (swap5 l Z a0 hw []  w0 w1 w2 w3 w4 w5 h0 n0 Z0 S0 S1 S2 S3 S4 S5 E5 O5) hZ (tw32 hw) (tw6 hw) (by decide) (by decide)) q227a q227c (g := (mkF m 56 #[.val (.int p1), .val (.int p2), .val (.int (5 : Int32)), .val (.ref w5), .val (.double (FP.l2d (p2.toInt64))), .second, .val (.double (FP.l2d ((p2.toInt64) + (1 : Int64)))), .second, .val (.int (1 : Int32)), .val (.int (1 : Int32)), .unset, .unset] [(.ref w5)])) rfl (by rw [hml]; rfl) (Steps.refl _) (argsL := []) (rest := []) (lenOf pd_4 rfl) rfl (by show 2 * 0 + _ ≤ _; exact Nat.le_of_eq rfl) (hb hby at_56) (fun _ _ => ⟨rfl, eq225, (by decide : 0 + 0 ≤ _), (by decide : 0 + 0 ≤ _)⟩)
    dsimp only [Pt.U, Pt.locs, Pt.cells, Pt.slots] at X227 l227 y227 z227 st227 hQ227
    subst l227 y227 z227
    obtain ⟨rfl, Nq227, eq227⟩ := hQ227
    have N227 := Fr.app N225 Nq227
    have go227 : Goes p e below s₁ (G_rm0 m p1 p2) T227 (mkF m 59 #[.val (.int p1), .val (.int p2), .val (.int (5 : Int32)), .val (.ref w5), .val (.double (FP.l2d (p2.toInt64))), .second, .val (.double (FP.l2d ((p2.toInt64) + (1 : Int64)))), .second, .val (.int (1 : Int32)), .val (.int (1 : Int32)), .unset, .unset] [(.ref w3)]) := fun tq kq => go226 tq (st227.trans kq)
    have go228 : Goes p e below s₁ (G_rm0 m p1 p2) T227 (mkF m 60 #[.val (.int p1), .val (.int p2), .val (.int (5 : Int32)), .val (.ref w5), .val (.double (FP.l2d (p2.toInt64))), .second, .val (.double (FP.l2d ((p2.toInt64) + (1 : Int64)))), .second, .val (.int (1 : Int32)), .val (.int (1 : Int32)), .unset, .unset] [(.ref w5), (.ref w3)]) := fun tq kq => go227 tq (by
      show Steps p.tables e below (T227.setTop (mkF m 59 #[.val (.int p1), .val (.int p2), .val (.int (5 : Int32)), .val (.ref w5), .val (.double (FP.l2d (p2.toInt64))), .second, .val (.double (FP.l2d ((p2.toInt64) + (1 : Int64)))), .second, .val (.int (1 : Int32)), .val (.int (1 : Int32)), .unset, .unset] [(.ref w3)])) _
      refine XS.aloadN X227.here hx rfl (hb hby at_59) rfl rfl ?_
      exact kq)
    have go229 : Goes p e below s₁ (G_rm0 m p1 p2) T227 (mkF m 72 #[.val (.int p1), .val (.int p2), .val (.int (5 : Int32)), .val (.ref w5), .val (.double (FP.l2d (p2.toInt64))), .second, .val (.double (FP.l2d ((p2.toInt64) + (1 : Int64)))), .second, .val (.int (1 : Int32)), .val (.int (1 : Int32)), .val (.int (1 : Int32)), .unset] [(.int (2 : Int32)), (.int (5 : Int32))]) := fun tq kq => go228 tq (by
      show Steps p.tables e below (T227.setTop (mkF m 60 #[.val (.int p1), .val (.int p2), .val (.int (5 : Int32)), .val (.ref w5), .val (.double (FP.l2d (p2.toInt64))), .second, .val (.double (FP.l2d ((p2.toInt64) + (1 : Int64)))), .second, .val (.int (1 : Int32)), .val (.int (1 : Int32)), .unset, .unset] [(.ref w5), (.ref w3)])) _
      refine Jvm.RoadKit.acmp (g := (mkF m 60 #[.val (.int p1), .val (.int p2), .val (.int (5 : Int32)), .val (.ref w5), .val (.double (FP.l2d (p2.toInt64))), .second, .val (.double (FP.l2d ((p2.toInt64) + (1 : Int64)))), .second, .val (.int (1 : Int32)), .val (.int (1 : Int32)), .unset, .unset] [(.ref w5), (.ref w3)])) X227 hx rfl rfl rfl (pc0 := 60) (pc' := 63) (same := false) rfl (hb hby at_60) rfl (decide_eq_false fun q => (fun q => n53 q.symm) (Value.ref.inj q)) (by decide) (by decide) ?_
      show Steps p.tables e below (T227.setTop (mkF m 63 #[.val (.int p1), .val (.int p2), .val (.int (5 : Int32)), .val (.ref w5), .val (.double (FP.l2d (p2.toInt64))), .second, .val (.double (FP.l2d ((p2.toInt64) + (1 : Int64)))), .second, .val (.int (1 : Int32)), .val (.int (1 : Int32)), .unset, .unset] [])) _
      refine XS.iconst X227.here hx rfl (hb hby at_63) ?_
      show Steps p.tables e below (T227.setTop (mkF m 64 #[.val (.int p1), .val (.int p2), .val (.int (5 : Int32)), .val (.ref w5), .val (.double (FP.l2d (p2.toInt64))), .second, .val (.double (FP.l2d ((p2.toInt64) + (1 : Int64)))), .second, .val (.int (1 : Int32)), .val (.int (1 : Int32)), .unset, .unset] [(.int (1 : Int32))])) _
      refine XS.goto X227.here hx rfl (pc0 := 64) (pc' := 68) rfl (hb hby at_64) (by decide) (by decide) ?_
      show Steps p.tables e below (T227.setTop (mkF m 68 #[.val (.int p1), .val (.int p2), .val (.int (5 : Int32)), .val (.ref w5), .val (.double (FP.l2d (p2.toInt64))), .second, .val (.double (FP.l2d ((p2.toInt64) + (1 : Int64)))), .second, .val (.int (1 : Int32)), .val (.int (1 : Int32)), .unset, .unset] [(.int (1 : Int32))])) _
      refine XS.istore X227.here hx rfl (hb hby at_68) rfl (l' := #[.val (.int p1), .val (.int p2), .val (.int (5 : Int32)), .val (.ref w5), .val (.double (FP.l2d (p2.toInt64))), .second, .val (.double (FP.l2d ((p2.toInt64) + (1 : Int64)))), .second, .val (.int (1 : Int32)), .val (.int (1 : Int32)), .val (.int (1 : Int32)), .unset]) rfl ?_
      show Steps p.tables e below (T227.setTop (mkF m 70 #[.val (.int p1), .val (.int p2), .val (.int (5 : Int32)), .val (.ref w5), .val (.double (FP.l2d (p2.toInt64))), .second, .val (.double (FP.l2d ((p2.toInt64) + (1 : Int64)))), .second, .val (.int (1 : Int32)), .val (.int (1 : Int32)), .val (.int (1 : Int32)), .unset] [])) _
      refine XS.iloadN X227.here hx rfl (hb hby at_70) rfl ?_
      show Steps p.tables e below (T227.setTop (mkF m 71 #[.val (.int p1), .val (.int p2), .val (.int (5 : Int32)), .val (.ref w5), .val (.double (FP.l2d (p2.toInt64))), .second, .val (.double (FP.l2d ((p2.toInt64) + (1 : Int64)))), .second, .val (.int (1 : Int32)), .val (.int (1 : Int32)), .val (.int (1 : Int32)), .unset] [(.int (5 : Int32))])) _
      refine XS.iconst X227.here hx rfl (hb hby at_71) ?_
      exact kq)
    have go230 : Goes p e below s₁ (G_rm0 m p1 p2) T227 (mkF m 86 #[.val (.int p1), .val (.int p2), .val (.int (5 : Int32)), .val (.ref w5), .val (.double (FP.l2d (p2.toInt64))), .second, .val (.double (FP.l2d ((p2.toInt64) + (1 : Int64)))), .second, .val (.int (1 : Int32)), .val (.int (1 : Int32)), .val (.int (1 : Int32)), .val (.int (1 : Int32))] [(.int (1 : Int32)), (.int (1 : Int32))]) := fun tq kq => go229 tq (by
      show Steps p.tables e below (T227.setTop (mkF m 72 #[.val (.int p1), .val (.int p2), .val (.int (5 : Int32)), .val (.ref w5), .val (.double (FP.l2d (p2.toInt64))), .second, .val (.double (FP.l2d ((p2.toInt64) + (1 : Int64)))), .second, .val (.int (1 : Int32)), .val (.int (1 : Int32)), .val (.int (1 : Int32)), .unset] [(.int (2 : Int32)), (.int (5 : Int32))])) _
      refine XS.icmpNo X227.here hx rfl (hb hby at_72) rfl (flt (by decide)).1 ?_
      show Steps p.tables e below (T227.setTop (mkF m 75 #[.val (.int p1), .val (.int p2), .val (.int (5 : Int32)), .val (.ref w5), .val (.double (FP.l2d (p2.toInt64))), .second, .val (.double (FP.l2d ((p2.toInt64) + (1 : Int64)))), .second, .val (.int (1 : Int32)), .val (.int (1 : Int32)), .val (.int (1 : Int32)), .unset] [])) _
      refine XS.iconst X227.here hx rfl (hb hby at_75) ?_
      show Steps p.tables e below (T227.setTop (mkF m 76 #[.val (.int p1), .val (.int p2), .val (.int (5 : Int32)), .val (.ref w5), .val (.double (FP.l2d (p2.toInt64))), .second, .val (.double (FP.l2d ((p2.toInt64) + (1 : Int64)))), .second, .val (.int (1 : Int32)), .val (.int (1 : Int32)), .val (.int (1 : Int32)), .unset] [(.int (1 : Int32))])) _
      refine XS.goto X227.here hx rfl (pc0 := 76) (pc' := 80) rfl (hb hby at_76) (by decide) (by decide) ?_
      show Steps p.tables e below (T227.setTop (mkF m 80 #[.val (.int p1), .val (.int p2), .val (.int (5 : Int32)), .val (.ref w5), .val (.double (FP.l2d (p2.toInt64))), .second, .val (.double (FP.l2d ((p2.toInt64) + (1 : Int64)))), .second, .val (.int (1 : Int32)), .val (.int (1 : Int32)), .val (.int (1 : Int32)), .unset] [(.int (1 : Int32))])) _
      refine XS.istore X227.here hx rfl (hb hby at_80) rfl (l' := #[.val (.int p1), .val (.int p2), .val (.int (5 : Int32)), .val (.ref w5), .val (.double (FP.l2d (p2.toInt64))), .second, .val (.double (FP.l2d ((p2.toInt64) + (1 : Int64)))), .second, .val (.int (1 : Int32)), .val (.int (1 : Int32)), .val (.int (1 : Int32)), .val (.int (1 : Int32))]) rfl ?_
      show Steps p.tables e below (T227.setTop (mkF m 82 #[.val (.int p1), .val (.int p2), .val (.int (5 : Int32)), .val (.ref w5), .val (.double (FP.l2d (p2.toInt64))), .second, .val (.double (FP.l2d ((p2.toInt64) + (1 : Int64)))), .second, .val (.int (1 : Int32)), .val (.int (1 : Int32)), .val (.int (1 : Int32)), .val (.int (1 : Int32))] [])) _
      refine XS.iload X227.here hx rfl (hb hby at_82) rfl ?_
      show Steps p.tables e below (T227.setTop (mkF m 84 #[.val (.int p1), .val (.int p2), .val (.int (5 : Int32)), .val (.ref w5), .val (.double (FP.l2d (p2.toInt64))), .second, .val (.double (FP.l2d ((p2.toInt64) + (1 : Int64)))), .second, .val (.int (1 : Int32)), .val (.int (1 : Int32)), .val (.int (1 : Int32)), .val (.int (1 : Int32))] [(.int (1 : Int32))])) _
      refine XS.iload X227.here hx rfl (hb hby at_84) rfl ?_
      exact kq)
    have go231 : Goes p e below s₁ (G_rm0 m p1 p2) T227 (mkF m 93 #[.val (.int p1), .val (.int p2), .val (.int (5 : Int32)), .val (.ref w5), .val (.double (FP.l2d (p2.toInt64))), .second, .val (.double (FP.l2d ((p2.toInt64) + (1 : Int64)))), .second, .val (.int (1 : Int32)), .val (.int (1 : Int32)), .val (.int (1 : Int32)), .val (.int (1 : Int32))] [(.int (1 : Int32)), (.int (1 : Int32))]) := fun tq kq => go230 tq (by
      show Steps p.tables e below (T227.setTop (mkF m 86 #[.val (.int p1), .val (.int p2), .val (.int (5 : Int32)), .val (.ref w5), .val (.double (FP.l2d (p2.toInt64))), .second, .val (.double (FP.l2d ((p2.toInt64) + (1 : Int64)))), .second, .val (.int (1 : Int32)), .val (.int (1 : Int32)), .val (.int (1 : Int32)), .val (.int (1 : Int32))] [(.int (1 : Int32)), (.int (1 : Int32))])) _
      refine XS.icmpNo X227.here hx rfl (hb hby at_86) rfl (teq rfl).2 ?_
      show Steps p.tables e below (T227.setTop (mkF m 89 #[.val (.int p1), .val (.int p2), .val (.int (5 : Int32)), .val (.ref w5), .val (.double (FP.l2d (p2.toInt64))), .second, .val (.double (FP.l2d ((p2.toInt64) + (1 : Int64)))), .second, .val (.int (1 : Int32)), .val (.int (1 : Int32)), .val (.int (1 : Int32)), .val (.int (1 : Int32))] [])) _
      refine XS.iload X227.here hx rfl (hb hby at_89) rfl ?_
      show Steps p.tables e below (T227.setTop (mkF m 91 #[.val (.int p1), .val (.int p2), .val (.int (5 : Int32)), .val (.ref w5), .val (.double (FP.l2d (p2.toInt64))), .second, .val (.double (FP.l2d ((p2.toInt64) + (1 : Int64)))), .second, .val (.int (1 : Int32)), .val (.int (1 : Int32)), .val (.int (1 : Int32)), .val (.int (1 : Int32))] [(.int (1 : Int32))])) _
      refine XS.iload X227.here hx rfl (hb hby at_91) rfl ?_
      exact kq)
    have go232 : Goes p e below s₁ (G_rm0 m p1 p2) T227 (mkF m 100 #[.val (.int p1), .val (.int p2), .val (.int (5 : Int32)), .val (.ref w5), .val (.double (FP.l2d (p2.toInt64))), .second, .val (.double (FP.l2d ((p2.toInt64) + (1 : Int64)))), .second, .val (.int (1 : Int32)), .val (.int (1 : Int32)), .val (.int (1 : Int32)), .val (.int (1 : Int32))] [(.int (1 : Int32)), (.int (1 : Int32))]) := fun tq kq => go231 tq (by
      show Steps p.tables e below (T227.setTop (mkF m 93 #[.val (.int p1), .val (.int p2), .val (.int (5 : Int32)), .val (.ref w5), .val (.double (FP.l2d (p2.toInt64))), .second, .val (.double (FP.l2d ((p2.toInt64) + (1 : Int64)))), .second, .val (.int (1 : Int32)), .val (.int (1 : Int32)), .val (.int (1 : Int32)), .val (.int (1 : Int32))] [(.int (1 : Int32)), (.int (1 : Int32))])) _
      refine XS.icmpNo X227.here hx rfl (hb hby at_93) rfl (teq rfl).2 ?_
      show Steps p.tables e below (T227.setTop (mkF m 96 #[.val (.int p1), .val (.int p2), .val (.int (5 : Int32)), .val (.ref w5), .val (.double (FP.l2d (p2.toInt64))), .second, .val (.double (FP.l2d ((p2.toInt64) + (1 : Int64)))), .second, .val (.int (1 : Int32)), .val (.int (1 : Int32)), .val (.int (1 : Int32)), .val (.int (1 : Int32))] [])) _
      refine XS.iload X227.here hx rfl (hb hby at_96) rfl ?_
      show Steps p.tables e below (T227.setTop (mkF m 98 #[.val (.int p1), .val (.int p2), .val (.int (5 : Int32)), .val (.ref w5), .val (.double (FP.l2d (p2.toInt64))), .second, .val (.double (FP.l2d ((p2.toInt64) + (1 : Int64)))), .second, .val (.int (1 : Int32)), .val (.int (1 : Int32)), .val (.int (1 : Int32)), .val (.int (1 : Int32))] [(.int (1 : Int32))])) _
      refine XS.iload X227.here hx rfl (hb hby at_98) rfl ?_
      exact kq)
    have go233 : Goes p e below s₁ (G_rm0 m p1 p2) T227 (mkF m 108 #[.val (.int p1), .val (.int p2), .val (.int (5 : Int32)), .val (.ref w5), .val (.double (FP.l2d (p2.toInt64))), .second, .val (.double (FP.l2d ((p2.toInt64) + (1 : Int64)))), .second, .val (.int (1 : Int32)), .val (.int (1 : Int32)), .val (.int (1 : Int32)), .val (.int (1 : Int32))] [(.int (1 : Int32))]) := fun tq kq => go232 tq (by
      show Steps p.tables e below (T227.setTop (mkF m 100 #[.val (.int p1), .val (.int p2), .val (.int (5 : Int32)), .val (.ref w5), .val (.double (FP.l2d (p2.toInt64))), .second, .val (.double (FP.l2d ((p2.toInt64) + (1 : Int64)))), .second, .val (.int (1 : Int32)), .val (.int (1 : Int32)), .val (.int (1 : Int32)), .val (.int (1 : Int32))] [(.int (1 : Int32)), (.int (1 : Int32))])) _
      refine XS.icmpNo X227.here hx rfl (hb hby at_100) rfl (teq rfl).2 ?_
      show Steps p.tables e below (T227.setTop (mkF m 103 #[.val (.int p1), .val (.int p2), .val (.int (5 : Int32)), .val (.ref w5), .val (.double (FP.l2d (p2.toInt64))), .second, .val (.double (FP.l2d ((p2.toInt64) + (1 : Int64)))), .second, .val (.int (1 : Int32)), .val (.int (1 : Int32)), .val (.int (1 : Int32)), .val (.int (1 : Int32))] [])) _
      refine XS.iconst X227.here hx rfl (hb hby at_103) ?_
      show Steps p.tables e below (T227.setTop (mkF m 104 #[.val (.int p1), .val (.int p2), .val (.int (5 : Int32)), .val (.ref w5), .val (.double (FP.l2d (p2.toInt64))), .second, .val (.double (FP.l2d ((p2.toInt64) + (1 : Int64)))), .second, .val (.int (1 : Int32)), .val (.int (1 : Int32)), .val (.int (1 : Int32)), .val (.int (1 : Int32))] [(.int (1 : Int32))])) _
      refine XS.goto X227.here hx rfl (pc0 := 104) (pc' := 108) rfl (hb hby at_104) (by decide) (by decide) ?_
      exact kq)
    obtain ⟨fs, hr, hrun, hended, hW, hsame⟩ := X227.leave (v := some (.int (1 : Int32))) (fun h => by rw [Bd.returns] at h; cases h)
    refine ⟨_, _, go233 _ ?_, hrun, hended, _, _, rfl, ?_, ⟨_, rfl⟩, hW, hsame.mono (by decide) (by decide)⟩
    · exact retN X227 hx (t := .boolean) Bd.returns (by simp) (hb hby at_108) hr
    · show Q_rm0 Z p1 p2 w0 w1 w2 w3 w4 w5 h0 n0 _ T227.heap _
      rw [eq227]
      exact ⟨rfl, N227⟩
theorem own_fldint {args : Array Value} {s : State} {t : Term} {C n d : String} {a : Addr} {k : Int32} (ht : t.eval args s none [] s = some (.ref a)) (h : (Jvm.Cond.eq (Term.field t C n d) (Term.int k)).value args s none s [] = some true) : s.fieldOf? a C n d = some (.int k) := by
  have e := fld_at (C := C) (n := n) (dd := d) ht
  have e2 : (Term.int k).eval args s none [] s = some (.int k) := Term.int_eval k
  simp only [Jvm.Cond.value, e, e2] at h
  cases hf : s.fieldOf? a C n d with
  | none => simp [hf] at h
  | some v => cases v <;> simp [hf] at h ⊢; exact h
set_option maxRecDepth 65536 in
set_option maxHeartbeats 40000000 in
theorem comes_1 {Post : Tables → Env → Array Value → State → Outcome → State → Prop} (hpost : ∀ tb e args s v u, (limb_1_1.after args s (.returned v) u = true ∧ limb_1_2.after args s (.returned v) u = true ∧ True) → FrameEnd s (.returned v) u (Jvm.fieldLocs frame_1_writes args s ++ Jvm.arrayLocs frame_1_arrays args s ++ Jvm.staticLocs frame_1_statics s) 0 0 → Post tb e args s (.returned v) u) :
    ArmFor flags0 classFile x code maxLocals ret World_1 tables_1 room_1 Calls_1 rest_1 Pre_1 Post := by
  intro l hfl _ _ p e ha hc hk s m args below hf hA hF happ hP
  obtain ⟨hcalls, hrest, hpre⟩ := hP
  obtain ⟨-, -, -, hnamed, -, -, -, hat⟩ := (Spec.applies_iff hf).mp happ
  obtain ⟨hg, hn⟩ := and_e (Cond.before_iff.mp (show (Jvm.Cond.and given_1 narrow_1).before args s = true from hpre))
  obtain ⟨g0, hg0⟩ := and_e hg
  obtain ⟨g1, hg1⟩ := and_e hg0
  obtain ⟨w0, w1, rfl⟩ : ∃ w0 w1 : Value, args = #[w0, w1] := by
    have hs : args.size = 2 := by simpa [Cond.value, given_1] using g0
    obtain ⟨L⟩ := args
    match L, hs with
    | [w0, w1], _ => exact ⟨w0, w1, rfl⟩
  have hw := fun d (hd : d ∈ tables_1) => atoms_spec (ws := Jvm.Cond.code x code maxLocals ret :: tables_1) hat d (List.mem_cons_of_mem _ hd)
  have hfit : Fit s := fun {y c} hc i hi => by
    obtain ⟨ha, rfl⟩ := Array.getElem?_eq_some_iff.mp hc
    have q := List.all_eq_true.mp ((Array.all_eq_true_iff_forall_mem.mp hF) _ (Array.getElem_mem ha)) i (List.mem_range.mpr hi)
    simpa [Array.getElem?_eq_getElem hi] using q
  obtain ⟨i0, ei0⟩ := is_v g1
  obtain rfl : w0 = (.int i0) := Option.some.inj ei0
  obtain ⟨i1, ei1⟩ := is_v hg1
  obtain rfl : w1 = (.int i1) := Option.some.inj ei1
  obtain ⟨n0, hn0⟩ := and_e hn
  obtain ⟨w0, ew0⟩ := exa_v n0
  have E0 := Exa.start ew0 n0
  have S0 := Sta.start ew0 (Or.inr ⟨(tw6 hw), (tw7 hw)⟩)
  obtain ⟨n1, hn1⟩ := and_e hn0
  obtain ⟨n2, hn2⟩ := and_e hn1
  obtain ⟨w2, ew2⟩ := exa_v n2
  have E2 := Exa.start ew2 n2
  have S2 := Sta.start ew2 (Or.inr ⟨(tw6 hw), (tw34 hw)⟩)
  obtain ⟨n3, hn3⟩ := and_e hn2
  obtain ⟨n4, hn4⟩ := and_e hn3
  obtain ⟨w1, ew1⟩ := exa_v n4
  have E1 := Exa.start ew1 n4
  have S1 := Sta.start ew1 (Or.inr ⟨(tw6 hw), (tw36 hw)⟩)
  obtain ⟨n5, hn5⟩ := and_e hn4
  obtain ⟨n6, hn6⟩ := and_e hn5
  obtain ⟨w4, ew4⟩ := exa_v n6
  have E4 := Exa.start ew4 n6
  have S4 := Sta.start ew4 (Or.inr ⟨(tw6 hw), (tw38 hw)⟩)
  obtain ⟨n7, hn7⟩ := and_e hn6
  obtain ⟨n8, hn8⟩ := and_e hn7
  obtain ⟨w5, ew5⟩ := exa_v n8
  have E5 := Exa.start ew5 n8
  have S5 := Sta.start ew5 (Or.inr ⟨(tw6 hw), (tw43 hw)⟩)
  obtain ⟨n9, hn9⟩ := and_e hn8
  obtain ⟨n10, hn10⟩ := and_e hn9
  obtain ⟨w3, ew3⟩ := exa_v n10
  have E3 := Exa.start ew3 n10
  have S3 := Sta.start ew3 (Or.inr ⟨(tw6 hw), (tw45 hw)⟩)
  have q0 := own_fldint ew0 n1
  have O0 := Fld.start q0
  have q2 := own_fldint ew2 n3
  have O2 := Fld.start q2
  have q1 := own_fldint ew1 n5
  have O1 := Fld.start q1
  have q4 := own_fldint ew4 n7
  have O4 := Fld.start q4
  have q5 := own_fldint ew5 n9
  have O5 := Fld.start q5
  have q3 := own_fldint ew3 hn10
  have O3 := Fld.start q3
  have n10 : ¬ (w1 = w0) := fun q => by rw [q, q0] at q1; exact absurd (Value.int.inj (Option.some.inj q1)) (by decide)
  have n20 : ¬ (w2 = w0) := fun q => by rw [q, q0] at q2; exact absurd (Value.int.inj (Option.some.inj q2)) (by decide)
  have n30 : ¬ (w3 = w0) := fun q => by rw [q, q0] at q3; exact absurd (Value.int.inj (Option.some.inj q3)) (by decide)
  have n40 : ¬ (w4 = w0) := fun q => by rw [q, q0] at q4; exact absurd (Value.int.inj (Option.some.inj q4)) (by decide)
  have n50 : ¬ (w5 = w0) := fun q => by rw [q, q0] at q5; exact absurd (Value.int.inj (Option.some.inj q5)) (by decide)
  have n21 : ¬ (w2 = w1) := fun q => by rw [q, q1] at q2; exact absurd (Value.int.inj (Option.some.inj q2)) (by decide)
  have n31 : ¬ (w3 = w1) := fun q => by rw [q, q1] at q3; exact absurd (Value.int.inj (Option.some.inj q3)) (by decide)
  have n41 : ¬ (w4 = w1) := fun q => by rw [q, q1] at q4; exact absurd (Value.int.inj (Option.some.inj q4)) (by decide)
  have n51 : ¬ (w5 = w1) := fun q => by rw [q, q1] at q5; exact absurd (Value.int.inj (Option.some.inj q5)) (by decide)
  have n42 : ¬ (w4 = w2) := fun q => by rw [q, q2] at q4; exact absurd (Value.int.inj (Option.some.inj q4)) (by decide)
  have n53 : ¬ (w5 = w3) := fun q => by rw [q, q3] at q5; exact absurd (Value.int.inj (Option.some.inj q5)) (by decide)
  obtain ⟨n, o, h1, h2, h3, _, L, rfl, ⟨rfl, N⟩, hq⟩ := rm0 l s _ hw tables_1 i0 i1 w0 w1 w2 w3 w4 w5 s.heap s.heap.size (Nat.le_refl _) S0 S1 S2 S3 S4 S5 E0 O0 E1 O1 E2 O2 E3 O3 E4 O4 E5 O5 n10 n20 n30 n40 n50 n21 n31 n41 n51 n42 n53 p e ha hc hk s m _ below hf ((Spec.applies_iff_loose hf).mp happ).1 ⟨rfl, State.Warmed39.refl s, rfl⟩ trivial
  refine ⟨n, _, h1, h2, h3, hpost _ _ _ _ _ _ ⟨Cond.after_iff.mpr rfl, Cond.after_iff.mpr (eq_i res_at (Term.int_eval (1)) rfl), trivial⟩ ⟨hq.1, hq.2.1, (hq.2.2.sift fun y hy => Or.inr (N y hy)).mono (by decide) (by decide)⟩⟩
theorem main_1_1 : Claimed_1_1 := comes_1 fun _ _ _ _ _ _ h hF => ⟨h.1, hF⟩
theorem main_1_2 : Claimed_1_2 := comes_1 fun _ _ _ _ _ _ h hF => ⟨h.2.1, hF⟩
end Jvm.Pilot.@@N@@
namespace Jvm.Pilot.@@N@@
open Jvm Jvm.ClassFile Sem Op Lib Jvm.Free Jvm.Stand Jvm.Pilot.@@N@@.Jvm.D
/-! MADE BY PROGRAM (witnessworld.py) out of the Statement's table words and the real class files: 12 classes; the members and pool entries that the words name. The judged class is class 1, her method 2. -/
namespace start1
open Jvm.ClassFile
def u (s : String) : CpInfo := .utf8 (stringToUtf16 s)
/-- a pool by its gaps: so many unusable entries, then the entry; so many at the end -/
def gap : Nat → List CpInfo → List CpInfo
  | 0, r => r
  | n + 1, r => .unusable :: gap n r
def poolList (es : List (Nat × CpInfo)) (last : Nat) : List CpInfo := es.foldr (fun e r => gap e.1 (e.2 :: r)) (gap last [])
def pool (es : List (Nat × CpInfo)) (last : Nat) : Array CpInfo := ⟨poolList es last⟩
def fileOf (pool : Array CpInfo) (this : Nat) (attrs : Array Attribute := #[]) (ms : Array MethodInfo := #[]) (fl : Nat := 33) (sup : Nat := 0) (ifs : Array Nat := #[]) (fds : Array FieldInfo := #[]) : ClassFile where
  minorVersion := 0
  majorVersion := 65
  constantPool := pool
  accessFlags := fl
  thisClass := this
  superClass := sup
  interfaces := ifs
  fields := fds
  methods := ms
  attributes := attrs
def plain (name : String) (sup : Option ClassId) : Class where
  name := name
  kind := .ordinary
  loader := none
  accessFlags := 33
  super := sup
  interfaces := #[]
  cf := none
  fields := #[]
  methods := #[]
  instanceTypes := #[]
  staticTypes := #[]
  resolved := #[]
  callSites := []
  init := .initialized
  statics := none
  mirror := none

def pool0 : Array CpInfo := pool [(5, u "<init>"), (0, u "()V"), (1, .class_ 10), (1, u "java/lang/Object")] 113

def k0m0 : Method := { name := "<init>", desc := "()V", sig := { parameters := [], returnType := none }, accessFlags := 1, code := none }
/-- java/lang/Object -/
def k0 : Class := { plain "java/lang/Object" none with
  accessFlags := 33
  interfaces := #[]
  cf := some (fileOf pool0 8 #[] #[{ accessFlags := 1, nameIndex := 5, descriptorIndex := 6, attributes := #[] }] 33 0 #[] #[])
  fields := #[]
  methods := #[k0m0]
  instanceTypes := #[]
  staticTypes := #[]
  resolved := Array.replicate 124 none
  statics := none }

def pool1 : Array CpInfo := pool [(2, .class_ 4), (1, u "java/lang/Object"), (0, u "<init>"), (0, u "()V"), (0, .fieldref 8 9), (0, .class_ 10), (0, .nameAndType 11 12), (0, u "com/example/heft/heft/model/XPath$Comparison"), (0, u "EQUAL"), (0, u "Lcom/example/heft/heft/model/XPath$Comparison;"), (0, .fieldref 8 14), (0, .nameAndType 15 12), (0, u "NOT_EQUAL"), (0, .fieldref 8 17), (0, .nameAndType 18 12), (0, u "LESS"), (0, .fieldref 8 20), (0, .nameAndType 21 12), (0, u "LESS_OR_EQUAL"), (0, .fieldref 8 23), (0, .nameAndType 24 12), (0, u "GREATER"), (0, .fieldref 8 26), (0, .nameAndType 27 12), (0, u "GREATER_OR_EQUAL"), (0, .integer 2147483647), (0, .methodref 30 31), (0, .class_ 32), (0, .nameAndType 33 34), (0, u "com/example/heft/heft/model/ComparisonOrdersNumbersPinLaw"), (0, u "pick"), (0, u "(I)Lcom/example/heft/heft/model/XPath$Comparison;"), (0, .methodref 8 36), (0, .nameAndType 37 38), (0, u "ordersNumbers"), (0, u "()Z"), (0, .methodref 8 40), (0, .nameAndType 41 42), (0, u "holds"), (0, u "(DD)Z"), (0, .methodref 8 44), (0, .nameAndType 45 46), (0, u "swapped"), (0, u "()Lcom/example/heft/heft/model/XPath$Comparison;"), (3, u "law"), (0, u "(II)Z")] 6

def k1m0 : Method := { name := "<init>", desc := "()V", sig := { parameters := [], returnType := none }, accessFlags := 2, code := none }
def k1c1 : Code := { maxStack := 2, maxLocals := 1, code := method_2_code, exceptionTable := #[], attributes := #[] }
def k1m1 : Method := { name := "pick", desc := "(I)Lcom/example/heft/heft/model/XPath$Comparison;", sig := { parameters := [.int], returnType := some (.object "com/example/heft/heft/model/XPath$Comparison") }, accessFlags := 10, code := some k1c1 }
def k1c2 : Code := { maxStack := 6, maxLocals := 12, code := code, exceptionTable := #[], attributes := #[] }
def k1m2 : Method := { name := "law", desc := "(II)Z", sig := { parameters := [.int, .int], returnType := some .boolean }, accessFlags := 9, code := some k1c2 }
/-- com/example/heft/heft/model/ComparisonOrdersNumbersPinLaw -/
def k1 : Class := { plain "com/example/heft/heft/model/ComparisonOrdersNumbersPinLaw" (some 0) with
  accessFlags := 49
  interfaces := #[]
  cf := some (fileOf pool1 30 #[] #[{ accessFlags := 2, nameIndex := 5, descriptorIndex := 6, attributes := #[] }, { accessFlags := 10, nameIndex := 33, descriptorIndex := 34, attributes := #[] }, { accessFlags := 9, nameIndex := 50, descriptorIndex := 51, attributes := #[] }] 49 2 #[] #[])
  fields := #[]
  methods := #[k1m0, k1m1, k1m2]
  instanceTypes := #[]
  staticTypes := #[]
  resolved := Array.replicate 58 none
  statics := none }

def pool2 : Array CpInfo := pool [(1, .class_ 2), (0, u "java/lang/constant/Constable"), (0, .class_ 4), (0, u "java/lang/Object")] 6

/-- java/lang/constant/Constable -/
def k2 : Class := { plain "java/lang/constant/Constable" (some 0) with
  accessFlags := 1537
  interfaces := #[]
  cf := some (fileOf pool2 1 #[] #[] 1537 3 #[] #[])
  fields := #[]
  methods := #[]
  instanceTypes := #[]
  staticTypes := #[]
  resolved := Array.replicate 11 none
  statics := none }

def pool3 : Array CpInfo := pool [(1, .class_ 2), (0, u "java/lang/Comparable"), (0, .class_ 4), (0, u "java/lang/Object")] 7

/-- java/lang/Comparable -/
def k3 : Class := { plain "java/lang/Comparable" (some 0) with
  accessFlags := 1537
  interfaces := #[]
  cf := some (fileOf pool3 1 #[] #[] 1537 3 #[] #[])
  fields := #[]
  methods := #[]
  instanceTypes := #[]
  staticTypes := #[]
  resolved := Array.replicate 12 none
  statics := none }

def pool4 : Array CpInfo := pool [(1, .class_ 2), (0, u "java/io/Serializable"), (0, .class_ 4), (0, u "java/lang/Object")] 2

/-- java/io/Serializable -/
def k4 : Class := { plain "java/io/Serializable" (some 0) with
  accessFlags := 1537
  interfaces := #[]
  cf := some (fileOf pool4 1 #[] #[] 1537 3 #[] #[])
  fields := #[]
  methods := #[]
  instanceTypes := #[]
  staticTypes := #[]
  resolved := Array.replicate 7 none
  statics := none }

def pool5 : Array CpInfo := pool [(2, .class_ 4), (1, u "java/lang/Enum"), (0, u "name"), (0, u "Ljava/lang/String;"), (0, .fieldref 2 8), (0, .nameAndType 9 10), (0, u "ordinal"), (0, u "I"), (1, .class_ 14), (1, u "java/lang/Object"), (4, u "hash"), (86, .class_ 108), (1, u "java/lang/Enum$EnumDesc"), (2, .class_ 112), (0, u "java/lang/constant/Constable"), (0, .class_ 114), (0, u "java/lang/Comparable"), (0, .class_ 116), (0, u "java/io/Serializable"), (9, u "()I")] 77

def k5c0 : Code := { maxStack := 1, maxLocals := 1, code := jdk_37_method_2_code, exceptionTable := #[], attributes := #[] }
def k5m0 : Method := { name := "ordinal", desc := "()I", sig := { parameters := [], returnType := some .int }, accessFlags := 17, code := some k5c0 }
/-- java/lang/Enum -/
def k5 : Class := { plain "java/lang/Enum" (some 0) with
  accessFlags := 1057
  interfaces := #[2, 3, 4]
  cf := some (fileOf pool5 2 #[.nestMembers #[106]] #[{ accessFlags := 17, nameIndex := 9, descriptorIndex := 126, attributes := #[] }] 1057 12 #[111, 113, 115] #[{ accessFlags := 18, nameIndex := 5, descriptorIndex := 6, attributes := #[] }, { accessFlags := 18, nameIndex := 9, descriptorIndex := 10, attributes := #[] }, { accessFlags := 2, nameIndex := 19, descriptorIndex := 10, attributes := #[] }])
  fields := #[{ name := "name", type := (.object "java/lang/String"), accessFlags := 18, slot := 0, constantValue := 0 }, { name := "ordinal", type := .int, accessFlags := 18, slot := 1, constantValue := 0 }, { name := "hash", type := .int, accessFlags := 2, slot := 2, constantValue := 0 }]
  methods := #[k5m0]
  instanceTypes := #[(.object "java/lang/String"), .int, .int]
  staticTypes := #[]
  resolved := Array.replicate 204 none
  statics := none }

def pool6 : Array CpInfo := pool [(1, .class_ 2), (0, u "com/example/heft/heft/model/XPath$Comparison"), (0, .fieldref 1 4), (0, .nameAndType 5 6), (0, u "EQUAL"), (0, u "Lcom/example/heft/heft/model/XPath$Comparison;"), (0, .fieldref 1 8), (0, .nameAndType 9 6), (0, u "NOT_EQUAL"), (0, .fieldref 1 11), (0, .nameAndType 12 6), (0, u "LESS"), (0, .fieldref 1 14), (0, .nameAndType 15 6), (0, u "LESS_OR_EQUAL"), (0, .fieldref 1 17), (0, .nameAndType 18 6), (0, u "GREATER"), (0, .fieldref 1 20), (0, .nameAndType 21 6), (0, u "GREATER_OR_EQUAL"), (2, u "$VALUES"), (0, u "[Lcom/example/heft/heft/model/XPath$Comparison;"), (6, .class_ 34), (1, u "java/lang/Enum"), (8, u "symbol"), (0, u "Ljava/lang/String;"), (20, .methodref 1 66), (0, .nameAndType 67 68), (0, u "ordinal"), (0, u "()I"), (6, .class_ 77), (1, u "com/example/heft/heft/model/XPath"), (4, u "holds"), (0, u "(DD)Z"), (33, u "swapped"), (0, u "()Lcom/example/heft/heft/model/XPath$Comparison;"), (0, u "ordersNumbers"), (0, u "()Z")] 10

def k6c0 : Code := { maxStack := 4, maxLocals := 1, code := prog_107_method_5_code, exceptionTable := #[], attributes := #[] }
def k6m0 : Method := { name := "swapped", desc := "()Lcom/example/heft/heft/model/XPath$Comparison;", sig := { parameters := [], returnType := some (.object "com/example/heft/heft/model/XPath$Comparison") }, accessFlags := 0, code := some k6c0 }
def k6c1 : Code := { maxStack := 2, maxLocals := 1, code := prog_107_method_6_code, exceptionTable := #[], attributes := #[] }
def k6m1 : Method := { name := "ordersNumbers", desc := "()Z", sig := { parameters := [], returnType := some .boolean }, accessFlags := 0, code := some k6c1 }
def k6c2 : Code := { maxStack := 4, maxLocals := 5, code := prog_107_method_7_code, exceptionTable := #[], attributes := #[] }
def k6m2 : Method := { name := "holds", desc := "(DD)Z", sig := { parameters := [.double, .double], returnType := some .boolean }, accessFlags := 0, code := some k6c2 }
/-- com/example/heft/heft/model/XPath$Comparison -/
def k6 : Class := { plain "com/example/heft/heft/model/XPath$Comparison" (some 5) with
  accessFlags := 16432
  interfaces := #[]
  cf := some (fileOf pool6 1 #[.nestHost 75] #[{ accessFlags := 0, nameIndex := 117, descriptorIndex := 118, attributes := #[] }, { accessFlags := 0, nameIndex := 119, descriptorIndex := 120, attributes := #[] }, { accessFlags := 0, nameIndex := 82, descriptorIndex := 83, attributes := #[] }] 16432 32 #[] #[{ accessFlags := 16409, nameIndex := 5, descriptorIndex := 6, attributes := #[] }, { accessFlags := 16409, nameIndex := 9, descriptorIndex := 6, attributes := #[] }, { accessFlags := 16409, nameIndex := 12, descriptorIndex := 6, attributes := #[] }, { accessFlags := 16409, nameIndex := 15, descriptorIndex := 6, attributes := #[] }, { accessFlags := 16409, nameIndex := 18, descriptorIndex := 6, attributes := #[] }, { accessFlags := 16409, nameIndex := 21, descriptorIndex := 6, attributes := #[] }, { accessFlags := 18, nameIndex := 43, descriptorIndex := 44, attributes := #[] }, { accessFlags := 4122, nameIndex := 24, descriptorIndex := 25, attributes := #[] }])
  fields := #[{ name := "EQUAL", type := (.object "com/example/heft/heft/model/XPath$Comparison"), accessFlags := 16409, slot := 0, constantValue := 0 }, { name := "NOT_EQUAL", type := (.object "com/example/heft/heft/model/XPath$Comparison"), accessFlags := 16409, slot := 1, constantValue := 0 }, { name := "LESS", type := (.object "com/example/heft/heft/model/XPath$Comparison"), accessFlags := 16409, slot := 2, constantValue := 0 }, { name := "LESS_OR_EQUAL", type := (.object "com/example/heft/heft/model/XPath$Comparison"), accessFlags := 16409, slot := 3, constantValue := 0 }, { name := "GREATER", type := (.object "com/example/heft/heft/model/XPath$Comparison"), accessFlags := 16409, slot := 4, constantValue := 0 }, { name := "GREATER_OR_EQUAL", type := (.object "com/example/heft/heft/model/XPath$Comparison"), accessFlags := 16409, slot := 5, constantValue := 0 }, { name := "symbol", type := (.object "java/lang/String"), accessFlags := 18, slot := 3, constantValue := 0 }, { name := "$VALUES", type := (.array (.object "com/example/heft/heft/model/XPath$Comparison")), accessFlags := 4122, slot := 6, constantValue := 0 }]
  methods := #[k6m0, k6m1, k6m2]
  instanceTypes := #[(.object "java/lang/String"), .int, .int, (.object "java/lang/String")]
  staticTypes := #[(.object "com/example/heft/heft/model/XPath$Comparison"), (.object "com/example/heft/heft/model/XPath$Comparison"), (.object "com/example/heft/heft/model/XPath$Comparison"), (.object "com/example/heft/heft/model/XPath$Comparison"), (.object "com/example/heft/heft/model/XPath$Comparison"), (.object "com/example/heft/heft/model/XPath$Comparison"), (.array (.object "com/example/heft/heft/model/XPath$Comparison"))]
  resolved := Array.replicate 131 none
  statics := some 0 }

def pool7 : Array CpInfo := pool [(1, u "java/lang/Cloneable"), (0, .class_ 1), (0, u "java/lang/Object"), (0, .class_ 3)] 3

/-- java/lang/Cloneable -/
def k7 : Class := { plain "java/lang/Cloneable" (some 0) with
  accessFlags := 1537
  interfaces := #[]
  cf := some (fileOf pool7 2 #[] #[] 1537 4 #[] #[])
  fields := #[]
  methods := #[]
  instanceTypes := #[]
  staticTypes := #[]
  resolved := Array.replicate 8 none
  statics := none }

/-- the primitive byte -/
def k8 : Class := { plain "byte" none with kind := .primitive 'B', accessFlags := 0x411 }
/-- [B -/
def k9 : Class := { plain "[B" (some 0) with kind := .array 8 .byte, interfaces := #[7, 4], accessFlags := 1041 }

/-- the primitive int -/
def k10 : Class := { plain "int" none with kind := .primitive 'I', accessFlags := 0x411 }
/-- [I -/
def k11 : Class := { plain "[I" (some 0) with kind := .array 10 .int, interfaces := #[7, 4], accessFlags := 1041 }

def heap : Heap := #[{ cls := 6, slots := #[.ref 1, .ref 2, .ref 3, .ref 4, .ref 5, .ref 6, .null], vm := .statics 6 },
  { cls := 6, slots := #[.null, .int 0, .int 0, .null], vm := .none },
  { cls := 6, slots := #[.null, .int 1, .int 0, .null], vm := .none },
  { cls := 6, slots := #[.null, .int 2, .int 0, .null], vm := .none },
  { cls := 6, slots := #[.null, .int 3, .int 0, .null], vm := .none },
  { cls := 6, slots := #[.null, .int 4, .int 0, .null], vm := .none },
  { cls := 6, slots := #[.null, .int 5, .int 0, .null], vm := .none }]
def classes : Array Class := #[k0, k1, k2, k3, k4, k5, k6, k7, k8, k9, k10, k11]
def interned : List (Array UInt16 × Addr) := []
def slotsUsed : Nat := 31
def theMethod : MethodId := ⟨1, 2⟩
def args0 : Array Value := #[.int 5, .int 7]
def aboutOver (below : List Frame) : State where
  vm := { classes := classes, interned := interned.toArray }
  heap := heap
  slotsUsed := slotsUsed
  threads := #[{ frames := .invoking theMethod args0 :: below }]
def below0 : List Frame := [.native { method := ⟨0, 0⟩, args := #[] }]
def about1 : State := aboutOver below0
def p0 : Program := .bare "" "" ""
def e0 : Env := launch0.env 0 0 0
theorem w_frames : about1.frames = Frame.invoking theMethod args0 :: below0 := rfl
set_option maxRecDepth 65536 in
theorem w_args : argsFit about1.vm theMethod args0 = true := by decide +kernel
set_option maxRecDepth 65536 in
theorem w_heap : heapFits about1 = true := by decide +kernel
set_option maxRecDepth 65536 in
theorem w_runnable : about1.curStatus? = some .runnable := by decide +kernel
set_option maxRecDepth 65536 in
theorem w_alone : about1.alone = true := by decide +kernel
set_option maxRecDepth 65536 in
theorem w_named : about1.methodNamed? x = some theMethod := by decide +kernel
set_option maxRecDepth 65536 in
theorem w_hears : about1.hears theMethod below0 = true := by decide +kernel
set_option maxRecDepth 65536 in
theorem w_ripe : about1.ripe theMethod args0 below0 = true := by decide +kernel
theorem w_running : about1.status = .running := rfl
set_option maxRecDepth 65536 in
theorem w_room : about1.hasRoom e0.platform room_1 = true :=
  launch0.hasRoom_least _ room_1 (by decide +kernel) (by decide +kernel) (by decide +kernel) (by decide +kernel) (by decide +kernel) (by decide +kernel)
theorem allAtoms_all (ts : List Jvm.Cond) (a : Array Jvm.Value) (st : Jvm.State) : (allAtoms ts).before a st = ts.all (fun c => c.before a st) := by
  induction ts with
  | nil => rfl
  | cons c t ih =>
    show (Jvm.Cond.and c (allAtoms t)).before a st = _
    rw [Jvm.Cond.before_and, ih, List.all_cons]
def words1 : List Jvm.Cond := Jvm.Cond.code x code maxLocals ret :: tables_1
/-- a 'code' word, met by the world's own term for the bytes: nothing is compared byte by byte -/
theorem code_word {y : MethodName} {bytes : ByteArray} {mx : Nat} {rt : Option FieldType} {a : Array Value} {s : State} {m : MethodId} {meth : Method} {c : Code} (h1 : s.methodNamed? y = some m) (h2 : s.vm.method? m = some meth) (h3 : meth.code = some c) (h4 : c.code = bytes)
    (h5 : (c.maxLocals == mx && c.exceptionTable.isEmpty && decide (c.maxStack ≤ mostOperands) && decide (meth.sig.returnType = rt) && !meth.locks && decide (parseMethodDescriptor y.desc = some meth.sig)) = true) : (Jvm.Cond.code y bytes mx rt).before a s = true := by
  simp only [Bool.and_eq_true, beq_iff_eq, Bool.not_eq_true', decide_eq_true_eq] at h5
  obtain ⟨⟨⟨⟨⟨g1, g2⟩, g3⟩, g4⟩, g5⟩, g6⟩ := h5
  simp [Cond.before, Cond.holds, Cond.value, h1, h2, h3, h4, g1, g2, g3, g4, g5, g6]
def isCode : Jvm.Cond → Bool
  | .code _ _ _ _ => true
  | _ => false
theorem all_split {L : List Jvm.Cond} {P : Jvm.Cond → Bool} (h1 : L.all (fun c => isCode c || P c) = true) (h2 : ∀ c ∈ L.filter isCode, P c = true) : L.all P = true := by
  refine List.all_eq_true.mpr fun c hc => ?_
  have h := List.all_eq_true.mp h1 c hc
  rcases Bool.eq_false_or_eq_true (isCode c) with hi | hi
  · exact h2 c (List.mem_filter.mpr ⟨hc, hi⟩)
  · simpa [hi] using h
set_option maxRecDepth 65536 in
theorem w_c0 : (Jvm.Cond.code x code maxLocals ret).before args0 about1 = true := code_word (m := ⟨1, 2⟩) (meth := k1m2) (c := k1c2) (by decide +kernel) rfl rfl rfl (by decide +kernel)
set_option maxRecDepth 65536 in
theorem w_c1 : (Jvm.Cond.code ({ cls := "com/example/heft/heft/model/ComparisonOrdersNumbersPinLaw", name := "pick", desc := "(I)Lcom/example/heft/heft/model/XPath$Comparison;" } : Jvm.MethodName) method_2_code (1 : Nat) (Option.some (Jvm.ClassFile.FieldType.object "com/example/heft/heft/model/XPath$Comparison"))).before args0 about1 = true := code_word (m := ⟨1, 1⟩) (meth := k1m1) (c := k1c1) (by decide +kernel) rfl rfl rfl (by decide +kernel)
set_option maxRecDepth 65536 in
theorem w_c2 : (Jvm.Cond.code ({ cls := "com/example/heft/heft/model/XPath$Comparison", name := "ordersNumbers", desc := "()Z" } : Jvm.MethodName) prog_107_method_6_code (1 : Nat) (Option.some Jvm.ClassFile.FieldType.boolean)).before args0 about1 = true := code_word (m := ⟨6, 1⟩) (meth := k6m1) (c := k6c1) (by decide +kernel) rfl rfl rfl (by decide +kernel)
set_option maxRecDepth 65536 in
theorem w_c3 : (Jvm.Cond.code ({ cls := "com/example/heft/heft/model/XPath$Comparison", name := "holds", desc := "(DD)Z" } : Jvm.MethodName) prog_107_method_7_code (5 : Nat) (Option.some Jvm.ClassFile.FieldType.boolean)).before args0 about1 = true := code_word (m := ⟨6, 2⟩) (meth := k6m2) (c := k6c2) (by decide +kernel) rfl rfl rfl (by decide +kernel)
set_option maxRecDepth 65536 in
theorem w_c4 : (Jvm.Cond.code ({ cls := "java/lang/Enum", name := "ordinal", desc := "()I" } : Jvm.MethodName) jdk_37_method_2_code (1 : Nat) (Option.some Jvm.ClassFile.FieldType.int)).before args0 about1 = true := code_word (m := ⟨5, 0⟩) (meth := k5m0) (c := k5c0) (by decide +kernel) rfl rfl rfl (by decide +kernel)
set_option maxRecDepth 65536 in
theorem w_c5 : (Jvm.Cond.code ({ cls := "com/example/heft/heft/model/XPath$Comparison", name := "swapped", desc := "()Lcom/example/heft/heft/model/XPath$Comparison;" } : Jvm.MethodName) prog_107_method_5_code (1 : Nat) (Option.some (Jvm.ClassFile.FieldType.object "com/example/heft/heft/model/XPath$Comparison"))).before args0 about1 = true := code_word (m := ⟨6, 0⟩) (meth := k6m0) (c := k6c0) (by decide +kernel) rfl rfl rfl (by decide +kernel)
def codes1 : List Jvm.Cond := [Jvm.Cond.code x code maxLocals ret, Jvm.Cond.code ({ cls := "com/example/heft/heft/model/ComparisonOrdersNumbersPinLaw", name := "pick", desc := "(I)Lcom/example/heft/heft/model/XPath$Comparison;" } : Jvm.MethodName) method_2_code (1 : Nat) (Option.some (Jvm.ClassFile.FieldType.object "com/example/heft/heft/model/XPath$Comparison")), Jvm.Cond.code ({ cls := "com/example/heft/heft/model/XPath$Comparison", name := "ordersNumbers", desc := "()Z" } : Jvm.MethodName) prog_107_method_6_code (1 : Nat) (Option.some Jvm.ClassFile.FieldType.boolean), Jvm.Cond.code ({ cls := "com/example/heft/heft/model/XPath$Comparison", name := "holds", desc := "(DD)Z" } : Jvm.MethodName) prog_107_method_7_code (5 : Nat) (Option.some Jvm.ClassFile.FieldType.boolean), Jvm.Cond.code ({ cls := "java/lang/Enum", name := "ordinal", desc := "()I" } : Jvm.MethodName) jdk_37_method_2_code (1 : Nat) (Option.some Jvm.ClassFile.FieldType.int), Jvm.Cond.code ({ cls := "com/example/heft/heft/model/XPath$Comparison", name := "swapped", desc := "()Lcom/example/heft/heft/model/XPath$Comparison;" } : Jvm.MethodName) prog_107_method_5_code (1 : Nat) (Option.some (Jvm.ClassFile.FieldType.object "com/example/heft/heft/model/XPath$Comparison"))]
set_option maxRecDepth 65536 in
theorem codes_eq : words1.filter isCode = codes1 := rfl
theorem w_codes : ∀ c ∈ words1.filter isCode, c.before args0 about1 = true := by
  rw [codes_eq]
  intro c hc
  simp only [codes1, List.mem_cons, List.not_mem_nil, or_false] at hc
  rcases hc with rfl | rfl | rfl | rfl | rfl | rfl
  · exact w_c0
  · exact w_c1
  · exact w_c2
  · exact w_c3
  · exact w_c4
  · exact w_c5
set_option maxRecDepth 65536 in
theorem w_t1 : (words1.take 24).all (fun c => isCode c || c.before args0 about1) = true := by decide +kernel
set_option maxRecDepth 65536 in
theorem w_t2 : ((words1.drop 24).take 24).all (fun c => isCode c || c.before args0 about1) = true := by decide +kernel
set_option maxRecDepth 65536 in
theorem w_t3 : ((words1.drop 24).drop 24).all (fun c => isCode c || c.before args0 about1) = true := by decide +kernel
theorem w_tables : (allAtoms (Jvm.Cond.code x code maxLocals ret :: tables_1)).before args0 about1 = true := by
  rw [allAtoms_all]
  show words1.all (fun c => c.before args0 about1) = true
  refine all_split ?_ w_codes
  rw [← List.take_append_drop 24 words1, List.all_append, w_t1, ← List.take_append_drop 24 (words1.drop 24), List.all_append, w_t2, w_t3]
  rfl
set_option maxRecDepth 65536 in
theorem w_case : (Jvm.Cond.and given_1 narrow_1).before args0 about1 = true := by decide +kernel
theorem w_applies : (headSpec (Jvm.Cond.code x code maxLocals ret :: tables_1) room_1).applies x e0.platform about1 = true :=
  (Spec.applies_iff w_frames).mpr ⟨w_running, w_runnable, w_alone, w_named, w_hears, w_ripe, w_room, w_tables⟩
theorem atStart : AtStart classFile x code maxLocals ret World_1 tables_1 room_1 Calls_1 rest_1 Pre_1 launch0 p0 e0 about1 theMethod args0 below0 :=
  ⟨lists_1, trivial, launch0.admits_env _ _ _, launch0.least_env, fairChoices_fair.cas, fairChoices_fair.clock, w_frames, w_args, w_heap, w_applies, trivial, trivial, w_case⟩
end start1
theorem witness_1 : WitnessClaimed_1 := ⟨start1.p0, start1.e0, start1.about1, start1.theMethod, start1.args0, start1.below0, start1.atStart⟩
end Jvm.Pilot.@@N@@
