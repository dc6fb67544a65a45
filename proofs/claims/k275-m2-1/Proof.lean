import JvmDerived
import JvmDerived.Pilot.@@N@@Statement
import JvmDerived.Pilot.@@N@@Code
set_option linter.unusedVariables false
set_option linter.unusedSimpArgs false
@@BLOCK:NumsL.lean.txt@@
@@BLOCK:LamKit.lean.txt@@
namespace Jvm.RoadKit
open Sem ClassFile Op Lib Jvm.Stand Jvm.Free Jvm.LawKit
section New
variable {p : Program} {l : Launch} {e : Env} {R : Room} {s : State} {m : MethodId} {args : Array Value} {below : List Frame} {meth : Method} {c : Code} {T : State} {locs : List Loc} {cells slots : Nat}
theorem retI (X : Stand p l e R s m args below meth c T locs cells slots) (hx : p.tables.exec = Jvm.exec) {pc : Nat} {Ls : Array Slot} {z : Int32} {rest : List Value} (hret : meth.sig.returnType = some .int) (hd : decode c.code pc = .ok (.ireturn, 1)) {fs : List Frame}
    (hl : ∀ (f : JFrame) (acts : List Action), f.method = m → f.locked = none → f.entered = [] → (doReturn e (T.setTop f) acts (some (.int z))).1 = T.setFrames fs) : Steps p.tables e below (T.setTop (mkF m pc Ls (.int z :: rest))) (T.setFrames fs) := by
  have hm' : T.vm.method? m = some meth := X.method'
  have hn : narrow .int (.int z) = .int z := rfl
  show Steps p.tables e below (T.setTop { method := m, pc := pc, locals := Ls, stack := _ :: rest, locked := none }) _
  jvm_step X.here [X.here.top, hx, hd, hm', hret, hn]
  first | (intro acts; rw [hl _ acts rfl rfl rfl]) | rw [hl _ _ rfl rfl rfl]
  exact Steps.refl _
end New
end Jvm.RoadKit
namespace Jvm.Pilot.@@N@@
open Jvm Jvm.ClassFile Sem Op Lib Jvm.Free Jvm.Stand Jvm.LawKit Jvm.RoadKit Bundle Jvm.Pilot.@@N@@.Jvm.D
theorem own_lclt {x y : Int64} (h : x < y) : lcmpW x y < 0 := by rw [lcW]; exact (lc_lt x y).2 h
theorem own_lcge {x y : Int64} (h : ¬ x < y) : ¬ (lcmpW x y < 0) := by rw [lcW]; exact fun k => h ((lc_lt x y).1 k)
theorem own_lcgt {x y : Int64} (h : y < x) : 0 < lcmpW x y := by rw [lcW]; exact (lc_gt x y).2 h
theorem own_lcle {x y : Int64} (h : ¬ y < x) : ¬ (0 < lcmpW x y) := by rw [lcW]; exact fun k => h ((lc_gt x y).1 k)
theorem own_lceq {x y : Int64} (h : x = y) : lcmpW x y = 0 := by rw [lcW]; exact (lc_eq x y).2 h
theorem own_lcne {x y : Int64} (h : ¬ (x = y)) : ¬ (lcmpW x y = 0) := by rw [lcW]; exact fun k => h ((lc_eq x y).1 k)
theorem tw0 {Z : State} {a0 : Array Value} (hw : ∀ d ∈ tables_1, d.before a0 Z = true) : ((Jvm.Cond.constantLong "com/example/cicada/cicada/LevelMoveMiddlePinLaw" (9 : Nat) (9223372036854775807 : Int64)) : Jvm.Cond).before a0 Z = true := hw _ (List.mem_of_getElem? (i := 0) rfl)
theorem tw1 {Z : State} {a0 : Array Value} (hw : ∀ d ∈ tables_1, d.before a0 Z = true) : ((Jvm.Cond.methodLink "com/example/cicada/cicada/LevelMoveMiddlePinLaw" (11 : Nat) ({ cls := "java/lang/Math", name := "max", desc := "(JJ)J" } : Jvm.MethodName)) : Jvm.Cond).before a0 Z = true := hw _ (List.mem_of_getElem? (i := 1) rfl)
theorem tw2 {Z : State} {a0 : Array Value} (hw : ∀ d ∈ tables_1, d.before a0 Z = true) : ((Jvm.Cond.static ({ cls := "java/lang/Math", name := "max", desc := "(JJ)J" } : Jvm.MethodName)) : Jvm.Cond).before a0 Z = true := hw _ (List.mem_of_getElem? (i := 2) rfl)
theorem tw3 {Z : State} {a0 : Array Value} (hw : ∀ d ∈ tables_1, d.before a0 Z = true) : ((Jvm.Cond.initialized "java/lang/Math") : Jvm.Cond).before a0 Z = true := hw _ (List.mem_of_getElem? (i := 3) rfl)
theorem tw4 {Z : State} {a0 : Array Value} (hw : ∀ d ∈ tables_1, d.before a0 Z = true) : ((Jvm.Cond.code ({ cls := "java/lang/Math", name := "max", desc := "(JJ)J" } : Jvm.MethodName) jdk_29_method_66_code (4 : Nat) (Option.some Jvm.ClassFile.FieldType.long)) : Jvm.Cond).before a0 Z = true := hw _ (List.mem_of_getElem? (i := 4) rfl)
theorem tw5 {Z : State} {a0 : Array Value} (hw : ∀ d ∈ tables_1, d.before a0 Z = true) : ((Jvm.Cond.constant "com/example/cicada/cicada/LevelMoveMiddlePinLaw" (17 : Nat) (2147483647 : Int32)) : Jvm.Cond).before a0 Z = true := hw _ (List.mem_of_getElem? (i := 5) rfl)
theorem tw6 {Z : State} {a0 : Array Value} (hw : ∀ d ∈ tables_1, d.before a0 Z = true) : ((Jvm.Cond.classLink "com/example/cicada/cicada/LevelMoveMiddlePinLaw" (18 : Nat) "com/example/cicada/cicada/Level") : Jvm.Cond).before a0 Z = true := hw _ (List.mem_of_getElem? (i := 6) rfl)
theorem tw7 {Z : State} {a0 : Array Value} (hw : ∀ d ∈ tables_1, d.before a0 Z = true) : ((Jvm.Cond.instantiable "com/example/cicada/cicada/Level" (11 : Nat)) : Jvm.Cond).before a0 Z = true := hw _ (List.mem_of_getElem? (i := 7) rfl)
theorem tw8 {Z : State} {a0 : Array Value} (hw : ∀ d ∈ tables_1, d.before a0 Z = true) : ((Jvm.Cond.initialized "com/example/cicada/cicada/Level") : Jvm.Cond).before a0 Z = true := hw _ (List.mem_of_getElem? (i := 8) rfl)
theorem tw9 {Z : State} {a0 : Array Value} (hw : ∀ d ∈ tables_1, d.before a0 Z = true) : ((Jvm.Cond.methodLink "com/example/cicada/cicada/LevelMoveMiddlePinLaw" (20 : Nat) ({ cls := "com/example/cicada/cicada/Level", name := "<init>", desc := "(JI)V" } : Jvm.MethodName)) : Jvm.Cond).before a0 Z = true := hw _ (List.mem_of_getElem? (i := 9) rfl)
theorem tw10 {Z : State} {a0 : Array Value} (hw : ∀ d ∈ tables_1, d.before a0 Z = true) : ((Jvm.Cond.instanceMethod ({ cls := "com/example/cicada/cicada/Level", name := "<init>", desc := "(JI)V" } : Jvm.MethodName)) : Jvm.Cond).before a0 Z = true := hw _ (List.mem_of_getElem? (i := 10) rfl)
theorem tw11 {Z : State} {a0 : Array Value} (hw : ∀ d ∈ tables_1, d.before a0 Z = true) : ((Jvm.Cond.code ({ cls := "com/example/cicada/cicada/Level", name := "<init>", desc := "(JI)V" } : Jvm.MethodName) prog_5_method_1_code (4 : Nat) (Option.none : Option Jvm.ClassFile.FieldType)) : Jvm.Cond).before a0 Z = true := hw _ (List.mem_of_getElem? (i := 11) rfl)
theorem tw12 {Z : State} {a0 : Array Value} (hw : ∀ d ∈ tables_1, d.before a0 Z = true) : ((Jvm.Cond.methodLink "com/example/cicada/cicada/Level" (1 : Nat) ({ cls := "com/example/cicada/cicada/Level", name := "<init>", desc := "(JJJJI)V" } : Jvm.MethodName)) : Jvm.Cond).before a0 Z = true := hw _ (List.mem_of_getElem? (i := 12) rfl)
theorem tw13 {Z : State} {a0 : Array Value} (hw : ∀ d ∈ tables_1, d.before a0 Z = true) : ((Jvm.Cond.instanceMethod ({ cls := "com/example/cicada/cicada/Level", name := "<init>", desc := "(JJJJI)V" } : Jvm.MethodName)) : Jvm.Cond).before a0 Z = true := hw _ (List.mem_of_getElem? (i := 13) rfl)
theorem tw14 {Z : State} {a0 : Array Value} (hw : ∀ d ∈ tables_1, d.before a0 Z = true) : ((Jvm.Cond.code ({ cls := "com/example/cicada/cicada/Level", name := "<init>", desc := "(JJJJI)V" } : Jvm.MethodName) prog_5_method_3_code (10 : Nat) (Option.none : Option Jvm.ClassFile.FieldType)) : Jvm.Cond).before a0 Z = true := hw _ (List.mem_of_getElem? (i := 14) rfl)
theorem tw15 {Z : State} {a0 : Array Value} (hw : ∀ d ∈ tables_1, d.before a0 Z = true) : ((Jvm.Cond.methodLink "com/example/cicada/cicada/Level" (20 : Nat) ({ cls := "java/lang/Object", name := "<init>", desc := "()V" } : Jvm.MethodName)) : Jvm.Cond).before a0 Z = true := hw _ (List.mem_of_getElem? (i := 15) rfl)
theorem tw16 {Z : State} {a0 : Array Value} (hw : ∀ d ∈ tables_1, d.before a0 Z = true) : ((Jvm.Cond.instanceMethod ({ cls := "java/lang/Object", name := "<init>", desc := "()V" } : Jvm.MethodName)) : Jvm.Cond).before a0 Z = true := hw _ (List.mem_of_getElem? (i := 16) rfl)
theorem tw17 {Z : State} {a0 : Array Value} (hw : ∀ d ∈ tables_1, d.before a0 Z = true) : ((Jvm.Cond.code ({ cls := "java/lang/Object", name := "<init>", desc := "()V" } : Jvm.MethodName) object_method_1_code (1 : Nat) (Option.none : Option Jvm.ClassFile.FieldType)) : Jvm.Cond).before a0 Z = true := hw _ (List.mem_of_getElem? (i := 17) rfl)
theorem tw18 {Z : State} {a0 : Array Value} (hw : ∀ d ∈ tables_1, d.before a0 Z = true) : ((Jvm.Cond.constantLong "com/example/cicada/cicada/Level" (25 : Nat) (-1 : Int64)) : Jvm.Cond).before a0 Z = true := hw _ (List.mem_of_getElem? (i := 18) rfl)
theorem tw19 {Z : State} {a0 : Array Value} (hw : ∀ d ∈ tables_1, d.before a0 Z = true) : ((Jvm.Cond.fieldLink "com/example/cicada/cicada/Level" (27 : Nat) "com/example/cicada/cicada/Level" "seenFrom" "J") : Jvm.Cond).before a0 Z = true := hw _ (List.mem_of_getElem? (i := 19) rfl)
theorem tw20 {Z : State} {a0 : Array Value} (hw : ∀ d ∈ tables_1, d.before a0 Z = true) : ((Jvm.Cond.lays "com/example/cicada/cicada/Level" "com/example/cicada/cicada/Level" "seenFrom" "J") : Jvm.Cond).before a0 Z = true := hw _ (List.mem_of_getElem? (i := 20) rfl)
theorem tw21 {Z : State} {a0 : Array Value} (hw : ∀ d ∈ tables_1, d.before a0 Z = true) : ((Jvm.Cond.fieldLink "com/example/cicada/cicada/Level" (14 : Nat) "com/example/cicada/cicada/Level" "tick" "J") : Jvm.Cond).before a0 Z = true := hw _ (List.mem_of_getElem? (i := 21) rfl)
theorem tw22 {Z : State} {a0 : Array Value} (hw : ∀ d ∈ tables_1, d.before a0 Z = true) : ((Jvm.Cond.laysFinal "com/example/cicada/cicada/Level" "com/example/cicada/cicada/Level" "tick" "J") : Jvm.Cond).before a0 Z = true := hw _ (List.mem_of_getElem? (i := 22) rfl)
theorem tw23 {Z : State} {a0 : Array Value} (hw : ∀ d ∈ tables_1, d.before a0 Z = true) : ((Jvm.Cond.fieldLink "com/example/cicada/cicada/Level" (17 : Nat) "com/example/cicada/cicada/Level" "lead" "J") : Jvm.Cond).before a0 Z = true := hw _ (List.mem_of_getElem? (i := 23) rfl)
theorem tw24 {Z : State} {a0 : Array Value} (hw : ∀ d ∈ tables_1, d.before a0 Z = true) : ((Jvm.Cond.laysFinal "com/example/cicada/cicada/Level" "com/example/cicada/cicada/Level" "lead" "J") : Jvm.Cond).before a0 Z = true := hw _ (List.mem_of_getElem? (i := 24) rfl)
theorem tw25 {Z : State} {a0 : Array Value} (hw : ∀ d ∈ tables_1, d.before a0 Z = true) : ((Jvm.Cond.fieldLink "com/example/cicada/cicada/Level" (30 : Nat) "com/example/cicada/cicada/Level" "moveTime" "J") : Jvm.Cond).before a0 Z = true := hw _ (List.mem_of_getElem? (i := 25) rfl)
theorem tw26 {Z : State} {a0 : Array Value} (hw : ∀ d ∈ tables_1, d.before a0 Z = true) : ((Jvm.Cond.laysFinal "com/example/cicada/cicada/Level" "com/example/cicada/cicada/Level" "moveTime" "J") : Jvm.Cond).before a0 Z = true := hw _ (List.mem_of_getElem? (i := 26) rfl)
theorem tw27 {Z : State} {a0 : Array Value} (hw : ∀ d ∈ tables_1, d.before a0 Z = true) : ((Jvm.Cond.fieldLink "com/example/cicada/cicada/Level" (11 : Nat) "com/example/cicada/cicada/Level" "firstLead" "J") : Jvm.Cond).before a0 Z = true := hw _ (List.mem_of_getElem? (i := 27) rfl)
theorem tw28 {Z : State} {a0 : Array Value} (hw : ∀ d ∈ tables_1, d.before a0 Z = true) : ((Jvm.Cond.laysFinal "com/example/cicada/cicada/Level" "com/example/cicada/cicada/Level" "firstLead" "J") : Jvm.Cond).before a0 Z = true := hw _ (List.mem_of_getElem? (i := 28) rfl)
theorem tw29 {Z : State} {a0 : Array Value} (hw : ∀ d ∈ tables_1, d.before a0 Z = true) : ((Jvm.Cond.methodLink "com/example/cicada/cicada/Level" (33 : Nat) ({ cls := "com/example/cicada/cicada/Expiry", name := "span", desc := "(JI)J" } : Jvm.MethodName)) : Jvm.Cond).before a0 Z = true := hw _ (List.mem_of_getElem? (i := 29) rfl)
theorem tw30 {Z : State} {a0 : Array Value} (hw : ∀ d ∈ tables_1, d.before a0 Z = true) : ((Jvm.Cond.static ({ cls := "com/example/cicada/cicada/Expiry", name := "span", desc := "(JI)J" } : Jvm.MethodName)) : Jvm.Cond).before a0 Z = true := hw _ (List.mem_of_getElem? (i := 30) rfl)
theorem tw31 {Z : State} {a0 : Array Value} (hw : ∀ d ∈ tables_1, d.before a0 Z = true) : ((Jvm.Cond.initialized "com/example/cicada/cicada/Expiry") : Jvm.Cond).before a0 Z = true := hw _ (List.mem_of_getElem? (i := 31) rfl)
theorem tw32 {Z : State} {a0 : Array Value} (hw : ∀ d ∈ tables_1, d.before a0 Z = true) : ((Jvm.Cond.code ({ cls := "com/example/cicada/cicada/Expiry", name := "span", desc := "(JI)J" } : Jvm.MethodName) prog_4_method_5_code (3 : Nat) (Option.some Jvm.ClassFile.FieldType.long)) : Jvm.Cond).before a0 Z = true := hw _ (List.mem_of_getElem? (i := 32) rfl)
theorem tw33 {Z : State} {a0 : Array Value} (hw : ∀ d ∈ tables_1, d.before a0 Z = true) : ((Jvm.Cond.constantLong "com/example/cicada/cicada/Expiry" (62 : Nat) (9223372036854775807 : Int64)) : Jvm.Cond).before a0 Z = true := hw _ (List.mem_of_getElem? (i := 33) rfl)
theorem tw34 {Z : State} {a0 : Array Value} (hw : ∀ d ∈ tables_1, d.before a0 Z = true) : ((Jvm.Cond.fieldLink "com/example/cicada/cicada/Level" (7 : Nat) "com/example/cicada/cicada/Level" "span" "J") : Jvm.Cond).before a0 Z = true := hw _ (List.mem_of_getElem? (i := 34) rfl)
theorem tw35 {Z : State} {a0 : Array Value} (hw : ∀ d ∈ tables_1, d.before a0 Z = true) : ((Jvm.Cond.laysFinal "com/example/cicada/cicada/Level" "com/example/cicada/cicada/Level" "span" "J") : Jvm.Cond).before a0 Z = true := hw _ (List.mem_of_getElem? (i := 35) rfl)
theorem tw36 {Z : State} {a0 : Array Value} (hw : ∀ d ∈ tables_1, d.before a0 Z = true) : ((Jvm.Cond.classLink "com/example/cicada/cicada/Level" (38 : Nat) "com/example/cicada/cicada/Bucket") : Jvm.Cond).before a0 Z = true := hw _ (List.mem_of_getElem? (i := 36) rfl)
theorem tw37 {Z : State} {a0 : Array Value} (hw : ∀ d ∈ tables_1, d.before a0 Z = true) : ((Jvm.Cond.arrayOver (Jvm.ClassFile.FieldType.object "com/example/cicada/cicada/Bucket")) : Jvm.Cond).before a0 Z = true := hw _ (List.mem_of_getElem? (i := 37) rfl)
theorem tw38 {Z : State} {a0 : Array Value} (hw : ∀ d ∈ tables_1, d.before a0 Z = true) : ((Jvm.Cond.fieldLink "com/example/cicada/cicada/Level" (40 : Nat) "com/example/cicada/cicada/Level" "buckets" "[Lcom/example/cicada/cicada/Bucket;") : Jvm.Cond).before a0 Z = true := hw _ (List.mem_of_getElem? (i := 38) rfl)
theorem tw39 {Z : State} {a0 : Array Value} (hw : ∀ d ∈ tables_1, d.before a0 Z = true) : ((Jvm.Cond.laysFinal "com/example/cicada/cicada/Level" "com/example/cicada/cicada/Level" "buckets" "[Lcom/example/cicada/cicada/Bucket;") : Jvm.Cond).before a0 Z = true := hw _ (List.mem_of_getElem? (i := 39) rfl)
theorem tw40 {Z : State} {a0 : Array Value} (hw : ∀ d ∈ tables_1, d.before a0 Z = true) : ((Jvm.Cond.lambdaSite ({ cls := "com/example/cicada/cicada/Level", name := "<init>", desc := "(JJJJI)V" } : Jvm.MethodName) (57 : Nat) (44 : Nat) (Jvm.Lambda.Shape.mk "java/util/function/IntFunction" "apply" (Jvm.ClassFile.MethodDescriptor.mk ([Jvm.ClassFile.FieldType.int] : List Jvm.ClassFile.FieldType) (Option.some (Jvm.ClassFile.FieldType.object "java/lang/Object"))) ([(Jvm.ClassFile.FieldType.object "com/example/cicada/cicada/Level")] : List Jvm.ClassFile.FieldType) (5 : Nat) "com/example/cicada/cicada/Level" "lambda$new$0" (Jvm.ClassFile.MethodDescriptor.mk ([Jvm.ClassFile.FieldType.int] : List Jvm.ClassFile.FieldType) (Option.some (Jvm.ClassFile.FieldType.object "com/example/cicada/cicada/Bucket"))) false (Jvm.ClassFile.MethodDescriptor.mk ([Jvm.ClassFile.FieldType.int] : List Jvm.ClassFile.FieldType) (Option.some (Jvm.ClassFile.FieldType.object "com/example/cicada/cicada/Bucket"))))) : Jvm.Cond).before a0 Z = true := hw _ (List.mem_of_getElem? (i := 40) rfl)
theorem tw43 {Z : State} {a0 : Array Value} (hw : ∀ d ∈ tables_1, d.before a0 Z = true) : ((Jvm.Cond.instantiable "java/lang/Object" (0 : Nat)) : Jvm.Cond).before a0 Z = true := hw _ (List.mem_of_getElem? (i := 43) rfl)
theorem tw44 {Z : State} {a0 : Array Value} (hw : ∀ d ∈ tables_1, d.before a0 Z = true) : ((Jvm.Cond.methodLink "com/example/cicada/cicada/Level" (48 : Nat) ({ cls := "java/util/Arrays", name := "setAll", desc := "([Ljava/lang/Object;Ljava/util/function/IntFunction;)V" } : Jvm.MethodName)) : Jvm.Cond).before a0 Z = true := hw _ (List.mem_of_getElem? (i := 44) rfl)
theorem tw45 {Z : State} {a0 : Array Value} (hw : ∀ d ∈ tables_1, d.before a0 Z = true) : ((Jvm.Cond.static ({ cls := "java/util/Arrays", name := "setAll", desc := "([Ljava/lang/Object;Ljava/util/function/IntFunction;)V" } : Jvm.MethodName)) : Jvm.Cond).before a0 Z = true := hw _ (List.mem_of_getElem? (i := 45) rfl)
theorem tw46 {Z : State} {a0 : Array Value} (hw : ∀ d ∈ tables_1, d.before a0 Z = true) : ((Jvm.Cond.initialized "java/util/Arrays") : Jvm.Cond).before a0 Z = true := hw _ (List.mem_of_getElem? (i := 46) rfl)
theorem tw47 {Z : State} {a0 : Array Value} (hw : ∀ d ∈ tables_1, d.before a0 Z = true) : ((Jvm.Cond.code ({ cls := "java/util/Arrays", name := "setAll", desc := "([Ljava/lang/Object;Ljava/util/function/IntFunction;)V" } : Jvm.MethodName) jdk_65_method_173_code (3 : Nat) (Option.none : Option Jvm.ClassFile.FieldType)) : Jvm.Cond).before a0 Z = true := hw _ (List.mem_of_getElem? (i := 47) rfl)
theorem tw48 {Z : State} {a0 : Array Value} (hw : ∀ d ∈ tables_1, d.before a0 Z = true) : ((Jvm.Cond.methodLink "java/util/Arrays" (175 : Nat) ({ cls := "java/util/Objects", name := "requireNonNull", desc := "(Ljava/lang/Object;)Ljava/lang/Object;" } : Jvm.MethodName)) : Jvm.Cond).before a0 Z = true := hw _ (List.mem_of_getElem? (i := 48) rfl)
theorem tw49 {Z : State} {a0 : Array Value} (hw : ∀ d ∈ tables_1, d.before a0 Z = true) : ((Jvm.Cond.static ({ cls := "java/util/Objects", name := "requireNonNull", desc := "(Ljava/lang/Object;)Ljava/lang/Object;" } : Jvm.MethodName)) : Jvm.Cond).before a0 Z = true := hw _ (List.mem_of_getElem? (i := 49) rfl)
theorem tw50 {Z : State} {a0 : Array Value} (hw : ∀ d ∈ tables_1, d.before a0 Z = true) : ((Jvm.Cond.initialized "java/util/Objects") : Jvm.Cond).before a0 Z = true := hw _ (List.mem_of_getElem? (i := 50) rfl)
theorem tw51 {Z : State} {a0 : Array Value} (hw : ∀ d ∈ tables_1, d.before a0 Z = true) : ((Jvm.Cond.code ({ cls := "java/util/Objects", name := "requireNonNull", desc := "(Ljava/lang/Object;)Ljava/lang/Object;" } : Jvm.MethodName) jdk_31_method_10_code (1 : Nat) (Option.some (Jvm.ClassFile.FieldType.object "java/lang/Object"))) : Jvm.Cond).before a0 Z = true := hw _ (List.mem_of_getElem? (i := 51) rfl)
theorem tw52 {Z : State} {a0 : Array Value} (hw : ∀ d ∈ tables_1, d.before a0 Z = true) : ((Jvm.Cond.methodLink "java/util/Arrays" (558 : Nat) ({ cls := "java/util/function/IntFunction", name := "apply", desc := "(I)Ljava/lang/Object;" } : Jvm.MethodName)) : Jvm.Cond).before a0 Z = true := hw _ (List.mem_of_getElem? (i := 52) rfl)
theorem tw53 {Z : State} {a0 : Array Value} (hw : ∀ d ∈ tables_1, d.before a0 Z = true) : ((Jvm.Cond.declares ({ cls := "java/util/function/IntFunction", name := "apply", desc := "(I)Ljava/lang/Object;" } : Jvm.MethodName)) : Jvm.Cond).before a0 Z = true := hw _ (List.mem_of_getElem? (i := 53) rfl)
theorem tw54 {Z : State} {a0 : Array Value} (hw : ∀ d ∈ tables_1, d.before a0 Z = true) : ((Jvm.Cond.interfaceMethod "java/util/function/IntFunction" "java/util/function/IntFunction" "apply" "(I)Ljava/lang/Object;") : Jvm.Cond).before a0 Z = true := hw _ (List.mem_of_getElem? (i := 54) rfl)
theorem tw55 {Z : State} {a0 : Array Value} (hw : ∀ d ∈ tables_1, d.before a0 Z = true) : ((Jvm.Cond.instanceMethod ({ cls := "com/example/cicada/cicada/Level", name := "lambda$new$0", desc := "(I)Lcom/example/cicada/cicada/Bucket;" } : Jvm.MethodName)) : Jvm.Cond).before a0 Z = true := hw _ (List.mem_of_getElem? (i := 55) rfl)
theorem tw56 {Z : State} {a0 : Array Value} (hw : ∀ d ∈ tables_1, d.before a0 Z = true) : ((Jvm.Cond.privateMethod ({ cls := "com/example/cicada/cicada/Level", name := "lambda$new$0", desc := "(I)Lcom/example/cicada/cicada/Bucket;" } : Jvm.MethodName)) : Jvm.Cond).before a0 Z = true := hw _ (List.mem_of_getElem? (i := 56) rfl)
theorem tw57 {Z : State} {a0 : Array Value} (hw : ∀ d ∈ tables_1, d.before a0 Z = true) : ((Jvm.Cond.code ({ cls := "com/example/cicada/cicada/Level", name := "lambda$new$0", desc := "(I)Lcom/example/cicada/cicada/Bucket;" } : Jvm.MethodName) prog_5_method_15_code (2 : Nat) (Option.some (Jvm.ClassFile.FieldType.object "com/example/cicada/cicada/Bucket"))) : Jvm.Cond).before a0 Z = true := hw _ (List.mem_of_getElem? (i := 57) rfl)
theorem tw58 {Z : State} {a0 : Array Value} (hw : ∀ d ∈ tables_1, d.before a0 Z = true) : ((Jvm.Cond.instantiable "com/example/cicada/cicada/Bucket" (6 : Nat)) : Jvm.Cond).before a0 Z = true := hw _ (List.mem_of_getElem? (i := 58) rfl)
theorem tw59 {Z : State} {a0 : Array Value} (hw : ∀ d ∈ tables_1, d.before a0 Z = true) : ((Jvm.Cond.initialized "com/example/cicada/cicada/Bucket") : Jvm.Cond).before a0 Z = true := hw _ (List.mem_of_getElem? (i := 59) rfl)
theorem tw60 {Z : State} {a0 : Array Value} (hw : ∀ d ∈ tables_1, d.before a0 Z = true) : ((Jvm.Cond.methodLink "com/example/cicada/cicada/Level" (84 : Nat) ({ cls := "com/example/cicada/cicada/Bucket", name := "<init>", desc := "(Lcom/example/cicada/cicada/Level;)V" } : Jvm.MethodName)) : Jvm.Cond).before a0 Z = true := hw _ (List.mem_of_getElem? (i := 60) rfl)
theorem tw61 {Z : State} {a0 : Array Value} (hw : ∀ d ∈ tables_1, d.before a0 Z = true) : ((Jvm.Cond.instanceMethod ({ cls := "com/example/cicada/cicada/Bucket", name := "<init>", desc := "(Lcom/example/cicada/cicada/Level;)V" } : Jvm.MethodName)) : Jvm.Cond).before a0 Z = true := hw _ (List.mem_of_getElem? (i := 61) rfl)
theorem tw62 {Z : State} {a0 : Array Value} (hw : ∀ d ∈ tables_1, d.before a0 Z = true) : ((Jvm.Cond.code ({ cls := "com/example/cicada/cicada/Bucket", name := "<init>", desc := "(Lcom/example/cicada/cicada/Level;)V" } : Jvm.MethodName) prog_1_method_1_code (2 : Nat) (Option.none : Option Jvm.ClassFile.FieldType)) : Jvm.Cond).before a0 Z = true := hw _ (List.mem_of_getElem? (i := 62) rfl)
theorem tw63 {Z : State} {a0 : Array Value} (hw : ∀ d ∈ tables_1, d.before a0 Z = true) : ((Jvm.Cond.methodLink "com/example/cicada/cicada/Bucket" (1 : Nat) ({ cls := "java/lang/Object", name := "<init>", desc := "()V" } : Jvm.MethodName)) : Jvm.Cond).before a0 Z = true := hw _ (List.mem_of_getElem? (i := 63) rfl)
theorem tw64 {Z : State} {a0 : Array Value} (hw : ∀ d ∈ tables_1, d.before a0 Z = true) : ((Jvm.Cond.fieldLink "com/example/cicada/cicada/Bucket" (7 : Nat) "com/example/cicada/cicada/Bucket" "level" "Lcom/example/cicada/cicada/Level;") : Jvm.Cond).before a0 Z = true := hw _ (List.mem_of_getElem? (i := 64) rfl)
theorem tw65 {Z : State} {a0 : Array Value} (hw : ∀ d ∈ tables_1, d.before a0 Z = true) : ((Jvm.Cond.laysFinal "com/example/cicada/cicada/Bucket" "com/example/cicada/cicada/Bucket" "level" "Lcom/example/cicada/cicada/Level;") : Jvm.Cond).before a0 Z = true := hw _ (List.mem_of_getElem? (i := 65) rfl)
theorem tw67 {Z : State} {a0 : Array Value} (hw : ∀ d ∈ tables_1, d.before a0 Z = true) : ((Jvm.Cond.methodLink "com/example/cicada/cicada/LevelMoveMiddlePinLaw" (23 : Nat) ({ cls := "com/example/cicada/cicada/Level", name := "<init>", desc := "(Lcom/example/cicada/cicada/Level;I)V" } : Jvm.MethodName)) : Jvm.Cond).before a0 Z = true := hw _ (List.mem_of_getElem? (i := 67) rfl)
theorem tw68 {Z : State} {a0 : Array Value} (hw : ∀ d ∈ tables_1, d.before a0 Z = true) : ((Jvm.Cond.instanceMethod ({ cls := "com/example/cicada/cicada/Level", name := "<init>", desc := "(Lcom/example/cicada/cicada/Level;I)V" } : Jvm.MethodName)) : Jvm.Cond).before a0 Z = true := hw _ (List.mem_of_getElem? (i := 68) rfl)
theorem tw69 {Z : State} {a0 : Array Value} (hw : ∀ d ∈ tables_1, d.before a0 Z = true) : ((Jvm.Cond.code ({ cls := "com/example/cicada/cicada/Level", name := "<init>", desc := "(Lcom/example/cicada/cicada/Level;I)V" } : Jvm.MethodName) prog_5_method_2_code (3 : Nat) (Option.none : Option Jvm.ClassFile.FieldType)) : Jvm.Cond).before a0 Z = true := hw _ (List.mem_of_getElem? (i := 69) rfl)
theorem tw70 {Z : State} {a0 : Array Value} (hw : ∀ d ∈ tables_1, d.before a0 Z = true) : ((Jvm.Cond.classLink "com/example/cicada/cicada/LevelMoveMiddlePinLaw" (26 : Nat) "com/example/cicada/cicada/Bucket") : Jvm.Cond).before a0 Z = true := hw _ (List.mem_of_getElem? (i := 70) rfl)
theorem tw71 {Z : State} {a0 : Array Value} (hw : ∀ d ∈ tables_1, d.before a0 Z = true) : ((Jvm.Cond.methodLink "com/example/cicada/cicada/LevelMoveMiddlePinLaw" (28 : Nat) ({ cls := "com/example/cicada/cicada/Bucket", name := "<init>", desc := "(Lcom/example/cicada/cicada/Level;)V" } : Jvm.MethodName)) : Jvm.Cond).before a0 Z = true := hw _ (List.mem_of_getElem? (i := 71) rfl)
theorem tw72 {Z : State} {a0 : Array Value} (hw : ∀ d ∈ tables_1, d.before a0 Z = true) : ((Jvm.Cond.fieldLink "com/example/cicada/cicada/LevelMoveMiddlePinLaw" (31 : Nat) "com/example/cicada/cicada/Bucket" "opensAt" "J") : Jvm.Cond).before a0 Z = true := hw _ (List.mem_of_getElem? (i := 72) rfl)
theorem tw73 {Z : State} {a0 : Array Value} (hw : ∀ d ∈ tables_1, d.before a0 Z = true) : ((Jvm.Cond.lays "com/example/cicada/cicada/Bucket" "com/example/cicada/cicada/Bucket" "opensAt" "J") : Jvm.Cond).before a0 Z = true := hw _ (List.mem_of_getElem? (i := 73) rfl)
theorem tw74 {Z : State} {a0 : Array Value} (hw : ∀ d ∈ tables_1, d.before a0 Z = true) : ((Jvm.Cond.methodLink "com/example/cicada/cicada/LevelMoveMiddlePinLaw" (35 : Nat) ({ cls := "com/example/cicada/cicada/Level", name := "open", desc := "(Lcom/example/cicada/cicada/Bucket;)V" } : Jvm.MethodName)) : Jvm.Cond).before a0 Z = true := hw _ (List.mem_of_getElem? (i := 74) rfl)
theorem tw75 {Z : State} {a0 : Array Value} (hw : ∀ d ∈ tables_1, d.before a0 Z = true) : ((Jvm.Cond.declares ({ cls := "com/example/cicada/cicada/Level", name := "open", desc := "(Lcom/example/cicada/cicada/Bucket;)V" } : Jvm.MethodName)) : Jvm.Cond).before a0 Z = true := hw _ (List.mem_of_getElem? (i := 75) rfl)
theorem tw76 {Z : State} {a0 : Array Value} (hw : ∀ d ∈ tables_1, d.before a0 Z = true) : ((Jvm.Cond.instanceMethod ({ cls := "com/example/cicada/cicada/Level", name := "open", desc := "(Lcom/example/cicada/cicada/Bucket;)V" } : Jvm.MethodName)) : Jvm.Cond).before a0 Z = true := hw _ (List.mem_of_getElem? (i := 76) rfl)
theorem tw77 {Z : State} {a0 : Array Value} (hw : ∀ d ∈ tables_1, d.before a0 Z = true) : ((Jvm.Cond.selects "com/example/cicada/cicada/Level" ({ cls := "com/example/cicada/cicada/Level", name := "open", desc := "(Lcom/example/cicada/cicada/Bucket;)V" } : Jvm.MethodName) ({ cls := "com/example/cicada/cicada/Level", name := "open", desc := "(Lcom/example/cicada/cicada/Bucket;)V" } : Jvm.MethodName)) : Jvm.Cond).before a0 Z = true := hw _ (List.mem_of_getElem? (i := 77) rfl)
theorem tw78 {Z : State} {a0 : Array Value} (hw : ∀ d ∈ tables_1, d.before a0 Z = true) : ((Jvm.Cond.code ({ cls := "com/example/cicada/cicada/Level", name := "open", desc := "(Lcom/example/cicada/cicada/Bucket;)V" } : Jvm.MethodName) prog_5_method_9_code (2 : Nat) (Option.none : Option Jvm.ClassFile.FieldType)) : Jvm.Cond).before a0 Z = true := hw _ (List.mem_of_getElem? (i := 78) rfl)
theorem tw79 {Z : State} {a0 : Array Value} (hw : ∀ d ∈ tables_1, d.before a0 Z = true) : ((Jvm.Cond.fieldLink "com/example/cicada/cicada/Level" (77 : Nat) "com/example/cicada/cicada/Bucket" "opensAt" "J") : Jvm.Cond).before a0 Z = true := hw _ (List.mem_of_getElem? (i := 79) rfl)
theorem tw80 {Z : State} {a0 : Array Value} (hw : ∀ d ∈ tables_1, d.before a0 Z = true) : ((Jvm.Cond.methodLink "com/example/cicada/cicada/Level" (73 : Nat) ({ cls := "com/example/cicada/cicada/Level", name := "slot", desc := "(J)I" } : Jvm.MethodName)) : Jvm.Cond).before a0 Z = true := hw _ (List.mem_of_getElem? (i := 80) rfl)
theorem tw81 {Z : State} {a0 : Array Value} (hw : ∀ d ∈ tables_1, d.before a0 Z = true) : ((Jvm.Cond.instanceMethod ({ cls := "com/example/cicada/cicada/Level", name := "slot", desc := "(J)I" } : Jvm.MethodName)) : Jvm.Cond).before a0 Z = true := hw _ (List.mem_of_getElem? (i := 81) rfl)
theorem tw82 {Z : State} {a0 : Array Value} (hw : ∀ d ∈ tables_1, d.before a0 Z = true) : ((Jvm.Cond.privateMethod ({ cls := "com/example/cicada/cicada/Level", name := "slot", desc := "(J)I" } : Jvm.MethodName)) : Jvm.Cond).before a0 Z = true := hw _ (List.mem_of_getElem? (i := 82) rfl)
theorem tw83 {Z : State} {a0 : Array Value} (hw : ∀ d ∈ tables_1, d.before a0 Z = true) : ((Jvm.Cond.code ({ cls := "com/example/cicada/cicada/Level", name := "slot", desc := "(J)I" } : Jvm.MethodName) prog_5_method_14_code (3 : Nat) (Option.some Jvm.ClassFile.FieldType.int)) : Jvm.Cond).before a0 Z = true := hw _ (List.mem_of_getElem? (i := 83) rfl)
theorem tw84 {Z : State} {a0 : Array Value} (hw : ∀ d ∈ tables_1, d.before a0 Z = true) : ((Jvm.Cond.methodLink "com/example/cicada/cicada/Level" (92 : Nat) ({ cls := "java/lang/Math", name := "floorDiv", desc := "(JJ)J" } : Jvm.MethodName)) : Jvm.Cond).before a0 Z = true := hw _ (List.mem_of_getElem? (i := 84) rfl)
theorem tw85 {Z : State} {a0 : Array Value} (hw : ∀ d ∈ tables_1, d.before a0 Z = true) : ((Jvm.Cond.static ({ cls := "java/lang/Math", name := "floorDiv", desc := "(JJ)J" } : Jvm.MethodName)) : Jvm.Cond).before a0 Z = true := hw _ (List.mem_of_getElem? (i := 85) rfl)
theorem tw86 {Z : State} {a0 : Array Value} (hw : ∀ d ∈ tables_1, d.before a0 Z = true) : ((Jvm.Cond.code ({ cls := "java/lang/Math", name := "floorDiv", desc := "(JJ)J" } : Jvm.MethodName) jdk_29_method_49_code (6 : Nat) (Option.some Jvm.ClassFile.FieldType.long)) : Jvm.Cond).before a0 Z = true := hw _ (List.mem_of_getElem? (i := 86) rfl)
theorem tw87 {Z : State} {a0 : Array Value} (hw : ∀ d ∈ tables_1, d.before a0 Z = true) : ((Jvm.Cond.methodLink "com/example/cicada/cicada/Level" (97 : Nat) ({ cls := "java/lang/Math", name := "floorMod", desc := "(JI)I" } : Jvm.MethodName)) : Jvm.Cond).before a0 Z = true := hw _ (List.mem_of_getElem? (i := 87) rfl)
theorem tw88 {Z : State} {a0 : Array Value} (hw : ∀ d ∈ tables_1, d.before a0 Z = true) : ((Jvm.Cond.static ({ cls := "java/lang/Math", name := "floorMod", desc := "(JI)I" } : Jvm.MethodName)) : Jvm.Cond).before a0 Z = true := hw _ (List.mem_of_getElem? (i := 88) rfl)
theorem tw89 {Z : State} {a0 : Array Value} (hw : ∀ d ∈ tables_1, d.before a0 Z = true) : ((Jvm.Cond.code ({ cls := "java/lang/Math", name := "floorMod", desc := "(JI)I" } : Jvm.MethodName) jdk_29_method_51_code (3 : Nat) (Option.some Jvm.ClassFile.FieldType.int)) : Jvm.Cond).before a0 Z = true := hw _ (List.mem_of_getElem? (i := 89) rfl)
theorem tw90 {Z : State} {a0 : Array Value} (hw : ∀ d ∈ tables_1, d.before a0 Z = true) : ((Jvm.Cond.methodLink "java/lang/Math" (146 : Nat) ({ cls := "java/lang/Math", name := "floorMod", desc := "(JJ)J" } : Jvm.MethodName)) : Jvm.Cond).before a0 Z = true := hw _ (List.mem_of_getElem? (i := 90) rfl)
theorem tw91 {Z : State} {a0 : Array Value} (hw : ∀ d ∈ tables_1, d.before a0 Z = true) : ((Jvm.Cond.static ({ cls := "java/lang/Math", name := "floorMod", desc := "(JJ)J" } : Jvm.MethodName)) : Jvm.Cond).before a0 Z = true := hw _ (List.mem_of_getElem? (i := 91) rfl)
theorem tw92 {Z : State} {a0 : Array Value} (hw : ∀ d ∈ tables_1, d.before a0 Z = true) : ((Jvm.Cond.code ({ cls := "java/lang/Math", name := "floorMod", desc := "(JJ)J" } : Jvm.MethodName) jdk_29_method_52_code (6 : Nat) (Option.some Jvm.ClassFile.FieldType.long)) : Jvm.Cond).before a0 Z = true := hw _ (List.mem_of_getElem? (i := 92) rfl)
theorem tw93 {Z : State} {a0 : Array Value} (hw : ∀ d ∈ tables_1, d.before a0 Z = true) : ((Jvm.Cond.fieldLink "com/example/cicada/cicada/Level" (80 : Nat) "com/example/cicada/cicada/Level" "spare" "Lcom/example/cicada/cicada/Bucket;") : Jvm.Cond).before a0 Z = true := hw _ (List.mem_of_getElem? (i := 93) rfl)
theorem tw94 {Z : State} {a0 : Array Value} (hw : ∀ d ∈ tables_1, d.before a0 Z = true) : ((Jvm.Cond.lays "com/example/cicada/cicada/Level" "com/example/cicada/cicada/Level" "spare" "Lcom/example/cicada/cicada/Bucket;") : Jvm.Cond).before a0 Z = true := hw _ (List.mem_of_getElem? (i := 94) rfl)
theorem tw95 {Z : State} {a0 : Array Value} (hw : ∀ d ∈ tables_1, d.before a0 Z = true) : ((Jvm.Cond.fieldLink "com/example/cicada/cicada/Level" (87 : Nat) "com/example/cicada/cicada/Level" "moving" "Lcom/example/cicada/cicada/Bucket;") : Jvm.Cond).before a0 Z = true := hw _ (List.mem_of_getElem? (i := 95) rfl)
theorem tw96 {Z : State} {a0 : Array Value} (hw : ∀ d ∈ tables_1, d.before a0 Z = true) : ((Jvm.Cond.lays "com/example/cicada/cicada/Level" "com/example/cicada/cicada/Level" "moving" "Lcom/example/cicada/cicada/Bucket;") : Jvm.Cond).before a0 Z = true := hw _ (List.mem_of_getElem? (i := 96) rfl)
theorem tw97 {Z : State} {a0 : Array Value} (hw : ∀ d ∈ tables_1, d.before a0 Z = true) : ((Jvm.Cond.methodLink "com/example/cicada/cicada/LevelMoveMiddlePinLaw" (39 : Nat) ({ cls := "com/example/cicada/cicada/Level", name := "moving", desc := "()Lcom/example/cicada/cicada/Bucket;" } : Jvm.MethodName)) : Jvm.Cond).before a0 Z = true := hw _ (List.mem_of_getElem? (i := 97) rfl)
theorem tw98 {Z : State} {a0 : Array Value} (hw : ∀ d ∈ tables_1, d.before a0 Z = true) : ((Jvm.Cond.declares ({ cls := "com/example/cicada/cicada/Level", name := "moving", desc := "()Lcom/example/cicada/cicada/Bucket;" } : Jvm.MethodName)) : Jvm.Cond).before a0 Z = true := hw _ (List.mem_of_getElem? (i := 98) rfl)
theorem tw99 {Z : State} {a0 : Array Value} (hw : ∀ d ∈ tables_1, d.before a0 Z = true) : ((Jvm.Cond.instanceMethod ({ cls := "com/example/cicada/cicada/Level", name := "moving", desc := "()Lcom/example/cicada/cicada/Bucket;" } : Jvm.MethodName)) : Jvm.Cond).before a0 Z = true := hw _ (List.mem_of_getElem? (i := 99) rfl)
theorem tw100 {Z : State} {a0 : Array Value} (hw : ∀ d ∈ tables_1, d.before a0 Z = true) : ((Jvm.Cond.selects "com/example/cicada/cicada/Level" ({ cls := "com/example/cicada/cicada/Level", name := "moving", desc := "()Lcom/example/cicada/cicada/Bucket;" } : Jvm.MethodName) ({ cls := "com/example/cicada/cicada/Level", name := "moving", desc := "()Lcom/example/cicada/cicada/Bucket;" } : Jvm.MethodName)) : Jvm.Cond).before a0 Z = true := hw _ (List.mem_of_getElem? (i := 100) rfl)
theorem tw101 {Z : State} {a0 : Array Value} (hw : ∀ d ∈ tables_1, d.before a0 Z = true) : ((Jvm.Cond.code ({ cls := "com/example/cicada/cicada/Level", name := "moving", desc := "()Lcom/example/cicada/cicada/Bucket;" } : Jvm.MethodName) prog_5_method_10_code (1 : Nat) (Option.some (Jvm.ClassFile.FieldType.object "com/example/cicada/cicada/Bucket"))) : Jvm.Cond).before a0 Z = true := hw _ (List.mem_of_getElem? (i := 101) rfl)
theorem tw102 {Z : State} {a0 : Array Value} (hw : ∀ d ∈ tables_1, d.before a0 Z = true) : ((Jvm.Cond.methodLink "com/example/cicada/cicada/LevelMoveMiddlePinLaw" (43 : Nat) ({ cls := "com/example/cicada/cicada/Level", name := "moveMiddle", desc := "()J" } : Jvm.MethodName)) : Jvm.Cond).before a0 Z = true := hw _ (List.mem_of_getElem? (i := 102) rfl)
theorem tw103 {Z : State} {a0 : Array Value} (hw : ∀ d ∈ tables_1, d.before a0 Z = true) : ((Jvm.Cond.declares ({ cls := "com/example/cicada/cicada/Level", name := "moveMiddle", desc := "()J" } : Jvm.MethodName)) : Jvm.Cond).before a0 Z = true := hw _ (List.mem_of_getElem? (i := 103) rfl)
theorem tw104 {Z : State} {a0 : Array Value} (hw : ∀ d ∈ tables_1, d.before a0 Z = true) : ((Jvm.Cond.instanceMethod ({ cls := "com/example/cicada/cicada/Level", name := "moveMiddle", desc := "()J" } : Jvm.MethodName)) : Jvm.Cond).before a0 Z = true := hw _ (List.mem_of_getElem? (i := 104) rfl)
theorem tw105 {Z : State} {a0 : Array Value} (hw : ∀ d ∈ tables_1, d.before a0 Z = true) : ((Jvm.Cond.selects "com/example/cicada/cicada/Level" ({ cls := "com/example/cicada/cicada/Level", name := "moveMiddle", desc := "()J" } : Jvm.MethodName) ({ cls := "com/example/cicada/cicada/Level", name := "moveMiddle", desc := "()J" } : Jvm.MethodName)) : Jvm.Cond).before a0 Z = true := hw _ (List.mem_of_getElem? (i := 105) rfl)
theorem tw106 {Z : State} {a0 : Array Value} (hw : ∀ d ∈ tables_1, d.before a0 Z = true) : ((Jvm.Cond.code ({ cls := "com/example/cicada/cicada/Level", name := "moveMiddle", desc := "()J" } : Jvm.MethodName) prog_5_method_12_code (1 : Nat) (Option.some Jvm.ClassFile.FieldType.long)) : Jvm.Cond).before a0 Z = true := hw _ (List.mem_of_getElem? (i := 106) rfl)
theorem tw107 {Z : State} {a0 : Array Value} (hw : ∀ d ∈ tables_1, d.before a0 Z = true) : ((Jvm.Cond.constantLong "com/example/cicada/cicada/Level" (90 : Nat) (2 : Int64)) : Jvm.Cond).before a0 Z = true := hw _ (List.mem_of_getElem? (i := 107) rfl)
theorem tw108 {Z : State} {a0 : Array Value} (hw : ∀ d ∈ tables_1, d.before a0 Z = true) : ((Jvm.Cond.methodLink "com/example/cicada/cicada/LevelMoveMiddlePinLaw" (47 : Nat) ({ cls := "com/example/cicada/cicada/Level", name := "moveDeadline", desc := "()J" } : Jvm.MethodName)) : Jvm.Cond).before a0 Z = true := hw _ (List.mem_of_getElem? (i := 108) rfl)
theorem tw109 {Z : State} {a0 : Array Value} (hw : ∀ d ∈ tables_1, d.before a0 Z = true) : ((Jvm.Cond.declares ({ cls := "com/example/cicada/cicada/Level", name := "moveDeadline", desc := "()J" } : Jvm.MethodName)) : Jvm.Cond).before a0 Z = true := hw _ (List.mem_of_getElem? (i := 109) rfl)
theorem tw110 {Z : State} {a0 : Array Value} (hw : ∀ d ∈ tables_1, d.before a0 Z = true) : ((Jvm.Cond.instanceMethod ({ cls := "com/example/cicada/cicada/Level", name := "moveDeadline", desc := "()J" } : Jvm.MethodName)) : Jvm.Cond).before a0 Z = true := hw _ (List.mem_of_getElem? (i := 110) rfl)
theorem tw111 {Z : State} {a0 : Array Value} (hw : ∀ d ∈ tables_1, d.before a0 Z = true) : ((Jvm.Cond.selects "com/example/cicada/cicada/Level" ({ cls := "com/example/cicada/cicada/Level", name := "moveDeadline", desc := "()J" } : Jvm.MethodName) ({ cls := "com/example/cicada/cicada/Level", name := "moveDeadline", desc := "()J" } : Jvm.MethodName)) : Jvm.Cond).before a0 Z = true := hw _ (List.mem_of_getElem? (i := 111) rfl)
theorem tw112 {Z : State} {a0 : Array Value} (hw : ∀ d ∈ tables_1, d.before a0 Z = true) : ((Jvm.Cond.code ({ cls := "com/example/cicada/cicada/Level", name := "moveDeadline", desc := "()J" } : Jvm.MethodName) prog_5_method_11_code (1 : Nat) (Option.some Jvm.ClassFile.FieldType.long)) : Jvm.Cond).before a0 Z = true := hw _ (List.mem_of_getElem? (i := 112) rfl)
theorem tw113 {Z : State} {a0 : Array Value} (hw : ∀ d ∈ tables_1, d.before a0 Z = true) : ((Jvm.Cond.constantLong "com/example/cicada/cicada/LevelMoveMiddlePinLaw" (50 : Nat) (2 : Int64)) : Jvm.Cond).before a0 Z = true := hw _ (List.mem_of_getElem? (i := 113) rfl)
def LV : String := "com/example/cicada/cicada/Level"
def sig0 : Lambda.Shape := (Jvm.Lambda.Shape.mk "java/util/function/IntFunction" "apply" (Jvm.ClassFile.MethodDescriptor.mk ([Jvm.ClassFile.FieldType.int] : List Jvm.ClassFile.FieldType) (Option.some (Jvm.ClassFile.FieldType.object "java/lang/Object"))) ([(Jvm.ClassFile.FieldType.object "com/example/cicada/cicada/Level")] : List Jvm.ClassFile.FieldType) (5 : Nat) "com/example/cicada/cicada/Level" "lambda$new$0" (Jvm.ClassFile.MethodDescriptor.mk ([Jvm.ClassFile.FieldType.int] : List Jvm.ClassFile.FieldType) (Option.some (Jvm.ClassFile.FieldType.object "com/example/cicada/cicada/Bucket"))) false (Jvm.ClassFile.MethodDescriptor.mk ([Jvm.ClassFile.FieldType.int] : List Jvm.ClassFile.FieldType) (Option.some (Jvm.ClassFile.FieldType.object "com/example/cicada/cicada/Bucket"))))
theorem own_fit (lv : Addr) : ∀ (i : Nat) t v, sig0.captured[i]? = some t → ([(.ref lv)] : List Value)[i]? = some v → narrow t v = v ∧ fits t v = true := by
  intro i t v ht hv
  rcases i with _ | i
  · cases ht; cases hv; exact ⟨rfl, rfl⟩
  · simp [sig0] at ht
def fcode : ByteArray := ⟨#[0x2a, 0xb4, 0x00, 0x0f, 0x1b, 0xb6, 0x00, 0x17, 0xb0]⟩
theorem f_0 : decode fcode 0 = .ok (.aload_n 0, 1) := by decide +kernel
theorem f_1 : decode fcode 1 = .ok (.getfield 15, 3) := by decide +kernel
theorem f_4 : decode fcode 4 = .ok (.iload_n 1, 1) := by decide +kernel
theorem f_5 : decode fcode 5 = .ok (.invokevirtual 23, 3) := by decide +kernel
theorem f_8 : decode fcode 8 = .ok (.areturn, 1) := by decide +kernel
theorem own_fok : Jvm.LamKit.fwdOK sig0 LV fcode 2 (some (.object "java/lang/Object")) 23 19 = true := by decide +kernel
theorem own_cok : Jvm.LamKit.capOK sig0 LV 15 0 = true := by decide +kernel
abbrev lamN : MethodName := ⟨"com/example/cicada/cicada/Level", "lambda$new$0", "(I)Lcom/example/cicada/cicada/Bucket;"⟩
abbrev appN : MethodName := ⟨"java/util/function/IntFunction", "apply", "(I)Ljava/lang/Object;"⟩
section Lam
variable {p : Program} {l : Launch} {e : Env} {R : Room} {s : State} {m : MethodId} {args : Array Value} {below : List Frame} {meth : Method} {c : Code} {T : State} {locs : List Loc} {cells slots : Nat} {Z : State} {a0 : Array Value} {h : Heap}
theorem own_backH {y : MethodName} {bytes : ByteArray} {maxL : Nat} {ret : Option FieldType} {rm : Room} {len W : Nat} {as' : Array Value} {Q : Option Value → Heap → List Loc → Prop}
    (hM : MetFree l y (head1 [Jvm.Cond.code y bytes maxL ret] rm) (fun a U => a = as' ∧ Z.WarmedH U.vm ∧ U.heap = h) (fun _ _ _ _ _ => True) (fun _ U o U' => ∃ v L, o = .returned v ∧ Q v U'.heap L ∧ FrameEnd U o U' L rm.cells rm.slots))
    (hH : Z.WarmedH s.vm) (wc : (Jvm.Cond.code y bytes maxL ret).before a0 Z = true) (wz : (Jvm.Cond.initialized y.cls).before a0 Z = true) (hf : rm.frames + 1 ≤ R.frames) (hl : W + (maxL + 11) + rm.locals ≤ R.locals) :
    Back l R p e below s args y len W (fun A a => a = as' ∧ A.U.heap = h ∧ A.cells + rm.cells ≤ R.cells ∧ A.slots + rm.slots ≤ R.slots)
      (fun A _ v B => ∃ L, Q v B.U.heap L ∧ B.locs = A.locs ++ L ∧ B.cells = A.cells + rm.cells ∧ B.slots = A.slots + rm.slots) :=
  Back.of_free (bytes := bytes) (maxL := maxL) (ret := ret) (E := fun _ _ o t L k n => k = rm.cells ∧ n = rm.slots ∧ ∃ v, o = .returned v ∧ Q v t.heap L) hM hf hl
    (fun m meth c A a Y hp => have hU : Z.Warmed39 A.U.vm := wtrans hH.wide Y.warmed
      ⟨by show (Jvm.Cond.and _ .tt).before a A.U = true; rw [Cond.before_and, mv hU wc]; rfl, mv hU wc, mv hU wz, hp.2.2.1, hp.2.2.2⟩)
    (fun m meth c A a g mk Y hp => ⟨hp.1, State.WarmedH.trans hH Y.warmed, hp.2.1⟩) (fun _ _ _ _ _ _ _ _ _ => trivial)
    (fun _ _ _ _ ⟨v, L, h1, h2, h3⟩ => ⟨L, _, _, h3, rfl, rfl, v, h1, h2⟩)
    (fun m meth c A a g mk v t L k n Y hp _ _ ⟨e1, e2, v', e3, e4⟩ => by cases e3; subst e1 e2; exact ⟨L, e4, rfl, rfl, rfl⟩)
theorem own_madeW {host : String} {σ : Lambda.Shape} {cK : ClassId} (hmd : Jvm.LamKit.Made Z host σ cK) {vm' : Vm} (hH : Z.WarmedH vm') : Jvm.LamKit.Made (Z.setVm vm') host σ cK := by
  obtain ⟨d, dk, hd, hdn, hmade, hcan⟩ := hmd
  obtain ⟨dk', hd', he⟩ := hH.alike.2.2 _ _ hd
  refine ⟨d, dk', hd', by rw [he]; exact hdn, Lambda.isMade_warmer hH hmade, ?_⟩
  have hA := hH.alike
  show (Z.setVm vm').lambdaCallable σ cK = true
  simp only [State.lambdaCallable, State.vm_setVm, hA.findClass, hA.assignable, hA.superclasses, hA.declaredIn] at hcan ⊢
  exact hcan
theorem own_madeS {host : String} {σ : Lambda.Shape} {cK : ClassId} (hmd : Jvm.LamKit.Made Z host σ cK) (hH : Z.WarmedH s.vm) : Jvm.LamKit.Made s host σ cK := own_madeW hmd hH
/-- the site, its words held at Z -/
theorem own_site (X : Stand p l e R s m args below meth c T locs cells slots) (hexec : p.tables.exec = Jvm.exec) (hH : Z.WarmedH s.vm) {x : MethodName} {pc index fi : Nat} {σ : Lambda.Shape} (hnamed : s.methodNamed? x = some m)
    (hsite : (Jvm.Cond.lambdaSite x pc index σ).before a0 Z = true) (hcap : σ.captured ≠ []) (hok : Jvm.LamKit.capOK σ x.cls fi 0 = true) (hO : (Jvm.Cond.instantiable "java/lang/Object" 0).before a0 Z = true)
    {g : JFrame} (hg : g.method = m) (hpc : g.pc = pc) (hsize : g.locals.size = c.maxLocals) (hdg : decode c.code g.pc = .ok (.invokedynamic index, 5))
    {vals rest : List Value} (hlen : vals.length = σ.captured.length) (hstack : g.stack = vals.reverse ++ rest) (hfit : ∀ (i : Nat) t v, σ.captured[i]? = some t → vals[i]? = some v → narrow t v = v ∧ fits t v = true)
    (hwords : 2 * g.monitorRoom + (g.stack.map fun v => v.category).sum + 3072 ≤ R.locals) (hcells : cells + 1 ≤ R.cells) {kk : Nat} (hkk : vals.length = kk) (hslots : slots + kk ≤ R.slots) :
    ∃ cK : ClassId, Jvm.LamKit.Made Z x.cls σ cK ∧ Stand p l e R s m args below meth c (T.pushCell { cls := cK, slots := vals.toArray, vm := .none }) locs (cells + 1) (slots + kk) ∧
      ∀ target, Steps p.tables e below ((T.pushCell { cls := cK, slots := vals.toArray, vm := .none }).setTop { g with pc := g.pc + 5, stack := .ref T.heap.size :: rest }) target → Steps p.tables e below (T.setTop g) target := by
  subst hkk
  obtain ⟨cK, one, hat⟩ := Cond.lambdaSite_spec hsite
  obtain ⟨mD, kD, cfD, i0, p0, lk, hmD, hkD, hcfD, hsh, -, hfind, hmade, hcan, hl⟩ := State.lambdaAt?_spec hat
  have hmS : s.methodNamed? x = some mD := by
    have q := State.methodNamed?_setVm (s := Z) hH.alike x
    rw [hmD] at q
    exact q
  cases hnamed.symm.trans hmS
  obtain ⟨kD', hkD', hnameD⟩ := className_of_methodNamed hmD
  cases hkD.symm.trans hkD'
  rcases hl with ⟨a, cell, -, -, hc0, -⟩ | ⟨rfl, -, -⟩
  · exact absurd hc0 hcap
  · obtain ⟨b, nt, desc, site, h1, h2, h3, h4⟩ := Lambda.shapeOf?_site hsh
    obtain ⟨kS, hkS, heS⟩ := hH.alike.2.2 _ _ hkD
    obtain ⟨kc, f, hkc, hkind, hty, -⟩ := Jvm.LamKit.made_cap hok hkS (by rw [heS]; exact hnameD) (Lambda.isMade_warmer hH hmade) (Jvm.LamKit.noFields hO hH)
    have hz : ((kc.instanceTypes.toList.zip vals).map fun (t, v) => narrow t v) = vals := by rw [hty]; exact Jvm.LamKit.zip_narrow _ _ hlen fun i t v a b => (hfit i t v a b).1
    have hw : e.platform.lambdaLinkWords = 3072 := by rw [X.admits.platform]
    have q := X.lambdaMakes hexec hg hsize hdg (vals := vals) (rest := rest) hkS (by rw [hpc, heS]; exact hfind) (by rw [heS]; exact hcfD) h1 h2 (parseLong_of_parse h3) (by rw [h4]; exact hlen) hstack hkc (by rw [hw]; exact hwords) hcells (by rw [hz]; exact hslots)
      (fun i v hv => by
        rw [hz] at hv
        have hv' : vals[i]? = some v := by simpa using hv
        have hi : i < σ.captured.length := by rw [← hlen]; exact (List.getElem?_eq_some_iff.mp hv').1
        have := (hfit i _ v (List.getElem?_eq_getElem hi) hv').2
        simp [State.fitsSlot, State.slotType?, hkc, hkind, hty, List.getElem?_eq_getElem hi, this])
    rw [hz] at q
    exact ⟨cK, ⟨_, kD, hkD, hnameD, hmade, hcan⟩, by simpa using q.1, q.2⟩
/-- the forwarder of the lambda, its target by the contract hM -/
theorem own_fwd {cK : ClassId} {rm : Room} {Q : Option Value → Heap → List Loc → Prop} {b lv : Addr} {i : Int32} {cell : Cell} {W : Nat} (hexec : p.tables.exec = Jvm.exec) (hH : Z.WarmedH s.vm) (hmd : Jvm.LamKit.Made Z LV sig0 cK)
    (hcell : h[b]? = some cell) (hcv : cell.vm = .none) (hsl : cell.slots[0]? = some (.ref lv)) (E : Exa Z h lv LV)
    (hM : MetFree l lamN (head1 [Jvm.Cond.code lamN prog_5_method_15_code 2 (some (.object "com/example/cicada/cicada/Bucket"))] rm) (fun a U => a = #[(.ref lv), (.int i)] ∧ Z.Warmed39 U.vm ∧ U.heap = h) (fun _ _ _ _ _ => True) (fun _ U o U' => ∃ v L, o = .returned v ∧ Q v U'.heap L ∧ FrameEnd U o U' L rm.cells rm.slots))
    (hQ : ∀ v h' L, Q v h' L → ∃ r : Addr, v = some (.ref r))
    (wc : (Jvm.Cond.code lamN prog_5_method_15_code 2 (some (.object "com/example/cicada/cicada/Bucket"))).before a0 Z = true) (wz : (Jvm.Cond.initialized lamN.cls).before a0 Z = true) (wi : (Jvm.Cond.instanceMethod lamN).before a0 Z = true) (wp : (Jvm.Cond.privateMethod lamN).before a0 Z = true) (wn : (Jvm.Cond.instantiable LV 11).before a0 Z = true) (wO : (Jvm.Cond.instantiable "java/lang/Object" 0).before a0 Z = true)
    (hf : rm.frames + 2 ≤ R.frames) (hl : W + 13 + (2 + 11) + rm.locals ≤ R.locals) :
    BackW l R p e below s args (fun _ mk => mk = ⟨cK, 1⟩) 5 W (fun A a => a = #[(.ref b), (.int i)] ∧ A.U.heap = h ∧ A.cells + rm.cells ≤ R.cells ∧ A.slots + rm.slots ≤ R.slots)
      (fun A _ v B => ∃ L, Q v B.U.heap L ∧ B.locs = A.locs ++ L ∧ B.cells = A.cells + rm.cells ∧ B.slots = A.slots + rm.slots) := by
  intro m meth c A g ig mk av X hg hsize hdg hW hwho hp
  obtain ⟨rfl, hh, hc1, hs1⟩ := hp
  subst hwho
  have hW1 : Z.WarmedH A.U.vm := State.WarmedH.trans hH X.warmed
  obtain ⟨d, dk, hd, hdn, hmade, hcan⟩ := hmd
  obtain ⟨dk1, hd1, he1⟩ := hW1.alike.2.2 _ _ hd
  obtain ⟨kK, tk, file, methk, ck, toy, t, nt, hkK, hpn, hfile, hidx, hnt, hmk, hck, hbytes, hml, hlk, -, hretk, htoy, htk, hlook, hready, hclsR⟩ := Jvm.LamKit.made_static own_fok hd1 (by rw [he1]; exact hdn) (Lambda.isMade_warmer hW1 hmade)
  obtain ⟨mT, methT, hmT, hmethT, hstT, habT⟩ := Cond.instanceMethod_spec wi
  have hfT : Z.vm.findClass LV = some mT.cls := findClass_of_methodNamed hmT
  have hfT1 : A.U.vm.findClass LV = some mT.cls := by rw [hW1.alike.findClass]; exact hfT
  cases htoy.symm.trans hfT1
  have ht1 : t = mT := by
    have q1 : (Z.setVm A.U.vm).methodFound? LV "lambda$new$0" "(I)Lcom/example/cicada/cicada/Bucket;" = some mT := by
      rw [State.methodFound?_setVm hW1.alike]; exact State.methodFound?_of_named hmT (by decide)
    simp only [State.methodFound?, State.vm_setVm, hfT1, htk, Option.bind_eq_bind, Option.bind_some] at q1
    have q2 : sig0.implDesc.toString = "(I)Lcom/example/cicada/cicada/Bucket;" := by decide +kernel
    have q3 : sig0.implName = "lambda$new$0" := rfl
    rw [q2, q3] at hlook
    rw [hlook] at q1
    exact Option.some.inj q1
  subst ht1
  obtain ⟨cI, kI, i1, i2, i3, i4, -, -⟩ := Cond.instantiable_spec wn
  cases hfT.symm.trans i1
  obtain ⟨kI', hkI', heI⟩ := hW1.alike.2.2 _ _ i2
  cases htk.symm.trans hkI'
  have hni : tk.isInterface = false := by
    have : tk.isInterface = kI.isInterface := by rw [heI]; rfl
    rw [this]; simp at i4; exact i4.1
  have hnameI : tk.name = LV := by
    obtain ⟨k9, hk9, hn9⟩ := className_of_methodNamed hmT
    cases i2.symm.trans hk9
    rw [heI]; exact hn9
  have hsp : ∀ z : Method, signaturePolymorphic tk z = false := fun z => by simp [signaturePolymorphic, hnameI, LV]
  have hmethT1 : A.U.vm.method? t = some methT := by rw [hW1.alike.method?]; exact hmethT
  have hpriv : methT.isPrivate = true := Cond.privateMethod_at wp t methT hmT hmethT
  have hpk : A.U.plainMethod ⟨cK, 1⟩ := State.plainMethod.of_name (fun k' hk' => by cases hkK.symm.trans hk'; exact hpn)
  obtain ⟨meT, cT, hmeT, hcT, -, hlocT, -, -, -, hsigT⟩ := Cond.code_spec hmT wc
  cases hmethT.symm.trans hmeT
  obtain ⟨Y0, hin⟩ := X.into hg hsize hdg #[(.ref b), (.int i)] (R' := ({ frames := rm.frames + 1, cells := rm.cells, slots := rm.slots, locals := (2 + 11) + rm.locals } : Room)) hmk hck hlk hpk (by show rm.frames + 1 + 1 ≤ _; omega) (by rw [hml]; show _ + (2 + 11) + ((2 + 11) + rm.locals) ≤ _; omega) hc1 hs1
  have hL0 : entryFrame ⟨cK, 1⟩ #[(.ref b), (.int i)] 2 = mkF ⟨cK, 1⟩ 0 #[.val (.ref b), .val (.int i)] [] := rfl
  rw [hml, hL0] at Y0 hin
  generalize hU : (A.U.setTop g).pushFrame (.java (mkF ⟨cK, 1⟩ 0 #[.val (.ref b), .val (.int i)] [])) = U at Y0 hin
  have hvmU : U.vm = A.U.vm := by rw [← hU]; rfl
  have hheapU : U.heap = h := by rw [← hU]; exact hh
  have hZ' : Z.Warmed39 (A.U.calling g ⟨cK, 1⟩ #[(.ref b), (.int i)]).vm := hW1.wide
  have hK := backOf (p := p) (e := e) (below := .java g :: below) (args := #[(.ref b), (.int i)]) (R := ({ frames := rm.frames + 1, cells := rm.cells, slots := rm.slots, locals := (2 + 11) + rm.locals } : Room)) (len := 3) (W := 0) hM hZ' wc wz (Nat.le_refl _) (by show 0 + (2 + 11) + rm.locals ≤ (2 + 11) + rm.locals; omega)
  have hnamedU : U.methodNamed? lamN = some t := by
    have q := State.methodNamed?_setVm (s := Z) hW1.alike lamN
    rw [hmT] at q
    rw [← hU]; exact q
  obtain ⟨v, ⟨U', ls, cc, sl⟩, Y1, ⟨L, hq, hl', hc', hs'⟩, hsteps⟩ := hK ⟨cK, 1⟩ methk ck ⟨U, [], 0, 0⟩ (mkF ⟨cK, 1⟩ 5 #[.val (.ref b), .val (.int i)] []) (.invokevirtual 23) t #[(.ref lv), (.int i)] Y0 rfl (by rw [hml]; rfl) (by rw [hbytes]; exact f_5) (Nat.le_refl _) hnamedU ⟨rfl, hheapU, (by show 0 + rm.cells ≤ rm.cells; omega), (by show 0 + rm.slots ≤ rm.slots; omega)⟩
  dsimp only [Pt.U, Pt.locs, Pt.cells, Pt.slots] at Y1 hq hl' hc' hs' hsteps
  have hls : ls = L := by simpa using hl'
  subst hc' hs'
  rw [hls] at Y1
  obtain ⟨r, rfl⟩ := hQ _ _ _ hq
  obtain ⟨fs, hleave, -, hended, hWe, hsame⟩ := Y1.leave (v := some (.ref r)) (fun h => by rw [hretk] at h; cases h) hlk
  obtain ⟨T', X', -, -, ht⟩ := X.outOf hg hdg hended hWe hsame
  have hheap' : T'.heap = U'.heap := by
    have q : (U'.setFrames fs).heap = (T'.setTop { g with pc := g.pc + 5, stack := (some (Value.ref r)).toList ++ g.stack }).heap := congrArg State.heap ht
    exact q.symm
  refine ⟨some (.ref r), ⟨T', A.locs ++ L, A.cells + (0 + rm.cells), A.slots + (0 + rm.slots)⟩, X', ⟨L, ?_, by simp, by simp, by simp⟩, ?_⟩
  · show Q _ T'.heap _
    rw [hheap']; exact hq
  · rw [hin [], ← ht]
    refine Steps.weaken (mid := [.java g]) ?_
    have hsU : U.topJava?.isSome := Y0.here.top
    refine XS.aloadN Y0.here hexec rfl (by rw [hbytes]; exact f_0) rfl rfl ?_
    refine Jvm.LamKit.getCap (s := Z) (args := a0) (a := b) (cell := cell) (v := .ref lv) (rest := []) (g := mkF ⟨cK, 1⟩ 1 #[.val (.ref b), .val (.int i)] [.ref b]) hexec Y0.here (by rw [hvmU]; exact hW1) ⟨d, dk, hd, hdn, hmade, hcan⟩ own_cok wO (by rw [hheapU]; exact hcell) hcv hsl rfl rfl (by rw [hbytes]; exact f_1) ?_
    show Steps p.tables e _ (U.setTop (mkF ⟨cK, 1⟩ 4 #[.val (.ref b), .val (.int i)] [.ref lv])) _
    refine XS.iloadN Y0.here hexec rfl (by rw [hbytes]; exact f_4) rfl ?_
    show Steps p.tables e _ (U.setTop (mkF ⟨cK, 1⟩ 5 #[.val (.ref b), .val (.int i)] [.int i, .ref lv])) _
    obtain ⟨cellB, kB, hcB, hfB, hkB, hstB, -⟩ := E
    have hdI : decode ck.code 5 = .ok (.invokevirtual 23, 3) := by rw [hbytes]; exact f_5
    jvm_step Y0.here [hexec, hdI, invokevirtual.wp_ready (e := e) (s := U) (r := t) (m := t) (k := tk) (mk := tk) (rmeth := methT) (meth := methT) (a := lv) (args := [.int i]) (rest := []) (cell := cellB)
      (f := mkF ⟨cK, 1⟩ 5 #[.val (.ref b), .val (.int i)] [.int i, .ref lv]) hsU ⟨kK, file, 19, nt, t.cls, tk, by rw [hvmU]; exact hkK, hfile, hidx, by rw [hvmU]; exact hclsR, by rw [hvmU]; exact htk, hni⟩ (by rw [hvmU]; exact hready) (by rw [hvmU]; exact htk) (by rw [hvmU]; exact hmethT1) (hsp _) hstT
      (by have := hsigT; rw [show parseMethodDescriptor lamN.desc = some ⟨[.int], some (.object "com/example/cicada/cicada/Bucket")⟩ from by decide +kernel] at this; rw [← Option.some.inj this]; rfl) rfl
      (by rw [hheapU]; exact hcB) (fun k hk => by rw [hk] at hstB; cases hstB) (selectMethod_private (by rw [hvmU]; exact hmethT1) hpriv) (by rw [hvmU]; exact hmethT1) habT (by rw [hvmU]; exact htk) hni]
    intro acts'
    rw [doInvoke_state]
    refine hsteps.trans ?_
    show Steps p.tables e _ (U'.setTop (mkF ⟨cK, 1⟩ 8 #[.val (.ref b), .val (.int i)] [.ref r])) _
    exact Jvm.RoadKit.retOut Y1 hexec hretk rfl (Or.inr (Or.inr (Or.inr (Or.inr ⟨rfl, rfl, rfl⟩)))) (by rw [hbytes]; exact f_8) hleave
end Lam

def BkAt (Z : State) (h : Heap) (n0 : Nat) (v : Value) : Prop := ∃ (b : Addr) (o : Int64), v = .ref b ∧ n0 ≤ b ∧ Exa Z h b "com/example/cicada/cicada/Bucket" ∧ Fld Z h b "com/example/cicada/cicada/Bucket" "opensAt" "J" (.long o)
def AllB (Z : State) (h : Heap) (n0 k : Nat) (vs : List Value) : Prop := ∀ j, j < k → BkAt Z h n0 (vs.getD j .null)
theorem BkAt.keep {Z : State} {h h' : Heap} {n0 : Nat} {v : Value} {ws : List Addr} (B : BkAt Z h n0 v) (K : Keep h h' ws) (q : ∀ b, Exa Z h b "com/example/cicada/cicada/Bucket" → b ∉ ws) : BkAt Z h' n0 v := by
  obtain ⟨b, o, e, g, E, F⟩ := B
  exact ⟨b, o, e, g, E.keep K, F.keep K (q b E)⟩
theorem BkAt.ext {Z : State} {h h' : Heap} {n0 : Nat} {v : Value} (B : BkAt Z h n0 v) (K : Ext h h') : BkAt Z h' n0 v := by
  obtain ⟨b, o, e, g, E, F⟩ := B
  exact ⟨b, o, e, g, E.ext K, F.ext K⟩
theorem BkAt.wr {Z : State} {h h' : Heap} {n0 : Nat} {v w : Value} {a : Addr} {sl : Nat} (B : BkAt Z h n0 v) (W : Wr h h' a sl w) (q : ∀ b, Exa Z h b "com/example/cicada/cicada/Bucket" → b ≠ a) : BkAt Z h' n0 v := by
  obtain ⟨b, o, e, g, E, F⟩ := B
  exact ⟨b, o, e, g, Exa.wr W E, Fld.other W F (Or.inl (q b E))⟩
theorem BkAt.put {Z : State} {h h' : Heap} {n0 : Nat} {v : Value} {a : Addr} {o' : Int64} (B : BkAt Z h n0 v) (W : Wr h h' a (Jvm.RoadKit.slotOf Z "com/example/cicada/cicada/Bucket" "opensAt" "J") (.long o')) : BkAt Z h' n0 v := by
  obtain ⟨b, o, e, g, E, F⟩ := B
  by_cases q : b = a
  · subst q; exact ⟨b, o', e, g, Exa.wr W E, Fld.same W F⟩
  · exact ⟨b, o, e, g, Exa.wr W E, Fld.other W F (Or.inl q)⟩
theorem AllB.set {Z : State} {h : Heap} {n0 k i : Nat} {vs : List Value} {v : Value} (B : AllB Z h n0 k vs) (hv : BkAt Z h n0 v) (hi : i < vs.length) : AllB Z h n0 k (vs.set i v) := fun j hj => by
  by_cases q : j = i
  · subst q; rw [List.getD_eq_getElem?_getD, List.getElem?_set_self hi]; exact hv
  · rw [List.getD_eq_getElem?_getD, List.getElem?_set_ne (fun e => q e.symm), ← List.getD_eq_getElem?_getD]; exact B j hj
theorem own_getset {vs : List Value} {i : Nat} {v : Value} (hi : i < vs.length) : (vs.set i v).getD i .null = v := by
  rw [List.getD_eq_getElem?_getD, List.getElem?_set_self hi]; rfl
theorem own_nat {n : Nat} (h : n ≤ 16) : (Int32.ofNat n).toInt = n := Int32.toInt_ofNat_small (by omega)
theorem own_clampd (x : Int32) : x.toNatClampNeg = x.toInt.toNat := rfl
theorem own_clamp {n : Nat} (h : n ≤ 16) : (Int32.ofNat n).toNatClampNeg = n := by
  rw [own_clampd, own_nat h]; rfl
theorem own_lt {i n : Nat} (h : i < n) (hn : n ≤ 16) : Int32.ofNat i < Int32.ofNat n := by
  rw [Int32.lt_iff_toInt_lt, own_nat hn, own_nat (by omega)]; omega
theorem own_nneg {n : Nat} (h : n ≤ 16) : ¬ Int32.ofNat n < 0 := by
  rw [Int32.lt_iff_toInt_lt, own_nat h, Int32.toInt_zero]; omega
theorem own_inc (i : Nat) : Int32.ofNat i + (1 : Int32) = Int32.ofNat (i + 1) := (Int32.ofNat_add i 1).symm
theorem own_nz {n : Nat} (h1 : 1 ≤ n) (h : n ≤ 16) : (Int32.ofNat n).toInt64 ≠ 0 := fun k => by
  have := congrArg Int64.toInt k
  rw [Int32.toInt_toInt64, own_nat h, Int64.toInt_zero] at this; omega

def maxv (q1 : Int64) (q2 : Int64) : Int64 := (if q1 < q2 then q2 else q1)
abbrev G_rmMax (m : MethodId) (q1 : Int64) (q2 : Int64) : JFrame := (entryFrame m #[(.long q1), (.long q2)] 4)
theorem d1_0 : decode jdk_29_method_66_code 0 = .ok (.lload_n 0, 1) := by decide +kernel
theorem d1_1 : decode jdk_29_method_66_code 1 = .ok (.lload_n 2, 1) := by decide +kernel
theorem d1_2 : decode jdk_29_method_66_code 2 = .ok (.lcmp, 1) := by decide +kernel
theorem d1_3 : decode jdk_29_method_66_code 3 = .ok (.ifCond .lt 7, 3) := by decide +kernel
theorem d1_10 : decode jdk_29_method_66_code 10 = .ok (.lload_n 2, 1) := by decide +kernel
theorem d1_11 : decode jdk_29_method_66_code 11 = .ok (.lreturn, 1) := by decide +kernel
theorem d1_6 : decode jdk_29_method_66_code 6 = .ok (.lload_n 0, 1) := by decide +kernel
theorem d1_7 : decode jdk_29_method_66_code 7 = .ok (.goto 4, 3) := by decide +kernel
def Q_rmMax (Z : State) (q1 : Int64) (q2 : Int64)  (h0 : Heap) (n0 : Nat) (v : Option Value) (h : Heap) (L : List Loc) : Prop := v = some (.long (maxv q1 q2)) ∧ Fr n0 L ∧ h = h0
set_option maxRecDepth 65536 in
set_option maxHeartbeats 40000000 in
theorem rmMax (l : Launch) (Z : State) (a0 : Array Value) (hw : ∀ d ∈ tables_1, d.before a0 Z = true) (ws : List Jvm.Cond) (q1 : Int64) (q2 : Int64)  (h0 : Heap) (n0 : Nat) (Z0 : n0 ≤ h0.size)  :
    MetFree l (⟨"java/lang/Math", "max", "(JJ)J"⟩ : MethodName) (head1 (Jvm.Cond.code (⟨"java/lang/Math", "max", "(JJ)J"⟩ : MethodName) jdk_29_method_66_code 4 (some .long) :: ws) ({ frames := 0, cells := 0, slots := 0, locals := 0 } : Room)) (fun a U => a = #[(.long q1), (.long q2)] ∧ Z.Warmed39 U.vm ∧ U.heap = h0) (fun _ _ _ _ _ => True) (fun _ U o U' => ∃ v L, o = .returned v ∧ Q_rmMax Z q1 q2 h0 n0 v U'.heap L ∧ FrameEnd U o U' L ({ frames := 0, cells := 0, slots := 0, locals := 0 } : Room).cells ({ frames := 0, cells := 0, slots := 0, locals := 0 } : Room).slots) := by
  refine MetFree.of_bodySF (Jvm.Free.JP.mathPlain rfl (by decide +kernel)) hisR ?_
  intro p e s m args below meth c s₁ Bd hml0 hP hK
  obtain ⟨rfl, hZ, hh⟩ := hP
  have hx := Bd.exec
  have hby := Bd.bytes
  have hml : c.maxLocals = 4 := hml0
  have hown : s.vm.findClass "java/lang/Math" = some m.cls := findClass_of_methodNamed Bd.named
  have hnm := (name_of_methodNamed Bd.named Bd.method).1
  have X0 : Stand p l e ({ frames := 0, cells := 0, slots := 0, locals := 0 } : Room) s m #[(.long q1), (.long q2)] below meth c s₁ [] 0 0 := Stand.of_body Bd
  have e0 : s₁.heap = h0 := by rw [← hh, Bd.state]; rfl
  have N0 := Fr.nil n0
  have go0 : Goes p e below s₁ (G_rmMax m q1 q2) s₁ (mkF m 0 #[.val (.long q1), .second, .val (.long q2), .second] []) := fun tq kq => castTop (by first | (simp [entryFrame, mkF, argsToLocals, Value.category, G_rmMax]; done) | rfl) kq
  have go1 : Goes p e below s₁ (G_rmMax m q1 q2) s₁ (mkF m 3 #[.val (.long q1), .second, .val (.long q2), .second] [(.int (lcmpW q1 q2))]) := fun tq kq => go0 tq (by
    show Steps p.tables e below (s₁.setTop (mkF m 0 #[.val (.long q1), .second, .val (.long q2), .second] [])) _
    refine XS.lloadN X0.here hx rfl (hb hby d1_0) rfl ?_
    show Steps p.tables e below (s₁.setTop (mkF m 1 #[.val (.long q1), .second, .val (.long q2), .second] [(.long q1)])) _
    refine XS.lloadN X0.here hx rfl (hb hby d1_1) rfl ?_
    show Steps p.tables e below (s₁.setTop (mkF m 2 #[.val (.long q1), .second, .val (.long q2), .second] [(.long q2), (.long q1)])) _
    refine XS.lcmp X0.here hx rfl (hb hby d1_2) rfl ?_
    exact kq)
  by_cases hc3_2 : q1 < q2
  · have go3 : Goes p e below s₁ (G_rmMax m q1 q2) s₁ (mkF m 11 #[.val (.long q1), .second, .val (.long q2), .second] [(.long q2)]) := fun tq kq => go1 tq (by
      show Steps p.tables e below (s₁.setTop (mkF m 3 #[.val (.long q1), .second, .val (.long q2), .second] [(.int (lcmpW q1 q2))])) _
      refine XS.ifYes X0.here hx rfl (pc0 := 3) (pc' := 10) rfl (hb hby d1_3) rfl ((if0 _ _).trans (tlt (own_lclt hc3_2)).1) (by decide) (by decide) ?_
      show Steps p.tables e below (s₁.setTop (mkF m 10 #[.val (.long q1), .second, .val (.long q2), .second] [])) _
      refine XS.lloadN X0.here hx rfl (hb hby d1_10) rfl ?_
      exact kq)
    obtain ⟨fs, hr, hrun, hended, hW, hsame⟩ := X0.leave (v := some (.long q2)) (fun h => by rw [Bd.returns] at h; cases h)
    refine ⟨_, _, go3 _ ?_, hrun, hended, _, _, rfl, ?_, ⟨_, rfl⟩, hW, hsame.mono (by decide) (by decide)⟩
    · jvm_step X0.here [X0.here.top, hx, (hb hby d1_11), X0.method', Bd.returns, narrow]
      first | (intro acts; rw [hr _ acts rfl rfl rfl]) | rw [hr _ _ rfl rfl rfl]
      exact Steps.refl _
    · show Q_rmMax Z q1 q2 h0 n0 _ s₁.heap _
      rw [e0]
      exact ⟨congrArg (fun z => some (Value.long z)) (Eq.symm (show (maxv q1 q2) = q2 from (if_pos hc3_2))), N0, rfl⟩
  · have go4 : Goes p e below s₁ (G_rmMax m q1 q2) s₁ (mkF m 11 #[.val (.long q1), .second, .val (.long q2), .second] [(.long q1)]) := fun tq kq => go1 tq (by
      show Steps p.tables e below (s₁.setTop (mkF m 3 #[.val (.long q1), .second, .val (.long q2), .second] [(.int (lcmpW q1 q2))])) _
      refine XS.ifNo X0.here hx rfl (hb hby d1_3) rfl ((if0 _ _).trans (flt (own_lcge hc3_2)).1) ?_
      show Steps p.tables e below (s₁.setTop (mkF m 6 #[.val (.long q1), .second, .val (.long q2), .second] [])) _
      refine XS.lloadN X0.here hx rfl (hb hby d1_6) rfl ?_
      show Steps p.tables e below (s₁.setTop (mkF m 7 #[.val (.long q1), .second, .val (.long q2), .second] [(.long q1)])) _
      refine XS.goto X0.here hx rfl (pc0 := 7) (pc' := 11) rfl (hb hby d1_7) (by decide) (by decide) ?_
      exact kq)
    obtain ⟨fs, hr, hrun, hended, hW, hsame⟩ := X0.leave (v := some (.long q1)) (fun h => by rw [Bd.returns] at h; cases h)
    refine ⟨_, _, go4 _ ?_, hrun, hended, _, _, rfl, ?_, ⟨_, rfl⟩, hW, hsame.mono (by decide) (by decide)⟩
    · jvm_step X0.here [X0.here.top, hx, (hb hby d1_11), X0.method', Bd.returns, narrow]
      first | (intro acts; rw [hr _ acts rfl rfl rfl]) | rw [hr _ _ rfl rfl rfl]
      exact Steps.refl _
    · show Q_rmMax Z q1 q2 h0 n0 _ s₁.heap _
      rw [e0]
      exact ⟨congrArg (fun z => some (Value.long z)) (Eq.symm (show (maxv q1 q2) = q1 from (if_neg hc3_2))), N0, rfl⟩
def spanv (q1 : Int64) (p2 : Int32) : Int64 := (if ((9223372036854775807 : Int64) / (p2.toInt64)) < q1 then (9223372036854775807 : Int64) else (q1 * (p2.toInt64)))
abbrev G_rmSpan (m : MethodId) (q1 : Int64) (p2 : Int32) : JFrame := (entryFrame m #[(.long q1), (.int p2)] 3)
theorem d5_0 : decode prog_4_method_5_code 0 = .ok (.lload_n 0, 1) := by decide +kernel
theorem d5_1 : decode prog_4_method_5_code 1 = .ok (.ldc2_w 62, 3) := by decide +kernel
theorem d5_4 : decode prog_4_method_5_code 4 = .ok (.iload_n 2, 1) := by decide +kernel
theorem d5_5 : decode prog_4_method_5_code 5 = .ok (.i2l, 1) := by decide +kernel
theorem d5_6 : decode prog_4_method_5_code 6 = .ok (.ldiv, 1) := by decide +kernel
theorem d5_7 : decode prog_4_method_5_code 7 = .ok (.lcmp, 1) := by decide +kernel
theorem d5_8 : decode prog_4_method_5_code 8 = .ok (.ifCond .le 9, 3) := by decide +kernel
theorem d5_17 : decode prog_4_method_5_code 17 = .ok (.lload_n 0, 1) := by decide +kernel
theorem d5_18 : decode prog_4_method_5_code 18 = .ok (.iload_n 2, 1) := by decide +kernel
theorem d5_19 : decode prog_4_method_5_code 19 = .ok (.i2l, 1) := by decide +kernel
theorem d5_20 : decode prog_4_method_5_code 20 = .ok (.lmul, 1) := by decide +kernel
theorem d5_21 : decode prog_4_method_5_code 21 = .ok (.lreturn, 1) := by decide +kernel
theorem d5_11 : decode prog_4_method_5_code 11 = .ok (.ldc2_w 62, 3) := by decide +kernel
theorem d5_14 : decode prog_4_method_5_code 14 = .ok (.goto 7, 3) := by decide +kernel
def Q_rmSpan (Z : State) (q1 : Int64) (p2 : Int32)  (h0 : Heap) (n0 : Nat) (v : Option Value) (h : Heap) (L : List Loc) : Prop := v = some (.long (spanv q1 p2)) ∧ Fr n0 L ∧ h = h0
theorem pn_com_example_cicada_cicada_Expiry : plainName "com/example/cicada/cicada/Expiry" = true := by first | (simp [plainName, overriddenIn]; done) | decide +kernel
set_option maxRecDepth 65536 in
set_option maxHeartbeats 40000000 in
theorem rmSpan (l : Launch) (Z : State) (a0 : Array Value) (hw : ∀ d ∈ tables_1, d.before a0 Z = true) (ws : List Jvm.Cond) (q1 : Int64) (p2 : Int32)  (h0 : Heap) (n0 : Nat) (Z0 : n0 ≤ h0.size) (hnz : p2.toInt64 ≠ 0) :
    MetFree l (⟨"com/example/cicada/cicada/Expiry", "span", "(JI)J"⟩ : MethodName) (head1 (Jvm.Cond.code (⟨"com/example/cicada/cicada/Expiry", "span", "(JI)J"⟩ : MethodName) prog_4_method_5_code 3 (some .long) :: ws) ({ frames := 0, cells := 0, slots := 0, locals := 0 } : Room)) (fun a U => a = #[(.long q1), (.int p2)] ∧ Z.Warmed39 U.vm ∧ U.heap = h0) (fun _ _ _ _ _ => True) (fun _ U o U' => ∃ v L, o = .returned v ∧ Q_rmSpan Z q1 p2 h0 n0 v U'.heap L ∧ FrameEnd U o U' L ({ frames := 0, cells := 0, slots := 0, locals := 0 } : Room).cells ({ frames := 0, cells := 0, slots := 0, locals := 0 } : Room).slots) := by
  refine MetFree.of_bodySF (plainFor_of_name pn_com_example_cicada_cicada_Expiry) hisR ?_
  intro p e s m args below meth c s₁ Bd hml0 hP hK
  obtain ⟨rfl, hZ, hh⟩ := hP
  have hx := Bd.exec
  have hby := Bd.bytes
  have hml : c.maxLocals = 3 := hml0
  have hown : s.vm.findClass "com/example/cicada/cicada/Expiry" = some m.cls := findClass_of_methodNamed Bd.named
  have hnm := (name_of_methodNamed Bd.named Bd.method).1
  have X0 : Stand p l e ({ frames := 0, cells := 0, slots := 0, locals := 0 } : Room) s m #[(.long q1), (.int p2)] below meth c s₁ [] 0 0 := Stand.of_body Bd
  have e0 : s₁.heap = h0 := by rw [← hh, Bd.state]; rfl
  have N0 := Fr.nil n0
  have go0 : Goes p e below s₁ (G_rmSpan m q1 p2) s₁ (mkF m 0 #[.val (.long q1), .second, .val (.int p2)] []) := fun tq kq => castTop (by first | (simp [entryFrame, mkF, argsToLocals, Value.category, G_rmSpan]; done) | rfl) kq
  have go5 : Goes p e below s₁ (G_rmSpan m q1 p2) s₁ (mkF m 8 #[.val (.long q1), .second, .val (.int p2)] [(.int (lcmpW q1 ((9223372036854775807 : Int64) / (p2.toInt64))))]) := fun tq kq => go0 tq (by
    show Steps p.tables e below (s₁.setTop (mkF m 0 #[.val (.long q1), .second, .val (.int p2)] [])) _
    refine XS.lloadN X0.here hx rfl (hb hby d5_0) rfl ?_
    show Steps p.tables e below (s₁.setTop (mkF m 1 #[.val (.long q1), .second, .val (.int p2)] [(.long q1)])) _
    refine X0.ldc2Long hx hown (mvT hZ (tw33 hw)) (g := (mkF m 1 #[.val (.long q1), .second, .val (.int p2)] [(.long q1)])) rfl (hb hby d5_1) _ ?_
    show Steps p.tables e below (s₁.setTop (mkF m 4 #[.val (.long q1), .second, .val (.int p2)] [(.long (9223372036854775807 : Int64)), (.long q1)])) _
    refine XS.iloadN X0.here hx rfl (hb hby d5_4) rfl ?_
    show Steps p.tables e below (s₁.setTop (mkF m 5 #[.val (.long q1), .second, .val (.int p2)] [(.int p2), (.long (9223372036854775807 : Int64)), (.long q1)])) _
    refine XS.i2l X0.here hx rfl (hb hby d5_5) rfl ?_
    show Steps p.tables e below (s₁.setTop (mkF m 6 #[.val (.long q1), .second, .val (.int p2)] [(.long (p2.toInt64)), (.long (9223372036854775807 : Int64)), (.long q1)])) _
    refine XS.ldiv X0.here hx rfl (hb hby d5_6) rfl hnz ?_
    show Steps p.tables e below (s₁.setTop (mkF m 7 #[.val (.long q1), .second, .val (.int p2)] [(.long ((9223372036854775807 : Int64) / (p2.toInt64))), (.long q1)])) _
    refine XS.lcmp X0.here hx rfl (hb hby d5_7) rfl ?_
    exact kq)
  by_cases hc8_6 : ((9223372036854775807 : Int64) / (p2.toInt64)) < q1
  · have go8 : Goes p e below s₁ (G_rmSpan m q1 p2) s₁ (mkF m 21 #[.val (.long q1), .second, .val (.int p2)] [(.long (9223372036854775807 : Int64))]) := fun tq kq => go5 tq (by
      show Steps p.tables e below (s₁.setTop (mkF m 8 #[.val (.long q1), .second, .val (.int p2)] [(.int (lcmpW q1 ((9223372036854775807 : Int64) / (p2.toInt64))))])) _
      refine XS.ifNo X0.here hx rfl (hb hby d5_8) rfl ((if0 _ _).trans (tlt (own_lcgt hc8_6)).2.2.2) ?_
      show Steps p.tables e below (s₁.setTop (mkF m 11 #[.val (.long q1), .second, .val (.int p2)] [])) _
      refine X0.ldc2Long hx hown (mvT hZ (tw33 hw)) (g := (mkF m 11 #[.val (.long q1), .second, .val (.int p2)] [])) rfl (hb hby d5_11) _ ?_
      show Steps p.tables e below (s₁.setTop (mkF m 14 #[.val (.long q1), .second, .val (.int p2)] [(.long (9223372036854775807 : Int64))])) _
      refine XS.goto X0.here hx rfl (pc0 := 14) (pc' := 21) rfl (hb hby d5_14) (by decide) (by decide) ?_
      exact kq)
    obtain ⟨fs, hr, hrun, hended, hW, hsame⟩ := X0.leave (v := some (.long (9223372036854775807 : Int64))) (fun h => by rw [Bd.returns] at h; cases h)
    refine ⟨_, _, go8 _ ?_, hrun, hended, _, _, rfl, ?_, ⟨_, rfl⟩, hW, hsame.mono (by decide) (by decide)⟩
    · jvm_step X0.here [X0.here.top, hx, (hb hby d5_21), X0.method', Bd.returns, narrow]
      first | (intro acts; rw [hr _ acts rfl rfl rfl]) | rw [hr _ _ rfl rfl rfl]
      exact Steps.refl _
    · show Q_rmSpan Z q1 p2 h0 n0 _ s₁.heap _
      rw [e0]
      exact ⟨congrArg (fun z => some (Value.long z)) (Eq.symm (show (spanv q1 p2) = (9223372036854775807 : Int64) from (if_pos hc8_6))), N0, rfl⟩
  · have go7 : Goes p e below s₁ (G_rmSpan m q1 p2) s₁ (mkF m 21 #[.val (.long q1), .second, .val (.int p2)] [(.long (q1 * (p2.toInt64)))]) := fun tq kq => go5 tq (by
      show Steps p.tables e below (s₁.setTop (mkF m 8 #[.val (.long q1), .second, .val (.int p2)] [(.int (lcmpW q1 ((9223372036854775807 : Int64) / (p2.toInt64))))])) _
      refine XS.ifYes X0.here hx rfl (pc0 := 8) (pc' := 17) rfl (hb hby d5_8) rfl ((if0 _ _).trans (flt (own_lcle hc8_6)).2.2.2) (by decide) (by decide) ?_
      show Steps p.tables e below (s₁.setTop (mkF m 17 #[.val (.long q1), .second, .val (.int p2)] [])) _
      refine XS.lloadN X0.here hx rfl (hb hby d5_17) rfl ?_
      show Steps p.tables e below (s₁.setTop (mkF m 18 #[.val (.long q1), .second, .val (.int p2)] [(.long q1)])) _
      refine XS.iloadN X0.here hx rfl (hb hby d5_18) rfl ?_
      show Steps p.tables e below (s₁.setTop (mkF m 19 #[.val (.long q1), .second, .val (.int p2)] [(.int p2), (.long q1)])) _
      refine XS.i2l X0.here hx rfl (hb hby d5_19) rfl ?_
      show Steps p.tables e below (s₁.setTop (mkF m 20 #[.val (.long q1), .second, .val (.int p2)] [(.long (p2.toInt64)), (.long q1)])) _
      refine XS.lmul X0.here hx rfl (hb hby d5_20) rfl ?_
      exact kq)
    obtain ⟨fs, hr, hrun, hended, hW, hsame⟩ := X0.leave (v := some (.long (q1 * (p2.toInt64)))) (fun h => by rw [Bd.returns] at h; cases h)
    refine ⟨_, _, go7 _ ?_, hrun, hended, _, _, rfl, ?_, ⟨_, rfl⟩, hW, hsame.mono (by decide) (by decide)⟩
    · jvm_step X0.here [X0.here.top, hx, (hb hby d5_21), X0.method', Bd.returns, narrow]
      first | (intro acts; rw [hr _ acts rfl rfl rfl]) | rw [hr _ _ rfl rfl rfl]
      exact Steps.refl _
    · show Q_rmSpan Z q1 p2 h0 n0 _ s₁.heap _
      rw [e0]
      exact ⟨congrArg (fun z => some (Value.long z)) (Eq.symm (show (spanv q1 p2) = (q1 * (p2.toInt64)) from (if_neg hc8_6))), N0, rfl⟩
abbrev G_rmBk (m : MethodId) (a1 : Addr) (a2 : Addr) : JFrame := (entryFrame m #[(.ref a1), (.ref a2)] 2)
theorem d9_0 : decode prog_1_method_1_code 0 = .ok (.aload_n 0, 1) := by decide +kernel
theorem d9_1 : decode prog_1_method_1_code 1 = .ok (.invokespecial 1, 3) := by decide +kernel
theorem d9_4 : decode prog_1_method_1_code 4 = .ok (.aload_n 0, 1) := by decide +kernel
theorem d9_5 : decode prog_1_method_1_code 5 = .ok (.aload_n 1, 1) := by decide +kernel
theorem d9_6 : decode prog_1_method_1_code 6 = .ok (.putfield 7, 3) := by decide +kernel
theorem d9_9 : decode prog_1_method_1_code 9 = .ok (.return_, 1) := by decide +kernel
def Q_rmBk (Z : State) (a1 : Addr) (a2 : Addr)  (h0 : Heap) (n0 : Nat) (v : Option Value) (h : Heap) (L : List Loc) : Prop := v = none ∧ Fr n0 L ∧ Keep h0 h [a1] ∧ Exa Z h a1 "com/example/cicada/cicada/Bucket" ∧ Fld Z h a1 "com/example/cicada/cicada/Bucket" "opensAt" "J" (.long (0 : Int64))
theorem pn_com_example_cicada_cicada_Bucket : plainName "com/example/cicada/cicada/Bucket" = true := by first | (simp [plainName, overriddenIn]; done) | decide +kernel
set_option maxRecDepth 65536 in
set_option maxHeartbeats 40000000 in
theorem rmBk (l : Launch) (Z : State) (a0 : Array Value) (hw : ∀ d ∈ tables_1, d.before a0 Z = true) (ws : List Jvm.Cond) (a1 : Addr) (a2 : Addr)  (h0 : Heap) (n0 : Nat) (Z0 : n0 ≤ h0.size) (g_a1 : n0 ≤ a1) (Ex : Exa Z h0 a1 "com/example/cicada/cicada/Bucket") (F1 : Fld Z h0 a1 "com/example/cicada/cicada/Bucket" "level" "Lcom/example/cicada/cicada/Level;" .null) (F2 : Fld Z h0 a1 "com/example/cicada/cicada/Bucket" "opensAt" "J" (.long (0 : Int64))) :
    MetFree l (⟨"com/example/cicada/cicada/Bucket", "<init>", "(Lcom/example/cicada/cicada/Level;)V"⟩ : MethodName) (head1 (Jvm.Cond.code (⟨"com/example/cicada/cicada/Bucket", "<init>", "(Lcom/example/cicada/cicada/Level;)V"⟩ : MethodName) prog_1_method_1_code 2 none :: ws) ({ frames := 1, cells := 0, slots := 0, locals := 12 } : Room)) (fun a U => a = #[(.ref a1), (.ref a2)] ∧ Z.Warmed39 U.vm ∧ U.heap = h0) (fun _ _ _ _ _ => True) (fun _ U o U' => ∃ v L, o = .returned v ∧ Q_rmBk Z a1 a2 h0 n0 v U'.heap L ∧ FrameEnd U o U' L ({ frames := 1, cells := 0, slots := 0, locals := 12 } : Room).cells ({ frames := 1, cells := 0, slots := 0, locals := 12 } : Room).slots) := by
  refine MetFree.of_bodySF (plainFor_of_name pn_com_example_cicada_cicada_Bucket) hisR ?_
  intro p e s m args below meth c s₁ Bd hml0 hP hK
  obtain ⟨rfl, hZ, hh⟩ := hP
  have hx := Bd.exec
  have hby := Bd.bytes
  have hml : c.maxLocals = 2 := hml0
  have hown : s.vm.findClass "com/example/cicada/cicada/Bucket" = some m.cls := findClass_of_methodNamed Bd.named
  have hnm := (name_of_methodNamed Bd.named Bd.method).1
  have X0 : Stand p l e ({ frames := 1, cells := 0, slots := 0, locals := 12 } : Room) s m #[(.ref a1), (.ref a2)] below meth c s₁ [] 0 0 := Stand.of_body Bd
  have e0 : s₁.heap = h0 := by rw [← hh, Bd.state]; rfl
  have N0 := Fr.nil n0
  have KP0 : Keep h0 h0 [a1] := Keep.refl h0 [a1]
  have go0 : Goes p e below s₁ (G_rmBk m a1 a2) s₁ (mkF m 0 #[.val (.ref a1), .val (.ref a2)] []) := fun tq kq => castTop (by first | (simp [entryFrame, mkF, argsToLocals, Value.category, G_rmBk]; done) | rfl) kq
  have go9 : Goes p e below s₁ (G_rmBk m a1 a2) s₁ (mkF m 1 #[.val (.ref a1), .val (.ref a2)] [(.ref a1)]) := fun tq kq => go0 tq (by
    show Steps p.tables e below (s₁.setTop (mkF m 0 #[.val (.ref a1), .val (.ref a2)] [])) _
    refine XS.aloadN X0.here hx rfl (hb hby d9_0) rfl rfl ?_
    exact kq)
  obtain ⟨T10, X10, e10, st10⟩ := initO X0 hx hZ hown (tw63 hw) (tw16 hw) (tw17 hw) e0 (g := (mkF m 1 #[.val (.ref a1), .val (.ref a2)] [(.ref a1)])) rfl (by rw [hml]; rfl) rfl (hb hby d9_1) (by decide) (W := 0) (by show 2 * 0 + _ ≤ _; exact Nat.le_of_eq rfl) (by decide)
  have go10 : Goes p e below s₁ (G_rmBk m a1 a2) T10 (mkF m 4 #[.val (.ref a1), .val (.ref a2)] []) := fun tq kq => go9 tq (st10 _ kq)
  have go11 : Goes p e below s₁ (G_rmBk m a1 a2) T10 (mkF m 6 #[.val (.ref a1), .val (.ref a2)] [(.ref a2), (.ref a1)]) := fun tq kq => go10 tq (by
    show Steps p.tables e below (T10.setTop (mkF m 4 #[.val (.ref a1), .val (.ref a2)] [])) _
    refine XS.aloadN X10.here hx rfl (hb hby d9_4) rfl rfl ?_
    show Steps p.tables e below (T10.setTop (mkF m 5 #[.val (.ref a1), .val (.ref a2)] [(.ref a1)])) _
    refine XS.aloadN X10.here hx rfl (hb hby d9_5) rfl rfl ?_
    exact kq)
  obtain ⟨T12, h12, X12, e12, W12, st12⟩ := putF X10 hx hZ hown (host := "") (Or.inl (tw64 hw)) Via.refl e10 F1 Ex (Or.inr ⟨(tw65 hw), rfl, hnm⟩) (tw58 hw) (ty := (.object "com/example/cicada/cicada/Level")) (by decide) rfl rfl (g := (mkF m 6 #[.val (.ref a1), .val (.ref a2)] [(.ref a2), (.ref a1)])) rfl rfl (hb hby d9_6)
  have N12 := Fr.snoc X12 N0 g_a1
  have KP12 : Keep h0 h12 [a1] := KP0.wr W12 (Or.inl (List.mem_of_getElem? (i := 0) rfl))
  have ZS12 : n0 ≤ h12.size := Nat.le_trans Z0 (Keep.of_wr W12).1
  have F12 := Fld.same W12 F1
  have go12 : Goes p e below s₁ (G_rmBk m a1 a2) T12 (mkF m 9 #[.val (.ref a1), .val (.ref a2)] []) := fun tq kq => go11 tq (st12 _ kq)
  have f13 := (Fld.other W12 F2 (Or.inr (slot_ne (Or.inl (tw73 hw)) (Or.inr (tw65 hw)) (by decide) (t := .long) (t' := (.object "com/example/cicada/cicada/Level")) (by decide) (by decide))))
  obtain ⟨fs, hr, hrun, hended, hW, hsame⟩ := X12.leave (v := none) (fun _ => rfl)
  refine ⟨_, _, go12 _ ?_, hrun, hended, _, _, rfl, ?_, ⟨_, rfl⟩, hW, hsame.mono (by decide) (by decide)⟩
  · exact X12.returnOut hx Bd.returns (hb hby d9_9) hr
  · show Q_rmBk Z a1 a2 h0 n0 _ T12.heap _
    rw [e12]
    exact ⟨rfl, N12, KP12, (Exa.wr W12 Ex), f13⟩
abbrev G_rmLam (m : MethodId) (a1 : Addr) (p2 : Int32) : JFrame := (entryFrame m #[(.ref a1), (.int p2)] 2)
theorem d8_0 : decode prog_5_method_15_code 0 = .ok (.new 38, 3) := by decide +kernel
theorem d8_3 : decode prog_5_method_15_code 3 = .ok (.dup, 1) := by decide +kernel
theorem d8_4 : decode prog_5_method_15_code 4 = .ok (.aload_n 0, 1) := by decide +kernel
theorem d8_5 : decode prog_5_method_15_code 5 = .ok (.invokespecial 84, 3) := by decide +kernel
theorem pd_0 : parseMethodDescriptor "(Lcom/example/cicada/cicada/Level;)V" = some ⟨[(.object "com/example/cicada/cicada/Level")], none⟩ := by decide +kernel
theorem d8_8 : decode prog_5_method_15_code 8 = .ok (.areturn, 1) := by decide +kernel
def Q_rmLam (Z : State) (a1 : Addr) (p2 : Int32)  (h0 : Heap) (n0 : Nat) (v : Option Value) (h : Heap) (L : List Loc) : Prop := ∃ b : Addr, v = some (.ref b) ∧ Fr n0 L ∧ Keep h0 h [] ∧ h0.size ≤ b ∧ Exa Z h b "com/example/cicada/cicada/Bucket" ∧ Fld Z h b "com/example/cicada/cicada/Bucket" "opensAt" "J" (.long (0 : Int64))
theorem pn_com_example_cicada_cicada_Level : plainName "com/example/cicada/cicada/Level" = true := by first | (simp [plainName, overriddenIn]; done) | decide +kernel
set_option maxRecDepth 65536 in
set_option maxHeartbeats 40000000 in
theorem rmLam (l : Launch) (Z : State) (a0 : Array Value) (hw : ∀ d ∈ tables_1, d.before a0 Z = true) (ws : List Jvm.Cond) (a1 : Addr) (p2 : Int32)  (h0 : Heap) (n0 : Nat) (Z0 : n0 ≤ h0.size)  :
    MetFree l (⟨"com/example/cicada/cicada/Level", "lambda$new$0", "(I)Lcom/example/cicada/cicada/Bucket;"⟩ : MethodName) (head1 (Jvm.Cond.code (⟨"com/example/cicada/cicada/Level", "lambda$new$0", "(I)Lcom/example/cicada/cicada/Bucket;"⟩ : MethodName) prog_5_method_15_code 2 (some (.object "com/example/cicada/cicada/Bucket")) :: ws) ({ frames := 2, cells := 1, slots := 6, locals := 26 } : Room)) (fun a U => a = #[(.ref a1), (.int p2)] ∧ Z.Warmed39 U.vm ∧ U.heap = h0) (fun _ _ _ _ _ => True) (fun _ U o U' => ∃ v L, o = .returned v ∧ Q_rmLam Z a1 p2 h0 n0 v U'.heap L ∧ FrameEnd U o U' L ({ frames := 2, cells := 1, slots := 6, locals := 26 } : Room).cells ({ frames := 2, cells := 1, slots := 6, locals := 26 } : Room).slots) := by
  refine MetFree.of_bodySF (plainFor_of_name pn_com_example_cicada_cicada_Level) hisR ?_
  intro p e s m args below meth c s₁ Bd hml0 hP hK
  obtain ⟨rfl, hZ, hh⟩ := hP
  have hx := Bd.exec
  have hby := Bd.bytes
  have hml : c.maxLocals = 2 := hml0
  have hown : s.vm.findClass "com/example/cicada/cicada/Level" = some m.cls := findClass_of_methodNamed Bd.named
  have hnm := (name_of_methodNamed Bd.named Bd.method).1
  have X0 : Stand p l e ({ frames := 2, cells := 1, slots := 6, locals := 26 } : Room) s m #[(.ref a1), (.int p2)] below meth c s₁ [] 0 0 := Stand.of_body Bd
  have e0 : s₁.heap = h0 := by rw [← hh, Bd.state]; rfl
  have N0 := Fr.nil n0
  have KP0 : Keep h0 h0 [] := Keep.refl h0 []
  have go0 : Goes p e below s₁ (G_rmLam m a1 p2) s₁ (mkF m 0 #[.val (.ref a1), .val (.int p2)] []) := fun tq kq => castTop (by first | (simp [entryFrame, mkF, argsToLocals, Value.category, G_rmLam]; done) | rfl) kq
  obtain ⟨T14, h14, X14, e14, E14, A14, D14, -, st14⟩ := newO X0 hx hZ hown (tw36 hw) (tw58 hw) (tw59 hw) e0 (g := (mkF m 0 #[.val (.ref a1), .val (.int p2)] [])) rfl (hb hby d8_0) (by decide) (by decide)
  obtain ⟨b14, g14⟩ : ∃ z, z = h0.size := ⟨_, rfl⟩
  rw [← g14] at A14 D14 st14
  have g_b14 : n0 ≤ b14 := Nat.le_trans Z0 (Nat.le_of_eq g14.symm)
  have sz_b14 : h0.size ≤ b14 := Nat.le_trans KP0.1 (Nat.le_of_eq g14.symm)
  have KP14 : Keep h0 h14 [] := KP0.ext E14
  have ZS14 : n0 ≤ h14.size := Nat.le_trans Z0 E14.1
  have F14_level : Fld Z h14 b14 "com/example/cicada/cicada/Bucket" "level" "Lcom/example/cicada/cicada/Level;" .null := D14 (Or.inr (tw65 hw)) (ty := (.object "com/example/cicada/cicada/Level")) (by decide)
  have F14_opensAt : Fld Z h14 b14 "com/example/cicada/cicada/Bucket" "opensAt" "J" (.long (0 : Int64)) := D14 (Or.inl (tw73 hw)) (ty := .long) (by decide)
  have go14 : Goes p e below s₁ (G_rmLam m a1 p2) T14 (mkF m 3 #[.val (.ref a1), .val (.int p2)] [(.ref b14)]) := fun tq kq => go0 tq (st14 _ kq)
  have go15 : Goes p e below s₁ (G_rmLam m a1 p2) T14 (mkF m 5 #[.val (.ref a1), .val (.int p2)] [(.ref a1), (.ref b14), (.ref b14)]) := fun tq kq => go14 tq (by
    show Steps p.tables e below (T14.setTop (mkF m 3 #[.val (.ref a1), .val (.int p2)] [(.ref b14)])) _
    refine XS.dup X14.here hx rfl (hb hby d8_3) rfl rfl ?_
    show Steps p.tables e below (T14.setTop (mkF m 4 #[.val (.ref a1), .val (.int p2)] [(.ref b14), (.ref b14)])) _
    refine XS.aloadN X14.here hx rfl (hb hby d8_4) rfl rfl ?_
    exact kq)
  obtain ⟨vv16, _, ⟨T16, L16, k16, n16⟩, -, X16, ⟨Lc16, hQ16, l16, y16, z16⟩, st16⟩ := X14.specialBack hx (y := (⟨"com/example/cicada/cicada/Bucket", "<init>", "(Lcom/example/cicada/cicada/Level;)V"⟩ : MethodName)) rfl hown (mvT hZ (tw60 hw)) (mvT hZ (tw61 hw)) (mvT hZ (tw62 hw)) (by decide) (backOf (W := 1) (rmBk l Z a0 hw [] b14 a1  h14 n0 ZS14 g_b14 A14 F14_level F14_opensAt) hZ (tw62 hw) (tw59 hw) (by decide) (by decide)) (g := (mkF m 5 #[.val (.ref a1), .val (.int p2)] [(.ref a1), (.ref b14), (.ref b14)])) rfl (by rw [hml]; rfl) (Steps.refl _) (a := b14) (argsL := [(.ref a1)]) (rest := [(.ref b14)]) (lenOf pd_0 rfl) rfl (by show 2 * 0 + _ ≤ _; exact Nat.le_of_eq rfl) (hb hby d8_5) (fun _ _ => ⟨rfl, e14, (by decide : 1 + 0 ≤ _), (by decide : 6 + 0 ≤ _)⟩)
  dsimp only [Pt.U, Pt.locs, Pt.cells, Pt.slots] at X16 l16 y16 z16 st16 hQ16
  subst l16 y16 z16
  obtain ⟨rfl, Nq16, K16, A16, F16⟩ := hQ16
  have N16 := Fr.app N0 Nq16
  have ZS16 : n0 ≤ T16.heap.size := Nat.le_trans ZS14 K16.1
  have KP16 : Keep h0 T16.heap [] := KP14.trans K16 (allS (Or.inr sz_b14) all0)
  have go16 : Goes p e below s₁ (G_rmLam m a1 p2) T16 (mkF m 8 #[.val (.ref a1), .val (.int p2)] [(.ref b14)]) := fun tq kq => go15 tq (st16.trans kq)
  obtain ⟨fs, hr, hrun, hended, hW, hsame⟩ := X16.leave (v := some (.ref b14)) (fun h => by rw [Bd.returns] at h; cases h)
  refine ⟨_, _, go16 _ ?_, hrun, hended, _, _, rfl, ?_, ⟨_, rfl⟩, hW, hsame.mono (by decide) (by decide)⟩
  · jvm_step X16.here [X16.here.top, hx, (hb hby d8_8), X16.method', Bd.returns, Value.isRef, FieldType.isReference]
    first | (intro acts; rw [hr _ acts rfl rfl rfl]) | rw [hr _ _ rfl rfl rfl]
    exact Steps.refl _
  · show Q_rmLam Z a1 p2 h0 n0 _ T16.heap _
    exact ⟨b14, rfl, N16, KP16, sz_b14, A16, F16⟩
abbrev G_rmNN (m : MethodId) (a1 : Addr) : JFrame := (entryFrame m #[(.ref a1)] 1)
theorem d7_0 : decode jdk_31_method_10_code 0 = .ok (.aload_n 0, 1) := by decide +kernel
theorem d7_1 : decode jdk_31_method_10_code 1 = .ok (.ifnonnull 11, 3) := by decide +kernel
theorem d7_12 : decode jdk_31_method_10_code 12 = .ok (.aload_n 0, 1) := by decide +kernel
theorem d7_13 : decode jdk_31_method_10_code 13 = .ok (.areturn, 1) := by decide +kernel
def Q_rmNN (Z : State) (a1 : Addr)  (h0 : Heap) (n0 : Nat) (v : Option Value) (h : Heap) (L : List Loc) : Prop := v = some (.ref a1) ∧ Fr n0 L ∧ h = h0
theorem pn_java_util_Objects : plainName "java/util/Objects" = true := by first | (simp [plainName, overriddenIn]; done) | decide +kernel
set_option maxRecDepth 65536 in
set_option maxHeartbeats 40000000 in
theorem rmNN (l : Launch) (Z : State) (a0 : Array Value) (hw : ∀ d ∈ tables_1, d.before a0 Z = true) (ws : List Jvm.Cond) (a1 : Addr)  (h0 : Heap) (n0 : Nat) (Z0 : n0 ≤ h0.size)  :
    MetFree l (⟨"java/util/Objects", "requireNonNull", "(Ljava/lang/Object;)Ljava/lang/Object;"⟩ : MethodName) (head1 (Jvm.Cond.code (⟨"java/util/Objects", "requireNonNull", "(Ljava/lang/Object;)Ljava/lang/Object;"⟩ : MethodName) jdk_31_method_10_code 1 (some (.object "java/lang/Object")) :: ws) ({ frames := 0, cells := 0, slots := 0, locals := 0 } : Room)) (fun a U => a = #[(.ref a1)] ∧ Z.Warmed39 U.vm ∧ U.heap = h0) (fun _ _ _ _ _ => True) (fun _ U o U' => ∃ v L, o = .returned v ∧ Q_rmNN Z a1 h0 n0 v U'.heap L ∧ FrameEnd U o U' L ({ frames := 0, cells := 0, slots := 0, locals := 0 } : Room).cells ({ frames := 0, cells := 0, slots := 0, locals := 0 } : Room).slots) := by
  refine MetFree.of_bodySF (plainFor_of_name pn_java_util_Objects) hisR ?_
  intro p e s m args below meth c s₁ Bd hml0 hP hK
  obtain ⟨rfl, hZ, hh⟩ := hP
  have hx := Bd.exec
  have hby := Bd.bytes
  have hml : c.maxLocals = 1 := hml0
  have hown : s.vm.findClass "java/util/Objects" = some m.cls := findClass_of_methodNamed Bd.named
  have hnm := (name_of_methodNamed Bd.named Bd.method).1
  have X0 : Stand p l e ({ frames := 0, cells := 0, slots := 0, locals := 0 } : Room) s m #[(.ref a1)] below meth c s₁ [] 0 0 := Stand.of_body Bd
  have e0 : s₁.heap = h0 := by rw [← hh, Bd.state]; rfl
  have N0 := Fr.nil n0
  have go0 : Goes p e below s₁ (G_rmNN m a1) s₁ (mkF m 0 #[.val (.ref a1)] []) := fun tq kq => castTop (by first | (simp [entryFrame, mkF, argsToLocals, Value.category, G_rmNN]; done) | rfl) kq
  have go17 : Goes p e below s₁ (G_rmNN m a1) s₁ (mkF m 1 #[.val (.ref a1)] [(.ref a1)]) := fun tq kq => go0 tq (by
    show Steps p.tables e below (s₁.setTop (mkF m 0 #[.val (.ref a1)] [])) _
    refine XS.aloadN X0.here hx rfl (hb hby d7_0) rfl rfl ?_
    exact kq)
  have go18 : Goes p e below s₁ (G_rmNN m a1) s₁ (mkF m 13 #[.val (.ref a1)] [(.ref a1)]) := fun tq kq => go17 tq (by
    show Steps p.tables e below (s₁.setTop (mkF m 1 #[.val (.ref a1)] [(.ref a1)])) _
    refine XS.ifnonnullYes X0.here hx rfl (pc0 := 1) (pc' := 12) rfl (hb hby d7_1) rfl (by decide) (by decide) ?_
    show Steps p.tables e below (s₁.setTop (mkF m 12 #[.val (.ref a1)] [])) _
    refine XS.aloadN X0.here hx rfl (hb hby d7_12) rfl rfl ?_
    exact kq)
  obtain ⟨fs, hr, hrun, hended, hW, hsame⟩ := X0.leave (v := some (.ref a1)) (fun h => by rw [Bd.returns] at h; cases h)
  refine ⟨_, _, go18 _ ?_, hrun, hended, _, _, rfl, ?_, ⟨_, rfl⟩, hW, hsame.mono (by decide) (by decide)⟩
  · jvm_step X0.here [X0.here.top, hx, (hb hby d7_13), X0.method', Bd.returns, Value.isRef, FieldType.isReference]
    first | (intro acts; rw [hr _ acts rfl rfl rfl]) | rw [hr _ _ rfl rfl rfl]
    exact Steps.refl _
  · show Q_rmNN Z a1 h0 n0 _ s₁.heap _
    rw [e0]
    exact ⟨rfl, N0, rfl⟩
theorem d6_7 : decode jdk_65_method_173_code 7 = .ok (.iload_n 2, 1) := by decide +kernel
theorem d6_8 : decode jdk_65_method_173_code 8 = .ok (.aload_n 0, 1) := by decide +kernel
theorem d6_9 : decode jdk_65_method_173_code 9 = .ok (.arraylength, 1) := by decide +kernel
theorem d6_10 : decode jdk_65_method_173_code 10 = .ok (.if_icmp .ge 19, 3) := by decide +kernel
theorem d6_13 : decode jdk_65_method_173_code 13 = .ok (.aload_n 0, 1) := by decide +kernel
theorem d6_14 : decode jdk_65_method_173_code 14 = .ok (.iload_n 2, 1) := by decide +kernel
theorem d6_15 : decode jdk_65_method_173_code 15 = .ok (.aload_n 1, 1) := by decide +kernel
theorem d6_16 : decode jdk_65_method_173_code 16 = .ok (.iload_n 2, 1) := by decide +kernel
theorem d6_17 : decode jdk_65_method_173_code 17 = .ok (.invokeinterface 558 2, 5) := by decide +kernel
theorem pd_1 : parseMethodDescriptor "(I)Ljava/lang/Object;" = some ⟨[.int], some (.object "java/lang/Object")⟩ := by decide +kernel
theorem d6_22 : decode jdk_65_method_173_code 22 = .ok (.aastore, 1) := by decide +kernel
theorem d6_23 : decode jdk_65_method_173_code 23 = .ok (.iinc 2 1, 3) := by decide +kernel
theorem d6_26 : decode jdk_65_method_173_code 26 = .ok (.goto (-19), 3) := by decide +kernel
set_option maxRecDepth 65536 in
set_option maxHeartbeats 40000000 in
theorem tnSA {p : Program} {l : Launch} {e : Env} {R : Room} {s : State} {m : MethodId} {args : Array Value} {below : List Frame} {meth : Method} {c : Code} {T0 : State} {locs : List Loc} {cells slots : Nat} {Z : State} {a0 : Array Value} (o0 o1 lv : Addr) (kB cK : ClassId) (n i : Nat) (vs : List Value) (cell : Cell)
    (X0 : Stand p l e R s m args below meth c T0 locs cells slots) (hx : p.tables.exec = Jvm.exec) (hH : Z.WarmedH s.vm) (hw : ∀ d ∈ tables_1, d.before a0 Z = true) (hby : c.code = jdk_65_method_173_code) (hml : c.maxLocals = 3) (hown : s.vm.findClass "java/util/Arrays" = some m.cls) (h0 : Heap) (n0 : Nat) (e0 : T0.heap = h0) (Z0 : n0 ≤ h0.size) (N0 : Fr n0 locs) (hn2 : n ≤ 16) (hmd : Jvm.LamKit.Made Z LV sig0 cK) (Ov : Ovr Z kB "com/example/cicada/cicada/Bucket") (hcell : h0[o1]? = some cell) (hcc : cell.cls = cK) (hcv : cell.vm = .none) (hsl : cell.slots[0]? = some (.ref lv)) (El : Exa Z h0 lv "com/example/cicada/cicada/Level") (g_o0 : n0 ≤ o0) (hvl : vs.length = n) (V0 : Arv Z h0 o0 kB (.object "com/example/cicada/cicada/Bucket") (Int32.ofNat n) vs .null) (hAll : AllB Z h0 n0 i vs) (hne : o1 ≠ o0) (hin : i < n) (hR1 : cells + 1 ≤ R.cells) (hR2 : slots + 6 ≤ R.slots) (hR3 : 4 ≤ R.frames) (hR4 : 54 ≤ R.locals) :
    ∃ (T' : State) (h' : Heap) (locs' : List Loc) (vs' : List Value), Stand p l e R s m args below meth c T' locs' (cells + 1) (slots + 6) ∧ T'.heap = h' ∧ Fr n0 locs' ∧ Keep h0 h' [o0] ∧ Arv Z h' o0 kB (.object "com/example/cicada/cicada/Bucket") (Int32.ofNat n) vs' .null ∧ vs'.length = n ∧ AllB Z h' n0 (i + 1) vs' ∧ Goes p e below T0 (mkF m 7 #[.val (.ref o0), .val (.ref o1), .val (.int (Int32.ofNat i))] []) T' (mkF m 7 #[.val (.ref o0), .val (.ref o1), .val (.int (Int32.ofNat (i + 1)))] []) := by
  have hZ := hH.wide
  have go0 : Goes p e below T0 (mkF m 7 #[.val (.ref o0), .val (.ref o1), .val (.int (Int32.ofNat i))] []) T0 (mkF m 7 #[.val (.ref o0), .val (.ref o1), .val (.int (Int32.ofNat i))] []) := fun tq kq => kq
  have go19 : Goes p e below T0 (mkF m 7 #[.val (.ref o0), .val (.ref o1), .val (.int (Int32.ofNat i))] []) T0 (mkF m 9 #[.val (.ref o0), .val (.ref o1), .val (.int (Int32.ofNat i))] [(.ref o0), (.int (Int32.ofNat i))]) := fun tq kq => go0 tq (by
    show Steps p.tables e below (T0.setTop (mkF m 7 #[.val (.ref o0), .val (.ref o1), .val (.int (Int32.ofNat i))] [])) _
    refine XS.iloadN X0.here hx rfl (hb hby d6_7) rfl ?_
    show Steps p.tables e below (T0.setTop (mkF m 8 #[.val (.ref o0), .val (.ref o1), .val (.int (Int32.ofNat i))] [(.int (Int32.ofNat i))])) _
    refine XS.aloadN X0.here hx rfl (hb hby d6_8) rfl rfl ?_
    exact kq)
  obtain ⟨cl20, Ar20, q20, S20, N_20, H20, G20⟩ := id (V0)
  have go21 : Goes p e below T0 (mkF m 7 #[.val (.ref o0), .val (.ref o1), .val (.int (Int32.ofNat i))] []) T0 (mkF m 10 #[.val (.ref o0), .val (.ref o1), .val (.int (Int32.ofNat i))] [(.int (Int32.ofNat n)), (.int (Int32.ofNat i))]) := fun tq kq => go19 tq (by
    show Steps p.tables e below (T0.setTop (mkF m 9 #[.val (.ref o0), .val (.ref o1), .val (.int (Int32.ofNat i))] [(.ref o0), (.int (Int32.ofNat i))])) _
    refine X0.arraylength hx (by rw [e0]; exact Ar20.1) (State.isArrayOf_alike hZ.alike Ar20.2.1) (g := (mkF m 9 #[.val (.ref o0), .val (.ref o1), .val (.int (Int32.ofNat i))] [(.ref o0), (.int (Int32.ofNat i))])) rfl rfl (hb hby d6_9) _ ?_
    rw [len_of S20 N_20]
    exact kq)
  have go22 : Goes p e below T0 (mkF m 7 #[.val (.ref o0), .val (.ref o1), .val (.int (Int32.ofNat i))] []) T0 (mkF m 17 #[.val (.ref o0), .val (.ref o1), .val (.int (Int32.ofNat i))] [(.int (Int32.ofNat i)), (.ref o1), (.int (Int32.ofNat i)), (.ref o0)]) := fun tq kq => go21 tq (by
    show Steps p.tables e below (T0.setTop (mkF m 10 #[.val (.ref o0), .val (.ref o1), .val (.int (Int32.ofNat i))] [(.int (Int32.ofNat n)), (.int (Int32.ofNat i))])) _
    refine XS.icmpNo X0.here hx rfl (hb hby d6_10) rfl (tlt (own_lt hin hn2)).2.1 ?_
    show Steps p.tables e below (T0.setTop (mkF m 13 #[.val (.ref o0), .val (.ref o1), .val (.int (Int32.ofNat i))] [])) _
    refine XS.aloadN X0.here hx rfl (hb hby d6_13) rfl rfl ?_
    show Steps p.tables e below (T0.setTop (mkF m 14 #[.val (.ref o0), .val (.ref o1), .val (.int (Int32.ofNat i))] [(.ref o0)])) _
    refine XS.iloadN X0.here hx rfl (hb hby d6_14) rfl ?_
    show Steps p.tables e below (T0.setTop (mkF m 15 #[.val (.ref o0), .val (.ref o1), .val (.int (Int32.ofNat i))] [(.int (Int32.ofNat i)), (.ref o0)])) _
    refine XS.aloadN X0.here hx rfl (hb hby d6_15) rfl rfl ?_
    show Steps p.tables e below (T0.setTop (mkF m 16 #[.val (.ref o0), .val (.ref o1), .val (.int (Int32.ofNat i))] [(.ref o1), (.int (Int32.ofNat i)), (.ref o0)])) _
    refine XS.iloadN X0.here hx rfl (hb hby d6_16) rfl ?_
    exact kq)
  obtain ⟨_, _, ⟨T23, L23, k23, n23⟩, -, X23, ⟨Lc23, hQ23, l23, y23, z23⟩, st23⟩ := X0.fnAt hx (xi := (⟨"java/util/function/IntFunction", "apply", "(I)Ljava/lang/Object;"⟩ : MethodName)) hown (fun d hd => by simp only [Jvm.Free.Fn.fnW, List.mem_cons, List.not_mem_nil, or_false] at hd; rcases hd with rfl | rfl | rfl; exact mvT hZ (tw52 hw); exact mvT hZ (tw53 hw); exact mvT hZ (tw54 hw)) (by decide) (Jvm.LamKit.madeSelects (args := args) (own_madeS hmd hH) own_fok (mvT hZ (tw54 hw)) ⟨rfl, rfl, by decide +kernel⟩) (own_fwd (W := 2) (Q := fun v h L => Q_rmLam Z lv (Int32.ofNat i) h0 n0 v h L) hx hH hmd hcell hcv hsl El (rmLam l Z a0 hw [] lv (Int32.ofNat i) h0 n0 Z0) (fun v h' L ⟨b, q, _⟩ => ⟨b, q⟩) (tw57 hw) (tw8 hw) (tw55 hw) (tw56 hw) (tw7 hw) (tw43 hw) (show 2 + 2 ≤ R.frames by omega) (show 2 + 13 + (2 + 11) + 26 ≤ R.locals by omega)) (fun _ _ => rfl) ⟨cell, by rw [e0]; exact hcell, hcc, by rw [hcv]; rfl⟩ (g := (mkF m 17 #[.val (.ref o0), .val (.ref o1), .val (.int (Int32.ofNat i))] [(.int (Int32.ofNat i)), (.ref o1), (.int (Int32.ofNat i)), (.ref o0)])) rfl (by rw [hml]; rfl) (Steps.refl _) (argsL := [(.int (Int32.ofNat i))]) (rest := [(.int (Int32.ofNat i)), (.ref o0)]) (lenOf pd_1 rfl) rfl (by show 2 * 0 + _ ≤ _; exact Nat.le_of_eq rfl) (hb hby d6_17) (fun _ _ => ⟨rfl, e0, (show cells + 1 ≤ R.cells by omega), (show slots + 6 ≤ R.slots by omega)⟩)
  dsimp only [Pt.U, Pt.locs, Pt.cells, Pt.slots] at X23 l23 y23 z23 st23 hQ23
  subst l23 y23 z23
  obtain ⟨nb, rfl, Nq, K0, snb, Enb, Fnb⟩ := hQ23
  have N23 := Fr.app N0 Nq
  have ZS23 : n0 ≤ T23.heap.size := Nat.le_trans Z0 K0.1
  have go23 : Goes p e below T0 (mkF m 7 #[.val (.ref o0), .val (.ref o1), .val (.int (Int32.ofNat i))] []) T23 (mkF m 22 #[.val (.ref o0), .val (.ref o1), .val (.int (Int32.ofNat i))] [(.ref nb), (.int (Int32.ofNat i)), (.ref o0)]) := fun tq kq => go22 tq (st23.trans kq)
  have hnb : nb ≠ o0 := Exa.neArv Enb ((V0.keep K0 nin0)) (tw58 hw)
  obtain ⟨cl24, Ar24, q24, S24, N_24, H24, G24⟩ := id ((V0.keep K0 nin0))
  have hin24 : ¬ ((Int32.ofNat i) < 0 ∨ cl24.slots.size ≤ ((Int32.ofNat i)).toNatClampNeg) := inb_of S24 ⟨own_nneg (by omega), own_lt hin hn2⟩
  obtain ⟨T25, h25, X25, e25, W25, st25⟩ := stR X23 hx hZ rfl Ar24 (j := (Int32.ofNat i)) hin24 rfl (Sto.ofV Ar24 q24 Ov (Ins.self Enb)) (g := (mkF m 22 #[.val (.ref o0), .val (.ref o1), .val (.int (Int32.ofNat i))] [(.ref nb), (.int (Int32.ofNat i)), (.ref o0)])) rfl rfl (hb hby d6_22)
  have N25 := Fr.snoc X25 N23 g_o0
  have ZS25 : n0 ≤ h25.size := Nat.le_trans ZS23 (Keep.of_wr W25).1
  have V25 : Arv Z h25 o0 kB (.object "com/example/cicada/cicada/Bucket") (Int32.ofNat n) (vs.set i (.ref nb)) .null := Arv.set Ar24 q24 S24 N_24 H24 G24 rfl W25 i (own_clamp (by omega)) (by rw [hvl]; exact hin)
  have go25 : Goes p e below T0 (mkF m 7 #[.val (.ref o0), .val (.ref o1), .val (.int (Int32.ofNat i))] []) T25 (mkF m 23 #[.val (.ref o0), .val (.ref o1), .val (.int (Int32.ofNat i))] []) := fun tq kq => go23 tq (st25 _ kq)
  have go26 : Goes p e below T0 (mkF m 7 #[.val (.ref o0), .val (.ref o1), .val (.int (Int32.ofNat i))] []) T25 (mkF m 7 #[.val (.ref o0), .val (.ref o1), .val (.int ((Int32.ofNat i) + (1 : Int32)))] []) := fun tq kq => go25 tq (by
    show Steps p.tables e below (T25.setTop (mkF m 23 #[.val (.ref o0), .val (.ref o1), .val (.int (Int32.ofNat i))] [])) _
    refine XS.iinc X25.here hx rfl (hb hby d6_23) rfl (l' := #[.val (.ref o0), .val (.ref o1), .val (.int ((Int32.ofNat i) + (1 : Int32)))]) rfl ?_
    show Steps p.tables e below (T25.setTop (mkF m 26 #[.val (.ref o0), .val (.ref o1), .val (.int ((Int32.ofNat i) + (1 : Int32)))] [])) _
    refine XS.goto X25.here hx rfl (pc0 := 26) (pc' := 7) rfl (hb hby d6_26) (by decide) (by decide) ?_
    exact kq)
  have hA1 : AllB Z T23.heap n0 i vs := fun j hj => (hAll j hj).keep K0 (fun _ _ => nin0)
  have hbA : ∀ b, Exa Z T23.heap b "com/example/cicada/cicada/Bucket" → b ≠ o0 := fun b E => Exa.neArv E (V0.keep K0 nin0) (tw58 hw)
  have hA2 : AllB Z h25 n0 i vs := fun j hj => (hA1 j hj).wr W25 hbA
  have hB2 : BkAt Z h25 n0 (.ref nb) := ⟨nb, _, rfl, Nat.le_trans Z0 snb, Exa.wr W25 Enb, Fld.other W25 Fnb (Or.inl hnb)⟩
  have hA3 : AllB Z h25 n0 (i + 1) (vs.set i (.ref nb)) := fun j hj => by
    by_cases q : j = i
    · rw [q, own_getset (by rw [hvl]; exact hin)]; exact hB2
    · exact (AllB.set hA2 hB2 (by rw [hvl]; exact hin)) j (by omega)
  have K3 : Keep h0 h25 [o0] := Keep.wr (show Keep h0 T23.heap [o0] from ⟨K0.1, fun x c q r => K0.2.1 x c q nin0, K0.2.2⟩) W25 (Or.inl (List.mem_of_getElem? (i := 0) rfl))
  refine ⟨T25, h25, _, (vs.set i (.ref nb)), X25, e25, N25, K3, V25, by rw [List.length_set]; exact hvl, hA3, ?_⟩
  rw [← own_inc]
  exact go26
set_option maxRecDepth 65536 in
set_option maxHeartbeats 4000000 in
theorem loopSA {p : Program} {l : Launch} {e : Env} {R : Room} {s : State} {m : MethodId} {args : Array Value} {below : List Frame} {meth : Method} {c : Code} {Z : State} {a0 : Array Value} (o0 o1 lv : Addr) (kB cK : ClassId) (n : Nat) (cell : Cell) (hx : p.tables.exec = Jvm.exec) (hH : Z.WarmedH s.vm) (hw : ∀ d ∈ tables_1, d.before a0 Z = true) (hby : c.code = jdk_65_method_173_code) (hml : c.maxLocals = 3) (hown : s.vm.findClass "java/util/Arrays" = some m.cls) (n0 : Nat) (hn2 : n ≤ 16) (hmd : Jvm.LamKit.Made Z LV sig0 cK) (Ov : Ovr Z kB "com/example/cicada/cicada/Bucket") (hcc : cell.cls = cK) (hcv : cell.vm = .none) (hsl : cell.slots[0]? = some (.ref lv)) (g_o0 : n0 ≤ o0) (hne : o1 ≠ o0) (hR3 : 4 ≤ R.frames) (hR4 : 54 ≤ R.locals) :
    ∀ (k i : Nat) (vs : List Value) (T0 : State) (h0 : Heap) (locs : List Loc) (cells slots : Nat), i + k = n → cells + 1 * k ≤ R.cells → slots + 6 * k ≤ R.slots → Stand p l e R s m args below meth c T0 locs cells slots → T0.heap = h0 → n0 ≤ h0.size → Fr n0 locs → h0[o1]? = some cell → Exa Z h0 lv "com/example/cicada/cicada/Level" → vs.length = n → Arv Z h0 o0 kB (.object "com/example/cicada/cicada/Bucket") (Int32.ofNat n) vs .null → AllB Z h0 n0 i vs →
      ∃ (T' : State) (h' : Heap) (locs' : List Loc) (vs' : List Value), Stand p l e R s m args below meth c T' locs' (cells + 1 * k) (slots + 6 * k) ∧ T'.heap = h' ∧ Fr n0 locs' ∧ Keep h0 h' [o0] ∧ Arv Z h' o0 kB (.object "com/example/cicada/cicada/Bucket") (Int32.ofNat n) vs' .null ∧ vs'.length = n ∧ AllB Z h' n0 n vs' ∧ Goes p e below T0 (mkF m 7 #[.val (.ref o0), .val (.ref o1), .val (.int (Int32.ofNat i))] []) T' (mkF m 7 #[.val (.ref o0), .val (.ref o1), .val (.int (Int32.ofNat n))] []) := by
  intro k
  induction k with
  | zero =>
    intro i vs T0 h0 locs cells slots hi hc hs X0 e0 Z0 N0 hcell El hvl V0 hAll
    have hi' : i = n := by omega
    subst hi'
    exact ⟨T0, h0, locs, vs, X0, e0, N0, Keep.refl _ _, V0, hvl, hAll, fun t k => k⟩
  | succ k ih =>
    intro i vs T0 h0 locs cells slots hi hc hs X0 e0 Z0 N0 hcell El hvl V0 hAll
    obtain ⟨T1, h1, locs1, vs1, X1, e1, N1, K1, V1, l1, A1, go1⟩ := tnSA o0 o1 lv kB cK n i vs cell X0 hx hH hw hby hml hown h0 n0 e0 Z0 N0 hn2 hmd Ov hcell hcc hcv hsl El g_o0 hvl V0 hAll hne (by omega) (by omega) (by omega) hR3 hR4
    obtain ⟨T2, h2, locs2, vs2, X2, e2, N2, K2, V2, l2, A2, go2⟩ := ih (i + 1) vs1 T1 h1 locs1 _ _ (by omega) (by omega) (by omega) X1 e1 (Nat.le_trans Z0 K1.1) N1 (K1.2.1 _ _ hcell (ninS hne nin0)) (El.keep K1) l1 V1 A1
    refine ⟨T2, h2, locs2, vs2, ?_, e2, N2, K1.trans K2 (allS (Or.inl (List.mem_of_getElem? (i := 0) rfl)) all0), V2, l2, A2, fun t k => go1 t (go2 t k)⟩
    have q1 : cells + 1 + 1 * k = cells + 1 * (k + 1) := by omega
    have q2 : slots + 6 + 6 * k = slots + 6 * (k + 1) := by omega
    rw [← q1, ← q2]; exact X2
abbrev G_rmSA (m : MethodId) (a1 : Addr) (a2 : Addr) : JFrame := (entryFrame m #[(.ref a1), (.ref a2)] 3)
theorem d6_0 : decode jdk_65_method_173_code 0 = .ok (.aload_n 1, 1) := by decide +kernel
theorem d6_1 : decode jdk_65_method_173_code 1 = .ok (.invokestatic 175, 3) := by decide +kernel
theorem pd_2 : parseMethodDescriptor "(Ljava/lang/Object;)Ljava/lang/Object;" = some ⟨[(.object "java/lang/Object")], some (.object "java/lang/Object")⟩ := by decide +kernel
theorem d6_4 : decode jdk_65_method_173_code 4 = .ok (.pop, 1) := by decide +kernel
theorem d6_5 : decode jdk_65_method_173_code 5 = .ok (.iconst 0, 1) := by decide +kernel
theorem d6_6 : decode jdk_65_method_173_code 6 = .ok (.istore_n 2, 1) := by decide +kernel
theorem d6_29 : decode jdk_65_method_173_code 29 = .ok (.return_, 1) := by decide +kernel
def Q_rmSA (Z : State) (a1 : Addr) (a2 : Addr) (lv : Addr) (kB cK : ClassId) (n : Nat) (cell : Cell) (h0 : Heap) (n0 : Nat) (v : Option Value) (h : Heap) (L : List Loc) : Prop := v = none ∧ Fr n0 L ∧ Keep h0 h [a1] ∧ ∃ vs : List Value, Arv Z h a1 kB (.object "com/example/cicada/cicada/Bucket") (Int32.ofNat n) vs .null ∧ vs.length = n ∧ AllB Z h n0 n vs
theorem pn_java_util_Arrays : plainName "java/util/Arrays" = true := by first | (simp [plainName, overriddenIn]; done) | decide +kernel
set_option maxRecDepth 65536 in
set_option maxHeartbeats 40000000 in
theorem rmSA (l : Launch) (Z : State) (a0 : Array Value) (hw : ∀ d ∈ tables_1, d.before a0 Z = true) (ws : List Jvm.Cond) (a1 : Addr) (a2 : Addr) (lv : Addr) (kB cK : ClassId) (n : Nat) (cell : Cell) (h0 : Heap) (n0 : Nat) (Z0 : n0 ≤ h0.size) (hn2 : n ≤ 16) (hmd : Jvm.LamKit.Made Z LV sig0 cK) (Ov : Ovr Z kB "com/example/cicada/cicada/Bucket") (hcell : h0[a2]? = some cell) (hcc : cell.cls = cK) (hcv : cell.vm = .none) (hsl : cell.slots[0]? = some (.ref lv)) (El : Exa Z h0 lv "com/example/cicada/cicada/Level") (g_a1 : n0 ≤ a1) (V0 : Arv Z h0 a1 kB (.object "com/example/cicada/cicada/Bucket") (Int32.ofNat n) (List.replicate n .null) .null) (hne : a2 ≠ a1) :
    MetFree l (⟨"java/util/Arrays", "setAll", "([Ljava/lang/Object;Ljava/util/function/IntFunction;)V"⟩ : MethodName) (head1 (Jvm.Cond.code (⟨"java/util/Arrays", "setAll", "([Ljava/lang/Object;Ljava/util/function/IntFunction;)V"⟩ : MethodName) jdk_65_method_173_code 3 none :: ws) ({ frames := 4, cells := 16, slots := 96, locals := 54 } : Room)) (fun a U => a = #[(.ref a1), (.ref a2)] ∧ Z.WarmedH U.vm ∧ U.heap = h0) (fun _ _ _ _ _ => True) (fun _ U o U' => ∃ v L, o = .returned v ∧ Q_rmSA Z a1 a2 lv kB cK n cell h0 n0 v U'.heap L ∧ FrameEnd U o U' L ({ frames := 4, cells := 16, slots := 96, locals := 54 } : Room).cells ({ frames := 4, cells := 16, slots := 96, locals := 54 } : Room).slots) := by
  refine MetFree.of_bodySF (plainFor_of_name pn_java_util_Arrays) hisR ?_
  intro p e s m args below meth c s₁ Bd hml0 hP hK
  obtain ⟨rfl, hH, hh⟩ := hP
  have hZ := hH.wide
  have hx := Bd.exec
  have hby := Bd.bytes
  have hml : c.maxLocals = 3 := hml0
  have hown : s.vm.findClass "java/util/Arrays" = some m.cls := findClass_of_methodNamed Bd.named
  have hnm := (name_of_methodNamed Bd.named Bd.method).1
  have X0 : Stand p l e ({ frames := 4, cells := 16, slots := 96, locals := 54 } : Room) s m #[(.ref a1), (.ref a2)] below meth c s₁ [] 0 0 := Stand.of_body Bd
  have e0 : s₁.heap = h0 := by rw [← hh, Bd.state]; rfl
  have N0 := Fr.nil n0
  have go0 : Goes p e below s₁ (G_rmSA m a1 a2) s₁ (mkF m 0 #[.val (.ref a1), .val (.ref a2), .unset] []) := fun tq kq => castTop (by first | (simp [entryFrame, mkF, argsToLocals, Value.category, G_rmSA]; done) | rfl) kq
  have go27 : Goes p e below s₁ (G_rmSA m a1 a2) s₁ (mkF m 1 #[.val (.ref a1), .val (.ref a2), .unset] [(.ref a2)]) := fun tq kq => go0 tq (by
    show Steps p.tables e below (s₁.setTop (mkF m 0 #[.val (.ref a1), .val (.ref a2), .unset] [])) _
    refine XS.aloadN X0.here hx rfl (hb hby d6_0) rfl rfl ?_
    exact kq)
  obtain ⟨vv28, _, ⟨T28, L28, k28, n28⟩, -, X28, ⟨Lc28, hQ28, l28, y28, z28⟩, st28⟩ := Jvm.LawKit.callS X0 hx (y := (⟨"java/util/Objects", "requireNonNull", "(Ljava/lang/Object;)Ljava/lang/Object;"⟩ : MethodName)) hown (mvT hZ (tw48 hw)) (mvT hZ (tw49 hw)) (mvT hZ (tw50 hw)) (mvT hZ (tw51 hw)) (by decide) (backOf (W := 0) (rmNN l Z a0 hw [] a2  h0 n0 Z0 ) hZ (tw51 hw) (tw50 hw) (by decide) (by decide)) (g := (mkF m 1 #[.val (.ref a1), .val (.ref a2), .unset] [(.ref a2)])) rfl (by rw [hml]; rfl) (argsL := [(.ref a2)]) (rest := []) (lenOf pd_2 rfl) rfl (by show 2 * 0 + _ ≤ _; exact Nat.le_of_eq rfl) (hb hby d6_1) (fun _ _ => ⟨rfl, e0, (by decide : 0 + 0 ≤ _), (by decide : 0 + 0 ≤ _)⟩)
  dsimp only [Pt.U, Pt.locs, Pt.cells, Pt.slots] at X28 l28 y28 z28 st28 hQ28
  subst l28 y28 z28
  obtain ⟨rfl, Nq28, eq28⟩ := hQ28
  have N28 := Fr.app N0 Nq28
  have go28 : Goes p e below s₁ (G_rmSA m a1 a2) T28 (mkF m 4 #[.val (.ref a1), .val (.ref a2), .unset] [(.ref a2)]) := fun tq kq => go27 tq (st28 _ kq)
  have go29 : Goes p e below s₁ (G_rmSA m a1 a2) T28 (mkF m 7 #[.val (.ref a1), .val (.ref a2), .val (.int (0 : Int32))] []) := fun tq kq => go28 tq (by
    show Steps p.tables e below (T28.setTop (mkF m 4 #[.val (.ref a1), .val (.ref a2), .unset] [(.ref a2)])) _
    refine XS.pop X28.here hx rfl (hb hby d6_4) rfl rfl ?_
    show Steps p.tables e below (T28.setTop (mkF m 5 #[.val (.ref a1), .val (.ref a2), .unset] [])) _
    refine XS.iconst X28.here hx rfl (hb hby d6_5) ?_
    show Steps p.tables e below (T28.setTop (mkF m 6 #[.val (.ref a1), .val (.ref a2), .unset] [(.int (0 : Int32))])) _
    refine XS.istoreN X28.here hx rfl (hb hby d6_6) rfl (l' := #[.val (.ref a1), .val (.ref a2), .val (.int (0 : Int32))]) rfl ?_
    exact kq)
  obtain ⟨TL, hL, locsL, vsL, XL, eL, NL, KL, VL, lL, AL, goL⟩ := loopSA a1 a2 lv kB cK n cell hx hH hw hby hml hown n0 (by omega) hmd Ov hcc hcv hsl g_a1 hne (by decide) (by decide) n 0 (List.replicate n .null) T28 h0 _ _ _ (by omega) (show 0 + 1 * n ≤ 16 by omega) (show 0 + 6 * n ≤ 96 by omega) X28 eq28 Z0 N28 hcell El (by simp) V0 (fun j hj => absurd hj (by omega))
  have goM : Goes p e below s₁ (G_rmSA m a1 a2) TL (mkF m 7 #[.val (.ref a1), .val (.ref a2), .val (.int (Int32.ofNat n))] []) := fun tq kq => go29 tq (goL tq kq)
  have go30 : Goes p e below s₁ (G_rmSA m a1 a2) TL (mkF m 9 #[.val (.ref a1), .val (.ref a2), .val (.int (Int32.ofNat n))] [(.ref a1), (.int (Int32.ofNat n))]) := fun tq kq => goM tq (by
    show Steps p.tables e below (TL.setTop (mkF m 7 #[.val (.ref a1), .val (.ref a2), .val (.int (Int32.ofNat n))] [])) _
    refine XS.iloadN XL.here hx rfl (hb hby d6_7) rfl ?_
    show Steps p.tables e below (TL.setTop (mkF m 8 #[.val (.ref a1), .val (.ref a2), .val (.int (Int32.ofNat n))] [(.int (Int32.ofNat n))])) _
    refine XS.aloadN XL.here hx rfl (hb hby d6_8) rfl rfl ?_
    exact kq)
  obtain ⟨cl31, Ar31, q31, S31, N_31, H31, G31⟩ := id (VL)
  have go32 : Goes p e below s₁ (G_rmSA m a1 a2) TL (mkF m 10 #[.val (.ref a1), .val (.ref a2), .val (.int (Int32.ofNat n))] [(.int (Int32.ofNat n)), (.int (Int32.ofNat n))]) := fun tq kq => go30 tq (by
    show Steps p.tables e below (TL.setTop (mkF m 9 #[.val (.ref a1), .val (.ref a2), .val (.int (Int32.ofNat n))] [(.ref a1), (.int (Int32.ofNat n))])) _
    refine XL.arraylength hx (by rw [eL]; exact Ar31.1) (State.isArrayOf_alike hZ.alike Ar31.2.1) (g := (mkF m 9 #[.val (.ref a1), .val (.ref a2), .val (.int (Int32.ofNat n))] [(.ref a1), (.int (Int32.ofNat n))])) rfl rfl (hb hby d6_9) _ ?_
    rw [len_of S31 N_31]
    exact kq)
  have go33 : Goes p e below s₁ (G_rmSA m a1 a2) TL (mkF m 29 #[.val (.ref a1), .val (.ref a2), .val (.int (Int32.ofNat n))] []) := fun tq kq => go32 tq (by
    show Steps p.tables e below (TL.setTop (mkF m 10 #[.val (.ref a1), .val (.ref a2), .val (.int (Int32.ofNat n))] [(.int (Int32.ofNat n)), (.int (Int32.ofNat n))])) _
    refine XS.icmpYes XL.here hx rfl (pc0 := 10) (pc' := 29) rfl (hb hby d6_10) rfl (flt Int32.lt_irrefl).2.1 (by decide) (by decide) ?_
    exact kq)
  obtain ⟨fs, hr, hrun, hended, hW, hsame⟩ := XL.leave (v := none) (fun _ => rfl)
  refine ⟨_, _, go33 _ ?_, hrun, hended, _, _, rfl, ?_, ⟨_, rfl⟩, hW, hsame.mono (show 0 + 1 * n ≤ 16 by omega) (show 0 + 6 * n ≤ 96 by omega)⟩
  · exact XL.returnOut hx Bd.returns (hb hby d6_29) hr
  · show Q_rmSA Z a1 a2 lv kB cK n cell h0 n0 _ TL.heap _
    rw [eL]
    exact ⟨rfl, NL, KL, vsL, VL, lL, AL⟩
theorem own_extpush (h : Heap) (x : Cell) : Ext h (h.push x) := ⟨by simp, fun a c q => by
  have hl := (Array.getElem?_eq_some_iff.mp q).1
  rw [Array.getElem?_push_lt hl]; exact (Array.getElem?_eq_getElem hl).symm.trans q⟩
abbrev G_rmI5 (m : MethodId) (a1 : Addr) (q2 : Int64) (q3 : Int64) (q4 : Int64) (q5 : Int64) (n : Nat) : JFrame := (entryFrame m #[(.ref a1), (.long q2), (.long q3), (.long q4), (.long q5), (.int (Int32.ofNat n))] 10)
theorem d3_0 : decode prog_5_method_3_code 0 = .ok (.aload_n 0, 1) := by decide +kernel
theorem d3_1 : decode prog_5_method_3_code 1 = .ok (.invokespecial 20, 3) := by decide +kernel
theorem d3_4 : decode prog_5_method_3_code 4 = .ok (.aload_n 0, 1) := by decide +kernel
theorem d3_5 : decode prog_5_method_3_code 5 = .ok (.ldc2_w 25, 3) := by decide +kernel
theorem d3_8 : decode prog_5_method_3_code 8 = .ok (.putfield 27, 3) := by decide +kernel
theorem d3_11 : decode prog_5_method_3_code 11 = .ok (.aload_n 0, 1) := by decide +kernel
theorem d3_12 : decode prog_5_method_3_code 12 = .ok (.lload_n 1, 1) := by decide +kernel
theorem d3_13 : decode prog_5_method_3_code 13 = .ok (.putfield 14, 3) := by decide +kernel
theorem d3_16 : decode prog_5_method_3_code 16 = .ok (.aload_n 0, 1) := by decide +kernel
theorem d3_17 : decode prog_5_method_3_code 17 = .ok (.lload_n 3, 1) := by decide +kernel
theorem d3_18 : decode prog_5_method_3_code 18 = .ok (.putfield 17, 3) := by decide +kernel
theorem d3_21 : decode prog_5_method_3_code 21 = .ok (.aload_n 0, 1) := by decide +kernel
theorem d3_22 : decode prog_5_method_3_code 22 = .ok (.lload 5, 2) := by decide +kernel
theorem d3_24 : decode prog_5_method_3_code 24 = .ok (.putfield 30, 3) := by decide +kernel
theorem d3_27 : decode prog_5_method_3_code 27 = .ok (.aload_n 0, 1) := by decide +kernel
theorem d3_28 : decode prog_5_method_3_code 28 = .ok (.lload 7, 2) := by decide +kernel
theorem d3_30 : decode prog_5_method_3_code 30 = .ok (.putfield 11, 3) := by decide +kernel
theorem d3_33 : decode prog_5_method_3_code 33 = .ok (.aload_n 0, 1) := by decide +kernel
theorem d3_34 : decode prog_5_method_3_code 34 = .ok (.lload_n 1, 1) := by decide +kernel
theorem d3_35 : decode prog_5_method_3_code 35 = .ok (.iload 9, 2) := by decide +kernel
theorem d3_37 : decode prog_5_method_3_code 37 = .ok (.invokestatic 33, 3) := by decide +kernel
theorem pd_3 : parseMethodDescriptor "(JI)J" = some ⟨[.long, .int], some .long⟩ := by decide +kernel
theorem d3_40 : decode prog_5_method_3_code 40 = .ok (.putfield 7, 3) := by decide +kernel
theorem d3_43 : decode prog_5_method_3_code 43 = .ok (.aload_n 0, 1) := by decide +kernel
theorem d3_44 : decode prog_5_method_3_code 44 = .ok (.iload 9, 2) := by decide +kernel
theorem d3_46 : decode prog_5_method_3_code 46 = .ok (.anewarray 38, 3) := by decide +kernel
theorem d3_49 : decode prog_5_method_3_code 49 = .ok (.putfield 40, 3) := by decide +kernel
theorem d3_52 : decode prog_5_method_3_code 52 = .ok (.aload_n 0, 1) := by decide +kernel
theorem d3_53 : decode prog_5_method_3_code 53 = .ok (.getfield 40, 3) := by decide +kernel
theorem d3_56 : decode prog_5_method_3_code 56 = .ok (.aload_n 0, 1) := by decide +kernel
theorem d3_57 : decode prog_5_method_3_code 57 = .ok (.invokedynamic 44, 5) := by decide +kernel
theorem d3_62 : decode prog_5_method_3_code 62 = .ok (.invokestatic 48, 3) := by decide +kernel
theorem pd_4 : parseMethodDescriptor "([Ljava/lang/Object;Ljava/util/function/IntFunction;)V" = some ⟨[(.array (.object "java/lang/Object")), (.object "java/util/function/IntFunction")], none⟩ := by decide +kernel
theorem d3_65 : decode prog_5_method_3_code 65 = .ok (.return_, 1) := by decide +kernel
def Q_rmI5 (Z : State) (a1 : Addr) (q2 : Int64) (q3 : Int64) (q4 : Int64) (q5 : Int64) (n : Nat) (h0 : Heap) (n0 : Nat) (v : Option Value) (h : Heap) (L : List Loc) : Prop := v = none ∧ Fr n0 L ∧ Keep h0 h [a1] ∧ Exa Z h a1 "com/example/cicada/cicada/Level" ∧ Fld Z h a1 "com/example/cicada/cicada/Level" "tick" "J" (.long q2) ∧ Fld Z h a1 "com/example/cicada/cicada/Level" "lead" "J" (.long q3) ∧ Fld Z h a1 "com/example/cicada/cicada/Level" "moveTime" "J" (.long q4) ∧ Fld Z h a1 "com/example/cicada/cicada/Level" "firstLead" "J" (.long q5) ∧ Fld Z h a1 "com/example/cicada/cicada/Level" "span" "J" (.long (spanv q2 (Int32.ofNat n))) ∧ Fld Z h a1 "com/example/cicada/cicada/Level" "spare" "Lcom/example/cicada/cicada/Bucket;" .null ∧ Fld Z h a1 "com/example/cicada/cicada/Level" "moving" "Lcom/example/cicada/cicada/Bucket;" .null ∧ ∃ (B : Addr) (kB : ClassId) (vs : List Value), h0.size ≤ B ∧ Fld Z h a1 "com/example/cicada/cicada/Level" "buckets" "[Lcom/example/cicada/cicada/Bucket;" (.ref B) ∧ Ovr Z kB "com/example/cicada/cicada/Bucket" ∧ Arv Z h B kB (.object "com/example/cicada/cicada/Bucket") (Int32.ofNat n) vs .null ∧ vs.length = n ∧ AllB Z h n0 n vs
set_option maxRecDepth 65536 in
set_option maxHeartbeats 40000000 in
theorem rmI5 (l : Launch) (Z : State) (a0 : Array Value) (hw : ∀ d ∈ tables_1, d.before a0 Z = true) (ws : List Jvm.Cond) (a1 : Addr) (q2 : Int64) (q3 : Int64) (q4 : Int64) (q5 : Int64) (n : Nat) (h0 : Heap) (n0 : Nat) (Z0 : n0 ≤ h0.size) (g_a1 : n0 ≤ a1) (Ex : Exa Z h0 a1 "com/example/cicada/cicada/Level") (F_seenFrom : Fld Z h0 a1 "com/example/cicada/cicada/Level" "seenFrom" "J" (.long (0 : Int64))) (F_tick : Fld Z h0 a1 "com/example/cicada/cicada/Level" "tick" "J" (.long (0 : Int64))) (F_lead : Fld Z h0 a1 "com/example/cicada/cicada/Level" "lead" "J" (.long (0 : Int64))) (F_moveTime : Fld Z h0 a1 "com/example/cicada/cicada/Level" "moveTime" "J" (.long (0 : Int64))) (F_firstLead : Fld Z h0 a1 "com/example/cicada/cicada/Level" "firstLead" "J" (.long (0 : Int64))) (F_span : Fld Z h0 a1 "com/example/cicada/cicada/Level" "span" "J" (.long (0 : Int64))) (F_buckets : Fld Z h0 a1 "com/example/cicada/cicada/Level" "buckets" "[Lcom/example/cicada/cicada/Bucket;" .null) (F_spare : Fld Z h0 a1 "com/example/cicada/cicada/Level" "spare" "Lcom/example/cicada/cicada/Bucket;" .null) (F_moving : Fld Z h0 a1 "com/example/cicada/cicada/Level" "moving" "Lcom/example/cicada/cicada/Bucket;" .null) (hn1 : 1 ≤ n) (hn2 : n ≤ 16) :
    MetFree l (⟨"com/example/cicada/cicada/Level", "<init>", "(JJJJI)V"⟩ : MethodName) (head1 (Jvm.Cond.code (⟨"com/example/cicada/cicada/Level", "<init>", "(JJJJI)V"⟩ : MethodName) prog_5_method_3_code 10 none :: ws) ({ frames := 5, cells := 18, slots := 113, locals := 3074 } : Room)) (fun a U => a = #[(.ref a1), (.long q2), (.long q3), (.long q4), (.long q5), (.int (Int32.ofNat n))] ∧ Z.WarmedH U.vm ∧ U.heap = h0) (fun _ _ _ _ _ => True) (fun _ U o U' => ∃ v L, o = .returned v ∧ Q_rmI5 Z a1 q2 q3 q4 q5 n h0 n0 v U'.heap L ∧ FrameEnd U o U' L ({ frames := 5, cells := 18, slots := 113, locals := 3074 } : Room).cells ({ frames := 5, cells := 18, slots := 113, locals := 3074 } : Room).slots) := by
  refine MetFree.of_bodySF (plainFor_of_name pn_com_example_cicada_cicada_Level) hisR ?_
  intro p e s m args below meth c s₁ Bd hml0 hP hK
  obtain ⟨rfl, hH, hh⟩ := hP
  have hZ := hH.wide
  have hx := Bd.exec
  have hby := Bd.bytes
  have hml : c.maxLocals = 10 := hml0
  have hown : s.vm.findClass "com/example/cicada/cicada/Level" = some m.cls := findClass_of_methodNamed Bd.named
  have hnm := (name_of_methodNamed Bd.named Bd.method).1
  have X0 : Stand p l e ({ frames := 5, cells := 18, slots := 113, locals := 3074 } : Room) s m #[(.ref a1), (.long q2), (.long q3), (.long q4), (.long q5), (.int (Int32.ofNat n))] below meth c s₁ [] 0 0 := Stand.of_body Bd
  have e0 : s₁.heap = h0 := by rw [← hh, Bd.state]; rfl
  have N0 := Fr.nil n0
  have KP0 : Keep h0 h0 [a1] := Keep.refl h0 [a1]
  have go0 : Goes p e below s₁ (G_rmI5 m a1 q2 q3 q4 q5 n) s₁ (mkF m 0 #[.val (.ref a1), .val (.long q2), .second, .val (.long q3), .second, .val (.long q4), .second, .val (.long q5), .second, .val (.int (Int32.ofNat n))] []) := fun tq kq => castTop (by first | (simp [entryFrame, mkF, argsToLocals, Value.category, G_rmI5]; done) | rfl) kq
  have go34 : Goes p e below s₁ (G_rmI5 m a1 q2 q3 q4 q5 n) s₁ (mkF m 1 #[.val (.ref a1), .val (.long q2), .second, .val (.long q3), .second, .val (.long q4), .second, .val (.long q5), .second, .val (.int (Int32.ofNat n))] [(.ref a1)]) := fun tq kq => go0 tq (by
    show Steps p.tables e below (s₁.setTop (mkF m 0 #[.val (.ref a1), .val (.long q2), .second, .val (.long q3), .second, .val (.long q4), .second, .val (.long q5), .second, .val (.int (Int32.ofNat n))] [])) _
    refine XS.aloadN X0.here hx rfl (hb hby d3_0) rfl rfl ?_
    exact kq)
  obtain ⟨T35, X35, e35, st35⟩ := initO X0 hx hZ hown (tw15 hw) (tw16 hw) (tw17 hw) e0 (g := (mkF m 1 #[.val (.ref a1), .val (.long q2), .second, .val (.long q3), .second, .val (.long q4), .second, .val (.long q5), .second, .val (.int (Int32.ofNat n))] [(.ref a1)])) rfl (by rw [hml]; rfl) rfl (hb hby d3_1) (by decide) (W := 0) (by show 2 * 0 + _ ≤ _; exact Nat.le_of_eq rfl) (by decide)
  have go35 : Goes p e below s₁ (G_rmI5 m a1 q2 q3 q4 q5 n) T35 (mkF m 4 #[.val (.ref a1), .val (.long q2), .second, .val (.long q3), .second, .val (.long q4), .second, .val (.long q5), .second, .val (.int (Int32.ofNat n))] []) := fun tq kq => go34 tq (st35 _ kq)
  have go36 : Goes p e below s₁ (G_rmI5 m a1 q2 q3 q4 q5 n) T35 (mkF m 8 #[.val (.ref a1), .val (.long q2), .second, .val (.long q3), .second, .val (.long q4), .second, .val (.long q5), .second, .val (.int (Int32.ofNat n))] [(.long (-1 : Int64)), (.ref a1)]) := fun tq kq => go35 tq (by
    show Steps p.tables e below (T35.setTop (mkF m 4 #[.val (.ref a1), .val (.long q2), .second, .val (.long q3), .second, .val (.long q4), .second, .val (.long q5), .second, .val (.int (Int32.ofNat n))] [])) _
    refine XS.aloadN X35.here hx rfl (hb hby d3_4) rfl rfl ?_
    show Steps p.tables e below (T35.setTop (mkF m 5 #[.val (.ref a1), .val (.long q2), .second, .val (.long q3), .second, .val (.long q4), .second, .val (.long q5), .second, .val (.int (Int32.ofNat n))] [(.ref a1)])) _
    refine X35.ldc2Long hx hown (mvT hZ (tw18 hw)) (g := (mkF m 5 #[.val (.ref a1), .val (.long q2), .second, .val (.long q3), .second, .val (.long q4), .second, .val (.long q5), .second, .val (.int (Int32.ofNat n))] [(.ref a1)])) rfl (hb hby d3_5) _ ?_
    exact kq)
  obtain ⟨T37, h37, X37, e37, W37, st37⟩ := putF X35 hx hZ hown (host := "") (Or.inl (tw19 hw)) Via.refl e35 F_seenFrom Ex (Or.inl (tw20 hw)) (tw7 hw) (ty := .long) (by decide) rfl rfl (g := (mkF m 8 #[.val (.ref a1), .val (.long q2), .second, .val (.long q3), .second, .val (.long q4), .second, .val (.long q5), .second, .val (.int (Int32.ofNat n))] [(.long (-1 : Int64)), (.ref a1)])) rfl rfl (hb hby d3_8)
  have N37 := Fr.snoc X37 N0 g_a1
  have KP37 : Keep h0 h37 [a1] := KP0.wr W37 (Or.inl (List.mem_of_getElem? (i := 0) rfl))
  have ZS37 : n0 ≤ h37.size := Nat.le_trans Z0 (Keep.of_wr W37).1
  have F37 := Fld.same W37 F_seenFrom
  have go37 : Goes p e below s₁ (G_rmI5 m a1 q2 q3 q4 q5 n) T37 (mkF m 11 #[.val (.ref a1), .val (.long q2), .second, .val (.long q3), .second, .val (.long q4), .second, .val (.long q5), .second, .val (.int (Int32.ofNat n))] []) := fun tq kq => go36 tq (st37 _ kq)
  have f38 := (Fld.other W37 F_tick (Or.inr (slot_ne (Or.inr (tw22 hw)) (Or.inl (tw20 hw)) (by decide) (t := .long) (t' := .long) (by decide) (by decide))))
  have go39 : Goes p e below s₁ (G_rmI5 m a1 q2 q3 q4 q5 n) T37 (mkF m 13 #[.val (.ref a1), .val (.long q2), .second, .val (.long q3), .second, .val (.long q4), .second, .val (.long q5), .second, .val (.int (Int32.ofNat n))] [(.long q2), (.ref a1)]) := fun tq kq => go37 tq (by
    show Steps p.tables e below (T37.setTop (mkF m 11 #[.val (.ref a1), .val (.long q2), .second, .val (.long q3), .second, .val (.long q4), .second, .val (.long q5), .second, .val (.int (Int32.ofNat n))] [])) _
    refine XS.aloadN X37.here hx rfl (hb hby d3_11) rfl rfl ?_
    show Steps p.tables e below (T37.setTop (mkF m 12 #[.val (.ref a1), .val (.long q2), .second, .val (.long q3), .second, .val (.long q4), .second, .val (.long q5), .second, .val (.int (Int32.ofNat n))] [(.ref a1)])) _
    refine XS.lloadN X37.here hx rfl (hb hby d3_12) rfl ?_
    exact kq)
  obtain ⟨T40, h40, X40, e40, W40, st40⟩ := putF X37 hx hZ hown (host := "") (Or.inl (tw21 hw)) Via.refl e37 f38 (Exa.wr W37 Ex) (Or.inr ⟨(tw22 hw), rfl, hnm⟩) (tw7 hw) (ty := .long) (by decide) rfl rfl (g := (mkF m 13 #[.val (.ref a1), .val (.long q2), .second, .val (.long q3), .second, .val (.long q4), .second, .val (.long q5), .second, .val (.int (Int32.ofNat n))] [(.long q2), (.ref a1)])) rfl rfl (hb hby d3_13)
  have N40 := Fr.snoc X40 N37 g_a1
  have KP40 : Keep h0 h40 [a1] := KP37.wr W40 (Or.inl (List.mem_of_getElem? (i := 0) rfl))
  have ZS40 : n0 ≤ h40.size := Nat.le_trans ZS37 (Keep.of_wr W40).1
  have F40 := Fld.same W40 f38
  have go40 : Goes p e below s₁ (G_rmI5 m a1 q2 q3 q4 q5 n) T40 (mkF m 16 #[.val (.ref a1), .val (.long q2), .second, .val (.long q3), .second, .val (.long q4), .second, .val (.long q5), .second, .val (.int (Int32.ofNat n))] []) := fun tq kq => go39 tq (st40 _ kq)
  have f41 := (Fld.other W40 (Fld.other W37 F_lead (Or.inr (slot_ne (Or.inr (tw24 hw)) (Or.inl (tw20 hw)) (by decide) (t := .long) (t' := .long) (by decide) (by decide)))) (Or.inr (slot_ne (Or.inr (tw24 hw)) (Or.inr (tw22 hw)) (by decide) (t := .long) (t' := .long) (by decide) (by decide))))
  have go42 : Goes p e below s₁ (G_rmI5 m a1 q2 q3 q4 q5 n) T40 (mkF m 18 #[.val (.ref a1), .val (.long q2), .second, .val (.long q3), .second, .val (.long q4), .second, .val (.long q5), .second, .val (.int (Int32.ofNat n))] [(.long q3), (.ref a1)]) := fun tq kq => go40 tq (by
    show Steps p.tables e below (T40.setTop (mkF m 16 #[.val (.ref a1), .val (.long q2), .second, .val (.long q3), .second, .val (.long q4), .second, .val (.long q5), .second, .val (.int (Int32.ofNat n))] [])) _
    refine XS.aloadN X40.here hx rfl (hb hby d3_16) rfl rfl ?_
    show Steps p.tables e below (T40.setTop (mkF m 17 #[.val (.ref a1), .val (.long q2), .second, .val (.long q3), .second, .val (.long q4), .second, .val (.long q5), .second, .val (.int (Int32.ofNat n))] [(.ref a1)])) _
    refine XS.lloadN X40.here hx rfl (hb hby d3_17) rfl ?_
    exact kq)
  obtain ⟨T43, h43, X43, e43, W43, st43⟩ := putF X40 hx hZ hown (host := "") (Or.inl (tw23 hw)) Via.refl e40 f41 (Exa.wr W40 (Exa.wr W37 Ex)) (Or.inr ⟨(tw24 hw), rfl, hnm⟩) (tw7 hw) (ty := .long) (by decide) rfl rfl (g := (mkF m 18 #[.val (.ref a1), .val (.long q2), .second, .val (.long q3), .second, .val (.long q4), .second, .val (.long q5), .second, .val (.int (Int32.ofNat n))] [(.long q3), (.ref a1)])) rfl rfl (hb hby d3_18)
  have N43 := Fr.snoc X43 N40 g_a1
  have KP43 : Keep h0 h43 [a1] := KP40.wr W43 (Or.inl (List.mem_of_getElem? (i := 0) rfl))
  have ZS43 : n0 ≤ h43.size := Nat.le_trans ZS40 (Keep.of_wr W43).1
  have F43 := Fld.same W43 f41
  have go43 : Goes p e below s₁ (G_rmI5 m a1 q2 q3 q4 q5 n) T43 (mkF m 21 #[.val (.ref a1), .val (.long q2), .second, .val (.long q3), .second, .val (.long q4), .second, .val (.long q5), .second, .val (.int (Int32.ofNat n))] []) := fun tq kq => go42 tq (st43 _ kq)
  have f44 := (Fld.other W43 (Fld.other W40 (Fld.other W37 F_moveTime (Or.inr (slot_ne (Or.inr (tw26 hw)) (Or.inl (tw20 hw)) (by decide) (t := .long) (t' := .long) (by decide) (by decide)))) (Or.inr (slot_ne (Or.inr (tw26 hw)) (Or.inr (tw22 hw)) (by decide) (t := .long) (t' := .long) (by decide) (by decide)))) (Or.inr (slot_ne (Or.inr (tw26 hw)) (Or.inr (tw24 hw)) (by decide) (t := .long) (t' := .long) (by decide) (by decide))))
  have go45 : Goes p e below s₁ (G_rmI5 m a1 q2 q3 q4 q5 n) T43 (mkF m 24 #[.val (.ref a1), .val (.long q2), .second, .val (.long q3), .second, .val (.long q4), .second, .val (.long q5), .second, .val (.int (Int32.ofNat n))] [(.long q4), (.ref a1)]) := fun tq kq => go43 tq (by
    show Steps p.tables e below (T43.setTop (mkF m 21 #[.val (.ref a1), .val (.long q2), .second, .val (.long q3), .second, .val (.long q4), .second, .val (.long q5), .second, .val (.int (Int32.ofNat n))] [])) _
    refine XS.aloadN X43.here hx rfl (hb hby d3_21) rfl rfl ?_
    show Steps p.tables e below (T43.setTop (mkF m 22 #[.val (.ref a1), .val (.long q2), .second, .val (.long q3), .second, .val (.long q4), .second, .val (.long q5), .second, .val (.int (Int32.ofNat n))] [(.ref a1)])) _
    refine XS.lload X43.here hx rfl (hb hby d3_22) rfl ?_
    exact kq)
  obtain ⟨T46, h46, X46, e46, W46, st46⟩ := putF X43 hx hZ hown (host := "") (Or.inl (tw25 hw)) Via.refl e43 f44 (Exa.wr W43 (Exa.wr W40 (Exa.wr W37 Ex))) (Or.inr ⟨(tw26 hw), rfl, hnm⟩) (tw7 hw) (ty := .long) (by decide) rfl rfl (g := (mkF m 24 #[.val (.ref a1), .val (.long q2), .second, .val (.long q3), .second, .val (.long q4), .second, .val (.long q5), .second, .val (.int (Int32.ofNat n))] [(.long q4), (.ref a1)])) rfl rfl (hb hby d3_24)
  have N46 := Fr.snoc X46 N43 g_a1
  have KP46 : Keep h0 h46 [a1] := KP43.wr W46 (Or.inl (List.mem_of_getElem? (i := 0) rfl))
  have ZS46 : n0 ≤ h46.size := Nat.le_trans ZS43 (Keep.of_wr W46).1
  have F46 := Fld.same W46 f44
  have go46 : Goes p e below s₁ (G_rmI5 m a1 q2 q3 q4 q5 n) T46 (mkF m 27 #[.val (.ref a1), .val (.long q2), .second, .val (.long q3), .second, .val (.long q4), .second, .val (.long q5), .second, .val (.int (Int32.ofNat n))] []) := fun tq kq => go45 tq (st46 _ kq)
  have f47 := (Fld.other W46 (Fld.other W43 (Fld.other W40 (Fld.other W37 F_firstLead (Or.inr (slot_ne (Or.inr (tw28 hw)) (Or.inl (tw20 hw)) (by decide) (t := .long) (t' := .long) (by decide) (by decide)))) (Or.inr (slot_ne (Or.inr (tw28 hw)) (Or.inr (tw22 hw)) (by decide) (t := .long) (t' := .long) (by decide) (by decide)))) (Or.inr (slot_ne (Or.inr (tw28 hw)) (Or.inr (tw24 hw)) (by decide) (t := .long) (t' := .long) (by decide) (by decide)))) (Or.inr (slot_ne (Or.inr (tw28 hw)) (Or.inr (tw26 hw)) (by decide) (t := .long) (t' := .long) (by decide) (by decide))))
  have go48 : Goes p e below s₁ (G_rmI5 m a1 q2 q3 q4 q5 n) T46 (mkF m 30 #[.val (.ref a1), .val (.long q2), .second, .val (.long q3), .second, .val (.long q4), .second, .val (.long q5), .second, .val (.int (Int32.ofNat n))] [(.long q5), (.ref a1)]) := fun tq kq => go46 tq (by
    show Steps p.tables e below (T46.setTop (mkF m 27 #[.val (.ref a1), .val (.long q2), .second, .val (.long q3), .second, .val (.long q4), .second, .val (.long q5), .second, .val (.int (Int32.ofNat n))] [])) _
    refine XS.aloadN X46.here hx rfl (hb hby d3_27) rfl rfl ?_
    show Steps p.tables e below (T46.setTop (mkF m 28 #[.val (.ref a1), .val (.long q2), .second, .val (.long q3), .second, .val (.long q4), .second, .val (.long q5), .second, .val (.int (Int32.ofNat n))] [(.ref a1)])) _
    refine XS.lload X46.here hx rfl (hb hby d3_28) rfl ?_
    exact kq)
  obtain ⟨T49, h49, X49, e49, W49, st49⟩ := putF X46 hx hZ hown (host := "") (Or.inl (tw27 hw)) Via.refl e46 f47 (Exa.wr W46 (Exa.wr W43 (Exa.wr W40 (Exa.wr W37 Ex)))) (Or.inr ⟨(tw28 hw), rfl, hnm⟩) (tw7 hw) (ty := .long) (by decide) rfl rfl (g := (mkF m 30 #[.val (.ref a1), .val (.long q2), .second, .val (.long q3), .second, .val (.long q4), .second, .val (.long q5), .second, .val (.int (Int32.ofNat n))] [(.long q5), (.ref a1)])) rfl rfl (hb hby d3_30)
  have N49 := Fr.snoc X49 N46 g_a1
  have KP49 : Keep h0 h49 [a1] := KP46.wr W49 (Or.inl (List.mem_of_getElem? (i := 0) rfl))
  have ZS49 : n0 ≤ h49.size := Nat.le_trans ZS46 (Keep.of_wr W49).1
  have F49 := Fld.same W49 f47
  have go49 : Goes p e below s₁ (G_rmI5 m a1 q2 q3 q4 q5 n) T49 (mkF m 33 #[.val (.ref a1), .val (.long q2), .second, .val (.long q3), .second, .val (.long q4), .second, .val (.long q5), .second, .val (.int (Int32.ofNat n))] []) := fun tq kq => go48 tq (st49 _ kq)
  have go50 : Goes p e below s₁ (G_rmI5 m a1 q2 q3 q4 q5 n) T49 (mkF m 37 #[.val (.ref a1), .val (.long q2), .second, .val (.long q3), .second, .val (.long q4), .second, .val (.long q5), .second, .val (.int (Int32.ofNat n))] [(.int (Int32.ofNat n)), (.long q2), (.ref a1)]) := fun tq kq => go49 tq (by
    show Steps p.tables e below (T49.setTop (mkF m 33 #[.val (.ref a1), .val (.long q2), .second, .val (.long q3), .second, .val (.long q4), .second, .val (.long q5), .second, .val (.int (Int32.ofNat n))] [])) _
    refine XS.aloadN X49.here hx rfl (hb hby d3_33) rfl rfl ?_
    show Steps p.tables e below (T49.setTop (mkF m 34 #[.val (.ref a1), .val (.long q2), .second, .val (.long q3), .second, .val (.long q4), .second, .val (.long q5), .second, .val (.int (Int32.ofNat n))] [(.ref a1)])) _
    refine XS.lloadN X49.here hx rfl (hb hby d3_34) rfl ?_
    show Steps p.tables e below (T49.setTop (mkF m 35 #[.val (.ref a1), .val (.long q2), .second, .val (.long q3), .second, .val (.long q4), .second, .val (.long q5), .second, .val (.int (Int32.ofNat n))] [(.long q2), (.ref a1)])) _
    refine XS.iload X49.here hx rfl (hb hby d3_35) rfl ?_
    exact kq)
  obtain ⟨vv51, _, ⟨T51, L51, k51, n51⟩, -, X51, ⟨Lc51, hQ51, l51, y51, z51⟩, st51⟩ := Jvm.LawKit.callS X49 hx (y := (⟨"com/example/cicada/cicada/Expiry", "span", "(JI)J"⟩ : MethodName)) hown (mvT hZ (tw29 hw)) (mvT hZ (tw30 hw)) (mvT hZ (tw31 hw)) (mvT hZ (tw32 hw)) (by decide) (backOf (W := 1) (rmSpan l Z a0 hw [] q2 (Int32.ofNat n)  h49 n0 ZS49 (own_nz hn1 (by omega))) hZ (tw32 hw) (tw31 hw) (by decide) (by decide)) (g := (mkF m 37 #[.val (.ref a1), .val (.long q2), .second, .val (.long q3), .second, .val (.long q4), .second, .val (.long q5), .second, .val (.int (Int32.ofNat n))] [(.int (Int32.ofNat n)), (.long q2), (.ref a1)])) rfl (by rw [hml]; rfl) (argsL := [(.long q2), (.int (Int32.ofNat n))]) (rest := [(.ref a1)]) (lenOf pd_3 rfl) rfl (by show 2 * 0 + _ ≤ _; exact Nat.le_of_eq rfl) (hb hby d3_37) (fun _ _ => ⟨rfl, e49, (by decide : 0 + 0 ≤ _), (by decide : 0 + 0 ≤ _)⟩)
  dsimp only [Pt.U, Pt.locs, Pt.cells, Pt.slots] at X51 l51 y51 z51 st51 hQ51
  subst l51 y51 z51
  obtain ⟨rfl, Nq51, eq51⟩ := hQ51
  have N51 := Fr.app N49 Nq51
  have go51 : Goes p e below s₁ (G_rmI5 m a1 q2 q3 q4 q5 n) T51 (mkF m 40 #[.val (.ref a1), .val (.long q2), .second, .val (.long q3), .second, .val (.long q4), .second, .val (.long q5), .second, .val (.int (Int32.ofNat n))] [(.long (spanv q2 (Int32.ofNat n))), (.ref a1)]) := fun tq kq => go50 tq (st51 _ kq)
  have f52 := (Fld.other W49 (Fld.other W46 (Fld.other W43 (Fld.other W40 (Fld.other W37 F_span (Or.inr (slot_ne (Or.inr (tw35 hw)) (Or.inl (tw20 hw)) (by decide) (t := .long) (t' := .long) (by decide) (by decide)))) (Or.inr (slot_ne (Or.inr (tw35 hw)) (Or.inr (tw22 hw)) (by decide) (t := .long) (t' := .long) (by decide) (by decide)))) (Or.inr (slot_ne (Or.inr (tw35 hw)) (Or.inr (tw24 hw)) (by decide) (t := .long) (t' := .long) (by decide) (by decide)))) (Or.inr (slot_ne (Or.inr (tw35 hw)) (Or.inr (tw26 hw)) (by decide) (t := .long) (t' := .long) (by decide) (by decide)))) (Or.inr (slot_ne (Or.inr (tw35 hw)) (Or.inr (tw28 hw)) (by decide) (t := .long) (t' := .long) (by decide) (by decide))))
  have f53 := (Exa.wr W49 (Exa.wr W46 (Exa.wr W43 (Exa.wr W40 (Exa.wr W37 Ex)))))
  obtain ⟨T54, h54, X54, e54, W54, st54⟩ := putF X51 hx hZ hown (host := "") (Or.inl (tw34 hw)) Via.refl eq51 f52 f53 (Or.inr ⟨(tw35 hw), rfl, hnm⟩) (tw7 hw) (ty := .long) (by decide) rfl rfl (g := (mkF m 40 #[.val (.ref a1), .val (.long q2), .second, .val (.long q3), .second, .val (.long q4), .second, .val (.long q5), .second, .val (.int (Int32.ofNat n))] [(.long (spanv q2 (Int32.ofNat n))), (.ref a1)])) rfl rfl (hb hby d3_40)
  have N54 := Fr.snoc X54 N51 g_a1
  have KP54 : Keep h0 h54 [a1] := KP49.wr W54 (Or.inl (List.mem_of_getElem? (i := 0) rfl))
  have ZS54 : n0 ≤ h54.size := Nat.le_trans ZS49 (Keep.of_wr W54).1
  have F54 := Fld.same W54 f52
  have go54 : Goes p e below s₁ (G_rmI5 m a1 q2 q3 q4 q5 n) T54 (mkF m 43 #[.val (.ref a1), .val (.long q2), .second, .val (.long q3), .second, .val (.long q4), .second, .val (.long q5), .second, .val (.int (Int32.ofNat n))] []) := fun tq kq => go51 tq (st54 _ kq)
  have go55 : Goes p e below s₁ (G_rmI5 m a1 q2 q3 q4 q5 n) T54 (mkF m 46 #[.val (.ref a1), .val (.long q2), .second, .val (.long q3), .second, .val (.long q4), .second, .val (.long q5), .second, .val (.int (Int32.ofNat n))] [(.int (Int32.ofNat n)), (.ref a1)]) := fun tq kq => go54 tq (by
    show Steps p.tables e below (T54.setTop (mkF m 43 #[.val (.ref a1), .val (.long q2), .second, .val (.long q3), .second, .val (.long q4), .second, .val (.long q5), .second, .val (.int (Int32.ofNat n))] [])) _
    refine XS.aloadN X54.here hx rfl (hb hby d3_43) rfl rfl ?_
    show Steps p.tables e below (T54.setTop (mkF m 44 #[.val (.ref a1), .val (.long q2), .second, .val (.long q3), .second, .val (.long q4), .second, .val (.long q5), .second, .val (.int (Int32.ofNat n))] [(.ref a1)])) _
    refine XS.iload X54.here hx rfl (hb hby d3_44) rfl ?_
    exact kq)
  obtain ⟨T56, h56, k56, X56, e56, E56, A56, Ov56, st56⟩ := newR X54 hx hZ hown (tw36 hw) (tw37 hw) e54 (g := (mkF m 46 #[.val (.ref a1), .val (.long q2), .second, .val (.long q3), .second, .val (.long q4), .second, .val (.long q5), .second, .val (.int (Int32.ofNat n))] [(.int (Int32.ofNat n)), (.ref a1)])) rfl (hb hby d3_46) rfl (own_nneg (by omega)) (cap := 16) (by rw [own_clamp (by omega)]; omega) (by decide) (by decide) (by decide)
  obtain ⟨b56, g56⟩ : ∃ z, z = h54.size := ⟨_, rfl⟩
  rw [← g56] at A56 st56
  have g_b56 : n0 ≤ b56 := Nat.le_trans ZS54 (Nat.le_of_eq g56.symm)
  have sz_b56 : h0.size ≤ b56 := Nat.le_trans KP54.1 (Nat.le_of_eq g56.symm)
  have KP56 : Keep h0 h56 [a1] := KP54.ext E56
  have ZS56 : n0 ≤ h56.size := Nat.le_trans ZS54 E56.1
  have V56 : Arv Z h56 b56 k56 (.object "com/example/cicada/cicada/Bucket") (Int32.ofNat n) [] .null := (Arv.new A56 (own_nneg (by omega)))
  have ne57 : a1 ≠ b56 := Nat.ne_of_lt (Nat.lt_of_lt_of_le (Exa.wr W54 f53).lt (Nat.le_of_eq g56.symm))
  have go56 : Goes p e below s₁ (G_rmI5 m a1 q2 q3 q4 q5 n) T56 (mkF m 49 #[.val (.ref a1), .val (.long q2), .second, .val (.long q3), .second, .val (.long q4), .second, .val (.long q5), .second, .val (.int (Int32.ofNat n))] [(.ref b56), (.ref a1)]) := fun tq kq => go55 tq (st56 _ kq)
  have V0 : Arv Z h56 b56 k56 (.object "com/example/cicada/cicada/Bucket") (Int32.ofNat n) (List.replicate n .null) .null := (V56).pad (pad_rep [] .null n)
  have f58 := ((Fld.other W54 (Fld.other W49 (Fld.other W46 (Fld.other W43 (Fld.other W40 (Fld.other W37 F_buckets (Or.inr (slot_ne (Or.inr (tw39 hw)) (Or.inl (tw20 hw)) (by decide) (t := (.array (.object "com/example/cicada/cicada/Bucket"))) (t' := .long) (by decide) (by decide)))) (Or.inr (slot_ne (Or.inr (tw39 hw)) (Or.inr (tw22 hw)) (by decide) (t := (.array (.object "com/example/cicada/cicada/Bucket"))) (t' := .long) (by decide) (by decide)))) (Or.inr (slot_ne (Or.inr (tw39 hw)) (Or.inr (tw24 hw)) (by decide) (t := (.array (.object "com/example/cicada/cicada/Bucket"))) (t' := .long) (by decide) (by decide)))) (Or.inr (slot_ne (Or.inr (tw39 hw)) (Or.inr (tw26 hw)) (by decide) (t := (.array (.object "com/example/cicada/cicada/Bucket"))) (t' := .long) (by decide) (by decide)))) (Or.inr (slot_ne (Or.inr (tw39 hw)) (Or.inr (tw28 hw)) (by decide) (t := (.array (.object "com/example/cicada/cicada/Bucket"))) (t' := .long) (by decide) (by decide)))) (Or.inr (slot_ne (Or.inr (tw39 hw)) (Or.inr (tw35 hw)) (by decide) (t := (.array (.object "com/example/cicada/cicada/Bucket"))) (t' := .long) (by decide) (by decide)))).ext E56)
  obtain ⟨T59, h59, X59, e59, W59, st59⟩ := putF X56 hx hZ hown (host := "") (Or.inl (tw38 hw)) Via.refl e56 f58 ((Exa.wr W54 f53).ext E56) (Or.inr ⟨(tw39 hw), rfl, hnm⟩) (tw7 hw) (ty := (.array (.object "com/example/cicada/cicada/Bucket"))) (by decide) rfl rfl (g := (mkF m 49 #[.val (.ref a1), .val (.long q2), .second, .val (.long q3), .second, .val (.long q4), .second, .val (.long q5), .second, .val (.int (Int32.ofNat n))] [(.ref b56), (.ref a1)])) rfl rfl (hb hby d3_49)
  have N59 := Fr.snoc X59 N54 g_a1
  have KP59 : Keep h0 h59 [a1] := KP56.wr W59 (Or.inl (List.mem_of_getElem? (i := 0) rfl))
  have ZS59 : n0 ≤ h59.size := Nat.le_trans ZS56 (Keep.of_wr W59).1
  have F59 := Fld.same W59 f58
  have go59 : Goes p e below s₁ (G_rmI5 m a1 q2 q3 q4 q5 n) T59 (mkF m 52 #[.val (.ref a1), .val (.long q2), .second, .val (.long q3), .second, .val (.long q4), .second, .val (.long q5), .second, .val (.int (Int32.ofNat n))] []) := fun tq kq => go56 tq (st59 _ kq)
  have go60 : Goes p e below s₁ (G_rmI5 m a1 q2 q3 q4 q5 n) T59 (mkF m 53 #[.val (.ref a1), .val (.long q2), .second, .val (.long q3), .second, .val (.long q4), .second, .val (.long q5), .second, .val (.int (Int32.ofNat n))] [(.ref a1)]) := fun tq kq => go59 tq (by
    show Steps p.tables e below (T59.setTop (mkF m 52 #[.val (.ref a1), .val (.long q2), .second, .val (.long q3), .second, .val (.long q4), .second, .val (.long q5), .second, .val (.int (Int32.ofNat n))] [])) _
    refine XS.aloadN X59.here hx rfl (hb hby d3_52) rfl rfl ?_
    exact kq)
  obtain ⟨T61, X61, e61, st61⟩ := getF X59 hx hZ hown (host := "") (Or.inl (tw38 hw)) Via.refl e59 F59 (g := (mkF m 53 #[.val (.ref a1), .val (.long q2), .second, .val (.long q3), .second, .val (.long q4), .second, .val (.long q5), .second, .val (.int (Int32.ofNat n))] [(.ref a1)])) rfl rfl (hb hby d3_53)
  have go61 : Goes p e below s₁ (G_rmI5 m a1 q2 q3 q4 q5 n) T61 (mkF m 56 #[.val (.ref a1), .val (.long q2), .second, .val (.long q3), .second, .val (.long q4), .second, .val (.long q5), .second, .val (.int (Int32.ofNat n))] [(.ref b56)]) := fun tq kq => go60 tq (st61 _ kq)
  have go62 : Goes p e below s₁ (G_rmI5 m a1 q2 q3 q4 q5 n) T61 (mkF m 57 #[.val (.ref a1), .val (.long q2), .second, .val (.long q3), .second, .val (.long q4), .second, .val (.long q5), .second, .val (.int (Int32.ofNat n))] [(.ref a1), (.ref b56)]) := fun tq kq => go61 tq (by
    show Steps p.tables e below (T61.setTop (mkF m 56 #[.val (.ref a1), .val (.long q2), .second, .val (.long q3), .second, .val (.long q4), .second, .val (.long q5), .second, .val (.int (Int32.ofNat n))] [(.ref b56)])) _
    refine XS.aloadN X61.here hx rfl (hb hby d3_56) rfl rfl ?_
    exact kq)
  obtain ⟨cK, hmd, X63, st63⟩ := own_site X61 hx hH (x := (⟨"com/example/cicada/cicada/Level", "<init>", "(JJJJI)V"⟩ : MethodName)) (pc := 57) (index := 44) (σ := sig0) (fi := 15) Bd.named (tw40 hw) (by decide) own_cok (tw43 hw) (g := (mkF m 57 #[.val (.ref a1), .val (.long q2), .second, .val (.long q3), .second, .val (.long q4), .second, .val (.long q5), .second, .val (.int (Int32.ofNat n))] [(.ref a1), (.ref b56)])) rfl rfl (by rw [hml]; rfl) (hb hby d3_57) (vals := [(.ref a1)]) (rest := [(.ref b56)]) rfl rfl (own_fit a1) (by show 2 * 0 + _ + 3072 ≤ _; exact Nat.le_of_ble_eq_true rfl) (by decide) (kk := 1) rfl (by decide)
  obtain ⟨h63, eh63⟩ : ∃ z, z = h59.push ({ cls := cK, slots := #[(.ref a1)], vm := .none } : Cell) := ⟨_, rfl⟩
  have E63 : Ext h59 h63 := by rw [eh63]; exact own_extpush _ _
  obtain ⟨T63, eT63⟩ : ∃ z, z = T61.pushCell ({ cls := cK, slots := #[(.ref a1)], vm := .none } : Cell) := ⟨_, rfl⟩
  have e63 : T63.heap = h63 := by rw [eT63, eh63, ← e61]; rfl
  obtain ⟨fn, gfn⟩ : ∃ z, z = h59.size := ⟨_, rfl⟩
  have hcell : h63[fn]? = some ({ cls := cK, slots := #[(.ref a1)], vm := .none } : Cell) := by rw [eh63, gfn]; simp
  rw [show ([(.ref a1)] : List Value).toArray = #[(.ref a1)] from rfl, ← eT63] at X63 st63
  rw [e61, ← gfn] at st63
  have KP63 : Keep h0 h63 [a1] := KP59.ext E63
  have ZS63 : n0 ≤ h63.size := Nat.le_trans ZS59 E63.1
  have ne64 : a1 ≠ fn := Nat.ne_of_lt (Nat.lt_of_lt_of_le (Exa.wr W59 ((Exa.wr W54 f53).ext E56)).lt (Nat.le_of_eq gfn.symm))
  have ne65 : b56 ≠ fn := Nat.ne_of_lt (Nat.lt_of_lt_of_le (V0.other W59 (Ne.symm ne57)).lt (Nat.le_of_eq gfn.symm))
  have go63 : Goes p e below s₁ (G_rmI5 m a1 q2 q3 q4 q5 n) T63 (mkF m 62 #[.val (.ref a1), .val (.long q2), .second, .val (.long q3), .second, .val (.long q4), .second, .val (.long q5), .second, .val (.int (Int32.ofNat n))] [(.ref fn), (.ref b56)]) := fun tq kq => go62 tq (st63 _ kq)
  obtain ⟨vv66, _, ⟨T66, L66, k66, n66⟩, -, X66, ⟨Lc66, hQ66, l66, y66, z66⟩, st66⟩ := Jvm.LawKit.callS X63 hx (y := (⟨"java/util/Arrays", "setAll", "([Ljava/lang/Object;Ljava/util/function/IntFunction;)V"⟩ : MethodName)) hown (mvT hZ (tw44 hw)) (mvT hZ (tw45 hw)) (mvT hZ (tw46 hw)) (mvT hZ (tw47 hw)) (by decide) (own_backH (W := 0) (rmSA l Z a0 hw [] b56 fn a1 k56 cK n ({ cls := cK, slots := #[(.ref a1)], vm := .none } : Cell) h63 n0 ZS63 hn2 hmd Ov56 hcell rfl rfl rfl ((Exa.wr W59 ((Exa.wr W54 f53).ext E56)).ext E63) g_b56 ((V0.other W59 (Ne.symm ne57)).ext E63) (Ne.symm ne65)) hH (tw47 hw) (tw46 hw) (by decide) (by decide)) (g := (mkF m 62 #[.val (.ref a1), .val (.long q2), .second, .val (.long q3), .second, .val (.long q4), .second, .val (.long q5), .second, .val (.int (Int32.ofNat n))] [(.ref fn), (.ref b56)])) rfl (by rw [hml]; rfl) (argsL := [(.ref b56), (.ref fn)]) (rest := []) (lenOf pd_4 rfl) rfl (by show 2 * 0 + _ ≤ _; exact Nat.le_of_eq rfl) (hb hby d3_62) (fun _ _ => ⟨rfl, e63, (by decide : 2 + 16 ≤ _), (by decide : 17 + 96 ≤ _)⟩)
  dsimp only [Pt.U, Pt.locs, Pt.cells, Pt.slots] at X66 l66 y66 z66 st66 hQ66
  subst l66 y66 z66
  obtain ⟨rfl, Nq66, K66, vs66, V66, l66, A66⟩ := hQ66
  have N66 := Fr.app N59 Nq66
  have ZS66 : n0 ≤ T66.heap.size := Nat.le_trans ZS63 K66.1
  have KP66 : Keep h0 T66.heap [a1] := KP63.trans K66 (allS (Or.inr sz_b56) all0)
  have go66 : Goes p e below s₁ (G_rmI5 m a1 q2 q3 q4 q5 n) T66 (mkF m 65 #[.val (.ref a1), .val (.long q2), .second, .val (.long q3), .second, .val (.long q4), .second, .val (.long q5), .second, .val (.int (Int32.ofNat n))] []) := fun tq kq => go63 tq (st66 _ kq)
  have f67 := (((Exa.wr W59 ((Exa.wr W54 f53).ext E56)).ext E63).keep K66)
  have f68 := (((Fld.other W59 ((Fld.other W54 (Fld.other W49 (Fld.other W46 (Fld.other W43 F40 (Or.inr (slot_ne (Or.inr (tw22 hw)) (Or.inr (tw24 hw)) (by decide) (t := .long) (t' := .long) (by decide) (by decide)))) (Or.inr (slot_ne (Or.inr (tw22 hw)) (Or.inr (tw26 hw)) (by decide) (t := .long) (t' := .long) (by decide) (by decide)))) (Or.inr (slot_ne (Or.inr (tw22 hw)) (Or.inr (tw28 hw)) (by decide) (t := .long) (t' := .long) (by decide) (by decide)))) (Or.inr (slot_ne (Or.inr (tw22 hw)) (Or.inr (tw35 hw)) (by decide) (t := .long) (t' := .long) (by decide) (by decide)))).ext E56) (Or.inr (slot_ne (Or.inr (tw22 hw)) (Or.inr (tw39 hw)) (by decide) (t := .long) (t' := (.array (.object "com/example/cicada/cicada/Bucket"))) (by decide) (by decide)))).ext E63).keep K66 (ninS ne57 nin0))
  have f69 := (((Fld.other W59 ((Fld.other W54 (Fld.other W49 (Fld.other W46 F43 (Or.inr (slot_ne (Or.inr (tw24 hw)) (Or.inr (tw26 hw)) (by decide) (t := .long) (t' := .long) (by decide) (by decide)))) (Or.inr (slot_ne (Or.inr (tw24 hw)) (Or.inr (tw28 hw)) (by decide) (t := .long) (t' := .long) (by decide) (by decide)))) (Or.inr (slot_ne (Or.inr (tw24 hw)) (Or.inr (tw35 hw)) (by decide) (t := .long) (t' := .long) (by decide) (by decide)))).ext E56) (Or.inr (slot_ne (Or.inr (tw24 hw)) (Or.inr (tw39 hw)) (by decide) (t := .long) (t' := (.array (.object "com/example/cicada/cicada/Bucket"))) (by decide) (by decide)))).ext E63).keep K66 (ninS ne57 nin0))
  have f70 := (((Fld.other W59 ((Fld.other W54 (Fld.other W49 F46 (Or.inr (slot_ne (Or.inr (tw26 hw)) (Or.inr (tw28 hw)) (by decide) (t := .long) (t' := .long) (by decide) (by decide)))) (Or.inr (slot_ne (Or.inr (tw26 hw)) (Or.inr (tw35 hw)) (by decide) (t := .long) (t' := .long) (by decide) (by decide)))).ext E56) (Or.inr (slot_ne (Or.inr (tw26 hw)) (Or.inr (tw39 hw)) (by decide) (t := .long) (t' := (.array (.object "com/example/cicada/cicada/Bucket"))) (by decide) (by decide)))).ext E63).keep K66 (ninS ne57 nin0))
  have f71 := (((Fld.other W59 ((Fld.other W54 F49 (Or.inr (slot_ne (Or.inr (tw28 hw)) (Or.inr (tw35 hw)) (by decide) (t := .long) (t' := .long) (by decide) (by decide)))).ext E56) (Or.inr (slot_ne (Or.inr (tw28 hw)) (Or.inr (tw39 hw)) (by decide) (t := .long) (t' := (.array (.object "com/example/cicada/cicada/Bucket"))) (by decide) (by decide)))).ext E63).keep K66 (ninS ne57 nin0))
  have f72 := (((Fld.other W59 (F54.ext E56) (Or.inr (slot_ne (Or.inr (tw35 hw)) (Or.inr (tw39 hw)) (by decide) (t := .long) (t' := (.array (.object "com/example/cicada/cicada/Bucket"))) (by decide) (by decide)))).ext E63).keep K66 (ninS ne57 nin0))
  have f73 := (((Fld.other W59 ((Fld.other W54 (Fld.other W49 (Fld.other W46 (Fld.other W43 (Fld.other W40 (Fld.other W37 F_spare (Or.inr (slot_ne (Or.inl (tw94 hw)) (Or.inl (tw20 hw)) (by decide) (t := (.object "com/example/cicada/cicada/Bucket")) (t' := .long) (by decide) (by decide)))) (Or.inr (slot_ne (Or.inl (tw94 hw)) (Or.inr (tw22 hw)) (by decide) (t := (.object "com/example/cicada/cicada/Bucket")) (t' := .long) (by decide) (by decide)))) (Or.inr (slot_ne (Or.inl (tw94 hw)) (Or.inr (tw24 hw)) (by decide) (t := (.object "com/example/cicada/cicada/Bucket")) (t' := .long) (by decide) (by decide)))) (Or.inr (slot_ne (Or.inl (tw94 hw)) (Or.inr (tw26 hw)) (by decide) (t := (.object "com/example/cicada/cicada/Bucket")) (t' := .long) (by decide) (by decide)))) (Or.inr (slot_ne (Or.inl (tw94 hw)) (Or.inr (tw28 hw)) (by decide) (t := (.object "com/example/cicada/cicada/Bucket")) (t' := .long) (by decide) (by decide)))) (Or.inr (slot_ne (Or.inl (tw94 hw)) (Or.inr (tw35 hw)) (by decide) (t := (.object "com/example/cicada/cicada/Bucket")) (t' := .long) (by decide) (by decide)))).ext E56) (Or.inr (slot_ne (Or.inl (tw94 hw)) (Or.inr (tw39 hw)) (by decide) (t := (.object "com/example/cicada/cicada/Bucket")) (t' := (.array (.object "com/example/cicada/cicada/Bucket"))) (by decide) (by decide)))).ext E63).keep K66 (ninS ne57 nin0))
  have f74 := (((Fld.other W59 ((Fld.other W54 (Fld.other W49 (Fld.other W46 (Fld.other W43 (Fld.other W40 (Fld.other W37 F_moving (Or.inr (slot_ne (Or.inl (tw96 hw)) (Or.inl (tw20 hw)) (by decide) (t := (.object "com/example/cicada/cicada/Bucket")) (t' := .long) (by decide) (by decide)))) (Or.inr (slot_ne (Or.inl (tw96 hw)) (Or.inr (tw22 hw)) (by decide) (t := (.object "com/example/cicada/cicada/Bucket")) (t' := .long) (by decide) (by decide)))) (Or.inr (slot_ne (Or.inl (tw96 hw)) (Or.inr (tw24 hw)) (by decide) (t := (.object "com/example/cicada/cicada/Bucket")) (t' := .long) (by decide) (by decide)))) (Or.inr (slot_ne (Or.inl (tw96 hw)) (Or.inr (tw26 hw)) (by decide) (t := (.object "com/example/cicada/cicada/Bucket")) (t' := .long) (by decide) (by decide)))) (Or.inr (slot_ne (Or.inl (tw96 hw)) (Or.inr (tw28 hw)) (by decide) (t := (.object "com/example/cicada/cicada/Bucket")) (t' := .long) (by decide) (by decide)))) (Or.inr (slot_ne (Or.inl (tw96 hw)) (Or.inr (tw35 hw)) (by decide) (t := (.object "com/example/cicada/cicada/Bucket")) (t' := .long) (by decide) (by decide)))).ext E56) (Or.inr (slot_ne (Or.inl (tw96 hw)) (Or.inr (tw39 hw)) (by decide) (t := (.object "com/example/cicada/cicada/Bucket")) (t' := (.array (.object "com/example/cicada/cicada/Bucket"))) (by decide) (by decide)))).ext E63).keep K66 (ninS ne57 nin0))
  obtain ⟨fs, hr, hrun, hended, hW, hsame⟩ := X66.leave (v := none) (fun _ => rfl)
  refine ⟨_, _, go66 _ ?_, hrun, hended, _, _, rfl, ?_, ⟨_, rfl⟩, hW, hsame.mono (by decide) (by decide)⟩
  · exact X66.returnOut hx Bd.returns (hb hby d3_65) hr
  · show Q_rmI5 Z a1 q2 q3 q4 q5 n h0 n0 _ T66.heap _
    exact ⟨rfl, N66, KP66, f67, f68, f69, f70, f71, f72, f73, f74, b56, k56, vs66, sz_b56, ((F59.ext E63).keep K66 (ninS ne57 nin0)), Ov56, V66, l66, A66⟩
abbrev G_rmI2 (m : MethodId) (a1 : Addr) (q2 : Int64) (n : Nat) : JFrame := (entryFrame m #[(.ref a1), (.long q2), (.int (Int32.ofNat n))] 4)
theorem d2_0 : decode prog_5_method_1_code 0 = .ok (.aload_n 0, 1) := by decide +kernel
theorem d2_1 : decode prog_5_method_1_code 1 = .ok (.lload_n 1, 1) := by decide +kernel
theorem d2_2 : decode prog_5_method_1_code 2 = .ok (.lload_n 1, 1) := by decide +kernel
theorem d2_3 : decode prog_5_method_1_code 3 = .ok (.lconst 0, 1) := by decide +kernel
theorem d2_4 : decode prog_5_method_1_code 4 = .ok (.lload_n 1, 1) := by decide +kernel
theorem d2_5 : decode prog_5_method_1_code 5 = .ok (.iload_n 3, 1) := by decide +kernel
theorem d2_6 : decode prog_5_method_1_code 6 = .ok (.invokespecial 1, 3) := by decide +kernel
theorem pd_5 : parseMethodDescriptor "(JJJJI)V" = some ⟨[.long, .long, .long, .long, .int], none⟩ := by decide +kernel
theorem d2_9 : decode prog_5_method_1_code 9 = .ok (.return_, 1) := by decide +kernel
def Q_rmI2 (Z : State) (a1 : Addr) (q2 : Int64) (n : Nat) (h0 : Heap) (n0 : Nat) (v : Option Value) (h : Heap) (L : List Loc) : Prop := v = none ∧ Fr n0 L ∧ Keep h0 h [a1] ∧ Exa Z h a1 "com/example/cicada/cicada/Level" ∧ Fld Z h a1 "com/example/cicada/cicada/Level" "tick" "J" (.long q2) ∧ Fld Z h a1 "com/example/cicada/cicada/Level" "lead" "J" (.long q2) ∧ Fld Z h a1 "com/example/cicada/cicada/Level" "moveTime" "J" (.long (0 : Int64)) ∧ Fld Z h a1 "com/example/cicada/cicada/Level" "firstLead" "J" (.long q2) ∧ Fld Z h a1 "com/example/cicada/cicada/Level" "span" "J" (.long (spanv q2 (Int32.ofNat n))) ∧ Fld Z h a1 "com/example/cicada/cicada/Level" "spare" "Lcom/example/cicada/cicada/Bucket;" .null ∧ Fld Z h a1 "com/example/cicada/cicada/Level" "moving" "Lcom/example/cicada/cicada/Bucket;" .null ∧ ∃ (B : Addr) (kB : ClassId) (vs : List Value), h0.size ≤ B ∧ Fld Z h a1 "com/example/cicada/cicada/Level" "buckets" "[Lcom/example/cicada/cicada/Bucket;" (.ref B) ∧ Ovr Z kB "com/example/cicada/cicada/Bucket" ∧ Arv Z h B kB (.object "com/example/cicada/cicada/Bucket") (Int32.ofNat n) vs .null ∧ vs.length = n ∧ AllB Z h n0 n vs
set_option maxRecDepth 65536 in
set_option maxHeartbeats 40000000 in
theorem rmI2 (l : Launch) (Z : State) (a0 : Array Value) (hw : ∀ d ∈ tables_1, d.before a0 Z = true) (ws : List Jvm.Cond) (a1 : Addr) (q2 : Int64) (n : Nat) (h0 : Heap) (n0 : Nat) (Z0 : n0 ≤ h0.size) (g_a1 : n0 ≤ a1) (Ex : Exa Z h0 a1 "com/example/cicada/cicada/Level") (F_seenFrom : Fld Z h0 a1 "com/example/cicada/cicada/Level" "seenFrom" "J" (.long (0 : Int64))) (F_tick : Fld Z h0 a1 "com/example/cicada/cicada/Level" "tick" "J" (.long (0 : Int64))) (F_lead : Fld Z h0 a1 "com/example/cicada/cicada/Level" "lead" "J" (.long (0 : Int64))) (F_moveTime : Fld Z h0 a1 "com/example/cicada/cicada/Level" "moveTime" "J" (.long (0 : Int64))) (F_firstLead : Fld Z h0 a1 "com/example/cicada/cicada/Level" "firstLead" "J" (.long (0 : Int64))) (F_span : Fld Z h0 a1 "com/example/cicada/cicada/Level" "span" "J" (.long (0 : Int64))) (F_buckets : Fld Z h0 a1 "com/example/cicada/cicada/Level" "buckets" "[Lcom/example/cicada/cicada/Bucket;" .null) (F_spare : Fld Z h0 a1 "com/example/cicada/cicada/Level" "spare" "Lcom/example/cicada/cicada/Bucket;" .null) (F_moving : Fld Z h0 a1 "com/example/cicada/cicada/Level" "moving" "Lcom/example/cicada/cicada/Bucket;" .null) (hn1 : 1 ≤ n) (hn2 : n ≤ 16) :
    MetFree l (⟨"com/example/cicada/cicada/Level", "<init>", "(JI)V"⟩ : MethodName) (head1 (Jvm.Cond.code (⟨"com/example/cicada/cicada/Level", "<init>", "(JI)V"⟩ : MethodName) prog_5_method_1_code 4 none :: ws) ({ frames := 6, cells := 18, slots := 113, locals := 3095 } : Room)) (fun a U => a = #[(.ref a1), (.long q2), (.int (Int32.ofNat n))] ∧ Z.WarmedH U.vm ∧ U.heap = h0) (fun _ _ _ _ _ => True) (fun _ U o U' => ∃ v L, o = .returned v ∧ Q_rmI2 Z a1 q2 n h0 n0 v U'.heap L ∧ FrameEnd U o U' L ({ frames := 6, cells := 18, slots := 113, locals := 3095 } : Room).cells ({ frames := 6, cells := 18, slots := 113, locals := 3095 } : Room).slots) := by
  refine MetFree.of_bodySF (plainFor_of_name pn_com_example_cicada_cicada_Level) hisR ?_
  intro p e s m args below meth c s₁ Bd hml0 hP hK
  obtain ⟨rfl, hH, hh⟩ := hP
  have hZ := hH.wide
  have hx := Bd.exec
  have hby := Bd.bytes
  have hml : c.maxLocals = 4 := hml0
  have hown : s.vm.findClass "com/example/cicada/cicada/Level" = some m.cls := findClass_of_methodNamed Bd.named
  have hnm := (name_of_methodNamed Bd.named Bd.method).1
  have X0 : Stand p l e ({ frames := 6, cells := 18, slots := 113, locals := 3095 } : Room) s m #[(.ref a1), (.long q2), (.int (Int32.ofNat n))] below meth c s₁ [] 0 0 := Stand.of_body Bd
  have e0 : s₁.heap = h0 := by rw [← hh, Bd.state]; rfl
  have N0 := Fr.nil n0
  have KP0 : Keep h0 h0 [a1] := Keep.refl h0 [a1]
  have go0 : Goes p e below s₁ (G_rmI2 m a1 q2 n) s₁ (mkF m 0 #[.val (.ref a1), .val (.long q2), .second, .val (.int (Int32.ofNat n))] []) := fun tq kq => castTop (by first | (simp [entryFrame, mkF, argsToLocals, Value.category, G_rmI2]; done) | rfl) kq
  have go75 : Goes p e below s₁ (G_rmI2 m a1 q2 n) s₁ (mkF m 6 #[.val (.ref a1), .val (.long q2), .second, .val (.int (Int32.ofNat n))] [(.int (Int32.ofNat n)), (.long q2), (.long (0 : Int64)), (.long q2), (.long q2), (.ref a1)]) := fun tq kq => go0 tq (by
    show Steps p.tables e below (s₁.setTop (mkF m 0 #[.val (.ref a1), .val (.long q2), .second, .val (.int (Int32.ofNat n))] [])) _
    refine XS.aloadN X0.here hx rfl (hb hby d2_0) rfl rfl ?_
    show Steps p.tables e below (s₁.setTop (mkF m 1 #[.val (.ref a1), .val (.long q2), .second, .val (.int (Int32.ofNat n))] [(.ref a1)])) _
    refine XS.lloadN X0.here hx rfl (hb hby d2_1) rfl ?_
    show Steps p.tables e below (s₁.setTop (mkF m 2 #[.val (.ref a1), .val (.long q2), .second, .val (.int (Int32.ofNat n))] [(.long q2), (.ref a1)])) _
    refine XS.lloadN X0.here hx rfl (hb hby d2_2) rfl ?_
    show Steps p.tables e below (s₁.setTop (mkF m 3 #[.val (.ref a1), .val (.long q2), .second, .val (.int (Int32.ofNat n))] [(.long q2), (.long q2), (.ref a1)])) _
    refine XS.lconst X0.here hx rfl (hb hby d2_3) ?_
    show Steps p.tables e below (s₁.setTop (mkF m 4 #[.val (.ref a1), .val (.long q2), .second, .val (.int (Int32.ofNat n))] [(.long (0 : Int64)), (.long q2), (.long q2), (.ref a1)])) _
    refine XS.lloadN X0.here hx rfl (hb hby d2_4) rfl ?_
    show Steps p.tables e below (s₁.setTop (mkF m 5 #[.val (.ref a1), .val (.long q2), .second, .val (.int (Int32.ofNat n))] [(.long q2), (.long (0 : Int64)), (.long q2), (.long q2), (.ref a1)])) _
    refine XS.iloadN X0.here hx rfl (hb hby d2_5) rfl ?_
    exact kq)
  obtain ⟨vv76, _, ⟨T76, L76, k76, n76⟩, -, X76, ⟨Lc76, hQ76, l76, y76, z76⟩, st76⟩ := X0.specialBack hx (y := (⟨"com/example/cicada/cicada/Level", "<init>", "(JJJJI)V"⟩ : MethodName)) rfl hown (mvT hZ (tw12 hw)) (mvT hZ (tw13 hw)) (mvT hZ (tw14 hw)) (by decide) (own_backH (W := 0) (rmI5 l Z a0 hw [] a1 q2 q2 (0 : Int64) q2 n h0 n0 Z0 g_a1 Ex F_seenFrom F_tick F_lead F_moveTime F_firstLead F_span F_buckets F_spare F_moving hn1 hn2) hH (tw14 hw) (tw8 hw) (by decide) (by decide)) (g := (mkF m 6 #[.val (.ref a1), .val (.long q2), .second, .val (.int (Int32.ofNat n))] [(.int (Int32.ofNat n)), (.long q2), (.long (0 : Int64)), (.long q2), (.long q2), (.ref a1)])) rfl (by rw [hml]; rfl) (Steps.refl _) (a := a1) (argsL := [(.long q2), (.long q2), (.long (0 : Int64)), (.long q2), (.int (Int32.ofNat n))]) (rest := []) (lenOf pd_5 rfl) rfl (by show 2 * 0 + _ ≤ _; exact Nat.le_of_eq rfl) (hb hby d2_6) (fun _ _ => ⟨rfl, e0, (by decide : 0 + 18 ≤ _), (by decide : 0 + 113 ≤ _)⟩)
  dsimp only [Pt.U, Pt.locs, Pt.cells, Pt.slots] at X76 l76 y76 z76 st76 hQ76
  subst l76 y76 z76
  obtain ⟨rfl, Nq76, K76, rest76⟩ := hQ76
  have N76 := Fr.app N0 Nq76
  have ZS76 : n0 ≤ T76.heap.size := Nat.le_trans Z0 K76.1
  have KP76 : Keep h0 T76.heap [a1] := KP0.trans K76 (allS (Or.inl (List.mem_of_getElem? (i := 0) rfl)) all0)
  have go76 : Goes p e below s₁ (G_rmI2 m a1 q2 n) T76 (mkF m 9 #[.val (.ref a1), .val (.long q2), .second, .val (.int (Int32.ofNat n))] []) := fun tq kq => go75 tq (st76.trans kq)
  obtain ⟨fs, hr, hrun, hended, hW, hsame⟩ := X76.leave (v := none) (fun _ => rfl)
  refine ⟨_, _, go76 _ ?_, hrun, hended, _, _, rfl, ?_, ⟨_, rfl⟩, hW, hsame.mono (by decide) (by decide)⟩
  · exact X76.returnOut hx Bd.returns (hb hby d2_9) hr
  · show Q_rmI2 Z a1 q2 n h0 n0 _ T76.heap _
    exact ⟨rfl, N76, KP76, rest76⟩
def fdv (q1 : Int64) (q2 : Int64) : Int64 := (if (q1 ^^^ q2) < (0 : Int64) then (if ((q1 / q2) * q2) = q1 then (q1 / q2) else ((q1 / q2) - (1 : Int64))) else (q1 / q2))
abbrev G_rmFd (m : MethodId) (q1 : Int64) (q2 : Int64) : JFrame := (entryFrame m #[(.long q1), (.long q2)] 6)
theorem d13_0 : decode jdk_29_method_49_code 0 = .ok (.lload_n 0, 1) := by decide +kernel
theorem d13_1 : decode jdk_29_method_49_code 1 = .ok (.lload_n 2, 1) := by decide +kernel
theorem d13_2 : decode jdk_29_method_49_code 2 = .ok (.ldiv, 1) := by decide +kernel
theorem d13_3 : decode jdk_29_method_49_code 3 = .ok (.lstore 4, 2) := by decide +kernel
theorem d13_5 : decode jdk_29_method_49_code 5 = .ok (.lload_n 0, 1) := by decide +kernel
theorem d13_6 : decode jdk_29_method_49_code 6 = .ok (.lload_n 2, 1) := by decide +kernel
theorem d13_7 : decode jdk_29_method_49_code 7 = .ok (.lxor, 1) := by decide +kernel
theorem d13_8 : decode jdk_29_method_49_code 8 = .ok (.lconst 0, 1) := by decide +kernel
theorem d13_9 : decode jdk_29_method_49_code 9 = .ok (.lcmp, 1) := by decide +kernel
theorem d13_10 : decode jdk_29_method_49_code 10 = .ok (.ifCond .ge 17, 3) := by decide +kernel
theorem d13_27 : decode jdk_29_method_49_code 27 = .ok (.lload 4, 2) := by decide +kernel
theorem d13_29 : decode jdk_29_method_49_code 29 = .ok (.lreturn, 1) := by decide +kernel
theorem d13_13 : decode jdk_29_method_49_code 13 = .ok (.lload 4, 2) := by decide +kernel
theorem d13_15 : decode jdk_29_method_49_code 15 = .ok (.lload_n 2, 1) := by decide +kernel
theorem d13_16 : decode jdk_29_method_49_code 16 = .ok (.lmul, 1) := by decide +kernel
theorem d13_17 : decode jdk_29_method_49_code 17 = .ok (.lload_n 0, 1) := by decide +kernel
theorem d13_18 : decode jdk_29_method_49_code 18 = .ok (.lcmp, 1) := by decide +kernel
theorem d13_19 : decode jdk_29_method_49_code 19 = .ok (.ifCond .eq 8, 3) := by decide +kernel
theorem d13_22 : decode jdk_29_method_49_code 22 = .ok (.lload 4, 2) := by decide +kernel
theorem d13_24 : decode jdk_29_method_49_code 24 = .ok (.lconst 1, 1) := by decide +kernel
theorem d13_25 : decode jdk_29_method_49_code 25 = .ok (.lsub, 1) := by decide +kernel
theorem d13_26 : decode jdk_29_method_49_code 26 = .ok (.lreturn, 1) := by decide +kernel
def Q_rmFd (Z : State) (q1 : Int64) (q2 : Int64)  (h0 : Heap) (n0 : Nat) (v : Option Value) (h : Heap) (L : List Loc) : Prop := v = some (.long (fdv q1 q2)) ∧ Fr n0 L ∧ h = h0
set_option maxRecDepth 65536 in
set_option maxHeartbeats 40000000 in
theorem rmFd (l : Launch) (Z : State) (a0 : Array Value) (hw : ∀ d ∈ tables_1, d.before a0 Z = true) (ws : List Jvm.Cond) (q1 : Int64) (q2 : Int64)  (h0 : Heap) (n0 : Nat) (Z0 : n0 ≤ h0.size) (hnz : q2 ≠ 0) :
    MetFree l (⟨"java/lang/Math", "floorDiv", "(JJ)J"⟩ : MethodName) (head1 (Jvm.Cond.code (⟨"java/lang/Math", "floorDiv", "(JJ)J"⟩ : MethodName) jdk_29_method_49_code 6 (some .long) :: ws) ({ frames := 0, cells := 0, slots := 0, locals := 0 } : Room)) (fun a U => a = #[(.long q1), (.long q2)] ∧ Z.Warmed39 U.vm ∧ U.heap = h0) (fun _ _ _ _ _ => True) (fun _ U o U' => ∃ v L, o = .returned v ∧ Q_rmFd Z q1 q2 h0 n0 v U'.heap L ∧ FrameEnd U o U' L ({ frames := 0, cells := 0, slots := 0, locals := 0 } : Room).cells ({ frames := 0, cells := 0, slots := 0, locals := 0 } : Room).slots) := by
  refine MetFree.of_bodySF (Jvm.Free.JP.mathPlain rfl (by decide +kernel)) hisR ?_
  intro p e s m args below meth c s₁ Bd hml0 hP hK
  obtain ⟨rfl, hZ, hh⟩ := hP
  have hx := Bd.exec
  have hby := Bd.bytes
  have hml : c.maxLocals = 6 := hml0
  have hown : s.vm.findClass "java/lang/Math" = some m.cls := findClass_of_methodNamed Bd.named
  have hnm := (name_of_methodNamed Bd.named Bd.method).1
  have X0 : Stand p l e ({ frames := 0, cells := 0, slots := 0, locals := 0 } : Room) s m #[(.long q1), (.long q2)] below meth c s₁ [] 0 0 := Stand.of_body Bd
  have e0 : s₁.heap = h0 := by rw [← hh, Bd.state]; rfl
  have N0 := Fr.nil n0
  have go0 : Goes p e below s₁ (G_rmFd m q1 q2) s₁ (mkF m 0 #[.val (.long q1), .second, .val (.long q2), .second, .unset, .unset] []) := fun tq kq => castTop (by first | (simp [entryFrame, mkF, argsToLocals, Value.category, G_rmFd]; done) | rfl) kq
  have go77 : Goes p e below s₁ (G_rmFd m q1 q2) s₁ (mkF m 10 #[.val (.long q1), .second, .val (.long q2), .second, .val (.long (q1 / q2)), .second] [(.int (lcmpW (q1 ^^^ q2) (0 : Int64)))]) := fun tq kq => go0 tq (by
    show Steps p.tables e below (s₁.setTop (mkF m 0 #[.val (.long q1), .second, .val (.long q2), .second, .unset, .unset] [])) _
    refine XS.lloadN X0.here hx rfl (hb hby d13_0) rfl ?_
    show Steps p.tables e below (s₁.setTop (mkF m 1 #[.val (.long q1), .second, .val (.long q2), .second, .unset, .unset] [(.long q1)])) _
    refine XS.lloadN X0.here hx rfl (hb hby d13_1) rfl ?_
    show Steps p.tables e below (s₁.setTop (mkF m 2 #[.val (.long q1), .second, .val (.long q2), .second, .unset, .unset] [(.long q2), (.long q1)])) _
    refine XS.ldiv X0.here hx rfl (hb hby d13_2) rfl hnz ?_
    show Steps p.tables e below (s₁.setTop (mkF m 3 #[.val (.long q1), .second, .val (.long q2), .second, .unset, .unset] [(.long (q1 / q2))])) _
    refine XS.lstore X0.here hx rfl (hb hby d13_3) rfl (l' := #[.val (.long q1), .second, .val (.long q2), .second, .val (.long (q1 / q2)), .second]) rfl ?_
    show Steps p.tables e below (s₁.setTop (mkF m 5 #[.val (.long q1), .second, .val (.long q2), .second, .val (.long (q1 / q2)), .second] [])) _
    refine XS.lloadN X0.here hx rfl (hb hby d13_5) rfl ?_
    show Steps p.tables e below (s₁.setTop (mkF m 6 #[.val (.long q1), .second, .val (.long q2), .second, .val (.long (q1 / q2)), .second] [(.long q1)])) _
    refine XS.lloadN X0.here hx rfl (hb hby d13_6) rfl ?_
    show Steps p.tables e below (s₁.setTop (mkF m 7 #[.val (.long q1), .second, .val (.long q2), .second, .val (.long (q1 / q2)), .second] [(.long q2), (.long q1)])) _
    refine XS.lxor X0.here hx rfl (hb hby d13_7) rfl ?_
    show Steps p.tables e below (s₁.setTop (mkF m 8 #[.val (.long q1), .second, .val (.long q2), .second, .val (.long (q1 / q2)), .second] [(.long (q1 ^^^ q2))])) _
    refine XS.lconst X0.here hx rfl (hb hby d13_8) ?_
    show Steps p.tables e below (s₁.setTop (mkF m 9 #[.val (.long q1), .second, .val (.long q2), .second, .val (.long (q1 / q2)), .second] [(.long (0 : Int64)), (.long (q1 ^^^ q2))])) _
    refine XS.lcmp X0.here hx rfl (hb hby d13_9) rfl ?_
    exact kq)
  by_cases hc10_78 : (q1 ^^^ q2) < (0 : Int64)
  · have go80 : Goes p e below s₁ (G_rmFd m q1 q2) s₁ (mkF m 19 #[.val (.long q1), .second, .val (.long q2), .second, .val (.long (q1 / q2)), .second] [(.int (lcmpW ((q1 / q2) * q2) q1))]) := fun tq kq => go77 tq (by
      show Steps p.tables e below (s₁.setTop (mkF m 10 #[.val (.long q1), .second, .val (.long q2), .second, .val (.long (q1 / q2)), .second] [(.int (lcmpW (q1 ^^^ q2) (0 : Int64)))])) _
      refine XS.ifNo X0.here hx rfl (hb hby d13_10) rfl ((if0 _ _).trans (tlt (own_lclt hc10_78)).2.1) ?_
      show Steps p.tables e below (s₁.setTop (mkF m 13 #[.val (.long q1), .second, .val (.long q2), .second, .val (.long (q1 / q2)), .second] [])) _
      refine XS.lload X0.here hx rfl (hb hby d13_13) rfl ?_
      show Steps p.tables e below (s₁.setTop (mkF m 15 #[.val (.long q1), .second, .val (.long q2), .second, .val (.long (q1 / q2)), .second] [(.long (q1 / q2))])) _
      refine XS.lloadN X0.here hx rfl (hb hby d13_15) rfl ?_
      show Steps p.tables e below (s₁.setTop (mkF m 16 #[.val (.long q1), .second, .val (.long q2), .second, .val (.long (q1 / q2)), .second] [(.long q2), (.long (q1 / q2))])) _
      refine XS.lmul X0.here hx rfl (hb hby d13_16) rfl ?_
      show Steps p.tables e below (s₁.setTop (mkF m 17 #[.val (.long q1), .second, .val (.long q2), .second, .val (.long (q1 / q2)), .second] [(.long ((q1 / q2) * q2))])) _
      refine XS.lloadN X0.here hx rfl (hb hby d13_17) rfl ?_
      show Steps p.tables e below (s₁.setTop (mkF m 18 #[.val (.long q1), .second, .val (.long q2), .second, .val (.long (q1 / q2)), .second] [(.long q1), (.long ((q1 / q2) * q2))])) _
      refine XS.lcmp X0.here hx rfl (hb hby d13_18) rfl ?_
      exact kq)
    by_cases hc19_81 : ((q1 / q2) * q2) = q1
    · have go82 : Goes p e below s₁ (G_rmFd m q1 q2) s₁ (mkF m 29 #[.val (.long q1), .second, .val (.long q2), .second, .val (.long (q1 / q2)), .second] [(.long (q1 / q2))]) := fun tq kq => go80 tq (by
        show Steps p.tables e below (s₁.setTop (mkF m 19 #[.val (.long q1), .second, .val (.long q2), .second, .val (.long (q1 / q2)), .second] [(.int (lcmpW ((q1 / q2) * q2) q1))])) _
        refine XS.ifYes X0.here hx rfl (pc0 := 19) (pc' := 27) rfl (hb hby d13_19) rfl ((if0 _ _).trans (teq (own_lceq hc19_81)).1) (by decide) (by decide) ?_
        show Steps p.tables e below (s₁.setTop (mkF m 27 #[.val (.long q1), .second, .val (.long q2), .second, .val (.long (q1 / q2)), .second] [])) _
        refine XS.lload X0.here hx rfl (hb hby d13_27) rfl ?_
        exact kq)
      obtain ⟨fs, hr, hrun, hended, hW, hsame⟩ := X0.leave (v := some (.long (q1 / q2))) (fun h => by rw [Bd.returns] at h; cases h)
      refine ⟨_, _, go82 _ ?_, hrun, hended, _, _, rfl, ?_, ⟨_, rfl⟩, hW, hsame.mono (by decide) (by decide)⟩
      · jvm_step X0.here [X0.here.top, hx, (hb hby d13_29), X0.method', Bd.returns, narrow]
        first | (intro acts; rw [hr _ acts rfl rfl rfl]) | rw [hr _ _ rfl rfl rfl]
        exact Steps.refl _
      · show Q_rmFd Z q1 q2 h0 n0 _ s₁.heap _
        rw [e0]
        exact ⟨congrArg (fun z => some (Value.long z)) (Eq.symm (show (fdv q1 q2) = (q1 / q2) from ((if_pos hc10_78).trans (if_pos hc19_81)))), N0, rfl⟩
    · have go83 : Goes p e below s₁ (G_rmFd m q1 q2) s₁ (mkF m 26 #[.val (.long q1), .second, .val (.long q2), .second, .val (.long (q1 / q2)), .second] [(.long ((q1 / q2) - (1 : Int64)))]) := fun tq kq => go80 tq (by
        show Steps p.tables e below (s₁.setTop (mkF m 19 #[.val (.long q1), .second, .val (.long q2), .second, .val (.long (q1 / q2)), .second] [(.int (lcmpW ((q1 / q2) * q2) q1))])) _
        refine XS.ifNo X0.here hx rfl (hb hby d13_19) rfl ((if0 _ _).trans (feq (own_lcne hc19_81)).1) ?_
        show Steps p.tables e below (s₁.setTop (mkF m 22 #[.val (.long q1), .second, .val (.long q2), .second, .val (.long (q1 / q2)), .second] [])) _
        refine XS.lload X0.here hx rfl (hb hby d13_22) rfl ?_
        show Steps p.tables e below (s₁.setTop (mkF m 24 #[.val (.long q1), .second, .val (.long q2), .second, .val (.long (q1 / q2)), .second] [(.long (q1 / q2))])) _
        refine XS.lconst X0.here hx rfl (hb hby d13_24) ?_
        show Steps p.tables e below (s₁.setTop (mkF m 25 #[.val (.long q1), .second, .val (.long q2), .second, .val (.long (q1 / q2)), .second] [(.long (1 : Int64)), (.long (q1 / q2))])) _
        refine XS.lsub X0.here hx rfl (hb hby d13_25) rfl ?_
        exact kq)
      obtain ⟨fs, hr, hrun, hended, hW, hsame⟩ := X0.leave (v := some (.long ((q1 / q2) - (1 : Int64)))) (fun h => by rw [Bd.returns] at h; cases h)
      refine ⟨_, _, go83 _ ?_, hrun, hended, _, _, rfl, ?_, ⟨_, rfl⟩, hW, hsame.mono (by decide) (by decide)⟩
      · jvm_step X0.here [X0.here.top, hx, (hb hby d13_26), X0.method', Bd.returns, narrow]
        first | (intro acts; rw [hr _ acts rfl rfl rfl]) | rw [hr _ _ rfl rfl rfl]
        exact Steps.refl _
      · show Q_rmFd Z q1 q2 h0 n0 _ s₁.heap _
        rw [e0]
        exact ⟨congrArg (fun z => some (Value.long z)) (Eq.symm (show (fdv q1 q2) = ((q1 / q2) - (1 : Int64)) from ((if_pos hc10_78).trans (if_neg hc19_81)))), N0, rfl⟩
  · have go79 : Goes p e below s₁ (G_rmFd m q1 q2) s₁ (mkF m 29 #[.val (.long q1), .second, .val (.long q2), .second, .val (.long (q1 / q2)), .second] [(.long (q1 / q2))]) := fun tq kq => go77 tq (by
      show Steps p.tables e below (s₁.setTop (mkF m 10 #[.val (.long q1), .second, .val (.long q2), .second, .val (.long (q1 / q2)), .second] [(.int (lcmpW (q1 ^^^ q2) (0 : Int64)))])) _
      refine XS.ifYes X0.here hx rfl (pc0 := 10) (pc' := 27) rfl (hb hby d13_10) rfl ((if0 _ _).trans (flt (own_lcge hc10_78)).2.1) (by decide) (by decide) ?_
      show Steps p.tables e below (s₁.setTop (mkF m 27 #[.val (.long q1), .second, .val (.long q2), .second, .val (.long (q1 / q2)), .second] [])) _
      refine XS.lload X0.here hx rfl (hb hby d13_27) rfl ?_
      exact kq)
    obtain ⟨fs, hr, hrun, hended, hW, hsame⟩ := X0.leave (v := some (.long (q1 / q2))) (fun h => by rw [Bd.returns] at h; cases h)
    refine ⟨_, _, go79 _ ?_, hrun, hended, _, _, rfl, ?_, ⟨_, rfl⟩, hW, hsame.mono (by decide) (by decide)⟩
    · jvm_step X0.here [X0.here.top, hx, (hb hby d13_29), X0.method', Bd.returns, narrow]
      first | (intro acts; rw [hr _ acts rfl rfl rfl]) | rw [hr _ _ rfl rfl rfl]
      exact Steps.refl _
    · show Q_rmFd Z q1 q2 h0 n0 _ s₁.heap _
      rw [e0]
      exact ⟨congrArg (fun z => some (Value.long z)) (Eq.symm (show (fdv q1 q2) = (q1 / q2) from (if_neg hc10_78))), N0, rfl⟩
def fmv (q1 : Int64) (q2 : Int64) : Int64 := (if (q1 ^^^ q2) < (0 : Int64) then (if (q1 - (q1 / q2) * q2) = (0 : Int64) then (q1 - (q1 / q2) * q2) else ((q1 - (q1 / q2) * q2) + q2)) else (q1 - (q1 / q2) * q2))
abbrev G_rmFm (m : MethodId) (q1 : Int64) (q2 : Int64) : JFrame := (entryFrame m #[(.long q1), (.long q2)] 6)
theorem d15_0 : decode jdk_29_method_52_code 0 = .ok (.lload_n 0, 1) := by decide +kernel
theorem d15_1 : decode jdk_29_method_52_code 1 = .ok (.lload_n 2, 1) := by decide +kernel
theorem d15_2 : decode jdk_29_method_52_code 2 = .ok (.lrem, 1) := by decide +kernel
theorem d15_3 : decode jdk_29_method_52_code 3 = .ok (.lstore 4, 2) := by decide +kernel
theorem d15_5 : decode jdk_29_method_52_code 5 = .ok (.lload_n 0, 1) := by decide +kernel
theorem d15_6 : decode jdk_29_method_52_code 6 = .ok (.lload_n 2, 1) := by decide +kernel
theorem d15_7 : decode jdk_29_method_52_code 7 = .ok (.lxor, 1) := by decide +kernel
theorem d15_8 : decode jdk_29_method_52_code 8 = .ok (.lconst 0, 1) := by decide +kernel
theorem d15_9 : decode jdk_29_method_52_code 9 = .ok (.lcmp, 1) := by decide +kernel
theorem d15_10 : decode jdk_29_method_52_code 10 = .ok (.ifCond .ge 15, 3) := by decide +kernel
theorem d15_25 : decode jdk_29_method_52_code 25 = .ok (.lload 4, 2) := by decide +kernel
theorem d15_27 : decode jdk_29_method_52_code 27 = .ok (.lreturn, 1) := by decide +kernel
theorem d15_13 : decode jdk_29_method_52_code 13 = .ok (.lload 4, 2) := by decide +kernel
theorem d15_15 : decode jdk_29_method_52_code 15 = .ok (.lconst 0, 1) := by decide +kernel
theorem d15_16 : decode jdk_29_method_52_code 16 = .ok (.lcmp, 1) := by decide +kernel
theorem d15_17 : decode jdk_29_method_52_code 17 = .ok (.ifCond .eq 8, 3) := by decide +kernel
theorem d15_20 : decode jdk_29_method_52_code 20 = .ok (.lload 4, 2) := by decide +kernel
theorem d15_22 : decode jdk_29_method_52_code 22 = .ok (.lload_n 2, 1) := by decide +kernel
theorem d15_23 : decode jdk_29_method_52_code 23 = .ok (.ladd, 1) := by decide +kernel
theorem d15_24 : decode jdk_29_method_52_code 24 = .ok (.lreturn, 1) := by decide +kernel
def Q_rmFm (Z : State) (q1 : Int64) (q2 : Int64)  (h0 : Heap) (n0 : Nat) (v : Option Value) (h : Heap) (L : List Loc) : Prop := v = some (.long (fmv q1 q2)) ∧ Fr n0 L ∧ h = h0
set_option maxRecDepth 65536 in
set_option maxHeartbeats 40000000 in
theorem rmFm (l : Launch) (Z : State) (a0 : Array Value) (hw : ∀ d ∈ tables_1, d.before a0 Z = true) (ws : List Jvm.Cond) (q1 : Int64) (q2 : Int64)  (h0 : Heap) (n0 : Nat) (Z0 : n0 ≤ h0.size) (hnz : q2 ≠ 0) :
    MetFree l (⟨"java/lang/Math", "floorMod", "(JJ)J"⟩ : MethodName) (head1 (Jvm.Cond.code (⟨"java/lang/Math", "floorMod", "(JJ)J"⟩ : MethodName) jdk_29_method_52_code 6 (some .long) :: ws) ({ frames := 0, cells := 0, slots := 0, locals := 0 } : Room)) (fun a U => a = #[(.long q1), (.long q2)] ∧ Z.Warmed39 U.vm ∧ U.heap = h0) (fun _ _ _ _ _ => True) (fun _ U o U' => ∃ v L, o = .returned v ∧ Q_rmFm Z q1 q2 h0 n0 v U'.heap L ∧ FrameEnd U o U' L ({ frames := 0, cells := 0, slots := 0, locals := 0 } : Room).cells ({ frames := 0, cells := 0, slots := 0, locals := 0 } : Room).slots) := by
  refine MetFree.of_bodySF (Jvm.Free.JP.mathPlain rfl (by decide +kernel)) hisR ?_
  intro p e s m args below meth c s₁ Bd hml0 hP hK
  obtain ⟨rfl, hZ, hh⟩ := hP
  have hx := Bd.exec
  have hby := Bd.bytes
  have hml : c.maxLocals = 6 := hml0
  have hown : s.vm.findClass "java/lang/Math" = some m.cls := findClass_of_methodNamed Bd.named
  have hnm := (name_of_methodNamed Bd.named Bd.method).1
  have X0 : Stand p l e ({ frames := 0, cells := 0, slots := 0, locals := 0 } : Room) s m #[(.long q1), (.long q2)] below meth c s₁ [] 0 0 := Stand.of_body Bd
  have e0 : s₁.heap = h0 := by rw [← hh, Bd.state]; rfl
  have N0 := Fr.nil n0
  have go0 : Goes p e below s₁ (G_rmFm m q1 q2) s₁ (mkF m 0 #[.val (.long q1), .second, .val (.long q2), .second, .unset, .unset] []) := fun tq kq => castTop (by first | (simp [entryFrame, mkF, argsToLocals, Value.category, G_rmFm]; done) | rfl) kq
  have go84 : Goes p e below s₁ (G_rmFm m q1 q2) s₁ (mkF m 10 #[.val (.long q1), .second, .val (.long q2), .second, .val (.long (q1 - (q1 / q2) * q2)), .second] [(.int (lcmpW (q1 ^^^ q2) (0 : Int64)))]) := fun tq kq => go0 tq (by
    show Steps p.tables e below (s₁.setTop (mkF m 0 #[.val (.long q1), .second, .val (.long q2), .second, .unset, .unset] [])) _
    refine XS.lloadN X0.here hx rfl (hb hby d15_0) rfl ?_
    show Steps p.tables e below (s₁.setTop (mkF m 1 #[.val (.long q1), .second, .val (.long q2), .second, .unset, .unset] [(.long q1)])) _
    refine XS.lloadN X0.here hx rfl (hb hby d15_1) rfl ?_
    show Steps p.tables e below (s₁.setTop (mkF m 2 #[.val (.long q1), .second, .val (.long q2), .second, .unset, .unset] [(.long q2), (.long q1)])) _
    refine XS.lrem X0.here hx rfl (hb hby d15_2) rfl hnz ?_
    show Steps p.tables e below (s₁.setTop (mkF m 3 #[.val (.long q1), .second, .val (.long q2), .second, .unset, .unset] [(.long (q1 - (q1 / q2) * q2))])) _
    refine XS.lstore X0.here hx rfl (hb hby d15_3) rfl (l' := #[.val (.long q1), .second, .val (.long q2), .second, .val (.long (q1 - (q1 / q2) * q2)), .second]) rfl ?_
    show Steps p.tables e below (s₁.setTop (mkF m 5 #[.val (.long q1), .second, .val (.long q2), .second, .val (.long (q1 - (q1 / q2) * q2)), .second] [])) _
    refine XS.lloadN X0.here hx rfl (hb hby d15_5) rfl ?_
    show Steps p.tables e below (s₁.setTop (mkF m 6 #[.val (.long q1), .second, .val (.long q2), .second, .val (.long (q1 - (q1 / q2) * q2)), .second] [(.long q1)])) _
    refine XS.lloadN X0.here hx rfl (hb hby d15_6) rfl ?_
    show Steps p.tables e below (s₁.setTop (mkF m 7 #[.val (.long q1), .second, .val (.long q2), .second, .val (.long (q1 - (q1 / q2) * q2)), .second] [(.long q2), (.long q1)])) _
    refine XS.lxor X0.here hx rfl (hb hby d15_7) rfl ?_
    show Steps p.tables e below (s₁.setTop (mkF m 8 #[.val (.long q1), .second, .val (.long q2), .second, .val (.long (q1 - (q1 / q2) * q2)), .second] [(.long (q1 ^^^ q2))])) _
    refine XS.lconst X0.here hx rfl (hb hby d15_8) ?_
    show Steps p.tables e below (s₁.setTop (mkF m 9 #[.val (.long q1), .second, .val (.long q2), .second, .val (.long (q1 - (q1 / q2) * q2)), .second] [(.long (0 : Int64)), (.long (q1 ^^^ q2))])) _
    refine XS.lcmp X0.here hx rfl (hb hby d15_9) rfl ?_
    exact kq)
  by_cases hc10_85 : (q1 ^^^ q2) < (0 : Int64)
  · have go87 : Goes p e below s₁ (G_rmFm m q1 q2) s₁ (mkF m 17 #[.val (.long q1), .second, .val (.long q2), .second, .val (.long (q1 - (q1 / q2) * q2)), .second] [(.int (lcmpW (q1 - (q1 / q2) * q2) (0 : Int64)))]) := fun tq kq => go84 tq (by
      show Steps p.tables e below (s₁.setTop (mkF m 10 #[.val (.long q1), .second, .val (.long q2), .second, .val (.long (q1 - (q1 / q2) * q2)), .second] [(.int (lcmpW (q1 ^^^ q2) (0 : Int64)))])) _
      refine XS.ifNo X0.here hx rfl (hb hby d15_10) rfl ((if0 _ _).trans (tlt (own_lclt hc10_85)).2.1) ?_
      show Steps p.tables e below (s₁.setTop (mkF m 13 #[.val (.long q1), .second, .val (.long q2), .second, .val (.long (q1 - (q1 / q2) * q2)), .second] [])) _
      refine XS.lload X0.here hx rfl (hb hby d15_13) rfl ?_
      show Steps p.tables e below (s₁.setTop (mkF m 15 #[.val (.long q1), .second, .val (.long q2), .second, .val (.long (q1 - (q1 / q2) * q2)), .second] [(.long (q1 - (q1 / q2) * q2))])) _
      refine XS.lconst X0.here hx rfl (hb hby d15_15) ?_
      show Steps p.tables e below (s₁.setTop (mkF m 16 #[.val (.long q1), .second, .val (.long q2), .second, .val (.long (q1 - (q1 / q2) * q2)), .second] [(.long (0 : Int64)), (.long (q1 - (q1 / q2) * q2))])) _
      refine XS.lcmp X0.here hx rfl (hb hby d15_16) rfl ?_
      exact kq)
    by_cases hc17_88 : (q1 - (q1 / q2) * q2) = (0 : Int64)
    · have go89 : Goes p e below s₁ (G_rmFm m q1 q2) s₁ (mkF m 27 #[.val (.long q1), .second, .val (.long q2), .second, .val (.long (q1 - (q1 / q2) * q2)), .second] [(.long (q1 - (q1 / q2) * q2))]) := fun tq kq => go87 tq (by
        show Steps p.tables e below (s₁.setTop (mkF m 17 #[.val (.long q1), .second, .val (.long q2), .second, .val (.long (q1 - (q1 / q2) * q2)), .second] [(.int (lcmpW (q1 - (q1 / q2) * q2) (0 : Int64)))])) _
        refine XS.ifYes X0.here hx rfl (pc0 := 17) (pc' := 25) rfl (hb hby d15_17) rfl ((if0 _ _).trans (teq (own_lceq hc17_88)).1) (by decide) (by decide) ?_
        show Steps p.tables e below (s₁.setTop (mkF m 25 #[.val (.long q1), .second, .val (.long q2), .second, .val (.long (q1 - (q1 / q2) * q2)), .second] [])) _
        refine XS.lload X0.here hx rfl (hb hby d15_25) rfl ?_
        exact kq)
      obtain ⟨fs, hr, hrun, hended, hW, hsame⟩ := X0.leave (v := some (.long (q1 - (q1 / q2) * q2))) (fun h => by rw [Bd.returns] at h; cases h)
      refine ⟨_, _, go89 _ ?_, hrun, hended, _, _, rfl, ?_, ⟨_, rfl⟩, hW, hsame.mono (by decide) (by decide)⟩
      · jvm_step X0.here [X0.here.top, hx, (hb hby d15_27), X0.method', Bd.returns, narrow]
        first | (intro acts; rw [hr _ acts rfl rfl rfl]) | rw [hr _ _ rfl rfl rfl]
        exact Steps.refl _
      · show Q_rmFm Z q1 q2 h0 n0 _ s₁.heap _
        rw [e0]
        exact ⟨congrArg (fun z => some (Value.long z)) (Eq.symm (show (fmv q1 q2) = (q1 - (q1 / q2) * q2) from ((if_pos hc10_85).trans (if_pos hc17_88)))), N0, rfl⟩
    · have go90 : Goes p e below s₁ (G_rmFm m q1 q2) s₁ (mkF m 24 #[.val (.long q1), .second, .val (.long q2), .second, .val (.long (q1 - (q1 / q2) * q2)), .second] [(.long ((q1 - (q1 / q2) * q2) + q2))]) := fun tq kq => go87 tq (by
        show Steps p.tables e below (s₁.setTop (mkF m 17 #[.val (.long q1), .second, .val (.long q2), .second, .val (.long (q1 - (q1 / q2) * q2)), .second] [(.int (lcmpW (q1 - (q1 / q2) * q2) (0 : Int64)))])) _
        refine XS.ifNo X0.here hx rfl (hb hby d15_17) rfl ((if0 _ _).trans (feq (own_lcne hc17_88)).1) ?_
        show Steps p.tables e below (s₁.setTop (mkF m 20 #[.val (.long q1), .second, .val (.long q2), .second, .val (.long (q1 - (q1 / q2) * q2)), .second] [])) _
        refine XS.lload X0.here hx rfl (hb hby d15_20) rfl ?_
        show Steps p.tables e below (s₁.setTop (mkF m 22 #[.val (.long q1), .second, .val (.long q2), .second, .val (.long (q1 - (q1 / q2) * q2)), .second] [(.long (q1 - (q1 / q2) * q2))])) _
        refine XS.lloadN X0.here hx rfl (hb hby d15_22) rfl ?_
        show Steps p.tables e below (s₁.setTop (mkF m 23 #[.val (.long q1), .second, .val (.long q2), .second, .val (.long (q1 - (q1 / q2) * q2)), .second] [(.long q2), (.long (q1 - (q1 / q2) * q2))])) _
        refine XS.ladd X0.here hx rfl (hb hby d15_23) rfl ?_
        exact kq)
      obtain ⟨fs, hr, hrun, hended, hW, hsame⟩ := X0.leave (v := some (.long ((q1 - (q1 / q2) * q2) + q2))) (fun h => by rw [Bd.returns] at h; cases h)
      refine ⟨_, _, go90 _ ?_, hrun, hended, _, _, rfl, ?_, ⟨_, rfl⟩, hW, hsame.mono (by decide) (by decide)⟩
      · jvm_step X0.here [X0.here.top, hx, (hb hby d15_24), X0.method', Bd.returns, narrow]
        first | (intro acts; rw [hr _ acts rfl rfl rfl]) | rw [hr _ _ rfl rfl rfl]
        exact Steps.refl _
      · show Q_rmFm Z q1 q2 h0 n0 _ s₁.heap _
        rw [e0]
        exact ⟨congrArg (fun z => some (Value.long z)) (Eq.symm (show (fmv q1 q2) = ((q1 - (q1 / q2) * q2) + q2) from ((if_pos hc10_85).trans (if_neg hc17_88)))), N0, rfl⟩
  · have go86 : Goes p e below s₁ (G_rmFm m q1 q2) s₁ (mkF m 27 #[.val (.long q1), .second, .val (.long q2), .second, .val (.long (q1 - (q1 / q2) * q2)), .second] [(.long (q1 - (q1 / q2) * q2))]) := fun tq kq => go84 tq (by
      show Steps p.tables e below (s₁.setTop (mkF m 10 #[.val (.long q1), .second, .val (.long q2), .second, .val (.long (q1 - (q1 / q2) * q2)), .second] [(.int (lcmpW (q1 ^^^ q2) (0 : Int64)))])) _
      refine XS.ifYes X0.here hx rfl (pc0 := 10) (pc' := 25) rfl (hb hby d15_10) rfl ((if0 _ _).trans (flt (own_lcge hc10_85)).2.1) (by decide) (by decide) ?_
      show Steps p.tables e below (s₁.setTop (mkF m 25 #[.val (.long q1), .second, .val (.long q2), .second, .val (.long (q1 - (q1 / q2) * q2)), .second] [])) _
      refine XS.lload X0.here hx rfl (hb hby d15_25) rfl ?_
      exact kq)
    obtain ⟨fs, hr, hrun, hended, hW, hsame⟩ := X0.leave (v := some (.long (q1 - (q1 / q2) * q2))) (fun h => by rw [Bd.returns] at h; cases h)
    refine ⟨_, _, go86 _ ?_, hrun, hended, _, _, rfl, ?_, ⟨_, rfl⟩, hW, hsame.mono (by decide) (by decide)⟩
    · jvm_step X0.here [X0.here.top, hx, (hb hby d15_27), X0.method', Bd.returns, narrow]
      first | (intro acts; rw [hr _ acts rfl rfl rfl]) | rw [hr _ _ rfl rfl rfl]
      exact Steps.refl _
    · show Q_rmFm Z q1 q2 h0 n0 _ s₁.heap _
      rw [e0]
      exact ⟨congrArg (fun z => some (Value.long z)) (Eq.symm (show (fmv q1 q2) = (q1 - (q1 / q2) * q2) from (if_neg hc10_85))), N0, rfl⟩
abbrev G_rmFi (m : MethodId) (q1 : Int64) (p2 : Int32) : JFrame := (entryFrame m #[(.long q1), (.int p2)] 3)
theorem d14_0 : decode jdk_29_method_51_code 0 = .ok (.lload_n 0, 1) := by decide +kernel
theorem d14_1 : decode jdk_29_method_51_code 1 = .ok (.iload_n 2, 1) := by decide +kernel
theorem d14_2 : decode jdk_29_method_51_code 2 = .ok (.i2l, 1) := by decide +kernel
theorem d14_3 : decode jdk_29_method_51_code 3 = .ok (.invokestatic 146, 3) := by decide +kernel
theorem pd_6 : parseMethodDescriptor "(JJ)J" = some ⟨[.long, .long], some .long⟩ := by decide +kernel
theorem d14_6 : decode jdk_29_method_51_code 6 = .ok (.l2i, 1) := by decide +kernel
theorem d14_7 : decode jdk_29_method_51_code 7 = .ok (.ireturn, 1) := by decide +kernel
def Q_rmFi (Z : State) (q1 : Int64) (p2 : Int32)  (h0 : Heap) (n0 : Nat) (v : Option Value) (h : Heap) (L : List Loc) : Prop := v = some (.int ((fmv q1 (p2.toInt64)).toInt32)) ∧ Fr n0 L ∧ h = h0
set_option maxRecDepth 65536 in
set_option maxHeartbeats 40000000 in
theorem rmFi (l : Launch) (Z : State) (a0 : Array Value) (hw : ∀ d ∈ tables_1, d.before a0 Z = true) (ws : List Jvm.Cond) (q1 : Int64) (p2 : Int32)  (h0 : Heap) (n0 : Nat) (Z0 : n0 ≤ h0.size) (hnz : p2.toInt64 ≠ 0) :
    MetFree l (⟨"java/lang/Math", "floorMod", "(JI)I"⟩ : MethodName) (head1 (Jvm.Cond.code (⟨"java/lang/Math", "floorMod", "(JI)I"⟩ : MethodName) jdk_29_method_51_code 3 (some .int) :: ws) ({ frames := 1, cells := 0, slots := 0, locals := 17 } : Room)) (fun a U => a = #[(.long q1), (.int p2)] ∧ Z.Warmed39 U.vm ∧ U.heap = h0) (fun _ _ _ _ _ => True) (fun _ U o U' => ∃ v L, o = .returned v ∧ Q_rmFi Z q1 p2 h0 n0 v U'.heap L ∧ FrameEnd U o U' L ({ frames := 1, cells := 0, slots := 0, locals := 17 } : Room).cells ({ frames := 1, cells := 0, slots := 0, locals := 17 } : Room).slots) := by
  refine MetFree.of_bodySF (Jvm.Free.JP.mathPlain rfl (by decide +kernel)) hisR ?_
  intro p e s m args below meth c s₁ Bd hml0 hP hK
  obtain ⟨rfl, hZ, hh⟩ := hP
  have hx := Bd.exec
  have hby := Bd.bytes
  have hml : c.maxLocals = 3 := hml0
  have hown : s.vm.findClass "java/lang/Math" = some m.cls := findClass_of_methodNamed Bd.named
  have hnm := (name_of_methodNamed Bd.named Bd.method).1
  have X0 : Stand p l e ({ frames := 1, cells := 0, slots := 0, locals := 17 } : Room) s m #[(.long q1), (.int p2)] below meth c s₁ [] 0 0 := Stand.of_body Bd
  have e0 : s₁.heap = h0 := by rw [← hh, Bd.state]; rfl
  have N0 := Fr.nil n0
  have go0 : Goes p e below s₁ (G_rmFi m q1 p2) s₁ (mkF m 0 #[.val (.long q1), .second, .val (.int p2)] []) := fun tq kq => castTop (by first | (simp [entryFrame, mkF, argsToLocals, Value.category, G_rmFi]; done) | rfl) kq
  have go91 : Goes p e below s₁ (G_rmFi m q1 p2) s₁ (mkF m 3 #[.val (.long q1), .second, .val (.int p2)] [(.long (p2.toInt64)), (.long q1)]) := fun tq kq => go0 tq (by
    show Steps p.tables e below (s₁.setTop (mkF m 0 #[.val (.long q1), .second, .val (.int p2)] [])) _
    refine XS.lloadN X0.here hx rfl (hb hby d14_0) rfl ?_
    show Steps p.tables e below (s₁.setTop (mkF m 1 #[.val (.long q1), .second, .val (.int p2)] [(.long q1)])) _
    refine XS.iloadN X0.here hx rfl (hb hby d14_1) rfl ?_
    show Steps p.tables e below (s₁.setTop (mkF m 2 #[.val (.long q1), .second, .val (.int p2)] [(.int p2), (.long q1)])) _
    refine XS.i2l X0.here hx rfl (hb hby d14_2) rfl ?_
    exact kq)
  obtain ⟨vv92, _, ⟨T92, L92, k92, n92⟩, -, X92, ⟨Lc92, hQ92, l92, y92, z92⟩, st92⟩ := Jvm.LawKit.callS X0 hx (y := (⟨"java/lang/Math", "floorMod", "(JJ)J"⟩ : MethodName)) hown (mvT hZ (tw90 hw)) (mvT hZ (tw91 hw)) (mvT hZ (tw3 hw)) (mvT hZ (tw92 hw)) (by decide) (backOf (W := 0) (rmFm l Z a0 hw [] q1 (p2.toInt64)  h0 n0 Z0 hnz) hZ (tw92 hw) (tw3 hw) (by decide) (by decide)) (g := (mkF m 3 #[.val (.long q1), .second, .val (.int p2)] [(.long (p2.toInt64)), (.long q1)])) rfl (by rw [hml]; rfl) (argsL := [(.long q1), (.long (p2.toInt64))]) (rest := []) (lenOf pd_6 rfl) rfl (by show 2 * 0 + _ ≤ _; exact Nat.le_of_eq rfl) (hb hby d14_3) (fun _ _ => ⟨rfl, e0, (by decide : 0 + 0 ≤ _), (by decide : 0 + 0 ≤ _)⟩)
  dsimp only [Pt.U, Pt.locs, Pt.cells, Pt.slots] at X92 l92 y92 z92 st92 hQ92
  subst l92 y92 z92
  obtain ⟨rfl, Nq92, eq92⟩ := hQ92
  have N92 := Fr.app N0 Nq92
  have go92 : Goes p e below s₁ (G_rmFi m q1 p2) T92 (mkF m 6 #[.val (.long q1), .second, .val (.int p2)] [(.long (fmv q1 (p2.toInt64)))]) := fun tq kq => go91 tq (st92 _ kq)
  have go93 : Goes p e below s₁ (G_rmFi m q1 p2) T92 (mkF m 7 #[.val (.long q1), .second, .val (.int p2)] [(.int ((fmv q1 (p2.toInt64)).toInt32))]) := fun tq kq => go92 tq (by
    show Steps p.tables e below (T92.setTop (mkF m 6 #[.val (.long q1), .second, .val (.int p2)] [(.long (fmv q1 (p2.toInt64)))])) _
    refine XS.l2i X92.here hx rfl (hb hby d14_6) rfl ?_
    exact kq)
  obtain ⟨fs, hr, hrun, hended, hW, hsame⟩ := X92.leave (v := some (.int ((fmv q1 (p2.toInt64)).toInt32))) (fun h => by rw [Bd.returns] at h; cases h)
  refine ⟨_, _, go93 _ ?_, hrun, hended, _, _, rfl, ?_, ⟨_, rfl⟩, hW, hsame.mono (by decide) (by decide)⟩
  · exact retI X92 hx Bd.returns (hb hby d14_7) hr
  · show Q_rmFi Z q1 p2 h0 n0 _ T92.heap _
    rw [eq92]
    exact ⟨rfl, N92, rfl⟩
theorem own_xor (x y : Int64) (hy : 0 ≤ y.toInt) : ((x ^^^ y) < (0 : Int64)) ↔ x.toInt < 0 := by
  rw [Int64.lt_iff_toInt_lt, Int64.toInt_zero]
  have h : (x.toBitVec ^^^ y.toBitVec).msb = (x.toBitVec.msb ^^ y.toBitVec.msb) := by first | exact BitVec.msb_xor | exact BitVec.msb_xor _ _ | simp
  rw [BitVec.msb_eq_toInt, BitVec.msb_eq_toInt, BitVec.msb_eq_toInt] at h
  have hy' : decide (y.toBitVec.toInt < 0) = false := decide_eq_false (fun k => absurd (show y.toInt < 0 from k) (by omega))
  rw [hy', Bool.xor_false] at h
  have e : (x ^^^ y).toInt = (x.toBitVec ^^^ y.toBitVec).toInt := rfl
  rw [e]
  exact decide_eq_decide.mp h
theorem own_fm {x y : Int64} {m : Int} (hm : y.toInt = m) (h1 : 1 ≤ m) (h2 : m ≤ 16) : 0 ≤ (fmv x y).toInt ∧ (fmv x y).toInt < m := by
  have hr : (x - (x / y) * y).toInt = x.toInt.tmod m := by rw [Jvm.Kit.i64_rem, hm]
  unfold fmv
  generalize (x - (x / y) * y) = r at hr ⊢
  by_cases hx : x.toInt < 0
  · have c : ((x ^^^ y) < (0 : Int64)) := (own_xor x y (by omega)).mpr hx
    have hk : x.toInt.tmod m = -((-x.toInt) % m) := by
      rw [← Int.tmod_eq_emod_of_nonneg (show 0 ≤ -x.toInt by omega), Int.neg_tmod]; omega
    have k1 := Int.emod_nonneg (-x.toInt) (show m ≠ 0 by omega)
    have k2 := Int.emod_lt_of_pos (-x.toInt) (show 0 < m by omega)
    rw [hk] at hr
    generalize (-x.toInt) % m = k at *
    by_cases hz : r = (0 : Int64)
    · simp only [c, hz, if_true]; rw [Int64.toInt_zero]; omega
    · have hk0 : k ≠ 0 := fun e => hz (Int64.toInt_inj.mp (by rw [hr, e]; rfl))
      have e : (r + y).toInt = r.toInt + y.toInt := Jvm.Kit.i64_add (by omega) (by omega)
      simp only [c, hz, if_true, if_false]; rw [e]; omega
  · have c : ¬ ((x ^^^ y) < (0 : Int64)) := fun h => hx ((own_xor x y (by omega)).mp h)
    have hk : x.toInt.tmod m = x.toInt % m := Int.tmod_eq_emod_of_nonneg (by omega)
    simp only [c, if_false]; rw [hr, hk]; exact ⟨Int.emod_nonneg _ (by omega), Int.emod_lt_of_pos _ (by omega)⟩
def slotv (q tk : Int64) (n : Nat) : Nat := ((fmv (fdv q tk) ((Int32.ofNat n).toInt64)).toInt32).toNatClampNeg
theorem own_slot (q tk : Int64) {n : Nat} (h1 : 1 ≤ n) (h2 : n ≤ 16) : ((fmv (fdv q tk) ((Int32.ofNat n).toInt64)).toInt32) = Int32.ofNat (slotv q tk n) ∧ slotv q tk n < n := by
  obtain ⟨a, b⟩ := own_fm (x := fdv q tk) (y := (Int32.ofNat n).toInt64) (m := n) (by rw [Int32.toInt_toInt64, own_nat h2]) (by omega) (by omega)
  unfold slotv
  generalize fmv (fdv q tk) ((Int32.ofNat n).toInt64) = z at a b ⊢
  have e : z.toInt32.toInt = z.toInt := Jvm.Kit.i32_of_i64 (by omega) (by omega)
  rw [own_clampd, e]
  refine ⟨Int32.toInt_inj.mp ?_, by omega⟩
  rw [e, own_nat (by omega)]; omega
theorem own_s16 {q tk : Int64} {n : Nat} (h : slotv q tk n < n) (h2 : n ≤ 16) : slotv q tk n ≤ 16 := Nat.le_trans (Nat.le_of_lt h) h2
theorem own_max1 (y : Int64) : maxv (1 : Int64) y ≠ 0 := by
  unfold maxv
  by_cases h : (1 : Int64) < y
  · simp only [h, if_true]; intro k; subst k; exact absurd h (by decide)
  · simp only [h, if_false]; decide
theorem own_cnt (p : Int32) : ∃ n : Nat, 1 ≤ n ∧ n ≤ 16 ∧ ((p &&& (15 : Int32)) + (1 : Int32)) = Int32.ofNat n := by
  have h := Jvm.Kit.i32_mask p 15 (k := 4) (by decide) (by decide)
  have e1 : (1 : Int32).toInt = 1 := by decide
  have e : ((p &&& (15 : Int32)) + (1 : Int32)).toInt = p.toInt % 16 + 1 := by
    rw [Jvm.Kit.i32_add (by rw [h, e1]; omega) (by rw [h, e1]; omega), h, e1]; omega
  refine ⟨(p.toInt % 16 + 1).toNat, by omega, by omega, Int32.toInt_inj.mp ?_⟩
  rw [e, own_nat (by omega)]; omega
theorem own_sa (x y : Int64) : x - y + y = x := Int64.sub_add_cancel x y
theorem own_selp {Z : State} {a0 : Array Value} (hw : ∀ d ∈ tables_1, d.before a0 Z = true) : (Jvm.Cond.selects "com/example/cicada/cicada/Level" (⟨"com/example/cicada/cicada/Level", "slot", "(J)I"⟩ : MethodName) (⟨"com/example/cicada/cicada/Level", "slot", "(J)I"⟩ : MethodName)).before a0 Z = true := by
  obtain ⟨c, k, h1, h2, -, h4, -, -⟩ := Cond.instantiable_spec (tw7 hw)
  have h5 : k.isInterface = false := by simp at h4; exact h4.1
  exact selects_self_of_private (y := (⟨"com/example/cicada/cicada/Level", "slot", "(J)I"⟩ : MethodName)) h1 h2 h5 (Cond.privateMethod_at (tw82 hw)) (tw81 hw) (by decide)
abbrev G_rmSlot (m : MethodId) (a1 : Addr) (q2 : Int64) : JFrame := (entryFrame m #[(.ref a1), (.long q2)] 3)
theorem d12_0 : decode prog_5_method_14_code 0 = .ok (.lload_n 1, 1) := by decide +kernel
theorem d12_1 : decode prog_5_method_14_code 1 = .ok (.aload_n 0, 1) := by decide +kernel
theorem d12_2 : decode prog_5_method_14_code 2 = .ok (.getfield 14, 3) := by decide +kernel
theorem d12_5 : decode prog_5_method_14_code 5 = .ok (.invokestatic 92, 3) := by decide +kernel
theorem d12_8 : decode prog_5_method_14_code 8 = .ok (.aload_n 0, 1) := by decide +kernel
theorem d12_9 : decode prog_5_method_14_code 9 = .ok (.getfield 40, 3) := by decide +kernel
theorem d12_12 : decode prog_5_method_14_code 12 = .ok (.arraylength, 1) := by decide +kernel
theorem d12_13 : decode prog_5_method_14_code 13 = .ok (.invokestatic 97, 3) := by decide +kernel
theorem pd_7 : parseMethodDescriptor "(JI)I" = some ⟨[.long, .int], some .int⟩ := by decide +kernel
theorem d12_16 : decode prog_5_method_14_code 16 = .ok (.ireturn, 1) := by decide +kernel
def Q_rmSlot (Z : State) (a1 : Addr) (q2 : Int64) (tk : Int64) (B : Addr) (kB : ClassId) (n : Nat) (vs : List Value) (h0 : Heap) (n0 : Nat) (v : Option Value) (h : Heap) (L : List Loc) : Prop := v = some (.int (Int32.ofNat (slotv q2 tk n))) ∧ Fr n0 L ∧ h = h0
set_option maxRecDepth 65536 in
set_option maxHeartbeats 40000000 in
theorem rmSlot (l : Launch) (Z : State) (a0 : Array Value) (hw : ∀ d ∈ tables_1, d.before a0 Z = true) (ws : List Jvm.Cond) (a1 : Addr) (q2 : Int64) (tk : Int64) (B : Addr) (kB : ClassId) (n : Nat) (vs : List Value) (h0 : Heap) (n0 : Nat) (Z0 : n0 ≤ h0.size) (Ex : Exa Z h0 a1 "com/example/cicada/cicada/Level") (Ft : Fld Z h0 a1 "com/example/cicada/cicada/Level" "tick" "J" (.long tk)) (Fb : Fld Z h0 a1 "com/example/cicada/cicada/Level" "buckets" "[Lcom/example/cicada/cicada/Bucket;" (.ref B)) (VA : Arv Z h0 B kB (.object "com/example/cicada/cicada/Bucket") (Int32.ofNat n) vs .null) (htk : tk ≠ 0) (hn1 : 1 ≤ n) (hn2 : n ≤ 16) :
    MetFree l (⟨"com/example/cicada/cicada/Level", "slot", "(J)I"⟩ : MethodName) (head1 (Jvm.Cond.code (⟨"com/example/cicada/cicada/Level", "slot", "(J)I"⟩ : MethodName) prog_5_method_14_code 3 (some .int) :: ws) ({ frames := 2, cells := 0, slots := 0, locals := 31 } : Room)) (fun a U => a = #[(.ref a1), (.long q2)] ∧ Z.Warmed39 U.vm ∧ U.heap = h0) (fun _ _ _ _ _ => True) (fun _ U o U' => ∃ v L, o = .returned v ∧ Q_rmSlot Z a1 q2 tk B kB n vs h0 n0 v U'.heap L ∧ FrameEnd U o U' L ({ frames := 2, cells := 0, slots := 0, locals := 31 } : Room).cells ({ frames := 2, cells := 0, slots := 0, locals := 31 } : Room).slots) := by
  refine MetFree.of_bodySF (plainFor_of_name pn_com_example_cicada_cicada_Level) hisR ?_
  intro p e s m args below meth c s₁ Bd hml0 hP hK
  obtain ⟨rfl, hZ, hh⟩ := hP
  have hx := Bd.exec
  have hby := Bd.bytes
  have hml : c.maxLocals = 3 := hml0
  have hown : s.vm.findClass "com/example/cicada/cicada/Level" = some m.cls := findClass_of_methodNamed Bd.named
  have hnm := (name_of_methodNamed Bd.named Bd.method).1
  have X0 : Stand p l e ({ frames := 2, cells := 0, slots := 0, locals := 31 } : Room) s m #[(.ref a1), (.long q2)] below meth c s₁ [] 0 0 := Stand.of_body Bd
  have e0 : s₁.heap = h0 := by rw [← hh, Bd.state]; rfl
  have N0 := Fr.nil n0
  have go0 : Goes p e below s₁ (G_rmSlot m a1 q2) s₁ (mkF m 0 #[.val (.ref a1), .val (.long q2), .second] []) := fun tq kq => castTop (by first | (simp [entryFrame, mkF, argsToLocals, Value.category, G_rmSlot]; done) | rfl) kq
  have go94 : Goes p e below s₁ (G_rmSlot m a1 q2) s₁ (mkF m 2 #[.val (.ref a1), .val (.long q2), .second] [(.ref a1), (.long q2)]) := fun tq kq => go0 tq (by
    show Steps p.tables e below (s₁.setTop (mkF m 0 #[.val (.ref a1), .val (.long q2), .second] [])) _
    refine XS.lloadN X0.here hx rfl (hb hby d12_0) rfl ?_
    show Steps p.tables e below (s₁.setTop (mkF m 1 #[.val (.ref a1), .val (.long q2), .second] [(.long q2)])) _
    refine XS.aloadN X0.here hx rfl (hb hby d12_1) rfl rfl ?_
    exact kq)
  obtain ⟨T95, X95, e95, st95⟩ := getF X0 hx hZ hown (host := "") (Or.inl (tw21 hw)) Via.refl e0 Ft (g := (mkF m 2 #[.val (.ref a1), .val (.long q2), .second] [(.ref a1), (.long q2)])) rfl rfl (hb hby d12_2)
  have go95 : Goes p e below s₁ (G_rmSlot m a1 q2) T95 (mkF m 5 #[.val (.ref a1), .val (.long q2), .second] [(.long tk), (.long q2)]) := fun tq kq => go94 tq (st95 _ kq)
  obtain ⟨vv96, _, ⟨T96, L96, k96, n96⟩, -, X96, ⟨Lc96, hQ96, l96, y96, z96⟩, st96⟩ := Jvm.LawKit.callS X95 hx (y := (⟨"java/lang/Math", "floorDiv", "(JJ)J"⟩ : MethodName)) hown (mvT hZ (tw84 hw)) (mvT hZ (tw85 hw)) (mvT hZ (tw3 hw)) (mvT hZ (tw86 hw)) (by decide) (backOf (W := 0) (rmFd l Z a0 hw [] q2 tk  h0 n0 Z0 htk) hZ (tw86 hw) (tw3 hw) (by decide) (by decide)) (g := (mkF m 5 #[.val (.ref a1), .val (.long q2), .second] [(.long tk), (.long q2)])) rfl (by rw [hml]; rfl) (argsL := [(.long q2), (.long tk)]) (rest := []) (lenOf pd_6 rfl) rfl (by show 2 * 0 + _ ≤ _; exact Nat.le_of_eq rfl) (hb hby d12_5) (fun _ _ => ⟨rfl, e95, (by decide : 0 + 0 ≤ _), (by decide : 0 + 0 ≤ _)⟩)
  dsimp only [Pt.U, Pt.locs, Pt.cells, Pt.slots] at X96 l96 y96 z96 st96 hQ96
  subst l96 y96 z96
  obtain ⟨rfl, Nq96, eq96⟩ := hQ96
  have N96 := Fr.app N0 Nq96
  have go96 : Goes p e below s₁ (G_rmSlot m a1 q2) T96 (mkF m 8 #[.val (.ref a1), .val (.long q2), .second] [(.long (fdv q2 tk))]) := fun tq kq => go95 tq (st96 _ kq)
  have go97 : Goes p e below s₁ (G_rmSlot m a1 q2) T96 (mkF m 9 #[.val (.ref a1), .val (.long q2), .second] [(.ref a1), (.long (fdv q2 tk))]) := fun tq kq => go96 tq (by
    show Steps p.tables e below (T96.setTop (mkF m 8 #[.val (.ref a1), .val (.long q2), .second] [(.long (fdv q2 tk))])) _
    refine XS.aloadN X96.here hx rfl (hb hby d12_8) rfl rfl ?_
    exact kq)
  obtain ⟨T98, X98, e98, st98⟩ := getF X96 hx hZ hown (host := "") (Or.inl (tw38 hw)) Via.refl eq96 Fb (g := (mkF m 9 #[.val (.ref a1), .val (.long q2), .second] [(.ref a1), (.long (fdv q2 tk))])) rfl rfl (hb hby d12_9)
  have go98 : Goes p e below s₁ (G_rmSlot m a1 q2) T98 (mkF m 12 #[.val (.ref a1), .val (.long q2), .second] [(.ref B), (.long (fdv q2 tk))]) := fun tq kq => go97 tq (st98 _ kq)
  obtain ⟨cl99, Ar99, q99, S99, N_99, H99, G99⟩ := id (VA)
  have go100 : Goes p e below s₁ (G_rmSlot m a1 q2) T98 (mkF m 13 #[.val (.ref a1), .val (.long q2), .second] [(.int (Int32.ofNat n)), (.long (fdv q2 tk))]) := fun tq kq => go98 tq (by
    show Steps p.tables e below (T98.setTop (mkF m 12 #[.val (.ref a1), .val (.long q2), .second] [(.ref B), (.long (fdv q2 tk))])) _
    refine X98.arraylength hx (by rw [e98]; exact Ar99.1) (State.isArrayOf_alike hZ.alike Ar99.2.1) (g := (mkF m 12 #[.val (.ref a1), .val (.long q2), .second] [(.ref B), (.long (fdv q2 tk))])) rfl rfl (hb hby d12_12) _ ?_
    rw [len_of S99 N_99]
    exact kq)
  obtain ⟨vv101, _, ⟨T101, L101, k101, n101⟩, -, X101, ⟨Lc101, hQ101, l101, y101, z101⟩, st101⟩ := Jvm.LawKit.callS X98 hx (y := (⟨"java/lang/Math", "floorMod", "(JI)I"⟩ : MethodName)) hown (mvT hZ (tw87 hw)) (mvT hZ (tw88 hw)) (mvT hZ (tw3 hw)) (mvT hZ (tw89 hw)) (by decide) (backOf (W := 0) (rmFi l Z a0 hw [] (fdv q2 tk) (Int32.ofNat n)  h0 n0 Z0 (own_nz hn1 hn2)) hZ (tw89 hw) (tw3 hw) (by decide) (by decide)) (g := (mkF m 13 #[.val (.ref a1), .val (.long q2), .second] [(.int (Int32.ofNat n)), (.long (fdv q2 tk))])) rfl (by rw [hml]; rfl) (argsL := [(.long (fdv q2 tk)), (.int (Int32.ofNat n))]) (rest := []) (lenOf pd_7 rfl) rfl (by show 2 * 0 + _ ≤ _; exact Nat.le_of_eq rfl) (hb hby d12_13) (fun _ _ => ⟨rfl, e98, (by decide : 0 + 0 ≤ _), (by decide : 0 + 0 ≤ _)⟩)
  dsimp only [Pt.U, Pt.locs, Pt.cells, Pt.slots] at X101 l101 y101 z101 st101 hQ101
  subst l101 y101 z101
  obtain ⟨rfl, Nq101, eq101⟩ := hQ101
  have N101 := Fr.app N96 Nq101
  have go101 : Goes p e below s₁ (G_rmSlot m a1 q2) T101 (mkF m 16 #[.val (.ref a1), .val (.long q2), .second] [(.int ((fmv (fdv q2 tk) ((Int32.ofNat n).toInt64)).toInt32))]) := fun tq kq => go100 tq (st101 _ kq)
  obtain ⟨fs, hr, hrun, hended, hW, hsame⟩ := X101.leave (v := some (.int ((fmv (fdv q2 tk) ((Int32.ofNat n).toInt64)).toInt32))) (fun h => by rw [Bd.returns] at h; cases h)
  refine ⟨_, _, go101 _ ?_, hrun, hended, _, _, rfl, ?_, ⟨_, rfl⟩, hW, hsame.mono (by decide) (by decide)⟩
  · exact retI X101 hx Bd.returns (hb hby d12_16) hr
  · show Q_rmSlot Z a1 q2 tk B kB n vs h0 n0 _ T101.heap _
    rw [eq101]
    exact ⟨congrArg (fun z => some (Value.int z)) (own_slot q2 tk hn1 hn2).1, N101, rfl⟩
abbrev G_rmMv0 (m : MethodId) (a1 : Addr) : JFrame := (entryFrame m #[(.ref a1)] 1)
theorem d16_0 : decode prog_5_method_10_code 0 = .ok (.aload_n 0, 1) := by decide +kernel
theorem d16_1 : decode prog_5_method_10_code 1 = .ok (.getfield 87, 3) := by decide +kernel
theorem d16_4 : decode prog_5_method_10_code 4 = .ok (.areturn, 1) := by decide +kernel
def Q_rmMv0 (Z : State) (a1 : Addr)  (h0 : Heap) (n0 : Nat) (v : Option Value) (h : Heap) (L : List Loc) : Prop := v = some .null ∧ Fr n0 L ∧ h = h0
set_option maxRecDepth 65536 in
set_option maxHeartbeats 40000000 in
theorem rmMv0 (l : Launch) (Z : State) (a0 : Array Value) (hw : ∀ d ∈ tables_1, d.before a0 Z = true) (ws : List Jvm.Cond) (a1 : Addr)  (h0 : Heap) (n0 : Nat) (Z0 : n0 ≤ h0.size) (Fm : Fld Z h0 a1 "com/example/cicada/cicada/Level" "moving" "Lcom/example/cicada/cicada/Bucket;" .null) :
    MetFree l (⟨"com/example/cicada/cicada/Level", "moving", "()Lcom/example/cicada/cicada/Bucket;"⟩ : MethodName) (head1 (Jvm.Cond.code (⟨"com/example/cicada/cicada/Level", "moving", "()Lcom/example/cicada/cicada/Bucket;"⟩ : MethodName) prog_5_method_10_code 1 (some (.object "com/example/cicada/cicada/Bucket")) :: ws) ({ frames := 0, cells := 0, slots := 0, locals := 0 } : Room)) (fun a U => a = #[(.ref a1)] ∧ Z.Warmed39 U.vm ∧ U.heap = h0) (fun _ _ _ _ _ => True) (fun _ U o U' => ∃ v L, o = .returned v ∧ Q_rmMv0 Z a1 h0 n0 v U'.heap L ∧ FrameEnd U o U' L ({ frames := 0, cells := 0, slots := 0, locals := 0 } : Room).cells ({ frames := 0, cells := 0, slots := 0, locals := 0 } : Room).slots) := by
  refine MetFree.of_bodySF (plainFor_of_name pn_com_example_cicada_cicada_Level) hisR ?_
  intro p e s m args below meth c s₁ Bd hml0 hP hK
  obtain ⟨rfl, hZ, hh⟩ := hP
  have hx := Bd.exec
  have hby := Bd.bytes
  have hml : c.maxLocals = 1 := hml0
  have hown : s.vm.findClass "com/example/cicada/cicada/Level" = some m.cls := findClass_of_methodNamed Bd.named
  have hnm := (name_of_methodNamed Bd.named Bd.method).1
  have X0 : Stand p l e ({ frames := 0, cells := 0, slots := 0, locals := 0 } : Room) s m #[(.ref a1)] below meth c s₁ [] 0 0 := Stand.of_body Bd
  have e0 : s₁.heap = h0 := by rw [← hh, Bd.state]; rfl
  have N0 := Fr.nil n0
  have go0 : Goes p e below s₁ (G_rmMv0 m a1) s₁ (mkF m 0 #[.val (.ref a1)] []) := fun tq kq => castTop (by first | (simp [entryFrame, mkF, argsToLocals, Value.category, G_rmMv0]; done) | rfl) kq
  have go102 : Goes p e below s₁ (G_rmMv0 m a1) s₁ (mkF m 1 #[.val (.ref a1)] [(.ref a1)]) := fun tq kq => go0 tq (by
    show Steps p.tables e below (s₁.setTop (mkF m 0 #[.val (.ref a1)] [])) _
    refine XS.aloadN X0.here hx rfl (hb hby d16_0) rfl rfl ?_
    exact kq)
  obtain ⟨T103, X103, e103, st103⟩ := getF X0 hx hZ hown (host := "") (Or.inl (tw95 hw)) Via.refl e0 Fm (g := (mkF m 1 #[.val (.ref a1)] [(.ref a1)])) rfl rfl (hb hby d16_1)
  have go103 : Goes p e below s₁ (G_rmMv0 m a1) T103 (mkF m 4 #[.val (.ref a1)] [.null]) := fun tq kq => go102 tq (st103 _ kq)
  obtain ⟨fs, hr, hrun, hended, hW, hsame⟩ := X103.leave (v := some .null) (fun h => by rw [Bd.returns] at h; cases h)
  refine ⟨_, _, go103 _ ?_, hrun, hended, _, _, rfl, ?_, ⟨_, rfl⟩, hW, hsame.mono (by decide) (by decide)⟩
  · jvm_step X103.here [X103.here.top, hx, (hb hby d16_4), X103.method', Bd.returns, Value.isRef, FieldType.isReference]
    first | (intro acts; rw [hr _ acts rfl rfl rfl]) | rw [hr _ _ rfl rfl rfl]
    exact Steps.refl _
  · show Q_rmMv0 Z a1 h0 n0 _ T103.heap _
    rw [e103]
    exact ⟨rfl, N0, rfl⟩
abbrev G_rmMvR (m : MethodId) (a1 : Addr) : JFrame := (entryFrame m #[(.ref a1)] 1)
def Q_rmMvR (Z : State) (a1 : Addr) (mv : Addr) (h0 : Heap) (n0 : Nat) (v : Option Value) (h : Heap) (L : List Loc) : Prop := v = some (.ref mv) ∧ Fr n0 L ∧ h = h0
set_option maxRecDepth 65536 in
set_option maxHeartbeats 40000000 in
theorem rmMvR (l : Launch) (Z : State) (a0 : Array Value) (hw : ∀ d ∈ tables_1, d.before a0 Z = true) (ws : List Jvm.Cond) (a1 : Addr) (mv : Addr) (h0 : Heap) (n0 : Nat) (Z0 : n0 ≤ h0.size) (Fm : Fld Z h0 a1 "com/example/cicada/cicada/Level" "moving" "Lcom/example/cicada/cicada/Bucket;" (.ref mv)) :
    MetFree l (⟨"com/example/cicada/cicada/Level", "moving", "()Lcom/example/cicada/cicada/Bucket;"⟩ : MethodName) (head1 (Jvm.Cond.code (⟨"com/example/cicada/cicada/Level", "moving", "()Lcom/example/cicada/cicada/Bucket;"⟩ : MethodName) prog_5_method_10_code 1 (some (.object "com/example/cicada/cicada/Bucket")) :: ws) ({ frames := 0, cells := 0, slots := 0, locals := 0 } : Room)) (fun a U => a = #[(.ref a1)] ∧ Z.Warmed39 U.vm ∧ U.heap = h0) (fun _ _ _ _ _ => True) (fun _ U o U' => ∃ v L, o = .returned v ∧ Q_rmMvR Z a1 mv h0 n0 v U'.heap L ∧ FrameEnd U o U' L ({ frames := 0, cells := 0, slots := 0, locals := 0 } : Room).cells ({ frames := 0, cells := 0, slots := 0, locals := 0 } : Room).slots) := by
  refine MetFree.of_bodySF (plainFor_of_name pn_com_example_cicada_cicada_Level) hisR ?_
  intro p e s m args below meth c s₁ Bd hml0 hP hK
  obtain ⟨rfl, hZ, hh⟩ := hP
  have hx := Bd.exec
  have hby := Bd.bytes
  have hml : c.maxLocals = 1 := hml0
  have hown : s.vm.findClass "com/example/cicada/cicada/Level" = some m.cls := findClass_of_methodNamed Bd.named
  have hnm := (name_of_methodNamed Bd.named Bd.method).1
  have X0 : Stand p l e ({ frames := 0, cells := 0, slots := 0, locals := 0 } : Room) s m #[(.ref a1)] below meth c s₁ [] 0 0 := Stand.of_body Bd
  have e0 : s₁.heap = h0 := by rw [← hh, Bd.state]; rfl
  have N0 := Fr.nil n0
  have go0 : Goes p e below s₁ (G_rmMvR m a1) s₁ (mkF m 0 #[.val (.ref a1)] []) := fun tq kq => castTop (by first | (simp [entryFrame, mkF, argsToLocals, Value.category, G_rmMvR]; done) | rfl) kq
  have go104 : Goes p e below s₁ (G_rmMvR m a1) s₁ (mkF m 1 #[.val (.ref a1)] [(.ref a1)]) := fun tq kq => go0 tq (by
    show Steps p.tables e below (s₁.setTop (mkF m 0 #[.val (.ref a1)] [])) _
    refine XS.aloadN X0.here hx rfl (hb hby d16_0) rfl rfl ?_
    exact kq)
  obtain ⟨T105, X105, e105, st105⟩ := getF X0 hx hZ hown (host := "") (Or.inl (tw95 hw)) Via.refl e0 Fm (g := (mkF m 1 #[.val (.ref a1)] [(.ref a1)])) rfl rfl (hb hby d16_1)
  have go105 : Goes p e below s₁ (G_rmMvR m a1) T105 (mkF m 4 #[.val (.ref a1)] [(.ref mv)]) := fun tq kq => go104 tq (st105 _ kq)
  obtain ⟨fs, hr, hrun, hended, hW, hsame⟩ := X105.leave (v := some (.ref mv)) (fun h => by rw [Bd.returns] at h; cases h)
  refine ⟨_, _, go105 _ ?_, hrun, hended, _, _, rfl, ?_, ⟨_, rfl⟩, hW, hsame.mono (by decide) (by decide)⟩
  · jvm_step X105.here [X105.here.top, hx, (hb hby d16_4), X105.method', Bd.returns, Value.isRef, FieldType.isReference]
    first | (intro acts; rw [hr _ acts rfl rfl rfl]) | rw [hr _ _ rfl rfl rfl]
    exact Steps.refl _
  · show Q_rmMvR Z a1 mv h0 n0 _ T105.heap _
    rw [e105]
    exact ⟨rfl, N0, rfl⟩
abbrev G_rmOpen0 (m : MethodId) (a1 : Addr) (a2 : Addr) : JFrame := (entryFrame m #[(.ref a1), (.ref a2)] 2)
theorem d11_0 : decode prog_5_method_9_code 0 = .ok (.aload_n 0, 1) := by decide +kernel
theorem d11_1 : decode prog_5_method_9_code 1 = .ok (.getfield 40, 3) := by decide +kernel
theorem d11_4 : decode prog_5_method_9_code 4 = .ok (.aload_n 0, 1) := by decide +kernel
theorem d11_5 : decode prog_5_method_9_code 5 = .ok (.aload_n 1, 1) := by decide +kernel
theorem d11_6 : decode prog_5_method_9_code 6 = .ok (.getfield 77, 3) := by decide +kernel
theorem d11_9 : decode prog_5_method_9_code 9 = .ok (.aload_n 0, 1) := by decide +kernel
theorem d11_10 : decode prog_5_method_9_code 10 = .ok (.getfield 17, 3) := by decide +kernel
theorem d11_13 : decode prog_5_method_9_code 13 = .ok (.ladd, 1) := by decide +kernel
theorem d11_14 : decode prog_5_method_9_code 14 = .ok (.invokevirtual 73, 3) := by decide +kernel
theorem pd_8 : parseMethodDescriptor "(J)I" = some ⟨[.long], some .int⟩ := by decide +kernel
theorem d11_17 : decode prog_5_method_9_code 17 = .ok (.aload_n 0, 1) := by decide +kernel
theorem d11_18 : decode prog_5_method_9_code 18 = .ok (.getfield 80, 3) := by decide +kernel
theorem d11_21 : decode prog_5_method_9_code 21 = .ok (.ifnonnull 14, 3) := by decide +kernel
theorem d11_24 : decode prog_5_method_9_code 24 = .ok (.new 38, 3) := by decide +kernel
theorem d11_27 : decode prog_5_method_9_code 27 = .ok (.dup, 1) := by decide +kernel
theorem d11_28 : decode prog_5_method_9_code 28 = .ok (.aload_n 0, 1) := by decide +kernel
theorem d11_29 : decode prog_5_method_9_code 29 = .ok (.invokespecial 84, 3) := by decide +kernel
theorem d11_32 : decode prog_5_method_9_code 32 = .ok (.goto 7, 3) := by decide +kernel
theorem d11_39 : decode prog_5_method_9_code 39 = .ok (.aastore, 1) := by decide +kernel
theorem d11_40 : decode prog_5_method_9_code 40 = .ok (.aload_n 0, 1) := by decide +kernel
theorem d11_41 : decode prog_5_method_9_code 41 = .ok (.aconst_null, 1) := by decide +kernel
theorem d11_42 : decode prog_5_method_9_code 42 = .ok (.putfield 80, 3) := by decide +kernel
theorem d11_45 : decode prog_5_method_9_code 45 = .ok (.aload_n 0, 1) := by decide +kernel
theorem d11_46 : decode prog_5_method_9_code 46 = .ok (.aload_n 1, 1) := by decide +kernel
theorem d11_47 : decode prog_5_method_9_code 47 = .ok (.putfield 87, 3) := by decide +kernel
theorem d11_50 : decode prog_5_method_9_code 50 = .ok (.return_, 1) := by decide +kernel
def Q_rmOpen0 (Z : State) (a1 : Addr) (a2 : Addr) (tk ld oo mt : Int64) (B : Addr) (kB : ClassId) (n : Nat) (vs : List Value) (h0 : Heap) (n0 : Nat) (v : Option Value) (h : Heap) (L : List Loc) : Prop := v = none ∧ Fr n0 L ∧ Keep h0 h [B, a1] ∧ Exa Z h a1 "com/example/cicada/cicada/Level" ∧ Fld Z h a1 "com/example/cicada/cicada/Level" "tick" "J" (.long tk) ∧ Fld Z h a1 "com/example/cicada/cicada/Level" "lead" "J" (.long ld) ∧ Fld Z h a1 "com/example/cicada/cicada/Level" "moveTime" "J" (.long mt) ∧ Fld Z h a1 "com/example/cicada/cicada/Level" "buckets" "[Lcom/example/cicada/cicada/Bucket;" (.ref B) ∧ Fld Z h a1 "com/example/cicada/cicada/Level" "spare" "Lcom/example/cicada/cicada/Bucket;" .null ∧ Fld Z h a1 "com/example/cicada/cicada/Level" "moving" "Lcom/example/cicada/cicada/Bucket;" (.ref a2) ∧ ∃ nb : Addr, BkAt Z h n0 (.ref nb) ∧ Arv Z h B kB (.object "com/example/cicada/cicada/Bucket") (Int32.ofNat n) (vs.set (slotv (oo + ld) tk n) (.ref nb)) .null
set_option maxRecDepth 65536 in
set_option maxHeartbeats 40000000 in
theorem rmOpen0 (l : Launch) (Z : State) (a0 : Array Value) (hw : ∀ d ∈ tables_1, d.before a0 Z = true) (ws : List Jvm.Cond) (a1 : Addr) (a2 : Addr) (tk ld oo mt : Int64) (B : Addr) (kB : ClassId) (n : Nat) (vs : List Value) (h0 : Heap) (n0 : Nat) (Z0 : n0 ≤ h0.size) (g_a1 : n0 ≤ a1) (g_B : n0 ≤ B) (Ex : Exa Z h0 a1 "com/example/cicada/cicada/Level") (Ft : Fld Z h0 a1 "com/example/cicada/cicada/Level" "tick" "J" (.long tk)) (Fb : Fld Z h0 a1 "com/example/cicada/cicada/Level" "buckets" "[Lcom/example/cicada/cicada/Bucket;" (.ref B)) (VA : Arv Z h0 B kB (.object "com/example/cicada/cicada/Bucket") (Int32.ofNat n) vs .null) (htk : tk ≠ 0) (hn1 : 1 ≤ n) (hn2 : n ≤ 16) (Ov : Ovr Z kB "com/example/cicada/cicada/Bucket") (hvl : vs.length = n) (Eb : Exa Z h0 a2 "com/example/cicada/cicada/Bucket") (Fo : Fld Z h0 a2 "com/example/cicada/cicada/Bucket" "opensAt" "J" (.long oo)) (Fl : Fld Z h0 a1 "com/example/cicada/cicada/Level" "lead" "J" (.long ld)) (Fs : Fld Z h0 a1 "com/example/cicada/cicada/Level" "spare" "Lcom/example/cicada/cicada/Bucket;" .null) (Fm : Fld Z h0 a1 "com/example/cicada/cicada/Level" "moving" "Lcom/example/cicada/cicada/Bucket;" .null) (Ft2 : Fld Z h0 a1 "com/example/cicada/cicada/Level" "moveTime" "J" (.long mt)) :
    MetFree l (⟨"com/example/cicada/cicada/Level", "open", "(Lcom/example/cicada/cicada/Bucket;)V"⟩ : MethodName) (head1 (Jvm.Cond.code (⟨"com/example/cicada/cicada/Level", "open", "(Lcom/example/cicada/cicada/Bucket;)V"⟩ : MethodName) prog_5_method_9_code 2 none :: ws) ({ frames := 3, cells := 1, slots := 6, locals := 46 } : Room)) (fun a U => a = #[(.ref a1), (.ref a2)] ∧ Z.Warmed39 U.vm ∧ U.heap = h0) (fun _ _ _ _ _ => True) (fun _ U o U' => ∃ v L, o = .returned v ∧ Q_rmOpen0 Z a1 a2 tk ld oo mt B kB n vs h0 n0 v U'.heap L ∧ FrameEnd U o U' L ({ frames := 3, cells := 1, slots := 6, locals := 46 } : Room).cells ({ frames := 3, cells := 1, slots := 6, locals := 46 } : Room).slots) := by
  refine MetFree.of_bodySF (plainFor_of_name pn_com_example_cicada_cicada_Level) hisR ?_
  intro p e s m args below meth c s₁ Bd hml0 hP hK
  obtain ⟨rfl, hZ, hh⟩ := hP
  have hx := Bd.exec
  have hby := Bd.bytes
  have hml : c.maxLocals = 2 := hml0
  have hown : s.vm.findClass "com/example/cicada/cicada/Level" = some m.cls := findClass_of_methodNamed Bd.named
  have hnm := (name_of_methodNamed Bd.named Bd.method).1
  have X0 : Stand p l e ({ frames := 3, cells := 1, slots := 6, locals := 46 } : Room) s m #[(.ref a1), (.ref a2)] below meth c s₁ [] 0 0 := Stand.of_body Bd
  have e0 : s₁.heap = h0 := by rw [← hh, Bd.state]; rfl
  have N0 := Fr.nil n0
  have KP0 : Keep h0 h0 [B, a1] := Keep.refl h0 [B, a1]
  have go0 : Goes p e below s₁ (G_rmOpen0 m a1 a2) s₁ (mkF m 0 #[.val (.ref a1), .val (.ref a2)] []) := fun tq kq => castTop (by first | (simp [entryFrame, mkF, argsToLocals, Value.category, G_rmOpen0]; done) | rfl) kq
  have nB : a1 ≠ B := Exa.neArv Ex VA (tw7 hw)
  have go106 : Goes p e below s₁ (G_rmOpen0 m a1 a2) s₁ (mkF m 1 #[.val (.ref a1), .val (.ref a2)] [(.ref a1)]) := fun tq kq => go0 tq (by
    show Steps p.tables e below (s₁.setTop (mkF m 0 #[.val (.ref a1), .val (.ref a2)] [])) _
    refine XS.aloadN X0.here hx rfl (hb hby d11_0) rfl rfl ?_
    exact kq)
  obtain ⟨T107, X107, e107, st107⟩ := getF X0 hx hZ hown (host := "") (Or.inl (tw38 hw)) Via.refl e0 Fb (g := (mkF m 1 #[.val (.ref a1), .val (.ref a2)] [(.ref a1)])) rfl rfl (hb hby d11_1)
  have go107 : Goes p e below s₁ (G_rmOpen0 m a1 a2) T107 (mkF m 4 #[.val (.ref a1), .val (.ref a2)] [(.ref B)]) := fun tq kq => go106 tq (st107 _ kq)
  have go108 : Goes p e below s₁ (G_rmOpen0 m a1 a2) T107 (mkF m 6 #[.val (.ref a1), .val (.ref a2)] [(.ref a2), (.ref a1), (.ref B)]) := fun tq kq => go107 tq (by
    show Steps p.tables e below (T107.setTop (mkF m 4 #[.val (.ref a1), .val (.ref a2)] [(.ref B)])) _
    refine XS.aloadN X107.here hx rfl (hb hby d11_4) rfl rfl ?_
    show Steps p.tables e below (T107.setTop (mkF m 5 #[.val (.ref a1), .val (.ref a2)] [(.ref a1), (.ref B)])) _
    refine XS.aloadN X107.here hx rfl (hb hby d11_5) rfl rfl ?_
    exact kq)
  obtain ⟨T109, X109, e109, st109⟩ := getF X107 hx hZ hown (host := "") (Or.inl (tw79 hw)) Via.refl e107 Fo (g := (mkF m 6 #[.val (.ref a1), .val (.ref a2)] [(.ref a2), (.ref a1), (.ref B)])) rfl rfl (hb hby d11_6)
  have go109 : Goes p e below s₁ (G_rmOpen0 m a1 a2) T109 (mkF m 9 #[.val (.ref a1), .val (.ref a2)] [(.long oo), (.ref a1), (.ref B)]) := fun tq kq => go108 tq (st109 _ kq)
  have go110 : Goes p e below s₁ (G_rmOpen0 m a1 a2) T109 (mkF m 10 #[.val (.ref a1), .val (.ref a2)] [(.ref a1), (.long oo), (.ref a1), (.ref B)]) := fun tq kq => go109 tq (by
    show Steps p.tables e below (T109.setTop (mkF m 9 #[.val (.ref a1), .val (.ref a2)] [(.long oo), (.ref a1), (.ref B)])) _
    refine XS.aloadN X109.here hx rfl (hb hby d11_9) rfl rfl ?_
    exact kq)
  obtain ⟨T111, X111, e111, st111⟩ := getF X109 hx hZ hown (host := "") (Or.inl (tw23 hw)) Via.refl e109 Fl (g := (mkF m 10 #[.val (.ref a1), .val (.ref a2)] [(.ref a1), (.long oo), (.ref a1), (.ref B)])) rfl rfl (hb hby d11_10)
  have go111 : Goes p e below s₁ (G_rmOpen0 m a1 a2) T111 (mkF m 13 #[.val (.ref a1), .val (.ref a2)] [(.long ld), (.long oo), (.ref a1), (.ref B)]) := fun tq kq => go110 tq (st111 _ kq)
  have go112 : Goes p e below s₁ (G_rmOpen0 m a1 a2) T111 (mkF m 14 #[.val (.ref a1), .val (.ref a2)] [(.long (oo + ld)), (.ref a1), (.ref B)]) := fun tq kq => go111 tq (by
    show Steps p.tables e below (T111.setTop (mkF m 13 #[.val (.ref a1), .val (.ref a2)] [(.long ld), (.long oo), (.ref a1), (.ref B)])) _
    refine XS.ladd X111.here hx rfl (hb hby d11_13) rfl ?_
    exact kq)
  obtain ⟨cq113, q113, q113'⟩ := Ex.cell
  obtain ⟨vv113, _, ⟨T113, L113, k113, n113⟩, -, X113, ⟨Lc113, hQ113, l113, y113, z113⟩, st113⟩ := X111.privateBack hx (y := (⟨"com/example/cicada/cicada/Level", "slot", "(J)I"⟩ : MethodName)) hown (mvT hZ (tw80 hw)) (mvT hZ (tw81 hw)) (mvT hZ (own_selp hw)) (Cond.privateMethod_at (mvP hZ (tw82 hw) (args := #[]))) (mvT hZ (tw83 hw)) (by decide) (backOf (W := 1) (rmSlot l Z a0 hw [] a1 (oo + ld) tk B kB n vs h0 n0 Z0 Ex Ft Fb VA htk hn1 hn2) hZ (tw83 hw) (tw8 hw) (by decide) (by decide)) (g := (mkF m 14 #[.val (.ref a1), .val (.ref a2)] [(.long (oo + ld)), (.ref a1), (.ref B)])) rfl (by rw [hml]; rfl) (Steps.refl _) (a := a1) (by rw [e111]; exact q113) q113' (argsL := [(.long (oo + ld))]) (rest := [(.ref B)]) (lenOf pd_8 rfl) rfl (by show 2 * 0 + _ ≤ _; exact Nat.le_of_eq rfl) (hb hby d11_14) (fun _ _ => ⟨rfl, e111, (by decide : 0 + 0 ≤ _), (by decide : 0 + 0 ≤ _)⟩)
  dsimp only [Pt.U, Pt.locs, Pt.cells, Pt.slots] at X113 l113 y113 z113 st113 hQ113
  subst l113 y113 z113
  obtain ⟨rfl, Nq113, eq113⟩ := hQ113
  have N113 := Fr.app N0 Nq113
  have go113 : Goes p e below s₁ (G_rmOpen0 m a1 a2) T113 (mkF m 17 #[.val (.ref a1), .val (.ref a2)] [(.int (Int32.ofNat (slotv (oo + ld) tk n))), (.ref B)]) := fun tq kq => go112 tq (st113.trans kq)
  have hst := (own_slot (oo + ld) tk hn1 hn2).2
  have go114 : Goes p e below s₁ (G_rmOpen0 m a1 a2) T113 (mkF m 18 #[.val (.ref a1), .val (.ref a2)] [(.ref a1), (.int (Int32.ofNat (slotv (oo + ld) tk n))), (.ref B)]) := fun tq kq => go113 tq (by
    show Steps p.tables e below (T113.setTop (mkF m 17 #[.val (.ref a1), .val (.ref a2)] [(.int (Int32.ofNat (slotv (oo + ld) tk n))), (.ref B)])) _
    refine XS.aloadN X113.here hx rfl (hb hby d11_17) rfl rfl ?_
    exact kq)
  obtain ⟨T115, X115, e115, st115⟩ := getF X113 hx hZ hown (host := "") (Or.inl (tw93 hw)) Via.refl eq113 Fs (g := (mkF m 18 #[.val (.ref a1), .val (.ref a2)] [(.ref a1), (.int (Int32.ofNat (slotv (oo + ld) tk n))), (.ref B)])) rfl rfl (hb hby d11_18)
  have go115 : Goes p e below s₁ (G_rmOpen0 m a1 a2) T115 (mkF m 21 #[.val (.ref a1), .val (.ref a2)] [.null, (.int (Int32.ofNat (slotv (oo + ld) tk n))), (.ref B)]) := fun tq kq => go114 tq (st115 _ kq)
  have go116 : Goes p e below s₁ (G_rmOpen0 m a1 a2) T115 (mkF m 24 #[.val (.ref a1), .val (.ref a2)] [(.int (Int32.ofNat (slotv (oo + ld) tk n))), (.ref B)]) := fun tq kq => go115 tq (by
    show Steps p.tables e below (T115.setTop (mkF m 21 #[.val (.ref a1), .val (.ref a2)] [.null, (.int (Int32.ofNat (slotv (oo + ld) tk n))), (.ref B)])) _
    refine XS.ifnonnullNo X115.here hx rfl (hb hby d11_21) rfl ?_
    exact kq)
  obtain ⟨T117, h117, X117, e117, E117, A117, D117, -, st117⟩ := newO X115 hx hZ hown (tw36 hw) (tw58 hw) (tw59 hw) e115 (g := (mkF m 24 #[.val (.ref a1), .val (.ref a2)] [(.int (Int32.ofNat (slotv (oo + ld) tk n))), (.ref B)])) rfl (hb hby d11_24) (by decide) (by decide)
  obtain ⟨b117, g117⟩ : ∃ z, z = h0.size := ⟨_, rfl⟩
  rw [← g117] at A117 D117 st117
  have g_b117 : n0 ≤ b117 := Nat.le_trans Z0 (Nat.le_of_eq g117.symm)
  have sz_b117 : h0.size ≤ b117 := Nat.le_trans KP0.1 (Nat.le_of_eq g117.symm)
  have KP117 : Keep h0 h117 [B, a1] := KP0.ext E117
  have ZS117 : n0 ≤ h117.size := Nat.le_trans Z0 E117.1
  have F117_level : Fld Z h117 b117 "com/example/cicada/cicada/Bucket" "level" "Lcom/example/cicada/cicada/Level;" .null := D117 (Or.inr (tw65 hw)) (ty := (.object "com/example/cicada/cicada/Level")) (by decide)
  have F117_opensAt : Fld Z h117 b117 "com/example/cicada/cicada/Bucket" "opensAt" "J" (.long (0 : Int64)) := D117 (Or.inl (tw73 hw)) (ty := .long) (by decide)
  have ne118 : a1 ≠ b117 := Nat.ne_of_lt (Nat.lt_of_lt_of_le Ex.lt (Nat.le_of_eq g117.symm))
  have ne119 : B ≠ b117 := Nat.ne_of_lt (Nat.lt_of_lt_of_le VA.lt (Nat.le_of_eq g117.symm))
  have ne120 : a2 ≠ b117 := Nat.ne_of_lt (Nat.lt_of_lt_of_le Eb.lt (Nat.le_of_eq g117.symm))
  have go117 : Goes p e below s₁ (G_rmOpen0 m a1 a2) T117 (mkF m 27 #[.val (.ref a1), .val (.ref a2)] [(.ref b117), (.int (Int32.ofNat (slotv (oo + ld) tk n))), (.ref B)]) := fun tq kq => go116 tq (st117 _ kq)
  have go121 : Goes p e below s₁ (G_rmOpen0 m a1 a2) T117 (mkF m 29 #[.val (.ref a1), .val (.ref a2)] [(.ref a1), (.ref b117), (.ref b117), (.int (Int32.ofNat (slotv (oo + ld) tk n))), (.ref B)]) := fun tq kq => go117 tq (by
    show Steps p.tables e below (T117.setTop (mkF m 27 #[.val (.ref a1), .val (.ref a2)] [(.ref b117), (.int (Int32.ofNat (slotv (oo + ld) tk n))), (.ref B)])) _
    refine XS.dup X117.here hx rfl (hb hby d11_27) rfl rfl ?_
    show Steps p.tables e below (T117.setTop (mkF m 28 #[.val (.ref a1), .val (.ref a2)] [(.ref b117), (.ref b117), (.int (Int32.ofNat (slotv (oo + ld) tk n))), (.ref B)])) _
    refine XS.aloadN X117.here hx rfl (hb hby d11_28) rfl rfl ?_
    exact kq)
  obtain ⟨vv122, _, ⟨T122, L122, k122, n122⟩, -, X122, ⟨Lc122, hQ122, l122, y122, z122⟩, st122⟩ := X117.specialBack hx (y := (⟨"com/example/cicada/cicada/Bucket", "<init>", "(Lcom/example/cicada/cicada/Level;)V"⟩ : MethodName)) rfl hown (mvT hZ (tw60 hw)) (mvT hZ (tw61 hw)) (mvT hZ (tw62 hw)) (by decide) (backOf (W := 3) (rmBk l Z a0 hw [] b117 a1  h117 n0 ZS117 g_b117 A117 F117_level F117_opensAt) hZ (tw62 hw) (tw59 hw) (by decide) (by decide)) (g := (mkF m 29 #[.val (.ref a1), .val (.ref a2)] [(.ref a1), (.ref b117), (.ref b117), (.int (Int32.ofNat (slotv (oo + ld) tk n))), (.ref B)])) rfl (by rw [hml]; rfl) (Steps.refl _) (a := b117) (argsL := [(.ref a1)]) (rest := [(.ref b117), (.int (Int32.ofNat (slotv (oo + ld) tk n))), (.ref B)]) (lenOf pd_0 rfl) rfl (by show 2 * 0 + _ ≤ _; exact Nat.le_of_eq rfl) (hb hby d11_29) (fun _ _ => ⟨rfl, e117, (by decide : 1 + 0 ≤ _), (by decide : 6 + 0 ≤ _)⟩)
  dsimp only [Pt.U, Pt.locs, Pt.cells, Pt.slots] at X122 l122 y122 z122 st122 hQ122
  subst l122 y122 z122
  obtain ⟨rfl, Nq122, K122, A122, F122⟩ := hQ122
  have N122 := Fr.app N113 Nq122
  have ZS122 : n0 ≤ T122.heap.size := Nat.le_trans ZS117 K122.1
  have KP122 : Keep h0 T122.heap [B, a1] := KP117.trans K122 (allS (Or.inr sz_b117) all0)
  have go122 : Goes p e below s₁ (G_rmOpen0 m a1 a2) T122 (mkF m 32 #[.val (.ref a1), .val (.ref a2)] [(.ref b117), (.int (Int32.ofNat (slotv (oo + ld) tk n))), (.ref B)]) := fun tq kq => go121 tq (st122.trans kq)
  have go123 : Goes p e below s₁ (G_rmOpen0 m a1 a2) T122 (mkF m 39 #[.val (.ref a1), .val (.ref a2)] [(.ref b117), (.int (Int32.ofNat (slotv (oo + ld) tk n))), (.ref B)]) := fun tq kq => go122 tq (by
    show Steps p.tables e below (T122.setTop (mkF m 32 #[.val (.ref a1), .val (.ref a2)] [(.ref b117), (.int (Int32.ofNat (slotv (oo + ld) tk n))), (.ref B)])) _
    refine XS.goto X122.here hx rfl (pc0 := 32) (pc' := 39) rfl (hb hby d11_32) (by decide) (by decide) ?_
    exact kq)
  obtain ⟨cl124, Ar124, q124, S124, N_124, H124, G124⟩ := id (((VA.ext E117).keep K122 (ninS ne119 nin0)))
  have hin124 : ¬ ((Int32.ofNat (slotv (oo + ld) tk n)) < 0 ∨ cl124.slots.size ≤ ((Int32.ofNat (slotv (oo + ld) tk n))).toNatClampNeg) := inb_of S124 ⟨own_nneg (own_s16 hst hn2), own_lt hst hn2⟩
  obtain ⟨T125, h125, X125, e125, W125, st125⟩ := stR X122 hx hZ rfl Ar124 (j := (Int32.ofNat (slotv (oo + ld) tk n))) hin124 rfl (Sto.ofV Ar124 q124 Ov (Ins.self A122)) (g := (mkF m 39 #[.val (.ref a1), .val (.ref a2)] [(.ref b117), (.int (Int32.ofNat (slotv (oo + ld) tk n))), (.ref B)])) rfl rfl (hb hby d11_39)
  have N125 := Fr.snoc X125 N122 g_B
  have KP125 : Keep h0 h125 [B, a1] := KP122.wr W125 (Or.inl (List.mem_of_getElem? (i := 0) rfl))
  have ZS125 : n0 ≤ h125.size := Nat.le_trans ZS122 (Keep.of_wr W125).1
  have V125 : Arv Z h125 B kB (.object "com/example/cicada/cicada/Bucket") (Int32.ofNat n) (vs.set (slotv (oo + ld) tk n) (.ref b117)) .null := Arv.set Ar124 q124 S124 N_124 H124 G124 rfl W125 (slotv (oo + ld) tk n) (own_clamp (own_s16 hst hn2)) (by rw [hvl]; exact hst)
  have go125 : Goes p e below s₁ (G_rmOpen0 m a1 a2) T125 (mkF m 40 #[.val (.ref a1), .val (.ref a2)] []) := fun tq kq => go123 tq (st125 _ kq)
  have f126 := (Fld.other W125 ((Fs.ext E117).keep K122 (ninS ne118 nin0)) (Or.inl nB))
  have go127 : Goes p e below s₁ (G_rmOpen0 m a1 a2) T125 (mkF m 42 #[.val (.ref a1), .val (.ref a2)] [.null, (.ref a1)]) := fun tq kq => go125 tq (by
    show Steps p.tables e below (T125.setTop (mkF m 40 #[.val (.ref a1), .val (.ref a2)] [])) _
    refine XS.aloadN X125.here hx rfl (hb hby d11_40) rfl rfl ?_
    show Steps p.tables e below (T125.setTop (mkF m 41 #[.val (.ref a1), .val (.ref a2)] [(.ref a1)])) _
    refine XS.aconstNull X125.here hx rfl (hb hby d11_41) ?_
    exact kq)
  obtain ⟨T128, h128, X128, e128, W128, st128⟩ := putF X125 hx hZ hown (host := "") (Or.inl (tw93 hw)) Via.refl e125 f126 (Exa.wr W125 ((Ex.ext E117).keep K122)) (Or.inl (tw94 hw)) (tw7 hw) (ty := (.object "com/example/cicada/cicada/Bucket")) (by decide) rfl rfl (g := (mkF m 42 #[.val (.ref a1), .val (.ref a2)] [.null, (.ref a1)])) rfl rfl (hb hby d11_42)
  have N128 := Fr.snoc X128 N125 g_a1
  have KP128 : Keep h0 h128 [B, a1] := KP125.wr W128 (Or.inl (List.mem_of_getElem? (i := 1) rfl))
  have ZS128 : n0 ≤ h128.size := Nat.le_trans ZS125 (Keep.of_wr W128).1
  have F128 := Fld.same W128 f126
  have go128 : Goes p e below s₁ (G_rmOpen0 m a1 a2) T128 (mkF m 45 #[.val (.ref a1), .val (.ref a2)] []) := fun tq kq => go127 tq (st128 _ kq)
  have f129 := (Fld.other W128 (Fld.other W125 ((Fm.ext E117).keep K122 (ninS ne118 nin0)) (Or.inl nB)) (Or.inr (slot_ne (Or.inl (tw96 hw)) (Or.inl (tw94 hw)) (by decide) (t := (.object "com/example/cicada/cicada/Bucket")) (t' := (.object "com/example/cicada/cicada/Bucket")) (by decide) (by decide))))
  have go130 : Goes p e below s₁ (G_rmOpen0 m a1 a2) T128 (mkF m 47 #[.val (.ref a1), .val (.ref a2)] [(.ref a2), (.ref a1)]) := fun tq kq => go128 tq (by
    show Steps p.tables e below (T128.setTop (mkF m 45 #[.val (.ref a1), .val (.ref a2)] [])) _
    refine XS.aloadN X128.here hx rfl (hb hby d11_45) rfl rfl ?_
    show Steps p.tables e below (T128.setTop (mkF m 46 #[.val (.ref a1), .val (.ref a2)] [(.ref a1)])) _
    refine XS.aloadN X128.here hx rfl (hb hby d11_46) rfl rfl ?_
    exact kq)
  obtain ⟨T131, h131, X131, e131, W131, st131⟩ := putF X128 hx hZ hown (host := "") (Or.inl (tw95 hw)) Via.refl e128 f129 (Exa.wr W128 (Exa.wr W125 ((Ex.ext E117).keep K122))) (Or.inl (tw96 hw)) (tw7 hw) (ty := (.object "com/example/cicada/cicada/Bucket")) (by decide) rfl rfl (g := (mkF m 47 #[.val (.ref a1), .val (.ref a2)] [(.ref a2), (.ref a1)])) rfl rfl (hb hby d11_47)
  have N131 := Fr.snoc X131 N128 g_a1
  have KP131 : Keep h0 h131 [B, a1] := KP128.wr W131 (Or.inl (List.mem_of_getElem? (i := 1) rfl))
  have ZS131 : n0 ≤ h131.size := Nat.le_trans ZS128 (Keep.of_wr W131).1
  have F131 := Fld.same W131 f129
  have go131 : Goes p e below s₁ (G_rmOpen0 m a1 a2) T131 (mkF m 50 #[.val (.ref a1), .val (.ref a2)] []) := fun tq kq => go130 tq (st131 _ kq)
  have f132 := (Exa.wr W131 (Exa.wr W128 (Exa.wr W125 ((Ex.ext E117).keep K122))))
  have f133 := (Fld.other W131 (Fld.other W128 (Fld.other W125 ((Ft.ext E117).keep K122 (ninS ne118 nin0)) (Or.inl nB)) (Or.inr (slot_ne (Or.inr (tw22 hw)) (Or.inl (tw94 hw)) (by decide) (t := .long) (t' := (.object "com/example/cicada/cicada/Bucket")) (by decide) (by decide)))) (Or.inr (slot_ne (Or.inr (tw22 hw)) (Or.inl (tw96 hw)) (by decide) (t := .long) (t' := (.object "com/example/cicada/cicada/Bucket")) (by decide) (by decide))))
  have f134 := (Fld.other W131 (Fld.other W128 (Fld.other W125 ((Fl.ext E117).keep K122 (ninS ne118 nin0)) (Or.inl nB)) (Or.inr (slot_ne (Or.inr (tw24 hw)) (Or.inl (tw94 hw)) (by decide) (t := .long) (t' := (.object "com/example/cicada/cicada/Bucket")) (by decide) (by decide)))) (Or.inr (slot_ne (Or.inr (tw24 hw)) (Or.inl (tw96 hw)) (by decide) (t := .long) (t' := (.object "com/example/cicada/cicada/Bucket")) (by decide) (by decide))))
  have f135 := (Fld.other W131 (Fld.other W128 (Fld.other W125 ((Ft2.ext E117).keep K122 (ninS ne118 nin0)) (Or.inl nB)) (Or.inr (slot_ne (Or.inr (tw26 hw)) (Or.inl (tw94 hw)) (by decide) (t := .long) (t' := (.object "com/example/cicada/cicada/Bucket")) (by decide) (by decide)))) (Or.inr (slot_ne (Or.inr (tw26 hw)) (Or.inl (tw96 hw)) (by decide) (t := .long) (t' := (.object "com/example/cicada/cicada/Bucket")) (by decide) (by decide))))
  have f136 := (Fld.other W131 (Fld.other W128 (Fld.other W125 ((Fb.ext E117).keep K122 (ninS ne118 nin0)) (Or.inl nB)) (Or.inr (slot_ne (Or.inr (tw39 hw)) (Or.inl (tw94 hw)) (by decide) (t := (.array (.object "com/example/cicada/cicada/Bucket"))) (t' := (.object "com/example/cicada/cicada/Bucket")) (by decide) (by decide)))) (Or.inr (slot_ne (Or.inr (tw39 hw)) (Or.inl (tw96 hw)) (by decide) (t := (.array (.object "com/example/cicada/cicada/Bucket"))) (t' := (.object "com/example/cicada/cicada/Bucket")) (by decide) (by decide))))
  have f137 := (Fld.other W131 F128 (Or.inr (slot_ne (Or.inl (tw94 hw)) (Or.inl (tw96 hw)) (by decide) (t := (.object "com/example/cicada/cicada/Bucket")) (t' := (.object "com/example/cicada/cicada/Bucket")) (by decide) (by decide))))
  have f138 := (Fld.other W131 (Fld.other W128 (Fld.other W125 F122 (Or.inl (Ne.symm ne119))) (Or.inl (Ne.symm ne118))) (Or.inl (Ne.symm ne118)))
  obtain ⟨fs, hr, hrun, hended, hW, hsame⟩ := X131.leave (v := none) (fun _ => rfl)
  refine ⟨_, _, go131 _ ?_, hrun, hended, _, _, rfl, ?_, ⟨_, rfl⟩, hW, hsame.mono (by decide) (by decide)⟩
  · exact X131.returnOut hx Bd.returns (hb hby d11_50) hr
  · show Q_rmOpen0 Z a1 a2 tk ld oo mt B kB n vs h0 n0 _ T131.heap _
    rw [e131]
    exact ⟨rfl, N131, KP131, f132, f133, f134, f135, f136, f137, F131, b117, ⟨b117, _, rfl, g_b117, (Exa.wr W131 (Exa.wr W128 (Exa.wr W125 A122))), f138⟩, ((V125.other W128 (Ne.symm nB)).other W131 (Ne.symm nB))⟩
abbrev G_rmI3 (m : MethodId) (a1 : Addr) (a2 : Addr) (n : Nat) : JFrame := (entryFrame m #[(.ref a1), (.ref a2), (.int (Int32.ofNat n))] 3)
theorem d10_0 : decode prog_5_method_2_code 0 = .ok (.aload_n 0, 1) := by decide +kernel
theorem d10_1 : decode prog_5_method_2_code 1 = .ok (.aload_n 1, 1) := by decide +kernel
theorem d10_2 : decode prog_5_method_2_code 2 = .ok (.getfield 7, 3) := by decide +kernel
theorem d10_5 : decode prog_5_method_2_code 5 = .ok (.aload_n 1, 1) := by decide +kernel
theorem d10_6 : decode prog_5_method_2_code 6 = .ok (.getfield 11, 3) := by decide +kernel
theorem d10_9 : decode prog_5_method_2_code 9 = .ok (.aload_n 1, 1) := by decide +kernel
theorem d10_10 : decode prog_5_method_2_code 10 = .ok (.getfield 14, 3) := by decide +kernel
theorem d10_13 : decode prog_5_method_2_code 13 = .ok (.ladd, 1) := by decide +kernel
theorem d10_14 : decode prog_5_method_2_code 14 = .ok (.aload_n 1, 1) := by decide +kernel
theorem d10_15 : decode prog_5_method_2_code 15 = .ok (.getfield 11, 3) := by decide +kernel
theorem d10_18 : decode prog_5_method_2_code 18 = .ok (.aload_n 1, 1) := by decide +kernel
theorem d10_19 : decode prog_5_method_2_code 19 = .ok (.getfield 14, 3) := by decide +kernel
theorem d10_22 : decode prog_5_method_2_code 22 = .ok (.ladd, 1) := by decide +kernel
theorem d10_23 : decode prog_5_method_2_code 23 = .ok (.aload_n 1, 1) := by decide +kernel
theorem d10_24 : decode prog_5_method_2_code 24 = .ok (.getfield 17, 3) := by decide +kernel
theorem d10_27 : decode prog_5_method_2_code 27 = .ok (.lsub, 1) := by decide +kernel
theorem d10_28 : decode prog_5_method_2_code 28 = .ok (.aload_n 1, 1) := by decide +kernel
theorem d10_29 : decode prog_5_method_2_code 29 = .ok (.getfield 11, 3) := by decide +kernel
theorem d10_32 : decode prog_5_method_2_code 32 = .ok (.iload_n 2, 1) := by decide +kernel
theorem d10_33 : decode prog_5_method_2_code 33 = .ok (.invokespecial 1, 3) := by decide +kernel
theorem d10_36 : decode prog_5_method_2_code 36 = .ok (.return_, 1) := by decide +kernel
def Q_rmI3 (Z : State) (a1 : Addr) (a2 : Addr) (sp fl tk ld : Int64) (n : Nat) (h0 : Heap) (n0 : Nat) (v : Option Value) (h : Heap) (L : List Loc) : Prop := v = none ∧ Fr n0 L ∧ Keep h0 h [a1] ∧ Exa Z h a1 "com/example/cicada/cicada/Level" ∧ Fld Z h a1 "com/example/cicada/cicada/Level" "tick" "J" (.long sp) ∧ Fld Z h a1 "com/example/cicada/cicada/Level" "lead" "J" (.long (fl + tk)) ∧ Fld Z h a1 "com/example/cicada/cicada/Level" "moveTime" "J" (.long ((fl + tk) - ld)) ∧ Fld Z h a1 "com/example/cicada/cicada/Level" "firstLead" "J" (.long fl) ∧ Fld Z h a1 "com/example/cicada/cicada/Level" "span" "J" (.long (spanv sp (Int32.ofNat n))) ∧ Fld Z h a1 "com/example/cicada/cicada/Level" "spare" "Lcom/example/cicada/cicada/Bucket;" .null ∧ Fld Z h a1 "com/example/cicada/cicada/Level" "moving" "Lcom/example/cicada/cicada/Bucket;" .null ∧ ∃ (B : Addr) (kB : ClassId) (vs : List Value), h0.size ≤ B ∧ Fld Z h a1 "com/example/cicada/cicada/Level" "buckets" "[Lcom/example/cicada/cicada/Bucket;" (.ref B) ∧ Ovr Z kB "com/example/cicada/cicada/Bucket" ∧ Arv Z h B kB (.object "com/example/cicada/cicada/Bucket") (Int32.ofNat n) vs .null ∧ vs.length = n ∧ AllB Z h n0 n vs
set_option maxRecDepth 65536 in
set_option maxHeartbeats 40000000 in
theorem rmI3 (l : Launch) (Z : State) (a0 : Array Value) (hw : ∀ d ∈ tables_1, d.before a0 Z = true) (ws : List Jvm.Cond) (a1 : Addr) (a2 : Addr) (sp fl tk ld : Int64) (n : Nat) (h0 : Heap) (n0 : Nat) (Z0 : n0 ≤ h0.size) (g_a1 : n0 ≤ a1) (Ex : Exa Z h0 a1 "com/example/cicada/cicada/Level") (F_seenFrom : Fld Z h0 a1 "com/example/cicada/cicada/Level" "seenFrom" "J" (.long (0 : Int64))) (F_tick : Fld Z h0 a1 "com/example/cicada/cicada/Level" "tick" "J" (.long (0 : Int64))) (F_lead : Fld Z h0 a1 "com/example/cicada/cicada/Level" "lead" "J" (.long (0 : Int64))) (F_moveTime : Fld Z h0 a1 "com/example/cicada/cicada/Level" "moveTime" "J" (.long (0 : Int64))) (F_firstLead : Fld Z h0 a1 "com/example/cicada/cicada/Level" "firstLead" "J" (.long (0 : Int64))) (F_span : Fld Z h0 a1 "com/example/cicada/cicada/Level" "span" "J" (.long (0 : Int64))) (F_buckets : Fld Z h0 a1 "com/example/cicada/cicada/Level" "buckets" "[Lcom/example/cicada/cicada/Bucket;" .null) (F_spare : Fld Z h0 a1 "com/example/cicada/cicada/Level" "spare" "Lcom/example/cicada/cicada/Bucket;" .null) (F_moving : Fld Z h0 a1 "com/example/cicada/cicada/Level" "moving" "Lcom/example/cicada/cicada/Bucket;" .null) (hn1 : 1 ≤ n) (hn2 : n ≤ 16) (Gs : Fld Z h0 a2 "com/example/cicada/cicada/Level" "span" "J" (.long sp)) (Gf : Fld Z h0 a2 "com/example/cicada/cicada/Level" "firstLead" "J" (.long fl)) (Gt : Fld Z h0 a2 "com/example/cicada/cicada/Level" "tick" "J" (.long tk)) (Gl : Fld Z h0 a2 "com/example/cicada/cicada/Level" "lead" "J" (.long ld)) :
    MetFree l (⟨"com/example/cicada/cicada/Level", "<init>", "(Lcom/example/cicada/cicada/Level;I)V"⟩ : MethodName) (head1 (Jvm.Cond.code (⟨"com/example/cicada/cicada/Level", "<init>", "(Lcom/example/cicada/cicada/Level;I)V"⟩ : MethodName) prog_5_method_2_code 3 none :: ws) ({ frames := 6, cells := 18, slots := 113, locals := 3095 } : Room)) (fun a U => a = #[(.ref a1), (.ref a2), (.int (Int32.ofNat n))] ∧ Z.WarmedH U.vm ∧ U.heap = h0) (fun _ _ _ _ _ => True) (fun _ U o U' => ∃ v L, o = .returned v ∧ Q_rmI3 Z a1 a2 sp fl tk ld n h0 n0 v U'.heap L ∧ FrameEnd U o U' L ({ frames := 6, cells := 18, slots := 113, locals := 3095 } : Room).cells ({ frames := 6, cells := 18, slots := 113, locals := 3095 } : Room).slots) := by
  refine MetFree.of_bodySF (plainFor_of_name pn_com_example_cicada_cicada_Level) hisR ?_
  intro p e s m args below meth c s₁ Bd hml0 hP hK
  obtain ⟨rfl, hH, hh⟩ := hP
  have hZ := hH.wide
  have hx := Bd.exec
  have hby := Bd.bytes
  have hml : c.maxLocals = 3 := hml0
  have hown : s.vm.findClass "com/example/cicada/cicada/Level" = some m.cls := findClass_of_methodNamed Bd.named
  have hnm := (name_of_methodNamed Bd.named Bd.method).1
  have X0 : Stand p l e ({ frames := 6, cells := 18, slots := 113, locals := 3095 } : Room) s m #[(.ref a1), (.ref a2), (.int (Int32.ofNat n))] below meth c s₁ [] 0 0 := Stand.of_body Bd
  have e0 : s₁.heap = h0 := by rw [← hh, Bd.state]; rfl
  have N0 := Fr.nil n0
  have KP0 : Keep h0 h0 [a1] := Keep.refl h0 [a1]
  have go0 : Goes p e below s₁ (G_rmI3 m a1 a2 n) s₁ (mkF m 0 #[.val (.ref a1), .val (.ref a2), .val (.int (Int32.ofNat n))] []) := fun tq kq => castTop (by first | (simp [entryFrame, mkF, argsToLocals, Value.category, G_rmI3]; done) | rfl) kq
  have go139 : Goes p e below s₁ (G_rmI3 m a1 a2 n) s₁ (mkF m 2 #[.val (.ref a1), .val (.ref a2), .val (.int (Int32.ofNat n))] [(.ref a2), (.ref a1)]) := fun tq kq => go0 tq (by
    show Steps p.tables e below (s₁.setTop (mkF m 0 #[.val (.ref a1), .val (.ref a2), .val (.int (Int32.ofNat n))] [])) _
    refine XS.aloadN X0.here hx rfl (hb hby d10_0) rfl rfl ?_
    show Steps p.tables e below (s₁.setTop (mkF m 1 #[.val (.ref a1), .val (.ref a2), .val (.int (Int32.ofNat n))] [(.ref a1)])) _
    refine XS.aloadN X0.here hx rfl (hb hby d10_1) rfl rfl ?_
    exact kq)
  obtain ⟨T140, X140, e140, st140⟩ := getF X0 hx hZ hown (host := "") (Or.inl (tw34 hw)) Via.refl e0 Gs (g := (mkF m 2 #[.val (.ref a1), .val (.ref a2), .val (.int (Int32.ofNat n))] [(.ref a2), (.ref a1)])) rfl rfl (hb hby d10_2)
  have go140 : Goes p e below s₁ (G_rmI3 m a1 a2 n) T140 (mkF m 5 #[.val (.ref a1), .val (.ref a2), .val (.int (Int32.ofNat n))] [(.long sp), (.ref a1)]) := fun tq kq => go139 tq (st140 _ kq)
  have go141 : Goes p e below s₁ (G_rmI3 m a1 a2 n) T140 (mkF m 6 #[.val (.ref a1), .val (.ref a2), .val (.int (Int32.ofNat n))] [(.ref a2), (.long sp), (.ref a1)]) := fun tq kq => go140 tq (by
    show Steps p.tables e below (T140.setTop (mkF m 5 #[.val (.ref a1), .val (.ref a2), .val (.int (Int32.ofNat n))] [(.long sp), (.ref a1)])) _
    refine XS.aloadN X140.here hx rfl (hb hby d10_5) rfl rfl ?_
    exact kq)
  obtain ⟨T142, X142, e142, st142⟩ := getF X140 hx hZ hown (host := "") (Or.inl (tw27 hw)) Via.refl e140 Gf (g := (mkF m 6 #[.val (.ref a1), .val (.ref a2), .val (.int (Int32.ofNat n))] [(.ref a2), (.long sp), (.ref a1)])) rfl rfl (hb hby d10_6)
  have go142 : Goes p e below s₁ (G_rmI3 m a1 a2 n) T142 (mkF m 9 #[.val (.ref a1), .val (.ref a2), .val (.int (Int32.ofNat n))] [(.long fl), (.long sp), (.ref a1)]) := fun tq kq => go141 tq (st142 _ kq)
  have go143 : Goes p e below s₁ (G_rmI3 m a1 a2 n) T142 (mkF m 10 #[.val (.ref a1), .val (.ref a2), .val (.int (Int32.ofNat n))] [(.ref a2), (.long fl), (.long sp), (.ref a1)]) := fun tq kq => go142 tq (by
    show Steps p.tables e below (T142.setTop (mkF m 9 #[.val (.ref a1), .val (.ref a2), .val (.int (Int32.ofNat n))] [(.long fl), (.long sp), (.ref a1)])) _
    refine XS.aloadN X142.here hx rfl (hb hby d10_9) rfl rfl ?_
    exact kq)
  obtain ⟨T144, X144, e144, st144⟩ := getF X142 hx hZ hown (host := "") (Or.inl (tw21 hw)) Via.refl e142 Gt (g := (mkF m 10 #[.val (.ref a1), .val (.ref a2), .val (.int (Int32.ofNat n))] [(.ref a2), (.long fl), (.long sp), (.ref a1)])) rfl rfl (hb hby d10_10)
  have go144 : Goes p e below s₁ (G_rmI3 m a1 a2 n) T144 (mkF m 13 #[.val (.ref a1), .val (.ref a2), .val (.int (Int32.ofNat n))] [(.long tk), (.long fl), (.long sp), (.ref a1)]) := fun tq kq => go143 tq (st144 _ kq)
  have go145 : Goes p e below s₁ (G_rmI3 m a1 a2 n) T144 (mkF m 15 #[.val (.ref a1), .val (.ref a2), .val (.int (Int32.ofNat n))] [(.ref a2), (.long (fl + tk)), (.long sp), (.ref a1)]) := fun tq kq => go144 tq (by
    show Steps p.tables e below (T144.setTop (mkF m 13 #[.val (.ref a1), .val (.ref a2), .val (.int (Int32.ofNat n))] [(.long tk), (.long fl), (.long sp), (.ref a1)])) _
    refine XS.ladd X144.here hx rfl (hb hby d10_13) rfl ?_
    show Steps p.tables e below (T144.setTop (mkF m 14 #[.val (.ref a1), .val (.ref a2), .val (.int (Int32.ofNat n))] [(.long (fl + tk)), (.long sp), (.ref a1)])) _
    refine XS.aloadN X144.here hx rfl (hb hby d10_14) rfl rfl ?_
    exact kq)
  obtain ⟨T146, X146, e146, st146⟩ := getF X144 hx hZ hown (host := "") (Or.inl (tw27 hw)) Via.refl e144 Gf (g := (mkF m 15 #[.val (.ref a1), .val (.ref a2), .val (.int (Int32.ofNat n))] [(.ref a2), (.long (fl + tk)), (.long sp), (.ref a1)])) rfl rfl (hb hby d10_15)
  have go146 : Goes p e below s₁ (G_rmI3 m a1 a2 n) T146 (mkF m 18 #[.val (.ref a1), .val (.ref a2), .val (.int (Int32.ofNat n))] [(.long fl), (.long (fl + tk)), (.long sp), (.ref a1)]) := fun tq kq => go145 tq (st146 _ kq)
  have go147 : Goes p e below s₁ (G_rmI3 m a1 a2 n) T146 (mkF m 19 #[.val (.ref a1), .val (.ref a2), .val (.int (Int32.ofNat n))] [(.ref a2), (.long fl), (.long (fl + tk)), (.long sp), (.ref a1)]) := fun tq kq => go146 tq (by
    show Steps p.tables e below (T146.setTop (mkF m 18 #[.val (.ref a1), .val (.ref a2), .val (.int (Int32.ofNat n))] [(.long fl), (.long (fl + tk)), (.long sp), (.ref a1)])) _
    refine XS.aloadN X146.here hx rfl (hb hby d10_18) rfl rfl ?_
    exact kq)
  obtain ⟨T148, X148, e148, st148⟩ := getF X146 hx hZ hown (host := "") (Or.inl (tw21 hw)) Via.refl e146 Gt (g := (mkF m 19 #[.val (.ref a1), .val (.ref a2), .val (.int (Int32.ofNat n))] [(.ref a2), (.long fl), (.long (fl + tk)), (.long sp), (.ref a1)])) rfl rfl (hb hby d10_19)
  have go148 : Goes p e below s₁ (G_rmI3 m a1 a2 n) T148 (mkF m 22 #[.val (.ref a1), .val (.ref a2), .val (.int (Int32.ofNat n))] [(.long tk), (.long fl), (.long (fl + tk)), (.long sp), (.ref a1)]) := fun tq kq => go147 tq (st148 _ kq)
  have go149 : Goes p e below s₁ (G_rmI3 m a1 a2 n) T148 (mkF m 24 #[.val (.ref a1), .val (.ref a2), .val (.int (Int32.ofNat n))] [(.ref a2), (.long (fl + tk)), (.long (fl + tk)), (.long sp), (.ref a1)]) := fun tq kq => go148 tq (by
    show Steps p.tables e below (T148.setTop (mkF m 22 #[.val (.ref a1), .val (.ref a2), .val (.int (Int32.ofNat n))] [(.long tk), (.long fl), (.long (fl + tk)), (.long sp), (.ref a1)])) _
    refine XS.ladd X148.here hx rfl (hb hby d10_22) rfl ?_
    show Steps p.tables e below (T148.setTop (mkF m 23 #[.val (.ref a1), .val (.ref a2), .val (.int (Int32.ofNat n))] [(.long (fl + tk)), (.long (fl + tk)), (.long sp), (.ref a1)])) _
    refine XS.aloadN X148.here hx rfl (hb hby d10_23) rfl rfl ?_
    exact kq)
  obtain ⟨T150, X150, e150, st150⟩ := getF X148 hx hZ hown (host := "") (Or.inl (tw23 hw)) Via.refl e148 Gl (g := (mkF m 24 #[.val (.ref a1), .val (.ref a2), .val (.int (Int32.ofNat n))] [(.ref a2), (.long (fl + tk)), (.long (fl + tk)), (.long sp), (.ref a1)])) rfl rfl (hb hby d10_24)
  have go150 : Goes p e below s₁ (G_rmI3 m a1 a2 n) T150 (mkF m 27 #[.val (.ref a1), .val (.ref a2), .val (.int (Int32.ofNat n))] [(.long ld), (.long (fl + tk)), (.long (fl + tk)), (.long sp), (.ref a1)]) := fun tq kq => go149 tq (st150 _ kq)
  have go151 : Goes p e below s₁ (G_rmI3 m a1 a2 n) T150 (mkF m 29 #[.val (.ref a1), .val (.ref a2), .val (.int (Int32.ofNat n))] [(.ref a2), (.long ((fl + tk) - ld)), (.long (fl + tk)), (.long sp), (.ref a1)]) := fun tq kq => go150 tq (by
    show Steps p.tables e below (T150.setTop (mkF m 27 #[.val (.ref a1), .val (.ref a2), .val (.int (Int32.ofNat n))] [(.long ld), (.long (fl + tk)), (.long (fl + tk)), (.long sp), (.ref a1)])) _
    refine XS.lsub X150.here hx rfl (hb hby d10_27) rfl ?_
    show Steps p.tables e below (T150.setTop (mkF m 28 #[.val (.ref a1), .val (.ref a2), .val (.int (Int32.ofNat n))] [(.long ((fl + tk) - ld)), (.long (fl + tk)), (.long sp), (.ref a1)])) _
    refine XS.aloadN X150.here hx rfl (hb hby d10_28) rfl rfl ?_
    exact kq)
  obtain ⟨T152, X152, e152, st152⟩ := getF X150 hx hZ hown (host := "") (Or.inl (tw27 hw)) Via.refl e150 Gf (g := (mkF m 29 #[.val (.ref a1), .val (.ref a2), .val (.int (Int32.ofNat n))] [(.ref a2), (.long ((fl + tk) - ld)), (.long (fl + tk)), (.long sp), (.ref a1)])) rfl rfl (hb hby d10_29)
  have go152 : Goes p e below s₁ (G_rmI3 m a1 a2 n) T152 (mkF m 32 #[.val (.ref a1), .val (.ref a2), .val (.int (Int32.ofNat n))] [(.long fl), (.long ((fl + tk) - ld)), (.long (fl + tk)), (.long sp), (.ref a1)]) := fun tq kq => go151 tq (st152 _ kq)
  have go153 : Goes p e below s₁ (G_rmI3 m a1 a2 n) T152 (mkF m 33 #[.val (.ref a1), .val (.ref a2), .val (.int (Int32.ofNat n))] [(.int (Int32.ofNat n)), (.long fl), (.long ((fl + tk) - ld)), (.long (fl + tk)), (.long sp), (.ref a1)]) := fun tq kq => go152 tq (by
    show Steps p.tables e below (T152.setTop (mkF m 32 #[.val (.ref a1), .val (.ref a2), .val (.int (Int32.ofNat n))] [(.long fl), (.long ((fl + tk) - ld)), (.long (fl + tk)), (.long sp), (.ref a1)])) _
    refine XS.iloadN X152.here hx rfl (hb hby d10_32) rfl ?_
    exact kq)
  obtain ⟨vv154, _, ⟨T154, L154, k154, n154⟩, -, X154, ⟨Lc154, hQ154, l154, y154, z154⟩, st154⟩ := X152.specialBack hx (y := (⟨"com/example/cicada/cicada/Level", "<init>", "(JJJJI)V"⟩ : MethodName)) rfl hown (mvT hZ (tw12 hw)) (mvT hZ (tw13 hw)) (mvT hZ (tw14 hw)) (by decide) (own_backH (W := 0) (rmI5 l Z a0 hw [] a1 sp (fl + tk) ((fl + tk) - ld) fl n h0 n0 Z0 g_a1 Ex F_seenFrom F_tick F_lead F_moveTime F_firstLead F_span F_buckets F_spare F_moving hn1 hn2) hH (tw14 hw) (tw8 hw) (by decide) (by decide)) (g := (mkF m 33 #[.val (.ref a1), .val (.ref a2), .val (.int (Int32.ofNat n))] [(.int (Int32.ofNat n)), (.long fl), (.long ((fl + tk) - ld)), (.long (fl + tk)), (.long sp), (.ref a1)])) rfl (by rw [hml]; rfl) (Steps.refl _) (a := a1) (argsL := [(.long sp), (.long (fl + tk)), (.long ((fl + tk) - ld)), (.long fl), (.int (Int32.ofNat n))]) (rest := []) (lenOf pd_5 rfl) rfl (by show 2 * 0 + _ ≤ _; exact Nat.le_of_eq rfl) (hb hby d10_33) (fun _ _ => ⟨rfl, e152, (by decide : 0 + 18 ≤ _), (by decide : 0 + 113 ≤ _)⟩)
  dsimp only [Pt.U, Pt.locs, Pt.cells, Pt.slots] at X154 l154 y154 z154 st154 hQ154
  subst l154 y154 z154
  obtain ⟨rfl, Nq154, K154, rest154⟩ := hQ154
  have N154 := Fr.app N0 Nq154
  have ZS154 : n0 ≤ T154.heap.size := Nat.le_trans Z0 K154.1
  have KP154 : Keep h0 T154.heap [a1] := KP0.trans K154 (allS (Or.inl (List.mem_of_getElem? (i := 0) rfl)) all0)
  have go154 : Goes p e below s₁ (G_rmI3 m a1 a2 n) T154 (mkF m 36 #[.val (.ref a1), .val (.ref a2), .val (.int (Int32.ofNat n))] []) := fun tq kq => go153 tq (st154.trans kq)
  obtain ⟨fs, hr, hrun, hended, hW, hsame⟩ := X154.leave (v := none) (fun _ => rfl)
  refine ⟨_, _, go154 _ ?_, hrun, hended, _, _, rfl, ?_, ⟨_, rfl⟩, hW, hsame.mono (by decide) (by decide)⟩
  · exact X154.returnOut hx Bd.returns (hb hby d10_36) hr
  · show Q_rmI3 Z a1 a2 sp fl tk ld n h0 n0 _ T154.heap _
    exact ⟨rfl, N154, KP154, rest154⟩
abbrev G_rmMid (m : MethodId) (a1 : Addr) : JFrame := (entryFrame m #[(.ref a1)] 1)
theorem d17_0 : decode prog_5_method_12_code 0 = .ok (.aload_n 0, 1) := by decide +kernel
theorem d17_1 : decode prog_5_method_12_code 1 = .ok (.getfield 87, 3) := by decide +kernel
theorem d17_4 : decode prog_5_method_12_code 4 = .ok (.getfield 77, 3) := by decide +kernel
theorem d17_7 : decode prog_5_method_12_code 7 = .ok (.aload_n 0, 1) := by decide +kernel
theorem d17_8 : decode prog_5_method_12_code 8 = .ok (.getfield 30, 3) := by decide +kernel
theorem d17_11 : decode prog_5_method_12_code 11 = .ok (.ldc2_w 90, 3) := by decide +kernel
theorem d17_14 : decode prog_5_method_12_code 14 = .ok (.ldiv, 1) := by decide +kernel
theorem d17_15 : decode prog_5_method_12_code 15 = .ok (.ladd, 1) := by decide +kernel
theorem d17_16 : decode prog_5_method_12_code 16 = .ok (.lreturn, 1) := by decide +kernel
def Q_rmMid (Z : State) (a1 : Addr) (mv : Addr) (oo mt : Int64) (h0 : Heap) (n0 : Nat) (v : Option Value) (h : Heap) (L : List Loc) : Prop := v = some (.long (oo + (mt / (2 : Int64)))) ∧ Fr n0 L ∧ h = h0
set_option maxRecDepth 65536 in
set_option maxHeartbeats 40000000 in
theorem rmMid (l : Launch) (Z : State) (a0 : Array Value) (hw : ∀ d ∈ tables_1, d.before a0 Z = true) (ws : List Jvm.Cond) (a1 : Addr) (mv : Addr) (oo mt : Int64) (h0 : Heap) (n0 : Nat) (Z0 : n0 ≤ h0.size) (Fm : Fld Z h0 a1 "com/example/cicada/cicada/Level" "moving" "Lcom/example/cicada/cicada/Bucket;" (.ref mv)) (Fo : Fld Z h0 mv "com/example/cicada/cicada/Bucket" "opensAt" "J" (.long oo)) (Fz : Fld Z h0 a1 "com/example/cicada/cicada/Level" "moveTime" "J" (.long mt)) :
    MetFree l (⟨"com/example/cicada/cicada/Level", "moveMiddle", "()J"⟩ : MethodName) (head1 (Jvm.Cond.code (⟨"com/example/cicada/cicada/Level", "moveMiddle", "()J"⟩ : MethodName) prog_5_method_12_code 1 (some .long) :: ws) ({ frames := 0, cells := 0, slots := 0, locals := 0 } : Room)) (fun a U => a = #[(.ref a1)] ∧ Z.Warmed39 U.vm ∧ U.heap = h0) (fun _ _ _ _ _ => True) (fun _ U o U' => ∃ v L, o = .returned v ∧ Q_rmMid Z a1 mv oo mt h0 n0 v U'.heap L ∧ FrameEnd U o U' L ({ frames := 0, cells := 0, slots := 0, locals := 0 } : Room).cells ({ frames := 0, cells := 0, slots := 0, locals := 0 } : Room).slots) := by
  refine MetFree.of_bodySF (plainFor_of_name pn_com_example_cicada_cicada_Level) hisR ?_
  intro p e s m args below meth c s₁ Bd hml0 hP hK
  obtain ⟨rfl, hZ, hh⟩ := hP
  have hx := Bd.exec
  have hby := Bd.bytes
  have hml : c.maxLocals = 1 := hml0
  have hown : s.vm.findClass "com/example/cicada/cicada/Level" = some m.cls := findClass_of_methodNamed Bd.named
  have hnm := (name_of_methodNamed Bd.named Bd.method).1
  have X0 : Stand p l e ({ frames := 0, cells := 0, slots := 0, locals := 0 } : Room) s m #[(.ref a1)] below meth c s₁ [] 0 0 := Stand.of_body Bd
  have e0 : s₁.heap = h0 := by rw [← hh, Bd.state]; rfl
  have N0 := Fr.nil n0
  have go0 : Goes p e below s₁ (G_rmMid m a1) s₁ (mkF m 0 #[.val (.ref a1)] []) := fun tq kq => castTop (by first | (simp [entryFrame, mkF, argsToLocals, Value.category, G_rmMid]; done) | rfl) kq
  have go155 : Goes p e below s₁ (G_rmMid m a1) s₁ (mkF m 1 #[.val (.ref a1)] [(.ref a1)]) := fun tq kq => go0 tq (by
    show Steps p.tables e below (s₁.setTop (mkF m 0 #[.val (.ref a1)] [])) _
    refine XS.aloadN X0.here hx rfl (hb hby d17_0) rfl rfl ?_
    exact kq)
  obtain ⟨T156, X156, e156, st156⟩ := getF X0 hx hZ hown (host := "") (Or.inl (tw95 hw)) Via.refl e0 Fm (g := (mkF m 1 #[.val (.ref a1)] [(.ref a1)])) rfl rfl (hb hby d17_1)
  have go156 : Goes p e below s₁ (G_rmMid m a1) T156 (mkF m 4 #[.val (.ref a1)] [(.ref mv)]) := fun tq kq => go155 tq (st156 _ kq)
  obtain ⟨T157, X157, e157, st157⟩ := getF X156 hx hZ hown (host := "") (Or.inl (tw79 hw)) Via.refl e156 Fo (g := (mkF m 4 #[.val (.ref a1)] [(.ref mv)])) rfl rfl (hb hby d17_4)
  have go157 : Goes p e below s₁ (G_rmMid m a1) T157 (mkF m 7 #[.val (.ref a1)] [(.long oo)]) := fun tq kq => go156 tq (st157 _ kq)
  have go158 : Goes p e below s₁ (G_rmMid m a1) T157 (mkF m 8 #[.val (.ref a1)] [(.ref a1), (.long oo)]) := fun tq kq => go157 tq (by
    show Steps p.tables e below (T157.setTop (mkF m 7 #[.val (.ref a1)] [(.long oo)])) _
    refine XS.aloadN X157.here hx rfl (hb hby d17_7) rfl rfl ?_
    exact kq)
  obtain ⟨T159, X159, e159, st159⟩ := getF X157 hx hZ hown (host := "") (Or.inl (tw25 hw)) Via.refl e157 Fz (g := (mkF m 8 #[.val (.ref a1)] [(.ref a1), (.long oo)])) rfl rfl (hb hby d17_8)
  have go159 : Goes p e below s₁ (G_rmMid m a1) T159 (mkF m 11 #[.val (.ref a1)] [(.long mt), (.long oo)]) := fun tq kq => go158 tq (st159 _ kq)
  have go160 : Goes p e below s₁ (G_rmMid m a1) T159 (mkF m 16 #[.val (.ref a1)] [(.long (oo + (mt / (2 : Int64))))]) := fun tq kq => go159 tq (by
    show Steps p.tables e below (T159.setTop (mkF m 11 #[.val (.ref a1)] [(.long mt), (.long oo)])) _
    refine X159.ldc2Long hx hown (mvT hZ (tw107 hw)) (g := (mkF m 11 #[.val (.ref a1)] [(.long mt), (.long oo)])) rfl (hb hby d17_11) _ ?_
    show Steps p.tables e below (T159.setTop (mkF m 14 #[.val (.ref a1)] [(.long (2 : Int64)), (.long mt), (.long oo)])) _
    refine XS.ldiv X159.here hx rfl (hb hby d17_14) rfl (by decide) ?_
    show Steps p.tables e below (T159.setTop (mkF m 15 #[.val (.ref a1)] [(.long (mt / (2 : Int64))), (.long oo)])) _
    refine XS.ladd X159.here hx rfl (hb hby d17_15) rfl ?_
    exact kq)
  obtain ⟨fs, hr, hrun, hended, hW, hsame⟩ := X159.leave (v := some (.long (oo + (mt / (2 : Int64))))) (fun h => by rw [Bd.returns] at h; cases h)
  refine ⟨_, _, go160 _ ?_, hrun, hended, _, _, rfl, ?_, ⟨_, rfl⟩, hW, hsame.mono (by decide) (by decide)⟩
  · jvm_step X159.here [X159.here.top, hx, (hb hby d17_16), X159.method', Bd.returns, narrow]
    first | (intro acts; rw [hr _ acts rfl rfl rfl]) | rw [hr _ _ rfl rfl rfl]
    exact Steps.refl _
  · show Q_rmMid Z a1 mv oo mt h0 n0 _ T159.heap _
    rw [e159]
    exact ⟨rfl, N0, rfl⟩
abbrev G_rmDl (m : MethodId) (a1 : Addr) : JFrame := (entryFrame m #[(.ref a1)] 1)
theorem d18_0 : decode prog_5_method_11_code 0 = .ok (.aload_n 0, 1) := by decide +kernel
theorem d18_1 : decode prog_5_method_11_code 1 = .ok (.getfield 87, 3) := by decide +kernel
theorem d18_4 : decode prog_5_method_11_code 4 = .ok (.getfield 77, 3) := by decide +kernel
theorem d18_7 : decode prog_5_method_11_code 7 = .ok (.aload_n 0, 1) := by decide +kernel
theorem d18_8 : decode prog_5_method_11_code 8 = .ok (.getfield 30, 3) := by decide +kernel
theorem d18_11 : decode prog_5_method_11_code 11 = .ok (.ladd, 1) := by decide +kernel
theorem d18_12 : decode prog_5_method_11_code 12 = .ok (.lreturn, 1) := by decide +kernel
def Q_rmDl (Z : State) (a1 : Addr) (mv : Addr) (oo mt : Int64) (h0 : Heap) (n0 : Nat) (v : Option Value) (h : Heap) (L : List Loc) : Prop := v = some (.long (oo + mt)) ∧ Fr n0 L ∧ h = h0
set_option maxRecDepth 65536 in
set_option maxHeartbeats 40000000 in
theorem rmDl (l : Launch) (Z : State) (a0 : Array Value) (hw : ∀ d ∈ tables_1, d.before a0 Z = true) (ws : List Jvm.Cond) (a1 : Addr) (mv : Addr) (oo mt : Int64) (h0 : Heap) (n0 : Nat) (Z0 : n0 ≤ h0.size) (Fm : Fld Z h0 a1 "com/example/cicada/cicada/Level" "moving" "Lcom/example/cicada/cicada/Bucket;" (.ref mv)) (Fo : Fld Z h0 mv "com/example/cicada/cicada/Bucket" "opensAt" "J" (.long oo)) (Fz : Fld Z h0 a1 "com/example/cicada/cicada/Level" "moveTime" "J" (.long mt)) :
    MetFree l (⟨"com/example/cicada/cicada/Level", "moveDeadline", "()J"⟩ : MethodName) (head1 (Jvm.Cond.code (⟨"com/example/cicada/cicada/Level", "moveDeadline", "()J"⟩ : MethodName) prog_5_method_11_code 1 (some .long) :: ws) ({ frames := 0, cells := 0, slots := 0, locals := 0 } : Room)) (fun a U => a = #[(.ref a1)] ∧ Z.Warmed39 U.vm ∧ U.heap = h0) (fun _ _ _ _ _ => True) (fun _ U o U' => ∃ v L, o = .returned v ∧ Q_rmDl Z a1 mv oo mt h0 n0 v U'.heap L ∧ FrameEnd U o U' L ({ frames := 0, cells := 0, slots := 0, locals := 0 } : Room).cells ({ frames := 0, cells := 0, slots := 0, locals := 0 } : Room).slots) := by
  refine MetFree.of_bodySF (plainFor_of_name pn_com_example_cicada_cicada_Level) hisR ?_
  intro p e s m args below meth c s₁ Bd hml0 hP hK
  obtain ⟨rfl, hZ, hh⟩ := hP
  have hx := Bd.exec
  have hby := Bd.bytes
  have hml : c.maxLocals = 1 := hml0
  have hown : s.vm.findClass "com/example/cicada/cicada/Level" = some m.cls := findClass_of_methodNamed Bd.named
  have hnm := (name_of_methodNamed Bd.named Bd.method).1
  have X0 : Stand p l e ({ frames := 0, cells := 0, slots := 0, locals := 0 } : Room) s m #[(.ref a1)] below meth c s₁ [] 0 0 := Stand.of_body Bd
  have e0 : s₁.heap = h0 := by rw [← hh, Bd.state]; rfl
  have N0 := Fr.nil n0
  have go0 : Goes p e below s₁ (G_rmDl m a1) s₁ (mkF m 0 #[.val (.ref a1)] []) := fun tq kq => castTop (by first | (simp [entryFrame, mkF, argsToLocals, Value.category, G_rmDl]; done) | rfl) kq
  have go161 : Goes p e below s₁ (G_rmDl m a1) s₁ (mkF m 1 #[.val (.ref a1)] [(.ref a1)]) := fun tq kq => go0 tq (by
    show Steps p.tables e below (s₁.setTop (mkF m 0 #[.val (.ref a1)] [])) _
    refine XS.aloadN X0.here hx rfl (hb hby d18_0) rfl rfl ?_
    exact kq)
  obtain ⟨T162, X162, e162, st162⟩ := getF X0 hx hZ hown (host := "") (Or.inl (tw95 hw)) Via.refl e0 Fm (g := (mkF m 1 #[.val (.ref a1)] [(.ref a1)])) rfl rfl (hb hby d18_1)
  have go162 : Goes p e below s₁ (G_rmDl m a1) T162 (mkF m 4 #[.val (.ref a1)] [(.ref mv)]) := fun tq kq => go161 tq (st162 _ kq)
  obtain ⟨T163, X163, e163, st163⟩ := getF X162 hx hZ hown (host := "") (Or.inl (tw79 hw)) Via.refl e162 Fo (g := (mkF m 4 #[.val (.ref a1)] [(.ref mv)])) rfl rfl (hb hby d18_4)
  have go163 : Goes p e below s₁ (G_rmDl m a1) T163 (mkF m 7 #[.val (.ref a1)] [(.long oo)]) := fun tq kq => go162 tq (st163 _ kq)
  have go164 : Goes p e below s₁ (G_rmDl m a1) T163 (mkF m 8 #[.val (.ref a1)] [(.ref a1), (.long oo)]) := fun tq kq => go163 tq (by
    show Steps p.tables e below (T163.setTop (mkF m 7 #[.val (.ref a1)] [(.long oo)])) _
    refine XS.aloadN X163.here hx rfl (hb hby d18_7) rfl rfl ?_
    exact kq)
  obtain ⟨T165, X165, e165, st165⟩ := getF X163 hx hZ hown (host := "") (Or.inl (tw25 hw)) Via.refl e163 Fz (g := (mkF m 8 #[.val (.ref a1)] [(.ref a1), (.long oo)])) rfl rfl (hb hby d18_8)
  have go165 : Goes p e below s₁ (G_rmDl m a1) T165 (mkF m 11 #[.val (.ref a1)] [(.long mt), (.long oo)]) := fun tq kq => go164 tq (st165 _ kq)
  have go166 : Goes p e below s₁ (G_rmDl m a1) T165 (mkF m 12 #[.val (.ref a1)] [(.long (oo + mt))]) := fun tq kq => go165 tq (by
    show Steps p.tables e below (T165.setTop (mkF m 11 #[.val (.ref a1)] [(.long mt), (.long oo)])) _
    refine XS.ladd X165.here hx rfl (hb hby d18_11) rfl ?_
    exact kq)
  obtain ⟨fs, hr, hrun, hended, hW, hsame⟩ := X165.leave (v := some (.long (oo + mt))) (fun h => by rw [Bd.returns] at h; cases h)
  refine ⟨_, _, go166 _ ?_, hrun, hended, _, _, rfl, ?_, ⟨_, rfl⟩, hW, hsame.mono (by decide) (by decide)⟩
  · jvm_step X165.here [X165.here.top, hx, (hb hby d18_12), X165.method', Bd.returns, narrow]
    first | (intro acts; rw [hr _ acts rfl rfl rfl]) | rw [hr _ _ rfl rfl rfl]
    exact Steps.refl _
  · show Q_rmDl Z a1 mv oo mt h0 n0 _ T165.heap _
    rw [e165]
    exact ⟨rfl, N0, rfl⟩
theorem own_sp {t : Int64} {n : Nat} (ht : 1 ≤ t.toInt) (h1 : 1 ≤ n) (h2 : n ≤ 16) : t.toInt ≤ (spanv t (Int32.ofNat n)).toInt := by
  have en : ((Int32.ofNat n).toInt64).toInt = n := by rw [Int32.toInt_toInt64, own_nat h2]
  have eM : (9223372036854775807 : Int64).toInt = 9223372036854775807 := by decide
  have ht2 : t.toInt < 9223372036854775808 := Int64.toInt_lt t
  have ediv : ((9223372036854775807 : Int64) / (Int32.ofNat n).toInt64).toInt = 9223372036854775807 / (n : Int) := by
    rw [Jvm.Kit.i64_div (by rw [eM]; omega), eM, en, Int.tdiv_eq_ediv_of_nonneg (by decide)]
  unfold spanv
  by_cases c : ((9223372036854775807 : Int64) / ((Int32.ofNat n).toInt64)) < t
  · simp only [c, if_true]; rw [eM]; omega
  · simp only [c, if_false]
    have c' : t.toInt ≤ 9223372036854775807 / (n : Int) := by rw [Int64.lt_iff_toInt_lt, ediv] at c; exact Int.not_lt.mp c
    have p : t.toInt * n ≤ 9223372036854775807 := (Int.le_ediv_iff_mul_le (by omega)).mp c'
    have p2 : t.toInt * 1 ≤ t.toInt * n := Int.mul_le_mul_of_nonneg_left (show (1 : Int) ≤ n by omega) (show 0 ≤ t.toInt by omega)
    clear c c' ediv
    generalize hz : t.toInt * (n : Int) = z at p p2
    have e : (t * (Int32.ofNat n).toInt64).toInt = z := by rw [Int64.toInt_mul, en, hz]; exact Jvm.Kit.bmod64 (by omega) (by omega)
    rw [e]; omega
theorem own_mt1 (t : Int64) : (t + t) - t = t := Int64.add_sub_cancel t t
theorem own_mt2 (t s : Int64) : (t + s) - (t + t) = s - t := by
  have h : (s - t) + (t + t) = t + s := by rw [← Int64.add_assoc, Int64.sub_add_cancel, Int64.add_comm]
  rw [← h, Int64.add_sub_cancel]
theorem own_can (q z : Int64) : (q + z) - q = z := by rw [Int64.add_comm, Int64.add_sub_cancel]
theorem own_e2 : (2 : Int64).toInt = 2 := by decide
theorem own_half {mt : Int64} (h : 0 ≤ mt.toInt) : (mt / (2 : Int64)).toInt = mt.toInt / 2 := by
  rw [Jvm.Kit.i64_div (by rw [own_e2]; omega), own_e2, Int.tdiv_eq_ediv_of_nonneg h]
theorem own_dbl {mt : Int64} (h : 0 ≤ mt.toInt) : ((2 : Int64) * (mt / (2 : Int64))).toInt = 2 * (mt.toInt / 2) := by
  have h2 : mt.toInt < 9223372036854775808 := Int64.toInt_lt mt
  rw [Jvm.Kit.i64_mul (by rw [own_e2, own_half h]; omega) (by rw [own_e2, own_half h]; omega), own_half h, own_e2]
theorem own_m1 (q : Int64) {mt : Int64} (h : 0 ≤ mt.toInt) : ¬ (((q + (mt / (2 : Int64))) - q) < (0 : Int64)) := by
  rw [own_can q (mt / (2 : Int64)), Int64.lt_iff_toInt_lt, own_half h, Int64.toInt_zero]; omega
theorem own_m2 (q : Int64) {mt : Int64} (h : 0 ≤ mt.toInt) : ¬ (((q + mt) - q) < ((2 : Int64) * ((q + (mt / (2 : Int64))) - q))) := by
  rw [own_can q (mt / (2 : Int64)), own_can q mt, Int64.lt_iff_toInt_lt, own_dbl h]; omega
theorem own_m3 (q : Int64) {mt : Int64} (h : 0 ≤ mt.toInt) : ¬ ((1 : Int64) < (((q + mt) - q) - ((2 : Int64) * ((q + (mt / (2 : Int64))) - q)))) := by
  have h2 : mt.toInt < 9223372036854775808 := Int64.toInt_lt mt
  have e1 : (1 : Int64).toInt = 1 := by decide
  rw [own_can q (mt / (2 : Int64)), own_can q mt, Int64.lt_iff_toInt_lt, Jvm.Kit.i64_sub (by rw [own_dbl h]; omega) (by rw [own_dbl h]; omega), own_dbl h, e1]; omega
theorem own_maxp (y : Int64) : 1 ≤ (maxv (1 : Int64) y).toInt := by
  have e1 : (1 : Int64).toInt = 1 := by decide
  unfold maxv
  by_cases h : (1 : Int64) < y
  · simp only [h, if_true]; have := Int64.lt_iff_toInt_lt.mp h; rw [e1] at this; omega
  · simp only [h, if_false]; rw [e1]; omega
theorem own_mtn {t s : Int64} (h1 : 1 ≤ t.toInt) (h : t.toInt ≤ s.toInt) : 0 ≤ (s - t).toInt := by
  have h2 : s.toInt < 9223372036854775808 := Int64.toInt_lt s
  rw [Jvm.Kit.i64_sub (by omega) (by omega)]; omega
theorem own_pz {t : Int64} (h : 1 ≤ t.toInt) : t ≠ 0 := fun k => by
  rw [k, Int64.toInt_zero] at h; omega
theorem own_k3 (b : Int32) : ((b &&& (2147483647 : Int32)) % (3 : Int32)) = 0 ∨ ((b &&& (2147483647 : Int32)) % (3 : Int32)) = 1 ∨ ((b &&& (2147483647 : Int32)) % (3 : Int32)) = 2 := by
  have h : 0 ≤ (b &&& (2147483647 : Int32)).toInt := by
    rw [Jvm.Kit.i32_mask b 2147483647 (k := 31) (by decide) (by decide)]; omega
  have e : ((b &&& (2147483647 : Int32)) % (3 : Int32)).toInt = (b &&& (2147483647 : Int32)).toInt % 3 := by
    rw [Jvm.Kit.i32_rem_nonneg h]; rfl
  have c : ∀ z : Int32, z.toInt = 0 ∨ z.toInt = 1 ∨ z.toInt = 2 → z = 0 ∨ z = 1 ∨ z = 2 := by
    intro z hz
    rcases hz with q | q | q
    · exact Or.inl (Int32.toInt_inj.mp q)
    · exact Or.inr (Or.inl (Int32.toInt_inj.mp q))
    · exact Or.inr (Or.inr (Int32.toInt_inj.mp q))
  exact c _ (by rw [e]; omega)
abbrev G_rm0 (m : MethodId) (q1 : Int64) (p2 : Int32) (p3 : Int32) (q4 : Int64) : JFrame := (entryFrame m #[(.long q1), (.int p2), (.int p3), (.long q4)] maxLocals)
theorem pd_9 : parseMethodDescriptor "(JI)V" = some ⟨[.long, .int], none⟩ := by decide +kernel
theorem pd_10 : parseMethodDescriptor "(Lcom/example/cicada/cicada/Level;I)V" = some ⟨[(.object "com/example/cicada/cicada/Level"), .int], none⟩ := by decide +kernel
theorem pd_11 : parseMethodDescriptor "(Lcom/example/cicada/cicada/Bucket;)V" = some ⟨[(.object "com/example/cicada/cicada/Bucket")], none⟩ := by decide +kernel
theorem pd_12 : parseMethodDescriptor "()Lcom/example/cicada/cicada/Bucket;" = some ⟨[], some (.object "com/example/cicada/cicada/Bucket")⟩ := by decide +kernel
theorem pd_13 : parseMethodDescriptor "()J" = some ⟨[], some .long⟩ := by decide +kernel
def Q_rm0 (Z : State) (q1 : Int64) (p2 : Int32) (p3 : Int32) (q4 : Int64)  (h0 : Heap) (n0 : Nat) (v : Option Value) (h : Heap) (L : List Loc) : Prop := v = some (.int (1 : Int32)) ∧ Fr n0 L
theorem pn_com_example_cicada_cicada_LevelMoveMiddlePinLaw : plainName "com/example/cicada/cicada/LevelMoveMiddlePinLaw" = true := by first | (simp [plainName, overriddenIn]; done) | decide +kernel
set_option maxRecDepth 65536 in
set_option maxHeartbeats 40000000 in
theorem rm0 (l : Launch) (Z : State) (a0 : Array Value) (hw : ∀ d ∈ tables_1, d.before a0 Z = true) (ws : List Jvm.Cond) (q1 : Int64) (p2 : Int32) (p3 : Int32) (q4 : Int64)  (h0 : Heap) (n0 : Nat) (Z0 : n0 ≤ h0.size)  :
    MetFree l x (head1 (Jvm.Cond.code x code maxLocals ret :: ws) room_1) (fun a U => a = #[(.long q1), (.int p2), (.int p3), (.long q4)] ∧ Z.WarmedH U.vm ∧ U.heap = h0) (fun _ _ _ _ _ => True) (fun _ U o U' => ∃ v L, o = .returned v ∧ Q_rm0 Z q1 p2 p3 q4 h0 n0 v U'.heap L ∧ ReturnedEndW U o U' L room_1.cells room_1.slots) := by
  refine MetFree.of_bodySF (plainFor_of_name pn_com_example_cicada_cicada_LevelMoveMiddlePinLaw) hisR ?_
  intro p e s m args below meth c s₁ Bd hml0 hP hK
  obtain ⟨rfl, hH, hh⟩ := hP
  have hZ := hH.wide
  have hx := Bd.exec
  have hby := Bd.bytes
  have hml : c.maxLocals = 29 := hml0
  have hown : s.vm.findClass "com/example/cicada/cicada/LevelMoveMiddlePinLaw" = some m.cls := findClass_of_methodNamed Bd.named
  have hnm := (name_of_methodNamed Bd.named Bd.method).1
  have X0 : Stand p l e room_1 s m #[(.long q1), (.int p2), (.int p3), (.long q4)] below meth c s₁ [] 0 0 := Stand.of_body Bd
  have e0 : s₁.heap = h0 := by rw [← hh, Bd.state]; rfl
  have N0 := Fr.nil n0
  have go0 : Goes p e below s₁ (G_rm0 m q1 p2 p3 q4) s₁ (mkF m 0 #[.val (.long q1), .second, .val (.int p2), .val (.int p3), .val (.long q4), .second, .unset, .unset, .unset, .unset, .unset, .unset, .unset, .unset, .unset, .unset, .unset, .unset, .unset, .unset, .unset, .unset, .unset, .unset, .unset, .unset, .unset, .unset, .unset] []) := fun tq kq => castTop (by first | (simp [entryFrame, mkF, argsToLocals, Value.category, G_rm0, maxLocals]; done) | rfl) kq
  have go167 : Goes p e below s₁ (G_rm0 m q1 p2 p3 q4) s₁ (mkF m 6 #[.val (.long q1), .second, .val (.int p2), .val (.int p3), .val (.long q4), .second, .unset, .unset, .unset, .unset, .unset, .unset, .unset, .unset, .unset, .unset, .unset, .unset, .unset, .unset, .unset, .unset, .unset, .unset, .unset, .unset, .unset, .unset, .unset] [(.long (q1 &&& (9223372036854775807 : Int64))), (.long (1 : Int64))]) := fun tq kq => go0 tq (by
    show Steps p.tables e below (s₁.setTop (mkF m 0 #[.val (.long q1), .second, .val (.int p2), .val (.int p3), .val (.long q4), .second, .unset, .unset, .unset, .unset, .unset, .unset, .unset, .unset, .unset, .unset, .unset, .unset, .unset, .unset, .unset, .unset, .unset, .unset, .unset, .unset, .unset, .unset, .unset] [])) _
    refine XS.lconst X0.here hx rfl (hb hby at_0) ?_
    show Steps p.tables e below (s₁.setTop (mkF m 1 #[.val (.long q1), .second, .val (.int p2), .val (.int p3), .val (.long q4), .second, .unset, .unset, .unset, .unset, .unset, .unset, .unset, .unset, .unset, .unset, .unset, .unset, .unset, .unset, .unset, .unset, .unset, .unset, .unset, .unset, .unset, .unset, .unset] [(.long (1 : Int64))])) _
    refine XS.lloadN X0.here hx rfl (hb hby at_1) rfl ?_
    show Steps p.tables e below (s₁.setTop (mkF m 2 #[.val (.long q1), .second, .val (.int p2), .val (.int p3), .val (.long q4), .second, .unset, .unset, .unset, .unset, .unset, .unset, .unset, .unset, .unset, .unset, .unset, .unset, .unset, .unset, .unset, .unset, .unset, .unset, .unset, .unset, .unset, .unset, .unset] [(.long q1), (.long (1 : Int64))])) _
    refine X0.ldc2Long hx hown (mvT hZ (tw0 hw)) (g := (mkF m 2 #[.val (.long q1), .second, .val (.int p2), .val (.int p3), .val (.long q4), .second, .unset, .unset, .unset, .unset, .unset, .unset, .unset, .unset, .unset, .unset, .unset, .unset, .unset, .unset, .unset, .unset, .unset, .unset, .unset, .unset, .unset, .unset, .unset] [(.long q1), (.long (1 : Int64))])) rfl (hb hby at_2) _ ?_
    show Steps p.tables e below (s₁.setTop (mkF m 5 #[.val (.long q1), .second, .val (.int p2), .val (.int p3), .val (.long q4), .second, .unset, .unset, .unset, .unset, .unset, .unset, .unset, .unset, .unset, .unset, .unset, .unset, .unset, .unset, .unset, .unset, .unset, .unset, .unset, .unset, .unset, .unset, .unset] [(.long (9223372036854775807 : Int64)), (.long q1), (.long (1 : Int64))])) _
    refine XS.land X0.here hx rfl (hb hby at_5) rfl ?_
    exact kq)
  obtain ⟨vv168, _, ⟨T168, L168, k168, n168⟩, -, X168, ⟨Lc168, hQ168, l168, y168, z168⟩, st168⟩ := Jvm.LawKit.callS X0 hx (y := (⟨"java/lang/Math", "max", "(JJ)J"⟩ : MethodName)) hown (mvT hZ (tw1 hw)) (mvT hZ (tw2 hw)) (mvT hZ (tw3 hw)) (mvT hZ (tw4 hw)) (by decide) (backOf (W := 0) (rmMax l Z a0 hw [] (1 : Int64) (q1 &&& (9223372036854775807 : Int64))  h0 n0 Z0 ) hZ (tw4 hw) (tw3 hw) (by decide) (by decide)) (g := (mkF m 6 #[.val (.long q1), .second, .val (.int p2), .val (.int p3), .val (.long q4), .second, .unset, .unset, .unset, .unset, .unset, .unset, .unset, .unset, .unset, .unset, .unset, .unset, .unset, .unset, .unset, .unset, .unset, .unset, .unset, .unset, .unset, .unset, .unset] [(.long (q1 &&& (9223372036854775807 : Int64))), (.long (1 : Int64))])) rfl (by rw [hml]; rfl) (argsL := [(.long (1 : Int64)), (.long (q1 &&& (9223372036854775807 : Int64)))]) (rest := []) (lenOf pd_6 rfl) rfl (by show 2 * 0 + _ ≤ _; exact Nat.le_of_eq rfl) (hb hby at_6) (fun _ _ => ⟨rfl, e0, (by decide : 0 + 0 ≤ _), (by decide : 0 + 0 ≤ _)⟩)
  dsimp only [Pt.U, Pt.locs, Pt.cells, Pt.slots] at X168 l168 y168 z168 st168 hQ168
  subst l168 y168 z168
  obtain ⟨rfl, Nq168, eq168⟩ := hQ168
  have N168 := Fr.app N0 Nq168
  have go168 : Goes p e below s₁ (G_rm0 m q1 p2 p3 q4) T168 (mkF m 9 #[.val (.long q1), .second, .val (.int p2), .val (.int p3), .val (.long q4), .second, .unset, .unset, .unset, .unset, .unset, .unset, .unset, .unset, .unset, .unset, .unset, .unset, .unset, .unset, .unset, .unset, .unset, .unset, .unset, .unset, .unset, .unset, .unset] [(.long (maxv (1 : Int64) (q1 &&& (9223372036854775807 : Int64))))]) := fun tq kq => go167 tq (st168 _ kq)
  have go169 : Goes p e below s₁ (G_rm0 m q1 p2 p3 q4) T168 (mkF m 11 #[.val (.long q1), .second, .val (.int p2), .val (.int p3), .val (.long q4), .second, .val (.long (maxv (1 : Int64) (q1 &&& (9223372036854775807 : Int64)))), .second, .unset, .unset, .unset, .unset, .unset, .unset, .unset, .unset, .unset, .unset, .unset, .unset, .unset, .unset, .unset, .unset, .unset, .unset, .unset, .unset, .unset] []) := fun tq kq => go168 tq (by
    show Steps p.tables e below (T168.setTop (mkF m 9 #[.val (.long q1), .second, .val (.int p2), .val (.int p3), .val (.long q4), .second, .unset, .unset, .unset, .unset, .unset, .unset, .unset, .unset, .unset, .unset, .unset, .unset, .unset, .unset, .unset, .unset, .unset, .unset, .unset, .unset, .unset, .unset, .unset] [(.long (maxv (1 : Int64) (q1 &&& (9223372036854775807 : Int64))))])) _
    refine XS.lstore X168.here hx rfl (hb hby at_9) rfl (l' := #[.val (.long q1), .second, .val (.int p2), .val (.int p3), .val (.long q4), .second, .val (.long (maxv (1 : Int64) (q1 &&& (9223372036854775807 : Int64)))), .second, .unset, .unset, .unset, .unset, .unset, .unset, .unset, .unset, .unset, .unset, .unset, .unset, .unset, .unset, .unset, .unset, .unset, .unset, .unset, .unset, .unset]) rfl ?_
    exact kq)
  obtain ⟨tk, h_tk⟩ : ∃ z, z = (maxv (1 : Int64) (q1 &&& (9223372036854775807 : Int64))) := ⟨_, rfl⟩
  rw [← h_tk] at go169
  have htk1 : 1 ≤ tk.toInt := by rw [h_tk]; exact own_maxp _
  clear h_tk
  have go170 : Goes p e below s₁ (G_rm0 m q1 p2 p3 q4) T168 (mkF m 19 #[.val (.long q1), .second, .val (.int p2), .val (.int p3), .val (.long q4), .second, .val (.long tk), .second, .val (.int ((p2 &&& (15 : Int32)) + (1 : Int32))), .unset, .unset, .unset, .unset, .unset, .unset, .unset, .unset, .unset, .unset, .unset, .unset, .unset, .unset, .unset, .unset, .unset, .unset, .unset, .unset] []) := fun tq kq => go169 tq (by
    show Steps p.tables e below (T168.setTop (mkF m 11 #[.val (.long q1), .second, .val (.int p2), .val (.int p3), .val (.long q4), .second, .val (.long tk), .second, .unset, .unset, .unset, .unset, .unset, .unset, .unset, .unset, .unset, .unset, .unset, .unset, .unset, .unset, .unset, .unset, .unset, .unset, .unset, .unset, .unset] [])) _
    refine XS.iloadN X168.here hx rfl (hb hby at_11) rfl ?_
    show Steps p.tables e below (T168.setTop (mkF m 12 #[.val (.long q1), .second, .val (.int p2), .val (.int p3), .val (.long q4), .second, .val (.long tk), .second, .unset, .unset, .unset, .unset, .unset, .unset, .unset, .unset, .unset, .unset, .unset, .unset, .unset, .unset, .unset, .unset, .unset, .unset, .unset, .unset, .unset] [(.int p2)])) _
    refine XS.bipush X168.here hx rfl (hb hby at_12) ?_
    show Steps p.tables e below (T168.setTop (mkF m 14 #[.val (.long q1), .second, .val (.int p2), .val (.int p3), .val (.long q4), .second, .val (.long tk), .second, .unset, .unset, .unset, .unset, .unset, .unset, .unset, .unset, .unset, .unset, .unset, .unset, .unset, .unset, .unset, .unset, .unset, .unset, .unset, .unset, .unset] [(.int (15 : Int32)), (.int p2)])) _
    refine XS.iand X168.here hx rfl (hb hby at_14) rfl ?_
    show Steps p.tables e below (T168.setTop (mkF m 15 #[.val (.long q1), .second, .val (.int p2), .val (.int p3), .val (.long q4), .second, .val (.long tk), .second, .unset, .unset, .unset, .unset, .unset, .unset, .unset, .unset, .unset, .unset, .unset, .unset, .unset, .unset, .unset, .unset, .unset, .unset, .unset, .unset, .unset] [(.int (p2 &&& (15 : Int32)))])) _
    refine XS.iconst X168.here hx rfl (hb hby at_15) ?_
    show Steps p.tables e below (T168.setTop (mkF m 16 #[.val (.long q1), .second, .val (.int p2), .val (.int p3), .val (.long q4), .second, .val (.long tk), .second, .unset, .unset, .unset, .unset, .unset, .unset, .unset, .unset, .unset, .unset, .unset, .unset, .unset, .unset, .unset, .unset, .unset, .unset, .unset, .unset, .unset] [(.int (1 : Int32)), (.int (p2 &&& (15 : Int32)))])) _
    refine XS.iadd X168.here hx rfl (hb hby at_16) rfl ?_
    show Steps p.tables e below (T168.setTop (mkF m 17 #[.val (.long q1), .second, .val (.int p2), .val (.int p3), .val (.long q4), .second, .val (.long tk), .second, .unset, .unset, .unset, .unset, .unset, .unset, .unset, .unset, .unset, .unset, .unset, .unset, .unset, .unset, .unset, .unset, .unset, .unset, .unset, .unset, .unset] [(.int ((p2 &&& (15 : Int32)) + (1 : Int32)))])) _
    refine XS.istore X168.here hx rfl (hb hby at_17) rfl (l' := #[.val (.long q1), .second, .val (.int p2), .val (.int p3), .val (.long q4), .second, .val (.long tk), .second, .val (.int ((p2 &&& (15 : Int32)) + (1 : Int32))), .unset, .unset, .unset, .unset, .unset, .unset, .unset, .unset, .unset, .unset, .unset, .unset, .unset, .unset, .unset, .unset, .unset, .unset, .unset, .unset]) rfl ?_
    exact kq)
  obtain ⟨n, hn1, hn2, hn⟩ := own_cnt p2
  have hn16 : n ≤ 16 := hn2
  rw [hn] at go170
  have go171 : Goes p e below s₁ (G_rm0 m q1 p2 p3 q4) T168 (mkF m 27 #[.val (.long q1), .second, .val (.int p2), .val (.int p3), .val (.long q4), .second, .val (.long tk), .second, .val (.int (Int32.ofNat n)), .val (.int ((p3 &&& (2147483647 : Int32)) % (3 : Int32))), .unset, .unset, .unset, .unset, .unset, .unset, .unset, .unset, .unset, .unset, .unset, .unset, .unset, .unset, .unset, .unset, .unset, .unset, .unset] []) := fun tq kq => go170 tq (by
    show Steps p.tables e below (T168.setTop (mkF m 19 #[.val (.long q1), .second, .val (.int p2), .val (.int p3), .val (.long q4), .second, .val (.long tk), .second, .val (.int (Int32.ofNat n)), .unset, .unset, .unset, .unset, .unset, .unset, .unset, .unset, .unset, .unset, .unset, .unset, .unset, .unset, .unset, .unset, .unset, .unset, .unset, .unset] [])) _
    refine XS.iloadN X168.here hx rfl (hb hby at_19) rfl ?_
    show Steps p.tables e below (T168.setTop (mkF m 20 #[.val (.long q1), .second, .val (.int p2), .val (.int p3), .val (.long q4), .second, .val (.long tk), .second, .val (.int (Int32.ofNat n)), .unset, .unset, .unset, .unset, .unset, .unset, .unset, .unset, .unset, .unset, .unset, .unset, .unset, .unset, .unset, .unset, .unset, .unset, .unset, .unset] [(.int p3)])) _
    refine X168.ldcInt hx hown (mvT hZ (tw5 hw)) (g := (mkF m 20 #[.val (.long q1), .second, .val (.int p2), .val (.int p3), .val (.long q4), .second, .val (.long tk), .second, .val (.int (Int32.ofNat n)), .unset, .unset, .unset, .unset, .unset, .unset, .unset, .unset, .unset, .unset, .unset, .unset, .unset, .unset, .unset, .unset, .unset, .unset, .unset, .unset] [(.int p3)])) rfl (hb hby at_20) _ ?_
    show Steps p.tables e below (T168.setTop (mkF m 22 #[.val (.long q1), .second, .val (.int p2), .val (.int p3), .val (.long q4), .second, .val (.long tk), .second, .val (.int (Int32.ofNat n)), .unset, .unset, .unset, .unset, .unset, .unset, .unset, .unset, .unset, .unset, .unset, .unset, .unset, .unset, .unset, .unset, .unset, .unset, .unset, .unset] [(.int (2147483647 : Int32)), (.int p3)])) _
    refine XS.iand X168.here hx rfl (hb hby at_22) rfl ?_
    show Steps p.tables e below (T168.setTop (mkF m 23 #[.val (.long q1), .second, .val (.int p2), .val (.int p3), .val (.long q4), .second, .val (.long tk), .second, .val (.int (Int32.ofNat n)), .unset, .unset, .unset, .unset, .unset, .unset, .unset, .unset, .unset, .unset, .unset, .unset, .unset, .unset, .unset, .unset, .unset, .unset, .unset, .unset] [(.int (p3 &&& (2147483647 : Int32)))])) _
    refine XS.iconst X168.here hx rfl (hb hby at_23) ?_
    show Steps p.tables e below (T168.setTop (mkF m 24 #[.val (.long q1), .second, .val (.int p2), .val (.int p3), .val (.long q4), .second, .val (.long tk), .second, .val (.int (Int32.ofNat n)), .unset, .unset, .unset, .unset, .unset, .unset, .unset, .unset, .unset, .unset, .unset, .unset, .unset, .unset, .unset, .unset, .unset, .unset, .unset, .unset] [(.int (3 : Int32)), (.int (p3 &&& (2147483647 : Int32)))])) _
    refine iremM X168 hx rfl (hb hby at_24) rfl (by decide) ?_
    show Steps p.tables e below (T168.setTop (mkF m 25 #[.val (.long q1), .second, .val (.int p2), .val (.int p3), .val (.long q4), .second, .val (.long tk), .second, .val (.int (Int32.ofNat n)), .unset, .unset, .unset, .unset, .unset, .unset, .unset, .unset, .unset, .unset, .unset, .unset, .unset, .unset, .unset, .unset, .unset, .unset, .unset, .unset] [(.int ((p3 &&& (2147483647 : Int32)) % (3 : Int32)))])) _
    refine XS.istore X168.here hx rfl (hb hby at_25) rfl (l' := #[.val (.long q1), .second, .val (.int p2), .val (.int p3), .val (.long q4), .second, .val (.long tk), .second, .val (.int (Int32.ofNat n)), .val (.int ((p3 &&& (2147483647 : Int32)) % (3 : Int32))), .unset, .unset, .unset, .unset, .unset, .unset, .unset, .unset, .unset, .unset, .unset, .unset, .unset, .unset, .unset, .unset, .unset, .unset, .unset]) rfl ?_
    exact kq)
  obtain ⟨kk, h_kk⟩ : ∃ z, z = ((p3 &&& (2147483647 : Int32)) % (3 : Int32)) := ⟨_, rfl⟩
  have hk := own_k3 p3
  rw [← h_kk] at go171 hk
  clear h_kk hn
  obtain ⟨T172, h172, X172, e172, E172, A172, D172, -, st172⟩ := newO X168 hx hZ hown (tw6 hw) (tw7 hw) (tw8 hw) eq168 (g := (mkF m 27 #[.val (.long q1), .second, .val (.int p2), .val (.int p3), .val (.long q4), .second, .val (.long tk), .second, .val (.int (Int32.ofNat n)), .val (.int kk), .unset, .unset, .unset, .unset, .unset, .unset, .unset, .unset, .unset, .unset, .unset, .unset, .unset, .unset, .unset, .unset, .unset, .unset, .unset] [])) rfl (hb hby at_27) (by decide) (by decide)
  obtain ⟨b172, g172⟩ : ∃ z, z = h0.size := ⟨_, rfl⟩
  rw [← g172] at A172 D172 st172
  have g_b172 : n0 ≤ b172 := Nat.le_trans Z0 (Nat.le_of_eq g172.symm)
  have ZS172 : n0 ≤ h172.size := Nat.le_trans Z0 E172.1
  have F172_seenFrom : Fld Z h172 b172 "com/example/cicada/cicada/Level" "seenFrom" "J" (.long (0 : Int64)) := D172 (Or.inl (tw20 hw)) (ty := .long) (by decide)
  have F172_tick : Fld Z h172 b172 "com/example/cicada/cicada/Level" "tick" "J" (.long (0 : Int64)) := D172 (Or.inr (tw22 hw)) (ty := .long) (by decide)
  have F172_lead : Fld Z h172 b172 "com/example/cicada/cicada/Level" "lead" "J" (.long (0 : Int64)) := D172 (Or.inr (tw24 hw)) (ty := .long) (by decide)
  have F172_moveTime : Fld Z h172 b172 "com/example/cicada/cicada/Level" "moveTime" "J" (.long (0 : Int64)) := D172 (Or.inr (tw26 hw)) (ty := .long) (by decide)
  have F172_firstLead : Fld Z h172 b172 "com/example/cicada/cicada/Level" "firstLead" "J" (.long (0 : Int64)) := D172 (Or.inr (tw28 hw)) (ty := .long) (by decide)
  have F172_span : Fld Z h172 b172 "com/example/cicada/cicada/Level" "span" "J" (.long (0 : Int64)) := D172 (Or.inr (tw35 hw)) (ty := .long) (by decide)
  have F172_buckets : Fld Z h172 b172 "com/example/cicada/cicada/Level" "buckets" "[Lcom/example/cicada/cicada/Bucket;" .null := D172 (Or.inr (tw39 hw)) (ty := (.array (.object "com/example/cicada/cicada/Bucket"))) (by decide)
  have F172_spare : Fld Z h172 b172 "com/example/cicada/cicada/Level" "spare" "Lcom/example/cicada/cicada/Bucket;" .null := D172 (Or.inl (tw94 hw)) (ty := (.object "com/example/cicada/cicada/Bucket")) (by decide)
  have F172_moving : Fld Z h172 b172 "com/example/cicada/cicada/Level" "moving" "Lcom/example/cicada/cicada/Bucket;" .null := D172 (Or.inl (tw96 hw)) (ty := (.object "com/example/cicada/cicada/Bucket")) (by decide)
  have go172 : Goes p e below s₁ (G_rm0 m q1 p2 p3 q4) T172 (mkF m 30 #[.val (.long q1), .second, .val (.int p2), .val (.int p3), .val (.long q4), .second, .val (.long tk), .second, .val (.int (Int32.ofNat n)), .val (.int kk), .unset, .unset, .unset, .unset, .unset, .unset, .unset, .unset, .unset, .unset, .unset, .unset, .unset, .unset, .unset, .unset, .unset, .unset, .unset] [(.ref b172)]) := fun tq kq => go171 tq (st172 _ kq)
  have go173 : Goes p e below s₁ (G_rm0 m q1 p2 p3 q4) T172 (mkF m 35 #[.val (.long q1), .second, .val (.int p2), .val (.int p3), .val (.long q4), .second, .val (.long tk), .second, .val (.int (Int32.ofNat n)), .val (.int kk), .unset, .unset, .unset, .unset, .unset, .unset, .unset, .unset, .unset, .unset, .unset, .unset, .unset, .unset, .unset, .unset, .unset, .unset, .unset] [(.int (Int32.ofNat n)), (.long tk), (.ref b172), (.ref b172)]) := fun tq kq => go172 tq (by
    show Steps p.tables e below (T172.setTop (mkF m 30 #[.val (.long q1), .second, .val (.int p2), .val (.int p3), .val (.long q4), .second, .val (.long tk), .second, .val (.int (Int32.ofNat n)), .val (.int kk), .unset, .unset, .unset, .unset, .unset, .unset, .unset, .unset, .unset, .unset, .unset, .unset, .unset, .unset, .unset, .unset, .unset, .unset, .unset] [(.ref b172)])) _
    refine XS.dup X172.here hx rfl (hb hby at_30) rfl rfl ?_
    show Steps p.tables e below (T172.setTop (mkF m 31 #[.val (.long q1), .second, .val (.int p2), .val (.int p3), .val (.long q4), .second, .val (.long tk), .second, .val (.int (Int32.ofNat n)), .val (.int kk), .unset, .unset, .unset, .unset, .unset, .unset, .unset, .unset, .unset, .unset, .unset, .unset, .unset, .unset, .unset, .unset, .unset, .unset, .unset] [(.ref b172), (.ref b172)])) _
    refine XS.lload X172.here hx rfl (hb hby at_31) rfl ?_
    show Steps p.tables e below (T172.setTop (mkF m 33 #[.val (.long q1), .second, .val (.int p2), .val (.int p3), .val (.long q4), .second, .val (.long tk), .second, .val (.int (Int32.ofNat n)), .val (.int kk), .unset, .unset, .unset, .unset, .unset, .unset, .unset, .unset, .unset, .unset, .unset, .unset, .unset, .unset, .unset, .unset, .unset, .unset, .unset] [(.long tk), (.ref b172), (.ref b172)])) _
    refine XS.iload X172.here hx rfl (hb hby at_33) rfl ?_
    exact kq)
  obtain ⟨vv174, _, ⟨T174, L174, k174, n174⟩, -, X174, ⟨Lc174, hQ174, l174, y174, z174⟩, st174⟩ := X172.specialBack hx (y := (⟨"com/example/cicada/cicada/Level", "<init>", "(JI)V"⟩ : MethodName)) rfl hown (mvT hZ (tw9 hw)) (mvT hZ (tw10 hw)) (mvT hZ (tw11 hw)) (by decide) (own_backH (W := 1) (rmI2 l Z a0 hw [] b172 tk n h172 n0 ZS172 g_b172 A172 F172_seenFrom F172_tick F172_lead F172_moveTime F172_firstLead F172_span F172_buckets F172_spare F172_moving hn1 hn2) hH (tw11 hw) (tw8 hw) (by decide) (by decide)) (g := (mkF m 35 #[.val (.long q1), .second, .val (.int p2), .val (.int p3), .val (.long q4), .second, .val (.long tk), .second, .val (.int (Int32.ofNat n)), .val (.int kk), .unset, .unset, .unset, .unset, .unset, .unset, .unset, .unset, .unset, .unset, .unset, .unset, .unset, .unset, .unset, .unset, .unset, .unset, .unset] [(.int (Int32.ofNat n)), (.long tk), (.ref b172), (.ref b172)])) rfl (by rw [hml]; rfl) (Steps.refl _) (a := b172) (argsL := [(.long tk), (.int (Int32.ofNat n))]) (rest := [(.ref b172)]) (lenOf pd_9 rfl) rfl (by show 2 * 0 + _ ≤ _; exact Nat.le_of_eq rfl) (hb hby at_35) (fun _ _ => ⟨rfl, e172, (by decide : 1 + 18 ≤ _), (by decide : 11 + 113 ≤ _)⟩)
  dsimp only [Pt.U, Pt.locs, Pt.cells, Pt.slots] at X174 l174 y174 z174 st174 hQ174
  subst l174 y174 z174
  obtain ⟨rfl, Nq174, K174, A174, F0_174, F1_174, F2_174, F3_174, F4_174, F5_174, F6_174, B174, kB174, vs174, sB174, FB174, Ov174, V174, l174, AB174⟩ := hQ174
  have N174 := Fr.app N168 Nq174
  have ZS174 : n0 ≤ T174.heap.size := Nat.le_trans ZS172 K174.1
  have go174 : Goes p e below s₁ (G_rm0 m q1 p2 p3 q4) T174 (mkF m 38 #[.val (.long q1), .second, .val (.int p2), .val (.int p3), .val (.long q4), .second, .val (.long tk), .second, .val (.int (Int32.ofNat n)), .val (.int kk), .unset, .unset, .unset, .unset, .unset, .unset, .unset, .unset, .unset, .unset, .unset, .unset, .unset, .unset, .unset, .unset, .unset, .unset, .unset] [(.ref b172)]) := fun tq kq => go173 tq (st174.trans kq)
  obtain ⟨SP0, hSP0⟩ : ∃ z, z = (spanv tk (Int32.ofNat n)) := ⟨_, rfl⟩
  rw [← hSP0] at F4_174
  have hpp0 : tk.toInt ≤ SP0.toInt := by rw [hSP0]; exact own_sp htk1 hn1 hn16
  have hpq0 : 1 ≤ SP0.toInt := Int.le_trans htk1 hpp0
  have g_B174 : n0 ≤ B174 := Nat.le_trans ZS172 sB174
  have nxB0 : b172 ≠ B174 := Exa.neArv A174 V174 (tw7 hw)
  have go175 : Goes p e below s₁ (G_rm0 m q1 p2 p3 q4) T174 (mkF m 40 #[.val (.long q1), .second, .val (.int p2), .val (.int p3), .val (.long q4), .second, .val (.long tk), .second, .val (.int (Int32.ofNat n)), .val (.int kk), .val (.ref b172), .unset, .unset, .unset, .unset, .unset, .unset, .unset, .unset, .unset, .unset, .unset, .unset, .unset, .unset, .unset, .unset, .unset, .unset] []) := fun tq kq => go174 tq (by
    show Steps p.tables e below (T174.setTop (mkF m 38 #[.val (.long q1), .second, .val (.int p2), .val (.int p3), .val (.long q4), .second, .val (.long tk), .second, .val (.int (Int32.ofNat n)), .val (.int kk), .unset, .unset, .unset, .unset, .unset, .unset, .unset, .unset, .unset, .unset, .unset, .unset, .unset, .unset, .unset, .unset, .unset, .unset, .unset] [(.ref b172)])) _
    refine XS.astore X174.here hx rfl (hb hby at_38) rfl rfl (l' := #[.val (.long q1), .second, .val (.int p2), .val (.int p3), .val (.long q4), .second, .val (.long tk), .second, .val (.int (Int32.ofNat n)), .val (.int kk), .val (.ref b172), .unset, .unset, .unset, .unset, .unset, .unset, .unset, .unset, .unset, .unset, .unset, .unset, .unset, .unset, .unset, .unset, .unset, .unset]) rfl ?_
    exact kq)
  obtain ⟨T176, h176, X176, e176, E176, A176, D176, -, st176⟩ := newO X174 hx hZ hown (tw6 hw) (tw7 hw) (tw8 hw) rfl (g := (mkF m 40 #[.val (.long q1), .second, .val (.int p2), .val (.int p3), .val (.long q4), .second, .val (.long tk), .second, .val (.int (Int32.ofNat n)), .val (.int kk), .val (.ref b172), .unset, .unset, .unset, .unset, .unset, .unset, .unset, .unset, .unset, .unset, .unset, .unset, .unset, .unset, .unset, .unset, .unset, .unset] [])) rfl (hb hby at_40) (by decide) (by decide)
  obtain ⟨b176, g176⟩ : ∃ z, z = T174.heap.size := ⟨_, rfl⟩
  rw [← g176] at A176 D176 st176
  have g_b176 : n0 ≤ b176 := Nat.le_trans ZS174 (Nat.le_of_eq g176.symm)
  have ZS176 : n0 ≤ h176.size := Nat.le_trans ZS174 E176.1
  have F176_seenFrom : Fld Z h176 b176 "com/example/cicada/cicada/Level" "seenFrom" "J" (.long (0 : Int64)) := D176 (Or.inl (tw20 hw)) (ty := .long) (by decide)
  have F176_tick : Fld Z h176 b176 "com/example/cicada/cicada/Level" "tick" "J" (.long (0 : Int64)) := D176 (Or.inr (tw22 hw)) (ty := .long) (by decide)
  have F176_lead : Fld Z h176 b176 "com/example/cicada/cicada/Level" "lead" "J" (.long (0 : Int64)) := D176 (Or.inr (tw24 hw)) (ty := .long) (by decide)
  have F176_moveTime : Fld Z h176 b176 "com/example/cicada/cicada/Level" "moveTime" "J" (.long (0 : Int64)) := D176 (Or.inr (tw26 hw)) (ty := .long) (by decide)
  have F176_firstLead : Fld Z h176 b176 "com/example/cicada/cicada/Level" "firstLead" "J" (.long (0 : Int64)) := D176 (Or.inr (tw28 hw)) (ty := .long) (by decide)
  have F176_span : Fld Z h176 b176 "com/example/cicada/cicada/Level" "span" "J" (.long (0 : Int64)) := D176 (Or.inr (tw35 hw)) (ty := .long) (by decide)
  have F176_buckets : Fld Z h176 b176 "com/example/cicada/cicada/Level" "buckets" "[Lcom/example/cicada/cicada/Bucket;" .null := D176 (Or.inr (tw39 hw)) (ty := (.array (.object "com/example/cicada/cicada/Bucket"))) (by decide)
  have F176_spare : Fld Z h176 b176 "com/example/cicada/cicada/Level" "spare" "Lcom/example/cicada/cicada/Bucket;" .null := D176 (Or.inl (tw94 hw)) (ty := (.object "com/example/cicada/cicada/Bucket")) (by decide)
  have F176_moving : Fld Z h176 b176 "com/example/cicada/cicada/Level" "moving" "Lcom/example/cicada/cicada/Bucket;" .null := D176 (Or.inl (tw96 hw)) (ty := (.object "com/example/cicada/cicada/Bucket")) (by decide)
  have ne177 : b172 ≠ b176 := Nat.ne_of_lt (Nat.lt_of_lt_of_le A174.lt (Nat.le_of_eq g176.symm))
  have ne178 : B174 ≠ b176 := Nat.ne_of_lt (Nat.lt_of_lt_of_le V174.lt (Nat.le_of_eq g176.symm))
  have go176 : Goes p e below s₁ (G_rm0 m q1 p2 p3 q4) T176 (mkF m 43 #[.val (.long q1), .second, .val (.int p2), .val (.int p3), .val (.long q4), .second, .val (.long tk), .second, .val (.int (Int32.ofNat n)), .val (.int kk), .val (.ref b172), .unset, .unset, .unset, .unset, .unset, .unset, .unset, .unset, .unset, .unset, .unset, .unset, .unset, .unset, .unset, .unset, .unset, .unset] [(.ref b176)]) := fun tq kq => go175 tq (st176 _ kq)
  have go179 : Goes p e below s₁ (G_rm0 m q1 p2 p3 q4) T176 (mkF m 48 #[.val (.long q1), .second, .val (.int p2), .val (.int p3), .val (.long q4), .second, .val (.long tk), .second, .val (.int (Int32.ofNat n)), .val (.int kk), .val (.ref b172), .unset, .unset, .unset, .unset, .unset, .unset, .unset, .unset, .unset, .unset, .unset, .unset, .unset, .unset, .unset, .unset, .unset, .unset] [(.int (Int32.ofNat n)), (.ref b172), (.ref b176), (.ref b176)]) := fun tq kq => go176 tq (by
    show Steps p.tables e below (T176.setTop (mkF m 43 #[.val (.long q1), .second, .val (.int p2), .val (.int p3), .val (.long q4), .second, .val (.long tk), .second, .val (.int (Int32.ofNat n)), .val (.int kk), .val (.ref b172), .unset, .unset, .unset, .unset, .unset, .unset, .unset, .unset, .unset, .unset, .unset, .unset, .unset, .unset, .unset, .unset, .unset, .unset] [(.ref b176)])) _
    refine XS.dup X176.here hx rfl (hb hby at_43) rfl rfl ?_
    show Steps p.tables e below (T176.setTop (mkF m 44 #[.val (.long q1), .second, .val (.int p2), .val (.int p3), .val (.long q4), .second, .val (.long tk), .second, .val (.int (Int32.ofNat n)), .val (.int kk), .val (.ref b172), .unset, .unset, .unset, .unset, .unset, .unset, .unset, .unset, .unset, .unset, .unset, .unset, .unset, .unset, .unset, .unset, .unset, .unset] [(.ref b176), (.ref b176)])) _
    refine XS.aload X176.here hx rfl (hb hby at_44) rfl rfl ?_
    show Steps p.tables e below (T176.setTop (mkF m 46 #[.val (.long q1), .second, .val (.int p2), .val (.int p3), .val (.long q4), .second, .val (.long tk), .second, .val (.int (Int32.ofNat n)), .val (.int kk), .val (.ref b172), .unset, .unset, .unset, .unset, .unset, .unset, .unset, .unset, .unset, .unset, .unset, .unset, .unset, .unset, .unset, .unset, .unset, .unset] [(.ref b172), (.ref b176), (.ref b176)])) _
    refine XS.iload X176.here hx rfl (hb hby at_46) rfl ?_
    exact kq)
  obtain ⟨vv180, _, ⟨T180, L180, k180, n180⟩, -, X180, ⟨Lc180, hQ180, l180, y180, z180⟩, st180⟩ := X176.specialBack hx (y := (⟨"com/example/cicada/cicada/Level", "<init>", "(Lcom/example/cicada/cicada/Level;I)V"⟩ : MethodName)) rfl hown (mvT hZ (tw67 hw)) (mvT hZ (tw68 hw)) (mvT hZ (tw69 hw)) (by decide) (own_backH (W := 1) (rmI3 l Z a0 hw [] b176 b172 SP0 tk tk tk n h176 n0 ZS176 g_b176 A176 F176_seenFrom F176_tick F176_lead F176_moveTime F176_firstLead F176_span F176_buckets F176_spare F176_moving hn1 hn2 (F4_174.ext E176) (F3_174.ext E176) (F0_174.ext E176) (F1_174.ext E176)) hH (tw69 hw) (tw8 hw) (by decide) (by decide)) (g := (mkF m 48 #[.val (.long q1), .second, .val (.int p2), .val (.int p3), .val (.long q4), .second, .val (.long tk), .second, .val (.int (Int32.ofNat n)), .val (.int kk), .val (.ref b172), .unset, .unset, .unset, .unset, .unset, .unset, .unset, .unset, .unset, .unset, .unset, .unset, .unset, .unset, .unset, .unset, .unset, .unset] [(.int (Int32.ofNat n)), (.ref b172), (.ref b176), (.ref b176)])) rfl (by rw [hml]; rfl) (Steps.refl _) (a := b176) (argsL := [(.ref b172), (.int (Int32.ofNat n))]) (rest := [(.ref b176)]) (lenOf pd_10 rfl) rfl (by show 2 * 0 + _ ≤ _; exact Nat.le_of_eq rfl) (hb hby at_48) (fun _ _ => ⟨rfl, e176, (by decide : 20 + 18 ≤ _), (by decide : 135 + 113 ≤ _)⟩)
  dsimp only [Pt.U, Pt.locs, Pt.cells, Pt.slots] at X180 l180 y180 z180 st180 hQ180
  subst l180 y180 z180
  obtain ⟨rfl, Nq180, K180, A180, F0_180, F1_180, F2_180, F3_180, F4_180, F5_180, F6_180, B180, kB180, vs180, sB180, FB180, Ov180, V180, l180, AB180⟩ := hQ180
  have N180 := Fr.app N174 Nq180
  have ZS180 : n0 ≤ T180.heap.size := Nat.le_trans ZS176 K180.1
  have go180 : Goes p e below s₁ (G_rm0 m q1 p2 p3 q4) T180 (mkF m 51 #[.val (.long q1), .second, .val (.int p2), .val (.int p3), .val (.long q4), .second, .val (.long tk), .second, .val (.int (Int32.ofNat n)), .val (.int kk), .val (.ref b172), .unset, .unset, .unset, .unset, .unset, .unset, .unset, .unset, .unset, .unset, .unset, .unset, .unset, .unset, .unset, .unset, .unset, .unset] [(.ref b176)]) := fun tq kq => go179 tq (st180.trans kq)
  obtain ⟨SP1, hSP1⟩ : ∃ z, z = (spanv SP0 (Int32.ofNat n)) := ⟨_, rfl⟩
  rw [← hSP1] at F4_180
  have hpp1 : SP0.toInt ≤ SP1.toInt := by rw [hSP1]; exact own_sp hpq0 hn1 hn16
  have hpq1 : 1 ≤ SP1.toInt := Int.le_trans hpq0 hpp1
  have g_B180 : n0 ≤ B180 := Nat.le_trans ZS176 sB180
  have nxB1 : b176 ≠ B180 := Exa.neArv A180 V180 (tw7 hw)
  have go181 : Goes p e below s₁ (G_rm0 m q1 p2 p3 q4) T180 (mkF m 53 #[.val (.long q1), .second, .val (.int p2), .val (.int p3), .val (.long q4), .second, .val (.long tk), .second, .val (.int (Int32.ofNat n)), .val (.int kk), .val (.ref b172), .val (.ref b176), .unset, .unset, .unset, .unset, .unset, .unset, .unset, .unset, .unset, .unset, .unset, .unset, .unset, .unset, .unset, .unset, .unset] []) := fun tq kq => go180 tq (by
    show Steps p.tables e below (T180.setTop (mkF m 51 #[.val (.long q1), .second, .val (.int p2), .val (.int p3), .val (.long q4), .second, .val (.long tk), .second, .val (.int (Int32.ofNat n)), .val (.int kk), .val (.ref b172), .unset, .unset, .unset, .unset, .unset, .unset, .unset, .unset, .unset, .unset, .unset, .unset, .unset, .unset, .unset, .unset, .unset, .unset] [(.ref b176)])) _
    refine XS.astore X180.here hx rfl (hb hby at_51) rfl rfl (l' := #[.val (.long q1), .second, .val (.int p2), .val (.int p3), .val (.long q4), .second, .val (.long tk), .second, .val (.int (Int32.ofNat n)), .val (.int kk), .val (.ref b172), .val (.ref b176), .unset, .unset, .unset, .unset, .unset, .unset, .unset, .unset, .unset, .unset, .unset, .unset, .unset, .unset, .unset, .unset, .unset]) rfl ?_
    exact kq)
  obtain ⟨T182, h182, X182, e182, E182, A182, D182, -, st182⟩ := newO X180 hx hZ hown (tw6 hw) (tw7 hw) (tw8 hw) rfl (g := (mkF m 53 #[.val (.long q1), .second, .val (.int p2), .val (.int p3), .val (.long q4), .second, .val (.long tk), .second, .val (.int (Int32.ofNat n)), .val (.int kk), .val (.ref b172), .val (.ref b176), .unset, .unset, .unset, .unset, .unset, .unset, .unset, .unset, .unset, .unset, .unset, .unset, .unset, .unset, .unset, .unset, .unset] [])) rfl (hb hby at_53) (by decide) (by decide)
  obtain ⟨b182, g182⟩ : ∃ z, z = T180.heap.size := ⟨_, rfl⟩
  rw [← g182] at A182 D182 st182
  have g_b182 : n0 ≤ b182 := Nat.le_trans ZS180 (Nat.le_of_eq g182.symm)
  have ZS182 : n0 ≤ h182.size := Nat.le_trans ZS180 E182.1
  have F182_seenFrom : Fld Z h182 b182 "com/example/cicada/cicada/Level" "seenFrom" "J" (.long (0 : Int64)) := D182 (Or.inl (tw20 hw)) (ty := .long) (by decide)
  have F182_tick : Fld Z h182 b182 "com/example/cicada/cicada/Level" "tick" "J" (.long (0 : Int64)) := D182 (Or.inr (tw22 hw)) (ty := .long) (by decide)
  have F182_lead : Fld Z h182 b182 "com/example/cicada/cicada/Level" "lead" "J" (.long (0 : Int64)) := D182 (Or.inr (tw24 hw)) (ty := .long) (by decide)
  have F182_moveTime : Fld Z h182 b182 "com/example/cicada/cicada/Level" "moveTime" "J" (.long (0 : Int64)) := D182 (Or.inr (tw26 hw)) (ty := .long) (by decide)
  have F182_firstLead : Fld Z h182 b182 "com/example/cicada/cicada/Level" "firstLead" "J" (.long (0 : Int64)) := D182 (Or.inr (tw28 hw)) (ty := .long) (by decide)
  have F182_span : Fld Z h182 b182 "com/example/cicada/cicada/Level" "span" "J" (.long (0 : Int64)) := D182 (Or.inr (tw35 hw)) (ty := .long) (by decide)
  have F182_buckets : Fld Z h182 b182 "com/example/cicada/cicada/Level" "buckets" "[Lcom/example/cicada/cicada/Bucket;" .null := D182 (Or.inr (tw39 hw)) (ty := (.array (.object "com/example/cicada/cicada/Bucket"))) (by decide)
  have F182_spare : Fld Z h182 b182 "com/example/cicada/cicada/Level" "spare" "Lcom/example/cicada/cicada/Bucket;" .null := D182 (Or.inl (tw94 hw)) (ty := (.object "com/example/cicada/cicada/Bucket")) (by decide)
  have F182_moving : Fld Z h182 b182 "com/example/cicada/cicada/Level" "moving" "Lcom/example/cicada/cicada/Bucket;" .null := D182 (Or.inl (tw96 hw)) (ty := (.object "com/example/cicada/cicada/Bucket")) (by decide)
  have ne183 : b172 ≠ b182 := Nat.ne_of_lt (Nat.lt_of_lt_of_le ((A174.ext E176).keep K180).lt (Nat.le_of_eq g182.symm))
  have ne184 : B174 ≠ b182 := Nat.ne_of_lt (Nat.lt_of_lt_of_le ((V174.ext E176).keep K180 (ninS ne178 nin0)).lt (Nat.le_of_eq g182.symm))
  have ne185 : b176 ≠ b182 := Nat.ne_of_lt (Nat.lt_of_lt_of_le A180.lt (Nat.le_of_eq g182.symm))
  have ne186 : B180 ≠ b182 := Nat.ne_of_lt (Nat.lt_of_lt_of_le V180.lt (Nat.le_of_eq g182.symm))
  have go182 : Goes p e below s₁ (G_rm0 m q1 p2 p3 q4) T182 (mkF m 56 #[.val (.long q1), .second, .val (.int p2), .val (.int p3), .val (.long q4), .second, .val (.long tk), .second, .val (.int (Int32.ofNat n)), .val (.int kk), .val (.ref b172), .val (.ref b176), .unset, .unset, .unset, .unset, .unset, .unset, .unset, .unset, .unset, .unset, .unset, .unset, .unset, .unset, .unset, .unset, .unset] [(.ref b182)]) := fun tq kq => go181 tq (st182 _ kq)
  have go187 : Goes p e below s₁ (G_rm0 m q1 p2 p3 q4) T182 (mkF m 61 #[.val (.long q1), .second, .val (.int p2), .val (.int p3), .val (.long q4), .second, .val (.long tk), .second, .val (.int (Int32.ofNat n)), .val (.int kk), .val (.ref b172), .val (.ref b176), .unset, .unset, .unset, .unset, .unset, .unset, .unset, .unset, .unset, .unset, .unset, .unset, .unset, .unset, .unset, .unset, .unset] [(.int (Int32.ofNat n)), (.ref b176), (.ref b182), (.ref b182)]) := fun tq kq => go182 tq (by
    show Steps p.tables e below (T182.setTop (mkF m 56 #[.val (.long q1), .second, .val (.int p2), .val (.int p3), .val (.long q4), .second, .val (.long tk), .second, .val (.int (Int32.ofNat n)), .val (.int kk), .val (.ref b172), .val (.ref b176), .unset, .unset, .unset, .unset, .unset, .unset, .unset, .unset, .unset, .unset, .unset, .unset, .unset, .unset, .unset, .unset, .unset] [(.ref b182)])) _
    refine XS.dup X182.here hx rfl (hb hby at_56) rfl rfl ?_
    show Steps p.tables e below (T182.setTop (mkF m 57 #[.val (.long q1), .second, .val (.int p2), .val (.int p3), .val (.long q4), .second, .val (.long tk), .second, .val (.int (Int32.ofNat n)), .val (.int kk), .val (.ref b172), .val (.ref b176), .unset, .unset, .unset, .unset, .unset, .unset, .unset, .unset, .unset, .unset, .unset, .unset, .unset, .unset, .unset, .unset, .unset] [(.ref b182), (.ref b182)])) _
    refine XS.aload X182.here hx rfl (hb hby at_57) rfl rfl ?_
    show Steps p.tables e below (T182.setTop (mkF m 59 #[.val (.long q1), .second, .val (.int p2), .val (.int p3), .val (.long q4), .second, .val (.long tk), .second, .val (.int (Int32.ofNat n)), .val (.int kk), .val (.ref b172), .val (.ref b176), .unset, .unset, .unset, .unset, .unset, .unset, .unset, .unset, .unset, .unset, .unset, .unset, .unset, .unset, .unset, .unset, .unset] [(.ref b176), (.ref b182), (.ref b182)])) _
    refine XS.iload X182.here hx rfl (hb hby at_59) rfl ?_
    exact kq)
  obtain ⟨vv188, _, ⟨T188, L188, k188, n188⟩, -, X188, ⟨Lc188, hQ188, l188, y188, z188⟩, st188⟩ := X182.specialBack hx (y := (⟨"com/example/cicada/cicada/Level", "<init>", "(Lcom/example/cicada/cicada/Level;I)V"⟩ : MethodName)) rfl hown (mvT hZ (tw67 hw)) (mvT hZ (tw68 hw)) (mvT hZ (tw69 hw)) (by decide) (own_backH (W := 1) (rmI3 l Z a0 hw [] b182 b176 SP1 tk SP0 (tk + tk) n h182 n0 ZS182 g_b182 A182 F182_seenFrom F182_tick F182_lead F182_moveTime F182_firstLead F182_span F182_buckets F182_spare F182_moving hn1 hn2 (F4_180.ext E182) (F3_180.ext E182) (F0_180.ext E182) (F1_180.ext E182)) hH (tw69 hw) (tw8 hw) (by decide) (by decide)) (g := (mkF m 61 #[.val (.long q1), .second, .val (.int p2), .val (.int p3), .val (.long q4), .second, .val (.long tk), .second, .val (.int (Int32.ofNat n)), .val (.int kk), .val (.ref b172), .val (.ref b176), .unset, .unset, .unset, .unset, .unset, .unset, .unset, .unset, .unset, .unset, .unset, .unset, .unset, .unset, .unset, .unset, .unset] [(.int (Int32.ofNat n)), (.ref b176), (.ref b182), (.ref b182)])) rfl (by rw [hml]; rfl) (Steps.refl _) (a := b182) (argsL := [(.ref b176), (.int (Int32.ofNat n))]) (rest := [(.ref b182)]) (lenOf pd_10 rfl) rfl (by show 2 * 0 + _ ≤ _; exact Nat.le_of_eq rfl) (hb hby at_61) (fun _ _ => ⟨rfl, e182, (by decide : 39 + 18 ≤ _), (by decide : 259 + 113 ≤ _)⟩)
  dsimp only [Pt.U, Pt.locs, Pt.cells, Pt.slots] at X188 l188 y188 z188 st188 hQ188
  subst l188 y188 z188
  obtain ⟨rfl, Nq188, K188, A188, F0_188, F1_188, F2_188, F3_188, F4_188, F5_188, F6_188, B188, kB188, vs188, sB188, FB188, Ov188, V188, l188, AB188⟩ := hQ188
  have N188 := Fr.app N180 Nq188
  have ZS188 : n0 ≤ T188.heap.size := Nat.le_trans ZS182 K188.1
  have go188 : Goes p e below s₁ (G_rm0 m q1 p2 p3 q4) T188 (mkF m 64 #[.val (.long q1), .second, .val (.int p2), .val (.int p3), .val (.long q4), .second, .val (.long tk), .second, .val (.int (Int32.ofNat n)), .val (.int kk), .val (.ref b172), .val (.ref b176), .unset, .unset, .unset, .unset, .unset, .unset, .unset, .unset, .unset, .unset, .unset, .unset, .unset, .unset, .unset, .unset, .unset] [(.ref b182)]) := fun tq kq => go187 tq (st188.trans kq)
  obtain ⟨SP2, hSP2⟩ : ∃ z, z = (spanv SP1 (Int32.ofNat n)) := ⟨_, rfl⟩
  rw [← hSP2] at F4_188
  have hpp2 : SP1.toInt ≤ SP2.toInt := by rw [hSP2]; exact own_sp hpq1 hn1 hn16
  have hpq2 : 1 ≤ SP2.toInt := Int.le_trans hpq1 hpp2
  have g_B188 : n0 ≤ B188 := Nat.le_trans ZS182 sB188
  have nxB2 : b182 ≠ B188 := Exa.neArv A188 V188 (tw7 hw)
  have go189 : Goes p e below s₁ (G_rm0 m q1 p2 p3 q4) T188 (mkF m 66 #[.val (.long q1), .second, .val (.int p2), .val (.int p3), .val (.long q4), .second, .val (.long tk), .second, .val (.int (Int32.ofNat n)), .val (.int kk), .val (.ref b172), .val (.ref b176), .val (.ref b182), .unset, .unset, .unset, .unset, .unset, .unset, .unset, .unset, .unset, .unset, .unset, .unset, .unset, .unset, .unset, .unset] []) := fun tq kq => go188 tq (by
    show Steps p.tables e below (T188.setTop (mkF m 64 #[.val (.long q1), .second, .val (.int p2), .val (.int p3), .val (.long q4), .second, .val (.long tk), .second, .val (.int (Int32.ofNat n)), .val (.int kk), .val (.ref b172), .val (.ref b176), .unset, .unset, .unset, .unset, .unset, .unset, .unset, .unset, .unset, .unset, .unset, .unset, .unset, .unset, .unset, .unset, .unset] [(.ref b182)])) _
    refine XS.astore X188.here hx rfl (hb hby at_64) rfl rfl (l' := #[.val (.long q1), .second, .val (.int p2), .val (.int p3), .val (.long q4), .second, .val (.long tk), .second, .val (.int (Int32.ofNat n)), .val (.int kk), .val (.ref b172), .val (.ref b176), .val (.ref b182), .unset, .unset, .unset, .unset, .unset, .unset, .unset, .unset, .unset, .unset, .unset, .unset, .unset, .unset, .unset, .unset]) rfl ?_
    exact kq)
  rcases hk with rfl | rfl | rfl
  · have hmt : 0 ≤ ((0 : Int64)).toInt := by decide
    have htz : tk ≠ 0 := own_pz htk1
    have go190 : Goes p e below s₁ (G_rm0 m q1 p2 p3 q4) T188 (mkF m 68 #[.val (.long q1), .second, .val (.int p2), .val (.int p3), .val (.long q4), .second, .val (.long tk), .second, .val (.int (Int32.ofNat n)), .val (.int (0 : Int32)), .val (.ref b172), .val (.ref b176), .val (.ref b182), .unset, .unset, .unset, .unset, .unset, .unset, .unset, .unset, .unset, .unset, .unset, .unset, .unset, .unset, .unset, .unset] [(.int (0 : Int32))]) := fun tq kq => go189 tq (by
      show Steps p.tables e below (T188.setTop (mkF m 66 #[.val (.long q1), .second, .val (.int p2), .val (.int p3), .val (.long q4), .second, .val (.long tk), .second, .val (.int (Int32.ofNat n)), .val (.int (0 : Int32)), .val (.ref b172), .val (.ref b176), .val (.ref b182), .unset, .unset, .unset, .unset, .unset, .unset, .unset, .unset, .unset, .unset, .unset, .unset, .unset, .unset, .unset, .unset] [])) _
      refine XS.iload X188.here hx rfl (hb hby at_66) rfl ?_
      exact kq)
    have f191 := ((((V174.ext E176).keep K180 (ninS ne178 nin0)).ext E182).keep K188 (ninS ne184 nin0))
    have go192 : Goes p e below s₁ (G_rm0 m q1 p2 p3 q4) T188 (mkF m 91 #[.val (.long q1), .second, .val (.int p2), .val (.int p3), .val (.long q4), .second, .val (.long tk), .second, .val (.int (Int32.ofNat n)), .val (.int (0 : Int32)), .val (.ref b172), .val (.ref b176), .val (.ref b182), .val (.ref b172), .unset, .unset, .unset, .unset, .unset, .unset, .unset, .unset, .unset, .unset, .unset, .unset, .unset, .unset, .unset] []) := fun tq kq => go190 tq (by
      show Steps p.tables e below (T188.setTop (mkF m 68 #[.val (.long q1), .second, .val (.int p2), .val (.int p3), .val (.long q4), .second, .val (.long tk), .second, .val (.int (Int32.ofNat n)), .val (.int (0 : Int32)), .val (.ref b172), .val (.ref b176), .val (.ref b182), .unset, .unset, .unset, .unset, .unset, .unset, .unset, .unset, .unset, .unset, .unset, .unset, .unset, .unset, .unset, .unset] [(.int (0 : Int32))])) _
      refine XS.ifNo X188.here hx rfl (hb hby at_68) rfl ((if0 _ _).trans (teq (by decide)).2) ?_
      show Steps p.tables e below (T188.setTop (mkF m 71 #[.val (.long q1), .second, .val (.int p2), .val (.int p3), .val (.long q4), .second, .val (.long tk), .second, .val (.int (Int32.ofNat n)), .val (.int (0 : Int32)), .val (.ref b172), .val (.ref b176), .val (.ref b182), .unset, .unset, .unset, .unset, .unset, .unset, .unset, .unset, .unset, .unset, .unset, .unset, .unset, .unset, .unset, .unset] [])) _
      refine XS.aload X188.here hx rfl (hb hby at_71) rfl rfl ?_
      show Steps p.tables e below (T188.setTop (mkF m 73 #[.val (.long q1), .second, .val (.int p2), .val (.int p3), .val (.long q4), .second, .val (.long tk), .second, .val (.int (Int32.ofNat n)), .val (.int (0 : Int32)), .val (.ref b172), .val (.ref b176), .val (.ref b182), .unset, .unset, .unset, .unset, .unset, .unset, .unset, .unset, .unset, .unset, .unset, .unset, .unset, .unset, .unset, .unset] [(.ref b172)])) _
      refine XS.goto X188.here hx rfl (pc0 := 73) (pc' := 89) rfl (hb hby at_73) (by decide) (by decide) ?_
      show Steps p.tables e below (T188.setTop (mkF m 89 #[.val (.long q1), .second, .val (.int p2), .val (.int p3), .val (.long q4), .second, .val (.long tk), .second, .val (.int (Int32.ofNat n)), .val (.int (0 : Int32)), .val (.ref b172), .val (.ref b176), .val (.ref b182), .unset, .unset, .unset, .unset, .unset, .unset, .unset, .unset, .unset, .unset, .unset, .unset, .unset, .unset, .unset, .unset] [(.ref b172)])) _
      refine XS.astore X188.here hx rfl (hb hby at_89) rfl rfl (l' := #[.val (.long q1), .second, .val (.int p2), .val (.int p3), .val (.long q4), .second, .val (.long tk), .second, .val (.int (Int32.ofNat n)), .val (.int (0 : Int32)), .val (.ref b172), .val (.ref b176), .val (.ref b182), .val (.ref b172), .unset, .unset, .unset, .unset, .unset, .unset, .unset, .unset, .unset, .unset, .unset, .unset, .unset, .unset, .unset]) rfl ?_
      exact kq)
    obtain ⟨T193, h193, X193, e193, E193, A193, D193, -, st193⟩ := newO X188 hx hZ hown (tw70 hw) (tw58 hw) (tw59 hw) rfl (g := (mkF m 91 #[.val (.long q1), .second, .val (.int p2), .val (.int p3), .val (.long q4), .second, .val (.long tk), .second, .val (.int (Int32.ofNat n)), .val (.int (0 : Int32)), .val (.ref b172), .val (.ref b176), .val (.ref b182), .val (.ref b172), .unset, .unset, .unset, .unset, .unset, .unset, .unset, .unset, .unset, .unset, .unset, .unset, .unset, .unset, .unset] [])) rfl (hb hby at_91) (by decide) (by decide)
    obtain ⟨b193, g193⟩ : ∃ z, z = T188.heap.size := ⟨_, rfl⟩
    rw [← g193] at A193 D193 st193
    have g_b193 : n0 ≤ b193 := Nat.le_trans ZS188 (Nat.le_of_eq g193.symm)
    have ZS193 : n0 ≤ h193.size := Nat.le_trans ZS188 E193.1
    have F193_level : Fld Z h193 b193 "com/example/cicada/cicada/Bucket" "level" "Lcom/example/cicada/cicada/Level;" .null := D193 (Or.inr (tw65 hw)) (ty := (.object "com/example/cicada/cicada/Level")) (by decide)
    have F193_opensAt : Fld Z h193 b193 "com/example/cicada/cicada/Bucket" "opensAt" "J" (.long (0 : Int64)) := D193 (Or.inl (tw73 hw)) (ty := .long) (by decide)
    have ne194 : b172 ≠ b193 := Nat.ne_of_lt (Nat.lt_of_lt_of_le ((((A174.ext E176).keep K180).ext E182).keep K188).lt (Nat.le_of_eq g193.symm))
    have ne195 : B174 ≠ b193 := Nat.ne_of_lt (Nat.lt_of_lt_of_le f191.lt (Nat.le_of_eq g193.symm))
    have go193 : Goes p e below s₁ (G_rm0 m q1 p2 p3 q4) T193 (mkF m 94 #[.val (.long q1), .second, .val (.int p2), .val (.int p3), .val (.long q4), .second, .val (.long tk), .second, .val (.int (Int32.ofNat n)), .val (.int (0 : Int32)), .val (.ref b172), .val (.ref b176), .val (.ref b182), .val (.ref b172), .unset, .unset, .unset, .unset, .unset, .unset, .unset, .unset, .unset, .unset, .unset, .unset, .unset, .unset, .unset] [(.ref b193)]) := fun tq kq => go192 tq (st193 _ kq)
    have go196 : Goes p e below s₁ (G_rm0 m q1 p2 p3 q4) T193 (mkF m 97 #[.val (.long q1), .second, .val (.int p2), .val (.int p3), .val (.long q4), .second, .val (.long tk), .second, .val (.int (Int32.ofNat n)), .val (.int (0 : Int32)), .val (.ref b172), .val (.ref b176), .val (.ref b182), .val (.ref b172), .unset, .unset, .unset, .unset, .unset, .unset, .unset, .unset, .unset, .unset, .unset, .unset, .unset, .unset, .unset] [(.ref b172), (.ref b193), (.ref b193)]) := fun tq kq => go193 tq (by
      show Steps p.tables e below (T193.setTop (mkF m 94 #[.val (.long q1), .second, .val (.int p2), .val (.int p3), .val (.long q4), .second, .val (.long tk), .second, .val (.int (Int32.ofNat n)), .val (.int (0 : Int32)), .val (.ref b172), .val (.ref b176), .val (.ref b182), .val (.ref b172), .unset, .unset, .unset, .unset, .unset, .unset, .unset, .unset, .unset, .unset, .unset, .unset, .unset, .unset, .unset] [(.ref b193)])) _
      refine XS.dup X193.here hx rfl (hb hby at_94) rfl rfl ?_
      show Steps p.tables e below (T193.setTop (mkF m 95 #[.val (.long q1), .second, .val (.int p2), .val (.int p3), .val (.long q4), .second, .val (.long tk), .second, .val (.int (Int32.ofNat n)), .val (.int (0 : Int32)), .val (.ref b172), .val (.ref b176), .val (.ref b182), .val (.ref b172), .unset, .unset, .unset, .unset, .unset, .unset, .unset, .unset, .unset, .unset, .unset, .unset, .unset, .unset, .unset] [(.ref b193), (.ref b193)])) _
      refine XS.aload X193.here hx rfl (hb hby at_95) rfl rfl ?_
      exact kq)
    obtain ⟨vv197, _, ⟨T197, L197, k197, n197⟩, -, X197, ⟨Lc197, hQ197, l197, y197, z197⟩, st197⟩ := X193.specialBack hx (y := (⟨"com/example/cicada/cicada/Bucket", "<init>", "(Lcom/example/cicada/cicada/Level;)V"⟩ : MethodName)) rfl hown (mvT hZ (tw71 hw)) (mvT hZ (tw61 hw)) (mvT hZ (tw62 hw)) (by decide) (backOf (W := 1) (rmBk l Z a0 hw [] b193 b172  h193 n0 ZS193 g_b193 A193 F193_level F193_opensAt) hZ (tw62 hw) (tw59 hw) (by decide) (by decide)) (g := (mkF m 97 #[.val (.long q1), .second, .val (.int p2), .val (.int p3), .val (.long q4), .second, .val (.long tk), .second, .val (.int (Int32.ofNat n)), .val (.int (0 : Int32)), .val (.ref b172), .val (.ref b176), .val (.ref b182), .val (.ref b172), .unset, .unset, .unset, .unset, .unset, .unset, .unset, .unset, .unset, .unset, .unset, .unset, .unset, .unset, .unset] [(.ref b172), (.ref b193), (.ref b193)])) rfl (by rw [hml]; rfl) (Steps.refl _) (a := b193) (argsL := [(.ref b172)]) (rest := [(.ref b193)]) (lenOf pd_0 rfl) rfl (by show 2 * 0 + _ ≤ _; exact Nat.le_of_eq rfl) (hb hby at_97) (fun _ _ => ⟨rfl, e193, (by decide : 58 + 0 ≤ _), (by decide : 378 + 0 ≤ _)⟩)
    dsimp only [Pt.U, Pt.locs, Pt.cells, Pt.slots] at X197 l197 y197 z197 st197 hQ197
    subst l197 y197 z197
    obtain ⟨rfl, Nq197, K197, A197, F197⟩ := hQ197
    have N197 := Fr.app N188 Nq197
    have ZS197 : n0 ≤ T197.heap.size := Nat.le_trans ZS193 K197.1
    have go197 : Goes p e below s₁ (G_rm0 m q1 p2 p3 q4) T197 (mkF m 100 #[.val (.long q1), .second, .val (.int p2), .val (.int p3), .val (.long q4), .second, .val (.long tk), .second, .val (.int (Int32.ofNat n)), .val (.int (0 : Int32)), .val (.ref b172), .val (.ref b176), .val (.ref b182), .val (.ref b172), .unset, .unset, .unset, .unset, .unset, .unset, .unset, .unset, .unset, .unset, .unset, .unset, .unset, .unset, .unset] [(.ref b193)]) := fun tq kq => go196 tq (st197.trans kq)
    have go198 : Goes p e below s₁ (G_rm0 m q1 p2 p3 q4) T197 (mkF m 106 #[.val (.long q1), .second, .val (.int p2), .val (.int p3), .val (.long q4), .second, .val (.long tk), .second, .val (.int (Int32.ofNat n)), .val (.int (0 : Int32)), .val (.ref b172), .val (.ref b176), .val (.ref b182), .val (.ref b172), .val (.ref b193), .unset, .unset, .unset, .unset, .unset, .unset, .unset, .unset, .unset, .unset, .unset, .unset, .unset, .unset] [(.long q4), (.ref b193)]) := fun tq kq => go197 tq (by
      show Steps p.tables e below (T197.setTop (mkF m 100 #[.val (.long q1), .second, .val (.int p2), .val (.int p3), .val (.long q4), .second, .val (.long tk), .second, .val (.int (Int32.ofNat n)), .val (.int (0 : Int32)), .val (.ref b172), .val (.ref b176), .val (.ref b182), .val (.ref b172), .unset, .unset, .unset, .unset, .unset, .unset, .unset, .unset, .unset, .unset, .unset, .unset, .unset, .unset, .unset] [(.ref b193)])) _
      refine XS.astore X197.here hx rfl (hb hby at_100) rfl rfl (l' := #[.val (.long q1), .second, .val (.int p2), .val (.int p3), .val (.long q4), .second, .val (.long tk), .second, .val (.int (Int32.ofNat n)), .val (.int (0 : Int32)), .val (.ref b172), .val (.ref b176), .val (.ref b182), .val (.ref b172), .val (.ref b193), .unset, .unset, .unset, .unset, .unset, .unset, .unset, .unset, .unset, .unset, .unset, .unset, .unset, .unset]) rfl ?_
      show Steps p.tables e below (T197.setTop (mkF m 102 #[.val (.long q1), .second, .val (.int p2), .val (.int p3), .val (.long q4), .second, .val (.long tk), .second, .val (.int (Int32.ofNat n)), .val (.int (0 : Int32)), .val (.ref b172), .val (.ref b176), .val (.ref b182), .val (.ref b172), .val (.ref b193), .unset, .unset, .unset, .unset, .unset, .unset, .unset, .unset, .unset, .unset, .unset, .unset, .unset, .unset] [])) _
      refine XS.aload X197.here hx rfl (hb hby at_102) rfl rfl ?_
      show Steps p.tables e below (T197.setTop (mkF m 104 #[.val (.long q1), .second, .val (.int p2), .val (.int p3), .val (.long q4), .second, .val (.long tk), .second, .val (.int (Int32.ofNat n)), .val (.int (0 : Int32)), .val (.ref b172), .val (.ref b176), .val (.ref b182), .val (.ref b172), .val (.ref b193), .unset, .unset, .unset, .unset, .unset, .unset, .unset, .unset, .unset, .unset, .unset, .unset, .unset, .unset] [(.ref b193)])) _
      refine XS.lload X197.here hx rfl (hb hby at_104) rfl ?_
      exact kq)
    obtain ⟨T199, h199, X199, e199, W199, st199⟩ := putF X197 hx hZ hown (host := "") (Or.inl (tw72 hw)) Via.refl rfl F197 A197 (Or.inl (tw73 hw)) (tw58 hw) (ty := .long) (by decide) rfl rfl (g := (mkF m 106 #[.val (.long q1), .second, .val (.int p2), .val (.int p3), .val (.long q4), .second, .val (.long tk), .second, .val (.int (Int32.ofNat n)), .val (.int (0 : Int32)), .val (.ref b172), .val (.ref b176), .val (.ref b182), .val (.ref b172), .val (.ref b193), .unset, .unset, .unset, .unset, .unset, .unset, .unset, .unset, .unset, .unset, .unset, .unset, .unset, .unset] [(.long q4), (.ref b193)])) rfl rfl (hb hby at_106)
    have N199 := Fr.snoc X199 N197 g_b193
    have ZS199 : n0 ≤ h199.size := Nat.le_trans ZS197 (Keep.of_wr W199).1
    have F199 := Fld.same W199 F197
    have go199 : Goes p e below s₁ (G_rm0 m q1 p2 p3 q4) T199 (mkF m 109 #[.val (.long q1), .second, .val (.int p2), .val (.int p3), .val (.long q4), .second, .val (.long tk), .second, .val (.int (Int32.ofNat n)), .val (.int (0 : Int32)), .val (.ref b172), .val (.ref b176), .val (.ref b182), .val (.ref b172), .val (.ref b193), .unset, .unset, .unset, .unset, .unset, .unset, .unset, .unset, .unset, .unset, .unset, .unset, .unset, .unset] []) := fun tq kq => go198 tq (st199 _ kq)
    have go200 : Goes p e below s₁ (G_rm0 m q1 p2 p3 q4) T199 (mkF m 113 #[.val (.long q1), .second, .val (.int p2), .val (.int p3), .val (.long q4), .second, .val (.long tk), .second, .val (.int (Int32.ofNat n)), .val (.int (0 : Int32)), .val (.ref b172), .val (.ref b176), .val (.ref b182), .val (.ref b172), .val (.ref b193), .unset, .unset, .unset, .unset, .unset, .unset, .unset, .unset, .unset, .unset, .unset, .unset, .unset, .unset] [(.ref b193), (.ref b172)]) := fun tq kq => go199 tq (by
      show Steps p.tables e below (T199.setTop (mkF m 109 #[.val (.long q1), .second, .val (.int p2), .val (.int p3), .val (.long q4), .second, .val (.long tk), .second, .val (.int (Int32.ofNat n)), .val (.int (0 : Int32)), .val (.ref b172), .val (.ref b176), .val (.ref b182), .val (.ref b172), .val (.ref b193), .unset, .unset, .unset, .unset, .unset, .unset, .unset, .unset, .unset, .unset, .unset, .unset, .unset, .unset] [])) _
      refine XS.aload X199.here hx rfl (hb hby at_109) rfl rfl ?_
      show Steps p.tables e below (T199.setTop (mkF m 111 #[.val (.long q1), .second, .val (.int p2), .val (.int p3), .val (.long q4), .second, .val (.long tk), .second, .val (.int (Int32.ofNat n)), .val (.int (0 : Int32)), .val (.ref b172), .val (.ref b176), .val (.ref b182), .val (.ref b172), .val (.ref b193), .unset, .unset, .unset, .unset, .unset, .unset, .unset, .unset, .unset, .unset, .unset, .unset, .unset, .unset] [(.ref b172)])) _
      refine XS.aload X199.here hx rfl (hb hby at_111) rfl rfl ?_
      exact kq)
    have f201 := (Exa.wr W199 ((((((A174.ext E176).keep K180).ext E182).keep K188).ext E193).keep K197))
    have f202 := (Fld.other W199 ((((((F0_174.ext E176).keep K180 (ninS ne177 nin0)).ext E182).keep K188 (ninS ne183 nin0)).ext E193).keep K197 (ninS ne194 nin0)) (Or.inl ne194))
    have f203 := (Fld.other W199 ((((((FB174.ext E176).keep K180 (ninS ne177 nin0)).ext E182).keep K188 (ninS ne183 nin0)).ext E193).keep K197 (ninS ne194 nin0)) (Or.inl ne194))
    have f204 := (((f191.ext E193).keep K197 (ninS ne195 nin0)).other W199 ne195)
    have f205 := (Fld.other W199 ((((((F1_174.ext E176).keep K180 (ninS ne177 nin0)).ext E182).keep K188 (ninS ne183 nin0)).ext E193).keep K197 (ninS ne194 nin0)) (Or.inl ne194))
    have f206 := (Fld.other W199 ((((((F5_174.ext E176).keep K180 (ninS ne177 nin0)).ext E182).keep K188 (ninS ne183 nin0)).ext E193).keep K197 (ninS ne194 nin0)) (Or.inl ne194))
    have f207 := (Fld.other W199 ((((((F6_174.ext E176).keep K180 (ninS ne177 nin0)).ext E182).keep K188 (ninS ne183 nin0)).ext E193).keep K197 (ninS ne194 nin0)) (Or.inl ne194))
    have f208 := (Fld.other W199 ((((((F2_174.ext E176).keep K180 (ninS ne177 nin0)).ext E182).keep K188 (ninS ne183 nin0)).ext E193).keep K197 (ninS ne194 nin0)) (Or.inl ne194))
    obtain ⟨cq209, kq209, q209a, q209b, q209c⟩ := isOf hZ e199 f201
    obtain ⟨vv209, _, ⟨T209, L209, k209, n209⟩, -, X209, ⟨Lc209, hQ209, l209, y209, z209⟩, st209⟩ := X199.virtualBack hx (y := (⟨"com/example/cicada/cicada/Level", "open", "(Lcom/example/cicada/cicada/Bucket;)V"⟩ : MethodName)) (z := (⟨"com/example/cicada/cicada/Level", "open", "(Lcom/example/cicada/cicada/Bucket;)V"⟩ : MethodName)) hown (mvT hZ (tw74 hw)) (mvT hZ (tw75 hw)) (notFace_of_selects (args := #[]) (mvT hZ (tw77 hw))) (mvT hZ (tw77 hw)) (mvT hZ (tw76 hw)) (by decide) (backOf (W := 0) (rmOpen0 l Z a0 hw [] b172 b193 tk tk q4 (0 : Int64) B174 kB174 n vs174 h199 n0 ZS199 g_b172 g_B174 f201 f202 f203 f204 htz hn1 hn16 Ov174 l174 (Exa.wr W199 A197) F199 f205 f206 f207 f208) hZ (tw78 hw) (tw8 hw) (by decide) (by decide)) q209a q209c (g := (mkF m 113 #[.val (.long q1), .second, .val (.int p2), .val (.int p3), .val (.long q4), .second, .val (.long tk), .second, .val (.int (Int32.ofNat n)), .val (.int (0 : Int32)), .val (.ref b172), .val (.ref b176), .val (.ref b182), .val (.ref b172), .val (.ref b193), .unset, .unset, .unset, .unset, .unset, .unset, .unset, .unset, .unset, .unset, .unset, .unset, .unset, .unset] [(.ref b193), (.ref b172)])) rfl (by rw [hml]; rfl) (Steps.refl _) (argsL := [(.ref b193)]) (rest := []) (lenOf pd_11 rfl) rfl (by show 2 * 0 + _ ≤ _; exact Nat.le_of_eq rfl) (hb hby at_113) (fun _ _ => ⟨rfl, e199, (by decide : 58 + 1 ≤ _), (by decide : 378 + 6 ≤ _)⟩)
    dsimp only [Pt.U, Pt.locs, Pt.cells, Pt.slots] at X209 l209 y209 z209 st209 hQ209
    subst l209 y209 z209
    obtain ⟨rfl, Nq209, K209, A209, Ft209, Fl209, Fz209, Fb209, Fs209, Fm209, nb209, BN209, V209⟩ := hQ209
    have N209 := Fr.app N199 Nq209
    have ZS209 : n0 ≤ T209.heap.size := Nat.le_trans ZS199 K209.1
    have go209 : Goes p e below s₁ (G_rm0 m q1 p2 p3 q4) T209 (mkF m 116 #[.val (.long q1), .second, .val (.int p2), .val (.int p3), .val (.long q4), .second, .val (.long tk), .second, .val (.int (Int32.ofNat n)), .val (.int (0 : Int32)), .val (.ref b172), .val (.ref b176), .val (.ref b182), .val (.ref b172), .val (.ref b193), .unset, .unset, .unset, .unset, .unset, .unset, .unset, .unset, .unset, .unset, .unset, .unset, .unset, .unset] []) := fun tq kq => go200 tq (st209.trans kq)
    have go210 : Goes p e below s₁ (G_rm0 m q1 p2 p3 q4) T209 (mkF m 118 #[.val (.long q1), .second, .val (.int p2), .val (.int p3), .val (.long q4), .second, .val (.long tk), .second, .val (.int (Int32.ofNat n)), .val (.int (0 : Int32)), .val (.ref b172), .val (.ref b176), .val (.ref b182), .val (.ref b172), .val (.ref b193), .unset, .unset, .unset, .unset, .unset, .unset, .unset, .unset, .unset, .unset, .unset, .unset, .unset, .unset] [(.ref b172)]) := fun tq kq => go209 tq (by
      show Steps p.tables e below (T209.setTop (mkF m 116 #[.val (.long q1), .second, .val (.int p2), .val (.int p3), .val (.long q4), .second, .val (.long tk), .second, .val (.int (Int32.ofNat n)), .val (.int (0 : Int32)), .val (.ref b172), .val (.ref b176), .val (.ref b182), .val (.ref b172), .val (.ref b193), .unset, .unset, .unset, .unset, .unset, .unset, .unset, .unset, .unset, .unset, .unset, .unset, .unset, .unset] [])) _
      refine XS.aload X209.here hx rfl (hb hby at_116) rfl rfl ?_
      exact kq)
    obtain ⟨cq211, kq211, q211a, q211b, q211c⟩ := isOf hZ rfl A209
    obtain ⟨vv211, _, ⟨T211, L211, k211, n211⟩, -, X211, ⟨Lc211, hQ211, l211, y211, z211⟩, st211⟩ := X209.virtualBack hx (y := (⟨"com/example/cicada/cicada/Level", "moving", "()Lcom/example/cicada/cicada/Bucket;"⟩ : MethodName)) (z := (⟨"com/example/cicada/cicada/Level", "moving", "()Lcom/example/cicada/cicada/Bucket;"⟩ : MethodName)) hown (mvT hZ (tw97 hw)) (mvT hZ (tw98 hw)) (notFace_of_selects (args := #[]) (mvT hZ (tw100 hw))) (mvT hZ (tw100 hw)) (mvT hZ (tw99 hw)) (by decide) (backOf (W := 0) (rmMvR l Z a0 hw [] b172 b193 T209.heap n0 ZS209 Fm209) hZ (tw101 hw) (tw8 hw) (by decide) (by decide)) q211a q211c (g := (mkF m 118 #[.val (.long q1), .second, .val (.int p2), .val (.int p3), .val (.long q4), .second, .val (.long tk), .second, .val (.int (Int32.ofNat n)), .val (.int (0 : Int32)), .val (.ref b172), .val (.ref b176), .val (.ref b182), .val (.ref b172), .val (.ref b193), .unset, .unset, .unset, .unset, .unset, .unset, .unset, .unset, .unset, .unset, .unset, .unset, .unset, .unset] [(.ref b172)])) rfl (by rw [hml]; rfl) (Steps.refl _) (argsL := []) (rest := []) (lenOf pd_12 rfl) rfl (by show 2 * 0 + _ ≤ _; exact Nat.le_of_eq rfl) (hb hby at_118) (fun _ _ => ⟨rfl, rfl, (by decide : 59 + 0 ≤ _), (by decide : 384 + 0 ≤ _)⟩)
    dsimp only [Pt.U, Pt.locs, Pt.cells, Pt.slots] at X211 l211 y211 z211 st211 hQ211
    subst l211 y211 z211
    obtain ⟨rfl, Nq211, eq211⟩ := hQ211
    have N211 := Fr.app N209 Nq211
    have go211 : Goes p e below s₁ (G_rm0 m q1 p2 p3 q4) T211 (mkF m 121 #[.val (.long q1), .second, .val (.int p2), .val (.int p3), .val (.long q4), .second, .val (.long tk), .second, .val (.int (Int32.ofNat n)), .val (.int (0 : Int32)), .val (.ref b172), .val (.ref b176), .val (.ref b182), .val (.ref b172), .val (.ref b193), .unset, .unset, .unset, .unset, .unset, .unset, .unset, .unset, .unset, .unset, .unset, .unset, .unset, .unset] [(.ref b193)]) := fun tq kq => go210 tq (st211.trans kq)
    have go212 : Goes p e below s₁ (G_rm0 m q1 p2 p3 q4) T211 (mkF m 123 #[.val (.long q1), .second, .val (.int p2), .val (.int p3), .val (.long q4), .second, .val (.long tk), .second, .val (.int (Int32.ofNat n)), .val (.int (0 : Int32)), .val (.ref b172), .val (.ref b176), .val (.ref b182), .val (.ref b172), .val (.ref b193), .unset, .unset, .unset, .unset, .unset, .unset, .unset, .unset, .unset, .unset, .unset, .unset, .unset, .unset] [(.ref b193), (.ref b193)]) := fun tq kq => go211 tq (by
      show Steps p.tables e below (T211.setTop (mkF m 121 #[.val (.long q1), .second, .val (.int p2), .val (.int p3), .val (.long q4), .second, .val (.long tk), .second, .val (.int (Int32.ofNat n)), .val (.int (0 : Int32)), .val (.ref b172), .val (.ref b176), .val (.ref b182), .val (.ref b172), .val (.ref b193), .unset, .unset, .unset, .unset, .unset, .unset, .unset, .unset, .unset, .unset, .unset, .unset, .unset, .unset] [(.ref b193)])) _
      refine XS.aload X211.here hx rfl (hb hby at_121) rfl rfl ?_
      exact kq)
    have go213 : Goes p e below s₁ (G_rm0 m q1 p2 p3 q4) T211 (mkF m 130 #[.val (.long q1), .second, .val (.int p2), .val (.int p3), .val (.long q4), .second, .val (.long tk), .second, .val (.int (Int32.ofNat n)), .val (.int (0 : Int32)), .val (.ref b172), .val (.ref b176), .val (.ref b182), .val (.ref b172), .val (.ref b193), .unset, .unset, .unset, .unset, .unset, .unset, .unset, .unset, .unset, .unset, .unset, .unset, .unset, .unset] [(.ref b172)]) := fun tq kq => go212 tq (by
      show Steps p.tables e below (T211.setTop (mkF m 123 #[.val (.long q1), .second, .val (.int p2), .val (.int p3), .val (.long q4), .second, .val (.long tk), .second, .val (.int (Int32.ofNat n)), .val (.int (0 : Int32)), .val (.ref b172), .val (.ref b176), .val (.ref b182), .val (.ref b172), .val (.ref b193), .unset, .unset, .unset, .unset, .unset, .unset, .unset, .unset, .unset, .unset, .unset, .unset, .unset, .unset] [(.ref b193), (.ref b193)])) _
      refine Jvm.RoadKit.acmp (g := (mkF m 123 #[.val (.long q1), .second, .val (.int p2), .val (.int p3), .val (.long q4), .second, .val (.long tk), .second, .val (.int (Int32.ofNat n)), .val (.int (0 : Int32)), .val (.ref b172), .val (.ref b176), .val (.ref b182), .val (.ref b172), .val (.ref b193), .unset, .unset, .unset, .unset, .unset, .unset, .unset, .unset, .unset, .unset, .unset, .unset, .unset, .unset] [(.ref b193), (.ref b193)])) X211 hx rfl rfl rfl (pc0 := 123) (pc' := 128) (same := true) rfl (hb hby at_123) rfl (decide_eq_true rfl) (by decide) (by decide) ?_
      show Steps p.tables e below (T211.setTop (mkF m 128 #[.val (.long q1), .second, .val (.int p2), .val (.int p3), .val (.long q4), .second, .val (.long tk), .second, .val (.int (Int32.ofNat n)), .val (.int (0 : Int32)), .val (.ref b172), .val (.ref b176), .val (.ref b182), .val (.ref b172), .val (.ref b193), .unset, .unset, .unset, .unset, .unset, .unset, .unset, .unset, .unset, .unset, .unset, .unset, .unset, .unset] [])) _
      refine XS.aload X211.here hx rfl (hb hby at_128) rfl rfl ?_
      exact kq)
    have f214 := (F199.keep K209 (ninS (Ne.symm ne195) (ninS (Ne.symm ne194) nin0)))
    obtain ⟨cq215, kq215, q215a, q215b, q215c⟩ := isOf hZ eq211 A209
    obtain ⟨vv215, _, ⟨T215, L215, k215, n215⟩, -, X215, ⟨Lc215, hQ215, l215, y215, z215⟩, st215⟩ := X211.virtualBack hx (y := (⟨"com/example/cicada/cicada/Level", "moveMiddle", "()J"⟩ : MethodName)) (z := (⟨"com/example/cicada/cicada/Level", "moveMiddle", "()J"⟩ : MethodName)) hown (mvT hZ (tw102 hw)) (mvT hZ (tw103 hw)) (notFace_of_selects (args := #[]) (mvT hZ (tw105 hw))) (mvT hZ (tw105 hw)) (mvT hZ (tw104 hw)) (by decide) (backOf (W := 0) (rmMid l Z a0 hw [] b172 b193 q4 (0 : Int64) T209.heap n0 ZS209 Fm209 f214 Fz209) hZ (tw106 hw) (tw8 hw) (by decide) (by decide)) q215a q215c (g := (mkF m 130 #[.val (.long q1), .second, .val (.int p2), .val (.int p3), .val (.long q4), .second, .val (.long tk), .second, .val (.int (Int32.ofNat n)), .val (.int (0 : Int32)), .val (.ref b172), .val (.ref b176), .val (.ref b182), .val (.ref b172), .val (.ref b193), .unset, .unset, .unset, .unset, .unset, .unset, .unset, .unset, .unset, .unset, .unset, .unset, .unset, .unset] [(.ref b172)])) rfl (by rw [hml]; rfl) (Steps.refl _) (argsL := []) (rest := []) (lenOf pd_13 rfl) rfl (by show 2 * 0 + _ ≤ _; exact Nat.le_of_eq rfl) (hb hby at_130) (fun _ _ => ⟨rfl, eq211, (by decide : 59 + 0 ≤ _), (by decide : 384 + 0 ≤ _)⟩)
    dsimp only [Pt.U, Pt.locs, Pt.cells, Pt.slots] at X215 l215 y215 z215 st215 hQ215
    subst l215 y215 z215
    obtain ⟨rfl, Nq215, eq215⟩ := hQ215
    have N215 := Fr.app N211 Nq215
    have go215 : Goes p e below s₁ (G_rm0 m q1 p2 p3 q4) T215 (mkF m 133 #[.val (.long q1), .second, .val (.int p2), .val (.int p3), .val (.long q4), .second, .val (.long tk), .second, .val (.int (Int32.ofNat n)), .val (.int (0 : Int32)), .val (.ref b172), .val (.ref b176), .val (.ref b182), .val (.ref b172), .val (.ref b193), .unset, .unset, .unset, .unset, .unset, .unset, .unset, .unset, .unset, .unset, .unset, .unset, .unset, .unset] [(.long (q4 + ((0 : Int64) / (2 : Int64))))]) := fun tq kq => go213 tq (st215.trans kq)
    have go216 : Goes p e below s₁ (G_rm0 m q1 p2 p3 q4) T215 (mkF m 137 #[.val (.long q1), .second, .val (.int p2), .val (.int p3), .val (.long q4), .second, .val (.long tk), .second, .val (.int (Int32.ofNat n)), .val (.int (0 : Int32)), .val (.ref b172), .val (.ref b176), .val (.ref b182), .val (.ref b172), .val (.ref b193), .val (.long (q4 + ((0 : Int64) / (2 : Int64)))), .second, .unset, .unset, .unset, .unset, .unset, .unset, .unset, .unset, .unset, .unset, .unset, .unset] [(.ref b172)]) := fun tq kq => go215 tq (by
      show Steps p.tables e below (T215.setTop (mkF m 133 #[.val (.long q1), .second, .val (.int p2), .val (.int p3), .val (.long q4), .second, .val (.long tk), .second, .val (.int (Int32.ofNat n)), .val (.int (0 : Int32)), .val (.ref b172), .val (.ref b176), .val (.ref b182), .val (.ref b172), .val (.ref b193), .unset, .unset, .unset, .unset, .unset, .unset, .unset, .unset, .unset, .unset, .unset, .unset, .unset, .unset] [(.long (q4 + ((0 : Int64) / (2 : Int64))))])) _
      refine XS.lstore X215.here hx rfl (hb hby at_133) rfl (l' := #[.val (.long q1), .second, .val (.int p2), .val (.int p3), .val (.long q4), .second, .val (.long tk), .second, .val (.int (Int32.ofNat n)), .val (.int (0 : Int32)), .val (.ref b172), .val (.ref b176), .val (.ref b182), .val (.ref b172), .val (.ref b193), .val (.long (q4 + ((0 : Int64) / (2 : Int64)))), .second, .unset, .unset, .unset, .unset, .unset, .unset, .unset, .unset, .unset, .unset, .unset, .unset]) rfl ?_
      show Steps p.tables e below (T215.setTop (mkF m 135 #[.val (.long q1), .second, .val (.int p2), .val (.int p3), .val (.long q4), .second, .val (.long tk), .second, .val (.int (Int32.ofNat n)), .val (.int (0 : Int32)), .val (.ref b172), .val (.ref b176), .val (.ref b182), .val (.ref b172), .val (.ref b193), .val (.long (q4 + ((0 : Int64) / (2 : Int64)))), .second, .unset, .unset, .unset, .unset, .unset, .unset, .unset, .unset, .unset, .unset, .unset, .unset] [])) _
      refine XS.aload X215.here hx rfl (hb hby at_135) rfl rfl ?_
      exact kq)
    obtain ⟨cq217, kq217, q217a, q217b, q217c⟩ := isOf hZ eq215 A209
    obtain ⟨vv217, _, ⟨T217, L217, k217, n217⟩, -, X217, ⟨Lc217, hQ217, l217, y217, z217⟩, st217⟩ := X215.virtualBack hx (y := (⟨"com/example/cicada/cicada/Level", "moveDeadline", "()J"⟩ : MethodName)) (z := (⟨"com/example/cicada/cicada/Level", "moveDeadline", "()J"⟩ : MethodName)) hown (mvT hZ (tw108 hw)) (mvT hZ (tw109 hw)) (notFace_of_selects (args := #[]) (mvT hZ (tw111 hw))) (mvT hZ (tw111 hw)) (mvT hZ (tw110 hw)) (by decide) (backOf (W := 0) (rmDl l Z a0 hw [] b172 b193 q4 (0 : Int64) T209.heap n0 ZS209 Fm209 f214 Fz209) hZ (tw112 hw) (tw8 hw) (by decide) (by decide)) q217a q217c (g := (mkF m 137 #[.val (.long q1), .second, .val (.int p2), .val (.int p3), .val (.long q4), .second, .val (.long tk), .second, .val (.int (Int32.ofNat n)), .val (.int (0 : Int32)), .val (.ref b172), .val (.ref b176), .val (.ref b182), .val (.ref b172), .val (.ref b193), .val (.long (q4 + ((0 : Int64) / (2 : Int64)))), .second, .unset, .unset, .unset, .unset, .unset, .unset, .unset, .unset, .unset, .unset, .unset, .unset] [(.ref b172)])) rfl (by rw [hml]; rfl) (Steps.refl _) (argsL := []) (rest := []) (lenOf pd_13 rfl) rfl (by show 2 * 0 + _ ≤ _; exact Nat.le_of_eq rfl) (hb hby at_137) (fun _ _ => ⟨rfl, eq215, (by decide : 59 + 0 ≤ _), (by decide : 384 + 0 ≤ _)⟩)
    dsimp only [Pt.U, Pt.locs, Pt.cells, Pt.slots] at X217 l217 y217 z217 st217 hQ217
    subst l217 y217 z217
    obtain ⟨rfl, Nq217, eq217⟩ := hQ217
    have N217 := Fr.app N215 Nq217
    have go217 : Goes p e below s₁ (G_rm0 m q1 p2 p3 q4) T217 (mkF m 140 #[.val (.long q1), .second, .val (.int p2), .val (.int p3), .val (.long q4), .second, .val (.long tk), .second, .val (.int (Int32.ofNat n)), .val (.int (0 : Int32)), .val (.ref b172), .val (.ref b176), .val (.ref b182), .val (.ref b172), .val (.ref b193), .val (.long (q4 + ((0 : Int64) / (2 : Int64)))), .second, .unset, .unset, .unset, .unset, .unset, .unset, .unset, .unset, .unset, .unset, .unset, .unset] [(.long (q4 + (0 : Int64)))]) := fun tq kq => go216 tq (st217.trans kq)
    have go218 : Goes p e below s₁ (G_rm0 m q1 p2 p3 q4) T217 (mkF m 152 #[.val (.long q1), .second, .val (.int p2), .val (.int p3), .val (.long q4), .second, .val (.long tk), .second, .val (.int (Int32.ofNat n)), .val (.int (0 : Int32)), .val (.ref b172), .val (.ref b176), .val (.ref b182), .val (.ref b172), .val (.ref b193), .val (.long (q4 + ((0 : Int64) / (2 : Int64)))), .second, .val (.long (q4 + (0 : Int64))), .second, .unset, .unset, .unset, .unset, .unset, .unset, .unset, .unset, .unset, .unset] [(.int (lcmpW tk ((9223372036854775807 : Int64) / ((Int32.ofNat n).toInt64))))]) := fun tq kq => go217 tq (by
      show Steps p.tables e below (T217.setTop (mkF m 140 #[.val (.long q1), .second, .val (.int p2), .val (.int p3), .val (.long q4), .second, .val (.long tk), .second, .val (.int (Int32.ofNat n)), .val (.int (0 : Int32)), .val (.ref b172), .val (.ref b176), .val (.ref b182), .val (.ref b172), .val (.ref b193), .val (.long (q4 + ((0 : Int64) / (2 : Int64)))), .second, .unset, .unset, .unset, .unset, .unset, .unset, .unset, .unset, .unset, .unset, .unset, .unset] [(.long (q4 + (0 : Int64)))])) _
      refine XS.lstore X217.here hx rfl (hb hby at_140) rfl (l' := #[.val (.long q1), .second, .val (.int p2), .val (.int p3), .val (.long q4), .second, .val (.long tk), .second, .val (.int (Int32.ofNat n)), .val (.int (0 : Int32)), .val (.ref b172), .val (.ref b176), .val (.ref b182), .val (.ref b172), .val (.ref b193), .val (.long (q4 + ((0 : Int64) / (2 : Int64)))), .second, .val (.long (q4 + (0 : Int64))), .second, .unset, .unset, .unset, .unset, .unset, .unset, .unset, .unset, .unset, .unset]) rfl ?_
      show Steps p.tables e below (T217.setTop (mkF m 142 #[.val (.long q1), .second, .val (.int p2), .val (.int p3), .val (.long q4), .second, .val (.long tk), .second, .val (.int (Int32.ofNat n)), .val (.int (0 : Int32)), .val (.ref b172), .val (.ref b176), .val (.ref b182), .val (.ref b172), .val (.ref b193), .val (.long (q4 + ((0 : Int64) / (2 : Int64)))), .second, .val (.long (q4 + (0 : Int64))), .second, .unset, .unset, .unset, .unset, .unset, .unset, .unset, .unset, .unset, .unset] [])) _
      refine XS.lload X217.here hx rfl (hb hby at_142) rfl ?_
      show Steps p.tables e below (T217.setTop (mkF m 144 #[.val (.long q1), .second, .val (.int p2), .val (.int p3), .val (.long q4), .second, .val (.long tk), .second, .val (.int (Int32.ofNat n)), .val (.int (0 : Int32)), .val (.ref b172), .val (.ref b176), .val (.ref b182), .val (.ref b172), .val (.ref b193), .val (.long (q4 + ((0 : Int64) / (2 : Int64)))), .second, .val (.long (q4 + (0 : Int64))), .second, .unset, .unset, .unset, .unset, .unset, .unset, .unset, .unset, .unset, .unset] [(.long tk)])) _
      refine X217.ldc2Long hx hown (mvT hZ (tw0 hw)) (g := (mkF m 144 #[.val (.long q1), .second, .val (.int p2), .val (.int p3), .val (.long q4), .second, .val (.long tk), .second, .val (.int (Int32.ofNat n)), .val (.int (0 : Int32)), .val (.ref b172), .val (.ref b176), .val (.ref b182), .val (.ref b172), .val (.ref b193), .val (.long (q4 + ((0 : Int64) / (2 : Int64)))), .second, .val (.long (q4 + (0 : Int64))), .second, .unset, .unset, .unset, .unset, .unset, .unset, .unset, .unset, .unset, .unset] [(.long tk)])) rfl (hb hby at_144) _ ?_
      show Steps p.tables e below (T217.setTop (mkF m 147 #[.val (.long q1), .second, .val (.int p2), .val (.int p3), .val (.long q4), .second, .val (.long tk), .second, .val (.int (Int32.ofNat n)), .val (.int (0 : Int32)), .val (.ref b172), .val (.ref b176), .val (.ref b182), .val (.ref b172), .val (.ref b193), .val (.long (q4 + ((0 : Int64) / (2 : Int64)))), .second, .val (.long (q4 + (0 : Int64))), .second, .unset, .unset, .unset, .unset, .unset, .unset, .unset, .unset, .unset, .unset] [(.long (9223372036854775807 : Int64)), (.long tk)])) _
      refine XS.iload X217.here hx rfl (hb hby at_147) rfl ?_
      show Steps p.tables e below (T217.setTop (mkF m 149 #[.val (.long q1), .second, .val (.int p2), .val (.int p3), .val (.long q4), .second, .val (.long tk), .second, .val (.int (Int32.ofNat n)), .val (.int (0 : Int32)), .val (.ref b172), .val (.ref b176), .val (.ref b182), .val (.ref b172), .val (.ref b193), .val (.long (q4 + ((0 : Int64) / (2 : Int64)))), .second, .val (.long (q4 + (0 : Int64))), .second, .unset, .unset, .unset, .unset, .unset, .unset, .unset, .unset, .unset, .unset] [(.int (Int32.ofNat n)), (.long (9223372036854775807 : Int64)), (.long tk)])) _
      refine XS.i2l X217.here hx rfl (hb hby at_149) rfl ?_
      show Steps p.tables e below (T217.setTop (mkF m 150 #[.val (.long q1), .second, .val (.int p2), .val (.int p3), .val (.long q4), .second, .val (.long tk), .second, .val (.int (Int32.ofNat n)), .val (.int (0 : Int32)), .val (.ref b172), .val (.ref b176), .val (.ref b182), .val (.ref b172), .val (.ref b193), .val (.long (q4 + ((0 : Int64) / (2 : Int64)))), .second, .val (.long (q4 + (0 : Int64))), .second, .unset, .unset, .unset, .unset, .unset, .unset, .unset, .unset, .unset, .unset] [(.long ((Int32.ofNat n).toInt64)), (.long (9223372036854775807 : Int64)), (.long tk)])) _
      refine XS.ldiv X217.here hx rfl (hb hby at_150) rfl (own_nz hn1 hn16) ?_
      show Steps p.tables e below (T217.setTop (mkF m 151 #[.val (.long q1), .second, .val (.int p2), .val (.int p3), .val (.long q4), .second, .val (.long tk), .second, .val (.int (Int32.ofNat n)), .val (.int (0 : Int32)), .val (.ref b172), .val (.ref b176), .val (.ref b182), .val (.ref b172), .val (.ref b193), .val (.long (q4 + ((0 : Int64) / (2 : Int64)))), .second, .val (.long (q4 + (0 : Int64))), .second, .unset, .unset, .unset, .unset, .unset, .unset, .unset, .unset, .unset, .unset] [(.long ((9223372036854775807 : Int64) / ((Int32.ofNat n).toInt64))), (.long tk)])) _
      refine XS.lcmp X217.here hx rfl (hb hby at_151) rfl ?_
      exact kq)
    by_cases hsp : ((9223372036854775807 : Int64) / ((Int32.ofNat n).toInt64)) < tk
    · have go226 : Goes p e below s₁ (G_rm0 m q1 p2 p3 q4) T217 (mkF m 169 #[.val (.long q1), .second, .val (.int p2), .val (.int p3), .val (.long q4), .second, .val (.long tk), .second, .val (.int (Int32.ofNat n)), .val (.int (0 : Int32)), .val (.ref b172), .val (.ref b176), .val (.ref b182), .val (.ref b172), .val (.ref b193), .val (.long (q4 + ((0 : Int64) / (2 : Int64)))), .second, .val (.long (q4 + (0 : Int64))), .second, .val (.long (9223372036854775807 : Int64)), .second, .unset, .unset, .unset, .unset, .unset, .unset, .unset, .unset] []) := fun tq kq => go218 tq (by
        show Steps p.tables e below (T217.setTop (mkF m 152 #[.val (.long q1), .second, .val (.int p2), .val (.int p3), .val (.long q4), .second, .val (.long tk), .second, .val (.int (Int32.ofNat n)), .val (.int (0 : Int32)), .val (.ref b172), .val (.ref b176), .val (.ref b182), .val (.ref b172), .val (.ref b193), .val (.long (q4 + ((0 : Int64) / (2 : Int64)))), .second, .val (.long (q4 + (0 : Int64))), .second, .unset, .unset, .unset, .unset, .unset, .unset, .unset, .unset, .unset, .unset] [(.int (lcmpW tk ((9223372036854775807 : Int64) / ((Int32.ofNat n).toInt64))))])) _
        refine XS.ifNo X217.here hx rfl (hb hby at_152) rfl ((if0 _ _).trans (tlt (own_lcgt hsp)).2.2.2) ?_
        show Steps p.tables e below (T217.setTop (mkF m 155 #[.val (.long q1), .second, .val (.int p2), .val (.int p3), .val (.long q4), .second, .val (.long tk), .second, .val (.int (Int32.ofNat n)), .val (.int (0 : Int32)), .val (.ref b172), .val (.ref b176), .val (.ref b182), .val (.ref b172), .val (.ref b193), .val (.long (q4 + ((0 : Int64) / (2 : Int64)))), .second, .val (.long (q4 + (0 : Int64))), .second, .unset, .unset, .unset, .unset, .unset, .unset, .unset, .unset, .unset, .unset] [])) _
        refine X217.ldc2Long hx hown (mvT hZ (tw0 hw)) (g := (mkF m 155 #[.val (.long q1), .second, .val (.int p2), .val (.int p3), .val (.long q4), .second, .val (.long tk), .second, .val (.int (Int32.ofNat n)), .val (.int (0 : Int32)), .val (.ref b172), .val (.ref b176), .val (.ref b182), .val (.ref b172), .val (.ref b193), .val (.long (q4 + ((0 : Int64) / (2 : Int64)))), .second, .val (.long (q4 + (0 : Int64))), .second, .unset, .unset, .unset, .unset, .unset, .unset, .unset, .unset, .unset, .unset] [])) rfl (hb hby at_155) _ ?_
        show Steps p.tables e below (T217.setTop (mkF m 158 #[.val (.long q1), .second, .val (.int p2), .val (.int p3), .val (.long q4), .second, .val (.long tk), .second, .val (.int (Int32.ofNat n)), .val (.int (0 : Int32)), .val (.ref b172), .val (.ref b176), .val (.ref b182), .val (.ref b172), .val (.ref b193), .val (.long (q4 + ((0 : Int64) / (2 : Int64)))), .second, .val (.long (q4 + (0 : Int64))), .second, .unset, .unset, .unset, .unset, .unset, .unset, .unset, .unset, .unset, .unset] [(.long (9223372036854775807 : Int64))])) _
        refine XS.goto X217.here hx rfl (pc0 := 158) (pc' := 167) rfl (hb hby at_158) (by decide) (by decide) ?_
        show Steps p.tables e below (T217.setTop (mkF m 167 #[.val (.long q1), .second, .val (.int p2), .val (.int p3), .val (.long q4), .second, .val (.long tk), .second, .val (.int (Int32.ofNat n)), .val (.int (0 : Int32)), .val (.ref b172), .val (.ref b176), .val (.ref b182), .val (.ref b172), .val (.ref b193), .val (.long (q4 + ((0 : Int64) / (2 : Int64)))), .second, .val (.long (q4 + (0 : Int64))), .second, .unset, .unset, .unset, .unset, .unset, .unset, .unset, .unset, .unset, .unset] [(.long (9223372036854775807 : Int64))])) _
        refine XS.lstore X217.here hx rfl (hb hby at_167) rfl (l' := #[.val (.long q1), .second, .val (.int p2), .val (.int p3), .val (.long q4), .second, .val (.long tk), .second, .val (.int (Int32.ofNat n)), .val (.int (0 : Int32)), .val (.ref b172), .val (.ref b176), .val (.ref b182), .val (.ref b172), .val (.ref b193), .val (.long (q4 + ((0 : Int64) / (2 : Int64)))), .second, .val (.long (q4 + (0 : Int64))), .second, .val (.long (9223372036854775807 : Int64)), .second, .unset, .unset, .unset, .unset, .unset, .unset, .unset, .unset]) rfl ?_
        exact kq)
      have hS : SP0 = (9223372036854775807 : Int64) := hSP0.trans (if_pos hsp)
      have go227 : Goes p e below s₁ (G_rm0 m q1 p2 p3 q4) T217 (mkF m 171 #[.val (.long q1), .second, .val (.int p2), .val (.int p3), .val (.long q4), .second, .val (.long tk), .second, .val (.int (Int32.ofNat n)), .val (.int (0 : Int32)), .val (.ref b172), .val (.ref b176), .val (.ref b182), .val (.ref b172), .val (.ref b193), .val (.long (q4 + ((0 : Int64) / (2 : Int64)))), .second, .val (.long (q4 + (0 : Int64))), .second, .val (.long (9223372036854775807 : Int64)), .second, .unset, .unset, .unset, .unset, .unset, .unset, .unset, .unset] [(.int (0 : Int32))]) := fun tq kq => go226 tq (by
        show Steps p.tables e below (T217.setTop (mkF m 169 #[.val (.long q1), .second, .val (.int p2), .val (.int p3), .val (.long q4), .second, .val (.long tk), .second, .val (.int (Int32.ofNat n)), .val (.int (0 : Int32)), .val (.ref b172), .val (.ref b176), .val (.ref b182), .val (.ref b172), .val (.ref b193), .val (.long (q4 + ((0 : Int64) / (2 : Int64)))), .second, .val (.long (q4 + (0 : Int64))), .second, .val (.long (9223372036854775807 : Int64)), .second, .unset, .unset, .unset, .unset, .unset, .unset, .unset, .unset] [])) _
        refine XS.iload X217.here hx rfl (hb hby at_169) rfl ?_
        exact kq)
      have go228 : Goes p e below s₁ (G_rm0 m q1 p2 p3 q4) T217 (mkF m 216 #[.val (.long q1), .second, .val (.int p2), .val (.int p3), .val (.long q4), .second, .val (.long tk), .second, .val (.int (Int32.ofNat n)), .val (.int (0 : Int32)), .val (.ref b172), .val (.ref b176), .val (.ref b182), .val (.ref b172), .val (.ref b193), .val (.long (q4 + ((0 : Int64) / (2 : Int64)))), .second, .val (.long (q4 + (0 : Int64))), .second, .val (.long (9223372036854775807 : Int64)), .second, .val (.long (0 : Int64)), .second, .val (.long (q4 + ((0 : Int64) / (2 : Int64)))), .second, .unset, .unset, .unset, .unset] [(.int (lcmpW (q4 + ((0 : Int64) / (2 : Int64))) (q4 + ((0 : Int64) / (2 : Int64)))))]) := fun tq kq => go227 tq (by
        show Steps p.tables e below (T217.setTop (mkF m 171 #[.val (.long q1), .second, .val (.int p2), .val (.int p3), .val (.long q4), .second, .val (.long tk), .second, .val (.int (Int32.ofNat n)), .val (.int (0 : Int32)), .val (.ref b172), .val (.ref b176), .val (.ref b182), .val (.ref b172), .val (.ref b193), .val (.long (q4 + ((0 : Int64) / (2 : Int64)))), .second, .val (.long (q4 + (0 : Int64))), .second, .val (.long (9223372036854775807 : Int64)), .second, .unset, .unset, .unset, .unset, .unset, .unset, .unset, .unset] [(.int (0 : Int32))])) _
        refine XS.ifNo X217.here hx rfl (hb hby at_171) rfl ((if0 _ _).trans (teq (by decide)).2) ?_
        show Steps p.tables e below (T217.setTop (mkF m 174 #[.val (.long q1), .second, .val (.int p2), .val (.int p3), .val (.long q4), .second, .val (.long tk), .second, .val (.int (Int32.ofNat n)), .val (.int (0 : Int32)), .val (.ref b172), .val (.ref b176), .val (.ref b182), .val (.ref b172), .val (.ref b193), .val (.long (q4 + ((0 : Int64) / (2 : Int64)))), .second, .val (.long (q4 + (0 : Int64))), .second, .val (.long (9223372036854775807 : Int64)), .second, .unset, .unset, .unset, .unset, .unset, .unset, .unset, .unset] [])) _
        refine XS.lconst X217.here hx rfl (hb hby at_174) ?_
        show Steps p.tables e below (T217.setTop (mkF m 175 #[.val (.long q1), .second, .val (.int p2), .val (.int p3), .val (.long q4), .second, .val (.long tk), .second, .val (.int (Int32.ofNat n)), .val (.int (0 : Int32)), .val (.ref b172), .val (.ref b176), .val (.ref b182), .val (.ref b172), .val (.ref b193), .val (.long (q4 + ((0 : Int64) / (2 : Int64)))), .second, .val (.long (q4 + (0 : Int64))), .second, .val (.long (9223372036854775807 : Int64)), .second, .unset, .unset, .unset, .unset, .unset, .unset, .unset, .unset] [(.long (0 : Int64))])) _
        refine XS.lstore X217.here hx rfl (hb hby at_175) rfl (l' := #[.val (.long q1), .second, .val (.int p2), .val (.int p3), .val (.long q4), .second, .val (.long tk), .second, .val (.int (Int32.ofNat n)), .val (.int (0 : Int32)), .val (.ref b172), .val (.ref b176), .val (.ref b182), .val (.ref b172), .val (.ref b193), .val (.long (q4 + ((0 : Int64) / (2 : Int64)))), .second, .val (.long (q4 + (0 : Int64))), .second, .val (.long (9223372036854775807 : Int64)), .second, .val (.long (0 : Int64)), .second, .unset, .unset, .unset, .unset, .unset, .unset]) rfl ?_
        show Steps p.tables e below (T217.setTop (mkF m 177 #[.val (.long q1), .second, .val (.int p2), .val (.int p3), .val (.long q4), .second, .val (.long tk), .second, .val (.int (Int32.ofNat n)), .val (.int (0 : Int32)), .val (.ref b172), .val (.ref b176), .val (.ref b182), .val (.ref b172), .val (.ref b193), .val (.long (q4 + ((0 : Int64) / (2 : Int64)))), .second, .val (.long (q4 + (0 : Int64))), .second, .val (.long (9223372036854775807 : Int64)), .second, .val (.long (0 : Int64)), .second, .unset, .unset, .unset, .unset, .unset, .unset] [])) _
        refine XS.goto X217.here hx rfl (pc0 := 177) (pc' := 200) rfl (hb hby at_177) (by decide) (by decide) ?_
        show Steps p.tables e below (T217.setTop (mkF m 200 #[.val (.long q1), .second, .val (.int p2), .val (.int p3), .val (.long q4), .second, .val (.long tk), .second, .val (.int (Int32.ofNat n)), .val (.int (0 : Int32)), .val (.ref b172), .val (.ref b176), .val (.ref b182), .val (.ref b172), .val (.ref b193), .val (.long (q4 + ((0 : Int64) / (2 : Int64)))), .second, .val (.long (q4 + (0 : Int64))), .second, .val (.long (9223372036854775807 : Int64)), .second, .val (.long (0 : Int64)), .second, .unset, .unset, .unset, .unset, .unset, .unset] [])) _
        refine XS.lload X217.here hx rfl (hb hby at_200) rfl ?_
        show Steps p.tables e below (T217.setTop (mkF m 202 #[.val (.long q1), .second, .val (.int p2), .val (.int p3), .val (.long q4), .second, .val (.long tk), .second, .val (.int (Int32.ofNat n)), .val (.int (0 : Int32)), .val (.ref b172), .val (.ref b176), .val (.ref b182), .val (.ref b172), .val (.ref b193), .val (.long (q4 + ((0 : Int64) / (2 : Int64)))), .second, .val (.long (q4 + (0 : Int64))), .second, .val (.long (9223372036854775807 : Int64)), .second, .val (.long (0 : Int64)), .second, .unset, .unset, .unset, .unset, .unset, .unset] [(.long q4)])) _
        refine XS.lload X217.here hx rfl (hb hby at_202) rfl ?_
        show Steps p.tables e below (T217.setTop (mkF m 204 #[.val (.long q1), .second, .val (.int p2), .val (.int p3), .val (.long q4), .second, .val (.long tk), .second, .val (.int (Int32.ofNat n)), .val (.int (0 : Int32)), .val (.ref b172), .val (.ref b176), .val (.ref b182), .val (.ref b172), .val (.ref b193), .val (.long (q4 + ((0 : Int64) / (2 : Int64)))), .second, .val (.long (q4 + (0 : Int64))), .second, .val (.long (9223372036854775807 : Int64)), .second, .val (.long (0 : Int64)), .second, .unset, .unset, .unset, .unset, .unset, .unset] [(.long (0 : Int64)), (.long q4)])) _
        refine X217.ldc2Long hx hown (mvT hZ (tw113 hw)) (g := (mkF m 204 #[.val (.long q1), .second, .val (.int p2), .val (.int p3), .val (.long q4), .second, .val (.long tk), .second, .val (.int (Int32.ofNat n)), .val (.int (0 : Int32)), .val (.ref b172), .val (.ref b176), .val (.ref b182), .val (.ref b172), .val (.ref b193), .val (.long (q4 + ((0 : Int64) / (2 : Int64)))), .second, .val (.long (q4 + (0 : Int64))), .second, .val (.long (9223372036854775807 : Int64)), .second, .val (.long (0 : Int64)), .second, .unset, .unset, .unset, .unset, .unset, .unset] [(.long (0 : Int64)), (.long q4)])) rfl (hb hby at_204) _ ?_
        show Steps p.tables e below (T217.setTop (mkF m 207 #[.val (.long q1), .second, .val (.int p2), .val (.int p3), .val (.long q4), .second, .val (.long tk), .second, .val (.int (Int32.ofNat n)), .val (.int (0 : Int32)), .val (.ref b172), .val (.ref b176), .val (.ref b182), .val (.ref b172), .val (.ref b193), .val (.long (q4 + ((0 : Int64) / (2 : Int64)))), .second, .val (.long (q4 + (0 : Int64))), .second, .val (.long (9223372036854775807 : Int64)), .second, .val (.long (0 : Int64)), .second, .unset, .unset, .unset, .unset, .unset, .unset] [(.long (2 : Int64)), (.long (0 : Int64)), (.long q4)])) _
        refine XS.ldiv X217.here hx rfl (hb hby at_207) rfl (by decide) ?_
        show Steps p.tables e below (T217.setTop (mkF m 208 #[.val (.long q1), .second, .val (.int p2), .val (.int p3), .val (.long q4), .second, .val (.long tk), .second, .val (.int (Int32.ofNat n)), .val (.int (0 : Int32)), .val (.ref b172), .val (.ref b176), .val (.ref b182), .val (.ref b172), .val (.ref b193), .val (.long (q4 + ((0 : Int64) / (2 : Int64)))), .second, .val (.long (q4 + (0 : Int64))), .second, .val (.long (9223372036854775807 : Int64)), .second, .val (.long (0 : Int64)), .second, .unset, .unset, .unset, .unset, .unset, .unset] [(.long ((0 : Int64) / (2 : Int64))), (.long q4)])) _
        refine XS.ladd X217.here hx rfl (hb hby at_208) rfl ?_
        show Steps p.tables e below (T217.setTop (mkF m 209 #[.val (.long q1), .second, .val (.int p2), .val (.int p3), .val (.long q4), .second, .val (.long tk), .second, .val (.int (Int32.ofNat n)), .val (.int (0 : Int32)), .val (.ref b172), .val (.ref b176), .val (.ref b182), .val (.ref b172), .val (.ref b193), .val (.long (q4 + ((0 : Int64) / (2 : Int64)))), .second, .val (.long (q4 + (0 : Int64))), .second, .val (.long (9223372036854775807 : Int64)), .second, .val (.long (0 : Int64)), .second, .unset, .unset, .unset, .unset, .unset, .unset] [(.long (q4 + ((0 : Int64) / (2 : Int64))))])) _
        refine XS.lstore X217.here hx rfl (hb hby at_209) rfl (l' := #[.val (.long q1), .second, .val (.int p2), .val (.int p3), .val (.long q4), .second, .val (.long tk), .second, .val (.int (Int32.ofNat n)), .val (.int (0 : Int32)), .val (.ref b172), .val (.ref b176), .val (.ref b182), .val (.ref b172), .val (.ref b193), .val (.long (q4 + ((0 : Int64) / (2 : Int64)))), .second, .val (.long (q4 + (0 : Int64))), .second, .val (.long (9223372036854775807 : Int64)), .second, .val (.long (0 : Int64)), .second, .val (.long (q4 + ((0 : Int64) / (2 : Int64)))), .second, .unset, .unset, .unset, .unset]) rfl ?_
        show Steps p.tables e below (T217.setTop (mkF m 211 #[.val (.long q1), .second, .val (.int p2), .val (.int p3), .val (.long q4), .second, .val (.long tk), .second, .val (.int (Int32.ofNat n)), .val (.int (0 : Int32)), .val (.ref b172), .val (.ref b176), .val (.ref b182), .val (.ref b172), .val (.ref b193), .val (.long (q4 + ((0 : Int64) / (2 : Int64)))), .second, .val (.long (q4 + (0 : Int64))), .second, .val (.long (9223372036854775807 : Int64)), .second, .val (.long (0 : Int64)), .second, .val (.long (q4 + ((0 : Int64) / (2 : Int64)))), .second, .unset, .unset, .unset, .unset] [])) _
        refine XS.lload X217.here hx rfl (hb hby at_211) rfl ?_
        show Steps p.tables e below (T217.setTop (mkF m 213 #[.val (.long q1), .second, .val (.int p2), .val (.int p3), .val (.long q4), .second, .val (.long tk), .second, .val (.int (Int32.ofNat n)), .val (.int (0 : Int32)), .val (.ref b172), .val (.ref b176), .val (.ref b182), .val (.ref b172), .val (.ref b193), .val (.long (q4 + ((0 : Int64) / (2 : Int64)))), .second, .val (.long (q4 + (0 : Int64))), .second, .val (.long (9223372036854775807 : Int64)), .second, .val (.long (0 : Int64)), .second, .val (.long (q4 + ((0 : Int64) / (2 : Int64)))), .second, .unset, .unset, .unset, .unset] [(.long (q4 + ((0 : Int64) / (2 : Int64))))])) _
        refine XS.lload X217.here hx rfl (hb hby at_213) rfl ?_
        show Steps p.tables e below (T217.setTop (mkF m 215 #[.val (.long q1), .second, .val (.int p2), .val (.int p3), .val (.long q4), .second, .val (.long tk), .second, .val (.int (Int32.ofNat n)), .val (.int (0 : Int32)), .val (.ref b172), .val (.ref b176), .val (.ref b182), .val (.ref b172), .val (.ref b193), .val (.long (q4 + ((0 : Int64) / (2 : Int64)))), .second, .val (.long (q4 + (0 : Int64))), .second, .val (.long (9223372036854775807 : Int64)), .second, .val (.long (0 : Int64)), .second, .val (.long (q4 + ((0 : Int64) / (2 : Int64)))), .second, .unset, .unset, .unset, .unset] [(.long (q4 + ((0 : Int64) / (2 : Int64)))), (.long (q4 + ((0 : Int64) / (2 : Int64))))])) _
        refine XS.lcmp X217.here hx rfl (hb hby at_215) rfl ?_
        exact kq)
      have hme : (q4 + ((0 : Int64) / (2 : Int64))) = (q4 + ((0 : Int64) / (2 : Int64))) := by rfl
      have go229 : Goes p e below s₁ (G_rm0 m q1 p2 p3 q4) T217 (mkF m 239 #[.val (.long q1), .second, .val (.int p2), .val (.int p3), .val (.long q4), .second, .val (.long tk), .second, .val (.int (Int32.ofNat n)), .val (.int (0 : Int32)), .val (.ref b172), .val (.ref b176), .val (.ref b182), .val (.ref b172), .val (.ref b193), .val (.long (q4 + ((0 : Int64) / (2 : Int64)))), .second, .val (.long (q4 + (0 : Int64))), .second, .val (.long (9223372036854775807 : Int64)), .second, .val (.long (0 : Int64)), .second, .val (.long (q4 + ((0 : Int64) / (2 : Int64)))), .second, .val (.long ((q4 + ((0 : Int64) / (2 : Int64))) - q4)), .second, .val (.long ((q4 + (0 : Int64)) - q4)), .second] [(.int (lcmpW ((q4 + ((0 : Int64) / (2 : Int64))) - q4) (0 : Int64)))]) := fun tq kq => go228 tq (by
        show Steps p.tables e below (T217.setTop (mkF m 216 #[.val (.long q1), .second, .val (.int p2), .val (.int p3), .val (.long q4), .second, .val (.long tk), .second, .val (.int (Int32.ofNat n)), .val (.int (0 : Int32)), .val (.ref b172), .val (.ref b176), .val (.ref b182), .val (.ref b172), .val (.ref b193), .val (.long (q4 + ((0 : Int64) / (2 : Int64)))), .second, .val (.long (q4 + (0 : Int64))), .second, .val (.long (9223372036854775807 : Int64)), .second, .val (.long (0 : Int64)), .second, .val (.long (q4 + ((0 : Int64) / (2 : Int64)))), .second, .unset, .unset, .unset, .unset] [(.int (lcmpW (q4 + ((0 : Int64) / (2 : Int64))) (q4 + ((0 : Int64) / (2 : Int64)))))])) _
        refine XS.ifYes X217.here hx rfl (pc0 := 216) (pc' := 221) rfl (hb hby at_216) rfl ((if0 _ _).trans (teq (own_lceq hme)).1) (by decide) (by decide) ?_
        show Steps p.tables e below (T217.setTop (mkF m 221 #[.val (.long q1), .second, .val (.int p2), .val (.int p3), .val (.long q4), .second, .val (.long tk), .second, .val (.int (Int32.ofNat n)), .val (.int (0 : Int32)), .val (.ref b172), .val (.ref b176), .val (.ref b182), .val (.ref b172), .val (.ref b193), .val (.long (q4 + ((0 : Int64) / (2 : Int64)))), .second, .val (.long (q4 + (0 : Int64))), .second, .val (.long (9223372036854775807 : Int64)), .second, .val (.long (0 : Int64)), .second, .val (.long (q4 + ((0 : Int64) / (2 : Int64)))), .second, .unset, .unset, .unset, .unset] [])) _
        refine XS.lload X217.here hx rfl (hb hby at_221) rfl ?_
        show Steps p.tables e below (T217.setTop (mkF m 223 #[.val (.long q1), .second, .val (.int p2), .val (.int p3), .val (.long q4), .second, .val (.long tk), .second, .val (.int (Int32.ofNat n)), .val (.int (0 : Int32)), .val (.ref b172), .val (.ref b176), .val (.ref b182), .val (.ref b172), .val (.ref b193), .val (.long (q4 + ((0 : Int64) / (2 : Int64)))), .second, .val (.long (q4 + (0 : Int64))), .second, .val (.long (9223372036854775807 : Int64)), .second, .val (.long (0 : Int64)), .second, .val (.long (q4 + ((0 : Int64) / (2 : Int64)))), .second, .unset, .unset, .unset, .unset] [(.long (q4 + ((0 : Int64) / (2 : Int64))))])) _
        refine XS.lload X217.here hx rfl (hb hby at_223) rfl ?_
        show Steps p.tables e below (T217.setTop (mkF m 225 #[.val (.long q1), .second, .val (.int p2), .val (.int p3), .val (.long q4), .second, .val (.long tk), .second, .val (.int (Int32.ofNat n)), .val (.int (0 : Int32)), .val (.ref b172), .val (.ref b176), .val (.ref b182), .val (.ref b172), .val (.ref b193), .val (.long (q4 + ((0 : Int64) / (2 : Int64)))), .second, .val (.long (q4 + (0 : Int64))), .second, .val (.long (9223372036854775807 : Int64)), .second, .val (.long (0 : Int64)), .second, .val (.long (q4 + ((0 : Int64) / (2 : Int64)))), .second, .unset, .unset, .unset, .unset] [(.long q4), (.long (q4 + ((0 : Int64) / (2 : Int64))))])) _
        refine XS.lsub X217.here hx rfl (hb hby at_225) rfl ?_
        show Steps p.tables e below (T217.setTop (mkF m 226 #[.val (.long q1), .second, .val (.int p2), .val (.int p3), .val (.long q4), .second, .val (.long tk), .second, .val (.int (Int32.ofNat n)), .val (.int (0 : Int32)), .val (.ref b172), .val (.ref b176), .val (.ref b182), .val (.ref b172), .val (.ref b193), .val (.long (q4 + ((0 : Int64) / (2 : Int64)))), .second, .val (.long (q4 + (0 : Int64))), .second, .val (.long (9223372036854775807 : Int64)), .second, .val (.long (0 : Int64)), .second, .val (.long (q4 + ((0 : Int64) / (2 : Int64)))), .second, .unset, .unset, .unset, .unset] [(.long ((q4 + ((0 : Int64) / (2 : Int64))) - q4))])) _
        refine XS.lstore X217.here hx rfl (hb hby at_226) rfl (l' := #[.val (.long q1), .second, .val (.int p2), .val (.int p3), .val (.long q4), .second, .val (.long tk), .second, .val (.int (Int32.ofNat n)), .val (.int (0 : Int32)), .val (.ref b172), .val (.ref b176), .val (.ref b182), .val (.ref b172), .val (.ref b193), .val (.long (q4 + ((0 : Int64) / (2 : Int64)))), .second, .val (.long (q4 + (0 : Int64))), .second, .val (.long (9223372036854775807 : Int64)), .second, .val (.long (0 : Int64)), .second, .val (.long (q4 + ((0 : Int64) / (2 : Int64)))), .second, .val (.long ((q4 + ((0 : Int64) / (2 : Int64))) - q4)), .second, .unset, .unset]) rfl ?_
        show Steps p.tables e below (T217.setTop (mkF m 228 #[.val (.long q1), .second, .val (.int p2), .val (.int p3), .val (.long q4), .second, .val (.long tk), .second, .val (.int (Int32.ofNat n)), .val (.int (0 : Int32)), .val (.ref b172), .val (.ref b176), .val (.ref b182), .val (.ref b172), .val (.ref b193), .val (.long (q4 + ((0 : Int64) / (2 : Int64)))), .second, .val (.long (q4 + (0 : Int64))), .second, .val (.long (9223372036854775807 : Int64)), .second, .val (.long (0 : Int64)), .second, .val (.long (q4 + ((0 : Int64) / (2 : Int64)))), .second, .val (.long ((q4 + ((0 : Int64) / (2 : Int64))) - q4)), .second, .unset, .unset] [])) _
        refine XS.lload X217.here hx rfl (hb hby at_228) rfl ?_
        show Steps p.tables e below (T217.setTop (mkF m 230 #[.val (.long q1), .second, .val (.int p2), .val (.int p3), .val (.long q4), .second, .val (.long tk), .second, .val (.int (Int32.ofNat n)), .val (.int (0 : Int32)), .val (.ref b172), .val (.ref b176), .val (.ref b182), .val (.ref b172), .val (.ref b193), .val (.long (q4 + ((0 : Int64) / (2 : Int64)))), .second, .val (.long (q4 + (0 : Int64))), .second, .val (.long (9223372036854775807 : Int64)), .second, .val (.long (0 : Int64)), .second, .val (.long (q4 + ((0 : Int64) / (2 : Int64)))), .second, .val (.long ((q4 + ((0 : Int64) / (2 : Int64))) - q4)), .second, .unset, .unset] [(.long (q4 + (0 : Int64)))])) _
        refine XS.lload X217.here hx rfl (hb hby at_230) rfl ?_
        show Steps p.tables e below (T217.setTop (mkF m 232 #[.val (.long q1), .second, .val (.int p2), .val (.int p3), .val (.long q4), .second, .val (.long tk), .second, .val (.int (Int32.ofNat n)), .val (.int (0 : Int32)), .val (.ref b172), .val (.ref b176), .val (.ref b182), .val (.ref b172), .val (.ref b193), .val (.long (q4 + ((0 : Int64) / (2 : Int64)))), .second, .val (.long (q4 + (0 : Int64))), .second, .val (.long (9223372036854775807 : Int64)), .second, .val (.long (0 : Int64)), .second, .val (.long (q4 + ((0 : Int64) / (2 : Int64)))), .second, .val (.long ((q4 + ((0 : Int64) / (2 : Int64))) - q4)), .second, .unset, .unset] [(.long q4), (.long (q4 + (0 : Int64)))])) _
        refine XS.lsub X217.here hx rfl (hb hby at_232) rfl ?_
        show Steps p.tables e below (T217.setTop (mkF m 233 #[.val (.long q1), .second, .val (.int p2), .val (.int p3), .val (.long q4), .second, .val (.long tk), .second, .val (.int (Int32.ofNat n)), .val (.int (0 : Int32)), .val (.ref b172), .val (.ref b176), .val (.ref b182), .val (.ref b172), .val (.ref b193), .val (.long (q4 + ((0 : Int64) / (2 : Int64)))), .second, .val (.long (q4 + (0 : Int64))), .second, .val (.long (9223372036854775807 : Int64)), .second, .val (.long (0 : Int64)), .second, .val (.long (q4 + ((0 : Int64) / (2 : Int64)))), .second, .val (.long ((q4 + ((0 : Int64) / (2 : Int64))) - q4)), .second, .unset, .unset] [(.long ((q4 + (0 : Int64)) - q4))])) _
        refine XS.lstore X217.here hx rfl (hb hby at_233) rfl (l' := #[.val (.long q1), .second, .val (.int p2), .val (.int p3), .val (.long q4), .second, .val (.long tk), .second, .val (.int (Int32.ofNat n)), .val (.int (0 : Int32)), .val (.ref b172), .val (.ref b176), .val (.ref b182), .val (.ref b172), .val (.ref b193), .val (.long (q4 + ((0 : Int64) / (2 : Int64)))), .second, .val (.long (q4 + (0 : Int64))), .second, .val (.long (9223372036854775807 : Int64)), .second, .val (.long (0 : Int64)), .second, .val (.long (q4 + ((0 : Int64) / (2 : Int64)))), .second, .val (.long ((q4 + ((0 : Int64) / (2 : Int64))) - q4)), .second, .val (.long ((q4 + (0 : Int64)) - q4)), .second]) rfl ?_
        show Steps p.tables e below (T217.setTop (mkF m 235 #[.val (.long q1), .second, .val (.int p2), .val (.int p3), .val (.long q4), .second, .val (.long tk), .second, .val (.int (Int32.ofNat n)), .val (.int (0 : Int32)), .val (.ref b172), .val (.ref b176), .val (.ref b182), .val (.ref b172), .val (.ref b193), .val (.long (q4 + ((0 : Int64) / (2 : Int64)))), .second, .val (.long (q4 + (0 : Int64))), .second, .val (.long (9223372036854775807 : Int64)), .second, .val (.long (0 : Int64)), .second, .val (.long (q4 + ((0 : Int64) / (2 : Int64)))), .second, .val (.long ((q4 + ((0 : Int64) / (2 : Int64))) - q4)), .second, .val (.long ((q4 + (0 : Int64)) - q4)), .second] [])) _
        refine XS.lload X217.here hx rfl (hb hby at_235) rfl ?_
        show Steps p.tables e below (T217.setTop (mkF m 237 #[.val (.long q1), .second, .val (.int p2), .val (.int p3), .val (.long q4), .second, .val (.long tk), .second, .val (.int (Int32.ofNat n)), .val (.int (0 : Int32)), .val (.ref b172), .val (.ref b176), .val (.ref b182), .val (.ref b172), .val (.ref b193), .val (.long (q4 + ((0 : Int64) / (2 : Int64)))), .second, .val (.long (q4 + (0 : Int64))), .second, .val (.long (9223372036854775807 : Int64)), .second, .val (.long (0 : Int64)), .second, .val (.long (q4 + ((0 : Int64) / (2 : Int64)))), .second, .val (.long ((q4 + ((0 : Int64) / (2 : Int64))) - q4)), .second, .val (.long ((q4 + (0 : Int64)) - q4)), .second] [(.long ((q4 + ((0 : Int64) / (2 : Int64))) - q4))])) _
        refine XS.lconst X217.here hx rfl (hb hby at_237) ?_
        show Steps p.tables e below (T217.setTop (mkF m 238 #[.val (.long q1), .second, .val (.int p2), .val (.int p3), .val (.long q4), .second, .val (.long tk), .second, .val (.int (Int32.ofNat n)), .val (.int (0 : Int32)), .val (.ref b172), .val (.ref b176), .val (.ref b182), .val (.ref b172), .val (.ref b193), .val (.long (q4 + ((0 : Int64) / (2 : Int64)))), .second, .val (.long (q4 + (0 : Int64))), .second, .val (.long (9223372036854775807 : Int64)), .second, .val (.long (0 : Int64)), .second, .val (.long (q4 + ((0 : Int64) / (2 : Int64)))), .second, .val (.long ((q4 + ((0 : Int64) / (2 : Int64))) - q4)), .second, .val (.long ((q4 + (0 : Int64)) - q4)), .second] [(.long (0 : Int64)), (.long ((q4 + ((0 : Int64) / (2 : Int64))) - q4))])) _
        refine XS.lcmp X217.here hx rfl (hb hby at_238) rfl ?_
        exact kq)
      have go230 : Goes p e below s₁ (G_rm0 m q1 p2 p3 q4) T217 (mkF m 251 #[.val (.long q1), .second, .val (.int p2), .val (.int p3), .val (.long q4), .second, .val (.long tk), .second, .val (.int (Int32.ofNat n)), .val (.int (0 : Int32)), .val (.ref b172), .val (.ref b176), .val (.ref b182), .val (.ref b172), .val (.ref b193), .val (.long (q4 + ((0 : Int64) / (2 : Int64)))), .second, .val (.long (q4 + (0 : Int64))), .second, .val (.long (9223372036854775807 : Int64)), .second, .val (.long (0 : Int64)), .second, .val (.long (q4 + ((0 : Int64) / (2 : Int64)))), .second, .val (.long ((q4 + ((0 : Int64) / (2 : Int64))) - q4)), .second, .val (.long ((q4 + (0 : Int64)) - q4)), .second] [(.int (lcmpW ((2 : Int64) * ((q4 + ((0 : Int64) / (2 : Int64))) - q4)) ((q4 + (0 : Int64)) - q4)))]) := fun tq kq => go229 tq (by
        show Steps p.tables e below (T217.setTop (mkF m 239 #[.val (.long q1), .second, .val (.int p2), .val (.int p3), .val (.long q4), .second, .val (.long tk), .second, .val (.int (Int32.ofNat n)), .val (.int (0 : Int32)), .val (.ref b172), .val (.ref b176), .val (.ref b182), .val (.ref b172), .val (.ref b193), .val (.long (q4 + ((0 : Int64) / (2 : Int64)))), .second, .val (.long (q4 + (0 : Int64))), .second, .val (.long (9223372036854775807 : Int64)), .second, .val (.long (0 : Int64)), .second, .val (.long (q4 + ((0 : Int64) / (2 : Int64)))), .second, .val (.long ((q4 + ((0 : Int64) / (2 : Int64))) - q4)), .second, .val (.long ((q4 + (0 : Int64)) - q4)), .second] [(.int (lcmpW ((q4 + ((0 : Int64) / (2 : Int64))) - q4) (0 : Int64)))])) _
        refine XS.ifNo X217.here hx rfl (hb hby at_239) rfl ((if0 _ _).trans (flt (own_lcge (own_m1 q4 hmt))).1) ?_
        show Steps p.tables e below (T217.setTop (mkF m 242 #[.val (.long q1), .second, .val (.int p2), .val (.int p3), .val (.long q4), .second, .val (.long tk), .second, .val (.int (Int32.ofNat n)), .val (.int (0 : Int32)), .val (.ref b172), .val (.ref b176), .val (.ref b182), .val (.ref b172), .val (.ref b193), .val (.long (q4 + ((0 : Int64) / (2 : Int64)))), .second, .val (.long (q4 + (0 : Int64))), .second, .val (.long (9223372036854775807 : Int64)), .second, .val (.long (0 : Int64)), .second, .val (.long (q4 + ((0 : Int64) / (2 : Int64)))), .second, .val (.long ((q4 + ((0 : Int64) / (2 : Int64))) - q4)), .second, .val (.long ((q4 + (0 : Int64)) - q4)), .second] [])) _
        refine X217.ldc2Long hx hown (mvT hZ (tw113 hw)) (g := (mkF m 242 #[.val (.long q1), .second, .val (.int p2), .val (.int p3), .val (.long q4), .second, .val (.long tk), .second, .val (.int (Int32.ofNat n)), .val (.int (0 : Int32)), .val (.ref b172), .val (.ref b176), .val (.ref b182), .val (.ref b172), .val (.ref b193), .val (.long (q4 + ((0 : Int64) / (2 : Int64)))), .second, .val (.long (q4 + (0 : Int64))), .second, .val (.long (9223372036854775807 : Int64)), .second, .val (.long (0 : Int64)), .second, .val (.long (q4 + ((0 : Int64) / (2 : Int64)))), .second, .val (.long ((q4 + ((0 : Int64) / (2 : Int64))) - q4)), .second, .val (.long ((q4 + (0 : Int64)) - q4)), .second] [])) rfl (hb hby at_242) _ ?_
        show Steps p.tables e below (T217.setTop (mkF m 245 #[.val (.long q1), .second, .val (.int p2), .val (.int p3), .val (.long q4), .second, .val (.long tk), .second, .val (.int (Int32.ofNat n)), .val (.int (0 : Int32)), .val (.ref b172), .val (.ref b176), .val (.ref b182), .val (.ref b172), .val (.ref b193), .val (.long (q4 + ((0 : Int64) / (2 : Int64)))), .second, .val (.long (q4 + (0 : Int64))), .second, .val (.long (9223372036854775807 : Int64)), .second, .val (.long (0 : Int64)), .second, .val (.long (q4 + ((0 : Int64) / (2 : Int64)))), .second, .val (.long ((q4 + ((0 : Int64) / (2 : Int64))) - q4)), .second, .val (.long ((q4 + (0 : Int64)) - q4)), .second] [(.long (2 : Int64))])) _
        refine XS.lload X217.here hx rfl (hb hby at_245) rfl ?_
        show Steps p.tables e below (T217.setTop (mkF m 247 #[.val (.long q1), .second, .val (.int p2), .val (.int p3), .val (.long q4), .second, .val (.long tk), .second, .val (.int (Int32.ofNat n)), .val (.int (0 : Int32)), .val (.ref b172), .val (.ref b176), .val (.ref b182), .val (.ref b172), .val (.ref b193), .val (.long (q4 + ((0 : Int64) / (2 : Int64)))), .second, .val (.long (q4 + (0 : Int64))), .second, .val (.long (9223372036854775807 : Int64)), .second, .val (.long (0 : Int64)), .second, .val (.long (q4 + ((0 : Int64) / (2 : Int64)))), .second, .val (.long ((q4 + ((0 : Int64) / (2 : Int64))) - q4)), .second, .val (.long ((q4 + (0 : Int64)) - q4)), .second] [(.long ((q4 + ((0 : Int64) / (2 : Int64))) - q4)), (.long (2 : Int64))])) _
        refine XS.lmul X217.here hx rfl (hb hby at_247) rfl ?_
        show Steps p.tables e below (T217.setTop (mkF m 248 #[.val (.long q1), .second, .val (.int p2), .val (.int p3), .val (.long q4), .second, .val (.long tk), .second, .val (.int (Int32.ofNat n)), .val (.int (0 : Int32)), .val (.ref b172), .val (.ref b176), .val (.ref b182), .val (.ref b172), .val (.ref b193), .val (.long (q4 + ((0 : Int64) / (2 : Int64)))), .second, .val (.long (q4 + (0 : Int64))), .second, .val (.long (9223372036854775807 : Int64)), .second, .val (.long (0 : Int64)), .second, .val (.long (q4 + ((0 : Int64) / (2 : Int64)))), .second, .val (.long ((q4 + ((0 : Int64) / (2 : Int64))) - q4)), .second, .val (.long ((q4 + (0 : Int64)) - q4)), .second] [(.long ((2 : Int64) * ((q4 + ((0 : Int64) / (2 : Int64))) - q4)))])) _
        refine XS.lload X217.here hx rfl (hb hby at_248) rfl ?_
        show Steps p.tables e below (T217.setTop (mkF m 250 #[.val (.long q1), .second, .val (.int p2), .val (.int p3), .val (.long q4), .second, .val (.long tk), .second, .val (.int (Int32.ofNat n)), .val (.int (0 : Int32)), .val (.ref b172), .val (.ref b176), .val (.ref b182), .val (.ref b172), .val (.ref b193), .val (.long (q4 + ((0 : Int64) / (2 : Int64)))), .second, .val (.long (q4 + (0 : Int64))), .second, .val (.long (9223372036854775807 : Int64)), .second, .val (.long (0 : Int64)), .second, .val (.long (q4 + ((0 : Int64) / (2 : Int64)))), .second, .val (.long ((q4 + ((0 : Int64) / (2 : Int64))) - q4)), .second, .val (.long ((q4 + (0 : Int64)) - q4)), .second] [(.long ((q4 + (0 : Int64)) - q4)), (.long ((2 : Int64) * ((q4 + ((0 : Int64) / (2 : Int64))) - q4)))])) _
        refine XS.lcmp X217.here hx rfl (hb hby at_250) rfl ?_
        exact kq)
      have go231 : Goes p e below s₁ (G_rm0 m q1 p2 p3 q4) T217 (mkF m 265 #[.val (.long q1), .second, .val (.int p2), .val (.int p3), .val (.long q4), .second, .val (.long tk), .second, .val (.int (Int32.ofNat n)), .val (.int (0 : Int32)), .val (.ref b172), .val (.ref b176), .val (.ref b182), .val (.ref b172), .val (.ref b193), .val (.long (q4 + ((0 : Int64) / (2 : Int64)))), .second, .val (.long (q4 + (0 : Int64))), .second, .val (.long (9223372036854775807 : Int64)), .second, .val (.long (0 : Int64)), .second, .val (.long (q4 + ((0 : Int64) / (2 : Int64)))), .second, .val (.long ((q4 + ((0 : Int64) / (2 : Int64))) - q4)), .second, .val (.long ((q4 + (0 : Int64)) - q4)), .second] [(.int (lcmpW (((q4 + (0 : Int64)) - q4) - ((2 : Int64) * ((q4 + ((0 : Int64) / (2 : Int64))) - q4))) (1 : Int64)))]) := fun tq kq => go230 tq (by
        show Steps p.tables e below (T217.setTop (mkF m 251 #[.val (.long q1), .second, .val (.int p2), .val (.int p3), .val (.long q4), .second, .val (.long tk), .second, .val (.int (Int32.ofNat n)), .val (.int (0 : Int32)), .val (.ref b172), .val (.ref b176), .val (.ref b182), .val (.ref b172), .val (.ref b193), .val (.long (q4 + ((0 : Int64) / (2 : Int64)))), .second, .val (.long (q4 + (0 : Int64))), .second, .val (.long (9223372036854775807 : Int64)), .second, .val (.long (0 : Int64)), .second, .val (.long (q4 + ((0 : Int64) / (2 : Int64)))), .second, .val (.long ((q4 + ((0 : Int64) / (2 : Int64))) - q4)), .second, .val (.long ((q4 + (0 : Int64)) - q4)), .second] [(.int (lcmpW ((2 : Int64) * ((q4 + ((0 : Int64) / (2 : Int64))) - q4)) ((q4 + (0 : Int64)) - q4)))])) _
        refine XS.ifNo X217.here hx rfl (hb hby at_251) rfl ((if0 _ _).trans (flt (own_lcle (own_m2 q4 hmt))).2.2.1) ?_
        show Steps p.tables e below (T217.setTop (mkF m 254 #[.val (.long q1), .second, .val (.int p2), .val (.int p3), .val (.long q4), .second, .val (.long tk), .second, .val (.int (Int32.ofNat n)), .val (.int (0 : Int32)), .val (.ref b172), .val (.ref b176), .val (.ref b182), .val (.ref b172), .val (.ref b193), .val (.long (q4 + ((0 : Int64) / (2 : Int64)))), .second, .val (.long (q4 + (0 : Int64))), .second, .val (.long (9223372036854775807 : Int64)), .second, .val (.long (0 : Int64)), .second, .val (.long (q4 + ((0 : Int64) / (2 : Int64)))), .second, .val (.long ((q4 + ((0 : Int64) / (2 : Int64))) - q4)), .second, .val (.long ((q4 + (0 : Int64)) - q4)), .second] [])) _
        refine XS.lload X217.here hx rfl (hb hby at_254) rfl ?_
        show Steps p.tables e below (T217.setTop (mkF m 256 #[.val (.long q1), .second, .val (.int p2), .val (.int p3), .val (.long q4), .second, .val (.long tk), .second, .val (.int (Int32.ofNat n)), .val (.int (0 : Int32)), .val (.ref b172), .val (.ref b176), .val (.ref b182), .val (.ref b172), .val (.ref b193), .val (.long (q4 + ((0 : Int64) / (2 : Int64)))), .second, .val (.long (q4 + (0 : Int64))), .second, .val (.long (9223372036854775807 : Int64)), .second, .val (.long (0 : Int64)), .second, .val (.long (q4 + ((0 : Int64) / (2 : Int64)))), .second, .val (.long ((q4 + ((0 : Int64) / (2 : Int64))) - q4)), .second, .val (.long ((q4 + (0 : Int64)) - q4)), .second] [(.long ((q4 + (0 : Int64)) - q4))])) _
        refine X217.ldc2Long hx hown (mvT hZ (tw113 hw)) (g := (mkF m 256 #[.val (.long q1), .second, .val (.int p2), .val (.int p3), .val (.long q4), .second, .val (.long tk), .second, .val (.int (Int32.ofNat n)), .val (.int (0 : Int32)), .val (.ref b172), .val (.ref b176), .val (.ref b182), .val (.ref b172), .val (.ref b193), .val (.long (q4 + ((0 : Int64) / (2 : Int64)))), .second, .val (.long (q4 + (0 : Int64))), .second, .val (.long (9223372036854775807 : Int64)), .second, .val (.long (0 : Int64)), .second, .val (.long (q4 + ((0 : Int64) / (2 : Int64)))), .second, .val (.long ((q4 + ((0 : Int64) / (2 : Int64))) - q4)), .second, .val (.long ((q4 + (0 : Int64)) - q4)), .second] [(.long ((q4 + (0 : Int64)) - q4))])) rfl (hb hby at_256) _ ?_
        show Steps p.tables e below (T217.setTop (mkF m 259 #[.val (.long q1), .second, .val (.int p2), .val (.int p3), .val (.long q4), .second, .val (.long tk), .second, .val (.int (Int32.ofNat n)), .val (.int (0 : Int32)), .val (.ref b172), .val (.ref b176), .val (.ref b182), .val (.ref b172), .val (.ref b193), .val (.long (q4 + ((0 : Int64) / (2 : Int64)))), .second, .val (.long (q4 + (0 : Int64))), .second, .val (.long (9223372036854775807 : Int64)), .second, .val (.long (0 : Int64)), .second, .val (.long (q4 + ((0 : Int64) / (2 : Int64)))), .second, .val (.long ((q4 + ((0 : Int64) / (2 : Int64))) - q4)), .second, .val (.long ((q4 + (0 : Int64)) - q4)), .second] [(.long (2 : Int64)), (.long ((q4 + (0 : Int64)) - q4))])) _
        refine XS.lload X217.here hx rfl (hb hby at_259) rfl ?_
        show Steps p.tables e below (T217.setTop (mkF m 261 #[.val (.long q1), .second, .val (.int p2), .val (.int p3), .val (.long q4), .second, .val (.long tk), .second, .val (.int (Int32.ofNat n)), .val (.int (0 : Int32)), .val (.ref b172), .val (.ref b176), .val (.ref b182), .val (.ref b172), .val (.ref b193), .val (.long (q4 + ((0 : Int64) / (2 : Int64)))), .second, .val (.long (q4 + (0 : Int64))), .second, .val (.long (9223372036854775807 : Int64)), .second, .val (.long (0 : Int64)), .second, .val (.long (q4 + ((0 : Int64) / (2 : Int64)))), .second, .val (.long ((q4 + ((0 : Int64) / (2 : Int64))) - q4)), .second, .val (.long ((q4 + (0 : Int64)) - q4)), .second] [(.long ((q4 + ((0 : Int64) / (2 : Int64))) - q4)), (.long (2 : Int64)), (.long ((q4 + (0 : Int64)) - q4))])) _
        refine XS.lmul X217.here hx rfl (hb hby at_261) rfl ?_
        show Steps p.tables e below (T217.setTop (mkF m 262 #[.val (.long q1), .second, .val (.int p2), .val (.int p3), .val (.long q4), .second, .val (.long tk), .second, .val (.int (Int32.ofNat n)), .val (.int (0 : Int32)), .val (.ref b172), .val (.ref b176), .val (.ref b182), .val (.ref b172), .val (.ref b193), .val (.long (q4 + ((0 : Int64) / (2 : Int64)))), .second, .val (.long (q4 + (0 : Int64))), .second, .val (.long (9223372036854775807 : Int64)), .second, .val (.long (0 : Int64)), .second, .val (.long (q4 + ((0 : Int64) / (2 : Int64)))), .second, .val (.long ((q4 + ((0 : Int64) / (2 : Int64))) - q4)), .second, .val (.long ((q4 + (0 : Int64)) - q4)), .second] [(.long ((2 : Int64) * ((q4 + ((0 : Int64) / (2 : Int64))) - q4))), (.long ((q4 + (0 : Int64)) - q4))])) _
        refine XS.lsub X217.here hx rfl (hb hby at_262) rfl ?_
        show Steps p.tables e below (T217.setTop (mkF m 263 #[.val (.long q1), .second, .val (.int p2), .val (.int p3), .val (.long q4), .second, .val (.long tk), .second, .val (.int (Int32.ofNat n)), .val (.int (0 : Int32)), .val (.ref b172), .val (.ref b176), .val (.ref b182), .val (.ref b172), .val (.ref b193), .val (.long (q4 + ((0 : Int64) / (2 : Int64)))), .second, .val (.long (q4 + (0 : Int64))), .second, .val (.long (9223372036854775807 : Int64)), .second, .val (.long (0 : Int64)), .second, .val (.long (q4 + ((0 : Int64) / (2 : Int64)))), .second, .val (.long ((q4 + ((0 : Int64) / (2 : Int64))) - q4)), .second, .val (.long ((q4 + (0 : Int64)) - q4)), .second] [(.long (((q4 + (0 : Int64)) - q4) - ((2 : Int64) * ((q4 + ((0 : Int64) / (2 : Int64))) - q4))))])) _
        refine XS.lconst X217.here hx rfl (hb hby at_263) ?_
        show Steps p.tables e below (T217.setTop (mkF m 264 #[.val (.long q1), .second, .val (.int p2), .val (.int p3), .val (.long q4), .second, .val (.long tk), .second, .val (.int (Int32.ofNat n)), .val (.int (0 : Int32)), .val (.ref b172), .val (.ref b176), .val (.ref b182), .val (.ref b172), .val (.ref b193), .val (.long (q4 + ((0 : Int64) / (2 : Int64)))), .second, .val (.long (q4 + (0 : Int64))), .second, .val (.long (9223372036854775807 : Int64)), .second, .val (.long (0 : Int64)), .second, .val (.long (q4 + ((0 : Int64) / (2 : Int64)))), .second, .val (.long ((q4 + ((0 : Int64) / (2 : Int64))) - q4)), .second, .val (.long ((q4 + (0 : Int64)) - q4)), .second] [(.long (1 : Int64)), (.long (((q4 + (0 : Int64)) - q4) - ((2 : Int64) * ((q4 + ((0 : Int64) / (2 : Int64))) - q4))))])) _
        refine XS.lcmp X217.here hx rfl (hb hby at_264) rfl ?_
        exact kq)
      have go232 : Goes p e below s₁ (G_rm0 m q1 p2 p3 q4) T217 (mkF m 273 #[.val (.long q1), .second, .val (.int p2), .val (.int p3), .val (.long q4), .second, .val (.long tk), .second, .val (.int (Int32.ofNat n)), .val (.int (0 : Int32)), .val (.ref b172), .val (.ref b176), .val (.ref b182), .val (.ref b172), .val (.ref b193), .val (.long (q4 + ((0 : Int64) / (2 : Int64)))), .second, .val (.long (q4 + (0 : Int64))), .second, .val (.long (9223372036854775807 : Int64)), .second, .val (.long (0 : Int64)), .second, .val (.long (q4 + ((0 : Int64) / (2 : Int64)))), .second, .val (.long ((q4 + ((0 : Int64) / (2 : Int64))) - q4)), .second, .val (.long ((q4 + (0 : Int64)) - q4)), .second] [(.int (1 : Int32))]) := fun tq kq => go231 tq (by
        show Steps p.tables e below (T217.setTop (mkF m 265 #[.val (.long q1), .second, .val (.int p2), .val (.int p3), .val (.long q4), .second, .val (.long tk), .second, .val (.int (Int32.ofNat n)), .val (.int (0 : Int32)), .val (.ref b172), .val (.ref b176), .val (.ref b182), .val (.ref b172), .val (.ref b193), .val (.long (q4 + ((0 : Int64) / (2 : Int64)))), .second, .val (.long (q4 + (0 : Int64))), .second, .val (.long (9223372036854775807 : Int64)), .second, .val (.long (0 : Int64)), .second, .val (.long (q4 + ((0 : Int64) / (2 : Int64)))), .second, .val (.long ((q4 + ((0 : Int64) / (2 : Int64))) - q4)), .second, .val (.long ((q4 + (0 : Int64)) - q4)), .second] [(.int (lcmpW (((q4 + (0 : Int64)) - q4) - ((2 : Int64) * ((q4 + ((0 : Int64) / (2 : Int64))) - q4))) (1 : Int64)))])) _
        refine XS.ifNo X217.here hx rfl (hb hby at_265) rfl ((if0 _ _).trans (flt (own_lcle (own_m3 q4 hmt))).2.2.1) ?_
        show Steps p.tables e below (T217.setTop (mkF m 268 #[.val (.long q1), .second, .val (.int p2), .val (.int p3), .val (.long q4), .second, .val (.long tk), .second, .val (.int (Int32.ofNat n)), .val (.int (0 : Int32)), .val (.ref b172), .val (.ref b176), .val (.ref b182), .val (.ref b172), .val (.ref b193), .val (.long (q4 + ((0 : Int64) / (2 : Int64)))), .second, .val (.long (q4 + (0 : Int64))), .second, .val (.long (9223372036854775807 : Int64)), .second, .val (.long (0 : Int64)), .second, .val (.long (q4 + ((0 : Int64) / (2 : Int64)))), .second, .val (.long ((q4 + ((0 : Int64) / (2 : Int64))) - q4)), .second, .val (.long ((q4 + (0 : Int64)) - q4)), .second] [])) _
        refine XS.iconst X217.here hx rfl (hb hby at_268) ?_
        show Steps p.tables e below (T217.setTop (mkF m 269 #[.val (.long q1), .second, .val (.int p2), .val (.int p3), .val (.long q4), .second, .val (.long tk), .second, .val (.int (Int32.ofNat n)), .val (.int (0 : Int32)), .val (.ref b172), .val (.ref b176), .val (.ref b182), .val (.ref b172), .val (.ref b193), .val (.long (q4 + ((0 : Int64) / (2 : Int64)))), .second, .val (.long (q4 + (0 : Int64))), .second, .val (.long (9223372036854775807 : Int64)), .second, .val (.long (0 : Int64)), .second, .val (.long (q4 + ((0 : Int64) / (2 : Int64)))), .second, .val (.long ((q4 + ((0 : Int64) / (2 : Int64))) - q4)), .second, .val (.long ((q4 + (0 : Int64)) - q4)), .second] [(.int (1 : Int32))])) _
        refine XS.goto X217.here hx rfl (pc0 := 269) (pc' := 273) rfl (hb hby at_269) (by decide) (by decide) ?_
        exact kq)
      obtain ⟨fs, hr, hrun, hended, hW, hsame⟩ := X217.leave (v := some (.int (1 : Int32))) (fun h => by rw [Bd.returns] at h; cases h)
      refine ⟨_, _, go232 _ ?_, hrun, hended, _, _, rfl, ?_, ReturnedEndW.of_narrow ⟨_, rfl⟩ hW (hsame.mono (by decide) (by decide))⟩
      · exact retN X217 hx (t := .boolean) Bd.returns (by simp) (hb hby at_273) hr
      · show Q_rm0 Z q1 p2 p3 q4 h0 n0 _ T217.heap _
        rw [eq217]
        exact ⟨rfl, N217⟩
    · have go219 : Goes p e below s₁ (G_rm0 m q1 p2 p3 q4) T217 (mkF m 169 #[.val (.long q1), .second, .val (.int p2), .val (.int p3), .val (.long q4), .second, .val (.long tk), .second, .val (.int (Int32.ofNat n)), .val (.int (0 : Int32)), .val (.ref b172), .val (.ref b176), .val (.ref b182), .val (.ref b172), .val (.ref b193), .val (.long (q4 + ((0 : Int64) / (2 : Int64)))), .second, .val (.long (q4 + (0 : Int64))), .second, .val (.long (tk * ((Int32.ofNat n).toInt64))), .second, .unset, .unset, .unset, .unset, .unset, .unset, .unset, .unset] []) := fun tq kq => go218 tq (by
        show Steps p.tables e below (T217.setTop (mkF m 152 #[.val (.long q1), .second, .val (.int p2), .val (.int p3), .val (.long q4), .second, .val (.long tk), .second, .val (.int (Int32.ofNat n)), .val (.int (0 : Int32)), .val (.ref b172), .val (.ref b176), .val (.ref b182), .val (.ref b172), .val (.ref b193), .val (.long (q4 + ((0 : Int64) / (2 : Int64)))), .second, .val (.long (q4 + (0 : Int64))), .second, .unset, .unset, .unset, .unset, .unset, .unset, .unset, .unset, .unset, .unset] [(.int (lcmpW tk ((9223372036854775807 : Int64) / ((Int32.ofNat n).toInt64))))])) _
        refine XS.ifYes X217.here hx rfl (pc0 := 152) (pc' := 161) rfl (hb hby at_152) rfl ((if0 _ _).trans (flt (own_lcle hsp)).2.2.2) (by decide) (by decide) ?_
        show Steps p.tables e below (T217.setTop (mkF m 161 #[.val (.long q1), .second, .val (.int p2), .val (.int p3), .val (.long q4), .second, .val (.long tk), .second, .val (.int (Int32.ofNat n)), .val (.int (0 : Int32)), .val (.ref b172), .val (.ref b176), .val (.ref b182), .val (.ref b172), .val (.ref b193), .val (.long (q4 + ((0 : Int64) / (2 : Int64)))), .second, .val (.long (q4 + (0 : Int64))), .second, .unset, .unset, .unset, .unset, .unset, .unset, .unset, .unset, .unset, .unset] [])) _
        refine XS.lload X217.here hx rfl (hb hby at_161) rfl ?_
        show Steps p.tables e below (T217.setTop (mkF m 163 #[.val (.long q1), .second, .val (.int p2), .val (.int p3), .val (.long q4), .second, .val (.long tk), .second, .val (.int (Int32.ofNat n)), .val (.int (0 : Int32)), .val (.ref b172), .val (.ref b176), .val (.ref b182), .val (.ref b172), .val (.ref b193), .val (.long (q4 + ((0 : Int64) / (2 : Int64)))), .second, .val (.long (q4 + (0 : Int64))), .second, .unset, .unset, .unset, .unset, .unset, .unset, .unset, .unset, .unset, .unset] [(.long tk)])) _
        refine XS.iload X217.here hx rfl (hb hby at_163) rfl ?_
        show Steps p.tables e below (T217.setTop (mkF m 165 #[.val (.long q1), .second, .val (.int p2), .val (.int p3), .val (.long q4), .second, .val (.long tk), .second, .val (.int (Int32.ofNat n)), .val (.int (0 : Int32)), .val (.ref b172), .val (.ref b176), .val (.ref b182), .val (.ref b172), .val (.ref b193), .val (.long (q4 + ((0 : Int64) / (2 : Int64)))), .second, .val (.long (q4 + (0 : Int64))), .second, .unset, .unset, .unset, .unset, .unset, .unset, .unset, .unset, .unset, .unset] [(.int (Int32.ofNat n)), (.long tk)])) _
        refine XS.i2l X217.here hx rfl (hb hby at_165) rfl ?_
        show Steps p.tables e below (T217.setTop (mkF m 166 #[.val (.long q1), .second, .val (.int p2), .val (.int p3), .val (.long q4), .second, .val (.long tk), .second, .val (.int (Int32.ofNat n)), .val (.int (0 : Int32)), .val (.ref b172), .val (.ref b176), .val (.ref b182), .val (.ref b172), .val (.ref b193), .val (.long (q4 + ((0 : Int64) / (2 : Int64)))), .second, .val (.long (q4 + (0 : Int64))), .second, .unset, .unset, .unset, .unset, .unset, .unset, .unset, .unset, .unset, .unset] [(.long ((Int32.ofNat n).toInt64)), (.long tk)])) _
        refine XS.lmul X217.here hx rfl (hb hby at_166) rfl ?_
        show Steps p.tables e below (T217.setTop (mkF m 167 #[.val (.long q1), .second, .val (.int p2), .val (.int p3), .val (.long q4), .second, .val (.long tk), .second, .val (.int (Int32.ofNat n)), .val (.int (0 : Int32)), .val (.ref b172), .val (.ref b176), .val (.ref b182), .val (.ref b172), .val (.ref b193), .val (.long (q4 + ((0 : Int64) / (2 : Int64)))), .second, .val (.long (q4 + (0 : Int64))), .second, .unset, .unset, .unset, .unset, .unset, .unset, .unset, .unset, .unset, .unset] [(.long (tk * ((Int32.ofNat n).toInt64)))])) _
        refine XS.lstore X217.here hx rfl (hb hby at_167) rfl (l' := #[.val (.long q1), .second, .val (.int p2), .val (.int p3), .val (.long q4), .second, .val (.long tk), .second, .val (.int (Int32.ofNat n)), .val (.int (0 : Int32)), .val (.ref b172), .val (.ref b176), .val (.ref b182), .val (.ref b172), .val (.ref b193), .val (.long (q4 + ((0 : Int64) / (2 : Int64)))), .second, .val (.long (q4 + (0 : Int64))), .second, .val (.long (tk * ((Int32.ofNat n).toInt64))), .second, .unset, .unset, .unset, .unset, .unset, .unset, .unset, .unset]) rfl ?_
        exact kq)
      have hS : SP0 = (tk * ((Int32.ofNat n).toInt64)) := hSP0.trans (if_neg hsp)
      have go220 : Goes p e below s₁ (G_rm0 m q1 p2 p3 q4) T217 (mkF m 171 #[.val (.long q1), .second, .val (.int p2), .val (.int p3), .val (.long q4), .second, .val (.long tk), .second, .val (.int (Int32.ofNat n)), .val (.int (0 : Int32)), .val (.ref b172), .val (.ref b176), .val (.ref b182), .val (.ref b172), .val (.ref b193), .val (.long (q4 + ((0 : Int64) / (2 : Int64)))), .second, .val (.long (q4 + (0 : Int64))), .second, .val (.long (tk * ((Int32.ofNat n).toInt64))), .second, .unset, .unset, .unset, .unset, .unset, .unset, .unset, .unset] [(.int (0 : Int32))]) := fun tq kq => go219 tq (by
        show Steps p.tables e below (T217.setTop (mkF m 169 #[.val (.long q1), .second, .val (.int p2), .val (.int p3), .val (.long q4), .second, .val (.long tk), .second, .val (.int (Int32.ofNat n)), .val (.int (0 : Int32)), .val (.ref b172), .val (.ref b176), .val (.ref b182), .val (.ref b172), .val (.ref b193), .val (.long (q4 + ((0 : Int64) / (2 : Int64)))), .second, .val (.long (q4 + (0 : Int64))), .second, .val (.long (tk * ((Int32.ofNat n).toInt64))), .second, .unset, .unset, .unset, .unset, .unset, .unset, .unset, .unset] [])) _
        refine XS.iload X217.here hx rfl (hb hby at_169) rfl ?_
        exact kq)
      have go221 : Goes p e below s₁ (G_rm0 m q1 p2 p3 q4) T217 (mkF m 216 #[.val (.long q1), .second, .val (.int p2), .val (.int p3), .val (.long q4), .second, .val (.long tk), .second, .val (.int (Int32.ofNat n)), .val (.int (0 : Int32)), .val (.ref b172), .val (.ref b176), .val (.ref b182), .val (.ref b172), .val (.ref b193), .val (.long (q4 + ((0 : Int64) / (2 : Int64)))), .second, .val (.long (q4 + (0 : Int64))), .second, .val (.long (tk * ((Int32.ofNat n).toInt64))), .second, .val (.long (0 : Int64)), .second, .val (.long (q4 + ((0 : Int64) / (2 : Int64)))), .second, .unset, .unset, .unset, .unset] [(.int (lcmpW (q4 + ((0 : Int64) / (2 : Int64))) (q4 + ((0 : Int64) / (2 : Int64)))))]) := fun tq kq => go220 tq (by
        show Steps p.tables e below (T217.setTop (mkF m 171 #[.val (.long q1), .second, .val (.int p2), .val (.int p3), .val (.long q4), .second, .val (.long tk), .second, .val (.int (Int32.ofNat n)), .val (.int (0 : Int32)), .val (.ref b172), .val (.ref b176), .val (.ref b182), .val (.ref b172), .val (.ref b193), .val (.long (q4 + ((0 : Int64) / (2 : Int64)))), .second, .val (.long (q4 + (0 : Int64))), .second, .val (.long (tk * ((Int32.ofNat n).toInt64))), .second, .unset, .unset, .unset, .unset, .unset, .unset, .unset, .unset] [(.int (0 : Int32))])) _
        refine XS.ifNo X217.here hx rfl (hb hby at_171) rfl ((if0 _ _).trans (teq (by decide)).2) ?_
        show Steps p.tables e below (T217.setTop (mkF m 174 #[.val (.long q1), .second, .val (.int p2), .val (.int p3), .val (.long q4), .second, .val (.long tk), .second, .val (.int (Int32.ofNat n)), .val (.int (0 : Int32)), .val (.ref b172), .val (.ref b176), .val (.ref b182), .val (.ref b172), .val (.ref b193), .val (.long (q4 + ((0 : Int64) / (2 : Int64)))), .second, .val (.long (q4 + (0 : Int64))), .second, .val (.long (tk * ((Int32.ofNat n).toInt64))), .second, .unset, .unset, .unset, .unset, .unset, .unset, .unset, .unset] [])) _
        refine XS.lconst X217.here hx rfl (hb hby at_174) ?_
        show Steps p.tables e below (T217.setTop (mkF m 175 #[.val (.long q1), .second, .val (.int p2), .val (.int p3), .val (.long q4), .second, .val (.long tk), .second, .val (.int (Int32.ofNat n)), .val (.int (0 : Int32)), .val (.ref b172), .val (.ref b176), .val (.ref b182), .val (.ref b172), .val (.ref b193), .val (.long (q4 + ((0 : Int64) / (2 : Int64)))), .second, .val (.long (q4 + (0 : Int64))), .second, .val (.long (tk * ((Int32.ofNat n).toInt64))), .second, .unset, .unset, .unset, .unset, .unset, .unset, .unset, .unset] [(.long (0 : Int64))])) _
        refine XS.lstore X217.here hx rfl (hb hby at_175) rfl (l' := #[.val (.long q1), .second, .val (.int p2), .val (.int p3), .val (.long q4), .second, .val (.long tk), .second, .val (.int (Int32.ofNat n)), .val (.int (0 : Int32)), .val (.ref b172), .val (.ref b176), .val (.ref b182), .val (.ref b172), .val (.ref b193), .val (.long (q4 + ((0 : Int64) / (2 : Int64)))), .second, .val (.long (q4 + (0 : Int64))), .second, .val (.long (tk * ((Int32.ofNat n).toInt64))), .second, .val (.long (0 : Int64)), .second, .unset, .unset, .unset, .unset, .unset, .unset]) rfl ?_
        show Steps p.tables e below (T217.setTop (mkF m 177 #[.val (.long q1), .second, .val (.int p2), .val (.int p3), .val (.long q4), .second, .val (.long tk), .second, .val (.int (Int32.ofNat n)), .val (.int (0 : Int32)), .val (.ref b172), .val (.ref b176), .val (.ref b182), .val (.ref b172), .val (.ref b193), .val (.long (q4 + ((0 : Int64) / (2 : Int64)))), .second, .val (.long (q4 + (0 : Int64))), .second, .val (.long (tk * ((Int32.ofNat n).toInt64))), .second, .val (.long (0 : Int64)), .second, .unset, .unset, .unset, .unset, .unset, .unset] [])) _
        refine XS.goto X217.here hx rfl (pc0 := 177) (pc' := 200) rfl (hb hby at_177) (by decide) (by decide) ?_
        show Steps p.tables e below (T217.setTop (mkF m 200 #[.val (.long q1), .second, .val (.int p2), .val (.int p3), .val (.long q4), .second, .val (.long tk), .second, .val (.int (Int32.ofNat n)), .val (.int (0 : Int32)), .val (.ref b172), .val (.ref b176), .val (.ref b182), .val (.ref b172), .val (.ref b193), .val (.long (q4 + ((0 : Int64) / (2 : Int64)))), .second, .val (.long (q4 + (0 : Int64))), .second, .val (.long (tk * ((Int32.ofNat n).toInt64))), .second, .val (.long (0 : Int64)), .second, .unset, .unset, .unset, .unset, .unset, .unset] [])) _
        refine XS.lload X217.here hx rfl (hb hby at_200) rfl ?_
        show Steps p.tables e below (T217.setTop (mkF m 202 #[.val (.long q1), .second, .val (.int p2), .val (.int p3), .val (.long q4), .second, .val (.long tk), .second, .val (.int (Int32.ofNat n)), .val (.int (0 : Int32)), .val (.ref b172), .val (.ref b176), .val (.ref b182), .val (.ref b172), .val (.ref b193), .val (.long (q4 + ((0 : Int64) / (2 : Int64)))), .second, .val (.long (q4 + (0 : Int64))), .second, .val (.long (tk * ((Int32.ofNat n).toInt64))), .second, .val (.long (0 : Int64)), .second, .unset, .unset, .unset, .unset, .unset, .unset] [(.long q4)])) _
        refine XS.lload X217.here hx rfl (hb hby at_202) rfl ?_
        show Steps p.tables e below (T217.setTop (mkF m 204 #[.val (.long q1), .second, .val (.int p2), .val (.int p3), .val (.long q4), .second, .val (.long tk), .second, .val (.int (Int32.ofNat n)), .val (.int (0 : Int32)), .val (.ref b172), .val (.ref b176), .val (.ref b182), .val (.ref b172), .val (.ref b193), .val (.long (q4 + ((0 : Int64) / (2 : Int64)))), .second, .val (.long (q4 + (0 : Int64))), .second, .val (.long (tk * ((Int32.ofNat n).toInt64))), .second, .val (.long (0 : Int64)), .second, .unset, .unset, .unset, .unset, .unset, .unset] [(.long (0 : Int64)), (.long q4)])) _
        refine X217.ldc2Long hx hown (mvT hZ (tw113 hw)) (g := (mkF m 204 #[.val (.long q1), .second, .val (.int p2), .val (.int p3), .val (.long q4), .second, .val (.long tk), .second, .val (.int (Int32.ofNat n)), .val (.int (0 : Int32)), .val (.ref b172), .val (.ref b176), .val (.ref b182), .val (.ref b172), .val (.ref b193), .val (.long (q4 + ((0 : Int64) / (2 : Int64)))), .second, .val (.long (q4 + (0 : Int64))), .second, .val (.long (tk * ((Int32.ofNat n).toInt64))), .second, .val (.long (0 : Int64)), .second, .unset, .unset, .unset, .unset, .unset, .unset] [(.long (0 : Int64)), (.long q4)])) rfl (hb hby at_204) _ ?_
        show Steps p.tables e below (T217.setTop (mkF m 207 #[.val (.long q1), .second, .val (.int p2), .val (.int p3), .val (.long q4), .second, .val (.long tk), .second, .val (.int (Int32.ofNat n)), .val (.int (0 : Int32)), .val (.ref b172), .val (.ref b176), .val (.ref b182), .val (.ref b172), .val (.ref b193), .val (.long (q4 + ((0 : Int64) / (2 : Int64)))), .second, .val (.long (q4 + (0 : Int64))), .second, .val (.long (tk * ((Int32.ofNat n).toInt64))), .second, .val (.long (0 : Int64)), .second, .unset, .unset, .unset, .unset, .unset, .unset] [(.long (2 : Int64)), (.long (0 : Int64)), (.long q4)])) _
        refine XS.ldiv X217.here hx rfl (hb hby at_207) rfl (by decide) ?_
        show Steps p.tables e below (T217.setTop (mkF m 208 #[.val (.long q1), .second, .val (.int p2), .val (.int p3), .val (.long q4), .second, .val (.long tk), .second, .val (.int (Int32.ofNat n)), .val (.int (0 : Int32)), .val (.ref b172), .val (.ref b176), .val (.ref b182), .val (.ref b172), .val (.ref b193), .val (.long (q4 + ((0 : Int64) / (2 : Int64)))), .second, .val (.long (q4 + (0 : Int64))), .second, .val (.long (tk * ((Int32.ofNat n).toInt64))), .second, .val (.long (0 : Int64)), .second, .unset, .unset, .unset, .unset, .unset, .unset] [(.long ((0 : Int64) / (2 : Int64))), (.long q4)])) _
        refine XS.ladd X217.here hx rfl (hb hby at_208) rfl ?_
        show Steps p.tables e below (T217.setTop (mkF m 209 #[.val (.long q1), .second, .val (.int p2), .val (.int p3), .val (.long q4), .second, .val (.long tk), .second, .val (.int (Int32.ofNat n)), .val (.int (0 : Int32)), .val (.ref b172), .val (.ref b176), .val (.ref b182), .val (.ref b172), .val (.ref b193), .val (.long (q4 + ((0 : Int64) / (2 : Int64)))), .second, .val (.long (q4 + (0 : Int64))), .second, .val (.long (tk * ((Int32.ofNat n).toInt64))), .second, .val (.long (0 : Int64)), .second, .unset, .unset, .unset, .unset, .unset, .unset] [(.long (q4 + ((0 : Int64) / (2 : Int64))))])) _
        refine XS.lstore X217.here hx rfl (hb hby at_209) rfl (l' := #[.val (.long q1), .second, .val (.int p2), .val (.int p3), .val (.long q4), .second, .val (.long tk), .second, .val (.int (Int32.ofNat n)), .val (.int (0 : Int32)), .val (.ref b172), .val (.ref b176), .val (.ref b182), .val (.ref b172), .val (.ref b193), .val (.long (q4 + ((0 : Int64) / (2 : Int64)))), .second, .val (.long (q4 + (0 : Int64))), .second, .val (.long (tk * ((Int32.ofNat n).toInt64))), .second, .val (.long (0 : Int64)), .second, .val (.long (q4 + ((0 : Int64) / (2 : Int64)))), .second, .unset, .unset, .unset, .unset]) rfl ?_
        show Steps p.tables e below (T217.setTop (mkF m 211 #[.val (.long q1), .second, .val (.int p2), .val (.int p3), .val (.long q4), .second, .val (.long tk), .second, .val (.int (Int32.ofNat n)), .val (.int (0 : Int32)), .val (.ref b172), .val (.ref b176), .val (.ref b182), .val (.ref b172), .val (.ref b193), .val (.long (q4 + ((0 : Int64) / (2 : Int64)))), .second, .val (.long (q4 + (0 : Int64))), .second, .val (.long (tk * ((Int32.ofNat n).toInt64))), .second, .val (.long (0 : Int64)), .second, .val (.long (q4 + ((0 : Int64) / (2 : Int64)))), .second, .unset, .unset, .unset, .unset] [])) _
        refine XS.lload X217.here hx rfl (hb hby at_211) rfl ?_
        show Steps p.tables e below (T217.setTop (mkF m 213 #[.val (.long q1), .second, .val (.int p2), .val (.int p3), .val (.long q4), .second, .val (.long tk), .second, .val (.int (Int32.ofNat n)), .val (.int (0 : Int32)), .val (.ref b172), .val (.ref b176), .val (.ref b182), .val (.ref b172), .val (.ref b193), .val (.long (q4 + ((0 : Int64) / (2 : Int64)))), .second, .val (.long (q4 + (0 : Int64))), .second, .val (.long (tk * ((Int32.ofNat n).toInt64))), .second, .val (.long (0 : Int64)), .second, .val (.long (q4 + ((0 : Int64) / (2 : Int64)))), .second, .unset, .unset, .unset, .unset] [(.long (q4 + ((0 : Int64) / (2 : Int64))))])) _
        refine XS.lload X217.here hx rfl (hb hby at_213) rfl ?_
        show Steps p.tables e below (T217.setTop (mkF m 215 #[.val (.long q1), .second, .val (.int p2), .val (.int p3), .val (.long q4), .second, .val (.long tk), .second, .val (.int (Int32.ofNat n)), .val (.int (0 : Int32)), .val (.ref b172), .val (.ref b176), .val (.ref b182), .val (.ref b172), .val (.ref b193), .val (.long (q4 + ((0 : Int64) / (2 : Int64)))), .second, .val (.long (q4 + (0 : Int64))), .second, .val (.long (tk * ((Int32.ofNat n).toInt64))), .second, .val (.long (0 : Int64)), .second, .val (.long (q4 + ((0 : Int64) / (2 : Int64)))), .second, .unset, .unset, .unset, .unset] [(.long (q4 + ((0 : Int64) / (2 : Int64)))), (.long (q4 + ((0 : Int64) / (2 : Int64))))])) _
        refine XS.lcmp X217.here hx rfl (hb hby at_215) rfl ?_
        exact kq)
      have hme : (q4 + ((0 : Int64) / (2 : Int64))) = (q4 + ((0 : Int64) / (2 : Int64))) := by rfl
      have go222 : Goes p e below s₁ (G_rm0 m q1 p2 p3 q4) T217 (mkF m 239 #[.val (.long q1), .second, .val (.int p2), .val (.int p3), .val (.long q4), .second, .val (.long tk), .second, .val (.int (Int32.ofNat n)), .val (.int (0 : Int32)), .val (.ref b172), .val (.ref b176), .val (.ref b182), .val (.ref b172), .val (.ref b193), .val (.long (q4 + ((0 : Int64) / (2 : Int64)))), .second, .val (.long (q4 + (0 : Int64))), .second, .val (.long (tk * ((Int32.ofNat n).toInt64))), .second, .val (.long (0 : Int64)), .second, .val (.long (q4 + ((0 : Int64) / (2 : Int64)))), .second, .val (.long ((q4 + ((0 : Int64) / (2 : Int64))) - q4)), .second, .val (.long ((q4 + (0 : Int64)) - q4)), .second] [(.int (lcmpW ((q4 + ((0 : Int64) / (2 : Int64))) - q4) (0 : Int64)))]) := fun tq kq => go221 tq (by
        show Steps p.tables e below (T217.setTop (mkF m 216 #[.val (.long q1), .second, .val (.int p2), .val (.int p3), .val (.long q4), .second, .val (.long tk), .second, .val (.int (Int32.ofNat n)), .val (.int (0 : Int32)), .val (.ref b172), .val (.ref b176), .val (.ref b182), .val (.ref b172), .val (.ref b193), .val (.long (q4 + ((0 : Int64) / (2 : Int64)))), .second, .val (.long (q4 + (0 : Int64))), .second, .val (.long (tk * ((Int32.ofNat n).toInt64))), .second, .val (.long (0 : Int64)), .second, .val (.long (q4 + ((0 : Int64) / (2 : Int64)))), .second, .unset, .unset, .unset, .unset] [(.int (lcmpW (q4 + ((0 : Int64) / (2 : Int64))) (q4 + ((0 : Int64) / (2 : Int64)))))])) _
        refine XS.ifYes X217.here hx rfl (pc0 := 216) (pc' := 221) rfl (hb hby at_216) rfl ((if0 _ _).trans (teq (own_lceq hme)).1) (by decide) (by decide) ?_
        show Steps p.tables e below (T217.setTop (mkF m 221 #[.val (.long q1), .second, .val (.int p2), .val (.int p3), .val (.long q4), .second, .val (.long tk), .second, .val (.int (Int32.ofNat n)), .val (.int (0 : Int32)), .val (.ref b172), .val (.ref b176), .val (.ref b182), .val (.ref b172), .val (.ref b193), .val (.long (q4 + ((0 : Int64) / (2 : Int64)))), .second, .val (.long (q4 + (0 : Int64))), .second, .val (.long (tk * ((Int32.ofNat n).toInt64))), .second, .val (.long (0 : Int64)), .second, .val (.long (q4 + ((0 : Int64) / (2 : Int64)))), .second, .unset, .unset, .unset, .unset] [])) _
        refine XS.lload X217.here hx rfl (hb hby at_221) rfl ?_
        show Steps p.tables e below (T217.setTop (mkF m 223 #[.val (.long q1), .second, .val (.int p2), .val (.int p3), .val (.long q4), .second, .val (.long tk), .second, .val (.int (Int32.ofNat n)), .val (.int (0 : Int32)), .val (.ref b172), .val (.ref b176), .val (.ref b182), .val (.ref b172), .val (.ref b193), .val (.long (q4 + ((0 : Int64) / (2 : Int64)))), .second, .val (.long (q4 + (0 : Int64))), .second, .val (.long (tk * ((Int32.ofNat n).toInt64))), .second, .val (.long (0 : Int64)), .second, .val (.long (q4 + ((0 : Int64) / (2 : Int64)))), .second, .unset, .unset, .unset, .unset] [(.long (q4 + ((0 : Int64) / (2 : Int64))))])) _
        refine XS.lload X217.here hx rfl (hb hby at_223) rfl ?_
        show Steps p.tables e below (T217.setTop (mkF m 225 #[.val (.long q1), .second, .val (.int p2), .val (.int p3), .val (.long q4), .second, .val (.long tk), .second, .val (.int (Int32.ofNat n)), .val (.int (0 : Int32)), .val (.ref b172), .val (.ref b176), .val (.ref b182), .val (.ref b172), .val (.ref b193), .val (.long (q4 + ((0 : Int64) / (2 : Int64)))), .second, .val (.long (q4 + (0 : Int64))), .second, .val (.long (tk * ((Int32.ofNat n).toInt64))), .second, .val (.long (0 : Int64)), .second, .val (.long (q4 + ((0 : Int64) / (2 : Int64)))), .second, .unset, .unset, .unset, .unset] [(.long q4), (.long (q4 + ((0 : Int64) / (2 : Int64))))])) _
        refine XS.lsub X217.here hx rfl (hb hby at_225) rfl ?_
        show Steps p.tables e below (T217.setTop (mkF m 226 #[.val (.long q1), .second, .val (.int p2), .val (.int p3), .val (.long q4), .second, .val (.long tk), .second, .val (.int (Int32.ofNat n)), .val (.int (0 : Int32)), .val (.ref b172), .val (.ref b176), .val (.ref b182), .val (.ref b172), .val (.ref b193), .val (.long (q4 + ((0 : Int64) / (2 : Int64)))), .second, .val (.long (q4 + (0 : Int64))), .second, .val (.long (tk * ((Int32.ofNat n).toInt64))), .second, .val (.long (0 : Int64)), .second, .val (.long (q4 + ((0 : Int64) / (2 : Int64)))), .second, .unset, .unset, .unset, .unset] [(.long ((q4 + ((0 : Int64) / (2 : Int64))) - q4))])) _
        refine XS.lstore X217.here hx rfl (hb hby at_226) rfl (l' := #[.val (.long q1), .second, .val (.int p2), .val (.int p3), .val (.long q4), .second, .val (.long tk), .second, .val (.int (Int32.ofNat n)), .val (.int (0 : Int32)), .val (.ref b172), .val (.ref b176), .val (.ref b182), .val (.ref b172), .val (.ref b193), .val (.long (q4 + ((0 : Int64) / (2 : Int64)))), .second, .val (.long (q4 + (0 : Int64))), .second, .val (.long (tk * ((Int32.ofNat n).toInt64))), .second, .val (.long (0 : Int64)), .second, .val (.long (q4 + ((0 : Int64) / (2 : Int64)))), .second, .val (.long ((q4 + ((0 : Int64) / (2 : Int64))) - q4)), .second, .unset, .unset]) rfl ?_
        show Steps p.tables e below (T217.setTop (mkF m 228 #[.val (.long q1), .second, .val (.int p2), .val (.int p3), .val (.long q4), .second, .val (.long tk), .second, .val (.int (Int32.ofNat n)), .val (.int (0 : Int32)), .val (.ref b172), .val (.ref b176), .val (.ref b182), .val (.ref b172), .val (.ref b193), .val (.long (q4 + ((0 : Int64) / (2 : Int64)))), .second, .val (.long (q4 + (0 : Int64))), .second, .val (.long (tk * ((Int32.ofNat n).toInt64))), .second, .val (.long (0 : Int64)), .second, .val (.long (q4 + ((0 : Int64) / (2 : Int64)))), .second, .val (.long ((q4 + ((0 : Int64) / (2 : Int64))) - q4)), .second, .unset, .unset] [])) _
        refine XS.lload X217.here hx rfl (hb hby at_228) rfl ?_
        show Steps p.tables e below (T217.setTop (mkF m 230 #[.val (.long q1), .second, .val (.int p2), .val (.int p3), .val (.long q4), .second, .val (.long tk), .second, .val (.int (Int32.ofNat n)), .val (.int (0 : Int32)), .val (.ref b172), .val (.ref b176), .val (.ref b182), .val (.ref b172), .val (.ref b193), .val (.long (q4 + ((0 : Int64) / (2 : Int64)))), .second, .val (.long (q4 + (0 : Int64))), .second, .val (.long (tk * ((Int32.ofNat n).toInt64))), .second, .val (.long (0 : Int64)), .second, .val (.long (q4 + ((0 : Int64) / (2 : Int64)))), .second, .val (.long ((q4 + ((0 : Int64) / (2 : Int64))) - q4)), .second, .unset, .unset] [(.long (q4 + (0 : Int64)))])) _
        refine XS.lload X217.here hx rfl (hb hby at_230) rfl ?_
        show Steps p.tables e below (T217.setTop (mkF m 232 #[.val (.long q1), .second, .val (.int p2), .val (.int p3), .val (.long q4), .second, .val (.long tk), .second, .val (.int (Int32.ofNat n)), .val (.int (0 : Int32)), .val (.ref b172), .val (.ref b176), .val (.ref b182), .val (.ref b172), .val (.ref b193), .val (.long (q4 + ((0 : Int64) / (2 : Int64)))), .second, .val (.long (q4 + (0 : Int64))), .second, .val (.long (tk * ((Int32.ofNat n).toInt64))), .second, .val (.long (0 : Int64)), .second, .val (.long (q4 + ((0 : Int64) / (2 : Int64)))), .second, .val (.long ((q4 + ((0 : Int64) / (2 : Int64))) - q4)), .second, .unset, .unset] [(.long q4), (.long (q4 + (0 : Int64)))])) _
        refine XS.lsub X217.here hx rfl (hb hby at_232) rfl ?_
        show Steps p.tables e below (T217.setTop (mkF m 233 #[.val (.long q1), .second, .val (.int p2), .val (.int p3), .val (.long q4), .second, .val (.long tk), .second, .val (.int (Int32.ofNat n)), .val (.int (0 : Int32)), .val (.ref b172), .val (.ref b176), .val (.ref b182), .val (.ref b172), .val (.ref b193), .val (.long (q4 + ((0 : Int64) / (2 : Int64)))), .second, .val (.long (q4 + (0 : Int64))), .second, .val (.long (tk * ((Int32.ofNat n).toInt64))), .second, .val (.long (0 : Int64)), .second, .val (.long (q4 + ((0 : Int64) / (2 : Int64)))), .second, .val (.long ((q4 + ((0 : Int64) / (2 : Int64))) - q4)), .second, .unset, .unset] [(.long ((q4 + (0 : Int64)) - q4))])) _
        refine XS.lstore X217.here hx rfl (hb hby at_233) rfl (l' := #[.val (.long q1), .second, .val (.int p2), .val (.int p3), .val (.long q4), .second, .val (.long tk), .second, .val (.int (Int32.ofNat n)), .val (.int (0 : Int32)), .val (.ref b172), .val (.ref b176), .val (.ref b182), .val (.ref b172), .val (.ref b193), .val (.long (q4 + ((0 : Int64) / (2 : Int64)))), .second, .val (.long (q4 + (0 : Int64))), .second, .val (.long (tk * ((Int32.ofNat n).toInt64))), .second, .val (.long (0 : Int64)), .second, .val (.long (q4 + ((0 : Int64) / (2 : Int64)))), .second, .val (.long ((q4 + ((0 : Int64) / (2 : Int64))) - q4)), .second, .val (.long ((q4 + (0 : Int64)) - q4)), .second]) rfl ?_
        show Steps p.tables e below (T217.setTop (mkF m 235 #[.val (.long q1), .second, .val (.int p2), .val (.int p3), .val (.long q4), .second, .val (.long tk), .second, .val (.int (Int32.ofNat n)), .val (.int (0 : Int32)), .val (.ref b172), .val (.ref b176), .val (.ref b182), .val (.ref b172), .val (.ref b193), .val (.long (q4 + ((0 : Int64) / (2 : Int64)))), .second, .val (.long (q4 + (0 : Int64))), .second, .val (.long (tk * ((Int32.ofNat n).toInt64))), .second, .val (.long (0 : Int64)), .second, .val (.long (q4 + ((0 : Int64) / (2 : Int64)))), .second, .val (.long ((q4 + ((0 : Int64) / (2 : Int64))) - q4)), .second, .val (.long ((q4 + (0 : Int64)) - q4)), .second] [])) _
        refine XS.lload X217.here hx rfl (hb hby at_235) rfl ?_
        show Steps p.tables e below (T217.setTop (mkF m 237 #[.val (.long q1), .second, .val (.int p2), .val (.int p3), .val (.long q4), .second, .val (.long tk), .second, .val (.int (Int32.ofNat n)), .val (.int (0 : Int32)), .val (.ref b172), .val (.ref b176), .val (.ref b182), .val (.ref b172), .val (.ref b193), .val (.long (q4 + ((0 : Int64) / (2 : Int64)))), .second, .val (.long (q4 + (0 : Int64))), .second, .val (.long (tk * ((Int32.ofNat n).toInt64))), .second, .val (.long (0 : Int64)), .second, .val (.long (q4 + ((0 : Int64) / (2 : Int64)))), .second, .val (.long ((q4 + ((0 : Int64) / (2 : Int64))) - q4)), .second, .val (.long ((q4 + (0 : Int64)) - q4)), .second] [(.long ((q4 + ((0 : Int64) / (2 : Int64))) - q4))])) _
        refine XS.lconst X217.here hx rfl (hb hby at_237) ?_
        show Steps p.tables e below (T217.setTop (mkF m 238 #[.val (.long q1), .second, .val (.int p2), .val (.int p3), .val (.long q4), .second, .val (.long tk), .second, .val (.int (Int32.ofNat n)), .val (.int (0 : Int32)), .val (.ref b172), .val (.ref b176), .val (.ref b182), .val (.ref b172), .val (.ref b193), .val (.long (q4 + ((0 : Int64) / (2 : Int64)))), .second, .val (.long (q4 + (0 : Int64))), .second, .val (.long (tk * ((Int32.ofNat n).toInt64))), .second, .val (.long (0 : Int64)), .second, .val (.long (q4 + ((0 : Int64) / (2 : Int64)))), .second, .val (.long ((q4 + ((0 : Int64) / (2 : Int64))) - q4)), .second, .val (.long ((q4 + (0 : Int64)) - q4)), .second] [(.long (0 : Int64)), (.long ((q4 + ((0 : Int64) / (2 : Int64))) - q4))])) _
        refine XS.lcmp X217.here hx rfl (hb hby at_238) rfl ?_
        exact kq)
      have go223 : Goes p e below s₁ (G_rm0 m q1 p2 p3 q4) T217 (mkF m 251 #[.val (.long q1), .second, .val (.int p2), .val (.int p3), .val (.long q4), .second, .val (.long tk), .second, .val (.int (Int32.ofNat n)), .val (.int (0 : Int32)), .val (.ref b172), .val (.ref b176), .val (.ref b182), .val (.ref b172), .val (.ref b193), .val (.long (q4 + ((0 : Int64) / (2 : Int64)))), .second, .val (.long (q4 + (0 : Int64))), .second, .val (.long (tk * ((Int32.ofNat n).toInt64))), .second, .val (.long (0 : Int64)), .second, .val (.long (q4 + ((0 : Int64) / (2 : Int64)))), .second, .val (.long ((q4 + ((0 : Int64) / (2 : Int64))) - q4)), .second, .val (.long ((q4 + (0 : Int64)) - q4)), .second] [(.int (lcmpW ((2 : Int64) * ((q4 + ((0 : Int64) / (2 : Int64))) - q4)) ((q4 + (0 : Int64)) - q4)))]) := fun tq kq => go222 tq (by
        show Steps p.tables e below (T217.setTop (mkF m 239 #[.val (.long q1), .second, .val (.int p2), .val (.int p3), .val (.long q4), .second, .val (.long tk), .second, .val (.int (Int32.ofNat n)), .val (.int (0 : Int32)), .val (.ref b172), .val (.ref b176), .val (.ref b182), .val (.ref b172), .val (.ref b193), .val (.long (q4 + ((0 : Int64) / (2 : Int64)))), .second, .val (.long (q4 + (0 : Int64))), .second, .val (.long (tk * ((Int32.ofNat n).toInt64))), .second, .val (.long (0 : Int64)), .second, .val (.long (q4 + ((0 : Int64) / (2 : Int64)))), .second, .val (.long ((q4 + ((0 : Int64) / (2 : Int64))) - q4)), .second, .val (.long ((q4 + (0 : Int64)) - q4)), .second] [(.int (lcmpW ((q4 + ((0 : Int64) / (2 : Int64))) - q4) (0 : Int64)))])) _
        refine XS.ifNo X217.here hx rfl (hb hby at_239) rfl ((if0 _ _).trans (flt (own_lcge (own_m1 q4 hmt))).1) ?_
        show Steps p.tables e below (T217.setTop (mkF m 242 #[.val (.long q1), .second, .val (.int p2), .val (.int p3), .val (.long q4), .second, .val (.long tk), .second, .val (.int (Int32.ofNat n)), .val (.int (0 : Int32)), .val (.ref b172), .val (.ref b176), .val (.ref b182), .val (.ref b172), .val (.ref b193), .val (.long (q4 + ((0 : Int64) / (2 : Int64)))), .second, .val (.long (q4 + (0 : Int64))), .second, .val (.long (tk * ((Int32.ofNat n).toInt64))), .second, .val (.long (0 : Int64)), .second, .val (.long (q4 + ((0 : Int64) / (2 : Int64)))), .second, .val (.long ((q4 + ((0 : Int64) / (2 : Int64))) - q4)), .second, .val (.long ((q4 + (0 : Int64)) - q4)), .second] [])) _
        refine X217.ldc2Long hx hown (mvT hZ (tw113 hw)) (g := (mkF m 242 #[.val (.long q1), .second, .val (.int p2), .val (.int p3), .val (.long q4), .second, .val (.long tk), .second, .val (.int (Int32.ofNat n)), .val (.int (0 : Int32)), .val (.ref b172), .val (.ref b176), .val (.ref b182), .val (.ref b172), .val (.ref b193), .val (.long (q4 + ((0 : Int64) / (2 : Int64)))), .second, .val (.long (q4 + (0 : Int64))), .second, .val (.long (tk * ((Int32.ofNat n).toInt64))), .second, .val (.long (0 : Int64)), .second, .val (.long (q4 + ((0 : Int64) / (2 : Int64)))), .second, .val (.long ((q4 + ((0 : Int64) / (2 : Int64))) - q4)), .second, .val (.long ((q4 + (0 : Int64)) - q4)), .second] [])) rfl (hb hby at_242) _ ?_
        show Steps p.tables e below (T217.setTop (mkF m 245 #[.val (.long q1), .second, .val (.int p2), .val (.int p3), .val (.long q4), .second, .val (.long tk), .second, .val (.int (Int32.ofNat n)), .val (.int (0 : Int32)), .val (.ref b172), .val (.ref b176), .val (.ref b182), .val (.ref b172), .val (.ref b193), .val (.long (q4 + ((0 : Int64) / (2 : Int64)))), .second, .val (.long (q4 + (0 : Int64))), .second, .val (.long (tk * ((Int32.ofNat n).toInt64))), .second, .val (.long (0 : Int64)), .second, .val (.long (q4 + ((0 : Int64) / (2 : Int64)))), .second, .val (.long ((q4 + ((0 : Int64) / (2 : Int64))) - q4)), .second, .val (.long ((q4 + (0 : Int64)) - q4)), .second] [(.long (2 : Int64))])) _
        refine XS.lload X217.here hx rfl (hb hby at_245) rfl ?_
        show Steps p.tables e below (T217.setTop (mkF m 247 #[.val (.long q1), .second, .val (.int p2), .val (.int p3), .val (.long q4), .second, .val (.long tk), .second, .val (.int (Int32.ofNat n)), .val (.int (0 : Int32)), .val (.ref b172), .val (.ref b176), .val (.ref b182), .val (.ref b172), .val (.ref b193), .val (.long (q4 + ((0 : Int64) / (2 : Int64)))), .second, .val (.long (q4 + (0 : Int64))), .second, .val (.long (tk * ((Int32.ofNat n).toInt64))), .second, .val (.long (0 : Int64)), .second, .val (.long (q4 + ((0 : Int64) / (2 : Int64)))), .second, .val (.long ((q4 + ((0 : Int64) / (2 : Int64))) - q4)), .second, .val (.long ((q4 + (0 : Int64)) - q4)), .second] [(.long ((q4 + ((0 : Int64) / (2 : Int64))) - q4)), (.long (2 : Int64))])) _
        refine XS.lmul X217.here hx rfl (hb hby at_247) rfl ?_
        show Steps p.tables e below (T217.setTop (mkF m 248 #[.val (.long q1), .second, .val (.int p2), .val (.int p3), .val (.long q4), .second, .val (.long tk), .second, .val (.int (Int32.ofNat n)), .val (.int (0 : Int32)), .val (.ref b172), .val (.ref b176), .val (.ref b182), .val (.ref b172), .val (.ref b193), .val (.long (q4 + ((0 : Int64) / (2 : Int64)))), .second, .val (.long (q4 + (0 : Int64))), .second, .val (.long (tk * ((Int32.ofNat n).toInt64))), .second, .val (.long (0 : Int64)), .second, .val (.long (q4 + ((0 : Int64) / (2 : Int64)))), .second, .val (.long ((q4 + ((0 : Int64) / (2 : Int64))) - q4)), .second, .val (.long ((q4 + (0 : Int64)) - q4)), .second] [(.long ((2 : Int64) * ((q4 + ((0 : Int64) / (2 : Int64))) - q4)))])) _
        refine XS.lload X217.here hx rfl (hb hby at_248) rfl ?_
        show Steps p.tables e below (T217.setTop (mkF m 250 #[.val (.long q1), .second, .val (.int p2), .val (.int p3), .val (.long q4), .second, .val (.long tk), .second, .val (.int (Int32.ofNat n)), .val (.int (0 : Int32)), .val (.ref b172), .val (.ref b176), .val (.ref b182), .val (.ref b172), .val (.ref b193), .val (.long (q4 + ((0 : Int64) / (2 : Int64)))), .second, .val (.long (q4 + (0 : Int64))), .second, .val (.long (tk * ((Int32.ofNat n).toInt64))), .second, .val (.long (0 : Int64)), .second, .val (.long (q4 + ((0 : Int64) / (2 : Int64)))), .second, .val (.long ((q4 + ((0 : Int64) / (2 : Int64))) - q4)), .second, .val (.long ((q4 + (0 : Int64)) - q4)), .second] [(.long ((q4 + (0 : Int64)) - q4)), (.long ((2 : Int64) * ((q4 + ((0 : Int64) / (2 : Int64))) - q4)))])) _
        refine XS.lcmp X217.here hx rfl (hb hby at_250) rfl ?_
        exact kq)
      have go224 : Goes p e below s₁ (G_rm0 m q1 p2 p3 q4) T217 (mkF m 265 #[.val (.long q1), .second, .val (.int p2), .val (.int p3), .val (.long q4), .second, .val (.long tk), .second, .val (.int (Int32.ofNat n)), .val (.int (0 : Int32)), .val (.ref b172), .val (.ref b176), .val (.ref b182), .val (.ref b172), .val (.ref b193), .val (.long (q4 + ((0 : Int64) / (2 : Int64)))), .second, .val (.long (q4 + (0 : Int64))), .second, .val (.long (tk * ((Int32.ofNat n).toInt64))), .second, .val (.long (0 : Int64)), .second, .val (.long (q4 + ((0 : Int64) / (2 : Int64)))), .second, .val (.long ((q4 + ((0 : Int64) / (2 : Int64))) - q4)), .second, .val (.long ((q4 + (0 : Int64)) - q4)), .second] [(.int (lcmpW (((q4 + (0 : Int64)) - q4) - ((2 : Int64) * ((q4 + ((0 : Int64) / (2 : Int64))) - q4))) (1 : Int64)))]) := fun tq kq => go223 tq (by
        show Steps p.tables e below (T217.setTop (mkF m 251 #[.val (.long q1), .second, .val (.int p2), .val (.int p3), .val (.long q4), .second, .val (.long tk), .second, .val (.int (Int32.ofNat n)), .val (.int (0 : Int32)), .val (.ref b172), .val (.ref b176), .val (.ref b182), .val (.ref b172), .val (.ref b193), .val (.long (q4 + ((0 : Int64) / (2 : Int64)))), .second, .val (.long (q4 + (0 : Int64))), .second, .val (.long (tk * ((Int32.ofNat n).toInt64))), .second, .val (.long (0 : Int64)), .second, .val (.long (q4 + ((0 : Int64) / (2 : Int64)))), .second, .val (.long ((q4 + ((0 : Int64) / (2 : Int64))) - q4)), .second, .val (.long ((q4 + (0 : Int64)) - q4)), .second] [(.int (lcmpW ((2 : Int64) * ((q4 + ((0 : Int64) / (2 : Int64))) - q4)) ((q4 + (0 : Int64)) - q4)))])) _
        refine XS.ifNo X217.here hx rfl (hb hby at_251) rfl ((if0 _ _).trans (flt (own_lcle (own_m2 q4 hmt))).2.2.1) ?_
        show Steps p.tables e below (T217.setTop (mkF m 254 #[.val (.long q1), .second, .val (.int p2), .val (.int p3), .val (.long q4), .second, .val (.long tk), .second, .val (.int (Int32.ofNat n)), .val (.int (0 : Int32)), .val (.ref b172), .val (.ref b176), .val (.ref b182), .val (.ref b172), .val (.ref b193), .val (.long (q4 + ((0 : Int64) / (2 : Int64)))), .second, .val (.long (q4 + (0 : Int64))), .second, .val (.long (tk * ((Int32.ofNat n).toInt64))), .second, .val (.long (0 : Int64)), .second, .val (.long (q4 + ((0 : Int64) / (2 : Int64)))), .second, .val (.long ((q4 + ((0 : Int64) / (2 : Int64))) - q4)), .second, .val (.long ((q4 + (0 : Int64)) - q4)), .second] [])) _
        refine XS.lload X217.here hx rfl (hb hby at_254) rfl ?_
        show Steps p.tables e below (T217.setTop (mkF m 256 #[.val (.long q1), .second, .val (.int p2), .val (.int p3), .val (.long q4), .second, .val (.long tk), .second, .val (.int (Int32.ofNat n)), .val (.int (0 : Int32)), .val (.ref b172), .val (.ref b176), .val (.ref b182), .val (.ref b172), .val (.ref b193), .val (.long (q4 + ((0 : Int64) / (2 : Int64)))), .second, .val (.long (q4 + (0 : Int64))), .second, .val (.long (tk * ((Int32.ofNat n).toInt64))), .second, .val (.long (0 : Int64)), .second, .val (.long (q4 + ((0 : Int64) / (2 : Int64)))), .second, .val (.long ((q4 + ((0 : Int64) / (2 : Int64))) - q4)), .second, .val (.long ((q4 + (0 : Int64)) - q4)), .second] [(.long ((q4 + (0 : Int64)) - q4))])) _
        refine X217.ldc2Long hx hown (mvT hZ (tw113 hw)) (g := (mkF m 256 #[.val (.long q1), .second, .val (.int p2), .val (.int p3), .val (.long q4), .second, .val (.long tk), .second, .val (.int (Int32.ofNat n)), .val (.int (0 : Int32)), .val (.ref b172), .val (.ref b176), .val (.ref b182), .val (.ref b172), .val (.ref b193), .val (.long (q4 + ((0 : Int64) / (2 : Int64)))), .second, .val (.long (q4 + (0 : Int64))), .second, .val (.long (tk * ((Int32.ofNat n).toInt64))), .second, .val (.long (0 : Int64)), .second, .val (.long (q4 + ((0 : Int64) / (2 : Int64)))), .second, .val (.long ((q4 + ((0 : Int64) / (2 : Int64))) - q4)), .second, .val (.long ((q4 + (0 : Int64)) - q4)), .second] [(.long ((q4 + (0 : Int64)) - q4))])) rfl (hb hby at_256) _ ?_
        show Steps p.tables e below (T217.setTop (mkF m 259 #[.val (.long q1), .second, .val (.int p2), .val (.int p3), .val (.long q4), .second, .val (.long tk), .second, .val (.int (Int32.ofNat n)), .val (.int (0 : Int32)), .val (.ref b172), .val (.ref b176), .val (.ref b182), .val (.ref b172), .val (.ref b193), .val (.long (q4 + ((0 : Int64) / (2 : Int64)))), .second, .val (.long (q4 + (0 : Int64))), .second, .val (.long (tk * ((Int32.ofNat n).toInt64))), .second, .val (.long (0 : Int64)), .second, .val (.long (q4 + ((0 : Int64) / (2 : Int64)))), .second, .val (.long ((q4 + ((0 : Int64) / (2 : Int64))) - q4)), .second, .val (.long ((q4 + (0 : Int64)) - q4)), .second] [(.long (2 : Int64)), (.long ((q4 + (0 : Int64)) - q4))])) _
        refine XS.lload X217.here hx rfl (hb hby at_259) rfl ?_
        show Steps p.tables e below (T217.setTop (mkF m 261 #[.val (.long q1), .second, .val (.int p2), .val (.int p3), .val (.long q4), .second, .val (.long tk), .second, .val (.int (Int32.ofNat n)), .val (.int (0 : Int32)), .val (.ref b172), .val (.ref b176), .val (.ref b182), .val (.ref b172), .val (.ref b193), .val (.long (q4 + ((0 : Int64) / (2 : Int64)))), .second, .val (.long (q4 + (0 : Int64))), .second, .val (.long (tk * ((Int32.ofNat n).toInt64))), .second, .val (.long (0 : Int64)), .second, .val (.long (q4 + ((0 : Int64) / (2 : Int64)))), .second, .val (.long ((q4 + ((0 : Int64) / (2 : Int64))) - q4)), .second, .val (.long ((q4 + (0 : Int64)) - q4)), .second] [(.long ((q4 + ((0 : Int64) / (2 : Int64))) - q4)), (.long (2 : Int64)), (.long ((q4 + (0 : Int64)) - q4))])) _
        refine XS.lmul X217.here hx rfl (hb hby at_261) rfl ?_
        show Steps p.tables e below (T217.setTop (mkF m 262 #[.val (.long q1), .second, .val (.int p2), .val (.int p3), .val (.long q4), .second, .val (.long tk), .second, .val (.int (Int32.ofNat n)), .val (.int (0 : Int32)), .val (.ref b172), .val (.ref b176), .val (.ref b182), .val (.ref b172), .val (.ref b193), .val (.long (q4 + ((0 : Int64) / (2 : Int64)))), .second, .val (.long (q4 + (0 : Int64))), .second, .val (.long (tk * ((Int32.ofNat n).toInt64))), .second, .val (.long (0 : Int64)), .second, .val (.long (q4 + ((0 : Int64) / (2 : Int64)))), .second, .val (.long ((q4 + ((0 : Int64) / (2 : Int64))) - q4)), .second, .val (.long ((q4 + (0 : Int64)) - q4)), .second] [(.long ((2 : Int64) * ((q4 + ((0 : Int64) / (2 : Int64))) - q4))), (.long ((q4 + (0 : Int64)) - q4))])) _
        refine XS.lsub X217.here hx rfl (hb hby at_262) rfl ?_
        show Steps p.tables e below (T217.setTop (mkF m 263 #[.val (.long q1), .second, .val (.int p2), .val (.int p3), .val (.long q4), .second, .val (.long tk), .second, .val (.int (Int32.ofNat n)), .val (.int (0 : Int32)), .val (.ref b172), .val (.ref b176), .val (.ref b182), .val (.ref b172), .val (.ref b193), .val (.long (q4 + ((0 : Int64) / (2 : Int64)))), .second, .val (.long (q4 + (0 : Int64))), .second, .val (.long (tk * ((Int32.ofNat n).toInt64))), .second, .val (.long (0 : Int64)), .second, .val (.long (q4 + ((0 : Int64) / (2 : Int64)))), .second, .val (.long ((q4 + ((0 : Int64) / (2 : Int64))) - q4)), .second, .val (.long ((q4 + (0 : Int64)) - q4)), .second] [(.long (((q4 + (0 : Int64)) - q4) - ((2 : Int64) * ((q4 + ((0 : Int64) / (2 : Int64))) - q4))))])) _
        refine XS.lconst X217.here hx rfl (hb hby at_263) ?_
        show Steps p.tables e below (T217.setTop (mkF m 264 #[.val (.long q1), .second, .val (.int p2), .val (.int p3), .val (.long q4), .second, .val (.long tk), .second, .val (.int (Int32.ofNat n)), .val (.int (0 : Int32)), .val (.ref b172), .val (.ref b176), .val (.ref b182), .val (.ref b172), .val (.ref b193), .val (.long (q4 + ((0 : Int64) / (2 : Int64)))), .second, .val (.long (q4 + (0 : Int64))), .second, .val (.long (tk * ((Int32.ofNat n).toInt64))), .second, .val (.long (0 : Int64)), .second, .val (.long (q4 + ((0 : Int64) / (2 : Int64)))), .second, .val (.long ((q4 + ((0 : Int64) / (2 : Int64))) - q4)), .second, .val (.long ((q4 + (0 : Int64)) - q4)), .second] [(.long (1 : Int64)), (.long (((q4 + (0 : Int64)) - q4) - ((2 : Int64) * ((q4 + ((0 : Int64) / (2 : Int64))) - q4))))])) _
        refine XS.lcmp X217.here hx rfl (hb hby at_264) rfl ?_
        exact kq)
      have go225 : Goes p e below s₁ (G_rm0 m q1 p2 p3 q4) T217 (mkF m 273 #[.val (.long q1), .second, .val (.int p2), .val (.int p3), .val (.long q4), .second, .val (.long tk), .second, .val (.int (Int32.ofNat n)), .val (.int (0 : Int32)), .val (.ref b172), .val (.ref b176), .val (.ref b182), .val (.ref b172), .val (.ref b193), .val (.long (q4 + ((0 : Int64) / (2 : Int64)))), .second, .val (.long (q4 + (0 : Int64))), .second, .val (.long (tk * ((Int32.ofNat n).toInt64))), .second, .val (.long (0 : Int64)), .second, .val (.long (q4 + ((0 : Int64) / (2 : Int64)))), .second, .val (.long ((q4 + ((0 : Int64) / (2 : Int64))) - q4)), .second, .val (.long ((q4 + (0 : Int64)) - q4)), .second] [(.int (1 : Int32))]) := fun tq kq => go224 tq (by
        show Steps p.tables e below (T217.setTop (mkF m 265 #[.val (.long q1), .second, .val (.int p2), .val (.int p3), .val (.long q4), .second, .val (.long tk), .second, .val (.int (Int32.ofNat n)), .val (.int (0 : Int32)), .val (.ref b172), .val (.ref b176), .val (.ref b182), .val (.ref b172), .val (.ref b193), .val (.long (q4 + ((0 : Int64) / (2 : Int64)))), .second, .val (.long (q4 + (0 : Int64))), .second, .val (.long (tk * ((Int32.ofNat n).toInt64))), .second, .val (.long (0 : Int64)), .second, .val (.long (q4 + ((0 : Int64) / (2 : Int64)))), .second, .val (.long ((q4 + ((0 : Int64) / (2 : Int64))) - q4)), .second, .val (.long ((q4 + (0 : Int64)) - q4)), .second] [(.int (lcmpW (((q4 + (0 : Int64)) - q4) - ((2 : Int64) * ((q4 + ((0 : Int64) / (2 : Int64))) - q4))) (1 : Int64)))])) _
        refine XS.ifNo X217.here hx rfl (hb hby at_265) rfl ((if0 _ _).trans (flt (own_lcle (own_m3 q4 hmt))).2.2.1) ?_
        show Steps p.tables e below (T217.setTop (mkF m 268 #[.val (.long q1), .second, .val (.int p2), .val (.int p3), .val (.long q4), .second, .val (.long tk), .second, .val (.int (Int32.ofNat n)), .val (.int (0 : Int32)), .val (.ref b172), .val (.ref b176), .val (.ref b182), .val (.ref b172), .val (.ref b193), .val (.long (q4 + ((0 : Int64) / (2 : Int64)))), .second, .val (.long (q4 + (0 : Int64))), .second, .val (.long (tk * ((Int32.ofNat n).toInt64))), .second, .val (.long (0 : Int64)), .second, .val (.long (q4 + ((0 : Int64) / (2 : Int64)))), .second, .val (.long ((q4 + ((0 : Int64) / (2 : Int64))) - q4)), .second, .val (.long ((q4 + (0 : Int64)) - q4)), .second] [])) _
        refine XS.iconst X217.here hx rfl (hb hby at_268) ?_
        show Steps p.tables e below (T217.setTop (mkF m 269 #[.val (.long q1), .second, .val (.int p2), .val (.int p3), .val (.long q4), .second, .val (.long tk), .second, .val (.int (Int32.ofNat n)), .val (.int (0 : Int32)), .val (.ref b172), .val (.ref b176), .val (.ref b182), .val (.ref b172), .val (.ref b193), .val (.long (q4 + ((0 : Int64) / (2 : Int64)))), .second, .val (.long (q4 + (0 : Int64))), .second, .val (.long (tk * ((Int32.ofNat n).toInt64))), .second, .val (.long (0 : Int64)), .second, .val (.long (q4 + ((0 : Int64) / (2 : Int64)))), .second, .val (.long ((q4 + ((0 : Int64) / (2 : Int64))) - q4)), .second, .val (.long ((q4 + (0 : Int64)) - q4)), .second] [(.int (1 : Int32))])) _
        refine XS.goto X217.here hx rfl (pc0 := 269) (pc' := 273) rfl (hb hby at_269) (by decide) (by decide) ?_
        exact kq)
      obtain ⟨fs, hr, hrun, hended, hW, hsame⟩ := X217.leave (v := some (.int (1 : Int32))) (fun h => by rw [Bd.returns] at h; cases h)
      refine ⟨_, _, go225 _ ?_, hrun, hended, _, _, rfl, ?_, ReturnedEndW.of_narrow ⟨_, rfl⟩ hW (hsame.mono (by decide) (by decide))⟩
      · exact retN X217 hx (t := .boolean) Bd.returns (by simp) (hb hby at_273) hr
      · show Q_rm0 Z q1 p2 p3 q4 h0 n0 _ T217.heap _
        rw [eq217]
        exact ⟨rfl, N217⟩
  · have Fz0 : Fld Z T188.heap b176 "com/example/cicada/cicada/Level" "moveTime" "J" (.long tk) := by
      have q := ((F2_180.ext E182).keep K188 (ninS ne185 nin0))
      rw [own_mt1] at q
      exact q
    have hmt : 0 ≤ (tk).toInt := Int.le_trans (by decide) htk1
    have htz : SP0 ≠ 0 := own_pz hpq0
    have go233 : Goes p e below s₁ (G_rm0 m q1 p2 p3 q4) T188 (mkF m 68 #[.val (.long q1), .second, .val (.int p2), .val (.int p3), .val (.long q4), .second, .val (.long tk), .second, .val (.int (Int32.ofNat n)), .val (.int (1 : Int32)), .val (.ref b172), .val (.ref b176), .val (.ref b182), .unset, .unset, .unset, .unset, .unset, .unset, .unset, .unset, .unset, .unset, .unset, .unset, .unset, .unset, .unset, .unset] [(.int (1 : Int32))]) := fun tq kq => go189 tq (by
      show Steps p.tables e below (T188.setTop (mkF m 66 #[.val (.long q1), .second, .val (.int p2), .val (.int p3), .val (.long q4), .second, .val (.long tk), .second, .val (.int (Int32.ofNat n)), .val (.int (1 : Int32)), .val (.ref b172), .val (.ref b176), .val (.ref b182), .unset, .unset, .unset, .unset, .unset, .unset, .unset, .unset, .unset, .unset, .unset, .unset, .unset, .unset, .unset, .unset] [])) _
      refine XS.iload X188.here hx rfl (hb hby at_66) rfl ?_
      exact kq)
    have go234 : Goes p e below s₁ (G_rm0 m q1 p2 p3 q4) T188 (mkF m 79 #[.val (.long q1), .second, .val (.int p2), .val (.int p3), .val (.long q4), .second, .val (.long tk), .second, .val (.int (Int32.ofNat n)), .val (.int (1 : Int32)), .val (.ref b172), .val (.ref b176), .val (.ref b182), .unset, .unset, .unset, .unset, .unset, .unset, .unset, .unset, .unset, .unset, .unset, .unset, .unset, .unset, .unset, .unset] [(.int (1 : Int32)), (.int (1 : Int32))]) := fun tq kq => go233 tq (by
      show Steps p.tables e below (T188.setTop (mkF m 68 #[.val (.long q1), .second, .val (.int p2), .val (.int p3), .val (.long q4), .second, .val (.long tk), .second, .val (.int (Int32.ofNat n)), .val (.int (1 : Int32)), .val (.ref b172), .val (.ref b176), .val (.ref b182), .unset, .unset, .unset, .unset, .unset, .unset, .unset, .unset, .unset, .unset, .unset, .unset, .unset, .unset, .unset, .unset] [(.int (1 : Int32))])) _
      refine XS.ifYes X188.here hx rfl (pc0 := 68) (pc' := 76) rfl (hb hby at_68) rfl ((if0 _ _).trans (feq (by decide)).2) (by decide) (by decide) ?_
      show Steps p.tables e below (T188.setTop (mkF m 76 #[.val (.long q1), .second, .val (.int p2), .val (.int p3), .val (.long q4), .second, .val (.long tk), .second, .val (.int (Int32.ofNat n)), .val (.int (1 : Int32)), .val (.ref b172), .val (.ref b176), .val (.ref b182), .unset, .unset, .unset, .unset, .unset, .unset, .unset, .unset, .unset, .unset, .unset, .unset, .unset, .unset, .unset, .unset] [])) _
      refine XS.iload X188.here hx rfl (hb hby at_76) rfl ?_
      show Steps p.tables e below (T188.setTop (mkF m 78 #[.val (.long q1), .second, .val (.int p2), .val (.int p3), .val (.long q4), .second, .val (.long tk), .second, .val (.int (Int32.ofNat n)), .val (.int (1 : Int32)), .val (.ref b172), .val (.ref b176), .val (.ref b182), .unset, .unset, .unset, .unset, .unset, .unset, .unset, .unset, .unset, .unset, .unset, .unset, .unset, .unset, .unset, .unset] [(.int (1 : Int32))])) _
      refine XS.iconst X188.here hx rfl (hb hby at_78) ?_
      exact kq)
    have go235 : Goes p e below s₁ (G_rm0 m q1 p2 p3 q4) T188 (mkF m 91 #[.val (.long q1), .second, .val (.int p2), .val (.int p3), .val (.long q4), .second, .val (.long tk), .second, .val (.int (Int32.ofNat n)), .val (.int (1 : Int32)), .val (.ref b172), .val (.ref b176), .val (.ref b182), .val (.ref b176), .unset, .unset, .unset, .unset, .unset, .unset, .unset, .unset, .unset, .unset, .unset, .unset, .unset, .unset, .unset] []) := fun tq kq => go234 tq (by
      show Steps p.tables e below (T188.setTop (mkF m 79 #[.val (.long q1), .second, .val (.int p2), .val (.int p3), .val (.long q4), .second, .val (.long tk), .second, .val (.int (Int32.ofNat n)), .val (.int (1 : Int32)), .val (.ref b172), .val (.ref b176), .val (.ref b182), .unset, .unset, .unset, .unset, .unset, .unset, .unset, .unset, .unset, .unset, .unset, .unset, .unset, .unset, .unset, .unset] [(.int (1 : Int32)), (.int (1 : Int32))])) _
      refine XS.icmpNo X188.here hx rfl (hb hby at_79) rfl (teq (by decide)).2 ?_
      show Steps p.tables e below (T188.setTop (mkF m 82 #[.val (.long q1), .second, .val (.int p2), .val (.int p3), .val (.long q4), .second, .val (.long tk), .second, .val (.int (Int32.ofNat n)), .val (.int (1 : Int32)), .val (.ref b172), .val (.ref b176), .val (.ref b182), .unset, .unset, .unset, .unset, .unset, .unset, .unset, .unset, .unset, .unset, .unset, .unset, .unset, .unset, .unset, .unset] [])) _
      refine XS.aload X188.here hx rfl (hb hby at_82) rfl rfl ?_
      show Steps p.tables e below (T188.setTop (mkF m 84 #[.val (.long q1), .second, .val (.int p2), .val (.int p3), .val (.long q4), .second, .val (.long tk), .second, .val (.int (Int32.ofNat n)), .val (.int (1 : Int32)), .val (.ref b172), .val (.ref b176), .val (.ref b182), .unset, .unset, .unset, .unset, .unset, .unset, .unset, .unset, .unset, .unset, .unset, .unset, .unset, .unset, .unset, .unset] [(.ref b176)])) _
      refine XS.goto X188.here hx rfl (pc0 := 84) (pc' := 89) rfl (hb hby at_84) (by decide) (by decide) ?_
      show Steps p.tables e below (T188.setTop (mkF m 89 #[.val (.long q1), .second, .val (.int p2), .val (.int p3), .val (.long q4), .second, .val (.long tk), .second, .val (.int (Int32.ofNat n)), .val (.int (1 : Int32)), .val (.ref b172), .val (.ref b176), .val (.ref b182), .unset, .unset, .unset, .unset, .unset, .unset, .unset, .unset, .unset, .unset, .unset, .unset, .unset, .unset, .unset, .unset] [(.ref b176)])) _
      refine XS.astore X188.here hx rfl (hb hby at_89) rfl rfl (l' := #[.val (.long q1), .second, .val (.int p2), .val (.int p3), .val (.long q4), .second, .val (.long tk), .second, .val (.int (Int32.ofNat n)), .val (.int (1 : Int32)), .val (.ref b172), .val (.ref b176), .val (.ref b182), .val (.ref b176), .unset, .unset, .unset, .unset, .unset, .unset, .unset, .unset, .unset, .unset, .unset, .unset, .unset, .unset, .unset]) rfl ?_
      exact kq)
    obtain ⟨T236, h236, X236, e236, E236, A236, D236, -, st236⟩ := newO X188 hx hZ hown (tw70 hw) (tw58 hw) (tw59 hw) rfl (g := (mkF m 91 #[.val (.long q1), .second, .val (.int p2), .val (.int p3), .val (.long q4), .second, .val (.long tk), .second, .val (.int (Int32.ofNat n)), .val (.int (1 : Int32)), .val (.ref b172), .val (.ref b176), .val (.ref b182), .val (.ref b176), .unset, .unset, .unset, .unset, .unset, .unset, .unset, .unset, .unset, .unset, .unset, .unset, .unset, .unset, .unset] [])) rfl (hb hby at_91) (by decide) (by decide)
    obtain ⟨b236, g236⟩ : ∃ z, z = T188.heap.size := ⟨_, rfl⟩
    rw [← g236] at A236 D236 st236
    have g_b236 : n0 ≤ b236 := Nat.le_trans ZS188 (Nat.le_of_eq g236.symm)
    have ZS236 : n0 ≤ h236.size := Nat.le_trans ZS188 E236.1
    have F236_level : Fld Z h236 b236 "com/example/cicada/cicada/Bucket" "level" "Lcom/example/cicada/cicada/Level;" .null := D236 (Or.inr (tw65 hw)) (ty := (.object "com/example/cicada/cicada/Level")) (by decide)
    have F236_opensAt : Fld Z h236 b236 "com/example/cicada/cicada/Bucket" "opensAt" "J" (.long (0 : Int64)) := D236 (Or.inl (tw73 hw)) (ty := .long) (by decide)
    have ne237 : b176 ≠ b236 := Nat.ne_of_lt (Nat.lt_of_lt_of_le ((A180.ext E182).keep K188).lt (Nat.le_of_eq g236.symm))
    have ne238 : B180 ≠ b236 := Nat.ne_of_lt (Nat.lt_of_lt_of_le ((V180.ext E182).keep K188 (ninS ne186 nin0)).lt (Nat.le_of_eq g236.symm))
    have go236 : Goes p e below s₁ (G_rm0 m q1 p2 p3 q4) T236 (mkF m 94 #[.val (.long q1), .second, .val (.int p2), .val (.int p3), .val (.long q4), .second, .val (.long tk), .second, .val (.int (Int32.ofNat n)), .val (.int (1 : Int32)), .val (.ref b172), .val (.ref b176), .val (.ref b182), .val (.ref b176), .unset, .unset, .unset, .unset, .unset, .unset, .unset, .unset, .unset, .unset, .unset, .unset, .unset, .unset, .unset] [(.ref b236)]) := fun tq kq => go235 tq (st236 _ kq)
    have go239 : Goes p e below s₁ (G_rm0 m q1 p2 p3 q4) T236 (mkF m 97 #[.val (.long q1), .second, .val (.int p2), .val (.int p3), .val (.long q4), .second, .val (.long tk), .second, .val (.int (Int32.ofNat n)), .val (.int (1 : Int32)), .val (.ref b172), .val (.ref b176), .val (.ref b182), .val (.ref b176), .unset, .unset, .unset, .unset, .unset, .unset, .unset, .unset, .unset, .unset, .unset, .unset, .unset, .unset, .unset] [(.ref b176), (.ref b236), (.ref b236)]) := fun tq kq => go236 tq (by
      show Steps p.tables e below (T236.setTop (mkF m 94 #[.val (.long q1), .second, .val (.int p2), .val (.int p3), .val (.long q4), .second, .val (.long tk), .second, .val (.int (Int32.ofNat n)), .val (.int (1 : Int32)), .val (.ref b172), .val (.ref b176), .val (.ref b182), .val (.ref b176), .unset, .unset, .unset, .unset, .unset, .unset, .unset, .unset, .unset, .unset, .unset, .unset, .unset, .unset, .unset] [(.ref b236)])) _
      refine XS.dup X236.here hx rfl (hb hby at_94) rfl rfl ?_
      show Steps p.tables e below (T236.setTop (mkF m 95 #[.val (.long q1), .second, .val (.int p2), .val (.int p3), .val (.long q4), .second, .val (.long tk), .second, .val (.int (Int32.ofNat n)), .val (.int (1 : Int32)), .val (.ref b172), .val (.ref b176), .val (.ref b182), .val (.ref b176), .unset, .unset, .unset, .unset, .unset, .unset, .unset, .unset, .unset, .unset, .unset, .unset, .unset, .unset, .unset] [(.ref b236), (.ref b236)])) _
      refine XS.aload X236.here hx rfl (hb hby at_95) rfl rfl ?_
      exact kq)
    obtain ⟨vv240, _, ⟨T240, L240, k240, n240⟩, -, X240, ⟨Lc240, hQ240, l240, y240, z240⟩, st240⟩ := X236.specialBack hx (y := (⟨"com/example/cicada/cicada/Bucket", "<init>", "(Lcom/example/cicada/cicada/Level;)V"⟩ : MethodName)) rfl hown (mvT hZ (tw71 hw)) (mvT hZ (tw61 hw)) (mvT hZ (tw62 hw)) (by decide) (backOf (W := 1) (rmBk l Z a0 hw [] b236 b176  h236 n0 ZS236 g_b236 A236 F236_level F236_opensAt) hZ (tw62 hw) (tw59 hw) (by decide) (by decide)) (g := (mkF m 97 #[.val (.long q1), .second, .val (.int p2), .val (.int p3), .val (.long q4), .second, .val (.long tk), .second, .val (.int (Int32.ofNat n)), .val (.int (1 : Int32)), .val (.ref b172), .val (.ref b176), .val (.ref b182), .val (.ref b176), .unset, .unset, .unset, .unset, .unset, .unset, .unset, .unset, .unset, .unset, .unset, .unset, .unset, .unset, .unset] [(.ref b176), (.ref b236), (.ref b236)])) rfl (by rw [hml]; rfl) (Steps.refl _) (a := b236) (argsL := [(.ref b176)]) (rest := [(.ref b236)]) (lenOf pd_0 rfl) rfl (by show 2 * 0 + _ ≤ _; exact Nat.le_of_eq rfl) (hb hby at_97) (fun _ _ => ⟨rfl, e236, (by decide : 58 + 0 ≤ _), (by decide : 378 + 0 ≤ _)⟩)
    dsimp only [Pt.U, Pt.locs, Pt.cells, Pt.slots] at X240 l240 y240 z240 st240 hQ240
    subst l240 y240 z240
    obtain ⟨rfl, Nq240, K240, A240, F240⟩ := hQ240
    have N240 := Fr.app N188 Nq240
    have ZS240 : n0 ≤ T240.heap.size := Nat.le_trans ZS236 K240.1
    have go240 : Goes p e below s₁ (G_rm0 m q1 p2 p3 q4) T240 (mkF m 100 #[.val (.long q1), .second, .val (.int p2), .val (.int p3), .val (.long q4), .second, .val (.long tk), .second, .val (.int (Int32.ofNat n)), .val (.int (1 : Int32)), .val (.ref b172), .val (.ref b176), .val (.ref b182), .val (.ref b176), .unset, .unset, .unset, .unset, .unset, .unset, .unset, .unset, .unset, .unset, .unset, .unset, .unset, .unset, .unset] [(.ref b236)]) := fun tq kq => go239 tq (st240.trans kq)
    have go241 : Goes p e below s₁ (G_rm0 m q1 p2 p3 q4) T240 (mkF m 106 #[.val (.long q1), .second, .val (.int p2), .val (.int p3), .val (.long q4), .second, .val (.long tk), .second, .val (.int (Int32.ofNat n)), .val (.int (1 : Int32)), .val (.ref b172), .val (.ref b176), .val (.ref b182), .val (.ref b176), .val (.ref b236), .unset, .unset, .unset, .unset, .unset, .unset, .unset, .unset, .unset, .unset, .unset, .unset, .unset, .unset] [(.long q4), (.ref b236)]) := fun tq kq => go240 tq (by
      show Steps p.tables e below (T240.setTop (mkF m 100 #[.val (.long q1), .second, .val (.int p2), .val (.int p3), .val (.long q4), .second, .val (.long tk), .second, .val (.int (Int32.ofNat n)), .val (.int (1 : Int32)), .val (.ref b172), .val (.ref b176), .val (.ref b182), .val (.ref b176), .unset, .unset, .unset, .unset, .unset, .unset, .unset, .unset, .unset, .unset, .unset, .unset, .unset, .unset, .unset] [(.ref b236)])) _
      refine XS.astore X240.here hx rfl (hb hby at_100) rfl rfl (l' := #[.val (.long q1), .second, .val (.int p2), .val (.int p3), .val (.long q4), .second, .val (.long tk), .second, .val (.int (Int32.ofNat n)), .val (.int (1 : Int32)), .val (.ref b172), .val (.ref b176), .val (.ref b182), .val (.ref b176), .val (.ref b236), .unset, .unset, .unset, .unset, .unset, .unset, .unset, .unset, .unset, .unset, .unset, .unset, .unset, .unset]) rfl ?_
      show Steps p.tables e below (T240.setTop (mkF m 102 #[.val (.long q1), .second, .val (.int p2), .val (.int p3), .val (.long q4), .second, .val (.long tk), .second, .val (.int (Int32.ofNat n)), .val (.int (1 : Int32)), .val (.ref b172), .val (.ref b176), .val (.ref b182), .val (.ref b176), .val (.ref b236), .unset, .unset, .unset, .unset, .unset, .unset, .unset, .unset, .unset, .unset, .unset, .unset, .unset, .unset] [])) _
      refine XS.aload X240.here hx rfl (hb hby at_102) rfl rfl ?_
      show Steps p.tables e below (T240.setTop (mkF m 104 #[.val (.long q1), .second, .val (.int p2), .val (.int p3), .val (.long q4), .second, .val (.long tk), .second, .val (.int (Int32.ofNat n)), .val (.int (1 : Int32)), .val (.ref b172), .val (.ref b176), .val (.ref b182), .val (.ref b176), .val (.ref b236), .unset, .unset, .unset, .unset, .unset, .unset, .unset, .unset, .unset, .unset, .unset, .unset, .unset, .unset] [(.ref b236)])) _
      refine XS.lload X240.here hx rfl (hb hby at_104) rfl ?_
      exact kq)
    obtain ⟨T242, h242, X242, e242, W242, st242⟩ := putF X240 hx hZ hown (host := "") (Or.inl (tw72 hw)) Via.refl rfl F240 A240 (Or.inl (tw73 hw)) (tw58 hw) (ty := .long) (by decide) rfl rfl (g := (mkF m 106 #[.val (.long q1), .second, .val (.int p2), .val (.int p3), .val (.long q4), .second, .val (.long tk), .second, .val (.int (Int32.ofNat n)), .val (.int (1 : Int32)), .val (.ref b172), .val (.ref b176), .val (.ref b182), .val (.ref b176), .val (.ref b236), .unset, .unset, .unset, .unset, .unset, .unset, .unset, .unset, .unset, .unset, .unset, .unset, .unset, .unset] [(.long q4), (.ref b236)])) rfl rfl (hb hby at_106)
    have N242 := Fr.snoc X242 N240 g_b236
    have ZS242 : n0 ≤ h242.size := Nat.le_trans ZS240 (Keep.of_wr W242).1
    have F242 := Fld.same W242 F240
    have go242 : Goes p e below s₁ (G_rm0 m q1 p2 p3 q4) T242 (mkF m 109 #[.val (.long q1), .second, .val (.int p2), .val (.int p3), .val (.long q4), .second, .val (.long tk), .second, .val (.int (Int32.ofNat n)), .val (.int (1 : Int32)), .val (.ref b172), .val (.ref b176), .val (.ref b182), .val (.ref b176), .val (.ref b236), .unset, .unset, .unset, .unset, .unset, .unset, .unset, .unset, .unset, .unset, .unset, .unset, .unset, .unset] []) := fun tq kq => go241 tq (st242 _ kq)
    have go243 : Goes p e below s₁ (G_rm0 m q1 p2 p3 q4) T242 (mkF m 113 #[.val (.long q1), .second, .val (.int p2), .val (.int p3), .val (.long q4), .second, .val (.long tk), .second, .val (.int (Int32.ofNat n)), .val (.int (1 : Int32)), .val (.ref b172), .val (.ref b176), .val (.ref b182), .val (.ref b176), .val (.ref b236), .unset, .unset, .unset, .unset, .unset, .unset, .unset, .unset, .unset, .unset, .unset, .unset, .unset, .unset] [(.ref b236), (.ref b176)]) := fun tq kq => go242 tq (by
      show Steps p.tables e below (T242.setTop (mkF m 109 #[.val (.long q1), .second, .val (.int p2), .val (.int p3), .val (.long q4), .second, .val (.long tk), .second, .val (.int (Int32.ofNat n)), .val (.int (1 : Int32)), .val (.ref b172), .val (.ref b176), .val (.ref b182), .val (.ref b176), .val (.ref b236), .unset, .unset, .unset, .unset, .unset, .unset, .unset, .unset, .unset, .unset, .unset, .unset, .unset, .unset] [])) _
      refine XS.aload X242.here hx rfl (hb hby at_109) rfl rfl ?_
      show Steps p.tables e below (T242.setTop (mkF m 111 #[.val (.long q1), .second, .val (.int p2), .val (.int p3), .val (.long q4), .second, .val (.long tk), .second, .val (.int (Int32.ofNat n)), .val (.int (1 : Int32)), .val (.ref b172), .val (.ref b176), .val (.ref b182), .val (.ref b176), .val (.ref b236), .unset, .unset, .unset, .unset, .unset, .unset, .unset, .unset, .unset, .unset, .unset, .unset, .unset, .unset] [(.ref b176)])) _
      refine XS.aload X242.here hx rfl (hb hby at_111) rfl rfl ?_
      exact kq)
    have f244 := (Exa.wr W242 ((((A180.ext E182).keep K188).ext E236).keep K240))
    have f245 := (Fld.other W242 ((((F0_180.ext E182).keep K188 (ninS ne185 nin0)).ext E236).keep K240 (ninS ne237 nin0)) (Or.inl ne237))
    have f246 := (Fld.other W242 ((((FB180.ext E182).keep K188 (ninS ne185 nin0)).ext E236).keep K240 (ninS ne237 nin0)) (Or.inl ne237))
    have f247 := (((((V180.ext E182).keep K188 (ninS ne186 nin0)).ext E236).keep K240 (ninS ne238 nin0)).other W242 ne238)
    have f248 := (Fld.other W242 ((((F1_180.ext E182).keep K188 (ninS ne185 nin0)).ext E236).keep K240 (ninS ne237 nin0)) (Or.inl ne237))
    have f249 := (Fld.other W242 ((((F5_180.ext E182).keep K188 (ninS ne185 nin0)).ext E236).keep K240 (ninS ne237 nin0)) (Or.inl ne237))
    have f250 := (Fld.other W242 ((((F6_180.ext E182).keep K188 (ninS ne185 nin0)).ext E236).keep K240 (ninS ne237 nin0)) (Or.inl ne237))
    have f251 := (Fld.other W242 ((Fz0.ext E236).keep K240 (ninS ne237 nin0)) (Or.inl ne237))
    obtain ⟨cq252, kq252, q252a, q252b, q252c⟩ := isOf hZ e242 f244
    obtain ⟨vv252, _, ⟨T252, L252, k252, n252⟩, -, X252, ⟨Lc252, hQ252, l252, y252, z252⟩, st252⟩ := X242.virtualBack hx (y := (⟨"com/example/cicada/cicada/Level", "open", "(Lcom/example/cicada/cicada/Bucket;)V"⟩ : MethodName)) (z := (⟨"com/example/cicada/cicada/Level", "open", "(Lcom/example/cicada/cicada/Bucket;)V"⟩ : MethodName)) hown (mvT hZ (tw74 hw)) (mvT hZ (tw75 hw)) (notFace_of_selects (args := #[]) (mvT hZ (tw77 hw))) (mvT hZ (tw77 hw)) (mvT hZ (tw76 hw)) (by decide) (backOf (W := 0) (rmOpen0 l Z a0 hw [] b176 b236 SP0 (tk + tk) q4 tk B180 kB180 n vs180 h242 n0 ZS242 g_b176 g_B180 f244 f245 f246 f247 htz hn1 hn16 Ov180 l180 (Exa.wr W242 A240) F242 f248 f249 f250 f251) hZ (tw78 hw) (tw8 hw) (by decide) (by decide)) q252a q252c (g := (mkF m 113 #[.val (.long q1), .second, .val (.int p2), .val (.int p3), .val (.long q4), .second, .val (.long tk), .second, .val (.int (Int32.ofNat n)), .val (.int (1 : Int32)), .val (.ref b172), .val (.ref b176), .val (.ref b182), .val (.ref b176), .val (.ref b236), .unset, .unset, .unset, .unset, .unset, .unset, .unset, .unset, .unset, .unset, .unset, .unset, .unset, .unset] [(.ref b236), (.ref b176)])) rfl (by rw [hml]; rfl) (Steps.refl _) (argsL := [(.ref b236)]) (rest := []) (lenOf pd_11 rfl) rfl (by show 2 * 0 + _ ≤ _; exact Nat.le_of_eq rfl) (hb hby at_113) (fun _ _ => ⟨rfl, e242, (by decide : 58 + 1 ≤ _), (by decide : 378 + 6 ≤ _)⟩)
    dsimp only [Pt.U, Pt.locs, Pt.cells, Pt.slots] at X252 l252 y252 z252 st252 hQ252
    subst l252 y252 z252
    obtain ⟨rfl, Nq252, K252, A252, Ft252, Fl252, Fz252, Fb252, Fs252, Fm252, nb252, BN252, V252⟩ := hQ252
    have N252 := Fr.app N242 Nq252
    have ZS252 : n0 ≤ T252.heap.size := Nat.le_trans ZS242 K252.1
    have go252 : Goes p e below s₁ (G_rm0 m q1 p2 p3 q4) T252 (mkF m 116 #[.val (.long q1), .second, .val (.int p2), .val (.int p3), .val (.long q4), .second, .val (.long tk), .second, .val (.int (Int32.ofNat n)), .val (.int (1 : Int32)), .val (.ref b172), .val (.ref b176), .val (.ref b182), .val (.ref b176), .val (.ref b236), .unset, .unset, .unset, .unset, .unset, .unset, .unset, .unset, .unset, .unset, .unset, .unset, .unset, .unset] []) := fun tq kq => go243 tq (st252.trans kq)
    have go253 : Goes p e below s₁ (G_rm0 m q1 p2 p3 q4) T252 (mkF m 118 #[.val (.long q1), .second, .val (.int p2), .val (.int p3), .val (.long q4), .second, .val (.long tk), .second, .val (.int (Int32.ofNat n)), .val (.int (1 : Int32)), .val (.ref b172), .val (.ref b176), .val (.ref b182), .val (.ref b176), .val (.ref b236), .unset, .unset, .unset, .unset, .unset, .unset, .unset, .unset, .unset, .unset, .unset, .unset, .unset, .unset] [(.ref b176)]) := fun tq kq => go252 tq (by
      show Steps p.tables e below (T252.setTop (mkF m 116 #[.val (.long q1), .second, .val (.int p2), .val (.int p3), .val (.long q4), .second, .val (.long tk), .second, .val (.int (Int32.ofNat n)), .val (.int (1 : Int32)), .val (.ref b172), .val (.ref b176), .val (.ref b182), .val (.ref b176), .val (.ref b236), .unset, .unset, .unset, .unset, .unset, .unset, .unset, .unset, .unset, .unset, .unset, .unset, .unset, .unset] [])) _
      refine XS.aload X252.here hx rfl (hb hby at_116) rfl rfl ?_
      exact kq)
    obtain ⟨cq254, kq254, q254a, q254b, q254c⟩ := isOf hZ rfl A252
    obtain ⟨vv254, _, ⟨T254, L254, k254, n254⟩, -, X254, ⟨Lc254, hQ254, l254, y254, z254⟩, st254⟩ := X252.virtualBack hx (y := (⟨"com/example/cicada/cicada/Level", "moving", "()Lcom/example/cicada/cicada/Bucket;"⟩ : MethodName)) (z := (⟨"com/example/cicada/cicada/Level", "moving", "()Lcom/example/cicada/cicada/Bucket;"⟩ : MethodName)) hown (mvT hZ (tw97 hw)) (mvT hZ (tw98 hw)) (notFace_of_selects (args := #[]) (mvT hZ (tw100 hw))) (mvT hZ (tw100 hw)) (mvT hZ (tw99 hw)) (by decide) (backOf (W := 0) (rmMvR l Z a0 hw [] b176 b236 T252.heap n0 ZS252 Fm252) hZ (tw101 hw) (tw8 hw) (by decide) (by decide)) q254a q254c (g := (mkF m 118 #[.val (.long q1), .second, .val (.int p2), .val (.int p3), .val (.long q4), .second, .val (.long tk), .second, .val (.int (Int32.ofNat n)), .val (.int (1 : Int32)), .val (.ref b172), .val (.ref b176), .val (.ref b182), .val (.ref b176), .val (.ref b236), .unset, .unset, .unset, .unset, .unset, .unset, .unset, .unset, .unset, .unset, .unset, .unset, .unset, .unset] [(.ref b176)])) rfl (by rw [hml]; rfl) (Steps.refl _) (argsL := []) (rest := []) (lenOf pd_12 rfl) rfl (by show 2 * 0 + _ ≤ _; exact Nat.le_of_eq rfl) (hb hby at_118) (fun _ _ => ⟨rfl, rfl, (by decide : 59 + 0 ≤ _), (by decide : 384 + 0 ≤ _)⟩)
    dsimp only [Pt.U, Pt.locs, Pt.cells, Pt.slots] at X254 l254 y254 z254 st254 hQ254
    subst l254 y254 z254
    obtain ⟨rfl, Nq254, eq254⟩ := hQ254
    have N254 := Fr.app N252 Nq254
    have go254 : Goes p e below s₁ (G_rm0 m q1 p2 p3 q4) T254 (mkF m 121 #[.val (.long q1), .second, .val (.int p2), .val (.int p3), .val (.long q4), .second, .val (.long tk), .second, .val (.int (Int32.ofNat n)), .val (.int (1 : Int32)), .val (.ref b172), .val (.ref b176), .val (.ref b182), .val (.ref b176), .val (.ref b236), .unset, .unset, .unset, .unset, .unset, .unset, .unset, .unset, .unset, .unset, .unset, .unset, .unset, .unset] [(.ref b236)]) := fun tq kq => go253 tq (st254.trans kq)
    have go255 : Goes p e below s₁ (G_rm0 m q1 p2 p3 q4) T254 (mkF m 123 #[.val (.long q1), .second, .val (.int p2), .val (.int p3), .val (.long q4), .second, .val (.long tk), .second, .val (.int (Int32.ofNat n)), .val (.int (1 : Int32)), .val (.ref b172), .val (.ref b176), .val (.ref b182), .val (.ref b176), .val (.ref b236), .unset, .unset, .unset, .unset, .unset, .unset, .unset, .unset, .unset, .unset, .unset, .unset, .unset, .unset] [(.ref b236), (.ref b236)]) := fun tq kq => go254 tq (by
      show Steps p.tables e below (T254.setTop (mkF m 121 #[.val (.long q1), .second, .val (.int p2), .val (.int p3), .val (.long q4), .second, .val (.long tk), .second, .val (.int (Int32.ofNat n)), .val (.int (1 : Int32)), .val (.ref b172), .val (.ref b176), .val (.ref b182), .val (.ref b176), .val (.ref b236), .unset, .unset, .unset, .unset, .unset, .unset, .unset, .unset, .unset, .unset, .unset, .unset, .unset, .unset] [(.ref b236)])) _
      refine XS.aload X254.here hx rfl (hb hby at_121) rfl rfl ?_
      exact kq)
    have go256 : Goes p e below s₁ (G_rm0 m q1 p2 p3 q4) T254 (mkF m 130 #[.val (.long q1), .second, .val (.int p2), .val (.int p3), .val (.long q4), .second, .val (.long tk), .second, .val (.int (Int32.ofNat n)), .val (.int (1 : Int32)), .val (.ref b172), .val (.ref b176), .val (.ref b182), .val (.ref b176), .val (.ref b236), .unset, .unset, .unset, .unset, .unset, .unset, .unset, .unset, .unset, .unset, .unset, .unset, .unset, .unset] [(.ref b176)]) := fun tq kq => go255 tq (by
      show Steps p.tables e below (T254.setTop (mkF m 123 #[.val (.long q1), .second, .val (.int p2), .val (.int p3), .val (.long q4), .second, .val (.long tk), .second, .val (.int (Int32.ofNat n)), .val (.int (1 : Int32)), .val (.ref b172), .val (.ref b176), .val (.ref b182), .val (.ref b176), .val (.ref b236), .unset, .unset, .unset, .unset, .unset, .unset, .unset, .unset, .unset, .unset, .unset, .unset, .unset, .unset] [(.ref b236), (.ref b236)])) _
      refine Jvm.RoadKit.acmp (g := (mkF m 123 #[.val (.long q1), .second, .val (.int p2), .val (.int p3), .val (.long q4), .second, .val (.long tk), .second, .val (.int (Int32.ofNat n)), .val (.int (1 : Int32)), .val (.ref b172), .val (.ref b176), .val (.ref b182), .val (.ref b176), .val (.ref b236), .unset, .unset, .unset, .unset, .unset, .unset, .unset, .unset, .unset, .unset, .unset, .unset, .unset, .unset] [(.ref b236), (.ref b236)])) X254 hx rfl rfl rfl (pc0 := 123) (pc' := 128) (same := true) rfl (hb hby at_123) rfl (decide_eq_true rfl) (by decide) (by decide) ?_
      show Steps p.tables e below (T254.setTop (mkF m 128 #[.val (.long q1), .second, .val (.int p2), .val (.int p3), .val (.long q4), .second, .val (.long tk), .second, .val (.int (Int32.ofNat n)), .val (.int (1 : Int32)), .val (.ref b172), .val (.ref b176), .val (.ref b182), .val (.ref b176), .val (.ref b236), .unset, .unset, .unset, .unset, .unset, .unset, .unset, .unset, .unset, .unset, .unset, .unset, .unset, .unset] [])) _
      refine XS.aload X254.here hx rfl (hb hby at_128) rfl rfl ?_
      exact kq)
    have f257 := (F242.keep K252 (ninS (Ne.symm ne238) (ninS (Ne.symm ne237) nin0)))
    obtain ⟨cq258, kq258, q258a, q258b, q258c⟩ := isOf hZ eq254 A252
    obtain ⟨vv258, _, ⟨T258, L258, k258, n258⟩, -, X258, ⟨Lc258, hQ258, l258, y258, z258⟩, st258⟩ := X254.virtualBack hx (y := (⟨"com/example/cicada/cicada/Level", "moveMiddle", "()J"⟩ : MethodName)) (z := (⟨"com/example/cicada/cicada/Level", "moveMiddle", "()J"⟩ : MethodName)) hown (mvT hZ (tw102 hw)) (mvT hZ (tw103 hw)) (notFace_of_selects (args := #[]) (mvT hZ (tw105 hw))) (mvT hZ (tw105 hw)) (mvT hZ (tw104 hw)) (by decide) (backOf (W := 0) (rmMid l Z a0 hw [] b176 b236 q4 tk T252.heap n0 ZS252 Fm252 f257 Fz252) hZ (tw106 hw) (tw8 hw) (by decide) (by decide)) q258a q258c (g := (mkF m 130 #[.val (.long q1), .second, .val (.int p2), .val (.int p3), .val (.long q4), .second, .val (.long tk), .second, .val (.int (Int32.ofNat n)), .val (.int (1 : Int32)), .val (.ref b172), .val (.ref b176), .val (.ref b182), .val (.ref b176), .val (.ref b236), .unset, .unset, .unset, .unset, .unset, .unset, .unset, .unset, .unset, .unset, .unset, .unset, .unset, .unset] [(.ref b176)])) rfl (by rw [hml]; rfl) (Steps.refl _) (argsL := []) (rest := []) (lenOf pd_13 rfl) rfl (by show 2 * 0 + _ ≤ _; exact Nat.le_of_eq rfl) (hb hby at_130) (fun _ _ => ⟨rfl, eq254, (by decide : 59 + 0 ≤ _), (by decide : 384 + 0 ≤ _)⟩)
    dsimp only [Pt.U, Pt.locs, Pt.cells, Pt.slots] at X258 l258 y258 z258 st258 hQ258
    subst l258 y258 z258
    obtain ⟨rfl, Nq258, eq258⟩ := hQ258
    have N258 := Fr.app N254 Nq258
    have go258 : Goes p e below s₁ (G_rm0 m q1 p2 p3 q4) T258 (mkF m 133 #[.val (.long q1), .second, .val (.int p2), .val (.int p3), .val (.long q4), .second, .val (.long tk), .second, .val (.int (Int32.ofNat n)), .val (.int (1 : Int32)), .val (.ref b172), .val (.ref b176), .val (.ref b182), .val (.ref b176), .val (.ref b236), .unset, .unset, .unset, .unset, .unset, .unset, .unset, .unset, .unset, .unset, .unset, .unset, .unset, .unset] [(.long (q4 + (tk / (2 : Int64))))]) := fun tq kq => go256 tq (st258.trans kq)
    have go259 : Goes p e below s₁ (G_rm0 m q1 p2 p3 q4) T258 (mkF m 137 #[.val (.long q1), .second, .val (.int p2), .val (.int p3), .val (.long q4), .second, .val (.long tk), .second, .val (.int (Int32.ofNat n)), .val (.int (1 : Int32)), .val (.ref b172), .val (.ref b176), .val (.ref b182), .val (.ref b176), .val (.ref b236), .val (.long (q4 + (tk / (2 : Int64)))), .second, .unset, .unset, .unset, .unset, .unset, .unset, .unset, .unset, .unset, .unset, .unset, .unset] [(.ref b176)]) := fun tq kq => go258 tq (by
      show Steps p.tables e below (T258.setTop (mkF m 133 #[.val (.long q1), .second, .val (.int p2), .val (.int p3), .val (.long q4), .second, .val (.long tk), .second, .val (.int (Int32.ofNat n)), .val (.int (1 : Int32)), .val (.ref b172), .val (.ref b176), .val (.ref b182), .val (.ref b176), .val (.ref b236), .unset, .unset, .unset, .unset, .unset, .unset, .unset, .unset, .unset, .unset, .unset, .unset, .unset, .unset] [(.long (q4 + (tk / (2 : Int64))))])) _
      refine XS.lstore X258.here hx rfl (hb hby at_133) rfl (l' := #[.val (.long q1), .second, .val (.int p2), .val (.int p3), .val (.long q4), .second, .val (.long tk), .second, .val (.int (Int32.ofNat n)), .val (.int (1 : Int32)), .val (.ref b172), .val (.ref b176), .val (.ref b182), .val (.ref b176), .val (.ref b236), .val (.long (q4 + (tk / (2 : Int64)))), .second, .unset, .unset, .unset, .unset, .unset, .unset, .unset, .unset, .unset, .unset, .unset, .unset]) rfl ?_
      show Steps p.tables e below (T258.setTop (mkF m 135 #[.val (.long q1), .second, .val (.int p2), .val (.int p3), .val (.long q4), .second, .val (.long tk), .second, .val (.int (Int32.ofNat n)), .val (.int (1 : Int32)), .val (.ref b172), .val (.ref b176), .val (.ref b182), .val (.ref b176), .val (.ref b236), .val (.long (q4 + (tk / (2 : Int64)))), .second, .unset, .unset, .unset, .unset, .unset, .unset, .unset, .unset, .unset, .unset, .unset, .unset] [])) _
      refine XS.aload X258.here hx rfl (hb hby at_135) rfl rfl ?_
      exact kq)
    obtain ⟨cq260, kq260, q260a, q260b, q260c⟩ := isOf hZ eq258 A252
    obtain ⟨vv260, _, ⟨T260, L260, k260, n260⟩, -, X260, ⟨Lc260, hQ260, l260, y260, z260⟩, st260⟩ := X258.virtualBack hx (y := (⟨"com/example/cicada/cicada/Level", "moveDeadline", "()J"⟩ : MethodName)) (z := (⟨"com/example/cicada/cicada/Level", "moveDeadline", "()J"⟩ : MethodName)) hown (mvT hZ (tw108 hw)) (mvT hZ (tw109 hw)) (notFace_of_selects (args := #[]) (mvT hZ (tw111 hw))) (mvT hZ (tw111 hw)) (mvT hZ (tw110 hw)) (by decide) (backOf (W := 0) (rmDl l Z a0 hw [] b176 b236 q4 tk T252.heap n0 ZS252 Fm252 f257 Fz252) hZ (tw112 hw) (tw8 hw) (by decide) (by decide)) q260a q260c (g := (mkF m 137 #[.val (.long q1), .second, .val (.int p2), .val (.int p3), .val (.long q4), .second, .val (.long tk), .second, .val (.int (Int32.ofNat n)), .val (.int (1 : Int32)), .val (.ref b172), .val (.ref b176), .val (.ref b182), .val (.ref b176), .val (.ref b236), .val (.long (q4 + (tk / (2 : Int64)))), .second, .unset, .unset, .unset, .unset, .unset, .unset, .unset, .unset, .unset, .unset, .unset, .unset] [(.ref b176)])) rfl (by rw [hml]; rfl) (Steps.refl _) (argsL := []) (rest := []) (lenOf pd_13 rfl) rfl (by show 2 * 0 + _ ≤ _; exact Nat.le_of_eq rfl) (hb hby at_137) (fun _ _ => ⟨rfl, eq258, (by decide : 59 + 0 ≤ _), (by decide : 384 + 0 ≤ _)⟩)
    dsimp only [Pt.U, Pt.locs, Pt.cells, Pt.slots] at X260 l260 y260 z260 st260 hQ260
    subst l260 y260 z260
    obtain ⟨rfl, Nq260, eq260⟩ := hQ260
    have N260 := Fr.app N258 Nq260
    have go260 : Goes p e below s₁ (G_rm0 m q1 p2 p3 q4) T260 (mkF m 140 #[.val (.long q1), .second, .val (.int p2), .val (.int p3), .val (.long q4), .second, .val (.long tk), .second, .val (.int (Int32.ofNat n)), .val (.int (1 : Int32)), .val (.ref b172), .val (.ref b176), .val (.ref b182), .val (.ref b176), .val (.ref b236), .val (.long (q4 + (tk / (2 : Int64)))), .second, .unset, .unset, .unset, .unset, .unset, .unset, .unset, .unset, .unset, .unset, .unset, .unset] [(.long (q4 + tk))]) := fun tq kq => go259 tq (st260.trans kq)
    have go261 : Goes p e below s₁ (G_rm0 m q1 p2 p3 q4) T260 (mkF m 152 #[.val (.long q1), .second, .val (.int p2), .val (.int p3), .val (.long q4), .second, .val (.long tk), .second, .val (.int (Int32.ofNat n)), .val (.int (1 : Int32)), .val (.ref b172), .val (.ref b176), .val (.ref b182), .val (.ref b176), .val (.ref b236), .val (.long (q4 + (tk / (2 : Int64)))), .second, .val (.long (q4 + tk)), .second, .unset, .unset, .unset, .unset, .unset, .unset, .unset, .unset, .unset, .unset] [(.int (lcmpW tk ((9223372036854775807 : Int64) / ((Int32.ofNat n).toInt64))))]) := fun tq kq => go260 tq (by
      show Steps p.tables e below (T260.setTop (mkF m 140 #[.val (.long q1), .second, .val (.int p2), .val (.int p3), .val (.long q4), .second, .val (.long tk), .second, .val (.int (Int32.ofNat n)), .val (.int (1 : Int32)), .val (.ref b172), .val (.ref b176), .val (.ref b182), .val (.ref b176), .val (.ref b236), .val (.long (q4 + (tk / (2 : Int64)))), .second, .unset, .unset, .unset, .unset, .unset, .unset, .unset, .unset, .unset, .unset, .unset, .unset] [(.long (q4 + tk))])) _
      refine XS.lstore X260.here hx rfl (hb hby at_140) rfl (l' := #[.val (.long q1), .second, .val (.int p2), .val (.int p3), .val (.long q4), .second, .val (.long tk), .second, .val (.int (Int32.ofNat n)), .val (.int (1 : Int32)), .val (.ref b172), .val (.ref b176), .val (.ref b182), .val (.ref b176), .val (.ref b236), .val (.long (q4 + (tk / (2 : Int64)))), .second, .val (.long (q4 + tk)), .second, .unset, .unset, .unset, .unset, .unset, .unset, .unset, .unset, .unset, .unset]) rfl ?_
      show Steps p.tables e below (T260.setTop (mkF m 142 #[.val (.long q1), .second, .val (.int p2), .val (.int p3), .val (.long q4), .second, .val (.long tk), .second, .val (.int (Int32.ofNat n)), .val (.int (1 : Int32)), .val (.ref b172), .val (.ref b176), .val (.ref b182), .val (.ref b176), .val (.ref b236), .val (.long (q4 + (tk / (2 : Int64)))), .second, .val (.long (q4 + tk)), .second, .unset, .unset, .unset, .unset, .unset, .unset, .unset, .unset, .unset, .unset] [])) _
      refine XS.lload X260.here hx rfl (hb hby at_142) rfl ?_
      show Steps p.tables e below (T260.setTop (mkF m 144 #[.val (.long q1), .second, .val (.int p2), .val (.int p3), .val (.long q4), .second, .val (.long tk), .second, .val (.int (Int32.ofNat n)), .val (.int (1 : Int32)), .val (.ref b172), .val (.ref b176), .val (.ref b182), .val (.ref b176), .val (.ref b236), .val (.long (q4 + (tk / (2 : Int64)))), .second, .val (.long (q4 + tk)), .second, .unset, .unset, .unset, .unset, .unset, .unset, .unset, .unset, .unset, .unset] [(.long tk)])) _
      refine X260.ldc2Long hx hown (mvT hZ (tw0 hw)) (g := (mkF m 144 #[.val (.long q1), .second, .val (.int p2), .val (.int p3), .val (.long q4), .second, .val (.long tk), .second, .val (.int (Int32.ofNat n)), .val (.int (1 : Int32)), .val (.ref b172), .val (.ref b176), .val (.ref b182), .val (.ref b176), .val (.ref b236), .val (.long (q4 + (tk / (2 : Int64)))), .second, .val (.long (q4 + tk)), .second, .unset, .unset, .unset, .unset, .unset, .unset, .unset, .unset, .unset, .unset] [(.long tk)])) rfl (hb hby at_144) _ ?_
      show Steps p.tables e below (T260.setTop (mkF m 147 #[.val (.long q1), .second, .val (.int p2), .val (.int p3), .val (.long q4), .second, .val (.long tk), .second, .val (.int (Int32.ofNat n)), .val (.int (1 : Int32)), .val (.ref b172), .val (.ref b176), .val (.ref b182), .val (.ref b176), .val (.ref b236), .val (.long (q4 + (tk / (2 : Int64)))), .second, .val (.long (q4 + tk)), .second, .unset, .unset, .unset, .unset, .unset, .unset, .unset, .unset, .unset, .unset] [(.long (9223372036854775807 : Int64)), (.long tk)])) _
      refine XS.iload X260.here hx rfl (hb hby at_147) rfl ?_
      show Steps p.tables e below (T260.setTop (mkF m 149 #[.val (.long q1), .second, .val (.int p2), .val (.int p3), .val (.long q4), .second, .val (.long tk), .second, .val (.int (Int32.ofNat n)), .val (.int (1 : Int32)), .val (.ref b172), .val (.ref b176), .val (.ref b182), .val (.ref b176), .val (.ref b236), .val (.long (q4 + (tk / (2 : Int64)))), .second, .val (.long (q4 + tk)), .second, .unset, .unset, .unset, .unset, .unset, .unset, .unset, .unset, .unset, .unset] [(.int (Int32.ofNat n)), (.long (9223372036854775807 : Int64)), (.long tk)])) _
      refine XS.i2l X260.here hx rfl (hb hby at_149) rfl ?_
      show Steps p.tables e below (T260.setTop (mkF m 150 #[.val (.long q1), .second, .val (.int p2), .val (.int p3), .val (.long q4), .second, .val (.long tk), .second, .val (.int (Int32.ofNat n)), .val (.int (1 : Int32)), .val (.ref b172), .val (.ref b176), .val (.ref b182), .val (.ref b176), .val (.ref b236), .val (.long (q4 + (tk / (2 : Int64)))), .second, .val (.long (q4 + tk)), .second, .unset, .unset, .unset, .unset, .unset, .unset, .unset, .unset, .unset, .unset] [(.long ((Int32.ofNat n).toInt64)), (.long (9223372036854775807 : Int64)), (.long tk)])) _
      refine XS.ldiv X260.here hx rfl (hb hby at_150) rfl (own_nz hn1 hn16) ?_
      show Steps p.tables e below (T260.setTop (mkF m 151 #[.val (.long q1), .second, .val (.int p2), .val (.int p3), .val (.long q4), .second, .val (.long tk), .second, .val (.int (Int32.ofNat n)), .val (.int (1 : Int32)), .val (.ref b172), .val (.ref b176), .val (.ref b182), .val (.ref b176), .val (.ref b236), .val (.long (q4 + (tk / (2 : Int64)))), .second, .val (.long (q4 + tk)), .second, .unset, .unset, .unset, .unset, .unset, .unset, .unset, .unset, .unset, .unset] [(.long ((9223372036854775807 : Int64) / ((Int32.ofNat n).toInt64))), (.long tk)])) _
      refine XS.lcmp X260.here hx rfl (hb hby at_151) rfl ?_
      exact kq)
    by_cases hsp : ((9223372036854775807 : Int64) / ((Int32.ofNat n).toInt64)) < tk
    · have go270 : Goes p e below s₁ (G_rm0 m q1 p2 p3 q4) T260 (mkF m 169 #[.val (.long q1), .second, .val (.int p2), .val (.int p3), .val (.long q4), .second, .val (.long tk), .second, .val (.int (Int32.ofNat n)), .val (.int (1 : Int32)), .val (.ref b172), .val (.ref b176), .val (.ref b182), .val (.ref b176), .val (.ref b236), .val (.long (q4 + (tk / (2 : Int64)))), .second, .val (.long (q4 + tk)), .second, .val (.long (9223372036854775807 : Int64)), .second, .unset, .unset, .unset, .unset, .unset, .unset, .unset, .unset] []) := fun tq kq => go261 tq (by
        show Steps p.tables e below (T260.setTop (mkF m 152 #[.val (.long q1), .second, .val (.int p2), .val (.int p3), .val (.long q4), .second, .val (.long tk), .second, .val (.int (Int32.ofNat n)), .val (.int (1 : Int32)), .val (.ref b172), .val (.ref b176), .val (.ref b182), .val (.ref b176), .val (.ref b236), .val (.long (q4 + (tk / (2 : Int64)))), .second, .val (.long (q4 + tk)), .second, .unset, .unset, .unset, .unset, .unset, .unset, .unset, .unset, .unset, .unset] [(.int (lcmpW tk ((9223372036854775807 : Int64) / ((Int32.ofNat n).toInt64))))])) _
        refine XS.ifNo X260.here hx rfl (hb hby at_152) rfl ((if0 _ _).trans (tlt (own_lcgt hsp)).2.2.2) ?_
        show Steps p.tables e below (T260.setTop (mkF m 155 #[.val (.long q1), .second, .val (.int p2), .val (.int p3), .val (.long q4), .second, .val (.long tk), .second, .val (.int (Int32.ofNat n)), .val (.int (1 : Int32)), .val (.ref b172), .val (.ref b176), .val (.ref b182), .val (.ref b176), .val (.ref b236), .val (.long (q4 + (tk / (2 : Int64)))), .second, .val (.long (q4 + tk)), .second, .unset, .unset, .unset, .unset, .unset, .unset, .unset, .unset, .unset, .unset] [])) _
        refine X260.ldc2Long hx hown (mvT hZ (tw0 hw)) (g := (mkF m 155 #[.val (.long q1), .second, .val (.int p2), .val (.int p3), .val (.long q4), .second, .val (.long tk), .second, .val (.int (Int32.ofNat n)), .val (.int (1 : Int32)), .val (.ref b172), .val (.ref b176), .val (.ref b182), .val (.ref b176), .val (.ref b236), .val (.long (q4 + (tk / (2 : Int64)))), .second, .val (.long (q4 + tk)), .second, .unset, .unset, .unset, .unset, .unset, .unset, .unset, .unset, .unset, .unset] [])) rfl (hb hby at_155) _ ?_
        show Steps p.tables e below (T260.setTop (mkF m 158 #[.val (.long q1), .second, .val (.int p2), .val (.int p3), .val (.long q4), .second, .val (.long tk), .second, .val (.int (Int32.ofNat n)), .val (.int (1 : Int32)), .val (.ref b172), .val (.ref b176), .val (.ref b182), .val (.ref b176), .val (.ref b236), .val (.long (q4 + (tk / (2 : Int64)))), .second, .val (.long (q4 + tk)), .second, .unset, .unset, .unset, .unset, .unset, .unset, .unset, .unset, .unset, .unset] [(.long (9223372036854775807 : Int64))])) _
        refine XS.goto X260.here hx rfl (pc0 := 158) (pc' := 167) rfl (hb hby at_158) (by decide) (by decide) ?_
        show Steps p.tables e below (T260.setTop (mkF m 167 #[.val (.long q1), .second, .val (.int p2), .val (.int p3), .val (.long q4), .second, .val (.long tk), .second, .val (.int (Int32.ofNat n)), .val (.int (1 : Int32)), .val (.ref b172), .val (.ref b176), .val (.ref b182), .val (.ref b176), .val (.ref b236), .val (.long (q4 + (tk / (2 : Int64)))), .second, .val (.long (q4 + tk)), .second, .unset, .unset, .unset, .unset, .unset, .unset, .unset, .unset, .unset, .unset] [(.long (9223372036854775807 : Int64))])) _
        refine XS.lstore X260.here hx rfl (hb hby at_167) rfl (l' := #[.val (.long q1), .second, .val (.int p2), .val (.int p3), .val (.long q4), .second, .val (.long tk), .second, .val (.int (Int32.ofNat n)), .val (.int (1 : Int32)), .val (.ref b172), .val (.ref b176), .val (.ref b182), .val (.ref b176), .val (.ref b236), .val (.long (q4 + (tk / (2 : Int64)))), .second, .val (.long (q4 + tk)), .second, .val (.long (9223372036854775807 : Int64)), .second, .unset, .unset, .unset, .unset, .unset, .unset, .unset, .unset]) rfl ?_
        exact kq)
      have hS : SP0 = (9223372036854775807 : Int64) := hSP0.trans (if_pos hsp)
      have go271 : Goes p e below s₁ (G_rm0 m q1 p2 p3 q4) T260 (mkF m 171 #[.val (.long q1), .second, .val (.int p2), .val (.int p3), .val (.long q4), .second, .val (.long tk), .second, .val (.int (Int32.ofNat n)), .val (.int (1 : Int32)), .val (.ref b172), .val (.ref b176), .val (.ref b182), .val (.ref b176), .val (.ref b236), .val (.long (q4 + (tk / (2 : Int64)))), .second, .val (.long (q4 + tk)), .second, .val (.long (9223372036854775807 : Int64)), .second, .unset, .unset, .unset, .unset, .unset, .unset, .unset, .unset] [(.int (1 : Int32))]) := fun tq kq => go270 tq (by
        show Steps p.tables e below (T260.setTop (mkF m 169 #[.val (.long q1), .second, .val (.int p2), .val (.int p3), .val (.long q4), .second, .val (.long tk), .second, .val (.int (Int32.ofNat n)), .val (.int (1 : Int32)), .val (.ref b172), .val (.ref b176), .val (.ref b182), .val (.ref b176), .val (.ref b236), .val (.long (q4 + (tk / (2 : Int64)))), .second, .val (.long (q4 + tk)), .second, .val (.long (9223372036854775807 : Int64)), .second, .unset, .unset, .unset, .unset, .unset, .unset, .unset, .unset] [])) _
        refine XS.iload X260.here hx rfl (hb hby at_169) rfl ?_
        exact kq)
      have go272 : Goes p e below s₁ (G_rm0 m q1 p2 p3 q4) T260 (mkF m 183 #[.val (.long q1), .second, .val (.int p2), .val (.int p3), .val (.long q4), .second, .val (.long tk), .second, .val (.int (Int32.ofNat n)), .val (.int (1 : Int32)), .val (.ref b172), .val (.ref b176), .val (.ref b182), .val (.ref b176), .val (.ref b236), .val (.long (q4 + (tk / (2 : Int64)))), .second, .val (.long (q4 + tk)), .second, .val (.long (9223372036854775807 : Int64)), .second, .unset, .unset, .unset, .unset, .unset, .unset, .unset, .unset] [(.int (1 : Int32)), (.int (1 : Int32))]) := fun tq kq => go271 tq (by
        show Steps p.tables e below (T260.setTop (mkF m 171 #[.val (.long q1), .second, .val (.int p2), .val (.int p3), .val (.long q4), .second, .val (.long tk), .second, .val (.int (Int32.ofNat n)), .val (.int (1 : Int32)), .val (.ref b172), .val (.ref b176), .val (.ref b182), .val (.ref b176), .val (.ref b236), .val (.long (q4 + (tk / (2 : Int64)))), .second, .val (.long (q4 + tk)), .second, .val (.long (9223372036854775807 : Int64)), .second, .unset, .unset, .unset, .unset, .unset, .unset, .unset, .unset] [(.int (1 : Int32))])) _
        refine XS.ifYes X260.here hx rfl (pc0 := 171) (pc' := 180) rfl (hb hby at_171) rfl ((if0 _ _).trans (feq (by decide)).2) (by decide) (by decide) ?_
        show Steps p.tables e below (T260.setTop (mkF m 180 #[.val (.long q1), .second, .val (.int p2), .val (.int p3), .val (.long q4), .second, .val (.long tk), .second, .val (.int (Int32.ofNat n)), .val (.int (1 : Int32)), .val (.ref b172), .val (.ref b176), .val (.ref b182), .val (.ref b176), .val (.ref b236), .val (.long (q4 + (tk / (2 : Int64)))), .second, .val (.long (q4 + tk)), .second, .val (.long (9223372036854775807 : Int64)), .second, .unset, .unset, .unset, .unset, .unset, .unset, .unset, .unset] [])) _
        refine XS.iload X260.here hx rfl (hb hby at_180) rfl ?_
        show Steps p.tables e below (T260.setTop (mkF m 182 #[.val (.long q1), .second, .val (.int p2), .val (.int p3), .val (.long q4), .second, .val (.long tk), .second, .val (.int (Int32.ofNat n)), .val (.int (1 : Int32)), .val (.ref b172), .val (.ref b176), .val (.ref b182), .val (.ref b176), .val (.ref b236), .val (.long (q4 + (tk / (2 : Int64)))), .second, .val (.long (q4 + tk)), .second, .val (.long (9223372036854775807 : Int64)), .second, .unset, .unset, .unset, .unset, .unset, .unset, .unset, .unset] [(.int (1 : Int32))])) _
        refine XS.iconst X260.here hx rfl (hb hby at_182) ?_
        exact kq)
      have go273 : Goes p e below s₁ (G_rm0 m q1 p2 p3 q4) T260 (mkF m 216 #[.val (.long q1), .second, .val (.int p2), .val (.int p3), .val (.long q4), .second, .val (.long tk), .second, .val (.int (Int32.ofNat n)), .val (.int (1 : Int32)), .val (.ref b172), .val (.ref b176), .val (.ref b182), .val (.ref b176), .val (.ref b236), .val (.long (q4 + (tk / (2 : Int64)))), .second, .val (.long (q4 + tk)), .second, .val (.long (9223372036854775807 : Int64)), .second, .val (.long tk), .second, .val (.long (q4 + (tk / (2 : Int64)))), .second, .unset, .unset, .unset, .unset] [(.int (lcmpW (q4 + (tk / (2 : Int64))) (q4 + (tk / (2 : Int64)))))]) := fun tq kq => go272 tq (by
        show Steps p.tables e below (T260.setTop (mkF m 183 #[.val (.long q1), .second, .val (.int p2), .val (.int p3), .val (.long q4), .second, .val (.long tk), .second, .val (.int (Int32.ofNat n)), .val (.int (1 : Int32)), .val (.ref b172), .val (.ref b176), .val (.ref b182), .val (.ref b176), .val (.ref b236), .val (.long (q4 + (tk / (2 : Int64)))), .second, .val (.long (q4 + tk)), .second, .val (.long (9223372036854775807 : Int64)), .second, .unset, .unset, .unset, .unset, .unset, .unset, .unset, .unset] [(.int (1 : Int32)), (.int (1 : Int32))])) _
        refine XS.icmpNo X260.here hx rfl (hb hby at_183) rfl (teq (by decide)).2 ?_
        show Steps p.tables e below (T260.setTop (mkF m 186 #[.val (.long q1), .second, .val (.int p2), .val (.int p3), .val (.long q4), .second, .val (.long tk), .second, .val (.int (Int32.ofNat n)), .val (.int (1 : Int32)), .val (.ref b172), .val (.ref b176), .val (.ref b182), .val (.ref b176), .val (.ref b236), .val (.long (q4 + (tk / (2 : Int64)))), .second, .val (.long (q4 + tk)), .second, .val (.long (9223372036854775807 : Int64)), .second, .unset, .unset, .unset, .unset, .unset, .unset, .unset, .unset] [])) _
        refine XS.lload X260.here hx rfl (hb hby at_186) rfl ?_
        show Steps p.tables e below (T260.setTop (mkF m 188 #[.val (.long q1), .second, .val (.int p2), .val (.int p3), .val (.long q4), .second, .val (.long tk), .second, .val (.int (Int32.ofNat n)), .val (.int (1 : Int32)), .val (.ref b172), .val (.ref b176), .val (.ref b182), .val (.ref b176), .val (.ref b236), .val (.long (q4 + (tk / (2 : Int64)))), .second, .val (.long (q4 + tk)), .second, .val (.long (9223372036854775807 : Int64)), .second, .unset, .unset, .unset, .unset, .unset, .unset, .unset, .unset] [(.long tk)])) _
        refine XS.lstore X260.here hx rfl (hb hby at_188) rfl (l' := #[.val (.long q1), .second, .val (.int p2), .val (.int p3), .val (.long q4), .second, .val (.long tk), .second, .val (.int (Int32.ofNat n)), .val (.int (1 : Int32)), .val (.ref b172), .val (.ref b176), .val (.ref b182), .val (.ref b176), .val (.ref b236), .val (.long (q4 + (tk / (2 : Int64)))), .second, .val (.long (q4 + tk)), .second, .val (.long (9223372036854775807 : Int64)), .second, .val (.long tk), .second, .unset, .unset, .unset, .unset, .unset, .unset]) rfl ?_
        show Steps p.tables e below (T260.setTop (mkF m 190 #[.val (.long q1), .second, .val (.int p2), .val (.int p3), .val (.long q4), .second, .val (.long tk), .second, .val (.int (Int32.ofNat n)), .val (.int (1 : Int32)), .val (.ref b172), .val (.ref b176), .val (.ref b182), .val (.ref b176), .val (.ref b236), .val (.long (q4 + (tk / (2 : Int64)))), .second, .val (.long (q4 + tk)), .second, .val (.long (9223372036854775807 : Int64)), .second, .val (.long tk), .second, .unset, .unset, .unset, .unset, .unset, .unset] [])) _
        refine XS.goto X260.here hx rfl (pc0 := 190) (pc' := 200) rfl (hb hby at_190) (by decide) (by decide) ?_
        show Steps p.tables e below (T260.setTop (mkF m 200 #[.val (.long q1), .second, .val (.int p2), .val (.int p3), .val (.long q4), .second, .val (.long tk), .second, .val (.int (Int32.ofNat n)), .val (.int (1 : Int32)), .val (.ref b172), .val (.ref b176), .val (.ref b182), .val (.ref b176), .val (.ref b236), .val (.long (q4 + (tk / (2 : Int64)))), .second, .val (.long (q4 + tk)), .second, .val (.long (9223372036854775807 : Int64)), .second, .val (.long tk), .second, .unset, .unset, .unset, .unset, .unset, .unset] [])) _
        refine XS.lload X260.here hx rfl (hb hby at_200) rfl ?_
        show Steps p.tables e below (T260.setTop (mkF m 202 #[.val (.long q1), .second, .val (.int p2), .val (.int p3), .val (.long q4), .second, .val (.long tk), .second, .val (.int (Int32.ofNat n)), .val (.int (1 : Int32)), .val (.ref b172), .val (.ref b176), .val (.ref b182), .val (.ref b176), .val (.ref b236), .val (.long (q4 + (tk / (2 : Int64)))), .second, .val (.long (q4 + tk)), .second, .val (.long (9223372036854775807 : Int64)), .second, .val (.long tk), .second, .unset, .unset, .unset, .unset, .unset, .unset] [(.long q4)])) _
        refine XS.lload X260.here hx rfl (hb hby at_202) rfl ?_
        show Steps p.tables e below (T260.setTop (mkF m 204 #[.val (.long q1), .second, .val (.int p2), .val (.int p3), .val (.long q4), .second, .val (.long tk), .second, .val (.int (Int32.ofNat n)), .val (.int (1 : Int32)), .val (.ref b172), .val (.ref b176), .val (.ref b182), .val (.ref b176), .val (.ref b236), .val (.long (q4 + (tk / (2 : Int64)))), .second, .val (.long (q4 + tk)), .second, .val (.long (9223372036854775807 : Int64)), .second, .val (.long tk), .second, .unset, .unset, .unset, .unset, .unset, .unset] [(.long tk), (.long q4)])) _
        refine X260.ldc2Long hx hown (mvT hZ (tw113 hw)) (g := (mkF m 204 #[.val (.long q1), .second, .val (.int p2), .val (.int p3), .val (.long q4), .second, .val (.long tk), .second, .val (.int (Int32.ofNat n)), .val (.int (1 : Int32)), .val (.ref b172), .val (.ref b176), .val (.ref b182), .val (.ref b176), .val (.ref b236), .val (.long (q4 + (tk / (2 : Int64)))), .second, .val (.long (q4 + tk)), .second, .val (.long (9223372036854775807 : Int64)), .second, .val (.long tk), .second, .unset, .unset, .unset, .unset, .unset, .unset] [(.long tk), (.long q4)])) rfl (hb hby at_204) _ ?_
        show Steps p.tables e below (T260.setTop (mkF m 207 #[.val (.long q1), .second, .val (.int p2), .val (.int p3), .val (.long q4), .second, .val (.long tk), .second, .val (.int (Int32.ofNat n)), .val (.int (1 : Int32)), .val (.ref b172), .val (.ref b176), .val (.ref b182), .val (.ref b176), .val (.ref b236), .val (.long (q4 + (tk / (2 : Int64)))), .second, .val (.long (q4 + tk)), .second, .val (.long (9223372036854775807 : Int64)), .second, .val (.long tk), .second, .unset, .unset, .unset, .unset, .unset, .unset] [(.long (2 : Int64)), (.long tk), (.long q4)])) _
        refine XS.ldiv X260.here hx rfl (hb hby at_207) rfl (by decide) ?_
        show Steps p.tables e below (T260.setTop (mkF m 208 #[.val (.long q1), .second, .val (.int p2), .val (.int p3), .val (.long q4), .second, .val (.long tk), .second, .val (.int (Int32.ofNat n)), .val (.int (1 : Int32)), .val (.ref b172), .val (.ref b176), .val (.ref b182), .val (.ref b176), .val (.ref b236), .val (.long (q4 + (tk / (2 : Int64)))), .second, .val (.long (q4 + tk)), .second, .val (.long (9223372036854775807 : Int64)), .second, .val (.long tk), .second, .unset, .unset, .unset, .unset, .unset, .unset] [(.long (tk / (2 : Int64))), (.long q4)])) _
        refine XS.ladd X260.here hx rfl (hb hby at_208) rfl ?_
        show Steps p.tables e below (T260.setTop (mkF m 209 #[.val (.long q1), .second, .val (.int p2), .val (.int p3), .val (.long q4), .second, .val (.long tk), .second, .val (.int (Int32.ofNat n)), .val (.int (1 : Int32)), .val (.ref b172), .val (.ref b176), .val (.ref b182), .val (.ref b176), .val (.ref b236), .val (.long (q4 + (tk / (2 : Int64)))), .second, .val (.long (q4 + tk)), .second, .val (.long (9223372036854775807 : Int64)), .second, .val (.long tk), .second, .unset, .unset, .unset, .unset, .unset, .unset] [(.long (q4 + (tk / (2 : Int64))))])) _
        refine XS.lstore X260.here hx rfl (hb hby at_209) rfl (l' := #[.val (.long q1), .second, .val (.int p2), .val (.int p3), .val (.long q4), .second, .val (.long tk), .second, .val (.int (Int32.ofNat n)), .val (.int (1 : Int32)), .val (.ref b172), .val (.ref b176), .val (.ref b182), .val (.ref b176), .val (.ref b236), .val (.long (q4 + (tk / (2 : Int64)))), .second, .val (.long (q4 + tk)), .second, .val (.long (9223372036854775807 : Int64)), .second, .val (.long tk), .second, .val (.long (q4 + (tk / (2 : Int64)))), .second, .unset, .unset, .unset, .unset]) rfl ?_
        show Steps p.tables e below (T260.setTop (mkF m 211 #[.val (.long q1), .second, .val (.int p2), .val (.int p3), .val (.long q4), .second, .val (.long tk), .second, .val (.int (Int32.ofNat n)), .val (.int (1 : Int32)), .val (.ref b172), .val (.ref b176), .val (.ref b182), .val (.ref b176), .val (.ref b236), .val (.long (q4 + (tk / (2 : Int64)))), .second, .val (.long (q4 + tk)), .second, .val (.long (9223372036854775807 : Int64)), .second, .val (.long tk), .second, .val (.long (q4 + (tk / (2 : Int64)))), .second, .unset, .unset, .unset, .unset] [])) _
        refine XS.lload X260.here hx rfl (hb hby at_211) rfl ?_
        show Steps p.tables e below (T260.setTop (mkF m 213 #[.val (.long q1), .second, .val (.int p2), .val (.int p3), .val (.long q4), .second, .val (.long tk), .second, .val (.int (Int32.ofNat n)), .val (.int (1 : Int32)), .val (.ref b172), .val (.ref b176), .val (.ref b182), .val (.ref b176), .val (.ref b236), .val (.long (q4 + (tk / (2 : Int64)))), .second, .val (.long (q4 + tk)), .second, .val (.long (9223372036854775807 : Int64)), .second, .val (.long tk), .second, .val (.long (q4 + (tk / (2 : Int64)))), .second, .unset, .unset, .unset, .unset] [(.long (q4 + (tk / (2 : Int64))))])) _
        refine XS.lload X260.here hx rfl (hb hby at_213) rfl ?_
        show Steps p.tables e below (T260.setTop (mkF m 215 #[.val (.long q1), .second, .val (.int p2), .val (.int p3), .val (.long q4), .second, .val (.long tk), .second, .val (.int (Int32.ofNat n)), .val (.int (1 : Int32)), .val (.ref b172), .val (.ref b176), .val (.ref b182), .val (.ref b176), .val (.ref b236), .val (.long (q4 + (tk / (2 : Int64)))), .second, .val (.long (q4 + tk)), .second, .val (.long (9223372036854775807 : Int64)), .second, .val (.long tk), .second, .val (.long (q4 + (tk / (2 : Int64)))), .second, .unset, .unset, .unset, .unset] [(.long (q4 + (tk / (2 : Int64)))), (.long (q4 + (tk / (2 : Int64))))])) _
        refine XS.lcmp X260.here hx rfl (hb hby at_215) rfl ?_
        exact kq)
      have hme : (q4 + (tk / (2 : Int64))) = (q4 + (tk / (2 : Int64))) := by rfl
      have go274 : Goes p e below s₁ (G_rm0 m q1 p2 p3 q4) T260 (mkF m 239 #[.val (.long q1), .second, .val (.int p2), .val (.int p3), .val (.long q4), .second, .val (.long tk), .second, .val (.int (Int32.ofNat n)), .val (.int (1 : Int32)), .val (.ref b172), .val (.ref b176), .val (.ref b182), .val (.ref b176), .val (.ref b236), .val (.long (q4 + (tk / (2 : Int64)))), .second, .val (.long (q4 + tk)), .second, .val (.long (9223372036854775807 : Int64)), .second, .val (.long tk), .second, .val (.long (q4 + (tk / (2 : Int64)))), .second, .val (.long ((q4 + (tk / (2 : Int64))) - q4)), .second, .val (.long ((q4 + tk) - q4)), .second] [(.int (lcmpW ((q4 + (tk / (2 : Int64))) - q4) (0 : Int64)))]) := fun tq kq => go273 tq (by
        show Steps p.tables e below (T260.setTop (mkF m 216 #[.val (.long q1), .second, .val (.int p2), .val (.int p3), .val (.long q4), .second, .val (.long tk), .second, .val (.int (Int32.ofNat n)), .val (.int (1 : Int32)), .val (.ref b172), .val (.ref b176), .val (.ref b182), .val (.ref b176), .val (.ref b236), .val (.long (q4 + (tk / (2 : Int64)))), .second, .val (.long (q4 + tk)), .second, .val (.long (9223372036854775807 : Int64)), .second, .val (.long tk), .second, .val (.long (q4 + (tk / (2 : Int64)))), .second, .unset, .unset, .unset, .unset] [(.int (lcmpW (q4 + (tk / (2 : Int64))) (q4 + (tk / (2 : Int64)))))])) _
        refine XS.ifYes X260.here hx rfl (pc0 := 216) (pc' := 221) rfl (hb hby at_216) rfl ((if0 _ _).trans (teq (own_lceq hme)).1) (by decide) (by decide) ?_
        show Steps p.tables e below (T260.setTop (mkF m 221 #[.val (.long q1), .second, .val (.int p2), .val (.int p3), .val (.long q4), .second, .val (.long tk), .second, .val (.int (Int32.ofNat n)), .val (.int (1 : Int32)), .val (.ref b172), .val (.ref b176), .val (.ref b182), .val (.ref b176), .val (.ref b236), .val (.long (q4 + (tk / (2 : Int64)))), .second, .val (.long (q4 + tk)), .second, .val (.long (9223372036854775807 : Int64)), .second, .val (.long tk), .second, .val (.long (q4 + (tk / (2 : Int64)))), .second, .unset, .unset, .unset, .unset] [])) _
        refine XS.lload X260.here hx rfl (hb hby at_221) rfl ?_
        show Steps p.tables e below (T260.setTop (mkF m 223 #[.val (.long q1), .second, .val (.int p2), .val (.int p3), .val (.long q4), .second, .val (.long tk), .second, .val (.int (Int32.ofNat n)), .val (.int (1 : Int32)), .val (.ref b172), .val (.ref b176), .val (.ref b182), .val (.ref b176), .val (.ref b236), .val (.long (q4 + (tk / (2 : Int64)))), .second, .val (.long (q4 + tk)), .second, .val (.long (9223372036854775807 : Int64)), .second, .val (.long tk), .second, .val (.long (q4 + (tk / (2 : Int64)))), .second, .unset, .unset, .unset, .unset] [(.long (q4 + (tk / (2 : Int64))))])) _
        refine XS.lload X260.here hx rfl (hb hby at_223) rfl ?_
        show Steps p.tables e below (T260.setTop (mkF m 225 #[.val (.long q1), .second, .val (.int p2), .val (.int p3), .val (.long q4), .second, .val (.long tk), .second, .val (.int (Int32.ofNat n)), .val (.int (1 : Int32)), .val (.ref b172), .val (.ref b176), .val (.ref b182), .val (.ref b176), .val (.ref b236), .val (.long (q4 + (tk / (2 : Int64)))), .second, .val (.long (q4 + tk)), .second, .val (.long (9223372036854775807 : Int64)), .second, .val (.long tk), .second, .val (.long (q4 + (tk / (2 : Int64)))), .second, .unset, .unset, .unset, .unset] [(.long q4), (.long (q4 + (tk / (2 : Int64))))])) _
        refine XS.lsub X260.here hx rfl (hb hby at_225) rfl ?_
        show Steps p.tables e below (T260.setTop (mkF m 226 #[.val (.long q1), .second, .val (.int p2), .val (.int p3), .val (.long q4), .second, .val (.long tk), .second, .val (.int (Int32.ofNat n)), .val (.int (1 : Int32)), .val (.ref b172), .val (.ref b176), .val (.ref b182), .val (.ref b176), .val (.ref b236), .val (.long (q4 + (tk / (2 : Int64)))), .second, .val (.long (q4 + tk)), .second, .val (.long (9223372036854775807 : Int64)), .second, .val (.long tk), .second, .val (.long (q4 + (tk / (2 : Int64)))), .second, .unset, .unset, .unset, .unset] [(.long ((q4 + (tk / (2 : Int64))) - q4))])) _
        refine XS.lstore X260.here hx rfl (hb hby at_226) rfl (l' := #[.val (.long q1), .second, .val (.int p2), .val (.int p3), .val (.long q4), .second, .val (.long tk), .second, .val (.int (Int32.ofNat n)), .val (.int (1 : Int32)), .val (.ref b172), .val (.ref b176), .val (.ref b182), .val (.ref b176), .val (.ref b236), .val (.long (q4 + (tk / (2 : Int64)))), .second, .val (.long (q4 + tk)), .second, .val (.long (9223372036854775807 : Int64)), .second, .val (.long tk), .second, .val (.long (q4 + (tk / (2 : Int64)))), .second, .val (.long ((q4 + (tk / (2 : Int64))) - q4)), .second, .unset, .unset]) rfl ?_
        show Steps p.tables e below (T260.setTop (mkF m 228 #[.val (.long q1), .second, .val (.int p2), .val (.int p3), .val (.long q4), .second, .val (.long tk), .second, .val (.int (Int32.ofNat n)), .val (.int (1 : Int32)), .val (.ref b172), .val (.ref b176), .val (.ref b182), .val (.ref b176), .val (.ref b236), .val (.long (q4 + (tk / (2 : Int64)))), .second, .val (.long (q4 + tk)), .second, .val (.long (9223372036854775807 : Int64)), .second, .val (.long tk), .second, .val (.long (q4 + (tk / (2 : Int64)))), .second, .val (.long ((q4 + (tk / (2 : Int64))) - q4)), .second, .unset, .unset] [])) _
        refine XS.lload X260.here hx rfl (hb hby at_228) rfl ?_
        show Steps p.tables e below (T260.setTop (mkF m 230 #[.val (.long q1), .second, .val (.int p2), .val (.int p3), .val (.long q4), .second, .val (.long tk), .second, .val (.int (Int32.ofNat n)), .val (.int (1 : Int32)), .val (.ref b172), .val (.ref b176), .val (.ref b182), .val (.ref b176), .val (.ref b236), .val (.long (q4 + (tk / (2 : Int64)))), .second, .val (.long (q4 + tk)), .second, .val (.long (9223372036854775807 : Int64)), .second, .val (.long tk), .second, .val (.long (q4 + (tk / (2 : Int64)))), .second, .val (.long ((q4 + (tk / (2 : Int64))) - q4)), .second, .unset, .unset] [(.long (q4 + tk))])) _
        refine XS.lload X260.here hx rfl (hb hby at_230) rfl ?_
        show Steps p.tables e below (T260.setTop (mkF m 232 #[.val (.long q1), .second, .val (.int p2), .val (.int p3), .val (.long q4), .second, .val (.long tk), .second, .val (.int (Int32.ofNat n)), .val (.int (1 : Int32)), .val (.ref b172), .val (.ref b176), .val (.ref b182), .val (.ref b176), .val (.ref b236), .val (.long (q4 + (tk / (2 : Int64)))), .second, .val (.long (q4 + tk)), .second, .val (.long (9223372036854775807 : Int64)), .second, .val (.long tk), .second, .val (.long (q4 + (tk / (2 : Int64)))), .second, .val (.long ((q4 + (tk / (2 : Int64))) - q4)), .second, .unset, .unset] [(.long q4), (.long (q4 + tk))])) _
        refine XS.lsub X260.here hx rfl (hb hby at_232) rfl ?_
        show Steps p.tables e below (T260.setTop (mkF m 233 #[.val (.long q1), .second, .val (.int p2), .val (.int p3), .val (.long q4), .second, .val (.long tk), .second, .val (.int (Int32.ofNat n)), .val (.int (1 : Int32)), .val (.ref b172), .val (.ref b176), .val (.ref b182), .val (.ref b176), .val (.ref b236), .val (.long (q4 + (tk / (2 : Int64)))), .second, .val (.long (q4 + tk)), .second, .val (.long (9223372036854775807 : Int64)), .second, .val (.long tk), .second, .val (.long (q4 + (tk / (2 : Int64)))), .second, .val (.long ((q4 + (tk / (2 : Int64))) - q4)), .second, .unset, .unset] [(.long ((q4 + tk) - q4))])) _
        refine XS.lstore X260.here hx rfl (hb hby at_233) rfl (l' := #[.val (.long q1), .second, .val (.int p2), .val (.int p3), .val (.long q4), .second, .val (.long tk), .second, .val (.int (Int32.ofNat n)), .val (.int (1 : Int32)), .val (.ref b172), .val (.ref b176), .val (.ref b182), .val (.ref b176), .val (.ref b236), .val (.long (q4 + (tk / (2 : Int64)))), .second, .val (.long (q4 + tk)), .second, .val (.long (9223372036854775807 : Int64)), .second, .val (.long tk), .second, .val (.long (q4 + (tk / (2 : Int64)))), .second, .val (.long ((q4 + (tk / (2 : Int64))) - q4)), .second, .val (.long ((q4 + tk) - q4)), .second]) rfl ?_
        show Steps p.tables e below (T260.setTop (mkF m 235 #[.val (.long q1), .second, .val (.int p2), .val (.int p3), .val (.long q4), .second, .val (.long tk), .second, .val (.int (Int32.ofNat n)), .val (.int (1 : Int32)), .val (.ref b172), .val (.ref b176), .val (.ref b182), .val (.ref b176), .val (.ref b236), .val (.long (q4 + (tk / (2 : Int64)))), .second, .val (.long (q4 + tk)), .second, .val (.long (9223372036854775807 : Int64)), .second, .val (.long tk), .second, .val (.long (q4 + (tk / (2 : Int64)))), .second, .val (.long ((q4 + (tk / (2 : Int64))) - q4)), .second, .val (.long ((q4 + tk) - q4)), .second] [])) _
        refine XS.lload X260.here hx rfl (hb hby at_235) rfl ?_
        show Steps p.tables e below (T260.setTop (mkF m 237 #[.val (.long q1), .second, .val (.int p2), .val (.int p3), .val (.long q4), .second, .val (.long tk), .second, .val (.int (Int32.ofNat n)), .val (.int (1 : Int32)), .val (.ref b172), .val (.ref b176), .val (.ref b182), .val (.ref b176), .val (.ref b236), .val (.long (q4 + (tk / (2 : Int64)))), .second, .val (.long (q4 + tk)), .second, .val (.long (9223372036854775807 : Int64)), .second, .val (.long tk), .second, .val (.long (q4 + (tk / (2 : Int64)))), .second, .val (.long ((q4 + (tk / (2 : Int64))) - q4)), .second, .val (.long ((q4 + tk) - q4)), .second] [(.long ((q4 + (tk / (2 : Int64))) - q4))])) _
        refine XS.lconst X260.here hx rfl (hb hby at_237) ?_
        show Steps p.tables e below (T260.setTop (mkF m 238 #[.val (.long q1), .second, .val (.int p2), .val (.int p3), .val (.long q4), .second, .val (.long tk), .second, .val (.int (Int32.ofNat n)), .val (.int (1 : Int32)), .val (.ref b172), .val (.ref b176), .val (.ref b182), .val (.ref b176), .val (.ref b236), .val (.long (q4 + (tk / (2 : Int64)))), .second, .val (.long (q4 + tk)), .second, .val (.long (9223372036854775807 : Int64)), .second, .val (.long tk), .second, .val (.long (q4 + (tk / (2 : Int64)))), .second, .val (.long ((q4 + (tk / (2 : Int64))) - q4)), .second, .val (.long ((q4 + tk) - q4)), .second] [(.long (0 : Int64)), (.long ((q4 + (tk / (2 : Int64))) - q4))])) _
        refine XS.lcmp X260.here hx rfl (hb hby at_238) rfl ?_
        exact kq)
      have go275 : Goes p e below s₁ (G_rm0 m q1 p2 p3 q4) T260 (mkF m 251 #[.val (.long q1), .second, .val (.int p2), .val (.int p3), .val (.long q4), .second, .val (.long tk), .second, .val (.int (Int32.ofNat n)), .val (.int (1 : Int32)), .val (.ref b172), .val (.ref b176), .val (.ref b182), .val (.ref b176), .val (.ref b236), .val (.long (q4 + (tk / (2 : Int64)))), .second, .val (.long (q4 + tk)), .second, .val (.long (9223372036854775807 : Int64)), .second, .val (.long tk), .second, .val (.long (q4 + (tk / (2 : Int64)))), .second, .val (.long ((q4 + (tk / (2 : Int64))) - q4)), .second, .val (.long ((q4 + tk) - q4)), .second] [(.int (lcmpW ((2 : Int64) * ((q4 + (tk / (2 : Int64))) - q4)) ((q4 + tk) - q4)))]) := fun tq kq => go274 tq (by
        show Steps p.tables e below (T260.setTop (mkF m 239 #[.val (.long q1), .second, .val (.int p2), .val (.int p3), .val (.long q4), .second, .val (.long tk), .second, .val (.int (Int32.ofNat n)), .val (.int (1 : Int32)), .val (.ref b172), .val (.ref b176), .val (.ref b182), .val (.ref b176), .val (.ref b236), .val (.long (q4 + (tk / (2 : Int64)))), .second, .val (.long (q4 + tk)), .second, .val (.long (9223372036854775807 : Int64)), .second, .val (.long tk), .second, .val (.long (q4 + (tk / (2 : Int64)))), .second, .val (.long ((q4 + (tk / (2 : Int64))) - q4)), .second, .val (.long ((q4 + tk) - q4)), .second] [(.int (lcmpW ((q4 + (tk / (2 : Int64))) - q4) (0 : Int64)))])) _
        refine XS.ifNo X260.here hx rfl (hb hby at_239) rfl ((if0 _ _).trans (flt (own_lcge (own_m1 q4 hmt))).1) ?_
        show Steps p.tables e below (T260.setTop (mkF m 242 #[.val (.long q1), .second, .val (.int p2), .val (.int p3), .val (.long q4), .second, .val (.long tk), .second, .val (.int (Int32.ofNat n)), .val (.int (1 : Int32)), .val (.ref b172), .val (.ref b176), .val (.ref b182), .val (.ref b176), .val (.ref b236), .val (.long (q4 + (tk / (2 : Int64)))), .second, .val (.long (q4 + tk)), .second, .val (.long (9223372036854775807 : Int64)), .second, .val (.long tk), .second, .val (.long (q4 + (tk / (2 : Int64)))), .second, .val (.long ((q4 + (tk / (2 : Int64))) - q4)), .second, .val (.long ((q4 + tk) - q4)), .second] [])) _
        refine X260.ldc2Long hx hown (mvT hZ (tw113 hw)) (g := (mkF m 242 #[.val (.long q1), .second, .val (.int p2), .val (.int p3), .val (.long q4), .second, .val (.long tk), .second, .val (.int (Int32.ofNat n)), .val (.int (1 : Int32)), .val (.ref b172), .val (.ref b176), .val (.ref b182), .val (.ref b176), .val (.ref b236), .val (.long (q4 + (tk / (2 : Int64)))), .second, .val (.long (q4 + tk)), .second, .val (.long (9223372036854775807 : Int64)), .second, .val (.long tk), .second, .val (.long (q4 + (tk / (2 : Int64)))), .second, .val (.long ((q4 + (tk / (2 : Int64))) - q4)), .second, .val (.long ((q4 + tk) - q4)), .second] [])) rfl (hb hby at_242) _ ?_
        show Steps p.tables e below (T260.setTop (mkF m 245 #[.val (.long q1), .second, .val (.int p2), .val (.int p3), .val (.long q4), .second, .val (.long tk), .second, .val (.int (Int32.ofNat n)), .val (.int (1 : Int32)), .val (.ref b172), .val (.ref b176), .val (.ref b182), .val (.ref b176), .val (.ref b236), .val (.long (q4 + (tk / (2 : Int64)))), .second, .val (.long (q4 + tk)), .second, .val (.long (9223372036854775807 : Int64)), .second, .val (.long tk), .second, .val (.long (q4 + (tk / (2 : Int64)))), .second, .val (.long ((q4 + (tk / (2 : Int64))) - q4)), .second, .val (.long ((q4 + tk) - q4)), .second] [(.long (2 : Int64))])) _
        refine XS.lload X260.here hx rfl (hb hby at_245) rfl ?_
        show Steps p.tables e below (T260.setTop (mkF m 247 #[.val (.long q1), .second, .val (.int p2), .val (.int p3), .val (.long q4), .second, .val (.long tk), .second, .val (.int (Int32.ofNat n)), .val (.int (1 : Int32)), .val (.ref b172), .val (.ref b176), .val (.ref b182), .val (.ref b176), .val (.ref b236), .val (.long (q4 + (tk / (2 : Int64)))), .second, .val (.long (q4 + tk)), .second, .val (.long (9223372036854775807 : Int64)), .second, .val (.long tk), .second, .val (.long (q4 + (tk / (2 : Int64)))), .second, .val (.long ((q4 + (tk / (2 : Int64))) - q4)), .second, .val (.long ((q4 + tk) - q4)), .second] [(.long ((q4 + (tk / (2 : Int64))) - q4)), (.long (2 : Int64))])) _
        refine XS.lmul X260.here hx rfl (hb hby at_247) rfl ?_
        show Steps p.tables e below (T260.setTop (mkF m 248 #[.val (.long q1), .second, .val (.int p2), .val (.int p3), .val (.long q4), .second, .val (.long tk), .second, .val (.int (Int32.ofNat n)), .val (.int (1 : Int32)), .val (.ref b172), .val (.ref b176), .val (.ref b182), .val (.ref b176), .val (.ref b236), .val (.long (q4 + (tk / (2 : Int64)))), .second, .val (.long (q4 + tk)), .second, .val (.long (9223372036854775807 : Int64)), .second, .val (.long tk), .second, .val (.long (q4 + (tk / (2 : Int64)))), .second, .val (.long ((q4 + (tk / (2 : Int64))) - q4)), .second, .val (.long ((q4 + tk) - q4)), .second] [(.long ((2 : Int64) * ((q4 + (tk / (2 : Int64))) - q4)))])) _
        refine XS.lload X260.here hx rfl (hb hby at_248) rfl ?_
        show Steps p.tables e below (T260.setTop (mkF m 250 #[.val (.long q1), .second, .val (.int p2), .val (.int p3), .val (.long q4), .second, .val (.long tk), .second, .val (.int (Int32.ofNat n)), .val (.int (1 : Int32)), .val (.ref b172), .val (.ref b176), .val (.ref b182), .val (.ref b176), .val (.ref b236), .val (.long (q4 + (tk / (2 : Int64)))), .second, .val (.long (q4 + tk)), .second, .val (.long (9223372036854775807 : Int64)), .second, .val (.long tk), .second, .val (.long (q4 + (tk / (2 : Int64)))), .second, .val (.long ((q4 + (tk / (2 : Int64))) - q4)), .second, .val (.long ((q4 + tk) - q4)), .second] [(.long ((q4 + tk) - q4)), (.long ((2 : Int64) * ((q4 + (tk / (2 : Int64))) - q4)))])) _
        refine XS.lcmp X260.here hx rfl (hb hby at_250) rfl ?_
        exact kq)
      have go276 : Goes p e below s₁ (G_rm0 m q1 p2 p3 q4) T260 (mkF m 265 #[.val (.long q1), .second, .val (.int p2), .val (.int p3), .val (.long q4), .second, .val (.long tk), .second, .val (.int (Int32.ofNat n)), .val (.int (1 : Int32)), .val (.ref b172), .val (.ref b176), .val (.ref b182), .val (.ref b176), .val (.ref b236), .val (.long (q4 + (tk / (2 : Int64)))), .second, .val (.long (q4 + tk)), .second, .val (.long (9223372036854775807 : Int64)), .second, .val (.long tk), .second, .val (.long (q4 + (tk / (2 : Int64)))), .second, .val (.long ((q4 + (tk / (2 : Int64))) - q4)), .second, .val (.long ((q4 + tk) - q4)), .second] [(.int (lcmpW (((q4 + tk) - q4) - ((2 : Int64) * ((q4 + (tk / (2 : Int64))) - q4))) (1 : Int64)))]) := fun tq kq => go275 tq (by
        show Steps p.tables e below (T260.setTop (mkF m 251 #[.val (.long q1), .second, .val (.int p2), .val (.int p3), .val (.long q4), .second, .val (.long tk), .second, .val (.int (Int32.ofNat n)), .val (.int (1 : Int32)), .val (.ref b172), .val (.ref b176), .val (.ref b182), .val (.ref b176), .val (.ref b236), .val (.long (q4 + (tk / (2 : Int64)))), .second, .val (.long (q4 + tk)), .second, .val (.long (9223372036854775807 : Int64)), .second, .val (.long tk), .second, .val (.long (q4 + (tk / (2 : Int64)))), .second, .val (.long ((q4 + (tk / (2 : Int64))) - q4)), .second, .val (.long ((q4 + tk) - q4)), .second] [(.int (lcmpW ((2 : Int64) * ((q4 + (tk / (2 : Int64))) - q4)) ((q4 + tk) - q4)))])) _
        refine XS.ifNo X260.here hx rfl (hb hby at_251) rfl ((if0 _ _).trans (flt (own_lcle (own_m2 q4 hmt))).2.2.1) ?_
        show Steps p.tables e below (T260.setTop (mkF m 254 #[.val (.long q1), .second, .val (.int p2), .val (.int p3), .val (.long q4), .second, .val (.long tk), .second, .val (.int (Int32.ofNat n)), .val (.int (1 : Int32)), .val (.ref b172), .val (.ref b176), .val (.ref b182), .val (.ref b176), .val (.ref b236), .val (.long (q4 + (tk / (2 : Int64)))), .second, .val (.long (q4 + tk)), .second, .val (.long (9223372036854775807 : Int64)), .second, .val (.long tk), .second, .val (.long (q4 + (tk / (2 : Int64)))), .second, .val (.long ((q4 + (tk / (2 : Int64))) - q4)), .second, .val (.long ((q4 + tk) - q4)), .second] [])) _
        refine XS.lload X260.here hx rfl (hb hby at_254) rfl ?_
        show Steps p.tables e below (T260.setTop (mkF m 256 #[.val (.long q1), .second, .val (.int p2), .val (.int p3), .val (.long q4), .second, .val (.long tk), .second, .val (.int (Int32.ofNat n)), .val (.int (1 : Int32)), .val (.ref b172), .val (.ref b176), .val (.ref b182), .val (.ref b176), .val (.ref b236), .val (.long (q4 + (tk / (2 : Int64)))), .second, .val (.long (q4 + tk)), .second, .val (.long (9223372036854775807 : Int64)), .second, .val (.long tk), .second, .val (.long (q4 + (tk / (2 : Int64)))), .second, .val (.long ((q4 + (tk / (2 : Int64))) - q4)), .second, .val (.long ((q4 + tk) - q4)), .second] [(.long ((q4 + tk) - q4))])) _
        refine X260.ldc2Long hx hown (mvT hZ (tw113 hw)) (g := (mkF m 256 #[.val (.long q1), .second, .val (.int p2), .val (.int p3), .val (.long q4), .second, .val (.long tk), .second, .val (.int (Int32.ofNat n)), .val (.int (1 : Int32)), .val (.ref b172), .val (.ref b176), .val (.ref b182), .val (.ref b176), .val (.ref b236), .val (.long (q4 + (tk / (2 : Int64)))), .second, .val (.long (q4 + tk)), .second, .val (.long (9223372036854775807 : Int64)), .second, .val (.long tk), .second, .val (.long (q4 + (tk / (2 : Int64)))), .second, .val (.long ((q4 + (tk / (2 : Int64))) - q4)), .second, .val (.long ((q4 + tk) - q4)), .second] [(.long ((q4 + tk) - q4))])) rfl (hb hby at_256) _ ?_
        show Steps p.tables e below (T260.setTop (mkF m 259 #[.val (.long q1), .second, .val (.int p2), .val (.int p3), .val (.long q4), .second, .val (.long tk), .second, .val (.int (Int32.ofNat n)), .val (.int (1 : Int32)), .val (.ref b172), .val (.ref b176), .val (.ref b182), .val (.ref b176), .val (.ref b236), .val (.long (q4 + (tk / (2 : Int64)))), .second, .val (.long (q4 + tk)), .second, .val (.long (9223372036854775807 : Int64)), .second, .val (.long tk), .second, .val (.long (q4 + (tk / (2 : Int64)))), .second, .val (.long ((q4 + (tk / (2 : Int64))) - q4)), .second, .val (.long ((q4 + tk) - q4)), .second] [(.long (2 : Int64)), (.long ((q4 + tk) - q4))])) _
        refine XS.lload X260.here hx rfl (hb hby at_259) rfl ?_
        show Steps p.tables e below (T260.setTop (mkF m 261 #[.val (.long q1), .second, .val (.int p2), .val (.int p3), .val (.long q4), .second, .val (.long tk), .second, .val (.int (Int32.ofNat n)), .val (.int (1 : Int32)), .val (.ref b172), .val (.ref b176), .val (.ref b182), .val (.ref b176), .val (.ref b236), .val (.long (q4 + (tk / (2 : Int64)))), .second, .val (.long (q4 + tk)), .second, .val (.long (9223372036854775807 : Int64)), .second, .val (.long tk), .second, .val (.long (q4 + (tk / (2 : Int64)))), .second, .val (.long ((q4 + (tk / (2 : Int64))) - q4)), .second, .val (.long ((q4 + tk) - q4)), .second] [(.long ((q4 + (tk / (2 : Int64))) - q4)), (.long (2 : Int64)), (.long ((q4 + tk) - q4))])) _
        refine XS.lmul X260.here hx rfl (hb hby at_261) rfl ?_
        show Steps p.tables e below (T260.setTop (mkF m 262 #[.val (.long q1), .second, .val (.int p2), .val (.int p3), .val (.long q4), .second, .val (.long tk), .second, .val (.int (Int32.ofNat n)), .val (.int (1 : Int32)), .val (.ref b172), .val (.ref b176), .val (.ref b182), .val (.ref b176), .val (.ref b236), .val (.long (q4 + (tk / (2 : Int64)))), .second, .val (.long (q4 + tk)), .second, .val (.long (9223372036854775807 : Int64)), .second, .val (.long tk), .second, .val (.long (q4 + (tk / (2 : Int64)))), .second, .val (.long ((q4 + (tk / (2 : Int64))) - q4)), .second, .val (.long ((q4 + tk) - q4)), .second] [(.long ((2 : Int64) * ((q4 + (tk / (2 : Int64))) - q4))), (.long ((q4 + tk) - q4))])) _
        refine XS.lsub X260.here hx rfl (hb hby at_262) rfl ?_
        show Steps p.tables e below (T260.setTop (mkF m 263 #[.val (.long q1), .second, .val (.int p2), .val (.int p3), .val (.long q4), .second, .val (.long tk), .second, .val (.int (Int32.ofNat n)), .val (.int (1 : Int32)), .val (.ref b172), .val (.ref b176), .val (.ref b182), .val (.ref b176), .val (.ref b236), .val (.long (q4 + (tk / (2 : Int64)))), .second, .val (.long (q4 + tk)), .second, .val (.long (9223372036854775807 : Int64)), .second, .val (.long tk), .second, .val (.long (q4 + (tk / (2 : Int64)))), .second, .val (.long ((q4 + (tk / (2 : Int64))) - q4)), .second, .val (.long ((q4 + tk) - q4)), .second] [(.long (((q4 + tk) - q4) - ((2 : Int64) * ((q4 + (tk / (2 : Int64))) - q4))))])) _
        refine XS.lconst X260.here hx rfl (hb hby at_263) ?_
        show Steps p.tables e below (T260.setTop (mkF m 264 #[.val (.long q1), .second, .val (.int p2), .val (.int p3), .val (.long q4), .second, .val (.long tk), .second, .val (.int (Int32.ofNat n)), .val (.int (1 : Int32)), .val (.ref b172), .val (.ref b176), .val (.ref b182), .val (.ref b176), .val (.ref b236), .val (.long (q4 + (tk / (2 : Int64)))), .second, .val (.long (q4 + tk)), .second, .val (.long (9223372036854775807 : Int64)), .second, .val (.long tk), .second, .val (.long (q4 + (tk / (2 : Int64)))), .second, .val (.long ((q4 + (tk / (2 : Int64))) - q4)), .second, .val (.long ((q4 + tk) - q4)), .second] [(.long (1 : Int64)), (.long (((q4 + tk) - q4) - ((2 : Int64) * ((q4 + (tk / (2 : Int64))) - q4))))])) _
        refine XS.lcmp X260.here hx rfl (hb hby at_264) rfl ?_
        exact kq)
      have go277 : Goes p e below s₁ (G_rm0 m q1 p2 p3 q4) T260 (mkF m 273 #[.val (.long q1), .second, .val (.int p2), .val (.int p3), .val (.long q4), .second, .val (.long tk), .second, .val (.int (Int32.ofNat n)), .val (.int (1 : Int32)), .val (.ref b172), .val (.ref b176), .val (.ref b182), .val (.ref b176), .val (.ref b236), .val (.long (q4 + (tk / (2 : Int64)))), .second, .val (.long (q4 + tk)), .second, .val (.long (9223372036854775807 : Int64)), .second, .val (.long tk), .second, .val (.long (q4 + (tk / (2 : Int64)))), .second, .val (.long ((q4 + (tk / (2 : Int64))) - q4)), .second, .val (.long ((q4 + tk) - q4)), .second] [(.int (1 : Int32))]) := fun tq kq => go276 tq (by
        show Steps p.tables e below (T260.setTop (mkF m 265 #[.val (.long q1), .second, .val (.int p2), .val (.int p3), .val (.long q4), .second, .val (.long tk), .second, .val (.int (Int32.ofNat n)), .val (.int (1 : Int32)), .val (.ref b172), .val (.ref b176), .val (.ref b182), .val (.ref b176), .val (.ref b236), .val (.long (q4 + (tk / (2 : Int64)))), .second, .val (.long (q4 + tk)), .second, .val (.long (9223372036854775807 : Int64)), .second, .val (.long tk), .second, .val (.long (q4 + (tk / (2 : Int64)))), .second, .val (.long ((q4 + (tk / (2 : Int64))) - q4)), .second, .val (.long ((q4 + tk) - q4)), .second] [(.int (lcmpW (((q4 + tk) - q4) - ((2 : Int64) * ((q4 + (tk / (2 : Int64))) - q4))) (1 : Int64)))])) _
        refine XS.ifNo X260.here hx rfl (hb hby at_265) rfl ((if0 _ _).trans (flt (own_lcle (own_m3 q4 hmt))).2.2.1) ?_
        show Steps p.tables e below (T260.setTop (mkF m 268 #[.val (.long q1), .second, .val (.int p2), .val (.int p3), .val (.long q4), .second, .val (.long tk), .second, .val (.int (Int32.ofNat n)), .val (.int (1 : Int32)), .val (.ref b172), .val (.ref b176), .val (.ref b182), .val (.ref b176), .val (.ref b236), .val (.long (q4 + (tk / (2 : Int64)))), .second, .val (.long (q4 + tk)), .second, .val (.long (9223372036854775807 : Int64)), .second, .val (.long tk), .second, .val (.long (q4 + (tk / (2 : Int64)))), .second, .val (.long ((q4 + (tk / (2 : Int64))) - q4)), .second, .val (.long ((q4 + tk) - q4)), .second] [])) _
        refine XS.iconst X260.here hx rfl (hb hby at_268) ?_
        show Steps p.tables e below (T260.setTop (mkF m 269 #[.val (.long q1), .second, .val (.int p2), .val (.int p3), .val (.long q4), .second, .val (.long tk), .second, .val (.int (Int32.ofNat n)), .val (.int (1 : Int32)), .val (.ref b172), .val (.ref b176), .val (.ref b182), .val (.ref b176), .val (.ref b236), .val (.long (q4 + (tk / (2 : Int64)))), .second, .val (.long (q4 + tk)), .second, .val (.long (9223372036854775807 : Int64)), .second, .val (.long tk), .second, .val (.long (q4 + (tk / (2 : Int64)))), .second, .val (.long ((q4 + (tk / (2 : Int64))) - q4)), .second, .val (.long ((q4 + tk) - q4)), .second] [(.int (1 : Int32))])) _
        refine XS.goto X260.here hx rfl (pc0 := 269) (pc' := 273) rfl (hb hby at_269) (by decide) (by decide) ?_
        exact kq)
      obtain ⟨fs, hr, hrun, hended, hW, hsame⟩ := X260.leave (v := some (.int (1 : Int32))) (fun h => by rw [Bd.returns] at h; cases h)
      refine ⟨_, _, go277 _ ?_, hrun, hended, _, _, rfl, ?_, ReturnedEndW.of_narrow ⟨_, rfl⟩ hW (hsame.mono (by decide) (by decide))⟩
      · exact retN X260 hx (t := .boolean) Bd.returns (by simp) (hb hby at_273) hr
      · show Q_rm0 Z q1 p2 p3 q4 h0 n0 _ T260.heap _
        rw [eq260]
        exact ⟨rfl, N260⟩
    · have go262 : Goes p e below s₁ (G_rm0 m q1 p2 p3 q4) T260 (mkF m 169 #[.val (.long q1), .second, .val (.int p2), .val (.int p3), .val (.long q4), .second, .val (.long tk), .second, .val (.int (Int32.ofNat n)), .val (.int (1 : Int32)), .val (.ref b172), .val (.ref b176), .val (.ref b182), .val (.ref b176), .val (.ref b236), .val (.long (q4 + (tk / (2 : Int64)))), .second, .val (.long (q4 + tk)), .second, .val (.long (tk * ((Int32.ofNat n).toInt64))), .second, .unset, .unset, .unset, .unset, .unset, .unset, .unset, .unset] []) := fun tq kq => go261 tq (by
        show Steps p.tables e below (T260.setTop (mkF m 152 #[.val (.long q1), .second, .val (.int p2), .val (.int p3), .val (.long q4), .second, .val (.long tk), .second, .val (.int (Int32.ofNat n)), .val (.int (1 : Int32)), .val (.ref b172), .val (.ref b176), .val (.ref b182), .val (.ref b176), .val (.ref b236), .val (.long (q4 + (tk / (2 : Int64)))), .second, .val (.long (q4 + tk)), .second, .unset, .unset, .unset, .unset, .unset, .unset, .unset, .unset, .unset, .unset] [(.int (lcmpW tk ((9223372036854775807 : Int64) / ((Int32.ofNat n).toInt64))))])) _
        refine XS.ifYes X260.here hx rfl (pc0 := 152) (pc' := 161) rfl (hb hby at_152) rfl ((if0 _ _).trans (flt (own_lcle hsp)).2.2.2) (by decide) (by decide) ?_
        show Steps p.tables e below (T260.setTop (mkF m 161 #[.val (.long q1), .second, .val (.int p2), .val (.int p3), .val (.long q4), .second, .val (.long tk), .second, .val (.int (Int32.ofNat n)), .val (.int (1 : Int32)), .val (.ref b172), .val (.ref b176), .val (.ref b182), .val (.ref b176), .val (.ref b236), .val (.long (q4 + (tk / (2 : Int64)))), .second, .val (.long (q4 + tk)), .second, .unset, .unset, .unset, .unset, .unset, .unset, .unset, .unset, .unset, .unset] [])) _
        refine XS.lload X260.here hx rfl (hb hby at_161) rfl ?_
        show Steps p.tables e below (T260.setTop (mkF m 163 #[.val (.long q1), .second, .val (.int p2), .val (.int p3), .val (.long q4), .second, .val (.long tk), .second, .val (.int (Int32.ofNat n)), .val (.int (1 : Int32)), .val (.ref b172), .val (.ref b176), .val (.ref b182), .val (.ref b176), .val (.ref b236), .val (.long (q4 + (tk / (2 : Int64)))), .second, .val (.long (q4 + tk)), .second, .unset, .unset, .unset, .unset, .unset, .unset, .unset, .unset, .unset, .unset] [(.long tk)])) _
        refine XS.iload X260.here hx rfl (hb hby at_163) rfl ?_
        show Steps p.tables e below (T260.setTop (mkF m 165 #[.val (.long q1), .second, .val (.int p2), .val (.int p3), .val (.long q4), .second, .val (.long tk), .second, .val (.int (Int32.ofNat n)), .val (.int (1 : Int32)), .val (.ref b172), .val (.ref b176), .val (.ref b182), .val (.ref b176), .val (.ref b236), .val (.long (q4 + (tk / (2 : Int64)))), .second, .val (.long (q4 + tk)), .second, .unset, .unset, .unset, .unset, .unset, .unset, .unset, .unset, .unset, .unset] [(.int (Int32.ofNat n)), (.long tk)])) _
        refine XS.i2l X260.here hx rfl (hb hby at_165) rfl ?_
        show Steps p.tables e below (T260.setTop (mkF m 166 #[.val (.long q1), .second, .val (.int p2), .val (.int p3), .val (.long q4), .second, .val (.long tk), .second, .val (.int (Int32.ofNat n)), .val (.int (1 : Int32)), .val (.ref b172), .val (.ref b176), .val (.ref b182), .val (.ref b176), .val (.ref b236), .val (.long (q4 + (tk / (2 : Int64)))), .second, .val (.long (q4 + tk)), .second, .unset, .unset, .unset, .unset, .unset, .unset, .unset, .unset, .unset, .unset] [(.long ((Int32.ofNat n).toInt64)), (.long tk)])) _
        refine XS.lmul X260.here hx rfl (hb hby at_166) rfl ?_
        show Steps p.tables e below (T260.setTop (mkF m 167 #[.val (.long q1), .second, .val (.int p2), .val (.int p3), .val (.long q4), .second, .val (.long tk), .second, .val (.int (Int32.ofNat n)), .val (.int (1 : Int32)), .val (.ref b172), .val (.ref b176), .val (.ref b182), .val (.ref b176), .val (.ref b236), .val (.long (q4 + (tk / (2 : Int64)))), .second, .val (.long (q4 + tk)), .second, .unset, .unset, .unset, .unset, .unset, .unset, .unset, .unset, .unset, .unset] [(.long (tk * ((Int32.ofNat n).toInt64)))])) _
        refine XS.lstore X260.here hx rfl (hb hby at_167) rfl (l' := #[.val (.long q1), .second, .val (.int p2), .val (.int p3), .val (.long q4), .second, .val (.long tk), .second, .val (.int (Int32.ofNat n)), .val (.int (1 : Int32)), .val (.ref b172), .val (.ref b176), .val (.ref b182), .val (.ref b176), .val (.ref b236), .val (.long (q4 + (tk / (2 : Int64)))), .second, .val (.long (q4 + tk)), .second, .val (.long (tk * ((Int32.ofNat n).toInt64))), .second, .unset, .unset, .unset, .unset, .unset, .unset, .unset, .unset]) rfl ?_
        exact kq)
      have hS : SP0 = (tk * ((Int32.ofNat n).toInt64)) := hSP0.trans (if_neg hsp)
      have go263 : Goes p e below s₁ (G_rm0 m q1 p2 p3 q4) T260 (mkF m 171 #[.val (.long q1), .second, .val (.int p2), .val (.int p3), .val (.long q4), .second, .val (.long tk), .second, .val (.int (Int32.ofNat n)), .val (.int (1 : Int32)), .val (.ref b172), .val (.ref b176), .val (.ref b182), .val (.ref b176), .val (.ref b236), .val (.long (q4 + (tk / (2 : Int64)))), .second, .val (.long (q4 + tk)), .second, .val (.long (tk * ((Int32.ofNat n).toInt64))), .second, .unset, .unset, .unset, .unset, .unset, .unset, .unset, .unset] [(.int (1 : Int32))]) := fun tq kq => go262 tq (by
        show Steps p.tables e below (T260.setTop (mkF m 169 #[.val (.long q1), .second, .val (.int p2), .val (.int p3), .val (.long q4), .second, .val (.long tk), .second, .val (.int (Int32.ofNat n)), .val (.int (1 : Int32)), .val (.ref b172), .val (.ref b176), .val (.ref b182), .val (.ref b176), .val (.ref b236), .val (.long (q4 + (tk / (2 : Int64)))), .second, .val (.long (q4 + tk)), .second, .val (.long (tk * ((Int32.ofNat n).toInt64))), .second, .unset, .unset, .unset, .unset, .unset, .unset, .unset, .unset] [])) _
        refine XS.iload X260.here hx rfl (hb hby at_169) rfl ?_
        exact kq)
      have go264 : Goes p e below s₁ (G_rm0 m q1 p2 p3 q4) T260 (mkF m 183 #[.val (.long q1), .second, .val (.int p2), .val (.int p3), .val (.long q4), .second, .val (.long tk), .second, .val (.int (Int32.ofNat n)), .val (.int (1 : Int32)), .val (.ref b172), .val (.ref b176), .val (.ref b182), .val (.ref b176), .val (.ref b236), .val (.long (q4 + (tk / (2 : Int64)))), .second, .val (.long (q4 + tk)), .second, .val (.long (tk * ((Int32.ofNat n).toInt64))), .second, .unset, .unset, .unset, .unset, .unset, .unset, .unset, .unset] [(.int (1 : Int32)), (.int (1 : Int32))]) := fun tq kq => go263 tq (by
        show Steps p.tables e below (T260.setTop (mkF m 171 #[.val (.long q1), .second, .val (.int p2), .val (.int p3), .val (.long q4), .second, .val (.long tk), .second, .val (.int (Int32.ofNat n)), .val (.int (1 : Int32)), .val (.ref b172), .val (.ref b176), .val (.ref b182), .val (.ref b176), .val (.ref b236), .val (.long (q4 + (tk / (2 : Int64)))), .second, .val (.long (q4 + tk)), .second, .val (.long (tk * ((Int32.ofNat n).toInt64))), .second, .unset, .unset, .unset, .unset, .unset, .unset, .unset, .unset] [(.int (1 : Int32))])) _
        refine XS.ifYes X260.here hx rfl (pc0 := 171) (pc' := 180) rfl (hb hby at_171) rfl ((if0 _ _).trans (feq (by decide)).2) (by decide) (by decide) ?_
        show Steps p.tables e below (T260.setTop (mkF m 180 #[.val (.long q1), .second, .val (.int p2), .val (.int p3), .val (.long q4), .second, .val (.long tk), .second, .val (.int (Int32.ofNat n)), .val (.int (1 : Int32)), .val (.ref b172), .val (.ref b176), .val (.ref b182), .val (.ref b176), .val (.ref b236), .val (.long (q4 + (tk / (2 : Int64)))), .second, .val (.long (q4 + tk)), .second, .val (.long (tk * ((Int32.ofNat n).toInt64))), .second, .unset, .unset, .unset, .unset, .unset, .unset, .unset, .unset] [])) _
        refine XS.iload X260.here hx rfl (hb hby at_180) rfl ?_
        show Steps p.tables e below (T260.setTop (mkF m 182 #[.val (.long q1), .second, .val (.int p2), .val (.int p3), .val (.long q4), .second, .val (.long tk), .second, .val (.int (Int32.ofNat n)), .val (.int (1 : Int32)), .val (.ref b172), .val (.ref b176), .val (.ref b182), .val (.ref b176), .val (.ref b236), .val (.long (q4 + (tk / (2 : Int64)))), .second, .val (.long (q4 + tk)), .second, .val (.long (tk * ((Int32.ofNat n).toInt64))), .second, .unset, .unset, .unset, .unset, .unset, .unset, .unset, .unset] [(.int (1 : Int32))])) _
        refine XS.iconst X260.here hx rfl (hb hby at_182) ?_
        exact kq)
      have go265 : Goes p e below s₁ (G_rm0 m q1 p2 p3 q4) T260 (mkF m 216 #[.val (.long q1), .second, .val (.int p2), .val (.int p3), .val (.long q4), .second, .val (.long tk), .second, .val (.int (Int32.ofNat n)), .val (.int (1 : Int32)), .val (.ref b172), .val (.ref b176), .val (.ref b182), .val (.ref b176), .val (.ref b236), .val (.long (q4 + (tk / (2 : Int64)))), .second, .val (.long (q4 + tk)), .second, .val (.long (tk * ((Int32.ofNat n).toInt64))), .second, .val (.long tk), .second, .val (.long (q4 + (tk / (2 : Int64)))), .second, .unset, .unset, .unset, .unset] [(.int (lcmpW (q4 + (tk / (2 : Int64))) (q4 + (tk / (2 : Int64)))))]) := fun tq kq => go264 tq (by
        show Steps p.tables e below (T260.setTop (mkF m 183 #[.val (.long q1), .second, .val (.int p2), .val (.int p3), .val (.long q4), .second, .val (.long tk), .second, .val (.int (Int32.ofNat n)), .val (.int (1 : Int32)), .val (.ref b172), .val (.ref b176), .val (.ref b182), .val (.ref b176), .val (.ref b236), .val (.long (q4 + (tk / (2 : Int64)))), .second, .val (.long (q4 + tk)), .second, .val (.long (tk * ((Int32.ofNat n).toInt64))), .second, .unset, .unset, .unset, .unset, .unset, .unset, .unset, .unset] [(.int (1 : Int32)), (.int (1 : Int32))])) _
        refine XS.icmpNo X260.here hx rfl (hb hby at_183) rfl (teq (by decide)).2 ?_
        show Steps p.tables e below (T260.setTop (mkF m 186 #[.val (.long q1), .second, .val (.int p2), .val (.int p3), .val (.long q4), .second, .val (.long tk), .second, .val (.int (Int32.ofNat n)), .val (.int (1 : Int32)), .val (.ref b172), .val (.ref b176), .val (.ref b182), .val (.ref b176), .val (.ref b236), .val (.long (q4 + (tk / (2 : Int64)))), .second, .val (.long (q4 + tk)), .second, .val (.long (tk * ((Int32.ofNat n).toInt64))), .second, .unset, .unset, .unset, .unset, .unset, .unset, .unset, .unset] [])) _
        refine XS.lload X260.here hx rfl (hb hby at_186) rfl ?_
        show Steps p.tables e below (T260.setTop (mkF m 188 #[.val (.long q1), .second, .val (.int p2), .val (.int p3), .val (.long q4), .second, .val (.long tk), .second, .val (.int (Int32.ofNat n)), .val (.int (1 : Int32)), .val (.ref b172), .val (.ref b176), .val (.ref b182), .val (.ref b176), .val (.ref b236), .val (.long (q4 + (tk / (2 : Int64)))), .second, .val (.long (q4 + tk)), .second, .val (.long (tk * ((Int32.ofNat n).toInt64))), .second, .unset, .unset, .unset, .unset, .unset, .unset, .unset, .unset] [(.long tk)])) _
        refine XS.lstore X260.here hx rfl (hb hby at_188) rfl (l' := #[.val (.long q1), .second, .val (.int p2), .val (.int p3), .val (.long q4), .second, .val (.long tk), .second, .val (.int (Int32.ofNat n)), .val (.int (1 : Int32)), .val (.ref b172), .val (.ref b176), .val (.ref b182), .val (.ref b176), .val (.ref b236), .val (.long (q4 + (tk / (2 : Int64)))), .second, .val (.long (q4 + tk)), .second, .val (.long (tk * ((Int32.ofNat n).toInt64))), .second, .val (.long tk), .second, .unset, .unset, .unset, .unset, .unset, .unset]) rfl ?_
        show Steps p.tables e below (T260.setTop (mkF m 190 #[.val (.long q1), .second, .val (.int p2), .val (.int p3), .val (.long q4), .second, .val (.long tk), .second, .val (.int (Int32.ofNat n)), .val (.int (1 : Int32)), .val (.ref b172), .val (.ref b176), .val (.ref b182), .val (.ref b176), .val (.ref b236), .val (.long (q4 + (tk / (2 : Int64)))), .second, .val (.long (q4 + tk)), .second, .val (.long (tk * ((Int32.ofNat n).toInt64))), .second, .val (.long tk), .second, .unset, .unset, .unset, .unset, .unset, .unset] [])) _
        refine XS.goto X260.here hx rfl (pc0 := 190) (pc' := 200) rfl (hb hby at_190) (by decide) (by decide) ?_
        show Steps p.tables e below (T260.setTop (mkF m 200 #[.val (.long q1), .second, .val (.int p2), .val (.int p3), .val (.long q4), .second, .val (.long tk), .second, .val (.int (Int32.ofNat n)), .val (.int (1 : Int32)), .val (.ref b172), .val (.ref b176), .val (.ref b182), .val (.ref b176), .val (.ref b236), .val (.long (q4 + (tk / (2 : Int64)))), .second, .val (.long (q4 + tk)), .second, .val (.long (tk * ((Int32.ofNat n).toInt64))), .second, .val (.long tk), .second, .unset, .unset, .unset, .unset, .unset, .unset] [])) _
        refine XS.lload X260.here hx rfl (hb hby at_200) rfl ?_
        show Steps p.tables e below (T260.setTop (mkF m 202 #[.val (.long q1), .second, .val (.int p2), .val (.int p3), .val (.long q4), .second, .val (.long tk), .second, .val (.int (Int32.ofNat n)), .val (.int (1 : Int32)), .val (.ref b172), .val (.ref b176), .val (.ref b182), .val (.ref b176), .val (.ref b236), .val (.long (q4 + (tk / (2 : Int64)))), .second, .val (.long (q4 + tk)), .second, .val (.long (tk * ((Int32.ofNat n).toInt64))), .second, .val (.long tk), .second, .unset, .unset, .unset, .unset, .unset, .unset] [(.long q4)])) _
        refine XS.lload X260.here hx rfl (hb hby at_202) rfl ?_
        show Steps p.tables e below (T260.setTop (mkF m 204 #[.val (.long q1), .second, .val (.int p2), .val (.int p3), .val (.long q4), .second, .val (.long tk), .second, .val (.int (Int32.ofNat n)), .val (.int (1 : Int32)), .val (.ref b172), .val (.ref b176), .val (.ref b182), .val (.ref b176), .val (.ref b236), .val (.long (q4 + (tk / (2 : Int64)))), .second, .val (.long (q4 + tk)), .second, .val (.long (tk * ((Int32.ofNat n).toInt64))), .second, .val (.long tk), .second, .unset, .unset, .unset, .unset, .unset, .unset] [(.long tk), (.long q4)])) _
        refine X260.ldc2Long hx hown (mvT hZ (tw113 hw)) (g := (mkF m 204 #[.val (.long q1), .second, .val (.int p2), .val (.int p3), .val (.long q4), .second, .val (.long tk), .second, .val (.int (Int32.ofNat n)), .val (.int (1 : Int32)), .val (.ref b172), .val (.ref b176), .val (.ref b182), .val (.ref b176), .val (.ref b236), .val (.long (q4 + (tk / (2 : Int64)))), .second, .val (.long (q4 + tk)), .second, .val (.long (tk * ((Int32.ofNat n).toInt64))), .second, .val (.long tk), .second, .unset, .unset, .unset, .unset, .unset, .unset] [(.long tk), (.long q4)])) rfl (hb hby at_204) _ ?_
        show Steps p.tables e below (T260.setTop (mkF m 207 #[.val (.long q1), .second, .val (.int p2), .val (.int p3), .val (.long q4), .second, .val (.long tk), .second, .val (.int (Int32.ofNat n)), .val (.int (1 : Int32)), .val (.ref b172), .val (.ref b176), .val (.ref b182), .val (.ref b176), .val (.ref b236), .val (.long (q4 + (tk / (2 : Int64)))), .second, .val (.long (q4 + tk)), .second, .val (.long (tk * ((Int32.ofNat n).toInt64))), .second, .val (.long tk), .second, .unset, .unset, .unset, .unset, .unset, .unset] [(.long (2 : Int64)), (.long tk), (.long q4)])) _
        refine XS.ldiv X260.here hx rfl (hb hby at_207) rfl (by decide) ?_
        show Steps p.tables e below (T260.setTop (mkF m 208 #[.val (.long q1), .second, .val (.int p2), .val (.int p3), .val (.long q4), .second, .val (.long tk), .second, .val (.int (Int32.ofNat n)), .val (.int (1 : Int32)), .val (.ref b172), .val (.ref b176), .val (.ref b182), .val (.ref b176), .val (.ref b236), .val (.long (q4 + (tk / (2 : Int64)))), .second, .val (.long (q4 + tk)), .second, .val (.long (tk * ((Int32.ofNat n).toInt64))), .second, .val (.long tk), .second, .unset, .unset, .unset, .unset, .unset, .unset] [(.long (tk / (2 : Int64))), (.long q4)])) _
        refine XS.ladd X260.here hx rfl (hb hby at_208) rfl ?_
        show Steps p.tables e below (T260.setTop (mkF m 209 #[.val (.long q1), .second, .val (.int p2), .val (.int p3), .val (.long q4), .second, .val (.long tk), .second, .val (.int (Int32.ofNat n)), .val (.int (1 : Int32)), .val (.ref b172), .val (.ref b176), .val (.ref b182), .val (.ref b176), .val (.ref b236), .val (.long (q4 + (tk / (2 : Int64)))), .second, .val (.long (q4 + tk)), .second, .val (.long (tk * ((Int32.ofNat n).toInt64))), .second, .val (.long tk), .second, .unset, .unset, .unset, .unset, .unset, .unset] [(.long (q4 + (tk / (2 : Int64))))])) _
        refine XS.lstore X260.here hx rfl (hb hby at_209) rfl (l' := #[.val (.long q1), .second, .val (.int p2), .val (.int p3), .val (.long q4), .second, .val (.long tk), .second, .val (.int (Int32.ofNat n)), .val (.int (1 : Int32)), .val (.ref b172), .val (.ref b176), .val (.ref b182), .val (.ref b176), .val (.ref b236), .val (.long (q4 + (tk / (2 : Int64)))), .second, .val (.long (q4 + tk)), .second, .val (.long (tk * ((Int32.ofNat n).toInt64))), .second, .val (.long tk), .second, .val (.long (q4 + (tk / (2 : Int64)))), .second, .unset, .unset, .unset, .unset]) rfl ?_
        show Steps p.tables e below (T260.setTop (mkF m 211 #[.val (.long q1), .second, .val (.int p2), .val (.int p3), .val (.long q4), .second, .val (.long tk), .second, .val (.int (Int32.ofNat n)), .val (.int (1 : Int32)), .val (.ref b172), .val (.ref b176), .val (.ref b182), .val (.ref b176), .val (.ref b236), .val (.long (q4 + (tk / (2 : Int64)))), .second, .val (.long (q4 + tk)), .second, .val (.long (tk * ((Int32.ofNat n).toInt64))), .second, .val (.long tk), .second, .val (.long (q4 + (tk / (2 : Int64)))), .second, .unset, .unset, .unset, .unset] [])) _
        refine XS.lload X260.here hx rfl (hb hby at_211) rfl ?_
        show Steps p.tables e below (T260.setTop (mkF m 213 #[.val (.long q1), .second, .val (.int p2), .val (.int p3), .val (.long q4), .second, .val (.long tk), .second, .val (.int (Int32.ofNat n)), .val (.int (1 : Int32)), .val (.ref b172), .val (.ref b176), .val (.ref b182), .val (.ref b176), .val (.ref b236), .val (.long (q4 + (tk / (2 : Int64)))), .second, .val (.long (q4 + tk)), .second, .val (.long (tk * ((Int32.ofNat n).toInt64))), .second, .val (.long tk), .second, .val (.long (q4 + (tk / (2 : Int64)))), .second, .unset, .unset, .unset, .unset] [(.long (q4 + (tk / (2 : Int64))))])) _
        refine XS.lload X260.here hx rfl (hb hby at_213) rfl ?_
        show Steps p.tables e below (T260.setTop (mkF m 215 #[.val (.long q1), .second, .val (.int p2), .val (.int p3), .val (.long q4), .second, .val (.long tk), .second, .val (.int (Int32.ofNat n)), .val (.int (1 : Int32)), .val (.ref b172), .val (.ref b176), .val (.ref b182), .val (.ref b176), .val (.ref b236), .val (.long (q4 + (tk / (2 : Int64)))), .second, .val (.long (q4 + tk)), .second, .val (.long (tk * ((Int32.ofNat n).toInt64))), .second, .val (.long tk), .second, .val (.long (q4 + (tk / (2 : Int64)))), .second, .unset, .unset, .unset, .unset] [(.long (q4 + (tk / (2 : Int64)))), (.long (q4 + (tk / (2 : Int64))))])) _
        refine XS.lcmp X260.here hx rfl (hb hby at_215) rfl ?_
        exact kq)
      have hme : (q4 + (tk / (2 : Int64))) = (q4 + (tk / (2 : Int64))) := by rfl
      have go266 : Goes p e below s₁ (G_rm0 m q1 p2 p3 q4) T260 (mkF m 239 #[.val (.long q1), .second, .val (.int p2), .val (.int p3), .val (.long q4), .second, .val (.long tk), .second, .val (.int (Int32.ofNat n)), .val (.int (1 : Int32)), .val (.ref b172), .val (.ref b176), .val (.ref b182), .val (.ref b176), .val (.ref b236), .val (.long (q4 + (tk / (2 : Int64)))), .second, .val (.long (q4 + tk)), .second, .val (.long (tk * ((Int32.ofNat n).toInt64))), .second, .val (.long tk), .second, .val (.long (q4 + (tk / (2 : Int64)))), .second, .val (.long ((q4 + (tk / (2 : Int64))) - q4)), .second, .val (.long ((q4 + tk) - q4)), .second] [(.int (lcmpW ((q4 + (tk / (2 : Int64))) - q4) (0 : Int64)))]) := fun tq kq => go265 tq (by
        show Steps p.tables e below (T260.setTop (mkF m 216 #[.val (.long q1), .second, .val (.int p2), .val (.int p3), .val (.long q4), .second, .val (.long tk), .second, .val (.int (Int32.ofNat n)), .val (.int (1 : Int32)), .val (.ref b172), .val (.ref b176), .val (.ref b182), .val (.ref b176), .val (.ref b236), .val (.long (q4 + (tk / (2 : Int64)))), .second, .val (.long (q4 + tk)), .second, .val (.long (tk * ((Int32.ofNat n).toInt64))), .second, .val (.long tk), .second, .val (.long (q4 + (tk / (2 : Int64)))), .second, .unset, .unset, .unset, .unset] [(.int (lcmpW (q4 + (tk / (2 : Int64))) (q4 + (tk / (2 : Int64)))))])) _
        refine XS.ifYes X260.here hx rfl (pc0 := 216) (pc' := 221) rfl (hb hby at_216) rfl ((if0 _ _).trans (teq (own_lceq hme)).1) (by decide) (by decide) ?_
        show Steps p.tables e below (T260.setTop (mkF m 221 #[.val (.long q1), .second, .val (.int p2), .val (.int p3), .val (.long q4), .second, .val (.long tk), .second, .val (.int (Int32.ofNat n)), .val (.int (1 : Int32)), .val (.ref b172), .val (.ref b176), .val (.ref b182), .val (.ref b176), .val (.ref b236), .val (.long (q4 + (tk / (2 : Int64)))), .second, .val (.long (q4 + tk)), .second, .val (.long (tk * ((Int32.ofNat n).toInt64))), .second, .val (.long tk), .second, .val (.long (q4 + (tk / (2 : Int64)))), .second, .unset, .unset, .unset, .unset] [])) _
        refine XS.lload X260.here hx rfl (hb hby at_221) rfl ?_
        show Steps p.tables e below (T260.setTop (mkF m 223 #[.val (.long q1), .second, .val (.int p2), .val (.int p3), .val (.long q4), .second, .val (.long tk), .second, .val (.int (Int32.ofNat n)), .val (.int (1 : Int32)), .val (.ref b172), .val (.ref b176), .val (.ref b182), .val (.ref b176), .val (.ref b236), .val (.long (q4 + (tk / (2 : Int64)))), .second, .val (.long (q4 + tk)), .second, .val (.long (tk * ((Int32.ofNat n).toInt64))), .second, .val (.long tk), .second, .val (.long (q4 + (tk / (2 : Int64)))), .second, .unset, .unset, .unset, .unset] [(.long (q4 + (tk / (2 : Int64))))])) _
        refine XS.lload X260.here hx rfl (hb hby at_223) rfl ?_
        show Steps p.tables e below (T260.setTop (mkF m 225 #[.val (.long q1), .second, .val (.int p2), .val (.int p3), .val (.long q4), .second, .val (.long tk), .second, .val (.int (Int32.ofNat n)), .val (.int (1 : Int32)), .val (.ref b172), .val (.ref b176), .val (.ref b182), .val (.ref b176), .val (.ref b236), .val (.long (q4 + (tk / (2 : Int64)))), .second, .val (.long (q4 + tk)), .second, .val (.long (tk * ((Int32.ofNat n).toInt64))), .second, .val (.long tk), .second, .val (.long (q4 + (tk / (2 : Int64)))), .second, .unset, .unset, .unset, .unset] [(.long q4), (.long (q4 + (tk / (2 : Int64))))])) _
        refine XS.lsub X260.here hx rfl (hb hby at_225) rfl ?_
        show Steps p.tables e below (T260.setTop (mkF m 226 #[.val (.long q1), .second, .val (.int p2), .val (.int p3), .val (.long q4), .second, .val (.long tk), .second, .val (.int (Int32.ofNat n)), .val (.int (1 : Int32)), .val (.ref b172), .val (.ref b176), .val (.ref b182), .val (.ref b176), .val (.ref b236), .val (.long (q4 + (tk / (2 : Int64)))), .second, .val (.long (q4 + tk)), .second, .val (.long (tk * ((Int32.ofNat n).toInt64))), .second, .val (.long tk), .second, .val (.long (q4 + (tk / (2 : Int64)))), .second, .unset, .unset, .unset, .unset] [(.long ((q4 + (tk / (2 : Int64))) - q4))])) _
        refine XS.lstore X260.here hx rfl (hb hby at_226) rfl (l' := #[.val (.long q1), .second, .val (.int p2), .val (.int p3), .val (.long q4), .second, .val (.long tk), .second, .val (.int (Int32.ofNat n)), .val (.int (1 : Int32)), .val (.ref b172), .val (.ref b176), .val (.ref b182), .val (.ref b176), .val (.ref b236), .val (.long (q4 + (tk / (2 : Int64)))), .second, .val (.long (q4 + tk)), .second, .val (.long (tk * ((Int32.ofNat n).toInt64))), .second, .val (.long tk), .second, .val (.long (q4 + (tk / (2 : Int64)))), .second, .val (.long ((q4 + (tk / (2 : Int64))) - q4)), .second, .unset, .unset]) rfl ?_
        show Steps p.tables e below (T260.setTop (mkF m 228 #[.val (.long q1), .second, .val (.int p2), .val (.int p3), .val (.long q4), .second, .val (.long tk), .second, .val (.int (Int32.ofNat n)), .val (.int (1 : Int32)), .val (.ref b172), .val (.ref b176), .val (.ref b182), .val (.ref b176), .val (.ref b236), .val (.long (q4 + (tk / (2 : Int64)))), .second, .val (.long (q4 + tk)), .second, .val (.long (tk * ((Int32.ofNat n).toInt64))), .second, .val (.long tk), .second, .val (.long (q4 + (tk / (2 : Int64)))), .second, .val (.long ((q4 + (tk / (2 : Int64))) - q4)), .second, .unset, .unset] [])) _
        refine XS.lload X260.here hx rfl (hb hby at_228) rfl ?_
        show Steps p.tables e below (T260.setTop (mkF m 230 #[.val (.long q1), .second, .val (.int p2), .val (.int p3), .val (.long q4), .second, .val (.long tk), .second, .val (.int (Int32.ofNat n)), .val (.int (1 : Int32)), .val (.ref b172), .val (.ref b176), .val (.ref b182), .val (.ref b176), .val (.ref b236), .val (.long (q4 + (tk / (2 : Int64)))), .second, .val (.long (q4 + tk)), .second, .val (.long (tk * ((Int32.ofNat n).toInt64))), .second, .val (.long tk), .second, .val (.long (q4 + (tk / (2 : Int64)))), .second, .val (.long ((q4 + (tk / (2 : Int64))) - q4)), .second, .unset, .unset] [(.long (q4 + tk))])) _
        refine XS.lload X260.here hx rfl (hb hby at_230) rfl ?_
        show Steps p.tables e below (T260.setTop (mkF m 232 #[.val (.long q1), .second, .val (.int p2), .val (.int p3), .val (.long q4), .second, .val (.long tk), .second, .val (.int (Int32.ofNat n)), .val (.int (1 : Int32)), .val (.ref b172), .val (.ref b176), .val (.ref b182), .val (.ref b176), .val (.ref b236), .val (.long (q4 + (tk / (2 : Int64)))), .second, .val (.long (q4 + tk)), .second, .val (.long (tk * ((Int32.ofNat n).toInt64))), .second, .val (.long tk), .second, .val (.long (q4 + (tk / (2 : Int64)))), .second, .val (.long ((q4 + (tk / (2 : Int64))) - q4)), .second, .unset, .unset] [(.long q4), (.long (q4 + tk))])) _
        refine XS.lsub X260.here hx rfl (hb hby at_232) rfl ?_
        show Steps p.tables e below (T260.setTop (mkF m 233 #[.val (.long q1), .second, .val (.int p2), .val (.int p3), .val (.long q4), .second, .val (.long tk), .second, .val (.int (Int32.ofNat n)), .val (.int (1 : Int32)), .val (.ref b172), .val (.ref b176), .val (.ref b182), .val (.ref b176), .val (.ref b236), .val (.long (q4 + (tk / (2 : Int64)))), .second, .val (.long (q4 + tk)), .second, .val (.long (tk * ((Int32.ofNat n).toInt64))), .second, .val (.long tk), .second, .val (.long (q4 + (tk / (2 : Int64)))), .second, .val (.long ((q4 + (tk / (2 : Int64))) - q4)), .second, .unset, .unset] [(.long ((q4 + tk) - q4))])) _
        refine XS.lstore X260.here hx rfl (hb hby at_233) rfl (l' := #[.val (.long q1), .second, .val (.int p2), .val (.int p3), .val (.long q4), .second, .val (.long tk), .second, .val (.int (Int32.ofNat n)), .val (.int (1 : Int32)), .val (.ref b172), .val (.ref b176), .val (.ref b182), .val (.ref b176), .val (.ref b236), .val (.long (q4 + (tk / (2 : Int64)))), .second, .val (.long (q4 + tk)), .second, .val (.long (tk * ((Int32.ofNat n).toInt64))), .second, .val (.long tk), .second, .val (.long (q4 + (tk / (2 : Int64)))), .second, .val (.long ((q4 + (tk / (2 : Int64))) - q4)), .second, .val (.long ((q4 + tk) - q4)), .second]) rfl ?_
        show Steps p.tables e below (T260.setTop (mkF m 235 #[.val (.long q1), .second, .val (.int p2), .val (.int p3), .val (.long q4), .second, .val (.long tk), .second, .val (.int (Int32.ofNat n)), .val (.int (1 : Int32)), .val (.ref b172), .val (.ref b176), .val (.ref b182), .val (.ref b176), .val (.ref b236), .val (.long (q4 + (tk / (2 : Int64)))), .second, .val (.long (q4 + tk)), .second, .val (.long (tk * ((Int32.ofNat n).toInt64))), .second, .val (.long tk), .second, .val (.long (q4 + (tk / (2 : Int64)))), .second, .val (.long ((q4 + (tk / (2 : Int64))) - q4)), .second, .val (.long ((q4 + tk) - q4)), .second] [])) _
        refine XS.lload X260.here hx rfl (hb hby at_235) rfl ?_
        show Steps p.tables e below (T260.setTop (mkF m 237 #[.val (.long q1), .second, .val (.int p2), .val (.int p3), .val (.long q4), .second, .val (.long tk), .second, .val (.int (Int32.ofNat n)), .val (.int (1 : Int32)), .val (.ref b172), .val (.ref b176), .val (.ref b182), .val (.ref b176), .val (.ref b236), .val (.long (q4 + (tk / (2 : Int64)))), .second, .val (.long (q4 + tk)), .second, .val (.long (tk * ((Int32.ofNat n).toInt64))), .second, .val (.long tk), .second, .val (.long (q4 + (tk / (2 : Int64)))), .second, .val (.long ((q4 + (tk / (2 : Int64))) - q4)), .second, .val (.long ((q4 + tk) - q4)), .second] [(.long ((q4 + (tk / (2 : Int64))) - q4))])) _
        refine XS.lconst X260.here hx rfl (hb hby at_237) ?_
        show Steps p.tables e below (T260.setTop (mkF m 238 #[.val (.long q1), .second, .val (.int p2), .val (.int p3), .val (.long q4), .second, .val (.long tk), .second, .val (.int (Int32.ofNat n)), .val (.int (1 : Int32)), .val (.ref b172), .val (.ref b176), .val (.ref b182), .val (.ref b176), .val (.ref b236), .val (.long (q4 + (tk / (2 : Int64)))), .second, .val (.long (q4 + tk)), .second, .val (.long (tk * ((Int32.ofNat n).toInt64))), .second, .val (.long tk), .second, .val (.long (q4 + (tk / (2 : Int64)))), .second, .val (.long ((q4 + (tk / (2 : Int64))) - q4)), .second, .val (.long ((q4 + tk) - q4)), .second] [(.long (0 : Int64)), (.long ((q4 + (tk / (2 : Int64))) - q4))])) _
        refine XS.lcmp X260.here hx rfl (hb hby at_238) rfl ?_
        exact kq)
      have go267 : Goes p e below s₁ (G_rm0 m q1 p2 p3 q4) T260 (mkF m 251 #[.val (.long q1), .second, .val (.int p2), .val (.int p3), .val (.long q4), .second, .val (.long tk), .second, .val (.int (Int32.ofNat n)), .val (.int (1 : Int32)), .val (.ref b172), .val (.ref b176), .val (.ref b182), .val (.ref b176), .val (.ref b236), .val (.long (q4 + (tk / (2 : Int64)))), .second, .val (.long (q4 + tk)), .second, .val (.long (tk * ((Int32.ofNat n).toInt64))), .second, .val (.long tk), .second, .val (.long (q4 + (tk / (2 : Int64)))), .second, .val (.long ((q4 + (tk / (2 : Int64))) - q4)), .second, .val (.long ((q4 + tk) - q4)), .second] [(.int (lcmpW ((2 : Int64) * ((q4 + (tk / (2 : Int64))) - q4)) ((q4 + tk) - q4)))]) := fun tq kq => go266 tq (by
        show Steps p.tables e below (T260.setTop (mkF m 239 #[.val (.long q1), .second, .val (.int p2), .val (.int p3), .val (.long q4), .second, .val (.long tk), .second, .val (.int (Int32.ofNat n)), .val (.int (1 : Int32)), .val (.ref b172), .val (.ref b176), .val (.ref b182), .val (.ref b176), .val (.ref b236), .val (.long (q4 + (tk / (2 : Int64)))), .second, .val (.long (q4 + tk)), .second, .val (.long (tk * ((Int32.ofNat n).toInt64))), .second, .val (.long tk), .second, .val (.long (q4 + (tk / (2 : Int64)))), .second, .val (.long ((q4 + (tk / (2 : Int64))) - q4)), .second, .val (.long ((q4 + tk) - q4)), .second] [(.int (lcmpW ((q4 + (tk / (2 : Int64))) - q4) (0 : Int64)))])) _
        refine XS.ifNo X260.here hx rfl (hb hby at_239) rfl ((if0 _ _).trans (flt (own_lcge (own_m1 q4 hmt))).1) ?_
        show Steps p.tables e below (T260.setTop (mkF m 242 #[.val (.long q1), .second, .val (.int p2), .val (.int p3), .val (.long q4), .second, .val (.long tk), .second, .val (.int (Int32.ofNat n)), .val (.int (1 : Int32)), .val (.ref b172), .val (.ref b176), .val (.ref b182), .val (.ref b176), .val (.ref b236), .val (.long (q4 + (tk / (2 : Int64)))), .second, .val (.long (q4 + tk)), .second, .val (.long (tk * ((Int32.ofNat n).toInt64))), .second, .val (.long tk), .second, .val (.long (q4 + (tk / (2 : Int64)))), .second, .val (.long ((q4 + (tk / (2 : Int64))) - q4)), .second, .val (.long ((q4 + tk) - q4)), .second] [])) _
        refine X260.ldc2Long hx hown (mvT hZ (tw113 hw)) (g := (mkF m 242 #[.val (.long q1), .second, .val (.int p2), .val (.int p3), .val (.long q4), .second, .val (.long tk), .second, .val (.int (Int32.ofNat n)), .val (.int (1 : Int32)), .val (.ref b172), .val (.ref b176), .val (.ref b182), .val (.ref b176), .val (.ref b236), .val (.long (q4 + (tk / (2 : Int64)))), .second, .val (.long (q4 + tk)), .second, .val (.long (tk * ((Int32.ofNat n).toInt64))), .second, .val (.long tk), .second, .val (.long (q4 + (tk / (2 : Int64)))), .second, .val (.long ((q4 + (tk / (2 : Int64))) - q4)), .second, .val (.long ((q4 + tk) - q4)), .second] [])) rfl (hb hby at_242) _ ?_
        show Steps p.tables e below (T260.setTop (mkF m 245 #[.val (.long q1), .second, .val (.int p2), .val (.int p3), .val (.long q4), .second, .val (.long tk), .second, .val (.int (Int32.ofNat n)), .val (.int (1 : Int32)), .val (.ref b172), .val (.ref b176), .val (.ref b182), .val (.ref b176), .val (.ref b236), .val (.long (q4 + (tk / (2 : Int64)))), .second, .val (.long (q4 + tk)), .second, .val (.long (tk * ((Int32.ofNat n).toInt64))), .second, .val (.long tk), .second, .val (.long (q4 + (tk / (2 : Int64)))), .second, .val (.long ((q4 + (tk / (2 : Int64))) - q4)), .second, .val (.long ((q4 + tk) - q4)), .second] [(.long (2 : Int64))])) _
        refine XS.lload X260.here hx rfl (hb hby at_245) rfl ?_
        show Steps p.tables e below (T260.setTop (mkF m 247 #[.val (.long q1), .second, .val (.int p2), .val (.int p3), .val (.long q4), .second, .val (.long tk), .second, .val (.int (Int32.ofNat n)), .val (.int (1 : Int32)), .val (.ref b172), .val (.ref b176), .val (.ref b182), .val (.ref b176), .val (.ref b236), .val (.long (q4 + (tk / (2 : Int64)))), .second, .val (.long (q4 + tk)), .second, .val (.long (tk * ((Int32.ofNat n).toInt64))), .second, .val (.long tk), .second, .val (.long (q4 + (tk / (2 : Int64)))), .second, .val (.long ((q4 + (tk / (2 : Int64))) - q4)), .second, .val (.long ((q4 + tk) - q4)), .second] [(.long ((q4 + (tk / (2 : Int64))) - q4)), (.long (2 : Int64))])) _
        refine XS.lmul X260.here hx rfl (hb hby at_247) rfl ?_
        show Steps p.tables e below (T260.setTop (mkF m 248 #[.val (.long q1), .second, .val (.int p2), .val (.int p3), .val (.long q4), .second, .val (.long tk), .second, .val (.int (Int32.ofNat n)), .val (.int (1 : Int32)), .val (.ref b172), .val (.ref b176), .val (.ref b182), .val (.ref b176), .val (.ref b236), .val (.long (q4 + (tk / (2 : Int64)))), .second, .val (.long (q4 + tk)), .second, .val (.long (tk * ((Int32.ofNat n).toInt64))), .second, .val (.long tk), .second, .val (.long (q4 + (tk / (2 : Int64)))), .second, .val (.long ((q4 + (tk / (2 : Int64))) - q4)), .second, .val (.long ((q4 + tk) - q4)), .second] [(.long ((2 : Int64) * ((q4 + (tk / (2 : Int64))) - q4)))])) _
        refine XS.lload X260.here hx rfl (hb hby at_248) rfl ?_
        show Steps p.tables e below (T260.setTop (mkF m 250 #[.val (.long q1), .second, .val (.int p2), .val (.int p3), .val (.long q4), .second, .val (.long tk), .second, .val (.int (Int32.ofNat n)), .val (.int (1 : Int32)), .val (.ref b172), .val (.ref b176), .val (.ref b182), .val (.ref b176), .val (.ref b236), .val (.long (q4 + (tk / (2 : Int64)))), .second, .val (.long (q4 + tk)), .second, .val (.long (tk * ((Int32.ofNat n).toInt64))), .second, .val (.long tk), .second, .val (.long (q4 + (tk / (2 : Int64)))), .second, .val (.long ((q4 + (tk / (2 : Int64))) - q4)), .second, .val (.long ((q4 + tk) - q4)), .second] [(.long ((q4 + tk) - q4)), (.long ((2 : Int64) * ((q4 + (tk / (2 : Int64))) - q4)))])) _
        refine XS.lcmp X260.here hx rfl (hb hby at_250) rfl ?_
        exact kq)
      have go268 : Goes p e below s₁ (G_rm0 m q1 p2 p3 q4) T260 (mkF m 265 #[.val (.long q1), .second, .val (.int p2), .val (.int p3), .val (.long q4), .second, .val (.long tk), .second, .val (.int (Int32.ofNat n)), .val (.int (1 : Int32)), .val (.ref b172), .val (.ref b176), .val (.ref b182), .val (.ref b176), .val (.ref b236), .val (.long (q4 + (tk / (2 : Int64)))), .second, .val (.long (q4 + tk)), .second, .val (.long (tk * ((Int32.ofNat n).toInt64))), .second, .val (.long tk), .second, .val (.long (q4 + (tk / (2 : Int64)))), .second, .val (.long ((q4 + (tk / (2 : Int64))) - q4)), .second, .val (.long ((q4 + tk) - q4)), .second] [(.int (lcmpW (((q4 + tk) - q4) - ((2 : Int64) * ((q4 + (tk / (2 : Int64))) - q4))) (1 : Int64)))]) := fun tq kq => go267 tq (by
        show Steps p.tables e below (T260.setTop (mkF m 251 #[.val (.long q1), .second, .val (.int p2), .val (.int p3), .val (.long q4), .second, .val (.long tk), .second, .val (.int (Int32.ofNat n)), .val (.int (1 : Int32)), .val (.ref b172), .val (.ref b176), .val (.ref b182), .val (.ref b176), .val (.ref b236), .val (.long (q4 + (tk / (2 : Int64)))), .second, .val (.long (q4 + tk)), .second, .val (.long (tk * ((Int32.ofNat n).toInt64))), .second, .val (.long tk), .second, .val (.long (q4 + (tk / (2 : Int64)))), .second, .val (.long ((q4 + (tk / (2 : Int64))) - q4)), .second, .val (.long ((q4 + tk) - q4)), .second] [(.int (lcmpW ((2 : Int64) * ((q4 + (tk / (2 : Int64))) - q4)) ((q4 + tk) - q4)))])) _
        refine XS.ifNo X260.here hx rfl (hb hby at_251) rfl ((if0 _ _).trans (flt (own_lcle (own_m2 q4 hmt))).2.2.1) ?_
        show Steps p.tables e below (T260.setTop (mkF m 254 #[.val (.long q1), .second, .val (.int p2), .val (.int p3), .val (.long q4), .second, .val (.long tk), .second, .val (.int (Int32.ofNat n)), .val (.int (1 : Int32)), .val (.ref b172), .val (.ref b176), .val (.ref b182), .val (.ref b176), .val (.ref b236), .val (.long (q4 + (tk / (2 : Int64)))), .second, .val (.long (q4 + tk)), .second, .val (.long (tk * ((Int32.ofNat n).toInt64))), .second, .val (.long tk), .second, .val (.long (q4 + (tk / (2 : Int64)))), .second, .val (.long ((q4 + (tk / (2 : Int64))) - q4)), .second, .val (.long ((q4 + tk) - q4)), .second] [])) _
        refine XS.lload X260.here hx rfl (hb hby at_254) rfl ?_
        show Steps p.tables e below (T260.setTop (mkF m 256 #[.val (.long q1), .second, .val (.int p2), .val (.int p3), .val (.long q4), .second, .val (.long tk), .second, .val (.int (Int32.ofNat n)), .val (.int (1 : Int32)), .val (.ref b172), .val (.ref b176), .val (.ref b182), .val (.ref b176), .val (.ref b236), .val (.long (q4 + (tk / (2 : Int64)))), .second, .val (.long (q4 + tk)), .second, .val (.long (tk * ((Int32.ofNat n).toInt64))), .second, .val (.long tk), .second, .val (.long (q4 + (tk / (2 : Int64)))), .second, .val (.long ((q4 + (tk / (2 : Int64))) - q4)), .second, .val (.long ((q4 + tk) - q4)), .second] [(.long ((q4 + tk) - q4))])) _
        refine X260.ldc2Long hx hown (mvT hZ (tw113 hw)) (g := (mkF m 256 #[.val (.long q1), .second, .val (.int p2), .val (.int p3), .val (.long q4), .second, .val (.long tk), .second, .val (.int (Int32.ofNat n)), .val (.int (1 : Int32)), .val (.ref b172), .val (.ref b176), .val (.ref b182), .val (.ref b176), .val (.ref b236), .val (.long (q4 + (tk / (2 : Int64)))), .second, .val (.long (q4 + tk)), .second, .val (.long (tk * ((Int32.ofNat n).toInt64))), .second, .val (.long tk), .second, .val (.long (q4 + (tk / (2 : Int64)))), .second, .val (.long ((q4 + (tk / (2 : Int64))) - q4)), .second, .val (.long ((q4 + tk) - q4)), .second] [(.long ((q4 + tk) - q4))])) rfl (hb hby at_256) _ ?_
        show Steps p.tables e below (T260.setTop (mkF m 259 #[.val (.long q1), .second, .val (.int p2), .val (.int p3), .val (.long q4), .second, .val (.long tk), .second, .val (.int (Int32.ofNat n)), .val (.int (1 : Int32)), .val (.ref b172), .val (.ref b176), .val (.ref b182), .val (.ref b176), .val (.ref b236), .val (.long (q4 + (tk / (2 : Int64)))), .second, .val (.long (q4 + tk)), .second, .val (.long (tk * ((Int32.ofNat n).toInt64))), .second, .val (.long tk), .second, .val (.long (q4 + (tk / (2 : Int64)))), .second, .val (.long ((q4 + (tk / (2 : Int64))) - q4)), .second, .val (.long ((q4 + tk) - q4)), .second] [(.long (2 : Int64)), (.long ((q4 + tk) - q4))])) _
        refine XS.lload X260.here hx rfl (hb hby at_259) rfl ?_
        show Steps p.tables e below (T260.setTop (mkF m 261 #[.val (.long q1), .second, .val (.int p2), .val (.int p3), .val (.long q4), .second, .val (.long tk), .second, .val (.int (Int32.ofNat n)), .val (.int (1 : Int32)), .val (.ref b172), .val (.ref b176), .val (.ref b182), .val (.ref b176), .val (.ref b236), .val (.long (q4 + (tk / (2 : Int64)))), .second, .val (.long (q4 + tk)), .second, .val (.long (tk * ((Int32.ofNat n).toInt64))), .second, .val (.long tk), .second, .val (.long (q4 + (tk / (2 : Int64)))), .second, .val (.long ((q4 + (tk / (2 : Int64))) - q4)), .second, .val (.long ((q4 + tk) - q4)), .second] [(.long ((q4 + (tk / (2 : Int64))) - q4)), (.long (2 : Int64)), (.long ((q4 + tk) - q4))])) _
        refine XS.lmul X260.here hx rfl (hb hby at_261) rfl ?_
        show Steps p.tables e below (T260.setTop (mkF m 262 #[.val (.long q1), .second, .val (.int p2), .val (.int p3), .val (.long q4), .second, .val (.long tk), .second, .val (.int (Int32.ofNat n)), .val (.int (1 : Int32)), .val (.ref b172), .val (.ref b176), .val (.ref b182), .val (.ref b176), .val (.ref b236), .val (.long (q4 + (tk / (2 : Int64)))), .second, .val (.long (q4 + tk)), .second, .val (.long (tk * ((Int32.ofNat n).toInt64))), .second, .val (.long tk), .second, .val (.long (q4 + (tk / (2 : Int64)))), .second, .val (.long ((q4 + (tk / (2 : Int64))) - q4)), .second, .val (.long ((q4 + tk) - q4)), .second] [(.long ((2 : Int64) * ((q4 + (tk / (2 : Int64))) - q4))), (.long ((q4 + tk) - q4))])) _
        refine XS.lsub X260.here hx rfl (hb hby at_262) rfl ?_
        show Steps p.tables e below (T260.setTop (mkF m 263 #[.val (.long q1), .second, .val (.int p2), .val (.int p3), .val (.long q4), .second, .val (.long tk), .second, .val (.int (Int32.ofNat n)), .val (.int (1 : Int32)), .val (.ref b172), .val (.ref b176), .val (.ref b182), .val (.ref b176), .val (.ref b236), .val (.long (q4 + (tk / (2 : Int64)))), .second, .val (.long (q4 + tk)), .second, .val (.long (tk * ((Int32.ofNat n).toInt64))), .second, .val (.long tk), .second, .val (.long (q4 + (tk / (2 : Int64)))), .second, .val (.long ((q4 + (tk / (2 : Int64))) - q4)), .second, .val (.long ((q4 + tk) - q4)), .second] [(.long (((q4 + tk) - q4) - ((2 : Int64) * ((q4 + (tk / (2 : Int64))) - q4))))])) _
        refine XS.lconst X260.here hx rfl (hb hby at_263) ?_
        show Steps p.tables e below (T260.setTop (mkF m 264 #[.val (.long q1), .second, .val (.int p2), .val (.int p3), .val (.long q4), .second, .val (.long tk), .second, .val (.int (Int32.ofNat n)), .val (.int (1 : Int32)), .val (.ref b172), .val (.ref b176), .val (.ref b182), .val (.ref b176), .val (.ref b236), .val (.long (q4 + (tk / (2 : Int64)))), .second, .val (.long (q4 + tk)), .second, .val (.long (tk * ((Int32.ofNat n).toInt64))), .second, .val (.long tk), .second, .val (.long (q4 + (tk / (2 : Int64)))), .second, .val (.long ((q4 + (tk / (2 : Int64))) - q4)), .second, .val (.long ((q4 + tk) - q4)), .second] [(.long (1 : Int64)), (.long (((q4 + tk) - q4) - ((2 : Int64) * ((q4 + (tk / (2 : Int64))) - q4))))])) _
        refine XS.lcmp X260.here hx rfl (hb hby at_264) rfl ?_
        exact kq)
      have go269 : Goes p e below s₁ (G_rm0 m q1 p2 p3 q4) T260 (mkF m 273 #[.val (.long q1), .second, .val (.int p2), .val (.int p3), .val (.long q4), .second, .val (.long tk), .second, .val (.int (Int32.ofNat n)), .val (.int (1 : Int32)), .val (.ref b172), .val (.ref b176), .val (.ref b182), .val (.ref b176), .val (.ref b236), .val (.long (q4 + (tk / (2 : Int64)))), .second, .val (.long (q4 + tk)), .second, .val (.long (tk * ((Int32.ofNat n).toInt64))), .second, .val (.long tk), .second, .val (.long (q4 + (tk / (2 : Int64)))), .second, .val (.long ((q4 + (tk / (2 : Int64))) - q4)), .second, .val (.long ((q4 + tk) - q4)), .second] [(.int (1 : Int32))]) := fun tq kq => go268 tq (by
        show Steps p.tables e below (T260.setTop (mkF m 265 #[.val (.long q1), .second, .val (.int p2), .val (.int p3), .val (.long q4), .second, .val (.long tk), .second, .val (.int (Int32.ofNat n)), .val (.int (1 : Int32)), .val (.ref b172), .val (.ref b176), .val (.ref b182), .val (.ref b176), .val (.ref b236), .val (.long (q4 + (tk / (2 : Int64)))), .second, .val (.long (q4 + tk)), .second, .val (.long (tk * ((Int32.ofNat n).toInt64))), .second, .val (.long tk), .second, .val (.long (q4 + (tk / (2 : Int64)))), .second, .val (.long ((q4 + (tk / (2 : Int64))) - q4)), .second, .val (.long ((q4 + tk) - q4)), .second] [(.int (lcmpW (((q4 + tk) - q4) - ((2 : Int64) * ((q4 + (tk / (2 : Int64))) - q4))) (1 : Int64)))])) _
        refine XS.ifNo X260.here hx rfl (hb hby at_265) rfl ((if0 _ _).trans (flt (own_lcle (own_m3 q4 hmt))).2.2.1) ?_
        show Steps p.tables e below (T260.setTop (mkF m 268 #[.val (.long q1), .second, .val (.int p2), .val (.int p3), .val (.long q4), .second, .val (.long tk), .second, .val (.int (Int32.ofNat n)), .val (.int (1 : Int32)), .val (.ref b172), .val (.ref b176), .val (.ref b182), .val (.ref b176), .val (.ref b236), .val (.long (q4 + (tk / (2 : Int64)))), .second, .val (.long (q4 + tk)), .second, .val (.long (tk * ((Int32.ofNat n).toInt64))), .second, .val (.long tk), .second, .val (.long (q4 + (tk / (2 : Int64)))), .second, .val (.long ((q4 + (tk / (2 : Int64))) - q4)), .second, .val (.long ((q4 + tk) - q4)), .second] [])) _
        refine XS.iconst X260.here hx rfl (hb hby at_268) ?_
        show Steps p.tables e below (T260.setTop (mkF m 269 #[.val (.long q1), .second, .val (.int p2), .val (.int p3), .val (.long q4), .second, .val (.long tk), .second, .val (.int (Int32.ofNat n)), .val (.int (1 : Int32)), .val (.ref b172), .val (.ref b176), .val (.ref b182), .val (.ref b176), .val (.ref b236), .val (.long (q4 + (tk / (2 : Int64)))), .second, .val (.long (q4 + tk)), .second, .val (.long (tk * ((Int32.ofNat n).toInt64))), .second, .val (.long tk), .second, .val (.long (q4 + (tk / (2 : Int64)))), .second, .val (.long ((q4 + (tk / (2 : Int64))) - q4)), .second, .val (.long ((q4 + tk) - q4)), .second] [(.int (1 : Int32))])) _
        refine XS.goto X260.here hx rfl (pc0 := 269) (pc' := 273) rfl (hb hby at_269) (by decide) (by decide) ?_
        exact kq)
      obtain ⟨fs, hr, hrun, hended, hW, hsame⟩ := X260.leave (v := some (.int (1 : Int32))) (fun h => by rw [Bd.returns] at h; cases h)
      refine ⟨_, _, go269 _ ?_, hrun, hended, _, _, rfl, ?_, ReturnedEndW.of_narrow ⟨_, rfl⟩ hW (hsame.mono (by decide) (by decide))⟩
      · exact retN X260 hx (t := .boolean) Bd.returns (by simp) (hb hby at_273) hr
      · show Q_rm0 Z q1 p2 p3 q4 h0 n0 _ T260.heap _
        rw [eq260]
        exact ⟨rfl, N260⟩
  · have Fz0 : Fld Z T188.heap b182 "com/example/cicada/cicada/Level" "moveTime" "J" (.long (SP0 - tk)) := by
      have q := F2_188
      rw [own_mt2] at q
      exact q
    have hmt : 0 ≤ ((SP0 - tk)).toInt := own_mtn htk1 hpp0
    have htz : SP1 ≠ 0 := own_pz hpq1
    have go278 : Goes p e below s₁ (G_rm0 m q1 p2 p3 q4) T188 (mkF m 68 #[.val (.long q1), .second, .val (.int p2), .val (.int p3), .val (.long q4), .second, .val (.long tk), .second, .val (.int (Int32.ofNat n)), .val (.int (2 : Int32)), .val (.ref b172), .val (.ref b176), .val (.ref b182), .unset, .unset, .unset, .unset, .unset, .unset, .unset, .unset, .unset, .unset, .unset, .unset, .unset, .unset, .unset, .unset] [(.int (2 : Int32))]) := fun tq kq => go189 tq (by
      show Steps p.tables e below (T188.setTop (mkF m 66 #[.val (.long q1), .second, .val (.int p2), .val (.int p3), .val (.long q4), .second, .val (.long tk), .second, .val (.int (Int32.ofNat n)), .val (.int (2 : Int32)), .val (.ref b172), .val (.ref b176), .val (.ref b182), .unset, .unset, .unset, .unset, .unset, .unset, .unset, .unset, .unset, .unset, .unset, .unset, .unset, .unset, .unset, .unset] [])) _
      refine XS.iload X188.here hx rfl (hb hby at_66) rfl ?_
      exact kq)
    have go279 : Goes p e below s₁ (G_rm0 m q1 p2 p3 q4) T188 (mkF m 79 #[.val (.long q1), .second, .val (.int p2), .val (.int p3), .val (.long q4), .second, .val (.long tk), .second, .val (.int (Int32.ofNat n)), .val (.int (2 : Int32)), .val (.ref b172), .val (.ref b176), .val (.ref b182), .unset, .unset, .unset, .unset, .unset, .unset, .unset, .unset, .unset, .unset, .unset, .unset, .unset, .unset, .unset, .unset] [(.int (1 : Int32)), (.int (2 : Int32))]) := fun tq kq => go278 tq (by
      show Steps p.tables e below (T188.setTop (mkF m 68 #[.val (.long q1), .second, .val (.int p2), .val (.int p3), .val (.long q4), .second, .val (.long tk), .second, .val (.int (Int32.ofNat n)), .val (.int (2 : Int32)), .val (.ref b172), .val (.ref b176), .val (.ref b182), .unset, .unset, .unset, .unset, .unset, .unset, .unset, .unset, .unset, .unset, .unset, .unset, .unset, .unset, .unset, .unset] [(.int (2 : Int32))])) _
      refine XS.ifYes X188.here hx rfl (pc0 := 68) (pc' := 76) rfl (hb hby at_68) rfl ((if0 _ _).trans (feq (by decide)).2) (by decide) (by decide) ?_
      show Steps p.tables e below (T188.setTop (mkF m 76 #[.val (.long q1), .second, .val (.int p2), .val (.int p3), .val (.long q4), .second, .val (.long tk), .second, .val (.int (Int32.ofNat n)), .val (.int (2 : Int32)), .val (.ref b172), .val (.ref b176), .val (.ref b182), .unset, .unset, .unset, .unset, .unset, .unset, .unset, .unset, .unset, .unset, .unset, .unset, .unset, .unset, .unset, .unset] [])) _
      refine XS.iload X188.here hx rfl (hb hby at_76) rfl ?_
      show Steps p.tables e below (T188.setTop (mkF m 78 #[.val (.long q1), .second, .val (.int p2), .val (.int p3), .val (.long q4), .second, .val (.long tk), .second, .val (.int (Int32.ofNat n)), .val (.int (2 : Int32)), .val (.ref b172), .val (.ref b176), .val (.ref b182), .unset, .unset, .unset, .unset, .unset, .unset, .unset, .unset, .unset, .unset, .unset, .unset, .unset, .unset, .unset, .unset] [(.int (2 : Int32))])) _
      refine XS.iconst X188.here hx rfl (hb hby at_78) ?_
      exact kq)
    have go280 : Goes p e below s₁ (G_rm0 m q1 p2 p3 q4) T188 (mkF m 91 #[.val (.long q1), .second, .val (.int p2), .val (.int p3), .val (.long q4), .second, .val (.long tk), .second, .val (.int (Int32.ofNat n)), .val (.int (2 : Int32)), .val (.ref b172), .val (.ref b176), .val (.ref b182), .val (.ref b182), .unset, .unset, .unset, .unset, .unset, .unset, .unset, .unset, .unset, .unset, .unset, .unset, .unset, .unset, .unset] []) := fun tq kq => go279 tq (by
      show Steps p.tables e below (T188.setTop (mkF m 79 #[.val (.long q1), .second, .val (.int p2), .val (.int p3), .val (.long q4), .second, .val (.long tk), .second, .val (.int (Int32.ofNat n)), .val (.int (2 : Int32)), .val (.ref b172), .val (.ref b176), .val (.ref b182), .unset, .unset, .unset, .unset, .unset, .unset, .unset, .unset, .unset, .unset, .unset, .unset, .unset, .unset, .unset, .unset] [(.int (1 : Int32)), (.int (2 : Int32))])) _
      refine XS.icmpYes X188.here hx rfl (pc0 := 79) (pc' := 87) rfl (hb hby at_79) rfl (feq (by decide)).2 (by decide) (by decide) ?_
      show Steps p.tables e below (T188.setTop (mkF m 87 #[.val (.long q1), .second, .val (.int p2), .val (.int p3), .val (.long q4), .second, .val (.long tk), .second, .val (.int (Int32.ofNat n)), .val (.int (2 : Int32)), .val (.ref b172), .val (.ref b176), .val (.ref b182), .unset, .unset, .unset, .unset, .unset, .unset, .unset, .unset, .unset, .unset, .unset, .unset, .unset, .unset, .unset, .unset] [])) _
      refine XS.aload X188.here hx rfl (hb hby at_87) rfl rfl ?_
      show Steps p.tables e below (T188.setTop (mkF m 89 #[.val (.long q1), .second, .val (.int p2), .val (.int p3), .val (.long q4), .second, .val (.long tk), .second, .val (.int (Int32.ofNat n)), .val (.int (2 : Int32)), .val (.ref b172), .val (.ref b176), .val (.ref b182), .unset, .unset, .unset, .unset, .unset, .unset, .unset, .unset, .unset, .unset, .unset, .unset, .unset, .unset, .unset, .unset] [(.ref b182)])) _
      refine XS.astore X188.here hx rfl (hb hby at_89) rfl rfl (l' := #[.val (.long q1), .second, .val (.int p2), .val (.int p3), .val (.long q4), .second, .val (.long tk), .second, .val (.int (Int32.ofNat n)), .val (.int (2 : Int32)), .val (.ref b172), .val (.ref b176), .val (.ref b182), .val (.ref b182), .unset, .unset, .unset, .unset, .unset, .unset, .unset, .unset, .unset, .unset, .unset, .unset, .unset, .unset, .unset]) rfl ?_
      exact kq)
    obtain ⟨T281, h281, X281, e281, E281, A281, D281, -, st281⟩ := newO X188 hx hZ hown (tw70 hw) (tw58 hw) (tw59 hw) rfl (g := (mkF m 91 #[.val (.long q1), .second, .val (.int p2), .val (.int p3), .val (.long q4), .second, .val (.long tk), .second, .val (.int (Int32.ofNat n)), .val (.int (2 : Int32)), .val (.ref b172), .val (.ref b176), .val (.ref b182), .val (.ref b182), .unset, .unset, .unset, .unset, .unset, .unset, .unset, .unset, .unset, .unset, .unset, .unset, .unset, .unset, .unset] [])) rfl (hb hby at_91) (by decide) (by decide)
    obtain ⟨b281, g281⟩ : ∃ z, z = T188.heap.size := ⟨_, rfl⟩
    rw [← g281] at A281 D281 st281
    have g_b281 : n0 ≤ b281 := Nat.le_trans ZS188 (Nat.le_of_eq g281.symm)
    have ZS281 : n0 ≤ h281.size := Nat.le_trans ZS188 E281.1
    have F281_level : Fld Z h281 b281 "com/example/cicada/cicada/Bucket" "level" "Lcom/example/cicada/cicada/Level;" .null := D281 (Or.inr (tw65 hw)) (ty := (.object "com/example/cicada/cicada/Level")) (by decide)
    have F281_opensAt : Fld Z h281 b281 "com/example/cicada/cicada/Bucket" "opensAt" "J" (.long (0 : Int64)) := D281 (Or.inl (tw73 hw)) (ty := .long) (by decide)
    have ne282 : b182 ≠ b281 := Nat.ne_of_lt (Nat.lt_of_lt_of_le A188.lt (Nat.le_of_eq g281.symm))
    have ne283 : B188 ≠ b281 := Nat.ne_of_lt (Nat.lt_of_lt_of_le V188.lt (Nat.le_of_eq g281.symm))
    have go281 : Goes p e below s₁ (G_rm0 m q1 p2 p3 q4) T281 (mkF m 94 #[.val (.long q1), .second, .val (.int p2), .val (.int p3), .val (.long q4), .second, .val (.long tk), .second, .val (.int (Int32.ofNat n)), .val (.int (2 : Int32)), .val (.ref b172), .val (.ref b176), .val (.ref b182), .val (.ref b182), .unset, .unset, .unset, .unset, .unset, .unset, .unset, .unset, .unset, .unset, .unset, .unset, .unset, .unset, .unset] [(.ref b281)]) := fun tq kq => go280 tq (st281 _ kq)
    have go284 : Goes p e below s₁ (G_rm0 m q1 p2 p3 q4) T281 (mkF m 97 #[.val (.long q1), .second, .val (.int p2), .val (.int p3), .val (.long q4), .second, .val (.long tk), .second, .val (.int (Int32.ofNat n)), .val (.int (2 : Int32)), .val (.ref b172), .val (.ref b176), .val (.ref b182), .val (.ref b182), .unset, .unset, .unset, .unset, .unset, .unset, .unset, .unset, .unset, .unset, .unset, .unset, .unset, .unset, .unset] [(.ref b182), (.ref b281), (.ref b281)]) := fun tq kq => go281 tq (by
      show Steps p.tables e below (T281.setTop (mkF m 94 #[.val (.long q1), .second, .val (.int p2), .val (.int p3), .val (.long q4), .second, .val (.long tk), .second, .val (.int (Int32.ofNat n)), .val (.int (2 : Int32)), .val (.ref b172), .val (.ref b176), .val (.ref b182), .val (.ref b182), .unset, .unset, .unset, .unset, .unset, .unset, .unset, .unset, .unset, .unset, .unset, .unset, .unset, .unset, .unset] [(.ref b281)])) _
      refine XS.dup X281.here hx rfl (hb hby at_94) rfl rfl ?_
      show Steps p.tables e below (T281.setTop (mkF m 95 #[.val (.long q1), .second, .val (.int p2), .val (.int p3), .val (.long q4), .second, .val (.long tk), .second, .val (.int (Int32.ofNat n)), .val (.int (2 : Int32)), .val (.ref b172), .val (.ref b176), .val (.ref b182), .val (.ref b182), .unset, .unset, .unset, .unset, .unset, .unset, .unset, .unset, .unset, .unset, .unset, .unset, .unset, .unset, .unset] [(.ref b281), (.ref b281)])) _
      refine XS.aload X281.here hx rfl (hb hby at_95) rfl rfl ?_
      exact kq)
    obtain ⟨vv285, _, ⟨T285, L285, k285, n285⟩, -, X285, ⟨Lc285, hQ285, l285, y285, z285⟩, st285⟩ := X281.specialBack hx (y := (⟨"com/example/cicada/cicada/Bucket", "<init>", "(Lcom/example/cicada/cicada/Level;)V"⟩ : MethodName)) rfl hown (mvT hZ (tw71 hw)) (mvT hZ (tw61 hw)) (mvT hZ (tw62 hw)) (by decide) (backOf (W := 1) (rmBk l Z a0 hw [] b281 b182  h281 n0 ZS281 g_b281 A281 F281_level F281_opensAt) hZ (tw62 hw) (tw59 hw) (by decide) (by decide)) (g := (mkF m 97 #[.val (.long q1), .second, .val (.int p2), .val (.int p3), .val (.long q4), .second, .val (.long tk), .second, .val (.int (Int32.ofNat n)), .val (.int (2 : Int32)), .val (.ref b172), .val (.ref b176), .val (.ref b182), .val (.ref b182), .unset, .unset, .unset, .unset, .unset, .unset, .unset, .unset, .unset, .unset, .unset, .unset, .unset, .unset, .unset] [(.ref b182), (.ref b281), (.ref b281)])) rfl (by rw [hml]; rfl) (Steps.refl _) (a := b281) (argsL := [(.ref b182)]) (rest := [(.ref b281)]) (lenOf pd_0 rfl) rfl (by show 2 * 0 + _ ≤ _; exact Nat.le_of_eq rfl) (hb hby at_97) (fun _ _ => ⟨rfl, e281, (by decide : 58 + 0 ≤ _), (by decide : 378 + 0 ≤ _)⟩)
    dsimp only [Pt.U, Pt.locs, Pt.cells, Pt.slots] at X285 l285 y285 z285 st285 hQ285
    subst l285 y285 z285
    obtain ⟨rfl, Nq285, K285, A285, F285⟩ := hQ285
    have N285 := Fr.app N188 Nq285
    have ZS285 : n0 ≤ T285.heap.size := Nat.le_trans ZS281 K285.1
    have go285 : Goes p e below s₁ (G_rm0 m q1 p2 p3 q4) T285 (mkF m 100 #[.val (.long q1), .second, .val (.int p2), .val (.int p3), .val (.long q4), .second, .val (.long tk), .second, .val (.int (Int32.ofNat n)), .val (.int (2 : Int32)), .val (.ref b172), .val (.ref b176), .val (.ref b182), .val (.ref b182), .unset, .unset, .unset, .unset, .unset, .unset, .unset, .unset, .unset, .unset, .unset, .unset, .unset, .unset, .unset] [(.ref b281)]) := fun tq kq => go284 tq (st285.trans kq)
    have go286 : Goes p e below s₁ (G_rm0 m q1 p2 p3 q4) T285 (mkF m 106 #[.val (.long q1), .second, .val (.int p2), .val (.int p3), .val (.long q4), .second, .val (.long tk), .second, .val (.int (Int32.ofNat n)), .val (.int (2 : Int32)), .val (.ref b172), .val (.ref b176), .val (.ref b182), .val (.ref b182), .val (.ref b281), .unset, .unset, .unset, .unset, .unset, .unset, .unset, .unset, .unset, .unset, .unset, .unset, .unset, .unset] [(.long q4), (.ref b281)]) := fun tq kq => go285 tq (by
      show Steps p.tables e below (T285.setTop (mkF m 100 #[.val (.long q1), .second, .val (.int p2), .val (.int p3), .val (.long q4), .second, .val (.long tk), .second, .val (.int (Int32.ofNat n)), .val (.int (2 : Int32)), .val (.ref b172), .val (.ref b176), .val (.ref b182), .val (.ref b182), .unset, .unset, .unset, .unset, .unset, .unset, .unset, .unset, .unset, .unset, .unset, .unset, .unset, .unset, .unset] [(.ref b281)])) _
      refine XS.astore X285.here hx rfl (hb hby at_100) rfl rfl (l' := #[.val (.long q1), .second, .val (.int p2), .val (.int p3), .val (.long q4), .second, .val (.long tk), .second, .val (.int (Int32.ofNat n)), .val (.int (2 : Int32)), .val (.ref b172), .val (.ref b176), .val (.ref b182), .val (.ref b182), .val (.ref b281), .unset, .unset, .unset, .unset, .unset, .unset, .unset, .unset, .unset, .unset, .unset, .unset, .unset, .unset]) rfl ?_
      show Steps p.tables e below (T285.setTop (mkF m 102 #[.val (.long q1), .second, .val (.int p2), .val (.int p3), .val (.long q4), .second, .val (.long tk), .second, .val (.int (Int32.ofNat n)), .val (.int (2 : Int32)), .val (.ref b172), .val (.ref b176), .val (.ref b182), .val (.ref b182), .val (.ref b281), .unset, .unset, .unset, .unset, .unset, .unset, .unset, .unset, .unset, .unset, .unset, .unset, .unset, .unset] [])) _
      refine XS.aload X285.here hx rfl (hb hby at_102) rfl rfl ?_
      show Steps p.tables e below (T285.setTop (mkF m 104 #[.val (.long q1), .second, .val (.int p2), .val (.int p3), .val (.long q4), .second, .val (.long tk), .second, .val (.int (Int32.ofNat n)), .val (.int (2 : Int32)), .val (.ref b172), .val (.ref b176), .val (.ref b182), .val (.ref b182), .val (.ref b281), .unset, .unset, .unset, .unset, .unset, .unset, .unset, .unset, .unset, .unset, .unset, .unset, .unset, .unset] [(.ref b281)])) _
      refine XS.lload X285.here hx rfl (hb hby at_104) rfl ?_
      exact kq)
    obtain ⟨T287, h287, X287, e287, W287, st287⟩ := putF X285 hx hZ hown (host := "") (Or.inl (tw72 hw)) Via.refl rfl F285 A285 (Or.inl (tw73 hw)) (tw58 hw) (ty := .long) (by decide) rfl rfl (g := (mkF m 106 #[.val (.long q1), .second, .val (.int p2), .val (.int p3), .val (.long q4), .second, .val (.long tk), .second, .val (.int (Int32.ofNat n)), .val (.int (2 : Int32)), .val (.ref b172), .val (.ref b176), .val (.ref b182), .val (.ref b182), .val (.ref b281), .unset, .unset, .unset, .unset, .unset, .unset, .unset, .unset, .unset, .unset, .unset, .unset, .unset, .unset] [(.long q4), (.ref b281)])) rfl rfl (hb hby at_106)
    have N287 := Fr.snoc X287 N285 g_b281
    have ZS287 : n0 ≤ h287.size := Nat.le_trans ZS285 (Keep.of_wr W287).1
    have F287 := Fld.same W287 F285
    have go287 : Goes p e below s₁ (G_rm0 m q1 p2 p3 q4) T287 (mkF m 109 #[.val (.long q1), .second, .val (.int p2), .val (.int p3), .val (.long q4), .second, .val (.long tk), .second, .val (.int (Int32.ofNat n)), .val (.int (2 : Int32)), .val (.ref b172), .val (.ref b176), .val (.ref b182), .val (.ref b182), .val (.ref b281), .unset, .unset, .unset, .unset, .unset, .unset, .unset, .unset, .unset, .unset, .unset, .unset, .unset, .unset] []) := fun tq kq => go286 tq (st287 _ kq)
    have go288 : Goes p e below s₁ (G_rm0 m q1 p2 p3 q4) T287 (mkF m 113 #[.val (.long q1), .second, .val (.int p2), .val (.int p3), .val (.long q4), .second, .val (.long tk), .second, .val (.int (Int32.ofNat n)), .val (.int (2 : Int32)), .val (.ref b172), .val (.ref b176), .val (.ref b182), .val (.ref b182), .val (.ref b281), .unset, .unset, .unset, .unset, .unset, .unset, .unset, .unset, .unset, .unset, .unset, .unset, .unset, .unset] [(.ref b281), (.ref b182)]) := fun tq kq => go287 tq (by
      show Steps p.tables e below (T287.setTop (mkF m 109 #[.val (.long q1), .second, .val (.int p2), .val (.int p3), .val (.long q4), .second, .val (.long tk), .second, .val (.int (Int32.ofNat n)), .val (.int (2 : Int32)), .val (.ref b172), .val (.ref b176), .val (.ref b182), .val (.ref b182), .val (.ref b281), .unset, .unset, .unset, .unset, .unset, .unset, .unset, .unset, .unset, .unset, .unset, .unset, .unset, .unset] [])) _
      refine XS.aload X287.here hx rfl (hb hby at_109) rfl rfl ?_
      show Steps p.tables e below (T287.setTop (mkF m 111 #[.val (.long q1), .second, .val (.int p2), .val (.int p3), .val (.long q4), .second, .val (.long tk), .second, .val (.int (Int32.ofNat n)), .val (.int (2 : Int32)), .val (.ref b172), .val (.ref b176), .val (.ref b182), .val (.ref b182), .val (.ref b281), .unset, .unset, .unset, .unset, .unset, .unset, .unset, .unset, .unset, .unset, .unset, .unset, .unset, .unset] [(.ref b182)])) _
      refine XS.aload X287.here hx rfl (hb hby at_111) rfl rfl ?_
      exact kq)
    have f289 := (Fld.other W287 ((F0_188.ext E281).keep K285 (ninS ne282 nin0)) (Or.inl ne282))
    have f290 := (Fld.other W287 ((FB188.ext E281).keep K285 (ninS ne282 nin0)) (Or.inl ne282))
    have f291 := (((V188.ext E281).keep K285 (ninS ne283 nin0)).other W287 ne283)
    have f292 := (Fld.other W287 ((F1_188.ext E281).keep K285 (ninS ne282 nin0)) (Or.inl ne282))
    have f293 := (Fld.other W287 ((F5_188.ext E281).keep K285 (ninS ne282 nin0)) (Or.inl ne282))
    have f294 := (Fld.other W287 ((F6_188.ext E281).keep K285 (ninS ne282 nin0)) (Or.inl ne282))
    have f295 := (Fld.other W287 ((Fz0.ext E281).keep K285 (ninS ne282 nin0)) (Or.inl ne282))
    obtain ⟨cq296, kq296, q296a, q296b, q296c⟩ := isOf hZ e287 (Exa.wr W287 ((A188.ext E281).keep K285))
    obtain ⟨vv296, _, ⟨T296, L296, k296, n296⟩, -, X296, ⟨Lc296, hQ296, l296, y296, z296⟩, st296⟩ := X287.virtualBack hx (y := (⟨"com/example/cicada/cicada/Level", "open", "(Lcom/example/cicada/cicada/Bucket;)V"⟩ : MethodName)) (z := (⟨"com/example/cicada/cicada/Level", "open", "(Lcom/example/cicada/cicada/Bucket;)V"⟩ : MethodName)) hown (mvT hZ (tw74 hw)) (mvT hZ (tw75 hw)) (notFace_of_selects (args := #[]) (mvT hZ (tw77 hw))) (mvT hZ (tw77 hw)) (mvT hZ (tw76 hw)) (by decide) (backOf (W := 0) (rmOpen0 l Z a0 hw [] b182 b281 SP1 (tk + SP0) q4 (SP0 - tk) B188 kB188 n vs188 h287 n0 ZS287 g_b182 g_B188 (Exa.wr W287 ((A188.ext E281).keep K285)) f289 f290 f291 htz hn1 hn16 Ov188 l188 (Exa.wr W287 A285) F287 f292 f293 f294 f295) hZ (tw78 hw) (tw8 hw) (by decide) (by decide)) q296a q296c (g := (mkF m 113 #[.val (.long q1), .second, .val (.int p2), .val (.int p3), .val (.long q4), .second, .val (.long tk), .second, .val (.int (Int32.ofNat n)), .val (.int (2 : Int32)), .val (.ref b172), .val (.ref b176), .val (.ref b182), .val (.ref b182), .val (.ref b281), .unset, .unset, .unset, .unset, .unset, .unset, .unset, .unset, .unset, .unset, .unset, .unset, .unset, .unset] [(.ref b281), (.ref b182)])) rfl (by rw [hml]; rfl) (Steps.refl _) (argsL := [(.ref b281)]) (rest := []) (lenOf pd_11 rfl) rfl (by show 2 * 0 + _ ≤ _; exact Nat.le_of_eq rfl) (hb hby at_113) (fun _ _ => ⟨rfl, e287, (by decide : 58 + 1 ≤ _), (by decide : 378 + 6 ≤ _)⟩)
    dsimp only [Pt.U, Pt.locs, Pt.cells, Pt.slots] at X296 l296 y296 z296 st296 hQ296
    subst l296 y296 z296
    obtain ⟨rfl, Nq296, K296, A296, Ft296, Fl296, Fz296, Fb296, Fs296, Fm296, nb296, BN296, V296⟩ := hQ296
    have N296 := Fr.app N287 Nq296
    have ZS296 : n0 ≤ T296.heap.size := Nat.le_trans ZS287 K296.1
    have go296 : Goes p e below s₁ (G_rm0 m q1 p2 p3 q4) T296 (mkF m 116 #[.val (.long q1), .second, .val (.int p2), .val (.int p3), .val (.long q4), .second, .val (.long tk), .second, .val (.int (Int32.ofNat n)), .val (.int (2 : Int32)), .val (.ref b172), .val (.ref b176), .val (.ref b182), .val (.ref b182), .val (.ref b281), .unset, .unset, .unset, .unset, .unset, .unset, .unset, .unset, .unset, .unset, .unset, .unset, .unset, .unset] []) := fun tq kq => go288 tq (st296.trans kq)
    have go297 : Goes p e below s₁ (G_rm0 m q1 p2 p3 q4) T296 (mkF m 118 #[.val (.long q1), .second, .val (.int p2), .val (.int p3), .val (.long q4), .second, .val (.long tk), .second, .val (.int (Int32.ofNat n)), .val (.int (2 : Int32)), .val (.ref b172), .val (.ref b176), .val (.ref b182), .val (.ref b182), .val (.ref b281), .unset, .unset, .unset, .unset, .unset, .unset, .unset, .unset, .unset, .unset, .unset, .unset, .unset, .unset] [(.ref b182)]) := fun tq kq => go296 tq (by
      show Steps p.tables e below (T296.setTop (mkF m 116 #[.val (.long q1), .second, .val (.int p2), .val (.int p3), .val (.long q4), .second, .val (.long tk), .second, .val (.int (Int32.ofNat n)), .val (.int (2 : Int32)), .val (.ref b172), .val (.ref b176), .val (.ref b182), .val (.ref b182), .val (.ref b281), .unset, .unset, .unset, .unset, .unset, .unset, .unset, .unset, .unset, .unset, .unset, .unset, .unset, .unset] [])) _
      refine XS.aload X296.here hx rfl (hb hby at_116) rfl rfl ?_
      exact kq)
    obtain ⟨cq298, kq298, q298a, q298b, q298c⟩ := isOf hZ rfl A296
    obtain ⟨vv298, _, ⟨T298, L298, k298, n298⟩, -, X298, ⟨Lc298, hQ298, l298, y298, z298⟩, st298⟩ := X296.virtualBack hx (y := (⟨"com/example/cicada/cicada/Level", "moving", "()Lcom/example/cicada/cicada/Bucket;"⟩ : MethodName)) (z := (⟨"com/example/cicada/cicada/Level", "moving", "()Lcom/example/cicada/cicada/Bucket;"⟩ : MethodName)) hown (mvT hZ (tw97 hw)) (mvT hZ (tw98 hw)) (notFace_of_selects (args := #[]) (mvT hZ (tw100 hw))) (mvT hZ (tw100 hw)) (mvT hZ (tw99 hw)) (by decide) (backOf (W := 0) (rmMvR l Z a0 hw [] b182 b281 T296.heap n0 ZS296 Fm296) hZ (tw101 hw) (tw8 hw) (by decide) (by decide)) q298a q298c (g := (mkF m 118 #[.val (.long q1), .second, .val (.int p2), .val (.int p3), .val (.long q4), .second, .val (.long tk), .second, .val (.int (Int32.ofNat n)), .val (.int (2 : Int32)), .val (.ref b172), .val (.ref b176), .val (.ref b182), .val (.ref b182), .val (.ref b281), .unset, .unset, .unset, .unset, .unset, .unset, .unset, .unset, .unset, .unset, .unset, .unset, .unset, .unset] [(.ref b182)])) rfl (by rw [hml]; rfl) (Steps.refl _) (argsL := []) (rest := []) (lenOf pd_12 rfl) rfl (by show 2 * 0 + _ ≤ _; exact Nat.le_of_eq rfl) (hb hby at_118) (fun _ _ => ⟨rfl, rfl, (by decide : 59 + 0 ≤ _), (by decide : 384 + 0 ≤ _)⟩)
    dsimp only [Pt.U, Pt.locs, Pt.cells, Pt.slots] at X298 l298 y298 z298 st298 hQ298
    subst l298 y298 z298
    obtain ⟨rfl, Nq298, eq298⟩ := hQ298
    have N298 := Fr.app N296 Nq298
    have go298 : Goes p e below s₁ (G_rm0 m q1 p2 p3 q4) T298 (mkF m 121 #[.val (.long q1), .second, .val (.int p2), .val (.int p3), .val (.long q4), .second, .val (.long tk), .second, .val (.int (Int32.ofNat n)), .val (.int (2 : Int32)), .val (.ref b172), .val (.ref b176), .val (.ref b182), .val (.ref b182), .val (.ref b281), .unset, .unset, .unset, .unset, .unset, .unset, .unset, .unset, .unset, .unset, .unset, .unset, .unset, .unset] [(.ref b281)]) := fun tq kq => go297 tq (st298.trans kq)
    have go299 : Goes p e below s₁ (G_rm0 m q1 p2 p3 q4) T298 (mkF m 123 #[.val (.long q1), .second, .val (.int p2), .val (.int p3), .val (.long q4), .second, .val (.long tk), .second, .val (.int (Int32.ofNat n)), .val (.int (2 : Int32)), .val (.ref b172), .val (.ref b176), .val (.ref b182), .val (.ref b182), .val (.ref b281), .unset, .unset, .unset, .unset, .unset, .unset, .unset, .unset, .unset, .unset, .unset, .unset, .unset, .unset] [(.ref b281), (.ref b281)]) := fun tq kq => go298 tq (by
      show Steps p.tables e below (T298.setTop (mkF m 121 #[.val (.long q1), .second, .val (.int p2), .val (.int p3), .val (.long q4), .second, .val (.long tk), .second, .val (.int (Int32.ofNat n)), .val (.int (2 : Int32)), .val (.ref b172), .val (.ref b176), .val (.ref b182), .val (.ref b182), .val (.ref b281), .unset, .unset, .unset, .unset, .unset, .unset, .unset, .unset, .unset, .unset, .unset, .unset, .unset, .unset] [(.ref b281)])) _
      refine XS.aload X298.here hx rfl (hb hby at_121) rfl rfl ?_
      exact kq)
    have go300 : Goes p e below s₁ (G_rm0 m q1 p2 p3 q4) T298 (mkF m 130 #[.val (.long q1), .second, .val (.int p2), .val (.int p3), .val (.long q4), .second, .val (.long tk), .second, .val (.int (Int32.ofNat n)), .val (.int (2 : Int32)), .val (.ref b172), .val (.ref b176), .val (.ref b182), .val (.ref b182), .val (.ref b281), .unset, .unset, .unset, .unset, .unset, .unset, .unset, .unset, .unset, .unset, .unset, .unset, .unset, .unset] [(.ref b182)]) := fun tq kq => go299 tq (by
      show Steps p.tables e below (T298.setTop (mkF m 123 #[.val (.long q1), .second, .val (.int p2), .val (.int p3), .val (.long q4), .second, .val (.long tk), .second, .val (.int (Int32.ofNat n)), .val (.int (2 : Int32)), .val (.ref b172), .val (.ref b176), .val (.ref b182), .val (.ref b182), .val (.ref b281), .unset, .unset, .unset, .unset, .unset, .unset, .unset, .unset, .unset, .unset, .unset, .unset, .unset, .unset] [(.ref b281), (.ref b281)])) _
      refine Jvm.RoadKit.acmp (g := (mkF m 123 #[.val (.long q1), .second, .val (.int p2), .val (.int p3), .val (.long q4), .second, .val (.long tk), .second, .val (.int (Int32.ofNat n)), .val (.int (2 : Int32)), .val (.ref b172), .val (.ref b176), .val (.ref b182), .val (.ref b182), .val (.ref b281), .unset, .unset, .unset, .unset, .unset, .unset, .unset, .unset, .unset, .unset, .unset, .unset, .unset, .unset] [(.ref b281), (.ref b281)])) X298 hx rfl rfl rfl (pc0 := 123) (pc' := 128) (same := true) rfl (hb hby at_123) rfl (decide_eq_true rfl) (by decide) (by decide) ?_
      show Steps p.tables e below (T298.setTop (mkF m 128 #[.val (.long q1), .second, .val (.int p2), .val (.int p3), .val (.long q4), .second, .val (.long tk), .second, .val (.int (Int32.ofNat n)), .val (.int (2 : Int32)), .val (.ref b172), .val (.ref b176), .val (.ref b182), .val (.ref b182), .val (.ref b281), .unset, .unset, .unset, .unset, .unset, .unset, .unset, .unset, .unset, .unset, .unset, .unset, .unset, .unset] [])) _
      refine XS.aload X298.here hx rfl (hb hby at_128) rfl rfl ?_
      exact kq)
    have f301 := (F287.keep K296 (ninS (Ne.symm ne283) (ninS (Ne.symm ne282) nin0)))
    obtain ⟨cq302, kq302, q302a, q302b, q302c⟩ := isOf hZ eq298 A296
    obtain ⟨vv302, _, ⟨T302, L302, k302, n302⟩, -, X302, ⟨Lc302, hQ302, l302, y302, z302⟩, st302⟩ := X298.virtualBack hx (y := (⟨"com/example/cicada/cicada/Level", "moveMiddle", "()J"⟩ : MethodName)) (z := (⟨"com/example/cicada/cicada/Level", "moveMiddle", "()J"⟩ : MethodName)) hown (mvT hZ (tw102 hw)) (mvT hZ (tw103 hw)) (notFace_of_selects (args := #[]) (mvT hZ (tw105 hw))) (mvT hZ (tw105 hw)) (mvT hZ (tw104 hw)) (by decide) (backOf (W := 0) (rmMid l Z a0 hw [] b182 b281 q4 (SP0 - tk) T296.heap n0 ZS296 Fm296 f301 Fz296) hZ (tw106 hw) (tw8 hw) (by decide) (by decide)) q302a q302c (g := (mkF m 130 #[.val (.long q1), .second, .val (.int p2), .val (.int p3), .val (.long q4), .second, .val (.long tk), .second, .val (.int (Int32.ofNat n)), .val (.int (2 : Int32)), .val (.ref b172), .val (.ref b176), .val (.ref b182), .val (.ref b182), .val (.ref b281), .unset, .unset, .unset, .unset, .unset, .unset, .unset, .unset, .unset, .unset, .unset, .unset, .unset, .unset] [(.ref b182)])) rfl (by rw [hml]; rfl) (Steps.refl _) (argsL := []) (rest := []) (lenOf pd_13 rfl) rfl (by show 2 * 0 + _ ≤ _; exact Nat.le_of_eq rfl) (hb hby at_130) (fun _ _ => ⟨rfl, eq298, (by decide : 59 + 0 ≤ _), (by decide : 384 + 0 ≤ _)⟩)
    dsimp only [Pt.U, Pt.locs, Pt.cells, Pt.slots] at X302 l302 y302 z302 st302 hQ302
    subst l302 y302 z302
    obtain ⟨rfl, Nq302, eq302⟩ := hQ302
    have N302 := Fr.app N298 Nq302
    have go302 : Goes p e below s₁ (G_rm0 m q1 p2 p3 q4) T302 (mkF m 133 #[.val (.long q1), .second, .val (.int p2), .val (.int p3), .val (.long q4), .second, .val (.long tk), .second, .val (.int (Int32.ofNat n)), .val (.int (2 : Int32)), .val (.ref b172), .val (.ref b176), .val (.ref b182), .val (.ref b182), .val (.ref b281), .unset, .unset, .unset, .unset, .unset, .unset, .unset, .unset, .unset, .unset, .unset, .unset, .unset, .unset] [(.long (q4 + ((SP0 - tk) / (2 : Int64))))]) := fun tq kq => go300 tq (st302.trans kq)
    have go303 : Goes p e below s₁ (G_rm0 m q1 p2 p3 q4) T302 (mkF m 137 #[.val (.long q1), .second, .val (.int p2), .val (.int p3), .val (.long q4), .second, .val (.long tk), .second, .val (.int (Int32.ofNat n)), .val (.int (2 : Int32)), .val (.ref b172), .val (.ref b176), .val (.ref b182), .val (.ref b182), .val (.ref b281), .val (.long (q4 + ((SP0 - tk) / (2 : Int64)))), .second, .unset, .unset, .unset, .unset, .unset, .unset, .unset, .unset, .unset, .unset, .unset, .unset] [(.ref b182)]) := fun tq kq => go302 tq (by
      show Steps p.tables e below (T302.setTop (mkF m 133 #[.val (.long q1), .second, .val (.int p2), .val (.int p3), .val (.long q4), .second, .val (.long tk), .second, .val (.int (Int32.ofNat n)), .val (.int (2 : Int32)), .val (.ref b172), .val (.ref b176), .val (.ref b182), .val (.ref b182), .val (.ref b281), .unset, .unset, .unset, .unset, .unset, .unset, .unset, .unset, .unset, .unset, .unset, .unset, .unset, .unset] [(.long (q4 + ((SP0 - tk) / (2 : Int64))))])) _
      refine XS.lstore X302.here hx rfl (hb hby at_133) rfl (l' := #[.val (.long q1), .second, .val (.int p2), .val (.int p3), .val (.long q4), .second, .val (.long tk), .second, .val (.int (Int32.ofNat n)), .val (.int (2 : Int32)), .val (.ref b172), .val (.ref b176), .val (.ref b182), .val (.ref b182), .val (.ref b281), .val (.long (q4 + ((SP0 - tk) / (2 : Int64)))), .second, .unset, .unset, .unset, .unset, .unset, .unset, .unset, .unset, .unset, .unset, .unset, .unset]) rfl ?_
      show Steps p.tables e below (T302.setTop (mkF m 135 #[.val (.long q1), .second, .val (.int p2), .val (.int p3), .val (.long q4), .second, .val (.long tk), .second, .val (.int (Int32.ofNat n)), .val (.int (2 : Int32)), .val (.ref b172), .val (.ref b176), .val (.ref b182), .val (.ref b182), .val (.ref b281), .val (.long (q4 + ((SP0 - tk) / (2 : Int64)))), .second, .unset, .unset, .unset, .unset, .unset, .unset, .unset, .unset, .unset, .unset, .unset, .unset] [])) _
      refine XS.aload X302.here hx rfl (hb hby at_135) rfl rfl ?_
      exact kq)
    obtain ⟨cq304, kq304, q304a, q304b, q304c⟩ := isOf hZ eq302 A296
    obtain ⟨vv304, _, ⟨T304, L304, k304, n304⟩, -, X304, ⟨Lc304, hQ304, l304, y304, z304⟩, st304⟩ := X302.virtualBack hx (y := (⟨"com/example/cicada/cicada/Level", "moveDeadline", "()J"⟩ : MethodName)) (z := (⟨"com/example/cicada/cicada/Level", "moveDeadline", "()J"⟩ : MethodName)) hown (mvT hZ (tw108 hw)) (mvT hZ (tw109 hw)) (notFace_of_selects (args := #[]) (mvT hZ (tw111 hw))) (mvT hZ (tw111 hw)) (mvT hZ (tw110 hw)) (by decide) (backOf (W := 0) (rmDl l Z a0 hw [] b182 b281 q4 (SP0 - tk) T296.heap n0 ZS296 Fm296 f301 Fz296) hZ (tw112 hw) (tw8 hw) (by decide) (by decide)) q304a q304c (g := (mkF m 137 #[.val (.long q1), .second, .val (.int p2), .val (.int p3), .val (.long q4), .second, .val (.long tk), .second, .val (.int (Int32.ofNat n)), .val (.int (2 : Int32)), .val (.ref b172), .val (.ref b176), .val (.ref b182), .val (.ref b182), .val (.ref b281), .val (.long (q4 + ((SP0 - tk) / (2 : Int64)))), .second, .unset, .unset, .unset, .unset, .unset, .unset, .unset, .unset, .unset, .unset, .unset, .unset] [(.ref b182)])) rfl (by rw [hml]; rfl) (Steps.refl _) (argsL := []) (rest := []) (lenOf pd_13 rfl) rfl (by show 2 * 0 + _ ≤ _; exact Nat.le_of_eq rfl) (hb hby at_137) (fun _ _ => ⟨rfl, eq302, (by decide : 59 + 0 ≤ _), (by decide : 384 + 0 ≤ _)⟩)
    dsimp only [Pt.U, Pt.locs, Pt.cells, Pt.slots] at X304 l304 y304 z304 st304 hQ304
    subst l304 y304 z304
    obtain ⟨rfl, Nq304, eq304⟩ := hQ304
    have N304 := Fr.app N302 Nq304
    have go304 : Goes p e below s₁ (G_rm0 m q1 p2 p3 q4) T304 (mkF m 140 #[.val (.long q1), .second, .val (.int p2), .val (.int p3), .val (.long q4), .second, .val (.long tk), .second, .val (.int (Int32.ofNat n)), .val (.int (2 : Int32)), .val (.ref b172), .val (.ref b176), .val (.ref b182), .val (.ref b182), .val (.ref b281), .val (.long (q4 + ((SP0 - tk) / (2 : Int64)))), .second, .unset, .unset, .unset, .unset, .unset, .unset, .unset, .unset, .unset, .unset, .unset, .unset] [(.long (q4 + (SP0 - tk)))]) := fun tq kq => go303 tq (st304.trans kq)
    have go305 : Goes p e below s₁ (G_rm0 m q1 p2 p3 q4) T304 (mkF m 152 #[.val (.long q1), .second, .val (.int p2), .val (.int p3), .val (.long q4), .second, .val (.long tk), .second, .val (.int (Int32.ofNat n)), .val (.int (2 : Int32)), .val (.ref b172), .val (.ref b176), .val (.ref b182), .val (.ref b182), .val (.ref b281), .val (.long (q4 + ((SP0 - tk) / (2 : Int64)))), .second, .val (.long (q4 + (SP0 - tk))), .second, .unset, .unset, .unset, .unset, .unset, .unset, .unset, .unset, .unset, .unset] [(.int (lcmpW tk ((9223372036854775807 : Int64) / ((Int32.ofNat n).toInt64))))]) := fun tq kq => go304 tq (by
      show Steps p.tables e below (T304.setTop (mkF m 140 #[.val (.long q1), .second, .val (.int p2), .val (.int p3), .val (.long q4), .second, .val (.long tk), .second, .val (.int (Int32.ofNat n)), .val (.int (2 : Int32)), .val (.ref b172), .val (.ref b176), .val (.ref b182), .val (.ref b182), .val (.ref b281), .val (.long (q4 + ((SP0 - tk) / (2 : Int64)))), .second, .unset, .unset, .unset, .unset, .unset, .unset, .unset, .unset, .unset, .unset, .unset, .unset] [(.long (q4 + (SP0 - tk)))])) _
      refine XS.lstore X304.here hx rfl (hb hby at_140) rfl (l' := #[.val (.long q1), .second, .val (.int p2), .val (.int p3), .val (.long q4), .second, .val (.long tk), .second, .val (.int (Int32.ofNat n)), .val (.int (2 : Int32)), .val (.ref b172), .val (.ref b176), .val (.ref b182), .val (.ref b182), .val (.ref b281), .val (.long (q4 + ((SP0 - tk) / (2 : Int64)))), .second, .val (.long (q4 + (SP0 - tk))), .second, .unset, .unset, .unset, .unset, .unset, .unset, .unset, .unset, .unset, .unset]) rfl ?_
      show Steps p.tables e below (T304.setTop (mkF m 142 #[.val (.long q1), .second, .val (.int p2), .val (.int p3), .val (.long q4), .second, .val (.long tk), .second, .val (.int (Int32.ofNat n)), .val (.int (2 : Int32)), .val (.ref b172), .val (.ref b176), .val (.ref b182), .val (.ref b182), .val (.ref b281), .val (.long (q4 + ((SP0 - tk) / (2 : Int64)))), .second, .val (.long (q4 + (SP0 - tk))), .second, .unset, .unset, .unset, .unset, .unset, .unset, .unset, .unset, .unset, .unset] [])) _
      refine XS.lload X304.here hx rfl (hb hby at_142) rfl ?_
      show Steps p.tables e below (T304.setTop (mkF m 144 #[.val (.long q1), .second, .val (.int p2), .val (.int p3), .val (.long q4), .second, .val (.long tk), .second, .val (.int (Int32.ofNat n)), .val (.int (2 : Int32)), .val (.ref b172), .val (.ref b176), .val (.ref b182), .val (.ref b182), .val (.ref b281), .val (.long (q4 + ((SP0 - tk) / (2 : Int64)))), .second, .val (.long (q4 + (SP0 - tk))), .second, .unset, .unset, .unset, .unset, .unset, .unset, .unset, .unset, .unset, .unset] [(.long tk)])) _
      refine X304.ldc2Long hx hown (mvT hZ (tw0 hw)) (g := (mkF m 144 #[.val (.long q1), .second, .val (.int p2), .val (.int p3), .val (.long q4), .second, .val (.long tk), .second, .val (.int (Int32.ofNat n)), .val (.int (2 : Int32)), .val (.ref b172), .val (.ref b176), .val (.ref b182), .val (.ref b182), .val (.ref b281), .val (.long (q4 + ((SP0 - tk) / (2 : Int64)))), .second, .val (.long (q4 + (SP0 - tk))), .second, .unset, .unset, .unset, .unset, .unset, .unset, .unset, .unset, .unset, .unset] [(.long tk)])) rfl (hb hby at_144) _ ?_
      show Steps p.tables e below (T304.setTop (mkF m 147 #[.val (.long q1), .second, .val (.int p2), .val (.int p3), .val (.long q4), .second, .val (.long tk), .second, .val (.int (Int32.ofNat n)), .val (.int (2 : Int32)), .val (.ref b172), .val (.ref b176), .val (.ref b182), .val (.ref b182), .val (.ref b281), .val (.long (q4 + ((SP0 - tk) / (2 : Int64)))), .second, .val (.long (q4 + (SP0 - tk))), .second, .unset, .unset, .unset, .unset, .unset, .unset, .unset, .unset, .unset, .unset] [(.long (9223372036854775807 : Int64)), (.long tk)])) _
      refine XS.iload X304.here hx rfl (hb hby at_147) rfl ?_
      show Steps p.tables e below (T304.setTop (mkF m 149 #[.val (.long q1), .second, .val (.int p2), .val (.int p3), .val (.long q4), .second, .val (.long tk), .second, .val (.int (Int32.ofNat n)), .val (.int (2 : Int32)), .val (.ref b172), .val (.ref b176), .val (.ref b182), .val (.ref b182), .val (.ref b281), .val (.long (q4 + ((SP0 - tk) / (2 : Int64)))), .second, .val (.long (q4 + (SP0 - tk))), .second, .unset, .unset, .unset, .unset, .unset, .unset, .unset, .unset, .unset, .unset] [(.int (Int32.ofNat n)), (.long (9223372036854775807 : Int64)), (.long tk)])) _
      refine XS.i2l X304.here hx rfl (hb hby at_149) rfl ?_
      show Steps p.tables e below (T304.setTop (mkF m 150 #[.val (.long q1), .second, .val (.int p2), .val (.int p3), .val (.long q4), .second, .val (.long tk), .second, .val (.int (Int32.ofNat n)), .val (.int (2 : Int32)), .val (.ref b172), .val (.ref b176), .val (.ref b182), .val (.ref b182), .val (.ref b281), .val (.long (q4 + ((SP0 - tk) / (2 : Int64)))), .second, .val (.long (q4 + (SP0 - tk))), .second, .unset, .unset, .unset, .unset, .unset, .unset, .unset, .unset, .unset, .unset] [(.long ((Int32.ofNat n).toInt64)), (.long (9223372036854775807 : Int64)), (.long tk)])) _
      refine XS.ldiv X304.here hx rfl (hb hby at_150) rfl (own_nz hn1 hn16) ?_
      show Steps p.tables e below (T304.setTop (mkF m 151 #[.val (.long q1), .second, .val (.int p2), .val (.int p3), .val (.long q4), .second, .val (.long tk), .second, .val (.int (Int32.ofNat n)), .val (.int (2 : Int32)), .val (.ref b172), .val (.ref b176), .val (.ref b182), .val (.ref b182), .val (.ref b281), .val (.long (q4 + ((SP0 - tk) / (2 : Int64)))), .second, .val (.long (q4 + (SP0 - tk))), .second, .unset, .unset, .unset, .unset, .unset, .unset, .unset, .unset, .unset, .unset] [(.long ((9223372036854775807 : Int64) / ((Int32.ofNat n).toInt64))), (.long tk)])) _
      refine XS.lcmp X304.here hx rfl (hb hby at_151) rfl ?_
      exact kq)
    by_cases hsp : ((9223372036854775807 : Int64) / ((Int32.ofNat n).toInt64)) < tk
    · have go314 : Goes p e below s₁ (G_rm0 m q1 p2 p3 q4) T304 (mkF m 169 #[.val (.long q1), .second, .val (.int p2), .val (.int p3), .val (.long q4), .second, .val (.long tk), .second, .val (.int (Int32.ofNat n)), .val (.int (2 : Int32)), .val (.ref b172), .val (.ref b176), .val (.ref b182), .val (.ref b182), .val (.ref b281), .val (.long (q4 + ((SP0 - tk) / (2 : Int64)))), .second, .val (.long (q4 + (SP0 - tk))), .second, .val (.long (9223372036854775807 : Int64)), .second, .unset, .unset, .unset, .unset, .unset, .unset, .unset, .unset] []) := fun tq kq => go305 tq (by
        show Steps p.tables e below (T304.setTop (mkF m 152 #[.val (.long q1), .second, .val (.int p2), .val (.int p3), .val (.long q4), .second, .val (.long tk), .second, .val (.int (Int32.ofNat n)), .val (.int (2 : Int32)), .val (.ref b172), .val (.ref b176), .val (.ref b182), .val (.ref b182), .val (.ref b281), .val (.long (q4 + ((SP0 - tk) / (2 : Int64)))), .second, .val (.long (q4 + (SP0 - tk))), .second, .unset, .unset, .unset, .unset, .unset, .unset, .unset, .unset, .unset, .unset] [(.int (lcmpW tk ((9223372036854775807 : Int64) / ((Int32.ofNat n).toInt64))))])) _
        refine XS.ifNo X304.here hx rfl (hb hby at_152) rfl ((if0 _ _).trans (tlt (own_lcgt hsp)).2.2.2) ?_
        show Steps p.tables e below (T304.setTop (mkF m 155 #[.val (.long q1), .second, .val (.int p2), .val (.int p3), .val (.long q4), .second, .val (.long tk), .second, .val (.int (Int32.ofNat n)), .val (.int (2 : Int32)), .val (.ref b172), .val (.ref b176), .val (.ref b182), .val (.ref b182), .val (.ref b281), .val (.long (q4 + ((SP0 - tk) / (2 : Int64)))), .second, .val (.long (q4 + (SP0 - tk))), .second, .unset, .unset, .unset, .unset, .unset, .unset, .unset, .unset, .unset, .unset] [])) _
        refine X304.ldc2Long hx hown (mvT hZ (tw0 hw)) (g := (mkF m 155 #[.val (.long q1), .second, .val (.int p2), .val (.int p3), .val (.long q4), .second, .val (.long tk), .second, .val (.int (Int32.ofNat n)), .val (.int (2 : Int32)), .val (.ref b172), .val (.ref b176), .val (.ref b182), .val (.ref b182), .val (.ref b281), .val (.long (q4 + ((SP0 - tk) / (2 : Int64)))), .second, .val (.long (q4 + (SP0 - tk))), .second, .unset, .unset, .unset, .unset, .unset, .unset, .unset, .unset, .unset, .unset] [])) rfl (hb hby at_155) _ ?_
        show Steps p.tables e below (T304.setTop (mkF m 158 #[.val (.long q1), .second, .val (.int p2), .val (.int p3), .val (.long q4), .second, .val (.long tk), .second, .val (.int (Int32.ofNat n)), .val (.int (2 : Int32)), .val (.ref b172), .val (.ref b176), .val (.ref b182), .val (.ref b182), .val (.ref b281), .val (.long (q4 + ((SP0 - tk) / (2 : Int64)))), .second, .val (.long (q4 + (SP0 - tk))), .second, .unset, .unset, .unset, .unset, .unset, .unset, .unset, .unset, .unset, .unset] [(.long (9223372036854775807 : Int64))])) _
        refine XS.goto X304.here hx rfl (pc0 := 158) (pc' := 167) rfl (hb hby at_158) (by decide) (by decide) ?_
        show Steps p.tables e below (T304.setTop (mkF m 167 #[.val (.long q1), .second, .val (.int p2), .val (.int p3), .val (.long q4), .second, .val (.long tk), .second, .val (.int (Int32.ofNat n)), .val (.int (2 : Int32)), .val (.ref b172), .val (.ref b176), .val (.ref b182), .val (.ref b182), .val (.ref b281), .val (.long (q4 + ((SP0 - tk) / (2 : Int64)))), .second, .val (.long (q4 + (SP0 - tk))), .second, .unset, .unset, .unset, .unset, .unset, .unset, .unset, .unset, .unset, .unset] [(.long (9223372036854775807 : Int64))])) _
        refine XS.lstore X304.here hx rfl (hb hby at_167) rfl (l' := #[.val (.long q1), .second, .val (.int p2), .val (.int p3), .val (.long q4), .second, .val (.long tk), .second, .val (.int (Int32.ofNat n)), .val (.int (2 : Int32)), .val (.ref b172), .val (.ref b176), .val (.ref b182), .val (.ref b182), .val (.ref b281), .val (.long (q4 + ((SP0 - tk) / (2 : Int64)))), .second, .val (.long (q4 + (SP0 - tk))), .second, .val (.long (9223372036854775807 : Int64)), .second, .unset, .unset, .unset, .unset, .unset, .unset, .unset, .unset]) rfl ?_
        exact kq)
      have hS : SP0 = (9223372036854775807 : Int64) := hSP0.trans (if_pos hsp)
      have go315 : Goes p e below s₁ (G_rm0 m q1 p2 p3 q4) T304 (mkF m 171 #[.val (.long q1), .second, .val (.int p2), .val (.int p3), .val (.long q4), .second, .val (.long tk), .second, .val (.int (Int32.ofNat n)), .val (.int (2 : Int32)), .val (.ref b172), .val (.ref b176), .val (.ref b182), .val (.ref b182), .val (.ref b281), .val (.long (q4 + ((SP0 - tk) / (2 : Int64)))), .second, .val (.long (q4 + (SP0 - tk))), .second, .val (.long (9223372036854775807 : Int64)), .second, .unset, .unset, .unset, .unset, .unset, .unset, .unset, .unset] [(.int (2 : Int32))]) := fun tq kq => go314 tq (by
        show Steps p.tables e below (T304.setTop (mkF m 169 #[.val (.long q1), .second, .val (.int p2), .val (.int p3), .val (.long q4), .second, .val (.long tk), .second, .val (.int (Int32.ofNat n)), .val (.int (2 : Int32)), .val (.ref b172), .val (.ref b176), .val (.ref b182), .val (.ref b182), .val (.ref b281), .val (.long (q4 + ((SP0 - tk) / (2 : Int64)))), .second, .val (.long (q4 + (SP0 - tk))), .second, .val (.long (9223372036854775807 : Int64)), .second, .unset, .unset, .unset, .unset, .unset, .unset, .unset, .unset] [])) _
        refine XS.iload X304.here hx rfl (hb hby at_169) rfl ?_
        exact kq)
      have go316 : Goes p e below s₁ (G_rm0 m q1 p2 p3 q4) T304 (mkF m 183 #[.val (.long q1), .second, .val (.int p2), .val (.int p3), .val (.long q4), .second, .val (.long tk), .second, .val (.int (Int32.ofNat n)), .val (.int (2 : Int32)), .val (.ref b172), .val (.ref b176), .val (.ref b182), .val (.ref b182), .val (.ref b281), .val (.long (q4 + ((SP0 - tk) / (2 : Int64)))), .second, .val (.long (q4 + (SP0 - tk))), .second, .val (.long (9223372036854775807 : Int64)), .second, .unset, .unset, .unset, .unset, .unset, .unset, .unset, .unset] [(.int (1 : Int32)), (.int (2 : Int32))]) := fun tq kq => go315 tq (by
        show Steps p.tables e below (T304.setTop (mkF m 171 #[.val (.long q1), .second, .val (.int p2), .val (.int p3), .val (.long q4), .second, .val (.long tk), .second, .val (.int (Int32.ofNat n)), .val (.int (2 : Int32)), .val (.ref b172), .val (.ref b176), .val (.ref b182), .val (.ref b182), .val (.ref b281), .val (.long (q4 + ((SP0 - tk) / (2 : Int64)))), .second, .val (.long (q4 + (SP0 - tk))), .second, .val (.long (9223372036854775807 : Int64)), .second, .unset, .unset, .unset, .unset, .unset, .unset, .unset, .unset] [(.int (2 : Int32))])) _
        refine XS.ifYes X304.here hx rfl (pc0 := 171) (pc' := 180) rfl (hb hby at_171) rfl ((if0 _ _).trans (feq (by decide)).2) (by decide) (by decide) ?_
        show Steps p.tables e below (T304.setTop (mkF m 180 #[.val (.long q1), .second, .val (.int p2), .val (.int p3), .val (.long q4), .second, .val (.long tk), .second, .val (.int (Int32.ofNat n)), .val (.int (2 : Int32)), .val (.ref b172), .val (.ref b176), .val (.ref b182), .val (.ref b182), .val (.ref b281), .val (.long (q4 + ((SP0 - tk) / (2 : Int64)))), .second, .val (.long (q4 + (SP0 - tk))), .second, .val (.long (9223372036854775807 : Int64)), .second, .unset, .unset, .unset, .unset, .unset, .unset, .unset, .unset] [])) _
        refine XS.iload X304.here hx rfl (hb hby at_180) rfl ?_
        show Steps p.tables e below (T304.setTop (mkF m 182 #[.val (.long q1), .second, .val (.int p2), .val (.int p3), .val (.long q4), .second, .val (.long tk), .second, .val (.int (Int32.ofNat n)), .val (.int (2 : Int32)), .val (.ref b172), .val (.ref b176), .val (.ref b182), .val (.ref b182), .val (.ref b281), .val (.long (q4 + ((SP0 - tk) / (2 : Int64)))), .second, .val (.long (q4 + (SP0 - tk))), .second, .val (.long (9223372036854775807 : Int64)), .second, .unset, .unset, .unset, .unset, .unset, .unset, .unset, .unset] [(.int (2 : Int32))])) _
        refine XS.iconst X304.here hx rfl (hb hby at_182) ?_
        exact kq)
      have go317 : Goes p e below s₁ (G_rm0 m q1 p2 p3 q4) T304 (mkF m 216 #[.val (.long q1), .second, .val (.int p2), .val (.int p3), .val (.long q4), .second, .val (.long tk), .second, .val (.int (Int32.ofNat n)), .val (.int (2 : Int32)), .val (.ref b172), .val (.ref b176), .val (.ref b182), .val (.ref b182), .val (.ref b281), .val (.long (q4 + ((SP0 - tk) / (2 : Int64)))), .second, .val (.long (q4 + (SP0 - tk))), .second, .val (.long (9223372036854775807 : Int64)), .second, .val (.long ((9223372036854775807 : Int64) - tk)), .second, .val (.long (q4 + (((9223372036854775807 : Int64) - tk) / (2 : Int64)))), .second, .unset, .unset, .unset, .unset] [(.int (lcmpW (q4 + ((SP0 - tk) / (2 : Int64))) (q4 + (((9223372036854775807 : Int64) - tk) / (2 : Int64)))))]) := fun tq kq => go316 tq (by
        show Steps p.tables e below (T304.setTop (mkF m 183 #[.val (.long q1), .second, .val (.int p2), .val (.int p3), .val (.long q4), .second, .val (.long tk), .second, .val (.int (Int32.ofNat n)), .val (.int (2 : Int32)), .val (.ref b172), .val (.ref b176), .val (.ref b182), .val (.ref b182), .val (.ref b281), .val (.long (q4 + ((SP0 - tk) / (2 : Int64)))), .second, .val (.long (q4 + (SP0 - tk))), .second, .val (.long (9223372036854775807 : Int64)), .second, .unset, .unset, .unset, .unset, .unset, .unset, .unset, .unset] [(.int (1 : Int32)), (.int (2 : Int32))])) _
        refine XS.icmpYes X304.here hx rfl (pc0 := 183) (pc' := 193) rfl (hb hby at_183) rfl (feq (by decide)).2 (by decide) (by decide) ?_
        show Steps p.tables e below (T304.setTop (mkF m 193 #[.val (.long q1), .second, .val (.int p2), .val (.int p3), .val (.long q4), .second, .val (.long tk), .second, .val (.int (Int32.ofNat n)), .val (.int (2 : Int32)), .val (.ref b172), .val (.ref b176), .val (.ref b182), .val (.ref b182), .val (.ref b281), .val (.long (q4 + ((SP0 - tk) / (2 : Int64)))), .second, .val (.long (q4 + (SP0 - tk))), .second, .val (.long (9223372036854775807 : Int64)), .second, .unset, .unset, .unset, .unset, .unset, .unset, .unset, .unset] [])) _
        refine XS.lload X304.here hx rfl (hb hby at_193) rfl ?_
        show Steps p.tables e below (T304.setTop (mkF m 195 #[.val (.long q1), .second, .val (.int p2), .val (.int p3), .val (.long q4), .second, .val (.long tk), .second, .val (.int (Int32.ofNat n)), .val (.int (2 : Int32)), .val (.ref b172), .val (.ref b176), .val (.ref b182), .val (.ref b182), .val (.ref b281), .val (.long (q4 + ((SP0 - tk) / (2 : Int64)))), .second, .val (.long (q4 + (SP0 - tk))), .second, .val (.long (9223372036854775807 : Int64)), .second, .unset, .unset, .unset, .unset, .unset, .unset, .unset, .unset] [(.long (9223372036854775807 : Int64))])) _
        refine XS.lload X304.here hx rfl (hb hby at_195) rfl ?_
        show Steps p.tables e below (T304.setTop (mkF m 197 #[.val (.long q1), .second, .val (.int p2), .val (.int p3), .val (.long q4), .second, .val (.long tk), .second, .val (.int (Int32.ofNat n)), .val (.int (2 : Int32)), .val (.ref b172), .val (.ref b176), .val (.ref b182), .val (.ref b182), .val (.ref b281), .val (.long (q4 + ((SP0 - tk) / (2 : Int64)))), .second, .val (.long (q4 + (SP0 - tk))), .second, .val (.long (9223372036854775807 : Int64)), .second, .unset, .unset, .unset, .unset, .unset, .unset, .unset, .unset] [(.long tk), (.long (9223372036854775807 : Int64))])) _
        refine XS.lsub X304.here hx rfl (hb hby at_197) rfl ?_
        show Steps p.tables e below (T304.setTop (mkF m 198 #[.val (.long q1), .second, .val (.int p2), .val (.int p3), .val (.long q4), .second, .val (.long tk), .second, .val (.int (Int32.ofNat n)), .val (.int (2 : Int32)), .val (.ref b172), .val (.ref b176), .val (.ref b182), .val (.ref b182), .val (.ref b281), .val (.long (q4 + ((SP0 - tk) / (2 : Int64)))), .second, .val (.long (q4 + (SP0 - tk))), .second, .val (.long (9223372036854775807 : Int64)), .second, .unset, .unset, .unset, .unset, .unset, .unset, .unset, .unset] [(.long ((9223372036854775807 : Int64) - tk))])) _
        refine XS.lstore X304.here hx rfl (hb hby at_198) rfl (l' := #[.val (.long q1), .second, .val (.int p2), .val (.int p3), .val (.long q4), .second, .val (.long tk), .second, .val (.int (Int32.ofNat n)), .val (.int (2 : Int32)), .val (.ref b172), .val (.ref b176), .val (.ref b182), .val (.ref b182), .val (.ref b281), .val (.long (q4 + ((SP0 - tk) / (2 : Int64)))), .second, .val (.long (q4 + (SP0 - tk))), .second, .val (.long (9223372036854775807 : Int64)), .second, .val (.long ((9223372036854775807 : Int64) - tk)), .second, .unset, .unset, .unset, .unset, .unset, .unset]) rfl ?_
        show Steps p.tables e below (T304.setTop (mkF m 200 #[.val (.long q1), .second, .val (.int p2), .val (.int p3), .val (.long q4), .second, .val (.long tk), .second, .val (.int (Int32.ofNat n)), .val (.int (2 : Int32)), .val (.ref b172), .val (.ref b176), .val (.ref b182), .val (.ref b182), .val (.ref b281), .val (.long (q4 + ((SP0 - tk) / (2 : Int64)))), .second, .val (.long (q4 + (SP0 - tk))), .second, .val (.long (9223372036854775807 : Int64)), .second, .val (.long ((9223372036854775807 : Int64) - tk)), .second, .unset, .unset, .unset, .unset, .unset, .unset] [])) _
        refine XS.lload X304.here hx rfl (hb hby at_200) rfl ?_
        show Steps p.tables e below (T304.setTop (mkF m 202 #[.val (.long q1), .second, .val (.int p2), .val (.int p3), .val (.long q4), .second, .val (.long tk), .second, .val (.int (Int32.ofNat n)), .val (.int (2 : Int32)), .val (.ref b172), .val (.ref b176), .val (.ref b182), .val (.ref b182), .val (.ref b281), .val (.long (q4 + ((SP0 - tk) / (2 : Int64)))), .second, .val (.long (q4 + (SP0 - tk))), .second, .val (.long (9223372036854775807 : Int64)), .second, .val (.long ((9223372036854775807 : Int64) - tk)), .second, .unset, .unset, .unset, .unset, .unset, .unset] [(.long q4)])) _
        refine XS.lload X304.here hx rfl (hb hby at_202) rfl ?_
        show Steps p.tables e below (T304.setTop (mkF m 204 #[.val (.long q1), .second, .val (.int p2), .val (.int p3), .val (.long q4), .second, .val (.long tk), .second, .val (.int (Int32.ofNat n)), .val (.int (2 : Int32)), .val (.ref b172), .val (.ref b176), .val (.ref b182), .val (.ref b182), .val (.ref b281), .val (.long (q4 + ((SP0 - tk) / (2 : Int64)))), .second, .val (.long (q4 + (SP0 - tk))), .second, .val (.long (9223372036854775807 : Int64)), .second, .val (.long ((9223372036854775807 : Int64) - tk)), .second, .unset, .unset, .unset, .unset, .unset, .unset] [(.long ((9223372036854775807 : Int64) - tk)), (.long q4)])) _
        refine X304.ldc2Long hx hown (mvT hZ (tw113 hw)) (g := (mkF m 204 #[.val (.long q1), .second, .val (.int p2), .val (.int p3), .val (.long q4), .second, .val (.long tk), .second, .val (.int (Int32.ofNat n)), .val (.int (2 : Int32)), .val (.ref b172), .val (.ref b176), .val (.ref b182), .val (.ref b182), .val (.ref b281), .val (.long (q4 + ((SP0 - tk) / (2 : Int64)))), .second, .val (.long (q4 + (SP0 - tk))), .second, .val (.long (9223372036854775807 : Int64)), .second, .val (.long ((9223372036854775807 : Int64) - tk)), .second, .unset, .unset, .unset, .unset, .unset, .unset] [(.long ((9223372036854775807 : Int64) - tk)), (.long q4)])) rfl (hb hby at_204) _ ?_
        show Steps p.tables e below (T304.setTop (mkF m 207 #[.val (.long q1), .second, .val (.int p2), .val (.int p3), .val (.long q4), .second, .val (.long tk), .second, .val (.int (Int32.ofNat n)), .val (.int (2 : Int32)), .val (.ref b172), .val (.ref b176), .val (.ref b182), .val (.ref b182), .val (.ref b281), .val (.long (q4 + ((SP0 - tk) / (2 : Int64)))), .second, .val (.long (q4 + (SP0 - tk))), .second, .val (.long (9223372036854775807 : Int64)), .second, .val (.long ((9223372036854775807 : Int64) - tk)), .second, .unset, .unset, .unset, .unset, .unset, .unset] [(.long (2 : Int64)), (.long ((9223372036854775807 : Int64) - tk)), (.long q4)])) _
        refine XS.ldiv X304.here hx rfl (hb hby at_207) rfl (by decide) ?_
        show Steps p.tables e below (T304.setTop (mkF m 208 #[.val (.long q1), .second, .val (.int p2), .val (.int p3), .val (.long q4), .second, .val (.long tk), .second, .val (.int (Int32.ofNat n)), .val (.int (2 : Int32)), .val (.ref b172), .val (.ref b176), .val (.ref b182), .val (.ref b182), .val (.ref b281), .val (.long (q4 + ((SP0 - tk) / (2 : Int64)))), .second, .val (.long (q4 + (SP0 - tk))), .second, .val (.long (9223372036854775807 : Int64)), .second, .val (.long ((9223372036854775807 : Int64) - tk)), .second, .unset, .unset, .unset, .unset, .unset, .unset] [(.long (((9223372036854775807 : Int64) - tk) / (2 : Int64))), (.long q4)])) _
        refine XS.ladd X304.here hx rfl (hb hby at_208) rfl ?_
        show Steps p.tables e below (T304.setTop (mkF m 209 #[.val (.long q1), .second, .val (.int p2), .val (.int p3), .val (.long q4), .second, .val (.long tk), .second, .val (.int (Int32.ofNat n)), .val (.int (2 : Int32)), .val (.ref b172), .val (.ref b176), .val (.ref b182), .val (.ref b182), .val (.ref b281), .val (.long (q4 + ((SP0 - tk) / (2 : Int64)))), .second, .val (.long (q4 + (SP0 - tk))), .second, .val (.long (9223372036854775807 : Int64)), .second, .val (.long ((9223372036854775807 : Int64) - tk)), .second, .unset, .unset, .unset, .unset, .unset, .unset] [(.long (q4 + (((9223372036854775807 : Int64) - tk) / (2 : Int64))))])) _
        refine XS.lstore X304.here hx rfl (hb hby at_209) rfl (l' := #[.val (.long q1), .second, .val (.int p2), .val (.int p3), .val (.long q4), .second, .val (.long tk), .second, .val (.int (Int32.ofNat n)), .val (.int (2 : Int32)), .val (.ref b172), .val (.ref b176), .val (.ref b182), .val (.ref b182), .val (.ref b281), .val (.long (q4 + ((SP0 - tk) / (2 : Int64)))), .second, .val (.long (q4 + (SP0 - tk))), .second, .val (.long (9223372036854775807 : Int64)), .second, .val (.long ((9223372036854775807 : Int64) - tk)), .second, .val (.long (q4 + (((9223372036854775807 : Int64) - tk) / (2 : Int64)))), .second, .unset, .unset, .unset, .unset]) rfl ?_
        show Steps p.tables e below (T304.setTop (mkF m 211 #[.val (.long q1), .second, .val (.int p2), .val (.int p3), .val (.long q4), .second, .val (.long tk), .second, .val (.int (Int32.ofNat n)), .val (.int (2 : Int32)), .val (.ref b172), .val (.ref b176), .val (.ref b182), .val (.ref b182), .val (.ref b281), .val (.long (q4 + ((SP0 - tk) / (2 : Int64)))), .second, .val (.long (q4 + (SP0 - tk))), .second, .val (.long (9223372036854775807 : Int64)), .second, .val (.long ((9223372036854775807 : Int64) - tk)), .second, .val (.long (q4 + (((9223372036854775807 : Int64) - tk) / (2 : Int64)))), .second, .unset, .unset, .unset, .unset] [])) _
        refine XS.lload X304.here hx rfl (hb hby at_211) rfl ?_
        show Steps p.tables e below (T304.setTop (mkF m 213 #[.val (.long q1), .second, .val (.int p2), .val (.int p3), .val (.long q4), .second, .val (.long tk), .second, .val (.int (Int32.ofNat n)), .val (.int (2 : Int32)), .val (.ref b172), .val (.ref b176), .val (.ref b182), .val (.ref b182), .val (.ref b281), .val (.long (q4 + ((SP0 - tk) / (2 : Int64)))), .second, .val (.long (q4 + (SP0 - tk))), .second, .val (.long (9223372036854775807 : Int64)), .second, .val (.long ((9223372036854775807 : Int64) - tk)), .second, .val (.long (q4 + (((9223372036854775807 : Int64) - tk) / (2 : Int64)))), .second, .unset, .unset, .unset, .unset] [(.long (q4 + ((SP0 - tk) / (2 : Int64))))])) _
        refine XS.lload X304.here hx rfl (hb hby at_213) rfl ?_
        show Steps p.tables e below (T304.setTop (mkF m 215 #[.val (.long q1), .second, .val (.int p2), .val (.int p3), .val (.long q4), .second, .val (.long tk), .second, .val (.int (Int32.ofNat n)), .val (.int (2 : Int32)), .val (.ref b172), .val (.ref b176), .val (.ref b182), .val (.ref b182), .val (.ref b281), .val (.long (q4 + ((SP0 - tk) / (2 : Int64)))), .second, .val (.long (q4 + (SP0 - tk))), .second, .val (.long (9223372036854775807 : Int64)), .second, .val (.long ((9223372036854775807 : Int64) - tk)), .second, .val (.long (q4 + (((9223372036854775807 : Int64) - tk) / (2 : Int64)))), .second, .unset, .unset, .unset, .unset] [(.long (q4 + (((9223372036854775807 : Int64) - tk) / (2 : Int64)))), (.long (q4 + ((SP0 - tk) / (2 : Int64))))])) _
        refine XS.lcmp X304.here hx rfl (hb hby at_215) rfl ?_
        exact kq)
      have hme : (q4 + ((SP0 - tk) / (2 : Int64))) = (q4 + (((9223372036854775807 : Int64) - tk) / (2 : Int64))) := by rw [hS]
      have go318 : Goes p e below s₁ (G_rm0 m q1 p2 p3 q4) T304 (mkF m 239 #[.val (.long q1), .second, .val (.int p2), .val (.int p3), .val (.long q4), .second, .val (.long tk), .second, .val (.int (Int32.ofNat n)), .val (.int (2 : Int32)), .val (.ref b172), .val (.ref b176), .val (.ref b182), .val (.ref b182), .val (.ref b281), .val (.long (q4 + ((SP0 - tk) / (2 : Int64)))), .second, .val (.long (q4 + (SP0 - tk))), .second, .val (.long (9223372036854775807 : Int64)), .second, .val (.long ((9223372036854775807 : Int64) - tk)), .second, .val (.long (q4 + (((9223372036854775807 : Int64) - tk) / (2 : Int64)))), .second, .val (.long ((q4 + ((SP0 - tk) / (2 : Int64))) - q4)), .second, .val (.long ((q4 + (SP0 - tk)) - q4)), .second] [(.int (lcmpW ((q4 + ((SP0 - tk) / (2 : Int64))) - q4) (0 : Int64)))]) := fun tq kq => go317 tq (by
        show Steps p.tables e below (T304.setTop (mkF m 216 #[.val (.long q1), .second, .val (.int p2), .val (.int p3), .val (.long q4), .second, .val (.long tk), .second, .val (.int (Int32.ofNat n)), .val (.int (2 : Int32)), .val (.ref b172), .val (.ref b176), .val (.ref b182), .val (.ref b182), .val (.ref b281), .val (.long (q4 + ((SP0 - tk) / (2 : Int64)))), .second, .val (.long (q4 + (SP0 - tk))), .second, .val (.long (9223372036854775807 : Int64)), .second, .val (.long ((9223372036854775807 : Int64) - tk)), .second, .val (.long (q4 + (((9223372036854775807 : Int64) - tk) / (2 : Int64)))), .second, .unset, .unset, .unset, .unset] [(.int (lcmpW (q4 + ((SP0 - tk) / (2 : Int64))) (q4 + (((9223372036854775807 : Int64) - tk) / (2 : Int64)))))])) _
        refine XS.ifYes X304.here hx rfl (pc0 := 216) (pc' := 221) rfl (hb hby at_216) rfl ((if0 _ _).trans (teq (own_lceq hme)).1) (by decide) (by decide) ?_
        show Steps p.tables e below (T304.setTop (mkF m 221 #[.val (.long q1), .second, .val (.int p2), .val (.int p3), .val (.long q4), .second, .val (.long tk), .second, .val (.int (Int32.ofNat n)), .val (.int (2 : Int32)), .val (.ref b172), .val (.ref b176), .val (.ref b182), .val (.ref b182), .val (.ref b281), .val (.long (q4 + ((SP0 - tk) / (2 : Int64)))), .second, .val (.long (q4 + (SP0 - tk))), .second, .val (.long (9223372036854775807 : Int64)), .second, .val (.long ((9223372036854775807 : Int64) - tk)), .second, .val (.long (q4 + (((9223372036854775807 : Int64) - tk) / (2 : Int64)))), .second, .unset, .unset, .unset, .unset] [])) _
        refine XS.lload X304.here hx rfl (hb hby at_221) rfl ?_
        show Steps p.tables e below (T304.setTop (mkF m 223 #[.val (.long q1), .second, .val (.int p2), .val (.int p3), .val (.long q4), .second, .val (.long tk), .second, .val (.int (Int32.ofNat n)), .val (.int (2 : Int32)), .val (.ref b172), .val (.ref b176), .val (.ref b182), .val (.ref b182), .val (.ref b281), .val (.long (q4 + ((SP0 - tk) / (2 : Int64)))), .second, .val (.long (q4 + (SP0 - tk))), .second, .val (.long (9223372036854775807 : Int64)), .second, .val (.long ((9223372036854775807 : Int64) - tk)), .second, .val (.long (q4 + (((9223372036854775807 : Int64) - tk) / (2 : Int64)))), .second, .unset, .unset, .unset, .unset] [(.long (q4 + ((SP0 - tk) / (2 : Int64))))])) _
        refine XS.lload X304.here hx rfl (hb hby at_223) rfl ?_
        show Steps p.tables e below (T304.setTop (mkF m 225 #[.val (.long q1), .second, .val (.int p2), .val (.int p3), .val (.long q4), .second, .val (.long tk), .second, .val (.int (Int32.ofNat n)), .val (.int (2 : Int32)), .val (.ref b172), .val (.ref b176), .val (.ref b182), .val (.ref b182), .val (.ref b281), .val (.long (q4 + ((SP0 - tk) / (2 : Int64)))), .second, .val (.long (q4 + (SP0 - tk))), .second, .val (.long (9223372036854775807 : Int64)), .second, .val (.long ((9223372036854775807 : Int64) - tk)), .second, .val (.long (q4 + (((9223372036854775807 : Int64) - tk) / (2 : Int64)))), .second, .unset, .unset, .unset, .unset] [(.long q4), (.long (q4 + ((SP0 - tk) / (2 : Int64))))])) _
        refine XS.lsub X304.here hx rfl (hb hby at_225) rfl ?_
        show Steps p.tables e below (T304.setTop (mkF m 226 #[.val (.long q1), .second, .val (.int p2), .val (.int p3), .val (.long q4), .second, .val (.long tk), .second, .val (.int (Int32.ofNat n)), .val (.int (2 : Int32)), .val (.ref b172), .val (.ref b176), .val (.ref b182), .val (.ref b182), .val (.ref b281), .val (.long (q4 + ((SP0 - tk) / (2 : Int64)))), .second, .val (.long (q4 + (SP0 - tk))), .second, .val (.long (9223372036854775807 : Int64)), .second, .val (.long ((9223372036854775807 : Int64) - tk)), .second, .val (.long (q4 + (((9223372036854775807 : Int64) - tk) / (2 : Int64)))), .second, .unset, .unset, .unset, .unset] [(.long ((q4 + ((SP0 - tk) / (2 : Int64))) - q4))])) _
        refine XS.lstore X304.here hx rfl (hb hby at_226) rfl (l' := #[.val (.long q1), .second, .val (.int p2), .val (.int p3), .val (.long q4), .second, .val (.long tk), .second, .val (.int (Int32.ofNat n)), .val (.int (2 : Int32)), .val (.ref b172), .val (.ref b176), .val (.ref b182), .val (.ref b182), .val (.ref b281), .val (.long (q4 + ((SP0 - tk) / (2 : Int64)))), .second, .val (.long (q4 + (SP0 - tk))), .second, .val (.long (9223372036854775807 : Int64)), .second, .val (.long ((9223372036854775807 : Int64) - tk)), .second, .val (.long (q4 + (((9223372036854775807 : Int64) - tk) / (2 : Int64)))), .second, .val (.long ((q4 + ((SP0 - tk) / (2 : Int64))) - q4)), .second, .unset, .unset]) rfl ?_
        show Steps p.tables e below (T304.setTop (mkF m 228 #[.val (.long q1), .second, .val (.int p2), .val (.int p3), .val (.long q4), .second, .val (.long tk), .second, .val (.int (Int32.ofNat n)), .val (.int (2 : Int32)), .val (.ref b172), .val (.ref b176), .val (.ref b182), .val (.ref b182), .val (.ref b281), .val (.long (q4 + ((SP0 - tk) / (2 : Int64)))), .second, .val (.long (q4 + (SP0 - tk))), .second, .val (.long (9223372036854775807 : Int64)), .second, .val (.long ((9223372036854775807 : Int64) - tk)), .second, .val (.long (q4 + (((9223372036854775807 : Int64) - tk) / (2 : Int64)))), .second, .val (.long ((q4 + ((SP0 - tk) / (2 : Int64))) - q4)), .second, .unset, .unset] [])) _
        refine XS.lload X304.here hx rfl (hb hby at_228) rfl ?_
        show Steps p.tables e below (T304.setTop (mkF m 230 #[.val (.long q1), .second, .val (.int p2), .val (.int p3), .val (.long q4), .second, .val (.long tk), .second, .val (.int (Int32.ofNat n)), .val (.int (2 : Int32)), .val (.ref b172), .val (.ref b176), .val (.ref b182), .val (.ref b182), .val (.ref b281), .val (.long (q4 + ((SP0 - tk) / (2 : Int64)))), .second, .val (.long (q4 + (SP0 - tk))), .second, .val (.long (9223372036854775807 : Int64)), .second, .val (.long ((9223372036854775807 : Int64) - tk)), .second, .val (.long (q4 + (((9223372036854775807 : Int64) - tk) / (2 : Int64)))), .second, .val (.long ((q4 + ((SP0 - tk) / (2 : Int64))) - q4)), .second, .unset, .unset] [(.long (q4 + (SP0 - tk)))])) _
        refine XS.lload X304.here hx rfl (hb hby at_230) rfl ?_
        show Steps p.tables e below (T304.setTop (mkF m 232 #[.val (.long q1), .second, .val (.int p2), .val (.int p3), .val (.long q4), .second, .val (.long tk), .second, .val (.int (Int32.ofNat n)), .val (.int (2 : Int32)), .val (.ref b172), .val (.ref b176), .val (.ref b182), .val (.ref b182), .val (.ref b281), .val (.long (q4 + ((SP0 - tk) / (2 : Int64)))), .second, .val (.long (q4 + (SP0 - tk))), .second, .val (.long (9223372036854775807 : Int64)), .second, .val (.long ((9223372036854775807 : Int64) - tk)), .second, .val (.long (q4 + (((9223372036854775807 : Int64) - tk) / (2 : Int64)))), .second, .val (.long ((q4 + ((SP0 - tk) / (2 : Int64))) - q4)), .second, .unset, .unset] [(.long q4), (.long (q4 + (SP0 - tk)))])) _
        refine XS.lsub X304.here hx rfl (hb hby at_232) rfl ?_
        show Steps p.tables e below (T304.setTop (mkF m 233 #[.val (.long q1), .second, .val (.int p2), .val (.int p3), .val (.long q4), .second, .val (.long tk), .second, .val (.int (Int32.ofNat n)), .val (.int (2 : Int32)), .val (.ref b172), .val (.ref b176), .val (.ref b182), .val (.ref b182), .val (.ref b281), .val (.long (q4 + ((SP0 - tk) / (2 : Int64)))), .second, .val (.long (q4 + (SP0 - tk))), .second, .val (.long (9223372036854775807 : Int64)), .second, .val (.long ((9223372036854775807 : Int64) - tk)), .second, .val (.long (q4 + (((9223372036854775807 : Int64) - tk) / (2 : Int64)))), .second, .val (.long ((q4 + ((SP0 - tk) / (2 : Int64))) - q4)), .second, .unset, .unset] [(.long ((q4 + (SP0 - tk)) - q4))])) _
        refine XS.lstore X304.here hx rfl (hb hby at_233) rfl (l' := #[.val (.long q1), .second, .val (.int p2), .val (.int p3), .val (.long q4), .second, .val (.long tk), .second, .val (.int (Int32.ofNat n)), .val (.int (2 : Int32)), .val (.ref b172), .val (.ref b176), .val (.ref b182), .val (.ref b182), .val (.ref b281), .val (.long (q4 + ((SP0 - tk) / (2 : Int64)))), .second, .val (.long (q4 + (SP0 - tk))), .second, .val (.long (9223372036854775807 : Int64)), .second, .val (.long ((9223372036854775807 : Int64) - tk)), .second, .val (.long (q4 + (((9223372036854775807 : Int64) - tk) / (2 : Int64)))), .second, .val (.long ((q4 + ((SP0 - tk) / (2 : Int64))) - q4)), .second, .val (.long ((q4 + (SP0 - tk)) - q4)), .second]) rfl ?_
        show Steps p.tables e below (T304.setTop (mkF m 235 #[.val (.long q1), .second, .val (.int p2), .val (.int p3), .val (.long q4), .second, .val (.long tk), .second, .val (.int (Int32.ofNat n)), .val (.int (2 : Int32)), .val (.ref b172), .val (.ref b176), .val (.ref b182), .val (.ref b182), .val (.ref b281), .val (.long (q4 + ((SP0 - tk) / (2 : Int64)))), .second, .val (.long (q4 + (SP0 - tk))), .second, .val (.long (9223372036854775807 : Int64)), .second, .val (.long ((9223372036854775807 : Int64) - tk)), .second, .val (.long (q4 + (((9223372036854775807 : Int64) - tk) / (2 : Int64)))), .second, .val (.long ((q4 + ((SP0 - tk) / (2 : Int64))) - q4)), .second, .val (.long ((q4 + (SP0 - tk)) - q4)), .second] [])) _
        refine XS.lload X304.here hx rfl (hb hby at_235) rfl ?_
        show Steps p.tables e below (T304.setTop (mkF m 237 #[.val (.long q1), .second, .val (.int p2), .val (.int p3), .val (.long q4), .second, .val (.long tk), .second, .val (.int (Int32.ofNat n)), .val (.int (2 : Int32)), .val (.ref b172), .val (.ref b176), .val (.ref b182), .val (.ref b182), .val (.ref b281), .val (.long (q4 + ((SP0 - tk) / (2 : Int64)))), .second, .val (.long (q4 + (SP0 - tk))), .second, .val (.long (9223372036854775807 : Int64)), .second, .val (.long ((9223372036854775807 : Int64) - tk)), .second, .val (.long (q4 + (((9223372036854775807 : Int64) - tk) / (2 : Int64)))), .second, .val (.long ((q4 + ((SP0 - tk) / (2 : Int64))) - q4)), .second, .val (.long ((q4 + (SP0 - tk)) - q4)), .second] [(.long ((q4 + ((SP0 - tk) / (2 : Int64))) - q4))])) _
        refine XS.lconst X304.here hx rfl (hb hby at_237) ?_
        show Steps p.tables e below (T304.setTop (mkF m 238 #[.val (.long q1), .second, .val (.int p2), .val (.int p3), .val (.long q4), .second, .val (.long tk), .second, .val (.int (Int32.ofNat n)), .val (.int (2 : Int32)), .val (.ref b172), .val (.ref b176), .val (.ref b182), .val (.ref b182), .val (.ref b281), .val (.long (q4 + ((SP0 - tk) / (2 : Int64)))), .second, .val (.long (q4 + (SP0 - tk))), .second, .val (.long (9223372036854775807 : Int64)), .second, .val (.long ((9223372036854775807 : Int64) - tk)), .second, .val (.long (q4 + (((9223372036854775807 : Int64) - tk) / (2 : Int64)))), .second, .val (.long ((q4 + ((SP0 - tk) / (2 : Int64))) - q4)), .second, .val (.long ((q4 + (SP0 - tk)) - q4)), .second] [(.long (0 : Int64)), (.long ((q4 + ((SP0 - tk) / (2 : Int64))) - q4))])) _
        refine XS.lcmp X304.here hx rfl (hb hby at_238) rfl ?_
        exact kq)
      have go319 : Goes p e below s₁ (G_rm0 m q1 p2 p3 q4) T304 (mkF m 251 #[.val (.long q1), .second, .val (.int p2), .val (.int p3), .val (.long q4), .second, .val (.long tk), .second, .val (.int (Int32.ofNat n)), .val (.int (2 : Int32)), .val (.ref b172), .val (.ref b176), .val (.ref b182), .val (.ref b182), .val (.ref b281), .val (.long (q4 + ((SP0 - tk) / (2 : Int64)))), .second, .val (.long (q4 + (SP0 - tk))), .second, .val (.long (9223372036854775807 : Int64)), .second, .val (.long ((9223372036854775807 : Int64) - tk)), .second, .val (.long (q4 + (((9223372036854775807 : Int64) - tk) / (2 : Int64)))), .second, .val (.long ((q4 + ((SP0 - tk) / (2 : Int64))) - q4)), .second, .val (.long ((q4 + (SP0 - tk)) - q4)), .second] [(.int (lcmpW ((2 : Int64) * ((q4 + ((SP0 - tk) / (2 : Int64))) - q4)) ((q4 + (SP0 - tk)) - q4)))]) := fun tq kq => go318 tq (by
        show Steps p.tables e below (T304.setTop (mkF m 239 #[.val (.long q1), .second, .val (.int p2), .val (.int p3), .val (.long q4), .second, .val (.long tk), .second, .val (.int (Int32.ofNat n)), .val (.int (2 : Int32)), .val (.ref b172), .val (.ref b176), .val (.ref b182), .val (.ref b182), .val (.ref b281), .val (.long (q4 + ((SP0 - tk) / (2 : Int64)))), .second, .val (.long (q4 + (SP0 - tk))), .second, .val (.long (9223372036854775807 : Int64)), .second, .val (.long ((9223372036854775807 : Int64) - tk)), .second, .val (.long (q4 + (((9223372036854775807 : Int64) - tk) / (2 : Int64)))), .second, .val (.long ((q4 + ((SP0 - tk) / (2 : Int64))) - q4)), .second, .val (.long ((q4 + (SP0 - tk)) - q4)), .second] [(.int (lcmpW ((q4 + ((SP0 - tk) / (2 : Int64))) - q4) (0 : Int64)))])) _
        refine XS.ifNo X304.here hx rfl (hb hby at_239) rfl ((if0 _ _).trans (flt (own_lcge (own_m1 q4 hmt))).1) ?_
        show Steps p.tables e below (T304.setTop (mkF m 242 #[.val (.long q1), .second, .val (.int p2), .val (.int p3), .val (.long q4), .second, .val (.long tk), .second, .val (.int (Int32.ofNat n)), .val (.int (2 : Int32)), .val (.ref b172), .val (.ref b176), .val (.ref b182), .val (.ref b182), .val (.ref b281), .val (.long (q4 + ((SP0 - tk) / (2 : Int64)))), .second, .val (.long (q4 + (SP0 - tk))), .second, .val (.long (9223372036854775807 : Int64)), .second, .val (.long ((9223372036854775807 : Int64) - tk)), .second, .val (.long (q4 + (((9223372036854775807 : Int64) - tk) / (2 : Int64)))), .second, .val (.long ((q4 + ((SP0 - tk) / (2 : Int64))) - q4)), .second, .val (.long ((q4 + (SP0 - tk)) - q4)), .second] [])) _
        refine X304.ldc2Long hx hown (mvT hZ (tw113 hw)) (g := (mkF m 242 #[.val (.long q1), .second, .val (.int p2), .val (.int p3), .val (.long q4), .second, .val (.long tk), .second, .val (.int (Int32.ofNat n)), .val (.int (2 : Int32)), .val (.ref b172), .val (.ref b176), .val (.ref b182), .val (.ref b182), .val (.ref b281), .val (.long (q4 + ((SP0 - tk) / (2 : Int64)))), .second, .val (.long (q4 + (SP0 - tk))), .second, .val (.long (9223372036854775807 : Int64)), .second, .val (.long ((9223372036854775807 : Int64) - tk)), .second, .val (.long (q4 + (((9223372036854775807 : Int64) - tk) / (2 : Int64)))), .second, .val (.long ((q4 + ((SP0 - tk) / (2 : Int64))) - q4)), .second, .val (.long ((q4 + (SP0 - tk)) - q4)), .second] [])) rfl (hb hby at_242) _ ?_
        show Steps p.tables e below (T304.setTop (mkF m 245 #[.val (.long q1), .second, .val (.int p2), .val (.int p3), .val (.long q4), .second, .val (.long tk), .second, .val (.int (Int32.ofNat n)), .val (.int (2 : Int32)), .val (.ref b172), .val (.ref b176), .val (.ref b182), .val (.ref b182), .val (.ref b281), .val (.long (q4 + ((SP0 - tk) / (2 : Int64)))), .second, .val (.long (q4 + (SP0 - tk))), .second, .val (.long (9223372036854775807 : Int64)), .second, .val (.long ((9223372036854775807 : Int64) - tk)), .second, .val (.long (q4 + (((9223372036854775807 : Int64) - tk) / (2 : Int64)))), .second, .val (.long ((q4 + ((SP0 - tk) / (2 : Int64))) - q4)), .second, .val (.long ((q4 + (SP0 - tk)) - q4)), .second] [(.long (2 : Int64))])) _
        refine XS.lload X304.here hx rfl (hb hby at_245) rfl ?_
        show Steps p.tables e below (T304.setTop (mkF m 247 #[.val (.long q1), .second, .val (.int p2), .val (.int p3), .val (.long q4), .second, .val (.long tk), .second, .val (.int (Int32.ofNat n)), .val (.int (2 : Int32)), .val (.ref b172), .val (.ref b176), .val (.ref b182), .val (.ref b182), .val (.ref b281), .val (.long (q4 + ((SP0 - tk) / (2 : Int64)))), .second, .val (.long (q4 + (SP0 - tk))), .second, .val (.long (9223372036854775807 : Int64)), .second, .val (.long ((9223372036854775807 : Int64) - tk)), .second, .val (.long (q4 + (((9223372036854775807 : Int64) - tk) / (2 : Int64)))), .second, .val (.long ((q4 + ((SP0 - tk) / (2 : Int64))) - q4)), .second, .val (.long ((q4 + (SP0 - tk)) - q4)), .second] [(.long ((q4 + ((SP0 - tk) / (2 : Int64))) - q4)), (.long (2 : Int64))])) _
        refine XS.lmul X304.here hx rfl (hb hby at_247) rfl ?_
        show Steps p.tables e below (T304.setTop (mkF m 248 #[.val (.long q1), .second, .val (.int p2), .val (.int p3), .val (.long q4), .second, .val (.long tk), .second, .val (.int (Int32.ofNat n)), .val (.int (2 : Int32)), .val (.ref b172), .val (.ref b176), .val (.ref b182), .val (.ref b182), .val (.ref b281), .val (.long (q4 + ((SP0 - tk) / (2 : Int64)))), .second, .val (.long (q4 + (SP0 - tk))), .second, .val (.long (9223372036854775807 : Int64)), .second, .val (.long ((9223372036854775807 : Int64) - tk)), .second, .val (.long (q4 + (((9223372036854775807 : Int64) - tk) / (2 : Int64)))), .second, .val (.long ((q4 + ((SP0 - tk) / (2 : Int64))) - q4)), .second, .val (.long ((q4 + (SP0 - tk)) - q4)), .second] [(.long ((2 : Int64) * ((q4 + ((SP0 - tk) / (2 : Int64))) - q4)))])) _
        refine XS.lload X304.here hx rfl (hb hby at_248) rfl ?_
        show Steps p.tables e below (T304.setTop (mkF m 250 #[.val (.long q1), .second, .val (.int p2), .val (.int p3), .val (.long q4), .second, .val (.long tk), .second, .val (.int (Int32.ofNat n)), .val (.int (2 : Int32)), .val (.ref b172), .val (.ref b176), .val (.ref b182), .val (.ref b182), .val (.ref b281), .val (.long (q4 + ((SP0 - tk) / (2 : Int64)))), .second, .val (.long (q4 + (SP0 - tk))), .second, .val (.long (9223372036854775807 : Int64)), .second, .val (.long ((9223372036854775807 : Int64) - tk)), .second, .val (.long (q4 + (((9223372036854775807 : Int64) - tk) / (2 : Int64)))), .second, .val (.long ((q4 + ((SP0 - tk) / (2 : Int64))) - q4)), .second, .val (.long ((q4 + (SP0 - tk)) - q4)), .second] [(.long ((q4 + (SP0 - tk)) - q4)), (.long ((2 : Int64) * ((q4 + ((SP0 - tk) / (2 : Int64))) - q4)))])) _
        refine XS.lcmp X304.here hx rfl (hb hby at_250) rfl ?_
        exact kq)
      have go320 : Goes p e below s₁ (G_rm0 m q1 p2 p3 q4) T304 (mkF m 265 #[.val (.long q1), .second, .val (.int p2), .val (.int p3), .val (.long q4), .second, .val (.long tk), .second, .val (.int (Int32.ofNat n)), .val (.int (2 : Int32)), .val (.ref b172), .val (.ref b176), .val (.ref b182), .val (.ref b182), .val (.ref b281), .val (.long (q4 + ((SP0 - tk) / (2 : Int64)))), .second, .val (.long (q4 + (SP0 - tk))), .second, .val (.long (9223372036854775807 : Int64)), .second, .val (.long ((9223372036854775807 : Int64) - tk)), .second, .val (.long (q4 + (((9223372036854775807 : Int64) - tk) / (2 : Int64)))), .second, .val (.long ((q4 + ((SP0 - tk) / (2 : Int64))) - q4)), .second, .val (.long ((q4 + (SP0 - tk)) - q4)), .second] [(.int (lcmpW (((q4 + (SP0 - tk)) - q4) - ((2 : Int64) * ((q4 + ((SP0 - tk) / (2 : Int64))) - q4))) (1 : Int64)))]) := fun tq kq => go319 tq (by
        show Steps p.tables e below (T304.setTop (mkF m 251 #[.val (.long q1), .second, .val (.int p2), .val (.int p3), .val (.long q4), .second, .val (.long tk), .second, .val (.int (Int32.ofNat n)), .val (.int (2 : Int32)), .val (.ref b172), .val (.ref b176), .val (.ref b182), .val (.ref b182), .val (.ref b281), .val (.long (q4 + ((SP0 - tk) / (2 : Int64)))), .second, .val (.long (q4 + (SP0 - tk))), .second, .val (.long (9223372036854775807 : Int64)), .second, .val (.long ((9223372036854775807 : Int64) - tk)), .second, .val (.long (q4 + (((9223372036854775807 : Int64) - tk) / (2 : Int64)))), .second, .val (.long ((q4 + ((SP0 - tk) / (2 : Int64))) - q4)), .second, .val (.long ((q4 + (SP0 - tk)) - q4)), .second] [(.int (lcmpW ((2 : Int64) * ((q4 + ((SP0 - tk) / (2 : Int64))) - q4)) ((q4 + (SP0 - tk)) - q4)))])) _
        refine XS.ifNo X304.here hx rfl (hb hby at_251) rfl ((if0 _ _).trans (flt (own_lcle (own_m2 q4 hmt))).2.2.1) ?_
        show Steps p.tables e below (T304.setTop (mkF m 254 #[.val (.long q1), .second, .val (.int p2), .val (.int p3), .val (.long q4), .second, .val (.long tk), .second, .val (.int (Int32.ofNat n)), .val (.int (2 : Int32)), .val (.ref b172), .val (.ref b176), .val (.ref b182), .val (.ref b182), .val (.ref b281), .val (.long (q4 + ((SP0 - tk) / (2 : Int64)))), .second, .val (.long (q4 + (SP0 - tk))), .second, .val (.long (9223372036854775807 : Int64)), .second, .val (.long ((9223372036854775807 : Int64) - tk)), .second, .val (.long (q4 + (((9223372036854775807 : Int64) - tk) / (2 : Int64)))), .second, .val (.long ((q4 + ((SP0 - tk) / (2 : Int64))) - q4)), .second, .val (.long ((q4 + (SP0 - tk)) - q4)), .second] [])) _
        refine XS.lload X304.here hx rfl (hb hby at_254) rfl ?_
        show Steps p.tables e below (T304.setTop (mkF m 256 #[.val (.long q1), .second, .val (.int p2), .val (.int p3), .val (.long q4), .second, .val (.long tk), .second, .val (.int (Int32.ofNat n)), .val (.int (2 : Int32)), .val (.ref b172), .val (.ref b176), .val (.ref b182), .val (.ref b182), .val (.ref b281), .val (.long (q4 + ((SP0 - tk) / (2 : Int64)))), .second, .val (.long (q4 + (SP0 - tk))), .second, .val (.long (9223372036854775807 : Int64)), .second, .val (.long ((9223372036854775807 : Int64) - tk)), .second, .val (.long (q4 + (((9223372036854775807 : Int64) - tk) / (2 : Int64)))), .second, .val (.long ((q4 + ((SP0 - tk) / (2 : Int64))) - q4)), .second, .val (.long ((q4 + (SP0 - tk)) - q4)), .second] [(.long ((q4 + (SP0 - tk)) - q4))])) _
        refine X304.ldc2Long hx hown (mvT hZ (tw113 hw)) (g := (mkF m 256 #[.val (.long q1), .second, .val (.int p2), .val (.int p3), .val (.long q4), .second, .val (.long tk), .second, .val (.int (Int32.ofNat n)), .val (.int (2 : Int32)), .val (.ref b172), .val (.ref b176), .val (.ref b182), .val (.ref b182), .val (.ref b281), .val (.long (q4 + ((SP0 - tk) / (2 : Int64)))), .second, .val (.long (q4 + (SP0 - tk))), .second, .val (.long (9223372036854775807 : Int64)), .second, .val (.long ((9223372036854775807 : Int64) - tk)), .second, .val (.long (q4 + (((9223372036854775807 : Int64) - tk) / (2 : Int64)))), .second, .val (.long ((q4 + ((SP0 - tk) / (2 : Int64))) - q4)), .second, .val (.long ((q4 + (SP0 - tk)) - q4)), .second] [(.long ((q4 + (SP0 - tk)) - q4))])) rfl (hb hby at_256) _ ?_
        show Steps p.tables e below (T304.setTop (mkF m 259 #[.val (.long q1), .second, .val (.int p2), .val (.int p3), .val (.long q4), .second, .val (.long tk), .second, .val (.int (Int32.ofNat n)), .val (.int (2 : Int32)), .val (.ref b172), .val (.ref b176), .val (.ref b182), .val (.ref b182), .val (.ref b281), .val (.long (q4 + ((SP0 - tk) / (2 : Int64)))), .second, .val (.long (q4 + (SP0 - tk))), .second, .val (.long (9223372036854775807 : Int64)), .second, .val (.long ((9223372036854775807 : Int64) - tk)), .second, .val (.long (q4 + (((9223372036854775807 : Int64) - tk) / (2 : Int64)))), .second, .val (.long ((q4 + ((SP0 - tk) / (2 : Int64))) - q4)), .second, .val (.long ((q4 + (SP0 - tk)) - q4)), .second] [(.long (2 : Int64)), (.long ((q4 + (SP0 - tk)) - q4))])) _
        refine XS.lload X304.here hx rfl (hb hby at_259) rfl ?_
        show Steps p.tables e below (T304.setTop (mkF m 261 #[.val (.long q1), .second, .val (.int p2), .val (.int p3), .val (.long q4), .second, .val (.long tk), .second, .val (.int (Int32.ofNat n)), .val (.int (2 : Int32)), .val (.ref b172), .val (.ref b176), .val (.ref b182), .val (.ref b182), .val (.ref b281), .val (.long (q4 + ((SP0 - tk) / (2 : Int64)))), .second, .val (.long (q4 + (SP0 - tk))), .second, .val (.long (9223372036854775807 : Int64)), .second, .val (.long ((9223372036854775807 : Int64) - tk)), .second, .val (.long (q4 + (((9223372036854775807 : Int64) - tk) / (2 : Int64)))), .second, .val (.long ((q4 + ((SP0 - tk) / (2 : Int64))) - q4)), .second, .val (.long ((q4 + (SP0 - tk)) - q4)), .second] [(.long ((q4 + ((SP0 - tk) / (2 : Int64))) - q4)), (.long (2 : Int64)), (.long ((q4 + (SP0 - tk)) - q4))])) _
        refine XS.lmul X304.here hx rfl (hb hby at_261) rfl ?_
        show Steps p.tables e below (T304.setTop (mkF m 262 #[.val (.long q1), .second, .val (.int p2), .val (.int p3), .val (.long q4), .second, .val (.long tk), .second, .val (.int (Int32.ofNat n)), .val (.int (2 : Int32)), .val (.ref b172), .val (.ref b176), .val (.ref b182), .val (.ref b182), .val (.ref b281), .val (.long (q4 + ((SP0 - tk) / (2 : Int64)))), .second, .val (.long (q4 + (SP0 - tk))), .second, .val (.long (9223372036854775807 : Int64)), .second, .val (.long ((9223372036854775807 : Int64) - tk)), .second, .val (.long (q4 + (((9223372036854775807 : Int64) - tk) / (2 : Int64)))), .second, .val (.long ((q4 + ((SP0 - tk) / (2 : Int64))) - q4)), .second, .val (.long ((q4 + (SP0 - tk)) - q4)), .second] [(.long ((2 : Int64) * ((q4 + ((SP0 - tk) / (2 : Int64))) - q4))), (.long ((q4 + (SP0 - tk)) - q4))])) _
        refine XS.lsub X304.here hx rfl (hb hby at_262) rfl ?_
        show Steps p.tables e below (T304.setTop (mkF m 263 #[.val (.long q1), .second, .val (.int p2), .val (.int p3), .val (.long q4), .second, .val (.long tk), .second, .val (.int (Int32.ofNat n)), .val (.int (2 : Int32)), .val (.ref b172), .val (.ref b176), .val (.ref b182), .val (.ref b182), .val (.ref b281), .val (.long (q4 + ((SP0 - tk) / (2 : Int64)))), .second, .val (.long (q4 + (SP0 - tk))), .second, .val (.long (9223372036854775807 : Int64)), .second, .val (.long ((9223372036854775807 : Int64) - tk)), .second, .val (.long (q4 + (((9223372036854775807 : Int64) - tk) / (2 : Int64)))), .second, .val (.long ((q4 + ((SP0 - tk) / (2 : Int64))) - q4)), .second, .val (.long ((q4 + (SP0 - tk)) - q4)), .second] [(.long (((q4 + (SP0 - tk)) - q4) - ((2 : Int64) * ((q4 + ((SP0 - tk) / (2 : Int64))) - q4))))])) _
        refine XS.lconst X304.here hx rfl (hb hby at_263) ?_
        show Steps p.tables e below (T304.setTop (mkF m 264 #[.val (.long q1), .second, .val (.int p2), .val (.int p3), .val (.long q4), .second, .val (.long tk), .second, .val (.int (Int32.ofNat n)), .val (.int (2 : Int32)), .val (.ref b172), .val (.ref b176), .val (.ref b182), .val (.ref b182), .val (.ref b281), .val (.long (q4 + ((SP0 - tk) / (2 : Int64)))), .second, .val (.long (q4 + (SP0 - tk))), .second, .val (.long (9223372036854775807 : Int64)), .second, .val (.long ((9223372036854775807 : Int64) - tk)), .second, .val (.long (q4 + (((9223372036854775807 : Int64) - tk) / (2 : Int64)))), .second, .val (.long ((q4 + ((SP0 - tk) / (2 : Int64))) - q4)), .second, .val (.long ((q4 + (SP0 - tk)) - q4)), .second] [(.long (1 : Int64)), (.long (((q4 + (SP0 - tk)) - q4) - ((2 : Int64) * ((q4 + ((SP0 - tk) / (2 : Int64))) - q4))))])) _
        refine XS.lcmp X304.here hx rfl (hb hby at_264) rfl ?_
        exact kq)
      have go321 : Goes p e below s₁ (G_rm0 m q1 p2 p3 q4) T304 (mkF m 273 #[.val (.long q1), .second, .val (.int p2), .val (.int p3), .val (.long q4), .second, .val (.long tk), .second, .val (.int (Int32.ofNat n)), .val (.int (2 : Int32)), .val (.ref b172), .val (.ref b176), .val (.ref b182), .val (.ref b182), .val (.ref b281), .val (.long (q4 + ((SP0 - tk) / (2 : Int64)))), .second, .val (.long (q4 + (SP0 - tk))), .second, .val (.long (9223372036854775807 : Int64)), .second, .val (.long ((9223372036854775807 : Int64) - tk)), .second, .val (.long (q4 + (((9223372036854775807 : Int64) - tk) / (2 : Int64)))), .second, .val (.long ((q4 + ((SP0 - tk) / (2 : Int64))) - q4)), .second, .val (.long ((q4 + (SP0 - tk)) - q4)), .second] [(.int (1 : Int32))]) := fun tq kq => go320 tq (by
        show Steps p.tables e below (T304.setTop (mkF m 265 #[.val (.long q1), .second, .val (.int p2), .val (.int p3), .val (.long q4), .second, .val (.long tk), .second, .val (.int (Int32.ofNat n)), .val (.int (2 : Int32)), .val (.ref b172), .val (.ref b176), .val (.ref b182), .val (.ref b182), .val (.ref b281), .val (.long (q4 + ((SP0 - tk) / (2 : Int64)))), .second, .val (.long (q4 + (SP0 - tk))), .second, .val (.long (9223372036854775807 : Int64)), .second, .val (.long ((9223372036854775807 : Int64) - tk)), .second, .val (.long (q4 + (((9223372036854775807 : Int64) - tk) / (2 : Int64)))), .second, .val (.long ((q4 + ((SP0 - tk) / (2 : Int64))) - q4)), .second, .val (.long ((q4 + (SP0 - tk)) - q4)), .second] [(.int (lcmpW (((q4 + (SP0 - tk)) - q4) - ((2 : Int64) * ((q4 + ((SP0 - tk) / (2 : Int64))) - q4))) (1 : Int64)))])) _
        refine XS.ifNo X304.here hx rfl (hb hby at_265) rfl ((if0 _ _).trans (flt (own_lcle (own_m3 q4 hmt))).2.2.1) ?_
        show Steps p.tables e below (T304.setTop (mkF m 268 #[.val (.long q1), .second, .val (.int p2), .val (.int p3), .val (.long q4), .second, .val (.long tk), .second, .val (.int (Int32.ofNat n)), .val (.int (2 : Int32)), .val (.ref b172), .val (.ref b176), .val (.ref b182), .val (.ref b182), .val (.ref b281), .val (.long (q4 + ((SP0 - tk) / (2 : Int64)))), .second, .val (.long (q4 + (SP0 - tk))), .second, .val (.long (9223372036854775807 : Int64)), .second, .val (.long ((9223372036854775807 : Int64) - tk)), .second, .val (.long (q4 + (((9223372036854775807 : Int64) - tk) / (2 : Int64)))), .second, .val (.long ((q4 + ((SP0 - tk) / (2 : Int64))) - q4)), .second, .val (.long ((q4 + (SP0 - tk)) - q4)), .second] [])) _
        refine XS.iconst X304.here hx rfl (hb hby at_268) ?_
        show Steps p.tables e below (T304.setTop (mkF m 269 #[.val (.long q1), .second, .val (.int p2), .val (.int p3), .val (.long q4), .second, .val (.long tk), .second, .val (.int (Int32.ofNat n)), .val (.int (2 : Int32)), .val (.ref b172), .val (.ref b176), .val (.ref b182), .val (.ref b182), .val (.ref b281), .val (.long (q4 + ((SP0 - tk) / (2 : Int64)))), .second, .val (.long (q4 + (SP0 - tk))), .second, .val (.long (9223372036854775807 : Int64)), .second, .val (.long ((9223372036854775807 : Int64) - tk)), .second, .val (.long (q4 + (((9223372036854775807 : Int64) - tk) / (2 : Int64)))), .second, .val (.long ((q4 + ((SP0 - tk) / (2 : Int64))) - q4)), .second, .val (.long ((q4 + (SP0 - tk)) - q4)), .second] [(.int (1 : Int32))])) _
        refine XS.goto X304.here hx rfl (pc0 := 269) (pc' := 273) rfl (hb hby at_269) (by decide) (by decide) ?_
        exact kq)
      obtain ⟨fs, hr, hrun, hended, hW, hsame⟩ := X304.leave (v := some (.int (1 : Int32))) (fun h => by rw [Bd.returns] at h; cases h)
      refine ⟨_, _, go321 _ ?_, hrun, hended, _, _, rfl, ?_, ReturnedEndW.of_narrow ⟨_, rfl⟩ hW (hsame.mono (by decide) (by decide))⟩
      · exact retN X304 hx (t := .boolean) Bd.returns (by simp) (hb hby at_273) hr
      · show Q_rm0 Z q1 p2 p3 q4 h0 n0 _ T304.heap _
        rw [eq304]
        exact ⟨rfl, N304⟩
    · have go306 : Goes p e below s₁ (G_rm0 m q1 p2 p3 q4) T304 (mkF m 169 #[.val (.long q1), .second, .val (.int p2), .val (.int p3), .val (.long q4), .second, .val (.long tk), .second, .val (.int (Int32.ofNat n)), .val (.int (2 : Int32)), .val (.ref b172), .val (.ref b176), .val (.ref b182), .val (.ref b182), .val (.ref b281), .val (.long (q4 + ((SP0 - tk) / (2 : Int64)))), .second, .val (.long (q4 + (SP0 - tk))), .second, .val (.long (tk * ((Int32.ofNat n).toInt64))), .second, .unset, .unset, .unset, .unset, .unset, .unset, .unset, .unset] []) := fun tq kq => go305 tq (by
        show Steps p.tables e below (T304.setTop (mkF m 152 #[.val (.long q1), .second, .val (.int p2), .val (.int p3), .val (.long q4), .second, .val (.long tk), .second, .val (.int (Int32.ofNat n)), .val (.int (2 : Int32)), .val (.ref b172), .val (.ref b176), .val (.ref b182), .val (.ref b182), .val (.ref b281), .val (.long (q4 + ((SP0 - tk) / (2 : Int64)))), .second, .val (.long (q4 + (SP0 - tk))), .second, .unset, .unset, .unset, .unset, .unset, .unset, .unset, .unset, .unset, .unset] [(.int (lcmpW tk ((9223372036854775807 : Int64) / ((Int32.ofNat n).toInt64))))])) _
        refine XS.ifYes X304.here hx rfl (pc0 := 152) (pc' := 161) rfl (hb hby at_152) rfl ((if0 _ _).trans (flt (own_lcle hsp)).2.2.2) (by decide) (by decide) ?_
        show Steps p.tables e below (T304.setTop (mkF m 161 #[.val (.long q1), .second, .val (.int p2), .val (.int p3), .val (.long q4), .second, .val (.long tk), .second, .val (.int (Int32.ofNat n)), .val (.int (2 : Int32)), .val (.ref b172), .val (.ref b176), .val (.ref b182), .val (.ref b182), .val (.ref b281), .val (.long (q4 + ((SP0 - tk) / (2 : Int64)))), .second, .val (.long (q4 + (SP0 - tk))), .second, .unset, .unset, .unset, .unset, .unset, .unset, .unset, .unset, .unset, .unset] [])) _
        refine XS.lload X304.here hx rfl (hb hby at_161) rfl ?_
        show Steps p.tables e below (T304.setTop (mkF m 163 #[.val (.long q1), .second, .val (.int p2), .val (.int p3), .val (.long q4), .second, .val (.long tk), .second, .val (.int (Int32.ofNat n)), .val (.int (2 : Int32)), .val (.ref b172), .val (.ref b176), .val (.ref b182), .val (.ref b182), .val (.ref b281), .val (.long (q4 + ((SP0 - tk) / (2 : Int64)))), .second, .val (.long (q4 + (SP0 - tk))), .second, .unset, .unset, .unset, .unset, .unset, .unset, .unset, .unset, .unset, .unset] [(.long tk)])) _
        refine XS.iload X304.here hx rfl (hb hby at_163) rfl ?_
        show Steps p.tables e below (T304.setTop (mkF m 165 #[.val (.long q1), .second, .val (.int p2), .val (.int p3), .val (.long q4), .second, .val (.long tk), .second, .val (.int (Int32.ofNat n)), .val (.int (2 : Int32)), .val (.ref b172), .val (.ref b176), .val (.ref b182), .val (.ref b182), .val (.ref b281), .val (.long (q4 + ((SP0 - tk) / (2 : Int64)))), .second, .val (.long (q4 + (SP0 - tk))), .second, .unset, .unset, .unset, .unset, .unset, .unset, .unset, .unset, .unset, .unset] [(.int (Int32.ofNat n)), (.long tk)])) _
        refine XS.i2l X304.here hx rfl (hb hby at_165) rfl ?_
        show Steps p.tables e below (T304.setTop (mkF m 166 #[.val (.long q1), .second, .val (.int p2), .val (.int p3), .val (.long q4), .second, .val (.long tk), .second, .val (.int (Int32.ofNat n)), .val (.int (2 : Int32)), .val (.ref b172), .val (.ref b176), .val (.ref b182), .val (.ref b182), .val (.ref b281), .val (.long (q4 + ((SP0 - tk) / (2 : Int64)))), .second, .val (.long (q4 + (SP0 - tk))), .second, .unset, .unset, .unset, .unset, .unset, .unset, .unset, .unset, .unset, .unset] [(.long ((Int32.ofNat n).toInt64)), (.long tk)])) _
        refine XS.lmul X304.here hx rfl (hb hby at_166) rfl ?_
        show Steps p.tables e below (T304.setTop (mkF m 167 #[.val (.long q1), .second, .val (.int p2), .val (.int p3), .val (.long q4), .second, .val (.long tk), .second, .val (.int (Int32.ofNat n)), .val (.int (2 : Int32)), .val (.ref b172), .val (.ref b176), .val (.ref b182), .val (.ref b182), .val (.ref b281), .val (.long (q4 + ((SP0 - tk) / (2 : Int64)))), .second, .val (.long (q4 + (SP0 - tk))), .second, .unset, .unset, .unset, .unset, .unset, .unset, .unset, .unset, .unset, .unset] [(.long (tk * ((Int32.ofNat n).toInt64)))])) _
        refine XS.lstore X304.here hx rfl (hb hby at_167) rfl (l' := #[.val (.long q1), .second, .val (.int p2), .val (.int p3), .val (.long q4), .second, .val (.long tk), .second, .val (.int (Int32.ofNat n)), .val (.int (2 : Int32)), .val (.ref b172), .val (.ref b176), .val (.ref b182), .val (.ref b182), .val (.ref b281), .val (.long (q4 + ((SP0 - tk) / (2 : Int64)))), .second, .val (.long (q4 + (SP0 - tk))), .second, .val (.long (tk * ((Int32.ofNat n).toInt64))), .second, .unset, .unset, .unset, .unset, .unset, .unset, .unset, .unset]) rfl ?_
        exact kq)
      have hS : SP0 = (tk * ((Int32.ofNat n).toInt64)) := hSP0.trans (if_neg hsp)
      have go307 : Goes p e below s₁ (G_rm0 m q1 p2 p3 q4) T304 (mkF m 171 #[.val (.long q1), .second, .val (.int p2), .val (.int p3), .val (.long q4), .second, .val (.long tk), .second, .val (.int (Int32.ofNat n)), .val (.int (2 : Int32)), .val (.ref b172), .val (.ref b176), .val (.ref b182), .val (.ref b182), .val (.ref b281), .val (.long (q4 + ((SP0 - tk) / (2 : Int64)))), .second, .val (.long (q4 + (SP0 - tk))), .second, .val (.long (tk * ((Int32.ofNat n).toInt64))), .second, .unset, .unset, .unset, .unset, .unset, .unset, .unset, .unset] [(.int (2 : Int32))]) := fun tq kq => go306 tq (by
        show Steps p.tables e below (T304.setTop (mkF m 169 #[.val (.long q1), .second, .val (.int p2), .val (.int p3), .val (.long q4), .second, .val (.long tk), .second, .val (.int (Int32.ofNat n)), .val (.int (2 : Int32)), .val (.ref b172), .val (.ref b176), .val (.ref b182), .val (.ref b182), .val (.ref b281), .val (.long (q4 + ((SP0 - tk) / (2 : Int64)))), .second, .val (.long (q4 + (SP0 - tk))), .second, .val (.long (tk * ((Int32.ofNat n).toInt64))), .second, .unset, .unset, .unset, .unset, .unset, .unset, .unset, .unset] [])) _
        refine XS.iload X304.here hx rfl (hb hby at_169) rfl ?_
        exact kq)
      have go308 : Goes p e below s₁ (G_rm0 m q1 p2 p3 q4) T304 (mkF m 183 #[.val (.long q1), .second, .val (.int p2), .val (.int p3), .val (.long q4), .second, .val (.long tk), .second, .val (.int (Int32.ofNat n)), .val (.int (2 : Int32)), .val (.ref b172), .val (.ref b176), .val (.ref b182), .val (.ref b182), .val (.ref b281), .val (.long (q4 + ((SP0 - tk) / (2 : Int64)))), .second, .val (.long (q4 + (SP0 - tk))), .second, .val (.long (tk * ((Int32.ofNat n).toInt64))), .second, .unset, .unset, .unset, .unset, .unset, .unset, .unset, .unset] [(.int (1 : Int32)), (.int (2 : Int32))]) := fun tq kq => go307 tq (by
        show Steps p.tables e below (T304.setTop (mkF m 171 #[.val (.long q1), .second, .val (.int p2), .val (.int p3), .val (.long q4), .second, .val (.long tk), .second, .val (.int (Int32.ofNat n)), .val (.int (2 : Int32)), .val (.ref b172), .val (.ref b176), .val (.ref b182), .val (.ref b182), .val (.ref b281), .val (.long (q4 + ((SP0 - tk) / (2 : Int64)))), .second, .val (.long (q4 + (SP0 - tk))), .second, .val (.long (tk * ((Int32.ofNat n).toInt64))), .second, .unset, .unset, .unset, .unset, .unset, .unset, .unset, .unset] [(.int (2 : Int32))])) _
        refine XS.ifYes X304.here hx rfl (pc0 := 171) (pc' := 180) rfl (hb hby at_171) rfl ((if0 _ _).trans (feq (by decide)).2) (by decide) (by decide) ?_
        show Steps p.tables e below (T304.setTop (mkF m 180 #[.val (.long q1), .second, .val (.int p2), .val (.int p3), .val (.long q4), .second, .val (.long tk), .second, .val (.int (Int32.ofNat n)), .val (.int (2 : Int32)), .val (.ref b172), .val (.ref b176), .val (.ref b182), .val (.ref b182), .val (.ref b281), .val (.long (q4 + ((SP0 - tk) / (2 : Int64)))), .second, .val (.long (q4 + (SP0 - tk))), .second, .val (.long (tk * ((Int32.ofNat n).toInt64))), .second, .unset, .unset, .unset, .unset, .unset, .unset, .unset, .unset] [])) _
        refine XS.iload X304.here hx rfl (hb hby at_180) rfl ?_
        show Steps p.tables e below (T304.setTop (mkF m 182 #[.val (.long q1), .second, .val (.int p2), .val (.int p3), .val (.long q4), .second, .val (.long tk), .second, .val (.int (Int32.ofNat n)), .val (.int (2 : Int32)), .val (.ref b172), .val (.ref b176), .val (.ref b182), .val (.ref b182), .val (.ref b281), .val (.long (q4 + ((SP0 - tk) / (2 : Int64)))), .second, .val (.long (q4 + (SP0 - tk))), .second, .val (.long (tk * ((Int32.ofNat n).toInt64))), .second, .unset, .unset, .unset, .unset, .unset, .unset, .unset, .unset] [(.int (2 : Int32))])) _
        refine XS.iconst X304.here hx rfl (hb hby at_182) ?_
        exact kq)
      have go309 : Goes p e below s₁ (G_rm0 m q1 p2 p3 q4) T304 (mkF m 216 #[.val (.long q1), .second, .val (.int p2), .val (.int p3), .val (.long q4), .second, .val (.long tk), .second, .val (.int (Int32.ofNat n)), .val (.int (2 : Int32)), .val (.ref b172), .val (.ref b176), .val (.ref b182), .val (.ref b182), .val (.ref b281), .val (.long (q4 + ((SP0 - tk) / (2 : Int64)))), .second, .val (.long (q4 + (SP0 - tk))), .second, .val (.long (tk * ((Int32.ofNat n).toInt64))), .second, .val (.long ((tk * ((Int32.ofNat n).toInt64)) - tk)), .second, .val (.long (q4 + (((tk * ((Int32.ofNat n).toInt64)) - tk) / (2 : Int64)))), .second, .unset, .unset, .unset, .unset] [(.int (lcmpW (q4 + ((SP0 - tk) / (2 : Int64))) (q4 + (((tk * ((Int32.ofNat n).toInt64)) - tk) / (2 : Int64)))))]) := fun tq kq => go308 tq (by
        show Steps p.tables e below (T304.setTop (mkF m 183 #[.val (.long q1), .second, .val (.int p2), .val (.int p3), .val (.long q4), .second, .val (.long tk), .second, .val (.int (Int32.ofNat n)), .val (.int (2 : Int32)), .val (.ref b172), .val (.ref b176), .val (.ref b182), .val (.ref b182), .val (.ref b281), .val (.long (q4 + ((SP0 - tk) / (2 : Int64)))), .second, .val (.long (q4 + (SP0 - tk))), .second, .val (.long (tk * ((Int32.ofNat n).toInt64))), .second, .unset, .unset, .unset, .unset, .unset, .unset, .unset, .unset] [(.int (1 : Int32)), (.int (2 : Int32))])) _
        refine XS.icmpYes X304.here hx rfl (pc0 := 183) (pc' := 193) rfl (hb hby at_183) rfl (feq (by decide)).2 (by decide) (by decide) ?_
        show Steps p.tables e below (T304.setTop (mkF m 193 #[.val (.long q1), .second, .val (.int p2), .val (.int p3), .val (.long q4), .second, .val (.long tk), .second, .val (.int (Int32.ofNat n)), .val (.int (2 : Int32)), .val (.ref b172), .val (.ref b176), .val (.ref b182), .val (.ref b182), .val (.ref b281), .val (.long (q4 + ((SP0 - tk) / (2 : Int64)))), .second, .val (.long (q4 + (SP0 - tk))), .second, .val (.long (tk * ((Int32.ofNat n).toInt64))), .second, .unset, .unset, .unset, .unset, .unset, .unset, .unset, .unset] [])) _
        refine XS.lload X304.here hx rfl (hb hby at_193) rfl ?_
        show Steps p.tables e below (T304.setTop (mkF m 195 #[.val (.long q1), .second, .val (.int p2), .val (.int p3), .val (.long q4), .second, .val (.long tk), .second, .val (.int (Int32.ofNat n)), .val (.int (2 : Int32)), .val (.ref b172), .val (.ref b176), .val (.ref b182), .val (.ref b182), .val (.ref b281), .val (.long (q4 + ((SP0 - tk) / (2 : Int64)))), .second, .val (.long (q4 + (SP0 - tk))), .second, .val (.long (tk * ((Int32.ofNat n).toInt64))), .second, .unset, .unset, .unset, .unset, .unset, .unset, .unset, .unset] [(.long (tk * ((Int32.ofNat n).toInt64)))])) _
        refine XS.lload X304.here hx rfl (hb hby at_195) rfl ?_
        show Steps p.tables e below (T304.setTop (mkF m 197 #[.val (.long q1), .second, .val (.int p2), .val (.int p3), .val (.long q4), .second, .val (.long tk), .second, .val (.int (Int32.ofNat n)), .val (.int (2 : Int32)), .val (.ref b172), .val (.ref b176), .val (.ref b182), .val (.ref b182), .val (.ref b281), .val (.long (q4 + ((SP0 - tk) / (2 : Int64)))), .second, .val (.long (q4 + (SP0 - tk))), .second, .val (.long (tk * ((Int32.ofNat n).toInt64))), .second, .unset, .unset, .unset, .unset, .unset, .unset, .unset, .unset] [(.long tk), (.long (tk * ((Int32.ofNat n).toInt64)))])) _
        refine XS.lsub X304.here hx rfl (hb hby at_197) rfl ?_
        show Steps p.tables e below (T304.setTop (mkF m 198 #[.val (.long q1), .second, .val (.int p2), .val (.int p3), .val (.long q4), .second, .val (.long tk), .second, .val (.int (Int32.ofNat n)), .val (.int (2 : Int32)), .val (.ref b172), .val (.ref b176), .val (.ref b182), .val (.ref b182), .val (.ref b281), .val (.long (q4 + ((SP0 - tk) / (2 : Int64)))), .second, .val (.long (q4 + (SP0 - tk))), .second, .val (.long (tk * ((Int32.ofNat n).toInt64))), .second, .unset, .unset, .unset, .unset, .unset, .unset, .unset, .unset] [(.long ((tk * ((Int32.ofNat n).toInt64)) - tk))])) _
        refine XS.lstore X304.here hx rfl (hb hby at_198) rfl (l' := #[.val (.long q1), .second, .val (.int p2), .val (.int p3), .val (.long q4), .second, .val (.long tk), .second, .val (.int (Int32.ofNat n)), .val (.int (2 : Int32)), .val (.ref b172), .val (.ref b176), .val (.ref b182), .val (.ref b182), .val (.ref b281), .val (.long (q4 + ((SP0 - tk) / (2 : Int64)))), .second, .val (.long (q4 + (SP0 - tk))), .second, .val (.long (tk * ((Int32.ofNat n).toInt64))), .second, .val (.long ((tk * ((Int32.ofNat n).toInt64)) - tk)), .second, .unset, .unset, .unset, .unset, .unset, .unset]) rfl ?_
        show Steps p.tables e below (T304.setTop (mkF m 200 #[.val (.long q1), .second, .val (.int p2), .val (.int p3), .val (.long q4), .second, .val (.long tk), .second, .val (.int (Int32.ofNat n)), .val (.int (2 : Int32)), .val (.ref b172), .val (.ref b176), .val (.ref b182), .val (.ref b182), .val (.ref b281), .val (.long (q4 + ((SP0 - tk) / (2 : Int64)))), .second, .val (.long (q4 + (SP0 - tk))), .second, .val (.long (tk * ((Int32.ofNat n).toInt64))), .second, .val (.long ((tk * ((Int32.ofNat n).toInt64)) - tk)), .second, .unset, .unset, .unset, .unset, .unset, .unset] [])) _
        refine XS.lload X304.here hx rfl (hb hby at_200) rfl ?_
        show Steps p.tables e below (T304.setTop (mkF m 202 #[.val (.long q1), .second, .val (.int p2), .val (.int p3), .val (.long q4), .second, .val (.long tk), .second, .val (.int (Int32.ofNat n)), .val (.int (2 : Int32)), .val (.ref b172), .val (.ref b176), .val (.ref b182), .val (.ref b182), .val (.ref b281), .val (.long (q4 + ((SP0 - tk) / (2 : Int64)))), .second, .val (.long (q4 + (SP0 - tk))), .second, .val (.long (tk * ((Int32.ofNat n).toInt64))), .second, .val (.long ((tk * ((Int32.ofNat n).toInt64)) - tk)), .second, .unset, .unset, .unset, .unset, .unset, .unset] [(.long q4)])) _
        refine XS.lload X304.here hx rfl (hb hby at_202) rfl ?_
        show Steps p.tables e below (T304.setTop (mkF m 204 #[.val (.long q1), .second, .val (.int p2), .val (.int p3), .val (.long q4), .second, .val (.long tk), .second, .val (.int (Int32.ofNat n)), .val (.int (2 : Int32)), .val (.ref b172), .val (.ref b176), .val (.ref b182), .val (.ref b182), .val (.ref b281), .val (.long (q4 + ((SP0 - tk) / (2 : Int64)))), .second, .val (.long (q4 + (SP0 - tk))), .second, .val (.long (tk * ((Int32.ofNat n).toInt64))), .second, .val (.long ((tk * ((Int32.ofNat n).toInt64)) - tk)), .second, .unset, .unset, .unset, .unset, .unset, .unset] [(.long ((tk * ((Int32.ofNat n).toInt64)) - tk)), (.long q4)])) _
        refine X304.ldc2Long hx hown (mvT hZ (tw113 hw)) (g := (mkF m 204 #[.val (.long q1), .second, .val (.int p2), .val (.int p3), .val (.long q4), .second, .val (.long tk), .second, .val (.int (Int32.ofNat n)), .val (.int (2 : Int32)), .val (.ref b172), .val (.ref b176), .val (.ref b182), .val (.ref b182), .val (.ref b281), .val (.long (q4 + ((SP0 - tk) / (2 : Int64)))), .second, .val (.long (q4 + (SP0 - tk))), .second, .val (.long (tk * ((Int32.ofNat n).toInt64))), .second, .val (.long ((tk * ((Int32.ofNat n).toInt64)) - tk)), .second, .unset, .unset, .unset, .unset, .unset, .unset] [(.long ((tk * ((Int32.ofNat n).toInt64)) - tk)), (.long q4)])) rfl (hb hby at_204) _ ?_
        show Steps p.tables e below (T304.setTop (mkF m 207 #[.val (.long q1), .second, .val (.int p2), .val (.int p3), .val (.long q4), .second, .val (.long tk), .second, .val (.int (Int32.ofNat n)), .val (.int (2 : Int32)), .val (.ref b172), .val (.ref b176), .val (.ref b182), .val (.ref b182), .val (.ref b281), .val (.long (q4 + ((SP0 - tk) / (2 : Int64)))), .second, .val (.long (q4 + (SP0 - tk))), .second, .val (.long (tk * ((Int32.ofNat n).toInt64))), .second, .val (.long ((tk * ((Int32.ofNat n).toInt64)) - tk)), .second, .unset, .unset, .unset, .unset, .unset, .unset] [(.long (2 : Int64)), (.long ((tk * ((Int32.ofNat n).toInt64)) - tk)), (.long q4)])) _
        refine XS.ldiv X304.here hx rfl (hb hby at_207) rfl (by decide) ?_
        show Steps p.tables e below (T304.setTop (mkF m 208 #[.val (.long q1), .second, .val (.int p2), .val (.int p3), .val (.long q4), .second, .val (.long tk), .second, .val (.int (Int32.ofNat n)), .val (.int (2 : Int32)), .val (.ref b172), .val (.ref b176), .val (.ref b182), .val (.ref b182), .val (.ref b281), .val (.long (q4 + ((SP0 - tk) / (2 : Int64)))), .second, .val (.long (q4 + (SP0 - tk))), .second, .val (.long (tk * ((Int32.ofNat n).toInt64))), .second, .val (.long ((tk * ((Int32.ofNat n).toInt64)) - tk)), .second, .unset, .unset, .unset, .unset, .unset, .unset] [(.long (((tk * ((Int32.ofNat n).toInt64)) - tk) / (2 : Int64))), (.long q4)])) _
        refine XS.ladd X304.here hx rfl (hb hby at_208) rfl ?_
        show Steps p.tables e below (T304.setTop (mkF m 209 #[.val (.long q1), .second, .val (.int p2), .val (.int p3), .val (.long q4), .second, .val (.long tk), .second, .val (.int (Int32.ofNat n)), .val (.int (2 : Int32)), .val (.ref b172), .val (.ref b176), .val (.ref b182), .val (.ref b182), .val (.ref b281), .val (.long (q4 + ((SP0 - tk) / (2 : Int64)))), .second, .val (.long (q4 + (SP0 - tk))), .second, .val (.long (tk * ((Int32.ofNat n).toInt64))), .second, .val (.long ((tk * ((Int32.ofNat n).toInt64)) - tk)), .second, .unset, .unset, .unset, .unset, .unset, .unset] [(.long (q4 + (((tk * ((Int32.ofNat n).toInt64)) - tk) / (2 : Int64))))])) _
        refine XS.lstore X304.here hx rfl (hb hby at_209) rfl (l' := #[.val (.long q1), .second, .val (.int p2), .val (.int p3), .val (.long q4), .second, .val (.long tk), .second, .val (.int (Int32.ofNat n)), .val (.int (2 : Int32)), .val (.ref b172), .val (.ref b176), .val (.ref b182), .val (.ref b182), .val (.ref b281), .val (.long (q4 + ((SP0 - tk) / (2 : Int64)))), .second, .val (.long (q4 + (SP0 - tk))), .second, .val (.long (tk * ((Int32.ofNat n).toInt64))), .second, .val (.long ((tk * ((Int32.ofNat n).toInt64)) - tk)), .second, .val (.long (q4 + (((tk * ((Int32.ofNat n).toInt64)) - tk) / (2 : Int64)))), .second, .unset, .unset, .unset, .unset]) rfl ?_
        show Steps p.tables e below (T304.setTop (mkF m 211 #[.val (.long q1), .second, .val (.int p2), .val (.int p3), .val (.long q4), .second, .val (.long tk), .second, .val (.int (Int32.ofNat n)), .val (.int (2 : Int32)), .val (.ref b172), .val (.ref b176), .val (.ref b182), .val (.ref b182), .val (.ref b281), .val (.long (q4 + ((SP0 - tk) / (2 : Int64)))), .second, .val (.long (q4 + (SP0 - tk))), .second, .val (.long (tk * ((Int32.ofNat n).toInt64))), .second, .val (.long ((tk * ((Int32.ofNat n).toInt64)) - tk)), .second, .val (.long (q4 + (((tk * ((Int32.ofNat n).toInt64)) - tk) / (2 : Int64)))), .second, .unset, .unset, .unset, .unset] [])) _
        refine XS.lload X304.here hx rfl (hb hby at_211) rfl ?_
        show Steps p.tables e below (T304.setTop (mkF m 213 #[.val (.long q1), .second, .val (.int p2), .val (.int p3), .val (.long q4), .second, .val (.long tk), .second, .val (.int (Int32.ofNat n)), .val (.int (2 : Int32)), .val (.ref b172), .val (.ref b176), .val (.ref b182), .val (.ref b182), .val (.ref b281), .val (.long (q4 + ((SP0 - tk) / (2 : Int64)))), .second, .val (.long (q4 + (SP0 - tk))), .second, .val (.long (tk * ((Int32.ofNat n).toInt64))), .second, .val (.long ((tk * ((Int32.ofNat n).toInt64)) - tk)), .second, .val (.long (q4 + (((tk * ((Int32.ofNat n).toInt64)) - tk) / (2 : Int64)))), .second, .unset, .unset, .unset, .unset] [(.long (q4 + ((SP0 - tk) / (2 : Int64))))])) _
        refine XS.lload X304.here hx rfl (hb hby at_213) rfl ?_
        show Steps p.tables e below (T304.setTop (mkF m 215 #[.val (.long q1), .second, .val (.int p2), .val (.int p3), .val (.long q4), .second, .val (.long tk), .second, .val (.int (Int32.ofNat n)), .val (.int (2 : Int32)), .val (.ref b172), .val (.ref b176), .val (.ref b182), .val (.ref b182), .val (.ref b281), .val (.long (q4 + ((SP0 - tk) / (2 : Int64)))), .second, .val (.long (q4 + (SP0 - tk))), .second, .val (.long (tk * ((Int32.ofNat n).toInt64))), .second, .val (.long ((tk * ((Int32.ofNat n).toInt64)) - tk)), .second, .val (.long (q4 + (((tk * ((Int32.ofNat n).toInt64)) - tk) / (2 : Int64)))), .second, .unset, .unset, .unset, .unset] [(.long (q4 + (((tk * ((Int32.ofNat n).toInt64)) - tk) / (2 : Int64)))), (.long (q4 + ((SP0 - tk) / (2 : Int64))))])) _
        refine XS.lcmp X304.here hx rfl (hb hby at_215) rfl ?_
        exact kq)
      have hme : (q4 + ((SP0 - tk) / (2 : Int64))) = (q4 + (((tk * ((Int32.ofNat n).toInt64)) - tk) / (2 : Int64))) := by rw [hS]
      have go310 : Goes p e below s₁ (G_rm0 m q1 p2 p3 q4) T304 (mkF m 239 #[.val (.long q1), .second, .val (.int p2), .val (.int p3), .val (.long q4), .second, .val (.long tk), .second, .val (.int (Int32.ofNat n)), .val (.int (2 : Int32)), .val (.ref b172), .val (.ref b176), .val (.ref b182), .val (.ref b182), .val (.ref b281), .val (.long (q4 + ((SP0 - tk) / (2 : Int64)))), .second, .val (.long (q4 + (SP0 - tk))), .second, .val (.long (tk * ((Int32.ofNat n).toInt64))), .second, .val (.long ((tk * ((Int32.ofNat n).toInt64)) - tk)), .second, .val (.long (q4 + (((tk * ((Int32.ofNat n).toInt64)) - tk) / (2 : Int64)))), .second, .val (.long ((q4 + ((SP0 - tk) / (2 : Int64))) - q4)), .second, .val (.long ((q4 + (SP0 - tk)) - q4)), .second] [(.int (lcmpW ((q4 + ((SP0 - tk) / (2 : Int64))) - q4) (0 : Int64)))]) := fun tq kq => go309 tq (by
        show Steps p.tables e below (T304.setTop (mkF m 216 #[.val (.long q1), .second, .val (.int p2), .val (.int p3), .val (.long q4), .second, .val (.long tk), .second, .val (.int (Int32.ofNat n)), .val (.int (2 : Int32)), .val (.ref b172), .val (.ref b176), .val (.ref b182), .val (.ref b182), .val (.ref b281), .val (.long (q4 + ((SP0 - tk) / (2 : Int64)))), .second, .val (.long (q4 + (SP0 - tk))), .second, .val (.long (tk * ((Int32.ofNat n).toInt64))), .second, .val (.long ((tk * ((Int32.ofNat n).toInt64)) - tk)), .second, .val (.long (q4 + (((tk * ((Int32.ofNat n).toInt64)) - tk) / (2 : Int64)))), .second, .unset, .unset, .unset, .unset] [(.int (lcmpW (q4 + ((SP0 - tk) / (2 : Int64))) (q4 + (((tk * ((Int32.ofNat n).toInt64)) - tk) / (2 : Int64)))))])) _
        refine XS.ifYes X304.here hx rfl (pc0 := 216) (pc' := 221) rfl (hb hby at_216) rfl ((if0 _ _).trans (teq (own_lceq hme)).1) (by decide) (by decide) ?_
        show Steps p.tables e below (T304.setTop (mkF m 221 #[.val (.long q1), .second, .val (.int p2), .val (.int p3), .val (.long q4), .second, .val (.long tk), .second, .val (.int (Int32.ofNat n)), .val (.int (2 : Int32)), .val (.ref b172), .val (.ref b176), .val (.ref b182), .val (.ref b182), .val (.ref b281), .val (.long (q4 + ((SP0 - tk) / (2 : Int64)))), .second, .val (.long (q4 + (SP0 - tk))), .second, .val (.long (tk * ((Int32.ofNat n).toInt64))), .second, .val (.long ((tk * ((Int32.ofNat n).toInt64)) - tk)), .second, .val (.long (q4 + (((tk * ((Int32.ofNat n).toInt64)) - tk) / (2 : Int64)))), .second, .unset, .unset, .unset, .unset] [])) _
        refine XS.lload X304.here hx rfl (hb hby at_221) rfl ?_
        show Steps p.tables e below (T304.setTop (mkF m 223 #[.val (.long q1), .second, .val (.int p2), .val (.int p3), .val (.long q4), .second, .val (.long tk), .second, .val (.int (Int32.ofNat n)), .val (.int (2 : Int32)), .val (.ref b172), .val (.ref b176), .val (.ref b182), .val (.ref b182), .val (.ref b281), .val (.long (q4 + ((SP0 - tk) / (2 : Int64)))), .second, .val (.long (q4 + (SP0 - tk))), .second, .val (.long (tk * ((Int32.ofNat n).toInt64))), .second, .val (.long ((tk * ((Int32.ofNat n).toInt64)) - tk)), .second, .val (.long (q4 + (((tk * ((Int32.ofNat n).toInt64)) - tk) / (2 : Int64)))), .second, .unset, .unset, .unset, .unset] [(.long (q4 + ((SP0 - tk) / (2 : Int64))))])) _
        refine XS.lload X304.here hx rfl (hb hby at_223) rfl ?_
        show Steps p.tables e below (T304.setTop (mkF m 225 #[.val (.long q1), .second, .val (.int p2), .val (.int p3), .val (.long q4), .second, .val (.long tk), .second, .val (.int (Int32.ofNat n)), .val (.int (2 : Int32)), .val (.ref b172), .val (.ref b176), .val (.ref b182), .val (.ref b182), .val (.ref b281), .val (.long (q4 + ((SP0 - tk) / (2 : Int64)))), .second, .val (.long (q4 + (SP0 - tk))), .second, .val (.long (tk * ((Int32.ofNat n).toInt64))), .second, .val (.long ((tk * ((Int32.ofNat n).toInt64)) - tk)), .second, .val (.long (q4 + (((tk * ((Int32.ofNat n).toInt64)) - tk) / (2 : Int64)))), .second, .unset, .unset, .unset, .unset] [(.long q4), (.long (q4 + ((SP0 - tk) / (2 : Int64))))])) _
        refine XS.lsub X304.here hx rfl (hb hby at_225) rfl ?_
        show Steps p.tables e below (T304.setTop (mkF m 226 #[.val (.long q1), .second, .val (.int p2), .val (.int p3), .val (.long q4), .second, .val (.long tk), .second, .val (.int (Int32.ofNat n)), .val (.int (2 : Int32)), .val (.ref b172), .val (.ref b176), .val (.ref b182), .val (.ref b182), .val (.ref b281), .val (.long (q4 + ((SP0 - tk) / (2 : Int64)))), .second, .val (.long (q4 + (SP0 - tk))), .second, .val (.long (tk * ((Int32.ofNat n).toInt64))), .second, .val (.long ((tk * ((Int32.ofNat n).toInt64)) - tk)), .second, .val (.long (q4 + (((tk * ((Int32.ofNat n).toInt64)) - tk) / (2 : Int64)))), .second, .unset, .unset, .unset, .unset] [(.long ((q4 + ((SP0 - tk) / (2 : Int64))) - q4))])) _
        refine XS.lstore X304.here hx rfl (hb hby at_226) rfl (l' := #[.val (.long q1), .second, .val (.int p2), .val (.int p3), .val (.long q4), .second, .val (.long tk), .second, .val (.int (Int32.ofNat n)), .val (.int (2 : Int32)), .val (.ref b172), .val (.ref b176), .val (.ref b182), .val (.ref b182), .val (.ref b281), .val (.long (q4 + ((SP0 - tk) / (2 : Int64)))), .second, .val (.long (q4 + (SP0 - tk))), .second, .val (.long (tk * ((Int32.ofNat n).toInt64))), .second, .val (.long ((tk * ((Int32.ofNat n).toInt64)) - tk)), .second, .val (.long (q4 + (((tk * ((Int32.ofNat n).toInt64)) - tk) / (2 : Int64)))), .second, .val (.long ((q4 + ((SP0 - tk) / (2 : Int64))) - q4)), .second, .unset, .unset]) rfl ?_
        show Steps p.tables e below (T304.setTop (mkF m 228 #[.val (.long q1), .second, .val (.int p2), .val (.int p3), .val (.long q4), .second, .val (.long tk), .second, .val (.int (Int32.ofNat n)), .val (.int (2 : Int32)), .val (.ref b172), .val (.ref b176), .val (.ref b182), .val (.ref b182), .val (.ref b281), .val (.long (q4 + ((SP0 - tk) / (2 : Int64)))), .second, .val (.long (q4 + (SP0 - tk))), .second, .val (.long (tk * ((Int32.ofNat n).toInt64))), .second, .val (.long ((tk * ((Int32.ofNat n).toInt64)) - tk)), .second, .val (.long (q4 + (((tk * ((Int32.ofNat n).toInt64)) - tk) / (2 : Int64)))), .second, .val (.long ((q4 + ((SP0 - tk) / (2 : Int64))) - q4)), .second, .unset, .unset] [])) _
        refine XS.lload X304.here hx rfl (hb hby at_228) rfl ?_
        show Steps p.tables e below (T304.setTop (mkF m 230 #[.val (.long q1), .second, .val (.int p2), .val (.int p3), .val (.long q4), .second, .val (.long tk), .second, .val (.int (Int32.ofNat n)), .val (.int (2 : Int32)), .val (.ref b172), .val (.ref b176), .val (.ref b182), .val (.ref b182), .val (.ref b281), .val (.long (q4 + ((SP0 - tk) / (2 : Int64)))), .second, .val (.long (q4 + (SP0 - tk))), .second, .val (.long (tk * ((Int32.ofNat n).toInt64))), .second, .val (.long ((tk * ((Int32.ofNat n).toInt64)) - tk)), .second, .val (.long (q4 + (((tk * ((Int32.ofNat n).toInt64)) - tk) / (2 : Int64)))), .second, .val (.long ((q4 + ((SP0 - tk) / (2 : Int64))) - q4)), .second, .unset, .unset] [(.long (q4 + (SP0 - tk)))])) _
        refine XS.lload X304.here hx rfl (hb hby at_230) rfl ?_
        show Steps p.tables e below (T304.setTop (mkF m 232 #[.val (.long q1), .second, .val (.int p2), .val (.int p3), .val (.long q4), .second, .val (.long tk), .second, .val (.int (Int32.ofNat n)), .val (.int (2 : Int32)), .val (.ref b172), .val (.ref b176), .val (.ref b182), .val (.ref b182), .val (.ref b281), .val (.long (q4 + ((SP0 - tk) / (2 : Int64)))), .second, .val (.long (q4 + (SP0 - tk))), .second, .val (.long (tk * ((Int32.ofNat n).toInt64))), .second, .val (.long ((tk * ((Int32.ofNat n).toInt64)) - tk)), .second, .val (.long (q4 + (((tk * ((Int32.ofNat n).toInt64)) - tk) / (2 : Int64)))), .second, .val (.long ((q4 + ((SP0 - tk) / (2 : Int64))) - q4)), .second, .unset, .unset] [(.long q4), (.long (q4 + (SP0 - tk)))])) _
        refine XS.lsub X304.here hx rfl (hb hby at_232) rfl ?_
        show Steps p.tables e below (T304.setTop (mkF m 233 #[.val (.long q1), .second, .val (.int p2), .val (.int p3), .val (.long q4), .second, .val (.long tk), .second, .val (.int (Int32.ofNat n)), .val (.int (2 : Int32)), .val (.ref b172), .val (.ref b176), .val (.ref b182), .val (.ref b182), .val (.ref b281), .val (.long (q4 + ((SP0 - tk) / (2 : Int64)))), .second, .val (.long (q4 + (SP0 - tk))), .second, .val (.long (tk * ((Int32.ofNat n).toInt64))), .second, .val (.long ((tk * ((Int32.ofNat n).toInt64)) - tk)), .second, .val (.long (q4 + (((tk * ((Int32.ofNat n).toInt64)) - tk) / (2 : Int64)))), .second, .val (.long ((q4 + ((SP0 - tk) / (2 : Int64))) - q4)), .second, .unset, .unset] [(.long ((q4 + (SP0 - tk)) - q4))])) _
        refine XS.lstore X304.here hx rfl (hb hby at_233) rfl (l' := #[.val (.long q1), .second, .val (.int p2), .val (.int p3), .val (.long q4), .second, .val (.long tk), .second, .val (.int (Int32.ofNat n)), .val (.int (2 : Int32)), .val (.ref b172), .val (.ref b176), .val (.ref b182), .val (.ref b182), .val (.ref b281), .val (.long (q4 + ((SP0 - tk) / (2 : Int64)))), .second, .val (.long (q4 + (SP0 - tk))), .second, .val (.long (tk * ((Int32.ofNat n).toInt64))), .second, .val (.long ((tk * ((Int32.ofNat n).toInt64)) - tk)), .second, .val (.long (q4 + (((tk * ((Int32.ofNat n).toInt64)) - tk) / (2 : Int64)))), .second, .val (.long ((q4 + ((SP0 - tk) / (2 : Int64))) - q4)), .second, .val (.long ((q4 + (SP0 - tk)) - q4)), .second]) rfl ?_
        show Steps p.tables e below (T304.setTop (mkF m 235 #[.val (.long q1), .second, .val (.int p2), .val (.int p3), .val (.long q4), .second, .val (.long tk), .second, .val (.int (Int32.ofNat n)), .val (.int (2 : Int32)), .val (.ref b172), .val (.ref b176), .val (.ref b182), .val (.ref b182), .val (.ref b281), .val (.long (q4 + ((SP0 - tk) / (2 : Int64)))), .second, .val (.long (q4 + (SP0 - tk))), .second, .val (.long (tk * ((Int32.ofNat n).toInt64))), .second, .val (.long ((tk * ((Int32.ofNat n).toInt64)) - tk)), .second, .val (.long (q4 + (((tk * ((Int32.ofNat n).toInt64)) - tk) / (2 : Int64)))), .second, .val (.long ((q4 + ((SP0 - tk) / (2 : Int64))) - q4)), .second, .val (.long ((q4 + (SP0 - tk)) - q4)), .second] [])) _
        refine XS.lload X304.here hx rfl (hb hby at_235) rfl ?_
        show Steps p.tables e below (T304.setTop (mkF m 237 #[.val (.long q1), .second, .val (.int p2), .val (.int p3), .val (.long q4), .second, .val (.long tk), .second, .val (.int (Int32.ofNat n)), .val (.int (2 : Int32)), .val (.ref b172), .val (.ref b176), .val (.ref b182), .val (.ref b182), .val (.ref b281), .val (.long (q4 + ((SP0 - tk) / (2 : Int64)))), .second, .val (.long (q4 + (SP0 - tk))), .second, .val (.long (tk * ((Int32.ofNat n).toInt64))), .second, .val (.long ((tk * ((Int32.ofNat n).toInt64)) - tk)), .second, .val (.long (q4 + (((tk * ((Int32.ofNat n).toInt64)) - tk) / (2 : Int64)))), .second, .val (.long ((q4 + ((SP0 - tk) / (2 : Int64))) - q4)), .second, .val (.long ((q4 + (SP0 - tk)) - q4)), .second] [(.long ((q4 + ((SP0 - tk) / (2 : Int64))) - q4))])) _
        refine XS.lconst X304.here hx rfl (hb hby at_237) ?_
        show Steps p.tables e below (T304.setTop (mkF m 238 #[.val (.long q1), .second, .val (.int p2), .val (.int p3), .val (.long q4), .second, .val (.long tk), .second, .val (.int (Int32.ofNat n)), .val (.int (2 : Int32)), .val (.ref b172), .val (.ref b176), .val (.ref b182), .val (.ref b182), .val (.ref b281), .val (.long (q4 + ((SP0 - tk) / (2 : Int64)))), .second, .val (.long (q4 + (SP0 - tk))), .second, .val (.long (tk * ((Int32.ofNat n).toInt64))), .second, .val (.long ((tk * ((Int32.ofNat n).toInt64)) - tk)), .second, .val (.long (q4 + (((tk * ((Int32.ofNat n).toInt64)) - tk) / (2 : Int64)))), .second, .val (.long ((q4 + ((SP0 - tk) / (2 : Int64))) - q4)), .second, .val (.long ((q4 + (SP0 - tk)) - q4)), .second] [(.long (0 : Int64)), (.long ((q4 + ((SP0 - tk) / (2 : Int64))) - q4))])) _
        refine XS.lcmp X304.here hx rfl (hb hby at_238) rfl ?_
        exact kq)
      have go311 : Goes p e below s₁ (G_rm0 m q1 p2 p3 q4) T304 (mkF m 251 #[.val (.long q1), .second, .val (.int p2), .val (.int p3), .val (.long q4), .second, .val (.long tk), .second, .val (.int (Int32.ofNat n)), .val (.int (2 : Int32)), .val (.ref b172), .val (.ref b176), .val (.ref b182), .val (.ref b182), .val (.ref b281), .val (.long (q4 + ((SP0 - tk) / (2 : Int64)))), .second, .val (.long (q4 + (SP0 - tk))), .second, .val (.long (tk * ((Int32.ofNat n).toInt64))), .second, .val (.long ((tk * ((Int32.ofNat n).toInt64)) - tk)), .second, .val (.long (q4 + (((tk * ((Int32.ofNat n).toInt64)) - tk) / (2 : Int64)))), .second, .val (.long ((q4 + ((SP0 - tk) / (2 : Int64))) - q4)), .second, .val (.long ((q4 + (SP0 - tk)) - q4)), .second] [(.int (lcmpW ((2 : Int64) * ((q4 + ((SP0 - tk) / (2 : Int64))) - q4)) ((q4 + (SP0 - tk)) - q4)))]) := fun tq kq => go310 tq (by
        show Steps p.tables e below (T304.setTop (mkF m 239 #[.val (.long q1), .second, .val (.int p2), .val (.int p3), .val (.long q4), .second, .val (.long tk), .second, .val (.int (Int32.ofNat n)), .val (.int (2 : Int32)), .val (.ref b172), .val (.ref b176), .val (.ref b182), .val (.ref b182), .val (.ref b281), .val (.long (q4 + ((SP0 - tk) / (2 : Int64)))), .second, .val (.long (q4 + (SP0 - tk))), .second, .val (.long (tk * ((Int32.ofNat n).toInt64))), .second, .val (.long ((tk * ((Int32.ofNat n).toInt64)) - tk)), .second, .val (.long (q4 + (((tk * ((Int32.ofNat n).toInt64)) - tk) / (2 : Int64)))), .second, .val (.long ((q4 + ((SP0 - tk) / (2 : Int64))) - q4)), .second, .val (.long ((q4 + (SP0 - tk)) - q4)), .second] [(.int (lcmpW ((q4 + ((SP0 - tk) / (2 : Int64))) - q4) (0 : Int64)))])) _
        refine XS.ifNo X304.here hx rfl (hb hby at_239) rfl ((if0 _ _).trans (flt (own_lcge (own_m1 q4 hmt))).1) ?_
        show Steps p.tables e below (T304.setTop (mkF m 242 #[.val (.long q1), .second, .val (.int p2), .val (.int p3), .val (.long q4), .second, .val (.long tk), .second, .val (.int (Int32.ofNat n)), .val (.int (2 : Int32)), .val (.ref b172), .val (.ref b176), .val (.ref b182), .val (.ref b182), .val (.ref b281), .val (.long (q4 + ((SP0 - tk) / (2 : Int64)))), .second, .val (.long (q4 + (SP0 - tk))), .second, .val (.long (tk * ((Int32.ofNat n).toInt64))), .second, .val (.long ((tk * ((Int32.ofNat n).toInt64)) - tk)), .second, .val (.long (q4 + (((tk * ((Int32.ofNat n).toInt64)) - tk) / (2 : Int64)))), .second, .val (.long ((q4 + ((SP0 - tk) / (2 : Int64))) - q4)), .second, .val (.long ((q4 + (SP0 - tk)) - q4)), .second] [])) _
        refine X304.ldc2Long hx hown (mvT hZ (tw113 hw)) (g := (mkF m 242 #[.val (.long q1), .second, .val (.int p2), .val (.int p3), .val (.long q4), .second, .val (.long tk), .second, .val (.int (Int32.ofNat n)), .val (.int (2 : Int32)), .val (.ref b172), .val (.ref b176), .val (.ref b182), .val (.ref b182), .val (.ref b281), .val (.long (q4 + ((SP0 - tk) / (2 : Int64)))), .second, .val (.long (q4 + (SP0 - tk))), .second, .val (.long (tk * ((Int32.ofNat n).toInt64))), .second, .val (.long ((tk * ((Int32.ofNat n).toInt64)) - tk)), .second, .val (.long (q4 + (((tk * ((Int32.ofNat n).toInt64)) - tk) / (2 : Int64)))), .second, .val (.long ((q4 + ((SP0 - tk) / (2 : Int64))) - q4)), .second, .val (.long ((q4 + (SP0 - tk)) - q4)), .second] [])) rfl (hb hby at_242) _ ?_
        show Steps p.tables e below (T304.setTop (mkF m 245 #[.val (.long q1), .second, .val (.int p2), .val (.int p3), .val (.long q4), .second, .val (.long tk), .second, .val (.int (Int32.ofNat n)), .val (.int (2 : Int32)), .val (.ref b172), .val (.ref b176), .val (.ref b182), .val (.ref b182), .val (.ref b281), .val (.long (q4 + ((SP0 - tk) / (2 : Int64)))), .second, .val (.long (q4 + (SP0 - tk))), .second, .val (.long (tk * ((Int32.ofNat n).toInt64))), .second, .val (.long ((tk * ((Int32.ofNat n).toInt64)) - tk)), .second, .val (.long (q4 + (((tk * ((Int32.ofNat n).toInt64)) - tk) / (2 : Int64)))), .second, .val (.long ((q4 + ((SP0 - tk) / (2 : Int64))) - q4)), .second, .val (.long ((q4 + (SP0 - tk)) - q4)), .second] [(.long (2 : Int64))])) _
        refine XS.lload X304.here hx rfl (hb hby at_245) rfl ?_
        show Steps p.tables e below (T304.setTop (mkF m 247 #[.val (.long q1), .second, .val (.int p2), .val (.int p3), .val (.long q4), .second, .val (.long tk), .second, .val (.int (Int32.ofNat n)), .val (.int (2 : Int32)), .val (.ref b172), .val (.ref b176), .val (.ref b182), .val (.ref b182), .val (.ref b281), .val (.long (q4 + ((SP0 - tk) / (2 : Int64)))), .second, .val (.long (q4 + (SP0 - tk))), .second, .val (.long (tk * ((Int32.ofNat n).toInt64))), .second, .val (.long ((tk * ((Int32.ofNat n).toInt64)) - tk)), .second, .val (.long (q4 + (((tk * ((Int32.ofNat n).toInt64)) - tk) / (2 : Int64)))), .second, .val (.long ((q4 + ((SP0 - tk) / (2 : Int64))) - q4)), .second, .val (.long ((q4 + (SP0 - tk)) - q4)), .second] [(.long ((q4 + ((SP0 - tk) / (2 : Int64))) - q4)), (.long (2 : Int64))])) _
        refine XS.lmul X304.here hx rfl (hb hby at_247) rfl ?_
        show Steps p.tables e below (T304.setTop (mkF m 248 #[.val (.long q1), .second, .val (.int p2), .val (.int p3), .val (.long q4), .second, .val (.long tk), .second, .val (.int (Int32.ofNat n)), .val (.int (2 : Int32)), .val (.ref b172), .val (.ref b176), .val (.ref b182), .val (.ref b182), .val (.ref b281), .val (.long (q4 + ((SP0 - tk) / (2 : Int64)))), .second, .val (.long (q4 + (SP0 - tk))), .second, .val (.long (tk * ((Int32.ofNat n).toInt64))), .second, .val (.long ((tk * ((Int32.ofNat n).toInt64)) - tk)), .second, .val (.long (q4 + (((tk * ((Int32.ofNat n).toInt64)) - tk) / (2 : Int64)))), .second, .val (.long ((q4 + ((SP0 - tk) / (2 : Int64))) - q4)), .second, .val (.long ((q4 + (SP0 - tk)) - q4)), .second] [(.long ((2 : Int64) * ((q4 + ((SP0 - tk) / (2 : Int64))) - q4)))])) _
        refine XS.lload X304.here hx rfl (hb hby at_248) rfl ?_
        show Steps p.tables e below (T304.setTop (mkF m 250 #[.val (.long q1), .second, .val (.int p2), .val (.int p3), .val (.long q4), .second, .val (.long tk), .second, .val (.int (Int32.ofNat n)), .val (.int (2 : Int32)), .val (.ref b172), .val (.ref b176), .val (.ref b182), .val (.ref b182), .val (.ref b281), .val (.long (q4 + ((SP0 - tk) / (2 : Int64)))), .second, .val (.long (q4 + (SP0 - tk))), .second, .val (.long (tk * ((Int32.ofNat n).toInt64))), .second, .val (.long ((tk * ((Int32.ofNat n).toInt64)) - tk)), .second, .val (.long (q4 + (((tk * ((Int32.ofNat n).toInt64)) - tk) / (2 : Int64)))), .second, .val (.long ((q4 + ((SP0 - tk) / (2 : Int64))) - q4)), .second, .val (.long ((q4 + (SP0 - tk)) - q4)), .second] [(.long ((q4 + (SP0 - tk)) - q4)), (.long ((2 : Int64) * ((q4 + ((SP0 - tk) / (2 : Int64))) - q4)))])) _
        refine XS.lcmp X304.here hx rfl (hb hby at_250) rfl ?_
        exact kq)
      have go312 : Goes p e below s₁ (G_rm0 m q1 p2 p3 q4) T304 (mkF m 265 #[.val (.long q1), .second, .val (.int p2), .val (.int p3), .val (.long q4), .second, .val (.long tk), .second, .val (.int (Int32.ofNat n)), .val (.int (2 : Int32)), .val (.ref b172), .val (.ref b176), .val (.ref b182), .val (.ref b182), .val (.ref b281), .val (.long (q4 + ((SP0 - tk) / (2 : Int64)))), .second, .val (.long (q4 + (SP0 - tk))), .second, .val (.long (tk * ((Int32.ofNat n).toInt64))), .second, .val (.long ((tk * ((Int32.ofNat n).toInt64)) - tk)), .second, .val (.long (q4 + (((tk * ((Int32.ofNat n).toInt64)) - tk) / (2 : Int64)))), .second, .val (.long ((q4 + ((SP0 - tk) / (2 : Int64))) - q4)), .second, .val (.long ((q4 + (SP0 - tk)) - q4)), .second] [(.int (lcmpW (((q4 + (SP0 - tk)) - q4) - ((2 : Int64) * ((q4 + ((SP0 - tk) / (2 : Int64))) - q4))) (1 : Int64)))]) := fun tq kq => go311 tq (by
        show Steps p.tables e below (T304.setTop (mkF m 251 #[.val (.long q1), .second, .val (.int p2), .val (.int p3), .val (.long q4), .second, .val (.long tk), .second, .val (.int (Int32.ofNat n)), .val (.int (2 : Int32)), .val (.ref b172), .val (.ref b176), .val (.ref b182), .val (.ref b182), .val (.ref b281), .val (.long (q4 + ((SP0 - tk) / (2 : Int64)))), .second, .val (.long (q4 + (SP0 - tk))), .second, .val (.long (tk * ((Int32.ofNat n).toInt64))), .second, .val (.long ((tk * ((Int32.ofNat n).toInt64)) - tk)), .second, .val (.long (q4 + (((tk * ((Int32.ofNat n).toInt64)) - tk) / (2 : Int64)))), .second, .val (.long ((q4 + ((SP0 - tk) / (2 : Int64))) - q4)), .second, .val (.long ((q4 + (SP0 - tk)) - q4)), .second] [(.int (lcmpW ((2 : Int64) * ((q4 + ((SP0 - tk) / (2 : Int64))) - q4)) ((q4 + (SP0 - tk)) - q4)))])) _
        refine XS.ifNo X304.here hx rfl (hb hby at_251) rfl ((if0 _ _).trans (flt (own_lcle (own_m2 q4 hmt))).2.2.1) ?_
        show Steps p.tables e below (T304.setTop (mkF m 254 #[.val (.long q1), .second, .val (.int p2), .val (.int p3), .val (.long q4), .second, .val (.long tk), .second, .val (.int (Int32.ofNat n)), .val (.int (2 : Int32)), .val (.ref b172), .val (.ref b176), .val (.ref b182), .val (.ref b182), .val (.ref b281), .val (.long (q4 + ((SP0 - tk) / (2 : Int64)))), .second, .val (.long (q4 + (SP0 - tk))), .second, .val (.long (tk * ((Int32.ofNat n).toInt64))), .second, .val (.long ((tk * ((Int32.ofNat n).toInt64)) - tk)), .second, .val (.long (q4 + (((tk * ((Int32.ofNat n).toInt64)) - tk) / (2 : Int64)))), .second, .val (.long ((q4 + ((SP0 - tk) / (2 : Int64))) - q4)), .second, .val (.long ((q4 + (SP0 - tk)) - q4)), .second] [])) _
        refine XS.lload X304.here hx rfl (hb hby at_254) rfl ?_
        show Steps p.tables e below (T304.setTop (mkF m 256 #[.val (.long q1), .second, .val (.int p2), .val (.int p3), .val (.long q4), .second, .val (.long tk), .second, .val (.int (Int32.ofNat n)), .val (.int (2 : Int32)), .val (.ref b172), .val (.ref b176), .val (.ref b182), .val (.ref b182), .val (.ref b281), .val (.long (q4 + ((SP0 - tk) / (2 : Int64)))), .second, .val (.long (q4 + (SP0 - tk))), .second, .val (.long (tk * ((Int32.ofNat n).toInt64))), .second, .val (.long ((tk * ((Int32.ofNat n).toInt64)) - tk)), .second, .val (.long (q4 + (((tk * ((Int32.ofNat n).toInt64)) - tk) / (2 : Int64)))), .second, .val (.long ((q4 + ((SP0 - tk) / (2 : Int64))) - q4)), .second, .val (.long ((q4 + (SP0 - tk)) - q4)), .second] [(.long ((q4 + (SP0 - tk)) - q4))])) _
        refine X304.ldc2Long hx hown (mvT hZ (tw113 hw)) (g := (mkF m 256 #[.val (.long q1), .second, .val (.int p2), .val (.int p3), .val (.long q4), .second, .val (.long tk), .second, .val (.int (Int32.ofNat n)), .val (.int (2 : Int32)), .val (.ref b172), .val (.ref b176), .val (.ref b182), .val (.ref b182), .val (.ref b281), .val (.long (q4 + ((SP0 - tk) / (2 : Int64)))), .second, .val (.long (q4 + (SP0 - tk))), .second, .val (.long (tk * ((Int32.ofNat n).toInt64))), .second, .val (.long ((tk * ((Int32.ofNat n).toInt64)) - tk)), .second, .val (.long (q4 + (((tk * ((Int32.ofNat n).toInt64)) - tk) / (2 : Int64)))), .second, .val (.long ((q4 + ((SP0 - tk) / (2 : Int64))) - q4)), .second, .val (.long ((q4 + (SP0 - tk)) - q4)), .second] [(.long ((q4 + (SP0 - tk)) - q4))])) rfl (hb hby at_256) _ ?_
        show Steps p.tables e below (T304.setTop (mkF m 259 #[.val (.long q1), .second, .val (.int p2), .val (.int p3), .val (.long q4), .second, .val (.long tk), .second, .val (.int (Int32.ofNat n)), .val (.int (2 : Int32)), .val (.ref b172), .val (.ref b176), .val (.ref b182), .val (.ref b182), .val (.ref b281), .val (.long (q4 + ((SP0 - tk) / (2 : Int64)))), .second, .val (.long (q4 + (SP0 - tk))), .second, .val (.long (tk * ((Int32.ofNat n).toInt64))), .second, .val (.long ((tk * ((Int32.ofNat n).toInt64)) - tk)), .second, .val (.long (q4 + (((tk * ((Int32.ofNat n).toInt64)) - tk) / (2 : Int64)))), .second, .val (.long ((q4 + ((SP0 - tk) / (2 : Int64))) - q4)), .second, .val (.long ((q4 + (SP0 - tk)) - q4)), .second] [(.long (2 : Int64)), (.long ((q4 + (SP0 - tk)) - q4))])) _
        refine XS.lload X304.here hx rfl (hb hby at_259) rfl ?_
        show Steps p.tables e below (T304.setTop (mkF m 261 #[.val (.long q1), .second, .val (.int p2), .val (.int p3), .val (.long q4), .second, .val (.long tk), .second, .val (.int (Int32.ofNat n)), .val (.int (2 : Int32)), .val (.ref b172), .val (.ref b176), .val (.ref b182), .val (.ref b182), .val (.ref b281), .val (.long (q4 + ((SP0 - tk) / (2 : Int64)))), .second, .val (.long (q4 + (SP0 - tk))), .second, .val (.long (tk * ((Int32.ofNat n).toInt64))), .second, .val (.long ((tk * ((Int32.ofNat n).toInt64)) - tk)), .second, .val (.long (q4 + (((tk * ((Int32.ofNat n).toInt64)) - tk) / (2 : Int64)))), .second, .val (.long ((q4 + ((SP0 - tk) / (2 : Int64))) - q4)), .second, .val (.long ((q4 + (SP0 - tk)) - q4)), .second] [(.long ((q4 + ((SP0 - tk) / (2 : Int64))) - q4)), (.long (2 : Int64)), (.long ((q4 + (SP0 - tk)) - q4))])) _
        refine XS.lmul X304.here hx rfl (hb hby at_261) rfl ?_
        show Steps p.tables e below (T304.setTop (mkF m 262 #[.val (.long q1), .second, .val (.int p2), .val (.int p3), .val (.long q4), .second, .val (.long tk), .second, .val (.int (Int32.ofNat n)), .val (.int (2 : Int32)), .val (.ref b172), .val (.ref b176), .val (.ref b182), .val (.ref b182), .val (.ref b281), .val (.long (q4 + ((SP0 - tk) / (2 : Int64)))), .second, .val (.long (q4 + (SP0 - tk))), .second, .val (.long (tk * ((Int32.ofNat n).toInt64))), .second, .val (.long ((tk * ((Int32.ofNat n).toInt64)) - tk)), .second, .val (.long (q4 + (((tk * ((Int32.ofNat n).toInt64)) - tk) / (2 : Int64)))), .second, .val (.long ((q4 + ((SP0 - tk) / (2 : Int64))) - q4)), .second, .val (.long ((q4 + (SP0 - tk)) - q4)), .second] [(.long ((2 : Int64) * ((q4 + ((SP0 - tk) / (2 : Int64))) - q4))), (.long ((q4 + (SP0 - tk)) - q4))])) _
        refine XS.lsub X304.here hx rfl (hb hby at_262) rfl ?_
        show Steps p.tables e below (T304.setTop (mkF m 263 #[.val (.long q1), .second, .val (.int p2), .val (.int p3), .val (.long q4), .second, .val (.long tk), .second, .val (.int (Int32.ofNat n)), .val (.int (2 : Int32)), .val (.ref b172), .val (.ref b176), .val (.ref b182), .val (.ref b182), .val (.ref b281), .val (.long (q4 + ((SP0 - tk) / (2 : Int64)))), .second, .val (.long (q4 + (SP0 - tk))), .second, .val (.long (tk * ((Int32.ofNat n).toInt64))), .second, .val (.long ((tk * ((Int32.ofNat n).toInt64)) - tk)), .second, .val (.long (q4 + (((tk * ((Int32.ofNat n).toInt64)) - tk) / (2 : Int64)))), .second, .val (.long ((q4 + ((SP0 - tk) / (2 : Int64))) - q4)), .second, .val (.long ((q4 + (SP0 - tk)) - q4)), .second] [(.long (((q4 + (SP0 - tk)) - q4) - ((2 : Int64) * ((q4 + ((SP0 - tk) / (2 : Int64))) - q4))))])) _
        refine XS.lconst X304.here hx rfl (hb hby at_263) ?_
        show Steps p.tables e below (T304.setTop (mkF m 264 #[.val (.long q1), .second, .val (.int p2), .val (.int p3), .val (.long q4), .second, .val (.long tk), .second, .val (.int (Int32.ofNat n)), .val (.int (2 : Int32)), .val (.ref b172), .val (.ref b176), .val (.ref b182), .val (.ref b182), .val (.ref b281), .val (.long (q4 + ((SP0 - tk) / (2 : Int64)))), .second, .val (.long (q4 + (SP0 - tk))), .second, .val (.long (tk * ((Int32.ofNat n).toInt64))), .second, .val (.long ((tk * ((Int32.ofNat n).toInt64)) - tk)), .second, .val (.long (q4 + (((tk * ((Int32.ofNat n).toInt64)) - tk) / (2 : Int64)))), .second, .val (.long ((q4 + ((SP0 - tk) / (2 : Int64))) - q4)), .second, .val (.long ((q4 + (SP0 - tk)) - q4)), .second] [(.long (1 : Int64)), (.long (((q4 + (SP0 - tk)) - q4) - ((2 : Int64) * ((q4 + ((SP0 - tk) / (2 : Int64))) - q4))))])) _
        refine XS.lcmp X304.here hx rfl (hb hby at_264) rfl ?_
        exact kq)
      have go313 : Goes p e below s₁ (G_rm0 m q1 p2 p3 q4) T304 (mkF m 273 #[.val (.long q1), .second, .val (.int p2), .val (.int p3), .val (.long q4), .second, .val (.long tk), .second, .val (.int (Int32.ofNat n)), .val (.int (2 : Int32)), .val (.ref b172), .val (.ref b176), .val (.ref b182), .val (.ref b182), .val (.ref b281), .val (.long (q4 + ((SP0 - tk) / (2 : Int64)))), .second, .val (.long (q4 + (SP0 - tk))), .second, .val (.long (tk * ((Int32.ofNat n).toInt64))), .second, .val (.long ((tk * ((Int32.ofNat n).toInt64)) - tk)), .second, .val (.long (q4 + (((tk * ((Int32.ofNat n).toInt64)) - tk) / (2 : Int64)))), .second, .val (.long ((q4 + ((SP0 - tk) / (2 : Int64))) - q4)), .second, .val (.long ((q4 + (SP0 - tk)) - q4)), .second] [(.int (1 : Int32))]) := fun tq kq => go312 tq (by
        show Steps p.tables e below (T304.setTop (mkF m 265 #[.val (.long q1), .second, .val (.int p2), .val (.int p3), .val (.long q4), .second, .val (.long tk), .second, .val (.int (Int32.ofNat n)), .val (.int (2 : Int32)), .val (.ref b172), .val (.ref b176), .val (.ref b182), .val (.ref b182), .val (.ref b281), .val (.long (q4 + ((SP0 - tk) / (2 : Int64)))), .second, .val (.long (q4 + (SP0 - tk))), .second, .val (.long (tk * ((Int32.ofNat n).toInt64))), .second, .val (.long ((tk * ((Int32.ofNat n).toInt64)) - tk)), .second, .val (.long (q4 + (((tk * ((Int32.ofNat n).toInt64)) - tk) / (2 : Int64)))), .second, .val (.long ((q4 + ((SP0 - tk) / (2 : Int64))) - q4)), .second, .val (.long ((q4 + (SP0 - tk)) - q4)), .second] [(.int (lcmpW (((q4 + (SP0 - tk)) - q4) - ((2 : Int64) * ((q4 + ((SP0 - tk) / (2 : Int64))) - q4))) (1 : Int64)))])) _
        refine XS.ifNo X304.here hx rfl (hb hby at_265) rfl ((if0 _ _).trans (flt (own_lcle (own_m3 q4 hmt))).2.2.1) ?_
        show Steps p.tables e below (T304.setTop (mkF m 268 #[.val (.long q1), .second, .val (.int p2), .val (.int p3), .val (.long q4), .second, .val (.long tk), .second, .val (.int (Int32.ofNat n)), .val (.int (2 : Int32)), .val (.ref b172), .val (.ref b176), .val (.ref b182), .val (.ref b182), .val (.ref b281), .val (.long (q4 + ((SP0 - tk) / (2 : Int64)))), .second, .val (.long (q4 + (SP0 - tk))), .second, .val (.long (tk * ((Int32.ofNat n).toInt64))), .second, .val (.long ((tk * ((Int32.ofNat n).toInt64)) - tk)), .second, .val (.long (q4 + (((tk * ((Int32.ofNat n).toInt64)) - tk) / (2 : Int64)))), .second, .val (.long ((q4 + ((SP0 - tk) / (2 : Int64))) - q4)), .second, .val (.long ((q4 + (SP0 - tk)) - q4)), .second] [])) _
        refine XS.iconst X304.here hx rfl (hb hby at_268) ?_
        show Steps p.tables e below (T304.setTop (mkF m 269 #[.val (.long q1), .second, .val (.int p2), .val (.int p3), .val (.long q4), .second, .val (.long tk), .second, .val (.int (Int32.ofNat n)), .val (.int (2 : Int32)), .val (.ref b172), .val (.ref b176), .val (.ref b182), .val (.ref b182), .val (.ref b281), .val (.long (q4 + ((SP0 - tk) / (2 : Int64)))), .second, .val (.long (q4 + (SP0 - tk))), .second, .val (.long (tk * ((Int32.ofNat n).toInt64))), .second, .val (.long ((tk * ((Int32.ofNat n).toInt64)) - tk)), .second, .val (.long (q4 + (((tk * ((Int32.ofNat n).toInt64)) - tk) / (2 : Int64)))), .second, .val (.long ((q4 + ((SP0 - tk) / (2 : Int64))) - q4)), .second, .val (.long ((q4 + (SP0 - tk)) - q4)), .second] [(.int (1 : Int32))])) _
        refine XS.goto X304.here hx rfl (pc0 := 269) (pc' := 273) rfl (hb hby at_269) (by decide) (by decide) ?_
        exact kq)
      obtain ⟨fs, hr, hrun, hended, hW, hsame⟩ := X304.leave (v := some (.int (1 : Int32))) (fun h => by rw [Bd.returns] at h; cases h)
      refine ⟨_, _, go313 _ ?_, hrun, hended, _, _, rfl, ?_, ReturnedEndW.of_narrow ⟨_, rfl⟩ hW (hsame.mono (by decide) (by decide))⟩
      · exact retN X304 hx (t := .boolean) Bd.returns (by simp) (hb hby at_273) hr
      · show Q_rm0 Z q1 p2 p3 q4 h0 n0 _ T304.heap _
        rw [eq304]
        exact ⟨rfl, N304⟩
set_option maxRecDepth 65536 in
set_option maxHeartbeats 40000000 in
theorem comes_1 {Post : Tables → Env → Array Value → State → Outcome → State → Prop} (hpost : ∀ tb e args s v u, (limb_1_1.after args s (.returned v) u = true ∧ limb_1_2.after args s (.returned v) u = true ∧ True) → ReturnedEndW s (.returned v) u (Jvm.fieldLocs frame_1_writes args s ++ Jvm.arrayLocs frame_1_arrays args s ++ Jvm.staticLocs frame_1_statics s) 128 832 → Post tb e args s (.returned v) u) :
    ArmFor flags0 classFile x code maxLocals ret World_1 tables_1 room_1 Calls_1 rest_1 Pre_1 Post := by
  intro l hfl _ _ p e ha hc hk s m args below hf hA hF happ hP
  obtain ⟨hcalls, hrest, hpre⟩ := hP
  obtain ⟨-, -, -, hnamed, -, -, -, hat⟩ := (Spec.applies_iff hf).mp happ
  obtain ⟨hg, hn⟩ := and_e (Cond.before_iff.mp (show (Jvm.Cond.and given_1 narrow_1).before args s = true from hpre))
  obtain ⟨g0, hg0⟩ := and_e hg
  obtain ⟨g1, hg1⟩ := and_e hg0
  obtain ⟨g2, hg2⟩ := and_e hg1
  obtain ⟨g3, hg3⟩ := and_e hg2
  obtain ⟨w0, w1, w2, w3, rfl⟩ : ∃ w0 w1 w2 w3 : Value, args = #[w0, w1, w2, w3] := by
    have hs : args.size = 4 := by simpa [Cond.value, given_1] using g0
    obtain ⟨L⟩ := args
    match L, hs with
    | [w0, w1, w2, w3], _ => exact ⟨w0, w1, w2, w3, rfl⟩
  have hw := fun d (hd : d ∈ tables_1) => atoms_spec (ws := Jvm.Cond.code x code maxLocals ret :: tables_1) hat d (List.mem_cons_of_mem _ hd)
  have hfit : Fit s := fun {y c} hc i hi => by
    obtain ⟨ha, rfl⟩ := Array.getElem?_eq_some_iff.mp hc
    have q := List.all_eq_true.mp ((Array.all_eq_true_iff_forall_mem.mp hF) _ (Array.getElem_mem ha)) i (List.mem_range.mpr hi)
    simpa [Array.getElem?_eq_getElem hi] using q
  obtain ⟨i0, ei0⟩ := isL_v g1
  obtain rfl : w0 = (.long i0) := Option.some.inj ei0
  obtain ⟨i1, ei1⟩ := is_v g2
  obtain rfl : w1 = (.int i1) := Option.some.inj ei1
  obtain ⟨i2, ei2⟩ := is_v g3
  obtain rfl : w2 = (.int i2) := Option.some.inj ei2
  obtain ⟨i3, ei3⟩ := isL_v hg3
  obtain rfl : w3 = (.long i3) := Option.some.inj ei3
  obtain ⟨n, o, h1, h2, h3, _, L, rfl, ⟨rfl, N⟩, hq⟩ := rm0 l s _ hw tables_1 i0 i1 i2 i3  s.heap s.heap.size (Nat.le_refl _)  p e ha hc hk s m _ below hf ((Spec.applies_iff_loose hf).mp happ).1 ⟨rfl, State.WarmedH.refl s, rfl⟩ trivial
  refine ⟨n, _, h1, h2, h3, hpost _ _ _ _ _ _ ⟨Cond.after_iff.mpr rfl, Cond.after_iff.mpr (eq_i res_at (Term.int_eval (1)) rfl), trivial⟩ ⟨hq.1, hq.2.1, hq.2.2.1, (hq.2.2.2.sift fun y hy => Or.inr (N y hy)).mono (by decide) (by decide)⟩⟩
theorem main_1_1 : Claimed_1_1 := comes_1 fun _ _ _ _ _ _ h hF => ⟨h.1, hF⟩
theorem main_1_2 : Claimed_1_2 := comes_1 fun _ _ _ _ _ _ h hF => ⟨h.2.1, hF⟩
end Jvm.Pilot.@@N@@
namespace Jvm.Pilot.@@N@@
open Jvm Jvm.ClassFile Sem Op Lib Jvm.Free Jvm.Stand Jvm.Pilot.@@N@@.Jvm.D
/-! MADE BY PROGRAM (witnessworld.py) out of the Statement's table words and the real class files: 17 classes; the members and pool entries that the words name. The judged class is class 1, her method 1. -/
namespace start1
open Jvm.ClassFile
def u (s : String) : CpInfo := .utf8 (stringToUtf16 s)
/-- a pool by its gaps: so many unusable entries, then the entry; so many at the end -/
def gap : Nat → List CpInfo → List CpInfo
  | 0, r => r
  | n + 1, r => .unusable :: gap n r
def poolList (es : List (Nat × CpInfo)) (last : Nat) : List CpInfo := es.foldr (fun e r => gap e.1 (e.2 :: r)) (gap last [])
def pool (es : List (Nat × CpInfo)) (last : Nat) : Array CpInfo := ⟨poolList es last⟩
def fileOf (pool : Array CpInfo) (this : Nat) (attrs : Array Attribute := #[]) (ms : Array MethodInfo := #[]) (fl : Nat := 33) (sup : Nat := 0) (ifs : Array Nat := #[]) (fds : Array FieldInfo := #[]) : ClassFile where
  minorVersion := 0
  majorVersion := 65
  constantPool := pool
  accessFlags := fl
  thisClass := this
  superClass := sup
  interfaces := ifs
  fields := fds
  methods := ms
  attributes := attrs
def plain (name : String) (sup : Option ClassId) : Class where
  name := name
  kind := .ordinary
  loader := none
  accessFlags := 33
  super := sup
  interfaces := #[]
  cf := none
  fields := #[]
  methods := #[]
  instanceTypes := #[]
  staticTypes := #[]
  resolved := #[]
  callSites := []
  init := .initialized
  statics := none
  mirror := none

def pool0 : Array CpInfo := pool [(5, u "<init>"), (0, u "()V"), (1, .class_ 10), (1, u "java/lang/Object")] 113

def k0c0 : Code := { maxStack := 0, maxLocals := 1, code := object_method_1_code, exceptionTable := #[], attributes := #[] }
def k0m0 : Method := { name := "<init>", desc := "()V", sig := { parameters := [], returnType := none }, accessFlags := 1, code := some k0c0 }
/-- java/lang/Object -/
def k0 : Class := { plain "java/lang/Object" none with
  accessFlags := 33
  interfaces := #[]
  cf := some (fileOf pool0 8 #[] #[{ accessFlags := 1, nameIndex := 5, descriptorIndex := 6, attributes := #[] }] 33 0 #[] #[])
  fields := #[]
  methods := #[k0m0]
  instanceTypes := #[]
  staticTypes := #[]
  resolved := Array.replicate 124 none
  statics := none }

def pool1 : Array CpInfo := pool [(2, .class_ 4), (1, u "java/lang/Object"), (0, u "<init>"), (0, u "()V"), (2, .long 9223372036854775807), (1, .methodref 12 13), (0, .class_ 14), (0, .nameAndType 15 16), (0, u "java/lang/Math"), (0, u "max"), (0, u "(JJ)J"), (0, .integer 2147483647), (0, .class_ 19), (0, u "com/example/cicada/cicada/Level"), (0, .methodref 18 21), (0, .nameAndType 5 22), (0, u "(JI)V"), (0, .methodref 18 24), (0, .nameAndType 5 25), (0, u "(Lcom/example/cicada/cicada/Level;I)V"), (0, .class_ 27), (0, u "com/example/cicada/cicada/Bucket"), (0, .methodref 26 29), (0, .nameAndType 5 30), (0, u "(Lcom/example/cicada/cicada/Level;)V"), (0, .fieldref 26 32), (0, .nameAndType 33 34), (0, u "opensAt"), (0, u "J"), (0, .methodref 18 36), (0, .nameAndType 37 38), (0, u "open"), (0, u "(Lcom/example/cicada/cicada/Bucket;)V"), (0, .methodref 18 40), (0, .nameAndType 41 42), (0, u "moving"), (0, u "()Lcom/example/cicada/cicada/Bucket;"), (0, .methodref 18 44), (0, .nameAndType 45 46), (0, u "moveMiddle"), (0, u "()J"), (0, .methodref 18 48), (0, .nameAndType 49 46), (0, u "moveDeadline"), (0, .long 2), (1, .class_ 53), (0, u "com/example/cicada/cicada/LevelMoveMiddlePinLaw"), (2, u "law"), (0, u "(JIIJ)Z")] 3

def k1m0 : Method := { name := "<init>", desc := "()V", sig := { parameters := [], returnType := none }, accessFlags := 1, code := none }
def k1c1 : Code := { maxStack := 6, maxLocals := 29, code := code, exceptionTable := #[], attributes := #[] }
def k1m1 : Method := { name := "law", desc := "(JIIJ)Z", sig := { parameters := [.long, .int, .int, .long], returnType := some .boolean }, accessFlags := 9, code := some k1c1 }
/-- com/example/cicada/cicada/LevelMoveMiddlePinLaw -/
def k1 : Class := { plain "com/example/cicada/cicada/LevelMoveMiddlePinLaw" (some 0) with
  accessFlags := 49
  interfaces := #[]
  cf := some (fileOf pool1 52 #[] #[{ accessFlags := 1, nameIndex := 5, descriptorIndex := 6, attributes := #[] }, { accessFlags := 9, nameIndex := 56, descriptorIndex := 57, attributes := #[] }] 49 2 #[] #[])
  fields := #[]
  methods := #[k1m0, k1m1]
  instanceTypes := #[]
  staticTypes := #[]
  resolved := Array.replicate 61 none
  statics := none }

def pool2 : Array CpInfo := pool [(1, .class_ 2), (0, u "java/lang/Math"), (1, .class_ 6), (1, u "java/lang/Object"), (0, u "<init>"), (0, u "()V"), (89, .class_ 100), (1, u "java/lang/Math$RandomNumberGeneratorHolder"), (20, u "(JJ)J"), (23, u "floorDiv"), (0, .methodref 1 147), (0, .nameAndType 148 121), (0, u "floorMod"), (23, u "negativeZeroFloatBits"), (0, u "J"), (2, u "negativeZeroDoubleBits"), (21, u "max"), (46, u "$assertionsDisabled"), (0, u "Z"), (91, u "twoToTheDoubleScaleDown"), (0, u "D"), (4, u "twoToTheDoubleScaleUp"), (9, u "E"), (3, u "PI"), (2, u "TAU"), (2, u "DEGREES_TO_RADIANS"), (0, u "RADIANS_TO_DEGREES"), (54, u "(JI)I")] 39

def k2m0 : Method := { name := "<init>", desc := "()V", sig := { parameters := [], returnType := none }, accessFlags := 2, code := none }
def k2c1 : Code := { maxStack := 4, maxLocals := 6, code := jdk_29_method_49_code, exceptionTable := #[], attributes := #[] }
def k2m1 : Method := { name := "floorDiv", desc := "(JJ)J", sig := { parameters := [.long, .long], returnType := some .long }, accessFlags := 9, code := some k2c1 }
def k2c2 : Code := { maxStack := 4, maxLocals := 3, code := jdk_29_method_51_code, exceptionTable := #[], attributes := #[] }
def k2m2 : Method := { name := "floorMod", desc := "(JI)I", sig := { parameters := [.long, .int], returnType := some .int }, accessFlags := 9, code := some k2c2 }
def k2c3 : Code := { maxStack := 4, maxLocals := 6, code := jdk_29_method_52_code, exceptionTable := #[], attributes := #[] }
def k2m3 : Method := { name := "floorMod", desc := "(JJ)J", sig := { parameters := [.long, .long], returnType := some .long }, accessFlags := 9, code := some k2c3 }
def k2c4 : Code := { maxStack := 4, maxLocals := 4, code := jdk_29_method_66_code, exceptionTable := #[], attributes := #[] }
def k2m4 : Method := { name := "max", desc := "(JJ)J", sig := { parameters := [.long, .long], returnType := some .long }, accessFlags := 9, code := some k2c4 }
/-- java/lang/Math -/
def k2 : Class := { plain "java/lang/Math" (some 0) with
  accessFlags := 49
  interfaces := #[]
  cf := some (fileOf pool2 1 #[.nestMembers #[98]] #[{ accessFlags := 2, nameIndex := 7, descriptorIndex := 8, attributes := #[] }, { accessFlags := 9, nameIndex := 145, descriptorIndex := 121, attributes := #[] }, { accessFlags := 9, nameIndex := 148, descriptorIndex := 420, attributes := #[] }, { accessFlags := 9, nameIndex := 148, descriptorIndex := 121, attributes := #[] }, { accessFlags := 9, nameIndex := 198, descriptorIndex := 121, attributes := #[] }] 49 4 #[] #[{ accessFlags := 25, nameIndex := 354, descriptorIndex := 339, attributes := #[] }, { accessFlags := 25, nameIndex := 358, descriptorIndex := 339, attributes := #[] }, { accessFlags := 25, nameIndex := 361, descriptorIndex := 339, attributes := #[] }, { accessFlags := 26, nameIndex := 364, descriptorIndex := 339, attributes := #[] }, { accessFlags := 26, nameIndex := 365, descriptorIndex := 339, attributes := #[] }, { accessFlags := 26, nameIndex := 172, descriptorIndex := 173, attributes := #[] }, { accessFlags := 26, nameIndex := 176, descriptorIndex := 173, attributes := #[] }, { accessFlags := 8, nameIndex := 344, descriptorIndex := 339, attributes := #[] }, { accessFlags := 8, nameIndex := 338, descriptorIndex := 339, attributes := #[] }, { accessFlags := 4120, nameIndex := 245, descriptorIndex := 246, attributes := #[] }])
  fields := #[{ name := "E", type := .double, accessFlags := 25, slot := 0, constantValue := 0 }, { name := "PI", type := .double, accessFlags := 25, slot := 1, constantValue := 0 }, { name := "TAU", type := .double, accessFlags := 25, slot := 2, constantValue := 0 }, { name := "DEGREES_TO_RADIANS", type := .double, accessFlags := 26, slot := 3, constantValue := 0 }, { name := "RADIANS_TO_DEGREES", type := .double, accessFlags := 26, slot := 4, constantValue := 0 }, { name := "negativeZeroFloatBits", type := .long, accessFlags := 26, slot := 5, constantValue := 0 }, { name := "negativeZeroDoubleBits", type := .long, accessFlags := 26, slot := 6, constantValue := 0 }, { name := "twoToTheDoubleScaleUp", type := .double, accessFlags := 8, slot := 7, constantValue := 0 }, { name := "twoToTheDoubleScaleDown", type := .double, accessFlags := 8, slot := 8, constantValue := 0 }, { name := "$assertionsDisabled", type := .boolean, accessFlags := 4120, slot := 9, constantValue := 0 }]
  methods := #[k2m0, k2m1, k2m2, k2m3, k2m4]
  instanceTypes := #[]
  staticTypes := #[.double, .double, .double, .double, .double, .long, .long, .double, .double, .boolean]
  resolved := Array.replicate 460 none
  statics := none }

def pool3 : Array CpInfo := pool [(1, .methodref 2 3), (0, .class_ 4), (0, .nameAndType 5 6), (0, u "com/example/cicada/cicada/Level"), (0, u "<init>"), (0, u "(JJJJI)V"), (0, .fieldref 2 8), (0, .nameAndType 9 10), (0, u "span"), (0, u "J"), (0, .fieldref 2 12), (0, .nameAndType 13 10), (0, u "firstLead"), (0, .fieldref 2 15), (0, .nameAndType 16 10), (0, u "tick"), (0, .fieldref 2 18), (0, .nameAndType 19 10), (0, u "lead"), (0, .methodref 21 22), (0, .class_ 23), (0, .nameAndType 5 24), (0, u "java/lang/Object"), (0, u "()V"), (0, .long 18446744073709551615), (1, .fieldref 2 28), (0, .nameAndType 29 10), (0, u "seenFrom"), (0, .fieldref 2 31), (0, .nameAndType 32 10), (0, u "moveTime"), (0, .methodref 34 35), (0, .class_ 36), (0, .nameAndType 9 37), (0, u "com/example/cicada/cicada/Expiry"), (0, u "(JI)J"), (0, .class_ 39), (0, u "com/example/cicada/cicada/Bucket"), (0, .fieldref 2 41), (0, .nameAndType 42 43), (0, u "buckets"), (0, u "[Lcom/example/cicada/cicada/Bucket;"), (0, .invokeDynamic 0 45), (0, .nameAndType 46 47), (0, u "apply"), (0, u "(Lcom/example/cicada/cicada/Level;)Ljava/util/function/IntFunction;"), (0, .methodref 49 50), (0, .class_ 51), (0, .nameAndType 52 53), (0, u "java/util/Arrays"), (0, u "setAll"), (0, u "([Ljava/lang/Object;Ljava/util/function/IntFunction;)V"), (6, u "windowStart"), (2, u "windowEnd"), (5, u "(JJ)J"), (3, .methodref 2 74), (0, .nameAndType 75 76), (0, u "slot"), (0, u "(J)I"), (0, .fieldref 38 78), (0, .nameAndType 79 10), (0, u "opensAt"), (0, .fieldref 2 81), (0, .nameAndType 82 83), (0, u "spare"), (0, u "Lcom/example/cicada/cicada/Bucket;"), (0, .methodref 38 85), (0, .nameAndType 5 86), (0, u "(Lcom/example/cicada/cicada/Level;)V"), (0, .fieldref 2 88), (0, .nameAndType 89 83), (0, u "moving"), (0, .long 2), (1, .methodref 93 94), (0, .class_ 95), (0, .nameAndType 96 69), (0, u "java/lang/Math"), (0, u "floorDiv"), (0, .methodref 93 98), (0, .nameAndType 99 100), (0, u "floorMod"), (0, u "(JI)I"), (0, u "(JI)V"), (2, u "(Lcom/example/cicada/cicada/Level;I)V"), (6, u "open"), (0, u "(Lcom/example/cicada/cicada/Bucket;)V"), (1, u "()Lcom/example/cicada/cicada/Bucket;"), (0, u "moveDeadline"), (0, u "()J"), (0, u "moveMiddle"), (1, u "lambda$new$0"), (0, u "(I)Lcom/example/cicada/cicada/Bucket;"), (3, .methodType 125), (0, u "(I)Ljava/lang/Object;"), (0, .methodHandle 5 127), (0, .methodref 2 128), (0, .nameAndType 119 120), (0, .methodType 120), (0, .methodHandle 6 131), (0, .methodref 132 133), (0, .class_ 134), (0, .nameAndType 135 136), (0, u "java/lang/invoke/LambdaMetafactory"), (0, u "metafactory"), (0, u "(Ljava/lang/invoke/MethodHandles$Lookup;Ljava/lang/String;Ljava/lang/invoke/MethodType;Ljava/lang/invoke/MethodType;Ljava/lang/invoke/MethodHandle;Ljava/lang/invoke/MethodType;)Ljava/lang/invoke/CallSite;")] 6

def k3c0 : Code := { maxStack := 10, maxLocals := 4, code := prog_5_method_1_code, exceptionTable := #[], attributes := #[] }
def k3m0 : Method := { name := "<init>", desc := "(JI)V", sig := { parameters := [.long, .int], returnType := none }, accessFlags := 0, code := some k3c0 }
def k3c1 : Code := { maxStack := 10, maxLocals := 3, code := prog_5_method_2_code, exceptionTable := #[], attributes := #[] }
def k3m1 : Method := { name := "<init>", desc := "(Lcom/example/cicada/cicada/Level;I)V", sig := { parameters := [(.object "com/example/cicada/cicada/Level"), .int], returnType := none }, accessFlags := 0, code := some k3c1 }
def k3c2 : Code := { maxStack := 4, maxLocals := 10, code := prog_5_method_3_code, exceptionTable := #[], attributes := #[] }
def k3m2 : Method := { name := "<init>", desc := "(JJJJI)V", sig := { parameters := [.long, .long, .long, .long, .int], returnType := none }, accessFlags := 2, code := some k3c2 }
def k3c3 : Code := { maxStack := 6, maxLocals := 2, code := prog_5_method_9_code, exceptionTable := #[], attributes := #[] }
def k3m3 : Method := { name := "open", desc := "(Lcom/example/cicada/cicada/Bucket;)V", sig := { parameters := [(.object "com/example/cicada/cicada/Bucket")], returnType := none }, accessFlags := 0, code := some k3c3 }
def k3c4 : Code := { maxStack := 1, maxLocals := 1, code := prog_5_method_10_code, exceptionTable := #[], attributes := #[] }
def k3m4 : Method := { name := "moving", desc := "()Lcom/example/cicada/cicada/Bucket;", sig := { parameters := [], returnType := some (.object "com/example/cicada/cicada/Bucket") }, accessFlags := 0, code := some k3c4 }
def k3c5 : Code := { maxStack := 4, maxLocals := 1, code := prog_5_method_11_code, exceptionTable := #[], attributes := #[] }
def k3m5 : Method := { name := "moveDeadline", desc := "()J", sig := { parameters := [], returnType := some .long }, accessFlags := 0, code := some k3c5 }
def k3c6 : Code := { maxStack := 6, maxLocals := 1, code := prog_5_method_12_code, exceptionTable := #[], attributes := #[] }
def k3m6 : Method := { name := "moveMiddle", desc := "()J", sig := { parameters := [], returnType := some .long }, accessFlags := 0, code := some k3c6 }
def k3c7 : Code := { maxStack := 4, maxLocals := 3, code := prog_5_method_14_code, exceptionTable := #[], attributes := #[] }
def k3m7 : Method := { name := "slot", desc := "(J)I", sig := { parameters := [.long], returnType := some .int }, accessFlags := 2, code := some k3c7 }
def k3c8 : Code := { maxStack := 3, maxLocals := 2, code := prog_5_method_15_code, exceptionTable := #[], attributes := #[] }
def k3m8 : Method := { name := "lambda$new$0", desc := "(I)Lcom/example/cicada/cicada/Bucket;", sig := { parameters := [.int], returnType := some (.object "com/example/cicada/cicada/Bucket") }, accessFlags := 4098, code := some k3c8 }
/-- com/example/cicada/cicada/Level -/
def k3 : Class := { plain "com/example/cicada/cicada/Level" (some 0) with
  accessFlags := 48
  interfaces := #[]
  cf := some (fileOf pool3 2 #[.bootstrapMethods #[⟨130, #[124, 126, 129]⟩]] #[{ accessFlags := 0, nameIndex := 5, descriptorIndex := 101, attributes := #[] }, { accessFlags := 0, nameIndex := 5, descriptorIndex := 104, attributes := #[] }, { accessFlags := 2, nameIndex := 5, descriptorIndex := 6, attributes := #[] }, { accessFlags := 0, nameIndex := 111, descriptorIndex := 112, attributes := #[] }, { accessFlags := 0, nameIndex := 89, descriptorIndex := 114, attributes := #[] }, { accessFlags := 0, nameIndex := 115, descriptorIndex := 116, attributes := #[] }, { accessFlags := 0, nameIndex := 117, descriptorIndex := 116, attributes := #[] }, { accessFlags := 2, nameIndex := 75, descriptorIndex := 76, attributes := #[] }, { accessFlags := 4098, nameIndex := 119, descriptorIndex := 120, attributes := #[] }] 48 21 #[] #[{ accessFlags := 18, nameIndex := 16, descriptorIndex := 10, attributes := #[] }, { accessFlags := 18, nameIndex := 19, descriptorIndex := 10, attributes := #[] }, { accessFlags := 18, nameIndex := 13, descriptorIndex := 10, attributes := #[] }, { accessFlags := 18, nameIndex := 32, descriptorIndex := 10, attributes := #[] }, { accessFlags := 16, nameIndex := 9, descriptorIndex := 10, attributes := #[] }, { accessFlags := 18, nameIndex := 42, descriptorIndex := 43, attributes := #[] }, { accessFlags := 2, nameIndex := 82, descriptorIndex := 83, attributes := #[] }, { accessFlags := 2, nameIndex := 89, descriptorIndex := 83, attributes := #[] }, { accessFlags := 2, nameIndex := 29, descriptorIndex := 10, attributes := #[] }, { accessFlags := 2, nameIndex := 60, descriptorIndex := 10, attributes := #[] }, { accessFlags := 2, nameIndex := 63, descriptorIndex := 10, attributes := #[] }])
  fields := #[{ name := "tick", type := .long, accessFlags := 18, slot := 0, constantValue := 0 }, { name := "lead", type := .long, accessFlags := 18, slot := 1, constantValue := 0 }, { name := "firstLead", type := .long, accessFlags := 18, slot := 2, constantValue := 0 }, { name := "moveTime", type := .long, accessFlags := 18, slot := 3, constantValue := 0 }, { name := "span", type := .long, accessFlags := 16, slot := 4, constantValue := 0 }, { name := "buckets", type := (.array (.object "com/example/cicada/cicada/Bucket")), accessFlags := 18, slot := 5, constantValue := 0 }, { name := "spare", type := (.object "com/example/cicada/cicada/Bucket"), accessFlags := 2, slot := 6, constantValue := 0 }, { name := "moving", type := (.object "com/example/cicada/cicada/Bucket"), accessFlags := 2, slot := 7, constantValue := 0 }, { name := "seenFrom", type := .long, accessFlags := 2, slot := 8, constantValue := 0 }, { name := "windowStart", type := .long, accessFlags := 2, slot := 9, constantValue := 0 }, { name := "windowEnd", type := .long, accessFlags := 2, slot := 10, constantValue := 0 }]
  methods := #[k3m0, k3m1, k3m2, k3m3, k3m4, k3m5, k3m6, k3m7, k3m8]
  instanceTypes := #[.long, .long, .long, .long, .long, (.array (.object "com/example/cicada/cicada/Bucket")), (.object "com/example/cicada/cicada/Bucket"), (.object "com/example/cicada/cicada/Bucket"), .long, .long, .long]
  staticTypes := #[]
  resolved := Array.replicate 143 none
  callSites := [(2, 57, .makes 16)]
  statics := none }

def pool4 : Array CpInfo := pool [(2, .class_ 4), (1, u "java/lang/Object"), (0, u "<init>"), (0, u "()V"), (38, .class_ 47), (1, u "com/example/cicada/cicada/Expiry"), (14, .long 9223372036854775807), (14, u "span"), (0, u "(JI)J")] 5

def k4m0 : Method := { name := "<init>", desc := "()V", sig := { parameters := [], returnType := none }, accessFlags := 2, code := none }
def k4c1 : Code := { maxStack := 6, maxLocals := 3, code := prog_4_method_5_code, exceptionTable := #[], attributes := #[] }
def k4m1 : Method := { name := "span", desc := "(JI)J", sig := { parameters := [.long, .int], returnType := some .long }, accessFlags := 8, code := some k4c1 }
/-- com/example/cicada/cicada/Expiry -/
def k4 : Class := { plain "com/example/cicada/cicada/Expiry" (some 0) with
  accessFlags := 48
  interfaces := #[]
  cf := some (fileOf pool4 45 #[] #[{ accessFlags := 2, nameIndex := 5, descriptorIndex := 6, attributes := #[] }, { accessFlags := 8, nameIndex := 77, descriptorIndex := 78, attributes := #[] }] 48 2 #[] #[])
  fields := #[]
  methods := #[k4m0, k4m1]
  instanceTypes := #[]
  staticTypes := #[]
  resolved := Array.replicate 84 none
  statics := none }

def pool5 : Array CpInfo := pool [(1, .methodref 2 3), (0, .class_ 4), (0, .nameAndType 5 6), (0, u "java/lang/Object"), (0, u "<init>"), (0, u "()V"), (0, .fieldref 8 9), (0, .class_ 10), (0, .nameAndType 11 12), (0, u "com/example/cicada/cicada/Bucket"), (0, u "level"), (0, u "Lcom/example/cicada/cicada/Level;"), (2, u "head"), (0, u "Lcom/example/cicada/cicada/TimerHandle;"), (2, u "size"), (0, u "I"), (2, u "tail"), (23, u "J"), (12, u "opensAt"), (0, u "queued"), (0, u "Z"), (0, u "(Lcom/example/cicada/cicada/Level;)V")] 13

def k5c0 : Code := { maxStack := 2, maxLocals := 2, code := prog_1_method_1_code, exceptionTable := #[], attributes := #[] }
def k5m0 : Method := { name := "<init>", desc := "(Lcom/example/cicada/cicada/Level;)V", sig := { parameters := [(.object "com/example/cicada/cicada/Level")], returnType := none }, accessFlags := 0, code := some k5c0 }
/-- com/example/cicada/cicada/Bucket -/
def k5 : Class := { plain "com/example/cicada/cicada/Bucket" (some 0) with
  accessFlags := 48
  interfaces := #[]
  cf := some (fileOf pool5 8 #[] #[{ accessFlags := 0, nameIndex := 5, descriptorIndex := 63, attributes := #[] }] 48 2 #[] #[{ accessFlags := 16, nameIndex := 11, descriptorIndex := 12, attributes := #[] }, { accessFlags := 2, nameIndex := 15, descriptorIndex := 16, attributes := #[] }, { accessFlags := 2, nameIndex := 23, descriptorIndex := 16, attributes := #[] }, { accessFlags := 2, nameIndex := 19, descriptorIndex := 20, attributes := #[] }, { accessFlags := 0, nameIndex := 60, descriptorIndex := 47, attributes := #[] }, { accessFlags := 0, nameIndex := 61, descriptorIndex := 62, attributes := #[] }])
  fields := #[{ name := "level", type := (.object "com/example/cicada/cicada/Level"), accessFlags := 16, slot := 0, constantValue := 0 }, { name := "head", type := (.object "com/example/cicada/cicada/TimerHandle"), accessFlags := 2, slot := 1, constantValue := 0 }, { name := "tail", type := (.object "com/example/cicada/cicada/TimerHandle"), accessFlags := 2, slot := 2, constantValue := 0 }, { name := "size", type := .int, accessFlags := 2, slot := 3, constantValue := 0 }, { name := "opensAt", type := .long, accessFlags := 0, slot := 4, constantValue := 0 }, { name := "queued", type := .boolean, accessFlags := 0, slot := 5, constantValue := 0 }]
  methods := #[k5m0]
  instanceTypes := #[(.object "com/example/cicada/cicada/Level"), (.object "com/example/cicada/cicada/TimerHandle"), (.object "com/example/cicada/cicada/TimerHandle"), .int, .long, .boolean]
  staticTypes := #[]
  resolved := Array.replicate 77 none
  statics := none }

def pool6 : Array CpInfo := pool [(1, .class_ 2), (0, u "java/util/function/IntFunction"), (0, .class_ 4), (0, u "java/lang/Object"), (0, u "apply"), (0, u "(I)Ljava/lang/Object;")] 7

def k6m0 : Method := { name := "apply", desc := "(I)Ljava/lang/Object;", sig := { parameters := [.int], returnType := some (.object "java/lang/Object") }, accessFlags := 1025, code := none }
/-- java/util/function/IntFunction -/
def k6 : Class := { plain "java/util/function/IntFunction" (some 0) with
  accessFlags := 1537
  interfaces := #[]
  cf := some (fileOf pool6 1 #[] #[{ accessFlags := 1025, nameIndex := 5, descriptorIndex := 6, attributes := #[] }] 1537 3 #[] #[])
  fields := #[]
  methods := #[k6m0]
  instanceTypes := #[]
  staticTypes := #[]
  resolved := Array.replicate 14 none
  statics := none }

def pool7 : Array CpInfo := pool [(2, .class_ 4), (1, u "java/lang/Object"), (0, u "<init>"), (0, u "()V"), (7, .class_ 16), (1, u "java/util/Arrays"), (57, .class_ 76), (1, u "java/util/Arrays$NaturalOrder"), (36, .class_ 115), (1, u "java/util/Arrays$LegacyMergeSort"), (1, u "Z"), (57, .methodref 176 177), (0, .class_ 178), (0, .nameAndType 179 180), (0, u "java/util/Objects"), (0, u "requireNonNull"), (0, u "(Ljava/lang/Object;)Ljava/lang/Object;"), (194, .class_ 376), (0, u "java/util/Arrays$ArrayList"), (68, u "$assertionsDisabled"), (112, .interfaceMethodref 559 560), (0, .class_ 561), (0, .nameAndType 562 563), (0, u "java/util/function/IntFunction"), (0, u "apply"), (0, u "(I)Ljava/lang/Object;"), (151, u "MIN_ARRAY_SORT_GRAN"), (0, u "I"), (2, u "INSERTIONSORT_THRESHOLD"), (187, u "setAll"), (0, u "([Ljava/lang/Object;Ljava/util/function/IntFunction;)V"), (66, .class_ 976), (0, u "java/util/Arrays$ArrayItr")] 52

def k7m0 : Method := { name := "<init>", desc := "()V", sig := { parameters := [], returnType := none }, accessFlags := 2, code := none }
def k7c1 : Code := { maxStack := 4, maxLocals := 3, code := jdk_65_method_173_code, exceptionTable := #[], attributes := #[] }
def k7m1 : Method := { name := "setAll", desc := "([Ljava/lang/Object;Ljava/util/function/IntFunction;)V", sig := { parameters := [(.array (.object "java/lang/Object")), (.object "java/util/function/IntFunction")], returnType := none }, accessFlags := 9, code := some k7c1 }
/-- java/util/Arrays -/
def k7 : Class := { plain "java/util/Arrays" (some 0) with
  accessFlags := 49
  interfaces := #[]
  cf := some (fileOf pool7 14 #[.nestMembers #[975, 375, 113, 74]] #[{ accessFlags := 2, nameIndex := 5, descriptorIndex := 6, attributes := #[] }, { accessFlags := 9, nameIndex := 907, descriptorIndex := 908, attributes := #[] }] 49 2 #[] #[{ accessFlags := 26, nameIndex := 715, descriptorIndex := 716, attributes := #[] }, { accessFlags := 26, nameIndex := 719, descriptorIndex := 716, attributes := #[] }, { accessFlags := 4120, nameIndex := 445, descriptorIndex := 117, attributes := #[] }])
  fields := #[{ name := "MIN_ARRAY_SORT_GRAN", type := .int, accessFlags := 26, slot := 0, constantValue := 0 }, { name := "INSERTIONSORT_THRESHOLD", type := .int, accessFlags := 26, slot := 1, constantValue := 0 }, { name := "$assertionsDisabled", type := .boolean, accessFlags := 4120, slot := 2, constantValue := 0 }]
  methods := #[k7m0, k7m1]
  instanceTypes := #[]
  staticTypes := #[.int, .int, .boolean]
  resolved := Array.replicate 1029 none
  statics := none }

def pool8 : Array CpInfo := pool [(2, .class_ 4), (1, u "java/lang/Object"), (0, u "<init>"), (0, u "()V"), (35, .class_ 44), (1, u "java/util/Objects"), (0, u "requireNonNull"), (0, u "(Ljava/lang/Object;)Ljava/lang/Object;")] 137

def k8m0 : Method := { name := "<init>", desc := "()V", sig := { parameters := [], returnType := none }, accessFlags := 2, code := none }
def k8c1 : Code := { maxStack := 2, maxLocals := 1, code := jdk_31_method_10_code, exceptionTable := #[], attributes := #[] }
def k8m1 : Method := { name := "requireNonNull", desc := "(Ljava/lang/Object;)Ljava/lang/Object;", sig := { parameters := [(.object "java/lang/Object")], returnType := some (.object "java/lang/Object") }, accessFlags := 9, code := some k8c1 }
/-- java/util/Objects -/
def k8 : Class := { plain "java/util/Objects" (some 0) with
  accessFlags := 49
  interfaces := #[]
  cf := some (fileOf pool8 42 #[] #[{ accessFlags := 2, nameIndex := 5, descriptorIndex := 6, attributes := #[] }, { accessFlags := 9, nameIndex := 45, descriptorIndex := 46, attributes := #[] }] 49 2 #[] #[])
  fields := #[]
  methods := #[k8m0, k8m1]
  instanceTypes := #[]
  staticTypes := #[]
  resolved := Array.replicate 184 none
  statics := none }

def pool9 : Array CpInfo := pool [(1, u "java/lang/Cloneable"), (0, .class_ 1), (0, u "java/lang/Object"), (0, .class_ 3)] 3

/-- java/lang/Cloneable -/
def k9 : Class := { plain "java/lang/Cloneable" (some 0) with
  accessFlags := 1537
  interfaces := #[]
  cf := some (fileOf pool9 2 #[] #[] 1537 4 #[] #[])
  fields := #[]
  methods := #[]
  instanceTypes := #[]
  staticTypes := #[]
  resolved := Array.replicate 8 none
  statics := none }

def pool10 : Array CpInfo := pool [(1, u "java/io/Serializable"), (0, .class_ 1), (0, u "java/lang/Object"), (0, .class_ 3)] 3

/-- java/io/Serializable -/
def k10 : Class := { plain "java/io/Serializable" (some 0) with
  accessFlags := 1537
  interfaces := #[]
  cf := some (fileOf pool10 2 #[] #[] 1537 4 #[] #[])
  fields := #[]
  methods := #[]
  instanceTypes := #[]
  staticTypes := #[]
  resolved := Array.replicate 8 none
  statics := none }

/-- the primitive byte -/
def k11 : Class := { plain "byte" none with kind := .primitive 'B', accessFlags := 0x411 }
/-- [B -/
def k12 : Class := { plain "[B" (some 0) with kind := .array 11 .byte, interfaces := #[9, 10], accessFlags := 1041 }

/-- the primitive int -/
def k13 : Class := { plain "int" none with kind := .primitive 'I', accessFlags := 0x411 }
/-- [I -/
def k14 : Class := { plain "[I" (some 0) with kind := .array 13 .int, interfaces := #[9, 10], accessFlags := 1041 }

/-- [Lcom/example/cicada/cicada/Bucket; -/
def k15 : Class := { plain "[Lcom/example/cicada/cicada/Bucket;" (some 0) with kind := .array 5 (.object "com/example/cicada/cicada/Bucket"), interfaces := #[9, 10], accessFlags := 1041 }

def classes0 : Array Class := #[k0, k1, k2, k3, k4, k5, k6, k7, k8, k9, k10, k11, k12, k13, k14, k15]
/-- the class that the rule has made for the site at 57 of com/example/cicada/cicada/Level.<init> -/
def k16 : Class := Jvm.LamKit.madeRec { classes := classes0 } "com/example/cicada/cicada/Level" (Jvm.Lambda.Shape.mk "java/util/function/IntFunction" "apply" (Jvm.ClassFile.MethodDescriptor.mk ([Jvm.ClassFile.FieldType.int] : List Jvm.ClassFile.FieldType) (Option.some (Jvm.ClassFile.FieldType.object "java/lang/Object"))) ([(Jvm.ClassFile.FieldType.object "com/example/cicada/cicada/Level")] : List Jvm.ClassFile.FieldType) (5 : Nat) "com/example/cicada/cicada/Level" "lambda$new$0" (Jvm.ClassFile.MethodDescriptor.mk ([Jvm.ClassFile.FieldType.int] : List Jvm.ClassFile.FieldType) (Option.some (Jvm.ClassFile.FieldType.object "com/example/cicada/cicada/Bucket"))) false (Jvm.ClassFile.MethodDescriptor.mk ([Jvm.ClassFile.FieldType.int] : List Jvm.ClassFile.FieldType) (Option.some (Jvm.ClassFile.FieldType.object "com/example/cicada/cicada/Bucket")))) 16

def heap : Heap := #[]
def classes : Array Class := #[k0, k1, k2, k3, k4, k5, k6, k7, k8, k9, k10, k11, k12, k13, k14, k15, k16]
def interned : List (Array UInt16 × Addr) := []
def slotsUsed : Nat := 0
def theMethod : MethodId := ⟨1, 1⟩
def args0 : Array Value := #[.long 5, .int 3, .int 1, .long 9]
def aboutOver (below : List Frame) : State where
  vm := { classes := classes, interned := interned.toArray }
  heap := heap
  slotsUsed := slotsUsed
  threads := #[{ frames := .invoking theMethod args0 :: below }]
def below0 : List Frame := [.native { method := ⟨0, 0⟩, args := #[] }]
def about1 : State := aboutOver below0
def p0 : Program := .bare "" "" ""
def e0 : Env := launch0.env 0 0 0
theorem w_frames : about1.frames = Frame.invoking theMethod args0 :: below0 := rfl
set_option maxRecDepth 65536 in
theorem w_args : argsFit about1.vm theMethod args0 = true := by decide +kernel
set_option maxRecDepth 65536 in
theorem w_heap : heapFits about1 = true := by decide +kernel
set_option maxRecDepth 65536 in
theorem w_runnable : about1.curStatus? = some .runnable := by decide +kernel
set_option maxRecDepth 65536 in
theorem w_alone : about1.alone = true := by decide +kernel
set_option maxRecDepth 65536 in
theorem w_named : about1.methodNamed? x = some theMethod := by decide +kernel
set_option maxRecDepth 65536 in
theorem w_hears : about1.hears theMethod below0 = true := by decide +kernel
set_option maxRecDepth 65536 in
theorem w_ripe : about1.ripe theMethod args0 below0 = true := by decide +kernel
theorem w_running : about1.status = .running := rfl
set_option maxRecDepth 65536 in
theorem w_room : about1.hasRoom e0.platform room_1 = true :=
  launch0.hasRoom_least _ room_1 (by decide +kernel) (by decide +kernel) (by decide +kernel) (by decide +kernel) (by decide +kernel) (by decide +kernel)
theorem allAtoms_all (ts : List Jvm.Cond) (a : Array Jvm.Value) (st : Jvm.State) : (allAtoms ts).before a st = ts.all (fun c => c.before a st) := by
  induction ts with
  | nil => rfl
  | cons c t ih =>
    show (Jvm.Cond.and c (allAtoms t)).before a st = _
    rw [Jvm.Cond.before_and, ih, List.all_cons]
def words1 : List Jvm.Cond := Jvm.Cond.code x code maxLocals ret :: tables_1
/-- a 'code' word, met by the world's own term for the bytes: nothing is compared byte by byte -/
theorem code_word {y : MethodName} {bytes : ByteArray} {mx : Nat} {rt : Option FieldType} {a : Array Value} {s : State} {m : MethodId} {meth : Method} {c : Code} (h1 : s.methodNamed? y = some m) (h2 : s.vm.method? m = some meth) (h3 : meth.code = some c) (h4 : c.code = bytes)
    (h5 : (c.maxLocals == mx && c.exceptionTable.isEmpty && decide (c.maxStack ≤ mostOperands) && decide (meth.sig.returnType = rt) && !meth.locks && decide (parseMethodDescriptor y.desc = some meth.sig)) = true) : (Jvm.Cond.code y bytes mx rt).before a s = true := by
  simp only [Bool.and_eq_true, beq_iff_eq, Bool.not_eq_true', decide_eq_true_eq] at h5
  obtain ⟨⟨⟨⟨⟨g1, g2⟩, g3⟩, g4⟩, g5⟩, g6⟩ := h5
  simp [Cond.before, Cond.holds, Cond.value, h1, h2, h3, h4, g1, g2, g3, g4, g5, g6]
def isCode : Jvm.Cond → Bool
  | .code _ _ _ _ => true
  | _ => false
theorem all_split {L : List Jvm.Cond} {P : Jvm.Cond → Bool} (h1 : L.all (fun c => isCode c || P c) = true) (h2 : ∀ c ∈ L.filter isCode, P c = true) : L.all P = true := by
  refine List.all_eq_true.mpr fun c hc => ?_
  have h := List.all_eq_true.mp h1 c hc
  rcases Bool.eq_false_or_eq_true (isCode c) with hi | hi
  · exact h2 c (List.mem_filter.mpr ⟨hc, hi⟩)
  · simpa [hi] using h
set_option maxRecDepth 65536 in
theorem w_c0 : (Jvm.Cond.code x code maxLocals ret).before args0 about1 = true := code_word (m := ⟨1, 1⟩) (meth := k1m1) (c := k1c1) (by decide +kernel) rfl rfl rfl (by decide +kernel)
set_option maxRecDepth 65536 in
theorem w_c1 : (Jvm.Cond.code ({ cls := "java/lang/Math", name := "max", desc := "(JJ)J" } : Jvm.MethodName) jdk_29_method_66_code (4 : Nat) (Option.some Jvm.ClassFile.FieldType.long)).before args0 about1 = true := code_word (m := ⟨2, 4⟩) (meth := k2m4) (c := k2c4) (by decide +kernel) rfl rfl rfl (by decide +kernel)
set_option maxRecDepth 65536 in
theorem w_c2 : (Jvm.Cond.code ({ cls := "com/example/cicada/cicada/Level", name := "<init>", desc := "(JI)V" } : Jvm.MethodName) prog_5_method_1_code (4 : Nat) (Option.none : Option Jvm.ClassFile.FieldType)).before args0 about1 = true := code_word (m := ⟨3, 0⟩) (meth := k3m0) (c := k3c0) (by decide +kernel) rfl rfl rfl (by decide +kernel)
set_option maxRecDepth 65536 in
theorem w_c3 : (Jvm.Cond.code ({ cls := "com/example/cicada/cicada/Level", name := "<init>", desc := "(JJJJI)V" } : Jvm.MethodName) prog_5_method_3_code (10 : Nat) (Option.none : Option Jvm.ClassFile.FieldType)).before args0 about1 = true := code_word (m := ⟨3, 2⟩) (meth := k3m2) (c := k3c2) (by decide +kernel) rfl rfl rfl (by decide +kernel)
set_option maxRecDepth 65536 in
theorem w_c4 : (Jvm.Cond.code ({ cls := "java/lang/Object", name := "<init>", desc := "()V" } : Jvm.MethodName) object_method_1_code (1 : Nat) (Option.none : Option Jvm.ClassFile.FieldType)).before args0 about1 = true := code_word (m := ⟨0, 0⟩) (meth := k0m0) (c := k0c0) (by decide +kernel) rfl rfl rfl (by decide +kernel)
set_option maxRecDepth 65536 in
theorem w_c5 : (Jvm.Cond.code ({ cls := "com/example/cicada/cicada/Expiry", name := "span", desc := "(JI)J" } : Jvm.MethodName) prog_4_method_5_code (3 : Nat) (Option.some Jvm.ClassFile.FieldType.long)).before args0 about1 = true := code_word (m := ⟨4, 1⟩) (meth := k4m1) (c := k4c1) (by decide +kernel) rfl rfl rfl (by decide +kernel)
set_option maxRecDepth 65536 in
theorem w_c6 : (Jvm.Cond.code ({ cls := "java/util/Arrays", name := "setAll", desc := "([Ljava/lang/Object;Ljava/util/function/IntFunction;)V" } : Jvm.MethodName) jdk_65_method_173_code (3 : Nat) (Option.none : Option Jvm.ClassFile.FieldType)).before args0 about1 = true := code_word (m := ⟨7, 1⟩) (meth := k7m1) (c := k7c1) (by decide +kernel) rfl rfl rfl (by decide +kernel)
set_option maxRecDepth 65536 in
theorem w_c7 : (Jvm.Cond.code ({ cls := "java/util/Objects", name := "requireNonNull", desc := "(Ljava/lang/Object;)Ljava/lang/Object;" } : Jvm.MethodName) jdk_31_method_10_code (1 : Nat) (Option.some (Jvm.ClassFile.FieldType.object "java/lang/Object"))).before args0 about1 = true := code_word (m := ⟨8, 1⟩) (meth := k8m1) (c := k8c1) (by decide +kernel) rfl rfl rfl (by decide +kernel)
set_option maxRecDepth 65536 in
theorem w_c8 : (Jvm.Cond.code ({ cls := "com/example/cicada/cicada/Level", name := "lambda$new$0", desc := "(I)Lcom/example/cicada/cicada/Bucket;" } : Jvm.MethodName) prog_5_method_15_code (2 : Nat) (Option.some (Jvm.ClassFile.FieldType.object "com/example/cicada/cicada/Bucket"))).before args0 about1 = true := code_word (m := ⟨3, 8⟩) (meth := k3m8) (c := k3c8) (by decide +kernel) rfl rfl rfl (by decide +kernel)
set_option maxRecDepth 65536 in
theorem w_c9 : (Jvm.Cond.code ({ cls := "com/example/cicada/cicada/Bucket", name := "<init>", desc := "(Lcom/example/cicada/cicada/Level;)V" } : Jvm.MethodName) prog_1_method_1_code (2 : Nat) (Option.none : Option Jvm.ClassFile.FieldType)).before args0 about1 = true := code_word (m := ⟨5, 0⟩) (meth := k5m0) (c := k5c0) (by decide +kernel) rfl rfl rfl (by decide +kernel)
set_option maxRecDepth 65536 in
theorem w_c10 : (Jvm.Cond.code ({ cls := "com/example/cicada/cicada/Level", name := "<init>", desc := "(Lcom/example/cicada/cicada/Level;I)V" } : Jvm.MethodName) prog_5_method_2_code (3 : Nat) (Option.none : Option Jvm.ClassFile.FieldType)).before args0 about1 = true := code_word (m := ⟨3, 1⟩) (meth := k3m1) (c := k3c1) (by decide +kernel) rfl rfl rfl (by decide +kernel)
set_option maxRecDepth 65536 in
theorem w_c11 : (Jvm.Cond.code ({ cls := "com/example/cicada/cicada/Level", name := "open", desc := "(Lcom/example/cicada/cicada/Bucket;)V" } : Jvm.MethodName) prog_5_method_9_code (2 : Nat) (Option.none : Option Jvm.ClassFile.FieldType)).before args0 about1 = true := code_word (m := ⟨3, 3⟩) (meth := k3m3) (c := k3c3) (by decide +kernel) rfl rfl rfl (by decide +kernel)
set_option maxRecDepth 65536 in
theorem w_c12 : (Jvm.Cond.code ({ cls := "com/example/cicada/cicada/Level", name := "slot", desc := "(J)I" } : Jvm.MethodName) prog_5_method_14_code (3 : Nat) (Option.some Jvm.ClassFile.FieldType.int)).before args0 about1 = true := code_word (m := ⟨3, 7⟩) (meth := k3m7) (c := k3c7) (by decide +kernel) rfl rfl rfl (by decide +kernel)
set_option maxRecDepth 65536 in
theorem w_c13 : (Jvm.Cond.code ({ cls := "java/lang/Math", name := "floorDiv", desc := "(JJ)J" } : Jvm.MethodName) jdk_29_method_49_code (6 : Nat) (Option.some Jvm.ClassFile.FieldType.long)).before args0 about1 = true := code_word (m := ⟨2, 1⟩) (meth := k2m1) (c := k2c1) (by decide +kernel) rfl rfl rfl (by decide +kernel)
set_option maxRecDepth 65536 in
theorem w_c14 : (Jvm.Cond.code ({ cls := "java/lang/Math", name := "floorMod", desc := "(JI)I" } : Jvm.MethodName) jdk_29_method_51_code (3 : Nat) (Option.some Jvm.ClassFile.FieldType.int)).before args0 about1 = true := code_word (m := ⟨2, 2⟩) (meth := k2m2) (c := k2c2) (by decide +kernel) rfl rfl rfl (by decide +kernel)
set_option maxRecDepth 65536 in
theorem w_c15 : (Jvm.Cond.code ({ cls := "java/lang/Math", name := "floorMod", desc := "(JJ)J" } : Jvm.MethodName) jdk_29_method_52_code (6 : Nat) (Option.some Jvm.ClassFile.FieldType.long)).before args0 about1 = true := code_word (m := ⟨2, 3⟩) (meth := k2m3) (c := k2c3) (by decide +kernel) rfl rfl rfl (by decide +kernel)
set_option maxRecDepth 65536 in
theorem w_c16 : (Jvm.Cond.code ({ cls := "com/example/cicada/cicada/Level", name := "moving", desc := "()Lcom/example/cicada/cicada/Bucket;" } : Jvm.MethodName) prog_5_method_10_code (1 : Nat) (Option.some (Jvm.ClassFile.FieldType.object "com/example/cicada/cicada/Bucket"))).before args0 about1 = true := code_word (m := ⟨3, 4⟩) (meth := k3m4) (c := k3c4) (by decide +kernel) rfl rfl rfl (by decide +kernel)
set_option maxRecDepth 65536 in
theorem w_c17 : (Jvm.Cond.code ({ cls := "com/example/cicada/cicada/Level", name := "moveMiddle", desc := "()J" } : Jvm.MethodName) prog_5_method_12_code (1 : Nat) (Option.some Jvm.ClassFile.FieldType.long)).before args0 about1 = true := code_word (m := ⟨3, 6⟩) (meth := k3m6) (c := k3c6) (by decide +kernel) rfl rfl rfl (by decide +kernel)
set_option maxRecDepth 65536 in
theorem w_c18 : (Jvm.Cond.code ({ cls := "com/example/cicada/cicada/Level", name := "moveDeadline", desc := "()J" } : Jvm.MethodName) prog_5_method_11_code (1 : Nat) (Option.some Jvm.ClassFile.FieldType.long)).before args0 about1 = true := code_word (m := ⟨3, 5⟩) (meth := k3m5) (c := k3c5) (by decide +kernel) rfl rfl rfl (by decide +kernel)
def codes1 : List Jvm.Cond := [Jvm.Cond.code x code maxLocals ret, Jvm.Cond.code ({ cls := "java/lang/Math", name := "max", desc := "(JJ)J" } : Jvm.MethodName) jdk_29_method_66_code (4 : Nat) (Option.some Jvm.ClassFile.FieldType.long), Jvm.Cond.code ({ cls := "com/example/cicada/cicada/Level", name := "<init>", desc := "(JI)V" } : Jvm.MethodName) prog_5_method_1_code (4 : Nat) (Option.none : Option Jvm.ClassFile.FieldType), Jvm.Cond.code ({ cls := "com/example/cicada/cicada/Level", name := "<init>", desc := "(JJJJI)V" } : Jvm.MethodName) prog_5_method_3_code (10 : Nat) (Option.none : Option Jvm.ClassFile.FieldType), Jvm.Cond.code ({ cls := "java/lang/Object", name := "<init>", desc := "()V" } : Jvm.MethodName) object_method_1_code (1 : Nat) (Option.none : Option Jvm.ClassFile.FieldType), Jvm.Cond.code ({ cls := "com/example/cicada/cicada/Expiry", name := "span", desc := "(JI)J" } : Jvm.MethodName) prog_4_method_5_code (3 : Nat) (Option.some Jvm.ClassFile.FieldType.long), Jvm.Cond.code ({ cls := "java/util/Arrays", name := "setAll", desc := "([Ljava/lang/Object;Ljava/util/function/IntFunction;)V" } : Jvm.MethodName) jdk_65_method_173_code (3 : Nat) (Option.none : Option Jvm.ClassFile.FieldType), Jvm.Cond.code ({ cls := "java/util/Objects", name := "requireNonNull", desc := "(Ljava/lang/Object;)Ljava/lang/Object;" } : Jvm.MethodName) jdk_31_method_10_code (1 : Nat) (Option.some (Jvm.ClassFile.FieldType.object "java/lang/Object")), Jvm.Cond.code ({ cls := "com/example/cicada/cicada/Level", name := "lambda$new$0", desc := "(I)Lcom/example/cicada/cicada/Bucket;" } : Jvm.MethodName) prog_5_method_15_code (2 : Nat) (Option.some (Jvm.ClassFile.FieldType.object "com/example/cicada/cicada/Bucket")), Jvm.Cond.code ({ cls := "com/example/cicada/cicada/Bucket", name := "<init>", desc := "(Lcom/example/cicada/cicada/Level;)V" } : Jvm.MethodName) prog_1_method_1_code (2 : Nat) (Option.none : Option Jvm.ClassFile.FieldType), Jvm.Cond.code ({ cls := "com/example/cicada/cicada/Level", name := "<init>", desc := "(Lcom/example/cicada/cicada/Level;I)V" } : Jvm.MethodName) prog_5_method_2_code (3 : Nat) (Option.none : Option Jvm.ClassFile.FieldType), Jvm.Cond.code ({ cls := "com/example/cicada/cicada/Level", name := "open", desc := "(Lcom/example/cicada/cicada/Bucket;)V" } : Jvm.MethodName) prog_5_method_9_code (2 : Nat) (Option.none : Option Jvm.ClassFile.FieldType), Jvm.Cond.code ({ cls := "com/example/cicada/cicada/Level", name := "slot", desc := "(J)I" } : Jvm.MethodName) prog_5_method_14_code (3 : Nat) (Option.some Jvm.ClassFile.FieldType.int), Jvm.Cond.code ({ cls := "java/lang/Math", name := "floorDiv", desc := "(JJ)J" } : Jvm.MethodName) jdk_29_method_49_code (6 : Nat) (Option.some Jvm.ClassFile.FieldType.long), Jvm.Cond.code ({ cls := "java/lang/Math", name := "floorMod", desc := "(JI)I" } : Jvm.MethodName) jdk_29_method_51_code (3 : Nat) (Option.some Jvm.ClassFile.FieldType.int), Jvm.Cond.code ({ cls := "java/lang/Math", name := "floorMod", desc := "(JJ)J" } : Jvm.MethodName) jdk_29_method_52_code (6 : Nat) (Option.some Jvm.ClassFile.FieldType.long), Jvm.Cond.code ({ cls := "com/example/cicada/cicada/Level", name := "moving", desc := "()Lcom/example/cicada/cicada/Bucket;" } : Jvm.MethodName) prog_5_method_10_code (1 : Nat) (Option.some (Jvm.ClassFile.FieldType.object "com/example/cicada/cicada/Bucket")), Jvm.Cond.code ({ cls := "com/example/cicada/cicada/Level", name := "moveMiddle", desc := "()J" } : Jvm.MethodName) prog_5_method_12_code (1 : Nat) (Option.some Jvm.ClassFile.FieldType.long), Jvm.Cond.code ({ cls := "com/example/cicada/cicada/Level", name := "moveDeadline", desc := "()J" } : Jvm.MethodName) prog_5_method_11_code (1 : Nat) (Option.some Jvm.ClassFile.FieldType.long)]
set_option maxRecDepth 65536 in
theorem codes_eq : words1.filter isCode = codes1 := rfl
theorem w_codes : ∀ c ∈ words1.filter isCode, c.before args0 about1 = true := by
  rw [codes_eq]
  intro c hc
  simp only [codes1, List.mem_cons, List.not_mem_nil, or_false] at hc
  rcases hc with rfl | rfl | rfl | rfl | rfl | rfl | rfl | rfl | rfl | rfl | rfl | rfl | rfl | rfl | rfl | rfl | rfl | rfl | rfl
  · exact w_c0
  · exact w_c1
  · exact w_c2
  · exact w_c3
  · exact w_c4
  · exact w_c5
  · exact w_c6
  · exact w_c7
  · exact w_c8
  · exact w_c9
  · exact w_c10
  · exact w_c11
  · exact w_c12
  · exact w_c13
  · exact w_c14
  · exact w_c15
  · exact w_c16
  · exact w_c17
  · exact w_c18
set_option maxRecDepth 65536 in
theorem w_t1 : (words1.take 24).all (fun c => isCode c || c.before args0 about1) = true := by decide +kernel
set_option maxRecDepth 65536 in
theorem w_t2 : ((words1.drop 24).take 24).all (fun c => isCode c || c.before args0 about1) = true := by decide +kernel
set_option maxRecDepth 65536 in
theorem w_t3 : (((words1.drop 24).drop 24).take 24).all (fun c => isCode c || c.before args0 about1) = true := by decide +kernel
set_option maxRecDepth 65536 in
theorem w_t4 : ((((words1.drop 24).drop 24).drop 24).take 24).all (fun c => isCode c || c.before args0 about1) = true := by decide +kernel
set_option maxRecDepth 65536 in
theorem w_t5 : ((((words1.drop 24).drop 24).drop 24).drop 24).all (fun c => isCode c || c.before args0 about1) = true := by decide +kernel
theorem w_tables : (allAtoms (Jvm.Cond.code x code maxLocals ret :: tables_1)).before args0 about1 = true := by
  rw [allAtoms_all]
  show words1.all (fun c => c.before args0 about1) = true
  refine all_split ?_ w_codes
  rw [← List.take_append_drop 24 words1, List.all_append, w_t1, ← List.take_append_drop 24 (words1.drop 24), List.all_append, w_t2, ← List.take_append_drop 24 ((words1.drop 24).drop 24), List.all_append, w_t3, ← List.take_append_drop 24 (((words1.drop 24).drop 24).drop 24), List.all_append, w_t4, w_t5]
  rfl
set_option maxRecDepth 65536 in
theorem w_case : (Jvm.Cond.and given_1 narrow_1).before args0 about1 = true := by decide +kernel
theorem w_applies : (headSpec (Jvm.Cond.code x code maxLocals ret :: tables_1) room_1).applies x e0.platform about1 = true :=
  (Spec.applies_iff w_frames).mpr ⟨w_running, w_runnable, w_alone, w_named, w_hears, w_ripe, w_room, w_tables⟩
theorem atStart : AtStart classFile x code maxLocals ret World_1 tables_1 room_1 Calls_1 rest_1 Pre_1 launch0 p0 e0 about1 theMethod args0 below0 :=
  ⟨lists_1, trivial, launch0.admits_env _ _ _, launch0.least_env, fairChoices_fair.cas, fairChoices_fair.clock, w_frames, w_args, w_heap, w_applies, trivial, trivial, w_case⟩
end start1
theorem witness_1 : WitnessClaimed_1 := ⟨start1.p0, start1.e0, start1.about1, start1.theMethod, start1.args0, start1.below0, start1.atStart⟩
end Jvm.Pilot.@@N@@
