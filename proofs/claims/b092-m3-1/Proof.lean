import JvmDerived
import JvmDerived.Pilot.@@N@@Statement
import JvmDerived.Pilot.@@N@@Code
set_option linter.unusedVariables false
set_option linter.unusedSimpArgs false
@@BLOCK:NumsL.lean.txt@@
namespace Jvm.Pilot.@@N@@
open Jvm Jvm.ClassFile Sem Op Lib Jvm.Free Jvm.Stand Jvm.LawKit Jvm.RoadKit Bundle Jvm.Pilot.@@N@@.Jvm.D
/-! ### the classes whose objects the law makes, with their fields as the sheet lays them -/
def own_F0 : List (String × String) := [("pointCount", "I"), ("minRun", "I"), ("fewestLeftOut", "[I"), ("runStart", "[I"), ("queueStart", "[I"), ("queueLeftOut", "[I")]
def own_cl (t : Nat) : Option (String × List (String × String)) := if t = 0 then some ("com/example/gatherline/gatherline/RunSplit", own_F0) else none
theorem own_cl0 : own_cl 0 = some ("com/example/gatherline/gatherline/RunSplit", own_F0) := rfl
def own_V0 : List Value := [.int 0, .int 0, .null, .null, .null, .null]
theorem own_fd0_0 : parseFieldDescriptor "I" = some .int := by decide +kernel
theorem own_fd0_1 : parseFieldDescriptor "I" = some .int := by decide +kernel
theorem own_fd0_2 : parseFieldDescriptor "[I" = some (.array .int) := by decide +kernel
theorem own_fd0_3 : parseFieldDescriptor "[I" = some (.array .int) := by decide +kernel
theorem own_fd0_4 : parseFieldDescriptor "[I" = some (.array .int) := by decide +kernel
theorem own_fd0_5 : parseFieldDescriptor "[I" = some (.array .int) := by decide +kernel
/-! ### the sheet's words -/
theorem own_w0 : (Jvm.Cond.constant "com/example/gatherline/gatherline/RunSplitFindPinLaw" (9 : Nat) (2147483647 : Int32)) ∈ tables_1 := List.mem_of_getElem? (i := 0) rfl
theorem own_w1 : (Jvm.Cond.arrayClass Jvm.ClassFile.FieldType.int) ∈ tables_1 := List.mem_of_getElem? (i := 1) rfl
theorem own_w2 : (Jvm.Cond.methodLink "com/example/gatherline/gatherline/RunSplitFindPinLaw" (16 : Nat) ({ cls := "java/lang/Math", name := "min", desc := "(II)I" } : Jvm.MethodName)) ∈ tables_1 := List.mem_of_getElem? (i := 2) rfl
theorem own_w3 : (Jvm.Cond.static ({ cls := "java/lang/Math", name := "min", desc := "(II)I" } : Jvm.MethodName)) ∈ tables_1 := List.mem_of_getElem? (i := 3) rfl
theorem own_w4 : (Jvm.Cond.initialized "java/lang/Math") ∈ tables_1 := List.mem_of_getElem? (i := 4) rfl
theorem own_w5 : (Jvm.Cond.code ({ cls := "java/lang/Math", name := "min", desc := "(II)I" } : Jvm.MethodName) jdk_29_method_69_code (2 : Nat) (Option.some Jvm.ClassFile.FieldType.int)) ∈ tables_1 := List.mem_of_getElem? (i := 5) rfl
theorem own_w6 : (Jvm.Cond.methodLink "com/example/gatherline/gatherline/RunSplitFindPinLaw" (30 : Nat) ({ cls := "com/example/gatherline/gatherline/RunSplitFindPinLaw", name := "first", desc := "([III)I" } : Jvm.MethodName)) ∈ tables_1 := List.mem_of_getElem? (i := 6) rfl
theorem own_w7 : (Jvm.Cond.static ({ cls := "com/example/gatherline/gatherline/RunSplitFindPinLaw", name := "first", desc := "([III)I" } : Jvm.MethodName)) ∈ tables_1 := List.mem_of_getElem? (i := 7) rfl
theorem own_w8 : (Jvm.Cond.initialized "com/example/gatherline/gatherline/RunSplitFindPinLaw") ∈ tables_1 := List.mem_of_getElem? (i := 8) rfl
theorem own_w9 : (Jvm.Cond.code ({ cls := "com/example/gatherline/gatherline/RunSplitFindPinLaw", name := "first", desc := "([III)I" } : Jvm.MethodName) method_2_code (3 : Nat) (Option.some Jvm.ClassFile.FieldType.int)) ∈ tables_1 := List.mem_of_getElem? (i := 9) rfl
theorem own_w10 : (Jvm.Cond.methodLink "com/example/gatherline/gatherline/RunSplitFindPinLaw" (34 : Nat) ({ cls := "com/example/gatherline/gatherline/RunSplitFindPinLaw", name := "step", desc := "([IIII)I" } : Jvm.MethodName)) ∈ tables_1 := List.mem_of_getElem? (i := 10) rfl
theorem own_w11 : (Jvm.Cond.static ({ cls := "com/example/gatherline/gatherline/RunSplitFindPinLaw", name := "step", desc := "([IIII)I" } : Jvm.MethodName)) ∈ tables_1 := List.mem_of_getElem? (i := 11) rfl
theorem own_w12 : (Jvm.Cond.code ({ cls := "com/example/gatherline/gatherline/RunSplitFindPinLaw", name := "step", desc := "([IIII)I" } : Jvm.MethodName) method_4_code (5 : Nat) (Option.some Jvm.ClassFile.FieldType.int)) ∈ tables_1 := List.mem_of_getElem? (i := 12) rfl
theorem own_w13 : (Jvm.Cond.methodLink "com/example/gatherline/gatherline/RunSplitFindPinLaw" (10 : Nat) ({ cls := "com/example/gatherline/gatherline/RunSplitFindPinLaw", name := "cand", desc := "([IIIII)I" } : Jvm.MethodName)) ∈ tables_1 := List.mem_of_getElem? (i := 13) rfl
theorem own_w14 : (Jvm.Cond.static ({ cls := "com/example/gatherline/gatherline/RunSplitFindPinLaw", name := "cand", desc := "([IIIII)I" } : Jvm.MethodName)) ∈ tables_1 := List.mem_of_getElem? (i := 14) rfl
theorem own_w15 : (Jvm.Cond.code ({ cls := "com/example/gatherline/gatherline/RunSplitFindPinLaw", name := "cand", desc := "([IIIII)I" } : Jvm.MethodName) method_3_code (5 : Nat) (Option.some Jvm.ClassFile.FieldType.int)) ∈ tables_1 := List.mem_of_getElem? (i := 15) rfl
theorem own_w16 : (Jvm.Cond.classLink "com/example/gatherline/gatherline/RunSplitFindPinLaw" (7 : Nat) "com/example/gatherline/gatherline/RunSplit") ∈ tables_1 := List.mem_of_getElem? (i := 16) rfl
theorem own_w17 : (Jvm.Cond.instantiable "com/example/gatherline/gatherline/RunSplit" (6 : Nat)) ∈ tables_1 := List.mem_of_getElem? (i := 17) rfl
theorem own_w18 : (Jvm.Cond.initialized "com/example/gatherline/gatherline/RunSplit") ∈ tables_1 := List.mem_of_getElem? (i := 18) rfl
theorem own_w19 : (Jvm.Cond.methodLink "com/example/gatherline/gatherline/RunSplitFindPinLaw" (38 : Nat) ({ cls := "com/example/gatherline/gatherline/RunSplit", name := "<init>", desc := "(II)V" } : Jvm.MethodName)) ∈ tables_1 := List.mem_of_getElem? (i := 19) rfl
theorem own_w20 : (Jvm.Cond.instanceMethod ({ cls := "com/example/gatherline/gatherline/RunSplit", name := "<init>", desc := "(II)V" } : Jvm.MethodName)) ∈ tables_1 := List.mem_of_getElem? (i := 20) rfl
theorem own_w21 : (Jvm.Cond.code ({ cls := "com/example/gatherline/gatherline/RunSplit", name := "<init>", desc := "(II)V" } : Jvm.MethodName) prog_20_method_1_code (3 : Nat) (Option.none : Option Jvm.ClassFile.FieldType)) ∈ tables_1 := List.mem_of_getElem? (i := 21) rfl
theorem own_w22 : (Jvm.Cond.methodLink "com/example/gatherline/gatherline/RunSplit" (3 : Nat) ({ cls := "java/lang/Object", name := "<init>", desc := "()V" } : Jvm.MethodName)) ∈ tables_1 := List.mem_of_getElem? (i := 22) rfl
theorem own_w23 : (Jvm.Cond.instanceMethod ({ cls := "java/lang/Object", name := "<init>", desc := "()V" } : Jvm.MethodName)) ∈ tables_1 := List.mem_of_getElem? (i := 23) rfl
theorem own_w24 : Jvm.Cond.code Lib.objectInit ⟨#[0xb1]⟩ 1 none ∈ tables_1 := List.mem_of_getElem? (i := 24) rfl
theorem own_w25 : (Jvm.Cond.fieldLink "com/example/gatherline/gatherline/RunSplit" (9 : Nat) "com/example/gatherline/gatherline/RunSplit" "pointCount" "I") ∈ tables_1 := List.mem_of_getElem? (i := 25) rfl
theorem own_w26 : (Jvm.Cond.laysFinal "com/example/gatherline/gatherline/RunSplit" "com/example/gatherline/gatherline/RunSplit" "pointCount" "I") ∈ tables_1 := List.mem_of_getElem? (i := 26) rfl
theorem own_w27 : (Jvm.Cond.fieldLink "com/example/gatherline/gatherline/RunSplit" (15 : Nat) "com/example/gatherline/gatherline/RunSplit" "minRun" "I") ∈ tables_1 := List.mem_of_getElem? (i := 27) rfl
theorem own_w28 : (Jvm.Cond.laysFinal "com/example/gatherline/gatherline/RunSplit" "com/example/gatherline/gatherline/RunSplit" "minRun" "I") ∈ tables_1 := List.mem_of_getElem? (i := 28) rfl
theorem own_w29 : (Jvm.Cond.fieldLink "com/example/gatherline/gatherline/RunSplit" (18 : Nat) "com/example/gatherline/gatherline/RunSplit" "fewestLeftOut" "[I") ∈ tables_1 := List.mem_of_getElem? (i := 29) rfl
theorem own_w30 : (Jvm.Cond.laysFinal "com/example/gatherline/gatherline/RunSplit" "com/example/gatherline/gatherline/RunSplit" "fewestLeftOut" "[I") ∈ tables_1 := List.mem_of_getElem? (i := 30) rfl
theorem own_w31 : (Jvm.Cond.fieldLink "com/example/gatherline/gatherline/RunSplit" (22 : Nat) "com/example/gatherline/gatherline/RunSplit" "runStart" "[I") ∈ tables_1 := List.mem_of_getElem? (i := 31) rfl
theorem own_w32 : (Jvm.Cond.laysFinal "com/example/gatherline/gatherline/RunSplit" "com/example/gatherline/gatherline/RunSplit" "runStart" "[I") ∈ tables_1 := List.mem_of_getElem? (i := 32) rfl
theorem own_w33 : (Jvm.Cond.fieldLink "com/example/gatherline/gatherline/RunSplit" (25 : Nat) "com/example/gatherline/gatherline/RunSplit" "queueStart" "[I") ∈ tables_1 := List.mem_of_getElem? (i := 33) rfl
theorem own_w34 : (Jvm.Cond.laysFinal "com/example/gatherline/gatherline/RunSplit" "com/example/gatherline/gatherline/RunSplit" "queueStart" "[I") ∈ tables_1 := List.mem_of_getElem? (i := 34) rfl
theorem own_w35 : (Jvm.Cond.fieldLink "com/example/gatherline/gatherline/RunSplit" (28 : Nat) "com/example/gatherline/gatherline/RunSplit" "queueLeftOut" "[I") ∈ tables_1 := List.mem_of_getElem? (i := 35) rfl
theorem own_w36 : (Jvm.Cond.laysFinal "com/example/gatherline/gatherline/RunSplit" "com/example/gatherline/gatherline/RunSplit" "queueLeftOut" "[I") ∈ tables_1 := List.mem_of_getElem? (i := 36) rfl
theorem own_w37 : (Jvm.Cond.methodLink "com/example/gatherline/gatherline/RunSplitFindPinLaw" (41 : Nat) ({ cls := "com/example/gatherline/gatherline/RunSplit", name := "find", desc := "([II)Z" } : Jvm.MethodName)) ∈ tables_1 := List.mem_of_getElem? (i := 37) rfl
theorem own_w38 : (Jvm.Cond.declares ({ cls := "com/example/gatherline/gatherline/RunSplit", name := "find", desc := "([II)Z" } : Jvm.MethodName)) ∈ tables_1 := List.mem_of_getElem? (i := 38) rfl
theorem own_w39 : (Jvm.Cond.instanceMethod ({ cls := "com/example/gatherline/gatherline/RunSplit", name := "find", desc := "([II)Z" } : Jvm.MethodName)) ∈ tables_1 := List.mem_of_getElem? (i := 39) rfl
theorem own_w40 : (Jvm.Cond.selects "com/example/gatherline/gatherline/RunSplit" ({ cls := "com/example/gatherline/gatherline/RunSplit", name := "find", desc := "([II)Z" } : Jvm.MethodName) ({ cls := "com/example/gatherline/gatherline/RunSplit", name := "find", desc := "([II)Z" } : Jvm.MethodName)) ∈ tables_1 := List.mem_of_getElem? (i := 40) rfl
theorem own_w41 : (Jvm.Cond.code ({ cls := "com/example/gatherline/gatherline/RunSplit", name := "find", desc := "([II)Z" } : Jvm.MethodName) prog_20_method_2_code (3 : Nat) (Option.some Jvm.ClassFile.FieldType.boolean)) ∈ tables_1 := List.mem_of_getElem? (i := 41) rfl
theorem own_w42 : (Jvm.Cond.methodLink "com/example/gatherline/gatherline/RunSplit" (35 : Nat) ({ cls := "com/example/gatherline/gatherline/RunSplit", name := "findLeavingOut", desc := "([II)Z" } : Jvm.MethodName)) ∈ tables_1 := List.mem_of_getElem? (i := 42) rfl
theorem own_w43 : (Jvm.Cond.instanceMethod ({ cls := "com/example/gatherline/gatherline/RunSplit", name := "findLeavingOut", desc := "([II)Z" } : Jvm.MethodName)) ∈ tables_1 := List.mem_of_getElem? (i := 43) rfl
theorem own_w44 : (Jvm.Cond.privateMethod ({ cls := "com/example/gatherline/gatherline/RunSplit", name := "findLeavingOut", desc := "([II)Z" } : Jvm.MethodName)) ∈ tables_1 := List.mem_of_getElem? (i := 44) rfl
theorem own_w45 : (Jvm.Cond.code ({ cls := "com/example/gatherline/gatherline/RunSplit", name := "findLeavingOut", desc := "([II)Z" } : Jvm.MethodName) prog_20_method_4_code (10 : Nat) (Option.some Jvm.ClassFile.FieldType.boolean)) ∈ tables_1 := List.mem_of_getElem? (i := 45) rfl
theorem own_w46 : (Jvm.Cond.methodLink "com/example/gatherline/gatherline/RunSplitFindPinLaw" (44 : Nat) ({ cls := "com/example/gatherline/gatherline/RunSplit", name := "runOf", desc := "()[I" } : Jvm.MethodName)) ∈ tables_1 := List.mem_of_getElem? (i := 46) rfl
theorem own_w47 : (Jvm.Cond.declares ({ cls := "com/example/gatherline/gatherline/RunSplit", name := "runOf", desc := "()[I" } : Jvm.MethodName)) ∈ tables_1 := List.mem_of_getElem? (i := 47) rfl
theorem own_w48 : (Jvm.Cond.instanceMethod ({ cls := "com/example/gatherline/gatherline/RunSplit", name := "runOf", desc := "()[I" } : Jvm.MethodName)) ∈ tables_1 := List.mem_of_getElem? (i := 48) rfl
theorem own_w49 : (Jvm.Cond.selects "com/example/gatherline/gatherline/RunSplit" ({ cls := "com/example/gatherline/gatherline/RunSplit", name := "runOf", desc := "()[I" } : Jvm.MethodName) ({ cls := "com/example/gatherline/gatherline/RunSplit", name := "runOf", desc := "()[I" } : Jvm.MethodName)) ∈ tables_1 := List.mem_of_getElem? (i := 49) rfl
theorem own_w50 : (Jvm.Cond.code ({ cls := "com/example/gatherline/gatherline/RunSplit", name := "runOf", desc := "()[I" } : Jvm.MethodName) prog_20_method_6_code (4 : Nat) (Option.some (Jvm.ClassFile.FieldType.array Jvm.ClassFile.FieldType.int))) ∈ tables_1 := List.mem_of_getElem? (i := 50) rfl
theorem own_w51 : (Jvm.Cond.methodLink "com/example/gatherline/gatherline/RunSplit" (45 : Nat) ({ cls := "com/example/gatherline/gatherline/RunSplit", name := "runCount", desc := "()I" } : Jvm.MethodName)) ∈ tables_1 := List.mem_of_getElem? (i := 51) rfl
theorem own_w52 : (Jvm.Cond.instanceMethod ({ cls := "com/example/gatherline/gatherline/RunSplit", name := "runCount", desc := "()I" } : Jvm.MethodName)) ∈ tables_1 := List.mem_of_getElem? (i := 52) rfl
theorem own_w53 : (Jvm.Cond.privateMethod ({ cls := "com/example/gatherline/gatherline/RunSplit", name := "runCount", desc := "()I" } : Jvm.MethodName)) ∈ tables_1 := List.mem_of_getElem? (i := 53) rfl
theorem own_w54 : (Jvm.Cond.code ({ cls := "com/example/gatherline/gatherline/RunSplit", name := "runCount", desc := "()I" } : Jvm.MethodName) prog_20_method_7_code (3 : Nat) (Option.some Jvm.ClassFile.FieldType.int)) ∈ tables_1 := List.mem_of_getElem? (i := 54) rfl
theorem own_w55 : (Jvm.Cond.methodLink "com/example/gatherline/gatherline/RunSplitFindPinLaw" (22 : Nat) ({ cls := "com/example/gatherline/gatherline/RunSplitFindPinLaw", name := "isStart", desc := "([II)Z" } : Jvm.MethodName)) ∈ tables_1 := List.mem_of_getElem? (i := 55) rfl
theorem own_w56 : (Jvm.Cond.static ({ cls := "com/example/gatherline/gatherline/RunSplitFindPinLaw", name := "isStart", desc := "([II)Z" } : Jvm.MethodName)) ∈ tables_1 := List.mem_of_getElem? (i := 56) rfl
theorem own_w57 : (Jvm.Cond.code ({ cls := "com/example/gatherline/gatherline/RunSplitFindPinLaw", name := "isStart", desc := "([II)Z" } : Jvm.MethodName) method_5_code (2 : Nat) (Option.some Jvm.ClassFile.FieldType.boolean)) ∈ tables_1 := List.mem_of_getElem? (i := 57) rfl
theorem own_w58 : (Jvm.Cond.methodLink "com/example/gatherline/gatherline/RunSplitFindPinLaw" (48 : Nat) ({ cls := "com/example/gatherline/gatherline/RunSplitFindPinLaw", name := "one", desc := "(Z)I" } : Jvm.MethodName)) ∈ tables_1 := List.mem_of_getElem? (i := 58) rfl
theorem own_w59 : (Jvm.Cond.static ({ cls := "com/example/gatherline/gatherline/RunSplitFindPinLaw", name := "one", desc := "(Z)I" } : Jvm.MethodName)) ∈ tables_1 := List.mem_of_getElem? (i := 59) rfl
theorem own_w60 : (Jvm.Cond.code ({ cls := "com/example/gatherline/gatherline/RunSplitFindPinLaw", name := "one", desc := "(Z)I" } : Jvm.MethodName) method_8_code (1 : Nat) (Option.some Jvm.ClassFile.FieldType.int)) ∈ tables_1 := List.mem_of_getElem? (i := 60) rfl
theorem own_w61 : (Jvm.Cond.methodLink "com/example/gatherline/gatherline/RunSplitFindPinLaw" (52 : Nat) ({ cls := "com/example/gatherline/gatherline/RunSplitFindPinLaw", name := "pointOk", desc := "([IIII[II)Z" } : Jvm.MethodName)) ∈ tables_1 := List.mem_of_getElem? (i := 61) rfl
theorem own_w62 : (Jvm.Cond.static ({ cls := "com/example/gatherline/gatherline/RunSplitFindPinLaw", name := "pointOk", desc := "([IIII[II)Z" } : Jvm.MethodName)) ∈ tables_1 := List.mem_of_getElem? (i := 62) rfl
theorem own_w63 : (Jvm.Cond.code ({ cls := "com/example/gatherline/gatherline/RunSplitFindPinLaw", name := "pointOk", desc := "([IIII[II)Z" } : Jvm.MethodName) method_7_code (7 : Nat) (Option.some Jvm.ClassFile.FieldType.boolean)) ∈ tables_1 := List.mem_of_getElem? (i := 63) rfl
theorem own_w64 : (Jvm.Cond.methodLink "com/example/gatherline/gatherline/RunSplit" (49 : Nat) ({ cls := "com/example/gatherline/gatherline/RunSplit", name := "previousEnd", desc := "(I)I" } : Jvm.MethodName)) ∈ tables_1 := List.mem_of_getElem? (i := 64) rfl
theorem own_w65 : (Jvm.Cond.instanceMethod ({ cls := "com/example/gatherline/gatherline/RunSplit", name := "previousEnd", desc := "(I)I" } : Jvm.MethodName)) ∈ tables_1 := List.mem_of_getElem? (i := 65) rfl
theorem own_w66 : (Jvm.Cond.privateMethod ({ cls := "com/example/gatherline/gatherline/RunSplit", name := "previousEnd", desc := "(I)I" } : Jvm.MethodName)) ∈ tables_1 := List.mem_of_getElem? (i := 66) rfl
theorem own_w67 : (Jvm.Cond.code ({ cls := "com/example/gatherline/gatherline/RunSplit", name := "previousEnd", desc := "(I)I" } : Jvm.MethodName) prog_20_method_8_code (2 : Nat) (Option.some Jvm.ClassFile.FieldType.int)) ∈ tables_1 := List.mem_of_getElem? (i := 67) rfl
theorem own_w68 : (Jvm.Cond.methodLink "com/example/gatherline/gatherline/RunSplit" (39 : Nat) ({ cls := "java/util/Arrays", name := "fill", desc := "([IIII)V" } : Jvm.MethodName)) ∈ tables_1 := List.mem_of_getElem? (i := 68) rfl
theorem own_w69 : (Jvm.Cond.static ({ cls := "java/util/Arrays", name := "fill", desc := "([IIII)V" } : Jvm.MethodName)) ∈ tables_1 := List.mem_of_getElem? (i := 69) rfl
theorem own_w70 : (Jvm.Cond.initialized "java/util/Arrays") ∈ tables_1 := List.mem_of_getElem? (i := 70) rfl
theorem own_w71 : (Jvm.Cond.code ({ cls := "java/util/Arrays", name := "fill", desc := "([IIII)V" } : Jvm.MethodName) jdk_65_method_104_code (5 : Nat) (Option.none : Option Jvm.ClassFile.FieldType)) ∈ tables_1 := List.mem_of_getElem? (i := 71) rfl
theorem own_w72 : (Jvm.Cond.methodLink "java/util/Arrays" (13 : Nat) ({ cls := "java/util/Arrays", name := "rangeCheck", desc := "(III)V" } : Jvm.MethodName)) ∈ tables_1 := List.mem_of_getElem? (i := 72) rfl
theorem own_w73 : (Jvm.Cond.static ({ cls := "java/util/Arrays", name := "rangeCheck", desc := "(III)V" } : Jvm.MethodName)) ∈ tables_1 := List.mem_of_getElem? (i := 73) rfl
theorem own_w74 : (Jvm.Cond.code ({ cls := "java/util/Arrays", name := "rangeCheck", desc := "(III)V" } : Jvm.MethodName) jdk_65_method_30_code (3 : Nat) (Option.none : Option Jvm.ClassFile.FieldType)) ∈ tables_1 := List.mem_of_getElem? (i := 74) rfl
theorem own_w75 : (Jvm.Cond.methodLink "com/example/gatherline/gatherline/RunSplitFindPinLaw" (26 : Nat) ({ cls := "com/example/gatherline/gatherline/RunSplitFindPinLaw", name := "runEnd", desc := "([II)I" } : Jvm.MethodName)) ∈ tables_1 := List.mem_of_getElem? (i := 75) rfl
theorem own_w76 : (Jvm.Cond.static ({ cls := "com/example/gatherline/gatherline/RunSplitFindPinLaw", name := "runEnd", desc := "([II)I" } : Jvm.MethodName)) ∈ tables_1 := List.mem_of_getElem? (i := 76) rfl
theorem own_w77 : (Jvm.Cond.code ({ cls := "com/example/gatherline/gatherline/RunSplitFindPinLaw", name := "runEnd", desc := "([II)I" } : Jvm.MethodName) method_6_code (3 : Nat) (Option.some Jvm.ClassFile.FieldType.int)) ∈ tables_1 := List.mem_of_getElem? (i := 77) rfl
theorem own_w78 : (Jvm.Cond.methodLink "com/example/gatherline/gatherline/RunSplit" (31 : Nat) ({ cls := "com/example/gatherline/gatherline/RunSplit", name := "findLeavingNoneOut", desc := "([I)Z" } : Jvm.MethodName)) ∈ tables_1 := List.mem_of_getElem? (i := 78) rfl
theorem own_w79 : (Jvm.Cond.instanceMethod ({ cls := "com/example/gatherline/gatherline/RunSplit", name := "findLeavingNoneOut", desc := "([I)Z" } : Jvm.MethodName)) ∈ tables_1 := List.mem_of_getElem? (i := 79) rfl
theorem own_w80 : (Jvm.Cond.privateMethod ({ cls := "com/example/gatherline/gatherline/RunSplit", name := "findLeavingNoneOut", desc := "([I)Z" } : Jvm.MethodName)) ∈ tables_1 := List.mem_of_getElem? (i := 80) rfl
theorem own_w81 : (Jvm.Cond.code ({ cls := "com/example/gatherline/gatherline/RunSplit", name := "findLeavingNoneOut", desc := "([I)Z" } : Jvm.MethodName) prog_20_method_3_code (4 : Nat) (Option.some Jvm.ClassFile.FieldType.boolean)) ∈ tables_1 := List.mem_of_getElem? (i := 81) rfl
def own_dist : List (String × String) → Bool
  | [] => true
  | x :: r => r.all (fun y => x.1 != y.1) && own_dist r
theorem own_dist_e : ∀ (fs : List (String × String)), own_dist fs = true → ∀ (i j : Nat) n d n' d', fs[i]? = some (n, d) → fs[j]? = some (n', d') → i ≠ j → n ≠ n'
  | [], _, i, j, n, d, n', d', h1, _, _ => by simp at h1
  | x :: r, h, i, j, n, d, n', d', h1, h2, hij => by
    simp only [own_dist, Bool.and_eq_true, List.all_eq_true, bne_iff_ne, ne_eq] at h
    match i, j with
    | 0, 0 => exact absurd rfl hij
    | 0, b + 1 =>
      have g1 : x = (n, d) := Option.some.inj h1
      have g2 : r[b]? = some (n', d') := h2
      intro e
      refine h.1 _ (List.mem_of_getElem? g2) ?_
      rw [g1]
      exact e
    | a + 1, 0 =>
      have g1 : r[a]? = some (n, d) := h1
      have g2 : x = (n', d') := Option.some.inj h2
      intro e
      refine h.1 _ (List.mem_of_getElem? g1) ?_
      rw [g2]
      exact e.symm
    | a + 1, b + 1 => exact own_dist_e r h.2 a b n d n' d' h1 h2 (fun e => hij (by rw [e]))
theorem own_laid {Z : State} {a0 : Array Value} (hw : ∀ d ∈ tables_1, d.before a0 Z = true) {t : Nat} {C : String} {fs : List (String × String)} (h : own_cl t = some (C, fs)) : (∀ (i : Nat) n d, fs[i]? = some (n, d) → Laid Z a0 C C n d ∧ ∃ ty, parseFieldDescriptor d = some ty) ∧ ∀ (i j : Nat) n d n' d', fs[i]? = some (n, d) → fs[j]? = some (n', d') → i ≠ j → n ≠ n' := by
  unfold own_cl at h
  split at h
  · cases h
    refine ⟨fun i n d hi => ?_, own_dist_e _ (by decide +kernel)⟩
    match i, hi with
    | 0, hi => cases (show some ("pointCount", "I") = some (n, d) from hi); exact ⟨Or.inr (hw _ own_w26), _, own_fd0_0⟩
    | 1, hi => cases (show some ("minRun", "I") = some (n, d) from hi); exact ⟨Or.inr (hw _ own_w28), _, own_fd0_1⟩
    | 2, hi => cases (show some ("fewestLeftOut", "[I") = some (n, d) from hi); exact ⟨Or.inr (hw _ own_w30), _, own_fd0_2⟩
    | 3, hi => cases (show some ("runStart", "[I") = some (n, d) from hi); exact ⟨Or.inr (hw _ own_w32), _, own_fd0_3⟩
    | 4, hi => cases (show some ("queueStart", "[I") = some (n, d) from hi); exact ⟨Or.inr (hw _ own_w34), _, own_fd0_4⟩
    | 5, hi => cases (show some ("queueLeftOut", "[I") = some (n, d) from hi); exact ⟨Or.inr (hw _ own_w36), _, own_fd0_5⟩
    | k + 6, hi => exact nomatch (show none = some (n, d) from hi)
  · skip
    cases h
theorem own_dv0 : ∀ (i : Nat) nm d u, own_F0[i]? = some (nm, d) → own_V0[i]? = some u → ∃ ty, parseFieldDescriptor d = some ty ∧ u = defaultValue ty := by
  intro i nm d u hi hu
  match i, hi, hu with
  | 0, hi, hu => cases (show some ("pointCount", "I") = some (nm, d) from hi); cases (show some (.int 0) = some u from hu); exact ⟨_, own_fd0_0, rfl⟩
  | 1, hi, hu => cases (show some ("minRun", "I") = some (nm, d) from hi); cases (show some (.int 0) = some u from hu); exact ⟨_, own_fd0_1, rfl⟩
  | 2, hi, hu => cases (show some ("fewestLeftOut", "[I") = some (nm, d) from hi); cases (show some (.null) = some u from hu); exact ⟨_, own_fd0_2, rfl⟩
  | 3, hi, hu => cases (show some ("runStart", "[I") = some (nm, d) from hi); cases (show some (.null) = some u from hu); exact ⟨_, own_fd0_3, rfl⟩
  | 4, hi, hu => cases (show some ("queueStart", "[I") = some (nm, d) from hi); cases (show some (.null) = some u from hu); exact ⟨_, own_fd0_4, rfl⟩
  | 5, hi, hu => cases (show some ("queueLeftOut", "[I") = some (nm, d) from hi); cases (show some (.null) = some u from hu); exact ⟨_, own_fd0_5, rfl⟩
  | k + 6, hi, hu => exact nomatch (show none = some (nm, d) from hi)
/-! ### own_: a small memory model, and the walk over it
A memory is a list of cells (a tag and its values); the cell k of it stands at the heap's address n0 + k.
Every instruction has one law: from 'what is left behind it' to 'what is left at it'. -/
abbrev own_Mem := List (Nat × List Value)
def own_up (n0 : Nat) : Value → Value
  | .ref a => .ref (n0 + a)
  | v => v
def own_ty (t : Nat) : Option FieldType := if t = 100 then some .int else if t = 101 then some .long else if t = 102 then some .byte else if t = 103 then some .boolean else none
def own_Cell (Z : State) (n0 : Nat) (h : Heap) (a : Addr) (o : Nat × List Value) : Prop :=
  (∀ ty, own_ty o.1 = some ty → ∃ c : Cell, Arr Z h a c ty ∧ c.slots.toList = o.2 ∧ o.2.length < 2 ^ 31) ∧
  (∀ C fs, own_cl o.1 = some (C, fs) → Exa Z h a C ∧ ∀ (i : Nat) n d v, fs[i]? = some (n, d) → o.2[i]? = some v → Fld Z h a C n d (own_up n0 v))
def own_Rel (Z : State) (n0 : Nat) (h : Heap) (M : own_Mem) : Prop := h.size = n0 + M.length ∧ ∀ k o, M[k]? = some o → own_Cell Z n0 h (n0 + k) o
/-! what the instructions do to a memory -/
def own_at (M : own_Mem) (t a : Nat) : Option (List Value) := match M[a]? with
  | some o => if o.1 = t then some o.2 else none
  | none => none
def own_ix (vs : List Value) (j : Int32) : Option Value := if j < 0 then none else vs[j.toNatClampNeg]?
def own_vI : Option Value → Option Int32
  | some (.int x) => some x
  | _ => none
def own_vJ : Option Value → Option Int64
  | some (.long x) => some x
  | _ => none
def own_vR : Option Value → Option Nat
  | some (.ref x) => some x
  | _ => none
def own_ldI (t : Nat) (M : own_Mem) (a : Nat) (j : Int32) : Option Int32 := match own_at M t a with
  | some vs => own_vI (own_ix vs j)
  | none => none
def own_ldJ (t : Nat) (M : own_Mem) (a : Nat) (j : Int32) : Option Int64 := match own_at M t a with
  | some vs => own_vJ (own_ix vs j)
  | none => none
def own_sto (t : Nat) (M : own_Mem) (a : Nat) (j : Int32) (v : Value) : Option own_Mem := match own_at M t a with
  | some vs => if j < 0 ∨ vs.length ≤ j.toNatClampNeg then none else some (M.set a (t, vs.set j.toNatClampNeg v))
  | none => none
def own_len (t : Nat) (M : own_Mem) (a : Nat) : Option Int32 := match own_at M t a with
  | some vs => some vs.length.toInt32
  | none => none
def own_getI (t i : Nat) (M : own_Mem) (a : Nat) : Option Int32 := match own_at M t a with
  | some vs => own_vI vs[i]?
  | none => none
def own_getJ (t i : Nat) (M : own_Mem) (a : Nat) : Option Int64 := match own_at M t a with
  | some vs => own_vJ vs[i]?
  | none => none
def own_getR (t i : Nat) (M : own_Mem) (a : Nat) : Option Nat := match own_at M t a with
  | some vs => own_vR vs[i]?
  | none => none
def own_put (t i : Nat) (M : own_Mem) (a : Nat) (v : Value) : Option own_Mem := match own_at M t a with
  | some vs => if i < vs.length then some (M.set a (t, vs.set i v)) else none
  | none => none
def own_newA (t cap : Nat) (d : Value) (M : own_Mem) (n : Int32) : Option (Nat × own_Mem) := if n < 0 ∨ cap < n.toNatClampNeg then none else some (M.length, M ++ [(t, List.replicate n.toNatClampNeg d)])
def own_newO (t : Nat) (vs : List Value) (M : own_Mem) : Option (Nat × own_Mem) := some (M.length, M ++ [(t, vs)])
def own_let {α β : Type} (x : α) (k : α → Option β) : Option β := k x
def own_nz {β : Type} (b : Prop) [Decidable b] (k : Option β) : Option β := if b then none else k
/-! facts on a memory and the heap -/
theorem own_at_e {M : own_Mem} {t a : Nat} {vs : List Value} (h : own_at M t a = some vs) : M[a]? = some (t, vs) := by
  unfold own_at at h
  split at h
  · rename_i o ho
    split at h
    · rename_i ht
      cases h
      rw [ho, ← ht]
    · cases h
  · cases h
theorem own_vI_e {o : Option Value} {x : Int32} (h : own_vI o = some x) : o = some (.int x) := by
  unfold own_vI at h; split at h <;> cases h; rfl
theorem own_vJ_e {o : Option Value} {x : Int64} (h : own_vJ o = some x) : o = some (.long x) := by
  unfold own_vJ at h; split at h <;> cases h; rfl
theorem own_vR_e {o : Option Value} {x : Nat} (h : own_vR o = some x) : o = some (.ref x) := by
  unfold own_vR at h; split at h <;> cases h; rfl
theorem own_ix_e {vs : List Value} {j : Int32} {v : Value} (h : own_ix vs j = some v) : ¬ j < 0 ∧ vs[j.toNatClampNeg]? = some v := by
  unfold own_ix at h; split at h
  · cases h
  · exact ⟨by assumption, h⟩
theorem own_ldI_e {t : Nat} {M : own_Mem} {a : Nat} {j x : Int32} (h : own_ldI t M a j = some x) : ∃ vs, M[a]? = some (t, vs) ∧ ¬ j < 0 ∧ vs[j.toNatClampNeg]? = some (.int x) := by
  unfold own_ldI at h; split at h
  · rename_i vs hv; exact ⟨vs, own_at_e hv, own_ix_e (own_vI_e h)⟩
  · cases h
theorem own_ldJ_e {t : Nat} {M : own_Mem} {a : Nat} {j : Int32} {x : Int64} (h : own_ldJ t M a j = some x) : ∃ vs, M[a]? = some (t, vs) ∧ ¬ j < 0 ∧ vs[j.toNatClampNeg]? = some (.long x) := by
  unfold own_ldJ at h; split at h
  · rename_i vs hv; exact ⟨vs, own_at_e hv, own_ix_e (own_vJ_e h)⟩
  · cases h
theorem own_sto_e {t : Nat} {M M1 : own_Mem} {a : Nat} {j : Int32} {v : Value} (h : own_sto t M a j v = some M1) : ∃ vs, M[a]? = some (t, vs) ∧ ¬ (j < 0 ∨ vs.length ≤ j.toNatClampNeg) ∧ M1 = M.set a (t, vs.set j.toNatClampNeg v) := by
  unfold own_sto at h; split at h
  · rename_i vs hv; split at h
    · cases h
    · cases h; exact ⟨vs, own_at_e hv, by assumption, rfl⟩
  · cases h
theorem own_len_e {t : Nat} {M : own_Mem} {a : Nat} {x : Int32} (h : own_len t M a = some x) : ∃ vs, M[a]? = some (t, vs) ∧ x = vs.length.toInt32 := by
  unfold own_len at h; split at h
  · rename_i vs hv; cases h; exact ⟨vs, own_at_e hv, rfl⟩
  · cases h
theorem own_getI_e {t i : Nat} {M : own_Mem} {a : Nat} {x : Int32} (h : own_getI t i M a = some x) : ∃ vs, M[a]? = some (t, vs) ∧ vs[i]? = some (.int x) := by
  unfold own_getI at h; split at h
  · rename_i vs hv; exact ⟨vs, own_at_e hv, own_vI_e h⟩
  · cases h
theorem own_getJ_e {t i : Nat} {M : own_Mem} {a : Nat} {x : Int64} (h : own_getJ t i M a = some x) : ∃ vs, M[a]? = some (t, vs) ∧ vs[i]? = some (.long x) := by
  unfold own_getJ at h; split at h
  · rename_i vs hv; exact ⟨vs, own_at_e hv, own_vJ_e h⟩
  · cases h
theorem own_getR_e {t i : Nat} {M : own_Mem} {a : Nat} {x : Nat} (h : own_getR t i M a = some x) : ∃ vs, M[a]? = some (t, vs) ∧ vs[i]? = some (.ref x) := by
  unfold own_getR at h; split at h
  · rename_i vs hv; exact ⟨vs, own_at_e hv, own_vR_e h⟩
  · cases h
theorem own_put_e {t i : Nat} {M M1 : own_Mem} {a : Nat} {v : Value} (h : own_put t i M a v = some M1) : ∃ vs, M[a]? = some (t, vs) ∧ i < vs.length ∧ M1 = M.set a (t, vs.set i v) := by
  unfold own_put at h; split at h
  · rename_i vs hv; split at h
    · cases h; exact ⟨vs, own_at_e hv, by assumption, rfl⟩
    · cases h
  · cases h
theorem own_bind {α β : Type} {o : Option α} {k : α → Option β} {r : β} (h : o.bind k = some r) : ∃ q, o = some q ∧ k q = some r := by
  cases o with
  | none => cases h
  | some q => exact ⟨q, rfl, h⟩
theorem own_bk {α β : Type} {P : Prop} {o : Option α} {k : α → Option β} {r : β} (h : o.bind k = some r) (f : ∀ q, o = some q → k q = some r → P) : P := by
  obtain ⟨q, h1, h2⟩ := own_bind h
  exact f q h1 h2
theorem own_ty_cl {t : Nat} {ty : FieldType} (h : own_ty t = some ty) : own_cl t = none := by
  unfold own_ty at h
  split at h
  · subst t; rfl
  · split at h
    · subst t; rfl
    · split at h
      · subst t; rfl
      · split at h
        · subst t; rfl
        · cases h
section OwnRel
variable {Z : State} {a0 : Array Value} {n0 : Nat} {h h' : Heap} {M : own_Mem}
theorem own_arr (R : own_Rel Z n0 h M) {t a : Nat} {ty : FieldType} {vs : List Value} (ht : own_ty t = some ty) (hm : M[a]? = some (t, vs)) : ∃ c : Cell, Arr Z h (n0 + a) c ty ∧ c.slots.toList = vs ∧ vs.length < 2 ^ 31 := (R.2 a _ hm).1 ty ht
theorem own_obj (R : own_Rel Z n0 h M) {t a : Nat} {C : String} {fs : List (String × String)} {vs : List Value} (ht : own_cl t = some (C, fs)) (hm : M[a]? = some (t, vs)) : Exa Z h (n0 + a) C ∧ ∀ (i : Nat) n d v, fs[i]? = some (n, d) → vs[i]? = some v → Fld Z h (n0 + a) C n d (own_up n0 v) := (R.2 a _ hm).2 C fs ht
theorem own_inj {n0 a k : Nat} (h : ¬ k = a) : n0 + k ≠ n0 + a := fun e => h (Nat.add_left_cancel e)
theorem own_wrA (R : own_Rel Z n0 h M) {t a j : Nat} {ty : FieldType} {vs : List Value} {v : Value} (ht : own_ty t = some ty) (hm : M[a]? = some (t, vs)) (W : Wr h h' (n0 + a) j v) : own_Rel Z n0 h' (M.set a (t, vs.set j v)) := by
  refine ⟨by rw [W.size, R.1, List.length_set], fun k o hk => ?_⟩
  by_cases e : k = a
  · subst e
    have hlt : k < M.length := (List.getElem?_eq_some_iff.mp hm).1
    rw [List.getElem?_set_self hlt] at hk
    cases hk
    obtain ⟨c, A, hs, hl⟩ := own_arr R ht hm
    refine ⟨fun ty' ht' => ?_, fun C fs hc => (by rw [own_ty_cl ht] at hc; cases hc)⟩
    cases ht.symm.trans ht'
    refine ⟨_, A.same W, ?_, by simpa using hl⟩
    simp [Cell.setSlot, hs]
  · rw [List.getElem?_set_ne (fun q => e q.symm)] at hk
    have q := R.2 k o hk
    refine ⟨fun ty' ht' => ?_, fun C fs hc => ?_⟩
    · obtain ⟨c, A, r⟩ := q.1 ty' ht'
      exact ⟨c, A.other W (own_inj e), r⟩
    · obtain ⟨E, F⟩ := q.2 C fs hc
      exact ⟨E.wr W, fun i n d v h1 h2 => (F i n d v h1 h2).other W (Or.inl (own_inj e))⟩
theorem own_wrF (R : own_Rel Z n0 h M) (hw : ∀ d ∈ tables_1, d.before a0 Z = true) {t a i : Nat} {C n d : String} {fs : List (String × String)} {vs : List Value} {v : Value} (ht : own_cl t = some (C, fs)) (hm : M[a]? = some (t, vs)) (hi : fs[i]? = some (n, d)) (hv : i < vs.length) (W : Wr h h' (n0 + a) (Jvm.RoadKit.slotOf Z C n d) (own_up n0 v)) : own_Rel Z n0 h' (M.set a (t, vs.set i v)) := by
  refine ⟨by rw [W.size, R.1, List.length_set], fun k o hk => ?_⟩
  by_cases e : k = a
  · subst e
    have hlt : k < M.length := (List.getElem?_eq_some_iff.mp hm).1
    rw [List.getElem?_set_self hlt] at hk
    cases hk
    obtain ⟨E, F⟩ := own_obj R ht hm
    refine ⟨fun ty ht' => (by rw [own_ty_cl ht'] at ht; cases ht), fun C' fs' hc => ?_⟩
    cases ht.symm.trans hc
    obtain ⟨L, ND⟩ := own_laid hw ht
    refine ⟨E.wr W, fun i' n' d' v' h1 h2 => ?_⟩
    by_cases ei : i' = i
    · subst ei
      cases hi.symm.trans h1
      rw [List.getElem?_set_self hv] at h2
      cases h2
      exact (F _ _ _ _ hi (List.getElem?_eq_getElem hv)).same W
    · rw [List.getElem?_set_ne (fun q => ei q.symm)] at h2
      obtain ⟨L1, ty1, p1⟩ := L _ _ _ h1
      obtain ⟨L2, ty2, p2⟩ := L _ _ _ hi
      exact (F _ _ _ _ h1 h2).other W (Or.inr (slot_ne L1 L2 (ND _ _ _ _ _ _ h1 hi ei) p1 p2))
  · rw [List.getElem?_set_ne (fun q => e q.symm)] at hk
    have q := R.2 k o hk
    refine ⟨fun ty' ht' => ?_, fun C' fs' hc => ?_⟩
    · obtain ⟨c, A, r⟩ := q.1 ty' ht'
      exact ⟨c, A.other W (own_inj e), r⟩
    · obtain ⟨E, F⟩ := q.2 C' fs' hc
      exact ⟨E.wr W, fun i n d v h1 h2 => (F i n d v h1 h2).other W (Or.inl (own_inj e))⟩
theorem own_push (R : own_Rel Z n0 h M) {c : Cell} {o : Nat × List Value} (E : Ext h (h.push c)) (H : own_Cell Z n0 (h.push c) h.size o) : own_Rel Z n0 (h.push c) (M ++ [o]) := by
  refine ⟨by simp [R.1]; omega, fun k q hk => ?_⟩
  rcases Nat.lt_or_ge k (List.length M) with e | e
  · rw [List.getElem?_append_left e] at hk
    have z := R.2 k q hk
    refine ⟨fun ty' ht' => ?_, fun C' fs' hc => ?_⟩
    · obtain ⟨c, A, r⟩ := z.1 ty' ht'
      exact ⟨c, A.ext E, r⟩
    · obtain ⟨E', F⟩ := z.2 C' fs' hc
      exact ⟨E'.ext E, fun i n d v h1 h2 => (F i n d v h1 h2).ext E⟩
  · have ek : k = List.length M := by
      have hh := (List.getElem?_eq_some_iff.mp hk).1
      rw [List.length_append, List.length_singleton] at hh
      exact Nat.le_antisymm (Nat.lt_succ_iff.mp hh) e
    subst ek
    rw [List.getElem?_append_right (Nat.le_refl _)] at hk
    simp at hk
    subst hk
    rw [← R.1]
    exact H
end OwnRel
/-! ### own_W: what is left to do at a place of a body -/
abbrev own_Ctx := Program × Launch × Env × Room × State × MethodId × Array Value × List Frame × Method × Code × State × Array Value × Nat
def own_p (C : own_Ctx) : Program := C.1
def own_l (C : own_Ctx) : Launch := C.2.1
def own_e (C : own_Ctx) : Env := C.2.2.1
def own_R (C : own_Ctx) : Room := C.2.2.2.1
def own_s (C : own_Ctx) : State := C.2.2.2.2.1
def own_m (C : own_Ctx) : MethodId := C.2.2.2.2.2.1
def own_a (C : own_Ctx) : Array Value := C.2.2.2.2.2.2.1
def own_b (C : own_Ctx) : List Frame := C.2.2.2.2.2.2.2.1
def own_h (C : own_Ctx) : Method := C.2.2.2.2.2.2.2.2.1
def own_c (C : own_Ctx) : Code := C.2.2.2.2.2.2.2.2.2.1
def own_Z (C : own_Ctx) : State := C.2.2.2.2.2.2.2.2.2.2.1
def own_z (C : own_Ctx) : Array Value := C.2.2.2.2.2.2.2.2.2.2.2.1
def own_n (C : own_Ctx) : Nat := C.2.2.2.2.2.2.2.2.2.2.2.2
abbrev own_X (C : own_Ctx) (T : State) (locs : List Loc) (cs ss : Nat) : Prop := Stand (own_p C) (own_l C) (own_e C) (own_R C) (own_s C) (own_m C) (own_a C) (own_b C) (own_h C) (own_c C) T locs cs ss
abbrev own_Go (C : own_Ctx) (T : State) (pc : Nat) (Ls : List Slot) (st : List Value) (t : State) : Prop := Steps (own_p C).tables (own_e C) (own_b C) (T.setTop (mkF (own_m C) pc Ls.toArray st)) t
def own_S (C : own_Ctx) (T : State) (M : own_Mem) (cs ss : Nat) : Prop := ∃ locs, own_X C T locs cs ss ∧ Fr (own_n C) locs ∧ own_Rel (own_Z C) (own_n C) T.heap M ∧ cs ≤ (own_R C).cells ∧ ss ≤ (own_R C).slots
def own_K (C : own_Ctx) (bytes : ByteArray) (ml : Nat) (own : String) (ret : Option FieldType) (nm : String) (R : Room) : Prop :=
  (own_p C).tables.exec = Jvm.exec ∧ (own_c C).code = bytes ∧ (own_c C).maxLocals = ml ∧ (own_Z C).Warmed39 (own_s C).vm ∧ (own_s C).vm.findClass own = some (own_m C).cls ∧ (∀ d ∈ tables_1, d.before (own_z C) (own_Z C) = true) ∧ (own_h C).sig.returnType = ret ∧ (own_h C).name = nm ∧ (own_h C).locks = false ∧ own_R C = R
def own_W (C : own_Ctx) (v : Option Value) (M' M : own_Mem) (cs ss pc : Nat) (Ls : List Slot) (st : List Value) : Prop :=
  ∀ T, own_S C T M cs ss → ∃ U o, own_Go C T pc Ls st U ∧ U.status = .running ∧ Ended U (own_b C) o ∧ ∃ v' L, o = .returned v' ∧ (v' = v.map (own_up (own_n C)) ∧ own_Rel (own_Z C) (own_n C) U.heap M' ∧ Fr (own_n C) L) ∧ FrameEnd (own_s C) o U L (own_R C).cells (own_R C).slots
def own_nth : List Slot → Nat → Option Slot
  | [], _ => none
  | x :: _, 0 => some x
  | _ :: r, k + 1 => own_nth r k
theorem own_nth_e : ∀ (L : List Slot) (k : Nat), L.toArray[k]? = own_nth L k
  | [], k => by simp [own_nth]
  | x :: r, 0 => by simp [own_nth]
  | x :: r, k + 1 => by
    have q := own_nth_e r k
    simp only [List.getElem?_toArray] at q ⊢
    simpa [own_nth] using q
def own_One (z : Slot) : Prop := z = .unset ∨ ∃ w : Value, z = .val w ∧ w.category = 1
theorem own_one_u : own_One .unset := Or.inl rfl
theorem own_one_i {x : Int32} : own_One (.val (.int x)) := Or.inr ⟨_, rfl, rfl⟩
theorem own_one_r {x : Nat} : own_One (.val (.ref x)) := Or.inr ⟨_, rfl, rfl⟩
section OwnSteps
variable {C : own_Ctx} {bytes : ByteArray} {ml : Nat} {own : String} {ret : Option FieldType} {nm : String} {R : Room} {v : Option Value} {M' M M1 : own_Mem} {cs ss cs1 ss1 pc pc' pc1 pc2 : Nat} {Ls Ls' : List Slot} {st st' : List Value}
theorem own_K.x (K : own_K C bytes ml own ret nm R) : (own_p C).tables.exec = Jvm.exec := K.1
theorem own_K.kb (K : own_K C bytes ml own ret nm R) : (own_c C).code = bytes := K.2.1
theorem own_K.kl (K : own_K C bytes ml own ret nm R) : (own_c C).maxLocals = ml := K.2.2.1
theorem own_K.kz (K : own_K C bytes ml own ret nm R) : (own_Z C).Warmed39 (own_s C).vm := K.2.2.2.1
theorem own_K.ko (K : own_K C bytes ml own ret nm R) : (own_s C).vm.findClass own = some (own_m C).cls := K.2.2.2.2.1
theorem own_K.w (K : own_K C bytes ml own ret nm R) : ∀ d ∈ tables_1, d.before (own_z C) (own_Z C) = true := K.2.2.2.2.2.1
theorem own_K.kt (K : own_K C bytes ml own ret nm R) : (own_h C).sig.returnType = ret := K.2.2.2.2.2.2.1
theorem own_K.kn (K : own_K C bytes ml own ret nm R) : (own_h C).name = nm := K.2.2.2.2.2.2.2.1
theorem own_K.lk (K : own_K C bytes ml own ret nm R) : (own_h C).locks = false := K.2.2.2.2.2.2.2.2.1
theorem own_K.kr (K : own_K C bytes ml own ret nm R) : own_R C = R := K.2.2.2.2.2.2.2.2.2
theorem own_go (f : ∀ T, own_S C T M cs ss → ∃ T1, own_S C T1 M1 cs1 ss1 ∧ ∀ t, own_Go C T1 pc1 Ls' st' t → own_Go C T pc Ls st t) (k : own_W C v M' M1 cs1 ss1 pc1 Ls' st') : own_W C v M' M cs ss pc Ls st := fun T hT => by
  obtain ⟨T1, h1, h2⟩ := f T hT
  obtain ⟨U, o, h3, h4⟩ := k T1 h1
  exact ⟨U, o, h2 _ h3, h4⟩
theorem own_gp (f : ∀ T locs, own_X C T locs cs ss → ∀ t, own_Go C T pc1 Ls' st' t → own_Go C T pc Ls st t) (k : own_W C v M' M cs ss pc1 Ls' st') : own_W C v M' M cs ss pc Ls st :=
  own_go (fun T hT => ⟨T, hT, by obtain ⟨locs, X, -⟩ := hT; exact f T locs X⟩) k
theorem own_more (K : own_K C bytes ml own ret nm R) (h1 : cs ≤ cs1) (h2 : ss ≤ ss1) (h3 : cs1 ≤ R.cells) (h4 : ss1 ≤ R.slots) (k : own_W C v M' M cs1 ss1 pc Ls st) : own_W C v M' M cs ss pc Ls st :=
  fun T ⟨locs, X, N, r, _, _⟩ => k T ⟨locs, X.more h1 h2, N, r, by rw [K.kr]; exact h3, by rw [K.kr]; exact h4⟩
/-! constants and locals -/
theorem own_iconst (K : own_K C bytes ml own ret nm R) {i : Int} {x : Int32} (hd : decode bytes pc = .ok (.iconst i, 1)) (hx : Int32.ofInt i = x) (hn : pc + 1 = pc') (k : own_W C v M' M cs ss pc' Ls (.int x :: st)) : own_W C v M' M cs ss pc Ls st := by
  subst hn hx; exact own_gp (fun T locs X t q => XS.iconst X.here K.x rfl (hb K.kb hd) q) k
theorem own_bipush (K : own_K C bytes ml own ret nm R) {i : Int} {x : Int32} (hd : decode bytes pc = .ok (.bipush i, 2)) (hx : (Int8.ofInt i).toInt32 = x) (hn : pc + 2 = pc') (k : own_W C v M' M cs ss pc' Ls (.int x :: st)) : own_W C v M' M cs ss pc Ls st := by
  subst hn hx; exact own_gp (fun T locs X t q => XS.bipush X.here K.x rfl (hb K.kb hd) q) k
theorem own_sipush (K : own_K C bytes ml own ret nm R) {i : Int} {x : Int32} (hd : decode bytes pc = .ok (.sipush i, 3)) (hx : (Int16.ofInt i).toInt32 = x) (hn : pc + 3 = pc') (k : own_W C v M' M cs ss pc' Ls (.int x :: st)) : own_W C v M' M cs ss pc Ls st := by
  subst hn hx; exact own_gp (fun T locs X t q => XS.sipush X.here K.x rfl (hb K.kb hd) q) k
theorem own_lconst (K : own_K C bytes ml own ret nm R) {i : Fin 2} {x : Int64} (hd : decode bytes pc = .ok (.lconst i, 1)) (hx : Int64.ofNat i = x) (hn : pc + 1 = pc') (k : own_W C v M' M cs ss pc' Ls (.long x :: st)) : own_W C v M' M cs ss pc Ls st := by
  subst hn hx; exact own_gp (fun T locs X t q => XS.lconst X.here K.x rfl (hb K.kb hd) q) k
theorem own_ldc (K : own_K C bytes ml own ret nm R) {i : Nat} {x : Int32} (hd : decode bytes pc = .ok (.ldc i, 2)) (w : Jvm.Cond.constant own i x ∈ tables_1) (hn : pc + 2 = pc') (k : own_W C v M' M cs ss pc' Ls (.int x :: st)) : own_W C v M' M cs ss pc Ls st := by
  subst hn; exact own_gp (fun T locs X t q => X.ldcInt K.x K.ko (mvT K.kz (K.w _ w)) (g := mkF (own_m C) pc Ls.toArray st) rfl (hb K.kb hd) t q) k
theorem own_ldc2 (K : own_K C bytes ml own ret nm R) {i : Nat} {x : Int64} (hd : decode bytes pc = .ok (.ldc2_w i, 3)) (w : Jvm.Cond.constantLong own i x ∈ tables_1) (hn : pc + 3 = pc') (k : own_W C v M' M cs ss pc' Ls (.long x :: st)) : own_W C v M' M cs ss pc Ls st := by
  subst hn; exact own_gp (fun T locs X t q => X.ldc2Long K.x K.ko (mvT K.kz (K.w _ w)) (g := mkF (own_m C) pc Ls.toArray st) rfl (hb K.kb hd) t q) k
theorem own_iloadN (K : own_K C bytes ml own ret nm R) {i : Fin 4} {x : Int32} (hd : decode bytes pc = .ok (.iload_n i, 1)) (hl : own_nth Ls i.val = some (.val (.int x))) (hn : pc + 1 = pc') (k : own_W C v M' M cs ss pc' Ls (.int x :: st)) : own_W C v M' M cs ss pc Ls st := by
  subst hn; exact own_gp (fun T locs X t q => XS.iloadN X.here K.x rfl (hb K.kb hd) ((own_nth_e _ _).trans hl) q) k
theorem own_iload (K : own_K C bytes ml own ret nm R) {i : Nat} {x : Int32} (hd : decode bytes pc = .ok (.iload i, 2)) (hl : own_nth Ls i = some (.val (.int x))) (hn : pc + 2 = pc') (k : own_W C v M' M cs ss pc' Ls (.int x :: st)) : own_W C v M' M cs ss pc Ls st := by
  subst hn; exact own_gp (fun T locs X t q => XS.iload X.here K.x rfl (hb K.kb hd) ((own_nth_e _ _).trans hl) q) k
theorem own_lloadN (K : own_K C bytes ml own ret nm R) {i : Fin 4} {x : Int64} (hd : decode bytes pc = .ok (.lload_n i, 1)) (hl : own_nth Ls i.val = some (.val (.long x))) (hn : pc + 1 = pc') (k : own_W C v M' M cs ss pc' Ls (.long x :: st)) : own_W C v M' M cs ss pc Ls st := by
  subst hn; exact own_gp (fun T locs X t q => XS.lloadN X.here K.x rfl (hb K.kb hd) ((own_nth_e _ _).trans hl) q) k
theorem own_lload (K : own_K C bytes ml own ret nm R) {i : Nat} {x : Int64} (hd : decode bytes pc = .ok (.lload i, 2)) (hl : own_nth Ls i = some (.val (.long x))) (hn : pc + 2 = pc') (k : own_W C v M' M cs ss pc' Ls (.long x :: st)) : own_W C v M' M cs ss pc Ls st := by
  subst hn; exact own_gp (fun T locs X t q => XS.lload X.here K.x rfl (hb K.kb hd) ((own_nth_e _ _).trans hl) q) k
theorem own_aloadN (K : own_K C bytes ml own ret nm R) {i : Fin 4} {x : Nat} (hd : decode bytes pc = .ok (.aload_n i, 1)) (hl : own_nth Ls i.val = some (.val (.ref x))) (hn : pc + 1 = pc') (k : own_W C v M' M cs ss pc' Ls (.ref x :: st)) : own_W C v M' M cs ss pc Ls st := by
  subst hn; exact own_gp (fun T locs X t q => XS.aloadN X.here K.x rfl (hb K.kb hd) ((own_nth_e _ _).trans hl) rfl q) k
theorem own_aload (K : own_K C bytes ml own ret nm R) {i : Nat} {x : Nat} (hd : decode bytes pc = .ok (.aload i, 2)) (hl : own_nth Ls i = some (.val (.ref x))) (hn : pc + 2 = pc') (k : own_W C v M' M cs ss pc' Ls (.ref x :: st)) : own_W C v M' M cs ss pc Ls st := by
  subst hn; exact own_gp (fun T locs X t q => XS.aload X.here K.x rfl (hb K.kb hd) ((own_nth_e _ _).trans hl) rfl q) k
theorem own_sto1 {o : Slot} {i : Nat} {w : Value} (hl : own_nth Ls i = some o) (ho : own_One o) (hw : w.category = 1) (he : Ls.set i (.val w) = Ls') : storeLocals Ls.toArray i w = some Ls'.toArray := by
  rw [XS.store1 ((own_nth_e _ _).trans hl) ho hw, ← he]
  simp
theorem own_istoreN (K : own_K C bytes ml own ret nm R) {i : Fin 4} {x : Int32} (hd : decode bytes pc = .ok (.istore_n i, 1)) (hl : storeLocals Ls.toArray i.val (.int x) = some Ls'.toArray) (hn : pc + 1 = pc') (k : own_W C v M' M cs ss pc' Ls' st) : own_W C v M' M cs ss pc Ls (.int x :: st) := by
  subst hn; exact own_gp (fun T locs X t q => XS.istoreN X.here K.x rfl (hb K.kb hd) rfl hl q) k
theorem own_istore (K : own_K C bytes ml own ret nm R) {i : Nat} {x : Int32} (hd : decode bytes pc = .ok (.istore i, 2)) (hl : storeLocals Ls.toArray i (.int x) = some Ls'.toArray) (hn : pc + 2 = pc') (k : own_W C v M' M cs ss pc' Ls' st) : own_W C v M' M cs ss pc Ls (.int x :: st) := by
  subst hn; exact own_gp (fun T locs X t q => XS.istore X.here K.x rfl (hb K.kb hd) rfl hl q) k
theorem own_lstoreN (K : own_K C bytes ml own ret nm R) {i : Fin 4} {x : Int64} (hd : decode bytes pc = .ok (.lstore_n i, 1)) (hl : storeLocals Ls.toArray i.val (.long x) = some Ls'.toArray) (hn : pc + 1 = pc') (k : own_W C v M' M cs ss pc' Ls' st) : own_W C v M' M cs ss pc Ls (.long x :: st) := by
  subst hn; exact own_gp (fun T locs X t q => XS.lstoreN X.here K.x rfl (hb K.kb hd) rfl hl q) k
theorem own_lstore (K : own_K C bytes ml own ret nm R) {i : Nat} {x : Int64} (hd : decode bytes pc = .ok (.lstore i, 2)) (hl : storeLocals Ls.toArray i (.long x) = some Ls'.toArray) (hn : pc + 2 = pc') (k : own_W C v M' M cs ss pc' Ls' st) : own_W C v M' M cs ss pc Ls (.long x :: st) := by
  subst hn; exact own_gp (fun T locs X t q => XS.lstore X.here K.x rfl (hb K.kb hd) rfl hl q) k
theorem own_astoreN (K : own_K C bytes ml own ret nm R) {i : Fin 4} {x : Nat} (hd : decode bytes pc = .ok (.astore_n i, 1)) (hl : storeLocals Ls.toArray i.val (.ref x) = some Ls'.toArray) (hn : pc + 1 = pc') (k : own_W C v M' M cs ss pc' Ls' st) : own_W C v M' M cs ss pc Ls (.ref x :: st) := by
  subst hn; exact own_gp (fun T locs X t q => XS.astoreN X.here K.x rfl (hb K.kb hd) rfl rfl hl q) k
theorem own_astore (K : own_K C bytes ml own ret nm R) {i : Nat} {x : Nat} (hd : decode bytes pc = .ok (.astore i, 2)) (hl : storeLocals Ls.toArray i (.ref x) = some Ls'.toArray) (hn : pc + 2 = pc') (k : own_W C v M' M cs ss pc' Ls' st) : own_W C v M' M cs ss pc Ls (.ref x :: st) := by
  subst hn; exact own_gp (fun T locs X t q => XS.astore X.here K.x rfl (hb K.kb hd) rfl rfl hl q) k
theorem own_iinc (K : own_K C bytes ml own ret nm R) {i : Nat} {c : Int} {x y : Int32} (hd : decode bytes pc = .ok (.iinc i c, 3)) (hy : Int32.ofInt c = y) (hl : own_nth Ls i = some (.val (.int x))) (he : Ls.set i (.val (.int (x + y))) = Ls') (hn : pc + 3 = pc') (k : own_W C v M' M cs ss pc' Ls' st) : own_W C v M' M cs ss pc Ls st := by
  subst hn hy; exact own_gp (fun T locs X t q => XS.iinc X.here K.x rfl (hb K.kb hd) ((own_nth_e _ _).trans hl) (own_sto1 hl own_one_i rfl he) q) k
theorem own_letI {β : Type} {e : Int32} {kk : Int32 → Option β} {r : Option β} (h : own_let e kk = r) (k : ∀ x, kk x = r → own_W C v M' M cs ss pc Ls (.int x :: st)) : own_W C v M' M cs ss pc Ls (.int e :: st) := k e h
theorem own_letJ {β : Type} {e : Int64} {kk : Int64 → Option β} {r : Option β} (h : own_let e kk = r) (k : ∀ x, kk x = r → own_W C v M' M cs ss pc Ls (.long x :: st)) : own_W C v M' M cs ss pc Ls (.long e :: st) := k e h
/-! arithmetic -/
theorem own_iadd (K : own_K C bytes ml own ret nm R) {x y : Int32} (hd : decode bytes pc = .ok (.iadd, 1)) (hn : pc + 1 = pc') (k : own_W C v M' M cs ss pc' Ls (.int (x + y) :: st)) : own_W C v M' M cs ss pc Ls (.int y :: .int x :: st) := by
  subst hn; exact own_gp (fun T locs X t q => XS.iadd X.here K.x rfl (hb K.kb hd) rfl q) k
theorem own_isub (K : own_K C bytes ml own ret nm R) {x y : Int32} (hd : decode bytes pc = .ok (.isub, 1)) (hn : pc + 1 = pc') (k : own_W C v M' M cs ss pc' Ls (.int (x - y) :: st)) : own_W C v M' M cs ss pc Ls (.int y :: .int x :: st) := by
  subst hn; exact own_gp (fun T locs X t q => XS.isub X.here K.x rfl (hb K.kb hd) rfl q) k
theorem own_imul (K : own_K C bytes ml own ret nm R) {x y : Int32} (hd : decode bytes pc = .ok (.imul, 1)) (hn : pc + 1 = pc') (k : own_W C v M' M cs ss pc' Ls (.int (x * y) :: st)) : own_W C v M' M cs ss pc Ls (.int y :: .int x :: st) := by
  subst hn; exact own_gp (fun T locs X t q => XS.imul X.here K.x rfl (hb K.kb hd) rfl q) k
theorem own_iand (K : own_K C bytes ml own ret nm R) {x y : Int32} (hd : decode bytes pc = .ok (.iand, 1)) (hn : pc + 1 = pc') (k : own_W C v M' M cs ss pc' Ls (.int (x &&& y) :: st)) : own_W C v M' M cs ss pc Ls (.int y :: .int x :: st) := by
  subst hn; exact own_gp (fun T locs X t q => XS.iand X.here K.x rfl (hb K.kb hd) rfl q) k
theorem own_ior (K : own_K C bytes ml own ret nm R) {x y : Int32} (hd : decode bytes pc = .ok (.ior, 1)) (hn : pc + 1 = pc') (k : own_W C v M' M cs ss pc' Ls (.int (x ||| y) :: st)) : own_W C v M' M cs ss pc Ls (.int y :: .int x :: st) := by
  subst hn; exact own_gp (fun T locs X t q => XS.ior X.here K.x rfl (hb K.kb hd) rfl q) k
theorem own_ishl (K : own_K C bytes ml own ret nm R) {x y : Int32} (hd : decode bytes pc = .ok (.ishl, 1)) (hn : pc + 1 = pc') (k : own_W C v M' M cs ss pc' Ls (.int (x <<< (y &&& 31)) :: st)) : own_W C v M' M cs ss pc Ls (.int y :: .int x :: st) := by
  subst hn; exact own_gp (fun T locs X t q => XS.ishl X.here K.x rfl (hb K.kb hd) rfl q) k
theorem own_ishr (K : own_K C bytes ml own ret nm R) {x y : Int32} (hd : decode bytes pc = .ok (.ishr, 1)) (hn : pc + 1 = pc') (k : own_W C v M' M cs ss pc' Ls (.int (x >>> (y &&& 31)) :: st)) : own_W C v M' M cs ss pc Ls (.int y :: .int x :: st) := by
  subst hn; exact own_gp (fun T locs X t q => XS.ishr X.here K.x rfl (hb K.kb hd) rfl q) k
def own_ushr (x y : Int32) : Int32 := (x.toUInt32 >>> (y &&& 31).toUInt32).toInt32
def own_lushr (x : Int64) (y : Int32) : Int64 := (x.toUInt64 >>> (y &&& 0x3f).toInt64.toUInt64).toInt64
theorem own_iushr (K : own_K C bytes ml own ret nm R) {x y : Int32} (hd : decode bytes pc = .ok (.iushr, 1)) (hn : pc + 1 = pc') (k : own_W C v M' M cs ss pc' Ls (.int (own_ushr x y) :: st)) : own_W C v M' M cs ss pc Ls (.int y :: .int x :: st) := by
  subst hn; exact own_gp (fun T locs X t q => XS.iushr X.here K.x rfl (hb K.kb hd) rfl q) k
theorem own_idiv (K : own_K C bytes ml own ret nm R) {β : Type} {x y : Int32} {A : Option β} {r : β} (hd : decode bytes pc = .ok (.idiv, 1)) (h : own_nz (y = 0) A = some r) (hn : pc + 1 = pc') (k : A = some r → own_W C v M' M cs ss pc' Ls (.int (x / y) :: st)) : own_W C v M' M cs ss pc Ls (.int y :: .int x :: st) := by
  by_cases e : y = 0
  · simp [own_nz, e] at h
  · subst hn; exact own_gp (fun T locs X t q => XS.idiv X.here K.x rfl (hb K.kb hd) rfl e q) (k (by simpa [own_nz, e] using h))
theorem own_irem (K : own_K C bytes ml own ret nm R) {β : Type} {x y : Int32} {A : Option β} {r : β} (hd : decode bytes pc = .ok (.irem, 1)) (h : own_nz (y = 0) A = some r) (hn : pc + 1 = pc') (k : A = some r → own_W C v M' M cs ss pc' Ls (.int (x % y) :: st)) : own_W C v M' M cs ss pc Ls (.int y :: .int x :: st) := by
  by_cases e : y = 0
  · simp [own_nz, e] at h
  · subst hn; exact own_gp (fun T locs X t q => iremM X K.x rfl (hb K.kb hd) rfl e q) (k (by simpa [own_nz, e] using h))
theorem own_ldiv (K : own_K C bytes ml own ret nm R) {β : Type} {x y : Int64} {A : Option β} {r : β} (hd : decode bytes pc = .ok (.ldiv, 1)) (h : own_nz (y = 0) A = some r) (hn : pc + 1 = pc') (k : A = some r → own_W C v M' M cs ss pc' Ls (.long (x / y) :: st)) : own_W C v M' M cs ss pc Ls (.long y :: .long x :: st) := by
  by_cases e : y = 0
  · simp [own_nz, e] at h
  · subst hn; exact own_gp (fun T locs X t q => XS.ldiv X.here K.x rfl (hb K.kb hd) rfl e q) (k (by simpa [own_nz, e] using h))
theorem own_lrem (K : own_K C bytes ml own ret nm R) {β : Type} {x y : Int64} {A : Option β} {r : β} (hd : decode bytes pc = .ok (.lrem, 1)) (h : own_nz (y = 0) A = some r) (hn : pc + 1 = pc') (k : A = some r → own_W C v M' M cs ss pc' Ls (.long (x % y) :: st)) : own_W C v M' M cs ss pc Ls (.long y :: .long x :: st) := by
  by_cases e : y = 0
  · simp [own_nz, e] at h
  · subst hn; exact own_gp (fun T locs X t q => XS.lrem X.here K.x rfl (hb K.kb hd) rfl e (by rw [lrem_mod]; exact q)) (k (by simpa [own_nz, e] using h))
theorem own_ladd (K : own_K C bytes ml own ret nm R) {x y : Int64} (hd : decode bytes pc = .ok (.ladd, 1)) (hn : pc + 1 = pc') (k : own_W C v M' M cs ss pc' Ls (.long (x + y) :: st)) : own_W C v M' M cs ss pc Ls (.long y :: .long x :: st) := by
  subst hn; exact own_gp (fun T locs X t q => XS.ladd X.here K.x rfl (hb K.kb hd) rfl q) k
theorem own_lsub (K : own_K C bytes ml own ret nm R) {x y : Int64} (hd : decode bytes pc = .ok (.lsub, 1)) (hn : pc + 1 = pc') (k : own_W C v M' M cs ss pc' Ls (.long (x - y) :: st)) : own_W C v M' M cs ss pc Ls (.long y :: .long x :: st) := by
  subst hn; exact own_gp (fun T locs X t q => XS.lsub X.here K.x rfl (hb K.kb hd) rfl q) k
theorem own_lmul (K : own_K C bytes ml own ret nm R) {x y : Int64} (hd : decode bytes pc = .ok (.lmul, 1)) (hn : pc + 1 = pc') (k : own_W C v M' M cs ss pc' Ls (.long (x * y) :: st)) : own_W C v M' M cs ss pc Ls (.long y :: .long x :: st) := by
  subst hn; exact own_gp (fun T locs X t q => XS.lmul X.here K.x rfl (hb K.kb hd) rfl q) k
theorem own_land (K : own_K C bytes ml own ret nm R) {x y : Int64} (hd : decode bytes pc = .ok (.land, 1)) (hn : pc + 1 = pc') (k : own_W C v M' M cs ss pc' Ls (.long (x &&& y) :: st)) : own_W C v M' M cs ss pc Ls (.long y :: .long x :: st) := by
  subst hn; exact own_gp (fun T locs X t q => XS.land X.here K.x rfl (hb K.kb hd) rfl q) k
theorem own_lor (K : own_K C bytes ml own ret nm R) {x y : Int64} (hd : decode bytes pc = .ok (.lor, 1)) (hn : pc + 1 = pc') (k : own_W C v M' M cs ss pc' Ls (.long (x ||| y) :: st)) : own_W C v M' M cs ss pc Ls (.long y :: .long x :: st) := by
  subst hn; exact own_gp (fun T locs X t q => XS.lor X.here K.x rfl (hb K.kb hd) rfl q) k
theorem own_lxor (K : own_K C bytes ml own ret nm R) {x y : Int64} (hd : decode bytes pc = .ok (.lxor, 1)) (hn : pc + 1 = pc') (k : own_W C v M' M cs ss pc' Ls (.long (x ^^^ y) :: st)) : own_W C v M' M cs ss pc Ls (.long y :: .long x :: st) := by
  subst hn; exact own_gp (fun T locs X t q => XS.lxor X.here K.x rfl (hb K.kb hd) rfl q) k
theorem own_lshl (K : own_K C bytes ml own ret nm R) {x : Int64} {y : Int32} (hd : decode bytes pc = .ok (.lshl, 1)) (hn : pc + 1 = pc') (k : own_W C v M' M cs ss pc' Ls (.long (x <<< (y &&& 0x3f).toInt64) :: st)) : own_W C v M' M cs ss pc Ls (.int y :: .long x :: st) := by
  subst hn; exact own_gp (fun T locs X t q => XS.lshl X.here K.x rfl (hb K.kb hd) rfl q) k
theorem own_lshr (K : own_K C bytes ml own ret nm R) {x : Int64} {y : Int32} (hd : decode bytes pc = .ok (.lshr, 1)) (hn : pc + 1 = pc') (k : own_W C v M' M cs ss pc' Ls (.long (x >>> (y &&& 0x3f).toInt64) :: st)) : own_W C v M' M cs ss pc Ls (.int y :: .long x :: st) := by
  subst hn; exact own_gp (fun T locs X t q => XS.lshr X.here K.x rfl (hb K.kb hd) rfl q) k
theorem own_lushr' (K : own_K C bytes ml own ret nm R) {x : Int64} {y : Int32} (hd : decode bytes pc = .ok (.lushr, 1)) (hn : pc + 1 = pc') (k : own_W C v M' M cs ss pc' Ls (.long (own_lushr x y) :: st)) : own_W C v M' M cs ss pc Ls (.int y :: .long x :: st) := by
  subst hn; exact own_gp (fun T locs X t q => XS.lushr X.here K.x rfl (hb K.kb hd) rfl q) k
theorem own_i2l (K : own_K C bytes ml own ret nm R) {x : Int32} (hd : decode bytes pc = .ok (.i2l, 1)) (hn : pc + 1 = pc') (k : own_W C v M' M cs ss pc' Ls (.long x.toInt64 :: st)) : own_W C v M' M cs ss pc Ls (.int x :: st) := by
  subst hn; exact own_gp (fun T locs X t q => XS.i2l X.here K.x rfl (hb K.kb hd) rfl q) k
theorem own_l2i (K : own_K C bytes ml own ret nm R) {x : Int64} (hd : decode bytes pc = .ok (.l2i, 1)) (hn : pc + 1 = pc') (k : own_W C v M' M cs ss pc' Ls (.int x.toInt32 :: st)) : own_W C v M' M cs ss pc Ls (.long x :: st) := by
  subst hn; exact own_gp (fun T locs X t q => XS.l2i X.here K.x rfl (hb K.kb hd) rfl q) k
theorem own_i2b (K : own_K C bytes ml own ret nm R) {x : Int32} (hd : decode bytes pc = .ok (.i2b, 1)) (hn : pc + 1 = pc') (k : own_W C v M' M cs ss pc' Ls (.int (nar .byte x) :: st)) : own_W C v M' M cs ss pc Ls (.int x :: st) := by
  subst hn; exact own_gp (fun T locs X t q => XS.i2b X.here K.x rfl (hb K.kb hd) rfl q) k
theorem own_i2c (K : own_K C bytes ml own ret nm R) {x : Int32} (hd : decode bytes pc = .ok (.i2c, 1)) (hn : pc + 1 = pc') (k : own_W C v M' M cs ss pc' Ls (.int (nar .char x) :: st)) : own_W C v M' M cs ss pc Ls (.int x :: st) := by
  subst hn; exact own_gp (fun T locs X t q => XS.i2c X.here K.x rfl (hb K.kb hd) rfl q) k
theorem own_dup (K : own_K C bytes ml own ret nm R) {x : Value} (hd : decode bytes pc = .ok (.dup, 1)) (hc : x.category = 1) (hn : pc + 1 = pc') (k : own_W C v M' M cs ss pc' Ls (x :: x :: st)) : own_W C v M' M cs ss pc Ls (x :: st) := by
  subst hn; exact own_gp (fun T locs X t q => XS.dup X.here K.x rfl (hb K.kb hd) rfl hc q) k
theorem own_dupX1 (K : own_K C bytes ml own ret nm R) {x y : Value} (hd : decode bytes pc = .ok (.dup_x1, 1)) (hc : x.category = 1) (hc2 : y.category = 1) (hn : pc + 1 = pc') (k : own_W C v M' M cs ss pc' Ls (x :: y :: x :: st)) : own_W C v M' M cs ss pc Ls (x :: y :: st) := by
  subst hn; exact own_gp (fun T locs X t q => XS.dupX1 X.here K.x rfl (hb K.kb hd) rfl hc hc2 q) k
theorem own_dup2 (K : own_K C bytes ml own ret nm R) {x y : Value} (hd : decode bytes pc = .ok (.dup2, 1)) (hc : x.category = 1) (hc2 : y.category = 1) (hn : pc + 1 = pc') (k : own_W C v M' M cs ss pc' Ls (x :: y :: x :: y :: st)) : own_W C v M' M cs ss pc Ls (x :: y :: st) := by
  subst hn; exact own_gp (fun T locs X t q => Jvm.Free.XT.dup2 X.here K.x rfl (hb K.kb hd) rfl hc hc2 q) k
theorem own_pop (K : own_K C bytes ml own ret nm R) {x : Value} (hd : decode bytes pc = .ok (.pop, 1)) (hc : x.category = 1) (hn : pc + 1 = pc') (k : own_W C v M' M cs ss pc' Ls st) : own_W C v M' M cs ss pc Ls (x :: st) := by
  subst hn; exact own_gp (fun T locs X t q => XS.pop X.here K.x rfl (hb K.kb hd) rfl hc q) k
/-! jumps -/
theorem own_goto (K : own_K C bytes ml own ret nm R) {o : Int} (hd : decode bytes pc = .ok (.goto o, 3)) (hp : (pc : Int) + o = (pc' : Int)) (k : own_W C v M' M cs ss pc' Ls st) : own_W C v M' M cs ss pc Ls st :=
  own_gp (fun T locs X t q => XS.goto X.here K.x rfl (pc0 := pc) (pc' := pc') rfl (hb K.kb hd) (by omega) (by omega) q) k
theorem own_icmp (K : own_K C bytes ml own ret nm R) {cd : ClassFile.Cond} {o : Int} {x y : Int32} (hd : decode bytes pc = .ok (.if_icmp cd o, 3)) (hp : (pc : Int) + o = (pc1 : Int)) (hn : pc + 3 = pc2)
    (k1 : if_icmp.holds cd x y = true → own_W C v M' M cs ss pc1 Ls st) (k2 : if_icmp.holds cd x y = false → own_W C v M' M cs ss pc2 Ls st) : own_W C v M' M cs ss pc Ls (.int y :: .int x :: st) := by
  cases e : if_icmp.holds cd x y
  · subst hn; exact own_gp (fun T locs X t q => XS.icmpNo X.here K.x rfl (hb K.kb hd) rfl e q) (k2 e)
  · exact own_gp (fun T locs X t q => XS.icmpYes X.here K.x rfl (pc0 := pc) (pc' := pc1) rfl (hb K.kb hd) rfl e (by omega) (by omega) q) (k1 e)
theorem own_if (K : own_K C bytes ml own ret nm R) {cd : ClassFile.Cond} {o : Int} {x : Int32} (hd : decode bytes pc = .ok (.ifCond cd o, 3)) (hp : (pc : Int) + o = (pc1 : Int)) (hn : pc + 3 = pc2)
    (k1 : if_icmp.holds cd x 0 = true → own_W C v M' M cs ss pc1 Ls st) (k2 : if_icmp.holds cd x 0 = false → own_W C v M' M cs ss pc2 Ls st) : own_W C v M' M cs ss pc Ls (.int x :: st) := by
  cases e : if_icmp.holds cd x 0
  · subst hn; exact own_gp (fun T locs X t q => XS.ifNo X.here K.x rfl (hb K.kb hd) rfl ((if0 _ _).trans e) q) (k2 e)
  · exact own_gp (fun T locs X t q => XS.ifYes X.here K.x rfl (pc0 := pc) (pc' := pc1) rfl (hb K.kb hd) rfl ((if0 _ _).trans e) (by omega) (by omega) q) (k1 e)
theorem own_ilt (K : own_K C bytes ml own ret nm R) {β : Type} {A B r : Option β} {o : Int} {x y : Int32} (hd : decode bytes pc = .ok (.if_icmp .lt o, 3)) (h : (if x < y then A else B) = r) (hp : (pc : Int) + o = (pc1 : Int)) (hn : pc + 3 = pc2) (k1 : A = r → own_W C v M' M cs ss pc1 Ls st) (k2 : B = r → own_W C v M' M cs ss pc2 Ls st) : own_W C v M' M cs ss pc Ls (.int y :: .int x :: st) := by
  by_cases e : x < y
  · rw [if_pos e] at h; exact own_icmp K hd hp hn (fun _ => k1 h) (fun q => by rw [(tlt e).1] at q; cases q)
  · rw [if_neg e] at h; exact own_icmp K hd hp hn (fun q => by rw [(flt e).1] at q; cases q) (fun _ => k2 h)
theorem own_ige (K : own_K C bytes ml own ret nm R) {β : Type} {A B r : Option β} {o : Int} {x y : Int32} (hd : decode bytes pc = .ok (.if_icmp .ge o, 3)) (h : (if x < y then A else B) = r) (hp : (pc : Int) + o = (pc1 : Int)) (hn : pc + 3 = pc2) (k1 : B = r → own_W C v M' M cs ss pc1 Ls st) (k2 : A = r → own_W C v M' M cs ss pc2 Ls st) : own_W C v M' M cs ss pc Ls (.int y :: .int x :: st) := by
  by_cases e : x < y
  · rw [if_pos e] at h; exact own_icmp K hd hp hn (fun q => by rw [(tlt e).2.1] at q; cases q) (fun _ => k2 h)
  · rw [if_neg e] at h; exact own_icmp K hd hp hn (fun _ => k1 h) (fun q => by rw [(flt e).2.1] at q; cases q)
theorem own_igt (K : own_K C bytes ml own ret nm R) {β : Type} {A B r : Option β} {o : Int} {x y : Int32} (hd : decode bytes pc = .ok (.if_icmp .gt o, 3)) (h : (if y < x then A else B) = r) (hp : (pc : Int) + o = (pc1 : Int)) (hn : pc + 3 = pc2) (k1 : A = r → own_W C v M' M cs ss pc1 Ls st) (k2 : B = r → own_W C v M' M cs ss pc2 Ls st) : own_W C v M' M cs ss pc Ls (.int y :: .int x :: st) := by
  by_cases e : y < x
  · rw [if_pos e] at h; exact own_icmp K hd hp hn (fun _ => k1 h) (fun q => by rw [(tlt e).2.2.1] at q; cases q)
  · rw [if_neg e] at h; exact own_icmp K hd hp hn (fun q => by rw [(flt e).2.2.1] at q; cases q) (fun _ => k2 h)
theorem own_ile (K : own_K C bytes ml own ret nm R) {β : Type} {A B r : Option β} {o : Int} {x y : Int32} (hd : decode bytes pc = .ok (.if_icmp .le o, 3)) (h : (if y < x then A else B) = r) (hp : (pc : Int) + o = (pc1 : Int)) (hn : pc + 3 = pc2) (k1 : B = r → own_W C v M' M cs ss pc1 Ls st) (k2 : A = r → own_W C v M' M cs ss pc2 Ls st) : own_W C v M' M cs ss pc Ls (.int y :: .int x :: st) := by
  by_cases e : y < x
  · rw [if_pos e] at h; exact own_icmp K hd hp hn (fun q => by rw [(tlt e).2.2.2] at q; cases q) (fun _ => k2 h)
  · rw [if_neg e] at h; exact own_icmp K hd hp hn (fun _ => k1 h) (fun q => by rw [(flt e).2.2.2] at q; cases q)
theorem own_ieq (K : own_K C bytes ml own ret nm R) {β : Type} {A B r : Option β} {o : Int} {x y : Int32} (hd : decode bytes pc = .ok (.if_icmp .eq o, 3)) (h : (if x = y then A else B) = r) (hp : (pc : Int) + o = (pc1 : Int)) (hn : pc + 3 = pc2) (k1 : A = r → own_W C v M' M cs ss pc1 Ls st) (k2 : B = r → own_W C v M' M cs ss pc2 Ls st) : own_W C v M' M cs ss pc Ls (.int y :: .int x :: st) := by
  by_cases e : x = y
  · rw [if_pos e] at h; exact own_icmp K hd hp hn (fun _ => k1 h) (fun q => by rw [(teq e).1] at q; cases q)
  · rw [if_neg e] at h; exact own_icmp K hd hp hn (fun q => by rw [(feq e).1] at q; cases q) (fun _ => k2 h)
theorem own_ine (K : own_K C bytes ml own ret nm R) {β : Type} {A B r : Option β} {o : Int} {x y : Int32} (hd : decode bytes pc = .ok (.if_icmp .ne o, 3)) (h : (if x = y then A else B) = r) (hp : (pc : Int) + o = (pc1 : Int)) (hn : pc + 3 = pc2) (k1 : B = r → own_W C v M' M cs ss pc1 Ls st) (k2 : A = r → own_W C v M' M cs ss pc2 Ls st) : own_W C v M' M cs ss pc Ls (.int y :: .int x :: st) := by
  by_cases e : x = y
  · rw [if_pos e] at h; exact own_icmp K hd hp hn (fun q => by rw [(teq e).2] at q; cases q) (fun _ => k2 h)
  · rw [if_neg e] at h; exact own_icmp K hd hp hn (fun _ => k1 h) (fun q => by rw [(feq e).2] at q; cases q)
theorem own_zlt (K : own_K C bytes ml own ret nm R) {β : Type} {A B r : Option β} {o : Int} {x : Int32} (hd : decode bytes pc = .ok (.ifCond .lt o, 3)) (h : (if x < 0 then A else B) = r) (hp : (pc : Int) + o = (pc1 : Int)) (hn : pc + 3 = pc2) (k1 : A = r → own_W C v M' M cs ss pc1 Ls st) (k2 : B = r → own_W C v M' M cs ss pc2 Ls st) : own_W C v M' M cs ss pc Ls (.int x :: st) := by
  by_cases e : x < 0
  · rw [if_pos e] at h; exact own_if K hd hp hn (fun _ => k1 h) (fun q => by rw [(tlt e).1] at q; cases q)
  · rw [if_neg e] at h; exact own_if K hd hp hn (fun q => by rw [(flt e).1] at q; cases q) (fun _ => k2 h)
theorem own_zge (K : own_K C bytes ml own ret nm R) {β : Type} {A B r : Option β} {o : Int} {x : Int32} (hd : decode bytes pc = .ok (.ifCond .ge o, 3)) (h : (if x < 0 then A else B) = r) (hp : (pc : Int) + o = (pc1 : Int)) (hn : pc + 3 = pc2) (k1 : B = r → own_W C v M' M cs ss pc1 Ls st) (k2 : A = r → own_W C v M' M cs ss pc2 Ls st) : own_W C v M' M cs ss pc Ls (.int x :: st) := by
  by_cases e : x < 0
  · rw [if_pos e] at h; exact own_if K hd hp hn (fun q => by rw [(tlt e).2.1] at q; cases q) (fun _ => k2 h)
  · rw [if_neg e] at h; exact own_if K hd hp hn (fun _ => k1 h) (fun q => by rw [(flt e).2.1] at q; cases q)
theorem own_zgt (K : own_K C bytes ml own ret nm R) {β : Type} {A B r : Option β} {o : Int} {x : Int32} (hd : decode bytes pc = .ok (.ifCond .gt o, 3)) (h : (if 0 < x then A else B) = r) (hp : (pc : Int) + o = (pc1 : Int)) (hn : pc + 3 = pc2) (k1 : A = r → own_W C v M' M cs ss pc1 Ls st) (k2 : B = r → own_W C v M' M cs ss pc2 Ls st) : own_W C v M' M cs ss pc Ls (.int x :: st) := by
  by_cases e : 0 < x
  · rw [if_pos e] at h; exact own_if K hd hp hn (fun _ => k1 h) (fun q => by rw [(tlt e).2.2.1] at q; cases q)
  · rw [if_neg e] at h; exact own_if K hd hp hn (fun q => by rw [(flt e).2.2.1] at q; cases q) (fun _ => k2 h)
theorem own_zle (K : own_K C bytes ml own ret nm R) {β : Type} {A B r : Option β} {o : Int} {x : Int32} (hd : decode bytes pc = .ok (.ifCond .le o, 3)) (h : (if 0 < x then A else B) = r) (hp : (pc : Int) + o = (pc1 : Int)) (hn : pc + 3 = pc2) (k1 : B = r → own_W C v M' M cs ss pc1 Ls st) (k2 : A = r → own_W C v M' M cs ss pc2 Ls st) : own_W C v M' M cs ss pc Ls (.int x :: st) := by
  by_cases e : 0 < x
  · rw [if_pos e] at h; exact own_if K hd hp hn (fun q => by rw [(tlt e).2.2.2] at q; cases q) (fun _ => k2 h)
  · rw [if_neg e] at h; exact own_if K hd hp hn (fun _ => k1 h) (fun q => by rw [(flt e).2.2.2] at q; cases q)
theorem own_zeq (K : own_K C bytes ml own ret nm R) {β : Type} {A B r : Option β} {o : Int} {x : Int32} (hd : decode bytes pc = .ok (.ifCond .eq o, 3)) (h : (if x = 0 then A else B) = r) (hp : (pc : Int) + o = (pc1 : Int)) (hn : pc + 3 = pc2) (k1 : A = r → own_W C v M' M cs ss pc1 Ls st) (k2 : B = r → own_W C v M' M cs ss pc2 Ls st) : own_W C v M' M cs ss pc Ls (.int x :: st) := by
  by_cases e : x = 0
  · rw [if_pos e] at h; exact own_if K hd hp hn (fun _ => k1 h) (fun q => by rw [(teq e).1] at q; cases q)
  · rw [if_neg e] at h; exact own_if K hd hp hn (fun q => by rw [(feq e).1] at q; cases q) (fun _ => k2 h)
theorem own_zne (K : own_K C bytes ml own ret nm R) {β : Type} {A B r : Option β} {o : Int} {x : Int32} (hd : decode bytes pc = .ok (.ifCond .ne o, 3)) (h : (if x = 0 then A else B) = r) (hp : (pc : Int) + o = (pc1 : Int)) (hn : pc + 3 = pc2) (k1 : B = r → own_W C v M' M cs ss pc1 Ls st) (k2 : A = r → own_W C v M' M cs ss pc2 Ls st) : own_W C v M' M cs ss pc Ls (.int x :: st) := by
  by_cases e : x = 0
  · rw [if_pos e] at h; exact own_if K hd hp hn (fun q => by rw [(teq e).2] at q; cases q) (fun _ => k2 h)
  · rw [if_neg e] at h; exact own_if K hd hp hn (fun _ => k1 h) (fun q => by rw [(feq e).2] at q; cases q)
theorem own_lcv (K : own_K C bytes ml own ret nm R) {x y : Int64} (hd : decode bytes pc = .ok (.lcmp, 1)) (hn : pc + 1 = pc') (k : own_W C v M' M cs ss pc' Ls (.int (lcmpV x y) :: st)) : own_W C v M' M cs ss pc Ls (.long y :: .long x :: st) := by
  subst hn; exact own_gp (fun T locs X t q => XS.lcmp X.here K.x rfl (hb K.kb hd) rfl (by have e := lcW x y; unfold lcmpW at e; rw [e]; exact q)) k
theorem own_cge (K : own_K C bytes ml own ret nm R) {β : Type} {A B r : Option β} {o : Int} {x y : Int64} (hd : decode bytes pc = .ok (.lcmp, 1)) (hd2 : decode bytes pc' = .ok (.ifCond .ge o, 3)) (h : (if x < y then A else B) = r) (hm : pc + 1 = pc') (hp : (pc' : Int) + o = (pc1 : Int)) (hn : pc' + 3 = pc2) (k1 : B = r → own_W C v M' M cs ss pc1 Ls st) (k2 : A = r → own_W C v M' M cs ss pc2 Ls st) : own_W C v M' M cs ss pc Ls (.long y :: .long x :: st) :=
  own_lcv K hd hm (own_zge K hd2 (by simpa only [lc_lt] using h) hp hn k1 k2)
theorem own_clt (K : own_K C bytes ml own ret nm R) {β : Type} {A B r : Option β} {o : Int} {x y : Int64} (hd : decode bytes pc = .ok (.lcmp, 1)) (hd2 : decode bytes pc' = .ok (.ifCond .lt o, 3)) (h : (if x < y then A else B) = r) (hm : pc + 1 = pc') (hp : (pc' : Int) + o = (pc1 : Int)) (hn : pc' + 3 = pc2) (k1 : A = r → own_W C v M' M cs ss pc1 Ls st) (k2 : B = r → own_W C v M' M cs ss pc2 Ls st) : own_W C v M' M cs ss pc Ls (.long y :: .long x :: st) :=
  own_lcv K hd hm (own_zlt K hd2 (by simpa only [lc_lt] using h) hp hn k1 k2)
theorem own_cgt (K : own_K C bytes ml own ret nm R) {β : Type} {A B r : Option β} {o : Int} {x y : Int64} (hd : decode bytes pc = .ok (.lcmp, 1)) (hd2 : decode bytes pc' = .ok (.ifCond .gt o, 3)) (h : (if y < x then A else B) = r) (hm : pc + 1 = pc') (hp : (pc' : Int) + o = (pc1 : Int)) (hn : pc' + 3 = pc2) (k1 : A = r → own_W C v M' M cs ss pc1 Ls st) (k2 : B = r → own_W C v M' M cs ss pc2 Ls st) : own_W C v M' M cs ss pc Ls (.long y :: .long x :: st) :=
  own_lcv K hd hm (own_zgt K hd2 (by simpa only [lc_gt] using h) hp hn k1 k2)
theorem own_cle (K : own_K C bytes ml own ret nm R) {β : Type} {A B r : Option β} {o : Int} {x y : Int64} (hd : decode bytes pc = .ok (.lcmp, 1)) (hd2 : decode bytes pc' = .ok (.ifCond .le o, 3)) (h : (if y < x then A else B) = r) (hm : pc + 1 = pc') (hp : (pc' : Int) + o = (pc1 : Int)) (hn : pc' + 3 = pc2) (k1 : B = r → own_W C v M' M cs ss pc1 Ls st) (k2 : A = r → own_W C v M' M cs ss pc2 Ls st) : own_W C v M' M cs ss pc Ls (.long y :: .long x :: st) :=
  own_lcv K hd hm (own_zle K hd2 (by simpa only [lc_gt] using h) hp hn k1 k2)
theorem own_ceq (K : own_K C bytes ml own ret nm R) {β : Type} {A B r : Option β} {o : Int} {x y : Int64} (hd : decode bytes pc = .ok (.lcmp, 1)) (hd2 : decode bytes pc' = .ok (.ifCond .eq o, 3)) (h : (if x = y then A else B) = r) (hm : pc + 1 = pc') (hp : (pc' : Int) + o = (pc1 : Int)) (hn : pc' + 3 = pc2) (k1 : A = r → own_W C v M' M cs ss pc1 Ls st) (k2 : B = r → own_W C v M' M cs ss pc2 Ls st) : own_W C v M' M cs ss pc Ls (.long y :: .long x :: st) :=
  own_lcv K hd hm (own_zeq K hd2 (by simpa only [lc_eq] using h) hp hn k1 k2)
theorem own_cne (K : own_K C bytes ml own ret nm R) {β : Type} {A B r : Option β} {o : Int} {x y : Int64} (hd : decode bytes pc = .ok (.lcmp, 1)) (hd2 : decode bytes pc' = .ok (.ifCond .ne o, 3)) (h : (if x = y then A else B) = r) (hm : pc + 1 = pc') (hp : (pc' : Int) + o = (pc1 : Int)) (hn : pc' + 3 = pc2) (k1 : B = r → own_W C v M' M cs ss pc1 Ls st) (k2 : A = r → own_W C v M' M cs ss pc2 Ls st) : own_W C v M' M cs ss pc Ls (.long y :: .long x :: st) :=
  own_lcv K hd hm (own_zne K hd2 (by simpa only [lc_eq] using h) hp hn k1 k2)
end OwnSteps
section OwnHeap
variable {C : own_Ctx} {bytes : ByteArray} {ml : Nat} {own : String} {ret : Option FieldType} {nm : String} {R : Room} {v : Option Value} {M' M M1 : own_Mem} {cs ss cs1 ss1 pc pc' pc1 pc2 : Nat} {Ls Ls' : List Slot} {st st' : List Value}
/-! fields -/
theorem own_gf (K : own_K C bytes ml own ret nm R) {idx i t a : Nat} {C' n d : String} {fs : List (String × String)} {vs : List Value} {w0 : Value} (hd : decode bytes pc = .ok (.getfield idx, 3)) (w : Jvm.Cond.fieldLink own idx C' n d ∈ tables_1) (hc : own_cl t = some (C', fs)) (hi : fs[i]? = some (n, d)) (hm : M[a]? = some (t, vs)) (hv : vs[i]? = some w0) (hn : pc + 3 = pc')
    (k : own_W C v M' M cs ss pc' Ls (own_up (own_n C) w0 :: st)) : own_W C v M' M cs ss pc Ls (.ref (own_n C + a) :: st) := by
  subst hn
  refine own_go (fun T hT => ?_) k
  obtain ⟨locs, X, N, RR, b⟩ := hT
  have F := (own_obj RR hc hm).2 i n d _ hi hv
  obtain ⟨T1, X1, e1, st1⟩ := getF X K.x K.kz K.ko (host := "") (Or.inl (K.w _ w)) Via.refl rfl F (g := mkF (own_m C) pc Ls.toArray (.ref (own_n C + a) :: st)) rfl rfl (hb K.kb hd)
  exact ⟨T1, ⟨locs, X1, N, by rw [e1]; exact RR, b⟩, st1⟩
theorem own_gfI (K : own_K C bytes ml own ret nm R) {β : Type} {idx i t a : Nat} {C' n d : String} {fs : List (String × String)} {kk : Int32 → Option β} {r : β} (hd : decode bytes pc = .ok (.getfield idx, 3)) (w : Jvm.Cond.fieldLink own idx C' n d ∈ tables_1) (hc : own_cl t = some (C', fs)) (hi : fs[i]? = some (n, d)) (h : (own_getI t i M a).bind kk = some r) (hn : pc + 3 = pc')
    (k : ∀ x, kk x = some r → own_W C v M' M cs ss pc' Ls (.int x :: st)) : own_W C v M' M cs ss pc Ls (.ref (own_n C + a) :: st) := by
  obtain ⟨x, hx, hk⟩ := own_bind h
  obtain ⟨vs, hm, hv⟩ := own_getI_e hx
  exact own_gf K hd w hc hi hm hv hn (k x hk)
theorem own_gfJ (K : own_K C bytes ml own ret nm R) {β : Type} {idx i t a : Nat} {C' n d : String} {fs : List (String × String)} {kk : Int64 → Option β} {r : β} (hd : decode bytes pc = .ok (.getfield idx, 3)) (w : Jvm.Cond.fieldLink own idx C' n d ∈ tables_1) (hc : own_cl t = some (C', fs)) (hi : fs[i]? = some (n, d)) (h : (own_getJ t i M a).bind kk = some r) (hn : pc + 3 = pc')
    (k : ∀ x, kk x = some r → own_W C v M' M cs ss pc' Ls (.long x :: st)) : own_W C v M' M cs ss pc Ls (.ref (own_n C + a) :: st) := by
  obtain ⟨x, hx, hk⟩ := own_bind h
  obtain ⟨vs, hm, hv⟩ := own_getJ_e hx
  exact own_gf K hd w hc hi hm hv hn (k x hk)
theorem own_gfR (K : own_K C bytes ml own ret nm R) {β : Type} {idx i t a : Nat} {C' n d : String} {fs : List (String × String)} {kk : Nat → Option β} {r : β} (hd : decode bytes pc = .ok (.getfield idx, 3)) (w : Jvm.Cond.fieldLink own idx C' n d ∈ tables_1) (hc : own_cl t = some (C', fs)) (hi : fs[i]? = some (n, d)) (h : (own_getR t i M a).bind kk = some r) (hn : pc + 3 = pc')
    (k : ∀ x, kk x = some r → own_W C v M' M cs ss pc' Ls (.ref (own_n C + x) :: st)) : own_W C v M' M cs ss pc Ls (.ref (own_n C + a) :: st) := by
  obtain ⟨x, hx, hk⟩ := own_bind h
  obtain ⟨vs, hm, hv⟩ := own_getR_e hx
  exact own_gf K hd w hc hi hm hv hn (k x hk)
theorem own_pf (K : own_K C bytes ml own ret nm R) {β : Type} {idx i t a n1 : Nat} {C' n d : String} {fs : List (String × String)} {ty : FieldType} {w0 wr : Value} {kk : own_Mem → Option β} {r : β} (hd : decode bytes pc = .ok (.putfield idx, 3)) (w : Jvm.Cond.fieldLink own idx C' n d ∈ tables_1) (hc : own_cl t = some (C', fs)) (hi : fs[i]? = some (n, d))
    (hl : Jvm.Cond.lays C' C' n d ∈ tables_1 ∨ (Jvm.Cond.laysFinal C' C' n d ∈ tables_1 ∧ own = C' ∧ nm = "<init>")) (wi : Jvm.Cond.instantiable C' n1 ∈ tables_1) (hty : parseFieldDescriptor d = some ty) (hnr : narrow ty wr = own_up (own_n C) w0) (hft : fits ty (own_up (own_n C) w0) = true)
    (h : (own_put t i M a w0).bind kk = some r) (hn : pc + 3 = pc') (k : ∀ M1, kk M1 = some r → own_W C v M' M1 cs ss pc' Ls st) : own_W C v M' M cs ss pc Ls (wr :: .ref (own_n C + a) :: st) := by
  obtain ⟨M1, hx, hk⟩ := own_bind h
  obtain ⟨vs, hm, hv, rfl⟩ := own_put_e hx
  subst hn
  refine own_go (fun T hT => ?_) (k _ hk)
  obtain ⟨locs, X, N, RR, b⟩ := hT
  obtain ⟨E, F⟩ := own_obj RR hc hm
  have F0 := F i n d _ hi (List.getElem?_eq_getElem hv)
  have hL : (Jvm.Cond.lays C' C' n d).before (own_z C) (own_Z C) = true ∨ ((Jvm.Cond.laysFinal C' C' n d).before (own_z C) (own_Z C) = true ∧ own = C' ∧ (own_h C).name = "<init>") := by
    rcases hl with q | ⟨q1, q2, q3⟩
    · exact Or.inl (K.w _ q)
    · exact Or.inr ⟨K.w _ q1, q2, K.kn.trans q3⟩
  obtain ⟨T1, h1, X1, e1, W1, st1⟩ := putFN X K.x K.kz K.ko (K.w _ w) Via.refl rfl F0 E hL (K.w _ wi) hty hnr hft (g := mkF (own_m C) pc Ls.toArray (wr :: .ref (own_n C + a) :: st)) rfl rfl (hb K.kb hd)
  exact ⟨T1, ⟨_, X1, Fr.snoc X1 N (Nat.le_add_right _ _), by rw [e1]; exact own_wrF RR K.w hc hm hi hv W1, b⟩, st1⟩
/-! arrays -/
theorem own_slot {c : Cell} {vs : List Value} {j : Nat} {u : Value} (hs : c.slots.toList = vs) (hv : vs[j]? = some u) : c.slots[j]? = some u := by
  rw [← hs] at hv; simpa using hv
theorem own_size {c : Cell} {vs : List Value} (hs : c.slots.toList = vs) : c.slots.size = vs.length := by rw [← hs]; simp
theorem own_in {c : Cell} {vs : List Value} {j : Int32} {u : Value} (hs : c.slots.toList = vs) (hj : ¬ j < 0) (hv : vs[j.toNatClampNeg]? = some u) : ¬ (j < 0 ∨ c.slots.size ≤ j.toNatClampNeg) := by
  have := (List.getElem?_eq_some_iff.mp hv).1
  rw [own_size hs]
  rintro (q | q)
  · exact hj q
  · omega
theorem own_iaload (K : own_K C bytes ml own ret nm R) {β : Type} {a : Nat} {j : Int32} {kk : Int32 → Option β} {r : β} (hd : decode bytes pc = .ok (.iaload, 1)) (h : (own_ldI 100 M a j).bind kk = some r) (hn : pc + 1 = pc') (k : ∀ x, kk x = some r → own_W C v M' M cs ss pc' Ls (.int x :: st)) : own_W C v M' M cs ss pc Ls (.int j :: .ref (own_n C + a) :: st) := by
  obtain ⟨x, hx, hk⟩ := own_bind h
  obtain ⟨vs, hm, hj, hv⟩ := own_ldI_e hx
  subst hn
  refine own_go (fun T hT => ⟨T, hT, ?_⟩) (k x hk)
  obtain ⟨locs, X, N, RR, b⟩ := hT
  obtain ⟨c, A, hs, -⟩ := own_arr RR rfl hm
  exact fun t q => X.iaload K.x A.1 (State.isArrayOf_alike K.kz.alike A.2.1) A.2.2 (own_in hs hj hv) (own_slot hs hv) (g := mkF (own_m C) pc Ls.toArray (.int j :: .ref (own_n C + a) :: st)) rfl rfl (hb K.kb hd) t q
theorem own_laload (K : own_K C bytes ml own ret nm R) {β : Type} {a : Nat} {j : Int32} {kk : Int64 → Option β} {r : β} (hd : decode bytes pc = .ok (.laload, 1)) (h : (own_ldJ 101 M a j).bind kk = some r) (hn : pc + 1 = pc') (k : ∀ x, kk x = some r → own_W C v M' M cs ss pc' Ls (.long x :: st)) : own_W C v M' M cs ss pc Ls (.int j :: .ref (own_n C + a) :: st) := by
  obtain ⟨x, hx, hk⟩ := own_bind h
  obtain ⟨vs, hm, hj, hv⟩ := own_ldJ_e hx
  subst hn
  refine own_go (fun T hT => ⟨T, hT, ?_⟩) (k x hk)
  obtain ⟨locs, X, N, RR, b⟩ := hT
  obtain ⟨c, A, hs, -⟩ := own_arr RR rfl hm
  exact fun t q => X.laload K.x A.1 (State.isArrayOf_alike K.kz.alike A.2.1) A.2.2 (own_in hs hj hv) (own_slot hs hv) (g := mkF (own_m C) pc Ls.toArray (.int j :: .ref (own_n C + a) :: st)) rfl rfl (hb K.kb hd) t q
theorem own_baloadB (K : own_K C bytes ml own ret nm R) {β : Type} {a : Nat} {j : Int32} {kk : Int32 → Option β} {r : β} (hd : decode bytes pc = .ok (.baload, 1)) (h : (own_ldI 102 M a j).bind kk = some r) (hn : pc + 1 = pc') (k : ∀ x, kk x = some r → own_W C v M' M cs ss pc' Ls (.int x :: st)) : own_W C v M' M cs ss pc Ls (.int j :: .ref (own_n C + a) :: st) := by
  obtain ⟨x, hx, hk⟩ := own_bind h
  obtain ⟨vs, hm, hj, hv⟩ := own_ldI_e hx
  subst hn
  refine own_go (fun T hT => ⟨T, hT, ?_⟩) (k x hk)
  obtain ⟨locs, X, N, RR, b⟩ := hT
  obtain ⟨c, A, hs, -⟩ := own_arr RR rfl hm
  exact fun t q => X.baloadBytes K.x A.1 (State.isArrayOf_alike K.kz.alike A.2.1) A.2.2 (own_in hs hj hv) (own_slot hs hv) (g := mkF (own_m C) pc Ls.toArray (.int j :: .ref (own_n C + a) :: st)) rfl rfl (hb K.kb hd) t q
theorem own_baloadZ (K : own_K C bytes ml own ret nm R) {β : Type} {a : Nat} {j : Int32} {kk : Int32 → Option β} {r : β} (hd : decode bytes pc = .ok (.baload, 1)) (h : (own_ldI 103 M a j).bind kk = some r) (hn : pc + 1 = pc') (k : ∀ x, kk x = some r → own_W C v M' M cs ss pc' Ls (.int x :: st)) : own_W C v M' M cs ss pc Ls (.int j :: .ref (own_n C + a) :: st) := by
  obtain ⟨x, hx, hk⟩ := own_bind h
  obtain ⟨vs, hm, hj, hv⟩ := own_ldI_e hx
  subst hn
  refine own_go (fun T hT => ⟨T, hT, ?_⟩) (k x hk)
  obtain ⟨locs, X, N, RR, b⟩ := hT
  obtain ⟨c, A, hs, -⟩ := own_arr RR rfl hm
  exact fun t q => X.baloadBooleans K.x A.1 (State.isArrayOf_alike K.kz.alike A.2.1) A.2.2 (own_in hs hj hv) (own_slot hs hv) (g := mkF (own_m C) pc Ls.toArray (.int j :: .ref (own_n C + a) :: st)) rfl rfl (hb K.kb hd) t q
theorem own_alen (K : own_K C bytes ml own ret nm R) {β : Type} {a t : Nat} {ty : FieldType} {kk : Int32 → Option β} {r : β} (hd : decode bytes pc = .ok (.arraylength, 1)) (ht : own_ty t = some ty) (h : (own_len t M a).bind kk = some r) (hn : pc + 1 = pc') (k : ∀ x, kk x = some r → own_W C v M' M cs ss pc' Ls (.int x :: st)) : own_W C v M' M cs ss pc Ls (.ref (own_n C + a) :: st) := by
  obtain ⟨x, hx, hk⟩ := own_bind h
  obtain ⟨vs, hm, rfl⟩ := own_len_e hx
  subst hn
  refine own_go (fun T hT => ⟨T, hT, ?_⟩) (k _ hk)
  obtain ⟨locs, X, N, RR, b⟩ := hT
  obtain ⟨c, A, hs, -⟩ := own_arr RR ht hm
  refine fun t q => X.arraylength K.x A.1 (State.isArrayOf_alike K.kz.alike A.2.1) (g := mkF (own_m C) pc Ls.toArray (.ref (own_n C + a) :: st)) rfl rfl (hb K.kb hd) t ?_
  rw [own_size hs]
  exact q
theorem own_iastore (K : own_K C bytes ml own ret nm R) {β : Type} {a : Nat} {j x : Int32} {kk : own_Mem → Option β} {r : β} (hd : decode bytes pc = .ok (.iastore, 1)) (h : (own_sto 100 M a j (.int x)).bind kk = some r) (hn : pc + 1 = pc') (k : ∀ M1, kk M1 = some r → own_W C v M' M1 cs ss pc' Ls st) : own_W C v M' M cs ss pc Ls (.int x :: .int j :: .ref (own_n C + a) :: st) := by
  obtain ⟨M1, hx, hk⟩ := own_bind h
  obtain ⟨vs, hm, hj, rfl⟩ := own_sto_e hx
  subst hn
  refine own_go (fun T hT => ?_) (k _ hk)
  obtain ⟨locs, X, N, RR, b⟩ := hT
  obtain ⟨c, A, hs, -⟩ := own_arr RR rfl hm
  obtain ⟨T1, h1, X1, e1, W1, st1⟩ := stI X K.x K.kz rfl A (by rw [own_size hs]; exact hj) (g := mkF (own_m C) pc Ls.toArray (.int x :: .int j :: .ref (own_n C + a) :: st)) rfl rfl (hb K.kb hd)
  exact ⟨T1, ⟨_, X1, Fr.snoc X1 N (Nat.le_add_right _ _), by rw [e1]; exact own_wrA RR rfl hm W1, b⟩, st1⟩
theorem own_lastore (K : own_K C bytes ml own ret nm R) {β : Type} {a : Nat} {j : Int32} {x : Int64} {kk : own_Mem → Option β} {r : β} (hd : decode bytes pc = .ok (.lastore, 1)) (h : (own_sto 101 M a j (.long x)).bind kk = some r) (hn : pc + 1 = pc') (k : ∀ M1, kk M1 = some r → own_W C v M' M1 cs ss pc' Ls st) : own_W C v M' M cs ss pc Ls (.long x :: .int j :: .ref (own_n C + a) :: st) := by
  obtain ⟨M1, hx, hk⟩ := own_bind h
  obtain ⟨vs, hm, hj, rfl⟩ := own_sto_e hx
  subst hn
  refine own_go (fun T hT => ?_) (k _ hk)
  obtain ⟨locs, X, N, RR, b⟩ := hT
  obtain ⟨c, A, hs, -⟩ := own_arr RR rfl hm
  obtain ⟨T1, h1, X1, e1, W1, st1⟩ := stJ X K.x K.kz rfl A (by rw [own_size hs]; exact hj) (g := mkF (own_m C) pc Ls.toArray (.long x :: .int j :: .ref (own_n C + a) :: st)) rfl rfl (hb K.kb hd)
  exact ⟨T1, ⟨_, X1, Fr.snoc X1 N (Nat.le_add_right _ _), by rw [e1]; exact own_wrA RR rfl hm W1, b⟩, st1⟩
theorem own_bastoreB (K : own_K C bytes ml own ret nm R) {β : Type} {a : Nat} {j x : Int32} {kk : own_Mem → Option β} {r : β} (hd : decode bytes pc = .ok (.bastore, 1)) (h : (own_sto 102 M a j (.int (nar .byte x))).bind kk = some r) (hn : pc + 1 = pc') (k : ∀ M1, kk M1 = some r → own_W C v M' M1 cs ss pc' Ls st) : own_W C v M' M cs ss pc Ls (.int x :: .int j :: .ref (own_n C + a) :: st) := by
  obtain ⟨M1, hx, hk⟩ := own_bind h
  obtain ⟨vs, hm, hj, rfl⟩ := own_sto_e hx
  subst hn
  refine own_go (fun T hT => ?_) (k _ hk)
  obtain ⟨locs, X, N, RR, b⟩ := hT
  obtain ⟨c, A, hs, -⟩ := own_arr RR rfl hm
  obtain ⟨T1, h1, X1, e1, W1, st1⟩ := stB X K.x K.kz rfl A (by rw [own_size hs]; exact hj) (g := mkF (own_m C) pc Ls.toArray (.int x :: .int j :: .ref (own_n C + a) :: st)) rfl rfl (hb K.kb hd)
  exact ⟨T1, ⟨_, X1, Fr.snoc X1 N (Nat.le_add_right _ _), by rw [e1]; exact own_wrA RR rfl hm W1, b⟩, st1⟩
theorem own_bastoreZ (K : own_K C bytes ml own ret nm R) {β : Type} {a : Nat} {j x : Int32} {kk : own_Mem → Option β} {r : β} (hd : decode bytes pc = .ok (.bastore, 1)) (h : (own_sto 103 M a j (.int (nar .boolean x))).bind kk = some r) (hn : pc + 1 = pc') (k : ∀ M1, kk M1 = some r → own_W C v M' M1 cs ss pc' Ls st) : own_W C v M' M cs ss pc Ls (.int x :: .int j :: .ref (own_n C + a) :: st) := by
  obtain ⟨M1, hx, hk⟩ := own_bind h
  obtain ⟨vs, hm, hj, rfl⟩ := own_sto_e hx
  subst hn
  refine own_go (fun T hT => ?_) (k _ hk)
  obtain ⟨locs, X, N, RR, b⟩ := hT
  obtain ⟨c, A, hs, -⟩ := own_arr RR rfl hm
  obtain ⟨T1, h1, X1, e1, W1, st1⟩ := stZ X K.x K.kz rfl A (by rw [own_size hs]; exact hj) (g := mkF (own_m C) pc Ls.toArray (.int x :: .int j :: .ref (own_n C + a) :: st)) rfl rfl (hb K.kb hd)
  exact ⟨T1, ⟨_, X1, Fr.snoc X1 N (Nat.le_add_right _ _), by rw [e1]; exact own_wrA RR rfl hm W1, b⟩, st1⟩
/-! fresh cells -/
theorem own_ext (h : Heap) (c : Cell) : Ext h (h.push c) := ⟨by simp, fun a c' q => by
  rw [Array.getElem?_push_lt (Array.getElem?_eq_some_iff.mp q).1]; exact (Array.getElem?_eq_getElem _).symm.trans q⟩
theorem own_updef (n0 : Nat) (ty : FieldType) : own_up n0 (defaultValue ty) = defaultValue ty := by cases ty <;> rfl
theorem own_fresh {Z s : State} {a0 : Array Value} {h : Heap} {C' : String} {cC : ClassId} {kC : Class} (hZ : Z.Warmed39 s.vm) (g1 : s.vm.findClass C' = some cC) (g2 : s.vm.classes[cC]? = some kC) :
    Exa Z (h.push { cls := cC, slots := kC.instanceTypes.map defaultValue, vm := .none }) h.size C' ∧ ∀ {nm d : String} {ty : FieldType}, Laid Z a0 C' C' nm d → parseFieldDescriptor d = some ty → Fld Z (h.push { cls := cC, slots := kC.instanceTypes.map defaultValue, vm := .none }) h.size C' nm d (defaultValue ty) := by
  rw [hZ.alike.findClass] at g1
  obtain ⟨kZ, z1, -⟩ := Vm.findClass_spec g1
  obtain ⟨k', z2, z3⟩ := hZ.alike.2.2 _ _ z1
  cases g2.symm.trans z2
  have ei : kC.instanceTypes = kZ.instanceTypes := by rw [z3]
  have hN : (h.push ({ cls := cC, slots := kC.instanceTypes.map defaultValue, vm := .none } : Cell))[h.size]? = some { cls := cC, slots := kC.instanceTypes.map defaultValue, vm := .none } := by simp
  refine ⟨⟨_, kZ, hN, g1, z1, rfl, fun _ => by simp [ei]⟩, fun {nm d ty} L ht => ?_⟩
  obtain ⟨c1, k1, cf, kf, i, f, a1, a2, a3, a4, a5, a6, -⟩ := L.spec
  cases g1.symm.trans a1
  cases z1.symm.trans a2
  exact ⟨_, cf, kf, i, f, hN, a3, a4, by simp, rfl, a5, by simp [ei, a6, (State.fieldFound?_type a3 ht).2]⟩
theorem own_new (K : own_K C bytes ml own ret nm R) {β : Type} {idx n t : Nat} {C' : String} {fs : List (String × String)} {vs : List Value} {kk : Nat × own_Mem → Option β} {r : β} (hd : decode bytes pc = .ok (.new idx, 3)) (w1 : Jvm.Cond.classLink own idx C' ∈ tables_1) (w2 : Jvm.Cond.instantiable C' n ∈ tables_1) (w3 : Jvm.Cond.initialized C' ∈ tables_1)
    (hc : own_cl t = some (C', fs)) (hv : ∀ (i : Nat) nm d u, fs[i]? = some (nm, d) → vs[i]? = some u → ∃ ty, parseFieldDescriptor d = some ty ∧ u = defaultValue ty) (h : (own_newO t vs M).bind kk = some r) (e1 : cs + 1 = cs1) (e2 : ss + n = ss1) (h1 : cs1 ≤ R.cells) (h2 : ss1 ≤ R.slots) (hn : pc + 3 = pc')
    (k : ∀ q, kk q = some r → own_W C v M' q.2 cs1 ss1 pc' Ls (.ref (own_n C + q.1) :: st)) : own_W C v M' M cs ss pc Ls st := by
  subst hn e1 e2
  refine own_go (fun T hT => ?_) (k _ h)
  obtain ⟨locs, X, N, RR, b1, b2⟩ := hT
  obtain ⟨vm', cC, kC, g1, g2, g3, g4, X', stp⟩ := X.newCold K.x K.ko (mv K.kz (K.w _ w1)) (mv K.kz (K.w _ w2)) (mv K.kz (K.w _ w3)) (g := mkF (own_m C) pc Ls.toArray st) rfl (hb K.kb hd) (by rw [K.kr]; exact h1) (by rw [K.kr]; exact h2)
  obtain ⟨E, F⟩ := own_fresh (a0 := own_z C) (h := T.heap) K.kz g1 g2
  refine ⟨_, ⟨locs, X', N, ?_, by rw [K.kr]; exact h1, by rw [K.kr]; exact h2⟩, ?_⟩
  · refine own_push RR (own_ext _ _) ⟨fun ty ht => (by rw [own_ty_cl ht] at hc; cases hc), fun C2 fs2 hc2 => ?_⟩
    cases hc.symm.trans hc2
    refine ⟨E, fun i nm d u q1 q2 => ?_⟩
    obtain ⟨ty, p1, rfl⟩ := hv i nm d u q1 q2
    rw [own_updef]
    exact F ((own_laid K.w hc).1 _ _ _ q1).1 p1
  · intro t' q
    refine stp t' ?_
    have e : T.heap.size = own_n C + M.length := RR.1
    rw [e]
    exact q
theorem own_na (K : own_K C bytes ml own ret nm R) {β : Type} {aty : ArrayType} {t cap : Nat} {dv : Value} {n : Int32} {kk : Nat × own_Mem → Option β} {r : β} (hd : decode bytes pc = .ok (.newarray aty, 2)) (w : Jvm.Cond.arrayClass (newarray.typeOf aty) ∈ tables_1) (ht : own_ty t = some (newarray.typeOf aty)) (hdv : defaultValue (newarray.typeOf aty) = dv)
    (h : (own_newA t cap dv M n).bind kk = some r) (hcap : cap * 8 ≤ 536870912) (e1 : cs + 1 = cs1) (e2 : ss + cap = ss1) (h1 : cs1 ≤ R.cells) (h2 : ss1 ≤ R.slots) (hn : pc + 2 = pc')
    (k : ∀ q, kk q = some r → own_W C v M' q.2 cs1 ss1 pc' Ls (.ref (own_n C + q.1) :: st)) : own_W C v M' M cs ss pc Ls (.int n :: st) := by
  subst hn hdv e1 e2
  obtain ⟨q, hq, hk⟩ := own_bind h
  unfold own_newA at hq
  split at hq
  · cases hq
  rename_i hneg
  cases hq
  have hn0 : ¬ n < 0 := fun z => hneg (Or.inl z)
  have hn1 : n.toNatClampNeg ≤ cap := Nat.le_of_not_lt fun z => hneg (Or.inr z)
  refine own_go (fun T hT => ?_) (k _ hk)
  obtain ⟨locs, X, N, RR, b1, b2⟩ := hT
  have hcb : componentBytes (newarray.typeOf aty) ≤ 8 := by cases aty <;> decide
  obtain ⟨cA, kA, comp, g1, g2, g3, X', stp⟩ := X.newarrayPrim K.x (mvA K.kz (K.w _ w)) (g := mkF (own_m C) pc Ls.toArray (.int n :: st)) rfl (hb K.kb hd) rfl hn0 (Nat.le_trans (Nat.mul_le_mul hn1 hcb) hcap) (by rw [K.kr]; exact h1) (by rw [K.kr]; omega)
  have g1' := g1
  rw [K.kz.alike.findClass] at g1'
  obtain ⟨kZ, z1, -⟩ := Vm.findClass_spec g1'
  obtain ⟨k', z2, z3⟩ := K.kz.alike.2.2 _ _ z1
  cases g2.symm.trans z2
  refine ⟨_, ⟨locs, X'.more (Nat.le_refl _) (by omega), N, ?_, by rw [K.kr]; exact h1, by rw [K.kr]; exact h2⟩, ?_⟩
  · refine own_push RR (own_ext _ _) ⟨fun ty ht2 => ?_, fun C2 fs2 hc2 => (by rw [own_ty_cl ht] at hc2; cases hc2)⟩
    cases ht.symm.trans ht2
    refine ⟨_, ⟨by simp; rfl, ⟨by simp, kZ, z1, comp, by rw [← g3, z3]⟩, by simp⟩, by simp, ?_⟩
    have := (back32 hn0).2
    simpa using this
  · intro t' q
    refine stp t' ?_
    have e : T.heap.size = own_n C + M.length := RR.1
    rw [e]
    exact q
/-! calls -/
def own_Met (y : MethodName) (yb : ByteArray) (yml : Nat) (yret : Option FieldType) (rm : Room) (args : List Value) (M : own_Mem) (vr : Option Value) (M1 : own_Mem) : Prop :=
  ∀ (l : Launch) (Z : State) (a0 : Array Value) (n0 : Nat) (h0 : Heap) (ws : List Jvm.Cond), (∀ d ∈ tables_1, d.before a0 Z = true) → own_Rel Z n0 h0 M →
    MetFree l y (head1 (Jvm.Cond.code y yb yml yret :: ws) rm) (fun a U => a = (args.map (own_up n0)).toArray ∧ Z.Warmed39 U.vm ∧ U.heap = h0) (fun _ _ _ _ _ => True) (fun _ U o U' => ∃ v L, o = .returned v ∧ (v = vr.map (own_up n0) ∧ own_Rel Z n0 U'.heap M1 ∧ Fr n0 L) ∧ FrameEnd U o U' L rm.cells rm.slots)
theorem own_back (K : own_K C bytes ml own ret nm R) {y : MethodName} {yb : ByteArray} {yml : Nat} {yret : Option FieldType} {rm : Room} {args : List Value} {vr : Option Value} {T : State} {W : Nat} (w3 : Jvm.Cond.initialized y.cls ∈ tables_1) (w4 : Jvm.Cond.code y yb yml yret ∈ tables_1) (hf : rm.frames + 1 ≤ R.frames) (hl : W + (yml + 11) + rm.locals ≤ R.locals) (hM : own_Met y yb yml yret rm args M vr M1) (RR : own_Rel (own_Z C) (own_n C) T.heap M) :
    Back (own_l C) (own_R C) (own_p C) (own_e C) (own_b C) (own_s C) (own_a C) y 3 W (fun A a => a = (args.map (own_up (own_n C))).toArray ∧ A.U.heap = T.heap ∧ A.cells + rm.cells ≤ (own_R C).cells ∧ A.slots + rm.slots ≤ (own_R C).slots)
      (fun A _ v B => ∃ L, (v = vr.map (own_up (own_n C)) ∧ own_Rel (own_Z C) (own_n C) B.U.heap M1 ∧ Fr (own_n C) L) ∧ B.locs = A.locs ++ L ∧ B.cells = A.cells + rm.cells ∧ B.slots = A.slots + rm.slots) :=
  backOf (W := W) (Q := fun v h L => v = vr.map (own_up (own_n C)) ∧ own_Rel (own_Z C) (own_n C) h M1 ∧ Fr (own_n C) L) (hM (own_l C) (own_Z C) (own_z C) (own_n C) T.heap [] K.w RR) K.kz (K.w _ w4) (K.w _ w3) (by rw [K.kr]; exact hf) (by rw [K.kr]; exact hl)
theorem own_callS (K : own_K C bytes ml own ret nm R) {idx : Nat} {y : MethodName} {yb : ByteArray} {yml : Nat} {yret : Option FieldType} {rm : Room} {W : Nat} {argsL stk st1 : List Value} {vr : Option Value} (hd : decode bytes pc = .ok (.invokestatic idx, 3)) (w1 : Jvm.Cond.methodLink own idx y ∈ tables_1) (w2 : Jvm.Cond.static y ∈ tables_1) (w3 : Jvm.Cond.initialized y.cls ∈ tables_1) (w4 : Jvm.Cond.code y yb yml yret ∈ tables_1)
    (hy : y.cls ≠ "java/lang/invoke/MethodHandle" ∧ y.cls ≠ "java/lang/invoke/VarHandle") (hlen : ∀ sig, parseMethodDescriptor y.desc = some sig → argsL.length = sig.parameters.length) (hs : (argsL.map (own_up (own_n C))).reverse ++ st = stk) (hW : (st.map fun v => v.category).sum ≤ W) (hf : rm.frames + 1 ≤ R.frames) (hl : W + (yml + 11) + rm.locals ≤ R.locals) (e1 : cs + rm.cells = cs1) (e2 : ss + rm.slots = ss1) (h1 : cs1 ≤ R.cells) (h2 : ss1 ≤ R.slots) (hsz : Ls.length = ml) (hn : pc + 3 = pc')
    (hM : own_Met y yb yml yret rm argsL M vr M1) (hv : (vr.map (own_up (own_n C))).toList ++ st = st1) (k : own_W C v M' M1 cs1 ss1 pc' Ls st1) : own_W C v M' M cs ss pc Ls stk := by
  subst hn hs hv e1 e2
  refine own_go (fun T hT => ?_) k
  obtain ⟨locs, X, N, RR, b1, b2⟩ := hT
  obtain ⟨v2, vm1, ⟨T1, L1, c1, s1⟩, -, X1, ⟨Lc, ⟨rfl, RR1, N1⟩, l1, y1, z1⟩, st1⟩ := Jvm.LawKit.callS X K.x (y := y) K.ko (mvT K.kz (K.w _ w1)) (mvT K.kz (K.w _ w2)) (mvT K.kz (K.w _ w3)) (mvT K.kz (K.w _ w4)) hy (own_back K w3 w4 hf hl hM RR) (g := mkF (own_m C) pc Ls.toArray ((argsL.map (own_up (own_n C))).reverse ++ st)) rfl (by rw [K.kl]; simpa using hsz) (argsL := argsL.map (own_up (own_n C))) (rest := st) (fun sig q => by rw [List.length_map]; exact hlen sig q) rfl (by show 2 * 0 + _ ≤ _; simpa using hW) (hb K.kb hd) (fun _ _ => ⟨rfl, rfl, by rw [K.kr]; exact h1, by rw [K.kr]; exact h2⟩)
  dsimp only [Pt.U, Pt.locs, Pt.cells, Pt.slots] at X1 l1 y1 z1 st1 RR1
  subst l1 y1 z1
  exact ⟨T1, ⟨_, X1, Fr.app N N1, RR1, by rw [K.kr]; exact h1, by rw [K.kr]; exact h2⟩, st1⟩
theorem own_callI (K : own_K C bytes ml own ret nm R) {idx : Nat} {y : MethodName} {yb : ByteArray} {yml : Nat} {rm : Room} {W a : Nat} {argsL stk : List Value} (hd : decode bytes pc = .ok (.invokespecial idx, 3)) (hy1 : y.name = "<init>") (w1 : Jvm.Cond.methodLink own idx y ∈ tables_1) (w2 : Jvm.Cond.instanceMethod y ∈ tables_1) (w3 : Jvm.Cond.initialized y.cls ∈ tables_1) (w4 : Jvm.Cond.code y yb yml none ∈ tables_1)
    (hy : y.cls ≠ "java/lang/invoke/MethodHandle" ∧ y.cls ≠ "java/lang/invoke/VarHandle") (hlen : ∀ sig, parseMethodDescriptor y.desc = some sig → argsL.length = sig.parameters.length) (hs : (argsL.map (own_up (own_n C))).reverse ++ .ref (own_n C + a) :: st = stk) (hW : (st.map fun v => v.category).sum ≤ W) (hf : rm.frames + 1 ≤ R.frames) (hl : W + (yml + 11) + rm.locals ≤ R.locals) (e1 : cs + rm.cells = cs1) (e2 : ss + rm.slots = ss1) (h1 : cs1 ≤ R.cells) (h2 : ss1 ≤ R.slots) (hsz : Ls.length = ml) (hn : pc + 3 = pc')
    (hM : own_Met y yb yml none rm (.ref a :: argsL) M none M1) (k : own_W C v M' M1 cs1 ss1 pc' Ls st) : own_W C v M' M cs ss pc Ls stk := by
  subst hn hs e1 e2
  refine own_go (fun T hT => ?_) k
  obtain ⟨locs, X, N, RR, b1, b2⟩ := hT
  obtain ⟨v2, vm1, ⟨T1, L1, c1, s1⟩, -, X1, ⟨Lc, ⟨rfl, RR1, N1⟩, l1, y1, z1⟩, st1⟩ := X.specialBack K.x (y := y) hy1 K.ko (mvT K.kz (K.w _ w1)) (mvT K.kz (K.w _ w2)) (mvT K.kz (K.w _ w4)) hy (own_back K w3 w4 hf hl hM RR) (g := mkF (own_m C) pc Ls.toArray ((argsL.map (own_up (own_n C))).reverse ++ .ref (own_n C + a) :: st)) rfl (by rw [K.kl]; simpa using hsz) (Steps.refl _) (a := own_n C + a) (argsL := argsL.map (own_up (own_n C))) (rest := st) (fun sig q => by rw [List.length_map]; exact hlen sig q) rfl (by show 2 * 0 + _ ≤ _; simpa using hW) (hb K.kb hd) (fun _ _ => ⟨rfl, rfl, by rw [K.kr]; exact h1, by rw [K.kr]; exact h2⟩)
  dsimp only [Pt.U, Pt.locs, Pt.cells, Pt.slots] at X1 l1 y1 z1 st1 RR1
  subst l1 y1 z1
  exact ⟨T1, ⟨_, X1, Fr.app N N1, RR1, by rw [K.kr]; exact h1, by rw [K.kr]; exact h2⟩, fun t q => st1.trans q⟩
theorem own_callV (K : own_K C bytes ml own ret nm R) {idx t : Nat} {fs : List (String × String)} {vs : List Value} {y : MethodName} {yb : ByteArray} {yml : Nat} {yret : Option FieldType} {rm : Room} {W a : Nat} {argsL stk st1 : List Value} {vr : Option Value} (hd : decode bytes pc = .ok (.invokevirtual idx, 3)) (w1 : Jvm.Cond.methodLink own idx y ∈ tables_1) (w5 : Jvm.Cond.declares y ∈ tables_1) (w6 : Jvm.Cond.selects y.cls y y ∈ tables_1) (w2 : Jvm.Cond.instanceMethod y ∈ tables_1) (w3 : Jvm.Cond.initialized y.cls ∈ tables_1) (w4 : Jvm.Cond.code y yb yml yret ∈ tables_1)
    (hc : own_cl t = some (y.cls, fs)) (hat : own_at M t a = some vs)
    (hy : y.cls ≠ "java/lang/invoke/MethodHandle" ∧ y.cls ≠ "java/lang/invoke/VarHandle") (hlen : ∀ sig, parseMethodDescriptor y.desc = some sig → argsL.length = sig.parameters.length) (hs : (argsL.map (own_up (own_n C))).reverse ++ .ref (own_n C + a) :: st = stk) (hW : (st.map fun v => v.category).sum ≤ W) (hf : rm.frames + 1 ≤ R.frames) (hl : W + (yml + 11) + rm.locals ≤ R.locals) (e1 : cs + rm.cells = cs1) (e2 : ss + rm.slots = ss1) (h1 : cs1 ≤ R.cells) (h2 : ss1 ≤ R.slots) (hsz : Ls.length = ml) (hn : pc + 3 = pc')
    (hM : own_Met y yb yml yret rm (.ref a :: argsL) M vr M1) (hv : (vr.map (own_up (own_n C))).toList ++ st = st1) (k : own_W C v M' M1 cs1 ss1 pc' Ls st1) : own_W C v M' M cs ss pc Ls stk := by
  subst hn hs hv e1 e2
  refine own_go (fun T hT => ?_) k
  obtain ⟨locs, X, N, RR, b1, b2⟩ := hT
  obtain ⟨cq, kq, qa, qb, qc⟩ := isOf (T := T) K.kz rfl (own_obj RR hc (own_at_e hat)).1
  obtain ⟨v2, vm1, ⟨T1, L1, c1, s1⟩, -, X1, ⟨Lc, ⟨rfl, RR1, N1⟩, l1, y1, z1⟩, st1⟩ := X.virtualBack K.x (y := y) (z := y) K.ko (mvT K.kz (K.w _ w1)) (mvT K.kz (K.w _ w5)) (notFace_of_selects (args := #[]) (mvT K.kz (K.w _ w6))) (mvT K.kz (K.w _ w6)) (mvT K.kz (K.w _ w2)) hy (own_back K w3 w4 hf hl hM RR) qa qc (g := mkF (own_m C) pc Ls.toArray ((argsL.map (own_up (own_n C))).reverse ++ .ref (own_n C + a) :: st)) rfl (by rw [K.kl]; simpa using hsz) (Steps.refl _) (argsL := argsL.map (own_up (own_n C))) (rest := st) (fun sig q => by rw [List.length_map]; exact hlen sig q) rfl (by show 2 * 0 + _ ≤ _; simpa using hW) (hb K.kb hd) (fun _ _ => ⟨rfl, rfl, by rw [K.kr]; exact h1, by rw [K.kr]; exact h2⟩)
  dsimp only [Pt.U, Pt.locs, Pt.cells, Pt.slots] at X1 l1 y1 z1 st1 RR1
  subst l1 y1 z1
  exact ⟨T1, ⟨_, X1, Fr.app N N1, RR1, by rw [K.kr]; exact h1, by rw [K.kr]; exact h2⟩, fun t q => st1.trans q⟩
theorem own_callP (K : own_K C bytes ml own ret nm R) {idx t n1 : Nat} {fs : List (String × String)} {vs : List Value} {y : MethodName} {yb : ByteArray} {yml : Nat} {yret : Option FieldType} {rm : Room} {W a : Nat} {argsL stk st1 : List Value} {vr : Option Value} (hd : decode bytes pc = .ok (.invokevirtual idx, 3)) (w1 : Jvm.Cond.methodLink own idx y ∈ tables_1) (w5 : Jvm.Cond.privateMethod y ∈ tables_1) (w6 : Jvm.Cond.instantiable y.cls n1 ∈ tables_1) (w2 : Jvm.Cond.instanceMethod y ∈ tables_1) (w3 : Jvm.Cond.initialized y.cls ∈ tables_1) (w4 : Jvm.Cond.code y yb yml yret ∈ tables_1)
    (hc : own_cl t = some (y.cls, fs)) (hat : own_at M t a = some vs)
    (hy : y.cls ≠ "java/lang/invoke/MethodHandle" ∧ y.cls ≠ "java/lang/invoke/VarHandle") (hlen : ∀ sig, parseMethodDescriptor y.desc = some sig → argsL.length = sig.parameters.length) (hs : (argsL.map (own_up (own_n C))).reverse ++ .ref (own_n C + a) :: st = stk) (hW : (st.map fun v => v.category).sum ≤ W) (hf : rm.frames + 1 ≤ R.frames) (hl : W + (yml + 11) + rm.locals ≤ R.locals) (e1 : cs + rm.cells = cs1) (e2 : ss + rm.slots = ss1) (h1 : cs1 ≤ R.cells) (h2 : ss1 ≤ R.slots) (hsz : Ls.length = ml) (hn : pc + 3 = pc')
    (hM : own_Met y yb yml yret rm (.ref a :: argsL) M vr M1) (hv : (vr.map (own_up (own_n C))).toList ++ st = st1) (k : own_W C v M' M1 cs1 ss1 pc' Ls st1) : own_W C v M' M cs ss pc Ls stk := by
  subst hn hs hv e1 e2
  refine own_go (fun T hT => ?_) k
  obtain ⟨locs, X, N, RR, b1, b2⟩ := hT
  obtain ⟨cq, qa, qb⟩ := (own_obj RR hc (own_at_e hat)).1.cell
  have hpr : (own_s C).PrivateAt y := Cond.privateMethod_at (mvP K.kz (K.w _ w5) (args := #[]))
  obtain ⟨cI, kI, i1, i2, -, i3, -⟩ := Cond.instantiable_spec (show (Jvm.Cond.instantiable y.cls n1).before (own_a C) (own_s C) = true from mvT K.kz (K.w _ w6))
  have hni : kI.isInterface = false := by
    cases q : kI.isInterface
    · rfl
    · rw [q] at i3; simp at i3
  have hsel : (Jvm.Cond.selects y.cls y y).before (own_a C) (own_s C) = true := selects_self_of_private i1 i2 hni hpr (mvT K.kz (K.w _ w2)) hy
  obtain ⟨v2, vm1, ⟨T1, L1, c1, s1⟩, -, X1, ⟨Lc, ⟨rfl, RR1, N1⟩, l1, y1, z1⟩, st1⟩ := X.privateBack K.x (y := y) K.ko (mvT K.kz (K.w _ w1)) (mvT K.kz (K.w _ w2)) hsel hpr (mvT K.kz (K.w _ w4)) hy (own_back K w3 w4 hf hl hM RR) (g := mkF (own_m C) pc Ls.toArray ((argsL.map (own_up (own_n C))).reverse ++ .ref (own_n C + a) :: st)) rfl (by rw [K.kl]; simpa using hsz) (Steps.refl _) (a := own_n C + a) qa qb (argsL := argsL.map (own_up (own_n C))) (rest := st) (fun sig q => by rw [List.length_map]; exact hlen sig q) rfl (by show 2 * 0 + _ ≤ _; simpa using hW) (hb K.kb hd) (fun _ _ => ⟨rfl, rfl, by rw [K.kr]; exact h1, by rw [K.kr]; exact h2⟩)
  dsimp only [Pt.U, Pt.locs, Pt.cells, Pt.slots] at X1 l1 y1 z1 st1 RR1
  subst l1 y1 z1
  exact ⟨T1, ⟨_, X1, Fr.app N N1, RR1, by rw [K.kr]; exact h1, by rw [K.kr]; exact h2⟩, fun t q => st1.trans q⟩
theorem own_initO (K : own_K C bytes ml own ret nm R) {idx W a : Nat} (hd : decode bytes pc = .ok (.invokespecial idx, 3)) (w1 : Jvm.Cond.methodLink own idx Lib.objectInit ∈ tables_1) (w2 : Jvm.Cond.instanceMethod Lib.objectInit ∈ tables_1) (w3 : Jvm.Cond.code Lib.objectInit ⟨#[0xb1]⟩ 1 none ∈ tables_1) (hW : (st.map fun v => v.category).sum ≤ W) (hf : 1 ≤ R.frames) (hl : W + 12 ≤ R.locals) (hsz : Ls.length = ml) (hn : pc + 3 = pc')
    (k : own_W C v M' M cs ss pc' Ls st) : own_W C v M' M cs ss pc Ls (.ref a :: st) := by
  subst hn
  refine own_go (fun T hT => ?_) k
  obtain ⟨locs, X, N, RR, b⟩ := hT
  obtain ⟨T1, X1, e1, st1⟩ := initO X K.x K.kz K.ko (K.w _ w1) (K.w _ w2) (K.w _ w3) rfl (g := mkF (own_m C) pc Ls.toArray (.ref a :: st)) rfl (by rw [K.kl]; simpa using hsz) rfl (hb K.kb hd) (by rw [K.kr]; exact hf) (W := W) (by show 2 * 0 + _ ≤ _; simpa using hW) (by rw [K.kr]; exact hl)
  exact ⟨T1, ⟨locs, X1, N, by rw [e1]; exact RR, b⟩, st1⟩
/-! returns -/
theorem own_end {w : Option Value} (K : own_K C bytes ml own ret nm R) (hret : ret = none → w = none) (f : ∀ T locs, own_X C T locs cs ss → ∀ fs, (∀ (f : JFrame) (acts : List Action), f.method = own_m C → f.locked = none → f.entered = [] → (doReturn (own_e C) (T.setTop f) acts (w.map (own_up (own_n C)))).1 = T.setFrames fs) → own_Go C T pc Ls st (T.setFrames fs)) : own_W C w M M cs ss pc Ls st := fun T hT => by
  obtain ⟨locs, X, N, RR, b1, b2⟩ := hT
  obtain ⟨fs, hr, hrun, hended, hW, hsame⟩ := X.leave (v := w.map (own_up (own_n C))) (fun q => by rw [K.kt] at q; rw [hret q]; rfl) K.lk
  exact ⟨_, _, f T locs X fs hr, hrun, hended, _, _, rfl, ⟨rfl, RR, N⟩, ⟨_, rfl⟩, hW, hsame.mono b1 b2⟩
theorem own_retV (K : own_K C bytes ml own none nm R) {r : Unit × own_Mem} (hd : decode bytes pc = .ok (.return_, 1)) (h : some ((), M) = some r) : own_W C none r.2 M cs ss pc Ls [] := by
  cases h
  exact own_end K (fun _ => rfl) fun T locs X fs hr => X.returnOut K.x K.kt (hb K.kb hd) hr
theorem own_retJ (K : own_K C bytes ml own (some .long) nm R) {z : Int64} {r : Int64 × own_Mem} (hd : decode bytes pc = .ok (.lreturn, 1)) (h : some (z, M) = some r) : own_W C (some (.long r.1)) r.2 M cs ss pc Ls [.long z] := by
  cases h
  exact own_end K (fun q => by cases q) fun T locs X fs hr => X.lreturnOut K.x K.kt (hb K.kb hd) hr
theorem own_retR {ty : FieldType} (K : own_K C bytes ml own (some ty) nm R) {z : Nat} {r : Nat × own_Mem} (hd : decode bytes pc = .ok (.areturn, 1)) (ht : ty.isReference = true) (h : some (z, M) = some r) : own_W C (some (.ref r.1)) r.2 M cs ss pc Ls [.ref (own_n C + z)] := by
  cases h
  exact own_end K (fun q => by cases q) fun T locs X fs hr => X.areturnOut K.x rfl K.kt ht (hb K.kb hd) hr
theorem own_retI (K : own_K C bytes ml own (some .int) nm R) {z : Int32} {r : Int32 × own_Mem} (hd : decode bytes pc = .ok (.ireturn, 1)) (h : some (z, M) = some r) : own_W C (some (.int r.1)) r.2 M cs ss pc Ls [.int z] := by
  cases h
  exact own_end K (fun q => by cases q) fun T locs X fs hr => X.ireturnOut K.x K.kt rfl (Or.inl rfl) (hb K.kb hd) hr
theorem own_retN {ty : FieldType} (K : own_K C bytes ml own (some ty) nm R) {z : Int32} {r : Int32 × own_Mem} (hd : decode bytes pc = .ok (.ireturn, 1)) (ht : ty = .boolean ∨ ty = .byte ∨ ty = .char ∨ ty = .short) (h : some (nar ty z, M) = some r) : own_W C (some (.int r.1)) r.2 M cs ss pc Ls [.int z] := by
  cases h
  exact own_end K (fun q => by cases q) fun T locs X fs hr => retN X K.x K.kt ht (hb K.kb hd) hr
end OwnHeap
/-- a body's contract, out of its walk -/
theorem own_met {y : MethodName} {yb : ByteArray} {yml : Nat} {yret : Option FieldType} {rm : Room} {args : List Value} {M M1 : own_Mem} {vr : Option Value} {Ls : Nat → List Slot} (hpl : plainFor y = true) (hef : ∀ (m : MethodId) (n0 : Nat), entryFrame m (args.map (own_up n0)).toArray yml = mkF m 0 (Ls n0).toArray [])
    (hW : ∀ C, own_K C yb yml y.cls yret y.name rm → own_W C vr M1 M 0 0 0 (Ls (own_n C)) []) : own_Met y yb yml yret rm args M vr M1 := by
  intro l Z a0 n0 h0 ws hw RR
  refine MetFree.of_bodySF hpl hisR ?_
  intro p e s m args' below meth c s₁ Bd hml0 hP hK
  obtain ⟨rfl, hZ, hh⟩ := hP
  have X0 : Stand p l e rm s m (args.map (own_up n0)).toArray below meth c s₁ [] 0 0 := Stand.of_body Bd
  have e0 : s₁.heap = h0 := by rw [← hh, Bd.state]; rfl
  obtain ⟨U, o, g1, g2, g3, g4⟩ := hW (p, l, e, rm, s, m, (args.map (own_up n0)).toArray, below, meth, c, Z, a0, n0) ⟨Bd.exec, Bd.bytes, hml0, hZ, findClass_of_methodNamed Bd.named, hw, Bd.returns, (name_of_methodNamed Bd.named Bd.method).1, Bd.notSynchronized, rfl⟩ s₁ ⟨[], X0, Fr.nil n0, by rw [e0]; exact RR, Nat.zero_le _, Nat.zero_le _⟩
  exact ⟨U, o, castTop (hef m n0) g1, g2, g3, g4⟩
theorem own_lc0 : Int64.ofNat (0 : Fin 2) = (0 : Int64) := rfl
theorem own_lc1 : Int64.ofNat (1 : Fin 2) = (1 : Int64) := rfl
theorem own_bi6 : (Int8.ofInt (6)).toInt32 = (6 : Int32) := by decide
theorem own_bim2 : (Int8.ofInt (-2)).toInt32 = (-2 : Int32) := by decide
theorem own_ic0 : Int32.ofInt (0) = (0 : Int32) := by decide
theorem own_ic1 : Int32.ofInt (1) = (1 : Int32) := by decide
theorem own_ic2 : Int32.ofInt (2) = (2 : Int32) := by decide
theorem own_ic3 : Int32.ofInt (3) = (3 : Int32) := by decide
theorem own_ic4 : Int32.ofInt (4) = (4 : Int32) := by decide
theorem own_ic5 : Int32.ofInt (5) = (5 : Int32) := by decide
theorem own_icm1 : Int32.ofInt (-1) = (-1 : Int32) := by decide
theorem own_si1000 : (Int16.ofInt (1000)).toInt32 = (1000 : Int32) := by decide
theorem own_pn0 : plainName "com/example/gatherline/gatherline/RunSplitFindPinLaw" = true := by first | (simp [plainName, overriddenIn]; done) | decide +kernel
theorem own_pn1 : plainName "com/example/gatherline/gatherline/RunSplit" = true := by first | (simp [plainName, overriddenIn]; done) | decide +kernel
theorem own_pn2 : plainName "java/util/Arrays" = true := by first | (simp [plainName, overriddenIn]; done) | decide +kernel
theorem own_pd0 : parseMethodDescriptor "([IIIII)I" = some ⟨[(.array .int), .int, .int, .int, .int], some .int⟩ := by decide +kernel
theorem own_pd1 : parseMethodDescriptor "(II)I" = some ⟨[.int, .int], some .int⟩ := by decide +kernel
theorem own_pd2 : parseMethodDescriptor "(III)V" = some ⟨[.int, .int, .int], none⟩ := by decide +kernel
theorem own_pd3 : parseMethodDescriptor "([IIII)V" = some ⟨[(.array .int), .int, .int, .int], none⟩ := by decide +kernel
theorem own_pd4 : parseMethodDescriptor "([II)Z" = some ⟨[(.array .int), .int], some .boolean⟩ := by decide +kernel
theorem own_pd5 : parseMethodDescriptor "([I)Z" = some ⟨[(.array .int)], some .boolean⟩ := by decide +kernel
theorem own_pd6 : parseMethodDescriptor "(I)I" = some ⟨[.int], some .int⟩ := by decide +kernel
theorem own_pd7 : parseMethodDescriptor "()I" = some ⟨[], some .int⟩ := by decide +kernel
theorem own_pd8 : parseMethodDescriptor "([II)I" = some ⟨[(.array .int), .int], some .int⟩ := by decide +kernel
theorem own_pd9 : parseMethodDescriptor "(Z)I" = some ⟨[.boolean], some .int⟩ := by decide +kernel
theorem own_pd10 : parseMethodDescriptor "([IIII[II)Z" = some ⟨[(.array .int), .int, .int, .int, (.array .int), .int], some .boolean⟩ := by decide +kernel
theorem own_pd11 : parseMethodDescriptor "()[I" = some ⟨[], some (.array .int)⟩ := by decide +kernel
theorem own_pd12 : parseMethodDescriptor "([IIII)I" = some ⟨[(.array .int), .int, .int, .int], some .int⟩ := by decide +kernel
theorem own_pd13 : parseMethodDescriptor "(II)V" = some ⟨[.int, .int], none⟩ := by decide +kernel
theorem own_pd14 : parseMethodDescriptor "([III)I" = some ⟨[(.array .int), .int, .int], some .int⟩ := by decide +kernel
theorem m1_d0 : decode jdk_29_method_69_code 0 = .ok (.iload_n 0, 1) := by decide +kernel
theorem m1_d1 : decode jdk_29_method_69_code 1 = .ok (.iload_n 1, 1) := by decide +kernel
theorem m1_d2 : decode jdk_29_method_69_code 2 = .ok (.if_icmp .gt 7, 3) := by decide +kernel
theorem m1_d5 : decode jdk_29_method_69_code 5 = .ok (.iload_n 0, 1) := by decide +kernel
theorem m1_d6 : decode jdk_29_method_69_code 6 = .ok (.goto 4, 3) := by decide +kernel
theorem m1_d9 : decode jdk_29_method_69_code 9 = .ok (.iload_n 1, 1) := by decide +kernel
theorem m1_d10 : decode jdk_29_method_69_code 10 = .ok (.ireturn, 1) := by decide +kernel
def m1_rm : Room := { frames := 0, cells := 0, slots := 0, locals := 0 }
set_option maxRecDepth 65536 in
def m1_b10 (t0 : Int32) (M : own_Mem) : Option (Int32 × own_Mem) := some (t0, M)
set_option maxRecDepth 65536 in
set_option maxHeartbeats 4000000 in
theorem m1_w10 {C : own_Ctx} (K : own_K C jdk_29_method_69_code 2 "java/lang/Math" (some .int) "min" m1_rm) {t0 : Int32} {z0 : Slot} {z1 : Slot} (o0 : own_One z0) (o1 : own_One z1) {M : own_Mem} {r : Int32 × own_Mem} (h : m1_b10 t0 M = some r) : own_W C (some (.int r.1)) r.2 M 0 0 10 [z0, z1] [.int t0] := by
  unfold m1_b10 at h
  exact own_retI K m1_d10 h
set_option maxRecDepth 65536 in
def m1 (i0 : Int32) (i1 : Int32) (M : own_Mem) : Option (Int32 × own_Mem) := if i1 < i0 then (m1_b10 i1 M) else (m1_b10 i0 M)
set_option maxRecDepth 65536 in
set_option maxHeartbeats 4000000 in
theorem m1_w {C : own_Ctx} (K : own_K C jdk_29_method_69_code 2 "java/lang/Math" (some .int) "min" m1_rm) {i0 : Int32} {i1 : Int32} {M : own_Mem} {r : Int32 × own_Mem} (h : m1 i0 i1 M = some r) : own_W C (some (.int r.1)) r.2 M 0 0 0 [.val (.int i0), .val (.int i1)] [] := by
  unfold m1 at h
  refine own_iloadN K m1_d0 rfl rfl ?_
  refine own_iloadN K m1_d1 rfl rfl ?_
  refine own_igt K m1_d2 h (pc1 := 9) (pc2 := 5) (by decide) rfl (fun h => ?_) (fun h => ?_)
  · refine own_iloadN K m1_d9 rfl rfl ?_
    exact m1_w10 K own_one_i own_one_i h
  · refine own_iloadN K m1_d5 rfl rfl ?_
    refine own_goto K m1_d6 (pc' := 10) (by decide) ?_
    exact m1_w10 K own_one_i own_one_i h
set_option maxRecDepth 65536 in
set_option maxHeartbeats 4000000 in
theorem m1_met {i0 : Int32} {i1 : Int32} {M : own_Mem} {q : Int32 × own_Mem} (h : m1 i0 i1 M = some q) : own_Met ⟨"java/lang/Math", "min", "(II)I"⟩ jdk_29_method_69_code 2 (some .int) m1_rm [.int i0, .int i1] M (some (.int q.1)) q.2 :=
  own_met (Ls := fun n0 => [.val (.int i0), .val (.int i1)]) (Jvm.Free.JP.mathPlain rfl (by decide +kernel)) (fun m n0 => by first | (simp [entryFrame, mkF, argsToLocals, Value.category, own_up]; done) | rfl) fun C K => m1_w K h
theorem m2_d0 : decode method_2_code 0 = .ok (.iload_n 1, 1) := by decide +kernel
theorem m2_d1 : decode method_2_code 1 = .ok (.iload_n 2, 1) := by decide +kernel
theorem m2_d2 : decode method_2_code 2 = .ok (.if_icmp .lt 18, 3) := by decide +kernel
theorem m2_d5 : decode method_2_code 5 = .ok (.iload_n 1, 1) := by decide +kernel
theorem m2_d6 : decode method_2_code 6 = .ok (.aload_n 0, 1) := by decide +kernel
theorem m2_d7 : decode method_2_code 7 = .ok (.iload_n 1, 1) := by decide +kernel
theorem m2_d8 : decode method_2_code 8 = .ok (.iaload, 1) := by decide +kernel
theorem m2_d9 : decode method_2_code 9 = .ok (.isub, 1) := by decide +kernel
theorem m2_d10 : decode method_2_code 10 = .ok (.iload_n 2, 1) := by decide +kernel
theorem m2_d11 : decode method_2_code 11 = .ok (.if_icmp .lt 9, 3) := by decide +kernel
theorem m2_d14 : decode method_2_code 14 = .ok (.aload_n 0, 1) := by decide +kernel
theorem m2_d15 : decode method_2_code 15 = .ok (.iload_n 1, 1) := by decide +kernel
theorem m2_d16 : decode method_2_code 16 = .ok (.iaload, 1) := by decide +kernel
theorem m2_d17 : decode method_2_code 17 = .ok (.goto 5, 3) := by decide +kernel
theorem m2_d20 : decode method_2_code 20 = .ok (.ldc 9, 2) := by decide +kernel
theorem m2_d22 : decode method_2_code 22 = .ok (.ireturn, 1) := by decide +kernel
def m2_rm : Room := { frames := 0, cells := 0, slots := 0, locals := 0 }
set_option maxRecDepth 65536 in
def m2_b22 (t0 : Int32) (M : own_Mem) : Option (Int32 × own_Mem) := some (t0, M)
set_option maxRecDepth 65536 in
set_option maxHeartbeats 4000000 in
theorem m2_w22 {C : own_Ctx} (K : own_K C method_2_code 3 "com/example/gatherline/gatherline/RunSplitFindPinLaw" (some .int) "first" m2_rm) {t0 : Int32} {z0 : Slot} {z1 : Slot} {z2 : Slot} (o0 : own_One z0) (o1 : own_One z1) (o2 : own_One z2) {M : own_Mem} {r : Int32 × own_Mem} (h : m2_b22 t0 M = some r) : own_W C (some (.int r.1)) r.2 M 0 0 22 [z0, z1, z2] [.int t0] := by
  unfold m2_b22 at h
  exact own_retI K m2_d22 h
set_option maxRecDepth 65536 in
def m2_b20  (M : own_Mem) : Option (Int32 × own_Mem) := m2_b22 (2147483647 : Int32) M
set_option maxRecDepth 65536 in
set_option maxHeartbeats 4000000 in
theorem m2_w20 {C : own_Ctx} (K : own_K C method_2_code 3 "com/example/gatherline/gatherline/RunSplitFindPinLaw" (some .int) "first" m2_rm) {z0 : Slot} {z1 : Slot} {z2 : Slot} (o0 : own_One z0) (o1 : own_One z1) (o2 : own_One z2) {M : own_Mem} {r : Int32 × own_Mem} (h : m2_b20  M = some r) : own_W C (some (.int r.1)) r.2 M 0 0 20 [z0, z1, z2] [] := by
  unfold m2_b20 at h
  refine own_ldc K m2_d20 own_w0 rfl ?_
  exact m2_w22 K o0 o1 o2 h
set_option maxRecDepth 65536 in
def m2 (a0 : Nat) (i1 : Int32) (i2 : Int32) (M : own_Mem) : Option (Int32 × own_Mem) := if i1 < i2 then (m2_b20 M) else ((own_ldI 100 M a0 i1).bind fun x1 => if (i1 - x1) < i2 then (m2_b20 M) else ((own_ldI 100 M a0 i1).bind fun x2 => m2_b22 x2 M))
set_option maxRecDepth 65536 in
set_option maxHeartbeats 4000000 in
theorem m2_w {C : own_Ctx} (K : own_K C method_2_code 3 "com/example/gatherline/gatherline/RunSplitFindPinLaw" (some .int) "first" m2_rm) {a0 : Nat} {i1 : Int32} {i2 : Int32} {M : own_Mem} {r : Int32 × own_Mem} (h : m2 a0 i1 i2 M = some r) : own_W C (some (.int r.1)) r.2 M 0 0 0 [.val (.ref (own_n C + a0)), .val (.int i1), .val (.int i2)] [] := by
  unfold m2 at h
  refine own_iloadN K m2_d0 rfl rfl ?_
  refine own_iloadN K m2_d1 rfl rfl ?_
  refine own_ilt K m2_d2 h (pc1 := 20) (pc2 := 5) (by decide) rfl (fun h => ?_) (fun h => ?_)
  · exact m2_w20 K own_one_r own_one_i own_one_i h
  · refine own_iloadN K m2_d5 rfl rfl ?_
    refine own_aloadN K m2_d6 rfl rfl ?_
    refine own_iloadN K m2_d7 rfl rfl ?_
    refine own_iaload K m2_d8 h rfl (fun x1 h => ?_)
    refine own_isub K m2_d9 rfl ?_
    refine own_iloadN K m2_d10 rfl rfl ?_
    refine own_ilt K m2_d11 h (pc1 := 20) (pc2 := 14) (by decide) rfl (fun h => ?_) (fun h => ?_)
    · exact m2_w20 K own_one_r own_one_i own_one_i h
    · refine own_aloadN K m2_d14 rfl rfl ?_
      refine own_iloadN K m2_d15 rfl rfl ?_
      refine own_iaload K m2_d16 h rfl (fun x2 h => ?_)
      refine own_goto K m2_d17 (pc' := 22) (by decide) ?_
      exact m2_w22 K own_one_r own_one_i own_one_i h
set_option maxRecDepth 65536 in
set_option maxHeartbeats 4000000 in
theorem m2_met {a0 : Nat} {i1 : Int32} {i2 : Int32} {M : own_Mem} {q : Int32 × own_Mem} (h : m2 a0 i1 i2 M = some q) : own_Met ⟨"com/example/gatherline/gatherline/RunSplitFindPinLaw", "first", "([III)I"⟩ method_2_code 3 (some .int) m2_rm [.ref a0, .int i1, .int i2] M (some (.int q.1)) q.2 :=
  own_met (Ls := fun n0 => [.val (.ref (n0 + a0)), .val (.int i1), .val (.int i2)]) (plainFor_of_name own_pn0) (fun m n0 => by first | (simp [entryFrame, mkF, argsToLocals, Value.category, own_up]; done) | rfl) fun C K => m2_w K h
theorem m4_d0 : decode method_3_code 0 = .ok (.iload_n 1, 1) := by decide +kernel
theorem m4_d1 : decode method_3_code 1 = .ok (.iload_n 3, 1) := by decide +kernel
theorem m4_d2 : decode method_3_code 2 = .ok (.if_icmp .lt 17, 3) := by decide +kernel
theorem m4_d5 : decode method_3_code 5 = .ok (.iload_n 1, 1) := by decide +kernel
theorem m4_d6 : decode method_3_code 6 = .ok (.iload_n 2, 1) := by decide +kernel
theorem m4_d7 : decode method_3_code 7 = .ok (.iload 4, 2) := by decide +kernel
theorem m4_d9 : decode method_3_code 9 = .ok (.isub, 1) := by decide +kernel
theorem m4_d10 : decode method_3_code 10 = .ok (.if_icmp .gt 9, 3) := by decide +kernel
theorem m4_d13 : decode method_3_code 13 = .ok (.aload_n 0, 1) := by decide +kernel
theorem m4_d14 : decode method_3_code 14 = .ok (.iload_n 1, 1) := by decide +kernel
theorem m4_d15 : decode method_3_code 15 = .ok (.iaload, 1) := by decide +kernel
theorem m4_d16 : decode method_3_code 16 = .ok (.goto 6, 3) := by decide +kernel
theorem m4_d19 : decode method_3_code 19 = .ok (.sipush 1000, 3) := by decide +kernel
theorem m4_d22 : decode method_3_code 22 = .ok (.ireturn, 1) := by decide +kernel
def m4_rm : Room := { frames := 0, cells := 0, slots := 0, locals := 0 }
set_option maxRecDepth 65536 in
def m4_b22 (t0 : Int32) (M : own_Mem) : Option (Int32 × own_Mem) := some (t0, M)
set_option maxRecDepth 65536 in
set_option maxHeartbeats 4000000 in
theorem m4_w22 {C : own_Ctx} (K : own_K C method_3_code 5 "com/example/gatherline/gatherline/RunSplitFindPinLaw" (some .int) "cand" m4_rm) {t0 : Int32} {z0 : Slot} {z1 : Slot} {z2 : Slot} {z3 : Slot} {z4 : Slot} (o0 : own_One z0) (o1 : own_One z1) (o2 : own_One z2) (o3 : own_One z3) (o4 : own_One z4) {M : own_Mem} {r : Int32 × own_Mem} (h : m4_b22 t0 M = some r) : own_W C (some (.int r.1)) r.2 M 0 0 22 [z0, z1, z2, z3, z4] [.int t0] := by
  unfold m4_b22 at h
  exact own_retI K m4_d22 h
set_option maxRecDepth 65536 in
def m4_b19  (M : own_Mem) : Option (Int32 × own_Mem) := m4_b22 (1000 : Int32) M
set_option maxRecDepth 65536 in
set_option maxHeartbeats 4000000 in
theorem m4_w19 {C : own_Ctx} (K : own_K C method_3_code 5 "com/example/gatherline/gatherline/RunSplitFindPinLaw" (some .int) "cand" m4_rm) {z0 : Slot} {z1 : Slot} {z2 : Slot} {z3 : Slot} {z4 : Slot} (o0 : own_One z0) (o1 : own_One z1) (o2 : own_One z2) (o3 : own_One z3) (o4 : own_One z4) {M : own_Mem} {r : Int32 × own_Mem} (h : m4_b19  M = some r) : own_W C (some (.int r.1)) r.2 M 0 0 19 [z0, z1, z2, z3, z4] [] := by
  unfold m4_b19 at h
  refine own_sipush K m4_d19 own_si1000 rfl ?_
  exact m4_w22 K o0 o1 o2 o3 o4 h
set_option maxRecDepth 65536 in
def m4 (a0 : Nat) (i1 : Int32) (i2 : Int32) (i3 : Int32) (i4 : Int32) (M : own_Mem) : Option (Int32 × own_Mem) := if i1 < i3 then (m4_b19 M) else (if (i2 - i4) < i1 then (m4_b19 M) else ((own_ldI 100 M a0 i1).bind fun x1 => m4_b22 x1 M))
set_option maxRecDepth 65536 in
set_option maxHeartbeats 4000000 in
theorem m4_w {C : own_Ctx} (K : own_K C method_3_code 5 "com/example/gatherline/gatherline/RunSplitFindPinLaw" (some .int) "cand" m4_rm) {a0 : Nat} {i1 : Int32} {i2 : Int32} {i3 : Int32} {i4 : Int32} {M : own_Mem} {r : Int32 × own_Mem} (h : m4 a0 i1 i2 i3 i4 M = some r) : own_W C (some (.int r.1)) r.2 M 0 0 0 [.val (.ref (own_n C + a0)), .val (.int i1), .val (.int i2), .val (.int i3), .val (.int i4)] [] := by
  unfold m4 at h
  refine own_iloadN K m4_d0 rfl rfl ?_
  refine own_iloadN K m4_d1 rfl rfl ?_
  refine own_ilt K m4_d2 h (pc1 := 19) (pc2 := 5) (by decide) rfl (fun h => ?_) (fun h => ?_)
  · exact m4_w19 K own_one_r own_one_i own_one_i own_one_i own_one_i h
  · refine own_iloadN K m4_d5 rfl rfl ?_
    refine own_iloadN K m4_d6 rfl rfl ?_
    refine own_iload K m4_d7 rfl rfl ?_
    refine own_isub K m4_d9 rfl ?_
    refine own_igt K m4_d10 h (pc1 := 19) (pc2 := 13) (by decide) rfl (fun h => ?_) (fun h => ?_)
    · exact m4_w19 K own_one_r own_one_i own_one_i own_one_i own_one_i h
    · refine own_aloadN K m4_d13 rfl rfl ?_
      refine own_iloadN K m4_d14 rfl rfl ?_
      refine own_iaload K m4_d15 h rfl (fun x1 h => ?_)
      refine own_goto K m4_d16 (pc' := 22) (by decide) ?_
      exact m4_w22 K own_one_r own_one_i own_one_i own_one_i own_one_i h
set_option maxRecDepth 65536 in
set_option maxHeartbeats 4000000 in
theorem m4_met {a0 : Nat} {i1 : Int32} {i2 : Int32} {i3 : Int32} {i4 : Int32} {M : own_Mem} {q : Int32 × own_Mem} (h : m4 a0 i1 i2 i3 i4 M = some q) : own_Met ⟨"com/example/gatherline/gatherline/RunSplitFindPinLaw", "cand", "([IIIII)I"⟩ method_3_code 5 (some .int) m4_rm [.ref a0, .int i1, .int i2, .int i3, .int i4] M (some (.int q.1)) q.2 :=
  own_met (Ls := fun n0 => [.val (.ref (n0 + a0)), .val (.int i1), .val (.int i2), .val (.int i3), .val (.int i4)]) (plainFor_of_name own_pn0) (fun m n0 => by first | (simp [entryFrame, mkF, argsToLocals, Value.category, own_up]; done) | rfl) fun C K => m4_w K h
theorem m3_d0 : decode method_4_code 0 = .ok (.aload_n 0, 1) := by decide +kernel
theorem m3_d1 : decode method_4_code 1 = .ok (.iload_n 1, 1) := by decide +kernel
theorem m3_d2 : decode method_4_code 2 = .ok (.iconst 1, 1) := by decide +kernel
theorem m3_d3 : decode method_4_code 3 = .ok (.isub, 1) := by decide +kernel
theorem m3_d4 : decode method_4_code 4 = .ok (.iaload, 1) := by decide +kernel
theorem m3_d5 : decode method_4_code 5 = .ok (.iconst 1, 1) := by decide +kernel
theorem m3_d6 : decode method_4_code 6 = .ok (.iadd, 1) := by decide +kernel
theorem m3_d7 : decode method_4_code 7 = .ok (.istore 4, 2) := by decide +kernel
theorem m3_d9 : decode method_4_code 9 = .ok (.iload 4, 2) := by decide +kernel
theorem m3_d11 : decode method_4_code 11 = .ok (.aload_n 0, 1) := by decide +kernel
theorem m3_d12 : decode method_4_code 12 = .ok (.iconst 0, 1) := by decide +kernel
theorem m3_d13 : decode method_4_code 13 = .ok (.iload_n 1, 1) := by decide +kernel
theorem m3_d14 : decode method_4_code 14 = .ok (.iload_n 2, 1) := by decide +kernel
theorem m3_d15 : decode method_4_code 15 = .ok (.iload_n 3, 1) := by decide +kernel
theorem m3_d16 : decode method_4_code 16 = .ok (.invokestatic 10, 3) := by decide +kernel
theorem m3_d19 : decode method_4_code 19 = .ok (.invokestatic 16, 3) := by decide +kernel
theorem m3_d22 : decode method_4_code 22 = .ok (.istore 4, 2) := by decide +kernel
theorem m3_d24 : decode method_4_code 24 = .ok (.iload 4, 2) := by decide +kernel
theorem m3_d26 : decode method_4_code 26 = .ok (.aload_n 0, 1) := by decide +kernel
theorem m3_d27 : decode method_4_code 27 = .ok (.iconst 1, 1) := by decide +kernel
theorem m3_d28 : decode method_4_code 28 = .ok (.iload_n 1, 1) := by decide +kernel
theorem m3_d29 : decode method_4_code 29 = .ok (.iload_n 2, 1) := by decide +kernel
theorem m3_d30 : decode method_4_code 30 = .ok (.iload_n 3, 1) := by decide +kernel
theorem m3_d31 : decode method_4_code 31 = .ok (.invokestatic 10, 3) := by decide +kernel
theorem m3_d34 : decode method_4_code 34 = .ok (.invokestatic 16, 3) := by decide +kernel
theorem m3_d37 : decode method_4_code 37 = .ok (.istore 4, 2) := by decide +kernel
theorem m3_d39 : decode method_4_code 39 = .ok (.iload 4, 2) := by decide +kernel
theorem m3_d41 : decode method_4_code 41 = .ok (.aload_n 0, 1) := by decide +kernel
theorem m3_d42 : decode method_4_code 42 = .ok (.iconst 2, 1) := by decide +kernel
theorem m3_d43 : decode method_4_code 43 = .ok (.iload_n 1, 1) := by decide +kernel
theorem m3_d44 : decode method_4_code 44 = .ok (.iload_n 2, 1) := by decide +kernel
theorem m3_d45 : decode method_4_code 45 = .ok (.iload_n 3, 1) := by decide +kernel
theorem m3_d46 : decode method_4_code 46 = .ok (.invokestatic 10, 3) := by decide +kernel
theorem m3_d49 : decode method_4_code 49 = .ok (.invokestatic 16, 3) := by decide +kernel
theorem m3_d52 : decode method_4_code 52 = .ok (.istore 4, 2) := by decide +kernel
theorem m3_d54 : decode method_4_code 54 = .ok (.iload 4, 2) := by decide +kernel
theorem m3_d56 : decode method_4_code 56 = .ok (.aload_n 0, 1) := by decide +kernel
theorem m3_d57 : decode method_4_code 57 = .ok (.iconst 3, 1) := by decide +kernel
theorem m3_d58 : decode method_4_code 58 = .ok (.iload_n 1, 1) := by decide +kernel
theorem m3_d59 : decode method_4_code 59 = .ok (.iload_n 2, 1) := by decide +kernel
theorem m3_d60 : decode method_4_code 60 = .ok (.iload_n 3, 1) := by decide +kernel
theorem m3_d61 : decode method_4_code 61 = .ok (.invokestatic 10, 3) := by decide +kernel
theorem m3_d64 : decode method_4_code 64 = .ok (.invokestatic 16, 3) := by decide +kernel
theorem m3_d67 : decode method_4_code 67 = .ok (.istore 4, 2) := by decide +kernel
theorem m3_d69 : decode method_4_code 69 = .ok (.iload 4, 2) := by decide +kernel
theorem m3_d71 : decode method_4_code 71 = .ok (.ireturn, 1) := by decide +kernel
def m3_rm : Room := { frames := 1, cells := 0, slots := 0, locals := 17 }
set_option maxRecDepth 65536 in
def m3_b54 (a0 : Nat) (i1 : Int32) (i2 : Int32) (i3 : Int32) (i4 : Int32) (M : own_Mem) : Option (Int32 × own_Mem) := (m4 a0 (3 : Int32) i1 i2 i3 M).bind fun q1 => (m1 i4 q1.1 q1.2).bind fun q2 => some (q2.1, q2.2)
set_option maxRecDepth 65536 in
set_option maxHeartbeats 4000000 in
theorem m3_w54 {C : own_Ctx} (K : own_K C method_4_code 5 "com/example/gatherline/gatherline/RunSplitFindPinLaw" (some .int) "step" m3_rm) {a0 : Nat} {i1 : Int32} {i2 : Int32} {i3 : Int32} {i4 : Int32} {M : own_Mem} {r : Int32 × own_Mem} (h : m3_b54 a0 i1 i2 i3 i4 M = some r) : own_W C (some (.int r.1)) r.2 M 0 0 54 [.val (.ref (own_n C + a0)), .val (.int i1), .val (.int i2), .val (.int i3), .val (.int i4)] [] := by
  unfold m3_b54 at h
  refine own_iload K m3_d54 rfl rfl ?_
  refine own_aloadN K m3_d56 rfl rfl ?_
  refine own_iconst K m3_d57 own_ic3 rfl ?_
  refine own_iloadN K m3_d58 rfl rfl ?_
  refine own_iloadN K m3_d59 rfl rfl ?_
  refine own_iloadN K m3_d60 rfl rfl ?_
  refine own_bk h (fun q1 hq1 h => ?_)
  refine own_callS K m3_d61 own_w13 own_w14 own_w8 own_w15 (argsL := [.ref a0, .int (3 : Int32), .int i1, .int i2, .int i3]) (st := [.int i4]) (by decide) (lenOf own_pd0 rfl) rfl (W := 1) (Nat.le_of_eq rfl) (by decide) (by decide) (cs1 := 0) (ss1 := 0) rfl rfl (by decide) (by decide) rfl rfl (m4_met hq1) (st1 := [.int q1.1, .int i4]) rfl ?_
  refine own_bk h (fun q2 hq2 h => ?_)
  refine own_callS K m3_d64 own_w2 own_w3 own_w4 own_w5 (argsL := [.int i4, .int q1.1]) (st := []) (by decide) (lenOf own_pd1 rfl) rfl (W := 0) (Nat.le_of_eq rfl) (by decide) (by decide) (cs1 := 0) (ss1 := 0) rfl rfl (by decide) (by decide) rfl rfl (m1_met hq2) (st1 := [.int q2.1]) rfl ?_
  refine own_istore K m3_d67 (Ls' := [.val (.ref (own_n C + a0)), .val (.int i1), .val (.int i2), .val (.int i3), .val (.int q2.1)]) rfl rfl ?_
  refine own_iload K m3_d69 rfl rfl ?_
  exact own_retI K m3_d71 h
set_option maxRecDepth 65536 in
def m3 (a0 : Nat) (i1 : Int32) (i2 : Int32) (i3 : Int32) (M : own_Mem) : Option (Int32 × own_Mem) := (own_ldI 100 M a0 (i1 - (1 : Int32))).bind fun x3 => own_let (x3 + (1 : Int32)) fun x4 => (m4 a0 (0 : Int32) i1 i2 i3 M).bind fun q5 => (m1 x4 q5.1 q5.2).bind fun q6 => (m4 a0 (1 : Int32) i1 i2 i3 q6.2).bind fun q7 => (m1 q6.1 q7.1 q7.2).bind fun q8 => (m4 a0 (2 : Int32) i1 i2 i3 q8.2).bind fun q9 => (m1 q8.1 q9.1 q9.2).bind fun q10 => m3_b54 a0 i1 i2 i3 q10.1 q10.2
set_option maxRecDepth 65536 in
set_option maxHeartbeats 4000000 in
theorem m3_w {C : own_Ctx} (K : own_K C method_4_code 5 "com/example/gatherline/gatherline/RunSplitFindPinLaw" (some .int) "step" m3_rm) {a0 : Nat} {i1 : Int32} {i2 : Int32} {i3 : Int32} {M : own_Mem} {r : Int32 × own_Mem} (h : m3 a0 i1 i2 i3 M = some r) : own_W C (some (.int r.1)) r.2 M 0 0 0 [.val (.ref (own_n C + a0)), .val (.int i1), .val (.int i2), .val (.int i3), .unset] [] := by
  unfold m3 at h
  refine own_aloadN K m3_d0 rfl rfl ?_
  refine own_iloadN K m3_d1 rfl rfl ?_
  refine own_iconst K m3_d2 own_ic1 rfl ?_
  refine own_isub K m3_d3 rfl ?_
  refine own_iaload K m3_d4 h rfl (fun x3 h => ?_)
  refine own_iconst K m3_d5 own_ic1 rfl ?_
  refine own_iadd K m3_d6 rfl ?_
  refine own_letI h (fun x4 h => ?_)
  refine own_istore K m3_d7 (Ls' := [.val (.ref (own_n C + a0)), .val (.int i1), .val (.int i2), .val (.int i3), .val (.int x4)]) rfl rfl ?_
  refine own_iload K m3_d9 rfl rfl ?_
  refine own_aloadN K m3_d11 rfl rfl ?_
  refine own_iconst K m3_d12 own_ic0 rfl ?_
  refine own_iloadN K m3_d13 rfl rfl ?_
  refine own_iloadN K m3_d14 rfl rfl ?_
  refine own_iloadN K m3_d15 rfl rfl ?_
  refine own_bk h (fun q5 hq5 h => ?_)
  refine own_callS K m3_d16 own_w13 own_w14 own_w8 own_w15 (argsL := [.ref a0, .int (0 : Int32), .int i1, .int i2, .int i3]) (st := [.int x4]) (by decide) (lenOf own_pd0 rfl) rfl (W := 1) (Nat.le_of_eq rfl) (by decide) (by decide) (cs1 := 0) (ss1 := 0) rfl rfl (by decide) (by decide) rfl rfl (m4_met hq5) (st1 := [.int q5.1, .int x4]) rfl ?_
  refine own_bk h (fun q6 hq6 h => ?_)
  refine own_callS K m3_d19 own_w2 own_w3 own_w4 own_w5 (argsL := [.int x4, .int q5.1]) (st := []) (by decide) (lenOf own_pd1 rfl) rfl (W := 0) (Nat.le_of_eq rfl) (by decide) (by decide) (cs1 := 0) (ss1 := 0) rfl rfl (by decide) (by decide) rfl rfl (m1_met hq6) (st1 := [.int q6.1]) rfl ?_
  refine own_istore K m3_d22 (Ls' := [.val (.ref (own_n C + a0)), .val (.int i1), .val (.int i2), .val (.int i3), .val (.int q6.1)]) rfl rfl ?_
  refine own_iload K m3_d24 rfl rfl ?_
  refine own_aloadN K m3_d26 rfl rfl ?_
  refine own_iconst K m3_d27 own_ic1 rfl ?_
  refine own_iloadN K m3_d28 rfl rfl ?_
  refine own_iloadN K m3_d29 rfl rfl ?_
  refine own_iloadN K m3_d30 rfl rfl ?_
  refine own_bk h (fun q7 hq7 h => ?_)
  refine own_callS K m3_d31 own_w13 own_w14 own_w8 own_w15 (argsL := [.ref a0, .int (1 : Int32), .int i1, .int i2, .int i3]) (st := [.int q6.1]) (by decide) (lenOf own_pd0 rfl) rfl (W := 1) (Nat.le_of_eq rfl) (by decide) (by decide) (cs1 := 0) (ss1 := 0) rfl rfl (by decide) (by decide) rfl rfl (m4_met hq7) (st1 := [.int q7.1, .int q6.1]) rfl ?_
  refine own_bk h (fun q8 hq8 h => ?_)
  refine own_callS K m3_d34 own_w2 own_w3 own_w4 own_w5 (argsL := [.int q6.1, .int q7.1]) (st := []) (by decide) (lenOf own_pd1 rfl) rfl (W := 0) (Nat.le_of_eq rfl) (by decide) (by decide) (cs1 := 0) (ss1 := 0) rfl rfl (by decide) (by decide) rfl rfl (m1_met hq8) (st1 := [.int q8.1]) rfl ?_
  refine own_istore K m3_d37 (Ls' := [.val (.ref (own_n C + a0)), .val (.int i1), .val (.int i2), .val (.int i3), .val (.int q8.1)]) rfl rfl ?_
  refine own_iload K m3_d39 rfl rfl ?_
  refine own_aloadN K m3_d41 rfl rfl ?_
  refine own_iconst K m3_d42 own_ic2 rfl ?_
  refine own_iloadN K m3_d43 rfl rfl ?_
  refine own_iloadN K m3_d44 rfl rfl ?_
  refine own_iloadN K m3_d45 rfl rfl ?_
  refine own_bk h (fun q9 hq9 h => ?_)
  refine own_callS K m3_d46 own_w13 own_w14 own_w8 own_w15 (argsL := [.ref a0, .int (2 : Int32), .int i1, .int i2, .int i3]) (st := [.int q8.1]) (by decide) (lenOf own_pd0 rfl) rfl (W := 1) (Nat.le_of_eq rfl) (by decide) (by decide) (cs1 := 0) (ss1 := 0) rfl rfl (by decide) (by decide) rfl rfl (m4_met hq9) (st1 := [.int q9.1, .int q8.1]) rfl ?_
  refine own_bk h (fun q10 hq10 h => ?_)
  refine own_callS K m3_d49 own_w2 own_w3 own_w4 own_w5 (argsL := [.int q8.1, .int q9.1]) (st := []) (by decide) (lenOf own_pd1 rfl) rfl (W := 0) (Nat.le_of_eq rfl) (by decide) (by decide) (cs1 := 0) (ss1 := 0) rfl rfl (by decide) (by decide) rfl rfl (m1_met hq10) (st1 := [.int q10.1]) rfl ?_
  refine own_istore K m3_d52 (Ls' := [.val (.ref (own_n C + a0)), .val (.int i1), .val (.int i2), .val (.int i3), .val (.int q10.1)]) rfl rfl ?_
  exact m3_w54 K  h
set_option maxRecDepth 65536 in
set_option maxHeartbeats 4000000 in
theorem m3_met {a0 : Nat} {i1 : Int32} {i2 : Int32} {i3 : Int32} {M : own_Mem} {q : Int32 × own_Mem} (h : m3 a0 i1 i2 i3 M = some q) : own_Met ⟨"com/example/gatherline/gatherline/RunSplitFindPinLaw", "step", "([IIII)I"⟩ method_4_code 5 (some .int) m3_rm [.ref a0, .int i1, .int i2, .int i3] M (some (.int q.1)) q.2 :=
  own_met (Ls := fun n0 => [.val (.ref (n0 + a0)), .val (.int i1), .val (.int i2), .val (.int i3), .unset]) (plainFor_of_name own_pn0) (fun m n0 => by first | (simp [entryFrame, mkF, argsToLocals, Value.category, own_up]; done) | rfl) fun C K => m3_w K h
theorem m5_d0 : decode prog_20_method_1_code 0 = .ok (.aload_n 0, 1) := by decide +kernel
theorem m5_d1 : decode prog_20_method_1_code 1 = .ok (.invokespecial 3, 3) := by decide +kernel
theorem m5_d4 : decode prog_20_method_1_code 4 = .ok (.aload_n 0, 1) := by decide +kernel
theorem m5_d5 : decode prog_20_method_1_code 5 = .ok (.iload_n 1, 1) := by decide +kernel
theorem m5_d6 : decode prog_20_method_1_code 6 = .ok (.putfield 9, 3) := by decide +kernel
theorem m5_d9 : decode prog_20_method_1_code 9 = .ok (.aload_n 0, 1) := by decide +kernel
theorem m5_d10 : decode prog_20_method_1_code 10 = .ok (.iload_n 2, 1) := by decide +kernel
theorem m5_d11 : decode prog_20_method_1_code 11 = .ok (.putfield 15, 3) := by decide +kernel
theorem m5_d14 : decode prog_20_method_1_code 14 = .ok (.aload_n 0, 1) := by decide +kernel
theorem m5_d15 : decode prog_20_method_1_code 15 = .ok (.iload_n 1, 1) := by decide +kernel
theorem m5_d16 : decode prog_20_method_1_code 16 = .ok (.iconst 1, 1) := by decide +kernel
theorem m5_d17 : decode prog_20_method_1_code 17 = .ok (.iadd, 1) := by decide +kernel
theorem m5_d18 : decode prog_20_method_1_code 18 = .ok (.newarray .int, 2) := by decide +kernel
theorem m5_d20 : decode prog_20_method_1_code 20 = .ok (.putfield 18, 3) := by decide +kernel
theorem m5_d23 : decode prog_20_method_1_code 23 = .ok (.aload_n 0, 1) := by decide +kernel
theorem m5_d24 : decode prog_20_method_1_code 24 = .ok (.iload_n 1, 1) := by decide +kernel
theorem m5_d25 : decode prog_20_method_1_code 25 = .ok (.iconst 1, 1) := by decide +kernel
theorem m5_d26 : decode prog_20_method_1_code 26 = .ok (.iadd, 1) := by decide +kernel
theorem m5_d27 : decode prog_20_method_1_code 27 = .ok (.newarray .int, 2) := by decide +kernel
theorem m5_d29 : decode prog_20_method_1_code 29 = .ok (.putfield 22, 3) := by decide +kernel
theorem m5_d32 : decode prog_20_method_1_code 32 = .ok (.aload_n 0, 1) := by decide +kernel
theorem m5_d33 : decode prog_20_method_1_code 33 = .ok (.iload_n 1, 1) := by decide +kernel
theorem m5_d34 : decode prog_20_method_1_code 34 = .ok (.iconst 1, 1) := by decide +kernel
theorem m5_d35 : decode prog_20_method_1_code 35 = .ok (.iadd, 1) := by decide +kernel
theorem m5_d36 : decode prog_20_method_1_code 36 = .ok (.newarray .int, 2) := by decide +kernel
theorem m5_d38 : decode prog_20_method_1_code 38 = .ok (.putfield 25, 3) := by decide +kernel
theorem m5_d41 : decode prog_20_method_1_code 41 = .ok (.aload_n 0, 1) := by decide +kernel
theorem m5_d42 : decode prog_20_method_1_code 42 = .ok (.iload_n 1, 1) := by decide +kernel
theorem m5_d43 : decode prog_20_method_1_code 43 = .ok (.iconst 1, 1) := by decide +kernel
theorem m5_d44 : decode prog_20_method_1_code 44 = .ok (.iadd, 1) := by decide +kernel
theorem m5_d45 : decode prog_20_method_1_code 45 = .ok (.newarray .int, 2) := by decide +kernel
theorem m5_d47 : decode prog_20_method_1_code 47 = .ok (.putfield 28, 3) := by decide +kernel
theorem m5_d50 : decode prog_20_method_1_code 50 = .ok (.return_, 1) := by decide +kernel
def m5_rm : Room := { frames := 1, cells := 4, slots := 20, locals := 12 }
set_option maxRecDepth 65536 in
def m5 (a0 : Nat) (i1 : Int32) (i2 : Int32) (M : own_Mem) : Option (Unit × own_Mem) := (own_put 0 0 M a0 (.int i1)).bind fun M1 => (own_put 0 1 M1 a0 (.int i2)).bind fun M2 => (own_newA 100 5 (.int 0) M2 (i1 + (1 : Int32))).bind fun q3 => (own_put 0 2 q3.2 a0 (.ref q3.1)).bind fun M4 => (own_newA 100 5 (.int 0) M4 (i1 + (1 : Int32))).bind fun q5 => (own_put 0 3 q5.2 a0 (.ref q5.1)).bind fun M6 => (own_newA 100 5 (.int 0) M6 (i1 + (1 : Int32))).bind fun q7 => (own_put 0 4 q7.2 a0 (.ref q7.1)).bind fun M8 => (own_newA 100 5 (.int 0) M8 (i1 + (1 : Int32))).bind fun q9 => (own_put 0 5 q9.2 a0 (.ref q9.1)).bind fun M10 => some ((), M10)
set_option maxRecDepth 65536 in
set_option maxHeartbeats 4000000 in
theorem m5_w {C : own_Ctx} (K : own_K C prog_20_method_1_code 3 "com/example/gatherline/gatherline/RunSplit" none "<init>" m5_rm) {a0 : Nat} {i1 : Int32} {i2 : Int32} {M : own_Mem} {r : Unit × own_Mem} (h : m5 a0 i1 i2 M = some r) : own_W C none r.2 M 0 0 0 [.val (.ref (own_n C + a0)), .val (.int i1), .val (.int i2)] [] := by
  unfold m5 at h
  refine own_aloadN K m5_d0 rfl rfl ?_
  refine own_initO K m5_d1 own_w22 own_w23 own_w24 (W := 0) (Nat.le_of_eq rfl) (by decide) (by decide) rfl rfl ?_
  refine own_aloadN K m5_d4 rfl rfl ?_
  refine own_iloadN K m5_d5 rfl rfl ?_
  refine own_pf K m5_d6 own_w25 (own_cl0) (i := 0) rfl (Or.inr ⟨own_w26, rfl, rfl⟩) own_w17 (ty := .int) own_fd0_0 (w0 := (.int i1)) rfl rfl h rfl (fun M1 h => ?_)
  refine own_aloadN K m5_d9 rfl rfl ?_
  refine own_iloadN K m5_d10 rfl rfl ?_
  refine own_pf K m5_d11 own_w27 (own_cl0) (i := 1) rfl (Or.inr ⟨own_w28, rfl, rfl⟩) own_w17 (ty := .int) own_fd0_1 (w0 := (.int i2)) rfl rfl h rfl (fun M2 h => ?_)
  refine own_aloadN K m5_d14 rfl rfl ?_
  refine own_iloadN K m5_d15 rfl rfl ?_
  refine own_iconst K m5_d16 own_ic1 rfl ?_
  refine own_iadd K m5_d17 rfl ?_
  refine own_na K m5_d18 own_w1 rfl rfl h (by decide) (cs1 := 1) (ss1 := 5) rfl rfl (by decide) (by decide) rfl (fun q3 h => ?_)
  refine own_pf K m5_d20 own_w29 (own_cl0) (i := 2) rfl (Or.inr ⟨own_w30, rfl, rfl⟩) own_w17 (ty := (.array .int)) own_fd0_2 (w0 := (.ref q3.1)) rfl rfl h rfl (fun M4 h => ?_)
  refine own_aloadN K m5_d23 rfl rfl ?_
  refine own_iloadN K m5_d24 rfl rfl ?_
  refine own_iconst K m5_d25 own_ic1 rfl ?_
  refine own_iadd K m5_d26 rfl ?_
  refine own_na K m5_d27 own_w1 rfl rfl h (by decide) (cs1 := 2) (ss1 := 10) rfl rfl (by decide) (by decide) rfl (fun q5 h => ?_)
  refine own_pf K m5_d29 own_w31 (own_cl0) (i := 3) rfl (Or.inr ⟨own_w32, rfl, rfl⟩) own_w17 (ty := (.array .int)) own_fd0_3 (w0 := (.ref q5.1)) rfl rfl h rfl (fun M6 h => ?_)
  refine own_aloadN K m5_d32 rfl rfl ?_
  refine own_iloadN K m5_d33 rfl rfl ?_
  refine own_iconst K m5_d34 own_ic1 rfl ?_
  refine own_iadd K m5_d35 rfl ?_
  refine own_na K m5_d36 own_w1 rfl rfl h (by decide) (cs1 := 3) (ss1 := 15) rfl rfl (by decide) (by decide) rfl (fun q7 h => ?_)
  refine own_pf K m5_d38 own_w33 (own_cl0) (i := 4) rfl (Or.inr ⟨own_w34, rfl, rfl⟩) own_w17 (ty := (.array .int)) own_fd0_4 (w0 := (.ref q7.1)) rfl rfl h rfl (fun M8 h => ?_)
  refine own_aloadN K m5_d41 rfl rfl ?_
  refine own_iloadN K m5_d42 rfl rfl ?_
  refine own_iconst K m5_d43 own_ic1 rfl ?_
  refine own_iadd K m5_d44 rfl ?_
  refine own_na K m5_d45 own_w1 rfl rfl h (by decide) (cs1 := 4) (ss1 := 20) rfl rfl (by decide) (by decide) rfl (fun q9 h => ?_)
  refine own_pf K m5_d47 own_w35 (own_cl0) (i := 5) rfl (Or.inr ⟨own_w36, rfl, rfl⟩) own_w17 (ty := (.array .int)) own_fd0_5 (w0 := (.ref q9.1)) rfl rfl h rfl (fun M10 h => ?_)
  exact own_retV K m5_d50 h
set_option maxRecDepth 65536 in
set_option maxHeartbeats 4000000 in
theorem m5_met {a0 : Nat} {i1 : Int32} {i2 : Int32} {M : own_Mem} {q : Unit × own_Mem} (h : m5 a0 i1 i2 M = some q) : own_Met ⟨"com/example/gatherline/gatherline/RunSplit", "<init>", "(II)V"⟩ prog_20_method_1_code 3 none m5_rm [.ref a0, .int i1, .int i2] M none q.2 :=
  own_met (Ls := fun n0 => [.val (.ref (n0 + a0)), .val (.int i1), .val (.int i2)]) (plainFor_of_name own_pn1) (fun m n0 => by first | (simp [entryFrame, mkF, argsToLocals, Value.category, own_up]; done) | rfl) fun C K => m5_w K h
theorem m16_d0 : decode jdk_65_method_30_code 0 = .ok (.iload_n 1, 1) := by decide +kernel
theorem m16_d1 : decode jdk_65_method_30_code 1 = .ok (.iload_n 2, 1) := by decide +kernel
theorem m16_d2 : decode jdk_65_method_30_code 2 = .ok (.if_icmp .le 44, 3) := by decide +kernel
theorem m16_d46 : decode jdk_65_method_30_code 46 = .ok (.iload_n 1, 1) := by decide +kernel
theorem m16_d47 : decode jdk_65_method_30_code 47 = .ok (.ifCond .ge 12, 3) := by decide +kernel
theorem m16_d59 : decode jdk_65_method_30_code 59 = .ok (.iload_n 2, 1) := by decide +kernel
theorem m16_d60 : decode jdk_65_method_30_code 60 = .ok (.iload_n 0, 1) := by decide +kernel
theorem m16_d61 : decode jdk_65_method_30_code 61 = .ok (.if_icmp .le 12, 3) := by decide +kernel
theorem m16_d73 : decode jdk_65_method_30_code 73 = .ok (.return_, 1) := by decide +kernel
def m16_rm : Room := { frames := 0, cells := 0, slots := 0, locals := 0 }
set_option maxRecDepth 65536 in
def m16 (i0 : Int32) (i1 : Int32) (i2 : Int32) (M : own_Mem) : Option (Unit × own_Mem) := if i2 < i1 then (none) else (if i1 < 0 then (none) else (if i0 < i2 then (none) else (some ((), M))))
set_option maxRecDepth 65536 in
set_option maxHeartbeats 4000000 in
theorem m16_w {C : own_Ctx} (K : own_K C jdk_65_method_30_code 3 "java/util/Arrays" none "rangeCheck" m16_rm) {i0 : Int32} {i1 : Int32} {i2 : Int32} {M : own_Mem} {r : Unit × own_Mem} (h : m16 i0 i1 i2 M = some r) : own_W C none r.2 M 0 0 0 [.val (.int i0), .val (.int i1), .val (.int i2)] [] := by
  unfold m16 at h
  refine own_iloadN K m16_d0 rfl rfl ?_
  refine own_iloadN K m16_d1 rfl rfl ?_
  refine own_ile K m16_d2 h (pc1 := 46) (pc2 := 5) (by decide) rfl (fun h => ?_) (fun h => ?_)
  · refine own_iloadN K m16_d46 rfl rfl ?_
    refine own_zge K m16_d47 h (pc1 := 59) (pc2 := 50) (by decide) rfl (fun h => ?_) (fun h => ?_)
    · refine own_iloadN K m16_d59 rfl rfl ?_
      refine own_iloadN K m16_d60 rfl rfl ?_
      refine own_ile K m16_d61 h (pc1 := 73) (pc2 := 64) (by decide) rfl (fun h => ?_) (fun h => ?_)
      · exact own_retV K m16_d73 h
      · exact nomatch h
    · exact nomatch h
  · exact nomatch h
set_option maxRecDepth 65536 in
set_option maxHeartbeats 4000000 in
theorem m16_met {i0 : Int32} {i1 : Int32} {i2 : Int32} {M : own_Mem} {q : Unit × own_Mem} (h : m16 i0 i1 i2 M = some q) : own_Met ⟨"java/util/Arrays", "rangeCheck", "(III)V"⟩ jdk_65_method_30_code 3 none m16_rm [.int i0, .int i1, .int i2] M none q.2 :=
  own_met (Ls := fun n0 => [.val (.int i0), .val (.int i1), .val (.int i2)]) (plainFor_of_name own_pn2) (fun m n0 => by first | (simp [entryFrame, mkF, argsToLocals, Value.category, own_up]; done) | rfl) fun C K => m16_w K h
theorem m15_d0 : decode jdk_65_method_104_code 0 = .ok (.aload_n 0, 1) := by decide +kernel
theorem m15_d1 : decode jdk_65_method_104_code 1 = .ok (.arraylength, 1) := by decide +kernel
theorem m15_d2 : decode jdk_65_method_104_code 2 = .ok (.iload_n 1, 1) := by decide +kernel
theorem m15_d3 : decode jdk_65_method_104_code 3 = .ok (.iload_n 2, 1) := by decide +kernel
theorem m15_d4 : decode jdk_65_method_104_code 4 = .ok (.invokestatic 13, 3) := by decide +kernel
theorem m15_d7 : decode jdk_65_method_104_code 7 = .ok (.iload_n 1, 1) := by decide +kernel
theorem m15_d8 : decode jdk_65_method_104_code 8 = .ok (.istore 4, 2) := by decide +kernel
theorem m15_d10 : decode jdk_65_method_104_code 10 = .ok (.iload 4, 2) := by decide +kernel
theorem m15_d12 : decode jdk_65_method_104_code 12 = .ok (.iload_n 2, 1) := by decide +kernel
theorem m15_d13 : decode jdk_65_method_104_code 13 = .ok (.if_icmp .ge 14, 3) := by decide +kernel
theorem m15_d16 : decode jdk_65_method_104_code 16 = .ok (.aload_n 0, 1) := by decide +kernel
theorem m15_d17 : decode jdk_65_method_104_code 17 = .ok (.iload 4, 2) := by decide +kernel
theorem m15_d19 : decode jdk_65_method_104_code 19 = .ok (.iload_n 3, 1) := by decide +kernel
theorem m15_d20 : decode jdk_65_method_104_code 20 = .ok (.iastore, 1) := by decide +kernel
theorem m15_d21 : decode jdk_65_method_104_code 21 = .ok (.iinc 4 1, 3) := by decide +kernel
theorem m15_d24 : decode jdk_65_method_104_code 24 = .ok (.goto (-14), 3) := by decide +kernel
theorem m15_d27 : decode jdk_65_method_104_code 27 = .ok (.return_, 1) := by decide +kernel
def m15_rm : Room := { frames := 1, cells := 0, slots := 0, locals := 14 }
set_option maxRecDepth 65536 in
def m15_c10 (rec : Nat → Nat → Int32 → Int32 → Int32 → own_Mem → Option (Unit × own_Mem)) (a0 : Nat) (i2 : Int32) (i3 : Int32) (i4 : Int32) (M : own_Mem) : Option (Unit × own_Mem) := if i4 < i2 then ((own_sto 100 M a0 i4 (.int i3)).bind fun M1 => rec 10 a0 i2 i3 (i4 + (1 : Int32)) M1) else (some ((), M))
def m15_L : Nat → Nat → Nat → Int32 → Int32 → Int32 → own_Mem → Option (Unit × own_Mem)
  | 0 => fun _ _ _ _ _ _ => none
  | n + 1 => fun pc a0 i2 i3 i4 M => if pc = 10 then m15_c10 (m15_L n) a0 i2 i3 i4 M else none
def m15_P10 (C : own_Ctx) (n : Nat) : Prop := ∀ (a0 : Nat) (i2 : Int32) (i3 : Int32) (i4 : Int32) (z1 : Slot) (o1 : own_One z1) (M : own_Mem) (r : Unit × own_Mem), m15_L n 10 a0 i2 i3 i4 M = some r → own_W C none r.2 M 0 0 10 [.val (.ref (own_n C + a0)), z1, .val (.int i2), .val (.int i3), .val (.int i4)] []
def m15_IH (C : own_Ctx) (n : Nat) : Prop := m15_P10 C n
set_option maxRecDepth 65536 in
set_option maxHeartbeats 4000000 in
theorem m15_w10 {C : own_Ctx} (K : own_K C jdk_65_method_104_code 5 "java/util/Arrays" none "fill" m15_rm) {n : Nat} {a0 : Nat} {i2 : Int32} {i3 : Int32} {i4 : Int32} {z1 : Slot} (ih : m15_IH C n) (o1 : own_One z1) {M : own_Mem} {r : Unit × own_Mem} (h : m15_c10 (m15_L n) a0 i2 i3 i4 M = some r) : own_W C none r.2 M 0 0 10 [.val (.ref (own_n C + a0)), z1, .val (.int i2), .val (.int i3), .val (.int i4)] [] := by
  unfold m15_c10 at h
  refine own_iload K m15_d10 rfl rfl ?_
  refine own_iloadN K m15_d12 rfl rfl ?_
  refine own_ige K m15_d13 h (pc1 := 27) (pc2 := 16) (by decide) rfl (fun h => ?_) (fun h => ?_)
  · exact own_retV K m15_d27 h
  · refine own_aloadN K m15_d16 rfl rfl ?_
    refine own_iload K m15_d17 rfl rfl ?_
    refine own_iloadN K m15_d19 rfl rfl ?_
    refine own_iastore K m15_d20 h rfl (fun M1 h => ?_)
    refine own_iinc K m15_d21 own_ic1 rfl (Ls' := [.val (.ref (own_n C + a0)), z1, .val (.int i2), .val (.int i3), .val (.int (i4 + (1 : Int32)))]) rfl rfl ?_
    refine own_goto K m15_d24 (pc' := 10) (by decide) ?_
    exact ih _ _ _ _ _ o1 _ _ h
set_option maxRecDepth 65536 in
set_option maxHeartbeats 4000000 in
theorem m15_all {C : own_Ctx} (K : own_K C jdk_65_method_104_code 5 "java/util/Arrays" none "fill" m15_rm) : ∀ n, m15_IH C n
  | 0 => fun _ _ _ _ _ _ _ _ => fun h => (nomatch h)
  | n + 1 => have ih := m15_all K n; fun _ _ _ _ _ o1 _ _ => fun h => m15_w10 K ih o1 h
set_option maxRecDepth 65536 in
def m15 (a0 : Nat) (i1 : Int32) (i2 : Int32) (i3 : Int32) (M : own_Mem) : Option (Unit × own_Mem) := (own_len 100 M a0).bind fun x2 => (m16 x2 i1 i2 M).bind fun q3 => m15_L 10 10 a0 i2 i3 i1 q3.2
set_option maxRecDepth 65536 in
set_option maxHeartbeats 4000000 in
theorem m15_w {C : own_Ctx} (K : own_K C jdk_65_method_104_code 5 "java/util/Arrays" none "fill" m15_rm) {a0 : Nat} {i1 : Int32} {i2 : Int32} {i3 : Int32} {M : own_Mem} {r : Unit × own_Mem} (h : m15 a0 i1 i2 i3 M = some r) : own_W C none r.2 M 0 0 0 [.val (.ref (own_n C + a0)), .val (.int i1), .val (.int i2), .val (.int i3), .unset] [] := by
  have ih := m15_all K 10
  unfold m15 at h
  refine own_aloadN K m15_d0 rfl rfl ?_
  refine own_alen K m15_d1 (t := 100) rfl h rfl (fun x2 h => ?_)
  refine own_iloadN K m15_d2 rfl rfl ?_
  refine own_iloadN K m15_d3 rfl rfl ?_
  refine own_bk h (fun q3 hq3 h => ?_)
  refine own_callS K m15_d4 own_w72 own_w73 own_w70 own_w74 (argsL := [.int x2, .int i1, .int i2]) (st := []) (by decide) (lenOf own_pd2 rfl) rfl (W := 0) (Nat.le_of_eq rfl) (by decide) (by decide) (cs1 := 0) (ss1 := 0) rfl rfl (by decide) (by decide) rfl rfl (m16_met hq3) (st1 := []) rfl ?_
  refine own_iloadN K m15_d7 rfl rfl ?_
  refine own_istore K m15_d8 (Ls' := [.val (.ref (own_n C + a0)), .val (.int i1), .val (.int i2), .val (.int i3), .val (.int i1)]) rfl rfl ?_
  exact ih _ _ _ _ _ own_one_i _ _ h
set_option maxRecDepth 65536 in
set_option maxHeartbeats 4000000 in
theorem m15_met {a0 : Nat} {i1 : Int32} {i2 : Int32} {i3 : Int32} {M : own_Mem} {q : Unit × own_Mem} (h : m15 a0 i1 i2 i3 M = some q) : own_Met ⟨"java/util/Arrays", "fill", "([IIII)V"⟩ jdk_65_method_104_code 5 none m15_rm [.ref a0, .int i1, .int i2, .int i3] M none q.2 :=
  own_met (Ls := fun n0 => [.val (.ref (n0 + a0)), .val (.int i1), .val (.int i2), .val (.int i3), .unset]) (plainFor_of_name own_pn2) (fun m n0 => by first | (simp [entryFrame, mkF, argsToLocals, Value.category, own_up]; done) | rfl) fun C K => m15_w K h
theorem m18_d0 : decode prog_20_method_3_code 0 = .ok (.aload_n 0, 1) := by decide +kernel
theorem m18_d1 : decode prog_20_method_3_code 1 = .ok (.getfield 22, 3) := by decide +kernel
theorem m18_d4 : decode prog_20_method_3_code 4 = .ok (.iconst 1, 1) := by decide +kernel
theorem m18_d5 : decode prog_20_method_3_code 5 = .ok (.aload_n 0, 1) := by decide +kernel
theorem m18_d6 : decode prog_20_method_3_code 6 = .ok (.getfield 9, 3) := by decide +kernel
theorem m18_d9 : decode prog_20_method_3_code 9 = .ok (.iconst 1, 1) := by decide +kernel
theorem m18_d10 : decode prog_20_method_3_code 10 = .ok (.iadd, 1) := by decide +kernel
theorem m18_d11 : decode prog_20_method_3_code 11 = .ok (.iconst (-1), 1) := by decide +kernel
theorem m18_d12 : decode prog_20_method_3_code 12 = .ok (.invokestatic 39, 3) := by decide +kernel
theorem m18_d15 : decode prog_20_method_3_code 15 = .ok (.iconst 0, 1) := by decide +kernel
theorem m18_d16 : decode prog_20_method_3_code 16 = .ok (.istore_n 2, 1) := by decide +kernel
theorem m18_d17 : decode prog_20_method_3_code 17 = .ok (.aload_n 0, 1) := by decide +kernel
theorem m18_d18 : decode prog_20_method_3_code 18 = .ok (.getfield 15, 3) := by decide +kernel
theorem m18_d21 : decode prog_20_method_3_code 21 = .ok (.istore_n 3, 1) := by decide +kernel
theorem m18_d22 : decode prog_20_method_3_code 22 = .ok (.iload_n 3, 1) := by decide +kernel
theorem m18_d23 : decode prog_20_method_3_code 23 = .ok (.aload_n 0, 1) := by decide +kernel
theorem m18_d24 : decode prog_20_method_3_code 24 = .ok (.getfield 9, 3) := by decide +kernel
theorem m18_d27 : decode prog_20_method_3_code 27 = .ok (.if_icmp .gt 45, 3) := by decide +kernel
theorem m18_d30 : decode prog_20_method_3_code 30 = .ok (.aload_n 0, 1) := by decide +kernel
theorem m18_d31 : decode prog_20_method_3_code 31 = .ok (.getfield 22, 3) := by decide +kernel
theorem m18_d34 : decode prog_20_method_3_code 34 = .ok (.iload_n 3, 1) := by decide +kernel
theorem m18_d35 : decode prog_20_method_3_code 35 = .ok (.aload_n 0, 1) := by decide +kernel
theorem m18_d36 : decode prog_20_method_3_code 36 = .ok (.getfield 15, 3) := by decide +kernel
theorem m18_d39 : decode prog_20_method_3_code 39 = .ok (.isub, 1) := by decide +kernel
theorem m18_d40 : decode prog_20_method_3_code 40 = .ok (.iaload, 1) := by decide +kernel
theorem m18_d41 : decode prog_20_method_3_code 41 = .ok (.iconst (-1), 1) := by decide +kernel
theorem m18_d42 : decode prog_20_method_3_code 42 = .ok (.if_icmp .eq 10, 3) := by decide +kernel
theorem m18_d45 : decode prog_20_method_3_code 45 = .ok (.iload_n 3, 1) := by decide +kernel
theorem m18_d46 : decode prog_20_method_3_code 46 = .ok (.aload_n 0, 1) := by decide +kernel
theorem m18_d47 : decode prog_20_method_3_code 47 = .ok (.getfield 15, 3) := by decide +kernel
theorem m18_d50 : decode prog_20_method_3_code 50 = .ok (.isub, 1) := by decide +kernel
theorem m18_d51 : decode prog_20_method_3_code 51 = .ok (.istore_n 2, 1) := by decide +kernel
theorem m18_d52 : decode prog_20_method_3_code 52 = .ok (.iload_n 2, 1) := by decide +kernel
theorem m18_d53 : decode prog_20_method_3_code 53 = .ok (.aload_n 1, 1) := by decide +kernel
theorem m18_d54 : decode prog_20_method_3_code 54 = .ok (.iload_n 3, 1) := by decide +kernel
theorem m18_d55 : decode prog_20_method_3_code 55 = .ok (.iaload, 1) := by decide +kernel
theorem m18_d56 : decode prog_20_method_3_code 56 = .ok (.if_icmp .lt 10, 3) := by decide +kernel
theorem m18_d59 : decode prog_20_method_3_code 59 = .ok (.aload_n 0, 1) := by decide +kernel
theorem m18_d60 : decode prog_20_method_3_code 60 = .ok (.getfield 22, 3) := by decide +kernel
theorem m18_d63 : decode prog_20_method_3_code 63 = .ok (.iload_n 3, 1) := by decide +kernel
theorem m18_d64 : decode prog_20_method_3_code 64 = .ok (.iload_n 2, 1) := by decide +kernel
theorem m18_d65 : decode prog_20_method_3_code 65 = .ok (.iastore, 1) := by decide +kernel
theorem m18_d66 : decode prog_20_method_3_code 66 = .ok (.iinc 3 1, 3) := by decide +kernel
theorem m18_d69 : decode prog_20_method_3_code 69 = .ok (.goto (-47), 3) := by decide +kernel
theorem m18_d72 : decode prog_20_method_3_code 72 = .ok (.aload_n 0, 1) := by decide +kernel
theorem m18_d73 : decode prog_20_method_3_code 73 = .ok (.getfield 22, 3) := by decide +kernel
theorem m18_d76 : decode prog_20_method_3_code 76 = .ok (.aload_n 0, 1) := by decide +kernel
theorem m18_d77 : decode prog_20_method_3_code 77 = .ok (.getfield 9, 3) := by decide +kernel
theorem m18_d80 : decode prog_20_method_3_code 80 = .ok (.iaload, 1) := by decide +kernel
theorem m18_d81 : decode prog_20_method_3_code 81 = .ok (.iconst (-1), 1) := by decide +kernel
theorem m18_d82 : decode prog_20_method_3_code 82 = .ok (.if_icmp .eq 7, 3) := by decide +kernel
theorem m18_d85 : decode prog_20_method_3_code 85 = .ok (.iconst 1, 1) := by decide +kernel
theorem m18_d86 : decode prog_20_method_3_code 86 = .ok (.goto 4, 3) := by decide +kernel
theorem m18_d89 : decode prog_20_method_3_code 89 = .ok (.iconst 0, 1) := by decide +kernel
theorem m18_d90 : decode prog_20_method_3_code 90 = .ok (.ireturn, 1) := by decide +kernel
def m18_rm : Room := { frames := 2, cells := 0, slots := 0, locals := 30 }
set_option maxRecDepth 65536 in
def m18_c22 (rec : Nat → Nat → Nat → Int32 → Int32 → Int32 → own_Mem → Option (Int32 × own_Mem)) (a0 : Nat) (a1 : Nat) (i2 : Int32) (i3 : Int32) (M : own_Mem) : Option (Int32 × own_Mem) := (own_getI 0 0 M a0).bind fun x1 => if x1 < i3 then ((own_getR 0 3 M a0).bind fun x2 => (own_getI 0 0 M a0).bind fun x3 => (own_ldI 100 M x2 x3).bind fun x4 => if x4 = (-1 : Int32) then (rec 90 0 0 0 0 (0 : Int32) M) else (rec 90 0 0 0 0 (1 : Int32) M)) else ((own_getR 0 3 M a0).bind fun x5 => (own_getI 0 1 M a0).bind fun x6 => (own_ldI 100 M x5 (i3 - x6)).bind fun x7 => if x7 = (-1 : Int32) then (rec 52 a0 a1 i2 i3 0 M) else ((own_getI 0 1 M a0).bind fun x8 => own_let (i3 - x8) fun x9 => rec 52 a0 a1 x9 i3 0 M))
set_option maxRecDepth 65536 in
def m18_c52 (rec : Nat → Nat → Nat → Int32 → Int32 → Int32 → own_Mem → Option (Int32 × own_Mem)) (a0 : Nat) (a1 : Nat) (i2 : Int32) (i3 : Int32) (M : own_Mem) : Option (Int32 × own_Mem) := (own_ldI 100 M a1 i3).bind fun x10 => if i2 < x10 then (rec 66 a0 a1 i2 i3 0 M) else ((own_getR 0 3 M a0).bind fun x11 => (own_sto 100 M x11 i3 (.int i2)).bind fun M12 => rec 66 a0 a1 i2 i3 0 M12)
set_option maxRecDepth 65536 in
def m18_c66 (rec : Nat → Nat → Nat → Int32 → Int32 → Int32 → own_Mem → Option (Int32 × own_Mem)) (a0 : Nat) (a1 : Nat) (i2 : Int32) (i3 : Int32) (M : own_Mem) : Option (Int32 × own_Mem) := rec 22 a0 a1 i2 (i3 + (1 : Int32)) 0 M
set_option maxRecDepth 65536 in
def m18_c90 (rec : Nat → Nat → Nat → Int32 → Int32 → Int32 → own_Mem → Option (Int32 × own_Mem)) (t0 : Int32) (M : own_Mem) : Option (Int32 × own_Mem) := some (nar .boolean t0, M)
def m18_L : Nat → Nat → Nat → Nat → Int32 → Int32 → Int32 → own_Mem → Option (Int32 × own_Mem)
  | 0 => fun _ _ _ _ _ _ _ => none
  | n + 1 => fun pc a0 a1 i2 i3 t0 M => if pc = 22 then m18_c22 (m18_L n) a0 a1 i2 i3 M else if pc = 52 then m18_c52 (m18_L n) a0 a1 i2 i3 M else if pc = 66 then m18_c66 (m18_L n) a0 a1 i2 i3 M else if pc = 90 then m18_c90 (m18_L n) t0 M else none
def m18_P22 (C : own_Ctx) (n : Nat) : Prop := ∀ (a0 : Nat) (a1 : Nat) (i2 : Int32) (i3 : Int32) (M : own_Mem) (r : Int32 × own_Mem), m18_L n 22 a0 a1 i2 i3 0 M = some r → own_W C (some (.int r.1)) r.2 M 0 0 22 [.val (.ref (own_n C + a0)), .val (.ref (own_n C + a1)), .val (.int i2), .val (.int i3)] []
def m18_P52 (C : own_Ctx) (n : Nat) : Prop := ∀ (a0 : Nat) (a1 : Nat) (i2 : Int32) (i3 : Int32) (M : own_Mem) (r : Int32 × own_Mem), m18_L n 52 a0 a1 i2 i3 0 M = some r → own_W C (some (.int r.1)) r.2 M 0 0 52 [.val (.ref (own_n C + a0)), .val (.ref (own_n C + a1)), .val (.int i2), .val (.int i3)] []
def m18_P66 (C : own_Ctx) (n : Nat) : Prop := ∀ (a0 : Nat) (a1 : Nat) (i2 : Int32) (i3 : Int32) (M : own_Mem) (r : Int32 × own_Mem), m18_L n 66 a0 a1 i2 i3 0 M = some r → own_W C (some (.int r.1)) r.2 M 0 0 66 [.val (.ref (own_n C + a0)), .val (.ref (own_n C + a1)), .val (.int i2), .val (.int i3)] []
def m18_P90 (C : own_Ctx) (n : Nat) : Prop := ∀ (t0 : Int32) (z0 : Slot) (z1 : Slot) (z2 : Slot) (z3 : Slot) (o0 : own_One z0) (o1 : own_One z1) (o2 : own_One z2) (o3 : own_One z3) (M : own_Mem) (r : Int32 × own_Mem), m18_L n 90 0 0 0 0 t0 M = some r → own_W C (some (.int r.1)) r.2 M 0 0 90 [z0, z1, z2, z3] [.int t0]
def m18_IH (C : own_Ctx) (n : Nat) : Prop := m18_P22 C n ∧ m18_P52 C n ∧ m18_P66 C n ∧ m18_P90 C n
set_option maxRecDepth 65536 in
set_option maxHeartbeats 4000000 in
theorem m18_w22 {C : own_Ctx} (K : own_K C prog_20_method_3_code 4 "com/example/gatherline/gatherline/RunSplit" (some .boolean) "findLeavingNoneOut" m18_rm) {n : Nat} {a0 : Nat} {a1 : Nat} {i2 : Int32} {i3 : Int32} (ih : m18_IH C n) {M : own_Mem} {r : Int32 × own_Mem} (h : m18_c22 (m18_L n) a0 a1 i2 i3 M = some r) : own_W C (some (.int r.1)) r.2 M 0 0 22 [.val (.ref (own_n C + a0)), .val (.ref (own_n C + a1)), .val (.int i2), .val (.int i3)] [] := by
  unfold m18_c22 at h
  refine own_iloadN K m18_d22 rfl rfl ?_
  refine own_aloadN K m18_d23 rfl rfl ?_
  refine own_gfI K m18_d24 own_w25 (own_cl0) (i := 0) rfl h rfl (fun x1 h => ?_)
  refine own_igt K m18_d27 h (pc1 := 72) (pc2 := 30) (by decide) rfl (fun h => ?_) (fun h => ?_)
  · refine own_aloadN K m18_d72 rfl rfl ?_
    refine own_gfR K m18_d73 own_w31 (own_cl0) (i := 3) rfl h rfl (fun x2 h => ?_)
    refine own_aloadN K m18_d76 rfl rfl ?_
    refine own_gfI K m18_d77 own_w25 (own_cl0) (i := 0) rfl h rfl (fun x3 h => ?_)
    refine own_iaload K m18_d80 h rfl (fun x4 h => ?_)
    refine own_iconst K m18_d81 own_icm1 rfl ?_
    refine own_ieq K m18_d82 h (pc1 := 89) (pc2 := 85) (by decide) rfl (fun h => ?_) (fun h => ?_)
    · refine own_iconst K m18_d89 own_ic0 rfl ?_
      exact ih.2.2.2 _ _ _ _ _ own_one_r own_one_r own_one_i own_one_i _ _ h
    · refine own_iconst K m18_d85 own_ic1 rfl ?_
      refine own_goto K m18_d86 (pc' := 90) (by decide) ?_
      exact ih.2.2.2 _ _ _ _ _ own_one_r own_one_r own_one_i own_one_i _ _ h
  · refine own_aloadN K m18_d30 rfl rfl ?_
    refine own_gfR K m18_d31 own_w31 (own_cl0) (i := 3) rfl h rfl (fun x5 h => ?_)
    refine own_iloadN K m18_d34 rfl rfl ?_
    refine own_aloadN K m18_d35 rfl rfl ?_
    refine own_gfI K m18_d36 own_w27 (own_cl0) (i := 1) rfl h rfl (fun x6 h => ?_)
    refine own_isub K m18_d39 rfl ?_
    refine own_iaload K m18_d40 h rfl (fun x7 h => ?_)
    refine own_iconst K m18_d41 own_icm1 rfl ?_
    refine own_ieq K m18_d42 h (pc1 := 52) (pc2 := 45) (by decide) rfl (fun h => ?_) (fun h => ?_)
    · exact ih.2.1 _ _ _ _ _ _ h
    · refine own_iloadN K m18_d45 rfl rfl ?_
      refine own_aloadN K m18_d46 rfl rfl ?_
      refine own_gfI K m18_d47 own_w27 (own_cl0) (i := 1) rfl h rfl (fun x8 h => ?_)
      refine own_isub K m18_d50 rfl ?_
      refine own_letI h (fun x9 h => ?_)
      refine own_istoreN K m18_d51 (Ls' := [.val (.ref (own_n C + a0)), .val (.ref (own_n C + a1)), .val (.int x9), .val (.int i3)]) rfl rfl ?_
      exact ih.2.1 _ _ _ _ _ _ h
set_option maxRecDepth 65536 in
set_option maxHeartbeats 4000000 in
theorem m18_w52 {C : own_Ctx} (K : own_K C prog_20_method_3_code 4 "com/example/gatherline/gatherline/RunSplit" (some .boolean) "findLeavingNoneOut" m18_rm) {n : Nat} {a0 : Nat} {a1 : Nat} {i2 : Int32} {i3 : Int32} (ih : m18_IH C n) {M : own_Mem} {r : Int32 × own_Mem} (h : m18_c52 (m18_L n) a0 a1 i2 i3 M = some r) : own_W C (some (.int r.1)) r.2 M 0 0 52 [.val (.ref (own_n C + a0)), .val (.ref (own_n C + a1)), .val (.int i2), .val (.int i3)] [] := by
  unfold m18_c52 at h
  refine own_iloadN K m18_d52 rfl rfl ?_
  refine own_aloadN K m18_d53 rfl rfl ?_
  refine own_iloadN K m18_d54 rfl rfl ?_
  refine own_iaload K m18_d55 h rfl (fun x10 h => ?_)
  refine own_ilt K m18_d56 h (pc1 := 66) (pc2 := 59) (by decide) rfl (fun h => ?_) (fun h => ?_)
  · exact ih.2.2.1 _ _ _ _ _ _ h
  · refine own_aloadN K m18_d59 rfl rfl ?_
    refine own_gfR K m18_d60 own_w31 (own_cl0) (i := 3) rfl h rfl (fun x11 h => ?_)
    refine own_iloadN K m18_d63 rfl rfl ?_
    refine own_iloadN K m18_d64 rfl rfl ?_
    refine own_iastore K m18_d65 h rfl (fun M12 h => ?_)
    exact ih.2.2.1 _ _ _ _ _ _ h
set_option maxRecDepth 65536 in
set_option maxHeartbeats 4000000 in
theorem m18_w66 {C : own_Ctx} (K : own_K C prog_20_method_3_code 4 "com/example/gatherline/gatherline/RunSplit" (some .boolean) "findLeavingNoneOut" m18_rm) {n : Nat} {a0 : Nat} {a1 : Nat} {i2 : Int32} {i3 : Int32} (ih : m18_IH C n) {M : own_Mem} {r : Int32 × own_Mem} (h : m18_c66 (m18_L n) a0 a1 i2 i3 M = some r) : own_W C (some (.int r.1)) r.2 M 0 0 66 [.val (.ref (own_n C + a0)), .val (.ref (own_n C + a1)), .val (.int i2), .val (.int i3)] [] := by
  unfold m18_c66 at h
  refine own_iinc K m18_d66 own_ic1 rfl (Ls' := [.val (.ref (own_n C + a0)), .val (.ref (own_n C + a1)), .val (.int i2), .val (.int (i3 + (1 : Int32)))]) rfl rfl ?_
  refine own_goto K m18_d69 (pc' := 22) (by decide) ?_
  exact ih.1 _ _ _ _ _ _ h
set_option maxRecDepth 65536 in
set_option maxHeartbeats 4000000 in
theorem m18_w90 {C : own_Ctx} (K : own_K C prog_20_method_3_code 4 "com/example/gatherline/gatherline/RunSplit" (some .boolean) "findLeavingNoneOut" m18_rm) {n : Nat} {t0 : Int32} {z0 : Slot} {z1 : Slot} {z2 : Slot} {z3 : Slot} (ih : m18_IH C n) (o0 : own_One z0) (o1 : own_One z1) (o2 : own_One z2) (o3 : own_One z3) {M : own_Mem} {r : Int32 × own_Mem} (h : m18_c90 (m18_L n) t0 M = some r) : own_W C (some (.int r.1)) r.2 M 0 0 90 [z0, z1, z2, z3] [.int t0] := by
  unfold m18_c90 at h
  exact own_retN K m18_d90 (by simp) h
set_option maxRecDepth 65536 in
set_option maxHeartbeats 4000000 in
theorem m18_all {C : own_Ctx} (K : own_K C prog_20_method_3_code 4 "com/example/gatherline/gatherline/RunSplit" (some .boolean) "findLeavingNoneOut" m18_rm) : ∀ n, m18_IH C n
  | 0 => ⟨fun _ _ _ _ _ _ => fun h => (nomatch h), fun _ _ _ _ _ _ => fun h => (nomatch h), fun _ _ _ _ _ _ => fun h => (nomatch h), fun _ _ _ _ _ _ _ _ _ _ _ => fun h => (nomatch h)⟩
  | n + 1 => have ih := m18_all K n; ⟨fun _ _ _ _ _ _ => fun h => m18_w22 K ih  h, fun _ _ _ _ _ _ => fun h => m18_w52 K ih  h, fun _ _ _ _ _ _ => fun h => m18_w66 K ih  h, fun _ _ _ _ _ o0 o1 o2 o3 _ _ => fun h => m18_w90 K ih o0 o1 o2 o3 h⟩
set_option maxRecDepth 65536 in
def m18 (a0 : Nat) (a1 : Nat) (M : own_Mem) : Option (Int32 × own_Mem) := (own_getR 0 3 M a0).bind fun x13 => (own_getI 0 0 M a0).bind fun x14 => (m15 x13 (1 : Int32) (x14 + (1 : Int32)) (-1 : Int32) M).bind fun q15 => (own_getI 0 1 q15.2 a0).bind fun x16 => m18_L 30 22 a0 a1 (0 : Int32) x16 0 q15.2
set_option maxRecDepth 65536 in
set_option maxHeartbeats 4000000 in
theorem m18_w {C : own_Ctx} (K : own_K C prog_20_method_3_code 4 "com/example/gatherline/gatherline/RunSplit" (some .boolean) "findLeavingNoneOut" m18_rm) {a0 : Nat} {a1 : Nat} {M : own_Mem} {r : Int32 × own_Mem} (h : m18 a0 a1 M = some r) : own_W C (some (.int r.1)) r.2 M 0 0 0 [.val (.ref (own_n C + a0)), .val (.ref (own_n C + a1)), .unset, .unset] [] := by
  have ih := m18_all K 30
  unfold m18 at h
  refine own_aloadN K m18_d0 rfl rfl ?_
  refine own_gfR K m18_d1 own_w31 (own_cl0) (i := 3) rfl h rfl (fun x13 h => ?_)
  refine own_iconst K m18_d4 own_ic1 rfl ?_
  refine own_aloadN K m18_d5 rfl rfl ?_
  refine own_gfI K m18_d6 own_w25 (own_cl0) (i := 0) rfl h rfl (fun x14 h => ?_)
  refine own_iconst K m18_d9 own_ic1 rfl ?_
  refine own_iadd K m18_d10 rfl ?_
  refine own_iconst K m18_d11 own_icm1 rfl ?_
  refine own_bk h (fun q15 hq15 h => ?_)
  refine own_callS K m18_d12 own_w68 own_w69 own_w70 own_w71 (argsL := [.ref x13, .int (1 : Int32), .int (x14 + (1 : Int32)), .int (-1 : Int32)]) (st := []) (by decide) (lenOf own_pd3 rfl) rfl (W := 0) (Nat.le_of_eq rfl) (by decide) (by decide) (cs1 := 0) (ss1 := 0) rfl rfl (by decide) (by decide) rfl rfl (m15_met hq15) (st1 := []) rfl ?_
  refine own_iconst K m18_d15 own_ic0 rfl ?_
  refine own_istoreN K m18_d16 (Ls' := [.val (.ref (own_n C + a0)), .val (.ref (own_n C + a1)), .val (.int (0 : Int32)), .unset]) rfl rfl ?_
  refine own_aloadN K m18_d17 rfl rfl ?_
  refine own_gfI K m18_d18 own_w27 (own_cl0) (i := 1) rfl h rfl (fun x16 h => ?_)
  refine own_istoreN K m18_d21 (Ls' := [.val (.ref (own_n C + a0)), .val (.ref (own_n C + a1)), .val (.int (0 : Int32)), .val (.int x16)]) rfl rfl ?_
  exact ih.1 _ _ _ _ _ _ h
set_option maxRecDepth 65536 in
set_option maxHeartbeats 4000000 in
theorem m18_met {a0 : Nat} {a1 : Nat} {M : own_Mem} {q : Int32 × own_Mem} (h : m18 a0 a1 M = some q) : own_Met ⟨"com/example/gatherline/gatherline/RunSplit", "findLeavingNoneOut", "([I)Z"⟩ prog_20_method_3_code 4 (some .boolean) m18_rm [.ref a0, .ref a1] M (some (.int q.1)) q.2 :=
  own_met (Ls := fun n0 => [.val (.ref (n0 + a0)), .val (.ref (n0 + a1)), .unset, .unset]) (plainFor_of_name own_pn1) (fun m n0 => by first | (simp [entryFrame, mkF, argsToLocals, Value.category, own_up]; done) | rfl) fun C K => m18_w K h
theorem m8_d0 : decode prog_20_method_4_code 0 = .ok (.aload_n 0, 1) := by decide +kernel
theorem m8_d1 : decode prog_20_method_4_code 1 = .ok (.getfield 18, 3) := by decide +kernel
theorem m8_d4 : decode prog_20_method_4_code 4 = .ok (.iconst 0, 1) := by decide +kernel
theorem m8_d5 : decode prog_20_method_4_code 5 = .ok (.iconst 0, 1) := by decide +kernel
theorem m8_d6 : decode prog_20_method_4_code 6 = .ok (.iastore, 1) := by decide +kernel
theorem m8_d7 : decode prog_20_method_4_code 7 = .ok (.iconst 1, 1) := by decide +kernel
theorem m8_d8 : decode prog_20_method_4_code 8 = .ok (.istore_n 3, 1) := by decide +kernel
theorem m8_d9 : decode prog_20_method_4_code 9 = .ok (.iload_n 3, 1) := by decide +kernel
theorem m8_d10 : decode prog_20_method_4_code 10 = .ok (.aload_n 0, 1) := by decide +kernel
theorem m8_d11 : decode prog_20_method_4_code 11 = .ok (.getfield 15, 3) := by decide +kernel
theorem m8_d14 : decode prog_20_method_4_code 14 = .ok (.if_icmp .ge 31, 3) := by decide +kernel
theorem m8_d17 : decode prog_20_method_4_code 17 = .ok (.iload_n 3, 1) := by decide +kernel
theorem m8_d18 : decode prog_20_method_4_code 18 = .ok (.aload_n 0, 1) := by decide +kernel
theorem m8_d19 : decode prog_20_method_4_code 19 = .ok (.getfield 9, 3) := by decide +kernel
theorem m8_d22 : decode prog_20_method_4_code 22 = .ok (.if_icmp .gt 23, 3) := by decide +kernel
theorem m8_d25 : decode prog_20_method_4_code 25 = .ok (.aload_n 0, 1) := by decide +kernel
theorem m8_d26 : decode prog_20_method_4_code 26 = .ok (.getfield 18, 3) := by decide +kernel
theorem m8_d29 : decode prog_20_method_4_code 29 = .ok (.iload_n 3, 1) := by decide +kernel
theorem m8_d30 : decode prog_20_method_4_code 30 = .ok (.iload_n 3, 1) := by decide +kernel
theorem m8_d31 : decode prog_20_method_4_code 31 = .ok (.iastore, 1) := by decide +kernel
theorem m8_d32 : decode prog_20_method_4_code 32 = .ok (.aload_n 0, 1) := by decide +kernel
theorem m8_d33 : decode prog_20_method_4_code 33 = .ok (.getfield 22, 3) := by decide +kernel
theorem m8_d36 : decode prog_20_method_4_code 36 = .ok (.iload_n 3, 1) := by decide +kernel
theorem m8_d37 : decode prog_20_method_4_code 37 = .ok (.iconst (-1), 1) := by decide +kernel
theorem m8_d38 : decode prog_20_method_4_code 38 = .ok (.iastore, 1) := by decide +kernel
theorem m8_d39 : decode prog_20_method_4_code 39 = .ok (.iinc 3 1, 3) := by decide +kernel
theorem m8_d42 : decode prog_20_method_4_code 42 = .ok (.goto (-33), 3) := by decide +kernel
theorem m8_d45 : decode prog_20_method_4_code 45 = .ok (.iconst 0, 1) := by decide +kernel
theorem m8_d46 : decode prog_20_method_4_code 46 = .ok (.istore 4, 2) := by decide +kernel
theorem m8_d48 : decode prog_20_method_4_code 48 = .ok (.iconst 0, 1) := by decide +kernel
theorem m8_d49 : decode prog_20_method_4_code 49 = .ok (.istore 5, 2) := by decide +kernel
theorem m8_d51 : decode prog_20_method_4_code 51 = .ok (.iload_n 3, 1) := by decide +kernel
theorem m8_d52 : decode prog_20_method_4_code 52 = .ok (.aload_n 0, 1) := by decide +kernel
theorem m8_d53 : decode prog_20_method_4_code 53 = .ok (.getfield 9, 3) := by decide +kernel
theorem m8_d56 : decode prog_20_method_4_code 56 = .ok (.if_icmp .gt 179, 3) := by decide +kernel
theorem m8_d59 : decode prog_20_method_4_code 59 = .ok (.iload_n 3, 1) := by decide +kernel
theorem m8_d60 : decode prog_20_method_4_code 60 = .ok (.aload_n 0, 1) := by decide +kernel
theorem m8_d61 : decode prog_20_method_4_code 61 = .ok (.getfield 15, 3) := by decide +kernel
theorem m8_d64 : decode prog_20_method_4_code 64 = .ok (.isub, 1) := by decide +kernel
theorem m8_d65 : decode prog_20_method_4_code 65 = .ok (.istore 6, 2) := by decide +kernel
theorem m8_d67 : decode prog_20_method_4_code 67 = .ok (.aload_n 0, 1) := by decide +kernel
theorem m8_d68 : decode prog_20_method_4_code 68 = .ok (.getfield 18, 3) := by decide +kernel
theorem m8_d71 : decode prog_20_method_4_code 71 = .ok (.iload 6, 2) := by decide +kernel
theorem m8_d73 : decode prog_20_method_4_code 73 = .ok (.iaload, 1) := by decide +kernel
theorem m8_d74 : decode prog_20_method_4_code 74 = .ok (.istore 7, 2) := by decide +kernel
theorem m8_d76 : decode prog_20_method_4_code 76 = .ok (.iload 5, 2) := by decide +kernel
theorem m8_d78 : decode prog_20_method_4_code 78 = .ok (.iload 4, 2) := by decide +kernel
theorem m8_d80 : decode prog_20_method_4_code 80 = .ok (.if_icmp .le 23, 3) := by decide +kernel
theorem m8_d83 : decode prog_20_method_4_code 83 = .ok (.aload_n 0, 1) := by decide +kernel
theorem m8_d84 : decode prog_20_method_4_code 84 = .ok (.getfield 28, 3) := by decide +kernel
theorem m8_d87 : decode prog_20_method_4_code 87 = .ok (.iload 5, 2) := by decide +kernel
theorem m8_d89 : decode prog_20_method_4_code 89 = .ok (.iconst 1, 1) := by decide +kernel
theorem m8_d90 : decode prog_20_method_4_code 90 = .ok (.isub, 1) := by decide +kernel
theorem m8_d91 : decode prog_20_method_4_code 91 = .ok (.iaload, 1) := by decide +kernel
theorem m8_d92 : decode prog_20_method_4_code 92 = .ok (.iload 7, 2) := by decide +kernel
theorem m8_d94 : decode prog_20_method_4_code 94 = .ok (.if_icmp .lt 9, 3) := by decide +kernel
theorem m8_d97 : decode prog_20_method_4_code 97 = .ok (.iinc 5 (-1), 3) := by decide +kernel
theorem m8_d100 : decode prog_20_method_4_code 100 = .ok (.goto (-24), 3) := by decide +kernel
theorem m8_d103 : decode prog_20_method_4_code 103 = .ok (.aload_n 0, 1) := by decide +kernel
theorem m8_d104 : decode prog_20_method_4_code 104 = .ok (.getfield 25, 3) := by decide +kernel
theorem m8_d107 : decode prog_20_method_4_code 107 = .ok (.iload 5, 2) := by decide +kernel
theorem m8_d109 : decode prog_20_method_4_code 109 = .ok (.iload 6, 2) := by decide +kernel
theorem m8_d111 : decode prog_20_method_4_code 111 = .ok (.iastore, 1) := by decide +kernel
theorem m8_d112 : decode prog_20_method_4_code 112 = .ok (.aload_n 0, 1) := by decide +kernel
theorem m8_d113 : decode prog_20_method_4_code 113 = .ok (.getfield 28, 3) := by decide +kernel
theorem m8_d116 : decode prog_20_method_4_code 116 = .ok (.iload 5, 2) := by decide +kernel
theorem m8_d118 : decode prog_20_method_4_code 118 = .ok (.iload 7, 2) := by decide +kernel
theorem m8_d120 : decode prog_20_method_4_code 120 = .ok (.iastore, 1) := by decide +kernel
theorem m8_d121 : decode prog_20_method_4_code 121 = .ok (.iinc 5 1, 3) := by decide +kernel
theorem m8_d124 : decode prog_20_method_4_code 124 = .ok (.aload_n 1, 1) := by decide +kernel
theorem m8_d125 : decode prog_20_method_4_code 125 = .ok (.iload_n 3, 1) := by decide +kernel
theorem m8_d126 : decode prog_20_method_4_code 126 = .ok (.iaload, 1) := by decide +kernel
theorem m8_d127 : decode prog_20_method_4_code 127 = .ok (.istore 8, 2) := by decide +kernel
theorem m8_d129 : decode prog_20_method_4_code 129 = .ok (.iload 4, 2) := by decide +kernel
theorem m8_d131 : decode prog_20_method_4_code 131 = .ok (.iload 5, 2) := by decide +kernel
theorem m8_d133 : decode prog_20_method_4_code 133 = .ok (.if_icmp .ge 21, 3) := by decide +kernel
theorem m8_d136 : decode prog_20_method_4_code 136 = .ok (.aload_n 0, 1) := by decide +kernel
theorem m8_d137 : decode prog_20_method_4_code 137 = .ok (.getfield 25, 3) := by decide +kernel
theorem m8_d140 : decode prog_20_method_4_code 140 = .ok (.iload 4, 2) := by decide +kernel
theorem m8_d142 : decode prog_20_method_4_code 142 = .ok (.iaload, 1) := by decide +kernel
theorem m8_d143 : decode prog_20_method_4_code 143 = .ok (.iload 8, 2) := by decide +kernel
theorem m8_d145 : decode prog_20_method_4_code 145 = .ok (.if_icmp .ge 9, 3) := by decide +kernel
theorem m8_d148 : decode prog_20_method_4_code 148 = .ok (.iinc 4 1, 3) := by decide +kernel
theorem m8_d151 : decode prog_20_method_4_code 151 = .ok (.goto (-22), 3) := by decide +kernel
theorem m8_d154 : decode prog_20_method_4_code 154 = .ok (.aload_n 0, 1) := by decide +kernel
theorem m8_d155 : decode prog_20_method_4_code 155 = .ok (.getfield 18, 3) := by decide +kernel
theorem m8_d158 : decode prog_20_method_4_code 158 = .ok (.iload_n 3, 1) := by decide +kernel
theorem m8_d159 : decode prog_20_method_4_code 159 = .ok (.iconst 1, 1) := by decide +kernel
theorem m8_d160 : decode prog_20_method_4_code 160 = .ok (.isub, 1) := by decide +kernel
theorem m8_d161 : decode prog_20_method_4_code 161 = .ok (.iaload, 1) := by decide +kernel
theorem m8_d162 : decode prog_20_method_4_code 162 = .ok (.iconst 1, 1) := by decide +kernel
theorem m8_d163 : decode prog_20_method_4_code 163 = .ok (.iadd, 1) := by decide +kernel
theorem m8_d164 : decode prog_20_method_4_code 164 = .ok (.istore 9, 2) := by decide +kernel
theorem m8_d166 : decode prog_20_method_4_code 166 = .ok (.iload 4, 2) := by decide +kernel
theorem m8_d168 : decode prog_20_method_4_code 168 = .ok (.iload 5, 2) := by decide +kernel
theorem m8_d170 : decode prog_20_method_4_code 170 = .ok (.if_icmp .ge 44, 3) := by decide +kernel
theorem m8_d173 : decode prog_20_method_4_code 173 = .ok (.aload_n 0, 1) := by decide +kernel
theorem m8_d174 : decode prog_20_method_4_code 174 = .ok (.getfield 28, 3) := by decide +kernel
theorem m8_d177 : decode prog_20_method_4_code 177 = .ok (.iload 4, 2) := by decide +kernel
theorem m8_d179 : decode prog_20_method_4_code 179 = .ok (.iaload, 1) := by decide +kernel
theorem m8_d180 : decode prog_20_method_4_code 180 = .ok (.iload 9, 2) := by decide +kernel
theorem m8_d182 : decode prog_20_method_4_code 182 = .ok (.if_icmp .gt 32, 3) := by decide +kernel
theorem m8_d185 : decode prog_20_method_4_code 185 = .ok (.aload_n 0, 1) := by decide +kernel
theorem m8_d186 : decode prog_20_method_4_code 186 = .ok (.getfield 18, 3) := by decide +kernel
theorem m8_d189 : decode prog_20_method_4_code 189 = .ok (.iload_n 3, 1) := by decide +kernel
theorem m8_d190 : decode prog_20_method_4_code 190 = .ok (.aload_n 0, 1) := by decide +kernel
theorem m8_d191 : decode prog_20_method_4_code 191 = .ok (.getfield 28, 3) := by decide +kernel
theorem m8_d194 : decode prog_20_method_4_code 194 = .ok (.iload 4, 2) := by decide +kernel
theorem m8_d196 : decode prog_20_method_4_code 196 = .ok (.iaload, 1) := by decide +kernel
theorem m8_d197 : decode prog_20_method_4_code 197 = .ok (.iastore, 1) := by decide +kernel
theorem m8_d198 : decode prog_20_method_4_code 198 = .ok (.aload_n 0, 1) := by decide +kernel
theorem m8_d199 : decode prog_20_method_4_code 199 = .ok (.getfield 22, 3) := by decide +kernel
theorem m8_d202 : decode prog_20_method_4_code 202 = .ok (.iload_n 3, 1) := by decide +kernel
theorem m8_d203 : decode prog_20_method_4_code 203 = .ok (.aload_n 0, 1) := by decide +kernel
theorem m8_d204 : decode prog_20_method_4_code 204 = .ok (.getfield 25, 3) := by decide +kernel
theorem m8_d207 : decode prog_20_method_4_code 207 = .ok (.iload 4, 2) := by decide +kernel
theorem m8_d209 : decode prog_20_method_4_code 209 = .ok (.iaload, 1) := by decide +kernel
theorem m8_d210 : decode prog_20_method_4_code 210 = .ok (.iastore, 1) := by decide +kernel
theorem m8_d211 : decode prog_20_method_4_code 211 = .ok (.goto 18, 3) := by decide +kernel
theorem m8_d214 : decode prog_20_method_4_code 214 = .ok (.aload_n 0, 1) := by decide +kernel
theorem m8_d215 : decode prog_20_method_4_code 215 = .ok (.getfield 18, 3) := by decide +kernel
theorem m8_d218 : decode prog_20_method_4_code 218 = .ok (.iload_n 3, 1) := by decide +kernel
theorem m8_d219 : decode prog_20_method_4_code 219 = .ok (.iload 9, 2) := by decide +kernel
theorem m8_d221 : decode prog_20_method_4_code 221 = .ok (.iastore, 1) := by decide +kernel
theorem m8_d222 : decode prog_20_method_4_code 222 = .ok (.aload_n 0, 1) := by decide +kernel
theorem m8_d223 : decode prog_20_method_4_code 223 = .ok (.getfield 22, 3) := by decide +kernel
theorem m8_d226 : decode prog_20_method_4_code 226 = .ok (.iload_n 3, 1) := by decide +kernel
theorem m8_d227 : decode prog_20_method_4_code 227 = .ok (.iconst (-1), 1) := by decide +kernel
theorem m8_d228 : decode prog_20_method_4_code 228 = .ok (.iastore, 1) := by decide +kernel
theorem m8_d229 : decode prog_20_method_4_code 229 = .ok (.iinc 3 1, 3) := by decide +kernel
theorem m8_d232 : decode prog_20_method_4_code 232 = .ok (.goto (-181), 3) := by decide +kernel
theorem m8_d235 : decode prog_20_method_4_code 235 = .ok (.aload_n 0, 1) := by decide +kernel
theorem m8_d236 : decode prog_20_method_4_code 236 = .ok (.getfield 18, 3) := by decide +kernel
theorem m8_d239 : decode prog_20_method_4_code 239 = .ok (.aload_n 0, 1) := by decide +kernel
theorem m8_d240 : decode prog_20_method_4_code 240 = .ok (.getfield 9, 3) := by decide +kernel
theorem m8_d243 : decode prog_20_method_4_code 243 = .ok (.iaload, 1) := by decide +kernel
theorem m8_d244 : decode prog_20_method_4_code 244 = .ok (.iload_n 2, 1) := by decide +kernel
theorem m8_d245 : decode prog_20_method_4_code 245 = .ok (.if_icmp .gt 7, 3) := by decide +kernel
theorem m8_d248 : decode prog_20_method_4_code 248 = .ok (.iconst 1, 1) := by decide +kernel
theorem m8_d249 : decode prog_20_method_4_code 249 = .ok (.goto 4, 3) := by decide +kernel
theorem m8_d252 : decode prog_20_method_4_code 252 = .ok (.iconst 0, 1) := by decide +kernel
theorem m8_d253 : decode prog_20_method_4_code 253 = .ok (.ireturn, 1) := by decide +kernel
def m8_rm : Room := { frames := 0, cells := 0, slots := 0, locals := 0 }
set_option maxRecDepth 65536 in
def m8_c9 (rec : Nat → Nat → Nat → Int32 → Int32 → Int32 → Int32 → Int32 → Int32 → Int32 → Int32 → Int32 → own_Mem → Option (Int32 × own_Mem)) (a0 : Nat) (a1 : Nat) (i2 : Int32) (i3 : Int32) (M : own_Mem) : Option (Int32 × own_Mem) := (own_getI 0 1 M a0).bind fun x1 => if i3 < x1 then ((own_getI 0 0 M a0).bind fun x2 => if x2 < i3 then (rec 45 a0 a1 i2 i3 0 0 0 0 0 0 0 M) else ((own_getR 0 2 M a0).bind fun x3 => (own_sto 100 M x3 i3 (.int i3)).bind fun M4 => (own_getR 0 3 M4 a0).bind fun x5 => (own_sto 100 M4 x5 i3 (.int (-1 : Int32))).bind fun M6 => rec 9 a0 a1 i2 (i3 + (1 : Int32)) 0 0 0 0 0 0 0 M6)) else (rec 45 a0 a1 i2 i3 0 0 0 0 0 0 0 M)
set_option maxRecDepth 65536 in
def m8_c45 (rec : Nat → Nat → Nat → Int32 → Int32 → Int32 → Int32 → Int32 → Int32 → Int32 → Int32 → Int32 → own_Mem → Option (Int32 × own_Mem)) (a0 : Nat) (a1 : Nat) (i2 : Int32) (i3 : Int32) (M : own_Mem) : Option (Int32 × own_Mem) := rec 51 a0 a1 i2 i3 (0 : Int32) (0 : Int32) 0 0 0 0 0 M
set_option maxRecDepth 65536 in
def m8_c51 (rec : Nat → Nat → Nat → Int32 → Int32 → Int32 → Int32 → Int32 → Int32 → Int32 → Int32 → Int32 → own_Mem → Option (Int32 × own_Mem)) (a0 : Nat) (a1 : Nat) (i2 : Int32) (i3 : Int32) (i4 : Int32) (i5 : Int32) (M : own_Mem) : Option (Int32 × own_Mem) := (own_getI 0 0 M a0).bind fun x7 => if x7 < i3 then ((own_getR 0 2 M a0).bind fun x8 => (own_getI 0 0 M a0).bind fun x9 => (own_ldI 100 M x8 x9).bind fun x10 => if i2 < x10 then (rec 253 0 0 0 0 0 0 0 0 0 0 (0 : Int32) M) else (rec 253 0 0 0 0 0 0 0 0 0 0 (1 : Int32) M)) else ((own_getI 0 1 M a0).bind fun x11 => own_let (i3 - x11) fun x12 => (own_getR 0 2 M a0).bind fun x13 => (own_ldI 100 M x13 x12).bind fun x14 => rec 76 a0 a1 i2 i3 i4 i5 x12 x14 0 0 0 M)
set_option maxRecDepth 65536 in
def m8_c76 (rec : Nat → Nat → Nat → Int32 → Int32 → Int32 → Int32 → Int32 → Int32 → Int32 → Int32 → Int32 → own_Mem → Option (Int32 × own_Mem)) (a0 : Nat) (a1 : Nat) (i2 : Int32) (i3 : Int32) (i4 : Int32) (i5 : Int32) (i6 : Int32) (i7 : Int32) (M : own_Mem) : Option (Int32 × own_Mem) := if i4 < i5 then ((own_getR 0 5 M a0).bind fun x15 => (own_ldI 100 M x15 (i5 - (1 : Int32))).bind fun x16 => if x16 < i7 then (rec 103 a0 a1 i2 i3 i4 i5 i6 i7 0 0 0 M) else (rec 76 a0 a1 i2 i3 i4 (i5 + (-1 : Int32)) i6 i7 0 0 0 M)) else (rec 103 a0 a1 i2 i3 i4 i5 i6 i7 0 0 0 M)
set_option maxRecDepth 65536 in
def m8_c103 (rec : Nat → Nat → Nat → Int32 → Int32 → Int32 → Int32 → Int32 → Int32 → Int32 → Int32 → Int32 → own_Mem → Option (Int32 × own_Mem)) (a0 : Nat) (a1 : Nat) (i2 : Int32) (i3 : Int32) (i4 : Int32) (i5 : Int32) (i6 : Int32) (i7 : Int32) (M : own_Mem) : Option (Int32 × own_Mem) := (own_getR 0 4 M a0).bind fun x17 => (own_sto 100 M x17 i5 (.int i6)).bind fun M18 => (own_getR 0 5 M18 a0).bind fun x19 => (own_sto 100 M18 x19 i5 (.int i7)).bind fun M20 => (own_ldI 100 M20 a1 i3).bind fun x21 => rec 129 a0 a1 i2 i3 i4 (i5 + (1 : Int32)) 0 0 x21 0 0 M20
set_option maxRecDepth 65536 in
def m8_c129 (rec : Nat → Nat → Nat → Int32 → Int32 → Int32 → Int32 → Int32 → Int32 → Int32 → Int32 → Int32 → own_Mem → Option (Int32 × own_Mem)) (a0 : Nat) (a1 : Nat) (i2 : Int32) (i3 : Int32) (i4 : Int32) (i5 : Int32) (i8 : Int32) (M : own_Mem) : Option (Int32 × own_Mem) := if i4 < i5 then ((own_getR 0 4 M a0).bind fun x22 => (own_ldI 100 M x22 i4).bind fun x23 => if x23 < i8 then (rec 129 a0 a1 i2 i3 (i4 + (1 : Int32)) i5 0 0 i8 0 0 M) else (rec 154 a0 a1 i2 i3 i4 i5 0 0 0 0 0 M)) else (rec 154 a0 a1 i2 i3 i4 i5 0 0 0 0 0 M)
set_option maxRecDepth 65536 in
def m8_c154 (rec : Nat → Nat → Nat → Int32 → Int32 → Int32 → Int32 → Int32 → Int32 → Int32 → Int32 → Int32 → own_Mem → Option (Int32 × own_Mem)) (a0 : Nat) (a1 : Nat) (i2 : Int32) (i3 : Int32) (i4 : Int32) (i5 : Int32) (M : own_Mem) : Option (Int32 × own_Mem) := (own_getR 0 2 M a0).bind fun x24 => (own_ldI 100 M x24 (i3 - (1 : Int32))).bind fun x25 => own_let (x25 + (1 : Int32)) fun x26 => if i4 < i5 then ((own_getR 0 5 M a0).bind fun x27 => (own_ldI 100 M x27 i4).bind fun x28 => if x26 < x28 then (rec 214 a0 a1 i2 i3 i4 i5 0 0 0 x26 0 M) else ((own_getR 0 2 M a0).bind fun x29 => (own_getR 0 5 M a0).bind fun x30 => (own_ldI 100 M x30 i4).bind fun x31 => (own_sto 100 M x29 i3 (.int x31)).bind fun M32 => (own_getR 0 3 M32 a0).bind fun x33 => (own_getR 0 4 M32 a0).bind fun x34 => (own_ldI 100 M32 x34 i4).bind fun x35 => (own_sto 100 M32 x33 i3 (.int x35)).bind fun M36 => rec 229 a0 a1 i2 i3 i4 i5 0 0 0 0 0 M36)) else (rec 214 a0 a1 i2 i3 i4 i5 0 0 0 x26 0 M)
set_option maxRecDepth 65536 in
def m8_c214 (rec : Nat → Nat → Nat → Int32 → Int32 → Int32 → Int32 → Int32 → Int32 → Int32 → Int32 → Int32 → own_Mem → Option (Int32 × own_Mem)) (a0 : Nat) (a1 : Nat) (i2 : Int32) (i3 : Int32) (i4 : Int32) (i5 : Int32) (i9 : Int32) (M : own_Mem) : Option (Int32 × own_Mem) := (own_getR 0 2 M a0).bind fun x37 => (own_sto 100 M x37 i3 (.int i9)).bind fun M38 => (own_getR 0 3 M38 a0).bind fun x39 => (own_sto 100 M38 x39 i3 (.int (-1 : Int32))).bind fun M40 => rec 229 a0 a1 i2 i3 i4 i5 0 0 0 0 0 M40
set_option maxRecDepth 65536 in
def m8_c229 (rec : Nat → Nat → Nat → Int32 → Int32 → Int32 → Int32 → Int32 → Int32 → Int32 → Int32 → Int32 → own_Mem → Option (Int32 × own_Mem)) (a0 : Nat) (a1 : Nat) (i2 : Int32) (i3 : Int32) (i4 : Int32) (i5 : Int32) (M : own_Mem) : Option (Int32 × own_Mem) := rec 51 a0 a1 i2 (i3 + (1 : Int32)) i4 i5 0 0 0 0 0 M
set_option maxRecDepth 65536 in
def m8_c253 (rec : Nat → Nat → Nat → Int32 → Int32 → Int32 → Int32 → Int32 → Int32 → Int32 → Int32 → Int32 → own_Mem → Option (Int32 × own_Mem)) (t0 : Int32) (M : own_Mem) : Option (Int32 × own_Mem) := some (nar .boolean t0, M)
def m8_L : Nat → Nat → Nat → Nat → Int32 → Int32 → Int32 → Int32 → Int32 → Int32 → Int32 → Int32 → Int32 → own_Mem → Option (Int32 × own_Mem)
  | 0 => fun _ _ _ _ _ _ _ _ _ _ _ _ _ => none
  | n + 1 => fun pc a0 a1 i2 i3 i4 i5 i6 i7 i8 i9 t0 M => if pc = 9 then m8_c9 (m8_L n) a0 a1 i2 i3 M else if pc = 45 then m8_c45 (m8_L n) a0 a1 i2 i3 M else if pc = 51 then m8_c51 (m8_L n) a0 a1 i2 i3 i4 i5 M else if pc = 76 then m8_c76 (m8_L n) a0 a1 i2 i3 i4 i5 i6 i7 M else if pc = 103 then m8_c103 (m8_L n) a0 a1 i2 i3 i4 i5 i6 i7 M else if pc = 129 then m8_c129 (m8_L n) a0 a1 i2 i3 i4 i5 i8 M else if pc = 154 then m8_c154 (m8_L n) a0 a1 i2 i3 i4 i5 M else if pc = 214 then m8_c214 (m8_L n) a0 a1 i2 i3 i4 i5 i9 M else if pc = 229 then m8_c229 (m8_L n) a0 a1 i2 i3 i4 i5 M else if pc = 253 then m8_c253 (m8_L n) t0 M else none
def m8_P9 (C : own_Ctx) (n : Nat) : Prop := ∀ (a0 : Nat) (a1 : Nat) (i2 : Int32) (i3 : Int32) (M : own_Mem) (r : Int32 × own_Mem), m8_L n 9 a0 a1 i2 i3 0 0 0 0 0 0 0 M = some r → own_W C (some (.int r.1)) r.2 M 0 0 9 [.val (.ref (own_n C + a0)), .val (.ref (own_n C + a1)), .val (.int i2), .val (.int i3), .unset, .unset, .unset, .unset, .unset, .unset] []
def m8_P45 (C : own_Ctx) (n : Nat) : Prop := ∀ (a0 : Nat) (a1 : Nat) (i2 : Int32) (i3 : Int32) (M : own_Mem) (r : Int32 × own_Mem), m8_L n 45 a0 a1 i2 i3 0 0 0 0 0 0 0 M = some r → own_W C (some (.int r.1)) r.2 M 0 0 45 [.val (.ref (own_n C + a0)), .val (.ref (own_n C + a1)), .val (.int i2), .val (.int i3), .unset, .unset, .unset, .unset, .unset, .unset] []
def m8_P51 (C : own_Ctx) (n : Nat) : Prop := ∀ (a0 : Nat) (a1 : Nat) (i2 : Int32) (i3 : Int32) (i4 : Int32) (i5 : Int32) (z6 : Slot) (z7 : Slot) (z8 : Slot) (z9 : Slot) (o6 : own_One z6) (o7 : own_One z7) (o8 : own_One z8) (o9 : own_One z9) (M : own_Mem) (r : Int32 × own_Mem), m8_L n 51 a0 a1 i2 i3 i4 i5 0 0 0 0 0 M = some r → own_W C (some (.int r.1)) r.2 M 0 0 51 [.val (.ref (own_n C + a0)), .val (.ref (own_n C + a1)), .val (.int i2), .val (.int i3), .val (.int i4), .val (.int i5), z6, z7, z8, z9] []
def m8_P76 (C : own_Ctx) (n : Nat) : Prop := ∀ (a0 : Nat) (a1 : Nat) (i2 : Int32) (i3 : Int32) (i4 : Int32) (i5 : Int32) (i6 : Int32) (i7 : Int32) (z8 : Slot) (z9 : Slot) (o8 : own_One z8) (o9 : own_One z9) (M : own_Mem) (r : Int32 × own_Mem), m8_L n 76 a0 a1 i2 i3 i4 i5 i6 i7 0 0 0 M = some r → own_W C (some (.int r.1)) r.2 M 0 0 76 [.val (.ref (own_n C + a0)), .val (.ref (own_n C + a1)), .val (.int i2), .val (.int i3), .val (.int i4), .val (.int i5), .val (.int i6), .val (.int i7), z8, z9] []
def m8_P103 (C : own_Ctx) (n : Nat) : Prop := ∀ (a0 : Nat) (a1 : Nat) (i2 : Int32) (i3 : Int32) (i4 : Int32) (i5 : Int32) (i6 : Int32) (i7 : Int32) (z8 : Slot) (z9 : Slot) (o8 : own_One z8) (o9 : own_One z9) (M : own_Mem) (r : Int32 × own_Mem), m8_L n 103 a0 a1 i2 i3 i4 i5 i6 i7 0 0 0 M = some r → own_W C (some (.int r.1)) r.2 M 0 0 103 [.val (.ref (own_n C + a0)), .val (.ref (own_n C + a1)), .val (.int i2), .val (.int i3), .val (.int i4), .val (.int i5), .val (.int i6), .val (.int i7), z8, z9] []
def m8_P129 (C : own_Ctx) (n : Nat) : Prop := ∀ (a0 : Nat) (a1 : Nat) (i2 : Int32) (i3 : Int32) (i4 : Int32) (i5 : Int32) (i8 : Int32) (z6 : Slot) (z7 : Slot) (z9 : Slot) (o6 : own_One z6) (o7 : own_One z7) (o9 : own_One z9) (M : own_Mem) (r : Int32 × own_Mem), m8_L n 129 a0 a1 i2 i3 i4 i5 0 0 i8 0 0 M = some r → own_W C (some (.int r.1)) r.2 M 0 0 129 [.val (.ref (own_n C + a0)), .val (.ref (own_n C + a1)), .val (.int i2), .val (.int i3), .val (.int i4), .val (.int i5), z6, z7, .val (.int i8), z9] []
def m8_P154 (C : own_Ctx) (n : Nat) : Prop := ∀ (a0 : Nat) (a1 : Nat) (i2 : Int32) (i3 : Int32) (i4 : Int32) (i5 : Int32) (z6 : Slot) (z7 : Slot) (z8 : Slot) (z9 : Slot) (o6 : own_One z6) (o7 : own_One z7) (o8 : own_One z8) (o9 : own_One z9) (M : own_Mem) (r : Int32 × own_Mem), m8_L n 154 a0 a1 i2 i3 i4 i5 0 0 0 0 0 M = some r → own_W C (some (.int r.1)) r.2 M 0 0 154 [.val (.ref (own_n C + a0)), .val (.ref (own_n C + a1)), .val (.int i2), .val (.int i3), .val (.int i4), .val (.int i5), z6, z7, z8, z9] []
def m8_P214 (C : own_Ctx) (n : Nat) : Prop := ∀ (a0 : Nat) (a1 : Nat) (i2 : Int32) (i3 : Int32) (i4 : Int32) (i5 : Int32) (i9 : Int32) (z6 : Slot) (z7 : Slot) (z8 : Slot) (o6 : own_One z6) (o7 : own_One z7) (o8 : own_One z8) (M : own_Mem) (r : Int32 × own_Mem), m8_L n 214 a0 a1 i2 i3 i4 i5 0 0 0 i9 0 M = some r → own_W C (some (.int r.1)) r.2 M 0 0 214 [.val (.ref (own_n C + a0)), .val (.ref (own_n C + a1)), .val (.int i2), .val (.int i3), .val (.int i4), .val (.int i5), z6, z7, z8, .val (.int i9)] []
def m8_P229 (C : own_Ctx) (n : Nat) : Prop := ∀ (a0 : Nat) (a1 : Nat) (i2 : Int32) (i3 : Int32) (i4 : Int32) (i5 : Int32) (z6 : Slot) (z7 : Slot) (z8 : Slot) (z9 : Slot) (o6 : own_One z6) (o7 : own_One z7) (o8 : own_One z8) (o9 : own_One z9) (M : own_Mem) (r : Int32 × own_Mem), m8_L n 229 a0 a1 i2 i3 i4 i5 0 0 0 0 0 M = some r → own_W C (some (.int r.1)) r.2 M 0 0 229 [.val (.ref (own_n C + a0)), .val (.ref (own_n C + a1)), .val (.int i2), .val (.int i3), .val (.int i4), .val (.int i5), z6, z7, z8, z9] []
def m8_P253 (C : own_Ctx) (n : Nat) : Prop := ∀ (t0 : Int32) (z0 : Slot) (z1 : Slot) (z2 : Slot) (z3 : Slot) (z4 : Slot) (z5 : Slot) (z6 : Slot) (z7 : Slot) (z8 : Slot) (z9 : Slot) (o0 : own_One z0) (o1 : own_One z1) (o2 : own_One z2) (o3 : own_One z3) (o4 : own_One z4) (o5 : own_One z5) (o6 : own_One z6) (o7 : own_One z7) (o8 : own_One z8) (o9 : own_One z9) (M : own_Mem) (r : Int32 × own_Mem), m8_L n 253 0 0 0 0 0 0 0 0 0 0 t0 M = some r → own_W C (some (.int r.1)) r.2 M 0 0 253 [z0, z1, z2, z3, z4, z5, z6, z7, z8, z9] [.int t0]
def m8_IH (C : own_Ctx) (n : Nat) : Prop := m8_P9 C n ∧ m8_P45 C n ∧ m8_P51 C n ∧ m8_P76 C n ∧ m8_P103 C n ∧ m8_P129 C n ∧ m8_P154 C n ∧ m8_P214 C n ∧ m8_P229 C n ∧ m8_P253 C n
set_option maxRecDepth 65536 in
set_option maxHeartbeats 4000000 in
theorem m8_w9 {C : own_Ctx} (K : own_K C prog_20_method_4_code 10 "com/example/gatherline/gatherline/RunSplit" (some .boolean) "findLeavingOut" m8_rm) {n : Nat} {a0 : Nat} {a1 : Nat} {i2 : Int32} {i3 : Int32} (ih : m8_IH C n) {M : own_Mem} {r : Int32 × own_Mem} (h : m8_c9 (m8_L n) a0 a1 i2 i3 M = some r) : own_W C (some (.int r.1)) r.2 M 0 0 9 [.val (.ref (own_n C + a0)), .val (.ref (own_n C + a1)), .val (.int i2), .val (.int i3), .unset, .unset, .unset, .unset, .unset, .unset] [] := by
  unfold m8_c9 at h
  refine own_iloadN K m8_d9 rfl rfl ?_
  refine own_aloadN K m8_d10 rfl rfl ?_
  refine own_gfI K m8_d11 own_w27 (own_cl0) (i := 1) rfl h rfl (fun x1 h => ?_)
  refine own_ige K m8_d14 h (pc1 := 45) (pc2 := 17) (by decide) rfl (fun h => ?_) (fun h => ?_)
  · exact ih.2.1 _ _ _ _ _ _ h
  · refine own_iloadN K m8_d17 rfl rfl ?_
    refine own_aloadN K m8_d18 rfl rfl ?_
    refine own_gfI K m8_d19 own_w25 (own_cl0) (i := 0) rfl h rfl (fun x2 h => ?_)
    refine own_igt K m8_d22 h (pc1 := 45) (pc2 := 25) (by decide) rfl (fun h => ?_) (fun h => ?_)
    · exact ih.2.1 _ _ _ _ _ _ h
    · refine own_aloadN K m8_d25 rfl rfl ?_
      refine own_gfR K m8_d26 own_w29 (own_cl0) (i := 2) rfl h rfl (fun x3 h => ?_)
      refine own_iloadN K m8_d29 rfl rfl ?_
      refine own_iloadN K m8_d30 rfl rfl ?_
      refine own_iastore K m8_d31 h rfl (fun M4 h => ?_)
      refine own_aloadN K m8_d32 rfl rfl ?_
      refine own_gfR K m8_d33 own_w31 (own_cl0) (i := 3) rfl h rfl (fun x5 h => ?_)
      refine own_iloadN K m8_d36 rfl rfl ?_
      refine own_iconst K m8_d37 own_icm1 rfl ?_
      refine own_iastore K m8_d38 h rfl (fun M6 h => ?_)
      refine own_iinc K m8_d39 own_ic1 rfl (Ls' := [.val (.ref (own_n C + a0)), .val (.ref (own_n C + a1)), .val (.int i2), .val (.int (i3 + (1 : Int32))), .unset, .unset, .unset, .unset, .unset, .unset]) rfl rfl ?_
      refine own_goto K m8_d42 (pc' := 9) (by decide) ?_
      exact ih.1 _ _ _ _ _ _ h
set_option maxRecDepth 65536 in
set_option maxHeartbeats 4000000 in
theorem m8_w45 {C : own_Ctx} (K : own_K C prog_20_method_4_code 10 "com/example/gatherline/gatherline/RunSplit" (some .boolean) "findLeavingOut" m8_rm) {n : Nat} {a0 : Nat} {a1 : Nat} {i2 : Int32} {i3 : Int32} (ih : m8_IH C n) {M : own_Mem} {r : Int32 × own_Mem} (h : m8_c45 (m8_L n) a0 a1 i2 i3 M = some r) : own_W C (some (.int r.1)) r.2 M 0 0 45 [.val (.ref (own_n C + a0)), .val (.ref (own_n C + a1)), .val (.int i2), .val (.int i3), .unset, .unset, .unset, .unset, .unset, .unset] [] := by
  unfold m8_c45 at h
  refine own_iconst K m8_d45 own_ic0 rfl ?_
  refine own_istore K m8_d46 (Ls' := [.val (.ref (own_n C + a0)), .val (.ref (own_n C + a1)), .val (.int i2), .val (.int i3), .val (.int (0 : Int32)), .unset, .unset, .unset, .unset, .unset]) rfl rfl ?_
  refine own_iconst K m8_d48 own_ic0 rfl ?_
  refine own_istore K m8_d49 (Ls' := [.val (.ref (own_n C + a0)), .val (.ref (own_n C + a1)), .val (.int i2), .val (.int i3), .val (.int (0 : Int32)), .val (.int (0 : Int32)), .unset, .unset, .unset, .unset]) rfl rfl ?_
  exact ih.2.2.1 _ _ _ _ _ _ _ _ _ _ own_one_u own_one_u own_one_u own_one_u _ _ h
set_option maxRecDepth 65536 in
set_option maxHeartbeats 4000000 in
theorem m8_w51 {C : own_Ctx} (K : own_K C prog_20_method_4_code 10 "com/example/gatherline/gatherline/RunSplit" (some .boolean) "findLeavingOut" m8_rm) {n : Nat} {a0 : Nat} {a1 : Nat} {i2 : Int32} {i3 : Int32} {i4 : Int32} {i5 : Int32} {z6 : Slot} {z7 : Slot} {z8 : Slot} {z9 : Slot} (ih : m8_IH C n) (o6 : own_One z6) (o7 : own_One z7) (o8 : own_One z8) (o9 : own_One z9) {M : own_Mem} {r : Int32 × own_Mem} (h : m8_c51 (m8_L n) a0 a1 i2 i3 i4 i5 M = some r) : own_W C (some (.int r.1)) r.2 M 0 0 51 [.val (.ref (own_n C + a0)), .val (.ref (own_n C + a1)), .val (.int i2), .val (.int i3), .val (.int i4), .val (.int i5), z6, z7, z8, z9] [] := by
  unfold m8_c51 at h
  refine own_iloadN K m8_d51 rfl rfl ?_
  refine own_aloadN K m8_d52 rfl rfl ?_
  refine own_gfI K m8_d53 own_w25 (own_cl0) (i := 0) rfl h rfl (fun x7 h => ?_)
  refine own_igt K m8_d56 h (pc1 := 235) (pc2 := 59) (by decide) rfl (fun h => ?_) (fun h => ?_)
  · refine own_aloadN K m8_d235 rfl rfl ?_
    refine own_gfR K m8_d236 own_w29 (own_cl0) (i := 2) rfl h rfl (fun x8 h => ?_)
    refine own_aloadN K m8_d239 rfl rfl ?_
    refine own_gfI K m8_d240 own_w25 (own_cl0) (i := 0) rfl h rfl (fun x9 h => ?_)
    refine own_iaload K m8_d243 h rfl (fun x10 h => ?_)
    refine own_iloadN K m8_d244 rfl rfl ?_
    refine own_igt K m8_d245 h (pc1 := 252) (pc2 := 248) (by decide) rfl (fun h => ?_) (fun h => ?_)
    · refine own_iconst K m8_d252 own_ic0 rfl ?_
      exact ih.2.2.2.2.2.2.2.2.2 _ _ _ _ _ _ _ _ _ _ _ own_one_r own_one_r own_one_i own_one_i own_one_i own_one_i o6 o7 o8 o9 _ _ h
    · refine own_iconst K m8_d248 own_ic1 rfl ?_
      refine own_goto K m8_d249 (pc' := 253) (by decide) ?_
      exact ih.2.2.2.2.2.2.2.2.2 _ _ _ _ _ _ _ _ _ _ _ own_one_r own_one_r own_one_i own_one_i own_one_i own_one_i o6 o7 o8 o9 _ _ h
  · refine own_iloadN K m8_d59 rfl rfl ?_
    refine own_aloadN K m8_d60 rfl rfl ?_
    refine own_gfI K m8_d61 own_w27 (own_cl0) (i := 1) rfl h rfl (fun x11 h => ?_)
    refine own_isub K m8_d64 rfl ?_
    refine own_letI h (fun x12 h => ?_)
    refine own_istore K m8_d65 (Ls' := [.val (.ref (own_n C + a0)), .val (.ref (own_n C + a1)), .val (.int i2), .val (.int i3), .val (.int i4), .val (.int i5), .val (.int x12), z7, z8, z9]) (own_sto1 rfl o6 rfl rfl) rfl ?_
    refine own_aloadN K m8_d67 rfl rfl ?_
    refine own_gfR K m8_d68 own_w29 (own_cl0) (i := 2) rfl h rfl (fun x13 h => ?_)
    refine own_iload K m8_d71 rfl rfl ?_
    refine own_iaload K m8_d73 h rfl (fun x14 h => ?_)
    refine own_istore K m8_d74 (Ls' := [.val (.ref (own_n C + a0)), .val (.ref (own_n C + a1)), .val (.int i2), .val (.int i3), .val (.int i4), .val (.int i5), .val (.int x12), .val (.int x14), z8, z9]) (own_sto1 rfl o7 rfl rfl) rfl ?_
    exact ih.2.2.2.1 _ _ _ _ _ _ _ _ _ _ o8 o9 _ _ h
set_option maxRecDepth 65536 in
set_option maxHeartbeats 4000000 in
theorem m8_w76 {C : own_Ctx} (K : own_K C prog_20_method_4_code 10 "com/example/gatherline/gatherline/RunSplit" (some .boolean) "findLeavingOut" m8_rm) {n : Nat} {a0 : Nat} {a1 : Nat} {i2 : Int32} {i3 : Int32} {i4 : Int32} {i5 : Int32} {i6 : Int32} {i7 : Int32} {z8 : Slot} {z9 : Slot} (ih : m8_IH C n) (o8 : own_One z8) (o9 : own_One z9) {M : own_Mem} {r : Int32 × own_Mem} (h : m8_c76 (m8_L n) a0 a1 i2 i3 i4 i5 i6 i7 M = some r) : own_W C (some (.int r.1)) r.2 M 0 0 76 [.val (.ref (own_n C + a0)), .val (.ref (own_n C + a1)), .val (.int i2), .val (.int i3), .val (.int i4), .val (.int i5), .val (.int i6), .val (.int i7), z8, z9] [] := by
  unfold m8_c76 at h
  refine own_iload K m8_d76 rfl rfl ?_
  refine own_iload K m8_d78 rfl rfl ?_
  refine own_ile K m8_d80 h (pc1 := 103) (pc2 := 83) (by decide) rfl (fun h => ?_) (fun h => ?_)
  · exact ih.2.2.2.2.1 _ _ _ _ _ _ _ _ _ _ o8 o9 _ _ h
  · refine own_aloadN K m8_d83 rfl rfl ?_
    refine own_gfR K m8_d84 own_w35 (own_cl0) (i := 5) rfl h rfl (fun x15 h => ?_)
    refine own_iload K m8_d87 rfl rfl ?_
    refine own_iconst K m8_d89 own_ic1 rfl ?_
    refine own_isub K m8_d90 rfl ?_
    refine own_iaload K m8_d91 h rfl (fun x16 h => ?_)
    refine own_iload K m8_d92 rfl rfl ?_
    refine own_ilt K m8_d94 h (pc1 := 103) (pc2 := 97) (by decide) rfl (fun h => ?_) (fun h => ?_)
    · exact ih.2.2.2.2.1 _ _ _ _ _ _ _ _ _ _ o8 o9 _ _ h
    · refine own_iinc K m8_d97 own_icm1 rfl (Ls' := [.val (.ref (own_n C + a0)), .val (.ref (own_n C + a1)), .val (.int i2), .val (.int i3), .val (.int i4), .val (.int (i5 + (-1 : Int32))), .val (.int i6), .val (.int i7), z8, z9]) rfl rfl ?_
      refine own_goto K m8_d100 (pc' := 76) (by decide) ?_
      exact ih.2.2.2.1 _ _ _ _ _ _ _ _ _ _ o8 o9 _ _ h
set_option maxRecDepth 65536 in
set_option maxHeartbeats 4000000 in
theorem m8_w103 {C : own_Ctx} (K : own_K C prog_20_method_4_code 10 "com/example/gatherline/gatherline/RunSplit" (some .boolean) "findLeavingOut" m8_rm) {n : Nat} {a0 : Nat} {a1 : Nat} {i2 : Int32} {i3 : Int32} {i4 : Int32} {i5 : Int32} {i6 : Int32} {i7 : Int32} {z8 : Slot} {z9 : Slot} (ih : m8_IH C n) (o8 : own_One z8) (o9 : own_One z9) {M : own_Mem} {r : Int32 × own_Mem} (h : m8_c103 (m8_L n) a0 a1 i2 i3 i4 i5 i6 i7 M = some r) : own_W C (some (.int r.1)) r.2 M 0 0 103 [.val (.ref (own_n C + a0)), .val (.ref (own_n C + a1)), .val (.int i2), .val (.int i3), .val (.int i4), .val (.int i5), .val (.int i6), .val (.int i7), z8, z9] [] := by
  unfold m8_c103 at h
  refine own_aloadN K m8_d103 rfl rfl ?_
  refine own_gfR K m8_d104 own_w33 (own_cl0) (i := 4) rfl h rfl (fun x17 h => ?_)
  refine own_iload K m8_d107 rfl rfl ?_
  refine own_iload K m8_d109 rfl rfl ?_
  refine own_iastore K m8_d111 h rfl (fun M18 h => ?_)
  refine own_aloadN K m8_d112 rfl rfl ?_
  refine own_gfR K m8_d113 own_w35 (own_cl0) (i := 5) rfl h rfl (fun x19 h => ?_)
  refine own_iload K m8_d116 rfl rfl ?_
  refine own_iload K m8_d118 rfl rfl ?_
  refine own_iastore K m8_d120 h rfl (fun M20 h => ?_)
  refine own_iinc K m8_d121 own_ic1 rfl (Ls' := [.val (.ref (own_n C + a0)), .val (.ref (own_n C + a1)), .val (.int i2), .val (.int i3), .val (.int i4), .val (.int (i5 + (1 : Int32))), .val (.int i6), .val (.int i7), z8, z9]) rfl rfl ?_
  refine own_aloadN K m8_d124 rfl rfl ?_
  refine own_iloadN K m8_d125 rfl rfl ?_
  refine own_iaload K m8_d126 h rfl (fun x21 h => ?_)
  refine own_istore K m8_d127 (Ls' := [.val (.ref (own_n C + a0)), .val (.ref (own_n C + a1)), .val (.int i2), .val (.int i3), .val (.int i4), .val (.int (i5 + (1 : Int32))), .val (.int i6), .val (.int i7), .val (.int x21), z9]) (own_sto1 rfl o8 rfl rfl) rfl ?_
  exact ih.2.2.2.2.2.1 _ _ _ _ _ _ _ _ _ _ own_one_i own_one_i o9 _ _ h
set_option maxRecDepth 65536 in
set_option maxHeartbeats 4000000 in
theorem m8_w129 {C : own_Ctx} (K : own_K C prog_20_method_4_code 10 "com/example/gatherline/gatherline/RunSplit" (some .boolean) "findLeavingOut" m8_rm) {n : Nat} {a0 : Nat} {a1 : Nat} {i2 : Int32} {i3 : Int32} {i4 : Int32} {i5 : Int32} {i8 : Int32} {z6 : Slot} {z7 : Slot} {z9 : Slot} (ih : m8_IH C n) (o6 : own_One z6) (o7 : own_One z7) (o9 : own_One z9) {M : own_Mem} {r : Int32 × own_Mem} (h : m8_c129 (m8_L n) a0 a1 i2 i3 i4 i5 i8 M = some r) : own_W C (some (.int r.1)) r.2 M 0 0 129 [.val (.ref (own_n C + a0)), .val (.ref (own_n C + a1)), .val (.int i2), .val (.int i3), .val (.int i4), .val (.int i5), z6, z7, .val (.int i8), z9] [] := by
  unfold m8_c129 at h
  refine own_iload K m8_d129 rfl rfl ?_
  refine own_iload K m8_d131 rfl rfl ?_
  refine own_ige K m8_d133 h (pc1 := 154) (pc2 := 136) (by decide) rfl (fun h => ?_) (fun h => ?_)
  · exact ih.2.2.2.2.2.2.1 _ _ _ _ _ _ _ _ _ _ o6 o7 own_one_i o9 _ _ h
  · refine own_aloadN K m8_d136 rfl rfl ?_
    refine own_gfR K m8_d137 own_w33 (own_cl0) (i := 4) rfl h rfl (fun x22 h => ?_)
    refine own_iload K m8_d140 rfl rfl ?_
    refine own_iaload K m8_d142 h rfl (fun x23 h => ?_)
    refine own_iload K m8_d143 rfl rfl ?_
    refine own_ige K m8_d145 h (pc1 := 154) (pc2 := 148) (by decide) rfl (fun h => ?_) (fun h => ?_)
    · exact ih.2.2.2.2.2.2.1 _ _ _ _ _ _ _ _ _ _ o6 o7 own_one_i o9 _ _ h
    · refine own_iinc K m8_d148 own_ic1 rfl (Ls' := [.val (.ref (own_n C + a0)), .val (.ref (own_n C + a1)), .val (.int i2), .val (.int i3), .val (.int (i4 + (1 : Int32))), .val (.int i5), z6, z7, .val (.int i8), z9]) rfl rfl ?_
      refine own_goto K m8_d151 (pc' := 129) (by decide) ?_
      exact ih.2.2.2.2.2.1 _ _ _ _ _ _ _ _ _ _ o6 o7 o9 _ _ h
set_option maxRecDepth 65536 in
set_option maxHeartbeats 4000000 in
theorem m8_w154 {C : own_Ctx} (K : own_K C prog_20_method_4_code 10 "com/example/gatherline/gatherline/RunSplit" (some .boolean) "findLeavingOut" m8_rm) {n : Nat} {a0 : Nat} {a1 : Nat} {i2 : Int32} {i3 : Int32} {i4 : Int32} {i5 : Int32} {z6 : Slot} {z7 : Slot} {z8 : Slot} {z9 : Slot} (ih : m8_IH C n) (o6 : own_One z6) (o7 : own_One z7) (o8 : own_One z8) (o9 : own_One z9) {M : own_Mem} {r : Int32 × own_Mem} (h : m8_c154 (m8_L n) a0 a1 i2 i3 i4 i5 M = some r) : own_W C (some (.int r.1)) r.2 M 0 0 154 [.val (.ref (own_n C + a0)), .val (.ref (own_n C + a1)), .val (.int i2), .val (.int i3), .val (.int i4), .val (.int i5), z6, z7, z8, z9] [] := by
  unfold m8_c154 at h
  refine own_aloadN K m8_d154 rfl rfl ?_
  refine own_gfR K m8_d155 own_w29 (own_cl0) (i := 2) rfl h rfl (fun x24 h => ?_)
  refine own_iloadN K m8_d158 rfl rfl ?_
  refine own_iconst K m8_d159 own_ic1 rfl ?_
  refine own_isub K m8_d160 rfl ?_
  refine own_iaload K m8_d161 h rfl (fun x25 h => ?_)
  refine own_iconst K m8_d162 own_ic1 rfl ?_
  refine own_iadd K m8_d163 rfl ?_
  refine own_letI h (fun x26 h => ?_)
  refine own_istore K m8_d164 (Ls' := [.val (.ref (own_n C + a0)), .val (.ref (own_n C + a1)), .val (.int i2), .val (.int i3), .val (.int i4), .val (.int i5), z6, z7, z8, .val (.int x26)]) (own_sto1 rfl o9 rfl rfl) rfl ?_
  refine own_iload K m8_d166 rfl rfl ?_
  refine own_iload K m8_d168 rfl rfl ?_
  refine own_ige K m8_d170 h (pc1 := 214) (pc2 := 173) (by decide) rfl (fun h => ?_) (fun h => ?_)
  · exact ih.2.2.2.2.2.2.2.1 _ _ _ _ _ _ _ _ _ _ o6 o7 o8 _ _ h
  · refine own_aloadN K m8_d173 rfl rfl ?_
    refine own_gfR K m8_d174 own_w35 (own_cl0) (i := 5) rfl h rfl (fun x27 h => ?_)
    refine own_iload K m8_d177 rfl rfl ?_
    refine own_iaload K m8_d179 h rfl (fun x28 h => ?_)
    refine own_iload K m8_d180 rfl rfl ?_
    refine own_igt K m8_d182 h (pc1 := 214) (pc2 := 185) (by decide) rfl (fun h => ?_) (fun h => ?_)
    · exact ih.2.2.2.2.2.2.2.1 _ _ _ _ _ _ _ _ _ _ o6 o7 o8 _ _ h
    · refine own_aloadN K m8_d185 rfl rfl ?_
      refine own_gfR K m8_d186 own_w29 (own_cl0) (i := 2) rfl h rfl (fun x29 h => ?_)
      refine own_iloadN K m8_d189 rfl rfl ?_
      refine own_aloadN K m8_d190 rfl rfl ?_
      refine own_gfR K m8_d191 own_w35 (own_cl0) (i := 5) rfl h rfl (fun x30 h => ?_)
      refine own_iload K m8_d194 rfl rfl ?_
      refine own_iaload K m8_d196 h rfl (fun x31 h => ?_)
      refine own_iastore K m8_d197 h rfl (fun M32 h => ?_)
      refine own_aloadN K m8_d198 rfl rfl ?_
      refine own_gfR K m8_d199 own_w31 (own_cl0) (i := 3) rfl h rfl (fun x33 h => ?_)
      refine own_iloadN K m8_d202 rfl rfl ?_
      refine own_aloadN K m8_d203 rfl rfl ?_
      refine own_gfR K m8_d204 own_w33 (own_cl0) (i := 4) rfl h rfl (fun x34 h => ?_)
      refine own_iload K m8_d207 rfl rfl ?_
      refine own_iaload K m8_d209 h rfl (fun x35 h => ?_)
      refine own_iastore K m8_d210 h rfl (fun M36 h => ?_)
      refine own_goto K m8_d211 (pc' := 229) (by decide) ?_
      exact ih.2.2.2.2.2.2.2.2.1 _ _ _ _ _ _ _ _ _ _ o6 o7 o8 own_one_i _ _ h
set_option maxRecDepth 65536 in
set_option maxHeartbeats 4000000 in
theorem m8_w214 {C : own_Ctx} (K : own_K C prog_20_method_4_code 10 "com/example/gatherline/gatherline/RunSplit" (some .boolean) "findLeavingOut" m8_rm) {n : Nat} {a0 : Nat} {a1 : Nat} {i2 : Int32} {i3 : Int32} {i4 : Int32} {i5 : Int32} {i9 : Int32} {z6 : Slot} {z7 : Slot} {z8 : Slot} (ih : m8_IH C n) (o6 : own_One z6) (o7 : own_One z7) (o8 : own_One z8) {M : own_Mem} {r : Int32 × own_Mem} (h : m8_c214 (m8_L n) a0 a1 i2 i3 i4 i5 i9 M = some r) : own_W C (some (.int r.1)) r.2 M 0 0 214 [.val (.ref (own_n C + a0)), .val (.ref (own_n C + a1)), .val (.int i2), .val (.int i3), .val (.int i4), .val (.int i5), z6, z7, z8, .val (.int i9)] [] := by
  unfold m8_c214 at h
  refine own_aloadN K m8_d214 rfl rfl ?_
  refine own_gfR K m8_d215 own_w29 (own_cl0) (i := 2) rfl h rfl (fun x37 h => ?_)
  refine own_iloadN K m8_d218 rfl rfl ?_
  refine own_iload K m8_d219 rfl rfl ?_
  refine own_iastore K m8_d221 h rfl (fun M38 h => ?_)
  refine own_aloadN K m8_d222 rfl rfl ?_
  refine own_gfR K m8_d223 own_w31 (own_cl0) (i := 3) rfl h rfl (fun x39 h => ?_)
  refine own_iloadN K m8_d226 rfl rfl ?_
  refine own_iconst K m8_d227 own_icm1 rfl ?_
  refine own_iastore K m8_d228 h rfl (fun M40 h => ?_)
  exact ih.2.2.2.2.2.2.2.2.1 _ _ _ _ _ _ _ _ _ _ o6 o7 o8 own_one_i _ _ h
set_option maxRecDepth 65536 in
set_option maxHeartbeats 4000000 in
theorem m8_w229 {C : own_Ctx} (K : own_K C prog_20_method_4_code 10 "com/example/gatherline/gatherline/RunSplit" (some .boolean) "findLeavingOut" m8_rm) {n : Nat} {a0 : Nat} {a1 : Nat} {i2 : Int32} {i3 : Int32} {i4 : Int32} {i5 : Int32} {z6 : Slot} {z7 : Slot} {z8 : Slot} {z9 : Slot} (ih : m8_IH C n) (o6 : own_One z6) (o7 : own_One z7) (o8 : own_One z8) (o9 : own_One z9) {M : own_Mem} {r : Int32 × own_Mem} (h : m8_c229 (m8_L n) a0 a1 i2 i3 i4 i5 M = some r) : own_W C (some (.int r.1)) r.2 M 0 0 229 [.val (.ref (own_n C + a0)), .val (.ref (own_n C + a1)), .val (.int i2), .val (.int i3), .val (.int i4), .val (.int i5), z6, z7, z8, z9] [] := by
  unfold m8_c229 at h
  refine own_iinc K m8_d229 own_ic1 rfl (Ls' := [.val (.ref (own_n C + a0)), .val (.ref (own_n C + a1)), .val (.int i2), .val (.int (i3 + (1 : Int32))), .val (.int i4), .val (.int i5), z6, z7, z8, z9]) rfl rfl ?_
  refine own_goto K m8_d232 (pc' := 51) (by decide) ?_
  exact ih.2.2.1 _ _ _ _ _ _ _ _ _ _ o6 o7 o8 o9 _ _ h
set_option maxRecDepth 65536 in
set_option maxHeartbeats 4000000 in
theorem m8_w253 {C : own_Ctx} (K : own_K C prog_20_method_4_code 10 "com/example/gatherline/gatherline/RunSplit" (some .boolean) "findLeavingOut" m8_rm) {n : Nat} {t0 : Int32} {z0 : Slot} {z1 : Slot} {z2 : Slot} {z3 : Slot} {z4 : Slot} {z5 : Slot} {z6 : Slot} {z7 : Slot} {z8 : Slot} {z9 : Slot} (ih : m8_IH C n) (o0 : own_One z0) (o1 : own_One z1) (o2 : own_One z2) (o3 : own_One z3) (o4 : own_One z4) (o5 : own_One z5) (o6 : own_One z6) (o7 : own_One z7) (o8 : own_One z8) (o9 : own_One z9) {M : own_Mem} {r : Int32 × own_Mem} (h : m8_c253 (m8_L n) t0 M = some r) : own_W C (some (.int r.1)) r.2 M 0 0 253 [z0, z1, z2, z3, z4, z5, z6, z7, z8, z9] [.int t0] := by
  unfold m8_c253 at h
  exact own_retN K m8_d253 (by simp) h
set_option maxRecDepth 65536 in
set_option maxHeartbeats 4000000 in
theorem m8_all {C : own_Ctx} (K : own_K C prog_20_method_4_code 10 "com/example/gatherline/gatherline/RunSplit" (some .boolean) "findLeavingOut" m8_rm) : ∀ n, m8_IH C n
  | 0 => ⟨fun _ _ _ _ _ _ => fun h => (nomatch h), fun _ _ _ _ _ _ => fun h => (nomatch h), fun _ _ _ _ _ _ _ _ _ _ _ _ _ _ _ _ => fun h => (nomatch h), fun _ _ _ _ _ _ _ _ _ _ _ _ _ _ => fun h => (nomatch h), fun _ _ _ _ _ _ _ _ _ _ _ _ _ _ => fun h => (nomatch h), fun _ _ _ _ _ _ _ _ _ _ _ _ _ _ _ => fun h => (nomatch h), fun _ _ _ _ _ _ _ _ _ _ _ _ _ _ _ _ => fun h => (nomatch h), fun _ _ _ _ _ _ _ _ _ _ _ _ _ _ _ => fun h => (nomatch h), fun _ _ _ _ _ _ _ _ _ _ _ _ _ _ _ _ => fun h => (nomatch h), fun _ _ _ _ _ _ _ _ _ _ _ _ _ _ _ _ _ _ _ _ _ _ _ => fun h => (nomatch h)⟩
  | n + 1 => have ih := m8_all K n; ⟨fun _ _ _ _ _ _ => fun h => m8_w9 K ih  h, fun _ _ _ _ _ _ => fun h => m8_w45 K ih  h, fun _ _ _ _ _ _ _ _ _ _ o6 o7 o8 o9 _ _ => fun h => m8_w51 K ih o6 o7 o8 o9 h, fun _ _ _ _ _ _ _ _ _ _ o8 o9 _ _ => fun h => m8_w76 K ih o8 o9 h, fun _ _ _ _ _ _ _ _ _ _ o8 o9 _ _ => fun h => m8_w103 K ih o8 o9 h, fun _ _ _ _ _ _ _ _ _ _ o6 o7 o9 _ _ => fun h => m8_w129 K ih o6 o7 o9 h, fun _ _ _ _ _ _ _ _ _ _ o6 o7 o8 o9 _ _ => fun h => m8_w154 K ih o6 o7 o8 o9 h, fun _ _ _ _ _ _ _ _ _ _ o6 o7 o8 _ _ => fun h => m8_w214 K ih o6 o7 o8 h, fun _ _ _ _ _ _ _ _ _ _ o6 o7 o8 o9 _ _ => fun h => m8_w229 K ih o6 o7 o8 o9 h, fun _ _ _ _ _ _ _ _ _ _ _ o0 o1 o2 o3 o4 o5 o6 o7 o8 o9 _ _ => fun h => m8_w253 K ih o0 o1 o2 o3 o4 o5 o6 o7 o8 o9 h⟩
set_option maxRecDepth 65536 in
def m8 (a0 : Nat) (a1 : Nat) (i2 : Int32) (M : own_Mem) : Option (Int32 × own_Mem) := (own_getR 0 2 M a0).bind fun x41 => (own_sto 100 M x41 (0 : Int32) (.int (0 : Int32))).bind fun M42 => m8_L 80 9 a0 a1 i2 (1 : Int32) 0 0 0 0 0 0 0 M42
set_option maxRecDepth 65536 in
set_option maxHeartbeats 4000000 in
theorem m8_w {C : own_Ctx} (K : own_K C prog_20_method_4_code 10 "com/example/gatherline/gatherline/RunSplit" (some .boolean) "findLeavingOut" m8_rm) {a0 : Nat} {a1 : Nat} {i2 : Int32} {M : own_Mem} {r : Int32 × own_Mem} (h : m8 a0 a1 i2 M = some r) : own_W C (some (.int r.1)) r.2 M 0 0 0 [.val (.ref (own_n C + a0)), .val (.ref (own_n C + a1)), .val (.int i2), .unset, .unset, .unset, .unset, .unset, .unset, .unset] [] := by
  have ih := m8_all K 80
  unfold m8 at h
  refine own_aloadN K m8_d0 rfl rfl ?_
  refine own_gfR K m8_d1 own_w29 (own_cl0) (i := 2) rfl h rfl (fun x41 h => ?_)
  refine own_iconst K m8_d4 own_ic0 rfl ?_
  refine own_iconst K m8_d5 own_ic0 rfl ?_
  refine own_iastore K m8_d6 h rfl (fun M42 h => ?_)
  refine own_iconst K m8_d7 own_ic1 rfl ?_
  refine own_istoreN K m8_d8 (Ls' := [.val (.ref (own_n C + a0)), .val (.ref (own_n C + a1)), .val (.int i2), .val (.int (1 : Int32)), .unset, .unset, .unset, .unset, .unset, .unset]) rfl rfl ?_
  exact ih.1 _ _ _ _ _ _ h
set_option maxRecDepth 65536 in
set_option maxHeartbeats 4000000 in
theorem m8_met {a0 : Nat} {a1 : Nat} {i2 : Int32} {M : own_Mem} {q : Int32 × own_Mem} (h : m8 a0 a1 i2 M = some q) : own_Met ⟨"com/example/gatherline/gatherline/RunSplit", "findLeavingOut", "([II)Z"⟩ prog_20_method_4_code 10 (some .boolean) m8_rm [.ref a0, .ref a1, .int i2] M (some (.int q.1)) q.2 :=
  own_met (Ls := fun n0 => [.val (.ref (n0 + a0)), .val (.ref (n0 + a1)), .val (.int i2), .unset, .unset, .unset, .unset, .unset, .unset, .unset]) (plainFor_of_name own_pn1) (fun m n0 => by first | (simp [entryFrame, mkF, argsToLocals, Value.category, own_up]; done) | rfl) fun C K => m8_w K h
theorem m7_d0 : decode prog_20_method_2_code 0 = .ok (.aload_n 0, 1) := by decide +kernel
theorem m7_d1 : decode prog_20_method_2_code 1 = .ok (.getfield 22, 3) := by decide +kernel
theorem m7_d4 : decode prog_20_method_2_code 4 = .ok (.iconst 0, 1) := by decide +kernel
theorem m7_d5 : decode prog_20_method_2_code 5 = .ok (.iconst 0, 1) := by decide +kernel
theorem m7_d6 : decode prog_20_method_2_code 6 = .ok (.iastore, 1) := by decide +kernel
theorem m7_d7 : decode prog_20_method_2_code 7 = .ok (.iload_n 2, 1) := by decide +kernel
theorem m7_d8 : decode prog_20_method_2_code 8 = .ok (.ifCond .ne 11, 3) := by decide +kernel
theorem m7_d11 : decode prog_20_method_2_code 11 = .ok (.aload_n 0, 1) := by decide +kernel
theorem m7_d12 : decode prog_20_method_2_code 12 = .ok (.aload_n 1, 1) := by decide +kernel
theorem m7_d13 : decode prog_20_method_2_code 13 = .ok (.invokevirtual 31, 3) := by decide +kernel
theorem m7_d16 : decode prog_20_method_2_code 16 = .ok (.goto 9, 3) := by decide +kernel
theorem m7_d19 : decode prog_20_method_2_code 19 = .ok (.aload_n 0, 1) := by decide +kernel
theorem m7_d20 : decode prog_20_method_2_code 20 = .ok (.aload_n 1, 1) := by decide +kernel
theorem m7_d21 : decode prog_20_method_2_code 21 = .ok (.iload_n 2, 1) := by decide +kernel
theorem m7_d22 : decode prog_20_method_2_code 22 = .ok (.invokevirtual 35, 3) := by decide +kernel
theorem m7_d25 : decode prog_20_method_2_code 25 = .ok (.ireturn, 1) := by decide +kernel
def m7_rm : Room := { frames := 3, cells := 0, slots := 0, locals := 45 }
set_option maxRecDepth 65536 in
def m7_b25 (t0 : Int32) (M : own_Mem) : Option (Int32 × own_Mem) := some (nar .boolean t0, M)
set_option maxRecDepth 65536 in
set_option maxHeartbeats 4000000 in
theorem m7_w25 {C : own_Ctx} (K : own_K C prog_20_method_2_code 3 "com/example/gatherline/gatherline/RunSplit" (some .boolean) "find" m7_rm) {t0 : Int32} {z0 : Slot} {z1 : Slot} {z2 : Slot} (o0 : own_One z0) (o1 : own_One z1) (o2 : own_One z2) {M : own_Mem} {r : Int32 × own_Mem} (h : m7_b25 t0 M = some r) : own_W C (some (.int r.1)) r.2 M 0 0 25 [z0, z1, z2] [.int t0] := by
  unfold m7_b25 at h
  exact own_retN K m7_d25 (by simp) h
set_option maxRecDepth 65536 in
def m7 (a0 : Nat) (a1 : Nat) (i2 : Int32) (M : own_Mem) : Option (Int32 × own_Mem) := (own_getR 0 3 M a0).bind fun x1 => (own_sto 100 M x1 (0 : Int32) (.int (0 : Int32))).bind fun M2 => if i2 = 0 then ((own_at M2 0 a0).bind fun u6 => (m18 a0 a1 M2).bind fun q5 => m7_b25 q5.1 q5.2) else ((own_at M2 0 a0).bind fun u4 => (m8 a0 a1 i2 M2).bind fun q3 => m7_b25 q3.1 q3.2)
set_option maxRecDepth 65536 in
set_option maxHeartbeats 4000000 in
theorem m7_w {C : own_Ctx} (K : own_K C prog_20_method_2_code 3 "com/example/gatherline/gatherline/RunSplit" (some .boolean) "find" m7_rm) {a0 : Nat} {a1 : Nat} {i2 : Int32} {M : own_Mem} {r : Int32 × own_Mem} (h : m7 a0 a1 i2 M = some r) : own_W C (some (.int r.1)) r.2 M 0 0 0 [.val (.ref (own_n C + a0)), .val (.ref (own_n C + a1)), .val (.int i2)] [] := by
  unfold m7 at h
  refine own_aloadN K m7_d0 rfl rfl ?_
  refine own_gfR K m7_d1 own_w31 (own_cl0) (i := 3) rfl h rfl (fun x1 h => ?_)
  refine own_iconst K m7_d4 own_ic0 rfl ?_
  refine own_iconst K m7_d5 own_ic0 rfl ?_
  refine own_iastore K m7_d6 h rfl (fun M2 h => ?_)
  refine own_iloadN K m7_d7 rfl rfl ?_
  refine own_zne K m7_d8 h (pc1 := 19) (pc2 := 11) (by decide) rfl (fun h => ?_) (fun h => ?_)
  · refine own_aloadN K m7_d19 rfl rfl ?_
    refine own_aloadN K m7_d20 rfl rfl ?_
    refine own_iloadN K m7_d21 rfl rfl ?_
    refine own_bk h (fun u4 hu4 h => ?_)
    refine own_bk h (fun q3 hq3 h => ?_)
    refine own_callP K m7_d22 own_w42 own_w44 own_w17 own_w43 own_w18 own_w45 (own_cl0) hu4 (a := a0) (argsL := [.ref a1, .int i2]) (st := []) (by decide) (lenOf own_pd4 rfl) rfl (W := 0) (Nat.le_of_eq rfl) (by decide) (by decide) (cs1 := 0) (ss1 := 0) rfl rfl (by decide) (by decide) rfl rfl (m8_met hq3) (st1 := [.int q3.1]) rfl ?_
    exact m7_w25 K own_one_r own_one_r own_one_i h
  · refine own_aloadN K m7_d11 rfl rfl ?_
    refine own_aloadN K m7_d12 rfl rfl ?_
    refine own_bk h (fun u6 hu6 h => ?_)
    refine own_bk h (fun q5 hq5 h => ?_)
    refine own_callP K m7_d13 own_w78 own_w80 own_w17 own_w79 own_w18 own_w81 (own_cl0) hu6 (a := a0) (argsL := [.ref a1]) (st := []) (by decide) (lenOf own_pd5 rfl) rfl (W := 0) (Nat.le_of_eq rfl) (by decide) (by decide) (cs1 := 0) (ss1 := 0) rfl rfl (by decide) (by decide) rfl rfl (m18_met hq5) (st1 := [.int q5.1]) rfl ?_
    refine own_goto K m7_d16 (pc' := 25) (by decide) ?_
    exact m7_w25 K own_one_r own_one_r own_one_i h
set_option maxRecDepth 65536 in
set_option maxHeartbeats 4000000 in
theorem m7_met {a0 : Nat} {a1 : Nat} {i2 : Int32} {M : own_Mem} {q : Int32 × own_Mem} (h : m7 a0 a1 i2 M = some q) : own_Met ⟨"com/example/gatherline/gatherline/RunSplit", "find", "([II)Z"⟩ prog_20_method_2_code 3 (some .boolean) m7_rm [.ref a0, .ref a1, .int i2] M (some (.int q.1)) q.2 :=
  own_met (Ls := fun n0 => [.val (.ref (n0 + a0)), .val (.ref (n0 + a1)), .val (.int i2)]) (plainFor_of_name own_pn1) (fun m n0 => by first | (simp [entryFrame, mkF, argsToLocals, Value.category, own_up]; done) | rfl) fun C K => m7_w K h
theorem m14_d0 : decode prog_20_method_8_code 0 = .ok (.aload_n 0, 1) := by decide +kernel
theorem m14_d1 : decode prog_20_method_8_code 1 = .ok (.getfield 22, 3) := by decide +kernel
theorem m14_d4 : decode prog_20_method_8_code 4 = .ok (.iload_n 1, 1) := by decide +kernel
theorem m14_d5 : decode prog_20_method_8_code 5 = .ok (.iaload, 1) := by decide +kernel
theorem m14_d6 : decode prog_20_method_8_code 6 = .ok (.iconst (-1), 1) := by decide +kernel
theorem m14_d7 : decode prog_20_method_8_code 7 = .ok (.if_icmp .ne 9, 3) := by decide +kernel
theorem m14_d10 : decode prog_20_method_8_code 10 = .ok (.iload_n 1, 1) := by decide +kernel
theorem m14_d11 : decode prog_20_method_8_code 11 = .ok (.iconst 1, 1) := by decide +kernel
theorem m14_d12 : decode prog_20_method_8_code 12 = .ok (.isub, 1) := by decide +kernel
theorem m14_d13 : decode prog_20_method_8_code 13 = .ok (.goto 9, 3) := by decide +kernel
theorem m14_d16 : decode prog_20_method_8_code 16 = .ok (.aload_n 0, 1) := by decide +kernel
theorem m14_d17 : decode prog_20_method_8_code 17 = .ok (.getfield 22, 3) := by decide +kernel
theorem m14_d20 : decode prog_20_method_8_code 20 = .ok (.iload_n 1, 1) := by decide +kernel
theorem m14_d21 : decode prog_20_method_8_code 21 = .ok (.iaload, 1) := by decide +kernel
theorem m14_d22 : decode prog_20_method_8_code 22 = .ok (.ireturn, 1) := by decide +kernel
def m14_rm : Room := { frames := 0, cells := 0, slots := 0, locals := 0 }
set_option maxRecDepth 65536 in
def m14_b22 (t0 : Int32) (M : own_Mem) : Option (Int32 × own_Mem) := some (t0, M)
set_option maxRecDepth 65536 in
set_option maxHeartbeats 4000000 in
theorem m14_w22 {C : own_Ctx} (K : own_K C prog_20_method_8_code 2 "com/example/gatherline/gatherline/RunSplit" (some .int) "previousEnd" m14_rm) {t0 : Int32} {z0 : Slot} {z1 : Slot} (o0 : own_One z0) (o1 : own_One z1) {M : own_Mem} {r : Int32 × own_Mem} (h : m14_b22 t0 M = some r) : own_W C (some (.int r.1)) r.2 M 0 0 22 [z0, z1] [.int t0] := by
  unfold m14_b22 at h
  exact own_retI K m14_d22 h
set_option maxRecDepth 65536 in
def m14 (a0 : Nat) (i1 : Int32) (M : own_Mem) : Option (Int32 × own_Mem) := (own_getR 0 3 M a0).bind fun x1 => (own_ldI 100 M x1 i1).bind fun x2 => if x2 = (-1 : Int32) then (m14_b22 (i1 - (1 : Int32)) M) else ((own_getR 0 3 M a0).bind fun x3 => (own_ldI 100 M x3 i1).bind fun x4 => m14_b22 x4 M)
set_option maxRecDepth 65536 in
set_option maxHeartbeats 4000000 in
theorem m14_w {C : own_Ctx} (K : own_K C prog_20_method_8_code 2 "com/example/gatherline/gatherline/RunSplit" (some .int) "previousEnd" m14_rm) {a0 : Nat} {i1 : Int32} {M : own_Mem} {r : Int32 × own_Mem} (h : m14 a0 i1 M = some r) : own_W C (some (.int r.1)) r.2 M 0 0 0 [.val (.ref (own_n C + a0)), .val (.int i1)] [] := by
  unfold m14 at h
  refine own_aloadN K m14_d0 rfl rfl ?_
  refine own_gfR K m14_d1 own_w31 (own_cl0) (i := 3) rfl h rfl (fun x1 h => ?_)
  refine own_iloadN K m14_d4 rfl rfl ?_
  refine own_iaload K m14_d5 h rfl (fun x2 h => ?_)
  refine own_iconst K m14_d6 own_icm1 rfl ?_
  refine own_ine K m14_d7 h (pc1 := 16) (pc2 := 10) (by decide) rfl (fun h => ?_) (fun h => ?_)
  · refine own_aloadN K m14_d16 rfl rfl ?_
    refine own_gfR K m14_d17 own_w31 (own_cl0) (i := 3) rfl h rfl (fun x3 h => ?_)
    refine own_iloadN K m14_d20 rfl rfl ?_
    refine own_iaload K m14_d21 h rfl (fun x4 h => ?_)
    exact m14_w22 K own_one_r own_one_i h
  · refine own_iloadN K m14_d10 rfl rfl ?_
    refine own_iconst K m14_d11 own_ic1 rfl ?_
    refine own_isub K m14_d12 rfl ?_
    refine own_goto K m14_d13 (pc' := 22) (by decide) ?_
    exact m14_w22 K own_one_r own_one_i h
set_option maxRecDepth 65536 in
set_option maxHeartbeats 4000000 in
theorem m14_met {a0 : Nat} {i1 : Int32} {M : own_Mem} {q : Int32 × own_Mem} (h : m14 a0 i1 M = some q) : own_Met ⟨"com/example/gatherline/gatherline/RunSplit", "previousEnd", "(I)I"⟩ prog_20_method_8_code 2 (some .int) m14_rm [.ref a0, .int i1] M (some (.int q.1)) q.2 :=
  own_met (Ls := fun n0 => [.val (.ref (n0 + a0)), .val (.int i1)]) (plainFor_of_name own_pn1) (fun m n0 => by first | (simp [entryFrame, mkF, argsToLocals, Value.category, own_up]; done) | rfl) fun C K => m14_w K h
theorem m10_d0 : decode prog_20_method_7_code 0 = .ok (.iconst 0, 1) := by decide +kernel
theorem m10_d1 : decode prog_20_method_7_code 1 = .ok (.istore_n 1, 1) := by decide +kernel
theorem m10_d2 : decode prog_20_method_7_code 2 = .ok (.aload_n 0, 1) := by decide +kernel
theorem m10_d3 : decode prog_20_method_7_code 3 = .ok (.getfield 9, 3) := by decide +kernel
theorem m10_d6 : decode prog_20_method_7_code 6 = .ok (.istore_n 2, 1) := by decide +kernel
theorem m10_d7 : decode prog_20_method_7_code 7 = .ok (.iload_n 2, 1) := by decide +kernel
theorem m10_d8 : decode prog_20_method_7_code 8 = .ok (.ifCond .le 30, 3) := by decide +kernel
theorem m10_d11 : decode prog_20_method_7_code 11 = .ok (.iload_n 1, 1) := by decide +kernel
theorem m10_d12 : decode prog_20_method_7_code 12 = .ok (.aload_n 0, 1) := by decide +kernel
theorem m10_d13 : decode prog_20_method_7_code 13 = .ok (.getfield 22, 3) := by decide +kernel
theorem m10_d16 : decode prog_20_method_7_code 16 = .ok (.iload_n 2, 1) := by decide +kernel
theorem m10_d17 : decode prog_20_method_7_code 17 = .ok (.iaload, 1) := by decide +kernel
theorem m10_d18 : decode prog_20_method_7_code 18 = .ok (.iconst (-1), 1) := by decide +kernel
theorem m10_d19 : decode prog_20_method_7_code 19 = .ok (.if_icmp .ne 7, 3) := by decide +kernel
theorem m10_d22 : decode prog_20_method_7_code 22 = .ok (.iconst 0, 1) := by decide +kernel
theorem m10_d23 : decode prog_20_method_7_code 23 = .ok (.goto 4, 3) := by decide +kernel
theorem m10_d26 : decode prog_20_method_7_code 26 = .ok (.iconst 1, 1) := by decide +kernel
theorem m10_d27 : decode prog_20_method_7_code 27 = .ok (.iadd, 1) := by decide +kernel
theorem m10_d28 : decode prog_20_method_7_code 28 = .ok (.istore_n 1, 1) := by decide +kernel
theorem m10_d29 : decode prog_20_method_7_code 29 = .ok (.aload_n 0, 1) := by decide +kernel
theorem m10_d30 : decode prog_20_method_7_code 30 = .ok (.iload_n 2, 1) := by decide +kernel
theorem m10_d31 : decode prog_20_method_7_code 31 = .ok (.invokevirtual 49, 3) := by decide +kernel
theorem m10_d34 : decode prog_20_method_7_code 34 = .ok (.istore_n 2, 1) := by decide +kernel
theorem m10_d35 : decode prog_20_method_7_code 35 = .ok (.goto (-28), 3) := by decide +kernel
theorem m10_d38 : decode prog_20_method_7_code 38 = .ok (.iload_n 1, 1) := by decide +kernel
theorem m10_d39 : decode prog_20_method_7_code 39 = .ok (.ireturn, 1) := by decide +kernel
def m10_rm : Room := { frames := 1, cells := 0, slots := 0, locals := 13 }
set_option maxRecDepth 65536 in
def m10_c7 (rec : Nat → Nat → Int32 → Int32 → Int32 → Int32 → own_Mem → Option (Int32 × own_Mem)) (a0 : Nat) (i1 : Int32) (i2 : Int32) (M : own_Mem) : Option (Int32 × own_Mem) := if 0 < i2 then ((own_getR 0 3 M a0).bind fun x1 => (own_ldI 100 M x1 i2).bind fun x2 => if x2 = (-1 : Int32) then (rec 27 a0 0 i2 i1 (0 : Int32) M) else (rec 27 a0 0 i2 i1 (1 : Int32) M)) else (some (i1, M))
set_option maxRecDepth 65536 in
def m10_c27 (rec : Nat → Nat → Int32 → Int32 → Int32 → Int32 → own_Mem → Option (Int32 × own_Mem)) (a0 : Nat) (i2 : Int32) (t0 : Int32) (t1 : Int32) (M : own_Mem) : Option (Int32 × own_Mem) := own_let (t0 + t1) fun x3 => (own_at M 0 a0).bind fun u5 => (m14 a0 i2 M).bind fun q4 => rec 7 a0 x3 q4.1 0 0 q4.2
def m10_L : Nat → Nat → Nat → Int32 → Int32 → Int32 → Int32 → own_Mem → Option (Int32 × own_Mem)
  | 0 => fun _ _ _ _ _ _ _ => none
  | n + 1 => fun pc a0 i1 i2 t0 t1 M => if pc = 7 then m10_c7 (m10_L n) a0 i1 i2 M else if pc = 27 then m10_c27 (m10_L n) a0 i2 t0 t1 M else none
def m10_P7 (C : own_Ctx) (n : Nat) : Prop := ∀ (a0 : Nat) (i1 : Int32) (i2 : Int32) (M : own_Mem) (r : Int32 × own_Mem), m10_L n 7 a0 i1 i2 0 0 M = some r → own_W C (some (.int r.1)) r.2 M 0 0 7 [.val (.ref (own_n C + a0)), .val (.int i1), .val (.int i2)] []
def m10_P27 (C : own_Ctx) (n : Nat) : Prop := ∀ (a0 : Nat) (i2 : Int32) (t0 : Int32) (t1 : Int32) (z1 : Slot) (o1 : own_One z1) (M : own_Mem) (r : Int32 × own_Mem), m10_L n 27 a0 0 i2 t0 t1 M = some r → own_W C (some (.int r.1)) r.2 M 0 0 27 [.val (.ref (own_n C + a0)), z1, .val (.int i2)] [.int t1, .int t0]
def m10_IH (C : own_Ctx) (n : Nat) : Prop := m10_P7 C n ∧ m10_P27 C n
set_option maxRecDepth 65536 in
set_option maxHeartbeats 4000000 in
theorem m10_w7 {C : own_Ctx} (K : own_K C prog_20_method_7_code 3 "com/example/gatherline/gatherline/RunSplit" (some .int) "runCount" m10_rm) {n : Nat} {a0 : Nat} {i1 : Int32} {i2 : Int32} (ih : m10_IH C n) {M : own_Mem} {r : Int32 × own_Mem} (h : m10_c7 (m10_L n) a0 i1 i2 M = some r) : own_W C (some (.int r.1)) r.2 M 0 0 7 [.val (.ref (own_n C + a0)), .val (.int i1), .val (.int i2)] [] := by
  unfold m10_c7 at h
  refine own_iloadN K m10_d7 rfl rfl ?_
  refine own_zle K m10_d8 h (pc1 := 38) (pc2 := 11) (by decide) rfl (fun h => ?_) (fun h => ?_)
  · refine own_iloadN K m10_d38 rfl rfl ?_
    exact own_retI K m10_d39 h
  · refine own_iloadN K m10_d11 rfl rfl ?_
    refine own_aloadN K m10_d12 rfl rfl ?_
    refine own_gfR K m10_d13 own_w31 (own_cl0) (i := 3) rfl h rfl (fun x1 h => ?_)
    refine own_iloadN K m10_d16 rfl rfl ?_
    refine own_iaload K m10_d17 h rfl (fun x2 h => ?_)
    refine own_iconst K m10_d18 own_icm1 rfl ?_
    refine own_ine K m10_d19 h (pc1 := 26) (pc2 := 22) (by decide) rfl (fun h => ?_) (fun h => ?_)
    · refine own_iconst K m10_d26 own_ic1 rfl ?_
      exact ih.2 _ _ _ _ _ own_one_i _ _ h
    · refine own_iconst K m10_d22 own_ic0 rfl ?_
      refine own_goto K m10_d23 (pc' := 27) (by decide) ?_
      exact ih.2 _ _ _ _ _ own_one_i _ _ h
set_option maxRecDepth 65536 in
set_option maxHeartbeats 4000000 in
theorem m10_w27 {C : own_Ctx} (K : own_K C prog_20_method_7_code 3 "com/example/gatherline/gatherline/RunSplit" (some .int) "runCount" m10_rm) {n : Nat} {a0 : Nat} {i2 : Int32} {t0 : Int32} {t1 : Int32} {z1 : Slot} (ih : m10_IH C n) (o1 : own_One z1) {M : own_Mem} {r : Int32 × own_Mem} (h : m10_c27 (m10_L n) a0 i2 t0 t1 M = some r) : own_W C (some (.int r.1)) r.2 M 0 0 27 [.val (.ref (own_n C + a0)), z1, .val (.int i2)] [.int t1, .int t0] := by
  unfold m10_c27 at h
  refine own_iadd K m10_d27 rfl ?_
  refine own_letI h (fun x3 h => ?_)
  refine own_istoreN K m10_d28 (Ls' := [.val (.ref (own_n C + a0)), .val (.int x3), .val (.int i2)]) (own_sto1 rfl o1 rfl rfl) rfl ?_
  refine own_aloadN K m10_d29 rfl rfl ?_
  refine own_iloadN K m10_d30 rfl rfl ?_
  refine own_bk h (fun u5 hu5 h => ?_)
  refine own_bk h (fun q4 hq4 h => ?_)
  refine own_callP K m10_d31 own_w64 own_w66 own_w17 own_w65 own_w18 own_w67 (own_cl0) hu5 (a := a0) (argsL := [.int i2]) (st := []) (by decide) (lenOf own_pd6 rfl) rfl (W := 0) (Nat.le_of_eq rfl) (by decide) (by decide) (cs1 := 0) (ss1 := 0) rfl rfl (by decide) (by decide) rfl rfl (m14_met hq4) (st1 := [.int q4.1]) rfl ?_
  refine own_istoreN K m10_d34 (Ls' := [.val (.ref (own_n C + a0)), .val (.int x3), .val (.int q4.1)]) rfl rfl ?_
  refine own_goto K m10_d35 (pc' := 7) (by decide) ?_
  exact ih.1 _ _ _ _ _ h
set_option maxRecDepth 65536 in
set_option maxHeartbeats 4000000 in
theorem m10_all {C : own_Ctx} (K : own_K C prog_20_method_7_code 3 "com/example/gatherline/gatherline/RunSplit" (some .int) "runCount" m10_rm) : ∀ n, m10_IH C n
  | 0 => ⟨fun _ _ _ _ _ => fun h => (nomatch h), fun _ _ _ _ _ _ _ _ => fun h => (nomatch h)⟩
  | n + 1 => have ih := m10_all K n; ⟨fun _ _ _ _ _ => fun h => m10_w7 K ih  h, fun _ _ _ _ _ o1 _ _ => fun h => m10_w27 K ih o1 h⟩
set_option maxRecDepth 65536 in
def m10 (a0 : Nat) (M : own_Mem) : Option (Int32 × own_Mem) := (own_getI 0 0 M a0).bind fun x6 => m10_L 20 7 a0 (0 : Int32) x6 0 0 M
set_option maxRecDepth 65536 in
set_option maxHeartbeats 4000000 in
theorem m10_w {C : own_Ctx} (K : own_K C prog_20_method_7_code 3 "com/example/gatherline/gatherline/RunSplit" (some .int) "runCount" m10_rm) {a0 : Nat} {M : own_Mem} {r : Int32 × own_Mem} (h : m10 a0 M = some r) : own_W C (some (.int r.1)) r.2 M 0 0 0 [.val (.ref (own_n C + a0)), .unset, .unset] [] := by
  have ih := m10_all K 20
  unfold m10 at h
  refine own_iconst K m10_d0 own_ic0 rfl ?_
  refine own_istoreN K m10_d1 (Ls' := [.val (.ref (own_n C + a0)), .val (.int (0 : Int32)), .unset]) rfl rfl ?_
  refine own_aloadN K m10_d2 rfl rfl ?_
  refine own_gfI K m10_d3 own_w25 (own_cl0) (i := 0) rfl h rfl (fun x6 h => ?_)
  refine own_istoreN K m10_d6 (Ls' := [.val (.ref (own_n C + a0)), .val (.int (0 : Int32)), .val (.int x6)]) rfl rfl ?_
  exact ih.1 _ _ _ _ _ h
set_option maxRecDepth 65536 in
set_option maxHeartbeats 4000000 in
theorem m10_met {a0 : Nat} {M : own_Mem} {q : Int32 × own_Mem} (h : m10 a0 M = some q) : own_Met ⟨"com/example/gatherline/gatherline/RunSplit", "runCount", "()I"⟩ prog_20_method_7_code 3 (some .int) m10_rm [.ref a0] M (some (.int q.1)) q.2 :=
  own_met (Ls := fun n0 => [.val (.ref (n0 + a0)), .unset, .unset]) (plainFor_of_name own_pn1) (fun m n0 => by first | (simp [entryFrame, mkF, argsToLocals, Value.category, own_up]; done) | rfl) fun C K => m10_w K h
theorem m9_d0 : decode prog_20_method_6_code 0 = .ok (.aload_n 0, 1) := by decide +kernel
theorem m9_d1 : decode prog_20_method_6_code 1 = .ok (.getfield 9, 3) := by decide +kernel
theorem m9_d4 : decode prog_20_method_6_code 4 = .ok (.newarray .int, 2) := by decide +kernel
theorem m9_d6 : decode prog_20_method_6_code 6 = .ok (.astore_n 1, 1) := by decide +kernel
theorem m9_d7 : decode prog_20_method_6_code 7 = .ok (.aload_n 0, 1) := by decide +kernel
theorem m9_d8 : decode prog_20_method_6_code 8 = .ok (.invokevirtual 45, 3) := by decide +kernel
theorem m9_d11 : decode prog_20_method_6_code 11 = .ok (.istore_n 2, 1) := by decide +kernel
theorem m9_d12 : decode prog_20_method_6_code 12 = .ok (.aload_n 0, 1) := by decide +kernel
theorem m9_d13 : decode prog_20_method_6_code 13 = .ok (.getfield 9, 3) := by decide +kernel
theorem m9_d16 : decode prog_20_method_6_code 16 = .ok (.istore_n 3, 1) := by decide +kernel
theorem m9_d17 : decode prog_20_method_6_code 17 = .ok (.iload_n 3, 1) := by decide +kernel
theorem m9_d18 : decode prog_20_method_6_code 18 = .ok (.ifCond .le 46, 3) := by decide +kernel
theorem m9_d21 : decode prog_20_method_6_code 21 = .ok (.aload_n 0, 1) := by decide +kernel
theorem m9_d22 : decode prog_20_method_6_code 22 = .ok (.getfield 22, 3) := by decide +kernel
theorem m9_d25 : decode prog_20_method_6_code 25 = .ok (.iload_n 3, 1) := by decide +kernel
theorem m9_d26 : decode prog_20_method_6_code 26 = .ok (.iaload, 1) := by decide +kernel
theorem m9_d27 : decode prog_20_method_6_code 27 = .ok (.iconst (-1), 1) := by decide +kernel
theorem m9_d28 : decode prog_20_method_6_code 28 = .ok (.if_icmp .ne 12, 3) := by decide +kernel
theorem m9_d31 : decode prog_20_method_6_code 31 = .ok (.aload_n 1, 1) := by decide +kernel
theorem m9_d32 : decode prog_20_method_6_code 32 = .ok (.iload_n 3, 1) := by decide +kernel
theorem m9_d33 : decode prog_20_method_6_code 33 = .ok (.iconst 1, 1) := by decide +kernel
theorem m9_d34 : decode prog_20_method_6_code 34 = .ok (.isub, 1) := by decide +kernel
theorem m9_d35 : decode prog_20_method_6_code 35 = .ok (.iconst (-1), 1) := by decide +kernel
theorem m9_d36 : decode prog_20_method_6_code 36 = .ok (.iastore, 1) := by decide +kernel
theorem m9_d37 : decode prog_20_method_6_code 37 = .ok (.goto 18, 3) := by decide +kernel
theorem m9_d40 : decode prog_20_method_6_code 40 = .ok (.iinc 2 (-1), 3) := by decide +kernel
theorem m9_d43 : decode prog_20_method_6_code 43 = .ok (.aload_n 1, 1) := by decide +kernel
theorem m9_d44 : decode prog_20_method_6_code 44 = .ok (.aload_n 0, 1) := by decide +kernel
theorem m9_d45 : decode prog_20_method_6_code 45 = .ok (.getfield 22, 3) := by decide +kernel
theorem m9_d48 : decode prog_20_method_6_code 48 = .ok (.iload_n 3, 1) := by decide +kernel
theorem m9_d49 : decode prog_20_method_6_code 49 = .ok (.iaload, 1) := by decide +kernel
theorem m9_d50 : decode prog_20_method_6_code 50 = .ok (.iload_n 3, 1) := by decide +kernel
theorem m9_d51 : decode prog_20_method_6_code 51 = .ok (.iload_n 2, 1) := by decide +kernel
theorem m9_d52 : decode prog_20_method_6_code 52 = .ok (.invokestatic 39, 3) := by decide +kernel
theorem m9_d55 : decode prog_20_method_6_code 55 = .ok (.aload_n 0, 1) := by decide +kernel
theorem m9_d56 : decode prog_20_method_6_code 56 = .ok (.iload_n 3, 1) := by decide +kernel
theorem m9_d57 : decode prog_20_method_6_code 57 = .ok (.invokevirtual 49, 3) := by decide +kernel
theorem m9_d60 : decode prog_20_method_6_code 60 = .ok (.istore_n 3, 1) := by decide +kernel
theorem m9_d61 : decode prog_20_method_6_code 61 = .ok (.goto (-44), 3) := by decide +kernel
theorem m9_d64 : decode prog_20_method_6_code 64 = .ok (.aload_n 1, 1) := by decide +kernel
theorem m9_d65 : decode prog_20_method_6_code 65 = .ok (.areturn, 1) := by decide +kernel
def m9_rm : Room := { frames := 2, cells := 1, slots := 4, locals := 30 }
set_option maxRecDepth 65536 in
def m9_c17 (rec : Nat → Nat → Nat → Int32 → Int32 → own_Mem → Option (Nat × own_Mem)) (a0 : Nat) (a1 : Nat) (i2 : Int32) (i3 : Int32) (M : own_Mem) : Option (Nat × own_Mem) := if 0 < i3 then ((own_getR 0 3 M a0).bind fun x1 => (own_ldI 100 M x1 i3).bind fun x2 => if x2 = (-1 : Int32) then ((own_sto 100 M a1 (i3 - (1 : Int32)) (.int (-1 : Int32))).bind fun M6 => rec 55 a0 a1 i2 i3 M6) else ((own_getR 0 3 M a0).bind fun x3 => (own_ldI 100 M x3 i3).bind fun x4 => (m15 a1 x4 i3 (i2 + (-1 : Int32)) M).bind fun q5 => rec 55 a0 a1 (i2 + (-1 : Int32)) i3 q5.2)) else (some (a1, M))
set_option maxRecDepth 65536 in
def m9_c55 (rec : Nat → Nat → Nat → Int32 → Int32 → own_Mem → Option (Nat × own_Mem)) (a0 : Nat) (a1 : Nat) (i2 : Int32) (i3 : Int32) (M : own_Mem) : Option (Nat × own_Mem) := (own_at M 0 a0).bind fun u8 => (m14 a0 i3 M).bind fun q7 => rec 17 a0 a1 i2 q7.1 q7.2
def m9_L : Nat → Nat → Nat → Nat → Int32 → Int32 → own_Mem → Option (Nat × own_Mem)
  | 0 => fun _ _ _ _ _ _ => none
  | n + 1 => fun pc a0 a1 i2 i3 M => if pc = 17 then m9_c17 (m9_L n) a0 a1 i2 i3 M else if pc = 55 then m9_c55 (m9_L n) a0 a1 i2 i3 M else none
def m9_P17 (C : own_Ctx) (n : Nat) : Prop := ∀ (a0 : Nat) (a1 : Nat) (i2 : Int32) (i3 : Int32) (M : own_Mem) (r : Nat × own_Mem), m9_L n 17 a0 a1 i2 i3 M = some r → own_W C (some (.ref r.1)) r.2 M 1 4 17 [.val (.ref (own_n C + a0)), .val (.ref (own_n C + a1)), .val (.int i2), .val (.int i3)] []
def m9_P55 (C : own_Ctx) (n : Nat) : Prop := ∀ (a0 : Nat) (a1 : Nat) (i2 : Int32) (i3 : Int32) (M : own_Mem) (r : Nat × own_Mem), m9_L n 55 a0 a1 i2 i3 M = some r → own_W C (some (.ref r.1)) r.2 M 1 4 55 [.val (.ref (own_n C + a0)), .val (.ref (own_n C + a1)), .val (.int i2), .val (.int i3)] []
def m9_IH (C : own_Ctx) (n : Nat) : Prop := m9_P17 C n ∧ m9_P55 C n
set_option maxRecDepth 65536 in
set_option maxHeartbeats 4000000 in
theorem m9_w17 {C : own_Ctx} (K : own_K C prog_20_method_6_code 4 "com/example/gatherline/gatherline/RunSplit" (some (.array .int)) "runOf" m9_rm) {n : Nat} {a0 : Nat} {a1 : Nat} {i2 : Int32} {i3 : Int32} (ih : m9_IH C n) {M : own_Mem} {r : Nat × own_Mem} (h : m9_c17 (m9_L n) a0 a1 i2 i3 M = some r) : own_W C (some (.ref r.1)) r.2 M 1 4 17 [.val (.ref (own_n C + a0)), .val (.ref (own_n C + a1)), .val (.int i2), .val (.int i3)] [] := by
  unfold m9_c17 at h
  refine own_iloadN K m9_d17 rfl rfl ?_
  refine own_zle K m9_d18 h (pc1 := 64) (pc2 := 21) (by decide) rfl (fun h => ?_) (fun h => ?_)
  · refine own_aloadN K m9_d64 rfl rfl ?_
    exact own_retR K m9_d65 rfl h
  · refine own_aloadN K m9_d21 rfl rfl ?_
    refine own_gfR K m9_d22 own_w31 (own_cl0) (i := 3) rfl h rfl (fun x1 h => ?_)
    refine own_iloadN K m9_d25 rfl rfl ?_
    refine own_iaload K m9_d26 h rfl (fun x2 h => ?_)
    refine own_iconst K m9_d27 own_icm1 rfl ?_
    refine own_ine K m9_d28 h (pc1 := 40) (pc2 := 31) (by decide) rfl (fun h => ?_) (fun h => ?_)
    · refine own_iinc K m9_d40 own_icm1 rfl (Ls' := [.val (.ref (own_n C + a0)), .val (.ref (own_n C + a1)), .val (.int (i2 + (-1 : Int32))), .val (.int i3)]) rfl rfl ?_
      refine own_aloadN K m9_d43 rfl rfl ?_
      refine own_aloadN K m9_d44 rfl rfl ?_
      refine own_gfR K m9_d45 own_w31 (own_cl0) (i := 3) rfl h rfl (fun x3 h => ?_)
      refine own_iloadN K m9_d48 rfl rfl ?_
      refine own_iaload K m9_d49 h rfl (fun x4 h => ?_)
      refine own_iloadN K m9_d50 rfl rfl ?_
      refine own_iloadN K m9_d51 rfl rfl ?_
      refine own_bk h (fun q5 hq5 h => ?_)
      refine own_callS K m9_d52 own_w68 own_w69 own_w70 own_w71 (argsL := [.ref a1, .int x4, .int i3, .int (i2 + (-1 : Int32))]) (st := []) (by decide) (lenOf own_pd3 rfl) rfl (W := 0) (Nat.le_of_eq rfl) (by decide) (by decide) (cs1 := 1) (ss1 := 4) rfl rfl (by decide) (by decide) rfl rfl (m15_met hq5) (st1 := []) rfl ?_
      exact ih.2 _ _ _ _ _ _ h
    · refine own_aloadN K m9_d31 rfl rfl ?_
      refine own_iloadN K m9_d32 rfl rfl ?_
      refine own_iconst K m9_d33 own_ic1 rfl ?_
      refine own_isub K m9_d34 rfl ?_
      refine own_iconst K m9_d35 own_icm1 rfl ?_
      refine own_iastore K m9_d36 h rfl (fun M6 h => ?_)
      refine own_goto K m9_d37 (pc' := 55) (by decide) ?_
      exact ih.2 _ _ _ _ _ _ h
set_option maxRecDepth 65536 in
set_option maxHeartbeats 4000000 in
theorem m9_w55 {C : own_Ctx} (K : own_K C prog_20_method_6_code 4 "com/example/gatherline/gatherline/RunSplit" (some (.array .int)) "runOf" m9_rm) {n : Nat} {a0 : Nat} {a1 : Nat} {i2 : Int32} {i3 : Int32} (ih : m9_IH C n) {M : own_Mem} {r : Nat × own_Mem} (h : m9_c55 (m9_L n) a0 a1 i2 i3 M = some r) : own_W C (some (.ref r.1)) r.2 M 1 4 55 [.val (.ref (own_n C + a0)), .val (.ref (own_n C + a1)), .val (.int i2), .val (.int i3)] [] := by
  unfold m9_c55 at h
  refine own_aloadN K m9_d55 rfl rfl ?_
  refine own_iloadN K m9_d56 rfl rfl ?_
  refine own_bk h (fun u8 hu8 h => ?_)
  refine own_bk h (fun q7 hq7 h => ?_)
  refine own_callP K m9_d57 own_w64 own_w66 own_w17 own_w65 own_w18 own_w67 (own_cl0) hu8 (a := a0) (argsL := [.int i3]) (st := []) (by decide) (lenOf own_pd6 rfl) rfl (W := 0) (Nat.le_of_eq rfl) (by decide) (by decide) (cs1 := 1) (ss1 := 4) rfl rfl (by decide) (by decide) rfl rfl (m14_met hq7) (st1 := [.int q7.1]) rfl ?_
  refine own_istoreN K m9_d60 (Ls' := [.val (.ref (own_n C + a0)), .val (.ref (own_n C + a1)), .val (.int i2), .val (.int q7.1)]) rfl rfl ?_
  refine own_goto K m9_d61 (pc' := 17) (by decide) ?_
  exact ih.1 _ _ _ _ _ _ h
set_option maxRecDepth 65536 in
set_option maxHeartbeats 4000000 in
theorem m9_all {C : own_Ctx} (K : own_K C prog_20_method_6_code 4 "com/example/gatherline/gatherline/RunSplit" (some (.array .int)) "runOf" m9_rm) : ∀ n, m9_IH C n
  | 0 => ⟨fun _ _ _ _ _ _ => fun h => (nomatch h), fun _ _ _ _ _ _ => fun h => (nomatch h)⟩
  | n + 1 => have ih := m9_all K n; ⟨fun _ _ _ _ _ _ => fun h => m9_w17 K ih  h, fun _ _ _ _ _ _ => fun h => m9_w55 K ih  h⟩
set_option maxRecDepth 65536 in
def m9 (a0 : Nat) (M : own_Mem) : Option (Nat × own_Mem) := (own_getI 0 0 M a0).bind fun x9 => (own_newA 100 4 (.int 0) M x9).bind fun q10 => (own_at q10.2 0 a0).bind fun u12 => (m10 a0 q10.2).bind fun q11 => (own_getI 0 0 q11.2 a0).bind fun x13 => m9_L 20 17 a0 q10.1 q11.1 x13 q11.2
set_option maxRecDepth 65536 in
set_option maxHeartbeats 4000000 in
theorem m9_w {C : own_Ctx} (K : own_K C prog_20_method_6_code 4 "com/example/gatherline/gatherline/RunSplit" (some (.array .int)) "runOf" m9_rm) {a0 : Nat} {M : own_Mem} {r : Nat × own_Mem} (h : m9 a0 M = some r) : own_W C (some (.ref r.1)) r.2 M 0 0 0 [.val (.ref (own_n C + a0)), .unset, .unset, .unset] [] := by
  have ih := m9_all K 20
  unfold m9 at h
  refine own_aloadN K m9_d0 rfl rfl ?_
  refine own_gfI K m9_d1 own_w25 (own_cl0) (i := 0) rfl h rfl (fun x9 h => ?_)
  refine own_na K m9_d4 own_w1 rfl rfl h (by decide) (cs1 := 1) (ss1 := 4) rfl rfl (by decide) (by decide) rfl (fun q10 h => ?_)
  refine own_astoreN K m9_d6 (Ls' := [.val (.ref (own_n C + a0)), .val (.ref (own_n C + q10.1)), .unset, .unset]) rfl rfl ?_
  refine own_aloadN K m9_d7 rfl rfl ?_
  refine own_bk h (fun u12 hu12 h => ?_)
  refine own_bk h (fun q11 hq11 h => ?_)
  refine own_callP K m9_d8 own_w51 own_w53 own_w17 own_w52 own_w18 own_w54 (own_cl0) hu12 (a := a0) (argsL := []) (st := []) (by decide) (lenOf own_pd7 rfl) rfl (W := 0) (Nat.le_of_eq rfl) (by decide) (by decide) (cs1 := 1) (ss1 := 4) rfl rfl (by decide) (by decide) rfl rfl (m10_met hq11) (st1 := [.int q11.1]) rfl ?_
  refine own_istoreN K m9_d11 (Ls' := [.val (.ref (own_n C + a0)), .val (.ref (own_n C + q10.1)), .val (.int q11.1), .unset]) rfl rfl ?_
  refine own_aloadN K m9_d12 rfl rfl ?_
  refine own_gfI K m9_d13 own_w25 (own_cl0) (i := 0) rfl h rfl (fun x13 h => ?_)
  refine own_istoreN K m9_d16 (Ls' := [.val (.ref (own_n C + a0)), .val (.ref (own_n C + q10.1)), .val (.int q11.1), .val (.int x13)]) rfl rfl ?_
  exact ih.1 _ _ _ _ _ _ h
set_option maxRecDepth 65536 in
set_option maxHeartbeats 4000000 in
theorem m9_met {a0 : Nat} {M : own_Mem} {q : Nat × own_Mem} (h : m9 a0 M = some q) : own_Met ⟨"com/example/gatherline/gatherline/RunSplit", "runOf", "()[I"⟩ prog_20_method_6_code 4 (some (.array .int)) m9_rm [.ref a0] M (some (.ref q.1)) q.2 :=
  own_met (Ls := fun n0 => [.val (.ref (n0 + a0)), .unset, .unset, .unset]) (plainFor_of_name own_pn1) (fun m n0 => by first | (simp [entryFrame, mkF, argsToLocals, Value.category, own_up]; done) | rfl) fun C K => m9_w K h
theorem m11_d0 : decode method_5_code 0 = .ok (.aload_n 0, 1) := by decide +kernel
theorem m11_d1 : decode method_5_code 1 = .ok (.iload_n 1, 1) := by decide +kernel
theorem m11_d2 : decode method_5_code 2 = .ok (.iaload, 1) := by decide +kernel
theorem m11_d3 : decode method_5_code 3 = .ok (.ifCond .lt 22, 3) := by decide +kernel
theorem m11_d6 : decode method_5_code 6 = .ok (.iload_n 1, 1) := by decide +kernel
theorem m11_d7 : decode method_5_code 7 = .ok (.ifCond .eq 14, 3) := by decide +kernel
theorem m11_d10 : decode method_5_code 10 = .ok (.aload_n 0, 1) := by decide +kernel
theorem m11_d11 : decode method_5_code 11 = .ok (.iload_n 1, 1) := by decide +kernel
theorem m11_d12 : decode method_5_code 12 = .ok (.iconst 1, 1) := by decide +kernel
theorem m11_d13 : decode method_5_code 13 = .ok (.isub, 1) := by decide +kernel
theorem m11_d14 : decode method_5_code 14 = .ok (.iaload, 1) := by decide +kernel
theorem m11_d15 : decode method_5_code 15 = .ok (.aload_n 0, 1) := by decide +kernel
theorem m11_d16 : decode method_5_code 16 = .ok (.iload_n 1, 1) := by decide +kernel
theorem m11_d17 : decode method_5_code 17 = .ok (.iaload, 1) := by decide +kernel
theorem m11_d18 : decode method_5_code 18 = .ok (.if_icmp .eq 7, 3) := by decide +kernel
theorem m11_d21 : decode method_5_code 21 = .ok (.iconst 1, 1) := by decide +kernel
theorem m11_d22 : decode method_5_code 22 = .ok (.goto 4, 3) := by decide +kernel
theorem m11_d25 : decode method_5_code 25 = .ok (.iconst 0, 1) := by decide +kernel
theorem m11_d26 : decode method_5_code 26 = .ok (.ireturn, 1) := by decide +kernel
def m11_rm : Room := { frames := 0, cells := 0, slots := 0, locals := 0 }
set_option maxRecDepth 65536 in
def m11_b26 (t0 : Int32) (M : own_Mem) : Option (Int32 × own_Mem) := some (nar .boolean t0, M)
set_option maxRecDepth 65536 in
set_option maxHeartbeats 4000000 in
theorem m11_w26 {C : own_Ctx} (K : own_K C method_5_code 2 "com/example/gatherline/gatherline/RunSplitFindPinLaw" (some .boolean) "isStart" m11_rm) {t0 : Int32} {z0 : Slot} {z1 : Slot} (o0 : own_One z0) (o1 : own_One z1) {M : own_Mem} {r : Int32 × own_Mem} (h : m11_b26 t0 M = some r) : own_W C (some (.int r.1)) r.2 M 0 0 26 [z0, z1] [.int t0] := by
  unfold m11_b26 at h
  exact own_retN K m11_d26 (by simp) h
set_option maxRecDepth 65536 in
def m11_b21  (M : own_Mem) : Option (Int32 × own_Mem) := m11_b26 (1 : Int32) M
set_option maxRecDepth 65536 in
set_option maxHeartbeats 4000000 in
theorem m11_w21 {C : own_Ctx} (K : own_K C method_5_code 2 "com/example/gatherline/gatherline/RunSplitFindPinLaw" (some .boolean) "isStart" m11_rm) {z0 : Slot} {z1 : Slot} (o0 : own_One z0) (o1 : own_One z1) {M : own_Mem} {r : Int32 × own_Mem} (h : m11_b21  M = some r) : own_W C (some (.int r.1)) r.2 M 0 0 21 [z0, z1] [] := by
  unfold m11_b21 at h
  refine own_iconst K m11_d21 own_ic1 rfl ?_
  refine own_goto K m11_d22 (pc' := 26) (by decide) ?_
  exact m11_w26 K o0 o1 h
set_option maxRecDepth 65536 in
def m11_b25  (M : own_Mem) : Option (Int32 × own_Mem) := m11_b26 (0 : Int32) M
set_option maxRecDepth 65536 in
set_option maxHeartbeats 4000000 in
theorem m11_w25 {C : own_Ctx} (K : own_K C method_5_code 2 "com/example/gatherline/gatherline/RunSplitFindPinLaw" (some .boolean) "isStart" m11_rm) {z0 : Slot} {z1 : Slot} (o0 : own_One z0) (o1 : own_One z1) {M : own_Mem} {r : Int32 × own_Mem} (h : m11_b25  M = some r) : own_W C (some (.int r.1)) r.2 M 0 0 25 [z0, z1] [] := by
  unfold m11_b25 at h
  refine own_iconst K m11_d25 own_ic0 rfl ?_
  exact m11_w26 K o0 o1 h
set_option maxRecDepth 65536 in
def m11 (a0 : Nat) (i1 : Int32) (M : own_Mem) : Option (Int32 × own_Mem) := (own_ldI 100 M a0 i1).bind fun x1 => if x1 < 0 then (m11_b25 M) else (if i1 = 0 then (m11_b21 M) else ((own_ldI 100 M a0 (i1 - (1 : Int32))).bind fun x2 => (own_ldI 100 M a0 i1).bind fun x3 => if x2 = x3 then (m11_b25 M) else (m11_b21 M)))
set_option maxRecDepth 65536 in
set_option maxHeartbeats 4000000 in
theorem m11_w {C : own_Ctx} (K : own_K C method_5_code 2 "com/example/gatherline/gatherline/RunSplitFindPinLaw" (some .boolean) "isStart" m11_rm) {a0 : Nat} {i1 : Int32} {M : own_Mem} {r : Int32 × own_Mem} (h : m11 a0 i1 M = some r) : own_W C (some (.int r.1)) r.2 M 0 0 0 [.val (.ref (own_n C + a0)), .val (.int i1)] [] := by
  unfold m11 at h
  refine own_aloadN K m11_d0 rfl rfl ?_
  refine own_iloadN K m11_d1 rfl rfl ?_
  refine own_iaload K m11_d2 h rfl (fun x1 h => ?_)
  refine own_zlt K m11_d3 h (pc1 := 25) (pc2 := 6) (by decide) rfl (fun h => ?_) (fun h => ?_)
  · exact m11_w25 K own_one_r own_one_i h
  · refine own_iloadN K m11_d6 rfl rfl ?_
    refine own_zeq K m11_d7 h (pc1 := 21) (pc2 := 10) (by decide) rfl (fun h => ?_) (fun h => ?_)
    · exact m11_w21 K own_one_r own_one_i h
    · refine own_aloadN K m11_d10 rfl rfl ?_
      refine own_iloadN K m11_d11 rfl rfl ?_
      refine own_iconst K m11_d12 own_ic1 rfl ?_
      refine own_isub K m11_d13 rfl ?_
      refine own_iaload K m11_d14 h rfl (fun x2 h => ?_)
      refine own_aloadN K m11_d15 rfl rfl ?_
      refine own_iloadN K m11_d16 rfl rfl ?_
      refine own_iaload K m11_d17 h rfl (fun x3 h => ?_)
      refine own_ieq K m11_d18 h (pc1 := 25) (pc2 := 21) (by decide) rfl (fun h => ?_) (fun h => ?_)
      · exact m11_w25 K own_one_r own_one_i h
      · exact m11_w21 K own_one_r own_one_i h
set_option maxRecDepth 65536 in
set_option maxHeartbeats 4000000 in
theorem m11_met {a0 : Nat} {i1 : Int32} {M : own_Mem} {q : Int32 × own_Mem} (h : m11 a0 i1 M = some q) : own_Met ⟨"com/example/gatherline/gatherline/RunSplitFindPinLaw", "isStart", "([II)Z"⟩ method_5_code 2 (some .boolean) m11_rm [.ref a0, .int i1] M (some (.int q.1)) q.2 :=
  own_met (Ls := fun n0 => [.val (.ref (n0 + a0)), .val (.int i1)]) (plainFor_of_name own_pn0) (fun m n0 => by first | (simp [entryFrame, mkF, argsToLocals, Value.category, own_up]; done) | rfl) fun C K => m11_w K h
theorem m12_d0 : decode method_8_code 0 = .ok (.iload_n 0, 1) := by decide +kernel
theorem m12_d1 : decode method_8_code 1 = .ok (.ifCond .eq 7, 3) := by decide +kernel
theorem m12_d4 : decode method_8_code 4 = .ok (.iconst 1, 1) := by decide +kernel
theorem m12_d5 : decode method_8_code 5 = .ok (.goto 4, 3) := by decide +kernel
theorem m12_d8 : decode method_8_code 8 = .ok (.iconst 0, 1) := by decide +kernel
theorem m12_d9 : decode method_8_code 9 = .ok (.ireturn, 1) := by decide +kernel
def m12_rm : Room := { frames := 0, cells := 0, slots := 0, locals := 0 }
set_option maxRecDepth 65536 in
def m12_b9 (t0 : Int32) (M : own_Mem) : Option (Int32 × own_Mem) := some (t0, M)
set_option maxRecDepth 65536 in
set_option maxHeartbeats 4000000 in
theorem m12_w9 {C : own_Ctx} (K : own_K C method_8_code 1 "com/example/gatherline/gatherline/RunSplitFindPinLaw" (some .int) "one" m12_rm) {t0 : Int32} {z0 : Slot} (o0 : own_One z0) {M : own_Mem} {r : Int32 × own_Mem} (h : m12_b9 t0 M = some r) : own_W C (some (.int r.1)) r.2 M 0 0 9 [z0] [.int t0] := by
  unfold m12_b9 at h
  exact own_retI K m12_d9 h
set_option maxRecDepth 65536 in
def m12 (i0 : Int32) (M : own_Mem) : Option (Int32 × own_Mem) := if i0 = 0 then (m12_b9 (0 : Int32) M) else (m12_b9 (1 : Int32) M)
set_option maxRecDepth 65536 in
set_option maxHeartbeats 4000000 in
theorem m12_w {C : own_Ctx} (K : own_K C method_8_code 1 "com/example/gatherline/gatherline/RunSplitFindPinLaw" (some .int) "one" m12_rm) {i0 : Int32} {M : own_Mem} {r : Int32 × own_Mem} (h : m12 i0 M = some r) : own_W C (some (.int r.1)) r.2 M 0 0 0 [.val (.int i0)] [] := by
  unfold m12 at h
  refine own_iloadN K m12_d0 rfl rfl ?_
  refine own_zeq K m12_d1 h (pc1 := 8) (pc2 := 4) (by decide) rfl (fun h => ?_) (fun h => ?_)
  · refine own_iconst K m12_d8 own_ic0 rfl ?_
    exact m12_w9 K own_one_i h
  · refine own_iconst K m12_d4 own_ic1 rfl ?_
    refine own_goto K m12_d5 (pc' := 9) (by decide) ?_
    exact m12_w9 K own_one_i h
set_option maxRecDepth 65536 in
set_option maxHeartbeats 4000000 in
theorem m12_met {i0 : Int32} {M : own_Mem} {q : Int32 × own_Mem} (h : m12 i0 M = some q) : own_Met ⟨"com/example/gatherline/gatherline/RunSplitFindPinLaw", "one", "(Z)I"⟩ method_8_code 1 (some .int) m12_rm [.int i0] M (some (.int q.1)) q.2 :=
  own_met (Ls := fun n0 => [.val (.int i0)]) (plainFor_of_name own_pn0) (fun m n0 => by first | (simp [entryFrame, mkF, argsToLocals, Value.category, own_up]; done) | rfl) fun C K => m12_w K h
theorem m17_d0 : decode method_6_code 0 = .ok (.iload_n 1, 1) := by decide +kernel
theorem m17_d1 : decode method_6_code 1 = .ok (.iconst 1, 1) := by decide +kernel
theorem m17_d2 : decode method_6_code 2 = .ok (.iadd, 1) := by decide +kernel
theorem m17_d3 : decode method_6_code 3 = .ok (.istore_n 2, 1) := by decide +kernel
theorem m17_d4 : decode method_6_code 4 = .ok (.iload_n 2, 1) := by decide +kernel
theorem m17_d5 : decode method_6_code 5 = .ok (.iconst 4, 1) := by decide +kernel
theorem m17_d6 : decode method_6_code 6 = .ok (.if_icmp .ge 49, 3) := by decide +kernel
theorem m17_d9 : decode method_6_code 9 = .ok (.aload_n 0, 1) := by decide +kernel
theorem m17_d10 : decode method_6_code 10 = .ok (.iload_n 2, 1) := by decide +kernel
theorem m17_d11 : decode method_6_code 11 = .ok (.iaload, 1) := by decide +kernel
theorem m17_d12 : decode method_6_code 12 = .ok (.aload_n 0, 1) := by decide +kernel
theorem m17_d13 : decode method_6_code 13 = .ok (.iload_n 1, 1) := by decide +kernel
theorem m17_d14 : decode method_6_code 14 = .ok (.iaload, 1) := by decide +kernel
theorem m17_d15 : decode method_6_code 15 = .ok (.if_icmp .ne 40, 3) := by decide +kernel
theorem m17_d18 : decode method_6_code 18 = .ok (.iinc 2 1, 3) := by decide +kernel
theorem m17_d21 : decode method_6_code 21 = .ok (.iload_n 2, 1) := by decide +kernel
theorem m17_d22 : decode method_6_code 22 = .ok (.iconst 4, 1) := by decide +kernel
theorem m17_d23 : decode method_6_code 23 = .ok (.if_icmp .ge 32, 3) := by decide +kernel
theorem m17_d26 : decode method_6_code 26 = .ok (.aload_n 0, 1) := by decide +kernel
theorem m17_d27 : decode method_6_code 27 = .ok (.iload_n 2, 1) := by decide +kernel
theorem m17_d28 : decode method_6_code 28 = .ok (.iaload, 1) := by decide +kernel
theorem m17_d29 : decode method_6_code 29 = .ok (.aload_n 0, 1) := by decide +kernel
theorem m17_d30 : decode method_6_code 30 = .ok (.iload_n 1, 1) := by decide +kernel
theorem m17_d31 : decode method_6_code 31 = .ok (.iaload, 1) := by decide +kernel
theorem m17_d32 : decode method_6_code 32 = .ok (.if_icmp .ne 23, 3) := by decide +kernel
theorem m17_d35 : decode method_6_code 35 = .ok (.iinc 2 1, 3) := by decide +kernel
theorem m17_d38 : decode method_6_code 38 = .ok (.iload_n 2, 1) := by decide +kernel
theorem m17_d39 : decode method_6_code 39 = .ok (.iconst 4, 1) := by decide +kernel
theorem m17_d40 : decode method_6_code 40 = .ok (.if_icmp .ge 15, 3) := by decide +kernel
theorem m17_d43 : decode method_6_code 43 = .ok (.aload_n 0, 1) := by decide +kernel
theorem m17_d44 : decode method_6_code 44 = .ok (.iload_n 2, 1) := by decide +kernel
theorem m17_d45 : decode method_6_code 45 = .ok (.iaload, 1) := by decide +kernel
theorem m17_d46 : decode method_6_code 46 = .ok (.aload_n 0, 1) := by decide +kernel
theorem m17_d47 : decode method_6_code 47 = .ok (.iload_n 1, 1) := by decide +kernel
theorem m17_d48 : decode method_6_code 48 = .ok (.iaload, 1) := by decide +kernel
theorem m17_d49 : decode method_6_code 49 = .ok (.if_icmp .ne 6, 3) := by decide +kernel
theorem m17_d52 : decode method_6_code 52 = .ok (.iinc 2 1, 3) := by decide +kernel
theorem m17_d55 : decode method_6_code 55 = .ok (.iload_n 2, 1) := by decide +kernel
theorem m17_d56 : decode method_6_code 56 = .ok (.ireturn, 1) := by decide +kernel
def m17_rm : Room := { frames := 0, cells := 0, slots := 0, locals := 0 }
set_option maxRecDepth 65536 in
def m17_b55 (i2 : Int32) (M : own_Mem) : Option (Int32 × own_Mem) := some (i2, M)
set_option maxRecDepth 65536 in
set_option maxHeartbeats 4000000 in
theorem m17_w55 {C : own_Ctx} (K : own_K C method_6_code 3 "com/example/gatherline/gatherline/RunSplitFindPinLaw" (some .int) "runEnd" m17_rm) {i2 : Int32} {z0 : Slot} {z1 : Slot} (o0 : own_One z0) (o1 : own_One z1) {M : own_Mem} {r : Int32 × own_Mem} (h : m17_b55 i2 M = some r) : own_W C (some (.int r.1)) r.2 M 0 0 55 [z0, z1, .val (.int i2)] [] := by
  unfold m17_b55 at h
  refine own_iloadN K m17_d55 rfl rfl ?_
  exact own_retI K m17_d56 h
set_option maxRecDepth 65536 in
def m17 (a0 : Nat) (i1 : Int32) (M : own_Mem) : Option (Int32 × own_Mem) := own_let (i1 + (1 : Int32)) fun x1 => if x1 < (4 : Int32) then ((own_ldI 100 M a0 x1).bind fun x2 => (own_ldI 100 M a0 i1).bind fun x3 => if x2 = x3 then (if (x1 + (1 : Int32)) < (4 : Int32) then ((own_ldI 100 M a0 (x1 + (1 : Int32))).bind fun x4 => (own_ldI 100 M a0 i1).bind fun x5 => if x4 = x5 then (if ((x1 + (1 : Int32)) + (1 : Int32)) < (4 : Int32) then ((own_ldI 100 M a0 ((x1 + (1 : Int32)) + (1 : Int32))).bind fun x6 => (own_ldI 100 M a0 i1).bind fun x7 => if x6 = x7 then (m17_b55 (((x1 + (1 : Int32)) + (1 : Int32)) + (1 : Int32)) M) else (m17_b55 ((x1 + (1 : Int32)) + (1 : Int32)) M)) else (m17_b55 ((x1 + (1 : Int32)) + (1 : Int32)) M)) else (m17_b55 (x1 + (1 : Int32)) M)) else (m17_b55 (x1 + (1 : Int32)) M)) else (m17_b55 x1 M)) else (m17_b55 x1 M)
set_option maxRecDepth 65536 in
set_option maxHeartbeats 4000000 in
theorem m17_w {C : own_Ctx} (K : own_K C method_6_code 3 "com/example/gatherline/gatherline/RunSplitFindPinLaw" (some .int) "runEnd" m17_rm) {a0 : Nat} {i1 : Int32} {M : own_Mem} {r : Int32 × own_Mem} (h : m17 a0 i1 M = some r) : own_W C (some (.int r.1)) r.2 M 0 0 0 [.val (.ref (own_n C + a0)), .val (.int i1), .unset] [] := by
  unfold m17 at h
  refine own_iloadN K m17_d0 rfl rfl ?_
  refine own_iconst K m17_d1 own_ic1 rfl ?_
  refine own_iadd K m17_d2 rfl ?_
  refine own_letI h (fun x1 h => ?_)
  refine own_istoreN K m17_d3 (Ls' := [.val (.ref (own_n C + a0)), .val (.int i1), .val (.int x1)]) rfl rfl ?_
  refine own_iloadN K m17_d4 rfl rfl ?_
  refine own_iconst K m17_d5 own_ic4 rfl ?_
  refine own_ige K m17_d6 h (pc1 := 55) (pc2 := 9) (by decide) rfl (fun h => ?_) (fun h => ?_)
  · exact m17_w55 K own_one_r own_one_i h
  · refine own_aloadN K m17_d9 rfl rfl ?_
    refine own_iloadN K m17_d10 rfl rfl ?_
    refine own_iaload K m17_d11 h rfl (fun x2 h => ?_)
    refine own_aloadN K m17_d12 rfl rfl ?_
    refine own_iloadN K m17_d13 rfl rfl ?_
    refine own_iaload K m17_d14 h rfl (fun x3 h => ?_)
    refine own_ine K m17_d15 h (pc1 := 55) (pc2 := 18) (by decide) rfl (fun h => ?_) (fun h => ?_)
    · exact m17_w55 K own_one_r own_one_i h
    · refine own_iinc K m17_d18 own_ic1 rfl (Ls' := [.val (.ref (own_n C + a0)), .val (.int i1), .val (.int (x1 + (1 : Int32)))]) rfl rfl ?_
      refine own_iloadN K m17_d21 rfl rfl ?_
      refine own_iconst K m17_d22 own_ic4 rfl ?_
      refine own_ige K m17_d23 h (pc1 := 55) (pc2 := 26) (by decide) rfl (fun h => ?_) (fun h => ?_)
      · exact m17_w55 K own_one_r own_one_i h
      · refine own_aloadN K m17_d26 rfl rfl ?_
        refine own_iloadN K m17_d27 rfl rfl ?_
        refine own_iaload K m17_d28 h rfl (fun x4 h => ?_)
        refine own_aloadN K m17_d29 rfl rfl ?_
        refine own_iloadN K m17_d30 rfl rfl ?_
        refine own_iaload K m17_d31 h rfl (fun x5 h => ?_)
        refine own_ine K m17_d32 h (pc1 := 55) (pc2 := 35) (by decide) rfl (fun h => ?_) (fun h => ?_)
        · exact m17_w55 K own_one_r own_one_i h
        · refine own_iinc K m17_d35 own_ic1 rfl (Ls' := [.val (.ref (own_n C + a0)), .val (.int i1), .val (.int ((x1 + (1 : Int32)) + (1 : Int32)))]) rfl rfl ?_
          refine own_iloadN K m17_d38 rfl rfl ?_
          refine own_iconst K m17_d39 own_ic4 rfl ?_
          refine own_ige K m17_d40 h (pc1 := 55) (pc2 := 43) (by decide) rfl (fun h => ?_) (fun h => ?_)
          · exact m17_w55 K own_one_r own_one_i h
          · refine own_aloadN K m17_d43 rfl rfl ?_
            refine own_iloadN K m17_d44 rfl rfl ?_
            refine own_iaload K m17_d45 h rfl (fun x6 h => ?_)
            refine own_aloadN K m17_d46 rfl rfl ?_
            refine own_iloadN K m17_d47 rfl rfl ?_
            refine own_iaload K m17_d48 h rfl (fun x7 h => ?_)
            refine own_ine K m17_d49 h (pc1 := 55) (pc2 := 52) (by decide) rfl (fun h => ?_) (fun h => ?_)
            · exact m17_w55 K own_one_r own_one_i h
            · refine own_iinc K m17_d52 own_ic1 rfl (Ls' := [.val (.ref (own_n C + a0)), .val (.int i1), .val (.int (((x1 + (1 : Int32)) + (1 : Int32)) + (1 : Int32)))]) rfl rfl ?_
              exact m17_w55 K own_one_r own_one_i h
set_option maxRecDepth 65536 in
set_option maxHeartbeats 4000000 in
theorem m17_met {a0 : Nat} {i1 : Int32} {M : own_Mem} {q : Int32 × own_Mem} (h : m17 a0 i1 M = some q) : own_Met ⟨"com/example/gatherline/gatherline/RunSplitFindPinLaw", "runEnd", "([II)I"⟩ method_6_code 3 (some .int) m17_rm [.ref a0, .int i1] M (some (.int q.1)) q.2 :=
  own_met (Ls := fun n0 => [.val (.ref (n0 + a0)), .val (.int i1), .unset]) (plainFor_of_name own_pn0) (fun m n0 => by first | (simp [entryFrame, mkF, argsToLocals, Value.category, own_up]; done) | rfl) fun C K => m17_w K h
theorem m13_d0 : decode method_7_code 0 = .ok (.iload_n 1, 1) := by decide +kernel
theorem m13_d1 : decode method_7_code 1 = .ok (.iload_n 2, 1) := by decide +kernel
theorem m13_d2 : decode method_7_code 2 = .ok (.if_icmp .lt 5, 3) := by decide +kernel
theorem m13_d5 : decode method_7_code 5 = .ok (.iconst 1, 1) := by decide +kernel
theorem m13_d6 : decode method_7_code 6 = .ok (.ireturn, 1) := by decide +kernel
theorem m13_d7 : decode method_7_code 7 = .ok (.aload_n 0, 1) := by decide +kernel
theorem m13_d8 : decode method_7_code 8 = .ok (.iload_n 1, 1) := by decide +kernel
theorem m13_d9 : decode method_7_code 9 = .ok (.iaload, 1) := by decide +kernel
theorem m13_d10 : decode method_7_code 10 = .ok (.iconst (-1), 1) := by decide +kernel
theorem m13_d11 : decode method_7_code 11 = .ok (.if_icmp .ne 5, 3) := by decide +kernel
theorem m13_d14 : decode method_7_code 14 = .ok (.iconst 1, 1) := by decide +kernel
theorem m13_d15 : decode method_7_code 15 = .ok (.ireturn, 1) := by decide +kernel
theorem m13_d16 : decode method_7_code 16 = .ok (.aload_n 0, 1) := by decide +kernel
theorem m13_d17 : decode method_7_code 17 = .ok (.iload_n 1, 1) := by decide +kernel
theorem m13_d18 : decode method_7_code 18 = .ok (.iaload, 1) := by decide +kernel
theorem m13_d19 : decode method_7_code 19 = .ok (.iconst (-1), 1) := by decide +kernel
theorem m13_d20 : decode method_7_code 20 = .ok (.if_icmp .ge 5, 3) := by decide +kernel
theorem m13_d23 : decode method_7_code 23 = .ok (.iconst 0, 1) := by decide +kernel
theorem m13_d24 : decode method_7_code 24 = .ok (.ireturn, 1) := by decide +kernel
theorem m13_d25 : decode method_7_code 25 = .ok (.aload_n 0, 1) := by decide +kernel
theorem m13_d26 : decode method_7_code 26 = .ok (.iload_n 1, 1) := by decide +kernel
theorem m13_d27 : decode method_7_code 27 = .ok (.invokestatic 22, 3) := by decide +kernel
theorem m13_d30 : decode method_7_code 30 = .ok (.ifCond .ne 5, 3) := by decide +kernel
theorem m13_d33 : decode method_7_code 33 = .ok (.iconst 1, 1) := by decide +kernel
theorem m13_d34 : decode method_7_code 34 = .ok (.ireturn, 1) := by decide +kernel
theorem m13_d35 : decode method_7_code 35 = .ok (.aload_n 0, 1) := by decide +kernel
theorem m13_d36 : decode method_7_code 36 = .ok (.iload_n 1, 1) := by decide +kernel
theorem m13_d37 : decode method_7_code 37 = .ok (.iaload, 1) := by decide +kernel
theorem m13_d38 : decode method_7_code 38 = .ok (.iload 5, 2) := by decide +kernel
theorem m13_d40 : decode method_7_code 40 = .ok (.if_icmp .eq 5, 3) := by decide +kernel
theorem m13_d43 : decode method_7_code 43 = .ok (.iconst 0, 1) := by decide +kernel
theorem m13_d44 : decode method_7_code 44 = .ok (.ireturn, 1) := by decide +kernel
theorem m13_d45 : decode method_7_code 45 = .ok (.aload_n 0, 1) := by decide +kernel
theorem m13_d46 : decode method_7_code 46 = .ok (.iload_n 1, 1) := by decide +kernel
theorem m13_d47 : decode method_7_code 47 = .ok (.invokestatic 26, 3) := by decide +kernel
theorem m13_d50 : decode method_7_code 50 = .ok (.istore 6, 2) := by decide +kernel
theorem m13_d52 : decode method_7_code 52 = .ok (.iload 6, 2) := by decide +kernel
theorem m13_d54 : decode method_7_code 54 = .ok (.iload_n 1, 1) := by decide +kernel
theorem m13_d55 : decode method_7_code 55 = .ok (.isub, 1) := by decide +kernel
theorem m13_d56 : decode method_7_code 56 = .ok (.iload_n 3, 1) := by decide +kernel
theorem m13_d57 : decode method_7_code 57 = .ok (.if_icmp .lt 16, 3) := by decide +kernel
theorem m13_d60 : decode method_7_code 60 = .ok (.aload 4, 2) := by decide +kernel
theorem m13_d62 : decode method_7_code 62 = .ok (.iload 6, 2) := by decide +kernel
theorem m13_d64 : decode method_7_code 64 = .ok (.iaload, 1) := by decide +kernel
theorem m13_d65 : decode method_7_code 65 = .ok (.iload_n 1, 1) := by decide +kernel
theorem m13_d66 : decode method_7_code 66 = .ok (.if_icmp .gt 7, 3) := by decide +kernel
theorem m13_d69 : decode method_7_code 69 = .ok (.iconst 1, 1) := by decide +kernel
theorem m13_d70 : decode method_7_code 70 = .ok (.goto 4, 3) := by decide +kernel
theorem m13_d73 : decode method_7_code 73 = .ok (.iconst 0, 1) := by decide +kernel
theorem m13_d74 : decode method_7_code 74 = .ok (.ireturn, 1) := by decide +kernel
def m13_rm : Room := { frames := 1, cells := 0, slots := 0, locals := 14 }
set_option maxRecDepth 65536 in
def m13_b43  (M : own_Mem) : Option (Int32 × own_Mem) := some (nar .boolean (0 : Int32), M)
set_option maxRecDepth 65536 in
set_option maxHeartbeats 4000000 in
theorem m13_w43 {C : own_Ctx} (K : own_K C method_7_code 7 "com/example/gatherline/gatherline/RunSplitFindPinLaw" (some .boolean) "pointOk" m13_rm) {z0 : Slot} {z1 : Slot} {z2 : Slot} {z3 : Slot} {z4 : Slot} {z5 : Slot} (o0 : own_One z0) (o1 : own_One z1) (o2 : own_One z2) (o3 : own_One z3) (o4 : own_One z4) (o5 : own_One z5) {M : own_Mem} {r : Int32 × own_Mem} (h : m13_b43  M = some r) : own_W C (some (.int r.1)) r.2 M 0 0 43 [z0, z1, z2, z3, z4, z5, .unset] [] := by
  unfold m13_b43 at h
  refine own_iconst K m13_d43 own_ic0 rfl ?_
  exact own_retN K m13_d44 (by simp) h
set_option maxRecDepth 65536 in
def m13_b74 (t0 : Int32) (M : own_Mem) : Option (Int32 × own_Mem) := some (nar .boolean t0, M)
set_option maxRecDepth 65536 in
set_option maxHeartbeats 4000000 in
theorem m13_w74 {C : own_Ctx} (K : own_K C method_7_code 7 "com/example/gatherline/gatherline/RunSplitFindPinLaw" (some .boolean) "pointOk" m13_rm) {t0 : Int32} {z0 : Slot} {z1 : Slot} {z2 : Slot} {z3 : Slot} {z4 : Slot} {z5 : Slot} {z6 : Slot} (o0 : own_One z0) (o1 : own_One z1) (o2 : own_One z2) (o3 : own_One z3) (o4 : own_One z4) (o5 : own_One z5) (o6 : own_One z6) {M : own_Mem} {r : Int32 × own_Mem} (h : m13_b74 t0 M = some r) : own_W C (some (.int r.1)) r.2 M 0 0 74 [z0, z1, z2, z3, z4, z5, z6] [.int t0] := by
  unfold m13_b74 at h
  exact own_retN K m13_d74 (by simp) h
set_option maxRecDepth 65536 in
def m13_b73  (M : own_Mem) : Option (Int32 × own_Mem) := m13_b74 (0 : Int32) M
set_option maxRecDepth 65536 in
set_option maxHeartbeats 4000000 in
theorem m13_w73 {C : own_Ctx} (K : own_K C method_7_code 7 "com/example/gatherline/gatherline/RunSplitFindPinLaw" (some .boolean) "pointOk" m13_rm) {z0 : Slot} {z1 : Slot} {z2 : Slot} {z3 : Slot} {z4 : Slot} {z5 : Slot} {z6 : Slot} (o0 : own_One z0) (o1 : own_One z1) (o2 : own_One z2) (o3 : own_One z3) (o4 : own_One z4) (o5 : own_One z5) (o6 : own_One z6) {M : own_Mem} {r : Int32 × own_Mem} (h : m13_b73  M = some r) : own_W C (some (.int r.1)) r.2 M 0 0 73 [z0, z1, z2, z3, z4, z5, z6] [] := by
  unfold m13_b73 at h
  refine own_iconst K m13_d73 own_ic0 rfl ?_
  exact m13_w74 K o0 o1 o2 o3 o4 o5 o6 h
set_option maxRecDepth 65536 in
def m13 (a0 : Nat) (i1 : Int32) (i2 : Int32) (i3 : Int32) (a4 : Nat) (i5 : Int32) (M : own_Mem) : Option (Int32 × own_Mem) := if i1 < i2 then ((own_ldI 100 M a0 i1).bind fun x1 => if x1 = (-1 : Int32) then (some (nar .boolean (1 : Int32), M)) else ((own_ldI 100 M a0 i1).bind fun x2 => if x2 < (-1 : Int32) then (some (nar .boolean (0 : Int32), M)) else ((m11 a0 i1 M).bind fun q3 => if q3.1 = 0 then (some (nar .boolean (1 : Int32), q3.2)) else ((own_ldI 100 q3.2 a0 i1).bind fun x4 => if x4 = i5 then ((m17 a0 i1 q3.2).bind fun q5 => if (q5.1 - i1) < i3 then (m13_b73 q5.2) else ((own_ldI 100 q5.2 a4 q5.1).bind fun x6 => if i1 < x6 then (m13_b73 q5.2) else (m13_b74 (1 : Int32) q5.2))) else (m13_b43 q3.2))))) else (some (nar .boolean (1 : Int32), M))
set_option maxRecDepth 65536 in
set_option maxHeartbeats 4000000 in
theorem m13_w {C : own_Ctx} (K : own_K C method_7_code 7 "com/example/gatherline/gatherline/RunSplitFindPinLaw" (some .boolean) "pointOk" m13_rm) {a0 : Nat} {i1 : Int32} {i2 : Int32} {i3 : Int32} {a4 : Nat} {i5 : Int32} {M : own_Mem} {r : Int32 × own_Mem} (h : m13 a0 i1 i2 i3 a4 i5 M = some r) : own_W C (some (.int r.1)) r.2 M 0 0 0 [.val (.ref (own_n C + a0)), .val (.int i1), .val (.int i2), .val (.int i3), .val (.ref (own_n C + a4)), .val (.int i5), .unset] [] := by
  unfold m13 at h
  refine own_iloadN K m13_d0 rfl rfl ?_
  refine own_iloadN K m13_d1 rfl rfl ?_
  refine own_ilt K m13_d2 h (pc1 := 7) (pc2 := 5) (by decide) rfl (fun h => ?_) (fun h => ?_)
  · refine own_aloadN K m13_d7 rfl rfl ?_
    refine own_iloadN K m13_d8 rfl rfl ?_
    refine own_iaload K m13_d9 h rfl (fun x1 h => ?_)
    refine own_iconst K m13_d10 own_icm1 rfl ?_
    refine own_ine K m13_d11 h (pc1 := 16) (pc2 := 14) (by decide) rfl (fun h => ?_) (fun h => ?_)
    · refine own_aloadN K m13_d16 rfl rfl ?_
      refine own_iloadN K m13_d17 rfl rfl ?_
      refine own_iaload K m13_d18 h rfl (fun x2 h => ?_)
      refine own_iconst K m13_d19 own_icm1 rfl ?_
      refine own_ige K m13_d20 h (pc1 := 25) (pc2 := 23) (by decide) rfl (fun h => ?_) (fun h => ?_)
      · refine own_aloadN K m13_d25 rfl rfl ?_
        refine own_iloadN K m13_d26 rfl rfl ?_
        refine own_bk h (fun q3 hq3 h => ?_)
        refine own_callS K m13_d27 own_w55 own_w56 own_w8 own_w57 (argsL := [.ref a0, .int i1]) (st := []) (by decide) (lenOf own_pd4 rfl) rfl (W := 0) (Nat.le_of_eq rfl) (by decide) (by decide) (cs1 := 0) (ss1 := 0) rfl rfl (by decide) (by decide) rfl rfl (m11_met hq3) (st1 := [.int q3.1]) rfl ?_
        refine own_zne K m13_d30 h (pc1 := 35) (pc2 := 33) (by decide) rfl (fun h => ?_) (fun h => ?_)
        · refine own_aloadN K m13_d35 rfl rfl ?_
          refine own_iloadN K m13_d36 rfl rfl ?_
          refine own_iaload K m13_d37 h rfl (fun x4 h => ?_)
          refine own_iload K m13_d38 rfl rfl ?_
          refine own_ieq K m13_d40 h (pc1 := 45) (pc2 := 43) (by decide) rfl (fun h => ?_) (fun h => ?_)
          · refine own_aloadN K m13_d45 rfl rfl ?_
            refine own_iloadN K m13_d46 rfl rfl ?_
            refine own_bk h (fun q5 hq5 h => ?_)
            refine own_callS K m13_d47 own_w75 own_w76 own_w8 own_w77 (argsL := [.ref a0, .int i1]) (st := []) (by decide) (lenOf own_pd8 rfl) rfl (W := 0) (Nat.le_of_eq rfl) (by decide) (by decide) (cs1 := 0) (ss1 := 0) rfl rfl (by decide) (by decide) rfl rfl (m17_met hq5) (st1 := [.int q5.1]) rfl ?_
            refine own_istore K m13_d50 (Ls' := [.val (.ref (own_n C + a0)), .val (.int i1), .val (.int i2), .val (.int i3), .val (.ref (own_n C + a4)), .val (.int i5), .val (.int q5.1)]) rfl rfl ?_
            refine own_iload K m13_d52 rfl rfl ?_
            refine own_iloadN K m13_d54 rfl rfl ?_
            refine own_isub K m13_d55 rfl ?_
            refine own_iloadN K m13_d56 rfl rfl ?_
            refine own_ilt K m13_d57 h (pc1 := 73) (pc2 := 60) (by decide) rfl (fun h => ?_) (fun h => ?_)
            · exact m13_w73 K own_one_r own_one_i own_one_i own_one_i own_one_r own_one_i own_one_i h
            · refine own_aload K m13_d60 rfl rfl ?_
              refine own_iload K m13_d62 rfl rfl ?_
              refine own_iaload K m13_d64 h rfl (fun x6 h => ?_)
              refine own_iloadN K m13_d65 rfl rfl ?_
              refine own_igt K m13_d66 h (pc1 := 73) (pc2 := 69) (by decide) rfl (fun h => ?_) (fun h => ?_)
              · exact m13_w73 K own_one_r own_one_i own_one_i own_one_i own_one_r own_one_i own_one_i h
              · refine own_iconst K m13_d69 own_ic1 rfl ?_
                refine own_goto K m13_d70 (pc' := 74) (by decide) ?_
                exact m13_w74 K own_one_r own_one_i own_one_i own_one_i own_one_r own_one_i own_one_i h
          · exact m13_w43 K own_one_r own_one_i own_one_i own_one_i own_one_r own_one_i h
        · refine own_iconst K m13_d33 own_ic1 rfl ?_
          exact own_retN K m13_d34 (by simp) h
      · refine own_iconst K m13_d23 own_ic0 rfl ?_
        exact own_retN K m13_d24 (by simp) h
    · refine own_iconst K m13_d14 own_ic1 rfl ?_
      exact own_retN K m13_d15 (by simp) h
  · refine own_iconst K m13_d5 own_ic1 rfl ?_
    exact own_retN K m13_d6 (by simp) h
set_option maxRecDepth 65536 in
set_option maxHeartbeats 4000000 in
theorem m13_met {a0 : Nat} {i1 : Int32} {i2 : Int32} {i3 : Int32} {a4 : Nat} {i5 : Int32} {M : own_Mem} {q : Int32 × own_Mem} (h : m13 a0 i1 i2 i3 a4 i5 M = some q) : own_Met ⟨"com/example/gatherline/gatherline/RunSplitFindPinLaw", "pointOk", "([IIII[II)Z"⟩ method_7_code 7 (some .boolean) m13_rm [.ref a0, .int i1, .int i2, .int i3, .ref a4, .int i5] M (some (.int q.1)) q.2 :=
  own_met (Ls := fun n0 => [.val (.ref (n0 + a0)), .val (.int i1), .val (.int i2), .val (.int i3), .val (.ref (n0 + a4)), .val (.int i5), .unset]) (plainFor_of_name own_pn0) (fun m n0 => by first | (simp [entryFrame, mkF, argsToLocals, Value.category, own_up]; done) | rfl) fun C K => m13_w K h
set_option maxRecDepth 65536 in
def m0_b591 (t0 : Int32) (M : own_Mem) : Option (Int32 × own_Mem) := some (nar .boolean t0, M)
set_option maxRecDepth 65536 in
set_option maxHeartbeats 4000000 in
theorem m0_w591 {C : own_Ctx} (K : own_K C code maxLocals "com/example/gatherline/gatherline/RunSplitFindPinLaw" ret "law" room_1) {t0 : Int32} {z0 : Slot} {z1 : Slot} {z2 : Slot} {z3 : Slot} {z4 : Slot} {z5 : Slot} {z6 : Slot} {z7 : Slot} {z8 : Slot} {z9 : Slot} {z10 : Slot} {z11 : Slot} {z12 : Slot} {z13 : Slot} {z14 : Slot} {z15 : Slot} {z16 : Slot} {z17 : Slot} {z18 : Slot} (o0 : own_One z0) (o1 : own_One z1) (o2 : own_One z2) (o3 : own_One z3) (o4 : own_One z4) (o5 : own_One z5) (o6 : own_One z6) (o7 : own_One z7) (o8 : own_One z8) (o9 : own_One z9) (o10 : own_One z10) (o11 : own_One z11) (o12 : own_One z12) (o13 : own_One z13) (o14 : own_One z14) (o15 : own_One z15) (o16 : own_One z16) (o17 : own_One z17) (o18 : own_One z18) {M : own_Mem} {r : Int32 × own_Mem} (h : m0_b591 t0 M = some r) : own_W C (some (.int r.1)) r.2 M 10 49 591 [z0, z1, z2, z3, z4, z5, z6, z7, z8, z9, z10, z11, z12, z13, z14, z15, z16, z17, z18] [.int t0] := by
  unfold m0_b591 at h
  exact own_retN K at_591 (by simp) h
set_option maxRecDepth 65536 in
def m0_b590  (M : own_Mem) : Option (Int32 × own_Mem) := m0_b591 (0 : Int32) M
set_option maxRecDepth 65536 in
set_option maxHeartbeats 4000000 in
theorem m0_w590 {C : own_Ctx} (K : own_K C code maxLocals "com/example/gatherline/gatherline/RunSplitFindPinLaw" ret "law" room_1) {z0 : Slot} {z1 : Slot} {z2 : Slot} {z3 : Slot} {z4 : Slot} {z5 : Slot} {z6 : Slot} {z7 : Slot} {z8 : Slot} {z9 : Slot} {z10 : Slot} {z11 : Slot} {z12 : Slot} {z13 : Slot} {z14 : Slot} {z15 : Slot} {z16 : Slot} {z17 : Slot} {z18 : Slot} (o0 : own_One z0) (o1 : own_One z1) (o2 : own_One z2) (o3 : own_One z3) (o4 : own_One z4) (o5 : own_One z5) (o6 : own_One z6) (o7 : own_One z7) (o8 : own_One z8) (o9 : own_One z9) (o10 : own_One z10) (o11 : own_One z11) (o12 : own_One z12) (o13 : own_One z13) (o14 : own_One z14) (o15 : own_One z15) (o16 : own_One z16) (o17 : own_One z17) (o18 : own_One z18) {M : own_Mem} {r : Int32 × own_Mem} (h : m0_b590  M = some r) : own_W C (some (.int r.1)) r.2 M 10 49 590 [z0, z1, z2, z3, z4, z5, z6, z7, z8, z9, z10, z11, z12, z13, z14, z15, z16, z17, z18] [] := by
  unfold m0_b590 at h
  refine own_iconst K at_590 own_ic0 rfl ?_
  exact m0_w591 K o0 o1 o2 o3 o4 o5 o6 o7 o8 o9 o10 o11 o12 o13 o14 o15 o16 o17 o18 h
set_option maxRecDepth 65536 in
def m0_b579 (i10 : Int32) (i18 : Int32) (M : own_Mem) : Option (Int32 × own_Mem) := if i18 = i10 then (m0_b591 (1 : Int32) M) else (m0_b590 M)
set_option maxRecDepth 65536 in
set_option maxHeartbeats 4000000 in
theorem m0_w579 {C : own_Ctx} (K : own_K C code maxLocals "com/example/gatherline/gatherline/RunSplitFindPinLaw" ret "law" room_1) {i10 : Int32} {i18 : Int32} {z0 : Slot} {z1 : Slot} {z2 : Slot} {z3 : Slot} {z4 : Slot} {z5 : Slot} {z6 : Slot} {z7 : Slot} {z8 : Slot} {z9 : Slot} {z11 : Slot} {z12 : Slot} {z13 : Slot} {z14 : Slot} {z15 : Slot} {z16 : Slot} {z17 : Slot} (o0 : own_One z0) (o1 : own_One z1) (o2 : own_One z2) (o3 : own_One z3) (o4 : own_One z4) (o5 : own_One z5) (o6 : own_One z6) (o7 : own_One z7) (o8 : own_One z8) (o9 : own_One z9) (o11 : own_One z11) (o12 : own_One z12) (o13 : own_One z13) (o14 : own_One z14) (o15 : own_One z15) (o16 : own_One z16) (o17 : own_One z17) {M : own_Mem} {r : Int32 × own_Mem} (h : m0_b579 i10 i18 M = some r) : own_W C (some (.int r.1)) r.2 M 10 49 579 [z0, z1, z2, z3, z4, z5, z6, z7, z8, z9, .val (.int i10), z11, z12, z13, z14, z15, z16, z17, .val (.int i18)] [] := by
  unfold m0_b579 at h
  refine own_iload K at_579 rfl rfl ?_
  refine own_iload K at_581 rfl rfl ?_
  refine own_ine K at_583 h (pc1 := 590) (pc2 := 586) (by decide) rfl (fun h => ?_) (fun h => ?_)
  · exact m0_w590 K o0 o1 o2 o3 o4 o5 o6 o7 o8 o9 own_one_i o11 o12 o13 o14 o15 o16 o17 own_one_i h
  · refine own_iconst K at_586 own_ic1 rfl ?_
    refine own_goto K at_587 (pc' := 591) (by decide) ?_
    exact m0_w591 K o0 o1 o2 o3 o4 o5 o6 o7 o8 o9 own_one_i o11 o12 o13 o14 o15 o16 o17 own_one_i h
set_option maxRecDepth 65536 in
def m0_b506 (i4 : Int32) (i5 : Int32) (a8 : Nat) (i10 : Int32) (a14 : Nat) (i15 : Int32) (i16 : Int32) (i17 : Int32) (t0 : Int32) (t1 : Int32) (M : own_Mem) : Option (Int32 × own_Mem) := (m12 t1 M).bind fun q1 => own_let (t0 + q1.1) fun x2 => (m13 a14 (0 : Int32) i4 i5 a8 (0 : Int32) q1.2).bind fun q3 => if q3.1 = 0 then (m0_b590 q3.2) else ((m13 a14 (1 : Int32) i4 i5 a8 i15 q3.2).bind fun q4 => if q4.1 = 0 then (m0_b590 q4.2) else ((m13 a14 (2 : Int32) i4 i5 a8 i16 q4.2).bind fun q5 => if q5.1 = 0 then (m0_b590 q5.2) else ((m13 a14 (3 : Int32) i4 i5 a8 i17 q5.2).bind fun q6 => if q6.1 = 0 then (m0_b590 q6.2) else (m0_b579 i10 x2 q6.2))))
set_option maxRecDepth 65536 in
set_option maxHeartbeats 4000000 in
theorem m0_w506 {C : own_Ctx} (K : own_K C code maxLocals "com/example/gatherline/gatherline/RunSplitFindPinLaw" ret "law" room_1) {i4 : Int32} {i5 : Int32} {a8 : Nat} {i10 : Int32} {a14 : Nat} {i15 : Int32} {i16 : Int32} {i17 : Int32} {t0 : Int32} {t1 : Int32} {z0 : Slot} {z1 : Slot} {z2 : Slot} {z3 : Slot} {z6 : Slot} {z7 : Slot} {z9 : Slot} {z11 : Slot} {z12 : Slot} {z13 : Slot} (o0 : own_One z0) (o1 : own_One z1) (o2 : own_One z2) (o3 : own_One z3) (o6 : own_One z6) (o7 : own_One z7) (o9 : own_One z9) (o11 : own_One z11) (o12 : own_One z12) (o13 : own_One z13) {M : own_Mem} {r : Int32 × own_Mem} (h : m0_b506 i4 i5 a8 i10 a14 i15 i16 i17 t0 t1 M = some r) : own_W C (some (.int r.1)) r.2 M 10 49 506 [z0, z1, z2, z3, .val (.int i4), .val (.int i5), z6, z7, .val (.ref (own_n C + a8)), z9, .val (.int i10), z11, z12, z13, .val (.ref (own_n C + a14)), .val (.int i15), .val (.int i16), .val (.int i17), .unset] [.int t1, .int t0] := by
  unfold m0_b506 at h
  refine own_bk h (fun q1 hq1 h => ?_)
  refine own_callS K at_506 own_w58 own_w59 own_w8 own_w60 (argsL := [.int t1]) (st := [.int t0]) (by decide) (lenOf own_pd9 rfl) rfl (W := 1) (Nat.le_of_eq rfl) (by decide) (by decide) (cs1 := 10) (ss1 := 49) rfl rfl (by decide) (by decide) rfl rfl (m12_met hq1) (st1 := [.int q1.1, .int t0]) rfl ?_
  refine own_iadd K at_509 rfl ?_
  refine own_letI h (fun x2 h => ?_)
  refine own_istore K at_510 (Ls' := [z0, z1, z2, z3, .val (.int i4), .val (.int i5), z6, z7, .val (.ref (own_n C + a8)), z9, .val (.int i10), z11, z12, z13, .val (.ref (own_n C + a14)), .val (.int i15), .val (.int i16), .val (.int i17), .val (.int x2)]) rfl rfl ?_
  refine own_aload K at_512 rfl rfl ?_
  refine own_iconst K at_514 own_ic0 rfl ?_
  refine own_iload K at_515 rfl rfl ?_
  refine own_iload K at_517 rfl rfl ?_
  refine own_aload K at_519 rfl rfl ?_
  refine own_iconst K at_521 own_ic0 rfl ?_
  refine own_bk h (fun q3 hq3 h => ?_)
  refine own_callS K at_522 own_w61 own_w62 own_w8 own_w63 (argsL := [.ref a14, .int (0 : Int32), .int i4, .int i5, .ref a8, .int (0 : Int32)]) (st := []) (by decide) (lenOf own_pd10 rfl) rfl (W := 0) (Nat.le_of_eq rfl) (by decide) (by decide) (cs1 := 10) (ss1 := 49) rfl rfl (by decide) (by decide) rfl rfl (m13_met hq3) (st1 := [.int q3.1]) rfl ?_
  refine own_zeq K at_525 h (pc1 := 590) (pc2 := 528) (by decide) rfl (fun h => ?_) (fun h => ?_)
  · exact m0_w590 K o0 o1 o2 o3 own_one_i own_one_i o6 o7 own_one_r o9 own_one_i o11 o12 o13 own_one_r own_one_i own_one_i own_one_i own_one_i h
  · refine own_aload K at_528 rfl rfl ?_
    refine own_iconst K at_530 own_ic1 rfl ?_
    refine own_iload K at_531 rfl rfl ?_
    refine own_iload K at_533 rfl rfl ?_
    refine own_aload K at_535 rfl rfl ?_
    refine own_iload K at_537 rfl rfl ?_
    refine own_bk h (fun q4 hq4 h => ?_)
    refine own_callS K at_539 own_w61 own_w62 own_w8 own_w63 (argsL := [.ref a14, .int (1 : Int32), .int i4, .int i5, .ref a8, .int i15]) (st := []) (by decide) (lenOf own_pd10 rfl) rfl (W := 0) (Nat.le_of_eq rfl) (by decide) (by decide) (cs1 := 10) (ss1 := 49) rfl rfl (by decide) (by decide) rfl rfl (m13_met hq4) (st1 := [.int q4.1]) rfl ?_
    refine own_zeq K at_542 h (pc1 := 590) (pc2 := 545) (by decide) rfl (fun h => ?_) (fun h => ?_)
    · exact m0_w590 K o0 o1 o2 o3 own_one_i own_one_i o6 o7 own_one_r o9 own_one_i o11 o12 o13 own_one_r own_one_i own_one_i own_one_i own_one_i h
    · refine own_aload K at_545 rfl rfl ?_
      refine own_iconst K at_547 own_ic2 rfl ?_
      refine own_iload K at_548 rfl rfl ?_
      refine own_iload K at_550 rfl rfl ?_
      refine own_aload K at_552 rfl rfl ?_
      refine own_iload K at_554 rfl rfl ?_
      refine own_bk h (fun q5 hq5 h => ?_)
      refine own_callS K at_556 own_w61 own_w62 own_w8 own_w63 (argsL := [.ref a14, .int (2 : Int32), .int i4, .int i5, .ref a8, .int i16]) (st := []) (by decide) (lenOf own_pd10 rfl) rfl (W := 0) (Nat.le_of_eq rfl) (by decide) (by decide) (cs1 := 10) (ss1 := 49) rfl rfl (by decide) (by decide) rfl rfl (m13_met hq5) (st1 := [.int q5.1]) rfl ?_
      refine own_zeq K at_559 h (pc1 := 590) (pc2 := 562) (by decide) rfl (fun h => ?_) (fun h => ?_)
      · exact m0_w590 K o0 o1 o2 o3 own_one_i own_one_i o6 o7 own_one_r o9 own_one_i o11 o12 o13 own_one_r own_one_i own_one_i own_one_i own_one_i h
      · refine own_aload K at_562 rfl rfl ?_
        refine own_iconst K at_564 own_ic3 rfl ?_
        refine own_iload K at_565 rfl rfl ?_
        refine own_iload K at_567 rfl rfl ?_
        refine own_aload K at_569 rfl rfl ?_
        refine own_iload K at_571 rfl rfl ?_
        refine own_bk h (fun q6 hq6 h => ?_)
        refine own_callS K at_573 own_w61 own_w62 own_w8 own_w63 (argsL := [.ref a14, .int (3 : Int32), .int i4, .int i5, .ref a8, .int i17]) (st := []) (by decide) (lenOf own_pd10 rfl) rfl (W := 0) (Nat.le_of_eq rfl) (by decide) (by decide) (cs1 := 10) (ss1 := 49) rfl rfl (by decide) (by decide) rfl rfl (m13_met hq6) (st1 := [.int q6.1]) rfl ?_
        refine own_zeq K at_576 h (pc1 := 590) (pc2 := 579) (by decide) rfl (fun h => ?_) (fun h => ?_)
        · exact m0_w590 K o0 o1 o2 o3 own_one_i own_one_i o6 o7 own_one_r o9 own_one_i o11 o12 o13 own_one_r own_one_i own_one_i own_one_i own_one_i h
        · exact m0_w579 K o0 o1 o2 o3 own_one_i own_one_i o6 o7 own_one_r o9 o11 o12 o13 own_one_r own_one_i own_one_i own_one_i h
set_option maxRecDepth 65536 in
def m0_b489 (i4 : Int32) (i5 : Int32) (a8 : Nat) (i10 : Int32) (a14 : Nat) (i15 : Int32) (i16 : Int32) (i17 : Int32) (t0 : Int32) (t1 : Int32) (M : own_Mem) : Option (Int32 × own_Mem) := (m12 t1 M).bind fun q7 => (own_ldI 100 q7.2 a14 (3 : Int32)).bind fun x8 => if x8 = (-1 : Int32) then (m0_b506 i4 i5 a8 i10 a14 i15 i16 i17 (t0 + q7.1) (1 : Int32) q7.2) else (m0_b506 i4 i5 a8 i10 a14 i15 i16 i17 (t0 + q7.1) (0 : Int32) q7.2)
set_option maxRecDepth 65536 in
set_option maxHeartbeats 4000000 in
theorem m0_w489 {C : own_Ctx} (K : own_K C code maxLocals "com/example/gatherline/gatherline/RunSplitFindPinLaw" ret "law" room_1) {i4 : Int32} {i5 : Int32} {a8 : Nat} {i10 : Int32} {a14 : Nat} {i15 : Int32} {i16 : Int32} {i17 : Int32} {t0 : Int32} {t1 : Int32} {z0 : Slot} {z1 : Slot} {z2 : Slot} {z3 : Slot} {z6 : Slot} {z7 : Slot} {z9 : Slot} {z11 : Slot} {z12 : Slot} {z13 : Slot} (o0 : own_One z0) (o1 : own_One z1) (o2 : own_One z2) (o3 : own_One z3) (o6 : own_One z6) (o7 : own_One z7) (o9 : own_One z9) (o11 : own_One z11) (o12 : own_One z12) (o13 : own_One z13) {M : own_Mem} {r : Int32 × own_Mem} (h : m0_b489 i4 i5 a8 i10 a14 i15 i16 i17 t0 t1 M = some r) : own_W C (some (.int r.1)) r.2 M 10 49 489 [z0, z1, z2, z3, .val (.int i4), .val (.int i5), z6, z7, .val (.ref (own_n C + a8)), z9, .val (.int i10), z11, z12, z13, .val (.ref (own_n C + a14)), .val (.int i15), .val (.int i16), .val (.int i17), .unset] [.int t1, .int t0] := by
  unfold m0_b489 at h
  refine own_bk h (fun q7 hq7 h => ?_)
  refine own_callS K at_489 own_w58 own_w59 own_w8 own_w60 (argsL := [.int t1]) (st := [.int t0]) (by decide) (lenOf own_pd9 rfl) rfl (W := 1) (Nat.le_of_eq rfl) (by decide) (by decide) (cs1 := 10) (ss1 := 49) rfl rfl (by decide) (by decide) rfl rfl (m12_met hq7) (st1 := [.int q7.1, .int t0]) rfl ?_
  refine own_iadd K at_492 rfl ?_
  refine own_aload K at_493 rfl rfl ?_
  refine own_iconst K at_495 own_ic3 rfl ?_
  refine own_iaload K at_496 h rfl (fun x8 h => ?_)
  refine own_iconst K at_497 own_icm1 rfl ?_
  refine own_ine K at_498 h (pc1 := 505) (pc2 := 501) (by decide) rfl (fun h => ?_) (fun h => ?_)
  · refine own_iconst K at_505 own_ic0 rfl ?_
    exact m0_w506 K o0 o1 o2 o3 o6 o7 o9 o11 o12 o13 h
  · refine own_iconst K at_501 own_ic1 rfl ?_
    refine own_goto K at_502 (pc' := 506) (by decide) ?_
    exact m0_w506 K o0 o1 o2 o3 o6 o7 o9 o11 o12 o13 h
set_option maxRecDepth 65536 in
def m0_b472 (i4 : Int32) (i5 : Int32) (a8 : Nat) (i10 : Int32) (a14 : Nat) (i15 : Int32) (i16 : Int32) (i17 : Int32) (t0 : Int32) (t1 : Int32) (M : own_Mem) : Option (Int32 × own_Mem) := (m12 t1 M).bind fun q9 => (own_ldI 100 q9.2 a14 (2 : Int32)).bind fun x10 => if x10 = (-1 : Int32) then (m0_b489 i4 i5 a8 i10 a14 i15 i16 i17 (t0 + q9.1) (1 : Int32) q9.2) else (m0_b489 i4 i5 a8 i10 a14 i15 i16 i17 (t0 + q9.1) (0 : Int32) q9.2)
set_option maxRecDepth 65536 in
set_option maxHeartbeats 4000000 in
theorem m0_w472 {C : own_Ctx} (K : own_K C code maxLocals "com/example/gatherline/gatherline/RunSplitFindPinLaw" ret "law" room_1) {i4 : Int32} {i5 : Int32} {a8 : Nat} {i10 : Int32} {a14 : Nat} {i15 : Int32} {i16 : Int32} {i17 : Int32} {t0 : Int32} {t1 : Int32} {z0 : Slot} {z1 : Slot} {z2 : Slot} {z3 : Slot} {z6 : Slot} {z7 : Slot} {z9 : Slot} {z11 : Slot} {z12 : Slot} {z13 : Slot} (o0 : own_One z0) (o1 : own_One z1) (o2 : own_One z2) (o3 : own_One z3) (o6 : own_One z6) (o7 : own_One z7) (o9 : own_One z9) (o11 : own_One z11) (o12 : own_One z12) (o13 : own_One z13) {M : own_Mem} {r : Int32 × own_Mem} (h : m0_b472 i4 i5 a8 i10 a14 i15 i16 i17 t0 t1 M = some r) : own_W C (some (.int r.1)) r.2 M 10 49 472 [z0, z1, z2, z3, .val (.int i4), .val (.int i5), z6, z7, .val (.ref (own_n C + a8)), z9, .val (.int i10), z11, z12, z13, .val (.ref (own_n C + a14)), .val (.int i15), .val (.int i16), .val (.int i17), .unset] [.int t1, .int t0] := by
  unfold m0_b472 at h
  refine own_bk h (fun q9 hq9 h => ?_)
  refine own_callS K at_472 own_w58 own_w59 own_w8 own_w60 (argsL := [.int t1]) (st := [.int t0]) (by decide) (lenOf own_pd9 rfl) rfl (W := 1) (Nat.le_of_eq rfl) (by decide) (by decide) (cs1 := 10) (ss1 := 49) rfl rfl (by decide) (by decide) rfl rfl (m12_met hq9) (st1 := [.int q9.1, .int t0]) rfl ?_
  refine own_iadd K at_475 rfl ?_
  refine own_aload K at_476 rfl rfl ?_
  refine own_iconst K at_478 own_ic2 rfl ?_
  refine own_iaload K at_479 h rfl (fun x10 h => ?_)
  refine own_iconst K at_480 own_icm1 rfl ?_
  refine own_ine K at_481 h (pc1 := 488) (pc2 := 484) (by decide) rfl (fun h => ?_) (fun h => ?_)
  · refine own_iconst K at_488 own_ic0 rfl ?_
    exact m0_w489 K o0 o1 o2 o3 o6 o7 o9 o11 o12 o13 h
  · refine own_iconst K at_484 own_ic1 rfl ?_
    refine own_goto K at_485 (pc' := 489) (by decide) ?_
    exact m0_w489 K o0 o1 o2 o3 o6 o7 o9 o11 o12 o13 h
set_option maxRecDepth 65536 in
def m0_b456 (i4 : Int32) (i5 : Int32) (a8 : Nat) (i10 : Int32) (a14 : Nat) (i15 : Int32) (i16 : Int32) (i17 : Int32) (t0 : Int32) (M : own_Mem) : Option (Int32 × own_Mem) := (m12 t0 M).bind fun q11 => (own_ldI 100 q11.2 a14 (1 : Int32)).bind fun x12 => if x12 = (-1 : Int32) then (m0_b472 i4 i5 a8 i10 a14 i15 i16 i17 q11.1 (1 : Int32) q11.2) else (m0_b472 i4 i5 a8 i10 a14 i15 i16 i17 q11.1 (0 : Int32) q11.2)
set_option maxRecDepth 65536 in
set_option maxHeartbeats 4000000 in
theorem m0_w456 {C : own_Ctx} (K : own_K C code maxLocals "com/example/gatherline/gatherline/RunSplitFindPinLaw" ret "law" room_1) {i4 : Int32} {i5 : Int32} {a8 : Nat} {i10 : Int32} {a14 : Nat} {i15 : Int32} {i16 : Int32} {i17 : Int32} {t0 : Int32} {z0 : Slot} {z1 : Slot} {z2 : Slot} {z3 : Slot} {z6 : Slot} {z7 : Slot} {z9 : Slot} {z11 : Slot} {z12 : Slot} {z13 : Slot} (o0 : own_One z0) (o1 : own_One z1) (o2 : own_One z2) (o3 : own_One z3) (o6 : own_One z6) (o7 : own_One z7) (o9 : own_One z9) (o11 : own_One z11) (o12 : own_One z12) (o13 : own_One z13) {M : own_Mem} {r : Int32 × own_Mem} (h : m0_b456 i4 i5 a8 i10 a14 i15 i16 i17 t0 M = some r) : own_W C (some (.int r.1)) r.2 M 10 49 456 [z0, z1, z2, z3, .val (.int i4), .val (.int i5), z6, z7, .val (.ref (own_n C + a8)), z9, .val (.int i10), z11, z12, z13, .val (.ref (own_n C + a14)), .val (.int i15), .val (.int i16), .val (.int i17), .unset] [.int t0] := by
  unfold m0_b456 at h
  refine own_bk h (fun q11 hq11 h => ?_)
  refine own_callS K at_456 own_w58 own_w59 own_w8 own_w60 (argsL := [.int t0]) (st := []) (by decide) (lenOf own_pd9 rfl) rfl (W := 0) (Nat.le_of_eq rfl) (by decide) (by decide) (cs1 := 10) (ss1 := 49) rfl rfl (by decide) (by decide) rfl rfl (m12_met hq11) (st1 := [.int q11.1]) rfl ?_
  refine own_aload K at_459 rfl rfl ?_
  refine own_iconst K at_461 own_ic1 rfl ?_
  refine own_iaload K at_462 h rfl (fun x12 h => ?_)
  refine own_iconst K at_463 own_icm1 rfl ?_
  refine own_ine K at_464 h (pc1 := 471) (pc2 := 467) (by decide) rfl (fun h => ?_) (fun h => ?_)
  · refine own_iconst K at_471 own_ic0 rfl ?_
    exact m0_w472 K o0 o1 o2 o3 o6 o7 o9 o11 o12 o13 h
  · refine own_iconst K at_467 own_ic1 rfl ?_
    refine own_goto K at_468 (pc' := 472) (by decide) ?_
    exact m0_w472 K o0 o1 o2 o3 o6 o7 o9 o11 o12 o13 h
set_option maxRecDepth 65536 in
def m0_b403 (i4 : Int32) (i5 : Int32) (a8 : Nat) (i10 : Int32) (a14 : Nat) (t0 : Nat) (t1 : Int32) (t2 : Int32) (M : own_Mem) : Option (Int32 × own_Mem) := (own_sto 100 M t0 t1 (.int t2)).bind fun M13 => (m11 a14 (0 : Int32) M13).bind fun q14 => (m12 q14.1 q14.2).bind fun q15 => (m11 a14 (1 : Int32) q15.2).bind fun q16 => (m12 q16.1 q16.2).bind fun q17 => own_let (q15.1 + q17.1) fun x18 => (m11 a14 (2 : Int32) q17.2).bind fun q19 => (m12 q19.1 q19.2).bind fun q20 => own_let (x18 + q20.1) fun x21 => (own_ldI 100 q20.2 a14 (0 : Int32)).bind fun x22 => if x22 = (-1 : Int32) then (m0_b456 i4 i5 a8 i10 a14 q15.1 x18 x21 (1 : Int32) q20.2) else (m0_b456 i4 i5 a8 i10 a14 q15.1 x18 x21 (0 : Int32) q20.2)
set_option maxRecDepth 65536 in
set_option maxHeartbeats 4000000 in
theorem m0_w403 {C : own_Ctx} (K : own_K C code maxLocals "com/example/gatherline/gatherline/RunSplitFindPinLaw" ret "law" room_1) {i4 : Int32} {i5 : Int32} {a8 : Nat} {i10 : Int32} {a14 : Nat} {t0 : Nat} {t1 : Int32} {t2 : Int32} {z0 : Slot} {z1 : Slot} {z2 : Slot} {z3 : Slot} {z6 : Slot} {z7 : Slot} {z9 : Slot} {z11 : Slot} {z12 : Slot} {z13 : Slot} (o0 : own_One z0) (o1 : own_One z1) (o2 : own_One z2) (o3 : own_One z3) (o6 : own_One z6) (o7 : own_One z7) (o9 : own_One z9) (o11 : own_One z11) (o12 : own_One z12) (o13 : own_One z13) {M : own_Mem} {r : Int32 × own_Mem} (h : m0_b403 i4 i5 a8 i10 a14 t0 t1 t2 M = some r) : own_W C (some (.int r.1)) r.2 M 10 49 403 [z0, z1, z2, z3, .val (.int i4), .val (.int i5), z6, z7, .val (.ref (own_n C + a8)), z9, .val (.int i10), z11, z12, z13, .val (.ref (own_n C + a14)), .unset, .unset, .unset, .unset] [.int t2, .int t1, .ref (own_n C + t0)] := by
  unfold m0_b403 at h
  refine own_iastore K at_403 h rfl (fun M13 h => ?_)
  refine own_aload K at_404 rfl rfl ?_
  refine own_iconst K at_406 own_ic0 rfl ?_
  refine own_bk h (fun q14 hq14 h => ?_)
  refine own_callS K at_407 own_w55 own_w56 own_w8 own_w57 (argsL := [.ref a14, .int (0 : Int32)]) (st := []) (by decide) (lenOf own_pd4 rfl) rfl (W := 0) (Nat.le_of_eq rfl) (by decide) (by decide) (cs1 := 10) (ss1 := 49) rfl rfl (by decide) (by decide) rfl rfl (m11_met hq14) (st1 := [.int q14.1]) rfl ?_
  refine own_bk h (fun q15 hq15 h => ?_)
  refine own_callS K at_410 own_w58 own_w59 own_w8 own_w60 (argsL := [.int q14.1]) (st := []) (by decide) (lenOf own_pd9 rfl) rfl (W := 0) (Nat.le_of_eq rfl) (by decide) (by decide) (cs1 := 10) (ss1 := 49) rfl rfl (by decide) (by decide) rfl rfl (m12_met hq15) (st1 := [.int q15.1]) rfl ?_
  refine own_istore K at_413 (Ls' := [z0, z1, z2, z3, .val (.int i4), .val (.int i5), z6, z7, .val (.ref (own_n C + a8)), z9, .val (.int i10), z11, z12, z13, .val (.ref (own_n C + a14)), .val (.int q15.1), .unset, .unset, .unset]) rfl rfl ?_
  refine own_iload K at_415 rfl rfl ?_
  refine own_aload K at_417 rfl rfl ?_
  refine own_iconst K at_419 own_ic1 rfl ?_
  refine own_bk h (fun q16 hq16 h => ?_)
  refine own_callS K at_420 own_w55 own_w56 own_w8 own_w57 (argsL := [.ref a14, .int (1 : Int32)]) (st := [.int q15.1]) (by decide) (lenOf own_pd4 rfl) rfl (W := 1) (Nat.le_of_eq rfl) (by decide) (by decide) (cs1 := 10) (ss1 := 49) rfl rfl (by decide) (by decide) rfl rfl (m11_met hq16) (st1 := [.int q16.1, .int q15.1]) rfl ?_
  refine own_bk h (fun q17 hq17 h => ?_)
  refine own_callS K at_423 own_w58 own_w59 own_w8 own_w60 (argsL := [.int q16.1]) (st := [.int q15.1]) (by decide) (lenOf own_pd9 rfl) rfl (W := 1) (Nat.le_of_eq rfl) (by decide) (by decide) (cs1 := 10) (ss1 := 49) rfl rfl (by decide) (by decide) rfl rfl (m12_met hq17) (st1 := [.int q17.1, .int q15.1]) rfl ?_
  refine own_iadd K at_426 rfl ?_
  refine own_letI h (fun x18 h => ?_)
  refine own_istore K at_427 (Ls' := [z0, z1, z2, z3, .val (.int i4), .val (.int i5), z6, z7, .val (.ref (own_n C + a8)), z9, .val (.int i10), z11, z12, z13, .val (.ref (own_n C + a14)), .val (.int q15.1), .val (.int x18), .unset, .unset]) rfl rfl ?_
  refine own_iload K at_429 rfl rfl ?_
  refine own_aload K at_431 rfl rfl ?_
  refine own_iconst K at_433 own_ic2 rfl ?_
  refine own_bk h (fun q19 hq19 h => ?_)
  refine own_callS K at_434 own_w55 own_w56 own_w8 own_w57 (argsL := [.ref a14, .int (2 : Int32)]) (st := [.int x18]) (by decide) (lenOf own_pd4 rfl) rfl (W := 1) (Nat.le_of_eq rfl) (by decide) (by decide) (cs1 := 10) (ss1 := 49) rfl rfl (by decide) (by decide) rfl rfl (m11_met hq19) (st1 := [.int q19.1, .int x18]) rfl ?_
  refine own_bk h (fun q20 hq20 h => ?_)
  refine own_callS K at_437 own_w58 own_w59 own_w8 own_w60 (argsL := [.int q19.1]) (st := [.int x18]) (by decide) (lenOf own_pd9 rfl) rfl (W := 1) (Nat.le_of_eq rfl) (by decide) (by decide) (cs1 := 10) (ss1 := 49) rfl rfl (by decide) (by decide) rfl rfl (m12_met hq20) (st1 := [.int q20.1, .int x18]) rfl ?_
  refine own_iadd K at_440 rfl ?_
  refine own_letI h (fun x21 h => ?_)
  refine own_istore K at_441 (Ls' := [z0, z1, z2, z3, .val (.int i4), .val (.int i5), z6, z7, .val (.ref (own_n C + a8)), z9, .val (.int i10), z11, z12, z13, .val (.ref (own_n C + a14)), .val (.int q15.1), .val (.int x18), .val (.int x21), .unset]) rfl rfl ?_
  refine own_aload K at_443 rfl rfl ?_
  refine own_iconst K at_445 own_ic0 rfl ?_
  refine own_iaload K at_446 h rfl (fun x22 h => ?_)
  refine own_iconst K at_447 own_icm1 rfl ?_
  refine own_ine K at_448 h (pc1 := 455) (pc2 := 451) (by decide) rfl (fun h => ?_) (fun h => ?_)
  · refine own_iconst K at_455 own_ic0 rfl ?_
    exact m0_w456 K o0 o1 o2 o3 o6 o7 o9 o11 o12 o13 h
  · refine own_iconst K at_451 own_ic1 rfl ?_
    refine own_goto K at_452 (pc' := 456) (by decide) ?_
    exact m0_w456 K o0 o1 o2 o3 o6 o7 o9 o11 o12 o13 h
set_option maxRecDepth 65536 in
def m0_b384 (i4 : Int32) (i5 : Int32) (a8 : Nat) (i10 : Int32) (a13 : Nat) (a14 : Nat) (t0 : Nat) (t1 : Int32) (t2 : Int32) (M : own_Mem) : Option (Int32 × own_Mem) := (own_sto 100 M t0 t1 (.int t2)).bind fun M23 => if (3 : Int32) < i4 then ((own_ldI 100 M23 a13 (3 : Int32)).bind fun x24 => m0_b403 i4 i5 a8 i10 a14 a14 (3 : Int32) x24 M23) else (m0_b403 i4 i5 a8 i10 a14 a14 (3 : Int32) (-2 : Int32) M23)
set_option maxRecDepth 65536 in
set_option maxHeartbeats 4000000 in
theorem m0_w384 {C : own_Ctx} (K : own_K C code maxLocals "com/example/gatherline/gatherline/RunSplitFindPinLaw" ret "law" room_1) {i4 : Int32} {i5 : Int32} {a8 : Nat} {i10 : Int32} {a13 : Nat} {a14 : Nat} {t0 : Nat} {t1 : Int32} {t2 : Int32} {z0 : Slot} {z1 : Slot} {z2 : Slot} {z3 : Slot} {z6 : Slot} {z7 : Slot} {z9 : Slot} {z11 : Slot} {z12 : Slot} (o0 : own_One z0) (o1 : own_One z1) (o2 : own_One z2) (o3 : own_One z3) (o6 : own_One z6) (o7 : own_One z7) (o9 : own_One z9) (o11 : own_One z11) (o12 : own_One z12) {M : own_Mem} {r : Int32 × own_Mem} (h : m0_b384 i4 i5 a8 i10 a13 a14 t0 t1 t2 M = some r) : own_W C (some (.int r.1)) r.2 M 10 49 384 [z0, z1, z2, z3, .val (.int i4), .val (.int i5), z6, z7, .val (.ref (own_n C + a8)), z9, .val (.int i10), z11, z12, .val (.ref (own_n C + a13)), .val (.ref (own_n C + a14)), .unset, .unset, .unset, .unset] [.int t2, .int t1, .ref (own_n C + t0)] := by
  unfold m0_b384 at h
  refine own_iastore K at_384 h rfl (fun M23 h => ?_)
  refine own_aload K at_385 rfl rfl ?_
  refine own_iconst K at_387 own_ic3 rfl ?_
  refine own_iconst K at_388 own_ic3 rfl ?_
  refine own_iload K at_389 rfl rfl ?_
  refine own_ige K at_391 h (pc1 := 401) (pc2 := 394) (by decide) rfl (fun h => ?_) (fun h => ?_)
  · refine own_bipush K at_401 own_bim2 rfl ?_
    exact m0_w403 K o0 o1 o2 o3 o6 o7 o9 o11 o12 own_one_r h
  · refine own_aload K at_394 rfl rfl ?_
    refine own_iconst K at_396 own_ic3 rfl ?_
    refine own_iaload K at_397 h rfl (fun x24 h => ?_)
    refine own_goto K at_398 (pc' := 403) (by decide) ?_
    exact m0_w403 K o0 o1 o2 o3 o6 o7 o9 o11 o12 own_one_r h
set_option maxRecDepth 65536 in
def m0_b365 (i4 : Int32) (i5 : Int32) (a8 : Nat) (i10 : Int32) (a13 : Nat) (a14 : Nat) (t0 : Nat) (t1 : Int32) (t2 : Int32) (M : own_Mem) : Option (Int32 × own_Mem) := (own_sto 100 M t0 t1 (.int t2)).bind fun M25 => if (2 : Int32) < i4 then ((own_ldI 100 M25 a13 (2 : Int32)).bind fun x26 => m0_b384 i4 i5 a8 i10 a13 a14 a14 (2 : Int32) x26 M25) else (m0_b384 i4 i5 a8 i10 a13 a14 a14 (2 : Int32) (-2 : Int32) M25)
set_option maxRecDepth 65536 in
set_option maxHeartbeats 4000000 in
theorem m0_w365 {C : own_Ctx} (K : own_K C code maxLocals "com/example/gatherline/gatherline/RunSplitFindPinLaw" ret "law" room_1) {i4 : Int32} {i5 : Int32} {a8 : Nat} {i10 : Int32} {a13 : Nat} {a14 : Nat} {t0 : Nat} {t1 : Int32} {t2 : Int32} {z0 : Slot} {z1 : Slot} {z2 : Slot} {z3 : Slot} {z6 : Slot} {z7 : Slot} {z9 : Slot} {z11 : Slot} {z12 : Slot} (o0 : own_One z0) (o1 : own_One z1) (o2 : own_One z2) (o3 : own_One z3) (o6 : own_One z6) (o7 : own_One z7) (o9 : own_One z9) (o11 : own_One z11) (o12 : own_One z12) {M : own_Mem} {r : Int32 × own_Mem} (h : m0_b365 i4 i5 a8 i10 a13 a14 t0 t1 t2 M = some r) : own_W C (some (.int r.1)) r.2 M 10 49 365 [z0, z1, z2, z3, .val (.int i4), .val (.int i5), z6, z7, .val (.ref (own_n C + a8)), z9, .val (.int i10), z11, z12, .val (.ref (own_n C + a13)), .val (.ref (own_n C + a14)), .unset, .unset, .unset, .unset] [.int t2, .int t1, .ref (own_n C + t0)] := by
  unfold m0_b365 at h
  refine own_iastore K at_365 h rfl (fun M25 h => ?_)
  refine own_aload K at_366 rfl rfl ?_
  refine own_iconst K at_368 own_ic2 rfl ?_
  refine own_iconst K at_369 own_ic2 rfl ?_
  refine own_iload K at_370 rfl rfl ?_
  refine own_ige K at_372 h (pc1 := 382) (pc2 := 375) (by decide) rfl (fun h => ?_) (fun h => ?_)
  · refine own_bipush K at_382 own_bim2 rfl ?_
    exact m0_w384 K o0 o1 o2 o3 o6 o7 o9 o11 o12 h
  · refine own_aload K at_375 rfl rfl ?_
    refine own_iconst K at_377 own_ic2 rfl ?_
    refine own_iaload K at_378 h rfl (fun x26 h => ?_)
    refine own_goto K at_379 (pc' := 384) (by decide) ?_
    exact m0_w384 K o0 o1 o2 o3 o6 o7 o9 o11 o12 h
set_option maxRecDepth 65536 in
def m0_b346 (i4 : Int32) (i5 : Int32) (a8 : Nat) (i10 : Int32) (a13 : Nat) (a14 : Nat) (t0 : Nat) (t1 : Int32) (t2 : Int32) (M : own_Mem) : Option (Int32 × own_Mem) := (own_sto 100 M t0 t1 (.int t2)).bind fun M27 => if (1 : Int32) < i4 then ((own_ldI 100 M27 a13 (1 : Int32)).bind fun x28 => m0_b365 i4 i5 a8 i10 a13 a14 a14 (1 : Int32) x28 M27) else (m0_b365 i4 i5 a8 i10 a13 a14 a14 (1 : Int32) (-2 : Int32) M27)
set_option maxRecDepth 65536 in
set_option maxHeartbeats 4000000 in
theorem m0_w346 {C : own_Ctx} (K : own_K C code maxLocals "com/example/gatherline/gatherline/RunSplitFindPinLaw" ret "law" room_1) {i4 : Int32} {i5 : Int32} {a8 : Nat} {i10 : Int32} {a13 : Nat} {a14 : Nat} {t0 : Nat} {t1 : Int32} {t2 : Int32} {z0 : Slot} {z1 : Slot} {z2 : Slot} {z3 : Slot} {z6 : Slot} {z7 : Slot} {z9 : Slot} {z11 : Slot} {z12 : Slot} (o0 : own_One z0) (o1 : own_One z1) (o2 : own_One z2) (o3 : own_One z3) (o6 : own_One z6) (o7 : own_One z7) (o9 : own_One z9) (o11 : own_One z11) (o12 : own_One z12) {M : own_Mem} {r : Int32 × own_Mem} (h : m0_b346 i4 i5 a8 i10 a13 a14 t0 t1 t2 M = some r) : own_W C (some (.int r.1)) r.2 M 10 49 346 [z0, z1, z2, z3, .val (.int i4), .val (.int i5), z6, z7, .val (.ref (own_n C + a8)), z9, .val (.int i10), z11, z12, .val (.ref (own_n C + a13)), .val (.ref (own_n C + a14)), .unset, .unset, .unset, .unset] [.int t2, .int t1, .ref (own_n C + t0)] := by
  unfold m0_b346 at h
  refine own_iastore K at_346 h rfl (fun M27 h => ?_)
  refine own_aload K at_347 rfl rfl ?_
  refine own_iconst K at_349 own_ic1 rfl ?_
  refine own_iconst K at_350 own_ic1 rfl ?_
  refine own_iload K at_351 rfl rfl ?_
  refine own_ige K at_353 h (pc1 := 363) (pc2 := 356) (by decide) rfl (fun h => ?_) (fun h => ?_)
  · refine own_bipush K at_363 own_bim2 rfl ?_
    exact m0_w365 K o0 o1 o2 o3 o6 o7 o9 o11 o12 h
  · refine own_aload K at_356 rfl rfl ?_
    refine own_iconst K at_358 own_ic1 rfl ?_
    refine own_iaload K at_359 h rfl (fun x28 h => ?_)
    refine own_goto K at_360 (pc' := 365) (by decide) ?_
    exact m0_w365 K o0 o1 o2 o3 o6 o7 o9 o11 o12 h
set_option maxRecDepth 65536 in
def m0_b294 (i4 : Int32) (i5 : Int32) (a8 : Nat) (i10 : Int32) (a11 : Nat) (i12 : Int32) (t0 : Int32) (t1 : Int32) (M : own_Mem) : Option (Int32 × own_Mem) := if t0 = t1 then (if i12 = 0 then (some (nar .boolean (1 : Int32), M)) else ((own_at M 0 a11).bind fun u30 => (m9 a11 M).bind fun q29 => (own_len 100 q29.2 q29.1).bind fun x31 => if x31 = i4 then ((own_newA 100 4 (.int 0) q29.2 (4 : Int32)).bind fun q32 => if (0 : Int32) < i4 then ((own_ldI 100 q32.2 q29.1 (0 : Int32)).bind fun x33 => m0_b346 i4 i5 a8 i10 q29.1 q32.1 q32.1 (0 : Int32) x33 q32.2) else (m0_b346 i4 i5 a8 i10 q29.1 q32.1 q32.1 (0 : Int32) (-2 : Int32) q32.2)) else (some (nar .boolean (0 : Int32), q29.2)))) else (some (nar .boolean (0 : Int32), M))
set_option maxRecDepth 65536 in
set_option maxHeartbeats 4000000 in
theorem m0_w294 {C : own_Ctx} (K : own_K C code maxLocals "com/example/gatherline/gatherline/RunSplitFindPinLaw" ret "law" room_1) {i4 : Int32} {i5 : Int32} {a8 : Nat} {i10 : Int32} {a11 : Nat} {i12 : Int32} {t0 : Int32} {t1 : Int32} {z0 : Slot} {z1 : Slot} {z2 : Slot} {z3 : Slot} {z6 : Slot} {z7 : Slot} {z9 : Slot} (o0 : own_One z0) (o1 : own_One z1) (o2 : own_One z2) (o3 : own_One z3) (o6 : own_One z6) (o7 : own_One z7) (o9 : own_One z9) {M : own_Mem} {r : Int32 × own_Mem} (h : m0_b294 i4 i5 a8 i10 a11 i12 t0 t1 M = some r) : own_W C (some (.int r.1)) r.2 M 8 41 294 [z0, z1, z2, z3, .val (.int i4), .val (.int i5), z6, z7, .val (.ref (own_n C + a8)), z9, .val (.int i10), .val (.ref (own_n C + a11)), .val (.int i12), .unset, .unset, .unset, .unset, .unset, .unset] [.int t1, .int t0] := by
  unfold m0_b294 at h
  refine own_ieq K at_294 h (pc1 := 299) (pc2 := 297) (by decide) rfl (fun h => ?_) (fun h => ?_)
  · refine own_iload K at_299 rfl rfl ?_
    refine own_zne K at_301 h (pc1 := 306) (pc2 := 304) (by decide) rfl (fun h => ?_) (fun h => ?_)
    · refine own_aload K at_306 rfl rfl ?_
      refine own_bk h (fun u30 hu30 h => ?_)
      refine own_bk h (fun q29 hq29 h => ?_)
      refine own_callV K at_308 own_w46 own_w47 own_w49 own_w48 own_w18 own_w50 (own_cl0) hu30 (a := a11) (argsL := []) (st := []) (by decide) (lenOf own_pd11 rfl) rfl (W := 0) (Nat.le_of_eq rfl) (by decide) (by decide) (cs1 := 9) (ss1 := 45) rfl rfl (by decide) (by decide) rfl rfl (m9_met hq29) (st1 := [.ref (own_n C + q29.1)]) rfl ?_
      refine own_astore K at_311 (Ls' := [z0, z1, z2, z3, .val (.int i4), .val (.int i5), z6, z7, .val (.ref (own_n C + a8)), z9, .val (.int i10), .val (.ref (own_n C + a11)), .val (.int i12), .val (.ref (own_n C + q29.1)), .unset, .unset, .unset, .unset, .unset]) rfl rfl ?_
      refine own_aload K at_313 rfl rfl ?_
      refine own_alen K at_315 (t := 100) rfl h rfl (fun x31 h => ?_)
      refine own_iload K at_316 rfl rfl ?_
      refine own_ieq K at_318 h (pc1 := 323) (pc2 := 321) (by decide) rfl (fun h => ?_) (fun h => ?_)
      · refine own_iconst K at_323 own_ic4 rfl ?_
        refine own_na K at_324 own_w1 rfl rfl h (by decide) (cs1 := 10) (ss1 := 49) rfl rfl (by decide) (by decide) rfl (fun q32 h => ?_)
        refine own_astore K at_326 (Ls' := [z0, z1, z2, z3, .val (.int i4), .val (.int i5), z6, z7, .val (.ref (own_n C + a8)), z9, .val (.int i10), .val (.ref (own_n C + a11)), .val (.int i12), .val (.ref (own_n C + q29.1)), .val (.ref (own_n C + q32.1)), .unset, .unset, .unset, .unset]) rfl rfl ?_
        refine own_aload K at_328 rfl rfl ?_
        refine own_iconst K at_330 own_ic0 rfl ?_
        refine own_iconst K at_331 own_ic0 rfl ?_
        refine own_iload K at_332 rfl rfl ?_
        refine own_ige K at_334 h (pc1 := 344) (pc2 := 337) (by decide) rfl (fun h => ?_) (fun h => ?_)
        · refine own_bipush K at_344 own_bim2 rfl ?_
          exact m0_w346 K o0 o1 o2 o3 o6 o7 o9 own_one_r own_one_i h
        · refine own_aload K at_337 rfl rfl ?_
          refine own_iconst K at_339 own_ic0 rfl ?_
          refine own_iaload K at_340 h rfl (fun x33 h => ?_)
          refine own_goto K at_341 (pc' := 346) (by decide) ?_
          exact m0_w346 K o0 o1 o2 o3 o6 o7 o9 own_one_r own_one_i h
      · refine own_iconst K at_321 own_ic0 rfl ?_
        exact own_retN K at_322 (by simp) h
    · refine own_iconst K at_304 own_ic1 rfl ?_
      exact own_retN K at_305 (by simp) h
  · refine own_iconst K at_297 own_ic0 rfl ?_
    exact own_retN K at_298 (by simp) h
set_option maxRecDepth 65536 in
def m0_b233 (i4 : Int32) (i5 : Int32) (i6 : Int32) (a8 : Nat) (a9 : Nat) (M : own_Mem) : Option (Int32 × own_Mem) := (own_ldI 100 M a8 (4 : Int32)).bind fun x34 => (m3 a9 (4 : Int32) x34 i5 M).bind fun q35 => (own_sto 100 q35.2 a9 (4 : Int32) (.int q35.1)).bind fun M36 => (own_ldI 100 M36 a9 i4).bind fun x37 => (own_newO 0 own_V0 M36).bind fun q38 => (m5 q38.1 i4 i5 q38.2).bind fun q39 => (own_at q39.2 0 q38.1).bind fun u41 => (m7 q38.1 a8 i6 q39.2).bind fun q40 => if i6 < x37 then (m0_b294 i4 i5 a8 x37 q38.1 q40.1 q40.1 (0 : Int32) q40.2) else (m0_b294 i4 i5 a8 x37 q38.1 q40.1 q40.1 (1 : Int32) q40.2)
set_option maxRecDepth 65536 in
set_option maxHeartbeats 4000000 in
theorem m0_w233 {C : own_Ctx} (K : own_K C code maxLocals "com/example/gatherline/gatherline/RunSplitFindPinLaw" ret "law" room_1) {i4 : Int32} {i5 : Int32} {i6 : Int32} {a8 : Nat} {a9 : Nat} {z0 : Slot} {z1 : Slot} {z2 : Slot} {z3 : Slot} {z7 : Slot} (o0 : own_One z0) (o1 : own_One z1) (o2 : own_One z2) (o3 : own_One z3) (o7 : own_One z7) {M : own_Mem} {r : Int32 × own_Mem} (h : m0_b233 i4 i5 i6 a8 a9 M = some r) : own_W C (some (.int r.1)) r.2 M 3 15 233 [z0, z1, z2, z3, .val (.int i4), .val (.int i5), .val (.int i6), z7, .val (.ref (own_n C + a8)), .val (.ref (own_n C + a9)), .unset, .unset, .unset, .unset, .unset, .unset, .unset, .unset, .unset] [] := by
  unfold m0_b233 at h
  refine own_aload K at_233 rfl rfl ?_
  refine own_iconst K at_235 own_ic4 rfl ?_
  refine own_aload K at_236 rfl rfl ?_
  refine own_iconst K at_238 own_ic4 rfl ?_
  refine own_aload K at_239 rfl rfl ?_
  refine own_iconst K at_241 own_ic4 rfl ?_
  refine own_iaload K at_242 h rfl (fun x34 h => ?_)
  refine own_iload K at_243 rfl rfl ?_
  refine own_bk h (fun q35 hq35 h => ?_)
  refine own_callS K at_245 own_w10 own_w11 own_w8 own_w12 (argsL := [.ref a9, .int (4 : Int32), .int x34, .int i5]) (st := [.int (4 : Int32), .ref (own_n C + a9)]) (by decide) (lenOf own_pd12 rfl) rfl (W := 2) (Nat.le_of_eq rfl) (by decide) (by decide) (cs1 := 3) (ss1 := 15) rfl rfl (by decide) (by decide) rfl rfl (m3_met hq35) (st1 := [.int q35.1, .int (4 : Int32), .ref (own_n C + a9)]) rfl ?_
  refine own_iastore K at_248 h rfl (fun M36 h => ?_)
  refine own_aload K at_249 rfl rfl ?_
  refine own_iload K at_251 rfl rfl ?_
  refine own_iaload K at_253 h rfl (fun x37 h => ?_)
  refine own_istore K at_254 (Ls' := [z0, z1, z2, z3, .val (.int i4), .val (.int i5), .val (.int i6), z7, .val (.ref (own_n C + a8)), .val (.ref (own_n C + a9)), .val (.int x37), .unset, .unset, .unset, .unset, .unset, .unset, .unset, .unset]) rfl rfl ?_
  refine own_new K at_256 own_w16 own_w17 own_w18 (own_cl0) own_dv0 h (cs1 := 4) (ss1 := 21) rfl rfl (by decide) (by decide) rfl (fun q38 h => ?_)
  refine own_dup K at_259 rfl rfl ?_
  refine own_iload K at_260 rfl rfl ?_
  refine own_iload K at_262 rfl rfl ?_
  refine own_bk h (fun q39 hq39 h => ?_)
  refine own_callI K at_264 rfl own_w19 own_w20 own_w18 own_w21 (a := q38.1) (argsL := [.int i4, .int i5]) (st := [.ref (own_n C + q38.1)]) (by decide) (lenOf own_pd13 rfl) rfl (W := 1) (Nat.le_of_eq rfl) (by decide) (by decide) (cs1 := 8) (ss1 := 41) rfl rfl (by decide) (by decide) rfl rfl (m5_met hq39) ?_
  refine own_astore K at_267 (Ls' := [z0, z1, z2, z3, .val (.int i4), .val (.int i5), .val (.int i6), z7, .val (.ref (own_n C + a8)), .val (.ref (own_n C + a9)), .val (.int x37), .val (.ref (own_n C + q38.1)), .unset, .unset, .unset, .unset, .unset, .unset, .unset]) rfl rfl ?_
  refine own_aload K at_269 rfl rfl ?_
  refine own_aload K at_271 rfl rfl ?_
  refine own_iload K at_273 rfl rfl ?_
  refine own_bk h (fun u41 hu41 h => ?_)
  refine own_bk h (fun q40 hq40 h => ?_)
  refine own_callV K at_275 own_w37 own_w38 own_w40 own_w39 own_w18 own_w41 (own_cl0) hu41 (a := q38.1) (argsL := [.ref a8, .int i6]) (st := []) (by decide) (lenOf own_pd4 rfl) rfl (W := 0) (Nat.le_of_eq rfl) (by decide) (by decide) (cs1 := 8) (ss1 := 41) rfl rfl (by decide) (by decide) rfl rfl (m7_met hq40) (st1 := [.int q40.1]) rfl ?_
  refine own_istore K at_278 (Ls' := [z0, z1, z2, z3, .val (.int i4), .val (.int i5), .val (.int i6), z7, .val (.ref (own_n C + a8)), .val (.ref (own_n C + a9)), .val (.int x37), .val (.ref (own_n C + q38.1)), .val (.int q40.1), .unset, .unset, .unset, .unset, .unset, .unset]) rfl rfl ?_
  refine own_iload K at_280 rfl rfl ?_
  refine own_iload K at_282 rfl rfl ?_
  refine own_iload K at_284 rfl rfl ?_
  refine own_igt K at_286 h (pc1 := 293) (pc2 := 289) (by decide) rfl (fun h => ?_) (fun h => ?_)
  · refine own_iconst K at_293 own_ic0 rfl ?_
    exact m0_w294 K o0 o1 o2 o3 own_one_i o7 own_one_r h
  · refine own_iconst K at_289 own_ic1 rfl ?_
    refine own_goto K at_290 (pc' := 294) (by decide) ?_
    exact m0_w294 K o0 o1 o2 o3 own_one_i o7 own_one_r h
set_option maxRecDepth 65536 in
def m0_b175 (i4 : Int32) (i5 : Int32) (i6 : Int32) (a8 : Nat) (M : own_Mem) : Option (Int32 × own_Mem) := (own_newA 100 5 (.int 0) M (5 : Int32)).bind fun q42 => (own_sto 100 q42.2 q42.1 (0 : Int32) (.int (0 : Int32))).bind fun M43 => (own_ldI 100 M43 a8 (1 : Int32)).bind fun x44 => (m3 q42.1 (1 : Int32) x44 i5 M43).bind fun q45 => (own_sto 100 q45.2 q42.1 (1 : Int32) (.int q45.1)).bind fun M46 => (own_ldI 100 M46 a8 (2 : Int32)).bind fun x47 => (m3 q42.1 (2 : Int32) x47 i5 M46).bind fun q48 => (own_sto 100 q48.2 q42.1 (2 : Int32) (.int q48.1)).bind fun M49 => (own_ldI 100 M49 a8 (3 : Int32)).bind fun x50 => (m3 q42.1 (3 : Int32) x50 i5 M49).bind fun q51 => (own_sto 100 q51.2 q42.1 (3 : Int32) (.int q51.1)).bind fun M52 => m0_b233 i4 i5 i6 a8 q42.1 M52
set_option maxRecDepth 65536 in
set_option maxHeartbeats 4000000 in
theorem m0_w175 {C : own_Ctx} (K : own_K C code maxLocals "com/example/gatherline/gatherline/RunSplitFindPinLaw" ret "law" room_1) {i4 : Int32} {i5 : Int32} {i6 : Int32} {a8 : Nat} {z0 : Slot} {z1 : Slot} {z2 : Slot} {z3 : Slot} {z7 : Slot} (o0 : own_One z0) (o1 : own_One z1) (o2 : own_One z2) (o3 : own_One z3) (o7 : own_One z7) {M : own_Mem} {r : Int32 × own_Mem} (h : m0_b175 i4 i5 i6 a8 M = some r) : own_W C (some (.int r.1)) r.2 M 2 10 175 [z0, z1, z2, z3, .val (.int i4), .val (.int i5), .val (.int i6), z7, .val (.ref (own_n C + a8)), .unset, .unset, .unset, .unset, .unset, .unset, .unset, .unset, .unset, .unset] [] := by
  unfold m0_b175 at h
  refine own_iconst K at_175 own_ic5 rfl ?_
  refine own_na K at_176 own_w1 rfl rfl h (by decide) (cs1 := 3) (ss1 := 15) rfl rfl (by decide) (by decide) rfl (fun q42 h => ?_)
  refine own_astore K at_178 (Ls' := [z0, z1, z2, z3, .val (.int i4), .val (.int i5), .val (.int i6), z7, .val (.ref (own_n C + a8)), .val (.ref (own_n C + q42.1)), .unset, .unset, .unset, .unset, .unset, .unset, .unset, .unset, .unset]) rfl rfl ?_
  refine own_aload K at_180 rfl rfl ?_
  refine own_iconst K at_182 own_ic0 rfl ?_
  refine own_iconst K at_183 own_ic0 rfl ?_
  refine own_iastore K at_184 h rfl (fun M43 h => ?_)
  refine own_aload K at_185 rfl rfl ?_
  refine own_iconst K at_187 own_ic1 rfl ?_
  refine own_aload K at_188 rfl rfl ?_
  refine own_iconst K at_190 own_ic1 rfl ?_
  refine own_aload K at_191 rfl rfl ?_
  refine own_iconst K at_193 own_ic1 rfl ?_
  refine own_iaload K at_194 h rfl (fun x44 h => ?_)
  refine own_iload K at_195 rfl rfl ?_
  refine own_bk h (fun q45 hq45 h => ?_)
  refine own_callS K at_197 own_w10 own_w11 own_w8 own_w12 (argsL := [.ref q42.1, .int (1 : Int32), .int x44, .int i5]) (st := [.int (1 : Int32), .ref (own_n C + q42.1)]) (by decide) (lenOf own_pd12 rfl) rfl (W := 2) (Nat.le_of_eq rfl) (by decide) (by decide) (cs1 := 3) (ss1 := 15) rfl rfl (by decide) (by decide) rfl rfl (m3_met hq45) (st1 := [.int q45.1, .int (1 : Int32), .ref (own_n C + q42.1)]) rfl ?_
  refine own_iastore K at_200 h rfl (fun M46 h => ?_)
  refine own_aload K at_201 rfl rfl ?_
  refine own_iconst K at_203 own_ic2 rfl ?_
  refine own_aload K at_204 rfl rfl ?_
  refine own_iconst K at_206 own_ic2 rfl ?_
  refine own_aload K at_207 rfl rfl ?_
  refine own_iconst K at_209 own_ic2 rfl ?_
  refine own_iaload K at_210 h rfl (fun x47 h => ?_)
  refine own_iload K at_211 rfl rfl ?_
  refine own_bk h (fun q48 hq48 h => ?_)
  refine own_callS K at_213 own_w10 own_w11 own_w8 own_w12 (argsL := [.ref q42.1, .int (2 : Int32), .int x47, .int i5]) (st := [.int (2 : Int32), .ref (own_n C + q42.1)]) (by decide) (lenOf own_pd12 rfl) rfl (W := 2) (Nat.le_of_eq rfl) (by decide) (by decide) (cs1 := 3) (ss1 := 15) rfl rfl (by decide) (by decide) rfl rfl (m3_met hq48) (st1 := [.int q48.1, .int (2 : Int32), .ref (own_n C + q42.1)]) rfl ?_
  refine own_iastore K at_216 h rfl (fun M49 h => ?_)
  refine own_aload K at_217 rfl rfl ?_
  refine own_iconst K at_219 own_ic3 rfl ?_
  refine own_aload K at_220 rfl rfl ?_
  refine own_iconst K at_222 own_ic3 rfl ?_
  refine own_aload K at_223 rfl rfl ?_
  refine own_iconst K at_225 own_ic3 rfl ?_
  refine own_iaload K at_226 h rfl (fun x50 h => ?_)
  refine own_iload K at_227 rfl rfl ?_
  refine own_bk h (fun q51 hq51 h => ?_)
  refine own_callS K at_229 own_w10 own_w11 own_w8 own_w12 (argsL := [.ref q42.1, .int (3 : Int32), .int x50, .int i5]) (st := [.int (3 : Int32), .ref (own_n C + q42.1)]) (by decide) (lenOf own_pd12 rfl) rfl (W := 2) (Nat.le_of_eq rfl) (by decide) (by decide) (cs1 := 3) (ss1 := 15) rfl rfl (by decide) (by decide) rfl rfl (m3_met hq51) (st1 := [.int q51.1, .int (3 : Int32), .ref (own_n C + q42.1)]) rfl ?_
  refine own_iastore K at_232 h rfl (fun M52 h => ?_)
  exact m0_w233 K o0 o1 o2 o3 o7 h
set_option maxRecDepth 65536 in
def m0_b121 (i4 : Int32) (i5 : Int32) (i6 : Int32) (a7 : Nat) (a8 : Nat) (M : own_Mem) : Option (Int32 × own_Mem) := (own_sto 100 M a8 (0 : Int32) (.int (2147483647 : Int32))).bind fun M53 => (m2 a7 (1 : Int32) i5 M53).bind fun q54 => (own_sto 100 q54.2 a8 (1 : Int32) (.int q54.1)).bind fun M55 => (m2 a7 (2 : Int32) i5 M55).bind fun q56 => (own_sto 100 q56.2 a8 (2 : Int32) (.int q56.1)).bind fun M57 => (m2 a7 (3 : Int32) i5 M57).bind fun q58 => (own_sto 100 q58.2 a8 (3 : Int32) (.int q58.1)).bind fun M59 => (m2 a7 (4 : Int32) i5 M59).bind fun q60 => (own_sto 100 q60.2 a8 (4 : Int32) (.int q60.1)).bind fun M61 => m0_b175 i4 i5 i6 a8 M61
set_option maxRecDepth 65536 in
set_option maxHeartbeats 4000000 in
theorem m0_w121 {C : own_Ctx} (K : own_K C code maxLocals "com/example/gatherline/gatherline/RunSplitFindPinLaw" ret "law" room_1) {i4 : Int32} {i5 : Int32} {i6 : Int32} {a7 : Nat} {a8 : Nat} {z0 : Slot} {z1 : Slot} {z2 : Slot} {z3 : Slot} (o0 : own_One z0) (o1 : own_One z1) (o2 : own_One z2) (o3 : own_One z3) {M : own_Mem} {r : Int32 × own_Mem} (h : m0_b121 i4 i5 i6 a7 a8 M = some r) : own_W C (some (.int r.1)) r.2 M 2 10 121 [z0, z1, z2, z3, .val (.int i4), .val (.int i5), .val (.int i6), .val (.ref (own_n C + a7)), .val (.ref (own_n C + a8)), .unset, .unset, .unset, .unset, .unset, .unset, .unset, .unset, .unset, .unset] [] := by
  unfold m0_b121 at h
  refine own_aload K at_121 rfl rfl ?_
  refine own_iconst K at_123 own_ic0 rfl ?_
  refine own_ldc K at_124 own_w0 rfl ?_
  refine own_iastore K at_126 h rfl (fun M53 h => ?_)
  refine own_aload K at_127 rfl rfl ?_
  refine own_iconst K at_129 own_ic1 rfl ?_
  refine own_aload K at_130 rfl rfl ?_
  refine own_iconst K at_132 own_ic1 rfl ?_
  refine own_iload K at_133 rfl rfl ?_
  refine own_bk h (fun q54 hq54 h => ?_)
  refine own_callS K at_135 own_w6 own_w7 own_w8 own_w9 (argsL := [.ref a7, .int (1 : Int32), .int i5]) (st := [.int (1 : Int32), .ref (own_n C + a8)]) (by decide) (lenOf own_pd14 rfl) rfl (W := 2) (Nat.le_of_eq rfl) (by decide) (by decide) (cs1 := 2) (ss1 := 10) rfl rfl (by decide) (by decide) rfl rfl (m2_met hq54) (st1 := [.int q54.1, .int (1 : Int32), .ref (own_n C + a8)]) rfl ?_
  refine own_iastore K at_138 h rfl (fun M55 h => ?_)
  refine own_aload K at_139 rfl rfl ?_
  refine own_iconst K at_141 own_ic2 rfl ?_
  refine own_aload K at_142 rfl rfl ?_
  refine own_iconst K at_144 own_ic2 rfl ?_
  refine own_iload K at_145 rfl rfl ?_
  refine own_bk h (fun q56 hq56 h => ?_)
  refine own_callS K at_147 own_w6 own_w7 own_w8 own_w9 (argsL := [.ref a7, .int (2 : Int32), .int i5]) (st := [.int (2 : Int32), .ref (own_n C + a8)]) (by decide) (lenOf own_pd14 rfl) rfl (W := 2) (Nat.le_of_eq rfl) (by decide) (by decide) (cs1 := 2) (ss1 := 10) rfl rfl (by decide) (by decide) rfl rfl (m2_met hq56) (st1 := [.int q56.1, .int (2 : Int32), .ref (own_n C + a8)]) rfl ?_
  refine own_iastore K at_150 h rfl (fun M57 h => ?_)
  refine own_aload K at_151 rfl rfl ?_
  refine own_iconst K at_153 own_ic3 rfl ?_
  refine own_aload K at_154 rfl rfl ?_
  refine own_iconst K at_156 own_ic3 rfl ?_
  refine own_iload K at_157 rfl rfl ?_
  refine own_bk h (fun q58 hq58 h => ?_)
  refine own_callS K at_159 own_w6 own_w7 own_w8 own_w9 (argsL := [.ref a7, .int (3 : Int32), .int i5]) (st := [.int (3 : Int32), .ref (own_n C + a8)]) (by decide) (lenOf own_pd14 rfl) rfl (W := 2) (Nat.le_of_eq rfl) (by decide) (by decide) (cs1 := 2) (ss1 := 10) rfl rfl (by decide) (by decide) rfl rfl (m2_met hq58) (st1 := [.int q58.1, .int (3 : Int32), .ref (own_n C + a8)]) rfl ?_
  refine own_iastore K at_162 h rfl (fun M59 h => ?_)
  refine own_aload K at_163 rfl rfl ?_
  refine own_iconst K at_165 own_ic4 rfl ?_
  refine own_aload K at_166 rfl rfl ?_
  refine own_iconst K at_168 own_ic4 rfl ?_
  refine own_iload K at_169 rfl rfl ?_
  refine own_bk h (fun q60 hq60 h => ?_)
  refine own_callS K at_171 own_w6 own_w7 own_w8 own_w9 (argsL := [.ref a7, .int (4 : Int32), .int i5]) (st := [.int (4 : Int32), .ref (own_n C + a8)]) (by decide) (lenOf own_pd14 rfl) rfl (W := 2) (Nat.le_of_eq rfl) (by decide) (by decide) (cs1 := 2) (ss1 := 10) rfl rfl (by decide) (by decide) rfl rfl (m2_met hq60) (st1 := [.int q60.1, .int (4 : Int32), .ref (own_n C + a8)]) rfl ?_
  refine own_iastore K at_174 h rfl (fun M61 h => ?_)
  exact m0_w175 K o0 o1 o2 o3 own_one_r h
set_option maxRecDepth 65536 in
def m0_b79 (i2 : Int32) (i4 : Int32) (i5 : Int32) (i6 : Int32) (a7 : Nat) (M : own_Mem) : Option (Int32 × own_Mem) := (own_ldI 100 M a7 (2 : Int32)).bind fun x62 => (m1 (3 : Int32) (x62 + ((own_ushr i2 (4 : Int32)) &&& (3 : Int32))) M).bind fun q63 => (own_sto 100 q63.2 a7 (3 : Int32) (.int q63.1)).bind fun M64 => (own_ldI 100 M64 a7 (3 : Int32)).bind fun x65 => (m1 (4 : Int32) (x65 + ((own_ushr i2 (6 : Int32)) &&& (3 : Int32))) M64).bind fun q66 => (own_sto 100 q66.2 a7 (4 : Int32) (.int q66.1)).bind fun M67 => (own_newA 100 5 (.int 0) M67 (5 : Int32)).bind fun q68 => m0_b121 i4 i5 i6 a7 q68.1 q68.2
set_option maxRecDepth 65536 in
set_option maxHeartbeats 4000000 in
theorem m0_w79 {C : own_Ctx} (K : own_K C code maxLocals "com/example/gatherline/gatherline/RunSplitFindPinLaw" ret "law" room_1) {i2 : Int32} {i4 : Int32} {i5 : Int32} {i6 : Int32} {a7 : Nat} {z0 : Slot} {z1 : Slot} {z3 : Slot} (o0 : own_One z0) (o1 : own_One z1) (o3 : own_One z3) {M : own_Mem} {r : Int32 × own_Mem} (h : m0_b79 i2 i4 i5 i6 a7 M = some r) : own_W C (some (.int r.1)) r.2 M 1 5 79 [z0, z1, .val (.int i2), z3, .val (.int i4), .val (.int i5), .val (.int i6), .val (.ref (own_n C + a7)), .unset, .unset, .unset, .unset, .unset, .unset, .unset, .unset, .unset, .unset, .unset] [] := by
  unfold m0_b79 at h
  refine own_aload K at_79 rfl rfl ?_
  refine own_iconst K at_81 own_ic3 rfl ?_
  refine own_iconst K at_82 own_ic3 rfl ?_
  refine own_aload K at_83 rfl rfl ?_
  refine own_iconst K at_85 own_ic2 rfl ?_
  refine own_iaload K at_86 h rfl (fun x62 h => ?_)
  refine own_iloadN K at_87 rfl rfl ?_
  refine own_iconst K at_88 own_ic4 rfl ?_
  refine own_iushr K at_89 rfl ?_
  refine own_iconst K at_90 own_ic3 rfl ?_
  refine own_iand K at_91 rfl ?_
  refine own_iadd K at_92 rfl ?_
  refine own_bk h (fun q63 hq63 h => ?_)
  refine own_callS K at_93 own_w2 own_w3 own_w4 own_w5 (argsL := [.int (3 : Int32), .int (x62 + ((own_ushr i2 (4 : Int32)) &&& (3 : Int32)))]) (st := [.int (3 : Int32), .ref (own_n C + a7)]) (by decide) (lenOf own_pd1 rfl) rfl (W := 2) (Nat.le_of_eq rfl) (by decide) (by decide) (cs1 := 1) (ss1 := 5) rfl rfl (by decide) (by decide) rfl rfl (m1_met hq63) (st1 := [.int q63.1, .int (3 : Int32), .ref (own_n C + a7)]) rfl ?_
  refine own_iastore K at_96 h rfl (fun M64 h => ?_)
  refine own_aload K at_97 rfl rfl ?_
  refine own_iconst K at_99 own_ic4 rfl ?_
  refine own_iconst K at_100 own_ic4 rfl ?_
  refine own_aload K at_101 rfl rfl ?_
  refine own_iconst K at_103 own_ic3 rfl ?_
  refine own_iaload K at_104 h rfl (fun x65 h => ?_)
  refine own_iloadN K at_105 rfl rfl ?_
  refine own_bipush K at_106 own_bi6 rfl ?_
  refine own_iushr K at_108 rfl ?_
  refine own_iconst K at_109 own_ic3 rfl ?_
  refine own_iand K at_110 rfl ?_
  refine own_iadd K at_111 rfl ?_
  refine own_bk h (fun q66 hq66 h => ?_)
  refine own_callS K at_112 own_w2 own_w3 own_w4 own_w5 (argsL := [.int (4 : Int32), .int (x65 + ((own_ushr i2 (6 : Int32)) &&& (3 : Int32)))]) (st := [.int (4 : Int32), .ref (own_n C + a7)]) (by decide) (lenOf own_pd1 rfl) rfl (W := 2) (Nat.le_of_eq rfl) (by decide) (by decide) (cs1 := 1) (ss1 := 5) rfl rfl (by decide) (by decide) rfl rfl (m1_met hq66) (st1 := [.int q66.1, .int (4 : Int32), .ref (own_n C + a7)]) rfl ?_
  refine own_iastore K at_115 h rfl (fun M67 h => ?_)
  refine own_iconst K at_116 own_ic5 rfl ?_
  refine own_na K at_117 own_w1 rfl rfl h (by decide) (cs1 := 2) (ss1 := 10) rfl rfl (by decide) (by decide) rfl (fun q68 h => ?_)
  refine own_astore K at_119 (Ls' := [z0, z1, .val (.int i2), z3, .val (.int i4), .val (.int i5), .val (.int i6), .val (.ref (own_n C + a7)), .val (.ref (own_n C + q68.1)), .unset, .unset, .unset, .unset, .unset, .unset, .unset, .unset, .unset, .unset]) rfl rfl ?_
  exact m0_w121 K o0 o1 own_one_i o3 h
set_option maxRecDepth 65536 in
def m0_b33 (i2 : Int32) (i4 : Int32) (i5 : Int32) (t0 : Int32) (M : own_Mem) : Option (Int32 × own_Mem) := (own_newA 100 5 (.int 0) M (5 : Int32)).bind fun q69 => (own_sto 100 q69.2 q69.1 (0 : Int32) (.int (0 : Int32))).bind fun M70 => (own_ldI 100 M70 q69.1 (0 : Int32)).bind fun x71 => (m1 (1 : Int32) (x71 + (i2 &&& (3 : Int32))) M70).bind fun q72 => (own_sto 100 q72.2 q69.1 (1 : Int32) (.int q72.1)).bind fun M73 => (own_ldI 100 M73 q69.1 (1 : Int32)).bind fun x74 => (m1 (2 : Int32) (x74 + ((own_ushr i2 (2 : Int32)) &&& (3 : Int32))) M73).bind fun q75 => (own_sto 100 q75.2 q69.1 (2 : Int32) (.int q75.1)).bind fun M76 => m0_b79 i2 i4 i5 t0 q69.1 M76
set_option maxRecDepth 65536 in
set_option maxHeartbeats 4000000 in
theorem m0_w33 {C : own_Ctx} (K : own_K C code maxLocals "com/example/gatherline/gatherline/RunSplitFindPinLaw" ret "law" room_1) {i2 : Int32} {i4 : Int32} {i5 : Int32} {t0 : Int32} {z0 : Slot} {z1 : Slot} {z3 : Slot} (o0 : own_One z0) (o1 : own_One z1) (o3 : own_One z3) {M : own_Mem} {r : Int32 × own_Mem} (h : m0_b33 i2 i4 i5 t0 M = some r) : own_W C (some (.int r.1)) r.2 M 0 0 33 [z0, z1, .val (.int i2), z3, .val (.int i4), .val (.int i5), .unset, .unset, .unset, .unset, .unset, .unset, .unset, .unset, .unset, .unset, .unset, .unset, .unset] [.int t0] := by
  unfold m0_b33 at h
  refine own_istore K at_33 (Ls' := [z0, z1, .val (.int i2), z3, .val (.int i4), .val (.int i5), .val (.int t0), .unset, .unset, .unset, .unset, .unset, .unset, .unset, .unset, .unset, .unset, .unset, .unset]) rfl rfl ?_
  refine own_iconst K at_35 own_ic5 rfl ?_
  refine own_na K at_36 own_w1 rfl rfl h (by decide) (cs1 := 1) (ss1 := 5) rfl rfl (by decide) (by decide) rfl (fun q69 h => ?_)
  refine own_astore K at_38 (Ls' := [z0, z1, .val (.int i2), z3, .val (.int i4), .val (.int i5), .val (.int t0), .val (.ref (own_n C + q69.1)), .unset, .unset, .unset, .unset, .unset, .unset, .unset, .unset, .unset, .unset, .unset]) rfl rfl ?_
  refine own_aload K at_40 rfl rfl ?_
  refine own_iconst K at_42 own_ic0 rfl ?_
  refine own_iconst K at_43 own_ic0 rfl ?_
  refine own_iastore K at_44 h rfl (fun M70 h => ?_)
  refine own_aload K at_45 rfl rfl ?_
  refine own_iconst K at_47 own_ic1 rfl ?_
  refine own_iconst K at_48 own_ic1 rfl ?_
  refine own_aload K at_49 rfl rfl ?_
  refine own_iconst K at_51 own_ic0 rfl ?_
  refine own_iaload K at_52 h rfl (fun x71 h => ?_)
  refine own_iloadN K at_53 rfl rfl ?_
  refine own_iconst K at_54 own_ic3 rfl ?_
  refine own_iand K at_55 rfl ?_
  refine own_iadd K at_56 rfl ?_
  refine own_bk h (fun q72 hq72 h => ?_)
  refine own_callS K at_57 own_w2 own_w3 own_w4 own_w5 (argsL := [.int (1 : Int32), .int (x71 + (i2 &&& (3 : Int32)))]) (st := [.int (1 : Int32), .ref (own_n C + q69.1)]) (by decide) (lenOf own_pd1 rfl) rfl (W := 2) (Nat.le_of_eq rfl) (by decide) (by decide) (cs1 := 1) (ss1 := 5) rfl rfl (by decide) (by decide) rfl rfl (m1_met hq72) (st1 := [.int q72.1, .int (1 : Int32), .ref (own_n C + q69.1)]) rfl ?_
  refine own_iastore K at_60 h rfl (fun M73 h => ?_)
  refine own_aload K at_61 rfl rfl ?_
  refine own_iconst K at_63 own_ic2 rfl ?_
  refine own_iconst K at_64 own_ic2 rfl ?_
  refine own_aload K at_65 rfl rfl ?_
  refine own_iconst K at_67 own_ic1 rfl ?_
  refine own_iaload K at_68 h rfl (fun x74 h => ?_)
  refine own_iloadN K at_69 rfl rfl ?_
  refine own_iconst K at_70 own_ic2 rfl ?_
  refine own_iushr K at_71 rfl ?_
  refine own_iconst K at_72 own_ic3 rfl ?_
  refine own_iand K at_73 rfl ?_
  refine own_iadd K at_74 rfl ?_
  refine own_bk h (fun q75 hq75 h => ?_)
  refine own_callS K at_75 own_w2 own_w3 own_w4 own_w5 (argsL := [.int (2 : Int32), .int (x74 + ((own_ushr i2 (2 : Int32)) &&& (3 : Int32)))]) (st := [.int (2 : Int32), .ref (own_n C + q69.1)]) (by decide) (lenOf own_pd1 rfl) rfl (W := 2) (Nat.le_of_eq rfl) (by decide) (by decide) (cs1 := 1) (ss1 := 5) rfl rfl (by decide) (by decide) rfl rfl (m1_met hq75) (st1 := [.int q75.1, .int (2 : Int32), .ref (own_n C + q69.1)]) rfl ?_
  refine own_iastore K at_78 h rfl (fun M76 h => ?_)
  exact m0_w79 K o0 o1 o3 h
set_option maxRecDepth 65536 in
def m0 (i0 : Int32) (i1 : Int32) (i2 : Int32) (i3 : Int32) (M : own_Mem) : Option (Int32 × own_Mem) := own_nz ((5 : Int32) = 0) <| own_let ((i0 &&& (2147483647 : Int32)) % (5 : Int32)) fun x77 => own_nz ((5 : Int32) = 0) <| own_let ((1 : Int32) + ((i1 &&& (2147483647 : Int32)) % (5 : Int32))) fun x78 => if i3 < 0 then (m0_b33 i2 x77 x78 (i3 &&& (2147483647 : Int32)) M) else (own_nz ((6 : Int32) = 0) <| m0_b33 i2 x77 x78 (i3 % (6 : Int32)) M)
set_option maxRecDepth 65536 in
set_option maxHeartbeats 4000000 in
theorem m0_w {C : own_Ctx} (K : own_K C code maxLocals "com/example/gatherline/gatherline/RunSplitFindPinLaw" ret "law" room_1) {i0 : Int32} {i1 : Int32} {i2 : Int32} {i3 : Int32} {M : own_Mem} {r : Int32 × own_Mem} (h : m0 i0 i1 i2 i3 M = some r) : own_W C (some (.int r.1)) r.2 M 0 0 0 [.val (.int i0), .val (.int i1), .val (.int i2), .val (.int i3), .unset, .unset, .unset, .unset, .unset, .unset, .unset, .unset, .unset, .unset, .unset, .unset, .unset, .unset, .unset] [] := by
  unfold m0 at h
  refine own_iloadN K at_0 rfl rfl ?_
  refine own_ldc K at_1 own_w0 rfl ?_
  refine own_iand K at_3 rfl ?_
  refine own_iconst K at_4 own_ic5 rfl ?_
  refine own_irem K at_5 h rfl (fun h => ?_)
  refine own_letI h (fun x77 h => ?_)
  refine own_istore K at_6 (Ls' := [.val (.int i0), .val (.int i1), .val (.int i2), .val (.int i3), .val (.int x77), .unset, .unset, .unset, .unset, .unset, .unset, .unset, .unset, .unset, .unset, .unset, .unset, .unset, .unset]) rfl rfl ?_
  refine own_iconst K at_8 own_ic1 rfl ?_
  refine own_iloadN K at_9 rfl rfl ?_
  refine own_ldc K at_10 own_w0 rfl ?_
  refine own_iand K at_12 rfl ?_
  refine own_iconst K at_13 own_ic5 rfl ?_
  refine own_irem K at_14 h rfl (fun h => ?_)
  refine own_iadd K at_15 rfl ?_
  refine own_letI h (fun x78 h => ?_)
  refine own_istore K at_16 (Ls' := [.val (.int i0), .val (.int i1), .val (.int i2), .val (.int i3), .val (.int x77), .val (.int x78), .unset, .unset, .unset, .unset, .unset, .unset, .unset, .unset, .unset, .unset, .unset, .unset, .unset]) rfl rfl ?_
  refine own_iloadN K at_18 rfl rfl ?_
  refine own_zlt K at_19 h (pc1 := 29) (pc2 := 22) (by decide) rfl (fun h => ?_) (fun h => ?_)
  · refine own_iloadN K at_29 rfl rfl ?_
    refine own_ldc K at_30 own_w0 rfl ?_
    refine own_iand K at_32 rfl ?_
    exact m0_w33 K own_one_i own_one_i own_one_i h
  · refine own_iloadN K at_22 rfl rfl ?_
    refine own_bipush K at_23 own_bi6 rfl ?_
    refine own_irem K at_25 h rfl (fun h => ?_)
    refine own_goto K at_26 (pc' := 33) (by decide) ?_
    exact m0_w33 K own_one_i own_one_i own_one_i h
set_option maxRecDepth 65536 in
set_option maxHeartbeats 4000000 in
theorem m0_met {i0 : Int32} {i1 : Int32} {i2 : Int32} {i3 : Int32} {M : own_Mem} {q : Int32 × own_Mem} (h : m0 i0 i1 i2 i3 M = some q) : own_Met x code maxLocals ret room_1 [.int i0, .int i1, .int i2, .int i3] M (some (.int q.1)) q.2 :=
  own_met (Ls := fun n0 => [.val (.int i0), .val (.int i1), .val (.int i2), .val (.int i3), .unset, .unset, .unset, .unset, .unset, .unset, .unset, .unset, .unset, .unset, .unset, .unset, .unset, .unset, .unset]) (plainFor_of_name own_pn0) (fun m n0 => by first | (simp [entryFrame, mkF, argsToLocals, Value.category, own_up, maxLocals]; done) | rfl) fun C K => m0_w K h
/-! ### the plain law -/
theorem lw_nz {β : Type} {b : Prop} [Decidable b] (h : ¬ b) (k : Option β) : own_nz b k = k := if_neg h
theorem lw_let {α β : Type} (x : α) (k : α → Option β) : own_let x k = k x := rfl
def lw_one (o : Option (Int32 × own_Mem)) : Bool := match o with
  | some q => decide (q.1 = 1)
  | none => false
theorem lw_one_e {o : Option (Int32 × own_Mem)} (h : lw_one o = true) : ∃ M', o = some (1, M') := by
  cases o with
  | none => cases h
  | some q =>
    have e : q.1 = 1 := of_decide_eq_true h
    exact ⟨q.2, by rw [← e]⟩
abbrev lw_o (n : Nat) : Int32 := Int32.ofNat n
theorem lw_nat (u : Int32) (h0 : 0 ≤ u.toInt) : u = lw_o u.toInt.toNat := Int32.toInt_inj.mp (by
  have := u.toInt_lt
  rw [Int32.toInt_ofNat_of_lt (by omega)]
  omega)
def lw_min (a b : Int32) : Int32 := if b < a then b else a
theorem lw_m1 (a b : Int32) (M : own_Mem) : m1 a b M = some (lw_min a b, M) := by
  unfold m1 lw_min
  split <;> rfl
/-- a next start: between the last one and the bound -/
theorem lw_nx (x g l : Int32) (hx : 0 ≤ x.toInt ∧ x.toInt ≤ l.toInt) (hg : 0 ≤ g.toInt ∧ g.toInt ≤ 3) (hl : l.toInt ≤ 4) : x.toInt ≤ (lw_min l (x + g)).toInt ∧ (lw_min l (x + g)).toInt ≤ l.toInt := by
  have e : (x + g).toInt = x.toInt + g.toInt := Jvm.Kit.i32_add (by omega) (by omega)
  unfold lw_min
  split
  · rename_i q
    rw [Int32.lt_iff_toInt_lt] at q
    omega
  · omega
theorem lw_g (f : Int32) : 0 ≤ (f &&& 3).toInt ∧ (f &&& 3).toInt ≤ 3 := by
  have e : (f &&& 3).toInt = f.toInt % 2 ^ 2 := Jvm.Kit.i32_mask _ 3 (k := 2) (by decide) (by decide)
  omega
/-- the same answer carries over -/
def lw_S (q : Int32 × own_Mem) (o o' : Option (Int32 × own_Mem)) : Prop := o = some q → o' = some q
theorem lw_S_rfl {q o} : lw_S q o o := id
theorem lw_S_bind {α : Type} {q} {o : Option α} {f g : α → Option (Int32 × own_Mem)} (h : ∀ x, lw_S q (f x) (g x)) : lw_S q (o.bind f) (o.bind g) := by
  cases o with
  | none => exact id
  | some x => exact h x
theorem lw_S_ite {q} {c : Prop} [Decidable c] {a b a' b' : Option (Int32 × own_Mem)} (h : lw_S q a a') (k : lw_S q b b') : lw_S q (if c then a else b) (if c then a' else b') := by
  by_cases hc : c
  · simpa only [if_pos hc] using h
  · simpa only [if_neg hc] using k
theorem lw_S_let {α : Type} {q} {x : α} {f g : α → Option (Int32 × own_Mem)} (h : ∀ x, lw_S q (f x) (g x)) : lw_S q (own_let x f) (own_let x g) := h x
theorem lw_S_k {q : Int32 × own_Mem} (hq : q.1 ≠ 0) {k : Int32} (hk : 4 ≤ k.toInt) (n : Nat) (x : Int32) {M : own_Mem} : lw_S q (if 4 < x then m8_L n 253 0 0 0 0 0 0 0 0 0 0 (0 : Int32) M else m8_L n 253 0 0 0 0 0 0 0 0 0 0 (1 : Int32) M) (if k < x then m8_L n 253 0 0 0 0 0 0 0 0 0 0 (0 : Int32) M else m8_L n 253 0 0 0 0 0 0 0 0 0 0 (1 : Int32) M) := by
  by_cases hc : (4 : Int32) < x
  · rw [if_pos hc]
    intro h
    cases n with
    | zero => cases h
    | succ n =>
      have e : some (nar .boolean (0 : Int32), M) = some q := h
      cases e
      exact absurd rfl hq
  · have hk' : ¬ k < x := by
      rw [Int32.lt_iff_toInt_lt] at hc ⊢
      have : (4 : Int32).toInt = 4 := by decide
      omega
    rw [if_neg hc, if_neg hk']
    exact id
theorem lw_S_L {q : Int32 × own_Mem} (hq : q.1 ≠ 0) {k : Int32} (hk : 4 ≤ k.toInt) : ∀ n pc a0 a1 i3 i4 i5 i6 i7 i8 i9 t0 M, lw_S q (m8_L n pc a0 a1 4 i3 i4 i5 i6 i7 i8 i9 t0 M) (m8_L n pc a0 a1 k i3 i4 i5 i6 i7 i8 i9 t0 M) := by
  intro n
  induction n with
  | zero => intros; exact id
  | succ n ih =>
    intro pc a0 a1 i3 i4 i5 i6 i7 i8 i9 t0 M
    unfold m8_L
    unfold m8_c9 m8_c45 m8_c51 m8_c76 m8_c103 m8_c129 m8_c154 m8_c214 m8_c229 m8_c253
    repeat (first | with_reducible exact ih _ _ _ _ _ _ _ _ _ _ _ _ | with_reducible exact lw_S_rfl | with_reducible exact lw_S_k hq hk _ _ | with_reducible refine lw_S_bind fun _ => ?_ | with_reducible refine lw_S_let fun _ => ?_ | with_reducible refine lw_S_ite ?_ ?_)
theorem lw_m8 {q : Int32 × own_Mem} (hq : q.1 ≠ 0) {k : Int32} (hk : 4 ≤ k.toInt) (a0 a1 : Nat) (M : own_Mem) : lw_S q (m8 a0 a1 4 M) (m8 a0 a1 k M) := by
  unfold m8
  refine lw_S_bind fun _ => ?_
  refine lw_S_bind fun _ => ?_
  exact lw_S_L hq hk _ _ _ _ _ _ _ _ _ _ _ _ _
theorem lw_m7 {q : Int32 × own_Mem} (hq : q.1 ≠ 0) {k : Int32} (hk : 4 ≤ k.toInt) (a0 a1 : Nat) (M : own_Mem) : lw_S q (m7 a0 a1 4 M) (m7 a0 a1 k M) := by
  have k0 : ¬ k = 0 := by
    rw [← Int32.toInt_inj]
    have : (0 : Int32).toInt = 0 := by decide
    omega
  have k4 : ¬ (4 : Int32) = 0 := by decide
  unfold m7
  refine lw_S_bind fun x1 => lw_S_bind fun M2 => ?_
  rw [if_neg k0, if_neg k4]
  refine lw_S_bind fun _ => ?_
  intro h
  rw [Option.bind_eq_some_iff] at h ⊢
  obtain ⟨q3, h3, h4⟩ := h
  refine ⟨q3, lw_m8 ?_ hk _ _ _ h3, h4⟩
  intro e
  unfold m7_b25 at h4
  rw [e] at h4
  cases h4
  exact hq rfl
/-- what follows the call of find -/
def lw_fin (i4 i5 i6 : Int32) (a8 : Nat) (x37 : Int32) (q38 : Nat) (M : own_Mem) : Option (Int32 × own_Mem) := (m7 q38 a8 i6 M).bind fun q40 => if i6 < x37 then (m0_b294 i4 i5 a8 x37 q38 q40.1 q40.1 (0 : Int32) q40.2) else (m0_b294 i4 i5 a8 x37 q38 q40.1 q40.1 (1 : Int32) q40.2)
/-- all that a cap of four or more asks, at four -/
def lw_big (i4 i5 : Int32) (a8 : Nat) (x37 : Int32) (q38 : Nat) (M : own_Mem) : Option (Int32 × own_Mem) := (m7 q38 a8 4 M).bind fun q40 => if q40.1 = 0 then none else if 4 < x37 then none else m0_b294 i4 i5 a8 x37 q38 q40.1 q40.1 (1 : Int32) q40.2
theorem lw_big_e {k : Int32} (hk : 4 ≤ k.toInt) {i4 i5 a8 x37 q38 M r} (h : lw_big i4 i5 a8 x37 q38 M = some r) : lw_fin i4 i5 k a8 x37 q38 M = some r := by
  unfold lw_big at h
  unfold lw_fin
  rw [Option.bind_eq_some_iff] at h ⊢
  obtain ⟨q, hq, h⟩ := h
  by_cases e : q.1 = 0
  · rw [if_pos e] at h
    cases h
  rw [if_neg e] at h
  refine ⟨q, lw_m7 e hk _ _ _ hq, ?_⟩
  by_cases c : (4 : Int32) < x37
  · rw [if_pos c] at h
    cases h
  rw [if_neg c] at h
  have hk' : ¬ k < x37 := by
    rw [Int32.lt_iff_toInt_lt] at c ⊢
    have : (4 : Int32).toInt = 4 := by decide
    omega
  rw [if_neg hk']
  exact h
/-- every cap at once -/
def lw_F (i4 i5 : Int32) (a8 : Nat) (x37 : Int32) (q38 : Nat) (M : own_Mem) : Option (Int32 × own_Mem) := if (lw_one (lw_fin i4 i5 0 a8 x37 q38 M) && lw_one (lw_fin i4 i5 1 a8 x37 q38 M) && lw_one (lw_fin i4 i5 2 a8 x37 q38 M) && lw_one (lw_fin i4 i5 3 a8 x37 q38 M) && lw_one (lw_big i4 i5 a8 x37 q38 M)) = true then some (1, []) else none
/-- an answer 1 carries over -/
def lw_T (o o' : Option (Int32 × own_Mem)) : Prop := lw_one o = true → lw_one o' = true
theorem lw_T_bind {α : Type} {o : Option α} {f g : α → Option (Int32 × own_Mem)} (h : ∀ x, lw_T (f x) (g x)) : lw_T (o.bind f) (o.bind g) := by
  cases o with
  | none => exact id
  | some x => exact h x
theorem lw_T_F {k : Int32} (hk : 0 ≤ k.toInt) (i4 i5 a8 x37 q38 M) : lw_T (lw_F i4 i5 a8 x37 q38 M) (lw_fin i4 i5 k a8 x37 q38 M) := by
  intro h
  unfold lw_F at h
  split at h
  · rename_i c
    rw [Bool.and_eq_true, Bool.and_eq_true, Bool.and_eq_true, Bool.and_eq_true] at c
    obtain ⟨⟨⟨⟨c0, c1⟩, c2⟩, c3⟩, c4⟩ := c
    by_cases b : 4 ≤ k.toInt
    · obtain ⟨M', e⟩ := lw_one_e c4
      rw [lw_big_e b e]
      rfl
    · have : k = 0 ∨ k = 1 ∨ k = 2 ∨ k = 3 := by
        simp only [← Int32.toInt_inj, Int32.reduceToInt]
        omega
      rcases this with rfl | rfl | rfl | rfl
      · exact c0
      · exact c1
      · exact c2
      · exact c3
  · cases h
def lw_K3 (i4 i5 : Int32) (a8 a9 : Nat) (M : own_Mem) : Option (Int32 × own_Mem) := (own_ldI 100 M a8 (4 : Int32)).bind fun x34 => (m3 a9 (4 : Int32) x34 i5 M).bind fun q35 => (own_sto 100 q35.2 a9 (4 : Int32) (.int q35.1)).bind fun M36 => (own_ldI 100 M36 a9 i4).bind fun x37 => (own_newO 0 own_V0 M36).bind fun q38 => (m5 q38.1 i4 i5 q38.2).bind fun q39 => (own_at q39.2 0 q38.1).bind fun u41 => lw_F i4 i5 a8 x37 q38.1 q39.2
def lw_K2 (i4 i5 : Int32) (a8 : Nat) (M : own_Mem) : Option (Int32 × own_Mem) := (own_newA 100 5 (.int 0) M (5 : Int32)).bind fun q42 => (own_sto 100 q42.2 q42.1 (0 : Int32) (.int (0 : Int32))).bind fun M43 => (own_ldI 100 M43 a8 (1 : Int32)).bind fun x44 => (m3 q42.1 (1 : Int32) x44 i5 M43).bind fun q45 => (own_sto 100 q45.2 q42.1 (1 : Int32) (.int q45.1)).bind fun M46 => (own_ldI 100 M46 a8 (2 : Int32)).bind fun x47 => (m3 q42.1 (2 : Int32) x47 i5 M46).bind fun q48 => (own_sto 100 q48.2 q42.1 (2 : Int32) (.int q48.1)).bind fun M49 => (own_ldI 100 M49 a8 (3 : Int32)).bind fun x50 => (m3 q42.1 (3 : Int32) x50 i5 M49).bind fun q51 => (own_sto 100 q51.2 q42.1 (3 : Int32) (.int q51.1)).bind fun M52 => lw_K3 i4 i5 a8 q42.1 M52
def lw_K1 (i4 i5 : Int32) (a7 a8 : Nat) (M : own_Mem) : Option (Int32 × own_Mem) := (own_sto 100 M a8 (0 : Int32) (.int (2147483647 : Int32))).bind fun M53 => (m2 a7 (1 : Int32) i5 M53).bind fun q54 => (own_sto 100 q54.2 a8 (1 : Int32) (.int q54.1)).bind fun M55 => (m2 a7 (2 : Int32) i5 M55).bind fun q56 => (own_sto 100 q56.2 a8 (2 : Int32) (.int q56.1)).bind fun M57 => (m2 a7 (3 : Int32) i5 M57).bind fun q58 => (own_sto 100 q58.2 a8 (3 : Int32) (.int q58.1)).bind fun M59 => (m2 a7 (4 : Int32) i5 M59).bind fun q60 => (own_sto 100 q60.2 a8 (4 : Int32) (.int q60.1)).bind fun M61 => lw_K2 i4 i5 a8 M61
def lw_K (i4 i5 s1 s2 s3 s4 : Int32) : Option (Int32 × own_Mem) := (own_newA 100 5 (.int 0) [(100, [.int 0, .int s1, .int s2, .int s3, .int s4])] (5 : Int32)).bind fun q68 => lw_K1 i4 i5 0 q68.1 q68.2
theorem lw_T_K3 {k : Int32} (hk : 0 ≤ k.toInt) (i4 i5 a8 a9 M) : lw_T (lw_K3 i4 i5 a8 a9 M) (m0_b233 i4 i5 k a8 a9 M) := by
  unfold lw_K3 m0_b233
  iterate 7 refine lw_T_bind fun _ => ?_
  exact lw_T_F hk _ _ _ _ _ _
theorem lw_T_K2 {k : Int32} (hk : 0 ≤ k.toInt) (i4 i5 a8 M) : lw_T (lw_K2 i4 i5 a8 M) (m0_b175 i4 i5 k a8 M) := by
  unfold lw_K2 m0_b175
  iterate 11 refine lw_T_bind fun _ => ?_
  exact lw_T_K3 hk _ _ _ _ _
theorem lw_T_K1 {k : Int32} (hk : 0 ≤ k.toInt) (i4 i5 a7 a8 M) : lw_T (lw_K1 i4 i5 a7 a8 M) (m0_b121 i4 i5 k a7 a8 M) := by
  unfold lw_K1 m0_b121
  iterate 9 refine lw_T_bind fun _ => ?_
  exact lw_T_K2 hk _ _ _ _
theorem lw_T_K {k : Int32} (hk : 0 ≤ k.toInt) (i4 i5 s1 s2 s3 s4) : lw_T (lw_K i4 i5 s1 s2 s3 s4) ((own_newA 100 5 (.int 0) [(100, [.int 0, .int s1, .int s2, .int s3, .int s4])] (5 : Int32)).bind fun q68 => m0_b121 i4 i5 k 0 q68.1 q68.2) := by
  unfold lw_K
  refine lw_T_bind fun _ => ?_
  exact lw_T_K1 hk _ _ _ _ _
def lw_all (n : Nat) : Bool := [1, 2, 3, 4, 5].all fun r => (List.range 2).all fun a => (List.range 3).all fun b => decide (b < a) || (List.range 4).all fun c => decide (c < b) || (List.range 5).all fun d => decide (d < c) || lw_one (lw_K (lw_o n) (lw_o r) (lw_o a) (lw_o b) (lw_o c) (lw_o d))
theorem lw_c0 : lw_all 0 = true := by decide +kernel
theorem lw_c1 : lw_all 1 = true := by decide +kernel
theorem lw_c2 : lw_all 2 = true := by decide +kernel
theorem lw_c3 : lw_all 3 = true := by decide +kernel
theorem lw_c4 : lw_all 4 = true := by decide +kernel
theorem lw_use (n r a b c d : Int32) (hn : 0 ≤ n.toInt ∧ n.toInt ≤ 4) (hr : 1 ≤ r.toInt ∧ r.toInt ≤ 5)
    (h1 : 0 ≤ a.toInt ∧ a.toInt ≤ 1) (h2 : a.toInt ≤ b.toInt ∧ b.toInt ≤ 2) (h3 : b.toInt ≤ c.toInt ∧ c.toInt ≤ 3) (h4 : c.toInt ≤ d.toInt ∧ d.toInt ≤ 4) : lw_one (lw_K n r a b c d) = true := by
  have h : lw_all n.toInt.toNat = true := by
    have : n.toInt.toNat = 0 ∨ n.toInt.toNat = 1 ∨ n.toInt.toNat = 2 ∨ n.toInt.toNat = 3 ∨ n.toInt.toNat = 4 := by omega
    rcases this with e | e | e | e | e <;> rw [e]
    · exact lw_c0
    · exact lw_c1
    · exact lw_c2
    · exact lw_c3
    · exact lw_c4
  unfold lw_all at h
  have h := List.all_eq_true.mp h r.toInt.toNat (by
    have : r.toInt.toNat = 1 ∨ r.toInt.toNat = 2 ∨ r.toInt.toNat = 3 ∨ r.toInt.toNat = 4 ∨ r.toInt.toNat = 5 := by omega
    simpa using this)
  have h := List.all_eq_true.mp h a.toInt.toNat (List.mem_range.mpr (by omega))
  have h := List.all_eq_true.mp h b.toInt.toNat (List.mem_range.mpr (by omega))
  rw [Bool.or_eq_true, decide_eq_true_eq] at h
  have h := List.all_eq_true.mp (h.resolve_left (by omega)) c.toInt.toNat (List.mem_range.mpr (by omega))
  rw [Bool.or_eq_true, decide_eq_true_eq] at h
  have h := List.all_eq_true.mp (h.resolve_left (by omega)) d.toInt.toNat (List.mem_range.mpr (by omega))
  rw [Bool.or_eq_true, decide_eq_true_eq] at h
  have h := h.resolve_left (by omega)
  rwa [← lw_nat n hn.1, ← lw_nat r (by omega), ← lw_nat a h1.1, ← lw_nat b (by omega), ← lw_nat c (by omega), ← lw_nat d (by omega)] at h
theorem lw_b33 (i2 n r k : Int32) (hn : 0 ≤ n.toInt ∧ n.toInt ≤ 4) (hr : 1 ≤ r.toInt ∧ r.toInt ≤ 5) (hk : 0 ≤ k.toInt) : ∃ M', m0_b33 i2 n r k [] = some (1, M') := by
  have k0 : (0 : Int32).toInt = 0 := by decide
  have k1 : (1 : Int32).toInt = 1 := by decide
  have k2 : (2 : Int32).toInt = 2 := by decide
  have k3 : (3 : Int32).toInt = 3 := by decide
  have k4 : (4 : Int32).toInt = 4 := by decide
  have g1 := lw_g i2
  have g2 := lw_g (own_ushr i2 2)
  have g3 := lw_g (own_ushr i2 4)
  have g4 := lw_g (own_ushr i2 6)
  have l1 : ∀ a b c d e : Int32, own_ldI 100 [(100, [.int a, .int b, .int c, .int d, .int e])] 0 0 = some a ∧ own_ldI 100 [(100, [.int a, .int b, .int c, .int d, .int e])] 0 1 = some b ∧ own_ldI 100 [(100, [.int a, .int b, .int c, .int d, .int e])] 0 2 = some c ∧ own_ldI 100 [(100, [.int a, .int b, .int c, .int d, .int e])] 0 3 = some d := fun _ _ _ _ _ => ⟨rfl, rfl, rfl, rfl⟩
  unfold m0_b33
  generalize own_ushr i2 2 &&& 3 = u2 at g2 ⊢
  generalize i2 &&& 3 = u1 at g1 ⊢
  rw [show own_newA 100 5 (.int 0) [] (5 : Int32) = some (0, [(100, [.int 0, .int 0, .int 0, .int 0, .int 0])]) from rfl, Option.bind_some]
  dsimp only
  rw [show own_sto 100 [(100, [.int 0, .int 0, .int 0, .int 0, .int 0])] 0 0 (.int 0) = some [(100, [.int 0, .int 0, .int 0, .int 0, .int 0])] from rfl, Option.bind_some, (l1 _ _ _ _ _).1, Option.bind_some, lw_m1, Option.bind_some]
  dsimp only
  have n1 := lw_nx 0 u1 1 (by omega) g1 (by omega)
  generalize lw_min 1 (0 + u1) = s1 at n1 ⊢
  rw [show ∀ v : Value, own_sto 100 [(100, [.int 0, .int 0, .int 0, .int 0, .int 0])] 0 1 v = some [(100, [.int 0, v, .int 0, .int 0, .int 0])] from fun _ => rfl, Option.bind_some]
  rw [(l1 _ _ _ _ _).2.1, Option.bind_some, lw_m1, Option.bind_some]
  dsimp only
  have n2 := lw_nx s1 u2 2 (by omega) g2 (by omega)
  generalize lw_min 2 (s1 + u2) = s2 at n2 ⊢
  rw [show ∀ u v : Value, own_sto 100 [(100, [.int 0, u, .int 0, .int 0, .int 0])] 0 2 v = some [(100, [.int 0, u, v, .int 0, .int 0])] from fun _ _ => rfl, Option.bind_some]
  unfold m0_b79
  generalize own_ushr i2 4 &&& 3 = u3 at g3 ⊢
  generalize own_ushr i2 6 &&& 3 = u4 at g4 ⊢
  rw [(l1 _ _ _ _ _).2.2.1, Option.bind_some, lw_m1, Option.bind_some]
  dsimp only
  have n3 := lw_nx s2 u3 3 (by omega) g3 (by omega)
  generalize lw_min 3 (s2 + u3) = s3 at n3 ⊢
  rw [show ∀ u w v : Value, own_sto 100 [(100, [.int 0, u, w, .int 0, .int 0])] 0 3 v = some [(100, [.int 0, u, w, v, .int 0])] from fun _ _ _ => rfl, Option.bind_some, (l1 _ _ _ _ _).2.2.2, Option.bind_some, lw_m1, Option.bind_some]
  dsimp only
  have n4 := lw_nx s3 u4 4 (by omega) g4 (by omega)
  generalize lw_min 4 (s3 + u4) = s4 at n4 ⊢
  rw [show ∀ u w y v : Value, own_sto 100 [(100, [.int 0, u, w, y, .int 0])] 0 4 v = some [(100, [.int 0, u, w, y, v])] from fun _ _ _ _ => rfl, Option.bind_some]
  exact lw_one_e (lw_T_K hk n r s1 s2 s3 s4 (lw_use n r s1 s2 s3 s4 hn hr (by omega) (by omega) (by omega) (by omega)))
theorem own_law (i0 i1 i2 i3 : Int32) : ∃ M', m0 i0 i1 i2 i3 [] = some (1, M') := by
  have k0 : (0 : Int32).toInt = 0 := by decide
  have k1 : (1 : Int32).toInt = 1 := by decide
  have k5 : (5 : Int32).toInt = 5 := by decide
  have k6 : (6 : Int32).toInt = 6 := by decide
  have a0 : (i0 &&& 2147483647).toInt = i0.toInt % 2 ^ 31 := Jvm.Kit.i32_mask i0 2147483647 (k := 31) (by decide) (by decide)
  have b0 : ((i0 &&& 2147483647) % 5).toInt = (i0 &&& 2147483647).toInt % 5 := by rw [Jvm.Kit.i32_rem_nonneg (by omega), k5]
  have a1 : (i1 &&& 2147483647).toInt = i1.toInt % 2 ^ 31 := Jvm.Kit.i32_mask i1 2147483647 (k := 31) (by decide) (by decide)
  have b1 : ((i1 &&& 2147483647) % 5).toInt = (i1 &&& 2147483647).toInt % 5 := by rw [Jvm.Kit.i32_rem_nonneg (by omega), k5]
  have c1 : (1 + (i1 &&& 2147483647) % 5).toInt = 1 + ((i1 &&& 2147483647) % 5).toInt := by rw [Jvm.Kit.i32_add (by omega) (by omega), k1]
  have a3 : (i3 &&& 2147483647).toInt = i3.toInt % 2 ^ 31 := Jvm.Kit.i32_mask i3 2147483647 (k := 31) (by decide) (by decide)
  have z5 : ¬ ((5 : Int32) = 0) := by decide
  have z6 : ¬ ((6 : Int32) = 0) := by decide
  have hn : 0 ≤ ((i0 &&& 2147483647) % 5).toInt ∧ ((i0 &&& 2147483647) % 5).toInt ≤ 4 := by omega
  have hr : 1 ≤ (1 + (i1 &&& 2147483647) % 5).toInt ∧ (1 + (i1 &&& 2147483647) % 5).toInt ≤ 5 := by omega
  unfold m0
  rw [lw_nz z5, lw_let, lw_nz z5, lw_let]
  by_cases c : i3 < 0
  · rw [if_pos c]
    exact lw_b33 _ _ _ _ hn hr (by omega)
  · rw [if_neg c, lw_nz z6]
    rw [Int32.lt_iff_toInt_lt] at c
    have b3 : (i3 % 6).toInt = i3.toInt % 6 := by rw [Jvm.Kit.i32_rem_nonneg (by omega), k6]
    exact lw_b33 _ _ _ _ hn hr (by omega)
/-! ### the owed theorems -/
set_option maxRecDepth 65536 in
set_option maxHeartbeats 4000000 in
theorem own_comes {Post : Tables → Env → Array Value → State → Outcome → State → Prop} (hpost : ∀ tb e args s v u, (limb_1_1.after args s (.returned v) u = true ∧ limb_1_2.after args s (.returned v) u = true ∧ True) → FrameEnd s (.returned v) u (Jvm.fieldLocs frame_1_writes args s ++ Jvm.arrayLocs frame_1_arrays args s ++ Jvm.staticLocs frame_1_statics s) 32 192 → Post tb e args s (.returned v) u) :
    ArmFor flags0 classFile x code maxLocals ret World_1 tables_1 room_1 Calls_1 rest_1 Pre_1 Post := by
  intro l hfl _ _ p e ha hc hk s m args below hf hA hF happ hP
  obtain ⟨hcalls, hrest, hpre⟩ := hP
  obtain ⟨-, -, -, hnamed, -, -, -, hat⟩ := (Spec.applies_iff hf).mp happ
  obtain ⟨hg, hn⟩ := and_e (Cond.before_iff.mp (show (Jvm.Cond.and given_1 narrow_1).before args s = true from hpre))
  obtain ⟨g0a, g0b⟩ := and_e hg
  obtain ⟨g1a, g1b⟩ := and_e g0b
  obtain ⟨g2a, g2b⟩ := and_e g1b
  obtain ⟨g3a, g3b⟩ := and_e g2b
  obtain ⟨w0, w1, w2, w3, rfl⟩ : ∃ w0 w1 w2 w3 : Value, args = #[w0, w1, w2, w3] := by
    have hs : args.size = 4 := by simpa [Cond.value, given_1] using g0a
    obtain ⟨L⟩ := args
    match L, hs with
    | [w0, w1, w2, w3], _ => exact ⟨w0, w1, w2, w3, rfl⟩
  have hw := fun d (hd : d ∈ tables_1) => atoms_spec (ws := Jvm.Cond.code x code maxLocals ret :: tables_1) hat d (List.mem_cons_of_mem _ hd)
  obtain ⟨v0, ev0⟩ := is_v g1a
  obtain rfl : w0 = (.int v0) := Option.some.inj ev0
  obtain ⟨v1, ev1⟩ := is_v g2a
  obtain rfl : w1 = (.int v1) := Option.some.inj ev1
  obtain ⟨v2, ev2⟩ := is_v g3a
  obtain rfl : w2 = (.int v2) := Option.some.inj ev2
  obtain ⟨v3, ev3⟩ := is_v g3b
  obtain rfl : w3 = (.int v3) := Option.some.inj ev3
  obtain ⟨M', hM'⟩ := own_law v0 v1 v2 v3
  obtain ⟨n, o, h1, h2, h3, _, L, rfl, ⟨rfl, -, N⟩, hq⟩ := m0_met hM' l s _ s.heap.size s.heap tables_1 hw ⟨by simp, fun k o hk => by simp at hk⟩ p e ha hc hk s m _ below hf ((Spec.applies_iff_loose hf).mp happ).1 ⟨rfl, State.Warmed39.refl s, rfl⟩ trivial
  refine ⟨n, _, h1, h2, h3, hpost _ _ _ _ _ _ ⟨Cond.after_iff.mpr rfl, Cond.after_iff.mpr (eq_i res_at (Term.int_eval (1)) rfl), trivial⟩ ⟨hq.1, hq.2.1, (hq.2.2.sift fun y hy => Or.inr (N y hy)).mono (by decide) (by decide)⟩⟩
theorem main_1_1 : Claimed_1_1 := own_comes fun _ _ _ _ _ _ h hF => ⟨h.1, hF⟩
theorem main_1_2 : Claimed_1_2 := own_comes fun _ _ _ _ _ _ h hF => ⟨h.2.1, hF⟩
end Jvm.Pilot.@@N@@
namespace Jvm.Pilot.@@N@@
open Jvm Jvm.ClassFile Sem Op Lib Jvm.Free Jvm.Stand Jvm.Pilot.@@N@@.Jvm.D
/-! MADE BY PROGRAM (witnessworld.py) out of the Statement's table words and the real class files: 11 classes; the members and pool entries that the words name. The judged class is class 1, her method 8. -/
namespace start1
open Jvm.ClassFile
def u (s : String) : CpInfo := .utf8 (stringToUtf16 s)
/-- a pool by its gaps: so many unusable entries, then the entry; so many at the end -/
def gap : Nat → List CpInfo → List CpInfo
  | 0, r => r
  | n + 1, r => .unusable :: gap n r
def poolList (es : List (Nat × CpInfo)) (last : Nat) : List CpInfo := es.foldr (fun e r => gap e.1 (e.2 :: r)) (gap last [])
def pool (es : List (Nat × CpInfo)) (last : Nat) : Array CpInfo := ⟨poolList es last⟩
def fileOf (pool : Array CpInfo) (this : Nat) (attrs : Array Attribute := #[]) (ms : Array MethodInfo := #[]) (fl : Nat := 33) (sup : Nat := 0) (ifs : Array Nat := #[]) (fds : Array FieldInfo := #[]) : ClassFile where
  minorVersion := 0
  majorVersion := 65
  constantPool := pool
  accessFlags := fl
  thisClass := this
  superClass := sup
  interfaces := ifs
  fields := fds
  methods := ms
  attributes := attrs
def plain (name : String) (sup : Option ClassId) : Class where
  name := name
  kind := .ordinary
  loader := none
  accessFlags := 33
  super := sup
  interfaces := #[]
  cf := none
  fields := #[]
  methods := #[]
  instanceTypes := #[]
  staticTypes := #[]
  resolved := #[]
  callSites := []
  init := .initialized
  statics := none
  mirror := none

def pool0 : Array CpInfo := pool [(5, u "<init>"), (0, u "()V"), (1, .class_ 10), (1, u "java/lang/Object")] 113

def k0c0 : Code := { maxStack := 0, maxLocals := 1, code := object_method_1_code, exceptionTable := #[], attributes := #[] }
def k0m0 : Method := { name := "<init>", desc := "()V", sig := { parameters := [], returnType := none }, accessFlags := 1, code := some k0c0 }
/-- java/lang/Object -/
def k0 : Class := { plain "java/lang/Object" none with
  accessFlags := 33
  interfaces := #[]
  cf := some (fileOf pool0 8 #[] #[{ accessFlags := 1, nameIndex := 5, descriptorIndex := 6, attributes := #[] }] 33 0 #[] #[])
  fields := #[]
  methods := #[k0m0]
  instanceTypes := #[]
  staticTypes := #[]
  resolved := Array.replicate 124 none
  statics := none }

def pool1 : Array CpInfo := pool [(2, .class_ 4), (1, u "java/lang/Object"), (0, u "<init>"), (0, u "()V"), (0, .class_ 8), (0, u "com/example/gatherline/gatherline/RunSplit"), (0, .integer 2147483647), (0, .methodref 11 12), (0, .class_ 13), (0, .nameAndType 14 15), (0, u "com/example/gatherline/gatherline/RunSplitFindPinLaw"), (0, u "cand"), (0, u "([IIIII)I"), (0, .methodref 17 18), (0, .class_ 19), (0, .nameAndType 20 21), (0, u "java/lang/Math"), (0, u "min"), (0, u "(II)I"), (0, .methodref 11 23), (0, .nameAndType 24 25), (0, u "isStart"), (0, u "([II)Z"), (0, .methodref 11 27), (0, .nameAndType 28 29), (0, u "runEnd"), (0, u "([II)I"), (0, .methodref 11 31), (0, .nameAndType 32 33), (0, u "first"), (0, u "([III)I"), (0, .methodref 11 35), (0, .nameAndType 36 37), (0, u "step"), (0, u "([IIII)I"), (0, .methodref 7 39), (0, .nameAndType 5 40), (0, u "(II)V"), (0, .methodref 7 42), (0, .nameAndType 43 25), (0, u "find"), (0, .methodref 7 45), (0, .nameAndType 46 47), (0, u "runOf"), (0, u "()[I"), (0, .methodref 11 49), (0, .nameAndType 50 51), (0, u "one"), (0, u "(Z)I"), (0, .methodref 11 53), (0, .nameAndType 54 55), (0, u "pointOk"), (0, u "([IIII[II)Z"), (3, u "law"), (0, u "(IIII)Z")] 4

def k1m0 : Method := { name := "<init>", desc := "()V", sig := { parameters := [], returnType := none }, accessFlags := 1, code := none }
def k1c1 : Code := { maxStack := 3, maxLocals := 3, code := method_2_code, exceptionTable := #[], attributes := #[] }
def k1m1 : Method := { name := "first", desc := "([III)I", sig := { parameters := [(.array .int), .int, .int], returnType := some .int }, accessFlags := 10, code := some k1c1 }
def k1c2 : Code := { maxStack := 3, maxLocals := 5, code := method_3_code, exceptionTable := #[], attributes := #[] }
def k1m2 : Method := { name := "cand", desc := "([IIIII)I", sig := { parameters := [(.array .int), .int, .int, .int, .int], returnType := some .int }, accessFlags := 10, code := some k1c2 }
def k1c3 : Code := { maxStack := 6, maxLocals := 5, code := method_4_code, exceptionTable := #[], attributes := #[] }
def k1m3 : Method := { name := "step", desc := "([IIII)I", sig := { parameters := [(.array .int), .int, .int, .int], returnType := some .int }, accessFlags := 10, code := some k1c3 }
def k1c4 : Code := { maxStack := 3, maxLocals := 2, code := method_5_code, exceptionTable := #[], attributes := #[] }
def k1m4 : Method := { name := "isStart", desc := "([II)Z", sig := { parameters := [(.array .int), .int], returnType := some .boolean }, accessFlags := 10, code := some k1c4 }
def k1c5 : Code := { maxStack := 3, maxLocals := 3, code := method_6_code, exceptionTable := #[], attributes := #[] }
def k1m5 : Method := { name := "runEnd", desc := "([II)I", sig := { parameters := [(.array .int), .int], returnType := some .int }, accessFlags := 10, code := some k1c5 }
def k1c6 : Code := { maxStack := 2, maxLocals := 7, code := method_7_code, exceptionTable := #[], attributes := #[] }
def k1m6 : Method := { name := "pointOk", desc := "([IIII[II)Z", sig := { parameters := [(.array .int), .int, .int, .int, (.array .int), .int], returnType := some .boolean }, accessFlags := 10, code := some k1c6 }
def k1c7 : Code := { maxStack := 1, maxLocals := 1, code := method_8_code, exceptionTable := #[], attributes := #[] }
def k1m7 : Method := { name := "one", desc := "(Z)I", sig := { parameters := [.boolean], returnType := some .int }, accessFlags := 10, code := some k1c7 }
def k1c8 : Code := { maxStack := 6, maxLocals := 19, code := code, exceptionTable := #[], attributes := #[] }
def k1m8 : Method := { name := "law", desc := "(IIII)Z", sig := { parameters := [.int, .int, .int, .int], returnType := some .boolean }, accessFlags := 9, code := some k1c8 }
/-- com/example/gatherline/gatherline/RunSplitFindPinLaw -/
def k1 : Class := { plain "com/example/gatherline/gatherline/RunSplitFindPinLaw" (some 0) with
  accessFlags := 49
  interfaces := #[]
  cf := some (fileOf pool1 11 #[] #[{ accessFlags := 1, nameIndex := 5, descriptorIndex := 6, attributes := #[] }, { accessFlags := 10, nameIndex := 32, descriptorIndex := 33, attributes := #[] }, { accessFlags := 10, nameIndex := 14, descriptorIndex := 15, attributes := #[] }, { accessFlags := 10, nameIndex := 36, descriptorIndex := 37, attributes := #[] }, { accessFlags := 10, nameIndex := 24, descriptorIndex := 25, attributes := #[] }, { accessFlags := 10, nameIndex := 28, descriptorIndex := 29, attributes := #[] }, { accessFlags := 10, nameIndex := 54, descriptorIndex := 55, attributes := #[] }, { accessFlags := 10, nameIndex := 50, descriptorIndex := 51, attributes := #[] }, { accessFlags := 9, nameIndex := 59, descriptorIndex := 60, attributes := #[] }] 49 2 #[] #[])
  fields := #[]
  methods := #[k1m0, k1m1, k1m2, k1m3, k1m4, k1m5, k1m6, k1m7, k1m8]
  instanceTypes := #[]
  staticTypes := #[]
  resolved := Array.replicate 65 none
  statics := none }

def pool2 : Array CpInfo := pool [(1, .class_ 2), (0, u "java/lang/Math"), (1, .class_ 6), (1, u "java/lang/Object"), (0, u "<init>"), (0, u "()V"), (89, .class_ 100), (1, u "java/lang/Math$RandomNumberGeneratorHolder"), (71, u "negativeZeroFloatBits"), (0, u "J"), (2, u "negativeZeroDoubleBits"), (24, u "min"), (43, u "$assertionsDisabled"), (0, u "Z"), (88, u "(II)I"), (2, u "twoToTheDoubleScaleDown"), (0, u "D"), (4, u "twoToTheDoubleScaleUp"), (9, u "E"), (3, u "PI"), (2, u "TAU"), (2, u "DEGREES_TO_RADIANS"), (0, u "RADIANS_TO_DEGREES")] 94

def k2m0 : Method := { name := "<init>", desc := "()V", sig := { parameters := [], returnType := none }, accessFlags := 2, code := none }
def k2c1 : Code := { maxStack := 2, maxLocals := 2, code := jdk_29_method_69_code, exceptionTable := #[], attributes := #[] }
def k2m1 : Method := { name := "min", desc := "(II)I", sig := { parameters := [.int, .int], returnType := some .int }, accessFlags := 9, code := some k2c1 }
/-- java/lang/Math -/
def k2 : Class := { plain "java/lang/Math" (some 0) with
  accessFlags := 49
  interfaces := #[]
  cf := some (fileOf pool2 1 #[.nestMembers #[98]] #[{ accessFlags := 2, nameIndex := 7, descriptorIndex := 8, attributes := #[] }, { accessFlags := 9, nameIndex := 201, descriptorIndex := 335, attributes := #[] }] 49 4 #[] #[{ accessFlags := 25, nameIndex := 354, descriptorIndex := 339, attributes := #[] }, { accessFlags := 25, nameIndex := 358, descriptorIndex := 339, attributes := #[] }, { accessFlags := 25, nameIndex := 361, descriptorIndex := 339, attributes := #[] }, { accessFlags := 26, nameIndex := 364, descriptorIndex := 339, attributes := #[] }, { accessFlags := 26, nameIndex := 365, descriptorIndex := 339, attributes := #[] }, { accessFlags := 26, nameIndex := 172, descriptorIndex := 173, attributes := #[] }, { accessFlags := 26, nameIndex := 176, descriptorIndex := 173, attributes := #[] }, { accessFlags := 8, nameIndex := 344, descriptorIndex := 339, attributes := #[] }, { accessFlags := 8, nameIndex := 338, descriptorIndex := 339, attributes := #[] }, { accessFlags := 4120, nameIndex := 245, descriptorIndex := 246, attributes := #[] }])
  fields := #[{ name := "E", type := .double, accessFlags := 25, slot := 0, constantValue := 0 }, { name := "PI", type := .double, accessFlags := 25, slot := 1, constantValue := 0 }, { name := "TAU", type := .double, accessFlags := 25, slot := 2, constantValue := 0 }, { name := "DEGREES_TO_RADIANS", type := .double, accessFlags := 26, slot := 3, constantValue := 0 }, { name := "RADIANS_TO_DEGREES", type := .double, accessFlags := 26, slot := 4, constantValue := 0 }, { name := "negativeZeroFloatBits", type := .long, accessFlags := 26, slot := 5, constantValue := 0 }, { name := "negativeZeroDoubleBits", type := .long, accessFlags := 26, slot := 6, constantValue := 0 }, { name := "twoToTheDoubleScaleUp", type := .double, accessFlags := 8, slot := 7, constantValue := 0 }, { name := "twoToTheDoubleScaleDown", type := .double, accessFlags := 8, slot := 8, constantValue := 0 }, { name := "$assertionsDisabled", type := .boolean, accessFlags := 4120, slot := 9, constantValue := 0 }]
  methods := #[k2m0, k2m1]
  instanceTypes := #[]
  staticTypes := #[.double, .double, .double, .double, .double, .long, .long, .double, .double, .boolean]
  resolved := Array.replicate 460 none
  statics := none }

def pool3 : Array CpInfo := pool [(3, .methodref 4 5), (0, .class_ 6), (0, .nameAndType 7 8), (0, u "java/lang/Object"), (0, u "<init>"), (0, u "()V"), (0, .fieldref 10 11), (0, .class_ 12), (0, .nameAndType 13 14), (0, u "com/example/gatherline/gatherline/RunSplit"), (0, u "pointCount"), (0, u "I"), (0, .fieldref 10 16), (0, .nameAndType 17 14), (0, u "minRun"), (0, .fieldref 10 19), (0, .nameAndType 20 21), (0, u "fewestLeftOut"), (0, u "[I"), (0, .fieldref 10 23), (0, .nameAndType 24 21), (0, u "runStart"), (0, .fieldref 10 26), (0, .nameAndType 27 21), (0, u "queueStart"), (0, .fieldref 10 29), (0, .nameAndType 30 21), (0, u "queueLeftOut"), (0, .methodref 10 32), (0, .nameAndType 33 34), (0, u "findLeavingNoneOut"), (0, u "([I)Z"), (0, .methodref 10 36), (0, .nameAndType 37 38), (0, u "findLeavingOut"), (0, u "([II)Z"), (0, .methodref 40 41), (0, .class_ 42), (0, .nameAndType 43 44), (0, u "java/util/Arrays"), (0, u "fill"), (0, u "([IIII)V"), (0, .methodref 10 46), (0, .nameAndType 47 48), (0, u "runCount"), (0, u "()I"), (0, .methodref 10 50), (0, .nameAndType 51 52), (0, u "previousEnd"), (0, u "(I)I"), (0, u "NO_RUN"), (2, u "LEFT_OUT"), (1, u "LAST_LEFT_OUT"), (0, u "(II)V"), (2, u "find"), (3, u "()[I"), (0, u "runOf")] 2

def k3c0 : Code := { maxStack := 3, maxLocals := 3, code := prog_20_method_1_code, exceptionTable := #[], attributes := #[] }
def k3m0 : Method := { name := "<init>", desc := "(II)V", sig := { parameters := [.int, .int], returnType := none }, accessFlags := 0, code := some k3c0 }
def k3c1 : Code := { maxStack := 3, maxLocals := 3, code := prog_20_method_2_code, exceptionTable := #[], attributes := #[] }
def k3m1 : Method := { name := "find", desc := "([II)Z", sig := { parameters := [(.array .int), .int], returnType := some .boolean }, accessFlags := 0, code := some k3c1 }
def k3c2 : Code := { maxStack := 4, maxLocals := 4, code := prog_20_method_3_code, exceptionTable := #[], attributes := #[] }
def k3m2 : Method := { name := "findLeavingNoneOut", desc := "([I)Z", sig := { parameters := [(.array .int)], returnType := some .boolean }, accessFlags := 2, code := some k3c2 }
def k3c3 : Code := { maxStack := 4, maxLocals := 10, code := prog_20_method_4_code, exceptionTable := #[], attributes := #[] }
def k3m3 : Method := { name := "findLeavingOut", desc := "([II)Z", sig := { parameters := [(.array .int), .int], returnType := some .boolean }, accessFlags := 2, code := some k3c3 }
def k3c4 : Code := { maxStack := 4, maxLocals := 4, code := prog_20_method_6_code, exceptionTable := #[], attributes := #[] }
def k3m4 : Method := { name := "runOf", desc := "()[I", sig := { parameters := [], returnType := some (.array .int) }, accessFlags := 0, code := some k3c4 }
def k3c5 : Code := { maxStack := 3, maxLocals := 3, code := prog_20_method_7_code, exceptionTable := #[], attributes := #[] }
def k3m5 : Method := { name := "runCount", desc := "()I", sig := { parameters := [], returnType := some .int }, accessFlags := 2, code := some k3c5 }
def k3c6 : Code := { maxStack := 2, maxLocals := 2, code := prog_20_method_8_code, exceptionTable := #[], attributes := #[] }
def k3m6 : Method := { name := "previousEnd", desc := "(I)I", sig := { parameters := [.int], returnType := some .int }, accessFlags := 2, code := some k3c6 }
/-- com/example/gatherline/gatherline/RunSplit -/
def k3 : Class := { plain "com/example/gatherline/gatherline/RunSplit" (some 0) with
  accessFlags := 48
  interfaces := #[]
  cf := some (fileOf pool3 10 #[] #[{ accessFlags := 0, nameIndex := 7, descriptorIndex := 59, attributes := #[] }, { accessFlags := 0, nameIndex := 62, descriptorIndex := 38, attributes := #[] }, { accessFlags := 2, nameIndex := 33, descriptorIndex := 34, attributes := #[] }, { accessFlags := 2, nameIndex := 37, descriptorIndex := 38, attributes := #[] }, { accessFlags := 0, nameIndex := 67, descriptorIndex := 66, attributes := #[] }, { accessFlags := 2, nameIndex := 47, descriptorIndex := 48, attributes := #[] }, { accessFlags := 2, nameIndex := 51, descriptorIndex := 52, attributes := #[] }] 48 4 #[] #[{ accessFlags := 24, nameIndex := 53, descriptorIndex := 14, attributes := #[] }, { accessFlags := 24, nameIndex := 56, descriptorIndex := 14, attributes := #[] }, { accessFlags := 26, nameIndex := 58, descriptorIndex := 14, attributes := #[] }, { accessFlags := 18, nameIndex := 13, descriptorIndex := 14, attributes := #[] }, { accessFlags := 18, nameIndex := 17, descriptorIndex := 14, attributes := #[] }, { accessFlags := 18, nameIndex := 20, descriptorIndex := 21, attributes := #[] }, { accessFlags := 18, nameIndex := 24, descriptorIndex := 21, attributes := #[] }, { accessFlags := 18, nameIndex := 27, descriptorIndex := 21, attributes := #[] }, { accessFlags := 18, nameIndex := 30, descriptorIndex := 21, attributes := #[] }])
  fields := #[{ name := "NO_RUN", type := .int, accessFlags := 24, slot := 0, constantValue := 0 }, { name := "LEFT_OUT", type := .int, accessFlags := 24, slot := 1, constantValue := 0 }, { name := "LAST_LEFT_OUT", type := .int, accessFlags := 26, slot := 2, constantValue := 0 }, { name := "pointCount", type := .int, accessFlags := 18, slot := 0, constantValue := 0 }, { name := "minRun", type := .int, accessFlags := 18, slot := 1, constantValue := 0 }, { name := "fewestLeftOut", type := (.array .int), accessFlags := 18, slot := 2, constantValue := 0 }, { name := "runStart", type := (.array .int), accessFlags := 18, slot := 3, constantValue := 0 }, { name := "queueStart", type := (.array .int), accessFlags := 18, slot := 4, constantValue := 0 }, { name := "queueLeftOut", type := (.array .int), accessFlags := 18, slot := 5, constantValue := 0 }]
  methods := #[k3m0, k3m1, k3m2, k3m3, k3m4, k3m5, k3m6]
  instanceTypes := #[.int, .int, (.array .int), (.array .int), (.array .int), (.array .int)]
  staticTypes := #[.int, .int, .int]
  resolved := Array.replicate 70 none
  statics := none }

def pool4 : Array CpInfo := pool [(2, .class_ 4), (1, u "java/lang/Object"), (0, u "<init>"), (0, u "()V"), (5, u "([IIII)V"), (0, .methodref 14 15), (0, .class_ 16), (0, .nameAndType 17 18), (0, u "java/util/Arrays"), (0, u "rangeCheck"), (0, u "(III)V"), (55, .class_ 76), (1, u "java/util/Arrays$NaturalOrder"), (36, .class_ 115), (1, u "java/util/Arrays$LegacyMergeSort"), (1, u "Z"), (257, .class_ 376), (0, u "java/util/Arrays$ArrayList"), (68, u "$assertionsDisabled"), (269, u "MIN_ARRAY_SORT_GRAN"), (0, u "I"), (2, u "INSERTIONSORT_THRESHOLD"), (120, u "fill"), (134, .class_ 976), (0, u "java/util/Arrays$ArrayItr")] 52

def k4m0 : Method := { name := "<init>", desc := "()V", sig := { parameters := [], returnType := none }, accessFlags := 2, code := none }
def k4c1 : Code := { maxStack := 4, maxLocals := 3, code := jdk_65_method_30_code, exceptionTable := #[], attributes := #[] }
def k4m1 : Method := { name := "rangeCheck", desc := "(III)V", sig := { parameters := [.int, .int, .int], returnType := none }, accessFlags := 8, code := some k4c1 }
def k4c2 : Code := { maxStack := 3, maxLocals := 5, code := jdk_65_method_104_code, exceptionTable := #[], attributes := #[] }
def k4m2 : Method := { name := "fill", desc := "([IIII)V", sig := { parameters := [(.array .int), .int, .int, .int], returnType := none }, accessFlags := 9, code := some k4c2 }
/-- java/util/Arrays -/
def k4 : Class := { plain "java/util/Arrays" (some 0) with
  accessFlags := 49
  interfaces := #[]
  cf := some (fileOf pool4 14 #[.nestMembers #[975, 375, 113, 74]] #[{ accessFlags := 2, nameIndex := 5, descriptorIndex := 6, attributes := #[] }, { accessFlags := 8, nameIndex := 17, descriptorIndex := 18, attributes := #[] }, { accessFlags := 9, nameIndex := 840, descriptorIndex := 12, attributes := #[] }] 49 2 #[] #[{ accessFlags := 26, nameIndex := 715, descriptorIndex := 716, attributes := #[] }, { accessFlags := 26, nameIndex := 719, descriptorIndex := 716, attributes := #[] }, { accessFlags := 4120, nameIndex := 445, descriptorIndex := 117, attributes := #[] }])
  fields := #[{ name := "MIN_ARRAY_SORT_GRAN", type := .int, accessFlags := 26, slot := 0, constantValue := 0 }, { name := "INSERTIONSORT_THRESHOLD", type := .int, accessFlags := 26, slot := 1, constantValue := 0 }, { name := "$assertionsDisabled", type := .boolean, accessFlags := 4120, slot := 2, constantValue := 0 }]
  methods := #[k4m0, k4m1, k4m2]
  instanceTypes := #[]
  staticTypes := #[.int, .int, .boolean]
  resolved := Array.replicate 1029 none
  statics := none }

def pool5 : Array CpInfo := pool [(1, u "java/lang/Cloneable"), (0, .class_ 1), (0, u "java/lang/Object"), (0, .class_ 3)] 3

/-- java/lang/Cloneable -/
def k5 : Class := { plain "java/lang/Cloneable" (some 0) with
  accessFlags := 1537
  interfaces := #[]
  cf := some (fileOf pool5 2 #[] #[] 1537 4 #[] #[])
  fields := #[]
  methods := #[]
  instanceTypes := #[]
  staticTypes := #[]
  resolved := Array.replicate 8 none
  statics := none }

def pool6 : Array CpInfo := pool [(1, u "java/io/Serializable"), (0, .class_ 1), (0, u "java/lang/Object"), (0, .class_ 3)] 3

/-- java/io/Serializable -/
def k6 : Class := { plain "java/io/Serializable" (some 0) with
  accessFlags := 1537
  interfaces := #[]
  cf := some (fileOf pool6 2 #[] #[] 1537 4 #[] #[])
  fields := #[]
  methods := #[]
  instanceTypes := #[]
  staticTypes := #[]
  resolved := Array.replicate 8 none
  statics := none }

/-- the primitive byte -/
def k7 : Class := { plain "byte" none with kind := .primitive 'B', accessFlags := 0x411 }
/-- [B -/
def k8 : Class := { plain "[B" (some 0) with kind := .array 7 .byte, interfaces := #[5, 6], accessFlags := 1041 }

/-- the primitive int -/
def k9 : Class := { plain "int" none with kind := .primitive 'I', accessFlags := 0x411 }
/-- [I -/
def k10 : Class := { plain "[I" (some 0) with kind := .array 9 .int, interfaces := #[5, 6], accessFlags := 1041 }

def heap : Heap := #[]
def classes : Array Class := #[k0, k1, k2, k3, k4, k5, k6, k7, k8, k9, k10]
def interned : List (Array UInt16 × Addr) := []
def slotsUsed : Nat := 0
def theMethod : MethodId := ⟨1, 8⟩
def args0 : Array Value := #[.int 5, .int 5, .int 5, .int 5]
def aboutOver (below : List Frame) : State where
  vm := { classes := classes, interned := interned.toArray }
  heap := heap
  slotsUsed := slotsUsed
  threads := #[{ frames := .invoking theMethod args0 :: below }]
def below0 : List Frame := [.native { method := ⟨0, 0⟩, args := #[] }]
def about1 : State := aboutOver below0
def p0 : Program := .bare "" "" ""
def e0 : Env := launch0.env 0 0 0
theorem w_frames : about1.frames = Frame.invoking theMethod args0 :: below0 := rfl
set_option maxRecDepth 65536 in
theorem w_args : argsFit about1.vm theMethod args0 = true := by decide +kernel
set_option maxRecDepth 65536 in
theorem w_heap : heapFits about1 = true := by decide +kernel
set_option maxRecDepth 65536 in
theorem w_runnable : about1.curStatus? = some .runnable := by decide +kernel
set_option maxRecDepth 65536 in
theorem w_alone : about1.alone = true := by decide +kernel
set_option maxRecDepth 65536 in
theorem w_named : about1.methodNamed? x = some theMethod := by decide +kernel
set_option maxRecDepth 65536 in
theorem w_hears : about1.hears theMethod below0 = true := by decide +kernel
set_option maxRecDepth 65536 in
theorem w_ripe : about1.ripe theMethod args0 below0 = true := by decide +kernel
theorem w_running : about1.status = .running := rfl
set_option maxRecDepth 65536 in
theorem w_room : about1.hasRoom e0.platform room_1 = true :=
  launch0.hasRoom_least _ room_1 (by decide +kernel) (by decide +kernel) (by decide +kernel) (by decide +kernel) (by decide +kernel) (by decide +kernel)
theorem allAtoms_all (ts : List Jvm.Cond) (a : Array Jvm.Value) (st : Jvm.State) : (allAtoms ts).before a st = ts.all (fun c => c.before a st) := by
  induction ts with
  | nil => rfl
  | cons c t ih =>
    show (Jvm.Cond.and c (allAtoms t)).before a st = _
    rw [Jvm.Cond.before_and, ih, List.all_cons]
def words1 : List Jvm.Cond := Jvm.Cond.code x code maxLocals ret :: tables_1
/-- a 'code' word, met by the world's own term for the bytes: nothing is compared byte by byte -/
theorem code_word {y : MethodName} {bytes : ByteArray} {mx : Nat} {rt : Option FieldType} {a : Array Value} {s : State} {m : MethodId} {meth : Method} {c : Code} (h1 : s.methodNamed? y = some m) (h2 : s.vm.method? m = some meth) (h3 : meth.code = some c) (h4 : c.code = bytes)
    (h5 : (c.maxLocals == mx && c.exceptionTable.isEmpty && decide (c.maxStack ≤ mostOperands) && decide (meth.sig.returnType = rt) && !meth.locks && decide (parseMethodDescriptor y.desc = some meth.sig)) = true) : (Jvm.Cond.code y bytes mx rt).before a s = true := by
  simp only [Bool.and_eq_true, beq_iff_eq, Bool.not_eq_true', decide_eq_true_eq] at h5
  obtain ⟨⟨⟨⟨⟨g1, g2⟩, g3⟩, g4⟩, g5⟩, g6⟩ := h5
  simp [Cond.before, Cond.holds, Cond.value, h1, h2, h3, h4, g1, g2, g3, g4, g5, g6]
def isCode : Jvm.Cond → Bool
  | .code _ _ _ _ => true
  | _ => false
theorem all_split {L : List Jvm.Cond} {P : Jvm.Cond → Bool} (h1 : L.all (fun c => isCode c || P c) = true) (h2 : ∀ c ∈ L.filter isCode, P c = true) : L.all P = true := by
  refine List.all_eq_true.mpr fun c hc => ?_
  have h := List.all_eq_true.mp h1 c hc
  rcases Bool.eq_false_or_eq_true (isCode c) with hi | hi
  · exact h2 c (List.mem_filter.mpr ⟨hc, hi⟩)
  · simpa [hi] using h
set_option maxRecDepth 65536 in
theorem w_c0 : (Jvm.Cond.code x code maxLocals ret).before args0 about1 = true := code_word (m := ⟨1, 8⟩) (meth := k1m8) (c := k1c8) (by decide +kernel) rfl rfl rfl (by decide +kernel)
set_option maxRecDepth 65536 in
theorem w_c1 : (Jvm.Cond.code ({ cls := "java/lang/Math", name := "min", desc := "(II)I" } : Jvm.MethodName) jdk_29_method_69_code (2 : Nat) (Option.some Jvm.ClassFile.FieldType.int)).before args0 about1 = true := code_word (m := ⟨2, 1⟩) (meth := k2m1) (c := k2c1) (by decide +kernel) rfl rfl rfl (by decide +kernel)
set_option maxRecDepth 65536 in
theorem w_c2 : (Jvm.Cond.code ({ cls := "com/example/gatherline/gatherline/RunSplitFindPinLaw", name := "first", desc := "([III)I" } : Jvm.MethodName) method_2_code (3 : Nat) (Option.some Jvm.ClassFile.FieldType.int)).before args0 about1 = true := code_word (m := ⟨1, 1⟩) (meth := k1m1) (c := k1c1) (by decide +kernel) rfl rfl rfl (by decide +kernel)
set_option maxRecDepth 65536 in
theorem w_c3 : (Jvm.Cond.code ({ cls := "com/example/gatherline/gatherline/RunSplitFindPinLaw", name := "step", desc := "([IIII)I" } : Jvm.MethodName) method_4_code (5 : Nat) (Option.some Jvm.ClassFile.FieldType.int)).before args0 about1 = true := code_word (m := ⟨1, 3⟩) (meth := k1m3) (c := k1c3) (by decide +kernel) rfl rfl rfl (by decide +kernel)
set_option maxRecDepth 65536 in
theorem w_c4 : (Jvm.Cond.code ({ cls := "com/example/gatherline/gatherline/RunSplitFindPinLaw", name := "cand", desc := "([IIIII)I" } : Jvm.MethodName) method_3_code (5 : Nat) (Option.some Jvm.ClassFile.FieldType.int)).before args0 about1 = true := code_word (m := ⟨1, 2⟩) (meth := k1m2) (c := k1c2) (by decide +kernel) rfl rfl rfl (by decide +kernel)
set_option maxRecDepth 65536 in
theorem w_c5 : (Jvm.Cond.code ({ cls := "com/example/gatherline/gatherline/RunSplit", name := "<init>", desc := "(II)V" } : Jvm.MethodName) prog_20_method_1_code (3 : Nat) (Option.none : Option Jvm.ClassFile.FieldType)).before args0 about1 = true := code_word (m := ⟨3, 0⟩) (meth := k3m0) (c := k3c0) (by decide +kernel) rfl rfl rfl (by decide +kernel)
set_option maxRecDepth 65536 in
theorem w_c6 : (Jvm.Cond.code ({ cls := "java/lang/Object", name := "<init>", desc := "()V" } : Jvm.MethodName) object_method_1_code (1 : Nat) (Option.none : Option Jvm.ClassFile.FieldType)).before args0 about1 = true := code_word (m := ⟨0, 0⟩) (meth := k0m0) (c := k0c0) (by decide +kernel) rfl rfl rfl (by decide +kernel)
set_option maxRecDepth 65536 in
theorem w_c7 : (Jvm.Cond.code ({ cls := "com/example/gatherline/gatherline/RunSplit", name := "find", desc := "([II)Z" } : Jvm.MethodName) prog_20_method_2_code (3 : Nat) (Option.some Jvm.ClassFile.FieldType.boolean)).before args0 about1 = true := code_word (m := ⟨3, 1⟩) (meth := k3m1) (c := k3c1) (by decide +kernel) rfl rfl rfl (by decide +kernel)
set_option maxRecDepth 65536 in
theorem w_c8 : (Jvm.Cond.code ({ cls := "com/example/gatherline/gatherline/RunSplit", name := "findLeavingOut", desc := "([II)Z" } : Jvm.MethodName) prog_20_method_4_code (10 : Nat) (Option.some Jvm.ClassFile.FieldType.boolean)).before args0 about1 = true := code_word (m := ⟨3, 3⟩) (meth := k3m3) (c := k3c3) (by decide +kernel) rfl rfl rfl (by decide +kernel)
set_option maxRecDepth 65536 in
theorem w_c9 : (Jvm.Cond.code ({ cls := "com/example/gatherline/gatherline/RunSplit", name := "runOf", desc := "()[I" } : Jvm.MethodName) prog_20_method_6_code (4 : Nat) (Option.some (Jvm.ClassFile.FieldType.array Jvm.ClassFile.FieldType.int))).before args0 about1 = true := code_word (m := ⟨3, 4⟩) (meth := k3m4) (c := k3c4) (by decide +kernel) rfl rfl rfl (by decide +kernel)
set_option maxRecDepth 65536 in
theorem w_c10 : (Jvm.Cond.code ({ cls := "com/example/gatherline/gatherline/RunSplit", name := "runCount", desc := "()I" } : Jvm.MethodName) prog_20_method_7_code (3 : Nat) (Option.some Jvm.ClassFile.FieldType.int)).before args0 about1 = true := code_word (m := ⟨3, 5⟩) (meth := k3m5) (c := k3c5) (by decide +kernel) rfl rfl rfl (by decide +kernel)
set_option maxRecDepth 65536 in
theorem w_c11 : (Jvm.Cond.code ({ cls := "com/example/gatherline/gatherline/RunSplitFindPinLaw", name := "isStart", desc := "([II)Z" } : Jvm.MethodName) method_5_code (2 : Nat) (Option.some Jvm.ClassFile.FieldType.boolean)).before args0 about1 = true := code_word (m := ⟨1, 4⟩) (meth := k1m4) (c := k1c4) (by decide +kernel) rfl rfl rfl (by decide +kernel)
set_option maxRecDepth 65536 in
theorem w_c12 : (Jvm.Cond.code ({ cls := "com/example/gatherline/gatherline/RunSplitFindPinLaw", name := "one", desc := "(Z)I" } : Jvm.MethodName) method_8_code (1 : Nat) (Option.some Jvm.ClassFile.FieldType.int)).before args0 about1 = true := code_word (m := ⟨1, 7⟩) (meth := k1m7) (c := k1c7) (by decide +kernel) rfl rfl rfl (by decide +kernel)
set_option maxRecDepth 65536 in
theorem w_c13 : (Jvm.Cond.code ({ cls := "com/example/gatherline/gatherline/RunSplitFindPinLaw", name := "pointOk", desc := "([IIII[II)Z" } : Jvm.MethodName) method_7_code (7 : Nat) (Option.some Jvm.ClassFile.FieldType.boolean)).before args0 about1 = true := code_word (m := ⟨1, 6⟩) (meth := k1m6) (c := k1c6) (by decide +kernel) rfl rfl rfl (by decide +kernel)
set_option maxRecDepth 65536 in
theorem w_c14 : (Jvm.Cond.code ({ cls := "com/example/gatherline/gatherline/RunSplit", name := "previousEnd", desc := "(I)I" } : Jvm.MethodName) prog_20_method_8_code (2 : Nat) (Option.some Jvm.ClassFile.FieldType.int)).before args0 about1 = true := code_word (m := ⟨3, 6⟩) (meth := k3m6) (c := k3c6) (by decide +kernel) rfl rfl rfl (by decide +kernel)
set_option maxRecDepth 65536 in
theorem w_c15 : (Jvm.Cond.code ({ cls := "java/util/Arrays", name := "fill", desc := "([IIII)V" } : Jvm.MethodName) jdk_65_method_104_code (5 : Nat) (Option.none : Option Jvm.ClassFile.FieldType)).before args0 about1 = true := code_word (m := ⟨4, 2⟩) (meth := k4m2) (c := k4c2) (by decide +kernel) rfl rfl rfl (by decide +kernel)
set_option maxRecDepth 65536 in
theorem w_c16 : (Jvm.Cond.code ({ cls := "java/util/Arrays", name := "rangeCheck", desc := "(III)V" } : Jvm.MethodName) jdk_65_method_30_code (3 : Nat) (Option.none : Option Jvm.ClassFile.FieldType)).before args0 about1 = true := code_word (m := ⟨4, 1⟩) (meth := k4m1) (c := k4c1) (by decide +kernel) rfl rfl rfl (by decide +kernel)
set_option maxRecDepth 65536 in
theorem w_c17 : (Jvm.Cond.code ({ cls := "com/example/gatherline/gatherline/RunSplitFindPinLaw", name := "runEnd", desc := "([II)I" } : Jvm.MethodName) method_6_code (3 : Nat) (Option.some Jvm.ClassFile.FieldType.int)).before args0 about1 = true := code_word (m := ⟨1, 5⟩) (meth := k1m5) (c := k1c5) (by decide +kernel) rfl rfl rfl (by decide +kernel)
set_option maxRecDepth 65536 in
theorem w_c18 : (Jvm.Cond.code ({ cls := "com/example/gatherline/gatherline/RunSplit", name := "findLeavingNoneOut", desc := "([I)Z" } : Jvm.MethodName) prog_20_method_3_code (4 : Nat) (Option.some Jvm.ClassFile.FieldType.boolean)).before args0 about1 = true := code_word (m := ⟨3, 2⟩) (meth := k3m2) (c := k3c2) (by decide +kernel) rfl rfl rfl (by decide +kernel)
def codes1 : List Jvm.Cond := [Jvm.Cond.code x code maxLocals ret, Jvm.Cond.code ({ cls := "java/lang/Math", name := "min", desc := "(II)I" } : Jvm.MethodName) jdk_29_method_69_code (2 : Nat) (Option.some Jvm.ClassFile.FieldType.int), Jvm.Cond.code ({ cls := "com/example/gatherline/gatherline/RunSplitFindPinLaw", name := "first", desc := "([III)I" } : Jvm.MethodName) method_2_code (3 : Nat) (Option.some Jvm.ClassFile.FieldType.int), Jvm.Cond.code ({ cls := "com/example/gatherline/gatherline/RunSplitFindPinLaw", name := "step", desc := "([IIII)I" } : Jvm.MethodName) method_4_code (5 : Nat) (Option.some Jvm.ClassFile.FieldType.int), Jvm.Cond.code ({ cls := "com/example/gatherline/gatherline/RunSplitFindPinLaw", name := "cand", desc := "([IIIII)I" } : Jvm.MethodName) method_3_code (5 : Nat) (Option.some Jvm.ClassFile.FieldType.int), Jvm.Cond.code ({ cls := "com/example/gatherline/gatherline/RunSplit", name := "<init>", desc := "(II)V" } : Jvm.MethodName) prog_20_method_1_code (3 : Nat) (Option.none : Option Jvm.ClassFile.FieldType), Jvm.Cond.code ({ cls := "java/lang/Object", name := "<init>", desc := "()V" } : Jvm.MethodName) object_method_1_code (1 : Nat) (Option.none : Option Jvm.ClassFile.FieldType), Jvm.Cond.code ({ cls := "com/example/gatherline/gatherline/RunSplit", name := "find", desc := "([II)Z" } : Jvm.MethodName) prog_20_method_2_code (3 : Nat) (Option.some Jvm.ClassFile.FieldType.boolean), Jvm.Cond.code ({ cls := "com/example/gatherline/gatherline/RunSplit", name := "findLeavingOut", desc := "([II)Z" } : Jvm.MethodName) prog_20_method_4_code (10 : Nat) (Option.some Jvm.ClassFile.FieldType.boolean), Jvm.Cond.code ({ cls := "com/example/gatherline/gatherline/RunSplit", name := "runOf", desc := "()[I" } : Jvm.MethodName) prog_20_method_6_code (4 : Nat) (Option.some (Jvm.ClassFile.FieldType.array Jvm.ClassFile.FieldType.int)), Jvm.Cond.code ({ cls := "com/example/gatherline/gatherline/RunSplit", name := "runCount", desc := "()I" } : Jvm.MethodName) prog_20_method_7_code (3 : Nat) (Option.some Jvm.ClassFile.FieldType.int), Jvm.Cond.code ({ cls := "com/example/gatherline/gatherline/RunSplitFindPinLaw", name := "isStart", desc := "([II)Z" } : Jvm.MethodName) method_5_code (2 : Nat) (Option.some Jvm.ClassFile.FieldType.boolean), Jvm.Cond.code ({ cls := "com/example/gatherline/gatherline/RunSplitFindPinLaw", name := "one", desc := "(Z)I" } : Jvm.MethodName) method_8_code (1 : Nat) (Option.some Jvm.ClassFile.FieldType.int), Jvm.Cond.code ({ cls := "com/example/gatherline/gatherline/RunSplitFindPinLaw", name := "pointOk", desc := "([IIII[II)Z" } : Jvm.MethodName) method_7_code (7 : Nat) (Option.some Jvm.ClassFile.FieldType.boolean), Jvm.Cond.code ({ cls := "com/example/gatherline/gatherline/RunSplit", name := "previousEnd", desc := "(I)I" } : Jvm.MethodName) prog_20_method_8_code (2 : Nat) (Option.some Jvm.ClassFile.FieldType.int), Jvm.Cond.code ({ cls := "java/util/Arrays", name := "fill", desc := "([IIII)V" } : Jvm.MethodName) jdk_65_method_104_code (5 : Nat) (Option.none : Option Jvm.ClassFile.FieldType), Jvm.Cond.code ({ cls := "java/util/Arrays", name := "rangeCheck", desc := "(III)V" } : Jvm.MethodName) jdk_65_method_30_code (3 : Nat) (Option.none : Option Jvm.ClassFile.FieldType), Jvm.Cond.code ({ cls := "com/example/gatherline/gatherline/RunSplitFindPinLaw", name := "runEnd", desc := "([II)I" } : Jvm.MethodName) method_6_code (3 : Nat) (Option.some Jvm.ClassFile.FieldType.int), Jvm.Cond.code ({ cls := "com/example/gatherline/gatherline/RunSplit", name := "findLeavingNoneOut", desc := "([I)Z" } : Jvm.MethodName) prog_20_method_3_code (4 : Nat) (Option.some Jvm.ClassFile.FieldType.boolean)]
set_option maxRecDepth 65536 in
theorem codes_eq : words1.filter isCode = codes1 := rfl
theorem w_codes : ∀ c ∈ words1.filter isCode, c.before args0 about1 = true := by
  rw [codes_eq]
  intro c hc
  simp only [codes1, List.mem_cons, List.not_mem_nil, or_false] at hc
  rcases hc with rfl | rfl | rfl | rfl | rfl | rfl | rfl | rfl | rfl | rfl | rfl | rfl | rfl | rfl | rfl | rfl | rfl | rfl | rfl
  · exact w_c0
  · exact w_c1
  · exact w_c2
  · exact w_c3
  · exact w_c4
  · exact w_c5
  · exact w_c6
  · exact w_c7
  · exact w_c8
  · exact w_c9
  · exact w_c10
  · exact w_c11
  · exact w_c12
  · exact w_c13
  · exact w_c14
  · exact w_c15
  · exact w_c16
  · exact w_c17
  · exact w_c18
set_option maxRecDepth 65536 in
theorem w_t1 : (words1.take 24).all (fun c => isCode c || c.before args0 about1) = true := by decide +kernel
set_option maxRecDepth 65536 in
theorem w_t2 : ((words1.drop 24).take 24).all (fun c => isCode c || c.before args0 about1) = true := by decide +kernel
set_option maxRecDepth 65536 in
theorem w_t3 : (((words1.drop 24).drop 24).take 24).all (fun c => isCode c || c.before args0 about1) = true := by decide +kernel
set_option maxRecDepth 65536 in
theorem w_t4 : (((words1.drop 24).drop 24).drop 24).all (fun c => isCode c || c.before args0 about1) = true := by decide +kernel
theorem w_tables : (allAtoms (Jvm.Cond.code x code maxLocals ret :: tables_1)).before args0 about1 = true := by
  rw [allAtoms_all]
  show words1.all (fun c => c.before args0 about1) = true
  refine all_split ?_ w_codes
  rw [← List.take_append_drop 24 words1, List.all_append, w_t1, ← List.take_append_drop 24 (words1.drop 24), List.all_append, w_t2, ← List.take_append_drop 24 ((words1.drop 24).drop 24), List.all_append, w_t3, w_t4]
  rfl
set_option maxRecDepth 65536 in
theorem w_case : (Jvm.Cond.and given_1 narrow_1).before args0 about1 = true := by decide +kernel
theorem w_applies : (headSpec (Jvm.Cond.code x code maxLocals ret :: tables_1) room_1).applies x e0.platform about1 = true :=
  (Spec.applies_iff w_frames).mpr ⟨w_running, w_runnable, w_alone, w_named, w_hears, w_ripe, w_room, w_tables⟩
theorem atStart : AtStart classFile x code maxLocals ret World_1 tables_1 room_1 Calls_1 rest_1 Pre_1 launch0 p0 e0 about1 theMethod args0 below0 :=
  ⟨lists_1, trivial, launch0.admits_env _ _ _, launch0.least_env, fairChoices_fair.cas, fairChoices_fair.clock, w_frames, w_args, w_heap, w_applies, trivial, trivial, w_case⟩
end start1
theorem witness_1 : WitnessClaimed_1 := ⟨start1.p0, start1.e0, start1.about1, start1.theMethod, start1.args0, start1.below0, start1.atStart⟩
end Jvm.Pilot.@@N@@
