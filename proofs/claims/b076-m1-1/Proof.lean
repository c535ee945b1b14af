import JvmDerived
import JvmDerived.Pilot.@@N@@Statement
import JvmDerived.Pilot.@@N@@Code
set_option linter.unusedVariables false
set_option linter.unusedSimpArgs false
@@BLOCK:NumsL.lean.txt@@
namespace Jvm.Pilot.@@N@@
open Jvm Jvm.ClassFile Sem Op Lib Jvm.Free Jvm.Stand Jvm.LawKit Jvm.RoadKit Bundle Jvm.Pilot.@@N@@.Jvm.D
/-! ### the classes whose objects the law makes, with their fields as the sheet lays them -/
def own_F0 : List (String × String) := [("starts", "[I"), ("words", "[J"), ("touched", "[I"), ("isTouched", "[Z"), ("touchedCount", "I")]
def own_cl (t : Nat) : Option (String × List (String × String)) := if t = 0 then some ("com/example/tablewise/tablewise/estr2/Pwsup", own_F0) else none
theorem own_cl0 : own_cl 0 = some ("com/example/tablewise/tablewise/estr2/Pwsup", own_F0) := rfl
def own_V0 : List Value := [.null, .null, .null, .null, .int 0]
theorem own_fd0_0 : parseFieldDescriptor "[I" = some (.array .int) := by decide +kernel
theorem own_fd0_1 : parseFieldDescriptor "[J" = some (.array .long) := by decide +kernel
theorem own_fd0_2 : parseFieldDescriptor "[I" = some (.array .int) := by decide +kernel
theorem own_fd0_3 : parseFieldDescriptor "[Z" = some (.array .boolean) := by decide +kernel
theorem own_fd0_4 : parseFieldDescriptor "I" = some .int := by decide +kernel
/-! ### the sheet's words -/
theorem own_w0 : (Jvm.Cond.constant "com/example/tablewise/tablewise/estr2/PwsupAddPinLaw" (9 : Nat) (2147483647 : Int32)) ∈ tables_1 := List.mem_of_getElem? (i := 0) rfl
theorem own_w1 : (Jvm.Cond.arrayClass Jvm.ClassFile.FieldType.int) ∈ tables_1 := List.mem_of_getElem? (i := 1) rfl
theorem own_w2 : (Jvm.Cond.classLink "com/example/tablewise/tablewise/estr2/PwsupAddPinLaw" (10 : Nat) "com/example/tablewise/tablewise/estr2/Pwsup") ∈ tables_1 := List.mem_of_getElem? (i := 2) rfl
theorem own_w3 : (Jvm.Cond.instantiable "com/example/tablewise/tablewise/estr2/Pwsup" (5 : Nat)) ∈ tables_1 := List.mem_of_getElem? (i := 3) rfl
theorem own_w4 : (Jvm.Cond.initialized "com/example/tablewise/tablewise/estr2/Pwsup") ∈ tables_1 := List.mem_of_getElem? (i := 4) rfl
theorem own_w5 : (Jvm.Cond.methodLink "com/example/tablewise/tablewise/estr2/PwsupAddPinLaw" (12 : Nat) ({ cls := "com/example/tablewise/tablewise/estr2/Pwsup", name := "<init>", desc := "([I)V" } : Jvm.MethodName)) ∈ tables_1 := List.mem_of_getElem? (i := 5) rfl
theorem own_w6 : (Jvm.Cond.instanceMethod ({ cls := "com/example/tablewise/tablewise/estr2/Pwsup", name := "<init>", desc := "([I)V" } : Jvm.MethodName)) ∈ tables_1 := List.mem_of_getElem? (i := 6) rfl
theorem own_w7 : (Jvm.Cond.code ({ cls := "com/example/tablewise/tablewise/estr2/Pwsup", name := "<init>", desc := "([I)V" } : Jvm.MethodName) prog_28_method_1_code (5 : Nat) (Option.none : Option Jvm.ClassFile.FieldType)) ∈ tables_1 := List.mem_of_getElem? (i := 7) rfl
theorem own_w8 : (Jvm.Cond.methodLink "com/example/tablewise/tablewise/estr2/Pwsup" (1 : Nat) ({ cls := "java/lang/Object", name := "<init>", desc := "()V" } : Jvm.MethodName)) ∈ tables_1 := List.mem_of_getElem? (i := 8) rfl
theorem own_w9 : (Jvm.Cond.instanceMethod ({ cls := "java/lang/Object", name := "<init>", desc := "()V" } : Jvm.MethodName)) ∈ tables_1 := List.mem_of_getElem? (i := 9) rfl
theorem own_w10 : Jvm.Cond.code Lib.objectInit ⟨#[0xb1]⟩ 1 none ∈ tables_1 := List.mem_of_getElem? (i := 10) rfl
theorem own_w11 : (Jvm.Cond.fieldLink "com/example/tablewise/tablewise/estr2/Pwsup" (7 : Nat) "com/example/tablewise/tablewise/estr2/Pwsup" "starts" "[I") ∈ tables_1 := List.mem_of_getElem? (i := 11) rfl
theorem own_w12 : (Jvm.Cond.laysFinal "com/example/tablewise/tablewise/estr2/Pwsup" "com/example/tablewise/tablewise/estr2/Pwsup" "starts" "[I") ∈ tables_1 := List.mem_of_getElem? (i := 12) rfl
theorem own_w13 : (Jvm.Cond.methodLink "com/example/tablewise/tablewise/estr2/Pwsup" (13 : Nat) ({ cls := "com/example/tablewise/tablewise/estr2/Pwsup", name := "wordCount", desc := "(J)J" } : Jvm.MethodName)) ∈ tables_1 := List.mem_of_getElem? (i := 13) rfl
theorem own_w14 : (Jvm.Cond.static ({ cls := "com/example/tablewise/tablewise/estr2/Pwsup", name := "wordCount", desc := "(J)J" } : Jvm.MethodName)) ∈ tables_1 := List.mem_of_getElem? (i := 14) rfl
theorem own_w15 : (Jvm.Cond.code ({ cls := "com/example/tablewise/tablewise/estr2/Pwsup", name := "wordCount", desc := "(J)J" } : Jvm.MethodName) prog_28_method_10_code (2 : Nat) (Option.some Jvm.ClassFile.FieldType.long)) ∈ tables_1 := List.mem_of_getElem? (i := 15) rfl
theorem own_w16 : (Jvm.Cond.constantLong "com/example/tablewise/tablewise/estr2/Pwsup" (32 : Nat) (64 : Int64)) ∈ tables_1 := List.mem_of_getElem? (i := 16) rfl
theorem own_w17 : (Jvm.Cond.arrayClass Jvm.ClassFile.FieldType.long) ∈ tables_1 := List.mem_of_getElem? (i := 17) rfl
theorem own_w18 : (Jvm.Cond.fieldLink "com/example/tablewise/tablewise/estr2/Pwsup" (17 : Nat) "com/example/tablewise/tablewise/estr2/Pwsup" "words" "[J") ∈ tables_1 := List.mem_of_getElem? (i := 18) rfl
theorem own_w19 : (Jvm.Cond.laysFinal "com/example/tablewise/tablewise/estr2/Pwsup" "com/example/tablewise/tablewise/estr2/Pwsup" "words" "[J") ∈ tables_1 := List.mem_of_getElem? (i := 19) rfl
theorem own_w20 : (Jvm.Cond.fieldLink "com/example/tablewise/tablewise/estr2/Pwsup" (23 : Nat) "com/example/tablewise/tablewise/estr2/Pwsup" "touched" "[I") ∈ tables_1 := List.mem_of_getElem? (i := 20) rfl
theorem own_w21 : (Jvm.Cond.laysFinal "com/example/tablewise/tablewise/estr2/Pwsup" "com/example/tablewise/tablewise/estr2/Pwsup" "touched" "[I") ∈ tables_1 := List.mem_of_getElem? (i := 21) rfl
theorem own_w22 : (Jvm.Cond.arrayClass Jvm.ClassFile.FieldType.boolean) ∈ tables_1 := List.mem_of_getElem? (i := 22) rfl
theorem own_w23 : (Jvm.Cond.fieldLink "com/example/tablewise/tablewise/estr2/Pwsup" (26 : Nat) "com/example/tablewise/tablewise/estr2/Pwsup" "isTouched" "[Z") ∈ tables_1 := List.mem_of_getElem? (i := 23) rfl
theorem own_w24 : (Jvm.Cond.laysFinal "com/example/tablewise/tablewise/estr2/Pwsup" "com/example/tablewise/tablewise/estr2/Pwsup" "isTouched" "[Z") ∈ tables_1 := List.mem_of_getElem? (i := 24) rfl
theorem own_w25 : (Jvm.Cond.methodLink "com/example/tablewise/tablewise/estr2/PwsupAddPinLaw" (15 : Nat) ({ cls := "com/example/tablewise/tablewise/estr2/Pwsup", name := "clear", desc := "(I)V" } : Jvm.MethodName)) ∈ tables_1 := List.mem_of_getElem? (i := 25) rfl
theorem own_w26 : (Jvm.Cond.declares ({ cls := "com/example/tablewise/tablewise/estr2/Pwsup", name := "clear", desc := "(I)V" } : Jvm.MethodName)) ∈ tables_1 := List.mem_of_getElem? (i := 26) rfl
theorem own_w27 : (Jvm.Cond.instanceMethod ({ cls := "com/example/tablewise/tablewise/estr2/Pwsup", name := "clear", desc := "(I)V" } : Jvm.MethodName)) ∈ tables_1 := List.mem_of_getElem? (i := 27) rfl
theorem own_w28 : (Jvm.Cond.selects "com/example/tablewise/tablewise/estr2/Pwsup" ({ cls := "com/example/tablewise/tablewise/estr2/Pwsup", name := "clear", desc := "(I)V" } : Jvm.MethodName) ({ cls := "com/example/tablewise/tablewise/estr2/Pwsup", name := "clear", desc := "(I)V" } : Jvm.MethodName)) ∈ tables_1 := List.mem_of_getElem? (i := 28) rfl
theorem own_w29 : (Jvm.Cond.code ({ cls := "com/example/tablewise/tablewise/estr2/Pwsup", name := "clear", desc := "(I)V" } : Jvm.MethodName) prog_28_method_8_code (3 : Nat) (Option.none : Option Jvm.ClassFile.FieldType)) ∈ tables_1 := List.mem_of_getElem? (i := 29) rfl
theorem own_w30 : (Jvm.Cond.methodLink "com/example/tablewise/tablewise/estr2/PwsupAddPinLaw" (19 : Nat) ({ cls := "com/example/tablewise/tablewise/estr2/Pwsup", name := "add", desc := "(II)V" } : Jvm.MethodName)) ∈ tables_1 := List.mem_of_getElem? (i := 30) rfl
theorem own_w31 : (Jvm.Cond.declares ({ cls := "com/example/tablewise/tablewise/estr2/Pwsup", name := "add", desc := "(II)V" } : Jvm.MethodName)) ∈ tables_1 := List.mem_of_getElem? (i := 31) rfl
theorem own_w32 : (Jvm.Cond.instanceMethod ({ cls := "com/example/tablewise/tablewise/estr2/Pwsup", name := "add", desc := "(II)V" } : Jvm.MethodName)) ∈ tables_1 := List.mem_of_getElem? (i := 32) rfl
theorem own_w33 : (Jvm.Cond.selects "com/example/tablewise/tablewise/estr2/Pwsup" ({ cls := "com/example/tablewise/tablewise/estr2/Pwsup", name := "add", desc := "(II)V" } : Jvm.MethodName) ({ cls := "com/example/tablewise/tablewise/estr2/Pwsup", name := "add", desc := "(II)V" } : Jvm.MethodName)) ∈ tables_1 := List.mem_of_getElem? (i := 33) rfl
theorem own_w34 : (Jvm.Cond.code ({ cls := "com/example/tablewise/tablewise/estr2/Pwsup", name := "add", desc := "(II)V" } : Jvm.MethodName) prog_28_method_7_code (3 : Nat) (Option.none : Option Jvm.ClassFile.FieldType)) ∈ tables_1 := List.mem_of_getElem? (i := 34) rfl
theorem own_w35 : (Jvm.Cond.fieldLink "com/example/tablewise/tablewise/estr2/Pwsup" (40 : Nat) "com/example/tablewise/tablewise/estr2/Pwsup" "touchedCount" "I") ∈ tables_1 := List.mem_of_getElem? (i := 35) rfl
theorem own_w36 : (Jvm.Cond.lays "com/example/tablewise/tablewise/estr2/Pwsup" "com/example/tablewise/tablewise/estr2/Pwsup" "touchedCount" "I") ∈ tables_1 := List.mem_of_getElem? (i := 36) rfl
theorem own_w37 : (Jvm.Cond.methodLink "com/example/tablewise/tablewise/estr2/PwsupAddPinLaw" (23 : Nat) ({ cls := "com/example/tablewise/tablewise/estr2/Pwsup", name := "words", desc := "()[J" } : Jvm.MethodName)) ∈ tables_1 := List.mem_of_getElem? (i := 37) rfl
theorem own_w38 : (Jvm.Cond.declares ({ cls := "com/example/tablewise/tablewise/estr2/Pwsup", name := "words", desc := "()[J" } : Jvm.MethodName)) ∈ tables_1 := List.mem_of_getElem? (i := 38) rfl
theorem own_w39 : (Jvm.Cond.instanceMethod ({ cls := "com/example/tablewise/tablewise/estr2/Pwsup", name := "words", desc := "()[J" } : Jvm.MethodName)) ∈ tables_1 := List.mem_of_getElem? (i := 39) rfl
theorem own_w40 : (Jvm.Cond.selects "com/example/tablewise/tablewise/estr2/Pwsup" ({ cls := "com/example/tablewise/tablewise/estr2/Pwsup", name := "words", desc := "()[J" } : Jvm.MethodName) ({ cls := "com/example/tablewise/tablewise/estr2/Pwsup", name := "words", desc := "()[J" } : Jvm.MethodName)) ∈ tables_1 := List.mem_of_getElem? (i := 40) rfl
theorem own_w41 : (Jvm.Cond.code ({ cls := "com/example/tablewise/tablewise/estr2/Pwsup", name := "words", desc := "()[J" } : Jvm.MethodName) prog_28_method_3_code (1 : Nat) (Option.some (Jvm.ClassFile.FieldType.array Jvm.ClassFile.FieldType.long))) ∈ tables_1 := List.mem_of_getElem? (i := 41) rfl
theorem own_w42 : (Jvm.Cond.methodLink "com/example/tablewise/tablewise/estr2/PwsupAddPinLaw" (27 : Nat) ({ cls := "com/example/tablewise/tablewise/estr2/PwsupAddPinLaw", name := "nw", desc := "(I)I" } : Jvm.MethodName)) ∈ tables_1 := List.mem_of_getElem? (i := 42) rfl
theorem own_w43 : (Jvm.Cond.static ({ cls := "com/example/tablewise/tablewise/estr2/PwsupAddPinLaw", name := "nw", desc := "(I)I" } : Jvm.MethodName)) ∈ tables_1 := List.mem_of_getElem? (i := 43) rfl
theorem own_w44 : (Jvm.Cond.initialized "com/example/tablewise/tablewise/estr2/PwsupAddPinLaw") ∈ tables_1 := List.mem_of_getElem? (i := 44) rfl
theorem own_w45 : (Jvm.Cond.code ({ cls := "com/example/tablewise/tablewise/estr2/PwsupAddPinLaw", name := "nw", desc := "(I)I" } : Jvm.MethodName) method_2_code (1 : Nat) (Option.some Jvm.ClassFile.FieldType.int)) ∈ tables_1 := List.mem_of_getElem? (i := 45) rfl
theorem own_w46 : (Jvm.Cond.methodLink "com/example/tablewise/tablewise/estr2/PwsupAddPinLaw" (33 : Nat) ({ cls := "com/example/tablewise/tablewise/estr2/PwsupAddPinLaw", name := "word", desc := "([JIII)J" } : Jvm.MethodName)) ∈ tables_1 := List.mem_of_getElem? (i := 46) rfl
theorem own_w47 : (Jvm.Cond.static ({ cls := "com/example/tablewise/tablewise/estr2/PwsupAddPinLaw", name := "word", desc := "([JIII)J" } : Jvm.MethodName)) ∈ tables_1 := List.mem_of_getElem? (i := 47) rfl
theorem own_w48 : (Jvm.Cond.code ({ cls := "com/example/tablewise/tablewise/estr2/PwsupAddPinLaw", name := "word", desc := "([JIII)J" } : Jvm.MethodName) method_5_code (4 : Nat) (Option.some Jvm.ClassFile.FieldType.long)) ∈ tables_1 := List.mem_of_getElem? (i := 48) rfl
theorem own_w49 : (Jvm.Cond.methodLink "com/example/tablewise/tablewise/estr2/PwsupAddPinLaw" (37 : Nat) ({ cls := "com/example/tablewise/tablewise/estr2/PwsupAddPinLaw", name := "bit", desc := "(II)J" } : Jvm.MethodName)) ∈ tables_1 := List.mem_of_getElem? (i := 49) rfl
theorem own_w50 : (Jvm.Cond.static ({ cls := "com/example/tablewise/tablewise/estr2/PwsupAddPinLaw", name := "bit", desc := "(II)J" } : Jvm.MethodName)) ∈ tables_1 := List.mem_of_getElem? (i := 50) rfl
theorem own_w51 : (Jvm.Cond.code ({ cls := "com/example/tablewise/tablewise/estr2/PwsupAddPinLaw", name := "bit", desc := "(II)J" } : Jvm.MethodName) method_3_code (2 : Nat) (Option.some Jvm.ClassFile.FieldType.long)) ∈ tables_1 := List.mem_of_getElem? (i := 51) rfl
theorem own_w52 : (Jvm.Cond.methodLink "com/example/tablewise/tablewise/estr2/PwsupAddPinLaw" (44 : Nat) ({ cls := "com/example/tablewise/tablewise/estr2/Pwsup", name := "clearAll", desc := "()V" } : Jvm.MethodName)) ∈ tables_1 := List.mem_of_getElem? (i := 52) rfl
theorem own_w53 : (Jvm.Cond.declares ({ cls := "com/example/tablewise/tablewise/estr2/Pwsup", name := "clearAll", desc := "()V" } : Jvm.MethodName)) ∈ tables_1 := List.mem_of_getElem? (i := 53) rfl
theorem own_w54 : (Jvm.Cond.instanceMethod ({ cls := "com/example/tablewise/tablewise/estr2/Pwsup", name := "clearAll", desc := "()V" } : Jvm.MethodName)) ∈ tables_1 := List.mem_of_getElem? (i := 54) rfl
theorem own_w55 : (Jvm.Cond.selects "com/example/tablewise/tablewise/estr2/Pwsup" ({ cls := "com/example/tablewise/tablewise/estr2/Pwsup", name := "clearAll", desc := "()V" } : Jvm.MethodName) ({ cls := "com/example/tablewise/tablewise/estr2/Pwsup", name := "clearAll", desc := "()V" } : Jvm.MethodName)) ∈ tables_1 := List.mem_of_getElem? (i := 55) rfl
theorem own_w56 : (Jvm.Cond.code ({ cls := "com/example/tablewise/tablewise/estr2/Pwsup", name := "clearAll", desc := "()V" } : Jvm.MethodName) prog_28_method_9_code (3 : Nat) (Option.none : Option Jvm.ClassFile.FieldType)) ∈ tables_1 := List.mem_of_getElem? (i := 56) rfl
theorem own_w57 : (Jvm.Cond.methodLink "com/example/tablewise/tablewise/estr2/Pwsup" (44 : Nat) ({ cls := "com/example/tablewise/tablewise/estr2/Pwsup", name := "clear", desc := "(I)V" } : Jvm.MethodName)) ∈ tables_1 := List.mem_of_getElem? (i := 57) rfl
theorem own_w58 : (Jvm.Cond.methodLink "com/example/tablewise/tablewise/estr2/PwsupAddPinLaw" (41 : Nat) ({ cls := "com/example/tablewise/tablewise/estr2/PwsupAddPinLaw", name := "full", desc := "(II)J" } : Jvm.MethodName)) ∈ tables_1 := List.mem_of_getElem? (i := 58) rfl
theorem own_w59 : (Jvm.Cond.static ({ cls := "com/example/tablewise/tablewise/estr2/PwsupAddPinLaw", name := "full", desc := "(II)J" } : Jvm.MethodName)) ∈ tables_1 := List.mem_of_getElem? (i := 59) rfl
theorem own_w60 : (Jvm.Cond.code ({ cls := "com/example/tablewise/tablewise/estr2/PwsupAddPinLaw", name := "full", desc := "(II)J" } : Jvm.MethodName) method_4_code (3 : Nat) (Option.some Jvm.ClassFile.FieldType.long)) ∈ tables_1 := List.mem_of_getElem? (i := 60) rfl
theorem own_w61 : (Jvm.Cond.constantLong "com/example/tablewise/tablewise/estr2/PwsupAddPinLaw" (7 : Nat) (-1 : Int64)) ∈ tables_1 := List.mem_of_getElem? (i := 61) rfl
def own_dist : List (String × String) → Bool
  | [] => true
  | x :: r => r.all (fun y => x.1 != y.1) && own_dist r
theorem own_dist_e : ∀ (fs : List (String × String)), own_dist fs = true → ∀ (i j : Nat) n d n' d', fs[i]? = some (n, d) → fs[j]? = some (n', d') → i ≠ j → n ≠ n'
  | [], _, i, j, n, d, n', d', h1, _, _ => by simp at h1
  | x :: r, h, i, j, n, d, n', d', h1, h2, hij => by
    simp only [own_dist, Bool.and_eq_true, List.all_eq_true, bne_iff_ne, ne_eq] at h
    match i, j with
    | 0, 0 => exact absurd rfl hij
    | 0, b + 1 =>
      have g1 : x = (n, d) := Option.some.inj h1
      have g2 : r[b]? = some (n', d') := h2
      intro e
      refine h.1 _ (List.mem_of_getElem? g2) ?_
      rw [g1]
      exact e
    | a + 1, 0 =>
      have g1 : r[a]? = some (n, d) := h1
      have g2 : x = (n', d') := Option.some.inj h2
      intro e
      refine h.1 _ (List.mem_of_getElem? g1) ?_
      rw [g2]
      exact e.symm
    | a + 1, b + 1 => exact own_dist_e r h.2 a b n d n' d' h1 h2 (fun e => hij (by rw [e]))
theorem own_laid {Z : State} {a0 : Array Value} (hw : ∀ d ∈ tables_1, d.before a0 Z = true) {t : Nat} {C : String} {fs : List (String × String)} (h : own_cl t = some (C, fs)) : (∀ (i : Nat) n d, fs[i]? = some (n, d) → Laid Z a0 C C n d ∧ ∃ ty, parseFieldDescriptor d = some ty) ∧ ∀ (i j : Nat) n d n' d', fs[i]? = some (n, d) → fs[j]? = some (n', d') → i ≠ j → n ≠ n' := by
  unfold own_cl at h
  split at h
  · cases h
    refine ⟨fun i n d hi => ?_, own_dist_e _ (by decide +kernel)⟩
    match i, hi with
    | 0, hi => cases (show some ("starts", "[I") = some (n, d) from hi); exact ⟨Or.inr (hw _ own_w12), _, own_fd0_0⟩
    | 1, hi => cases (show some ("words", "[J") = some (n, d) from hi); exact ⟨Or.inr (hw _ own_w19), _, own_fd0_1⟩
    | 2, hi => cases (show some ("touched", "[I") = some (n, d) from hi); exact ⟨Or.inr (hw _ own_w21), _, own_fd0_2⟩
    | 3, hi => cases (show some ("isTouched", "[Z") = some (n, d) from hi); exact ⟨Or.inr (hw _ own_w24), _, own_fd0_3⟩
    | 4, hi => cases (show some ("touchedCount", "I") = some (n, d) from hi); exact ⟨Or.inl (hw _ own_w36), _, own_fd0_4⟩
    | k + 5, hi => exact nomatch (show none = some (n, d) from hi)
  · skip
    cases h
theorem own_dv0 : ∀ (i : Nat) nm d u, own_F0[i]? = some (nm, d) → own_V0[i]? = some u → ∃ ty, parseFieldDescriptor d = some ty ∧ u = defaultValue ty := by
  intro i nm d u hi hu
  match i, hi, hu with
  | 0, hi, hu => cases (show some ("starts", "[I") = some (nm, d) from hi); cases (show some (.null) = some u from hu); exact ⟨_, own_fd0_0, rfl⟩
  | 1, hi, hu => cases (show some ("words", "[J") = some (nm, d) from hi); cases (show some (.null) = some u from hu); exact ⟨_, own_fd0_1, rfl⟩
  | 2, hi, hu => cases (show some ("touched", "[I") = some (nm, d) from hi); cases (show some (.null) = some u from hu); exact ⟨_, own_fd0_2, rfl⟩
  | 3, hi, hu => cases (show some ("isTouched", "[Z") = some (nm, d) from hi); cases (show some (.null) = some u from hu); exact ⟨_, own_fd0_3, rfl⟩
  | 4, hi, hu => cases (show some ("touchedCount", "I") = some (nm, d) from hi); cases (show some (.int 0) = some u from hu); exact ⟨_, own_fd0_4, rfl⟩
  | k + 5, hi, hu => exact nomatch (show none = some (nm, d) from hi)
/-! ### own_: a small memory model, and the walk over it
A memory is a list of cells (a tag and its values); the cell k of it stands at the heap's address n0 + k.
Every instruction has one law: from 'what is left behind it' to 'what is left at it'. -/
abbrev own_Mem := List (Nat × List Value)
def own_up (n0 : Nat) : Value → Value
  | .ref a => .ref (n0 + a)
  | v => v
def own_ty (t : Nat) : Option FieldType := if t = 100 then some .int else if t = 101 then some .long else if t = 102 then some .byte else if t = 103 then some .boolean else none
def own_Cell (Z : State) (n0 : Nat) (h : Heap) (a : Addr) (o : Nat × List Value) : Prop :=
  (∀ ty, own_ty o.1 = some ty → ∃ c : Cell, Arr Z h a c ty ∧ c.slots.toList = o.2 ∧ o.2.length < 2 ^ 31) ∧
  (∀ C fs, own_cl o.1 = some (C, fs) → Exa Z h a C ∧ ∀ (i : Nat) n d v, fs[i]? = some (n, d) → o.2[i]? = some v → Fld Z h a C n d (own_up n0 v))
def own_Rel (Z : State) (n0 : Nat) (h : Heap) (M : own_Mem) : Prop := h.size = n0 + M.length ∧ ∀ k o, M[k]? = some o → own_Cell Z n0 h (n0 + k) o
/-! what the instructions do to a memory -/
def own_at (M : own_Mem) (t a : Nat) : Option (List Value) := match M[a]? with
  | some o => if o.1 = t then some o.2 else none
  | none => none
def own_ix (vs : List Value) (j : Int32) : Option Value := if j < 0 then none else vs[j.toNatClampNeg]?
def own_vI : Option Value → Option Int32
  | some (.int x) => some x
  | _ => none
def own_vJ : Option Value → Option Int64
  | some (.long x) => some x
  | _ => none
def own_vR : Option Value → Option Nat
  | some (.ref x) => some x
  | _ => none
def own_ldI (t : Nat) (M : own_Mem) (a : Nat) (j : Int32) : Option Int32 := match own_at M t a with
  | some vs => own_vI (own_ix vs j)
  | none => none
def own_ldJ (t : Nat) (M : own_Mem) (a : Nat) (j : Int32) : Option Int64 := match own_at M t a with
  | some vs => own_vJ (own_ix vs j)
  | none => none
def own_sto (t : Nat) (M : own_Mem) (a : Nat) (j : Int32) (v : Value) : Option own_Mem := match own_at M t a with
  | some vs => if j < 0 ∨ vs.length ≤ j.toNatClampNeg then none else some (M.set a (t, vs.set j.toNatClampNeg v))
  | none => none
def own_len (t : Nat) (M : own_Mem) (a : Nat) : Option Int32 := match own_at M t a with
  | some vs => some vs.length.toInt32
  | none => none
def own_getI (t i : Nat) (M : own_Mem) (a : Nat) : Option Int32 := match own_at M t a with
  | some vs => own_vI vs[i]?
  | none => none
def own_getJ (t i : Nat) (M : own_Mem) (a : Nat) : Option Int64 := match own_at M t a with
  | some vs => own_vJ vs[i]?
  | none => none
def own_getR (t i : Nat) (M : own_Mem) (a : Nat) : Option Nat := match own_at M t a with
  | some vs => own_vR vs[i]?
  | none => none
def own_put (t i : Nat) (M : own_Mem) (a : Nat) (v : Value) : Option own_Mem := match own_at M t a with
  | some vs => if i < vs.length then some (M.set a (t, vs.set i v)) else none
  | none => none
def own_newA (t cap : Nat) (d : Value) (M : own_Mem) (n : Int32) : Option (Nat × own_Mem) := if n < 0 ∨ cap < n.toNatClampNeg then none else some (M.length, M ++ [(t, List.replicate n.toNatClampNeg d)])
def own_newO (t : Nat) (vs : List Value) (M : own_Mem) : Option (Nat × own_Mem) := some (M.length, M ++ [(t, vs)])
def own_let {α β : Type} (x : α) (k : α → Option β) : Option β := k x
def own_nz {β : Type} (b : Prop) [Decidable b] (k : Option β) : Option β := if b then none else k
/-! facts on a memory and the heap -/
theorem own_at_e {M : own_Mem} {t a : Nat} {vs : List Value} (h : own_at M t a = some vs) : M[a]? = some (t, vs) := by
  unfold own_at at h
  split at h
  · rename_i o ho
    split at h
    · rename_i ht
      cases h
      rw [ho, ← ht]
    · cases h
  · cases h
theorem own_vI_e {o : Option Value} {x : Int32} (h : own_vI o = some x) : o = some (.int x) := by
  unfold own_vI at h; split at h <;> cases h; rfl
theorem own_vJ_e {o : Option Value} {x : Int64} (h : own_vJ o = some x) : o = some (.long x) := by
  unfold own_vJ at h; split at h <;> cases h; rfl
theorem own_vR_e {o : Option Value} {x : Nat} (h : own_vR o = some x) : o = some (.ref x) := by
  unfold own_vR at h; split at h <;> cases h; rfl
theorem own_ix_e {vs : List Value} {j : Int32} {v : Value} (h : own_ix vs j = some v) : ¬ j < 0 ∧ vs[j.toNatClampNeg]? = some v := by
  unfold own_ix at h; split at h
  · cases h
  · exact ⟨by assumption, h⟩
theorem own_ldI_e {t : Nat} {M : own_Mem} {a : Nat} {j x : Int32} (h : own_ldI t M a j = some x) : ∃ vs, M[a]? = some (t, vs) ∧ ¬ j < 0 ∧ vs[j.toNatClampNeg]? = some (.int x) := by
  unfold own_ldI at h; split at h
  · rename_i vs hv; exact ⟨vs, own_at_e hv, own_ix_e (own_vI_e h)⟩
  · cases h
theorem own_ldJ_e {t : Nat} {M : own_Mem} {a : Nat} {j : Int32} {x : Int64} (h : own_ldJ t M a j = some x) : ∃ vs, M[a]? = some (t, vs) ∧ ¬ j < 0 ∧ vs[j.toNatClampNeg]? = some (.long x) := by
  unfold own_ldJ at h; split at h
  · rename_i vs hv; exact ⟨vs, own_at_e hv, own_ix_e (own_vJ_e h)⟩
  · cases h
theorem own_sto_e {t : Nat} {M M1 : own_Mem} {a : Nat} {j : Int32} {v : Value} (h : own_sto t M a j v = some M1) : ∃ vs, M[a]? = some (t, vs) ∧ ¬ (j < 0 ∨ vs.length ≤ j.toNatClampNeg) ∧ M1 = M.set a (t, vs.set j.toNatClampNeg v) := by
  unfold own_sto at h; split at h
  · rename_i vs hv; split at h
    · cases h
    · cases h; exact ⟨vs, own_at_e hv, by assumption, rfl⟩
  · cases h
theorem own_len_e {t : Nat} {M : own_Mem} {a : Nat} {x : Int32} (h : own_len t M a = some x) : ∃ vs, M[a]? = some (t, vs) ∧ x = vs.length.toInt32 := by
  unfold own_len at h; split at h
  · rename_i vs hv; cases h; exact ⟨vs, own_at_e hv, rfl⟩
  · cases h
theorem own_getI_e {t i : Nat} {M : own_Mem} {a : Nat} {x : Int32} (h : own_getI t i M a = some x) : ∃ vs, M[a]? = some (t, vs) ∧ vs[i]? = some (.int x) := by
  unfold own_getI at h; split at h
  · rename_i vs hv; exact ⟨vs, own_at_e hv, own_vI_e h⟩
  · cases h
theorem own_getJ_e {t i : Nat} {M : own_Mem} {a : Nat} {x : Int64} (h : own_getJ t i M a = some x) : ∃ vs, M[a]? = some (t, vs) ∧ vs[i]? = some (.long x) := by
  unfold own_getJ at h; split at h
  · rename_i vs hv; exact ⟨vs, own_at_e hv, own_vJ_e h⟩
  · cases h
theorem own_getR_e {t i : Nat} {M : own_Mem} {a : Nat} {x : Nat} (h : own_getR t i M a = some x) : ∃ vs, M[a]? = some (t, vs) ∧ vs[i]? = some (.ref x) := by
  unfold own_getR at h; split at h
  · rename_i vs hv; exact ⟨vs, own_at_e hv, own_vR_e h⟩
  · cases h
theorem own_put_e {t i : Nat} {M M1 : own_Mem} {a : Nat} {v : Value} (h : own_put t i M a v = some M1) : ∃ vs, M[a]? = some (t, vs) ∧ i < vs.length ∧ M1 = M.set a (t, vs.set i v) := by
  unfold own_put at h; split at h
  · rename_i vs hv; split at h
    · cases h; exact ⟨vs, own_at_e hv, by assumption, rfl⟩
    · cases h
  · cases h
theorem own_bind {α β : Type} {o : Option α} {k : α → Option β} {r : β} (h : o.bind k = some r) : ∃ q, o = some q ∧ k q = some r := by
  cases o with
  | none => cases h
  | some q => exact ⟨q, rfl, h⟩
theorem own_bk {α β : Type} {P : Prop} {o : Option α} {k : α → Option β} {r : β} (h : o.bind k = some r) (f : ∀ q, o = some q → k q = some r → P) : P := by
  obtain ⟨q, h1, h2⟩ := own_bind h
  exact f q h1 h2
theorem own_ty_cl {t : Nat} {ty : FieldType} (h : own_ty t = some ty) : own_cl t = none := by
  unfold own_ty at h
  split at h
  · subst t; rfl
  · split at h
    · subst t; rfl
    · split at h
      · subst t; rfl
      · split at h
        · subst t; rfl
        · cases h
section OwnRel
variable {Z : State} {a0 : Array Value} {n0 : Nat} {h h' : Heap} {M : own_Mem}
theorem own_arr (R : own_Rel Z n0 h M) {t a : Nat} {ty : FieldType} {vs : List Value} (ht : own_ty t = some ty) (hm : M[a]? = some (t, vs)) : ∃ c : Cell, Arr Z h (n0 + a) c ty ∧ c.slots.toList = vs ∧ vs.length < 2 ^ 31 := (R.2 a _ hm).1 ty ht
theorem own_obj (R : own_Rel Z n0 h M) {t a : Nat} {C : String} {fs : List (String × String)} {vs : List Value} (ht : own_cl t = some (C, fs)) (hm : M[a]? = some (t, vs)) : Exa Z h (n0 + a) C ∧ ∀ (i : Nat) n d v, fs[i]? = some (n, d) → vs[i]? = some v → Fld Z h (n0 + a) C n d (own_up n0 v) := (R.2 a _ hm).2 C fs ht
theorem own_inj {n0 a k : Nat} (h : ¬ k = a) : n0 + k ≠ n0 + a := fun e => h (Nat.add_left_cancel e)
theorem own_wrA (R : own_Rel Z n0 h M) {t a j : Nat} {ty : FieldType} {vs : List Value} {v : Value} (ht : own_ty t = some ty) (hm : M[a]? = some (t, vs)) (W : Wr h h' (n0 + a) j v) : own_Rel Z n0 h' (M.set a (t, vs.set j v)) := by
  refine ⟨by rw [W.size, R.1, List.length_set], fun k o hk => ?_⟩
  by_cases e : k = a
  · subst e
    have hlt : k < M.length := (List.getElem?_eq_some_iff.mp hm).1
    rw [List.getElem?_set_self hlt] at hk
    cases hk
    obtain ⟨c, A, hs, hl⟩ := own_arr R ht hm
    refine ⟨fun ty' ht' => ?_, fun C fs hc => (by rw [own_ty_cl ht] at hc; cases hc)⟩
    cases ht.symm.trans ht'
    refine ⟨_, A.same W, ?_, by simpa using hl⟩
    simp [Cell.setSlot, hs]
  · rw [List.getElem?_set_ne (fun q => e q.symm)] at hk
    have q := R.2 k o hk
    refine ⟨fun ty' ht' => ?_, fun C fs hc => ?_⟩
    · obtain ⟨c, A, r⟩ := q.1 ty' ht'
      exact ⟨c, A.other W (own_inj e), r⟩
    · obtain ⟨E, F⟩ := q.2 C fs hc
      exact ⟨E.wr W, fun i n d v h1 h2 => (F i n d v h1 h2).other W (Or.inl (own_inj e))⟩
theorem own_wrF (R : own_Rel Z n0 h M) (hw : ∀ d ∈ tables_1, d.before a0 Z = true) {t a i : Nat} {C n d : String} {fs : List (String × String)} {vs : List Value} {v : Value} (ht : own_cl t = some (C, fs)) (hm : M[a]? = some (t, vs)) (hi : fs[i]? = some (n, d)) (hv : i < vs.length) (W : Wr h h' (n0 + a) (Jvm.RoadKit.slotOf Z C n d) (own_up n0 v)) : own_Rel Z n0 h' (M.set a (t, vs.set i v)) := by
  refine ⟨by rw [W.size, R.1, List.length_set], fun k o hk => ?_⟩
  by_cases e : k = a
  · subst e
    have hlt : k < M.length := (List.getElem?_eq_some_iff.mp hm).1
    rw [List.getElem?_set_self hlt] at hk
    cases hk
    obtain ⟨E, F⟩ := own_obj R ht hm
    refine ⟨fun ty ht' => (by rw [own_ty_cl ht'] at ht; cases ht), fun C' fs' hc => ?_⟩
    cases ht.symm.trans hc
    obtain ⟨L, ND⟩ := own_laid hw ht
    refine ⟨E.wr W, fun i' n' d' v' h1 h2 => ?_⟩
    by_cases ei : i' = i
    · subst ei
      cases hi.symm.trans h1
      rw [List.getElem?_set_self hv] at h2
      cases h2
      exact (F _ _ _ _ hi (List.getElem?_eq_getElem hv)).same W
    · rw [List.getElem?_set_ne (fun q => ei q.symm)] at h2
      obtain ⟨L1, ty1, p1⟩ := L _ _ _ h1
      obtain ⟨L2, ty2, p2⟩ := L _ _ _ hi
      exact (F _ _ _ _ h1 h2).other W (Or.inr (slot_ne L1 L2 (ND _ _ _ _ _ _ h1 hi ei) p1 p2))
  · rw [List.getElem?_set_ne (fun q => e q.symm)] at hk
    have q := R.2 k o hk
    refine ⟨fun ty' ht' => ?_, fun C' fs' hc => ?_⟩
    · obtain ⟨c, A, r⟩ := q.1 ty' ht'
      exact ⟨c, A.other W (own_inj e), r⟩
    · obtain ⟨E, F⟩ := q.2 C' fs' hc
      exact ⟨E.wr W, fun i n d v h1 h2 => (F i n d v h1 h2).other W (Or.inl (own_inj e))⟩
theorem own_push (R : own_Rel Z n0 h M) {c : Cell} {o : Nat × List Value} (E : Ext h (h.push c)) (H : own_Cell Z n0 (h.push c) h.size o) : own_Rel Z n0 (h.push c) (M ++ [o]) := by
  refine ⟨by simp [R.1]; omega, fun k q hk => ?_⟩
  rcases Nat.lt_or_ge k (List.length M) with e | e
  · rw [List.getElem?_append_left e] at hk
    have z := R.2 k q hk
    refine ⟨fun ty' ht' => ?_, fun C' fs' hc => ?_⟩
    · obtain ⟨c, A, r⟩ := z.1 ty' ht'
      exact ⟨c, A.ext E, r⟩
    · obtain ⟨E', F⟩ := z.2 C' fs' hc
      exact ⟨E'.ext E, fun i n d v h1 h2 => (F i n d v h1 h2).ext E⟩
  · have ek : k = List.length M := by
      have hh := (List.getElem?_eq_some_iff.mp hk).1
      rw [List.length_append, List.length_singleton] at hh
      exact Nat.le_antisymm (Nat.lt_succ_iff.mp hh) e
    subst ek
    rw [List.getElem?_append_right (Nat.le_refl _)] at hk
    simp at hk
    subst hk
    rw [← R.1]
    exact H
end OwnRel
/-! ### own_W: what is left to do at a place of a body -/
abbrev own_Ctx := Program × Launch × Env × Room × State × MethodId × Array Value × List Frame × Method × Code × State × Array Value × Nat
def own_p (C : own_Ctx) : Program := C.1
def own_l (C : own_Ctx) : Launch := C.2.1
def own_e (C : own_Ctx) : Env := C.2.2.1
def own_R (C : own_Ctx) : Room := C.2.2.2.1
def own_s (C : own_Ctx) : State := C.2.2.2.2.1
def own_m (C : own_Ctx) : MethodId := C.2.2.2.2.2.1
def own_a (C : own_Ctx) : Array Value := C.2.2.2.2.2.2.1
def own_b (C : own_Ctx) : List Frame := C.2.2.2.2.2.2.2.1
def own_h (C : own_Ctx) : Method := C.2.2.2.2.2.2.2.2.1
def own_c (C : own_Ctx) : Code := C.2.2.2.2.2.2.2.2.2.1
def own_Z (C : own_Ctx) : State := C.2.2.2.2.2.2.2.2.2.2.1
def own_z (C : own_Ctx) : Array Value := C.2.2.2.2.2.2.2.2.2.2.2.1
def own_n (C : own_Ctx) : Nat := C.2.2.2.2.2.2.2.2.2.2.2.2
abbrev own_X (C : own_Ctx) (T : State) (locs : List Loc) (cs ss : Nat) : Prop := Stand (own_p C) (own_l C) (own_e C) (own_R C) (own_s C) (own_m C) (own_a C) (own_b C) (own_h C) (own_c C) T locs cs ss
abbrev own_Go (C : own_Ctx) (T : State) (pc : Nat) (Ls : List Slot) (st : List Value) (t : State) : Prop := Steps (own_p C).tables (own_e C) (own_b C) (T.setTop (mkF (own_m C) pc Ls.toArray st)) t
def own_S (C : own_Ctx) (T : State) (M : own_Mem) (cs ss : Nat) : Prop := ∃ locs, own_X C T locs cs ss ∧ Fr (own_n C) locs ∧ own_Rel (own_Z C) (own_n C) T.heap M ∧ cs ≤ (own_R C).cells ∧ ss ≤ (own_R C).slots
def own_K (C : own_Ctx) (bytes : ByteArray) (ml : Nat) (own : String) (ret : Option FieldType) (nm : String) (R : Room) : Prop :=
  (own_p C).tables.exec = Jvm.exec ∧ (own_c C).code = bytes ∧ (own_c C).maxLocals = ml ∧ (own_Z C).Warmed39 (own_s C).vm ∧ (own_s C).vm.findClass own = some (own_m C).cls ∧ (∀ d ∈ tables_1, d.before (own_z C) (own_Z C) = true) ∧ (own_h C).sig.returnType = ret ∧ (own_h C).name = nm ∧ (own_h C).locks = false ∧ own_R C = R
def own_W (C : own_Ctx) (v : Option Value) (M' M : own_Mem) (cs ss pc : Nat) (Ls : List Slot) (st : List Value) : Prop :=
  ∀ T, own_S C T M cs ss → ∃ U o, own_Go C T pc Ls st U ∧ U.status = .running ∧ Ended U (own_b C) o ∧ ∃ v' L, o = .returned v' ∧ (v' = v.map (own_up (own_n C)) ∧ own_Rel (own_Z C) (own_n C) U.heap M' ∧ Fr (own_n C) L) ∧ FrameEnd (own_s C) o U L (own_R C).cells (own_R C).slots
def own_nth : List Slot → Nat → Option Slot
  | [], _ => none
  | x :: _, 0 => some x
  | _ :: r, k + 1 => own_nth r k
theorem own_nth_e : ∀ (L : List Slot) (k : Nat), L.toArray[k]? = own_nth L k
  | [], k => by simp [own_nth]
  | x :: r, 0 => by simp [own_nth]
  | x :: r, k + 1 => by
    have q := own_nth_e r k
    simp only [List.getElem?_toArray] at q ⊢
    simpa [own_nth] using q
def own_One (z : Slot) : Prop := z = .unset ∨ ∃ w : Value, z = .val w ∧ w.category = 1
theorem own_one_u : own_One .unset := Or.inl rfl
theorem own_one_i {x : Int32} : own_One (.val (.int x)) := Or.inr ⟨_, rfl, rfl⟩
theorem own_one_r {x : Nat} : own_One (.val (.ref x)) := Or.inr ⟨_, rfl, rfl⟩
section OwnSteps
variable {C : own_Ctx} {bytes : ByteArray} {ml : Nat} {own : String} {ret : Option FieldType} {nm : String} {R : Room} {v : Option Value} {M' M M1 : own_Mem} {cs ss cs1 ss1 pc pc' pc1 pc2 : Nat} {Ls Ls' : List Slot} {st st' : List Value}
theorem own_K.x (K : own_K C bytes ml own ret nm R) : (own_p C).tables.exec = Jvm.exec := K.1
theorem own_K.kb (K : own_K C bytes ml own ret nm R) : (own_c C).code = bytes := K.2.1
theorem own_K.kl (K : own_K C bytes ml own ret nm R) : (own_c C).maxLocals = ml := K.2.2.1
theorem own_K.kz (K : own_K C bytes ml own ret nm R) : (own_Z C).Warmed39 (own_s C).vm := K.2.2.2.1
theorem own_K.ko (K : own_K C bytes ml own ret nm R) : (own_s C).vm.findClass own = some (own_m C).cls := K.2.2.2.2.1
theorem own_K.w (K : own_K C bytes ml own ret nm R) : ∀ d ∈ tables_1, d.before (own_z C) (own_Z C) = true := K.2.2.2.2.2.1
theorem own_K.kt (K : own_K C bytes ml own ret nm R) : (own_h C).sig.returnType = ret := K.2.2.2.2.2.2.1
theorem own_K.kn (K : own_K C bytes ml own ret nm R) : (own_h C).name = nm := K.2.2.2.2.2.2.2.1
theorem own_K.lk (K : own_K C bytes ml own ret nm R) : (own_h C).locks = false := K.2.2.2.2.2.2.2.2.1
theorem own_K.kr (K : own_K C bytes ml own ret nm R) : own_R C = R := K.2.2.2.2.2.2.2.2.2
theorem own_go (f : ∀ T, own_S C T M cs ss → ∃ T1, own_S C T1 M1 cs1 ss1 ∧ ∀ t, own_Go C T1 pc1 Ls' st' t → own_Go C T pc Ls st t) (k : own_W C v M' M1 cs1 ss1 pc1 Ls' st') : own_W C v M' M cs ss pc Ls st := fun T hT => by
  obtain ⟨T1, h1, h2⟩ := f T hT
  obtain ⟨U, o, h3, h4⟩ := k T1 h1
  exact ⟨U, o, h2 _ h3, h4⟩
theorem own_gp (f : ∀ T locs, own_X C T locs cs ss → ∀ t, own_Go C T pc1 Ls' st' t → own_Go C T pc Ls st t) (k : own_W C v M' M cs ss pc1 Ls' st') : own_W C v M' M cs ss pc Ls st :=
  own_go (fun T hT => ⟨T, hT, by obtain ⟨locs, X, -⟩ := hT; exact f T locs X⟩) k
theorem own_more (K : own_K C bytes ml own ret nm R) (h1 : cs ≤ cs1) (h2 : ss ≤ ss1) (h3 : cs1 ≤ R.cells) (h4 : ss1 ≤ R.slots) (k : own_W C v M' M cs1 ss1 pc Ls st) : own_W C v M' M cs ss pc Ls st :=
  fun T ⟨locs, X, N, r, _, _⟩ => k T ⟨locs, X.more h1 h2, N, r, by rw [K.kr]; exact h3, by rw [K.kr]; exact h4⟩
/-! constants and locals -/
theorem own_iconst (K : own_K C bytes ml own ret nm R) {i : Int} {x : Int32} (hd : decode bytes pc = .ok (.iconst i, 1)) (hx : Int32.ofInt i = x) (hn : pc + 1 = pc') (k : own_W C v M' M cs ss pc' Ls (.int x :: st)) : own_W C v M' M cs ss pc Ls st := by
  subst hn hx; exact own_gp (fun T locs X t q => XS.iconst X.here K.x rfl (hb K.kb hd) q) k
theorem own_bipush (K : own_K C bytes ml own ret nm R) {i : Int} {x : Int32} (hd : decode bytes pc = .ok (.bipush i, 2)) (hx : (Int8.ofInt i).toInt32 = x) (hn : pc + 2 = pc') (k : own_W C v M' M cs ss pc' Ls (.int x :: st)) : own_W C v M' M cs ss pc Ls st := by
  subst hn hx; exact own_gp (fun T locs X t q => XS.bipush X.here K.x rfl (hb K.kb hd) q) k
theorem own_sipush (K : own_K C bytes ml own ret nm R) {i : Int} {x : Int32} (hd : decode bytes pc = .ok (.sipush i, 3)) (hx : (Int16.ofInt i).toInt32 = x) (hn : pc + 3 = pc') (k : own_W C v M' M cs ss pc' Ls (.int x :: st)) : own_W C v M' M cs ss pc Ls st := by
  subst hn hx; exact own_gp (fun T locs X t q => XS.sipush X.here K.x rfl (hb K.kb hd) q) k
theorem own_lconst (K : own_K C bytes ml own ret nm R) {i : Fin 2} {x : Int64} (hd : decode bytes pc = .ok (.lconst i, 1)) (hx : Int64.ofNat i = x) (hn : pc + 1 = pc') (k : own_W C v M' M cs ss pc' Ls (.long x :: st)) : own_W C v M' M cs ss pc Ls st := by
  subst hn hx; exact own_gp (fun T locs X t q => XS.lconst X.here K.x rfl (hb K.kb hd) q) k
theorem own_ldc (K : own_K C bytes ml own ret nm R) {i : Nat} {x : Int32} (hd : decode bytes pc = .ok (.ldc i, 2)) (w : Jvm.Cond.constant own i x ∈ tables_1) (hn : pc + 2 = pc') (k : own_W C v M' M cs ss pc' Ls (.int x :: st)) : own_W C v M' M cs ss pc Ls st := by
  subst hn; exact own_gp (fun T locs X t q => X.ldcInt K.x K.ko (mvT K.kz (K.w _ w)) (g := mkF (own_m C) pc Ls.toArray st) rfl (hb K.kb hd) t q) k
theorem own_ldc2 (K : own_K C bytes ml own ret nm R) {i : Nat} {x : Int64} (hd : decode bytes pc = .ok (.ldc2_w i, 3)) (w : Jvm.Cond.constantLong own i x ∈ tables_1) (hn : pc + 3 = pc') (k : own_W C v M' M cs ss pc' Ls (.long x :: st)) : own_W C v M' M cs ss pc Ls st := by
  subst hn; exact own_gp (fun T locs X t q => X.ldc2Long K.x K.ko (mvT K.kz (K.w _ w)) (g := mkF (own_m C) pc Ls.toArray st) rfl (hb K.kb hd) t q) k
theorem own_iloadN (K : own_K C bytes ml own ret nm R) {i : Fin 4} {x : Int32} (hd : decode bytes pc = .ok (.iload_n i, 1)) (hl : own_nth Ls i.val = some (.val (.int x))) (hn : pc + 1 = pc') (k : own_W C v M' M cs ss pc' Ls (.int x :: st)) : own_W C v M' M cs ss pc Ls st := by
  subst hn; exact own_gp (fun T locs X t q => XS.iloadN X.here K.x rfl (hb K.kb hd) ((own_nth_e _ _).trans hl) q) k
theorem own_iload (K : own_K C bytes ml own ret nm R) {i : Nat} {x : Int32} (hd : decode bytes pc = .ok (.iload i, 2)) (hl : own_nth Ls i = some (.val (.int x))) (hn : pc + 2 = pc') (k : own_W C v M' M cs ss pc' Ls (.int x :: st)) : own_W C v M' M cs ss pc Ls st := by
  subst hn; exact own_gp (fun T locs X t q => XS.iload X.here K.x rfl (hb K.kb hd) ((own_nth_e _ _).trans hl) q) k
theorem own_lloadN (K : own_K C bytes ml own ret nm R) {i : Fin 4} {x : Int64} (hd : decode bytes pc = .ok (.lload_n i, 1)) (hl : own_nth Ls i.val = some (.val (.long x))) (hn : pc + 1 = pc') (k : own_W C v M' M cs ss pc' Ls (.long x :: st)) : own_W C v M' M cs ss pc Ls st := by
  subst hn; exact own_gp (fun T locs X t q => XS.lloadN X.here K.x rfl (hb K.kb hd) ((own_nth_e _ _).trans hl) q) k
theorem own_lload (K : own_K C bytes ml own ret nm R) {i : Nat} {x : Int64} (hd : decode bytes pc = .ok (.lload i, 2)) (hl : own_nth Ls i = some (.val (.long x))) (hn : pc + 2 = pc') (k : own_W C v M' M cs ss pc' Ls (.long x :: st)) : own_W C v M' M cs ss pc Ls st := by
  subst hn; exact own_gp (fun T locs X t q => XS.lload X.here K.x rfl (hb K.kb hd) ((own_nth_e _ _).trans hl) q) k
theorem own_aloadN (K : own_K C bytes ml own ret nm R) {i : Fin 4} {x : Nat} (hd : decode bytes pc = .ok (.aload_n i, 1)) (hl : own_nth Ls i.val = some (.val (.ref x))) (hn : pc + 1 = pc') (k : own_W C v M' M cs ss pc' Ls (.ref x :: st)) : own_W C v M' M cs ss pc Ls st := by
  subst hn; exact own_gp (fun T locs X t q => XS.aloadN X.here K.x rfl (hb K.kb hd) ((own_nth_e _ _).trans hl) rfl q) k
theorem own_aload (K : own_K C bytes ml own ret nm R) {i : Nat} {x : Nat} (hd : decode bytes pc = .ok (.aload i, 2)) (hl : own_nth Ls i = some (.val (.ref x))) (hn : pc + 2 = pc') (k : own_W C v M' M cs ss pc' Ls (.ref x :: st)) : own_W C v M' M cs ss pc Ls st := by
  subst hn; exact own_gp (fun T locs X t q => XS.aload X.here K.x rfl (hb K.kb hd) ((own_nth_e _ _).trans hl) rfl q) k
theorem own_sto1 {o : Slot} {i : Nat} {w : Value} (hl : own_nth Ls i = some o) (ho : own_One o) (hw : w.category = 1) (he : Ls.set i (.val w) = Ls') : storeLocals Ls.toArray i w = some Ls'.toArray := by
  rw [XS.store1 ((own_nth_e _ _).trans hl) ho hw, ← he]
  simp
theorem own_istoreN (K : own_K C bytes ml own ret nm R) {i : Fin 4} {x : Int32} (hd : decode bytes pc = .ok (.istore_n i, 1)) (hl : storeLocals Ls.toArray i.val (.int x) = some Ls'.toArray) (hn : pc + 1 = pc') (k : own_W C v M' M cs ss pc' Ls' st) : own_W C v M' M cs ss pc Ls (.int x :: st) := by
  subst hn; exact own_gp (fun T locs X t q => XS.istoreN X.here K.x rfl (hb K.kb hd) rfl hl q) k
theorem own_istore (K : own_K C bytes ml own ret nm R) {i : Nat} {x : Int32} (hd : decode bytes pc = .ok (.istore i, 2)) (hl : storeLocals Ls.toArray i (.int x) = some Ls'.toArray) (hn : pc + 2 = pc') (k : own_W C v M' M cs ss pc' Ls' st) : own_W C v M' M cs ss pc Ls (.int x :: st) := by
  subst hn; exact own_gp (fun T locs X t q => XS.istore X.here K.x rfl (hb K.kb hd) rfl hl q) k
theorem own_lstoreN (K : own_K C bytes ml own ret nm R) {i : Fin 4} {x : Int64} (hd : decode bytes pc = .ok (.lstore_n i, 1)) (hl : storeLocals Ls.toArray i.val (.long x) = some Ls'.toArray) (hn : pc + 1 = pc') (k : own_W C v M' M cs ss pc' Ls' st) : own_W C v M' M cs ss pc Ls (.long x :: st) := by
  subst hn; exact own_gp (fun T locs X t q => XS.lstoreN X.here K.x rfl (hb K.kb hd) rfl hl q) k
theorem own_lstore (K : own_K C bytes ml own ret nm R) {i : Nat} {x : Int64} (hd : decode bytes pc = .ok (.lstore i, 2)) (hl : storeLocals Ls.toArray i (.long x) = some Ls'.toArray) (hn : pc + 2 = pc') (k : own_W C v M' M cs ss pc' Ls' st) : own_W C v M' M cs ss pc Ls (.long x :: st) := by
  subst hn; exact own_gp (fun T locs X t q => XS.lstore X.here K.x rfl (hb K.kb hd) rfl hl q) k
theorem own_astoreN (K : own_K C bytes ml own ret nm R) {i : Fin 4} {x : Nat} (hd : decode bytes pc = .ok (.astore_n i, 1)) (hl : storeLocals Ls.toArray i.val (.ref x) = some Ls'.toArray) (hn : pc + 1 = pc') (k : own_W C v M' M cs ss pc' Ls' st) : own_W C v M' M cs ss pc Ls (.ref x :: st) := by
  subst hn; exact own_gp (fun T locs X t q => XS.astoreN X.here K.x rfl (hb K.kb hd) rfl rfl hl q) k
theorem own_astore (K : own_K C bytes ml own ret nm R) {i : Nat} {x : Nat} (hd : decode bytes pc = .ok (.astore i, 2)) (hl : storeLocals Ls.toArray i (.ref x) = some Ls'.toArray) (hn : pc + 2 = pc') (k : own_W C v M' M cs ss pc' Ls' st) : own_W C v M' M cs ss pc Ls (.ref x :: st) := by
  subst hn; exact own_gp (fun T locs X t q => XS.astore X.here K.x rfl (hb K.kb hd) rfl rfl hl q) k
theorem own_iinc (K : own_K C bytes ml own ret nm R) {i : Nat} {c : Int} {x y : Int32} (hd : decode bytes pc = .ok (.iinc i c, 3)) (hy : Int32.ofInt c = y) (hl : own_nth Ls i = some (.val (.int x))) (he : Ls.set i (.val (.int (x + y))) = Ls') (hn : pc + 3 = pc') (k : own_W C v M' M cs ss pc' Ls' st) : own_W C v M' M cs ss pc Ls st := by
  subst hn hy; exact own_gp (fun T locs X t q => XS.iinc X.here K.x rfl (hb K.kb hd) ((own_nth_e _ _).trans hl) (own_sto1 hl own_one_i rfl he) q) k
theorem own_letI {β : Type} {e : Int32} {kk : Int32 → Option β} {r : Option β} (h : own_let e kk = r) (k : ∀ x, kk x = r → own_W C v M' M cs ss pc Ls (.int x :: st)) : own_W C v M' M cs ss pc Ls (.int e :: st) := k e h
theorem own_letJ {β : Type} {e : Int64} {kk : Int64 → Option β} {r : Option β} (h : own_let e kk = r) (k : ∀ x, kk x = r → own_W C v M' M cs ss pc Ls (.long x :: st)) : own_W C v M' M cs ss pc Ls (.long e :: st) := k e h
/-! arithmetic -/
theorem own_iadd (K : own_K C bytes ml own ret nm R) {x y : Int32} (hd : decode bytes pc = .ok (.iadd, 1)) (hn : pc + 1 = pc') (k : own_W C v M' M cs ss pc' Ls (.int (x + y) :: st)) : own_W C v M' M cs ss pc Ls (.int y :: .int x :: st) := by
  subst hn; exact own_gp (fun T locs X t q => XS.iadd X.here K.x rfl (hb K.kb hd) rfl q) k
theorem own_isub (K : own_K C bytes ml own ret nm R) {x y : Int32} (hd : decode bytes pc = .ok (.isub, 1)) (hn : pc + 1 = pc') (k : own_W C v M' M cs ss pc' Ls (.int (x - y) :: st)) : own_W C v M' M cs ss pc Ls (.int y :: .int x :: st) := by
  subst hn; exact own_gp (fun T locs X t q => XS.isub X.here K.x rfl (hb K.kb hd) rfl q) k
theorem own_imul (K : own_K C bytes ml own ret nm R) {x y : Int32} (hd : decode bytes pc = .ok (.imul, 1)) (hn : pc + 1 = pc') (k : own_W C v M' M cs ss pc' Ls (.int (x * y) :: st)) : own_W C v M' M cs ss pc Ls (.int y :: .int x :: st) := by
  subst hn; exact own_gp (fun T locs X t q => XS.imul X.here K.x rfl (hb K.kb hd) rfl q) k
theorem own_iand (K : own_K C bytes ml own ret nm R) {x y : Int32} (hd : decode bytes pc = .ok (.iand, 1)) (hn : pc + 1 = pc') (k : own_W C v M' M cs ss pc' Ls (.int (x &&& y) :: st)) : own_W C v M' M cs ss pc Ls (.int y :: .int x :: st) := by
  subst hn; exact own_gp (fun T locs X t q => XS.iand X.here K.x rfl (hb K.kb hd) rfl q) k
theorem own_ior (K : own_K C bytes ml own ret nm R) {x y : Int32} (hd : decode bytes pc = .ok (.ior, 1)) (hn : pc + 1 = pc') (k : own_W C v M' M cs ss pc' Ls (.int (x ||| y) :: st)) : own_W C v M' M cs ss pc Ls (.int y :: .int x :: st) := by
  subst hn; exact own_gp (fun T locs X t q => XS.ior X.here K.x rfl (hb K.kb hd) rfl q) k
theorem own_ishl (K : own_K C bytes ml own ret nm R) {x y : Int32} (hd : decode bytes pc = .ok (.ishl, 1)) (hn : pc + 1 = pc') (k : own_W C v M' M cs ss pc' Ls (.int (x <<< (y &&& 31)) :: st)) : own_W C v M' M cs ss pc Ls (.int y :: .int x :: st) := by
  subst hn; exact own_gp (fun T locs X t q => XS.ishl X.here K.x rfl (hb K.kb hd) rfl q) k
theorem own_ishr (K : own_K C bytes ml own ret nm R) {x y : Int32} (hd : decode bytes pc = .ok (.ishr, 1)) (hn : pc + 1 = pc') (k : own_W C v M' M cs ss pc' Ls (.int (x >>> (y &&& 31)) :: st)) : own_W C v M' M cs ss pc Ls (.int y :: .int x :: st) := by
  subst hn; exact own_gp (fun T locs X t q => XS.ishr X.here K.x rfl (hb K.kb hd) rfl q) k
def own_ushr (x y : Int32) : Int32 := (x.toUInt32 >>> (y &&& 31).toUInt32).toInt32
def own_lushr (x : Int64) (y : Int32) : Int64 := (x.toUInt64 >>> (y &&& 0x3f).toInt64.toUInt64).toInt64
theorem own_iushr (K : own_K C bytes ml own ret nm R) {x y : Int32} (hd : decode bytes pc = .ok (.iushr, 1)) (hn : pc + 1 = pc') (k : own_W C v M' M cs ss pc' Ls (.int (own_ushr x y) :: st)) : own_W C v M' M cs ss pc Ls (.int y :: .int x :: st) := by
  subst hn; exact own_gp (fun T locs X t q => XS.iushr X.here K.x rfl (hb K.kb hd) rfl q) k
theorem own_idiv (K : own_K C bytes ml own ret nm R) {β : Type} {x y : Int32} {A : Option β} {r : β} (hd : decode bytes pc = .ok (.idiv, 1)) (h : own_nz (y = 0) A = some r) (hn : pc + 1 = pc') (k : A = some r → own_W C v M' M cs ss pc' Ls (.int (x / y) :: st)) : own_W C v M' M cs ss pc Ls (.int y :: .int x :: st) := by
  by_cases e : y = 0
  · simp [own_nz, e] at h
  · subst hn; exact own_gp (fun T locs X t q => XS.idiv X.here K.x rfl (hb K.kb hd) rfl e q) (k (by simpa [own_nz, e] using h))
theorem own_irem (K : own_K C bytes ml own ret nm R) {β : Type} {x y : Int32} {A : Option β} {r : β} (hd : decode bytes pc = .ok (.irem, 1)) (h : own_nz (y = 0) A = some r) (hn : pc + 1 = pc') (k : A = some r → own_W C v M' M cs ss pc' Ls (.int (x % y) :: st)) : own_W C v M' M cs ss pc Ls (.int y :: .int x :: st) := by
  by_cases e : y = 0
  · simp [own_nz, e] at h
  · subst hn; exact own_gp (fun T locs X t q => iremM X K.x rfl (hb K.kb hd) rfl e q) (k (by simpa [own_nz, e] using h))
theorem own_ldiv (K : own_K C bytes ml own ret nm R) {β : Type} {x y : Int64} {A : Option β} {r : β} (hd : decode bytes pc = .ok (.ldiv, 1)) (h : own_nz (y = 0) A = some r) (hn : pc + 1 = pc') (k : A = some r → own_W C v M' M cs ss pc' Ls (.long (x / y) :: st)) : own_W C v M' M cs ss pc Ls (.long y :: .long x :: st) := by
  by_cases e : y = 0
  · simp [own_nz, e] at h
  · subst hn; exact own_gp (fun T locs X t q => XS.ldiv X.here K.x rfl (hb K.kb hd) rfl e q) (k (by simpa [own_nz, e] using h))
theorem own_lrem (K : own_K C bytes ml own ret nm R) {β : Type} {x y : Int64} {A : Option β} {r : β} (hd : decode bytes pc = .ok (.lrem, 1)) (h : own_nz (y = 0) A = some r) (hn : pc + 1 = pc') (k : A = some r → own_W C v M' M cs ss pc' Ls (.long (x % y) :: st)) : own_W C v M' M cs ss pc Ls (.long y :: .long x :: st) := by
  by_cases e : y = 0
  · simp [own_nz, e] at h
  · subst hn; exact own_gp (fun T locs X t q => XS.lrem X.here K.x rfl (hb K.kb hd) rfl e (by rw [lrem_mod]; exact q)) (k (by simpa [own_nz, e] using h))
theorem own_ladd (K : own_K C bytes ml own ret nm R) {x y : Int64} (hd : decode bytes pc = .ok (.ladd, 1)) (hn : pc + 1 = pc') (k : own_W C v M' M cs ss pc' Ls (.long (x + y) :: st)) : own_W C v M' M cs ss pc Ls (.long y :: .long x :: st) := by
  subst hn; exact own_gp (fun T locs X t q => XS.ladd X.here K.x rfl (hb K.kb hd) rfl q) k
theorem own_lsub (K : own_K C bytes ml own ret nm R) {x y : Int64} (hd : decode bytes pc = .ok (.lsub, 1)) (hn : pc + 1 = pc') (k : own_W C v M' M cs ss pc' Ls (.long (x - y) :: st)) : own_W C v M' M cs ss pc Ls (.long y :: .long x :: st) := by
  subst hn; exact own_gp (fun T locs X t q => XS.lsub X.here K.x rfl (hb K.kb hd) rfl q) k
theorem own_lmul (K : own_K C bytes ml own ret nm R) {x y : Int64} (hd : decode bytes pc = .ok (.lmul, 1)) (hn : pc + 1 = pc') (k : own_W C v M' M cs ss pc' Ls (.long (x * y) :: st)) : own_W C v M' M cs ss pc Ls (.long y :: .long x :: st) := by
  subst hn; exact own_gp (fun T locs X t q => XS.lmul X.here K.x rfl (hb K.kb hd) rfl q) k
theorem own_land (K : own_K C bytes ml own ret nm R) {x y : Int64} (hd : decode bytes pc = .ok (.land, 1)) (hn : pc + 1 = pc') (k : own_W C v M' M cs ss pc' Ls (.long (x &&& y) :: st)) : own_W C v M' M cs ss pc Ls (.long y :: .long x :: st) := by
  subst hn; exact own_gp (fun T locs X t q => XS.land X.here K.x rfl (hb K.kb hd) rfl q) k
theorem own_lor (K : own_K C bytes ml own ret nm R) {x y : Int64} (hd : decode bytes pc = .ok (.lor, 1)) (hn : pc + 1 = pc') (k : own_W C v M' M cs ss pc' Ls (.long (x ||| y) :: st)) : own_W C v M' M cs ss pc Ls (.long y :: .long x :: st) := by
  subst hn; exact own_gp (fun T locs X t q => XS.lor X.here K.x rfl (hb K.kb hd) rfl q) k
theorem own_lxor (K : own_K C bytes ml own ret nm R) {x y : Int64} (hd : decode bytes pc = .ok (.lxor, 1)) (hn : pc + 1 = pc') (k : own_W C v M' M cs ss pc' Ls (.long (x ^^^ y) :: st)) : own_W C v M' M cs ss pc Ls (.long y :: .long x :: st) := by
  subst hn; exact own_gp (fun T locs X t q => XS.lxor X.here K.x rfl (hb K.kb hd) rfl q) k
theorem own_lshl (K : own_K C bytes ml own ret nm R) {x : Int64} {y : Int32} (hd : decode bytes pc = .ok (.lshl, 1)) (hn : pc + 1 = pc') (k : own_W C v M' M cs ss pc' Ls (.long (x <<< (y &&& 0x3f).toInt64) :: st)) : own_W C v M' M cs ss pc Ls (.int y :: .long x :: st) := by
  subst hn; exact own_gp (fun T locs X t q => XS.lshl X.here K.x rfl (hb K.kb hd) rfl q) k
theorem own_lshr (K : own_K C bytes ml own ret nm R) {x : Int64} {y : Int32} (hd : decode bytes pc = .ok (.lshr, 1)) (hn : pc + 1 = pc') (k : own_W C v M' M cs ss pc' Ls (.long (x >>> (y &&& 0x3f).toInt64) :: st)) : own_W C v M' M cs ss pc Ls (.int y :: .long x :: st) := by
  subst hn; exact own_gp (fun T locs X t q => XS.lshr X.here K.x rfl (hb K.kb hd) rfl q) k
theorem own_lushr' (K : own_K C bytes ml own ret nm R) {x : Int64} {y : Int32} (hd : decode bytes pc = .ok (.lushr, 1)) (hn : pc + 1 = pc') (k : own_W C v M' M cs ss pc' Ls (.long (own_lushr x y) :: st)) : own_W C v M' M cs ss pc Ls (.int y :: .long x :: st) := by
  subst hn; exact own_gp (fun T locs X t q => XS.lushr X.here K.x rfl (hb K.kb hd) rfl q) k
theorem own_i2l (K : own_K C bytes ml own ret nm R) {x : Int32} (hd : decode bytes pc = .ok (.i2l, 1)) (hn : pc + 1 = pc') (k : own_W C v M' M cs ss pc' Ls (.long x.toInt64 :: st)) : own_W C v M' M cs ss pc Ls (.int x :: st) := by
  subst hn; exact own_gp (fun T locs X t q => XS.i2l X.here K.x rfl (hb K.kb hd) rfl q) k
theorem own_l2i (K : own_K C bytes ml own ret nm R) {x : Int64} (hd : decode bytes pc = .ok (.l2i, 1)) (hn : pc + 1 = pc') (k : own_W C v M' M cs ss pc' Ls (.int x.toInt32 :: st)) : own_W C v M' M cs ss pc Ls (.long x :: st) := by
  subst hn; exact own_gp (fun T locs X t q => XS.l2i X.here K.x rfl (hb K.kb hd) rfl q) k
theorem own_i2b (K : own_K C bytes ml own ret nm R) {x : Int32} (hd : decode bytes pc = .ok (.i2b, 1)) (hn : pc + 1 = pc') (k : own_W C v M' M cs ss pc' Ls (.int (nar .byte x) :: st)) : own_W C v M' M cs ss pc Ls (.int x :: st) := by
  subst hn; exact own_gp (fun T locs X t q => XS.i2b X.here K.x rfl (hb K.kb hd) rfl q) k
theorem own_i2c (K : own_K C bytes ml own ret nm R) {x : Int32} (hd : decode bytes pc = .ok (.i2c, 1)) (hn : pc + 1 = pc') (k : own_W C v M' M cs ss pc' Ls (.int (nar .char x) :: st)) : own_W C v M' M cs ss pc Ls (.int x :: st) := by
  subst hn; exact own_gp (fun T locs X t q => XS.i2c X.here K.x rfl (hb K.kb hd) rfl q) k
theorem own_dup (K : own_K C bytes ml own ret nm R) {x : Value} (hd : decode bytes pc = .ok (.dup, 1)) (hc : x.category = 1) (hn : pc + 1 = pc') (k : own_W C v M' M cs ss pc' Ls (x :: x :: st)) : own_W C v M' M cs ss pc Ls (x :: st) := by
  subst hn; exact own_gp (fun T locs X t q => XS.dup X.here K.x rfl (hb K.kb hd) rfl hc q) k
theorem own_dupX1 (K : own_K C bytes ml own ret nm R) {x y : Value} (hd : decode bytes pc = .ok (.dup_x1, 1)) (hc : x.category = 1) (hc2 : y.category = 1) (hn : pc + 1 = pc') (k : own_W C v M' M cs ss pc' Ls (x :: y :: x :: st)) : own_W C v M' M cs ss pc Ls (x :: y :: st) := by
  subst hn; exact own_gp (fun T locs X t q => XS.dupX1 X.here K.x rfl (hb K.kb hd) rfl hc hc2 q) k
theorem own_dup2 (K : own_K C bytes ml own ret nm R) {x y : Value} (hd : decode bytes pc = .ok (.dup2, 1)) (hc : x.category = 1) (hc2 : y.category = 1) (hn : pc + 1 = pc') (k : own_W C v M' M cs ss pc' Ls (x :: y :: x :: y :: st)) : own_W C v M' M cs ss pc Ls (x :: y :: st) := by
  subst hn; exact own_gp (fun T locs X t q => Jvm.Free.XT.dup2 X.here K.x rfl (hb K.kb hd) rfl hc hc2 q) k
theorem own_pop (K : own_K C bytes ml own ret nm R) {x : Value} (hd : decode bytes pc = .ok (.pop, 1)) (hc : x.category = 1) (hn : pc + 1 = pc') (k : own_W C v M' M cs ss pc' Ls st) : own_W C v M' M cs ss pc Ls (x :: st) := by
  subst hn; exact own_gp (fun T locs X t q => XS.pop X.here K.x rfl (hb K.kb hd) rfl hc q) k
/-! jumps -/
theorem own_goto (K : own_K C bytes ml own ret nm R) {o : Int} (hd : decode bytes pc = .ok (.goto o, 3)) (hp : (pc : Int) + o = (pc' : Int)) (k : own_W C v M' M cs ss pc' Ls st) : own_W C v M' M cs ss pc Ls st :=
  own_gp (fun T locs X t q => XS.goto X.here K.x rfl (pc0 := pc) (pc' := pc') rfl (hb K.kb hd) (by omega) (by omega) q) k
theorem own_icmp (K : own_K C bytes ml own ret nm R) {cd : ClassFile.Cond} {o : Int} {x y : Int32} (hd : decode bytes pc = .ok (.if_icmp cd o, 3)) (hp : (pc : Int) + o = (pc1 : Int)) (hn : pc + 3 = pc2)
    (k1 : if_icmp.holds cd x y = true → own_W C v M' M cs ss pc1 Ls st) (k2 : if_icmp.holds cd x y = false → own_W C v M' M cs ss pc2 Ls st) : own_W C v M' M cs ss pc Ls (.int y :: .int x :: st) := by
  cases e : if_icmp.holds cd x y
  · subst hn; exact own_gp (fun T locs X t q => XS.icmpNo X.here K.x rfl (hb K.kb hd) rfl e q) (k2 e)
  · exact own_gp (fun T locs X t q => XS.icmpYes X.here K.x rfl (pc0 := pc) (pc' := pc1) rfl (hb K.kb hd) rfl e (by omega) (by omega) q) (k1 e)
theorem own_if (K : own_K C bytes ml own ret nm R) {cd : ClassFile.Cond} {o : Int} {x : Int32} (hd : decode bytes pc = .ok (.ifCond cd o, 3)) (hp : (pc : Int) + o = (pc1 : Int)) (hn : pc + 3 = pc2)
    (k1 : if_icmp.holds cd x 0 = true → own_W C v M' M cs ss pc1 Ls st) (k2 : if_icmp.holds cd x 0 = false → own_W C v M' M cs ss pc2 Ls st) : own_W C v M' M cs ss pc Ls (.int x :: st) := by
  cases e : if_icmp.holds cd x 0
  · subst hn; exact own_gp (fun T locs X t q => XS.ifNo X.here K.x rfl (hb K.kb hd) rfl ((if0 _ _).trans e) q) (k2 e)
  · exact own_gp (fun T locs X t q => XS.ifYes X.here K.x rfl (pc0 := pc) (pc' := pc1) rfl (hb K.kb hd) rfl ((if0 _ _).trans e) (by omega) (by omega) q) (k1 e)
theorem own_ilt (K : own_K C bytes ml own ret nm R) {β : Type} {A B r : Option β} {o : Int} {x y : Int32} (hd : decode bytes pc = .ok (.if_icmp .lt o, 3)) (h : (if x < y then A else B) = r) (hp : (pc : Int) + o = (pc1 : Int)) (hn : pc + 3 = pc2) (k1 : A = r → own_W C v M' M cs ss pc1 Ls st) (k2 : B = r → own_W C v M' M cs ss pc2 Ls st) : own_W C v M' M cs ss pc Ls (.int y :: .int x :: st) := by
  by_cases e : x < y
  · rw [if_pos e] at h; exact own_icmp K hd hp hn (fun _ => k1 h) (fun q => by rw [(tlt e).1] at q; cases q)
  · rw [if_neg e] at h; exact own_icmp K hd hp hn (fun q => by rw [(flt e).1] at q; cases q) (fun _ => k2 h)
theorem own_ige (K : own_K C bytes ml own ret nm R) {β : Type} {A B r : Option β} {o : Int} {x y : Int32} (hd : decode bytes pc = .ok (.if_icmp .ge o, 3)) (h : (if x < y then A else B) = r) (hp : (pc : Int) + o = (pc1 : Int)) (hn : pc + 3 = pc2) (k1 : B = r → own_W C v M' M cs ss pc1 Ls st) (k2 : A = r → own_W C v M' M cs ss pc2 Ls st) : own_W C v M' M cs ss pc Ls (.int y :: .int x :: st) := by
  by_cases e : x < y
  · rw [if_pos e] at h; exact own_icmp K hd hp hn (fun q => by rw [(tlt e).2.1] at q; cases q) (fun _ => k2 h)
  · rw [if_neg e] at h; exact own_icmp K hd hp hn (fun _ => k1 h) (fun q => by rw [(flt e).2.1] at q; cases q)
theorem own_igt (K : own_K C bytes ml own ret nm R) {β : Type} {A B r : Option β} {o : Int} {x y : Int32} (hd : decode bytes pc = .ok (.if_icmp .gt o, 3)) (h : (if y < x then A else B) = r) (hp : (pc : Int) + o = (pc1 : Int)) (hn : pc + 3 = pc2) (k1 : A = r → own_W C v M' M cs ss pc1 Ls st) (k2 : B = r → own_W C v M' M cs ss pc2 Ls st) : own_W C v M' M cs ss pc Ls (.int y :: .int x :: st) := by
  by_cases e : y < x
  · rw [if_pos e] at h; exact own_icmp K hd hp hn (fun _ => k1 h) (fun q => by rw [(tlt e).2.2.1] at q; cases q)
  · rw [if_neg e] at h; exact own_icmp K hd hp hn (fun q => by rw [(flt e).2.2.1] at q; cases q) (fun _ => k2 h)
theorem own_ile (K : own_K C bytes ml own ret nm R) {β : Type} {A B r : Option β} {o : Int} {x y : Int32} (hd : decode bytes pc = .ok (.if_icmp .le o, 3)) (h : (if y < x then A else B) = r) (hp : (pc : Int) + o = (pc1 : Int)) (hn : pc + 3 = pc2) (k1 : B = r → own_W C v M' M cs ss pc1 Ls st) (k2 : A = r → own_W C v M' M cs ss pc2 Ls st) : own_W C v M' M cs ss pc Ls (.int y :: .int x :: st) := by
  by_cases e : y < x
  · rw [if_pos e] at h; exact own_icmp K hd hp hn (fun q => by rw [(tlt e).2.2.2] at q; cases q) (fun _ => k2 h)
  · rw [if_neg e] at h; exact own_icmp K hd hp hn (fun _ => k1 h) (fun q => by rw [(flt e).2.2.2] at q; cases q)
theorem own_ieq (K : own_K C bytes ml own ret nm R) {β : Type} {A B r : Option β} {o : Int} {x y : Int32} (hd : decode bytes pc = .ok (.if_icmp .eq o, 3)) (h : (if x = y then A else B) = r) (hp : (pc : Int) + o = (pc1 : Int)) (hn : pc + 3 = pc2) (k1 : A = r → own_W C v M' M cs ss pc1 Ls st) (k2 : B = r → own_W C v M' M cs ss pc2 Ls st) : own_W C v M' M cs ss pc Ls (.int y :: .int x :: st) := by
  by_cases e : x = y
  · rw [if_pos e] at h; exact own_icmp K hd hp hn (fun _ => k1 h) (fun q => by rw [(teq e).1] at q; cases q)
  · rw [if_neg e] at h; exact own_icmp K hd hp hn (fun q => by rw [(feq e).1] at q; cases q) (fun _ => k2 h)
theorem own_ine (K : own_K C bytes ml own ret nm R) {β : Type} {A B r : Option β} {o : Int} {x y : Int32} (hd : decode bytes pc = .ok (.if_icmp .ne o, 3)) (h : (if x = y then A else B) = r) (hp : (pc : Int) + o = (pc1 : Int)) (hn : pc + 3 = pc2) (k1 : B = r → own_W C v M' M cs ss pc1 Ls st) (k2 : A = r → own_W C v M' M cs ss pc2 Ls st) : own_W C v M' M cs ss pc Ls (.int y :: .int x :: st) := by
  by_cases e : x = y
  · rw [if_pos e] at h; exact own_icmp K hd hp hn (fun q => by rw [(teq e).2] at q; cases q) (fun _ => k2 h)
  · rw [if_neg e] at h; exact own_icmp K hd hp hn (fun _ => k1 h) (fun q => by rw [(feq e).2] at q; cases q)
theorem own_zlt (K : own_K C bytes ml own ret nm R) {β : Type} {A B r : Option β} {o : Int} {x : Int32} (hd : decode bytes pc = .ok (.ifCond .lt o, 3)) (h : (if x < 0 then A else B) = r) (hp : (pc : Int) + o = (pc1 : Int)) (hn : pc + 3 = pc2) (k1 : A = r → own_W C v M' M cs ss pc1 Ls st) (k2 : B = r → own_W C v M' M cs ss pc2 Ls st) : own_W C v M' M cs ss pc Ls (.int x :: st) := by
  by_cases e : x < 0
  · rw [if_pos e] at h; exact own_if K hd hp hn (fun _ => k1 h) (fun q => by rw [(tlt e).1] at q; cases q)
  · rw [if_neg e] at h; exact own_if K hd hp hn (fun q => by rw [(flt e).1] at q; cases q) (fun _ => k2 h)
theorem own_zge (K : own_K C bytes ml own ret nm R) {β : Type} {A B r : Option β} {o : Int} {x : Int32} (hd : decode bytes pc = .ok (.ifCond .ge o, 3)) (h : (if x < 0 then A else B) = r) (hp : (pc : Int) + o = (pc1 : Int)) (hn : pc + 3 = pc2) (k1 : B = r → own_W C v M' M cs ss pc1 Ls st) (k2 : A = r → own_W C v M' M cs ss pc2 Ls st) : own_W C v M' M cs ss pc Ls (.int x :: st) := by
  by_cases e : x < 0
  · rw [if_pos e] at h; exact own_if K hd hp hn (fun q => by rw [(tlt e).2.1] at q; cases q) (fun _ => k2 h)
  · rw [if_neg e] at h; exact own_if K hd hp hn (fun _ => k1 h) (fun q => by rw [(flt e).2.1] at q; cases q)
theorem own_zgt (K : own_K C bytes ml own ret nm R) {β : Type} {A B r : Option β} {o : Int} {x : Int32} (hd : decode bytes pc = .ok (.ifCond .gt o, 3)) (h : (if 0 < x then A else B) = r) (hp : (pc : Int) + o = (pc1 : Int)) (hn : pc + 3 = pc2) (k1 : A = r → own_W C v M' M cs ss pc1 Ls st) (k2 : B = r → own_W C v M' M cs ss pc2 Ls st) : own_W C v M' M cs ss pc Ls (.int x :: st) := by
  by_cases e : 0 < x
  · rw [if_pos e] at h; exact own_if K hd hp hn (fun _ => k1 h) (fun q => by rw [(tlt e).2.2.1] at q; cases q)
  · rw [if_neg e] at h; exact own_if K hd hp hn (fun q => by rw [(flt e).2.2.1] at q; cases q) (fun _ => k2 h)
theorem own_zle (K : own_K C bytes ml own ret nm R) {β : Type} {A B r : Option β} {o : Int} {x : Int32} (hd : decode bytes pc = .ok (.ifCond .le o, 3)) (h : (if 0 < x then A else B) = r) (hp : (pc : Int) + o = (pc1 : Int)) (hn : pc + 3 = pc2) (k1 : B = r → own_W C v M' M cs ss pc1 Ls st) (k2 : A = r → own_W C v M' M cs ss pc2 Ls st) : own_W C v M' M cs ss pc Ls (.int x :: st) := by
  by_cases e : 0 < x
  · rw [if_pos e] at h; exact own_if K hd hp hn (fun q => by rw [(tlt e).2.2.2] at q; cases q) (fun _ => k2 h)
  · rw [if_neg e] at h; exact own_if K hd hp hn (fun _ => k1 h) (fun q => by rw [(flt e).2.2.2] at q; cases q)
theorem own_zeq (K : own_K C bytes ml own ret nm R) {β : Type} {A B r : Option β} {o : Int} {x : Int32} (hd : decode bytes pc = .ok (.ifCond .eq o, 3)) (h : (if x = 0 then A else B) = r) (hp : (pc : Int) + o = (pc1 : Int)) (hn : pc + 3 = pc2) (k1 : A = r → own_W C v M' M cs ss pc1 Ls st) (k2 : B = r → own_W C v M' M cs ss pc2 Ls st) : own_W C v M' M cs ss pc Ls (.int x :: st) := by
  by_cases e : x = 0
  · rw [if_pos e] at h; exact own_if K hd hp hn (fun _ => k1 h) (fun q => by rw [(teq e).1] at q; cases q)
  · rw [if_neg e] at h; exact own_if K hd hp hn (fun q => by rw [(feq e).1] at q; cases q) (fun _ => k2 h)
theorem own_zne (K : own_K C bytes ml own ret nm R) {β : Type} {A B r : Option β} {o : Int} {x : Int32} (hd : decode bytes pc = .ok (.ifCond .ne o, 3)) (h : (if x = 0 then A else B) = r) (hp : (pc : Int) + o = (pc1 : Int)) (hn : pc + 3 = pc2) (k1 : B = r → own_W C v M' M cs ss pc1 Ls st) (k2 : A = r → own_W C v M' M cs ss pc2 Ls st) : own_W C v M' M cs ss pc Ls (.int x :: st) := by
  by_cases e : x = 0
  · rw [if_pos e] at h; exact own_if K hd hp hn (fun q => by rw [(teq e).2] at q; cases q) (fun _ => k2 h)
  · rw [if_neg e] at h; exact own_if K hd hp hn (fun _ => k1 h) (fun q => by rw [(feq e).2] at q; cases q)
theorem own_lcv (K : own_K C bytes ml own ret nm R) {x y : Int64} (hd : decode bytes pc = .ok (.lcmp, 1)) (hn : pc + 1 = pc') (k : own_W C v M' M cs ss pc' Ls (.int (lcmpV x y) :: st)) : own_W C v M' M cs ss pc Ls (.long y :: .long x :: st) := by
  subst hn; exact own_gp (fun T locs X t q => XS.lcmp X.here K.x rfl (hb K.kb hd) rfl (by have e := lcW x y; unfold lcmpW at e; rw [e]; exact q)) k
theorem own_cge (K : own_K C bytes ml own ret nm R) {β : Type} {A B r : Option β} {o : Int} {x y : Int64} (hd : decode bytes pc = .ok (.lcmp, 1)) (hd2 : decode bytes pc' = .ok (.ifCond .ge o, 3)) (h : (if x < y then A else B) = r) (hm : pc + 1 = pc') (hp : (pc' : Int) + o = (pc1 : Int)) (hn : pc' + 3 = pc2) (k1 : B = r → own_W C v M' M cs ss pc1 Ls st) (k2 : A = r → own_W C v M' M cs ss pc2 Ls st) : own_W C v M' M cs ss pc Ls (.long y :: .long x :: st) :=
  own_lcv K hd hm (own_zge K hd2 (by simpa only [lc_lt] using h) hp hn k1 k2)
theorem own_clt (K : own_K C bytes ml own ret nm R) {β : Type} {A B r : Option β} {o : Int} {x y : Int64} (hd : decode bytes pc = .ok (.lcmp, 1)) (hd2 : decode bytes pc' = .ok (.ifCond .lt o, 3)) (h : (if x < y then A else B) = r) (hm : pc + 1 = pc') (hp : (pc' : Int) + o = (pc1 : Int)) (hn : pc' + 3 = pc2) (k1 : A = r → own_W C v M' M cs ss pc1 Ls st) (k2 : B = r → own_W C v M' M cs ss pc2 Ls st) : own_W C v M' M cs ss pc Ls (.long y :: .long x :: st) :=
  own_lcv K hd hm (own_zlt K hd2 (by simpa only [lc_lt] using h) hp hn k1 k2)
theorem own_cgt (K : own_K C bytes ml own ret nm R) {β : Type} {A B r : Option β} {o : Int} {x y : Int64} (hd : decode bytes pc = .ok (.lcmp, 1)) (hd2 : decode bytes pc' = .ok (.ifCond .gt o, 3)) (h : (if y < x then A else B) = r) (hm : pc + 1 = pc') (hp : (pc' : Int) + o = (pc1 : Int)) (hn : pc' + 3 = pc2) (k1 : A = r → own_W C v M' M cs ss pc1 Ls st) (k2 : B = r → own_W C v M' M cs ss pc2 Ls st) : own_W C v M' M cs ss pc Ls (.long y :: .long x :: st) :=
  own_lcv K hd hm (own_zgt K hd2 (by simpa only [lc_gt] using h) hp hn k1 k2)
theorem own_cle (K : own_K C bytes ml own ret nm R) {β : Type} {A B r : Option β} {o : Int} {x y : Int64} (hd : decode bytes pc = .ok (.lcmp, 1)) (hd2 : decode bytes pc' = .ok (.ifCond .le o, 3)) (h : (if y < x then A else B) = r) (hm : pc + 1 = pc') (hp : (pc' : Int) + o = (pc1 : Int)) (hn : pc' + 3 = pc2) (k1 : B = r → own_W C v M' M cs ss pc1 Ls st) (k2 : A = r → own_W C v M' M cs ss pc2 Ls st) : own_W C v M' M cs ss pc Ls (.long y :: .long x :: st) :=
  own_lcv K hd hm (own_zle K hd2 (by simpa only [lc_gt] using h) hp hn k1 k2)
theorem own_ceq (K : own_K C bytes ml own ret nm R) {β : Type} {A B r : Option β} {o : Int} {x y : Int64} (hd : decode bytes pc = .ok (.lcmp, 1)) (hd2 : decode bytes pc' = .ok (.ifCond .eq o, 3)) (h : (if x = y then A else B) = r) (hm : pc + 1 = pc') (hp : (pc' : Int) + o = (pc1 : Int)) (hn : pc' + 3 = pc2) (k1 : A = r → own_W C v M' M cs ss pc1 Ls st) (k2 : B = r → own_W C v M' M cs ss pc2 Ls st) : own_W C v M' M cs ss pc Ls (.long y :: .long x :: st) :=
  own_lcv K hd hm (own_zeq K hd2 (by simpa only [lc_eq] using h) hp hn k1 k2)
theorem own_cne (K : own_K C bytes ml own ret nm R) {β : Type} {A B r : Option β} {o : Int} {x y : Int64} (hd : decode bytes pc = .ok (.lcmp, 1)) (hd2 : decode bytes pc' = .ok (.ifCond .ne o, 3)) (h : (if x = y then A else B) = r) (hm : pc + 1 = pc') (hp : (pc' : Int) + o = (pc1 : Int)) (hn : pc' + 3 = pc2) (k1 : B = r → own_W C v M' M cs ss pc1 Ls st) (k2 : A = r → own_W C v M' M cs ss pc2 Ls st) : own_W C v M' M cs ss pc Ls (.long y :: .long x :: st) :=
  own_lcv K hd hm (own_zne K hd2 (by simpa only [lc_eq] using h) hp hn k1 k2)
end OwnSteps
section OwnHeap
variable {C : own_Ctx} {bytes : ByteArray} {ml : Nat} {own : String} {ret : Option FieldType} {nm : String} {R : Room} {v : Option Value} {M' M M1 : own_Mem} {cs ss cs1 ss1 pc pc' pc1 pc2 : Nat} {Ls Ls' : List Slot} {st st' : List Value}
/-! fields -/
theorem own_gf (K : own_K C bytes ml own ret nm R) {idx i t a : Nat} {C' n d : String} {fs : List (String × String)} {vs : List Value} {w0 : Value} (hd : decode bytes pc = .ok (.getfield idx, 3)) (w : Jvm.Cond.fieldLink own idx C' n d ∈ tables_1) (hc : own_cl t = some (C', fs)) (hi : fs[i]? = some (n, d)) (hm : M[a]? = some (t, vs)) (hv : vs[i]? = some w0) (hn : pc + 3 = pc')
    (k : own_W C v M' M cs ss pc' Ls (own_up (own_n C) w0 :: st)) : own_W C v M' M cs ss pc Ls (.ref (own_n C + a) :: st) := by
  subst hn
  refine own_go (fun T hT => ?_) k
  obtain ⟨locs, X, N, RR, b⟩ := hT
  have F := (own_obj RR hc hm).2 i n d _ hi hv
  obtain ⟨T1, X1, e1, st1⟩ := getF X K.x K.kz K.ko (host := "") (Or.inl (K.w _ w)) Via.refl rfl F (g := mkF (own_m C) pc Ls.toArray (.ref (own_n C + a) :: st)) rfl rfl (hb K.kb hd)
  exact ⟨T1, ⟨locs, X1, N, by rw [e1]; exact RR, b⟩, st1⟩
theorem own_gfI (K : own_K C bytes ml own ret nm R) {β : Type} {idx i t a : Nat} {C' n d : String} {fs : List (String × String)} {kk : Int32 → Option β} {r : β} (hd : decode bytes pc = .ok (.getfield idx, 3)) (w : Jvm.Cond.fieldLink own idx C' n d ∈ tables_1) (hc : own_cl t = some (C', fs)) (hi : fs[i]? = some (n, d)) (h : (own_getI t i M a).bind kk = some r) (hn : pc + 3 = pc')
    (k : ∀ x, kk x = some r → own_W C v M' M cs ss pc' Ls (.int x :: st)) : own_W C v M' M cs ss pc Ls (.ref (own_n C + a) :: st) := by
  obtain ⟨x, hx, hk⟩ := own_bind h
  obtain ⟨vs, hm, hv⟩ := own_getI_e hx
  exact own_gf K hd w hc hi hm hv hn (k x hk)
theorem own_gfJ (K : own_K C bytes ml own ret nm R) {β : Type} {idx i t a : Nat} {C' n d : String} {fs : List (String × String)} {kk : Int64 → Option β} {r : β} (hd : decode bytes pc = .ok (.getfield idx, 3)) (w : Jvm.Cond.fieldLink own idx C' n d ∈ tables_1) (hc : own_cl t = some (C', fs)) (hi : fs[i]? = some (n, d)) (h : (own_getJ t i M a).bind kk = some r) (hn : pc + 3 = pc')
    (k : ∀ x, kk x = some r → own_W C v M' M cs ss pc' Ls (.long x :: st)) : own_W C v M' M cs ss pc Ls (.ref (own_n C + a) :: st) := by
  obtain ⟨x, hx, hk⟩ := own_bind h
  obtain ⟨vs, hm, hv⟩ := own_getJ_e hx
  exact own_gf K hd w hc hi hm hv hn (k x hk)
theorem own_gfR (K : own_K C bytes ml own ret nm R) {β : Type} {idx i t a : Nat} {C' n d : String} {fs : List (String × String)} {kk : Nat → Option β} {r : β} (hd : decode bytes pc = .ok (.getfield idx, 3)) (w : Jvm.Cond.fieldLink own idx C' n d ∈ tables_1) (hc : own_cl t = some (C', fs)) (hi : fs[i]? = some (n, d)) (h : (own_getR t i M a).bind kk = some r) (hn : pc + 3 = pc')
    (k : ∀ x, kk x = some r → own_W C v M' M cs ss pc' Ls (.ref (own_n C + x) :: st)) : own_W C v M' M cs ss pc Ls (.ref (own_n C + a) :: st) := by
  obtain ⟨x, hx, hk⟩ := own_bind h
  obtain ⟨vs, hm, hv⟩ := own_getR_e hx
  exact own_gf K hd w hc hi hm hv hn (k x hk)
theorem own_pf (K : own_K C bytes ml own ret nm R) {β : Type} {idx i t a n1 : Nat} {C' n d : String} {fs : List (String × String)} {ty : FieldType} {w0 wr : Value} {kk : own_Mem → Option β} {r : β} (hd : decode bytes pc = .ok (.putfield idx, 3)) (w : Jvm.Cond.fieldLink own idx C' n d ∈ tables_1) (hc : own_cl t = some (C', fs)) (hi : fs[i]? = some (n, d))
    (hl : Jvm.Cond.lays C' C' n d ∈ tables_1 ∨ (Jvm.Cond.laysFinal C' C' n d ∈ tables_1 ∧ own = C' ∧ nm = "<init>")) (wi : Jvm.Cond.instantiable C' n1 ∈ tables_1) (hty : parseFieldDescriptor d = some ty) (hnr : narrow ty wr = own_up (own_n C) w0) (hft : fits ty (own_up (own_n C) w0) = true)
    (h : (own_put t i M a w0).bind kk = some r) (hn : pc + 3 = pc') (k : ∀ M1, kk M1 = some r → own_W C v M' M1 cs ss pc' Ls st) : own_W C v M' M cs ss pc Ls (wr :: .ref (own_n C + a) :: st) := by
  obtain ⟨M1, hx, hk⟩ := own_bind h
  obtain ⟨vs, hm, hv, rfl⟩ := own_put_e hx
  subst hn
  refine own_go (fun T hT => ?_) (k _ hk)
  obtain ⟨locs, X, N, RR, b⟩ := hT
  obtain ⟨E, F⟩ := own_obj RR hc hm
  have F0 := F i n d _ hi (List.getElem?_eq_getElem hv)
  have hL : (Jvm.Cond.lays C' C' n d).before (own_z C) (own_Z C) = true ∨ ((Jvm.Cond.laysFinal C' C' n d).before (own_z C) (own_Z C) = true ∧ own = C' ∧ (own_h C).name = "<init>") := by
    rcases hl with q | ⟨q1, q2, q3⟩
    · exact Or.inl (K.w _ q)
    · exact Or.inr ⟨K.w _ q1, q2, K.kn.trans q3⟩
  obtain ⟨T1, h1, X1, e1, W1, st1⟩ := putFN X K.x K.kz K.ko (K.w _ w) Via.refl rfl F0 E hL (K.w _ wi) hty hnr hft (g := mkF (own_m C) pc Ls.toArray (wr :: .ref (own_n C + a) :: st)) rfl rfl (hb K.kb hd)
  exact ⟨T1, ⟨_, X1, Fr.snoc X1 N (Nat.le_add_right _ _), by rw [e1]; exact own_wrF RR K.w hc hm hi hv W1, b⟩, st1⟩
/-! arrays -/
theorem own_slot {c : Cell} {vs : List Value} {j : Nat} {u : Value} (hs : c.slots.toList = vs) (hv : vs[j]? = some u) : c.slots[j]? = some u := by
  rw [← hs] at hv; simpa using hv
theorem own_size {c : Cell} {vs : List Value} (hs : c.slots.toList = vs) : c.slots.size = vs.length := by rw [← hs]; simp
theorem own_in {c : Cell} {vs : List Value} {j : Int32} {u : Value} (hs : c.slots.toList = vs) (hj : ¬ j < 0) (hv : vs[j.toNatClampNeg]? = some u) : ¬ (j < 0 ∨ c.slots.size ≤ j.toNatClampNeg) := by
  have := (List.getElem?_eq_some_iff.mp hv).1
  rw [own_size hs]
  rintro (q | q)
  · exact hj q
  · omega
theorem own_iaload (K : own_K C bytes ml own ret nm R) {β : Type} {a : Nat} {j : Int32} {kk : Int32 → Option β} {r : β} (hd : decode bytes pc = .ok (.iaload, 1)) (h : (own_ldI 100 M a j).bind kk = some r) (hn : pc + 1 = pc') (k : ∀ x, kk x = some r → own_W C v M' M cs ss pc' Ls (.int x :: st)) : own_W C v M' M cs ss pc Ls (.int j :: .ref (own_n C + a) :: st) := by
  obtain ⟨x, hx, hk⟩ := own_bind h
  obtain ⟨vs, hm, hj, hv⟩ := own_ldI_e hx
  subst hn
  refine own_go (fun T hT => ⟨T, hT, ?_⟩) (k x hk)
  obtain ⟨locs, X, N, RR, b⟩ := hT
  obtain ⟨c, A, hs, -⟩ := own_arr RR rfl hm
  exact fun t q => X.iaload K.x A.1 (State.isArrayOf_alike K.kz.alike A.2.1) A.2.2 (own_in hs hj hv) (own_slot hs hv) (g := mkF (own_m C) pc Ls.toArray (.int j :: .ref (own_n C + a) :: st)) rfl rfl (hb K.kb hd) t q
theorem own_laload (K : own_K C bytes ml own ret nm R) {β : Type} {a : Nat} {j : Int32} {kk : Int64 → Option β} {r : β} (hd : decode bytes pc = .ok (.laload, 1)) (h : (own_ldJ 101 M a j).bind kk = some r) (hn : pc + 1 = pc') (k : ∀ x, kk x = some r → own_W C v M' M cs ss pc' Ls (.long x :: st)) : own_W C v M' M cs ss pc Ls (.int j :: .ref (own_n C + a) :: st) := by
  obtain ⟨x, hx, hk⟩ := own_bind h
  obtain ⟨vs, hm, hj, hv⟩ := own_ldJ_e hx
  subst hn
  refine own_go (fun T hT => ⟨T, hT, ?_⟩) (k x hk)
  obtain ⟨locs, X, N, RR, b⟩ := hT
  obtain ⟨c, A, hs, -⟩ := own_arr RR rfl hm
  exact fun t q => X.laload K.x A.1 (State.isArrayOf_alike K.kz.alike A.2.1) A.2.2 (own_in hs hj hv) (own_slot hs hv) (g := mkF (own_m C) pc Ls.toArray (.int j :: .ref (own_n C + a) :: st)) rfl rfl (hb K.kb hd) t q
theorem own_baloadB (K : own_K C bytes ml own ret nm R) {β : Type} {a : Nat} {j : Int32} {kk : Int32 → Option β} {r : β} (hd : decode bytes pc = .ok (.baload, 1)) (h : (own_ldI 102 M a j).bind kk = some r) (hn : pc + 1 = pc') (k : ∀ x, kk x = some r → own_W C v M' M cs ss pc' Ls (.int x :: st)) : own_W C v M' M cs ss pc Ls (.int j :: .ref (own_n C + a) :: st) := by
  obtain ⟨x, hx, hk⟩ := own_bind h
  obtain ⟨vs, hm, hj, hv⟩ := own_ldI_e hx
  subst hn
  refine own_go (fun T hT => ⟨T, hT, ?_⟩) (k x hk)
  obtain ⟨locs, X, N, RR, b⟩ := hT
  obtain ⟨c, A, hs, -⟩ := own_arr RR rfl hm
  exact fun t q => X.baloadBytes K.x A.1 (State.isArrayOf_alike K.kz.alike A.2.1) A.2.2 (own_in hs hj hv) (own_slot hs hv) (g := mkF (own_m C) pc Ls.toArray (.int j :: .ref (own_n C + a) :: st)) rfl rfl (hb K.kb hd) t q
theorem own_baloadZ (K : own_K C bytes ml own ret nm R) {β : Type} {a : Nat} {j : Int32} {kk : Int32 → Option β} {r : β} (hd : decode bytes pc = .ok (.baload, 1)) (h : (own_ldI 103 M a j).bind kk = some r) (hn : pc + 1 = pc') (k : ∀ x, kk x = some r → own_W C v M' M cs ss pc' Ls (.int x :: st)) : own_W C v M' M cs ss pc Ls (.int j :: .ref (own_n C + a) :: st) := by
  obtain ⟨x, hx, hk⟩ := own_bind h
  obtain ⟨vs, hm, hj, hv⟩ := own_ldI_e hx
  subst hn
  refine own_go (fun T hT => ⟨T, hT, ?_⟩) (k x hk)
  obtain ⟨locs, X, N, RR, b⟩ := hT
  obtain ⟨c, A, hs, -⟩ := own_arr RR rfl hm
  exact fun t q => X.baloadBooleans K.x A.1 (State.isArrayOf_alike K.kz.alike A.2.1) A.2.2 (own_in hs hj hv) (own_slot hs hv) (g := mkF (own_m C) pc Ls.toArray (.int j :: .ref (own_n C + a) :: st)) rfl rfl (hb K.kb hd) t q
theorem own_alen (K : own_K C bytes ml own ret nm R) {β : Type} {a t : Nat} {ty : FieldType} {kk : Int32 → Option β} {r : β} (hd : decode bytes pc = .ok (.arraylength, 1)) (ht : own_ty t = some ty) (h : (own_len t M a).bind kk = some r) (hn : pc + 1 = pc') (k : ∀ x, kk x = some r → own_W C v M' M cs ss pc' Ls (.int x :: st)) : own_W C v M' M cs ss pc Ls (.ref (own_n C + a) :: st) := by
  obtain ⟨x, hx, hk⟩ := own_bind h
  obtain ⟨vs, hm, rfl⟩ := own_len_e hx
  subst hn
  refine own_go (fun T hT => ⟨T, hT, ?_⟩) (k _ hk)
  obtain ⟨locs, X, N, RR, b⟩ := hT
  obtain ⟨c, A, hs, -⟩ := own_arr RR ht hm
  refine fun t q => X.arraylength K.x A.1 (State.isArrayOf_alike K.kz.alike A.2.1) (g := mkF (own_m C) pc Ls.toArray (.ref (own_n C + a) :: st)) rfl rfl (hb K.kb hd) t ?_
  rw [own_size hs]
  exact q
theorem own_iastore (K : own_K C bytes ml own ret nm R) {β : Type} {a : Nat} {j x : Int32} {kk : own_Mem → Option β} {r : β} (hd : decode bytes pc = .ok (.iastore, 1)) (h : (own_sto 100 M a j (.int x)).bind kk = some r) (hn : pc + 1 = pc') (k : ∀ M1, kk M1 = some r → own_W C v M' M1 cs ss pc' Ls st) : own_W C v M' M cs ss pc Ls (.int x :: .int j :: .ref (own_n C + a) :: st) := by
  obtain ⟨M1, hx, hk⟩ := own_bind h
  obtain ⟨vs, hm, hj, rfl⟩ := own_sto_e hx
  subst hn
  refine own_go (fun T hT => ?_) (k _ hk)
  obtain ⟨locs, X, N, RR, b⟩ := hT
  obtain ⟨c, A, hs, -⟩ := own_arr RR rfl hm
  obtain ⟨T1, h1, X1, e1, W1, st1⟩ := stI X K.x K.kz rfl A (by rw [own_size hs]; exact hj) (g := mkF (own_m C) pc Ls.toArray (.int x :: .int j :: .ref (own_n C + a) :: st)) rfl rfl (hb K.kb hd)
  exact ⟨T1, ⟨_, X1, Fr.snoc X1 N (Nat.le_add_right _ _), by rw [e1]; exact own_wrA RR rfl hm W1, b⟩, st1⟩
theorem own_lastore (K : own_K C bytes ml own ret nm R) {β : Type} {a : Nat} {j : Int32} {x : Int64} {kk : own_Mem → Option β} {r : β} (hd : decode bytes pc = .ok (.lastore, 1)) (h : (own_sto 101 M a j (.long x)).bind kk = some r) (hn : pc + 1 = pc') (k : ∀ M1, kk M1 = some r → own_W C v M' M1 cs ss pc' Ls st) : own_W C v M' M cs ss pc Ls (.long x :: .int j :: .ref (own_n C + a) :: st) := by
  obtain ⟨M1, hx, hk⟩ := own_bind h
  obtain ⟨vs, hm, hj, rfl⟩ := own_sto_e hx
  subst hn
  refine own_go (fun T hT => ?_) (k _ hk)
  obtain ⟨locs, X, N, RR, b⟩ := hT
  obtain ⟨c, A, hs, -⟩ := own_arr RR rfl hm
  obtain ⟨T1, h1, X1, e1, W1, st1⟩ := stJ X K.x K.kz rfl A (by rw [own_size hs]; exact hj) (g := mkF (own_m C) pc Ls.toArray (.long x :: .int j :: .ref (own_n C + a) :: st)) rfl rfl (hb K.kb hd)
  exact ⟨T1, ⟨_, X1, Fr.snoc X1 N (Nat.le_add_right _ _), by rw [e1]; exact own_wrA RR rfl hm W1, b⟩, st1⟩
theorem own_bastoreB (K : own_K C bytes ml own ret nm R) {β : Type} {a : Nat} {j x : Int32} {kk : own_Mem → Option β} {r : β} (hd : decode bytes pc = .ok (.bastore, 1)) (h : (own_sto 102 M a j (.int (nar .byte x))).bind kk = some r) (hn : pc + 1 = pc') (k : ∀ M1, kk M1 = some r → own_W C v M' M1 cs ss pc' Ls st) : own_W C v M' M cs ss pc Ls (.int x :: .int j :: .ref (own_n C + a) :: st) := by
  obtain ⟨M1, hx, hk⟩ := own_bind h
  obtain ⟨vs, hm, hj, rfl⟩ := own_sto_e hx
  subst hn
  refine own_go (fun T hT => ?_) (k _ hk)
  obtain ⟨locs, X, N, RR, b⟩ := hT
  obtain ⟨c, A, hs, -⟩ := own_arr RR rfl hm
  obtain ⟨T1, h1, X1, e1, W1, st1⟩ := stB X K.x K.kz rfl A (by rw [own_size hs]; exact hj) (g := mkF (own_m C) pc Ls.toArray (.int x :: .int j :: .ref (own_n C + a) :: st)) rfl rfl (hb K.kb hd)
  exact ⟨T1, ⟨_, X1, Fr.snoc X1 N (Nat.le_add_right _ _), by rw [e1]; exact own_wrA RR rfl hm W1, b⟩, st1⟩
theorem own_bastoreZ (K : own_K C bytes ml own ret nm R) {β : Type} {a : Nat} {j x : Int32} {kk : own_Mem → Option β} {r : β} (hd : decode bytes pc = .ok (.bastore, 1)) (h : (own_sto 103 M a j (.int (nar .boolean x))).bind kk = some r) (hn : pc + 1 = pc') (k : ∀ M1, kk M1 = some r → own_W C v M' M1 cs ss pc' Ls st) : own_W C v M' M cs ss pc Ls (.int x :: .int j :: .ref (own_n C + a) :: st) := by
  obtain ⟨M1, hx, hk⟩ := own_bind h
  obtain ⟨vs, hm, hj, rfl⟩ := own_sto_e hx
  subst hn
  refine own_go (fun T hT => ?_) (k _ hk)
  obtain ⟨locs, X, N, RR, b⟩ := hT
  obtain ⟨c, A, hs, -⟩ := own_arr RR rfl hm
  obtain ⟨T1, h1, X1, e1, W1, st1⟩ := stZ X K.x K.kz rfl A (by rw [own_size hs]; exact hj) (g := mkF (own_m C) pc Ls.toArray (.int x :: .int j :: .ref (own_n C + a) :: st)) rfl rfl (hb K.kb hd)
  exact ⟨T1, ⟨_, X1, Fr.snoc X1 N (Nat.le_add_right _ _), by rw [e1]; exact own_wrA RR rfl hm W1, b⟩, st1⟩
/-! fresh cells -/
theorem own_ext (h : Heap) (c : Cell) : Ext h (h.push c) := ⟨by simp, fun a c' q => by
  rw [Array.getElem?_push_lt (Array.getElem?_eq_some_iff.mp q).1]; exact (Array.getElem?_eq_getElem _).symm.trans q⟩
theorem own_updef (n0 : Nat) (ty : FieldType) : own_up n0 (defaultValue ty) = defaultValue ty := by cases ty <;> rfl
theorem own_fresh {Z s : State} {a0 : Array Value} {h : Heap} {C' : String} {cC : ClassId} {kC : Class} (hZ : Z.Warmed39 s.vm) (g1 : s.vm.findClass C' = some cC) (g2 : s.vm.classes[cC]? = some kC) :
    Exa Z (h.push { cls := cC, slots := kC.instanceTypes.map defaultValue, vm := .none }) h.size C' ∧ ∀ {nm d : String} {ty : FieldType}, Laid Z a0 C' C' nm d → parseFieldDescriptor d = some ty → Fld Z (h.push { cls := cC, slots := kC.instanceTypes.map defaultValue, vm := .none }) h.size C' nm d (defaultValue ty) := by
  rw [hZ.alike.findClass] at g1
  obtain ⟨kZ, z1, -⟩ := Vm.findClass_spec g1
  obtain ⟨k', z2, z3⟩ := hZ.alike.2.2 _ _ z1
  cases g2.symm.trans z2
  have ei : kC.instanceTypes = kZ.instanceTypes := by rw [z3]
  have hN : (h.push ({ cls := cC, slots := kC.instanceTypes.map defaultValue, vm := .none } : Cell))[h.size]? = some { cls := cC, slots := kC.instanceTypes.map defaultValue, vm := .none } := by simp
  refine ⟨⟨_, kZ, hN, g1, z1, rfl, fun _ => by simp [ei]⟩, fun {nm d ty} L ht => ?_⟩
  obtain ⟨c1, k1, cf, kf, i, f, a1, a2, a3, a4, a5, a6, -⟩ := L.spec
  cases g1.symm.trans a1
  cases z1.symm.trans a2
  exact ⟨_, cf, kf, i, f, hN, a3, a4, by simp, rfl, a5, by simp [ei, a6, (State.fieldFound?_type a3 ht).2]⟩
theorem own_new (K : own_K C bytes ml own ret nm R) {β : Type} {idx n t : Nat} {C' : String} {fs : List (String × String)} {vs : List Value} {kk : Nat × own_Mem → Option β} {r : β} (hd : decode bytes pc = .ok (.new idx, 3)) (w1 : Jvm.Cond.classLink own idx C' ∈ tables_1) (w2 : Jvm.Cond.instantiable C' n ∈ tables_1) (w3 : Jvm.Cond.initialized C' ∈ tables_1)
    (hc : own_cl t = some (C', fs)) (hv : ∀ (i : Nat) nm d u, fs[i]? = some (nm, d) → vs[i]? = some u → ∃ ty, parseFieldDescriptor d = some ty ∧ u = defaultValue ty) (h : (own_newO t vs M).bind kk = some r) (e1 : cs + 1 = cs1) (e2 : ss + n = ss1) (h1 : cs1 ≤ R.cells) (h2 : ss1 ≤ R.slots) (hn : pc + 3 = pc')
    (k : ∀ q, kk q = some r → own_W C v M' q.2 cs1 ss1 pc' Ls (.ref (own_n C + q.1) :: st)) : own_W C v M' M cs ss pc Ls st := by
  subst hn e1 e2
  refine own_go (fun T hT => ?_) (k _ h)
  obtain ⟨locs, X, N, RR, b1, b2⟩ := hT
  obtain ⟨vm', cC, kC, g1, g2, g3, g4, X', stp⟩ := X.newCold K.x K.ko (mv K.kz (K.w _ w1)) (mv K.kz (K.w _ w2)) (mv K.kz (K.w _ w3)) (g := mkF (own_m C) pc Ls.toArray st) rfl (hb K.kb hd) (by rw [K.kr]; exact h1) (by rw [K.kr]; exact h2)
  obtain ⟨E, F⟩ := own_fresh (a0 := own_z C) (h := T.heap) K.kz g1 g2
  refine ⟨_, ⟨locs, X', N, ?_, by rw [K.kr]; exact h1, by rw [K.kr]; exact h2⟩, ?_⟩
  · refine own_push RR (own_ext _ _) ⟨fun ty ht => (by rw [own_ty_cl ht] at hc; cases hc), fun C2 fs2 hc2 => ?_⟩
    cases hc.symm.trans hc2
    refine ⟨E, fun i nm d u q1 q2 => ?_⟩
    obtain ⟨ty, p1, rfl⟩ := hv i nm d u q1 q2
    rw [own_updef]
    exact F ((own_laid K.w hc).1 _ _ _ q1).1 p1
  · intro t' q
    refine stp t' ?_
    have e : T.heap.size = own_n C + M.length := RR.1
    rw [e]
    exact q
theorem own_na (K : own_K C bytes ml own ret nm R) {β : Type} {aty : ArrayType} {t cap : Nat} {dv : Value} {n : Int32} {kk : Nat × own_Mem → Option β} {r : β} (hd : decode bytes pc = .ok (.newarray aty, 2)) (w : Jvm.Cond.arrayClass (newarray.typeOf aty) ∈ tables_1) (ht : own_ty t = some (newarray.typeOf aty)) (hdv : defaultValue (newarray.typeOf aty) = dv)
    (h : (own_newA t cap dv M n).bind kk = some r) (hcap : cap * 8 ≤ 536870912) (e1 : cs + 1 = cs1) (e2 : ss + cap = ss1) (h1 : cs1 ≤ R.cells) (h2 : ss1 ≤ R.slots) (hn : pc + 2 = pc')
    (k : ∀ q, kk q = some r → own_W C v M' q.2 cs1 ss1 pc' Ls (.ref (own_n C + q.1) :: st)) : own_W C v M' M cs ss pc Ls (.int n :: st) := by
  subst hn hdv e1 e2
  obtain ⟨q, hq, hk⟩ := own_bind h
  unfold own_newA at hq
  split at hq
  · cases hq
  rename_i hneg
  cases hq
  have hn0 : ¬ n < 0 := fun z => hneg (Or.inl z)
  have hn1 : n.toNatClampNeg ≤ cap := Nat.le_of_not_lt fun z => hneg (Or.inr z)
  refine own_go (fun T hT => ?_) (k _ hk)
  obtain ⟨locs, X, N, RR, b1, b2⟩ := hT
  have hcb : componentBytes (newarray.typeOf aty) ≤ 8 := by cases aty <;> decide
  obtain ⟨cA, kA, comp, g1, g2, g3, X', stp⟩ := X.newarrayPrim K.x (mvA K.kz (K.w _ w)) (g := mkF (own_m C) pc Ls.toArray (.int n :: st)) rfl (hb K.kb hd) rfl hn0 (Nat.le_trans (Nat.mul_le_mul hn1 hcb) hcap) (by rw [K.kr]; exact h1) (by rw [K.kr]; omega)
  have g1' := g1
  rw [K.kz.alike.findClass] at g1'
  obtain ⟨kZ, z1, -⟩ := Vm.findClass_spec g1'
  obtain ⟨k', z2, z3⟩ := K.kz.alike.2.2 _ _ z1
  cases g2.symm.trans z2
  refine ⟨_, ⟨locs, X'.more (Nat.le_refl _) (by omega), N, ?_, by rw [K.kr]; exact h1, by rw [K.kr]; exact h2⟩, ?_⟩
  · refine own_push RR (own_ext _ _) ⟨fun ty ht2 => ?_, fun C2 fs2 hc2 => (by rw [own_ty_cl ht] at hc2; cases hc2)⟩
    cases ht.symm.trans ht2
    refine ⟨_, ⟨by simp; rfl, ⟨by simp, kZ, z1, comp, by rw [← g3, z3]⟩, by simp⟩, by simp, ?_⟩
    have := (back32 hn0).2
    simpa using this
  · intro t' q
    refine stp t' ?_
    have e : T.heap.size = own_n C + M.length := RR.1
    rw [e]
    exact q
/-! calls -/
def own_Met (y : MethodName) (yb : ByteArray) (yml : Nat) (yret : Option FieldType) (rm : Room) (args : List Value) (M : own_Mem) (vr : Option Value) (M1 : own_Mem) : Prop :=
  ∀ (l : Launch) (Z : State) (a0 : Array Value) (n0 : Nat) (h0 : Heap) (ws : List Jvm.Cond), (∀ d ∈ tables_1, d.before a0 Z = true) → own_Rel Z n0 h0 M →
    MetFree l y (head1 (Jvm.Cond.code y yb yml yret :: ws) rm) (fun a U => a = (args.map (own_up n0)).toArray ∧ Z.Warmed39 U.vm ∧ U.heap = h0) (fun _ _ _ _ _ => True) (fun _ U o U' => ∃ v L, o = .returned v ∧ (v = vr.map (own_up n0) ∧ own_Rel Z n0 U'.heap M1 ∧ Fr n0 L) ∧ FrameEnd U o U' L rm.cells rm.slots)
theorem own_back (K : own_K C bytes ml own ret nm R) {y : MethodName} {yb : ByteArray} {yml : Nat} {yret : Option FieldType} {rm : Room} {args : List Value} {vr : Option Value} {T : State} {W : Nat} (w3 : Jvm.Cond.initialized y.cls ∈ tables_1) (w4 : Jvm.Cond.code y yb yml yret ∈ tables_1) (hf : rm.frames + 1 ≤ R.frames) (hl : W + (yml + 11) + rm.locals ≤ R.locals) (hM : own_Met y yb yml yret rm args M vr M1) (RR : own_Rel (own_Z C) (own_n C) T.heap M) :
    Back (own_l C) (own_R C) (own_p C) (own_e C) (own_b C) (own_s C) (own_a C) y 3 W (fun A a => a = (args.map (own_up (own_n C))).toArray ∧ A.U.heap = T.heap ∧ A.cells + rm.cells ≤ (own_R C).cells ∧ A.slots + rm.slots ≤ (own_R C).slots)
      (fun A _ v B => ∃ L, (v = vr.map (own_up (own_n C)) ∧ own_Rel (own_Z C) (own_n C) B.U.heap M1 ∧ Fr (own_n C) L) ∧ B.locs = A.locs ++ L ∧ B.cells = A.cells + rm.cells ∧ B.slots = A.slots + rm.slots) :=
  backOf (W := W) (Q := fun v h L => v = vr.map (own_up (own_n C)) ∧ own_Rel (own_Z C) (own_n C) h M1 ∧ Fr (own_n C) L) (hM (own_l C) (own_Z C) (own_z C) (own_n C) T.heap [] K.w RR) K.kz (K.w _ w4) (K.w _ w3) (by rw [K.kr]; exact hf) (by rw [K.kr]; exact hl)
theorem own_callS (K : own_K C bytes ml own ret nm R) {idx : Nat} {y : MethodName} {yb : ByteArray} {yml : Nat} {yret : Option FieldType} {rm : Room} {W : Nat} {argsL stk st1 : List Value} {vr : Option Value} (hd : decode bytes pc = .ok (.invokestatic idx, 3)) (w1 : Jvm.Cond.methodLink own idx y ∈ tables_1) (w2 : Jvm.Cond.static y ∈ tables_1) (w3 : Jvm.Cond.initialized y.cls ∈ tables_1) (w4 : Jvm.Cond.code y yb yml yret ∈ tables_1)
    (hy : y.cls ≠ "java/lang/invoke/MethodHandle" ∧ y.cls ≠ "java/lang/invoke/VarHandle") (hlen : ∀ sig, parseMethodDescriptor y.desc = some sig → argsL.length = sig.parameters.length) (hs : (argsL.map (own_up (own_n C))).reverse ++ st = stk) (hW : (st.map fun v => v.category).sum ≤ W) (hf : rm.frames + 1 ≤ R.frames) (hl : W + (yml + 11) + rm.locals ≤ R.locals) (e1 : cs + rm.cells = cs1) (e2 : ss + rm.slots = ss1) (h1 : cs1 ≤ R.cells) (h2 : ss1 ≤ R.slots) (hsz : Ls.length = ml) (hn : pc + 3 = pc')
    (hM : own_Met y yb yml yret rm argsL M vr M1) (hv : (vr.map (own_up (own_n C))).toList ++ st = st1) (k : own_W C v M' M1 cs1 ss1 pc' Ls st1) : own_W C v M' M cs ss pc Ls stk := by
  subst hn hs hv e1 e2
  refine own_go (fun T hT => ?_) k
  obtain ⟨locs, X, N, RR, b1, b2⟩ := hT
  obtain ⟨v2, vm1, ⟨T1, L1, c1, s1⟩, -, X1, ⟨Lc, ⟨rfl, RR1, N1⟩, l1, y1, z1⟩, st1⟩ := Jvm.LawKit.callS X K.x (y := y) K.ko (mvT K.kz (K.w _ w1)) (mvT K.kz (K.w _ w2)) (mvT K.kz (K.w _ w3)) (mvT K.kz (K.w _ w4)) hy (own_back K w3 w4 hf hl hM RR) (g := mkF (own_m C) pc Ls.toArray ((argsL.map (own_up (own_n C))).reverse ++ st)) rfl (by rw [K.kl]; simpa using hsz) (argsL := argsL.map (own_up (own_n C))) (rest := st) (fun sig q => by rw [List.length_map]; exact hlen sig q) rfl (by show 2 * 0 + _ ≤ _; simpa using hW) (hb K.kb hd) (fun _ _ => ⟨rfl, rfl, by rw [K.kr]; exact h1, by rw [K.kr]; exact h2⟩)
  dsimp only [Pt.U, Pt.locs, Pt.cells, Pt.slots] at X1 l1 y1 z1 st1 RR1
  subst l1 y1 z1
  exact ⟨T1, ⟨_, X1, Fr.app N N1, RR1, by rw [K.kr]; exact h1, by rw [K.kr]; exact h2⟩, st1⟩
theorem own_callI (K : own_K C bytes ml own ret nm R) {idx : Nat} {y : MethodName} {yb : ByteArray} {yml : Nat} {rm : Room} {W a : Nat} {argsL stk : List Value} (hd : decode bytes pc = .ok (.invokespecial idx, 3)) (hy1 : y.name = "<init>") (w1 : Jvm.Cond.methodLink own idx y ∈ tables_1) (w2 : Jvm.Cond.instanceMethod y ∈ tables_1) (w3 : Jvm.Cond.initialized y.cls ∈ tables_1) (w4 : Jvm.Cond.code y yb yml none ∈ tables_1)
    (hy : y.cls ≠ "java/lang/invoke/MethodHandle" ∧ y.cls ≠ "java/lang/invoke/VarHandle") (hlen : ∀ sig, parseMethodDescriptor y.desc = some sig → argsL.length = sig.parameters.length) (hs : (argsL.map (own_up (own_n C))).reverse ++ .ref (own_n C + a) :: st = stk) (hW : (st.map fun v => v.category).sum ≤ W) (hf : rm.frames + 1 ≤ R.frames) (hl : W + (yml + 11) + rm.locals ≤ R.locals) (e1 : cs + rm.cells = cs1) (e2 : ss + rm.slots = ss1) (h1 : cs1 ≤ R.cells) (h2 : ss1 ≤ R.slots) (hsz : Ls.length = ml) (hn : pc + 3 = pc')
    (hM : own_Met y yb yml none rm (.ref a :: argsL) M none M1) (k : own_W C v M' M1 cs1 ss1 pc' Ls st) : own_W C v M' M cs ss pc Ls stk := by
  subst hn hs e1 e2
  refine own_go (fun T hT => ?_) k
  obtain ⟨locs, X, N, RR, b1, b2⟩ := hT
  obtain ⟨v2, vm1, ⟨T1, L1, c1, s1⟩, -, X1, ⟨Lc, ⟨rfl, RR1, N1⟩, l1, y1, z1⟩, st1⟩ := X.specialBack K.x (y := y) hy1 K.ko (mvT K.kz (K.w _ w1)) (mvT K.kz (K.w _ w2)) (mvT K.kz (K.w _ w4)) hy (own_back K w3 w4 hf hl hM RR) (g := mkF (own_m C) pc Ls.toArray ((argsL.map (own_up (own_n C))).reverse ++ .ref (own_n C + a) :: st)) rfl (by rw [K.kl]; simpa using hsz) (Steps.refl _) (a := own_n C + a) (argsL := argsL.map (own_up (own_n C))) (rest := st) (fun sig q => by rw [List.length_map]; exact hlen sig q) rfl (by show 2 * 0 + _ ≤ _; simpa using hW) (hb K.kb hd) (fun _ _ => ⟨rfl, rfl, by rw [K.kr]; exact h1, by rw [K.kr]; exact h2⟩)
  dsimp only [Pt.U, Pt.locs, Pt.cells, Pt.slots] at X1 l1 y1 z1 st1 RR1
  subst l1 y1 z1
  exact ⟨T1, ⟨_, X1, Fr.app N N1, RR1, by rw [K.kr]; exact h1, by rw [K.kr]; exact h2⟩, fun t q => st1.trans q⟩
theorem own_callV (K : own_K C bytes ml own ret nm R) {idx t : Nat} {fs : List (String × String)} {vs : List Value} {y : MethodName} {yb : ByteArray} {yml : Nat} {yret : Option FieldType} {rm : Room} {W a : Nat} {argsL stk st1 : List Value} {vr : Option Value} (hd : decode bytes pc = .ok (.invokevirtual idx, 3)) (w1 : Jvm.Cond.methodLink own idx y ∈ tables_1) (w5 : Jvm.Cond.declares y ∈ tables_1) (w6 : Jvm.Cond.selects y.cls y y ∈ tables_1) (w2 : Jvm.Cond.instanceMethod y ∈ tables_1) (w3 : Jvm.Cond.initialized y.cls ∈ tables_1) (w4 : Jvm.Cond.code y yb yml yret ∈ tables_1)
    (hc : own_cl t = some (y.cls, fs)) (hat : own_at M t a = some vs)
    (hy : y.cls ≠ "java/lang/invoke/MethodHandle" ∧ y.cls ≠ "java/lang/invoke/VarHandle") (hlen : ∀ sig, parseMethodDescriptor y.desc = some sig → argsL.length = sig.parameters.length) (hs : (argsL.map (own_up (own_n C))).reverse ++ .ref (own_n C + a) :: st = stk) (hW : (st.map fun v => v.category).sum ≤ W) (hf : rm.frames + 1 ≤ R.frames) (hl : W + (yml + 11) + rm.locals ≤ R.locals) (e1 : cs + rm.cells = cs1) (e2 : ss + rm.slots = ss1) (h1 : cs1 ≤ R.cells) (h2 : ss1 ≤ R.slots) (hsz : Ls.length = ml) (hn : pc + 3 = pc')
    (hM : own_Met y yb yml yret rm (.ref a :: argsL) M vr M1) (hv : (vr.map (own_up (own_n C))).toList ++ st = st1) (k : own_W C v M' M1 cs1 ss1 pc' Ls st1) : own_W C v M' M cs ss pc Ls stk := by
  subst hn hs hv e1 e2
  refine own_go (fun T hT => ?_) k
  obtain ⟨locs, X, N, RR, b1, b2⟩ := hT
  obtain ⟨cq, kq, qa, qb, qc⟩ := isOf (T := T) K.kz rfl (own_obj RR hc (own_at_e hat)).1
  obtain ⟨v2, vm1, ⟨T1, L1, c1, s1⟩, -, X1, ⟨Lc, ⟨rfl, RR1, N1⟩, l1, y1, z1⟩, st1⟩ := X.virtualBack K.x (y := y) (z := y) K.ko (mvT K.kz (K.w _ w1)) (mvT K.kz (K.w _ w5)) (notFace_of_selects (args := #[]) (mvT K.kz (K.w _ w6))) (mvT K.kz (K.w _ w6)) (mvT K.kz (K.w _ w2)) hy (own_back K w3 w4 hf hl hM RR) qa qc (g := mkF (own_m C) pc Ls.toArray ((argsL.map (own_up (own_n C))).reverse ++ .ref (own_n C + a) :: st)) rfl (by rw [K.kl]; simpa using hsz) (Steps.refl _) (argsL := argsL.map (own_up (own_n C))) (rest := st) (fun sig q => by rw [List.length_map]; exact hlen sig q) rfl (by show 2 * 0 + _ ≤ _; simpa using hW) (hb K.kb hd) (fun _ _ => ⟨rfl, rfl, by rw [K.kr]; exact h1, by rw [K.kr]; exact h2⟩)
  dsimp only [Pt.U, Pt.locs, Pt.cells, Pt.slots] at X1 l1 y1 z1 st1 RR1
  subst l1 y1 z1
  exact ⟨T1, ⟨_, X1, Fr.app N N1, RR1, by rw [K.kr]; exact h1, by rw [K.kr]; exact h2⟩, fun t q => st1.trans q⟩
theorem own_callP (K : own_K C bytes ml own ret nm R) {idx t n1 : Nat} {fs : List (String × String)} {vs : List Value} {y : MethodName} {yb : ByteArray} {yml : Nat} {yret : Option FieldType} {rm : Room} {W a : Nat} {argsL stk st1 : List Value} {vr : Option Value} (hd : decode bytes pc = .ok (.invokevirtual idx, 3)) (w1 : Jvm.Cond.methodLink own idx y ∈ tables_1) (w5 : Jvm.Cond.privateMethod y ∈ tables_1) (w6 : Jvm.Cond.instantiable y.cls n1 ∈ tables_1) (w2 : Jvm.Cond.instanceMethod y ∈ tables_1) (w3 : Jvm.Cond.initialized y.cls ∈ tables_1) (w4 : Jvm.Cond.code y yb yml yret ∈ tables_1)
    (hc : own_cl t = some (y.cls, fs)) (hat : own_at M t a = some vs)
    (hy : y.cls ≠ "java/lang/invoke/MethodHandle" ∧ y.cls ≠ "java/lang/invoke/VarHandle") (hlen : ∀ sig, parseMethodDescriptor y.desc = some sig → argsL.length = sig.parameters.length) (hs : (argsL.map (own_up (own_n C))).reverse ++ .ref (own_n C + a) :: st = stk) (hW : (st.map fun v => v.category).sum ≤ W) (hf : rm.frames + 1 ≤ R.frames) (hl : W + (yml + 11) + rm.locals ≤ R.locals) (e1 : cs + rm.cells = cs1) (e2 : ss + rm.slots = ss1) (h1 : cs1 ≤ R.cells) (h2 : ss1 ≤ R.slots) (hsz : Ls.length = ml) (hn : pc + 3 = pc')
    (hM : own_Met y yb yml yret rm (.ref a :: argsL) M vr M1) (hv : (vr.map (own_up (own_n C))).toList ++ st = st1) (k : own_W C v M' M1 cs1 ss1 pc' Ls st1) : own_W C v M' M cs ss pc Ls stk := by
  subst hn hs hv e1 e2
  refine own_go (fun T hT => ?_) k
  obtain ⟨locs, X, N, RR, b1, b2⟩ := hT
  obtain ⟨cq, qa, qb⟩ := (own_obj RR hc (own_at_e hat)).1.cell
  have hpr : (own_s C).PrivateAt y := Cond.privateMethod_at (mvP K.kz (K.w _ w5) (args := #[]))
  obtain ⟨cI, kI, i1, i2, -, i3, -⟩ := Cond.instantiable_spec (show (Jvm.Cond.instantiable y.cls n1).before (own_a C) (own_s C) = true from mvT K.kz (K.w _ w6))
  have hni : kI.isInterface = false := by
    cases q : kI.isInterface
    · rfl
    · rw [q] at i3; simp at i3
  have hsel : (Jvm.Cond.selects y.cls y y).before (own_a C) (own_s C) = true := selects_self_of_private i1 i2 hni hpr (mvT K.kz (K.w _ w2)) hy
  obtain ⟨v2, vm1, ⟨T1, L1, c1, s1⟩, -, X1, ⟨Lc, ⟨rfl, RR1, N1⟩, l1, y1, z1⟩, st1⟩ := X.privateBack K.x (y := y) K.ko (mvT K.kz (K.w _ w1)) (mvT K.kz (K.w _ w2)) hsel hpr (mvT K.kz (K.w _ w4)) hy (own_back K w3 w4 hf hl hM RR) (g := mkF (own_m C) pc Ls.toArray ((argsL.map (own_up (own_n C))).reverse ++ .ref (own_n C + a) :: st)) rfl (by rw [K.kl]; simpa using hsz) (Steps.refl _) (a := own_n C + a) qa qb (argsL := argsL.map (own_up (own_n C))) (rest := st) (fun sig q => by rw [List.length_map]; exact hlen sig q) rfl (by show 2 * 0 + _ ≤ _; simpa using hW) (hb K.kb hd) (fun _ _ => ⟨rfl, rfl, by rw [K.kr]; exact h1, by rw [K.kr]; exact h2⟩)
  dsimp only [Pt.U, Pt.locs, Pt.cells, Pt.slots] at X1 l1 y1 z1 st1 RR1
  subst l1 y1 z1
  exact ⟨T1, ⟨_, X1, Fr.app N N1, RR1, by rw [K.kr]; exact h1, by rw [K.kr]; exact h2⟩, fun t q => st1.trans q⟩
theorem own_initO (K : own_K C bytes ml own ret nm R) {idx W a : Nat} (hd : decode bytes pc = .ok (.invokespecial idx, 3)) (w1 : Jvm.Cond.methodLink own idx Lib.objectInit ∈ tables_1) (w2 : Jvm.Cond.instanceMethod Lib.objectInit ∈ tables_1) (w3 : Jvm.Cond.code Lib.objectInit ⟨#[0xb1]⟩ 1 none ∈ tables_1) (hW : (st.map fun v => v.category).sum ≤ W) (hf : 1 ≤ R.frames) (hl : W + 12 ≤ R.locals) (hsz : Ls.length = ml) (hn : pc + 3 = pc')
    (k : own_W C v M' M cs ss pc' Ls st) : own_W C v M' M cs ss pc Ls (.ref a :: st) := by
  subst hn
  refine own_go (fun T hT => ?_) k
  obtain ⟨locs, X, N, RR, b⟩ := hT
  obtain ⟨T1, X1, e1, st1⟩ := initO X K.x K.kz K.ko (K.w _ w1) (K.w _ w2) (K.w _ w3) rfl (g := mkF (own_m C) pc Ls.toArray (.ref a :: st)) rfl (by rw [K.kl]; simpa using hsz) rfl (hb K.kb hd) (by rw [K.kr]; exact hf) (W := W) (by show 2 * 0 + _ ≤ _; simpa using hW) (by rw [K.kr]; exact hl)
  exact ⟨T1, ⟨locs, X1, N, by rw [e1]; exact RR, b⟩, st1⟩
/-! returns -/
theorem own_end {w : Option Value} (K : own_K C bytes ml own ret nm R) (hret : ret = none → w = none) (f : ∀ T locs, own_X C T locs cs ss → ∀ fs, (∀ (f : JFrame) (acts : List Action), f.method = own_m C → f.locked = none → f.entered = [] → (doReturn (own_e C) (T.setTop f) acts (w.map (own_up (own_n C)))).1 = T.setFrames fs) → own_Go C T pc Ls st (T.setFrames fs)) : own_W C w M M cs ss pc Ls st := fun T hT => by
  obtain ⟨locs, X, N, RR, b1, b2⟩ := hT
  obtain ⟨fs, hr, hrun, hended, hW, hsame⟩ := X.leave (v := w.map (own_up (own_n C))) (fun q => by rw [K.kt] at q; rw [hret q]; rfl) K.lk
  exact ⟨_, _, f T locs X fs hr, hrun, hended, _, _, rfl, ⟨rfl, RR, N⟩, ⟨_, rfl⟩, hW, hsame.mono b1 b2⟩
theorem own_retV (K : own_K C bytes ml own none nm R) {r : Unit × own_Mem} (hd : decode bytes pc = .ok (.return_, 1)) (h : some ((), M) = some r) : own_W C none r.2 M cs ss pc Ls [] := by
  cases h
  exact own_end K (fun _ => rfl) fun T locs X fs hr => X.returnOut K.x K.kt (hb K.kb hd) hr
theorem own_retJ (K : own_K C bytes ml own (some .long) nm R) {z : Int64} {r : Int64 × own_Mem} (hd : decode bytes pc = .ok (.lreturn, 1)) (h : some (z, M) = some r) : own_W C (some (.long r.1)) r.2 M cs ss pc Ls [.long z] := by
  cases h
  exact own_end K (fun q => by cases q) fun T locs X fs hr => X.lreturnOut K.x K.kt (hb K.kb hd) hr
theorem own_retR {ty : FieldType} (K : own_K C bytes ml own (some ty) nm R) {z : Nat} {r : Nat × own_Mem} (hd : decode bytes pc = .ok (.areturn, 1)) (ht : ty.isReference = true) (h : some (z, M) = some r) : own_W C (some (.ref r.1)) r.2 M cs ss pc Ls [.ref (own_n C + z)] := by
  cases h
  exact own_end K (fun q => by cases q) fun T locs X fs hr => X.areturnOut K.x rfl K.kt ht (hb K.kb hd) hr
theorem own_retI (K : own_K C bytes ml own (some .int) nm R) {z : Int32} {r : Int32 × own_Mem} (hd : decode bytes pc = .ok (.ireturn, 1)) (h : some (z, M) = some r) : own_W C (some (.int r.1)) r.2 M cs ss pc Ls [.int z] := by
  cases h
  exact own_end K (fun q => by cases q) fun T locs X fs hr => X.ireturnOut K.x K.kt rfl (Or.inl rfl) (hb K.kb hd) hr
theorem own_retN {ty : FieldType} (K : own_K C bytes ml own (some ty) nm R) {z : Int32} {r : Int32 × own_Mem} (hd : decode bytes pc = .ok (.ireturn, 1)) (ht : ty = .boolean ∨ ty = .byte ∨ ty = .char ∨ ty = .short) (h : some (nar ty z, M) = some r) : own_W C (some (.int r.1)) r.2 M cs ss pc Ls [.int z] := by
  cases h
  exact own_end K (fun q => by cases q) fun T locs X fs hr => retN X K.x K.kt ht (hb K.kb hd) hr
end OwnHeap
/-- a body's contract, out of its walk -/
theorem own_met {y : MethodName} {yb : ByteArray} {yml : Nat} {yret : Option FieldType} {rm : Room} {args : List Value} {M M1 : own_Mem} {vr : Option Value} {Ls : Nat → List Slot} (hpl : plainFor y = true) (hef : ∀ (m : MethodId) (n0 : Nat), entryFrame m (args.map (own_up n0)).toArray yml = mkF m 0 (Ls n0).toArray [])
    (hW : ∀ C, own_K C yb yml y.cls yret y.name rm → own_W C vr M1 M 0 0 0 (Ls (own_n C)) []) : own_Met y yb yml yret rm args M vr M1 := by
  intro l Z a0 n0 h0 ws hw RR
  refine MetFree.of_bodySF hpl hisR ?_
  intro p e s m args' below meth c s₁ Bd hml0 hP hK
  obtain ⟨rfl, hZ, hh⟩ := hP
  have X0 : Stand p l e rm s m (args.map (own_up n0)).toArray below meth c s₁ [] 0 0 := Stand.of_body Bd
  have e0 : s₁.heap = h0 := by rw [← hh, Bd.state]; rfl
  obtain ⟨U, o, g1, g2, g3, g4⟩ := hW (p, l, e, rm, s, m, (args.map (own_up n0)).toArray, below, meth, c, Z, a0, n0) ⟨Bd.exec, Bd.bytes, hml0, hZ, findClass_of_methodNamed Bd.named, hw, Bd.returns, (name_of_methodNamed Bd.named Bd.method).1, Bd.notSynchronized, rfl⟩ s₁ ⟨[], X0, Fr.nil n0, by rw [e0]; exact RR, Nat.zero_le _, Nat.zero_le _⟩
  exact ⟨U, o, castTop (hef m n0) g1, g2, g3, g4⟩
theorem own_lc0 : Int64.ofNat (0 : Fin 2) = (0 : Int64) := rfl
theorem own_lc1 : Int64.ofNat (1 : Fin 2) = (1 : Int64) := rfl
theorem own_bi127 : (Int8.ofInt (127)).toInt32 = (127 : Int32) := by decide
theorem own_bi6 : (Int8.ofInt (6)).toInt32 = (6 : Int32) := by decide
theorem own_bi63 : (Int8.ofInt (63)).toInt32 = (63 : Int32) := by decide
theorem own_bi64 : (Int8.ofInt (64)).toInt32 = (64 : Int32) := by decide
theorem own_ic0 : Int32.ofInt (0) = (0 : Int32) := by decide
theorem own_ic1 : Int32.ofInt (1) = (1 : Int32) := by decide
theorem own_ic2 : Int32.ofInt (2) = (2 : Int32) := by decide
theorem own_pn0 : plainName "com/example/tablewise/tablewise/estr2/Pwsup" = true := by first | (simp [plainName, overriddenIn]; done) | decide +kernel
theorem own_pn1 : plainName "com/example/tablewise/tablewise/estr2/PwsupAddPinLaw" = true := by first | (simp [plainName, overriddenIn]; done) | decide +kernel
theorem own_pd0 : parseMethodDescriptor "(J)J" = some ⟨[.long], some .long⟩ := by decide +kernel
theorem own_pd1 : parseMethodDescriptor "(I)V" = some ⟨[.int], none⟩ := by decide +kernel
theorem own_pd2 : parseMethodDescriptor "([JIII)J" = some ⟨[(.array .long), .int, .int, .int], some .long⟩ := by decide +kernel
theorem own_pd3 : parseMethodDescriptor "(II)J" = some ⟨[.int, .int], some .long⟩ := by decide +kernel
theorem own_pd4 : parseMethodDescriptor "()V" = some ⟨[], none⟩ := by decide +kernel
theorem own_pd5 : parseMethodDescriptor "()[J" = some ⟨[], some (.array .long)⟩ := by decide +kernel
theorem own_pd6 : parseMethodDescriptor "(I)I" = some ⟨[.int], some .int⟩ := by decide +kernel
theorem own_pd7 : parseMethodDescriptor "(II)V" = some ⟨[.int, .int], none⟩ := by decide +kernel
theorem own_pd8 : parseMethodDescriptor "([I)V" = some ⟨[(.array .int)], none⟩ := by decide +kernel
theorem m3_d0 : decode prog_28_method_10_code 0 = .ok (.lload_n 0, 1) := by decide +kernel
theorem m3_d1 : decode prog_28_method_10_code 1 = .ok (.ldc2_w 32, 3) := by decide +kernel
theorem m3_d4 : decode prog_28_method_10_code 4 = .ok (.ladd, 1) := by decide +kernel
theorem m3_d5 : decode prog_28_method_10_code 5 = .ok (.lconst 1, 1) := by decide +kernel
theorem m3_d6 : decode prog_28_method_10_code 6 = .ok (.lsub, 1) := by decide +kernel
theorem m3_d7 : decode prog_28_method_10_code 7 = .ok (.ldc2_w 32, 3) := by decide +kernel
theorem m3_d10 : decode prog_28_method_10_code 10 = .ok (.ldiv, 1) := by decide +kernel
theorem m3_d11 : decode prog_28_method_10_code 11 = .ok (.lreturn, 1) := by decide +kernel
def m3_rm : Room := { frames := 0, cells := 0, slots := 0, locals := 0 }
set_option maxRecDepth 65536 in
def m3 (j0 : Int64) (M : own_Mem) : Option (Int64 × own_Mem) := own_nz ((64 : Int64) = 0) <| some ((((j0 + (64 : Int64)) - (1 : Int64)) / (64 : Int64)), M)
set_option maxRecDepth 65536 in
set_option maxHeartbeats 4000000 in
theorem m3_w {C : own_Ctx} (K : own_K C prog_28_method_10_code 2 "com/example/tablewise/tablewise/estr2/Pwsup" (some .long) "wordCount" m3_rm) {j0 : Int64} {M : own_Mem} {r : Int64 × own_Mem} (h : m3 j0 M = some r) : own_W C (some (.long r.1)) r.2 M 0 0 0 [.val (.long j0), .second] [] := by
  unfold m3 at h
  refine own_lloadN K m3_d0 rfl rfl ?_
  refine own_ldc2 K m3_d1 own_w16 rfl ?_
  refine own_ladd K m3_d4 rfl ?_
  refine own_lconst K m3_d5 own_lc1 rfl ?_
  refine own_lsub K m3_d6 rfl ?_
  refine own_ldc2 K m3_d7 own_w16 rfl ?_
  refine own_ldiv K m3_d10 h rfl (fun h => ?_)
  exact own_retJ K m3_d11 h
set_option maxRecDepth 65536 in
set_option maxHeartbeats 4000000 in
theorem m3_met {j0 : Int64} {M : own_Mem} {q : Int64 × own_Mem} (h : m3 j0 M = some q) : own_Met ⟨"com/example/tablewise/tablewise/estr2/Pwsup", "wordCount", "(J)J"⟩ prog_28_method_10_code 2 (some .long) m3_rm [.long j0] M (some (.long q.1)) q.2 :=
  own_met (Ls := fun n0 => [.val (.long j0), .second]) (plainFor_of_name own_pn0) (fun m n0 => by first | (simp [entryFrame, mkF, argsToLocals, Value.category, own_up]; done) | rfl) fun C K => m3_w K h
theorem m1_d0 : decode prog_28_method_1_code 0 = .ok (.aload_n 0, 1) := by decide +kernel
theorem m1_d1 : decode prog_28_method_1_code 1 = .ok (.invokespecial 1, 3) := by decide +kernel
theorem m1_d4 : decode prog_28_method_1_code 4 = .ok (.aload_n 1, 1) := by decide +kernel
theorem m1_d5 : decode prog_28_method_1_code 5 = .ok (.arraylength, 1) := by decide +kernel
theorem m1_d6 : decode prog_28_method_1_code 6 = .ok (.istore_n 2, 1) := by decide +kernel
theorem m1_d7 : decode prog_28_method_1_code 7 = .ok (.aload_n 0, 1) := by decide +kernel
theorem m1_d8 : decode prog_28_method_1_code 8 = .ok (.iload_n 2, 1) := by decide +kernel
theorem m1_d9 : decode prog_28_method_1_code 9 = .ok (.iconst 1, 1) := by decide +kernel
theorem m1_d10 : decode prog_28_method_1_code 10 = .ok (.iadd, 1) := by decide +kernel
theorem m1_d11 : decode prog_28_method_1_code 11 = .ok (.newarray .int, 2) := by decide +kernel
theorem m1_d13 : decode prog_28_method_1_code 13 = .ok (.putfield 7, 3) := by decide +kernel
theorem m1_d16 : decode prog_28_method_1_code 16 = .ok (.iconst 0, 1) := by decide +kernel
theorem m1_d17 : decode prog_28_method_1_code 17 = .ok (.istore_n 3, 1) := by decide +kernel
theorem m1_d18 : decode prog_28_method_1_code 18 = .ok (.iload_n 3, 1) := by decide +kernel
theorem m1_d19 : decode prog_28_method_1_code 19 = .ok (.iload_n 2, 1) := by decide +kernel
theorem m1_d20 : decode prog_28_method_1_code 20 = .ok (.if_icmp .ge 32, 3) := by decide +kernel
theorem m1_d23 : decode prog_28_method_1_code 23 = .ok (.aload_n 0, 1) := by decide +kernel
theorem m1_d24 : decode prog_28_method_1_code 24 = .ok (.getfield 7, 3) := by decide +kernel
theorem m1_d27 : decode prog_28_method_1_code 27 = .ok (.iload_n 3, 1) := by decide +kernel
theorem m1_d28 : decode prog_28_method_1_code 28 = .ok (.iconst 1, 1) := by decide +kernel
theorem m1_d29 : decode prog_28_method_1_code 29 = .ok (.iadd, 1) := by decide +kernel
theorem m1_d30 : decode prog_28_method_1_code 30 = .ok (.aload_n 0, 1) := by decide +kernel
theorem m1_d31 : decode prog_28_method_1_code 31 = .ok (.getfield 7, 3) := by decide +kernel
theorem m1_d34 : decode prog_28_method_1_code 34 = .ok (.iload_n 3, 1) := by decide +kernel
theorem m1_d35 : decode prog_28_method_1_code 35 = .ok (.iaload, 1) := by decide +kernel
theorem m1_d36 : decode prog_28_method_1_code 36 = .ok (.aload_n 1, 1) := by decide +kernel
theorem m1_d37 : decode prog_28_method_1_code 37 = .ok (.iload_n 3, 1) := by decide +kernel
theorem m1_d38 : decode prog_28_method_1_code 38 = .ok (.iaload, 1) := by decide +kernel
theorem m1_d39 : decode prog_28_method_1_code 39 = .ok (.i2l, 1) := by decide +kernel
theorem m1_d40 : decode prog_28_method_1_code 40 = .ok (.invokestatic 13, 3) := by decide +kernel
theorem m1_d43 : decode prog_28_method_1_code 43 = .ok (.l2i, 1) := by decide +kernel
theorem m1_d44 : decode prog_28_method_1_code 44 = .ok (.iadd, 1) := by decide +kernel
theorem m1_d45 : decode prog_28_method_1_code 45 = .ok (.iastore, 1) := by decide +kernel
theorem m1_d46 : decode prog_28_method_1_code 46 = .ok (.iinc 3 1, 3) := by decide +kernel
theorem m1_d49 : decode prog_28_method_1_code 49 = .ok (.goto (-31), 3) := by decide +kernel
theorem m1_d52 : decode prog_28_method_1_code 52 = .ok (.aload_n 0, 1) := by decide +kernel
theorem m1_d53 : decode prog_28_method_1_code 53 = .ok (.aload_n 0, 1) := by decide +kernel
theorem m1_d54 : decode prog_28_method_1_code 54 = .ok (.getfield 7, 3) := by decide +kernel
theorem m1_d57 : decode prog_28_method_1_code 57 = .ok (.iload_n 2, 1) := by decide +kernel
theorem m1_d58 : decode prog_28_method_1_code 58 = .ok (.iaload, 1) := by decide +kernel
theorem m1_d59 : decode prog_28_method_1_code 59 = .ok (.newarray .long, 2) := by decide +kernel
theorem m1_d61 : decode prog_28_method_1_code 61 = .ok (.putfield 17, 3) := by decide +kernel
theorem m1_d64 : decode prog_28_method_1_code 64 = .ok (.iconst 0, 1) := by decide +kernel
theorem m1_d65 : decode prog_28_method_1_code 65 = .ok (.istore_n 3, 1) := by decide +kernel
theorem m1_d66 : decode prog_28_method_1_code 66 = .ok (.iload_n 3, 1) := by decide +kernel
theorem m1_d67 : decode prog_28_method_1_code 67 = .ok (.iload_n 2, 1) := by decide +kernel
theorem m1_d68 : decode prog_28_method_1_code 68 = .ok (.if_icmp .ge 50, 3) := by decide +kernel
theorem m1_d71 : decode prog_28_method_1_code 71 = .ok (.iconst 0, 1) := by decide +kernel
theorem m1_d72 : decode prog_28_method_1_code 72 = .ok (.istore 4, 2) := by decide +kernel
theorem m1_d74 : decode prog_28_method_1_code 74 = .ok (.iload 4, 2) := by decide +kernel
theorem m1_d76 : decode prog_28_method_1_code 76 = .ok (.aload_n 1, 1) := by decide +kernel
theorem m1_d77 : decode prog_28_method_1_code 77 = .ok (.iload_n 3, 1) := by decide +kernel
theorem m1_d78 : decode prog_28_method_1_code 78 = .ok (.iaload, 1) := by decide +kernel
theorem m1_d79 : decode prog_28_method_1_code 79 = .ok (.if_icmp .ge 33, 3) := by decide +kernel
theorem m1_d82 : decode prog_28_method_1_code 82 = .ok (.aload_n 0, 1) := by decide +kernel
theorem m1_d83 : decode prog_28_method_1_code 83 = .ok (.getfield 17, 3) := by decide +kernel
theorem m1_d86 : decode prog_28_method_1_code 86 = .ok (.aload_n 0, 1) := by decide +kernel
theorem m1_d87 : decode prog_28_method_1_code 87 = .ok (.getfield 7, 3) := by decide +kernel
theorem m1_d90 : decode prog_28_method_1_code 90 = .ok (.iload_n 3, 1) := by decide +kernel
theorem m1_d91 : decode prog_28_method_1_code 91 = .ok (.iaload, 1) := by decide +kernel
theorem m1_d92 : decode prog_28_method_1_code 92 = .ok (.iload 4, 2) := by decide +kernel
theorem m1_d94 : decode prog_28_method_1_code 94 = .ok (.bipush 64, 2) := by decide +kernel
theorem m1_d96 : decode prog_28_method_1_code 96 = .ok (.idiv, 1) := by decide +kernel
theorem m1_d97 : decode prog_28_method_1_code 97 = .ok (.iadd, 1) := by decide +kernel
theorem m1_d98 : decode prog_28_method_1_code 98 = .ok (.dup2, 1) := by decide +kernel
theorem m1_d99 : decode prog_28_method_1_code 99 = .ok (.laload, 1) := by decide +kernel
theorem m1_d100 : decode prog_28_method_1_code 100 = .ok (.lconst 1, 1) := by decide +kernel
theorem m1_d101 : decode prog_28_method_1_code 101 = .ok (.iload 4, 2) := by decide +kernel
theorem m1_d103 : decode prog_28_method_1_code 103 = .ok (.lshl, 1) := by decide +kernel
theorem m1_d104 : decode prog_28_method_1_code 104 = .ok (.lor, 1) := by decide +kernel
theorem m1_d105 : decode prog_28_method_1_code 105 = .ok (.lastore, 1) := by decide +kernel
theorem m1_d106 : decode prog_28_method_1_code 106 = .ok (.iinc 4 1, 3) := by decide +kernel
theorem m1_d109 : decode prog_28_method_1_code 109 = .ok (.goto (-35), 3) := by decide +kernel
theorem m1_d112 : decode prog_28_method_1_code 112 = .ok (.iinc 3 1, 3) := by decide +kernel
theorem m1_d115 : decode prog_28_method_1_code 115 = .ok (.goto (-49), 3) := by decide +kernel
theorem m1_d118 : decode prog_28_method_1_code 118 = .ok (.aload_n 0, 1) := by decide +kernel
theorem m1_d119 : decode prog_28_method_1_code 119 = .ok (.iload_n 2, 1) := by decide +kernel
theorem m1_d120 : decode prog_28_method_1_code 120 = .ok (.newarray .int, 2) := by decide +kernel
theorem m1_d122 : decode prog_28_method_1_code 122 = .ok (.putfield 23, 3) := by decide +kernel
theorem m1_d125 : decode prog_28_method_1_code 125 = .ok (.aload_n 0, 1) := by decide +kernel
theorem m1_d126 : decode prog_28_method_1_code 126 = .ok (.iload_n 2, 1) := by decide +kernel
theorem m1_d127 : decode prog_28_method_1_code 127 = .ok (.newarray .boolean, 2) := by decide +kernel
theorem m1_d129 : decode prog_28_method_1_code 129 = .ok (.putfield 26, 3) := by decide +kernel
theorem m1_d132 : decode prog_28_method_1_code 132 = .ok (.return_, 1) := by decide +kernel
def m1_rm : Room := { frames := 1, cells := 4, slots := 11, locals := 16 }
set_option maxRecDepth 65536 in
def m1_c18 (rec : Nat → Nat → Nat → Int32 → Int32 → Int32 → own_Mem → Option (Unit × own_Mem)) (a0 : Nat) (a1 : Nat) (i2 : Int32) (i3 : Int32) (M : own_Mem) : Option (Unit × own_Mem) := if i3 < i2 then ((own_getR 0 0 M a0).bind fun x5 => (own_getR 0 0 M a0).bind fun x6 => (own_ldI 100 M x6 i3).bind fun x7 => (own_ldI 100 M a1 i3).bind fun x8 => (m3 x8.toInt64 M).bind fun q9 => (own_sto 100 q9.2 x5 (i3 + (1 : Int32)) (.int (x7 + q9.1.toInt32))).bind fun M10 => rec 18 a0 a1 i2 (i3 + (1 : Int32)) 0 M10) else ((own_getR 0 0 M a0).bind fun x1 => (own_ldI 100 M x1 i2).bind fun x2 => (own_newA 101 4 (.long 0) M x2).bind fun q3 => (own_put 0 1 q3.2 a0 (.ref q3.1)).bind fun M4 => rec 66 a0 a1 i2 (0 : Int32) 0 M4)
set_option maxRecDepth 65536 in
def m1_c66 (rec : Nat → Nat → Nat → Int32 → Int32 → Int32 → own_Mem → Option (Unit × own_Mem)) (a0 : Nat) (a1 : Nat) (i2 : Int32) (i3 : Int32) (M : own_Mem) : Option (Unit × own_Mem) := if i3 < i2 then (rec 74 a0 a1 i2 i3 (0 : Int32) M) else ((own_newA 100 2 (.int 0) M i2).bind fun q11 => (own_put 0 2 q11.2 a0 (.ref q11.1)).bind fun M12 => (own_newA 103 2 (.int 0) M12 i2).bind fun q13 => (own_put 0 3 q13.2 a0 (.ref q13.1)).bind fun M14 => some ((), M14))
set_option maxRecDepth 65536 in
def m1_c74 (rec : Nat → Nat → Nat → Int32 → Int32 → Int32 → own_Mem → Option (Unit × own_Mem)) (a0 : Nat) (a1 : Nat) (i2 : Int32) (i3 : Int32) (i4 : Int32) (M : own_Mem) : Option (Unit × own_Mem) := (own_ldI 100 M a1 i3).bind fun x15 => if i4 < x15 then ((own_getR 0 1 M a0).bind fun x16 => (own_getR 0 0 M a0).bind fun x17 => (own_ldI 100 M x17 i3).bind fun x18 => own_nz ((64 : Int32) = 0) <| (own_ldJ 101 M x16 (x18 + (i4 / (64 : Int32)))).bind fun x19 => (own_sto 101 M x16 (x18 + (i4 / (64 : Int32))) (.long (x19 ||| ((1 : Int64) <<< (i4 &&& 0x3f).toInt64)))).bind fun M20 => rec 74 a0 a1 i2 i3 (i4 + (1 : Int32)) M20) else (rec 66 a0 a1 i2 (i3 + (1 : Int32)) 0 M)
def m1_L : Nat → Nat → Nat → Nat → Int32 → Int32 → Int32 → own_Mem → Option (Unit × own_Mem)
  | 0 => fun _ _ _ _ _ _ _ => none
  | n + 1 => fun pc a0 a1 i2 i3 i4 M => if pc = 18 then m1_c18 (m1_L n) a0 a1 i2 i3 M else if pc = 66 then m1_c66 (m1_L n) a0 a1 i2 i3 M else if pc = 74 then m1_c74 (m1_L n) a0 a1 i2 i3 i4 M else none
def m1_P18 (C : own_Ctx) (n : Nat) : Prop := ∀ (a0 : Nat) (a1 : Nat) (i2 : Int32) (i3 : Int32) (M : own_Mem) (r : Unit × own_Mem), m1_L n 18 a0 a1 i2 i3 0 M = some r → own_W C none r.2 M 1 3 18 [.val (.ref (own_n C + a0)), .val (.ref (own_n C + a1)), .val (.int i2), .val (.int i3), .unset] []
def m1_P66 (C : own_Ctx) (n : Nat) : Prop := ∀ (a0 : Nat) (a1 : Nat) (i2 : Int32) (i3 : Int32) (z4 : Slot) (o4 : own_One z4) (M : own_Mem) (r : Unit × own_Mem), m1_L n 66 a0 a1 i2 i3 0 M = some r → own_W C none r.2 M 2 7 66 [.val (.ref (own_n C + a0)), .val (.ref (own_n C + a1)), .val (.int i2), .val (.int i3), z4] []
def m1_P74 (C : own_Ctx) (n : Nat) : Prop := ∀ (a0 : Nat) (a1 : Nat) (i2 : Int32) (i3 : Int32) (i4 : Int32) (M : own_Mem) (r : Unit × own_Mem), m1_L n 74 a0 a1 i2 i3 i4 M = some r → own_W C none r.2 M 2 7 74 [.val (.ref (own_n C + a0)), .val (.ref (own_n C + a1)), .val (.int i2), .val (.int i3), .val (.int i4)] []
def m1_IH (C : own_Ctx) (n : Nat) : Prop := m1_P18 C n ∧ m1_P66 C n ∧ m1_P74 C n
set_option maxRecDepth 65536 in
set_option maxHeartbeats 4000000 in
theorem m1_w18 {C : own_Ctx} (K : own_K C prog_28_method_1_code 5 "com/example/tablewise/tablewise/estr2/Pwsup" none "<init>" m1_rm) {n : Nat} {a0 : Nat} {a1 : Nat} {i2 : Int32} {i3 : Int32} (ih : m1_IH C n) {M : own_Mem} {r : Unit × own_Mem} (h : m1_c18 (m1_L n) a0 a1 i2 i3 M = some r) : own_W C none r.2 M 1 3 18 [.val (.ref (own_n C + a0)), .val (.ref (own_n C + a1)), .val (.int i2), .val (.int i3), .unset] [] := by
  unfold m1_c18 at h
  refine own_iloadN K m1_d18 rfl rfl ?_
  refine own_iloadN K m1_d19 rfl rfl ?_
  refine own_ige K m1_d20 h (pc1 := 52) (pc2 := 23) (by decide) rfl (fun h => ?_) (fun h => ?_)
  · refine own_aloadN K m1_d52 rfl rfl ?_
    refine own_aloadN K m1_d53 rfl rfl ?_
    refine own_gfR K m1_d54 own_w11 (own_cl0) (i := 0) rfl h rfl (fun x1 h => ?_)
    refine own_iloadN K m1_d57 rfl rfl ?_
    refine own_iaload K m1_d58 h rfl (fun x2 h => ?_)
    refine own_na K m1_d59 own_w17 rfl rfl h (by decide) (cs1 := 2) (ss1 := 7) rfl rfl (by decide) (by decide) rfl (fun q3 h => ?_)
    refine own_pf K m1_d61 own_w18 (own_cl0) (i := 1) rfl (Or.inr ⟨own_w19, rfl, rfl⟩) own_w3 (ty := (.array .long)) own_fd0_1 (w0 := (.ref q3.1)) rfl rfl h rfl (fun M4 h => ?_)
    refine own_iconst K m1_d64 own_ic0 rfl ?_
    refine own_istoreN K m1_d65 (Ls' := [.val (.ref (own_n C + a0)), .val (.ref (own_n C + a1)), .val (.int i2), .val (.int (0 : Int32)), .unset]) rfl rfl ?_
    exact ih.2.1 _ _ _ _ _ own_one_u _ _ h
  · refine own_aloadN K m1_d23 rfl rfl ?_
    refine own_gfR K m1_d24 own_w11 (own_cl0) (i := 0) rfl h rfl (fun x5 h => ?_)
    refine own_iloadN K m1_d27 rfl rfl ?_
    refine own_iconst K m1_d28 own_ic1 rfl ?_
    refine own_iadd K m1_d29 rfl ?_
    refine own_aloadN K m1_d30 rfl rfl ?_
    refine own_gfR K m1_d31 own_w11 (own_cl0) (i := 0) rfl h rfl (fun x6 h => ?_)
    refine own_iloadN K m1_d34 rfl rfl ?_
    refine own_iaload K m1_d35 h rfl (fun x7 h => ?_)
    refine own_aloadN K m1_d36 rfl rfl ?_
    refine own_iloadN K m1_d37 rfl rfl ?_
    refine own_iaload K m1_d38 h rfl (fun x8 h => ?_)
    refine own_i2l K m1_d39 rfl ?_
    refine own_bk h (fun q9 hq9 h => ?_)
    refine own_callS K m1_d40 own_w13 own_w14 own_w4 own_w15 (argsL := [.long x8.toInt64]) (st := [.int x7, .int (i3 + (1 : Int32)), .ref (own_n C + x5)]) (by decide) (lenOf own_pd0 rfl) rfl (W := 3) (Nat.le_of_eq rfl) (by decide) (by decide) (cs1 := 1) (ss1 := 3) rfl rfl (by decide) (by decide) rfl rfl (m3_met hq9) (st1 := [.long q9.1, .int x7, .int (i3 + (1 : Int32)), .ref (own_n C + x5)]) rfl ?_
    refine own_l2i K m1_d43 rfl ?_
    refine own_iadd K m1_d44 rfl ?_
    refine own_iastore K m1_d45 h rfl (fun M10 h => ?_)
    refine own_iinc K m1_d46 own_ic1 rfl (Ls' := [.val (.ref (own_n C + a0)), .val (.ref (own_n C + a1)), .val (.int i2), .val (.int (i3 + (1 : Int32))), .unset]) rfl rfl ?_
    refine own_goto K m1_d49 (pc' := 18) (by decide) ?_
    exact ih.1 _ _ _ _ _ _ h
set_option maxRecDepth 65536 in
set_option maxHeartbeats 4000000 in
theorem m1_w66 {C : own_Ctx} (K : own_K C prog_28_method_1_code 5 "com/example/tablewise/tablewise/estr2/Pwsup" none "<init>" m1_rm) {n : Nat} {a0 : Nat} {a1 : Nat} {i2 : Int32} {i3 : Int32} {z4 : Slot} (ih : m1_IH C n) (o4 : own_One z4) {M : own_Mem} {r : Unit × own_Mem} (h : m1_c66 (m1_L n) a0 a1 i2 i3 M = some r) : own_W C none r.2 M 2 7 66 [.val (.ref (own_n C + a0)), .val (.ref (own_n C + a1)), .val (.int i2), .val (.int i3), z4] [] := by
  unfold m1_c66 at h
  refine own_iloadN K m1_d66 rfl rfl ?_
  refine own_iloadN K m1_d67 rfl rfl ?_
  refine own_ige K m1_d68 h (pc1 := 118) (pc2 := 71) (by decide) rfl (fun h => ?_) (fun h => ?_)
  · refine own_aloadN K m1_d118 rfl rfl ?_
    refine own_iloadN K m1_d119 rfl rfl ?_
    refine own_na K m1_d120 own_w1 rfl rfl h (by decide) (cs1 := 3) (ss1 := 9) rfl rfl (by decide) (by decide) rfl (fun q11 h => ?_)
    refine own_pf K m1_d122 own_w20 (own_cl0) (i := 2) rfl (Or.inr ⟨own_w21, rfl, rfl⟩) own_w3 (ty := (.array .int)) own_fd0_2 (w0 := (.ref q11.1)) rfl rfl h rfl (fun M12 h => ?_)
    refine own_aloadN K m1_d125 rfl rfl ?_
    refine own_iloadN K m1_d126 rfl rfl ?_
    refine own_na K m1_d127 own_w22 rfl rfl h (by decide) (cs1 := 4) (ss1 := 11) rfl rfl (by decide) (by decide) rfl (fun q13 h => ?_)
    refine own_pf K m1_d129 own_w23 (own_cl0) (i := 3) rfl (Or.inr ⟨own_w24, rfl, rfl⟩) own_w3 (ty := (.array .boolean)) own_fd0_3 (w0 := (.ref q13.1)) rfl rfl h rfl (fun M14 h => ?_)
    exact own_retV K m1_d132 h
  · refine own_iconst K m1_d71 own_ic0 rfl ?_
    refine own_istore K m1_d72 (Ls' := [.val (.ref (own_n C + a0)), .val (.ref (own_n C + a1)), .val (.int i2), .val (.int i3), .val (.int (0 : Int32))]) (own_sto1 rfl o4 rfl rfl) rfl ?_
    exact ih.2.2 _ _ _ _ _ _ _ h
set_option maxRecDepth 65536 in
set_option maxHeartbeats 4000000 in
theorem m1_w74 {C : own_Ctx} (K : own_K C prog_28_method_1_code 5 "com/example/tablewise/tablewise/estr2/Pwsup" none "<init>" m1_rm) {n : Nat} {a0 : Nat} {a1 : Nat} {i2 : Int32} {i3 : Int32} {i4 : Int32} (ih : m1_IH C n) {M : own_Mem} {r : Unit × own_Mem} (h : m1_c74 (m1_L n) a0 a1 i2 i3 i4 M = some r) : own_W C none r.2 M 2 7 74 [.val (.ref (own_n C + a0)), .val (.ref (own_n C + a1)), .val (.int i2), .val (.int i3), .val (.int i4)] [] := by
  unfold m1_c74 at h
  refine own_iload K m1_d74 rfl rfl ?_
  refine own_aloadN K m1_d76 rfl rfl ?_
  refine own_iloadN K m1_d77 rfl rfl ?_
  refine own_iaload K m1_d78 h rfl (fun x15 h => ?_)
  refine own_ige K m1_d79 h (pc1 := 112) (pc2 := 82) (by decide) rfl (fun h => ?_) (fun h => ?_)
  · refine own_iinc K m1_d112 own_ic1 rfl (Ls' := [.val (.ref (own_n C + a0)), .val (.ref (own_n C + a1)), .val (.int i2), .val (.int (i3 + (1 : Int32))), .val (.int i4)]) rfl rfl ?_
    refine own_goto K m1_d115 (pc' := 66) (by decide) ?_
    exact ih.2.1 _ _ _ _ _ own_one_i _ _ h
  · refine own_aloadN K m1_d82 rfl rfl ?_
    refine own_gfR K m1_d83 own_w18 (own_cl0) (i := 1) rfl h rfl (fun x16 h => ?_)
    refine own_aloadN K m1_d86 rfl rfl ?_
    refine own_gfR K m1_d87 own_w11 (own_cl0) (i := 0) rfl h rfl (fun x17 h => ?_)
    refine own_iloadN K m1_d90 rfl rfl ?_
    refine own_iaload K m1_d91 h rfl (fun x18 h => ?_)
    refine own_iload K m1_d92 rfl rfl ?_
    refine own_bipush K m1_d94 own_bi64 rfl ?_
    refine own_idiv K m1_d96 h rfl (fun h => ?_)
    refine own_iadd K m1_d97 rfl ?_
    refine own_dup2 K m1_d98 rfl rfl rfl ?_
    refine own_laload K m1_d99 h rfl (fun x19 h => ?_)
    refine own_lconst K m1_d100 own_lc1 rfl ?_
    refine own_iload K m1_d101 rfl rfl ?_
    refine own_lshl K m1_d103 rfl ?_
    refine own_lor K m1_d104 rfl ?_
    refine own_lastore K m1_d105 h rfl (fun M20 h => ?_)
    refine own_iinc K m1_d106 own_ic1 rfl (Ls' := [.val (.ref (own_n C + a0)), .val (.ref (own_n C + a1)), .val (.int i2), .val (.int i3), .val (.int (i4 + (1 : Int32)))]) rfl rfl ?_
    refine own_goto K m1_d109 (pc' := 74) (by decide) ?_
    exact ih.2.2 _ _ _ _ _ _ _ h
set_option maxRecDepth 65536 in
set_option maxHeartbeats 4000000 in
theorem m1_all {C : own_Ctx} (K : own_K C prog_28_method_1_code 5 "com/example/tablewise/tablewise/estr2/Pwsup" none "<init>" m1_rm) : ∀ n, m1_IH C n
  | 0 => ⟨fun _ _ _ _ _ _ => fun h => (nomatch h), fun _ _ _ _ _ _ _ _ => fun h => (nomatch h), fun _ _ _ _ _ _ _ => fun h => (nomatch h)⟩
  | n + 1 => have ih := m1_all K n; ⟨fun _ _ _ _ _ _ => fun h => m1_w18 K ih  h, fun _ _ _ _ _ o4 _ _ => fun h => m1_w66 K ih o4 h, fun _ _ _ _ _ _ _ => fun h => m1_w74 K ih  h⟩
set_option maxRecDepth 65536 in
def m1 (a0 : Nat) (a1 : Nat) (M : own_Mem) : Option (Unit × own_Mem) := (own_len 100 M a1).bind fun x21 => (own_newA 100 3 (.int 0) M (x21 + (1 : Int32))).bind fun q22 => (own_put 0 0 q22.2 a0 (.ref q22.1)).bind fun M23 => m1_L 400 18 a0 a1 x21 (0 : Int32) 0 M23
set_option maxRecDepth 65536 in
set_option maxHeartbeats 4000000 in
theorem m1_w {C : own_Ctx} (K : own_K C prog_28_method_1_code 5 "com/example/tablewise/tablewise/estr2/Pwsup" none "<init>" m1_rm) {a0 : Nat} {a1 : Nat} {M : own_Mem} {r : Unit × own_Mem} (h : m1 a0 a1 M = some r) : own_W C none r.2 M 0 0 0 [.val (.ref (own_n C + a0)), .val (.ref (own_n C + a1)), .unset, .unset, .unset] [] := by
  have ih := m1_all K 400
  unfold m1 at h
  refine own_aloadN K m1_d0 rfl rfl ?_
  refine own_initO K m1_d1 own_w8 own_w9 own_w10 (W := 0) (Nat.le_of_eq rfl) (by decide) (by decide) rfl rfl ?_
  refine own_aloadN K m1_d4 rfl rfl ?_
  refine own_alen K m1_d5 (t := 100) rfl h rfl (fun x21 h => ?_)
  refine own_istoreN K m1_d6 (Ls' := [.val (.ref (own_n C + a0)), .val (.ref (own_n C + a1)), .val (.int x21), .unset, .unset]) rfl rfl ?_
  refine own_aloadN K m1_d7 rfl rfl ?_
  refine own_iloadN K m1_d8 rfl rfl ?_
  refine own_iconst K m1_d9 own_ic1 rfl ?_
  refine own_iadd K m1_d10 rfl ?_
  refine own_na K m1_d11 own_w1 rfl rfl h (by decide) (cs1 := 1) (ss1 := 3) rfl rfl (by decide) (by decide) rfl (fun q22 h => ?_)
  refine own_pf K m1_d13 own_w11 (own_cl0) (i := 0) rfl (Or.inr ⟨own_w12, rfl, rfl⟩) own_w3 (ty := (.array .int)) own_fd0_0 (w0 := (.ref q22.1)) rfl rfl h rfl (fun M23 h => ?_)
  refine own_iconst K m1_d16 own_ic0 rfl ?_
  refine own_istoreN K m1_d17 (Ls' := [.val (.ref (own_n C + a0)), .val (.ref (own_n C + a1)), .val (.int x21), .val (.int (0 : Int32)), .unset]) rfl rfl ?_
  exact ih.1 _ _ _ _ _ _ h
set_option maxRecDepth 65536 in
set_option maxHeartbeats 4000000 in
theorem m1_met {a0 : Nat} {a1 : Nat} {M : own_Mem} {q : Unit × own_Mem} (h : m1 a0 a1 M = some q) : own_Met ⟨"com/example/tablewise/tablewise/estr2/Pwsup", "<init>", "([I)V"⟩ prog_28_method_1_code 5 none m1_rm [.ref a0, .ref a1] M none q.2 :=
  own_met (Ls := fun n0 => [.val (.ref (n0 + a0)), .val (.ref (n0 + a1)), .unset, .unset, .unset]) (plainFor_of_name own_pn0) (fun m n0 => by first | (simp [entryFrame, mkF, argsToLocals, Value.category, own_up]; done) | rfl) fun C K => m1_w K h
theorem m4_d0 : decode prog_28_method_8_code 0 = .ok (.aload_n 0, 1) := by decide +kernel
theorem m4_d1 : decode prog_28_method_8_code 1 = .ok (.getfield 7, 3) := by decide +kernel
theorem m4_d4 : decode prog_28_method_8_code 4 = .ok (.iload_n 1, 1) := by decide +kernel
theorem m4_d5 : decode prog_28_method_8_code 5 = .ok (.iaload, 1) := by decide +kernel
theorem m4_d6 : decode prog_28_method_8_code 6 = .ok (.istore_n 2, 1) := by decide +kernel
theorem m4_d7 : decode prog_28_method_8_code 7 = .ok (.iload_n 2, 1) := by decide +kernel
theorem m4_d8 : decode prog_28_method_8_code 8 = .ok (.aload_n 0, 1) := by decide +kernel
theorem m4_d9 : decode prog_28_method_8_code 9 = .ok (.getfield 7, 3) := by decide +kernel
theorem m4_d12 : decode prog_28_method_8_code 12 = .ok (.iload_n 1, 1) := by decide +kernel
theorem m4_d13 : decode prog_28_method_8_code 13 = .ok (.iconst 1, 1) := by decide +kernel
theorem m4_d14 : decode prog_28_method_8_code 14 = .ok (.iadd, 1) := by decide +kernel
theorem m4_d15 : decode prog_28_method_8_code 15 = .ok (.iaload, 1) := by decide +kernel
theorem m4_d16 : decode prog_28_method_8_code 16 = .ok (.if_icmp .ge 16, 3) := by decide +kernel
theorem m4_d19 : decode prog_28_method_8_code 19 = .ok (.aload_n 0, 1) := by decide +kernel
theorem m4_d20 : decode prog_28_method_8_code 20 = .ok (.getfield 17, 3) := by decide +kernel
theorem m4_d23 : decode prog_28_method_8_code 23 = .ok (.iload_n 2, 1) := by decide +kernel
theorem m4_d24 : decode prog_28_method_8_code 24 = .ok (.lconst 0, 1) := by decide +kernel
theorem m4_d25 : decode prog_28_method_8_code 25 = .ok (.lastore, 1) := by decide +kernel
theorem m4_d26 : decode prog_28_method_8_code 26 = .ok (.iinc 2 1, 3) := by decide +kernel
theorem m4_d29 : decode prog_28_method_8_code 29 = .ok (.goto (-22), 3) := by decide +kernel
theorem m4_d32 : decode prog_28_method_8_code 32 = .ok (.return_, 1) := by decide +kernel
def m4_rm : Room := { frames := 0, cells := 0, slots := 0, locals := 0 }
set_option maxRecDepth 65536 in
def m4_c7 (rec : Nat → Nat → Int32 → Int32 → own_Mem → Option (Unit × own_Mem)) (a0 : Nat) (i1 : Int32) (i2 : Int32) (M : own_Mem) : Option (Unit × own_Mem) := (own_getR 0 0 M a0).bind fun x1 => (own_ldI 100 M x1 (i1 + (1 : Int32))).bind fun x2 => if i2 < x2 then ((own_getR 0 1 M a0).bind fun x3 => (own_sto 101 M x3 i2 (.long (0 : Int64))).bind fun M4 => rec 7 a0 i1 (i2 + (1 : Int32)) M4) else (some ((), M))
def m4_L : Nat → Nat → Nat → Int32 → Int32 → own_Mem → Option (Unit × own_Mem)
  | 0 => fun _ _ _ _ _ => none
  | n + 1 => fun pc a0 i1 i2 M => if pc = 7 then m4_c7 (m4_L n) a0 i1 i2 M else none
def m4_P7 (C : own_Ctx) (n : Nat) : Prop := ∀ (a0 : Nat) (i1 : Int32) (i2 : Int32) (M : own_Mem) (r : Unit × own_Mem), m4_L n 7 a0 i1 i2 M = some r → own_W C none r.2 M 0 0 7 [.val (.ref (own_n C + a0)), .val (.int i1), .val (.int i2)] []
def m4_IH (C : own_Ctx) (n : Nat) : Prop := m4_P7 C n
set_option maxRecDepth 65536 in
set_option maxHeartbeats 4000000 in
theorem m4_w7 {C : own_Ctx} (K : own_K C prog_28_method_8_code 3 "com/example/tablewise/tablewise/estr2/Pwsup" none "clear" m4_rm) {n : Nat} {a0 : Nat} {i1 : Int32} {i2 : Int32} (ih : m4_IH C n) {M : own_Mem} {r : Unit × own_Mem} (h : m4_c7 (m4_L n) a0 i1 i2 M = some r) : own_W C none r.2 M 0 0 7 [.val (.ref (own_n C + a0)), .val (.int i1), .val (.int i2)] [] := by
  unfold m4_c7 at h
  refine own_iloadN K m4_d7 rfl rfl ?_
  refine own_aloadN K m4_d8 rfl rfl ?_
  refine own_gfR K m4_d9 own_w11 (own_cl0) (i := 0) rfl h rfl (fun x1 h => ?_)
  refine own_iloadN K m4_d12 rfl rfl ?_
  refine own_iconst K m4_d13 own_ic1 rfl ?_
  refine own_iadd K m4_d14 rfl ?_
  refine own_iaload K m4_d15 h rfl (fun x2 h => ?_)
  refine own_ige K m4_d16 h (pc1 := 32) (pc2 := 19) (by decide) rfl (fun h => ?_) (fun h => ?_)
  · exact own_retV K m4_d32 h
  · refine own_aloadN K m4_d19 rfl rfl ?_
    refine own_gfR K m4_d20 own_w18 (own_cl0) (i := 1) rfl h rfl (fun x3 h => ?_)
    refine own_iloadN K m4_d23 rfl rfl ?_
    refine own_lconst K m4_d24 own_lc0 rfl ?_
    refine own_lastore K m4_d25 h rfl (fun M4 h => ?_)
    refine own_iinc K m4_d26 own_ic1 rfl (Ls' := [.val (.ref (own_n C + a0)), .val (.int i1), .val (.int (i2 + (1 : Int32)))]) rfl rfl ?_
    refine own_goto K m4_d29 (pc' := 7) (by decide) ?_
    exact ih _ _ _ _ _ h
set_option maxRecDepth 65536 in
set_option maxHeartbeats 4000000 in
theorem m4_all {C : own_Ctx} (K : own_K C prog_28_method_8_code 3 "com/example/tablewise/tablewise/estr2/Pwsup" none "clear" m4_rm) : ∀ n, m4_IH C n
  | 0 => fun _ _ _ _ _ => fun h => (nomatch h)
  | n + 1 => have ih := m4_all K n; fun _ _ _ _ _ => fun h => m4_w7 K ih  h
set_option maxRecDepth 65536 in
def m4 (a0 : Nat) (i1 : Int32) (M : own_Mem) : Option (Unit × own_Mem) := (own_getR 0 0 M a0).bind fun x5 => (own_ldI 100 M x5 i1).bind fun x6 => m4_L 8 7 a0 i1 x6 M
set_option maxRecDepth 65536 in
set_option maxHeartbeats 4000000 in
theorem m4_w {C : own_Ctx} (K : own_K C prog_28_method_8_code 3 "com/example/tablewise/tablewise/estr2/Pwsup" none "clear" m4_rm) {a0 : Nat} {i1 : Int32} {M : own_Mem} {r : Unit × own_Mem} (h : m4 a0 i1 M = some r) : own_W C none r.2 M 0 0 0 [.val (.ref (own_n C + a0)), .val (.int i1), .unset] [] := by
  have ih := m4_all K 8
  unfold m4 at h
  refine own_aloadN K m4_d0 rfl rfl ?_
  refine own_gfR K m4_d1 own_w11 (own_cl0) (i := 0) rfl h rfl (fun x5 h => ?_)
  refine own_iloadN K m4_d4 rfl rfl ?_
  refine own_iaload K m4_d5 h rfl (fun x6 h => ?_)
  refine own_istoreN K m4_d6 (Ls' := [.val (.ref (own_n C + a0)), .val (.int i1), .val (.int x6)]) rfl rfl ?_
  exact ih _ _ _ _ _ h
set_option maxRecDepth 65536 in
set_option maxHeartbeats 4000000 in
theorem m4_met {a0 : Nat} {i1 : Int32} {M : own_Mem} {q : Unit × own_Mem} (h : m4 a0 i1 M = some q) : own_Met ⟨"com/example/tablewise/tablewise/estr2/Pwsup", "clear", "(I)V"⟩ prog_28_method_8_code 3 none m4_rm [.ref a0, .int i1] M none q.2 :=
  own_met (Ls := fun n0 => [.val (.ref (n0 + a0)), .val (.int i1), .unset]) (plainFor_of_name own_pn0) (fun m n0 => by first | (simp [entryFrame, mkF, argsToLocals, Value.category, own_up]; done) | rfl) fun C K => m4_w K h
theorem m5_d0 : decode prog_28_method_7_code 0 = .ok (.aload_n 0, 1) := by decide +kernel
theorem m5_d1 : decode prog_28_method_7_code 1 = .ok (.getfield 17, 3) := by decide +kernel
theorem m5_d4 : decode prog_28_method_7_code 4 = .ok (.aload_n 0, 1) := by decide +kernel
theorem m5_d5 : decode prog_28_method_7_code 5 = .ok (.getfield 7, 3) := by decide +kernel
theorem m5_d8 : decode prog_28_method_7_code 8 = .ok (.iload_n 1, 1) := by decide +kernel
theorem m5_d9 : decode prog_28_method_7_code 9 = .ok (.iaload, 1) := by decide +kernel
theorem m5_d10 : decode prog_28_method_7_code 10 = .ok (.iload_n 2, 1) := by decide +kernel
theorem m5_d11 : decode prog_28_method_7_code 11 = .ok (.bipush 64, 2) := by decide +kernel
theorem m5_d13 : decode prog_28_method_7_code 13 = .ok (.idiv, 1) := by decide +kernel
theorem m5_d14 : decode prog_28_method_7_code 14 = .ok (.iadd, 1) := by decide +kernel
theorem m5_d15 : decode prog_28_method_7_code 15 = .ok (.dup2, 1) := by decide +kernel
theorem m5_d16 : decode prog_28_method_7_code 16 = .ok (.laload, 1) := by decide +kernel
theorem m5_d17 : decode prog_28_method_7_code 17 = .ok (.lconst 1, 1) := by decide +kernel
theorem m5_d18 : decode prog_28_method_7_code 18 = .ok (.iload_n 2, 1) := by decide +kernel
theorem m5_d19 : decode prog_28_method_7_code 19 = .ok (.lshl, 1) := by decide +kernel
theorem m5_d20 : decode prog_28_method_7_code 20 = .ok (.lor, 1) := by decide +kernel
theorem m5_d21 : decode prog_28_method_7_code 21 = .ok (.lastore, 1) := by decide +kernel
theorem m5_d22 : decode prog_28_method_7_code 22 = .ok (.aload_n 0, 1) := by decide +kernel
theorem m5_d23 : decode prog_28_method_7_code 23 = .ok (.getfield 26, 3) := by decide +kernel
theorem m5_d26 : decode prog_28_method_7_code 26 = .ok (.iload_n 1, 1) := by decide +kernel
theorem m5_d27 : decode prog_28_method_7_code 27 = .ok (.baload, 1) := by decide +kernel
theorem m5_d28 : decode prog_28_method_7_code 28 = .ok (.ifCond .ne 27, 3) := by decide +kernel
theorem m5_d31 : decode prog_28_method_7_code 31 = .ok (.aload_n 0, 1) := by decide +kernel
theorem m5_d32 : decode prog_28_method_7_code 32 = .ok (.getfield 26, 3) := by decide +kernel
theorem m5_d35 : decode prog_28_method_7_code 35 = .ok (.iload_n 1, 1) := by decide +kernel
theorem m5_d36 : decode prog_28_method_7_code 36 = .ok (.iconst 1, 1) := by decide +kernel
theorem m5_d37 : decode prog_28_method_7_code 37 = .ok (.bastore, 1) := by decide +kernel
theorem m5_d38 : decode prog_28_method_7_code 38 = .ok (.aload_n 0, 1) := by decide +kernel
theorem m5_d39 : decode prog_28_method_7_code 39 = .ok (.getfield 23, 3) := by decide +kernel
theorem m5_d42 : decode prog_28_method_7_code 42 = .ok (.aload_n 0, 1) := by decide +kernel
theorem m5_d43 : decode prog_28_method_7_code 43 = .ok (.dup, 1) := by decide +kernel
theorem m5_d44 : decode prog_28_method_7_code 44 = .ok (.getfield 40, 3) := by decide +kernel
theorem m5_d47 : decode prog_28_method_7_code 47 = .ok (.dup_x1, 1) := by decide +kernel
theorem m5_d48 : decode prog_28_method_7_code 48 = .ok (.iconst 1, 1) := by decide +kernel
theorem m5_d49 : decode prog_28_method_7_code 49 = .ok (.iadd, 1) := by decide +kernel
theorem m5_d50 : decode prog_28_method_7_code 50 = .ok (.putfield 40, 3) := by decide +kernel
theorem m5_d53 : decode prog_28_method_7_code 53 = .ok (.iload_n 1, 1) := by decide +kernel
theorem m5_d54 : decode prog_28_method_7_code 54 = .ok (.iastore, 1) := by decide +kernel
theorem m5_d55 : decode prog_28_method_7_code 55 = .ok (.return_, 1) := by decide +kernel
def m5_rm : Room := { frames := 0, cells := 0, slots := 0, locals := 0 }
set_option maxRecDepth 65536 in
def m5_b55  (M : own_Mem) : Option (Unit × own_Mem) := some ((), M)
set_option maxRecDepth 65536 in
set_option maxHeartbeats 4000000 in
theorem m5_w55 {C : own_Ctx} (K : own_K C prog_28_method_7_code 3 "com/example/tablewise/tablewise/estr2/Pwsup" none "add" m5_rm) {z0 : Slot} {z1 : Slot} {z2 : Slot} (o0 : own_One z0) (o1 : own_One z1) (o2 : own_One z2) {M : own_Mem} {r : Unit × own_Mem} (h : m5_b55  M = some r) : own_W C none r.2 M 0 0 55 [z0, z1, z2] [] := by
  unfold m5_b55 at h
  exact own_retV K m5_d55 h
set_option maxRecDepth 65536 in
def m5 (a0 : Nat) (i1 : Int32) (i2 : Int32) (M : own_Mem) : Option (Unit × own_Mem) := (own_getR 0 1 M a0).bind fun x1 => (own_getR 0 0 M a0).bind fun x2 => (own_ldI 100 M x2 i1).bind fun x3 => own_nz ((64 : Int32) = 0) <| (own_ldJ 101 M x1 (x3 + (i2 / (64 : Int32)))).bind fun x4 => (own_sto 101 M x1 (x3 + (i2 / (64 : Int32))) (.long (x4 ||| ((1 : Int64) <<< (i2 &&& 0x3f).toInt64)))).bind fun M5 => (own_getR 0 3 M5 a0).bind fun x6 => (own_ldI 103 M5 x6 i1).bind fun x7 => if x7 = 0 then ((own_getR 0 3 M5 a0).bind fun x8 => (own_sto 103 M5 x8 i1 (.int (nar .boolean (1 : Int32)))).bind fun M9 => (own_getR 0 2 M9 a0).bind fun x10 => (own_getI 0 4 M9 a0).bind fun x11 => (own_put 0 4 M9 a0 (.int (x11 + (1 : Int32)))).bind fun M12 => (own_sto 100 M12 x10 x11 (.int i1)).bind fun M13 => m5_b55 M13) else (m5_b55 M5)
set_option maxRecDepth 65536 in
set_option maxHeartbeats 4000000 in
theorem m5_w {C : own_Ctx} (K : own_K C prog_28_method_7_code 3 "com/example/tablewise/tablewise/estr2/Pwsup" none "add" m5_rm) {a0 : Nat} {i1 : Int32} {i2 : Int32} {M : own_Mem} {r : Unit × own_Mem} (h : m5 a0 i1 i2 M = some r) : own_W C none r.2 M 0 0 0 [.val (.ref (own_n C + a0)), .val (.int i1), .val (.int i2)] [] := by
  unfold m5 at h
  refine own_aloadN K m5_d0 rfl rfl ?_
  refine own_gfR K m5_d1 own_w18 (own_cl0) (i := 1) rfl h rfl (fun x1 h => ?_)
  refine own_aloadN K m5_d4 rfl rfl ?_
  refine own_gfR K m5_d5 own_w11 (own_cl0) (i := 0) rfl h rfl (fun x2 h => ?_)
  refine own_iloadN K m5_d8 rfl rfl ?_
  refine own_iaload K m5_d9 h rfl (fun x3 h => ?_)
  refine own_iloadN K m5_d10 rfl rfl ?_
  refine own_bipush K m5_d11 own_bi64 rfl ?_
  refine own_idiv K m5_d13 h rfl (fun h => ?_)
  refine own_iadd K m5_d14 rfl ?_
  refine own_dup2 K m5_d15 rfl rfl rfl ?_
  refine own_laload K m5_d16 h rfl (fun x4 h => ?_)
  refine own_lconst K m5_d17 own_lc1 rfl ?_
  refine own_iloadN K m5_d18 rfl rfl ?_
  refine own_lshl K m5_d19 rfl ?_
  refine own_lor K m5_d20 rfl ?_
  refine own_lastore K m5_d21 h rfl (fun M5 h => ?_)
  refine own_aloadN K m5_d22 rfl rfl ?_
  refine own_gfR K m5_d23 own_w23 (own_cl0) (i := 3) rfl h rfl (fun x6 h => ?_)
  refine own_iloadN K m5_d26 rfl rfl ?_
  refine own_baloadZ K m5_d27 h rfl (fun x7 h => ?_)
  refine own_zne K m5_d28 h (pc1 := 55) (pc2 := 31) (by decide) rfl (fun h => ?_) (fun h => ?_)
  · exact m5_w55 K own_one_r own_one_i own_one_i h
  · refine own_aloadN K m5_d31 rfl rfl ?_
    refine own_gfR K m5_d32 own_w23 (own_cl0) (i := 3) rfl h rfl (fun x8 h => ?_)
    refine own_iloadN K m5_d35 rfl rfl ?_
    refine own_iconst K m5_d36 own_ic1 rfl ?_
    refine own_bastoreZ K m5_d37 h rfl (fun M9 h => ?_)
    refine own_aloadN K m5_d38 rfl rfl ?_
    refine own_gfR K m5_d39 own_w20 (own_cl0) (i := 2) rfl h rfl (fun x10 h => ?_)
    refine own_aloadN K m5_d42 rfl rfl ?_
    refine own_dup K m5_d43 rfl rfl ?_
    refine own_gfI K m5_d44 own_w35 (own_cl0) (i := 4) rfl h rfl (fun x11 h => ?_)
    refine own_dupX1 K m5_d47 rfl rfl rfl ?_
    refine own_iconst K m5_d48 own_ic1 rfl ?_
    refine own_iadd K m5_d49 rfl ?_
    refine own_pf K m5_d50 own_w35 (own_cl0) (i := 4) rfl (Or.inl own_w36) own_w3 (ty := .int) own_fd0_4 (w0 := (.int (x11 + (1 : Int32)))) rfl rfl h rfl (fun M12 h => ?_)
    refine own_iloadN K m5_d53 rfl rfl ?_
    refine own_iastore K m5_d54 h rfl (fun M13 h => ?_)
    exact m5_w55 K own_one_r own_one_i own_one_i h
set_option maxRecDepth 65536 in
set_option maxHeartbeats 4000000 in
theorem m5_met {a0 : Nat} {i1 : Int32} {i2 : Int32} {M : own_Mem} {q : Unit × own_Mem} (h : m5 a0 i1 i2 M = some q) : own_Met ⟨"com/example/tablewise/tablewise/estr2/Pwsup", "add", "(II)V"⟩ prog_28_method_7_code 3 none m5_rm [.ref a0, .int i1, .int i2] M none q.2 :=
  own_met (Ls := fun n0 => [.val (.ref (n0 + a0)), .val (.int i1), .val (.int i2)]) (plainFor_of_name own_pn0) (fun m n0 => by first | (simp [entryFrame, mkF, argsToLocals, Value.category, own_up]; done) | rfl) fun C K => m5_w K h
theorem m6_d0 : decode prog_28_method_3_code 0 = .ok (.aload_n 0, 1) := by decide +kernel
theorem m6_d1 : decode prog_28_method_3_code 1 = .ok (.getfield 17, 3) := by decide +kernel
theorem m6_d4 : decode prog_28_method_3_code 4 = .ok (.areturn, 1) := by decide +kernel
def m6_rm : Room := { frames := 0, cells := 0, slots := 0, locals := 0 }
set_option maxRecDepth 65536 in
def m6 (a0 : Nat) (M : own_Mem) : Option (Nat × own_Mem) := (own_getR 0 1 M a0).bind fun x1 => some (x1, M)
set_option maxRecDepth 65536 in
set_option maxHeartbeats 4000000 in
theorem m6_w {C : own_Ctx} (K : own_K C prog_28_method_3_code 1 "com/example/tablewise/tablewise/estr2/Pwsup" (some (.array .long)) "words" m6_rm) {a0 : Nat} {M : own_Mem} {r : Nat × own_Mem} (h : m6 a0 M = some r) : own_W C (some (.ref r.1)) r.2 M 0 0 0 [.val (.ref (own_n C + a0))] [] := by
  unfold m6 at h
  refine own_aloadN K m6_d0 rfl rfl ?_
  refine own_gfR K m6_d1 own_w18 (own_cl0) (i := 1) rfl h rfl (fun x1 h => ?_)
  exact own_retR K m6_d4 rfl h
set_option maxRecDepth 65536 in
set_option maxHeartbeats 4000000 in
theorem m6_met {a0 : Nat} {M : own_Mem} {q : Nat × own_Mem} (h : m6 a0 M = some q) : own_Met ⟨"com/example/tablewise/tablewise/estr2/Pwsup", "words", "()[J"⟩ prog_28_method_3_code 1 (some (.array .long)) m6_rm [.ref a0] M (some (.ref q.1)) q.2 :=
  own_met (Ls := fun n0 => [.val (.ref (n0 + a0))]) (plainFor_of_name own_pn0) (fun m n0 => by first | (simp [entryFrame, mkF, argsToLocals, Value.category, own_up]; done) | rfl) fun C K => m6_w K h
theorem m7_d0 : decode method_2_code 0 = .ok (.iload_n 0, 1) := by decide +kernel
theorem m7_d1 : decode method_2_code 1 = .ok (.bipush 63, 2) := by decide +kernel
theorem m7_d3 : decode method_2_code 3 = .ok (.iadd, 1) := by decide +kernel
theorem m7_d4 : decode method_2_code 4 = .ok (.bipush 64, 2) := by decide +kernel
theorem m7_d6 : decode method_2_code 6 = .ok (.idiv, 1) := by decide +kernel
theorem m7_d7 : decode method_2_code 7 = .ok (.ireturn, 1) := by decide +kernel
def m7_rm : Room := { frames := 0, cells := 0, slots := 0, locals := 0 }
set_option maxRecDepth 65536 in
def m7 (i0 : Int32) (M : own_Mem) : Option (Int32 × own_Mem) := own_nz ((64 : Int32) = 0) <| some (((i0 + (63 : Int32)) / (64 : Int32)), M)
set_option maxRecDepth 65536 in
set_option maxHeartbeats 4000000 in
theorem m7_w {C : own_Ctx} (K : own_K C method_2_code 1 "com/example/tablewise/tablewise/estr2/PwsupAddPinLaw" (some .int) "nw" m7_rm) {i0 : Int32} {M : own_Mem} {r : Int32 × own_Mem} (h : m7 i0 M = some r) : own_W C (some (.int r.1)) r.2 M 0 0 0 [.val (.int i0)] [] := by
  unfold m7 at h
  refine own_iloadN K m7_d0 rfl rfl ?_
  refine own_bipush K m7_d1 own_bi63 rfl ?_
  refine own_iadd K m7_d3 rfl ?_
  refine own_bipush K m7_d4 own_bi64 rfl ?_
  refine own_idiv K m7_d6 h rfl (fun h => ?_)
  exact own_retI K m7_d7 h
set_option maxRecDepth 65536 in
set_option maxHeartbeats 4000000 in
theorem m7_met {i0 : Int32} {M : own_Mem} {q : Int32 × own_Mem} (h : m7 i0 M = some q) : own_Met ⟨"com/example/tablewise/tablewise/estr2/PwsupAddPinLaw", "nw", "(I)I"⟩ method_2_code 1 (some .int) m7_rm [.int i0] M (some (.int q.1)) q.2 :=
  own_met (Ls := fun n0 => [.val (.int i0)]) (plainFor_of_name own_pn1) (fun m n0 => by first | (simp [entryFrame, mkF, argsToLocals, Value.category, own_up]; done) | rfl) fun C K => m7_w K h
theorem m8_d0 : decode method_5_code 0 = .ok (.iload_n 3, 1) := by decide +kernel
theorem m8_d1 : decode method_5_code 1 = .ok (.iload_n 2, 1) := by decide +kernel
theorem m8_d2 : decode method_5_code 2 = .ok (.if_icmp .ge 11, 3) := by decide +kernel
theorem m8_d5 : decode method_5_code 5 = .ok (.aload_n 0, 1) := by decide +kernel
theorem m8_d6 : decode method_5_code 6 = .ok (.iload_n 1, 1) := by decide +kernel
theorem m8_d7 : decode method_5_code 7 = .ok (.iload_n 3, 1) := by decide +kernel
theorem m8_d8 : decode method_5_code 8 = .ok (.iadd, 1) := by decide +kernel
theorem m8_d9 : decode method_5_code 9 = .ok (.laload, 1) := by decide +kernel
theorem m8_d10 : decode method_5_code 10 = .ok (.goto 4, 3) := by decide +kernel
theorem m8_d13 : decode method_5_code 13 = .ok (.lconst 0, 1) := by decide +kernel
theorem m8_d14 : decode method_5_code 14 = .ok (.lreturn, 1) := by decide +kernel
def m8_rm : Room := { frames := 0, cells := 0, slots := 0, locals := 0 }
set_option maxRecDepth 65536 in
def m8_b14 (t0 : Int64) (M : own_Mem) : Option (Int64 × own_Mem) := some (t0, M)
set_option maxRecDepth 65536 in
set_option maxHeartbeats 4000000 in
theorem m8_w14 {C : own_Ctx} (K : own_K C method_5_code 4 "com/example/tablewise/tablewise/estr2/PwsupAddPinLaw" (some .long) "word" m8_rm) {t0 : Int64} {z0 : Slot} {z1 : Slot} {z2 : Slot} {z3 : Slot} (o0 : own_One z0) (o1 : own_One z1) (o2 : own_One z2) (o3 : own_One z3) {M : own_Mem} {r : Int64 × own_Mem} (h : m8_b14 t0 M = some r) : own_W C (some (.long r.1)) r.2 M 0 0 14 [z0, z1, z2, z3] [.long t0] := by
  unfold m8_b14 at h
  exact own_retJ K m8_d14 h
set_option maxRecDepth 65536 in
def m8 (a0 : Nat) (i1 : Int32) (i2 : Int32) (i3 : Int32) (M : own_Mem) : Option (Int64 × own_Mem) := if i3 < i2 then ((own_ldJ 101 M a0 (i1 + i3)).bind fun x1 => m8_b14 x1 M) else (m8_b14 (0 : Int64) M)
set_option maxRecDepth 65536 in
set_option maxHeartbeats 4000000 in
theorem m8_w {C : own_Ctx} (K : own_K C method_5_code 4 "com/example/tablewise/tablewise/estr2/PwsupAddPinLaw" (some .long) "word" m8_rm) {a0 : Nat} {i1 : Int32} {i2 : Int32} {i3 : Int32} {M : own_Mem} {r : Int64 × own_Mem} (h : m8 a0 i1 i2 i3 M = some r) : own_W C (some (.long r.1)) r.2 M 0 0 0 [.val (.ref (own_n C + a0)), .val (.int i1), .val (.int i2), .val (.int i3)] [] := by
  unfold m8 at h
  refine own_iloadN K m8_d0 rfl rfl ?_
  refine own_iloadN K m8_d1 rfl rfl ?_
  refine own_ige K m8_d2 h (pc1 := 13) (pc2 := 5) (by decide) rfl (fun h => ?_) (fun h => ?_)
  · refine own_lconst K m8_d13 own_lc0 rfl ?_
    exact m8_w14 K own_one_r own_one_i own_one_i own_one_i h
  · refine own_aloadN K m8_d5 rfl rfl ?_
    refine own_iloadN K m8_d6 rfl rfl ?_
    refine own_iloadN K m8_d7 rfl rfl ?_
    refine own_iadd K m8_d8 rfl ?_
    refine own_laload K m8_d9 h rfl (fun x1 h => ?_)
    refine own_goto K m8_d10 (pc' := 14) (by decide) ?_
    exact m8_w14 K own_one_r own_one_i own_one_i own_one_i h
set_option maxRecDepth 65536 in
set_option maxHeartbeats 4000000 in
theorem m8_met {a0 : Nat} {i1 : Int32} {i2 : Int32} {i3 : Int32} {M : own_Mem} {q : Int64 × own_Mem} (h : m8 a0 i1 i2 i3 M = some q) : own_Met ⟨"com/example/tablewise/tablewise/estr2/PwsupAddPinLaw", "word", "([JIII)J"⟩ method_5_code 4 (some .long) m8_rm [.ref a0, .int i1, .int i2, .int i3] M (some (.long q.1)) q.2 :=
  own_met (Ls := fun n0 => [.val (.ref (n0 + a0)), .val (.int i1), .val (.int i2), .val (.int i3)]) (plainFor_of_name own_pn1) (fun m n0 => by first | (simp [entryFrame, mkF, argsToLocals, Value.category, own_up]; done) | rfl) fun C K => m8_w K h
theorem m9_d0 : decode method_3_code 0 = .ok (.iload_n 0, 1) := by decide +kernel
theorem m9_d1 : decode method_3_code 1 = .ok (.bipush 6, 2) := by decide +kernel
theorem m9_d3 : decode method_3_code 3 = .ok (.ishr, 1) := by decide +kernel
theorem m9_d4 : decode method_3_code 4 = .ok (.iload_n 1, 1) := by decide +kernel
theorem m9_d5 : decode method_3_code 5 = .ok (.if_icmp .ne 12, 3) := by decide +kernel
theorem m9_d8 : decode method_3_code 8 = .ok (.lconst 1, 1) := by decide +kernel
theorem m9_d9 : decode method_3_code 9 = .ok (.iload_n 0, 1) := by decide +kernel
theorem m9_d10 : decode method_3_code 10 = .ok (.bipush 63, 2) := by decide +kernel
theorem m9_d12 : decode method_3_code 12 = .ok (.iand, 1) := by decide +kernel
theorem m9_d13 : decode method_3_code 13 = .ok (.lshl, 1) := by decide +kernel
theorem m9_d14 : decode method_3_code 14 = .ok (.goto 4, 3) := by decide +kernel
theorem m9_d17 : decode method_3_code 17 = .ok (.lconst 0, 1) := by decide +kernel
theorem m9_d18 : decode method_3_code 18 = .ok (.lreturn, 1) := by decide +kernel
def m9_rm : Room := { frames := 0, cells := 0, slots := 0, locals := 0 }
set_option maxRecDepth 65536 in
def m9_b18 (t0 : Int64) (M : own_Mem) : Option (Int64 × own_Mem) := some (t0, M)
set_option maxRecDepth 65536 in
set_option maxHeartbeats 4000000 in
theorem m9_w18 {C : own_Ctx} (K : own_K C method_3_code 2 "com/example/tablewise/tablewise/estr2/PwsupAddPinLaw" (some .long) "bit" m9_rm) {t0 : Int64} {z0 : Slot} {z1 : Slot} (o0 : own_One z0) (o1 : own_One z1) {M : own_Mem} {r : Int64 × own_Mem} (h : m9_b18 t0 M = some r) : own_W C (some (.long r.1)) r.2 M 0 0 18 [z0, z1] [.long t0] := by
  unfold m9_b18 at h
  exact own_retJ K m9_d18 h
set_option maxRecDepth 65536 in
def m9 (i0 : Int32) (i1 : Int32) (M : own_Mem) : Option (Int64 × own_Mem) := if (i0 >>> ((6 : Int32) &&& 31)) = i1 then (m9_b18 ((1 : Int64) <<< ((i0 &&& (63 : Int32)) &&& 0x3f).toInt64) M) else (m9_b18 (0 : Int64) M)
set_option maxRecDepth 65536 in
set_option maxHeartbeats 4000000 in
theorem m9_w {C : own_Ctx} (K : own_K C method_3_code 2 "com/example/tablewise/tablewise/estr2/PwsupAddPinLaw" (some .long) "bit" m9_rm) {i0 : Int32} {i1 : Int32} {M : own_Mem} {r : Int64 × own_Mem} (h : m9 i0 i1 M = some r) : own_W C (some (.long r.1)) r.2 M 0 0 0 [.val (.int i0), .val (.int i1)] [] := by
  unfold m9 at h
  refine own_iloadN K m9_d0 rfl rfl ?_
  refine own_bipush K m9_d1 own_bi6 rfl ?_
  refine own_ishr K m9_d3 rfl ?_
  refine own_iloadN K m9_d4 rfl rfl ?_
  refine own_ine K m9_d5 h (pc1 := 17) (pc2 := 8) (by decide) rfl (fun h => ?_) (fun h => ?_)
  · refine own_lconst K m9_d17 own_lc0 rfl ?_
    exact m9_w18 K own_one_i own_one_i h
  · refine own_lconst K m9_d8 own_lc1 rfl ?_
    refine own_iloadN K m9_d9 rfl rfl ?_
    refine own_bipush K m9_d10 own_bi63 rfl ?_
    refine own_iand K m9_d12 rfl ?_
    refine own_lshl K m9_d13 rfl ?_
    refine own_goto K m9_d14 (pc' := 18) (by decide) ?_
    exact m9_w18 K own_one_i own_one_i h
set_option maxRecDepth 65536 in
set_option maxHeartbeats 4000000 in
theorem m9_met {i0 : Int32} {i1 : Int32} {M : own_Mem} {q : Int64 × own_Mem} (h : m9 i0 i1 M = some q) : own_Met ⟨"com/example/tablewise/tablewise/estr2/PwsupAddPinLaw", "bit", "(II)J"⟩ method_3_code 2 (some .long) m9_rm [.int i0, .int i1] M (some (.long q.1)) q.2 :=
  own_met (Ls := fun n0 => [.val (.int i0), .val (.int i1)]) (plainFor_of_name own_pn1) (fun m n0 => by first | (simp [entryFrame, mkF, argsToLocals, Value.category, own_up]; done) | rfl) fun C K => m9_w K h
theorem m11_d0 : decode method_4_code 0 = .ok (.iload_n 0, 1) := by decide +kernel
theorem m11_d1 : decode method_4_code 1 = .ok (.bipush 64, 2) := by decide +kernel
theorem m11_d3 : decode method_4_code 3 = .ok (.iload_n 1, 1) := by decide +kernel
theorem m11_d4 : decode method_4_code 4 = .ok (.imul, 1) := by decide +kernel
theorem m11_d5 : decode method_4_code 5 = .ok (.isub, 1) := by decide +kernel
theorem m11_d6 : decode method_4_code 6 = .ok (.istore_n 2, 1) := by decide +kernel
theorem m11_d7 : decode method_4_code 7 = .ok (.iload_n 2, 1) := by decide +kernel
theorem m11_d8 : decode method_4_code 8 = .ok (.ifCond .gt 5, 3) := by decide +kernel
theorem m11_d11 : decode method_4_code 11 = .ok (.lconst 0, 1) := by decide +kernel
theorem m11_d12 : decode method_4_code 12 = .ok (.lreturn, 1) := by decide +kernel
theorem m11_d13 : decode method_4_code 13 = .ok (.iload_n 2, 1) := by decide +kernel
theorem m11_d14 : decode method_4_code 14 = .ok (.bipush 64, 2) := by decide +kernel
theorem m11_d16 : decode method_4_code 16 = .ok (.if_icmp .lt 7, 3) := by decide +kernel
theorem m11_d19 : decode method_4_code 19 = .ok (.ldc2_w 7, 3) := by decide +kernel
theorem m11_d22 : decode method_4_code 22 = .ok (.lreturn, 1) := by decide +kernel
theorem m11_d23 : decode method_4_code 23 = .ok (.lconst 1, 1) := by decide +kernel
theorem m11_d24 : decode method_4_code 24 = .ok (.iload_n 2, 1) := by decide +kernel
theorem m11_d25 : decode method_4_code 25 = .ok (.lshl, 1) := by decide +kernel
theorem m11_d26 : decode method_4_code 26 = .ok (.lconst 1, 1) := by decide +kernel
theorem m11_d27 : decode method_4_code 27 = .ok (.lsub, 1) := by decide +kernel
theorem m11_d28 : decode method_4_code 28 = .ok (.lreturn, 1) := by decide +kernel
def m11_rm : Room := { frames := 0, cells := 0, slots := 0, locals := 0 }
set_option maxRecDepth 65536 in
def m11 (i0 : Int32) (i1 : Int32) (M : own_Mem) : Option (Int64 × own_Mem) := own_let (i0 - ((64 : Int32) * i1)) fun x1 => if 0 < x1 then (if x1 < (64 : Int32) then (some ((((1 : Int64) <<< (x1 &&& 0x3f).toInt64) - (1 : Int64)), M)) else (some ((-1 : Int64), M))) else (some ((0 : Int64), M))
set_option maxRecDepth 65536 in
set_option maxHeartbeats 4000000 in
theorem m11_w {C : own_Ctx} (K : own_K C method_4_code 3 "com/example/tablewise/tablewise/estr2/PwsupAddPinLaw" (some .long) "full" m11_rm) {i0 : Int32} {i1 : Int32} {M : own_Mem} {r : Int64 × own_Mem} (h : m11 i0 i1 M = some r) : own_W C (some (.long r.1)) r.2 M 0 0 0 [.val (.int i0), .val (.int i1), .unset] [] := by
  unfold m11 at h
  refine own_iloadN K m11_d0 rfl rfl ?_
  refine own_bipush K m11_d1 own_bi64 rfl ?_
  refine own_iloadN K m11_d3 rfl rfl ?_
  refine own_imul K m11_d4 rfl ?_
  refine own_isub K m11_d5 rfl ?_
  refine own_letI h (fun x1 h => ?_)
  refine own_istoreN K m11_d6 (Ls' := [.val (.int i0), .val (.int i1), .val (.int x1)]) rfl rfl ?_
  refine own_iloadN K m11_d7 rfl rfl ?_
  refine own_zgt K m11_d8 h (pc1 := 13) (pc2 := 11) (by decide) rfl (fun h => ?_) (fun h => ?_)
  · refine own_iloadN K m11_d13 rfl rfl ?_
    refine own_bipush K m11_d14 own_bi64 rfl ?_
    refine own_ilt K m11_d16 h (pc1 := 23) (pc2 := 19) (by decide) rfl (fun h => ?_) (fun h => ?_)
    · refine own_lconst K m11_d23 own_lc1 rfl ?_
      refine own_iloadN K m11_d24 rfl rfl ?_
      refine own_lshl K m11_d25 rfl ?_
      refine own_lconst K m11_d26 own_lc1 rfl ?_
      refine own_lsub K m11_d27 rfl ?_
      exact own_retJ K m11_d28 h
    · refine own_ldc2 K m11_d19 own_w61 rfl ?_
      exact own_retJ K m11_d22 h
  · refine own_lconst K m11_d11 own_lc0 rfl ?_
    exact own_retJ K m11_d12 h
set_option maxRecDepth 65536 in
set_option maxHeartbeats 4000000 in
theorem m11_met {i0 : Int32} {i1 : Int32} {M : own_Mem} {q : Int64 × own_Mem} (h : m11 i0 i1 M = some q) : own_Met ⟨"com/example/tablewise/tablewise/estr2/PwsupAddPinLaw", "full", "(II)J"⟩ method_4_code 3 (some .long) m11_rm [.int i0, .int i1] M (some (.long q.1)) q.2 :=
  own_met (Ls := fun n0 => [.val (.int i0), .val (.int i1), .unset]) (plainFor_of_name own_pn1) (fun m n0 => by first | (simp [entryFrame, mkF, argsToLocals, Value.category, own_up]; done) | rfl) fun C K => m11_w K h
theorem m10_d0 : decode prog_28_method_9_code 0 = .ok (.iconst 0, 1) := by decide +kernel
theorem m10_d1 : decode prog_28_method_9_code 1 = .ok (.istore_n 1, 1) := by decide +kernel
theorem m10_d2 : decode prog_28_method_9_code 2 = .ok (.iload_n 1, 1) := by decide +kernel
theorem m10_d3 : decode prog_28_method_9_code 3 = .ok (.aload_n 0, 1) := by decide +kernel
theorem m10_d4 : decode prog_28_method_9_code 4 = .ok (.getfield 40, 3) := by decide +kernel
theorem m10_d7 : decode prog_28_method_9_code 7 = .ok (.if_icmp .ge 28, 3) := by decide +kernel
theorem m10_d10 : decode prog_28_method_9_code 10 = .ok (.aload_n 0, 1) := by decide +kernel
theorem m10_d11 : decode prog_28_method_9_code 11 = .ok (.getfield 23, 3) := by decide +kernel
theorem m10_d14 : decode prog_28_method_9_code 14 = .ok (.iload_n 1, 1) := by decide +kernel
theorem m10_d15 : decode prog_28_method_9_code 15 = .ok (.iaload, 1) := by decide +kernel
theorem m10_d16 : decode prog_28_method_9_code 16 = .ok (.istore_n 2, 1) := by decide +kernel
theorem m10_d17 : decode prog_28_method_9_code 17 = .ok (.aload_n 0, 1) := by decide +kernel
theorem m10_d18 : decode prog_28_method_9_code 18 = .ok (.iload_n 2, 1) := by decide +kernel
theorem m10_d19 : decode prog_28_method_9_code 19 = .ok (.invokevirtual 44, 3) := by decide +kernel
theorem m10_d22 : decode prog_28_method_9_code 22 = .ok (.aload_n 0, 1) := by decide +kernel
theorem m10_d23 : decode prog_28_method_9_code 23 = .ok (.getfield 26, 3) := by decide +kernel
theorem m10_d26 : decode prog_28_method_9_code 26 = .ok (.iload_n 2, 1) := by decide +kernel
theorem m10_d27 : decode prog_28_method_9_code 27 = .ok (.iconst 0, 1) := by decide +kernel
theorem m10_d28 : decode prog_28_method_9_code 28 = .ok (.bastore, 1) := by decide +kernel
theorem m10_d29 : decode prog_28_method_9_code 29 = .ok (.iinc 1 1, 3) := by decide +kernel
theorem m10_d32 : decode prog_28_method_9_code 32 = .ok (.goto (-30), 3) := by decide +kernel
theorem m10_d35 : decode prog_28_method_9_code 35 = .ok (.aload_n 0, 1) := by decide +kernel
theorem m10_d36 : decode prog_28_method_9_code 36 = .ok (.iconst 0, 1) := by decide +kernel
theorem m10_d37 : decode prog_28_method_9_code 37 = .ok (.putfield 40, 3) := by decide +kernel
theorem m10_d40 : decode prog_28_method_9_code 40 = .ok (.return_, 1) := by decide +kernel
def m10_rm : Room := { frames := 1, cells := 0, slots := 0, locals := 14 }
set_option maxRecDepth 65536 in
def m10_c2 (rec : Nat → Nat → Int32 → own_Mem → Option (Unit × own_Mem)) (a0 : Nat) (i1 : Int32) (M : own_Mem) : Option (Unit × own_Mem) := (own_getI 0 4 M a0).bind fun x1 => if i1 < x1 then ((own_getR 0 2 M a0).bind fun x3 => (own_ldI 100 M x3 i1).bind fun x4 => (own_at M 0 a0).bind fun u6 => (m4 a0 x4 M).bind fun q5 => (own_getR 0 3 q5.2 a0).bind fun x7 => (own_sto 103 q5.2 x7 x4 (.int (nar .boolean (0 : Int32)))).bind fun M8 => rec 2 a0 (i1 + (1 : Int32)) M8) else ((own_put 0 4 M a0 (.int (0 : Int32))).bind fun M2 => some ((), M2))
def m10_L : Nat → Nat → Nat → Int32 → own_Mem → Option (Unit × own_Mem)
  | 0 => fun _ _ _ _ => none
  | n + 1 => fun pc a0 i1 M => if pc = 2 then m10_c2 (m10_L n) a0 i1 M else none
def m10_P2 (C : own_Ctx) (n : Nat) : Prop := ∀ (a0 : Nat) (i1 : Int32) (z2 : Slot) (o2 : own_One z2) (M : own_Mem) (r : Unit × own_Mem), m10_L n 2 a0 i1 M = some r → own_W C none r.2 M 0 0 2 [.val (.ref (own_n C + a0)), .val (.int i1), z2] []
def m10_IH (C : own_Ctx) (n : Nat) : Prop := m10_P2 C n
set_option maxRecDepth 65536 in
set_option maxHeartbeats 4000000 in
theorem m10_w2 {C : own_Ctx} (K : own_K C prog_28_method_9_code 3 "com/example/tablewise/tablewise/estr2/Pwsup" none "clearAll" m10_rm) {n : Nat} {a0 : Nat} {i1 : Int32} {z2 : Slot} (ih : m10_IH C n) (o2 : own_One z2) {M : own_Mem} {r : Unit × own_Mem} (h : m10_c2 (m10_L n) a0 i1 M = some r) : own_W C none r.2 M 0 0 2 [.val (.ref (own_n C + a0)), .val (.int i1), z2] [] := by
  unfold m10_c2 at h
  refine own_iloadN K m10_d2 rfl rfl ?_
  refine own_aloadN K m10_d3 rfl rfl ?_
  refine own_gfI K m10_d4 own_w35 (own_cl0) (i := 4) rfl h rfl (fun x1 h => ?_)
  refine own_ige K m10_d7 h (pc1 := 35) (pc2 := 10) (by decide) rfl (fun h => ?_) (fun h => ?_)
  · refine own_aloadN K m10_d35 rfl rfl ?_
    refine own_iconst K m10_d36 own_ic0 rfl ?_
    refine own_pf K m10_d37 own_w35 (own_cl0) (i := 4) rfl (Or.inl own_w36) own_w3 (ty := .int) own_fd0_4 (w0 := (.int (0 : Int32))) rfl rfl h rfl (fun M2 h => ?_)
    exact own_retV K m10_d40 h
  · refine own_aloadN K m10_d10 rfl rfl ?_
    refine own_gfR K m10_d11 own_w20 (own_cl0) (i := 2) rfl h rfl (fun x3 h => ?_)
    refine own_iloadN K m10_d14 rfl rfl ?_
    refine own_iaload K m10_d15 h rfl (fun x4 h => ?_)
    refine own_istoreN K m10_d16 (Ls' := [.val (.ref (own_n C + a0)), .val (.int i1), .val (.int x4)]) (own_sto1 rfl o2 rfl rfl) rfl ?_
    refine own_aloadN K m10_d17 rfl rfl ?_
    refine own_iloadN K m10_d18 rfl rfl ?_
    refine own_bk h (fun u6 hu6 h => ?_)
    refine own_bk h (fun q5 hq5 h => ?_)
    refine own_callV K m10_d19 own_w57 own_w26 own_w28 own_w27 own_w4 own_w29 (own_cl0) hu6 (a := a0) (argsL := [.int x4]) (st := []) (by decide) (lenOf own_pd1 rfl) rfl (W := 0) (Nat.le_of_eq rfl) (by decide) (by decide) (cs1 := 0) (ss1 := 0) rfl rfl (by decide) (by decide) rfl rfl (m4_met hq5) (st1 := []) rfl ?_
    refine own_aloadN K m10_d22 rfl rfl ?_
    refine own_gfR K m10_d23 own_w23 (own_cl0) (i := 3) rfl h rfl (fun x7 h => ?_)
    refine own_iloadN K m10_d26 rfl rfl ?_
    refine own_iconst K m10_d27 own_ic0 rfl ?_
    refine own_bastoreZ K m10_d28 h rfl (fun M8 h => ?_)
    refine own_iinc K m10_d29 own_ic1 rfl (Ls' := [.val (.ref (own_n C + a0)), .val (.int (i1 + (1 : Int32))), .val (.int x4)]) rfl rfl ?_
    refine own_goto K m10_d32 (pc' := 2) (by decide) ?_
    exact ih _ _ _ own_one_i _ _ h
set_option maxRecDepth 65536 in
set_option maxHeartbeats 4000000 in
theorem m10_all {C : own_Ctx} (K : own_K C prog_28_method_9_code 3 "com/example/tablewise/tablewise/estr2/Pwsup" none "clearAll" m10_rm) : ∀ n, m10_IH C n
  | 0 => fun _ _ _ _ _ _ => fun h => (nomatch h)
  | n + 1 => have ih := m10_all K n; fun _ _ _ o2 _ _ => fun h => m10_w2 K ih o2 h
set_option maxRecDepth 65536 in
def m10 (a0 : Nat) (M : own_Mem) : Option (Unit × own_Mem) := m10_L 8 2 a0 (0 : Int32) M
set_option maxRecDepth 65536 in
set_option maxHeartbeats 4000000 in
theorem m10_w {C : own_Ctx} (K : own_K C prog_28_method_9_code 3 "com/example/tablewise/tablewise/estr2/Pwsup" none "clearAll" m10_rm) {a0 : Nat} {M : own_Mem} {r : Unit × own_Mem} (h : m10 a0 M = some r) : own_W C none r.2 M 0 0 0 [.val (.ref (own_n C + a0)), .unset, .unset] [] := by
  have ih := m10_all K 8
  unfold m10 at h
  refine own_iconst K m10_d0 own_ic0 rfl ?_
  refine own_istoreN K m10_d1 (Ls' := [.val (.ref (own_n C + a0)), .val (.int (0 : Int32)), .unset]) rfl rfl ?_
  exact ih _ _ _ own_one_u _ _ h
set_option maxRecDepth 65536 in
set_option maxHeartbeats 4000000 in
theorem m10_met {a0 : Nat} {M : own_Mem} {q : Unit × own_Mem} (h : m10 a0 M = some q) : own_Met ⟨"com/example/tablewise/tablewise/estr2/Pwsup", "clearAll", "()V"⟩ prog_28_method_9_code 3 none m10_rm [.ref a0] M none q.2 :=
  own_met (Ls := fun n0 => [.val (.ref (n0 + a0)), .unset, .unset]) (plainFor_of_name own_pn0) (fun m n0 => by first | (simp [entryFrame, mkF, argsToLocals, Value.category, own_up]; done) | rfl) fun C K => m10_w K h
set_option maxRecDepth 65536 in
def m0_b610 (t0 : Int32) (M : own_Mem) : Option (Int32 × own_Mem) := some (nar .boolean t0, M)
set_option maxRecDepth 65536 in
set_option maxHeartbeats 4000000 in
theorem m0_w610 {C : own_Ctx} (K : own_K C code maxLocals "com/example/tablewise/tablewise/estr2/PwsupAddPinLaw" ret "law" room_1) {t0 : Int32} {z0 : Slot} {z1 : Slot} {z2 : Slot} {z3 : Slot} {z4 : Slot} {z5 : Slot} {z6 : Slot} {z7 : Slot} {z8 : Slot} {z9 : Slot} {z10 : Slot} {z11 : Slot} {z12 : Slot} {z13 : Slot} {z14 : Slot} {z15 : Slot} {z16 : Slot} {z17 : Slot} {z18 : Slot} {z19 : Slot} {z20 : Slot} {z21 : Slot} {z22 : Slot} {z23 : Slot} {z24 : Slot} {z25 : Slot} {d26 : Int64} {d28 : Int64} {z30 : Slot} {d31 : Int64} {d33 : Int64} (o0 : own_One z0) (o1 : own_One z1) (o2 : own_One z2) (o3 : own_One z3) (o4 : own_One z4) (o5 : own_One z5) (o6 : own_One z6) (o7 : own_One z7) (o8 : own_One z8) (o9 : own_One z9) (o10 : own_One z10) (o11 : own_One z11) (o12 : own_One z12) (o13 : own_One z13) (o14 : own_One z14) (o15 : own_One z15) (o16 : own_One z16) (o17 : own_One z17) (o18 : own_One z18) (o19 : own_One z19) (o20 : own_One z20) (o21 : own_One z21) (o22 : own_One z22) (o23 : own_One z23) (o24 : own_One z24) (o25 : own_One z25) (o30 : own_One z30) {M : own_Mem} {r : Int32 × own_Mem} (h : m0_b610 t0 M = some r) : own_W C (some (.int r.1)) r.2 M 6 18 610 [z0, z1, z2, z3, z4, z5, z6, z7, z8, z9, z10, z11, z12, z13, z14, z15, z16, z17, z18, z19, z20, z21, z22, z23, z24, z25, .val (.long d26), .second, .val (.long d28), .second, z30, .val (.long d31), .second, .val (.long d33), .second] [.int t0] := by
  unfold m0_b610 at h
  refine own_istore K at_610 (Ls' := [z0, z1, z2, z3, z4, z5, z6, z7, z8, z9, z10, z11, z12, z13, z14, z15, z16, z17, z18, z19, z20, z21, z22, z23, z24, .val (.int t0), .val (.long d26), .second, .val (.long d28), .second, z30, .val (.long d31), .second, .val (.long d33), .second]) (own_sto1 rfl o25 rfl rfl) rfl ?_
  refine own_iload K at_612 rfl rfl ?_
  exact own_retN K at_614 (by simp) h
set_option maxRecDepth 65536 in
def m0_b609  (M : own_Mem) : Option (Int32 × own_Mem) := m0_b610 (0 : Int32) M
set_option maxRecDepth 65536 in
set_option maxHeartbeats 4000000 in
theorem m0_w609 {C : own_Ctx} (K : own_K C code maxLocals "com/example/tablewise/tablewise/estr2/PwsupAddPinLaw" ret "law" room_1) {z0 : Slot} {z1 : Slot} {z2 : Slot} {z3 : Slot} {z4 : Slot} {z5 : Slot} {z6 : Slot} {z7 : Slot} {z8 : Slot} {z9 : Slot} {z10 : Slot} {z11 : Slot} {z12 : Slot} {z13 : Slot} {z14 : Slot} {z15 : Slot} {z16 : Slot} {z17 : Slot} {z18 : Slot} {z19 : Slot} {z20 : Slot} {z21 : Slot} {z22 : Slot} {z23 : Slot} {z24 : Slot} {z25 : Slot} {d26 : Int64} {d28 : Int64} {z30 : Slot} {d31 : Int64} {d33 : Int64} (o0 : own_One z0) (o1 : own_One z1) (o2 : own_One z2) (o3 : own_One z3) (o4 : own_One z4) (o5 : own_One z5) (o6 : own_One z6) (o7 : own_One z7) (o8 : own_One z8) (o9 : own_One z9) (o10 : own_One z10) (o11 : own_One z11) (o12 : own_One z12) (o13 : own_One z13) (o14 : own_One z14) (o15 : own_One z15) (o16 : own_One z16) (o17 : own_One z17) (o18 : own_One z18) (o19 : own_One z19) (o20 : own_One z20) (o21 : own_One z21) (o22 : own_One z22) (o23 : own_One z23) (o24 : own_One z24) (o25 : own_One z25) (o30 : own_One z30) {M : own_Mem} {r : Int32 × own_Mem} (h : m0_b609  M = some r) : own_W C (some (.int r.1)) r.2 M 6 18 609 [z0, z1, z2, z3, z4, z5, z6, z7, z8, z9, z10, z11, z12, z13, z14, z15, z16, z17, z18, z19, z20, z21, z22, z23, z24, z25, .val (.long d26), .second, .val (.long d28), .second, z30, .val (.long d31), .second, .val (.long d33), .second] [] := by
  unfold m0_b609 at h
  refine own_iconst K at_609 own_ic0 rfl ?_
  exact m0_w610 K o0 o1 o2 o3 o4 o5 o6 o7 o8 o9 o10 o11 o12 o13 o14 o15 o16 o17 o18 o19 o20 o21 o22 o23 o24 o25 o30 h
set_option maxRecDepth 65536 in
def m0_b582 (i22 : Int32) (i24 : Int32) (a30 : Nat) (j33 : Int64) (t0 : Int32) (M : own_Mem) : Option (Int32 × own_Mem) := if t0 = 0 then (m0_b609 M) else ((m8 a30 i22 i24 (1 : Int32) M).bind fun q1 => if q1.1 = j33 then (m0_b610 (1 : Int32) q1.2) else (m0_b609 q1.2))
set_option maxRecDepth 65536 in
set_option maxHeartbeats 4000000 in
theorem m0_w582 {C : own_Ctx} (K : own_K C code maxLocals "com/example/tablewise/tablewise/estr2/PwsupAddPinLaw" ret "law" room_1) {i22 : Int32} {i24 : Int32} {a30 : Nat} {j33 : Int64} {t0 : Int32} {z0 : Slot} {z1 : Slot} {z2 : Slot} {z3 : Slot} {z4 : Slot} {z5 : Slot} {z6 : Slot} {z7 : Slot} {z8 : Slot} {z9 : Slot} {z10 : Slot} {z11 : Slot} {z12 : Slot} {z13 : Slot} {z14 : Slot} {z15 : Slot} {z16 : Slot} {z17 : Slot} {z18 : Slot} {z19 : Slot} {z20 : Slot} {z21 : Slot} {z23 : Slot} {z25 : Slot} {d26 : Int64} {d28 : Int64} {d31 : Int64} (o0 : own_One z0) (o1 : own_One z1) (o2 : own_One z2) (o3 : own_One z3) (o4 : own_One z4) (o5 : own_One z5) (o6 : own_One z6) (o7 : own_One z7) (o8 : own_One z8) (o9 : own_One z9) (o10 : own_One z10) (o11 : own_One z11) (o12 : own_One z12) (o13 : own_One z13) (o14 : own_One z14) (o15 : own_One z15) (o16 : own_One z16) (o17 : own_One z17) (o18 : own_One z18) (o19 : own_One z19) (o20 : own_One z20) (o21 : own_One z21) (o23 : own_One z23) (o25 : own_One z25) {M : own_Mem} {r : Int32 × own_Mem} (h : m0_b582 i22 i24 a30 j33 t0 M = some r) : own_W C (some (.int r.1)) r.2 M 6 18 582 [z0, z1, z2, z3, z4, z5, z6, z7, z8, z9, z10, z11, z12, z13, z14, z15, z16, z17, z18, z19, z20, z21, .val (.int i22), z23, .val (.int i24), z25, .val (.long d26), .second, .val (.long d28), .second, .val (.ref (own_n C + a30)), .val (.long d31), .second, .val (.long j33), .second] [.int t0] := by
  unfold m0_b582 at h
  refine own_istore K at_582 (Ls' := [z0, z1, z2, z3, z4, z5, z6, z7, z8, z9, z10, z11, z12, z13, z14, z15, z16, z17, z18, z19, z20, z21, .val (.int i22), z23, .val (.int i24), .val (.int t0), .val (.long d26), .second, .val (.long d28), .second, .val (.ref (own_n C + a30)), .val (.long d31), .second, .val (.long j33), .second]) (own_sto1 rfl o25 rfl rfl) rfl ?_
  refine own_iload K at_584 rfl rfl ?_
  refine own_zeq K at_586 h (pc1 := 609) (pc2 := 589) (by decide) rfl (fun h => ?_) (fun h => ?_)
  · exact m0_w609 K o0 o1 o2 o3 o4 o5 o6 o7 o8 o9 o10 o11 o12 o13 o14 o15 o16 o17 o18 o19 o20 o21 own_one_i o23 own_one_i own_one_i own_one_r h
  · refine own_aload K at_589 rfl rfl ?_
    refine own_iload K at_591 rfl rfl ?_
    refine own_iload K at_593 rfl rfl ?_
    refine own_iconst K at_595 own_ic1 rfl ?_
    refine own_bk h (fun q1 hq1 h => ?_)
    refine own_callS K at_596 own_w46 own_w47 own_w44 own_w48 (argsL := [.ref a30, .int i22, .int i24, .int (1 : Int32)]) (st := []) (by decide) (lenOf own_pd2 rfl) rfl (W := 0) (Nat.le_of_eq rfl) (by decide) (by decide) (cs1 := 6) (ss1 := 18) rfl rfl (by decide) (by decide) rfl rfl (m8_met hq1) (st1 := [.long q1.1]) rfl ?_
    refine own_lload K at_599 rfl rfl ?_
    refine own_cne K at_601 at_602 h (pc1 := 609) (pc2 := 605) rfl (by decide) rfl (fun h => ?_) (fun h => ?_)
    · exact m0_w609 K o0 o1 o2 o3 o4 o5 o6 o7 o8 o9 o10 o11 o12 o13 o14 o15 o16 o17 o18 o19 o20 o21 own_one_i o23 own_one_i own_one_i own_one_r h
    · refine own_iconst K at_605 own_ic1 rfl ?_
      refine own_goto K at_606 (pc' := 610) (by decide) ?_
      exact m0_w610 K o0 o1 o2 o3 o4 o5 o6 o7 o8 o9 o10 o11 o12 o13 o14 o15 o16 o17 o18 o19 o20 o21 own_one_i o23 own_one_i own_one_i own_one_r h
set_option maxRecDepth 65536 in
def m0_b581 (i22 : Int32) (i24 : Int32) (a30 : Nat) (j33 : Int64) (M : own_Mem) : Option (Int32 × own_Mem) := m0_b582 i22 i24 a30 j33 (0 : Int32) M
set_option maxRecDepth 65536 in
set_option maxHeartbeats 4000000 in
theorem m0_w581 {C : own_Ctx} (K : own_K C code maxLocals "com/example/tablewise/tablewise/estr2/PwsupAddPinLaw" ret "law" room_1) {i22 : Int32} {i24 : Int32} {a30 : Nat} {j33 : Int64} {z0 : Slot} {z1 : Slot} {z2 : Slot} {z3 : Slot} {z4 : Slot} {z5 : Slot} {z6 : Slot} {z7 : Slot} {z8 : Slot} {z9 : Slot} {z10 : Slot} {z11 : Slot} {z12 : Slot} {z13 : Slot} {z14 : Slot} {z15 : Slot} {z16 : Slot} {z17 : Slot} {z18 : Slot} {z19 : Slot} {z20 : Slot} {z21 : Slot} {z23 : Slot} {z25 : Slot} {d26 : Int64} {d28 : Int64} {d31 : Int64} (o0 : own_One z0) (o1 : own_One z1) (o2 : own_One z2) (o3 : own_One z3) (o4 : own_One z4) (o5 : own_One z5) (o6 : own_One z6) (o7 : own_One z7) (o8 : own_One z8) (o9 : own_One z9) (o10 : own_One z10) (o11 : own_One z11) (o12 : own_One z12) (o13 : own_One z13) (o14 : own_One z14) (o15 : own_One z15) (o16 : own_One z16) (o17 : own_One z17) (o18 : own_One z18) (o19 : own_One z19) (o20 : own_One z20) (o21 : own_One z21) (o23 : own_One z23) (o25 : own_One z25) {M : own_Mem} {r : Int32 × own_Mem} (h : m0_b581 i22 i24 a30 j33 M = some r) : own_W C (some (.int r.1)) r.2 M 6 18 581 [z0, z1, z2, z3, z4, z5, z6, z7, z8, z9, z10, z11, z12, z13, z14, z15, z16, z17, z18, z19, z20, z21, .val (.int i22), z23, .val (.int i24), z25, .val (.long d26), .second, .val (.long d28), .second, .val (.ref (own_n C + a30)), .val (.long d31), .second, .val (.long j33), .second] [] := by
  unfold m0_b581 at h
  refine own_iconst K at_581 own_ic0 rfl ?_
  exact m0_w582 K o0 o1 o2 o3 o4 o5 o6 o7 o8 o9 o10 o11 o12 o13 o14 o15 o16 o17 o18 o19 o20 o21 o23 o25 h
set_option maxRecDepth 65536 in
def m0_b554 (i22 : Int32) (i24 : Int32) (i25 : Int32) (a30 : Nat) (j31 : Int64) (t0 : Int64) (M : own_Mem) : Option (Int32 × own_Mem) := if i25 = 0 then (m0_b581 i22 i24 a30 t0 M) else ((m8 a30 i22 i24 (0 : Int32) M).bind fun q2 => if q2.1 = j31 then (m0_b582 i22 i24 a30 t0 (1 : Int32) q2.2) else (m0_b581 i22 i24 a30 t0 q2.2))
set_option maxRecDepth 65536 in
set_option maxHeartbeats 4000000 in
theorem m0_w554 {C : own_Ctx} (K : own_K C code maxLocals "com/example/tablewise/tablewise/estr2/PwsupAddPinLaw" ret "law" room_1) {i22 : Int32} {i24 : Int32} {i25 : Int32} {a30 : Nat} {j31 : Int64} {t0 : Int64} {z0 : Slot} {z1 : Slot} {z2 : Slot} {z3 : Slot} {z4 : Slot} {z5 : Slot} {z6 : Slot} {z7 : Slot} {z8 : Slot} {z9 : Slot} {z10 : Slot} {z11 : Slot} {z12 : Slot} {z13 : Slot} {z14 : Slot} {z15 : Slot} {z16 : Slot} {z17 : Slot} {z18 : Slot} {z19 : Slot} {z20 : Slot} {z21 : Slot} {z23 : Slot} {d26 : Int64} {d28 : Int64} (o0 : own_One z0) (o1 : own_One z1) (o2 : own_One z2) (o3 : own_One z3) (o4 : own_One z4) (o5 : own_One z5) (o6 : own_One z6) (o7 : own_One z7) (o8 : own_One z8) (o9 : own_One z9) (o10 : own_One z10) (o11 : own_One z11) (o12 : own_One z12) (o13 : own_One z13) (o14 : own_One z14) (o15 : own_One z15) (o16 : own_One z16) (o17 : own_One z17) (o18 : own_One z18) (o19 : own_One z19) (o20 : own_One z20) (o21 : own_One z21) (o23 : own_One z23) {M : own_Mem} {r : Int32 × own_Mem} (h : m0_b554 i22 i24 i25 a30 j31 t0 M = some r) : own_W C (some (.int r.1)) r.2 M 6 18 554 [z0, z1, z2, z3, z4, z5, z6, z7, z8, z9, z10, z11, z12, z13, z14, z15, z16, z17, z18, z19, z20, z21, .val (.int i22), z23, .val (.int i24), .val (.int i25), .val (.long d26), .second, .val (.long d28), .second, .val (.ref (own_n C + a30)), .val (.long j31), .second, .unset, .unset] [.long t0] := by
  unfold m0_b554 at h
  refine own_lstore K at_554 (Ls' := [z0, z1, z2, z3, z4, z5, z6, z7, z8, z9, z10, z11, z12, z13, z14, z15, z16, z17, z18, z19, z20, z21, .val (.int i22), z23, .val (.int i24), .val (.int i25), .val (.long d26), .second, .val (.long d28), .second, .val (.ref (own_n C + a30)), .val (.long j31), .second, .val (.long t0), .second]) rfl rfl ?_
  refine own_iload K at_556 rfl rfl ?_
  refine own_zeq K at_558 h (pc1 := 581) (pc2 := 561) (by decide) rfl (fun h => ?_) (fun h => ?_)
  · exact m0_w581 K o0 o1 o2 o3 o4 o5 o6 o7 o8 o9 o10 o11 o12 o13 o14 o15 o16 o17 o18 o19 o20 o21 o23 own_one_i h
  · refine own_aload K at_561 rfl rfl ?_
    refine own_iload K at_563 rfl rfl ?_
    refine own_iload K at_565 rfl rfl ?_
    refine own_iconst K at_567 own_ic0 rfl ?_
    refine own_bk h (fun q2 hq2 h => ?_)
    refine own_callS K at_568 own_w46 own_w47 own_w44 own_w48 (argsL := [.ref a30, .int i22, .int i24, .int (0 : Int32)]) (st := []) (by decide) (lenOf own_pd2 rfl) rfl (W := 0) (Nat.le_of_eq rfl) (by decide) (by decide) (cs1 := 6) (ss1 := 18) rfl rfl (by decide) (by decide) rfl rfl (m8_met hq2) (st1 := [.long q2.1]) rfl ?_
    refine own_lload K at_571 rfl rfl ?_
    refine own_cne K at_573 at_574 h (pc1 := 581) (pc2 := 577) rfl (by decide) rfl (fun h => ?_) (fun h => ?_)
    · exact m0_w581 K o0 o1 o2 o3 o4 o5 o6 o7 o8 o9 o10 o11 o12 o13 o14 o15 o16 o17 o18 o19 o20 o21 o23 own_one_i h
    · refine own_iconst K at_577 own_ic1 rfl ?_
      refine own_goto K at_578 (pc' := 582) (by decide) ?_
      exact m0_w582 K o0 o1 o2 o3 o4 o5 o6 o7 o8 o9 o10 o11 o12 o13 o14 o15 o16 o17 o18 o19 o20 o21 o23 own_one_i h
set_option maxRecDepth 65536 in
def m0_b537 (i10 : Int32) (i12 : Int32) (i22 : Int32) (i24 : Int32) (i25 : Int32) (a30 : Nat) (t0 : Int64) (M : own_Mem) : Option (Int32 × own_Mem) := if i10 = 0 then ((m11 i12 (1 : Int32) M).bind fun q3 => m0_b554 i22 i24 i25 a30 t0 q3.1 q3.2) else (m0_b554 i22 i24 i25 a30 t0 (0 : Int64) M)
set_option maxRecDepth 65536 in
set_option maxHeartbeats 4000000 in
theorem m0_w537 {C : own_Ctx} (K : own_K C code maxLocals "com/example/tablewise/tablewise/estr2/PwsupAddPinLaw" ret "law" room_1) {i10 : Int32} {i12 : Int32} {i22 : Int32} {i24 : Int32} {i25 : Int32} {a30 : Nat} {t0 : Int64} {z0 : Slot} {z1 : Slot} {z2 : Slot} {z3 : Slot} {z4 : Slot} {z5 : Slot} {z6 : Slot} {z7 : Slot} {z8 : Slot} {z9 : Slot} {z11 : Slot} {z13 : Slot} {z14 : Slot} {z15 : Slot} {z16 : Slot} {z17 : Slot} {z18 : Slot} {z19 : Slot} {z20 : Slot} {z21 : Slot} {z23 : Slot} {d26 : Int64} {d28 : Int64} (o0 : own_One z0) (o1 : own_One z1) (o2 : own_One z2) (o3 : own_One z3) (o4 : own_One z4) (o5 : own_One z5) (o6 : own_One z6) (o7 : own_One z7) (o8 : own_One z8) (o9 : own_One z9) (o11 : own_One z11) (o13 : own_One z13) (o14 : own_One z14) (o15 : own_One z15) (o16 : own_One z16) (o17 : own_One z17) (o18 : own_One z18) (o19 : own_One z19) (o20 : own_One z20) (o21 : own_One z21) (o23 : own_One z23) {M : own_Mem} {r : Int32 × own_Mem} (h : m0_b537 i10 i12 i22 i24 i25 a30 t0 M = some r) : own_W C (some (.int r.1)) r.2 M 6 18 537 [z0, z1, z2, z3, z4, z5, z6, z7, z8, z9, .val (.int i10), z11, .val (.int i12), z13, z14, z15, z16, z17, z18, z19, z20, z21, .val (.int i22), z23, .val (.int i24), .val (.int i25), .val (.long d26), .second, .val (.long d28), .second, .val (.ref (own_n C + a30)), .unset, .unset, .unset, .unset] [.long t0] := by
  unfold m0_b537 at h
  refine own_lstore K at_537 (Ls' := [z0, z1, z2, z3, z4, z5, z6, z7, z8, z9, .val (.int i10), z11, .val (.int i12), z13, z14, z15, z16, z17, z18, z19, z20, z21, .val (.int i22), z23, .val (.int i24), .val (.int i25), .val (.long d26), .second, .val (.long d28), .second, .val (.ref (own_n C + a30)), .val (.long t0), .second, .unset, .unset]) rfl rfl ?_
  refine own_iload K at_539 rfl rfl ?_
  refine own_zeq K at_541 h (pc1 := 548) (pc2 := 544) (by decide) rfl (fun h => ?_) (fun h => ?_)
  · refine own_iload K at_548 rfl rfl ?_
    refine own_iconst K at_550 own_ic1 rfl ?_
    refine own_bk h (fun q3 hq3 h => ?_)
    refine own_callS K at_551 own_w58 own_w59 own_w44 own_w60 (argsL := [.int i12, .int (1 : Int32)]) (st := []) (by decide) (lenOf own_pd3 rfl) rfl (W := 0) (Nat.le_of_eq rfl) (by decide) (by decide) (cs1 := 6) (ss1 := 18) rfl rfl (by decide) (by decide) rfl rfl (m11_met hq3) (st1 := [.long q3.1]) rfl ?_
    exact m0_w554 K o0 o1 o2 o3 o4 o5 o6 o7 o8 o9 own_one_i o11 own_one_i o13 o14 o15 o16 o17 o18 o19 o20 o21 o23 h
  · refine own_lconst K at_544 own_lc0 rfl ?_
    refine own_goto K at_545 (pc' := 554) (by decide) ?_
    exact m0_w554 K o0 o1 o2 o3 o4 o5 o6 o7 o8 o9 own_one_i o11 own_one_i o13 o14 o15 o16 o17 o18 o19 o20 o21 o23 h
set_option maxRecDepth 65536 in
def m0_b520 (i10 : Int32) (i12 : Int32) (i22 : Int32) (i24 : Int32) (a30 : Nat) (t0 : Int32) (M : own_Mem) : Option (Int32 × own_Mem) := if i10 = 0 then ((m11 i12 (0 : Int32) M).bind fun q4 => m0_b537 i10 i12 i22 i24 t0 a30 q4.1 q4.2) else (m0_b537 i10 i12 i22 i24 t0 a30 (0 : Int64) M)
set_option maxRecDepth 65536 in
set_option maxHeartbeats 4000000 in
theorem m0_w520 {C : own_Ctx} (K : own_K C code maxLocals "com/example/tablewise/tablewise/estr2/PwsupAddPinLaw" ret "law" room_1) {i10 : Int32} {i12 : Int32} {i22 : Int32} {i24 : Int32} {a30 : Nat} {t0 : Int32} {z0 : Slot} {z1 : Slot} {z2 : Slot} {z3 : Slot} {z4 : Slot} {z5 : Slot} {z6 : Slot} {z7 : Slot} {z8 : Slot} {z9 : Slot} {z11 : Slot} {z13 : Slot} {z14 : Slot} {z15 : Slot} {z16 : Slot} {z17 : Slot} {z18 : Slot} {z19 : Slot} {z20 : Slot} {z21 : Slot} {z23 : Slot} {z25 : Slot} {d26 : Int64} {d28 : Int64} (o0 : own_One z0) (o1 : own_One z1) (o2 : own_One z2) (o3 : own_One z3) (o4 : own_One z4) (o5 : own_One z5) (o6 : own_One z6) (o7 : own_One z7) (o8 : own_One z8) (o9 : own_One z9) (o11 : own_One z11) (o13 : own_One z13) (o14 : own_One z14) (o15 : own_One z15) (o16 : own_One z16) (o17 : own_One z17) (o18 : own_One z18) (o19 : own_One z19) (o20 : own_One z20) (o21 : own_One z21) (o23 : own_One z23) (o25 : own_One z25) {M : own_Mem} {r : Int32 × own_Mem} (h : m0_b520 i10 i12 i22 i24 a30 t0 M = some r) : own_W C (some (.int r.1)) r.2 M 6 18 520 [z0, z1, z2, z3, z4, z5, z6, z7, z8, z9, .val (.int i10), z11, .val (.int i12), z13, z14, z15, z16, z17, z18, z19, z20, z21, .val (.int i22), z23, .val (.int i24), z25, .val (.long d26), .second, .val (.long d28), .second, .val (.ref (own_n C + a30)), .unset, .unset, .unset, .unset] [.int t0] := by
  unfold m0_b520 at h
  refine own_istore K at_520 (Ls' := [z0, z1, z2, z3, z4, z5, z6, z7, z8, z9, .val (.int i10), z11, .val (.int i12), z13, z14, z15, z16, z17, z18, z19, z20, z21, .val (.int i22), z23, .val (.int i24), .val (.int t0), .val (.long d26), .second, .val (.long d28), .second, .val (.ref (own_n C + a30)), .unset, .unset, .unset, .unset]) (own_sto1 rfl o25 rfl rfl) rfl ?_
  refine own_iload K at_522 rfl rfl ?_
  refine own_zeq K at_524 h (pc1 := 531) (pc2 := 527) (by decide) rfl (fun h => ?_) (fun h => ?_)
  · refine own_iload K at_531 rfl rfl ?_
    refine own_iconst K at_533 own_ic0 rfl ?_
    refine own_bk h (fun q4 hq4 h => ?_)
    refine own_callS K at_534 own_w58 own_w59 own_w44 own_w60 (argsL := [.int i12, .int (0 : Int32)]) (st := []) (by decide) (lenOf own_pd3 rfl) rfl (W := 0) (Nat.le_of_eq rfl) (by decide) (by decide) (cs1 := 6) (ss1 := 18) rfl rfl (by decide) (by decide) rfl rfl (m11_met hq4) (st1 := [.long q4.1]) rfl ?_
    exact m0_w537 K o0 o1 o2 o3 o4 o5 o6 o7 o8 o9 o11 o13 o14 o15 o16 o17 o18 o19 o20 o21 o23 h
  · refine own_lconst K at_527 own_lc0 rfl ?_
    refine own_goto K at_528 (pc' := 537) (by decide) ?_
    exact m0_w537 K o0 o1 o2 o3 o4 o5 o6 o7 o8 o9 o11 o13 o14 o15 o16 o17 o18 o19 o20 o21 o23 h
set_option maxRecDepth 65536 in
def m0_b519 (i10 : Int32) (i12 : Int32) (i22 : Int32) (i24 : Int32) (a30 : Nat) (M : own_Mem) : Option (Int32 × own_Mem) := m0_b520 i10 i12 i22 i24 a30 (0 : Int32) M
set_option maxRecDepth 65536 in
set_option maxHeartbeats 4000000 in
theorem m0_w519 {C : own_Ctx} (K : own_K C code maxLocals "com/example/tablewise/tablewise/estr2/PwsupAddPinLaw" ret "law" room_1) {i10 : Int32} {i12 : Int32} {i22 : Int32} {i24 : Int32} {a30 : Nat} {z0 : Slot} {z1 : Slot} {z2 : Slot} {z3 : Slot} {z4 : Slot} {z5 : Slot} {z6 : Slot} {z7 : Slot} {z8 : Slot} {z9 : Slot} {z11 : Slot} {z13 : Slot} {z14 : Slot} {z15 : Slot} {z16 : Slot} {z17 : Slot} {z18 : Slot} {z19 : Slot} {z20 : Slot} {z21 : Slot} {z23 : Slot} {z25 : Slot} {d26 : Int64} {d28 : Int64} (o0 : own_One z0) (o1 : own_One z1) (o2 : own_One z2) (o3 : own_One z3) (o4 : own_One z4) (o5 : own_One z5) (o6 : own_One z6) (o7 : own_One z7) (o8 : own_One z8) (o9 : own_One z9) (o11 : own_One z11) (o13 : own_One z13) (o14 : own_One z14) (o15 : own_One z15) (o16 : own_One z16) (o17 : own_One z17) (o18 : own_One z18) (o19 : own_One z19) (o20 : own_One z20) (o21 : own_One z21) (o23 : own_One z23) (o25 : own_One z25) {M : own_Mem} {r : Int32 × own_Mem} (h : m0_b519 i10 i12 i22 i24 a30 M = some r) : own_W C (some (.int r.1)) r.2 M 6 18 519 [z0, z1, z2, z3, z4, z5, z6, z7, z8, z9, .val (.int i10), z11, .val (.int i12), z13, z14, z15, z16, z17, z18, z19, z20, z21, .val (.int i22), z23, .val (.int i24), z25, .val (.long d26), .second, .val (.long d28), .second, .val (.ref (own_n C + a30)), .unset, .unset, .unset, .unset] [] := by
  unfold m0_b519 at h
  refine own_iconst K at_519 own_ic0 rfl ?_
  exact m0_w520 K o0 o1 o2 o3 o4 o5 o6 o7 o8 o9 o11 o13 o14 o15 o16 o17 o18 o19 o20 o21 o23 o25 h
set_option maxRecDepth 65536 in
def m0_b493 (i10 : Int32) (i12 : Int32) (i21 : Int32) (i22 : Int32) (i23 : Int32) (i24 : Int32) (a30 : Nat) (t0 : Int32) (M : own_Mem) : Option (Int32 × own_Mem) := if t0 = 0 then (m0_b519 i10 i12 i22 i24 a30 M) else ((m8 a30 i21 i23 (1 : Int32) M).bind fun q5 => if q5.1 = (0 : Int64) then (m0_b520 i10 i12 i22 i24 a30 (1 : Int32) q5.2) else (m0_b519 i10 i12 i22 i24 a30 q5.2))
set_option maxRecDepth 65536 in
set_option maxHeartbeats 4000000 in
theorem m0_w493 {C : own_Ctx} (K : own_K C code maxLocals "com/example/tablewise/tablewise/estr2/PwsupAddPinLaw" ret "law" room_1) {i10 : Int32} {i12 : Int32} {i21 : Int32} {i22 : Int32} {i23 : Int32} {i24 : Int32} {a30 : Nat} {t0 : Int32} {z0 : Slot} {z1 : Slot} {z2 : Slot} {z3 : Slot} {z4 : Slot} {z5 : Slot} {z6 : Slot} {z7 : Slot} {z8 : Slot} {z9 : Slot} {z11 : Slot} {z13 : Slot} {z14 : Slot} {z15 : Slot} {z16 : Slot} {z17 : Slot} {z18 : Slot} {z19 : Slot} {z20 : Slot} {z25 : Slot} {d26 : Int64} {d28 : Int64} (o0 : own_One z0) (o1 : own_One z1) (o2 : own_One z2) (o3 : own_One z3) (o4 : own_One z4) (o5 : own_One z5) (o6 : own_One z6) (o7 : own_One z7) (o8 : own_One z8) (o9 : own_One z9) (o11 : own_One z11) (o13 : own_One z13) (o14 : own_One z14) (o15 : own_One z15) (o16 : own_One z16) (o17 : own_One z17) (o18 : own_One z18) (o19 : own_One z19) (o20 : own_One z20) (o25 : own_One z25) {M : own_Mem} {r : Int32 × own_Mem} (h : m0_b493 i10 i12 i21 i22 i23 i24 a30 t0 M = some r) : own_W C (some (.int r.1)) r.2 M 6 18 493 [z0, z1, z2, z3, z4, z5, z6, z7, z8, z9, .val (.int i10), z11, .val (.int i12), z13, z14, z15, z16, z17, z18, z19, z20, .val (.int i21), .val (.int i22), .val (.int i23), .val (.int i24), z25, .val (.long d26), .second, .val (.long d28), .second, .val (.ref (own_n C + a30)), .unset, .unset, .unset, .unset] [.int t0] := by
  unfold m0_b493 at h
  refine own_istore K at_493 (Ls' := [z0, z1, z2, z3, z4, z5, z6, z7, z8, z9, .val (.int i10), z11, .val (.int i12), z13, z14, z15, z16, z17, z18, z19, z20, .val (.int i21), .val (.int i22), .val (.int i23), .val (.int i24), .val (.int t0), .val (.long d26), .second, .val (.long d28), .second, .val (.ref (own_n C + a30)), .unset, .unset, .unset, .unset]) (own_sto1 rfl o25 rfl rfl) rfl ?_
  refine own_iload K at_495 rfl rfl ?_
  refine own_zeq K at_497 h (pc1 := 519) (pc2 := 500) (by decide) rfl (fun h => ?_) (fun h => ?_)
  · exact m0_w519 K o0 o1 o2 o3 o4 o5 o6 o7 o8 o9 o11 o13 o14 o15 o16 o17 o18 o19 o20 own_one_i own_one_i own_one_i h
  · refine own_aload K at_500 rfl rfl ?_
    refine own_iload K at_502 rfl rfl ?_
    refine own_iload K at_504 rfl rfl ?_
    refine own_iconst K at_506 own_ic1 rfl ?_
    refine own_bk h (fun q5 hq5 h => ?_)
    refine own_callS K at_507 own_w46 own_w47 own_w44 own_w48 (argsL := [.ref a30, .int i21, .int i23, .int (1 : Int32)]) (st := []) (by decide) (lenOf own_pd2 rfl) rfl (W := 0) (Nat.le_of_eq rfl) (by decide) (by decide) (cs1 := 6) (ss1 := 18) rfl rfl (by decide) (by decide) rfl rfl (m8_met hq5) (st1 := [.long q5.1]) rfl ?_
    refine own_lconst K at_510 own_lc0 rfl ?_
    refine own_cne K at_511 at_512 h (pc1 := 519) (pc2 := 515) rfl (by decide) rfl (fun h => ?_) (fun h => ?_)
    · exact m0_w519 K o0 o1 o2 o3 o4 o5 o6 o7 o8 o9 o11 o13 o14 o15 o16 o17 o18 o19 o20 own_one_i own_one_i own_one_i h
    · refine own_iconst K at_515 own_ic1 rfl ?_
      refine own_goto K at_516 (pc' := 520) (by decide) ?_
      exact m0_w520 K o0 o1 o2 o3 o4 o5 o6 o7 o8 o9 o11 o13 o14 o15 o16 o17 o18 o19 o20 own_one_i own_one_i own_one_i h
set_option maxRecDepth 65536 in
def m0_b492 (i10 : Int32) (i12 : Int32) (i21 : Int32) (i22 : Int32) (i23 : Int32) (i24 : Int32) (a30 : Nat) (M : own_Mem) : Option (Int32 × own_Mem) := m0_b493 i10 i12 i21 i22 i23 i24 a30 (0 : Int32) M
set_option maxRecDepth 65536 in
set_option maxHeartbeats 4000000 in
theorem m0_w492 {C : own_Ctx} (K : own_K C code maxLocals "com/example/tablewise/tablewise/estr2/PwsupAddPinLaw" ret "law" room_1) {i10 : Int32} {i12 : Int32} {i21 : Int32} {i22 : Int32} {i23 : Int32} {i24 : Int32} {a30 : Nat} {z0 : Slot} {z1 : Slot} {z2 : Slot} {z3 : Slot} {z4 : Slot} {z5 : Slot} {z6 : Slot} {z7 : Slot} {z8 : Slot} {z9 : Slot} {z11 : Slot} {z13 : Slot} {z14 : Slot} {z15 : Slot} {z16 : Slot} {z17 : Slot} {z18 : Slot} {z19 : Slot} {z20 : Slot} {z25 : Slot} {d26 : Int64} {d28 : Int64} (o0 : own_One z0) (o1 : own_One z1) (o2 : own_One z2) (o3 : own_One z3) (o4 : own_One z4) (o5 : own_One z5) (o6 : own_One z6) (o7 : own_One z7) (o8 : own_One z8) (o9 : own_One z9) (o11 : own_One z11) (o13 : own_One z13) (o14 : own_One z14) (o15 : own_One z15) (o16 : own_One z16) (o17 : own_One z17) (o18 : own_One z18) (o19 : own_One z19) (o20 : own_One z20) (o25 : own_One z25) {M : own_Mem} {r : Int32 × own_Mem} (h : m0_b492 i10 i12 i21 i22 i23 i24 a30 M = some r) : own_W C (some (.int r.1)) r.2 M 6 18 492 [z0, z1, z2, z3, z4, z5, z6, z7, z8, z9, .val (.int i10), z11, .val (.int i12), z13, z14, z15, z16, z17, z18, z19, z20, .val (.int i21), .val (.int i22), .val (.int i23), .val (.int i24), z25, .val (.long d26), .second, .val (.long d28), .second, .val (.ref (own_n C + a30)), .unset, .unset, .unset, .unset] [] := by
  unfold m0_b492 at h
  refine own_iconst K at_492 own_ic0 rfl ?_
  exact m0_w493 K o0 o1 o2 o3 o4 o5 o6 o7 o8 o9 o11 o13 o14 o15 o16 o17 o18 o19 o20 o25 h
set_option maxRecDepth 65536 in
def m0_b441 (i10 : Int32) (i12 : Int32) (a17 : Nat) (i19 : Int32) (i20 : Int32) (i21 : Int32) (i22 : Int32) (i23 : Int32) (i24 : Int32) (t0 : Int32) (M : own_Mem) : Option (Int32 × own_Mem) := (own_at M 0 a17).bind fun u7 => (m10 a17 M).bind fun q6 => (own_at q6.2 0 a17).bind fun u9 => (m6 a17 q6.2).bind fun q8 => (own_len 101 q8.2 q8.1).bind fun x10 => if x10 = (i19 + i20) then (if t0 = 0 then (m0_b492 i10 i12 i21 i22 i23 i24 q8.1 q8.2) else ((m8 q8.1 i21 i23 (0 : Int32) q8.2).bind fun q11 => if q11.1 = (0 : Int64) then (m0_b493 i10 i12 i21 i22 i23 i24 q8.1 (1 : Int32) q11.2) else (m0_b492 i10 i12 i21 i22 i23 i24 q8.1 q11.2))) else (some (nar .boolean (0 : Int32), q8.2))
set_option maxRecDepth 65536 in
set_option maxHeartbeats 4000000 in
theorem m0_w441 {C : own_Ctx} (K : own_K C code maxLocals "com/example/tablewise/tablewise/estr2/PwsupAddPinLaw" ret "law" room_1) {i10 : Int32} {i12 : Int32} {a17 : Nat} {i19 : Int32} {i20 : Int32} {i21 : Int32} {i22 : Int32} {i23 : Int32} {i24 : Int32} {t0 : Int32} {z0 : Slot} {z1 : Slot} {z2 : Slot} {z3 : Slot} {z4 : Slot} {z5 : Slot} {z6 : Slot} {z7 : Slot} {z8 : Slot} {z9 : Slot} {z11 : Slot} {z13 : Slot} {z14 : Slot} {z15 : Slot} {z16 : Slot} {z18 : Slot} {z25 : Slot} {d26 : Int64} {d28 : Int64} (o0 : own_One z0) (o1 : own_One z1) (o2 : own_One z2) (o3 : own_One z3) (o4 : own_One z4) (o5 : own_One z5) (o6 : own_One z6) (o7 : own_One z7) (o8 : own_One z8) (o9 : own_One z9) (o11 : own_One z11) (o13 : own_One z13) (o14 : own_One z14) (o15 : own_One z15) (o16 : own_One z16) (o18 : own_One z18) (o25 : own_One z25) {M : own_Mem} {r : Int32 × own_Mem} (h : m0_b441 i10 i12 a17 i19 i20 i21 i22 i23 i24 t0 M = some r) : own_W C (some (.int r.1)) r.2 M 6 18 441 [z0, z1, z2, z3, z4, z5, z6, z7, z8, z9, .val (.int i10), z11, .val (.int i12), z13, z14, z15, z16, .val (.ref (own_n C + a17)), z18, .val (.int i19), .val (.int i20), .val (.int i21), .val (.int i22), .val (.int i23), .val (.int i24), z25, .val (.long d26), .second, .val (.long d28), .second, .unset, .unset, .unset, .unset, .unset] [.int t0] := by
  unfold m0_b441 at h
  refine own_istore K at_441 (Ls' := [z0, z1, z2, z3, z4, z5, z6, z7, z8, z9, .val (.int i10), z11, .val (.int i12), z13, z14, z15, z16, .val (.ref (own_n C + a17)), z18, .val (.int i19), .val (.int i20), .val (.int i21), .val (.int i22), .val (.int i23), .val (.int i24), .val (.int t0), .val (.long d26), .second, .val (.long d28), .second, .unset, .unset, .unset, .unset, .unset]) (own_sto1 rfl o25 rfl rfl) rfl ?_
  refine own_aload K at_443 rfl rfl ?_
  refine own_bk h (fun u7 hu7 h => ?_)
  refine own_bk h (fun q6 hq6 h => ?_)
  refine own_callV K at_445 own_w52 own_w53 own_w55 own_w54 own_w4 own_w56 (own_cl0) hu7 (a := a17) (argsL := []) (st := []) (by decide) (lenOf own_pd4 rfl) rfl (W := 0) (Nat.le_of_eq rfl) (by decide) (by decide) (cs1 := 6) (ss1 := 18) rfl rfl (by decide) (by decide) rfl rfl (m10_met hq6) (st1 := []) rfl ?_
  refine own_aload K at_448 rfl rfl ?_
  refine own_bk h (fun u9 hu9 h => ?_)
  refine own_bk h (fun q8 hq8 h => ?_)
  refine own_callV K at_450 own_w37 own_w38 own_w40 own_w39 own_w4 own_w41 (own_cl0) hu9 (a := a17) (argsL := []) (st := []) (by decide) (lenOf own_pd5 rfl) rfl (W := 0) (Nat.le_of_eq rfl) (by decide) (by decide) (cs1 := 6) (ss1 := 18) rfl rfl (by decide) (by decide) rfl rfl (m6_met hq8) (st1 := [.ref (own_n C + q8.1)]) rfl ?_
  refine own_astore K at_453 (Ls' := [z0, z1, z2, z3, z4, z5, z6, z7, z8, z9, .val (.int i10), z11, .val (.int i12), z13, z14, z15, z16, .val (.ref (own_n C + a17)), z18, .val (.int i19), .val (.int i20), .val (.int i21), .val (.int i22), .val (.int i23), .val (.int i24), .val (.int t0), .val (.long d26), .second, .val (.long d28), .second, .val (.ref (own_n C + q8.1)), .unset, .unset, .unset, .unset]) rfl rfl ?_
  refine own_aload K at_455 rfl rfl ?_
  refine own_alen K at_457 (t := 101) rfl h rfl (fun x10 h => ?_)
  refine own_iload K at_458 rfl rfl ?_
  refine own_iload K at_460 rfl rfl ?_
  refine own_iadd K at_462 rfl ?_
  refine own_ieq K at_463 h (pc1 := 468) (pc2 := 466) (by decide) rfl (fun h => ?_) (fun h => ?_)
  · refine own_iload K at_468 rfl rfl ?_
    refine own_zeq K at_470 h (pc1 := 492) (pc2 := 473) (by decide) rfl (fun h => ?_) (fun h => ?_)
    · exact m0_w492 K o0 o1 o2 o3 o4 o5 o6 o7 o8 o9 o11 o13 o14 o15 o16 own_one_r o18 own_one_i own_one_i own_one_i h
    · refine own_aload K at_473 rfl rfl ?_
      refine own_iload K at_475 rfl rfl ?_
      refine own_iload K at_477 rfl rfl ?_
      refine own_iconst K at_479 own_ic0 rfl ?_
      refine own_bk h (fun q11 hq11 h => ?_)
      refine own_callS K at_480 own_w46 own_w47 own_w44 own_w48 (argsL := [.ref q8.1, .int i21, .int i23, .int (0 : Int32)]) (st := []) (by decide) (lenOf own_pd2 rfl) rfl (W := 0) (Nat.le_of_eq rfl) (by decide) (by decide) (cs1 := 6) (ss1 := 18) rfl rfl (by decide) (by decide) rfl rfl (m8_met hq11) (st1 := [.long q11.1]) rfl ?_
      refine own_lconst K at_483 own_lc0 rfl ?_
      refine own_cne K at_484 at_485 h (pc1 := 492) (pc2 := 488) rfl (by decide) rfl (fun h => ?_) (fun h => ?_)
      · exact m0_w492 K o0 o1 o2 o3 o4 o5 o6 o7 o8 o9 o11 o13 o14 o15 o16 own_one_r o18 own_one_i own_one_i own_one_i h
      · refine own_iconst K at_488 own_ic1 rfl ?_
        refine own_goto K at_489 (pc' := 493) (by decide) ?_
        exact m0_w493 K o0 o1 o2 o3 o4 o5 o6 o7 o8 o9 o11 o13 o14 o15 o16 own_one_r o18 own_one_i own_one_i own_one_i h
  · refine own_iconst K at_466 own_ic0 rfl ?_
    exact own_retN K at_467 (by simp) h
set_option maxRecDepth 65536 in
def m0_b440 (i10 : Int32) (i12 : Int32) (a17 : Nat) (i19 : Int32) (i20 : Int32) (i21 : Int32) (i22 : Int32) (i23 : Int32) (i24 : Int32) (M : own_Mem) : Option (Int32 × own_Mem) := m0_b441 i10 i12 a17 i19 i20 i21 i22 i23 i24 (0 : Int32) M
set_option maxRecDepth 65536 in
set_option maxHeartbeats 4000000 in
theorem m0_w440 {C : own_Ctx} (K : own_K C code maxLocals "com/example/tablewise/tablewise/estr2/PwsupAddPinLaw" ret "law" room_1) {i10 : Int32} {i12 : Int32} {a17 : Nat} {i19 : Int32} {i20 : Int32} {i21 : Int32} {i22 : Int32} {i23 : Int32} {i24 : Int32} {z0 : Slot} {z1 : Slot} {z2 : Slot} {z3 : Slot} {z4 : Slot} {z5 : Slot} {z6 : Slot} {z7 : Slot} {z8 : Slot} {z9 : Slot} {z11 : Slot} {z13 : Slot} {z14 : Slot} {z15 : Slot} {z16 : Slot} {z18 : Slot} {z25 : Slot} {d26 : Int64} {d28 : Int64} (o0 : own_One z0) (o1 : own_One z1) (o2 : own_One z2) (o3 : own_One z3) (o4 : own_One z4) (o5 : own_One z5) (o6 : own_One z6) (o7 : own_One z7) (o8 : own_One z8) (o9 : own_One z9) (o11 : own_One z11) (o13 : own_One z13) (o14 : own_One z14) (o15 : own_One z15) (o16 : own_One z16) (o18 : own_One z18) (o25 : own_One z25) {M : own_Mem} {r : Int32 × own_Mem} (h : m0_b440 i10 i12 a17 i19 i20 i21 i22 i23 i24 M = some r) : own_W C (some (.int r.1)) r.2 M 6 18 440 [z0, z1, z2, z3, z4, z5, z6, z7, z8, z9, .val (.int i10), z11, .val (.int i12), z13, z14, z15, z16, .val (.ref (own_n C + a17)), z18, .val (.int i19), .val (.int i20), .val (.int i21), .val (.int i22), .val (.int i23), .val (.int i24), z25, .val (.long d26), .second, .val (.long d28), .second, .unset, .unset, .unset, .unset, .unset] [] := by
  unfold m0_b440 at h
  refine own_iconst K at_440 own_ic0 rfl ?_
  exact m0_w441 K o0 o1 o2 o3 o4 o5 o6 o7 o8 o9 o11 o13 o14 o15 o16 o18 o25 h
set_option maxRecDepth 65536 in
def m0_b413 (i10 : Int32) (i12 : Int32) (a17 : Nat) (a18 : Nat) (i19 : Int32) (i20 : Int32) (i21 : Int32) (i22 : Int32) (i23 : Int32) (i24 : Int32) (j28 : Int64) (t0 : Int32) (M : own_Mem) : Option (Int32 × own_Mem) := if t0 = 0 then (m0_b440 i10 i12 a17 i19 i20 i21 i22 i23 i24 M) else ((m8 a18 i22 i24 (1 : Int32) M).bind fun q12 => if q12.1 = j28 then (m0_b441 i10 i12 a17 i19 i20 i21 i22 i23 i24 (1 : Int32) q12.2) else (m0_b440 i10 i12 a17 i19 i20 i21 i22 i23 i24 q12.2))
set_option maxRecDepth 65536 in
set_option maxHeartbeats 4000000 in
theorem m0_w413 {C : own_Ctx} (K : own_K C code maxLocals "com/example/tablewise/tablewise/estr2/PwsupAddPinLaw" ret "law" room_1) {i10 : Int32} {i12 : Int32} {a17 : Nat} {a18 : Nat} {i19 : Int32} {i20 : Int32} {i21 : Int32} {i22 : Int32} {i23 : Int32} {i24 : Int32} {j28 : Int64} {t0 : Int32} {z0 : Slot} {z1 : Slot} {z2 : Slot} {z3 : Slot} {z4 : Slot} {z5 : Slot} {z6 : Slot} {z7 : Slot} {z8 : Slot} {z9 : Slot} {z11 : Slot} {z13 : Slot} {z14 : Slot} {z15 : Slot} {z16 : Slot} {z25 : Slot} {d26 : Int64} (o0 : own_One z0) (o1 : own_One z1) (o2 : own_One z2) (o3 : own_One z3) (o4 : own_One z4) (o5 : own_One z5) (o6 : own_One z6) (o7 : own_One z7) (o8 : own_One z8) (o9 : own_One z9) (o11 : own_One z11) (o13 : own_One z13) (o14 : own_One z14) (o15 : own_One z15) (o16 : own_One z16) (o25 : own_One z25) {M : own_Mem} {r : Int32 × own_Mem} (h : m0_b413 i10 i12 a17 a18 i19 i20 i21 i22 i23 i24 j28 t0 M = some r) : own_W C (some (.int r.1)) r.2 M 6 18 413 [z0, z1, z2, z3, z4, z5, z6, z7, z8, z9, .val (.int i10), z11, .val (.int i12), z13, z14, z15, z16, .val (.ref (own_n C + a17)), .val (.ref (own_n C + a18)), .val (.int i19), .val (.int i20), .val (.int i21), .val (.int i22), .val (.int i23), .val (.int i24), z25, .val (.long d26), .second, .val (.long j28), .second, .unset, .unset, .unset, .unset, .unset] [.int t0] := by
  unfold m0_b413 at h
  refine own_istore K at_413 (Ls' := [z0, z1, z2, z3, z4, z5, z6, z7, z8, z9, .val (.int i10), z11, .val (.int i12), z13, z14, z15, z16, .val (.ref (own_n C + a17)), .val (.ref (own_n C + a18)), .val (.int i19), .val (.int i20), .val (.int i21), .val (.int i22), .val (.int i23), .val (.int i24), .val (.int t0), .val (.long d26), .second, .val (.long j28), .second, .unset, .unset, .unset, .unset, .unset]) (own_sto1 rfl o25 rfl rfl) rfl ?_
  refine own_iload K at_415 rfl rfl ?_
  refine own_zeq K at_417 h (pc1 := 440) (pc2 := 420) (by decide) rfl (fun h => ?_) (fun h => ?_)
  · exact m0_w440 K o0 o1 o2 o3 o4 o5 o6 o7 o8 o9 o11 o13 o14 o15 o16 own_one_r own_one_i h
  · refine own_aload K at_420 rfl rfl ?_
    refine own_iload K at_422 rfl rfl ?_
    refine own_iload K at_424 rfl rfl ?_
    refine own_iconst K at_426 own_ic1 rfl ?_
    refine own_bk h (fun q12 hq12 h => ?_)
    refine own_callS K at_427 own_w46 own_w47 own_w44 own_w48 (argsL := [.ref a18, .int i22, .int i24, .int (1 : Int32)]) (st := []) (by decide) (lenOf own_pd2 rfl) rfl (W := 0) (Nat.le_of_eq rfl) (by decide) (by decide) (cs1 := 6) (ss1 := 18) rfl rfl (by decide) (by decide) rfl rfl (m8_met hq12) (st1 := [.long q12.1]) rfl ?_
    refine own_lload K at_430 rfl rfl ?_
    refine own_cne K at_432 at_433 h (pc1 := 440) (pc2 := 436) rfl (by decide) rfl (fun h => ?_) (fun h => ?_)
    · exact m0_w440 K o0 o1 o2 o3 o4 o5 o6 o7 o8 o9 o11 o13 o14 o15 o16 own_one_r own_one_i h
    · refine own_iconst K at_436 own_ic1 rfl ?_
      refine own_goto K at_437 (pc' := 441) (by decide) ?_
      exact m0_w441 K o0 o1 o2 o3 o4 o5 o6 o7 o8 o9 o11 o13 o14 o15 o16 own_one_r own_one_i h
set_option maxRecDepth 65536 in
def m0_b412 (i10 : Int32) (i12 : Int32) (a17 : Nat) (a18 : Nat) (i19 : Int32) (i20 : Int32) (i21 : Int32) (i22 : Int32) (i23 : Int32) (i24 : Int32) (j28 : Int64) (M : own_Mem) : Option (Int32 × own_Mem) := m0_b413 i10 i12 a17 a18 i19 i20 i21 i22 i23 i24 j28 (0 : Int32) M
set_option maxRecDepth 65536 in
set_option maxHeartbeats 4000000 in
theorem m0_w412 {C : own_Ctx} (K : own_K C code maxLocals "com/example/tablewise/tablewise/estr2/PwsupAddPinLaw" ret "law" room_1) {i10 : Int32} {i12 : Int32} {a17 : Nat} {a18 : Nat} {i19 : Int32} {i20 : Int32} {i21 : Int32} {i22 : Int32} {i23 : Int32} {i24 : Int32} {j28 : Int64} {z0 : Slot} {z1 : Slot} {z2 : Slot} {z3 : Slot} {z4 : Slot} {z5 : Slot} {z6 : Slot} {z7 : Slot} {z8 : Slot} {z9 : Slot} {z11 : Slot} {z13 : Slot} {z14 : Slot} {z15 : Slot} {z16 : Slot} {z25 : Slot} {d26 : Int64} (o0 : own_One z0) (o1 : own_One z1) (o2 : own_One z2) (o3 : own_One z3) (o4 : own_One z4) (o5 : own_One z5) (o6 : own_One z6) (o7 : own_One z7) (o8 : own_One z8) (o9 : own_One z9) (o11 : own_One z11) (o13 : own_One z13) (o14 : own_One z14) (o15 : own_One z15) (o16 : own_One z16) (o25 : own_One z25) {M : own_Mem} {r : Int32 × own_Mem} (h : m0_b412 i10 i12 a17 a18 i19 i20 i21 i22 i23 i24 j28 M = some r) : own_W C (some (.int r.1)) r.2 M 6 18 412 [z0, z1, z2, z3, z4, z5, z6, z7, z8, z9, .val (.int i10), z11, .val (.int i12), z13, z14, z15, z16, .val (.ref (own_n C + a17)), .val (.ref (own_n C + a18)), .val (.int i19), .val (.int i20), .val (.int i21), .val (.int i22), .val (.int i23), .val (.int i24), z25, .val (.long d26), .second, .val (.long j28), .second, .unset, .unset, .unset, .unset, .unset] [] := by
  unfold m0_b412 at h
  refine own_iconst K at_412 own_ic0 rfl ?_
  exact m0_w413 K o0 o1 o2 o3 o4 o5 o6 o7 o8 o9 o11 o13 o14 o15 o16 o25 h
set_option maxRecDepth 65536 in
def m0_b385 (i10 : Int32) (i12 : Int32) (a17 : Nat) (a18 : Nat) (i19 : Int32) (i20 : Int32) (i21 : Int32) (i22 : Int32) (i23 : Int32) (i24 : Int32) (i25 : Int32) (j26 : Int64) (t0 : Int64) (M : own_Mem) : Option (Int32 × own_Mem) := if i25 = 0 then (m0_b412 i10 i12 a17 a18 i19 i20 i21 i22 i23 i24 t0 M) else ((m8 a18 i22 i24 (0 : Int32) M).bind fun q13 => if q13.1 = j26 then (m0_b413 i10 i12 a17 a18 i19 i20 i21 i22 i23 i24 t0 (1 : Int32) q13.2) else (m0_b412 i10 i12 a17 a18 i19 i20 i21 i22 i23 i24 t0 q13.2))
set_option maxRecDepth 65536 in
set_option maxHeartbeats 4000000 in
theorem m0_w385 {C : own_Ctx} (K : own_K C code maxLocals "com/example/tablewise/tablewise/estr2/PwsupAddPinLaw" ret "law" room_1) {i10 : Int32} {i12 : Int32} {a17 : Nat} {a18 : Nat} {i19 : Int32} {i20 : Int32} {i21 : Int32} {i22 : Int32} {i23 : Int32} {i24 : Int32} {i25 : Int32} {j26 : Int64} {t0 : Int64} {z0 : Slot} {z1 : Slot} {z2 : Slot} {z3 : Slot} {z4 : Slot} {z5 : Slot} {z6 : Slot} {z7 : Slot} {z8 : Slot} {z9 : Slot} {z11 : Slot} {z13 : Slot} {z14 : Slot} {z15 : Slot} {z16 : Slot} (o0 : own_One z0) (o1 : own_One z1) (o2 : own_One z2) (o3 : own_One z3) (o4 : own_One z4) (o5 : own_One z5) (o6 : own_One z6) (o7 : own_One z7) (o8 : own_One z8) (o9 : own_One z9) (o11 : own_One z11) (o13 : own_One z13) (o14 : own_One z14) (o15 : own_One z15) (o16 : own_One z16) {M : own_Mem} {r : Int32 × own_Mem} (h : m0_b385 i10 i12 a17 a18 i19 i20 i21 i22 i23 i24 i25 j26 t0 M = some r) : own_W C (some (.int r.1)) r.2 M 6 18 385 [z0, z1, z2, z3, z4, z5, z6, z7, z8, z9, .val (.int i10), z11, .val (.int i12), z13, z14, z15, z16, .val (.ref (own_n C + a17)), .val (.ref (own_n C + a18)), .val (.int i19), .val (.int i20), .val (.int i21), .val (.int i22), .val (.int i23), .val (.int i24), .val (.int i25), .val (.long j26), .second, .unset, .unset, .unset, .unset, .unset, .unset, .unset] [.long t0] := by
  unfold m0_b385 at h
  refine own_lstore K at_385 (Ls' := [z0, z1, z2, z3, z4, z5, z6, z7, z8, z9, .val (.int i10), z11, .val (.int i12), z13, z14, z15, z16, .val (.ref (own_n C + a17)), .val (.ref (own_n C + a18)), .val (.int i19), .val (.int i20), .val (.int i21), .val (.int i22), .val (.int i23), .val (.int i24), .val (.int i25), .val (.long j26), .second, .val (.long t0), .second, .unset, .unset, .unset, .unset, .unset]) rfl rfl ?_
  refine own_iload K at_387 rfl rfl ?_
  refine own_zeq K at_389 h (pc1 := 412) (pc2 := 392) (by decide) rfl (fun h => ?_) (fun h => ?_)
  · exact m0_w412 K o0 o1 o2 o3 o4 o5 o6 o7 o8 o9 o11 o13 o14 o15 o16 own_one_i h
  · refine own_aload K at_392 rfl rfl ?_
    refine own_iload K at_394 rfl rfl ?_
    refine own_iload K at_396 rfl rfl ?_
    refine own_iconst K at_398 own_ic0 rfl ?_
    refine own_bk h (fun q13 hq13 h => ?_)
    refine own_callS K at_399 own_w46 own_w47 own_w44 own_w48 (argsL := [.ref a18, .int i22, .int i24, .int (0 : Int32)]) (st := []) (by decide) (lenOf own_pd2 rfl) rfl (W := 0) (Nat.le_of_eq rfl) (by decide) (by decide) (cs1 := 6) (ss1 := 18) rfl rfl (by decide) (by decide) rfl rfl (m8_met hq13) (st1 := [.long q13.1]) rfl ?_
    refine own_lload K at_402 rfl rfl ?_
    refine own_cne K at_404 at_405 h (pc1 := 412) (pc2 := 408) rfl (by decide) rfl (fun h => ?_) (fun h => ?_)
    · exact m0_w412 K o0 o1 o2 o3 o4 o5 o6 o7 o8 o9 o11 o13 o14 o15 o16 own_one_i h
    · refine own_iconst K at_408 own_ic1 rfl ?_
      refine own_goto K at_409 (pc' := 413) (by decide) ?_
      exact m0_w413 K o0 o1 o2 o3 o4 o5 o6 o7 o8 o9 o11 o13 o14 o15 o16 own_one_i h
set_option maxRecDepth 65536 in
def m0_b363 (i10 : Int32) (i12 : Int32) (i15 : Int32) (a17 : Nat) (a18 : Nat) (i19 : Int32) (i20 : Int32) (i21 : Int32) (i22 : Int32) (i23 : Int32) (i24 : Int32) (i25 : Int32) (t0 : Int64) (M : own_Mem) : Option (Int32 × own_Mem) := if i10 = 0 then ((m11 i12 (1 : Int32) M).bind fun q14 => m0_b385 i10 i12 a17 a18 i19 i20 i21 i22 i23 i24 i25 t0 q14.1 q14.2) else ((m9 i15 (1 : Int32) M).bind fun q15 => m0_b385 i10 i12 a17 a18 i19 i20 i21 i22 i23 i24 i25 t0 q15.1 q15.2)
set_option maxRecDepth 65536 in
set_option maxHeartbeats 4000000 in
theorem m0_w363 {C : own_Ctx} (K : own_K C code maxLocals "com/example/tablewise/tablewise/estr2/PwsupAddPinLaw" ret "law" room_1) {i10 : Int32} {i12 : Int32} {i15 : Int32} {a17 : Nat} {a18 : Nat} {i19 : Int32} {i20 : Int32} {i21 : Int32} {i22 : Int32} {i23 : Int32} {i24 : Int32} {i25 : Int32} {t0 : Int64} {z0 : Slot} {z1 : Slot} {z2 : Slot} {z3 : Slot} {z4 : Slot} {z5 : Slot} {z6 : Slot} {z7 : Slot} {z8 : Slot} {z9 : Slot} {z11 : Slot} {z13 : Slot} {z14 : Slot} {z16 : Slot} (o0 : own_One z0) (o1 : own_One z1) (o2 : own_One z2) (o3 : own_One z3) (o4 : own_One z4) (o5 : own_One z5) (o6 : own_One z6) (o7 : own_One z7) (o8 : own_One z8) (o9 : own_One z9) (o11 : own_One z11) (o13 : own_One z13) (o14 : own_One z14) (o16 : own_One z16) {M : own_Mem} {r : Int32 × own_Mem} (h : m0_b363 i10 i12 i15 a17 a18 i19 i20 i21 i22 i23 i24 i25 t0 M = some r) : own_W C (some (.int r.1)) r.2 M 6 18 363 [z0, z1, z2, z3, z4, z5, z6, z7, z8, z9, .val (.int i10), z11, .val (.int i12), z13, z14, .val (.int i15), z16, .val (.ref (own_n C + a17)), .val (.ref (own_n C + a18)), .val (.int i19), .val (.int i20), .val (.int i21), .val (.int i22), .val (.int i23), .val (.int i24), .val (.int i25), .unset, .unset, .unset, .unset, .unset, .unset, .unset, .unset, .unset] [.long t0] := by
  unfold m0_b363 at h
  refine own_lstore K at_363 (Ls' := [z0, z1, z2, z3, z4, z5, z6, z7, z8, z9, .val (.int i10), z11, .val (.int i12), z13, z14, .val (.int i15), z16, .val (.ref (own_n C + a17)), .val (.ref (own_n C + a18)), .val (.int i19), .val (.int i20), .val (.int i21), .val (.int i22), .val (.int i23), .val (.int i24), .val (.int i25), .val (.long t0), .second, .unset, .unset, .unset, .unset, .unset, .unset, .unset]) rfl rfl ?_
  refine own_iload K at_365 rfl rfl ?_
  refine own_zeq K at_367 h (pc1 := 379) (pc2 := 370) (by decide) rfl (fun h => ?_) (fun h => ?_)
  · refine own_iload K at_379 rfl rfl ?_
    refine own_iconst K at_381 own_ic1 rfl ?_
    refine own_bk h (fun q14 hq14 h => ?_)
    refine own_callS K at_382 own_w58 own_w59 own_w44 own_w60 (argsL := [.int i12, .int (1 : Int32)]) (st := []) (by decide) (lenOf own_pd3 rfl) rfl (W := 0) (Nat.le_of_eq rfl) (by decide) (by decide) (cs1 := 6) (ss1 := 18) rfl rfl (by decide) (by decide) rfl rfl (m11_met hq14) (st1 := [.long q14.1]) rfl ?_
    exact m0_w385 K o0 o1 o2 o3 o4 o5 o6 o7 o8 o9 o11 o13 o14 own_one_i o16 h
  · refine own_iload K at_370 rfl rfl ?_
    refine own_iconst K at_372 own_ic1 rfl ?_
    refine own_bk h (fun q15 hq15 h => ?_)
    refine own_callS K at_373 own_w49 own_w50 own_w44 own_w51 (argsL := [.int i15, .int (1 : Int32)]) (st := []) (by decide) (lenOf own_pd3 rfl) rfl (W := 0) (Nat.le_of_eq rfl) (by decide) (by decide) (cs1 := 6) (ss1 := 18) rfl rfl (by decide) (by decide) rfl rfl (m9_met hq15) (st1 := [.long q15.1]) rfl ?_
    refine own_goto K at_376 (pc' := 385) (by decide) ?_
    exact m0_w385 K o0 o1 o2 o3 o4 o5 o6 o7 o8 o9 o11 o13 o14 own_one_i o16 h
set_option maxRecDepth 65536 in
def m0_b341 (i10 : Int32) (i12 : Int32) (i15 : Int32) (a17 : Nat) (a18 : Nat) (i19 : Int32) (i20 : Int32) (i21 : Int32) (i22 : Int32) (i23 : Int32) (i24 : Int32) (t0 : Int32) (M : own_Mem) : Option (Int32 × own_Mem) := if i10 = 0 then ((m11 i12 (0 : Int32) M).bind fun q16 => m0_b363 i10 i12 i15 a17 a18 i19 i20 i21 i22 i23 i24 t0 q16.1 q16.2) else ((m9 i15 (0 : Int32) M).bind fun q17 => m0_b363 i10 i12 i15 a17 a18 i19 i20 i21 i22 i23 i24 t0 q17.1 q17.2)
set_option maxRecDepth 65536 in
set_option maxHeartbeats 4000000 in
theorem m0_w341 {C : own_Ctx} (K : own_K C code maxLocals "com/example/tablewise/tablewise/estr2/PwsupAddPinLaw" ret "law" room_1) {i10 : Int32} {i12 : Int32} {i15 : Int32} {a17 : Nat} {a18 : Nat} {i19 : Int32} {i20 : Int32} {i21 : Int32} {i22 : Int32} {i23 : Int32} {i24 : Int32} {t0 : Int32} {z0 : Slot} {z1 : Slot} {z2 : Slot} {z3 : Slot} {z4 : Slot} {z5 : Slot} {z6 : Slot} {z7 : Slot} {z8 : Slot} {z9 : Slot} {z11 : Slot} {z13 : Slot} {z14 : Slot} {z16 : Slot} {z25 : Slot} (o0 : own_One z0) (o1 : own_One z1) (o2 : own_One z2) (o3 : own_One z3) (o4 : own_One z4) (o5 : own_One z5) (o6 : own_One z6) (o7 : own_One z7) (o8 : own_One z8) (o9 : own_One z9) (o11 : own_One z11) (o13 : own_One z13) (o14 : own_One z14) (o16 : own_One z16) (o25 : own_One z25) {M : own_Mem} {r : Int32 × own_Mem} (h : m0_b341 i10 i12 i15 a17 a18 i19 i20 i21 i22 i23 i24 t0 M = some r) : own_W C (some (.int r.1)) r.2 M 6 18 341 [z0, z1, z2, z3, z4, z5, z6, z7, z8, z9, .val (.int i10), z11, .val (.int i12), z13, z14, .val (.int i15), z16, .val (.ref (own_n C + a17)), .val (.ref (own_n C + a18)), .val (.int i19), .val (.int i20), .val (.int i21), .val (.int i22), .val (.int i23), .val (.int i24), z25, .unset, .unset, .unset, .unset, .unset, .unset, .unset, .unset, .unset] [.int t0] := by
  unfold m0_b341 at h
  refine own_istore K at_341 (Ls' := [z0, z1, z2, z3, z4, z5, z6, z7, z8, z9, .val (.int i10), z11, .val (.int i12), z13, z14, .val (.int i15), z16, .val (.ref (own_n C + a17)), .val (.ref (own_n C + a18)), .val (.int i19), .val (.int i20), .val (.int i21), .val (.int i22), .val (.int i23), .val (.int i24), .val (.int t0), .unset, .unset, .unset, .unset, .unset, .unset, .unset, .unset, .unset]) (own_sto1 rfl o25 rfl rfl) rfl ?_
  refine own_iload K at_343 rfl rfl ?_
  refine own_zeq K at_345 h (pc1 := 357) (pc2 := 348) (by decide) rfl (fun h => ?_) (fun h => ?_)
  · refine own_iload K at_357 rfl rfl ?_
    refine own_iconst K at_359 own_ic0 rfl ?_
    refine own_bk h (fun q16 hq16 h => ?_)
    refine own_callS K at_360 own_w58 own_w59 own_w44 own_w60 (argsL := [.int i12, .int (0 : Int32)]) (st := []) (by decide) (lenOf own_pd3 rfl) rfl (W := 0) (Nat.le_of_eq rfl) (by decide) (by decide) (cs1 := 6) (ss1 := 18) rfl rfl (by decide) (by decide) rfl rfl (m11_met hq16) (st1 := [.long q16.1]) rfl ?_
    exact m0_w363 K o0 o1 o2 o3 o4 o5 o6 o7 o8 o9 o11 o13 o14 o16 h
  · refine own_iload K at_348 rfl rfl ?_
    refine own_iconst K at_350 own_ic0 rfl ?_
    refine own_bk h (fun q17 hq17 h => ?_)
    refine own_callS K at_351 own_w49 own_w50 own_w44 own_w51 (argsL := [.int i15, .int (0 : Int32)]) (st := []) (by decide) (lenOf own_pd3 rfl) rfl (W := 0) (Nat.le_of_eq rfl) (by decide) (by decide) (cs1 := 6) (ss1 := 18) rfl rfl (by decide) (by decide) rfl rfl (m9_met hq17) (st1 := [.long q17.1]) rfl ?_
    refine own_goto K at_354 (pc' := 363) (by decide) ?_
    exact m0_w363 K o0 o1 o2 o3 o4 o5 o6 o7 o8 o9 o11 o13 o14 o16 h
set_option maxRecDepth 65536 in
def m0_b340 (i10 : Int32) (i12 : Int32) (i15 : Int32) (a17 : Nat) (a18 : Nat) (i19 : Int32) (i20 : Int32) (i21 : Int32) (i22 : Int32) (i23 : Int32) (i24 : Int32) (M : own_Mem) : Option (Int32 × own_Mem) := m0_b341 i10 i12 i15 a17 a18 i19 i20 i21 i22 i23 i24 (0 : Int32) M
set_option maxRecDepth 65536 in
set_option maxHeartbeats 4000000 in
theorem m0_w340 {C : own_Ctx} (K : own_K C code maxLocals "com/example/tablewise/tablewise/estr2/PwsupAddPinLaw" ret "law" room_1) {i10 : Int32} {i12 : Int32} {i15 : Int32} {a17 : Nat} {a18 : Nat} {i19 : Int32} {i20 : Int32} {i21 : Int32} {i22 : Int32} {i23 : Int32} {i24 : Int32} {z0 : Slot} {z1 : Slot} {z2 : Slot} {z3 : Slot} {z4 : Slot} {z5 : Slot} {z6 : Slot} {z7 : Slot} {z8 : Slot} {z9 : Slot} {z11 : Slot} {z13 : Slot} {z14 : Slot} {z16 : Slot} {z25 : Slot} (o0 : own_One z0) (o1 : own_One z1) (o2 : own_One z2) (o3 : own_One z3) (o4 : own_One z4) (o5 : own_One z5) (o6 : own_One z6) (o7 : own_One z7) (o8 : own_One z8) (o9 : own_One z9) (o11 : own_One z11) (o13 : own_One z13) (o14 : own_One z14) (o16 : own_One z16) (o25 : own_One z25) {M : own_Mem} {r : Int32 × own_Mem} (h : m0_b340 i10 i12 i15 a17 a18 i19 i20 i21 i22 i23 i24 M = some r) : own_W C (some (.int r.1)) r.2 M 6 18 340 [z0, z1, z2, z3, z4, z5, z6, z7, z8, z9, .val (.int i10), z11, .val (.int i12), z13, z14, .val (.int i15), z16, .val (.ref (own_n C + a17)), .val (.ref (own_n C + a18)), .val (.int i19), .val (.int i20), .val (.int i21), .val (.int i22), .val (.int i23), .val (.int i24), z25, .unset, .unset, .unset, .unset, .unset, .unset, .unset, .unset, .unset] [] := by
  unfold m0_b340 at h
  refine own_iconst K at_340 own_ic0 rfl ?_
  exact m0_w341 K o0 o1 o2 o3 o4 o5 o6 o7 o8 o9 o11 o13 o14 o16 o25 h
set_option maxRecDepth 65536 in
def m0_b302 (i10 : Int32) (i12 : Int32) (i13 : Int32) (i14 : Int32) (i15 : Int32) (a17 : Nat) (a18 : Nat) (i19 : Int32) (i20 : Int32) (i21 : Int32) (i22 : Int32) (i23 : Int32) (i24 : Int32) (t0 : Int32) (M : own_Mem) : Option (Int32 × own_Mem) := if t0 = 0 then (m0_b340 i10 i12 i15 a17 a18 i19 i20 i21 i22 i23 i24 M) else ((m8 a18 i21 i23 (1 : Int32) M).bind fun q18 => (m9 i13 (1 : Int32) q18.2).bind fun q19 => (m9 i14 (1 : Int32) q19.2).bind fun q20 => if q18.1 = (q19.1 ||| q20.1) then (m0_b341 i10 i12 i15 a17 a18 i19 i20 i21 i22 i23 i24 (1 : Int32) q20.2) else (m0_b340 i10 i12 i15 a17 a18 i19 i20 i21 i22 i23 i24 q20.2))
set_option maxRecDepth 65536 in
set_option maxHeartbeats 4000000 in
theorem m0_w302 {C : own_Ctx} (K : own_K C code maxLocals "com/example/tablewise/tablewise/estr2/PwsupAddPinLaw" ret "law" room_1) {i10 : Int32} {i12 : Int32} {i13 : Int32} {i14 : Int32} {i15 : Int32} {a17 : Nat} {a18 : Nat} {i19 : Int32} {i20 : Int32} {i21 : Int32} {i22 : Int32} {i23 : Int32} {i24 : Int32} {t0 : Int32} {z0 : Slot} {z1 : Slot} {z2 : Slot} {z3 : Slot} {z4 : Slot} {z5 : Slot} {z6 : Slot} {z7 : Slot} {z8 : Slot} {z9 : Slot} {z11 : Slot} {z16 : Slot} {z25 : Slot} (o0 : own_One z0) (o1 : own_One z1) (o2 : own_One z2) (o3 : own_One z3) (o4 : own_One z4) (o5 : own_One z5) (o6 : own_One z6) (o7 : own_One z7) (o8 : own_One z8) (o9 : own_One z9) (o11 : own_One z11) (o16 : own_One z16) (o25 : own_One z25) {M : own_Mem} {r : Int32 × own_Mem} (h : m0_b302 i10 i12 i13 i14 i15 a17 a18 i19 i20 i21 i22 i23 i24 t0 M = some r) : own_W C (some (.int r.1)) r.2 M 6 18 302 [z0, z1, z2, z3, z4, z5, z6, z7, z8, z9, .val (.int i10), z11, .val (.int i12), .val (.int i13), .val (.int i14), .val (.int i15), z16, .val (.ref (own_n C + a17)), .val (.ref (own_n C + a18)), .val (.int i19), .val (.int i20), .val (.int i21), .val (.int i22), .val (.int i23), .val (.int i24), z25, .unset, .unset, .unset, .unset, .unset, .unset, .unset, .unset, .unset] [.int t0] := by
  unfold m0_b302 at h
  refine own_istore K at_302 (Ls' := [z0, z1, z2, z3, z4, z5, z6, z7, z8, z9, .val (.int i10), z11, .val (.int i12), .val (.int i13), .val (.int i14), .val (.int i15), z16, .val (.ref (own_n C + a17)), .val (.ref (own_n C + a18)), .val (.int i19), .val (.int i20), .val (.int i21), .val (.int i22), .val (.int i23), .val (.int i24), .val (.int t0), .unset, .unset, .unset, .unset, .unset, .unset, .unset, .unset, .unset]) (own_sto1 rfl o25 rfl rfl) rfl ?_
  refine own_iload K at_304 rfl rfl ?_
  refine own_zeq K at_306 h (pc1 := 340) (pc2 := 309) (by decide) rfl (fun h => ?_) (fun h => ?_)
  · exact m0_w340 K o0 o1 o2 o3 o4 o5 o6 o7 o8 o9 o11 own_one_i own_one_i o16 own_one_i h
  · refine own_aload K at_309 rfl rfl ?_
    refine own_iload K at_311 rfl rfl ?_
    refine own_iload K at_313 rfl rfl ?_
    refine own_iconst K at_315 own_ic1 rfl ?_
    refine own_bk h (fun q18 hq18 h => ?_)
    refine own_callS K at_316 own_w46 own_w47 own_w44 own_w48 (argsL := [.ref a18, .int i21, .int i23, .int (1 : Int32)]) (st := []) (by decide) (lenOf own_pd2 rfl) rfl (W := 0) (Nat.le_of_eq rfl) (by decide) (by decide) (cs1 := 6) (ss1 := 18) rfl rfl (by decide) (by decide) rfl rfl (m8_met hq18) (st1 := [.long q18.1]) rfl ?_
    refine own_iload K at_319 rfl rfl ?_
    refine own_iconst K at_321 own_ic1 rfl ?_
    refine own_bk h (fun q19 hq19 h => ?_)
    refine own_callS K at_322 own_w49 own_w50 own_w44 own_w51 (argsL := [.int i13, .int (1 : Int32)]) (st := [.long q18.1]) (by decide) (lenOf own_pd3 rfl) rfl (W := 2) (Nat.le_of_eq rfl) (by decide) (by decide) (cs1 := 6) (ss1 := 18) rfl rfl (by decide) (by decide) rfl rfl (m9_met hq19) (st1 := [.long q19.1, .long q18.1]) rfl ?_
    refine own_iload K at_325 rfl rfl ?_
    refine own_iconst K at_327 own_ic1 rfl ?_
    refine own_bk h (fun q20 hq20 h => ?_)
    refine own_callS K at_328 own_w49 own_w50 own_w44 own_w51 (argsL := [.int i14, .int (1 : Int32)]) (st := [.long q19.1, .long q18.1]) (by decide) (lenOf own_pd3 rfl) rfl (W := 4) (Nat.le_of_eq rfl) (by decide) (by decide) (cs1 := 6) (ss1 := 18) rfl rfl (by decide) (by decide) rfl rfl (m9_met hq20) (st1 := [.long q20.1, .long q19.1, .long q18.1]) rfl ?_
    refine own_lor K at_331 rfl ?_
    refine own_cne K at_332 at_333 h (pc1 := 340) (pc2 := 336) rfl (by decide) rfl (fun h => ?_) (fun h => ?_)
    · exact m0_w340 K o0 o1 o2 o3 o4 o5 o6 o7 o8 o9 o11 own_one_i own_one_i o16 own_one_i h
    · refine own_iconst K at_336 own_ic1 rfl ?_
      refine own_goto K at_337 (pc' := 341) (by decide) ?_
      exact m0_w341 K o0 o1 o2 o3 o4 o5 o6 o7 o8 o9 o11 own_one_i own_one_i o16 own_one_i h
set_option maxRecDepth 65536 in
def m0_b301 (i10 : Int32) (i12 : Int32) (i13 : Int32) (i14 : Int32) (i15 : Int32) (a17 : Nat) (a18 : Nat) (i19 : Int32) (i20 : Int32) (i21 : Int32) (i22 : Int32) (i23 : Int32) (i24 : Int32) (M : own_Mem) : Option (Int32 × own_Mem) := m0_b302 i10 i12 i13 i14 i15 a17 a18 i19 i20 i21 i22 i23 i24 (0 : Int32) M
set_option maxRecDepth 65536 in
set_option maxHeartbeats 4000000 in
theorem m0_w301 {C : own_Ctx} (K : own_K C code maxLocals "com/example/tablewise/tablewise/estr2/PwsupAddPinLaw" ret "law" room_1) {i10 : Int32} {i12 : Int32} {i13 : Int32} {i14 : Int32} {i15 : Int32} {a17 : Nat} {a18 : Nat} {i19 : Int32} {i20 : Int32} {i21 : Int32} {i22 : Int32} {i23 : Int32} {i24 : Int32} {z0 : Slot} {z1 : Slot} {z2 : Slot} {z3 : Slot} {z4 : Slot} {z5 : Slot} {z6 : Slot} {z7 : Slot} {z8 : Slot} {z9 : Slot} {z11 : Slot} {z16 : Slot} {z25 : Slot} (o0 : own_One z0) (o1 : own_One z1) (o2 : own_One z2) (o3 : own_One z3) (o4 : own_One z4) (o5 : own_One z5) (o6 : own_One z6) (o7 : own_One z7) (o8 : own_One z8) (o9 : own_One z9) (o11 : own_One z11) (o16 : own_One z16) (o25 : own_One z25) {M : own_Mem} {r : Int32 × own_Mem} (h : m0_b301 i10 i12 i13 i14 i15 a17 a18 i19 i20 i21 i22 i23 i24 M = some r) : own_W C (some (.int r.1)) r.2 M 6 18 301 [z0, z1, z2, z3, z4, z5, z6, z7, z8, z9, .val (.int i10), z11, .val (.int i12), .val (.int i13), .val (.int i14), .val (.int i15), z16, .val (.ref (own_n C + a17)), .val (.ref (own_n C + a18)), .val (.int i19), .val (.int i20), .val (.int i21), .val (.int i22), .val (.int i23), .val (.int i24), z25, .unset, .unset, .unset, .unset, .unset, .unset, .unset, .unset, .unset] [] := by
  unfold m0_b301 at h
  refine own_iconst K at_301 own_ic0 rfl ?_
  exact m0_w302 K o0 o1 o2 o3 o4 o5 o6 o7 o8 o9 o11 o16 o25 h
set_option maxRecDepth 65536 in
def m0_b260 (i10 : Int32) (i12 : Int32) (i13 : Int32) (i14 : Int32) (i15 : Int32) (a17 : Nat) (a18 : Nat) (i19 : Int32) (i20 : Int32) (i21 : Int32) (i22 : Int32) (i23 : Int32) (t0 : Int32) (M : own_Mem) : Option (Int32 × own_Mem) := if (1 : Int32) = 0 then (m0_b301 i10 i12 i13 i14 i15 a17 a18 i19 i20 i21 i22 i23 t0 M) else ((m8 a18 i21 i23 (0 : Int32) M).bind fun q21 => (m9 i13 (0 : Int32) q21.2).bind fun q22 => (m9 i14 (0 : Int32) q22.2).bind fun q23 => if q21.1 = (q22.1 ||| q23.1) then (m0_b302 i10 i12 i13 i14 i15 a17 a18 i19 i20 i21 i22 i23 t0 (1 : Int32) q23.2) else (m0_b301 i10 i12 i13 i14 i15 a17 a18 i19 i20 i21 i22 i23 t0 q23.2))
set_option maxRecDepth 65536 in
set_option maxHeartbeats 4000000 in
theorem m0_w260 {C : own_Ctx} (K : own_K C code maxLocals "com/example/tablewise/tablewise/estr2/PwsupAddPinLaw" ret "law" room_1) {i10 : Int32} {i12 : Int32} {i13 : Int32} {i14 : Int32} {i15 : Int32} {a17 : Nat} {a18 : Nat} {i19 : Int32} {i20 : Int32} {i21 : Int32} {i22 : Int32} {i23 : Int32} {t0 : Int32} {z0 : Slot} {z1 : Slot} {z2 : Slot} {z3 : Slot} {z4 : Slot} {z5 : Slot} {z6 : Slot} {z7 : Slot} {z8 : Slot} {z9 : Slot} {z11 : Slot} {z16 : Slot} (o0 : own_One z0) (o1 : own_One z1) (o2 : own_One z2) (o3 : own_One z3) (o4 : own_One z4) (o5 : own_One z5) (o6 : own_One z6) (o7 : own_One z7) (o8 : own_One z8) (o9 : own_One z9) (o11 : own_One z11) (o16 : own_One z16) {M : own_Mem} {r : Int32 × own_Mem} (h : m0_b260 i10 i12 i13 i14 i15 a17 a18 i19 i20 i21 i22 i23 t0 M = some r) : own_W C (some (.int r.1)) r.2 M 6 18 260 [z0, z1, z2, z3, z4, z5, z6, z7, z8, z9, .val (.int i10), z11, .val (.int i12), .val (.int i13), .val (.int i14), .val (.int i15), z16, .val (.ref (own_n C + a17)), .val (.ref (own_n C + a18)), .val (.int i19), .val (.int i20), .val (.int i21), .val (.int i22), .val (.int i23), .unset, .unset, .unset, .unset, .unset, .unset, .unset, .unset, .unset, .unset, .unset] [.int t0] := by
  unfold m0_b260 at h
  refine own_istore K at_260 (Ls' := [z0, z1, z2, z3, z4, z5, z6, z7, z8, z9, .val (.int i10), z11, .val (.int i12), .val (.int i13), .val (.int i14), .val (.int i15), z16, .val (.ref (own_n C + a17)), .val (.ref (own_n C + a18)), .val (.int i19), .val (.int i20), .val (.int i21), .val (.int i22), .val (.int i23), .val (.int t0), .unset, .unset, .unset, .unset, .unset, .unset, .unset, .unset, .unset, .unset]) rfl rfl ?_
  refine own_iconst K at_262 own_ic1 rfl ?_
  refine own_istore K at_263 (Ls' := [z0, z1, z2, z3, z4, z5, z6, z7, z8, z9, .val (.int i10), z11, .val (.int i12), .val (.int i13), .val (.int i14), .val (.int i15), z16, .val (.ref (own_n C + a17)), .val (.ref (own_n C + a18)), .val (.int i19), .val (.int i20), .val (.int i21), .val (.int i22), .val (.int i23), .val (.int t0), .val (.int (1 : Int32)), .unset, .unset, .unset, .unset, .unset, .unset, .unset, .unset, .unset]) rfl rfl ?_
  refine own_iload K at_265 rfl rfl ?_
  refine own_zeq K at_267 h (pc1 := 301) (pc2 := 270) (by decide) rfl (fun h => ?_) (fun h => ?_)
  · exact m0_w301 K o0 o1 o2 o3 o4 o5 o6 o7 o8 o9 o11 o16 own_one_i h
  · refine own_aload K at_270 rfl rfl ?_
    refine own_iload K at_272 rfl rfl ?_
    refine own_iload K at_274 rfl rfl ?_
    refine own_iconst K at_276 own_ic0 rfl ?_
    refine own_bk h (fun q21 hq21 h => ?_)
    refine own_callS K at_277 own_w46 own_w47 own_w44 own_w48 (argsL := [.ref a18, .int i21, .int i23, .int (0 : Int32)]) (st := []) (by decide) (lenOf own_pd2 rfl) rfl (W := 0) (Nat.le_of_eq rfl) (by decide) (by decide) (cs1 := 6) (ss1 := 18) rfl rfl (by decide) (by decide) rfl rfl (m8_met hq21) (st1 := [.long q21.1]) rfl ?_
    refine own_iload K at_280 rfl rfl ?_
    refine own_iconst K at_282 own_ic0 rfl ?_
    refine own_bk h (fun q22 hq22 h => ?_)
    refine own_callS K at_283 own_w49 own_w50 own_w44 own_w51 (argsL := [.int i13, .int (0 : Int32)]) (st := [.long q21.1]) (by decide) (lenOf own_pd3 rfl) rfl (W := 2) (Nat.le_of_eq rfl) (by decide) (by decide) (cs1 := 6) (ss1 := 18) rfl rfl (by decide) (by decide) rfl rfl (m9_met hq22) (st1 := [.long q22.1, .long q21.1]) rfl ?_
    refine own_iload K at_286 rfl rfl ?_
    refine own_iconst K at_288 own_ic0 rfl ?_
    refine own_bk h (fun q23 hq23 h => ?_)
    refine own_callS K at_289 own_w49 own_w50 own_w44 own_w51 (argsL := [.int i14, .int (0 : Int32)]) (st := [.long q22.1, .long q21.1]) (by decide) (lenOf own_pd3 rfl) rfl (W := 4) (Nat.le_of_eq rfl) (by decide) (by decide) (cs1 := 6) (ss1 := 18) rfl rfl (by decide) (by decide) rfl rfl (m9_met hq23) (st1 := [.long q23.1, .long q22.1, .long q21.1]) rfl ?_
    refine own_lor K at_292 rfl ?_
    refine own_cne K at_293 at_294 h (pc1 := 301) (pc2 := 297) rfl (by decide) rfl (fun h => ?_) (fun h => ?_)
    · exact m0_w301 K o0 o1 o2 o3 o4 o5 o6 o7 o8 o9 o11 o16 own_one_i h
    · refine own_iconst K at_297 own_ic1 rfl ?_
      refine own_goto K at_298 (pc' := 302) (by decide) ?_
      exact m0_w302 K o0 o1 o2 o3 o4 o5 o6 o7 o8 o9 o11 o16 own_one_i h
set_option maxRecDepth 65536 in
def m0_b246 (i9 : Int32) (i10 : Int32) (i12 : Int32) (i13 : Int32) (i14 : Int32) (i15 : Int32) (a17 : Nat) (a18 : Nat) (i19 : Int32) (i20 : Int32) (i21 : Int32) (i22 : Int32) (t0 : Int32) (M : own_Mem) : Option (Int32 × own_Mem) := if i9 = 0 then (m0_b260 i10 i12 i13 i14 i15 a17 a18 i19 i20 i21 i22 t0 i19 M) else (m0_b260 i10 i12 i13 i14 i15 a17 a18 i19 i20 i21 i22 t0 i20 M)
set_option maxRecDepth 65536 in
set_option maxHeartbeats 4000000 in
theorem m0_w246 {C : own_Ctx} (K : own_K C code maxLocals "com/example/tablewise/tablewise/estr2/PwsupAddPinLaw" ret "law" room_1) {i9 : Int32} {i10 : Int32} {i12 : Int32} {i13 : Int32} {i14 : Int32} {i15 : Int32} {a17 : Nat} {a18 : Nat} {i19 : Int32} {i20 : Int32} {i21 : Int32} {i22 : Int32} {t0 : Int32} {z0 : Slot} {z1 : Slot} {z2 : Slot} {z3 : Slot} {z4 : Slot} {z5 : Slot} {z6 : Slot} {z7 : Slot} {z8 : Slot} {z11 : Slot} {z16 : Slot} (o0 : own_One z0) (o1 : own_One z1) (o2 : own_One z2) (o3 : own_One z3) (o4 : own_One z4) (o5 : own_One z5) (o6 : own_One z6) (o7 : own_One z7) (o8 : own_One z8) (o11 : own_One z11) (o16 : own_One z16) {M : own_Mem} {r : Int32 × own_Mem} (h : m0_b246 i9 i10 i12 i13 i14 i15 a17 a18 i19 i20 i21 i22 t0 M = some r) : own_W C (some (.int r.1)) r.2 M 6 18 246 [z0, z1, z2, z3, z4, z5, z6, z7, z8, .val (.int i9), .val (.int i10), z11, .val (.int i12), .val (.int i13), .val (.int i14), .val (.int i15), z16, .val (.ref (own_n C + a17)), .val (.ref (own_n C + a18)), .val (.int i19), .val (.int i20), .val (.int i21), .val (.int i22), .unset, .unset, .unset, .unset, .unset, .unset, .unset, .unset, .unset, .unset, .unset, .unset] [.int t0] := by
  unfold m0_b246 at h
  refine own_istore K at_246 (Ls' := [z0, z1, z2, z3, z4, z5, z6, z7, z8, .val (.int i9), .val (.int i10), z11, .val (.int i12), .val (.int i13), .val (.int i14), .val (.int i15), z16, .val (.ref (own_n C + a17)), .val (.ref (own_n C + a18)), .val (.int i19), .val (.int i20), .val (.int i21), .val (.int i22), .val (.int t0), .unset, .unset, .unset, .unset, .unset, .unset, .unset, .unset, .unset, .unset, .unset]) rfl rfl ?_
  refine own_iload K at_248 rfl rfl ?_
  refine own_zne K at_250 h (pc1 := 258) (pc2 := 253) (by decide) rfl (fun h => ?_) (fun h => ?_)
  · refine own_iload K at_258 rfl rfl ?_
    exact m0_w260 K o0 o1 o2 o3 o4 o5 o6 o7 o8 own_one_i o11 o16 h
  · refine own_iload K at_253 rfl rfl ?_
    refine own_goto K at_255 (pc' := 260) (by decide) ?_
    exact m0_w260 K o0 o1 o2 o3 o4 o5 o6 o7 o8 own_one_i o11 o16 h
set_option maxRecDepth 65536 in
def m0_b232 (i8 : Int32) (i9 : Int32) (i10 : Int32) (i12 : Int32) (i13 : Int32) (i14 : Int32) (i15 : Int32) (a17 : Nat) (a18 : Nat) (i19 : Int32) (i20 : Int32) (i21 : Int32) (t0 : Int32) (M : own_Mem) : Option (Int32 × own_Mem) := if i8 = 0 then (m0_b246 i9 i10 i12 i13 i14 i15 a17 a18 i19 i20 i21 t0 i19 M) else (m0_b246 i9 i10 i12 i13 i14 i15 a17 a18 i19 i20 i21 t0 i20 M)
set_option maxRecDepth 65536 in
set_option maxHeartbeats 4000000 in
theorem m0_w232 {C : own_Ctx} (K : own_K C code maxLocals "com/example/tablewise/tablewise/estr2/PwsupAddPinLaw" ret "law" room_1) {i8 : Int32} {i9 : Int32} {i10 : Int32} {i12 : Int32} {i13 : Int32} {i14 : Int32} {i15 : Int32} {a17 : Nat} {a18 : Nat} {i19 : Int32} {i20 : Int32} {i21 : Int32} {t0 : Int32} {z0 : Slot} {z1 : Slot} {z2 : Slot} {z3 : Slot} {z4 : Slot} {z5 : Slot} {z6 : Slot} {z7 : Slot} {z11 : Slot} {z16 : Slot} (o0 : own_One z0) (o1 : own_One z1) (o2 : own_One z2) (o3 : own_One z3) (o4 : own_One z4) (o5 : own_One z5) (o6 : own_One z6) (o7 : own_One z7) (o11 : own_One z11) (o16 : own_One z16) {M : own_Mem} {r : Int32 × own_Mem} (h : m0_b232 i8 i9 i10 i12 i13 i14 i15 a17 a18 i19 i20 i21 t0 M = some r) : own_W C (some (.int r.1)) r.2 M 6 18 232 [z0, z1, z2, z3, z4, z5, z6, z7, .val (.int i8), .val (.int i9), .val (.int i10), z11, .val (.int i12), .val (.int i13), .val (.int i14), .val (.int i15), z16, .val (.ref (own_n C + a17)), .val (.ref (own_n C + a18)), .val (.int i19), .val (.int i20), .val (.int i21), .unset, .unset, .unset, .unset, .unset, .unset, .unset, .unset, .unset, .unset, .unset, .unset, .unset] [.int t0] := by
  unfold m0_b232 at h
  refine own_istore K at_232 (Ls' := [z0, z1, z2, z3, z4, z5, z6, z7, .val (.int i8), .val (.int i9), .val (.int i10), z11, .val (.int i12), .val (.int i13), .val (.int i14), .val (.int i15), z16, .val (.ref (own_n C + a17)), .val (.ref (own_n C + a18)), .val (.int i19), .val (.int i20), .val (.int i21), .val (.int t0), .unset, .unset, .unset, .unset, .unset, .unset, .unset, .unset, .unset, .unset, .unset, .unset]) rfl rfl ?_
  refine own_iload K at_234 rfl rfl ?_
  refine own_zne K at_236 h (pc1 := 244) (pc2 := 239) (by decide) rfl (fun h => ?_) (fun h => ?_)
  · refine own_iload K at_244 rfl rfl ?_
    exact m0_w246 K o0 o1 o2 o3 o4 o5 o6 o7 own_one_i o11 o16 h
  · refine own_iload K at_239 rfl rfl ?_
    refine own_goto K at_241 (pc' := 246) (by decide) ?_
    exact m0_w246 K o0 o1 o2 o3 o4 o5 o6 o7 own_one_i o11 o16 h
set_option maxRecDepth 65536 in
def m0_b219 (i8 : Int32) (i9 : Int32) (i10 : Int32) (i12 : Int32) (i13 : Int32) (i14 : Int32) (i15 : Int32) (a17 : Nat) (a18 : Nat) (i19 : Int32) (i20 : Int32) (t0 : Int32) (M : own_Mem) : Option (Int32 × own_Mem) := if i9 = 0 then (m0_b232 i8 i9 i10 i12 i13 i14 i15 a17 a18 i19 i20 t0 (0 : Int32) M) else (m0_b232 i8 i9 i10 i12 i13 i14 i15 a17 a18 i19 i20 t0 i19 M)
set_option maxRecDepth 65536 in
set_option maxHeartbeats 4000000 in
theorem m0_w219 {C : own_Ctx} (K : own_K C code maxLocals "com/example/tablewise/tablewise/estr2/PwsupAddPinLaw" ret "law" room_1) {i8 : Int32} {i9 : Int32} {i10 : Int32} {i12 : Int32} {i13 : Int32} {i14 : Int32} {i15 : Int32} {a17 : Nat} {a18 : Nat} {i19 : Int32} {i20 : Int32} {t0 : Int32} {z0 : Slot} {z1 : Slot} {z2 : Slot} {z3 : Slot} {z4 : Slot} {z5 : Slot} {z6 : Slot} {z7 : Slot} {z11 : Slot} {z16 : Slot} (o0 : own_One z0) (o1 : own_One z1) (o2 : own_One z2) (o3 : own_One z3) (o4 : own_One z4) (o5 : own_One z5) (o6 : own_One z6) (o7 : own_One z7) (o11 : own_One z11) (o16 : own_One z16) {M : own_Mem} {r : Int32 × own_Mem} (h : m0_b219 i8 i9 i10 i12 i13 i14 i15 a17 a18 i19 i20 t0 M = some r) : own_W C (some (.int r.1)) r.2 M 6 18 219 [z0, z1, z2, z3, z4, z5, z6, z7, .val (.int i8), .val (.int i9), .val (.int i10), z11, .val (.int i12), .val (.int i13), .val (.int i14), .val (.int i15), z16, .val (.ref (own_n C + a17)), .val (.ref (own_n C + a18)), .val (.int i19), .val (.int i20), .unset, .unset, .unset, .unset, .unset, .unset, .unset, .unset, .unset, .unset, .unset, .unset, .unset, .unset] [.int t0] := by
  unfold m0_b219 at h
  refine own_istore K at_219 (Ls' := [z0, z1, z2, z3, z4, z5, z6, z7, .val (.int i8), .val (.int i9), .val (.int i10), z11, .val (.int i12), .val (.int i13), .val (.int i14), .val (.int i15), z16, .val (.ref (own_n C + a17)), .val (.ref (own_n C + a18)), .val (.int i19), .val (.int i20), .val (.int t0), .unset, .unset, .unset, .unset, .unset, .unset, .unset, .unset, .unset, .unset, .unset, .unset, .unset]) rfl rfl ?_
  refine own_iload K at_221 rfl rfl ?_
  refine own_zne K at_223 h (pc1 := 230) (pc2 := 226) (by decide) rfl (fun h => ?_) (fun h => ?_)
  · refine own_iload K at_230 rfl rfl ?_
    exact m0_w232 K o0 o1 o2 o3 o4 o5 o6 o7 o11 o16 h
  · refine own_iconst K at_226 own_ic0 rfl ?_
    refine own_goto K at_227 (pc' := 232) (by decide) ?_
    exact m0_w232 K o0 o1 o2 o3 o4 o5 o6 o7 o11 o16 h
set_option maxRecDepth 65536 in
def m0_b174 (i6 : Int32) (i7 : Int32) (i8 : Int32) (i9 : Int32) (i10 : Int32) (i12 : Int32) (i13 : Int32) (i14 : Int32) (i15 : Int32) (a17 : Nat) (M : own_Mem) : Option (Int32 × own_Mem) := (own_at M 0 a17).bind fun u25 => (m6 a17 M).bind fun q24 => (m7 i6 q24.2).bind fun q26 => (m7 i7 q26.2).bind fun q27 => (own_len 101 q27.2 q24.1).bind fun x28 => if x28 = (q26.1 + q27.1) then (if i8 = 0 then (m0_b219 i8 i9 i10 i12 i13 i14 i15 a17 q24.1 q26.1 q27.1 (0 : Int32) q27.2) else (m0_b219 i8 i9 i10 i12 i13 i14 i15 a17 q24.1 q26.1 q27.1 q26.1 q27.2)) else (some (nar .boolean (0 : Int32), q27.2))
set_option maxRecDepth 65536 in
set_option maxHeartbeats 4000000 in
theorem m0_w174 {C : own_Ctx} (K : own_K C code maxLocals "com/example/tablewise/tablewise/estr2/PwsupAddPinLaw" ret "law" room_1) {i6 : Int32} {i7 : Int32} {i8 : Int32} {i9 : Int32} {i10 : Int32} {i12 : Int32} {i13 : Int32} {i14 : Int32} {i15 : Int32} {a17 : Nat} {z0 : Slot} {z1 : Slot} {z2 : Slot} {z3 : Slot} {z4 : Slot} {z5 : Slot} {z11 : Slot} {z16 : Slot} (o0 : own_One z0) (o1 : own_One z1) (o2 : own_One z2) (o3 : own_One z3) (o4 : own_One z4) (o5 : own_One z5) (o11 : own_One z11) (o16 : own_One z16) {M : own_Mem} {r : Int32 × own_Mem} (h : m0_b174 i6 i7 i8 i9 i10 i12 i13 i14 i15 a17 M = some r) : own_W C (some (.int r.1)) r.2 M 6 18 174 [z0, z1, z2, z3, z4, z5, .val (.int i6), .val (.int i7), .val (.int i8), .val (.int i9), .val (.int i10), z11, .val (.int i12), .val (.int i13), .val (.int i14), .val (.int i15), z16, .val (.ref (own_n C + a17)), .unset, .unset, .unset, .unset, .unset, .unset, .unset, .unset, .unset, .unset, .unset, .unset, .unset, .unset, .unset, .unset, .unset] [] := by
  unfold m0_b174 at h
  refine own_aload K at_174 rfl rfl ?_
  refine own_bk h (fun u25 hu25 h => ?_)
  refine own_bk h (fun q24 hq24 h => ?_)
  refine own_callV K at_176 own_w37 own_w38 own_w40 own_w39 own_w4 own_w41 (own_cl0) hu25 (a := a17) (argsL := []) (st := []) (by decide) (lenOf own_pd5 rfl) rfl (W := 0) (Nat.le_of_eq rfl) (by decide) (by decide) (cs1 := 6) (ss1 := 18) rfl rfl (by decide) (by decide) rfl rfl (m6_met hq24) (st1 := [.ref (own_n C + q24.1)]) rfl ?_
  refine own_astore K at_179 (Ls' := [z0, z1, z2, z3, z4, z5, .val (.int i6), .val (.int i7), .val (.int i8), .val (.int i9), .val (.int i10), z11, .val (.int i12), .val (.int i13), .val (.int i14), .val (.int i15), z16, .val (.ref (own_n C + a17)), .val (.ref (own_n C + q24.1)), .unset, .unset, .unset, .unset, .unset, .unset, .unset, .unset, .unset, .unset, .unset, .unset, .unset, .unset, .unset, .unset]) rfl rfl ?_
  refine own_iload K at_181 rfl rfl ?_
  refine own_bk h (fun q26 hq26 h => ?_)
  refine own_callS K at_183 own_w42 own_w43 own_w44 own_w45 (argsL := [.int i6]) (st := []) (by decide) (lenOf own_pd6 rfl) rfl (W := 0) (Nat.le_of_eq rfl) (by decide) (by decide) (cs1 := 6) (ss1 := 18) rfl rfl (by decide) (by decide) rfl rfl (m7_met hq26) (st1 := [.int q26.1]) rfl ?_
  refine own_istore K at_186 (Ls' := [z0, z1, z2, z3, z4, z5, .val (.int i6), .val (.int i7), .val (.int i8), .val (.int i9), .val (.int i10), z11, .val (.int i12), .val (.int i13), .val (.int i14), .val (.int i15), z16, .val (.ref (own_n C + a17)), .val (.ref (own_n C + q24.1)), .val (.int q26.1), .unset, .unset, .unset, .unset, .unset, .unset, .unset, .unset, .unset, .unset, .unset, .unset, .unset, .unset, .unset]) rfl rfl ?_
  refine own_iload K at_188 rfl rfl ?_
  refine own_bk h (fun q27 hq27 h => ?_)
  refine own_callS K at_190 own_w42 own_w43 own_w44 own_w45 (argsL := [.int i7]) (st := []) (by decide) (lenOf own_pd6 rfl) rfl (W := 0) (Nat.le_of_eq rfl) (by decide) (by decide) (cs1 := 6) (ss1 := 18) rfl rfl (by decide) (by decide) rfl rfl (m7_met hq27) (st1 := [.int q27.1]) rfl ?_
  refine own_istore K at_193 (Ls' := [z0, z1, z2, z3, z4, z5, .val (.int i6), .val (.int i7), .val (.int i8), .val (.int i9), .val (.int i10), z11, .val (.int i12), .val (.int i13), .val (.int i14), .val (.int i15), z16, .val (.ref (own_n C + a17)), .val (.ref (own_n C + q24.1)), .val (.int q26.1), .val (.int q27.1), .unset, .unset, .unset, .unset, .unset, .unset, .unset, .unset, .unset, .unset, .unset, .unset, .unset, .unset]) rfl rfl ?_
  refine own_aload K at_195 rfl rfl ?_
  refine own_alen K at_197 (t := 101) rfl h rfl (fun x28 h => ?_)
  refine own_iload K at_198 rfl rfl ?_
  refine own_iload K at_200 rfl rfl ?_
  refine own_iadd K at_202 rfl ?_
  refine own_ieq K at_203 h (pc1 := 208) (pc2 := 206) (by decide) rfl (fun h => ?_) (fun h => ?_)
  · refine own_iload K at_208 rfl rfl ?_
    refine own_zne K at_210 h (pc1 := 217) (pc2 := 213) (by decide) rfl (fun h => ?_) (fun h => ?_)
    · refine own_iload K at_217 rfl rfl ?_
      exact m0_w219 K o0 o1 o2 o3 o4 o5 own_one_i own_one_i o11 o16 h
    · refine own_iconst K at_213 own_ic0 rfl ?_
      refine own_goto K at_214 (pc' := 219) (by decide) ?_
      exact m0_w219 K o0 o1 o2 o3 o4 o5 own_one_i own_one_i o11 o16 h
  · refine own_iconst K at_206 own_ic0 rfl ?_
    exact own_retN K at_207 (by simp) h
set_option maxRecDepth 65536 in
def m0_b142 (i6 : Int32) (i7 : Int32) (i8 : Int32) (i9 : Int32) (i10 : Int32) (i12 : Int32) (i13 : Int32) (i14 : Int32) (i15 : Int32) (a17 : Nat) (M : own_Mem) : Option (Int32 × own_Mem) := (own_at M 0 a17).bind fun u30 => (m5 a17 i8 i13 M).bind fun q29 => (own_at q29.2 0 a17).bind fun u32 => (m5 a17 i8 i14 q29.2).bind fun q31 => if i10 = 0 then (m0_b174 i6 i7 i8 i9 i10 i12 i13 i14 i15 a17 q31.2) else ((own_at q31.2 0 a17).bind fun u34 => (m5 a17 i9 i15 q31.2).bind fun q33 => m0_b174 i6 i7 i8 i9 i10 i12 i13 i14 i15 a17 q33.2)
set_option maxRecDepth 65536 in
set_option maxHeartbeats 4000000 in
theorem m0_w142 {C : own_Ctx} (K : own_K C code maxLocals "com/example/tablewise/tablewise/estr2/PwsupAddPinLaw" ret "law" room_1) {i6 : Int32} {i7 : Int32} {i8 : Int32} {i9 : Int32} {i10 : Int32} {i12 : Int32} {i13 : Int32} {i14 : Int32} {i15 : Int32} {a17 : Nat} {z0 : Slot} {z1 : Slot} {z2 : Slot} {z3 : Slot} {z4 : Slot} {z5 : Slot} {z11 : Slot} {z16 : Slot} (o0 : own_One z0) (o1 : own_One z1) (o2 : own_One z2) (o3 : own_One z3) (o4 : own_One z4) (o5 : own_One z5) (o11 : own_One z11) (o16 : own_One z16) {M : own_Mem} {r : Int32 × own_Mem} (h : m0_b142 i6 i7 i8 i9 i10 i12 i13 i14 i15 a17 M = some r) : own_W C (some (.int r.1)) r.2 M 6 18 142 [z0, z1, z2, z3, z4, z5, .val (.int i6), .val (.int i7), .val (.int i8), .val (.int i9), .val (.int i10), z11, .val (.int i12), .val (.int i13), .val (.int i14), .val (.int i15), z16, .val (.ref (own_n C + a17)), .unset, .unset, .unset, .unset, .unset, .unset, .unset, .unset, .unset, .unset, .unset, .unset, .unset, .unset, .unset, .unset, .unset] [] := by
  unfold m0_b142 at h
  refine own_aload K at_142 rfl rfl ?_
  refine own_iload K at_144 rfl rfl ?_
  refine own_iload K at_146 rfl rfl ?_
  refine own_bk h (fun u30 hu30 h => ?_)
  refine own_bk h (fun q29 hq29 h => ?_)
  refine own_callV K at_148 own_w30 own_w31 own_w33 own_w32 own_w4 own_w34 (own_cl0) hu30 (a := a17) (argsL := [.int i8, .int i13]) (st := []) (by decide) (lenOf own_pd7 rfl) rfl (W := 0) (Nat.le_of_eq rfl) (by decide) (by decide) (cs1 := 6) (ss1 := 18) rfl rfl (by decide) (by decide) rfl rfl (m5_met hq29) (st1 := []) rfl ?_
  refine own_aload K at_151 rfl rfl ?_
  refine own_iload K at_153 rfl rfl ?_
  refine own_iload K at_155 rfl rfl ?_
  refine own_bk h (fun u32 hu32 h => ?_)
  refine own_bk h (fun q31 hq31 h => ?_)
  refine own_callV K at_157 own_w30 own_w31 own_w33 own_w32 own_w4 own_w34 (own_cl0) hu32 (a := a17) (argsL := [.int i8, .int i14]) (st := []) (by decide) (lenOf own_pd7 rfl) rfl (W := 0) (Nat.le_of_eq rfl) (by decide) (by decide) (cs1 := 6) (ss1 := 18) rfl rfl (by decide) (by decide) rfl rfl (m5_met hq31) (st1 := []) rfl ?_
  refine own_iload K at_160 rfl rfl ?_
  refine own_zeq K at_162 h (pc1 := 174) (pc2 := 165) (by decide) rfl (fun h => ?_) (fun h => ?_)
  · exact m0_w174 K o0 o1 o2 o3 o4 o5 o11 o16 h
  · refine own_aload K at_165 rfl rfl ?_
    refine own_iload K at_167 rfl rfl ?_
    refine own_iload K at_169 rfl rfl ?_
    refine own_bk h (fun u34 hu34 h => ?_)
    refine own_bk h (fun q33 hq33 h => ?_)
    refine own_callV K at_171 own_w30 own_w31 own_w33 own_w32 own_w4 own_w34 (own_cl0) hu34 (a := a17) (argsL := [.int i9, .int i15]) (st := []) (by decide) (lenOf own_pd7 rfl) rfl (W := 0) (Nat.le_of_eq rfl) (by decide) (by decide) (cs1 := 6) (ss1 := 18) rfl rfl (by decide) (by decide) rfl rfl (m5_met hq33) (st1 := []) rfl ?_
    exact m0_w174 K o0 o1 o2 o3 o4 o5 o11 o16 h
set_option maxRecDepth 65536 in
def m0_b112 (i6 : Int32) (i7 : Int32) (i8 : Int32) (i9 : Int32) (i10 : Int32) (i12 : Int32) (i13 : Int32) (i14 : Int32) (i15 : Int32) (a16 : Nat) (M : own_Mem) : Option (Int32 × own_Mem) := (own_newO 0 own_V0 M).bind fun q35 => (m1 q35.1 a16 q35.2).bind fun q36 => (own_at q36.2 0 q35.1).bind fun u38 => (m4 q35.1 i8 q36.2).bind fun q37 => if i10 = 0 then (m0_b142 i6 i7 i8 i9 i10 i12 i13 i14 i15 q35.1 q37.2) else ((own_at q37.2 0 q35.1).bind fun u40 => (m4 q35.1 i9 q37.2).bind fun q39 => m0_b142 i6 i7 i8 i9 i10 i12 i13 i14 i15 q35.1 q39.2)
set_option maxRecDepth 65536 in
set_option maxHeartbeats 4000000 in
theorem m0_w112 {C : own_Ctx} (K : own_K C code maxLocals "com/example/tablewise/tablewise/estr2/PwsupAddPinLaw" ret "law" room_1) {i6 : Int32} {i7 : Int32} {i8 : Int32} {i9 : Int32} {i10 : Int32} {i12 : Int32} {i13 : Int32} {i14 : Int32} {i15 : Int32} {a16 : Nat} {z0 : Slot} {z1 : Slot} {z2 : Slot} {z3 : Slot} {z4 : Slot} {z5 : Slot} {z11 : Slot} (o0 : own_One z0) (o1 : own_One z1) (o2 : own_One z2) (o3 : own_One z3) (o4 : own_One z4) (o5 : own_One z5) (o11 : own_One z11) {M : own_Mem} {r : Int32 × own_Mem} (h : m0_b112 i6 i7 i8 i9 i10 i12 i13 i14 i15 a16 M = some r) : own_W C (some (.int r.1)) r.2 M 1 2 112 [z0, z1, z2, z3, z4, z5, .val (.int i6), .val (.int i7), .val (.int i8), .val (.int i9), .val (.int i10), z11, .val (.int i12), .val (.int i13), .val (.int i14), .val (.int i15), .val (.ref (own_n C + a16)), .unset, .unset, .unset, .unset, .unset, .unset, .unset, .unset, .unset, .unset, .unset, .unset, .unset, .unset, .unset, .unset, .unset, .unset] [] := by
  unfold m0_b112 at h
  refine own_new K at_112 own_w2 own_w3 own_w4 (own_cl0) own_dv0 h (cs1 := 2) (ss1 := 7) rfl rfl (by decide) (by decide) rfl (fun q35 h => ?_)
  refine own_dup K at_115 rfl rfl ?_
  refine own_aload K at_116 rfl rfl ?_
  refine own_bk h (fun q36 hq36 h => ?_)
  refine own_callI K at_118 rfl own_w5 own_w6 own_w4 own_w7 (a := q35.1) (argsL := [.ref a16]) (st := [.ref (own_n C + q35.1)]) (by decide) (lenOf own_pd8 rfl) rfl (W := 1) (Nat.le_of_eq rfl) (by decide) (by decide) (cs1 := 6) (ss1 := 18) rfl rfl (by decide) (by decide) rfl rfl (m1_met hq36) ?_
  refine own_astore K at_121 (Ls' := [z0, z1, z2, z3, z4, z5, .val (.int i6), .val (.int i7), .val (.int i8), .val (.int i9), .val (.int i10), z11, .val (.int i12), .val (.int i13), .val (.int i14), .val (.int i15), .val (.ref (own_n C + a16)), .val (.ref (own_n C + q35.1)), .unset, .unset, .unset, .unset, .unset, .unset, .unset, .unset, .unset, .unset, .unset, .unset, .unset, .unset, .unset, .unset, .unset]) rfl rfl ?_
  refine own_aload K at_123 rfl rfl ?_
  refine own_iload K at_125 rfl rfl ?_
  refine own_bk h (fun u38 hu38 h => ?_)
  refine own_bk h (fun q37 hq37 h => ?_)
  refine own_callV K at_127 own_w25 own_w26 own_w28 own_w27 own_w4 own_w29 (own_cl0) hu38 (a := q35.1) (argsL := [.int i8]) (st := []) (by decide) (lenOf own_pd1 rfl) rfl (W := 0) (Nat.le_of_eq rfl) (by decide) (by decide) (cs1 := 6) (ss1 := 18) rfl rfl (by decide) (by decide) rfl rfl (m4_met hq37) (st1 := []) rfl ?_
  refine own_iload K at_130 rfl rfl ?_
  refine own_zeq K at_132 h (pc1 := 142) (pc2 := 135) (by decide) rfl (fun h => ?_) (fun h => ?_)
  · exact m0_w142 K o0 o1 o2 o3 o4 o5 o11 own_one_r h
  · refine own_aload K at_135 rfl rfl ?_
    refine own_iload K at_137 rfl rfl ?_
    refine own_bk h (fun u40 hu40 h => ?_)
    refine own_bk h (fun q39 hq39 h => ?_)
    refine own_callV K at_139 own_w25 own_w26 own_w28 own_w27 own_w4 own_w29 (own_cl0) hu40 (a := q35.1) (argsL := [.int i9]) (st := []) (by decide) (lenOf own_pd1 rfl) rfl (W := 0) (Nat.le_of_eq rfl) (by decide) (by decide) (cs1 := 6) (ss1 := 18) rfl rfl (by decide) (by decide) rfl rfl (m4_met hq39) (st1 := []) rfl ?_
    exact m0_w142 K o0 o1 o2 o3 o4 o5 o11 own_one_r h
set_option maxRecDepth 65536 in
def m0_b66 (i3 : Int32) (i4 : Int32) (i5 : Int32) (i6 : Int32) (i7 : Int32) (i8 : Int32) (i9 : Int32) (i10 : Int32) (i11 : Int32) (t0 : Int32) (M : own_Mem) : Option (Int32 × own_Mem) := own_nz (i11 = 0) <| own_let ((i3 &&& (2147483647 : Int32)) % i11) fun x41 => own_nz (i11 = 0) <| own_let ((i4 &&& (2147483647 : Int32)) % i11) fun x42 => own_nz (t0 = 0) <| own_let ((i5 &&& (2147483647 : Int32)) % t0) fun x43 => (own_newA 100 2 (.int 0) M (2 : Int32)).bind fun q44 => (own_sto 100 q44.2 q44.1 (0 : Int32) (.int i6)).bind fun M45 => (own_sto 100 M45 q44.1 (1 : Int32) (.int i7)).bind fun M46 => m0_b112 i6 i7 i8 i9 i10 t0 x41 x42 x43 q44.1 M46
set_option maxRecDepth 65536 in
set_option maxHeartbeats 4000000 in
theorem m0_w66 {C : own_Ctx} (K : own_K C code maxLocals "com/example/tablewise/tablewise/estr2/PwsupAddPinLaw" ret "law" room_1) {i3 : Int32} {i4 : Int32} {i5 : Int32} {i6 : Int32} {i7 : Int32} {i8 : Int32} {i9 : Int32} {i10 : Int32} {i11 : Int32} {t0 : Int32} {z0 : Slot} {z1 : Slot} {z2 : Slot} (o0 : own_One z0) (o1 : own_One z1) (o2 : own_One z2) {M : own_Mem} {r : Int32 × own_Mem} (h : m0_b66 i3 i4 i5 i6 i7 i8 i9 i10 i11 t0 M = some r) : own_W C (some (.int r.1)) r.2 M 0 0 66 [z0, z1, z2, .val (.int i3), .val (.int i4), .val (.int i5), .val (.int i6), .val (.int i7), .val (.int i8), .val (.int i9), .val (.int i10), .val (.int i11), .unset, .unset, .unset, .unset, .unset, .unset, .unset, .unset, .unset, .unset, .unset, .unset, .unset, .unset, .unset, .unset, .unset, .unset, .unset, .unset, .unset, .unset, .unset] [.int t0] := by
  unfold m0_b66 at h
  refine own_istore K at_66 (Ls' := [z0, z1, z2, .val (.int i3), .val (.int i4), .val (.int i5), .val (.int i6), .val (.int i7), .val (.int i8), .val (.int i9), .val (.int i10), .val (.int i11), .val (.int t0), .unset, .unset, .unset, .unset, .unset, .unset, .unset, .unset, .unset, .unset, .unset, .unset, .unset, .unset, .unset, .unset, .unset, .unset, .unset, .unset, .unset, .unset]) rfl rfl ?_
  refine own_iloadN K at_68 rfl rfl ?_
  refine own_ldc K at_69 own_w0 rfl ?_
  refine own_iand K at_71 rfl ?_
  refine own_iload K at_72 rfl rfl ?_
  refine own_irem K at_74 h rfl (fun h => ?_)
  refine own_letI h (fun x41 h => ?_)
  refine own_istore K at_75 (Ls' := [z0, z1, z2, .val (.int i3), .val (.int i4), .val (.int i5), .val (.int i6), .val (.int i7), .val (.int i8), .val (.int i9), .val (.int i10), .val (.int i11), .val (.int t0), .val (.int x41), .unset, .unset, .unset, .unset, .unset, .unset, .unset, .unset, .unset, .unset, .unset, .unset, .unset, .unset, .unset, .unset, .unset, .unset, .unset, .unset, .unset]) rfl rfl ?_
  refine own_iload K at_77 rfl rfl ?_
  refine own_ldc K at_79 own_w0 rfl ?_
  refine own_iand K at_81 rfl ?_
  refine own_iload K at_82 rfl rfl ?_
  refine own_irem K at_84 h rfl (fun h => ?_)
  refine own_letI h (fun x42 h => ?_)
  refine own_istore K at_85 (Ls' := [z0, z1, z2, .val (.int i3), .val (.int i4), .val (.int i5), .val (.int i6), .val (.int i7), .val (.int i8), .val (.int i9), .val (.int i10), .val (.int i11), .val (.int t0), .val (.int x41), .val (.int x42), .unset, .unset, .unset, .unset, .unset, .unset, .unset, .unset, .unset, .unset, .unset, .unset, .unset, .unset, .unset, .unset, .unset, .unset, .unset, .unset]) rfl rfl ?_
  refine own_iload K at_87 rfl rfl ?_
  refine own_ldc K at_89 own_w0 rfl ?_
  refine own_iand K at_91 rfl ?_
  refine own_iload K at_92 rfl rfl ?_
  refine own_irem K at_94 h rfl (fun h => ?_)
  refine own_letI h (fun x43 h => ?_)
  refine own_istore K at_95 (Ls' := [z0, z1, z2, .val (.int i3), .val (.int i4), .val (.int i5), .val (.int i6), .val (.int i7), .val (.int i8), .val (.int i9), .val (.int i10), .val (.int i11), .val (.int t0), .val (.int x41), .val (.int x42), .val (.int x43), .unset, .unset, .unset, .unset, .unset, .unset, .unset, .unset, .unset, .unset, .unset, .unset, .unset, .unset, .unset, .unset, .unset, .unset, .unset]) rfl rfl ?_
  refine own_iconst K at_97 own_ic2 rfl ?_
  refine own_na K at_98 own_w1 rfl rfl h (by decide) (cs1 := 1) (ss1 := 2) rfl rfl (by decide) (by decide) rfl (fun q44 h => ?_)
  refine own_dup K at_100 rfl rfl ?_
  refine own_iconst K at_101 own_ic0 rfl ?_
  refine own_iload K at_102 rfl rfl ?_
  refine own_iastore K at_104 h rfl (fun M45 h => ?_)
  refine own_dup K at_105 rfl rfl ?_
  refine own_iconst K at_106 own_ic1 rfl ?_
  refine own_iload K at_107 rfl rfl ?_
  refine own_iastore K at_109 h rfl (fun M46 h => ?_)
  refine own_astore K at_110 (Ls' := [z0, z1, z2, .val (.int i3), .val (.int i4), .val (.int i5), .val (.int i6), .val (.int i7), .val (.int i8), .val (.int i9), .val (.int i10), .val (.int i11), .val (.int t0), .val (.int x41), .val (.int x42), .val (.int x43), .val (.ref (own_n C + q44.1)), .unset, .unset, .unset, .unset, .unset, .unset, .unset, .unset, .unset, .unset, .unset, .unset, .unset, .unset, .unset, .unset, .unset, .unset]) rfl rfl ?_
  exact m0_w112 K o0 o1 o2 own_one_i own_one_i own_one_i own_one_i h
set_option maxRecDepth 65536 in
def m0_b52 (i3 : Int32) (i4 : Int32) (i5 : Int32) (i6 : Int32) (i7 : Int32) (i8 : Int32) (i9 : Int32) (i10 : Int32) (t0 : Int32) (M : own_Mem) : Option (Int32 × own_Mem) := if i9 = 0 then (m0_b66 i3 i4 i5 i6 i7 i8 i9 i10 t0 i6 M) else (m0_b66 i3 i4 i5 i6 i7 i8 i9 i10 t0 i7 M)
set_option maxRecDepth 65536 in
set_option maxHeartbeats 4000000 in
theorem m0_w52 {C : own_Ctx} (K : own_K C code maxLocals "com/example/tablewise/tablewise/estr2/PwsupAddPinLaw" ret "law" room_1) {i3 : Int32} {i4 : Int32} {i5 : Int32} {i6 : Int32} {i7 : Int32} {i8 : Int32} {i9 : Int32} {i10 : Int32} {t0 : Int32} {z0 : Slot} {z1 : Slot} {z2 : Slot} (o0 : own_One z0) (o1 : own_One z1) (o2 : own_One z2) {M : own_Mem} {r : Int32 × own_Mem} (h : m0_b52 i3 i4 i5 i6 i7 i8 i9 i10 t0 M = some r) : own_W C (some (.int r.1)) r.2 M 0 0 52 [z0, z1, z2, .val (.int i3), .val (.int i4), .val (.int i5), .val (.int i6), .val (.int i7), .val (.int i8), .val (.int i9), .val (.int i10), .unset, .unset, .unset, .unset, .unset, .unset, .unset, .unset, .unset, .unset, .unset, .unset, .unset, .unset, .unset, .unset, .unset, .unset, .unset, .unset, .unset, .unset, .unset, .unset] [.int t0] := by
  unfold m0_b52 at h
  refine own_istore K at_52 (Ls' := [z0, z1, z2, .val (.int i3), .val (.int i4), .val (.int i5), .val (.int i6), .val (.int i7), .val (.int i8), .val (.int i9), .val (.int i10), .val (.int t0), .unset, .unset, .unset, .unset, .unset, .unset, .unset, .unset, .unset, .unset, .unset, .unset, .unset, .unset, .unset, .unset, .unset, .unset, .unset, .unset, .unset, .unset, .unset]) rfl rfl ?_
  refine own_iload K at_54 rfl rfl ?_
  refine own_zne K at_56 h (pc1 := 64) (pc2 := 59) (by decide) rfl (fun h => ?_) (fun h => ?_)
  · refine own_iload K at_64 rfl rfl ?_
    exact m0_w66 K o0 o1 o2 h
  · refine own_iload K at_59 rfl rfl ?_
    refine own_goto K at_61 (pc' := 66) (by decide) ?_
    exact m0_w66 K o0 o1 o2 h
set_option maxRecDepth 65536 in
def m0_b38 (i3 : Int32) (i4 : Int32) (i5 : Int32) (i6 : Int32) (i7 : Int32) (i8 : Int32) (i9 : Int32) (t0 : Int32) (M : own_Mem) : Option (Int32 × own_Mem) := if i8 = 0 then (m0_b52 i3 i4 i5 i6 i7 i8 i9 t0 i6 M) else (m0_b52 i3 i4 i5 i6 i7 i8 i9 t0 i7 M)
set_option maxRecDepth 65536 in
set_option maxHeartbeats 4000000 in
theorem m0_w38 {C : own_Ctx} (K : own_K C code maxLocals "com/example/tablewise/tablewise/estr2/PwsupAddPinLaw" ret "law" room_1) {i3 : Int32} {i4 : Int32} {i5 : Int32} {i6 : Int32} {i7 : Int32} {i8 : Int32} {i9 : Int32} {t0 : Int32} {z0 : Slot} {z1 : Slot} {z2 : Slot} (o0 : own_One z0) (o1 : own_One z1) (o2 : own_One z2) {M : own_Mem} {r : Int32 × own_Mem} (h : m0_b38 i3 i4 i5 i6 i7 i8 i9 t0 M = some r) : own_W C (some (.int r.1)) r.2 M 0 0 38 [z0, z1, z2, .val (.int i3), .val (.int i4), .val (.int i5), .val (.int i6), .val (.int i7), .val (.int i8), .val (.int i9), .unset, .unset, .unset, .unset, .unset, .unset, .unset, .unset, .unset, .unset, .unset, .unset, .unset, .unset, .unset, .unset, .unset, .unset, .unset, .unset, .unset, .unset, .unset, .unset, .unset] [.int t0] := by
  unfold m0_b38 at h
  refine own_istore K at_38 (Ls' := [z0, z1, z2, .val (.int i3), .val (.int i4), .val (.int i5), .val (.int i6), .val (.int i7), .val (.int i8), .val (.int i9), .val (.int t0), .unset, .unset, .unset, .unset, .unset, .unset, .unset, .unset, .unset, .unset, .unset, .unset, .unset, .unset, .unset, .unset, .unset, .unset, .unset, .unset, .unset, .unset, .unset, .unset]) rfl rfl ?_
  refine own_iload K at_40 rfl rfl ?_
  refine own_zne K at_42 h (pc1 := 50) (pc2 := 45) (by decide) rfl (fun h => ?_) (fun h => ?_)
  · refine own_iload K at_50 rfl rfl ?_
    exact m0_w52 K o0 o1 o2 h
  · refine own_iload K at_45 rfl rfl ?_
    refine own_goto K at_47 (pc' := 52) (by decide) ?_
    exact m0_w52 K o0 o1 o2 h
set_option maxRecDepth 65536 in
def m0 (i0 : Int32) (i1 : Int32) (i2 : Int32) (i3 : Int32) (i4 : Int32) (i5 : Int32) (M : own_Mem) : Option (Int32 × own_Mem) := own_let ((1 : Int32) + (i0 &&& (127 : Int32))) fun x47 => own_let ((1 : Int32) + (i1 &&& (127 : Int32))) fun x48 => own_let (i2 &&& (1 : Int32)) fun x49 => own_let ((1 : Int32) - x49) fun x50 => if (i2 &&& (2 : Int32)) = 0 then (m0_b38 i3 i4 i5 x47 x48 x49 x50 (0 : Int32) M) else (m0_b38 i3 i4 i5 x47 x48 x49 x50 (1 : Int32) M)
set_option maxRecDepth 65536 in
set_option maxHeartbeats 4000000 in
theorem m0_w {C : own_Ctx} (K : own_K C code maxLocals "com/example/tablewise/tablewise/estr2/PwsupAddPinLaw" ret "law" room_1) {i0 : Int32} {i1 : Int32} {i2 : Int32} {i3 : Int32} {i4 : Int32} {i5 : Int32} {M : own_Mem} {r : Int32 × own_Mem} (h : m0 i0 i1 i2 i3 i4 i5 M = some r) : own_W C (some (.int r.1)) r.2 M 0 0 0 [.val (.int i0), .val (.int i1), .val (.int i2), .val (.int i3), .val (.int i4), .val (.int i5), .unset, .unset, .unset, .unset, .unset, .unset, .unset, .unset, .unset, .unset, .unset, .unset, .unset, .unset, .unset, .unset, .unset, .unset, .unset, .unset, .unset, .unset, .unset, .unset, .unset, .unset, .unset, .unset, .unset] [] := by
  unfold m0 at h
  refine own_iconst K at_0 own_ic1 rfl ?_
  refine own_iloadN K at_1 rfl rfl ?_
  refine own_bipush K at_2 own_bi127 rfl ?_
  refine own_iand K at_4 rfl ?_
  refine own_iadd K at_5 rfl ?_
  refine own_letI h (fun x47 h => ?_)
  refine own_istore K at_6 (Ls' := [.val (.int i0), .val (.int i1), .val (.int i2), .val (.int i3), .val (.int i4), .val (.int i5), .val (.int x47), .unset, .unset, .unset, .unset, .unset, .unset, .unset, .unset, .unset, .unset, .unset, .unset, .unset, .unset, .unset, .unset, .unset, .unset, .unset, .unset, .unset, .unset, .unset, .unset, .unset, .unset, .unset, .unset]) rfl rfl ?_
  refine own_iconst K at_8 own_ic1 rfl ?_
  refine own_iloadN K at_9 rfl rfl ?_
  refine own_bipush K at_10 own_bi127 rfl ?_
  refine own_iand K at_12 rfl ?_
  refine own_iadd K at_13 rfl ?_
  refine own_letI h (fun x48 h => ?_)
  refine own_istore K at_14 (Ls' := [.val (.int i0), .val (.int i1), .val (.int i2), .val (.int i3), .val (.int i4), .val (.int i5), .val (.int x47), .val (.int x48), .unset, .unset, .unset, .unset, .unset, .unset, .unset, .unset, .unset, .unset, .unset, .unset, .unset, .unset, .unset, .unset, .unset, .unset, .unset, .unset, .unset, .unset, .unset, .unset, .unset, .unset, .unset]) rfl rfl ?_
  refine own_iloadN K at_16 rfl rfl ?_
  refine own_iconst K at_17 own_ic1 rfl ?_
  refine own_iand K at_18 rfl ?_
  refine own_letI h (fun x49 h => ?_)
  refine own_istore K at_19 (Ls' := [.val (.int i0), .val (.int i1), .val (.int i2), .val (.int i3), .val (.int i4), .val (.int i5), .val (.int x47), .val (.int x48), .val (.int x49), .unset, .unset, .unset, .unset, .unset, .unset, .unset, .unset, .unset, .unset, .unset, .unset, .unset, .unset, .unset, .unset, .unset, .unset, .unset, .unset, .unset, .unset, .unset, .unset, .unset, .unset]) rfl rfl ?_
  refine own_iconst K at_21 own_ic1 rfl ?_
  refine own_iload K at_22 rfl rfl ?_
  refine own_isub K at_24 rfl ?_
  refine own_letI h (fun x50 h => ?_)
  refine own_istore K at_25 (Ls' := [.val (.int i0), .val (.int i1), .val (.int i2), .val (.int i3), .val (.int i4), .val (.int i5), .val (.int x47), .val (.int x48), .val (.int x49), .val (.int x50), .unset, .unset, .unset, .unset, .unset, .unset, .unset, .unset, .unset, .unset, .unset, .unset, .unset, .unset, .unset, .unset, .unset, .unset, .unset, .unset, .unset, .unset, .unset, .unset, .unset]) rfl rfl ?_
  refine own_iloadN K at_27 rfl rfl ?_
  refine own_iconst K at_28 own_ic2 rfl ?_
  refine own_iand K at_29 rfl ?_
  refine own_zeq K at_30 h (pc1 := 37) (pc2 := 33) (by decide) rfl (fun h => ?_) (fun h => ?_)
  · refine own_iconst K at_37 own_ic0 rfl ?_
    exact m0_w38 K own_one_i own_one_i own_one_i h
  · refine own_iconst K at_33 own_ic1 rfl ?_
    refine own_goto K at_34 (pc' := 38) (by decide) ?_
    exact m0_w38 K own_one_i own_one_i own_one_i h
set_option maxRecDepth 65536 in
set_option maxHeartbeats 4000000 in
theorem m0_met {i0 : Int32} {i1 : Int32} {i2 : Int32} {i3 : Int32} {i4 : Int32} {i5 : Int32} {M : own_Mem} {q : Int32 × own_Mem} (h : m0 i0 i1 i2 i3 i4 i5 M = some q) : own_Met x code maxLocals ret room_1 [.int i0, .int i1, .int i2, .int i3, .int i4, .int i5] M (some (.int q.1)) q.2 :=
  own_met (Ls := fun n0 => [.val (.int i0), .val (.int i1), .val (.int i2), .val (.int i3), .val (.int i4), .val (.int i5), .unset, .unset, .unset, .unset, .unset, .unset, .unset, .unset, .unset, .unset, .unset, .unset, .unset, .unset, .unset, .unset, .unset, .unset, .unset, .unset, .unset, .unset, .unset, .unset, .unset, .unset, .unset, .unset, .unset]) (plainFor_of_name own_pn1) (fun m n0 => by first | (simp [entryFrame, mkF, argsToLocals, Value.category, own_up, maxLocals]; done) | rfl) fun C K => m0_w K h
/-! ### the plain law -/
theorem lw_nz {β : Type} {b : Prop} [Decidable b] (h : ¬ b) (k : Option β) : own_nz b k = k := if_neg h
theorem lw_let {α β : Type} (x : α) (k : α → Option β) : own_let x k = k x := rfl
theorem lw_64 : ¬ ((64 : Int32) = 0) := by decide
theorem lw_64j : ¬ ((64 : Int64) = 0) := by decide
abbrev lw_o (n : Nat) : Int32 := Int32.ofNat n
theorem lw_nat (u : Int32) (h0 : 0 ≤ u.toInt) : u = lw_o u.toInt.toNat := Int32.toInt_inj.mp (by
  have := u.toInt_lt
  rw [Int32.toInt_ofNat_of_lt (by omega)]
  omega)
theorem lw_nati (n : Nat) (h : n < 2147483648) : (lw_o n).toInt = n := Int32.toInt_ofNat_of_lt (by omega)
/-- one bit of a word -/
def lw_bit (t : Int32) : Int64 := (1 : Int64) <<< (t &&& 0x3f).toInt64
def lw_bw (v j : Int32) : Int64 := if (v >>> ((6 : Int32) &&& 31)) = j then (1 : Int64) <<< ((v &&& (63 : Int32)) &&& 0x3f).toInt64 else 0
theorem lw_m9 (v j : Int32) (M : own_Mem) : m9 v j M = some (lw_bw v j, M) := by
  unfold m9 lw_bw m9_b18
  split <;> rfl
def lw_full (d j : Int32) : Int64 := if 0 < d - (64 : Int32) * j then (if d - (64 : Int32) * j < 64 then ((1 : Int64) <<< ((d - (64 : Int32) * j) &&& 0x3f).toInt64) - 1 else -1) else 0
theorem lw_m11 (d j : Int32) (M : own_Mem) : m11 d j M = some (lw_full d j, M) := by
  unfold m11 lw_full
  rw [lw_let]
  split
  · split <;> rfl
  · rfl
def lw_nw : Bool → Int32
  | false => 1
  | true => 2
def lw_tab : Bool → Int64 → Int64 → List Value
  | false, x, _ => [.long x]
  | true, x, y => [.long x, .long y]
def lw_M (V : List Value) (E : own_Mem) (b0 b1 : Bool) (d0 d1 : Int32) (x0 y0 x1 y1 : Int64) : own_Mem :=
  (100, [.int d0, .int d1]) :: (0, .ref 2 :: .ref 3 :: V) :: (100, [.int 0, .int (lw_nw b0), .int (lw_nw b0 + lw_nw b1)]) :: (101, lw_tab b0 x0 y0 ++ lw_tab b1 x1 y1) :: E
/-- the two words that the constructor fills -/
def lw_fill : Nat → Nat → Int64 × Int64 → Int64 × Int64
  | 0, _, p => p
  | k + 1, t, p => lw_fill k (t + 1) (if t < 64 then (p.1 ||| lw_bit (lw_o t), p.2) else (p.1, p.2 ||| lw_bit (lw_o t)))
def lw_okd (d : Nat) : Bool := decide (lw_fill d 0 (0, 0) = (lw_full (lw_o d) 0, lw_full (lw_o d) 1)) && decide ((lw_o d + 63) / 64 = lw_nw (decide (64 < d))) && decide (((((lw_o d).toInt64 + 64) - 1) / 64).toInt32 = lw_nw (decide (64 < d))) && (decide (64 < d) || decide (lw_full (lw_o d) 1 = 0))
theorem lw_okd_all : ((List.range 129).all fun d => decide (d = 0) || lw_okd d) = true := by decide +kernel
def lw_okv (n : Nat) : Bool := if n < 64 then decide (lw_o n / 64 = 0) && decide (lw_bw (lw_o n) 0 = lw_bit (lw_o n)) && decide (lw_bw (lw_o n) 1 = 0) else decide (lw_o n / 64 = 1) && decide (lw_bw (lw_o n) 0 = 0) && decide (lw_bw (lw_o n) 1 = lw_bit (lw_o n))
theorem lw_okv_all : ((List.range 128).all lw_okv) = true := by decide +kernel
def lw_D (b : Bool) (d : Int32) : Prop := (1 ≤ d.toInt ∧ d.toInt ≤ 128) ∧ b = decide (64 < d.toInt.toNat) ∧ lw_fill d.toInt.toNat 0 (0, 0) = (lw_full d 0, lw_full d 1) ∧ (d + 63) / 64 = lw_nw b ∧ (((d.toInt64 + 64) - 1) / 64).toInt32 = lw_nw b ∧ (b = false → lw_full d 1 = 0)
theorem lw_D.lo {b d} (h : lw_D b d) : 1 ≤ d.toInt := h.1.1
theorem lw_D.hi {b d} (h : lw_D b d) : d.toInt ≤ 128 := h.1.2
theorem lw_D.b {b d} (h : lw_D b d) : b = decide (64 < d.toInt.toNat) := h.2.1
theorem lw_D.fill {b d} (h : lw_D b d) : lw_fill d.toInt.toNat 0 (0, 0) = (lw_full d 0, lw_full d 1) := h.2.2.1
theorem lw_D.nw {b d} (h : lw_D b d) : (d + 63) / 64 = lw_nw b := h.2.2.2.1
theorem lw_D.nwj {b d} (h : lw_D b d) : (((d.toInt64 + 64) - 1) / 64).toInt32 = lw_nw b := h.2.2.2.2.1
theorem lw_D.z {b d} (h : lw_D b d) : b = false → lw_full d 1 = 0 := h.2.2.2.2.2
theorem lw_D_of (d : Int32) (h1 : 1 ≤ d.toInt) (h2 : d.toInt ≤ 128) : lw_D (decide (64 < d.toInt.toNat)) d := by
  have h := List.all_eq_true.mp lw_okd_all d.toInt.toNat (List.mem_range.mpr (by omega))
  rw [Bool.or_eq_true, decide_eq_true_eq] at h
  have h := h.resolve_left (by omega)
  unfold lw_okd at h
  rw [← lw_nat d (by omega), Bool.and_eq_true, Bool.and_eq_true, Bool.and_eq_true, decide_eq_true_eq, decide_eq_true_eq, decide_eq_true_eq, Bool.or_eq_true, decide_eq_true_eq (p := lw_full d 1 = 0)] at h
  obtain ⟨⟨⟨a, b⟩, c⟩, e⟩ := h
  exact ⟨⟨h1, h2⟩, rfl, a, b, c, fun q => e.resolve_left (by rw [q]; decide)⟩
theorem lw_v (v : Int32) (h0 : 0 ≤ v.toInt) (h1 : v.toInt < 128) : (v.toInt < 64 ∧ v / 64 = 0 ∧ lw_bw v 0 = lw_bit v ∧ lw_bw v 1 = 0) ∨ (64 ≤ v.toInt ∧ v / 64 = 1 ∧ lw_bw v 0 = 0 ∧ lw_bw v 1 = lw_bit v) := by
  have h := List.all_eq_true.mp lw_okv_all v.toInt.toNat (List.mem_range.mpr (by omega))
  unfold lw_okv at h
  rw [← lw_nat v h0] at h
  split at h
  · rw [Bool.and_eq_true, Bool.and_eq_true, decide_eq_true_eq, decide_eq_true_eq, decide_eq_true_eq] at h
    exact .inl ⟨by omega, h.1.1, h.1.2, h.2⟩
  · rw [Bool.and_eq_true, Bool.and_eq_true, decide_eq_true_eq, decide_eq_true_eq, decide_eq_true_eq] at h
    exact .inr ⟨by omega, h.1.1, h.1.2, h.2⟩
section mem
variable {V : List Value} {E : own_Mem} {b0 b1 : Bool} {d0 d1 : Int32} {x0 y0 x1 y1 z : Int64}
theorem lw_g0 : own_getR 0 0 (lw_M V E b0 b1 d0 d1 x0 y0 x1 y1) 1 = some 2 := rfl
theorem lw_g1 : own_getR 0 1 (lw_M V E b0 b1 d0 d1 x0 y0 x1 y1) 1 = some 3 := rfl
theorem lw_at : own_at (lw_M V E b0 b1 d0 d1 x0 y0 x1 y1) 0 1 = some (.ref 2 :: .ref 3 :: V) := rfl
theorem lw_d0 : own_ldI 100 (lw_M V E b0 b1 d0 d1 x0 y0 x1 y1) 0 0 = some d0 := rfl
theorem lw_d1 : own_ldI 100 (lw_M V E b0 b1 d0 d1 x0 y0 x1 y1) 0 1 = some d1 := rfl
theorem lw_s0 : own_ldI 100 (lw_M V E b0 b1 d0 d1 x0 y0 x1 y1) 2 0 = some 0 := rfl
theorem lw_s1 : own_ldI 100 (lw_M V E b0 b1 d0 d1 x0 y0 x1 y1) 2 1 = some (lw_nw b0) := rfl
theorem lw_len : own_len 101 (lw_M V E b0 b1 d0 d1 x0 y0 x1 y1) 3 = some (lw_nw b0 + lw_nw b1) := by cases b0 <;> cases b1 <;> rfl
theorem lw_l00 : own_ldJ 101 (lw_M V E b0 b1 d0 d1 x0 y0 x1 y1) 3 (0 + 0) = some x0 := by cases b0 <;> cases b1 <;> rfl
theorem lw_l01 : own_ldJ 101 (lw_M V E true b1 d0 d1 x0 y0 x1 y1) 3 (0 + 1) = some y0 := by cases b1 <;> rfl
theorem lw_l10 : own_ldJ 101 (lw_M V E b0 b1 d0 d1 x0 y0 x1 y1) 3 (lw_nw b0 + 0) = some x1 := by cases b0 <;> cases b1 <;> rfl
theorem lw_l11 : own_ldJ 101 (lw_M V E b0 true d0 d1 x0 y0 x1 y1) 3 (lw_nw b0 + 1) = some y1 := by cases b0 <;> rfl
theorem lw_t00 : own_sto 101 (lw_M V E b0 b1 d0 d1 x0 y0 x1 y1) 3 (0 + 0) (.long z) = some (lw_M V E b0 b1 d0 d1 z y0 x1 y1) := by cases b0 <;> cases b1 <;> rfl
theorem lw_t01 : own_sto 101 (lw_M V E true b1 d0 d1 x0 y0 x1 y1) 3 (0 + 1) (.long z) = some (lw_M V E true b1 d0 d1 x0 z x1 y1) := by cases b1 <;> rfl
theorem lw_t10 : own_sto 101 (lw_M V E b0 b1 d0 d1 x0 y0 x1 y1) 3 (lw_nw b0 + 0) (.long z) = some (lw_M V E b0 b1 d0 d1 x0 y0 z y1) := by cases b0 <;> cases b1 <;> rfl
theorem lw_t11 : own_sto 101 (lw_M V E b0 true d0 d1 x0 y0 x1 y1) 3 (lw_nw b0 + 1) (.long z) = some (lw_M V E b0 true d0 d1 x0 y0 x1 z) := by cases b0 <;> rfl
theorem lw_cl0 : m4 1 0 (lw_M V E b0 b1 d0 d1 x0 y0 x1 y1) = some ((), lw_M V E b0 b1 d0 d1 0 0 x1 y1) := by cases b0 <;> cases b1 <;> rfl
theorem lw_cl1 : m4 1 1 (lw_M V E b0 b1 d0 d1 x0 y0 x1 y1) = some ((), lw_M V E b0 b1 d0 d1 x0 y0 0 0) := by cases b0 <;> cases b1 <;> rfl
end mem
theorem lw_L18 (f a0 a1 : Nat) (i2 i3 i4 : Int32) (M : own_Mem) : m1_L (f + 1) 18 a0 a1 i2 i3 i4 M = m1_c18 (m1_L f) a0 a1 i2 i3 M := rfl
theorem lw_L66 (f a0 a1 : Nat) (i2 i3 i4 : Int32) (M : own_Mem) : m1_L (f + 1) 66 a0 a1 i2 i3 i4 M = m1_c66 (m1_L f) a0 a1 i2 i3 M := rfl
theorem lw_L74 (f a0 a1 : Nat) (i2 i3 i4 : Int32) (M : own_Mem) : m1_L (f + 1) 74 a0 a1 i2 i3 i4 M = m1_c74 (m1_L f) a0 a1 i2 i3 i4 M := rfl
theorem lw_inc (t : Nat) (h : t < 1000) : lw_o t + 1 = lw_o (t + 1) := Int32.toInt_inj.mp (by
  have k1 : (1 : Int32).toInt = 1 := by decide
  have e := lw_nati t (by omega)
  rw [Jvm.Kit.i32_add (by omega) (by omega), e, lw_nati (t + 1) (by omega), k1]
  omega)
theorem lw_fill_lo (k t : Nat) (h : t < 64) (x y : Int64) : lw_fill (k + 1) t (x, y) = lw_fill k (t + 1) (x ||| lw_bit (lw_o t), y) := by
  show lw_fill k (t + 1) _ = _
  rw [if_pos h]
theorem lw_fill_hi (k t : Nat) (h : ¬ t < 64) (x y : Int64) : lw_fill (k + 1) t (x, y) = lw_fill k (t + 1) (x, y ||| lw_bit (lw_o t)) := by
  show lw_fill k (t + 1) _ = _
  rw [if_neg h]
theorem lw_bite (t : Int32) : ((1 : Int64) <<< (t &&& 0x3f).toInt64) = lw_bit t := rfl
theorem lw_in0 {V : List Value} {E : own_Mem} {b0 b1 : Bool} {d0 d1 : Int32} {x1 y1 : Int64} (h : lw_D b0 d0) : ∀ (k t F : Nat) (x0 y0 : Int64), t + k = d0.toInt.toNat → k + 1 ≤ F → m1_L F 74 1 0 2 0 (lw_o t) (lw_M V E b0 b1 d0 d1 x0 y0 x1 y1) = m1_L (F - (k + 1)) 66 1 0 2 1 0 (lw_M V E b0 b1 d0 d1 (lw_fill k t (x0, y0)).1 (lw_fill k t (x0, y0)).2 x1 y1) := by
  have lo := h.lo
  have hi := h.hi
  intro k
  induction k with
  | zero =>
    intro t F x0 y0 e hF
    obtain ⟨f, rfl⟩ : ∃ f, F = f + 1 := ⟨F - 1, by omega⟩
    have c : ¬ lw_o t < d0 := by
      rw [Int32.lt_iff_toInt_lt, lw_nati t (by omega)]
      omega
    rw [lw_L74]
    unfold m1_c74
    rw [lw_d0, Option.bind_some, if_neg c, show (0 : Int32) + 1 = 1 from rfl, show f + 1 - (0 + 1) = f from rfl]
    rfl
  | succ k ih =>
    intro t F x0 y0 e hF
    obtain ⟨f, rfl⟩ : ∃ f, F = f + 1 := ⟨F - 1, by omega⟩
    have te := lw_nati t (by omega)
    have c : lw_o t < d0 := by
      rw [Int32.lt_iff_toInt_lt, te]
      omega
    rw [lw_L74]
    unfold m1_c74
    rw [lw_d0, Option.bind_some, if_pos c, lw_g1, Option.bind_some, lw_g0, Option.bind_some, lw_s0, Option.bind_some, lw_nz lw_64, lw_bite, lw_inc t (by omega)]
    have fe : f + 1 - (k + 1 + 1) = f - (k + 1) := by omega
    rcases lw_v (lw_o t) (by omega) (by omega) with ⟨q, w, _, _⟩ | ⟨q, w, _, _⟩
    · rw [w, lw_l00, Option.bind_some, lw_t00, Option.bind_some, ih (t + 1) f _ _ (by omega) (by omega), lw_fill_lo k t (by omega), fe]
    · have hb : b0 = true := by
        rw [h.b, decide_eq_true_eq]
        omega
      subst hb
      rw [w, lw_l01, Option.bind_some, lw_t01, Option.bind_some, ih (t + 1) f _ _ (by omega) (by omega), lw_fill_hi k t (by omega), fe]
theorem lw_in1 {V : List Value} {E : own_Mem} {b0 b1 : Bool} {d0 d1 : Int32} {x0 y0 : Int64} (h : lw_D b1 d1) : ∀ (k t F : Nat) (x1 y1 : Int64), t + k = d1.toInt.toNat → k + 1 ≤ F → m1_L F 74 1 0 2 1 (lw_o t) (lw_M V E b0 b1 d0 d1 x0 y0 x1 y1) = m1_L (F - (k + 1)) 66 1 0 2 2 0 (lw_M V E b0 b1 d0 d1 x0 y0 (lw_fill k t (x1, y1)).1 (lw_fill k t (x1, y1)).2) := by
  have lo := h.lo
  have hi := h.hi
  intro k
  induction k with
  | zero =>
    intro t F x1 y1 e hF
    obtain ⟨f, rfl⟩ : ∃ f, F = f + 1 := ⟨F - 1, by omega⟩
    have c : ¬ lw_o t < d1 := by
      rw [Int32.lt_iff_toInt_lt, lw_nati t (by omega)]
      omega
    rw [lw_L74]
    unfold m1_c74
    rw [lw_d1, Option.bind_some, if_neg c, show (1 : Int32) + 1 = 2 from rfl, show f + 1 - (0 + 1) = f from rfl]
    rfl
  | succ k ih =>
    intro t F x1 y1 e hF
    obtain ⟨f, rfl⟩ : ∃ f, F = f + 1 := ⟨F - 1, by omega⟩
    have te := lw_nati t (by omega)
    have c : lw_o t < d1 := by
      rw [Int32.lt_iff_toInt_lt, te]
      omega
    rw [lw_L74]
    unfold m1_c74
    rw [lw_d1, Option.bind_some, if_pos c, lw_g1, Option.bind_some, lw_g0, Option.bind_some, lw_s1, Option.bind_some, lw_nz lw_64, lw_bite, lw_inc t (by omega)]
    have fe : f + 1 - (k + 1 + 1) = f - (k + 1) := by omega
    rcases lw_v (lw_o t) (by omega) (by omega) with ⟨q, w, _, _⟩ | ⟨q, w, _, _⟩
    · rw [w, lw_l10, Option.bind_some, lw_t10, Option.bind_some, ih (t + 1) f _ _ (by omega) (by omega), lw_fill_lo k t (by omega), fe]
    · have hb : b1 = true := by
        rw [h.b, decide_eq_true_eq]
        omega
      subst hb
      rw [w, lw_l11, Option.bind_some, lw_t11, Option.bind_some, ih (t + 1) f _ _ (by omega) (by omega), lw_fill_hi k t (by omega), fe]
theorem lw_m3 (j : Int64) (M : own_Mem) : m3 j M = some ((((j + 64) - 1) / 64), M) := by
  unfold m3
  rw [lw_nz lw_64j]
def lw_A (d0 d1 a b : Int32) : own_Mem := [(100, [.int d0, .int d1]), (0, [.ref 2, .null, .null, .null, .int 0]), (100, [.int 0, .int a, .int b])]
def lw_A3 (b0 b1 : Bool) (d0 d1 : Int32) : own_Mem := [(100, [.int d0, .int d1]), (0, [.ref 2, .null, .null, .null, .int 0]), (100, [.int 0, .int (lw_nw b0), .int (lw_nw b0 + lw_nw b1)]), (101, lw_tab b0 0 0 ++ lw_tab b1 0 0)]
def lw_V (c : Int32) : List Value := [.ref 4, .ref 5, .int c]
def lw_E (u0 u1 f0 f1 : Int32) : own_Mem := [(100, [.int u0, .int u1]), (103, [.int f0, .int f1])]
theorem lw_ctor {b0 b1 : Bool} {d0 d1 : Int32} (h0 : lw_D b0 d0) (h1 : lw_D b1 d1) : m1 1 0 [(100, [.int d0, .int d1]), (0, own_V0)] = some ((), lw_M (lw_V 0) (lw_E 0 0 0 0) b0 b1 d0 d1 (lw_full d0 0) (lw_full d0 1) (lw_full d1 0) (lw_full d1 1)) := by
  have lo0 := h0.lo
  have hi0 := h0.hi
  have lo1 := h1.lo
  have hi1 := h1.hi
  unfold m1
  rw [show own_len 100 [(100, [.int d0, .int d1]), (0, own_V0)] 0 = some 2 from rfl, Option.bind_some,
    show own_newA 100 3 (.int 0) [(100, [.int d0, .int d1]), (0, own_V0)] (2 + 1) = some (2, [(100, [.int d0, .int d1]), (0, own_V0), (100, [.int 0, .int 0, .int 0])]) from rfl, Option.bind_some]
  dsimp only
  rw [show own_put 0 0 [(100, [.int d0, .int d1]), (0, own_V0), (100, [.int 0, .int 0, .int 0])] 1 (.ref 2) = some (lw_A d0 d1 0 0) from rfl, Option.bind_some, lw_L18 399]
  unfold m1_c18
  rw [if_pos (by decide), show own_getR 0 0 (lw_A d0 d1 0 0) 1 = some 2 from rfl, Option.bind_some, Option.bind_some, show own_ldI 100 (lw_A d0 d1 0 0) 2 0 = some 0 from rfl, Option.bind_some, show own_ldI 100 (lw_A d0 d1 0 0) 0 0 = some d0 from rfl, Option.bind_some, lw_m3, Option.bind_some]
  dsimp only
  rw [h0.nwj, show (0 : Int32) + lw_nw b0 = lw_nw b0 by cases b0 <;> rfl, show own_sto 100 (lw_A d0 d1 0 0) 2 (0 + 1) (.int (lw_nw b0)) = some (lw_A d0 d1 (lw_nw b0) 0) from rfl, Option.bind_some, show (0 : Int32) + 1 = 1 from rfl, lw_L18 398]
  unfold m1_c18
  rw [if_pos (by decide), show own_getR 0 0 (lw_A d0 d1 (lw_nw b0) 0) 1 = some 2 from rfl, Option.bind_some, Option.bind_some, show own_ldI 100 (lw_A d0 d1 (lw_nw b0) 0) 2 1 = some (lw_nw b0) from rfl, Option.bind_some, show own_ldI 100 (lw_A d0 d1 (lw_nw b0) 0) 0 1 = some d1 from rfl, Option.bind_some, lw_m3, Option.bind_some]
  dsimp only
  rw [h1.nwj, show own_sto 100 (lw_A d0 d1 (lw_nw b0) 0) 2 (1 + 1) (.int (lw_nw b0 + lw_nw b1)) = some (lw_A d0 d1 (lw_nw b0) (lw_nw b0 + lw_nw b1)) from rfl, Option.bind_some, show (1 : Int32) + 1 = 2 from rfl, lw_L18 397]
  unfold m1_c18
  rw [if_neg (by decide), show own_getR 0 0 (lw_A d0 d1 (lw_nw b0) (lw_nw b0 + lw_nw b1)) 1 = some 2 from rfl, Option.bind_some, show own_ldI 100 (lw_A d0 d1 (lw_nw b0) (lw_nw b0 + lw_nw b1)) 2 2 = some (lw_nw b0 + lw_nw b1) from rfl, Option.bind_some,
    show own_newA 101 4 (.long 0) (lw_A d0 d1 (lw_nw b0) (lw_nw b0 + lw_nw b1)) (lw_nw b0 + lw_nw b1) = some (3, lw_A3 b0 b1 d0 d1) by cases b0 <;> cases b1 <;> rfl, Option.bind_some]
  dsimp only
  rw [show own_put 0 1 (lw_A3 b0 b1 d0 d1) 1 (.ref 3) = some (lw_M [.null, .null, .int 0] [] b0 b1 d0 d1 0 0 0 0) from rfl, Option.bind_some, lw_L66 396]
  unfold m1_c66
  rw [if_pos (by decide)]
  refine Eq.trans (lw_in0 h0 d0.toInt.toNat 0 396 0 0 (by omega) (by omega)) ?_
  rw [h0.fill]
  obtain ⟨f, hf⟩ : ∃ f, 396 - (d0.toInt.toNat + 1) = f + 1 := ⟨395 - (d0.toInt.toNat + 1), by omega⟩
  rw [hf, lw_L66]
  unfold m1_c66
  rw [if_pos (by decide)]
  refine Eq.trans (lw_in1 h1 d1.toInt.toNat 0 f 0 0 (by omega) (by omega)) ?_
  rw [h1.fill]
  obtain ⟨g, hg⟩ : ∃ g, f - (d1.toInt.toNat + 1) = g + 1 := ⟨f - (d1.toInt.toNat + 1) - 1, by omega⟩
  rw [hg, lw_L66]
  unfold m1_c66
  rw [if_neg (by decide)]
  rfl
/-- the rest of add, after the word is written -/
def lw_R (i1 : Int32) (M5 : own_Mem) : Option (Unit × own_Mem) := (own_getR 0 3 M5 1).bind fun x6 => (own_ldI 103 M5 x6 i1).bind fun x7 => if x7 = 0 then ((own_getR 0 3 M5 1).bind fun x8 => (own_sto 103 M5 x8 i1 (.int (nar .boolean (1 : Int32)))).bind fun M9 => (own_getR 0 2 M9 1).bind fun x10 => (own_getI 0 4 M9 1).bind fun x11 => (own_put 0 4 M9 1 (.int (x11 + (1 : Int32)))).bind fun M12 => (own_sto 100 M12 x10 x11 (.int i1)).bind fun M13 => m5_b55 M13) else (m5_b55 M5)
theorem lw_or0 (x : Int64) : x ||| 0 = x := by simp
theorem lw_0or (x : Int64) : 0 ||| x = x := by simp
section ops
variable {V : List Value} {E : own_Mem} {b0 b1 : Bool} {d0 d1 : Int32} {x0 y0 x1 y1 : Int64}
theorem lw_m50 (v : Int32) (h0 : 0 ≤ v.toInt) (h1 : v.toInt < 128) (hb : b0 = false → v.toInt < 64) : m5 1 0 v (lw_M V E b0 b1 d0 d1 x0 y0 x1 y1) = lw_R 0 (lw_M V E b0 b1 d0 d1 (x0 ||| lw_bw v 0) (y0 ||| lw_bw v 1) x1 y1) := by
  unfold m5
  rw [lw_g1, Option.bind_some, lw_g0, Option.bind_some, lw_s0, Option.bind_some, lw_nz lw_64, lw_bite]
  rcases lw_v v h0 h1 with ⟨q, w, e0, e1⟩ | ⟨q, w, e0, e1⟩
  · rw [w, lw_l00, Option.bind_some, lw_t00, Option.bind_some, e0, e1, lw_or0]
    rfl
  · have hb : b0 = true := by
      cases b0
      · have := hb rfl
        omega
      · rfl
    subst hb
    rw [w, lw_l01, Option.bind_some, lw_t01, Option.bind_some, e0, e1, lw_or0]
    rfl
theorem lw_m51 (v : Int32) (h0 : 0 ≤ v.toInt) (h1 : v.toInt < 128) (hb : b1 = false → v.toInt < 64) : m5 1 1 v (lw_M V E b0 b1 d0 d1 x0 y0 x1 y1) = lw_R 1 (lw_M V E b0 b1 d0 d1 x0 y0 (x1 ||| lw_bw v 0) (y1 ||| lw_bw v 1)) := by
  unfold m5
  rw [lw_g1, Option.bind_some, lw_g0, Option.bind_some, lw_s1, Option.bind_some, lw_nz lw_64, lw_bite]
  rcases lw_v v h0 h1 with ⟨q, w, e0, e1⟩ | ⟨q, w, e0, e1⟩
  · rw [w, lw_l10, Option.bind_some, lw_t10, Option.bind_some, e0, e1, lw_or0]
    rfl
  · have hb : b1 = true := by
      cases b1
      · have := hb rfl
        omega
      · rfl
    subst hb
    rw [w, lw_l11, Option.bind_some, lw_t11, Option.bind_some, e0, e1, lw_or0]
    rfl
theorem lw_R0a : lw_R 0 (lw_M (lw_V 0) (lw_E 0 0 0 0) b0 b1 d0 d1 x0 y0 x1 y1) = some ((), lw_M (lw_V 1) (lw_E 0 0 1 0) b0 b1 d0 d1 x0 y0 x1 y1) := rfl
theorem lw_R0b : lw_R 0 (lw_M (lw_V 1) (lw_E 0 0 1 0) b0 b1 d0 d1 x0 y0 x1 y1) = some ((), lw_M (lw_V 1) (lw_E 0 0 1 0) b0 b1 d0 d1 x0 y0 x1 y1) := rfl
theorem lw_R0c : lw_R 1 (lw_M (lw_V 1) (lw_E 0 0 1 0) b0 b1 d0 d1 x0 y0 x1 y1) = some ((), lw_M (lw_V 2) (lw_E 0 1 1 1) b0 b1 d0 d1 x0 y0 x1 y1) := rfl
theorem lw_R1a : lw_R 1 (lw_M (lw_V 0) (lw_E 0 0 0 0) b0 b1 d0 d1 x0 y0 x1 y1) = some ((), lw_M (lw_V 1) (lw_E 1 0 0 1) b0 b1 d0 d1 x0 y0 x1 y1) := rfl
theorem lw_R1b : lw_R 1 (lw_M (lw_V 1) (lw_E 1 0 0 1) b0 b1 d0 d1 x0 y0 x1 y1) = some ((), lw_M (lw_V 1) (lw_E 1 0 0 1) b0 b1 d0 d1 x0 y0 x1 y1) := rfl
theorem lw_R1c : lw_R 0 (lw_M (lw_V 1) (lw_E 1 0 0 1) b0 b1 d0 d1 x0 y0 x1 y1) = some ((), lw_M (lw_V 2) (lw_E 1 0 1 1) b0 b1 d0 d1 x0 y0 x1 y1) := rfl
theorem lw_ca0 : m10 1 (lw_M (lw_V 1) (lw_E 0 0 1 0) b0 b1 d0 d1 x0 y0 x1 y1) = some ((), lw_M (lw_V 0) (lw_E 0 0 0 0) b0 b1 d0 d1 0 0 x1 y1) := by cases b0 <;> cases b1 <;> rfl
theorem lw_ca01 : m10 1 (lw_M (lw_V 2) (lw_E 0 1 1 1) b0 b1 d0 d1 x0 y0 x1 y1) = some ((), lw_M (lw_V 0) (lw_E 0 1 0 0) b0 b1 d0 d1 0 0 0 0) := by cases b0 <;> cases b1 <;> rfl
theorem lw_ca1 : m10 1 (lw_M (lw_V 1) (lw_E 1 0 0 1) b0 b1 d0 d1 x0 y0 x1 y1) = some ((), lw_M (lw_V 0) (lw_E 1 0 0 0) b0 b1 d0 d1 x0 y0 0 0) := by cases b0 <;> cases b1 <;> rfl
theorem lw_ca10 : m10 1 (lw_M (lw_V 2) (lw_E 1 0 1 1) b0 b1 d0 d1 x0 y0 x1 y1) = some ((), lw_M (lw_V 0) (lw_E 1 0 0 0) b0 b1 d0 d1 0 0 0 0) := by cases b0 <;> cases b1 <;> rfl
theorem lw_m6 : m6 1 (lw_M V E b0 b1 d0 d1 x0 y0 x1 y1) = some (3, lw_M V E b0 b1 d0 d1 x0 y0 x1 y1) := rfl
theorem lw_w00 : m8 3 0 (lw_nw b0) 0 (lw_M V E b0 b1 d0 d1 x0 y0 x1 y1) = some (x0, lw_M V E b0 b1 d0 d1 x0 y0 x1 y1) := by cases b0 <;> cases b1 <;> rfl
theorem lw_w01 (h : b0 = false → y0 = 0) : m8 3 0 (lw_nw b0) 1 (lw_M V E b0 b1 d0 d1 x0 y0 x1 y1) = some (y0, lw_M V E b0 b1 d0 d1 x0 y0 x1 y1) := by
  cases b0
  · rw [h rfl]
    rfl
  · cases b1 <;> rfl
theorem lw_w10 : m8 3 (lw_nw b0) (lw_nw b1) 0 (lw_M V E b0 b1 d0 d1 x0 y0 x1 y1) = some (x1, lw_M V E b0 b1 d0 d1 x0 y0 x1 y1) := by cases b0 <;> cases b1 <;> rfl
theorem lw_w11 (h : b1 = false → y1 = 0) : m8 3 (lw_nw b0) (lw_nw b1) 1 (lw_M V E b0 b1 d0 d1 x0 y0 x1 y1) = some (y1, lw_M V E b0 b1 d0 d1 x0 y0 x1 y1) := by
  cases b1
  · rw [h rfl]
    rfl
  · cases b0 <;> rfl
end ops
theorem lw_m7 {b : Bool} {d : Int32} (h : lw_D b d) (M : own_Mem) : m7 d M = some (lw_nw b, M) := by
  unfold m7
  rw [lw_nz lw_64, h.nw]
theorem lw_b341 (i10 i12 i15 : Int32) (a17 a18 : Nat) (i19 i20 i21 i22 i23 i24 t0 : Int32) (M : own_Mem) : m0_b341 i10 i12 i15 a17 a18 i19 i20 i21 i22 i23 i24 t0 M = m0_b385 i10 i12 a17 a18 i19 i20 i21 i22 i23 i24 t0 (if i10 = 0 then lw_full i12 0 else lw_bw i15 0) (if i10 = 0 then lw_full i12 1 else lw_bw i15 1) M := by
  unfold m0_b341
  by_cases c : i10 = 0
  · rw [if_pos c, if_pos c, if_pos c, lw_m11, Option.bind_some]
    dsimp only
    unfold m0_b363
    rw [if_pos c, lw_m11, Option.bind_some]
  · rw [if_neg c, if_neg c, if_neg c, lw_m9, Option.bind_some]
    dsimp only
    unfold m0_b363
    rw [if_neg c, lw_m9, Option.bind_some]
theorem lw_b520 (i10 i12 i22 i24 : Int32) (a30 : Nat) (t0 : Int32) (M : own_Mem) : m0_b520 i10 i12 i22 i24 a30 t0 M = m0_b554 i22 i24 t0 a30 (if i10 = 0 then lw_full i12 0 else 0) (if i10 = 0 then lw_full i12 1 else 0) M := by
  unfold m0_b520
  by_cases c : i10 = 0
  · rw [if_pos c, if_pos c, if_pos c, lw_m11, Option.bind_some]
    dsimp only
    unfold m0_b537
    rw [if_pos c, lw_m11, Option.bind_some]
  · rw [if_neg c, if_neg c, if_neg c]
    unfold m0_b537
    rw [if_neg c]
theorem lw_tail (i10 i12 v1 v2 v3 i19 i20 i21 i22 i23 i24 : Int32) (M M2 : own_Mem) (u u2 : List Value)
    (hA0 : m8 3 i21 i23 0 M = some (lw_bw v1 0 ||| lw_bw v2 0, M)) (hA1 : m8 3 i21 i23 1 M = some (lw_bw v1 1 ||| lw_bw v2 1, M))
    (hB0 : m8 3 i22 i24 0 M = some (if i10 = 0 then lw_full i12 0 else lw_bw v3 0, M)) (hB1 : m8 3 i22 i24 1 M = some (if i10 = 0 then lw_full i12 1 else lw_bw v3 1, M))
    (hat : own_at M 0 1 = some u) (hm : m10 1 M = some ((), M2)) (hat2 : own_at M2 0 1 = some u2) (hm6 : m6 1 M2 = some (3, M2)) (hlen : own_len 101 M2 3 = some (i19 + i20))
    (hZ0 : m8 3 i21 i23 0 M2 = some (0, M2)) (hZ1 : m8 3 i21 i23 1 M2 = some (0, M2))
    (hC0 : m8 3 i22 i24 0 M2 = some (if i10 = 0 then lw_full i12 0 else 0, M2)) (hC1 : m8 3 i22 i24 1 M2 = some (if i10 = 0 then lw_full i12 1 else 0, M2)) :
    m0_b260 i10 i12 v1 v2 v3 1 3 i19 i20 i21 i22 i23 i24 M = some (1, M2) := by
  have n1 : ¬ ((1 : Int32) = 0) := by decide
  unfold m0_b260
  rw [if_neg n1, hA0, Option.bind_some]
  dsimp only
  rw [lw_m9, Option.bind_some]
  dsimp only
  rw [lw_m9, Option.bind_some]
  dsimp only
  rw [if_pos rfl]
  unfold m0_b302
  rw [if_neg n1, hA1, Option.bind_some]
  dsimp only
  rw [lw_m9, Option.bind_some]
  dsimp only
  rw [lw_m9, Option.bind_some]
  dsimp only
  rw [if_pos rfl, lw_b341]
  unfold m0_b385
  rw [if_neg n1, hB0, Option.bind_some]
  dsimp only
  rw [if_pos rfl]
  unfold m0_b413
  rw [if_neg n1, hB1, Option.bind_some]
  dsimp only
  rw [if_pos rfl]
  unfold m0_b441
  rw [hat, Option.bind_some, hm, Option.bind_some]
  dsimp only
  rw [hat2, Option.bind_some, hm6, Option.bind_some]
  dsimp only
  rw [hlen, Option.bind_some, if_pos rfl, if_neg n1, hZ0, Option.bind_some]
  dsimp only
  rw [if_pos rfl]
  unfold m0_b493
  rw [if_neg n1, hZ1, Option.bind_some]
  dsimp only
  rw [if_pos rfl, lw_b520]
  unfold m0_b554
  rw [if_neg n1, hC0, Option.bind_some]
  dsimp only
  rw [if_pos rfl]
  unfold m0_b582
  rw [if_neg n1, hC1, Option.bind_some]
  dsimp only
  rw [if_pos rfl]
  rfl
theorem lw_n1 : ¬ ((1 : Int32) = 0) := by decide
theorem lw_D.lt {b : Bool} {d v : Int32} (h : lw_D b d) (hv : v.toInt < d.toInt) (q : b = false) : v.toInt < 64 := by
  have e := h.b
  rw [q] at e
  have e := of_decide_eq_false e.symm
  have := h.lo
  omega
theorem lw_hi0 (v : Int32) (h0 : 0 ≤ v.toInt) (h1 : v.toInt < 64) : lw_bw v 1 = 0 := by
  rcases lw_v v h0 (by omega) with ⟨_, _, _, e⟩ | ⟨q, _, _, _⟩
  · exact e
  · omega
section laws
variable {V : List Value} {E : own_Mem} {b0 b1 : Bool} {d0 d1 : Int32} {x0 y0 x1 y1 : Int64}
theorem lw_b174_0 (h0 : lw_D b0 d0) (h1 : lw_D b1 d1) (i10 i12 v1 v2 v3 : Int32) : m0_b174 d0 d1 0 1 i10 i12 v1 v2 v3 1 (lw_M V E b0 b1 d0 d1 x0 y0 x1 y1) = m0_b260 i10 i12 v1 v2 v3 1 3 (lw_nw b0) (lw_nw b1) 0 (lw_nw b0) (lw_nw b0) (lw_nw b1) (lw_M V E b0 b1 d0 d1 x0 y0 x1 y1) := by
  unfold m0_b174
  rw [lw_at, Option.bind_some, lw_m6, Option.bind_some]
  dsimp only
  rw [lw_m7 h0, Option.bind_some]
  dsimp only
  rw [lw_m7 h1, Option.bind_some]
  dsimp only
  rw [lw_len, Option.bind_some, if_pos rfl, if_pos rfl]
  unfold m0_b219
  rw [if_neg lw_n1]
  unfold m0_b232
  rw [if_pos rfl]
  unfold m0_b246
  rw [if_neg lw_n1]
theorem lw_b174_1 (h0 : lw_D b0 d0) (h1 : lw_D b1 d1) (i10 i12 v1 v2 v3 : Int32) : m0_b174 d0 d1 1 0 i10 i12 v1 v2 v3 1 (lw_M V E b0 b1 d0 d1 x0 y0 x1 y1) = m0_b260 i10 i12 v1 v2 v3 1 3 (lw_nw b0) (lw_nw b1) (lw_nw b0) 0 (lw_nw b1) (lw_nw b0) (lw_M V E b0 b1 d0 d1 x0 y0 x1 y1) := by
  unfold m0_b174
  rw [lw_at, Option.bind_some, lw_m6, Option.bind_some]
  dsimp only
  rw [lw_m7 h0, Option.bind_some]
  dsimp only
  rw [lw_m7 h1, Option.bind_some]
  dsimp only
  rw [lw_len, Option.bind_some, if_pos rfl, if_neg lw_n1]
  unfold m0_b219
  rw [if_pos rfl]
  unfold m0_b232
  rw [if_neg lw_n1]
  unfold m0_b246
  rw [if_pos rfl]
theorem lw_b112_0 (h0 : lw_D b0 d0) (h1 : lw_D b1 d1) (i10 v1 v2 v3 : Int32) (r1 : 0 ≤ v1.toInt ∧ v1.toInt < d0.toInt) (r2 : 0 ≤ v2.toInt ∧ v2.toInt < d0.toInt) (r3 : 0 ≤ v3.toInt ∧ v3.toInt < d1.toInt) : ∃ M', m0_b112 d0 d1 0 1 i10 d1 v1 v2 v3 0 [(100, [.int d0, .int d1])] = some (1, M') := by
  have g0 := h0.hi
  have g1 := h1.hi
  have z0 : b0 = false → lw_bw v1 1 ||| lw_bw v2 1 = 0 := fun q => by rw [lw_hi0 v1 r1.1 (h0.lt r1.2 q), lw_hi0 v2 r2.1 (h0.lt r2.2 q), lw_or0]
  unfold m0_b112
  rw [show own_newO 0 own_V0 [(100, [.int d0, .int d1])] = some (1, [(100, [.int d0, .int d1]), (0, own_V0)]) from rfl, Option.bind_some]
  dsimp only
  rw [lw_ctor h0 h1, Option.bind_some]
  dsimp only
  rw [lw_at, Option.bind_some, lw_cl0, Option.bind_some]
  dsimp only
  by_cases c : i10 = 0
  · rw [if_pos c]
    unfold m0_b142
    rw [lw_at, Option.bind_some, lw_m50 v1 r1.1 (by omega) (h0.lt r1.2), lw_R0a, Option.bind_some]
    dsimp only
    rw [lw_at, Option.bind_some, lw_m50 v2 r2.1 (by omega) (h0.lt r2.2), lw_R0b, Option.bind_some]
    dsimp only
    rw [if_pos c, lw_b174_0 h0 h1, lw_0or, lw_0or]
    exact ⟨_, lw_tail _ _ _ _ _ _ _ _ _ _ _ _ _ _ _ lw_w00 (lw_w01 z0) (by rw [if_pos c]; exact lw_w10) (by rw [if_pos c]; exact lw_w11 h1.z) lw_at lw_ca0 lw_at lw_m6 lw_len lw_w00 (lw_w01 fun _ => rfl) (by rw [if_pos c]; exact lw_w10) (by rw [if_pos c]; exact lw_w11 h1.z)⟩
  · have z1 : b1 = false → lw_bw v3 1 = 0 := fun q => lw_hi0 v3 r3.1 (h1.lt r3.2 q)
    rw [if_neg c, lw_at, Option.bind_some, lw_cl1, Option.bind_some]
    dsimp only
    unfold m0_b142
    rw [lw_at, Option.bind_some, lw_m50 v1 r1.1 (by omega) (h0.lt r1.2), lw_R0a, Option.bind_some]
    dsimp only
    rw [lw_at, Option.bind_some, lw_m50 v2 r2.1 (by omega) (h0.lt r2.2), lw_R0b, Option.bind_some]
    dsimp only
    rw [if_neg c, lw_at, Option.bind_some, lw_m51 v3 r3.1 (by omega) (h1.lt r3.2), lw_R0c, Option.bind_some]
    dsimp only
    rw [lw_b174_0 h0 h1, lw_0or, lw_0or, lw_0or, lw_0or]
    exact ⟨_, lw_tail _ _ _ _ _ _ _ _ _ _ _ _ _ _ _ lw_w00 (lw_w01 z0) (by rw [if_neg c]; exact lw_w10) (by rw [if_neg c]; exact lw_w11 z1) lw_at lw_ca01 lw_at lw_m6 lw_len lw_w00 (lw_w01 fun _ => rfl) (by rw [if_neg c]; exact lw_w10) (by rw [if_neg c]; exact lw_w11 fun _ => rfl)⟩
theorem lw_b112_1 (h0 : lw_D b0 d0) (h1 : lw_D b1 d1) (i10 v1 v2 v3 : Int32) (r1 : 0 ≤ v1.toInt ∧ v1.toInt < d1.toInt) (r2 : 0 ≤ v2.toInt ∧ v2.toInt < d1.toInt) (r3 : 0 ≤ v3.toInt ∧ v3.toInt < d0.toInt) : ∃ M', m0_b112 d0 d1 1 0 i10 d0 v1 v2 v3 0 [(100, [.int d0, .int d1])] = some (1, M') := by
  have g0 := h0.hi
  have g1 := h1.hi
  have z1 : b1 = false → lw_bw v1 1 ||| lw_bw v2 1 = 0 := fun q => by rw [lw_hi0 v1 r1.1 (h1.lt r1.2 q), lw_hi0 v2 r2.1 (h1.lt r2.2 q), lw_or0]
  unfold m0_b112
  rw [show own_newO 0 own_V0 [(100, [.int d0, .int d1])] = some (1, [(100, [.int d0, .int d1]), (0, own_V0)]) from rfl, Option.bind_some]
  dsimp only
  rw [lw_ctor h0 h1, Option.bind_some]
  dsimp only
  rw [lw_at, Option.bind_some, lw_cl1, Option.bind_some]
  dsimp only
  by_cases c : i10 = 0
  · rw [if_pos c]
    unfold m0_b142
    rw [lw_at, Option.bind_some, lw_m51 v1 r1.1 (by omega) (h1.lt r1.2), lw_R1a, Option.bind_some]
    dsimp only
    rw [lw_at, Option.bind_some, lw_m51 v2 r2.1 (by omega) (h1.lt r2.2), lw_R1b, Option.bind_some]
    dsimp only
    rw [if_pos c, lw_b174_1 h0 h1, lw_0or, lw_0or]
    exact ⟨_, lw_tail _ _ _ _ _ _ _ _ _ _ _ _ _ _ _ lw_w10 (lw_w11 z1) (by rw [if_pos c]; exact lw_w00) (by rw [if_pos c]; exact lw_w01 h0.z) lw_at lw_ca1 lw_at lw_m6 lw_len lw_w10 (lw_w11 fun _ => rfl) (by rw [if_pos c]; exact lw_w00) (by rw [if_pos c]; exact lw_w01 h0.z)⟩
  · have z0 : b0 = false → lw_bw v3 1 = 0 := fun q => lw_hi0 v3 r3.1 (h0.lt r3.2 q)
    rw [if_neg c, lw_at, Option.bind_some, lw_cl0, Option.bind_some]
    dsimp only
    unfold m0_b142
    rw [lw_at, Option.bind_some, lw_m51 v1 r1.1 (by omega) (h1.lt r1.2), lw_R1a, Option.bind_some]
    dsimp only
    rw [lw_at, Option.bind_some, lw_m51 v2 r2.1 (by omega) (h1.lt r2.2), lw_R1b, Option.bind_some]
    dsimp only
    rw [if_neg c, lw_at, Option.bind_some, lw_m50 v3 r3.1 (by omega) (h0.lt r3.2), lw_R1c, Option.bind_some]
    dsimp only
    rw [lw_b174_1 h0 h1, lw_0or, lw_0or, lw_0or, lw_0or]
    exact ⟨_, lw_tail _ _ _ _ _ _ _ _ _ _ _ _ _ _ _ lw_w10 (lw_w11 z1) (by rw [if_neg c]; exact lw_w00) (by rw [if_neg c]; exact lw_w01 z0) lw_at lw_ca10 lw_at lw_m6 lw_len lw_w10 (lw_w11 fun _ => rfl) (by rw [if_neg c]; exact lw_w00) (by rw [if_neg c]; exact lw_w01 fun _ => rfl)⟩
end laws
theorem lw_rem (i n : Int32) (hn : 1 ≤ n.toInt) : 0 ≤ ((i &&& 2147483647) % n).toInt ∧ ((i &&& 2147483647) % n).toInt < n.toInt := by
  have q : (i &&& 2147483647).toInt = i.toInt % 2 ^ 31 := Jvm.Kit.i32_mask i 2147483647 (k := 31) (by decide) (by decide)
  rw [Jvm.Kit.i32_rem_nonneg (by omega)]
  exact ⟨Int.emod_nonneg _ (by omega), Int.emod_lt_of_pos _ (by omega)⟩
theorem lw_nz0 {d : Int32} (h : 1 ≤ d.toInt) : ¬ (d = 0) := fun e => by
  have c0 : (0 : Int32).toInt = 0 := by decide
  have := congrArg Int32.toInt e
  omega
theorem lw_b66 (i3 i4 i5 d0 d1 t o i10 dt dn : Int32) (h : 1 ≤ dt.toInt) (k : 1 ≤ dn.toInt) : m0_b66 i3 i4 i5 d0 d1 t o i10 dt dn [] = m0_b112 d0 d1 t o i10 dn ((i3 &&& 2147483647) % dt) ((i4 &&& 2147483647) % dt) ((i5 &&& 2147483647) % dn) 0 [(100, [.int d0, .int d1])] := by
  unfold m0_b66
  rw [lw_nz (lw_nz0 h), lw_let, lw_nz (lw_nz0 h), lw_let, lw_nz (lw_nz0 k), lw_let, show own_newA 100 2 (.int 0) [] (2 : Int32) = some (0, [(100, [.int 0, .int 0])]) from rfl, Option.bind_some]
  dsimp only
  rw [show own_sto 100 [(100, [.int 0, .int 0])] 0 0 (.int d0) = some [(100, [.int d0, .int 0])] from rfl, Option.bind_some, show own_sto 100 [(100, [.int d0, .int 0])] 0 1 (.int d1) = some [(100, [.int d0, .int d1])] from rfl, Option.bind_some]
theorem lw_b38 (i3 i4 i5 d0 d1 t i10 : Int32) (ht : t = 0 ∨ t = 1) (g0 : 1 ≤ d0.toInt ∧ d0.toInt ≤ 128) (g1 : 1 ≤ d1.toInt ∧ d1.toInt ≤ 128) : ∃ M', m0_b38 i3 i4 i5 d0 d1 t (1 - t) i10 [] = some (1, M') := by
  unfold m0_b38
  rcases ht with rfl | rfl
  · rw [if_pos rfl, show (1 : Int32) - 0 = 1 from rfl]
    unfold m0_b52
    rw [if_neg lw_n1, lw_b66 _ _ _ _ _ _ _ _ _ _ g0.1 g1.1]
    exact lw_b112_0 (lw_D_of d0 g0.1 g0.2) (lw_D_of d1 g1.1 g1.2) _ _ _ _ (lw_rem _ _ g0.1) (lw_rem _ _ g0.1) (lw_rem _ _ g1.1)
  · rw [if_neg lw_n1, show (1 : Int32) - 1 = 0 from rfl]
    unfold m0_b52
    rw [if_pos rfl, lw_b66 _ _ _ _ _ _ _ _ _ _ g1.1 g0.1]
    exact lw_b112_1 (lw_D_of d0 g0.1 g0.2) (lw_D_of d1 g1.1 g1.2) _ _ _ _ (lw_rem _ _ g1.1) (lw_rem _ _ g1.1) (lw_rem _ _ g0.1)
theorem own_law (i0 i1 i2 i3 i4 i5 : Int32) : ∃ M', m0 i0 i1 i2 i3 i4 i5 [] = some (1, M') := by
  have k1 : (1 : Int32).toInt = 1 := by decide
  have a0 : (i0 &&& 127).toInt = i0.toInt % 2 ^ 7 := Jvm.Kit.i32_mask i0 127 (k := 7) (by decide) (by decide)
  have a1 : (i1 &&& 127).toInt = i1.toInt % 2 ^ 7 := Jvm.Kit.i32_mask i1 127 (k := 7) (by decide) (by decide)
  have a2 : (i2 &&& 1).toInt = i2.toInt % 2 ^ 1 := Jvm.Kit.i32_mask i2 1 (k := 1) (by decide) (by decide)
  have b0 : (1 + (i0 &&& 127)).toInt = 1 + i0.toInt % 2 ^ 7 := by rw [Jvm.Kit.i32_add (by omega) (by omega), a0, k1]
  have b1 : (1 + (i1 &&& 127)).toInt = 1 + i1.toInt % 2 ^ 7 := by rw [Jvm.Kit.i32_add (by omega) (by omega), a1, k1]
  have ht : i2 &&& 1 = 0 ∨ i2 &&& 1 = 1 := by
    simp only [← Int32.toInt_inj, Int32.reduceToInt]
    omega
  unfold m0
  rw [lw_let, lw_let, lw_let, lw_let]
  by_cases c : i2 &&& 2 = 0
  · rw [if_pos c]
    exact lw_b38 _ _ _ _ _ _ _ ht (by omega) (by omega)
  · rw [if_neg c]
    exact lw_b38 _ _ _ _ _ _ _ ht (by omega) (by omega)
/-! ### the owed theorems -/
set_option maxRecDepth 65536 in
set_option maxHeartbeats 4000000 in
theorem own_comes {Post : Tables → Env → Array Value → State → Outcome → State → Prop} (hpost : ∀ tb e args s v u, (limb_1_1.after args s (.returned v) u = true ∧ limb_1_2.after args s (.returned v) u = true ∧ True) → FrameEnd s (.returned v) u (Jvm.fieldLocs frame_1_writes args s ++ Jvm.arrayLocs frame_1_arrays args s ++ Jvm.staticLocs frame_1_statics s) 24 128 → Post tb e args s (.returned v) u) :
    ArmFor flags0 classFile x code maxLocals ret World_1 tables_1 room_1 Calls_1 rest_1 Pre_1 Post := by
  intro l hfl _ _ p e ha hc hk s m args below hf hA hF happ hP
  obtain ⟨hcalls, hrest, hpre⟩ := hP
  obtain ⟨-, -, -, hnamed, -, -, -, hat⟩ := (Spec.applies_iff hf).mp happ
  obtain ⟨hg, hn⟩ := and_e (Cond.before_iff.mp (show (Jvm.Cond.and given_1 narrow_1).before args s = true from hpre))
  obtain ⟨g0a, g0b⟩ := and_e hg
  obtain ⟨g1a, g1b⟩ := and_e g0b
  obtain ⟨g2a, g2b⟩ := and_e g1b
  obtain ⟨g3a, g3b⟩ := and_e g2b
  obtain ⟨g4a, g4b⟩ := and_e g3b
  obtain ⟨g5a, g5b⟩ := and_e g4b
  obtain ⟨w0, w1, w2, w3, w4, w5, rfl⟩ : ∃ w0 w1 w2 w3 w4 w5 : Value, args = #[w0, w1, w2, w3, w4, w5] := by
    have hs : args.size = 6 := by simpa [Cond.value, given_1] using g0a
    obtain ⟨L⟩ := args
    match L, hs with
    | [w0, w1, w2, w3, w4, w5], _ => exact ⟨w0, w1, w2, w3, w4, w5, rfl⟩
  have hw := fun d (hd : d ∈ tables_1) => atoms_spec (ws := Jvm.Cond.code x code maxLocals ret :: tables_1) hat d (List.mem_cons_of_mem _ hd)
  obtain ⟨v0, ev0⟩ := is_v g1a
  obtain rfl : w0 = (.int v0) := Option.some.inj ev0
  obtain ⟨v1, ev1⟩ := is_v g2a
  obtain rfl : w1 = (.int v1) := Option.some.inj ev1
  obtain ⟨v2, ev2⟩ := is_v g3a
  obtain rfl : w2 = (.int v2) := Option.some.inj ev2
  obtain ⟨v3, ev3⟩ := is_v g4a
  obtain rfl : w3 = (.int v3) := Option.some.inj ev3
  obtain ⟨v4, ev4⟩ := is_v g5a
  obtain rfl : w4 = (.int v4) := Option.some.inj ev4
  obtain ⟨v5, ev5⟩ := is_v g5b
  obtain rfl : w5 = (.int v5) := Option.some.inj ev5
  obtain ⟨M', hM'⟩ := own_law v0 v1 v2 v3 v4 v5
  obtain ⟨n, o, h1, h2, h3, _, L, rfl, ⟨rfl, -, N⟩, hq⟩ := m0_met hM' l s _ s.heap.size s.heap tables_1 hw ⟨by simp, fun k o hk => by simp at hk⟩ p e ha hc hk s m _ below hf ((Spec.applies_iff_loose hf).mp happ).1 ⟨rfl, State.Warmed39.refl s, rfl⟩ trivial
  refine ⟨n, _, h1, h2, h3, hpost _ _ _ _ _ _ ⟨Cond.after_iff.mpr rfl, Cond.after_iff.mpr (eq_i res_at (Term.int_eval (1)) rfl), trivial⟩ ⟨hq.1, hq.2.1, (hq.2.2.sift fun y hy => Or.inr (N y hy)).mono (by decide) (by decide)⟩⟩
theorem main_1_1 : Claimed_1_1 := own_comes fun _ _ _ _ _ _ h hF => ⟨h.1, hF⟩
theorem main_1_2 : Claimed_1_2 := own_comes fun _ _ _ _ _ _ h hF => ⟨h.2.1, hF⟩
end Jvm.Pilot.@@N@@
namespace Jvm.Pilot.@@N@@
open Jvm Jvm.ClassFile Sem Op Lib Jvm.Free Jvm.Stand Jvm.Pilot.@@N@@.Jvm.D
/-! MADE BY PROGRAM (witnessworld.py) out of the Statement's table words and the real class files: 13 classes; the members and pool entries that the words name. The judged class is class 1, her method 5. -/
namespace start1
open Jvm.ClassFile
def u (s : String) : CpInfo := .utf8 (stringToUtf16 s)
/-- a pool by its gaps: so many unusable entries, then the entry; so many at the end -/
def gap : Nat → List CpInfo → List CpInfo
  | 0, r => r
  | n + 1, r => .unusable :: gap n r
def poolList (es : List (Nat × CpInfo)) (last : Nat) : List CpInfo := es.foldr (fun e r => gap e.1 (e.2 :: r)) (gap last [])
def pool (es : List (Nat × CpInfo)) (last : Nat) : Array CpInfo := ⟨poolList es last⟩
def fileOf (pool : Array CpInfo) (this : Nat) (attrs : Array Attribute := #[]) (ms : Array MethodInfo := #[]) (fl : Nat := 33) (sup : Nat := 0) (ifs : Array Nat := #[]) (fds : Array FieldInfo := #[]) : ClassFile where
  minorVersion := 0
  majorVersion := 65
  constantPool := pool
  accessFlags := fl
  thisClass := this
  superClass := sup
  interfaces := ifs
  fields := fds
  methods := ms
  attributes := attrs
def plain (name : String) (sup : Option ClassId) : Class where
  name := name
  kind := .ordinary
  loader := none
  accessFlags := 33
  super := sup
  interfaces := #[]
  cf := none
  fields := #[]
  methods := #[]
  instanceTypes := #[]
  staticTypes := #[]
  resolved := #[]
  callSites := []
  init := .initialized
  statics := none
  mirror := none

def pool0 : Array CpInfo := pool [(5, u "<init>"), (0, u "()V"), (1, .class_ 10), (1, u "java/lang/Object")] 113

def k0c0 : Code := { maxStack := 0, maxLocals := 1, code := object_method_1_code, exceptionTable := #[], attributes := #[] }
def k0m0 : Method := { name := "<init>", desc := "()V", sig := { parameters := [], returnType := none }, accessFlags := 1, code := some k0c0 }
/-- java/lang/Object -/
def k0 : Class := { plain "java/lang/Object" none with
  accessFlags := 33
  interfaces := #[]
  cf := some (fileOf pool0 8 #[] #[{ accessFlags := 1, nameIndex := 5, descriptorIndex := 6, attributes := #[] }] 33 0 #[] #[])
  fields := #[]
  methods := #[k0m0]
  instanceTypes := #[]
  staticTypes := #[]
  resolved := Array.replicate 124 none
  statics := none }

def pool1 : Array CpInfo := pool [(2, .class_ 4), (1, u "java/lang/Object"), (0, u "<init>"), (0, u "()V"), (0, .long 18446744073709551615), (1, .integer 2147483647), (0, .class_ 11), (0, u "com/example/tablewise/tablewise/estr2/Pwsup"), (0, .methodref 10 13), (0, .nameAndType 5 14), (0, u "([I)V"), (0, .methodref 10 16), (0, .nameAndType 17 18), (0, u "clear"), (0, u "(I)V"), (0, .methodref 10 20), (0, .nameAndType 21 22), (0, u "add"), (0, u "(II)V"), (0, .methodref 10 24), (0, .nameAndType 25 26), (0, u "words"), (0, u "()[J"), (0, .methodref 28 29), (0, .class_ 30), (0, .nameAndType 31 32), (0, u "com/example/tablewise/tablewise/estr2/PwsupAddPinLaw"), (0, u "nw"), (0, u "(I)I"), (0, .methodref 28 34), (0, .nameAndType 35 36), (0, u "word"), (0, u "([JIII)J"), (0, .methodref 28 38), (0, .nameAndType 39 40), (0, u "bit"), (0, u "(II)J"), (0, .methodref 28 42), (0, .nameAndType 43 40), (0, u "full"), (0, .methodref 10 45), (0, .nameAndType 46 6), (0, u "clearAll"), (3, u "law"), (0, u "(IIIIII)Z")] 6

def k1m0 : Method := { name := "<init>", desc := "()V", sig := { parameters := [], returnType := none }, accessFlags := 1, code := none }
def k1c1 : Code := { maxStack := 2, maxLocals := 1, code := method_2_code, exceptionTable := #[], attributes := #[] }
def k1m1 : Method := { name := "nw", desc := "(I)I", sig := { parameters := [.int], returnType := some .int }, accessFlags := 10, code := some k1c1 }
def k1c2 : Code := { maxStack := 4, maxLocals := 2, code := method_3_code, exceptionTable := #[], attributes := #[] }
def k1m2 : Method := { name := "bit", desc := "(II)J", sig := { parameters := [.int, .int], returnType := some .long }, accessFlags := 10, code := some k1c2 }
def k1c3 : Code := { maxStack := 4, maxLocals := 3, code := method_4_code, exceptionTable := #[], attributes := #[] }
def k1m3 : Method := { name := "full", desc := "(II)J", sig := { parameters := [.int, .int], returnType := some .long }, accessFlags := 10, code := some k1c3 }
def k1c4 : Code := { maxStack := 3, maxLocals := 4, code := method_5_code, exceptionTable := #[], attributes := #[] }
def k1m4 : Method := { name := "word", desc := "([JIII)J", sig := { parameters := [(.array .long), .int, .int, .int], returnType := some .long }, accessFlags := 10, code := some k1c4 }
def k1c5 : Code := { maxStack := 6, maxLocals := 35, code := code, exceptionTable := #[], attributes := #[] }
def k1m5 : Method := { name := "law", desc := "(IIIIII)Z", sig := { parameters := [.int, .int, .int, .int, .int, .int], returnType := some .boolean }, accessFlags := 9, code := some k1c5 }
/-- com/example/tablewise/tablewise/estr2/PwsupAddPinLaw -/
def k1 : Class := { plain "com/example/tablewise/tablewise/estr2/PwsupAddPinLaw" (some 0) with
  accessFlags := 49
  interfaces := #[]
  cf := some (fileOf pool1 28 #[] #[{ accessFlags := 1, nameIndex := 5, descriptorIndex := 6, attributes := #[] }, { accessFlags := 10, nameIndex := 31, descriptorIndex := 32, attributes := #[] }, { accessFlags := 10, nameIndex := 39, descriptorIndex := 40, attributes := #[] }, { accessFlags := 10, nameIndex := 43, descriptorIndex := 40, attributes := #[] }, { accessFlags := 10, nameIndex := 35, descriptorIndex := 36, attributes := #[] }, { accessFlags := 9, nameIndex := 50, descriptorIndex := 51, attributes := #[] }] 49 2 #[] #[])
  fields := #[]
  methods := #[k1m0, k1m1, k1m2, k1m3, k1m4, k1m5]
  instanceTypes := #[]
  staticTypes := #[]
  resolved := Array.replicate 58 none
  statics := none }

def pool2 : Array CpInfo := pool [(1, .methodref 2 3), (0, .class_ 4), (0, .nameAndType 5 6), (0, u "java/lang/Object"), (0, u "<init>"), (0, u "()V"), (0, .fieldref 8 9), (0, .class_ 10), (0, .nameAndType 11 12), (0, u "com/example/tablewise/tablewise/estr2/Pwsup"), (0, u "starts"), (0, u "[I"), (0, .methodref 8 14), (0, .nameAndType 15 16), (0, u "wordCount"), (0, u "(J)J"), (0, .fieldref 8 18), (0, .nameAndType 19 20), (0, u "words"), (0, u "[J"), (2, .fieldref 8 24), (0, .nameAndType 25 12), (0, u "touched"), (0, .fieldref 8 27), (0, .nameAndType 28 29), (0, u "isTouched"), (0, u "[Z"), (2, .long 64), (7, .fieldref 8 41), (0, .nameAndType 42 43), (0, u "touchedCount"), (0, u "I"), (0, .methodref 8 45), (0, .nameAndType 46 47), (0, u "clear"), (0, u "(I)V"), (0, u "([I)V"), (6, u "()[J"), (5, u "add"), (0, u "(II)V"), (0, u "clearAll")] 2

def k2c0 : Code := { maxStack := 7, maxLocals := 5, code := prog_28_method_1_code, exceptionTable := #[], attributes := #[] }
def k2m0 : Method := { name := "<init>", desc := "([I)V", sig := { parameters := [(.array .int)], returnType := none }, accessFlags := 0, code := some k2c0 }
def k2c1 : Code := { maxStack := 1, maxLocals := 1, code := prog_28_method_3_code, exceptionTable := #[], attributes := #[] }
def k2m1 : Method := { name := "words", desc := "()[J", sig := { parameters := [], returnType := some (.array .long) }, accessFlags := 0, code := some k2c1 }
def k2c2 : Code := { maxStack := 7, maxLocals := 3, code := prog_28_method_7_code, exceptionTable := #[], attributes := #[] }
def k2m2 : Method := { name := "add", desc := "(II)V", sig := { parameters := [.int, .int], returnType := none }, accessFlags := 0, code := some k2c2 }
def k2c3 : Code := { maxStack := 4, maxLocals := 3, code := prog_28_method_8_code, exceptionTable := #[], attributes := #[] }
def k2m3 : Method := { name := "clear", desc := "(I)V", sig := { parameters := [.int], returnType := none }, accessFlags := 0, code := some k2c3 }
def k2c4 : Code := { maxStack := 3, maxLocals := 3, code := prog_28_method_9_code, exceptionTable := #[], attributes := #[] }
def k2m4 : Method := { name := "clearAll", desc := "()V", sig := { parameters := [], returnType := none }, accessFlags := 0, code := some k2c4 }
def k2c5 : Code := { maxStack := 4, maxLocals := 2, code := prog_28_method_10_code, exceptionTable := #[], attributes := #[] }
def k2m5 : Method := { name := "wordCount", desc := "(J)J", sig := { parameters := [.long], returnType := some .long }, accessFlags := 10, code := some k2c5 }
/-- com/example/tablewise/tablewise/estr2/Pwsup -/
def k2 : Class := { plain "com/example/tablewise/tablewise/estr2/Pwsup" (some 0) with
  accessFlags := 48
  interfaces := #[]
  cf := some (fileOf pool2 8 #[] #[{ accessFlags := 0, nameIndex := 5, descriptorIndex := 48, attributes := #[] }, { accessFlags := 0, nameIndex := 19, descriptorIndex := 55, attributes := #[] }, { accessFlags := 0, nameIndex := 61, descriptorIndex := 62, attributes := #[] }, { accessFlags := 0, nameIndex := 46, descriptorIndex := 47, attributes := #[] }, { accessFlags := 0, nameIndex := 63, descriptorIndex := 6, attributes := #[] }, { accessFlags := 10, nameIndex := 15, descriptorIndex := 16, attributes := #[] }] 48 2 #[] #[{ accessFlags := 18, nameIndex := 19, descriptorIndex := 20, attributes := #[] }, { accessFlags := 18, nameIndex := 11, descriptorIndex := 12, attributes := #[] }, { accessFlags := 18, nameIndex := 25, descriptorIndex := 12, attributes := #[] }, { accessFlags := 18, nameIndex := 28, descriptorIndex := 29, attributes := #[] }, { accessFlags := 2, nameIndex := 42, descriptorIndex := 43, attributes := #[] }])
  fields := #[{ name := "words", type := (.array .long), accessFlags := 18, slot := 0, constantValue := 0 }, { name := "starts", type := (.array .int), accessFlags := 18, slot := 1, constantValue := 0 }, { name := "touched", type := (.array .int), accessFlags := 18, slot := 2, constantValue := 0 }, { name := "isTouched", type := (.array .boolean), accessFlags := 18, slot := 3, constantValue := 0 }, { name := "touchedCount", type := .int, accessFlags := 2, slot := 4, constantValue := 0 }]
  methods := #[k2m0, k2m1, k2m2, k2m3, k2m4, k2m5]
  instanceTypes := #[(.array .long), (.array .int), (.array .int), (.array .boolean), .int]
  staticTypes := #[]
  resolved := Array.replicate 66 none
  statics := none }

def pool3 : Array CpInfo := pool [(1, u "java/lang/Cloneable"), (0, .class_ 1), (0, u "java/lang/Object"), (0, .class_ 3)] 3

/-- java/lang/Cloneable -/
def k3 : Class := { plain "java/lang/Cloneable" (some 0) with
  accessFlags := 1537
  interfaces := #[]
  cf := some (fileOf pool3 2 #[] #[] 1537 4 #[] #[])
  fields := #[]
  methods := #[]
  instanceTypes := #[]
  staticTypes := #[]
  resolved := Array.replicate 8 none
  statics := none }

def pool4 : Array CpInfo := pool [(1, u "java/io/Serializable"), (0, .class_ 1), (0, u "java/lang/Object"), (0, .class_ 3)] 3

/-- java/io/Serializable -/
def k4 : Class := { plain "java/io/Serializable" (some 0) with
  accessFlags := 1537
  interfaces := #[]
  cf := some (fileOf pool4 2 #[] #[] 1537 4 #[] #[])
  fields := #[]
  methods := #[]
  instanceTypes := #[]
  staticTypes := #[]
  resolved := Array.replicate 8 none
  statics := none }

/-- the primitive boolean -/
def k5 : Class := { plain "boolean" none with kind := .primitive 'Z', accessFlags := 0x411 }
/-- [Z -/
def k6 : Class := { plain "[Z" (some 0) with kind := .array 5 .boolean, interfaces := #[3, 4], accessFlags := 1041 }

/-- the primitive byte -/
def k7 : Class := { plain "byte" none with kind := .primitive 'B', accessFlags := 0x411 }
/-- [B -/
def k8 : Class := { plain "[B" (some 0) with kind := .array 7 .byte, interfaces := #[3, 4], accessFlags := 1041 }

/-- the primitive int -/
def k9 : Class := { plain "int" none with kind := .primitive 'I', accessFlags := 0x411 }
/-- [I -/
def k10 : Class := { plain "[I" (some 0) with kind := .array 9 .int, interfaces := #[3, 4], accessFlags := 1041 }

/-- the primitive long -/
def k11 : Class := { plain "long" none with kind := .primitive 'J', accessFlags := 0x411 }
/-- [J -/
def k12 : Class := { plain "[J" (some 0) with kind := .array 11 .long, interfaces := #[3, 4], accessFlags := 1041 }

def heap : Heap := #[]
def classes : Array Class := #[k0, k1, k2, k3, k4, k5, k6, k7, k8, k9, k10, k11, k12]
def interned : List (Array UInt16 × Addr) := []
def slotsUsed : Nat := 0
def theMethod : MethodId := ⟨1, 5⟩
def args0 : Array Value := #[.int 5, .int 5, .int 5, .int 5, .int 5, .int 5]
def aboutOver (below : List Frame) : State where
  vm := { classes := classes, interned := interned.toArray }
  heap := heap
  slotsUsed := slotsUsed
  threads := #[{ frames := .invoking theMethod args0 :: below }]
def below0 : List Frame := [.native { method := ⟨0, 0⟩, args := #[] }]
def about1 : State := aboutOver below0
def p0 : Program := .bare "" "" ""
def e0 : Env := launch0.env 0 0 0
theorem w_frames : about1.frames = Frame.invoking theMethod args0 :: below0 := rfl
set_option maxRecDepth 65536 in
theorem w_args : argsFit about1.vm theMethod args0 = true := by decide +kernel
set_option maxRecDepth 65536 in
theorem w_heap : heapFits about1 = true := by decide +kernel
set_option maxRecDepth 65536 in
theorem w_runnable : about1.curStatus? = some .runnable := by decide +kernel
set_option maxRecDepth 65536 in
theorem w_alone : about1.alone = true := by decide +kernel
set_option maxRecDepth 65536 in
theorem w_named : about1.methodNamed? x = some theMethod := by decide +kernel
set_option maxRecDepth 65536 in
theorem w_hears : about1.hears theMethod below0 = true := by decide +kernel
set_option maxRecDepth 65536 in
theorem w_ripe : about1.ripe theMethod args0 below0 = true := by decide +kernel
theorem w_running : about1.status = .running := rfl
set_option maxRecDepth 65536 in
theorem w_room : about1.hasRoom e0.platform room_1 = true :=
  launch0.hasRoom_least _ room_1 (by decide +kernel) (by decide +kernel) (by decide +kernel) (by decide +kernel) (by decide +kernel) (by decide +kernel)
theorem allAtoms_all (ts : List Jvm.Cond) (a : Array Jvm.Value) (st : Jvm.State) : (allAtoms ts).before a st = ts.all (fun c => c.before a st) := by
  induction ts with
  | nil => rfl
  | cons c t ih =>
    show (Jvm.Cond.and c (allAtoms t)).before a st = _
    rw [Jvm.Cond.before_and, ih, List.all_cons]
def words1 : List Jvm.Cond := Jvm.Cond.code x code maxLocals ret :: tables_1
/-- a 'code' word, met by the world's own term for the bytes: nothing is compared byte by byte -/
theorem code_word {y : MethodName} {bytes : ByteArray} {mx : Nat} {rt : Option FieldType} {a : Array Value} {s : State} {m : MethodId} {meth : Method} {c : Code} (h1 : s.methodNamed? y = some m) (h2 : s.vm.method? m = some meth) (h3 : meth.code = some c) (h4 : c.code = bytes)
    (h5 : (c.maxLocals == mx && c.exceptionTable.isEmpty && decide (c.maxStack ≤ mostOperands) && decide (meth.sig.returnType = rt) && !meth.locks && decide (parseMethodDescriptor y.desc = some meth.sig)) = true) : (Jvm.Cond.code y bytes mx rt).before a s = true := by
  simp only [Bool.and_eq_true, beq_iff_eq, Bool.not_eq_true', decide_eq_true_eq] at h5
  obtain ⟨⟨⟨⟨⟨g1, g2⟩, g3⟩, g4⟩, g5⟩, g6⟩ := h5
  simp [Cond.before, Cond.holds, Cond.value, h1, h2, h3, h4, g1, g2, g3, g4, g5, g6]
def isCode : Jvm.Cond → Bool
  | .code _ _ _ _ => true
  | _ => false
theorem all_split {L : List Jvm.Cond} {P : Jvm.Cond → Bool} (h1 : L.all (fun c => isCode c || P c) = true) (h2 : ∀ c ∈ L.filter isCode, P c = true) : L.all P = true := by
  refine List.all_eq_true.mpr fun c hc => ?_
  have h := List.all_eq_true.mp h1 c hc
  rcases Bool.eq_false_or_eq_true (isCode c) with hi | hi
  · exact h2 c (List.mem_filter.mpr ⟨hc, hi⟩)
  · simpa [hi] using h
set_option maxRecDepth 65536 in
theorem w_c0 : (Jvm.Cond.code x code maxLocals ret).before args0 about1 = true := code_word (m := ⟨1, 5⟩) (meth := k1m5) (c := k1c5) (by decide +kernel) rfl rfl rfl (by decide +kernel)
set_option maxRecDepth 65536 in
theorem w_c1 : (Jvm.Cond.code ({ cls := "com/example/tablewise/tablewise/estr2/Pwsup", name := "<init>", desc := "([I)V" } : Jvm.MethodName) prog_28_method_1_code (5 : Nat) (Option.none : Option Jvm.ClassFile.FieldType)).before args0 about1 = true := code_word (m := ⟨2, 0⟩) (meth := k2m0) (c := k2c0) (by decide +kernel) rfl rfl rfl (by decide +kernel)
set_option maxRecDepth 65536 in
theorem w_c2 : (Jvm.Cond.code ({ cls := "java/lang/Object", name := "<init>", desc := "()V" } : Jvm.MethodName) object_method_1_code (1 : Nat) (Option.none : Option Jvm.ClassFile.FieldType)).before args0 about1 = true := code_word (m := ⟨0, 0⟩) (meth := k0m0) (c := k0c0) (by decide +kernel) rfl rfl rfl (by decide +kernel)
set_option maxRecDepth 65536 in
theorem w_c3 : (Jvm.Cond.code ({ cls := "com/example/tablewise/tablewise/estr2/Pwsup", name := "wordCount", desc := "(J)J" } : Jvm.MethodName) prog_28_method_10_code (2 : Nat) (Option.some Jvm.ClassFile.FieldType.long)).before args0 about1 = true := code_word (m := ⟨2, 5⟩) (meth := k2m5) (c := k2c5) (by decide +kernel) rfl rfl rfl (by decide +kernel)
set_option maxRecDepth 65536 in
theorem w_c4 : (Jvm.Cond.code ({ cls := "com/example/tablewise/tablewise/estr2/Pwsup", name := "clear", desc := "(I)V" } : Jvm.MethodName) prog_28_method_8_code (3 : Nat) (Option.none : Option Jvm.ClassFile.FieldType)).before args0 about1 = true := code_word (m := ⟨2, 3⟩) (meth := k2m3) (c := k2c3) (by decide +kernel) rfl rfl rfl (by decide +kernel)
set_option maxRecDepth 65536 in
theorem w_c5 : (Jvm.Cond.code ({ cls := "com/example/tablewise/tablewise/estr2/Pwsup", name := "add", desc := "(II)V" } : Jvm.MethodName) prog_28_method_7_code (3 : Nat) (Option.none : Option Jvm.ClassFile.FieldType)).before args0 about1 = true := code_word (m := ⟨2, 2⟩) (meth := k2m2) (c := k2c2) (by decide +kernel) rfl rfl rfl (by decide +kernel)
set_option maxRecDepth 65536 in
theorem w_c6 : (Jvm.Cond.code ({ cls := "com/example/tablewise/tablewise/estr2/Pwsup", name := "words", desc := "()[J" } : Jvm.MethodName) prog_28_method_3_code (1 : Nat) (Option.some (Jvm.ClassFile.FieldType.array Jvm.ClassFile.FieldType.long))).before args0 about1 = true := code_word (m := ⟨2, 1⟩) (meth := k2m1) (c := k2c1) (by decide +kernel) rfl rfl rfl (by decide +kernel)
set_option maxRecDepth 65536 in
theorem w_c7 : (Jvm.Cond.code ({ cls := "com/example/tablewise/tablewise/estr2/PwsupAddPinLaw", name := "nw", desc := "(I)I" } : Jvm.MethodName) method_2_code (1 : Nat) (Option.some Jvm.ClassFile.FieldType.int)).before args0 about1 = true := code_word (m := ⟨1, 1⟩) (meth := k1m1) (c := k1c1) (by decide +kernel) rfl rfl rfl (by decide +kernel)
set_option maxRecDepth 65536 in
theorem w_c8 : (Jvm.Cond.code ({ cls := "com/example/tablewise/tablewise/estr2/PwsupAddPinLaw", name := "word", desc := "([JIII)J" } : Jvm.MethodName) method_5_code (4 : Nat) (Option.some Jvm.ClassFile.FieldType.long)).before args0 about1 = true := code_word (m := ⟨1, 4⟩) (meth := k1m4) (c := k1c4) (by decide +kernel) rfl rfl rfl (by decide +kernel)
set_option maxRecDepth 65536 in
theorem w_c9 : (Jvm.Cond.code ({ cls := "com/example/tablewise/tablewise/estr2/PwsupAddPinLaw", name := "bit", desc := "(II)J" } : Jvm.MethodName) method_3_code (2 : Nat) (Option.some Jvm.ClassFile.FieldType.long)).before args0 about1 = true := code_word (m := ⟨1, 2⟩) (meth := k1m2) (c := k1c2) (by decide +kernel) rfl rfl rfl (by decide +kernel)
set_option maxRecDepth 65536 in
theorem w_c10 : (Jvm.Cond.code ({ cls := "com/example/tablewise/tablewise/estr2/Pwsup", name := "clearAll", desc := "()V" } : Jvm.MethodName) prog_28_method_9_code (3 : Nat) (Option.none : Option Jvm.ClassFile.FieldType)).before args0 about1 = true := code_word (m := ⟨2, 4⟩) (meth := k2m4) (c := k2c4) (by decide +kernel) rfl rfl rfl (by decide +kernel)
set_option maxRecDepth 65536 in
theorem w_c11 : (Jvm.Cond.code ({ cls := "com/example/tablewise/tablewise/estr2/PwsupAddPinLaw", name := "full", desc := "(II)J" } : Jvm.MethodName) method_4_code (3 : Nat) (Option.some Jvm.ClassFile.FieldType.long)).before args0 about1 = true := code_word (m := ⟨1, 3⟩) (meth := k1m3) (c := k1c3) (by decide +kernel) rfl rfl rfl (by decide +kernel)
def codes1 : List Jvm.Cond := [Jvm.Cond.code x code maxLocals ret, Jvm.Cond.code ({ cls := "com/example/tablewise/tablewise/estr2/Pwsup", name := "<init>", desc := "([I)V" } : Jvm.MethodName) prog_28_method_1_code (5 : Nat) (Option.none : Option Jvm.ClassFile.FieldType), Jvm.Cond.code ({ cls := "java/lang/Object", name := "<init>", desc := "()V" } : Jvm.MethodName) object_method_1_code (1 : Nat) (Option.none : Option Jvm.ClassFile.FieldType), Jvm.Cond.code ({ cls := "com/example/tablewise/tablewise/estr2/Pwsup", name := "wordCount", desc := "(J)J" } : Jvm.MethodName) prog_28_method_10_code (2 : Nat) (Option.some Jvm.ClassFile.FieldType.long), Jvm.Cond.code ({ cls := "com/example/tablewise/tablewise/estr2/Pwsup", name := "clear", desc := "(I)V" } : Jvm.MethodName) prog_28_method_8_code (3 : Nat) (Option.none : Option Jvm.ClassFile.FieldType), Jvm.Cond.code ({ cls := "com/example/tablewise/tablewise/estr2/Pwsup", name := "add", desc := "(II)V" } : Jvm.MethodName) prog_28_method_7_code (3 : Nat) (Option.none : Option Jvm.ClassFile.FieldType), Jvm.Cond.code ({ cls := "com/example/tablewise/tablewise/estr2/Pwsup", name := "words", desc := "()[J" } : Jvm.MethodName) prog_28_method_3_code (1 : Nat) (Option.some (Jvm.ClassFile.FieldType.array Jvm.ClassFile.FieldType.long)), Jvm.Cond.code ({ cls := "com/example/tablewise/tablewise/estr2/PwsupAddPinLaw", name := "nw", desc := "(I)I" } : Jvm.MethodName) method_2_code (1 : Nat) (Option.some Jvm.ClassFile.FieldType.int), Jvm.Cond.code ({ cls := "com/example/tablewise/tablewise/estr2/PwsupAddPinLaw", name := "word", desc := "([JIII)J" } : Jvm.MethodName) method_5_code (4 : Nat) (Option.some Jvm.ClassFile.FieldType.long), Jvm.Cond.code ({ cls := "com/example/tablewise/tablewise/estr2/PwsupAddPinLaw", name := "bit", desc := "(II)J" } : Jvm.MethodName) method_3_code (2 : Nat) (Option.some Jvm.ClassFile.FieldType.long), Jvm.Cond.code ({ cls := "com/example/tablewise/tablewise/estr2/Pwsup", name := "clearAll", desc := "()V" } : Jvm.MethodName) prog_28_method_9_code (3 : Nat) (Option.none : Option Jvm.ClassFile.FieldType), Jvm.Cond.code ({ cls := "com/example/tablewise/tablewise/estr2/PwsupAddPinLaw", name := "full", desc := "(II)J" } : Jvm.MethodName) method_4_code (3 : Nat) (Option.some Jvm.ClassFile.FieldType.long)]
set_option maxRecDepth 65536 in
theorem codes_eq : words1.filter isCode = codes1 := rfl
theorem w_codes : ∀ c ∈ words1.filter isCode, c.before args0 about1 = true := by
  rw [codes_eq]
  intro c hc
  simp only [codes1, List.mem_cons, List.not_mem_nil, or_false] at hc
  rcases hc with rfl | rfl | rfl | rfl | rfl | rfl | rfl | rfl | rfl | rfl | rfl | rfl
  · exact w_c0
  · exact w_c1
  · exact w_c2
  · exact w_c3
  · exact w_c4
  · exact w_c5
  · exact w_c6
  · exact w_c7
  · exact w_c8
  · exact w_c9
  · exact w_c10
  · exact w_c11
set_option maxRecDepth 65536 in
theorem w_t1 : (words1.take 24).all (fun c => isCode c || c.before args0 about1) = true := by decide +kernel
set_option maxRecDepth 65536 in
theorem w_t2 : ((words1.drop 24).take 24).all (fun c => isCode c || c.before args0 about1) = true := by decide +kernel
set_option maxRecDepth 65536 in
theorem w_t3 : ((words1.drop 24).drop 24).all (fun c => isCode c || c.before args0 about1) = true := by decide +kernel
theorem w_tables : (allAtoms (Jvm.Cond.code x code maxLocals ret :: tables_1)).before args0 about1 = true := by
  rw [allAtoms_all]
  show words1.all (fun c => c.before args0 about1) = true
  refine all_split ?_ w_codes
  rw [← List.take_append_drop 24 words1, List.all_append, w_t1, ← List.take_append_drop 24 (words1.drop 24), List.all_append, w_t2, w_t3]
  rfl
set_option maxRecDepth 65536 in
theorem w_case : (Jvm.Cond.and given_1 narrow_1).before args0 about1 = true := by decide +kernel
theorem w_applies : (headSpec (Jvm.Cond.code x code maxLocals ret :: tables_1) room_1).applies x e0.platform about1 = true :=
  (Spec.applies_iff w_frames).mpr ⟨w_running, w_runnable, w_alone, w_named, w_hears, w_ripe, w_room, w_tables⟩
theorem atStart : AtStart classFile x code maxLocals ret World_1 tables_1 room_1 Calls_1 rest_1 Pre_1 launch0 p0 e0 about1 theMethod args0 below0 :=
  ⟨lists_1, trivial, launch0.admits_env _ _ _, launch0.least_env, fairChoices_fair.cas, fairChoices_fair.clock, w_frames, w_args, w_heap, w_applies, trivial, trivial, w_case⟩
end start1
theorem witness_1 : WitnessClaimed_1 := ⟨start1.p0, start1.e0, start1.about1, start1.theMethod, start1.args0, start1.below0, start1.atStart⟩
end Jvm.Pilot.@@N@@
