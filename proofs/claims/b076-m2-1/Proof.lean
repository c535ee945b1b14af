import JvmDerived
import JvmDerived.Pilot.@@N@@Statement
import JvmDerived.Pilot.@@N@@Code
set_option linter.unusedVariables false
set_option linter.unusedSimpArgs false
@@BLOCK:NumsL.lean.txt@@
namespace Jvm.Pilot.@@N@@
open Jvm Jvm.ClassFile Sem Op Lib Jvm.Free Jvm.Stand Jvm.LawKit Jvm.RoadKit Bundle Jvm.Pilot.@@N@@.Jvm.D
/-! ### the classes whose objects the law makes, with their fields as the sheet lays them -/
def own_F0 : List (String × String) := [("tables", "[I"), ("queued", "[Z"), ("head", "I"), ("count", "I")]
def own_cl (t : Nat) : Option (String × List (String × String)) := if t = 0 then some ("com/example/tablewise/tablewise/propagation/TableQueue", own_F0) else none
theorem own_cl0 : own_cl 0 = some ("com/example/tablewise/tablewise/propagation/TableQueue", own_F0) := rfl
def own_V0 : List Value := [.null, .null, .int 0, .int 0]
theorem own_fd0_0 : parseFieldDescriptor "[I" = some (.array .int) := by decide +kernel
theorem own_fd0_1 : parseFieldDescriptor "[Z" = some (.array .boolean) := by decide +kernel
theorem own_fd0_2 : parseFieldDescriptor "I" = some .int := by decide +kernel
theorem own_fd0_3 : parseFieldDescriptor "I" = some .int := by decide +kernel
/-! ### the sheet's words -/
theorem own_w0 : (Jvm.Cond.constant "com/example/tablewise/tablewise/propagation/TableQueueOfferPinLaw" (13 : Nat) (2147483647 : Int32)) ∈ tables_1 := List.mem_of_getElem? (i := 0) rfl
theorem own_w1 : (Jvm.Cond.classLink "com/example/tablewise/tablewise/propagation/TableQueueOfferPinLaw" (14 : Nat) "com/example/tablewise/tablewise/propagation/TableQueue") ∈ tables_1 := List.mem_of_getElem? (i := 1) rfl
theorem own_w2 : (Jvm.Cond.instantiable "com/example/tablewise/tablewise/propagation/TableQueue" (4 : Nat)) ∈ tables_1 := List.mem_of_getElem? (i := 2) rfl
theorem own_w3 : (Jvm.Cond.initialized "com/example/tablewise/tablewise/propagation/TableQueue") ∈ tables_1 := List.mem_of_getElem? (i := 3) rfl
theorem own_w4 : (Jvm.Cond.methodLink "com/example/tablewise/tablewise/propagation/TableQueueOfferPinLaw" (16 : Nat) ({ cls := "com/example/tablewise/tablewise/propagation/TableQueue", name := "<init>", desc := "(I)V" } : Jvm.MethodName)) ∈ tables_1 := List.mem_of_getElem? (i := 4) rfl
theorem own_w5 : (Jvm.Cond.instanceMethod ({ cls := "com/example/tablewise/tablewise/propagation/TableQueue", name := "<init>", desc := "(I)V" } : Jvm.MethodName)) ∈ tables_1 := List.mem_of_getElem? (i := 5) rfl
theorem own_w6 : (Jvm.Cond.code ({ cls := "com/example/tablewise/tablewise/propagation/TableQueue", name := "<init>", desc := "(I)V" } : Jvm.MethodName) prog_41_method_1_code (2 : Nat) (Option.none : Option Jvm.ClassFile.FieldType)) ∈ tables_1 := List.mem_of_getElem? (i := 6) rfl
theorem own_w7 : (Jvm.Cond.methodLink "com/example/tablewise/tablewise/propagation/TableQueue" (1 : Nat) ({ cls := "java/lang/Object", name := "<init>", desc := "()V" } : Jvm.MethodName)) ∈ tables_1 := List.mem_of_getElem? (i := 7) rfl
theorem own_w8 : (Jvm.Cond.instanceMethod ({ cls := "java/lang/Object", name := "<init>", desc := "()V" } : Jvm.MethodName)) ∈ tables_1 := List.mem_of_getElem? (i := 8) rfl
theorem own_w9 : Jvm.Cond.code Lib.objectInit ⟨#[0xb1]⟩ 1 none ∈ tables_1 := List.mem_of_getElem? (i := 9) rfl
theorem own_w10 : (Jvm.Cond.arrayClass Jvm.ClassFile.FieldType.int) ∈ tables_1 := List.mem_of_getElem? (i := 10) rfl
theorem own_w11 : (Jvm.Cond.fieldLink "com/example/tablewise/tablewise/propagation/TableQueue" (7 : Nat) "com/example/tablewise/tablewise/propagation/TableQueue" "tables" "[I") ∈ tables_1 := List.mem_of_getElem? (i := 11) rfl
theorem own_w12 : (Jvm.Cond.laysFinal "com/example/tablewise/tablewise/propagation/TableQueue" "com/example/tablewise/tablewise/propagation/TableQueue" "tables" "[I") ∈ tables_1 := List.mem_of_getElem? (i := 12) rfl
theorem own_w13 : (Jvm.Cond.arrayClass Jvm.ClassFile.FieldType.boolean) ∈ tables_1 := List.mem_of_getElem? (i := 13) rfl
theorem own_w14 : (Jvm.Cond.fieldLink "com/example/tablewise/tablewise/propagation/TableQueue" (13 : Nat) "com/example/tablewise/tablewise/propagation/TableQueue" "queued" "[Z") ∈ tables_1 := List.mem_of_getElem? (i := 14) rfl
theorem own_w15 : (Jvm.Cond.laysFinal "com/example/tablewise/tablewise/propagation/TableQueue" "com/example/tablewise/tablewise/propagation/TableQueue" "queued" "[Z") ∈ tables_1 := List.mem_of_getElem? (i := 15) rfl
theorem own_w16 : (Jvm.Cond.methodLink "com/example/tablewise/tablewise/propagation/TableQueueOfferPinLaw" (19 : Nat) ({ cls := "com/example/tablewise/tablewise/propagation/TableQueue", name := "offer", desc := "(I)V" } : Jvm.MethodName)) ∈ tables_1 := List.mem_of_getElem? (i := 16) rfl
theorem own_w17 : (Jvm.Cond.declares ({ cls := "com/example/tablewise/tablewise/propagation/TableQueue", name := "offer", desc := "(I)V" } : Jvm.MethodName)) ∈ tables_1 := List.mem_of_getElem? (i := 17) rfl
theorem own_w18 : (Jvm.Cond.instanceMethod ({ cls := "com/example/tablewise/tablewise/propagation/TableQueue", name := "offer", desc := "(I)V" } : Jvm.MethodName)) ∈ tables_1 := List.mem_of_getElem? (i := 18) rfl
theorem own_w19 : (Jvm.Cond.selects "com/example/tablewise/tablewise/propagation/TableQueue" ({ cls := "com/example/tablewise/tablewise/propagation/TableQueue", name := "offer", desc := "(I)V" } : Jvm.MethodName) ({ cls := "com/example/tablewise/tablewise/propagation/TableQueue", name := "offer", desc := "(I)V" } : Jvm.MethodName)) ∈ tables_1 := List.mem_of_getElem? (i := 19) rfl
theorem own_w20 : (Jvm.Cond.code ({ cls := "com/example/tablewise/tablewise/propagation/TableQueue", name := "offer", desc := "(I)V" } : Jvm.MethodName) prog_41_method_2_code (2 : Nat) (Option.none : Option Jvm.ClassFile.FieldType)) ∈ tables_1 := List.mem_of_getElem? (i := 20) rfl
theorem own_w21 : (Jvm.Cond.fieldLink "com/example/tablewise/tablewise/propagation/TableQueue" (17 : Nat) "com/example/tablewise/tablewise/propagation/TableQueue" "head" "I") ∈ tables_1 := List.mem_of_getElem? (i := 21) rfl
theorem own_w22 : (Jvm.Cond.lays "com/example/tablewise/tablewise/propagation/TableQueue" "com/example/tablewise/tablewise/propagation/TableQueue" "head" "I") ∈ tables_1 := List.mem_of_getElem? (i := 22) rfl
theorem own_w23 : (Jvm.Cond.fieldLink "com/example/tablewise/tablewise/propagation/TableQueue" (21 : Nat) "com/example/tablewise/tablewise/propagation/TableQueue" "count" "I") ∈ tables_1 := List.mem_of_getElem? (i := 23) rfl
theorem own_w24 : (Jvm.Cond.lays "com/example/tablewise/tablewise/propagation/TableQueue" "com/example/tablewise/tablewise/propagation/TableQueue" "count" "I") ∈ tables_1 := List.mem_of_getElem? (i := 24) rfl
theorem own_w25 : (Jvm.Cond.methodLink "com/example/tablewise/tablewise/propagation/TableQueueOfferPinLaw" (22 : Nat) ({ cls := "com/example/tablewise/tablewise/propagation/TableQueueOfferPinLaw", name := "push", desc := "([III)I" } : Jvm.MethodName)) ∈ tables_1 := List.mem_of_getElem? (i := 25) rfl
theorem own_w26 : (Jvm.Cond.static ({ cls := "com/example/tablewise/tablewise/propagation/TableQueueOfferPinLaw", name := "push", desc := "([III)I" } : Jvm.MethodName)) ∈ tables_1 := List.mem_of_getElem? (i := 26) rfl
theorem own_w27 : (Jvm.Cond.initialized "com/example/tablewise/tablewise/propagation/TableQueueOfferPinLaw") ∈ tables_1 := List.mem_of_getElem? (i := 27) rfl
theorem own_w28 : (Jvm.Cond.code ({ cls := "com/example/tablewise/tablewise/propagation/TableQueueOfferPinLaw", name := "push", desc := "([III)I" } : Jvm.MethodName) method_3_code (3 : Nat) (Option.some Jvm.ClassFile.FieldType.int)) ∈ tables_1 := List.mem_of_getElem? (i := 28) rfl
theorem own_w29 : (Jvm.Cond.methodLink "com/example/tablewise/tablewise/propagation/TableQueueOfferPinLaw" (7 : Nat) ({ cls := "com/example/tablewise/tablewise/propagation/TableQueueOfferPinLaw", name := "has", desc := "([III)Z" } : Jvm.MethodName)) ∈ tables_1 := List.mem_of_getElem? (i := 29) rfl
theorem own_w30 : (Jvm.Cond.static ({ cls := "com/example/tablewise/tablewise/propagation/TableQueueOfferPinLaw", name := "has", desc := "([III)Z" } : Jvm.MethodName)) ∈ tables_1 := List.mem_of_getElem? (i := 30) rfl
theorem own_w31 : (Jvm.Cond.code ({ cls := "com/example/tablewise/tablewise/propagation/TableQueueOfferPinLaw", name := "has", desc := "([III)Z" } : Jvm.MethodName) method_2_code (3 : Nat) (Option.some Jvm.ClassFile.FieldType.boolean)) ∈ tables_1 := List.mem_of_getElem? (i := 31) rfl
theorem own_w32 : (Jvm.Cond.methodLink "com/example/tablewise/tablewise/propagation/TableQueueOfferPinLaw" (26 : Nat) ({ cls := "com/example/tablewise/tablewise/propagation/TableQueue", name := "poll", desc := "()I" } : Jvm.MethodName)) ∈ tables_1 := List.mem_of_getElem? (i := 32) rfl
theorem own_w33 : (Jvm.Cond.declares ({ cls := "com/example/tablewise/tablewise/propagation/TableQueue", name := "poll", desc := "()I" } : Jvm.MethodName)) ∈ tables_1 := List.mem_of_getElem? (i := 33) rfl
theorem own_w34 : (Jvm.Cond.instanceMethod ({ cls := "com/example/tablewise/tablewise/propagation/TableQueue", name := "poll", desc := "()I" } : Jvm.MethodName)) ∈ tables_1 := List.mem_of_getElem? (i := 34) rfl
theorem own_w35 : (Jvm.Cond.selects "com/example/tablewise/tablewise/propagation/TableQueue" ({ cls := "com/example/tablewise/tablewise/propagation/TableQueue", name := "poll", desc := "()I" } : Jvm.MethodName) ({ cls := "com/example/tablewise/tablewise/propagation/TableQueue", name := "poll", desc := "()I" } : Jvm.MethodName)) ∈ tables_1 := List.mem_of_getElem? (i := 35) rfl
theorem own_w36 : (Jvm.Cond.code ({ cls := "com/example/tablewise/tablewise/propagation/TableQueue", name := "poll", desc := "()I" } : Jvm.MethodName) prog_41_method_4_code (2 : Nat) (Option.some Jvm.ClassFile.FieldType.int)) ∈ tables_1 := List.mem_of_getElem? (i := 36) rfl
theorem own_w37 : (Jvm.Cond.methodLink "com/example/tablewise/tablewise/propagation/TableQueueOfferPinLaw" (30 : Nat) ({ cls := "com/example/tablewise/tablewise/propagation/TableQueueOfferPinLaw", name := "pop", desc := "([II)I" } : Jvm.MethodName)) ∈ tables_1 := List.mem_of_getElem? (i := 37) rfl
theorem own_w38 : (Jvm.Cond.static ({ cls := "com/example/tablewise/tablewise/propagation/TableQueueOfferPinLaw", name := "pop", desc := "([II)I" } : Jvm.MethodName)) ∈ tables_1 := List.mem_of_getElem? (i := 38) rfl
theorem own_w39 : (Jvm.Cond.code ({ cls := "com/example/tablewise/tablewise/propagation/TableQueueOfferPinLaw", name := "pop", desc := "([II)I" } : Jvm.MethodName) method_4_code (2 : Nat) (Option.some Jvm.ClassFile.FieldType.int)) ∈ tables_1 := List.mem_of_getElem? (i := 39) rfl
theorem own_w40 : (Jvm.Cond.methodLink "com/example/tablewise/tablewise/propagation/TableQueueOfferPinLaw" (34 : Nat) ({ cls := "com/example/tablewise/tablewise/propagation/TableQueue", name := "isEmpty", desc := "()Z" } : Jvm.MethodName)) ∈ tables_1 := List.mem_of_getElem? (i := 40) rfl
theorem own_w41 : (Jvm.Cond.declares ({ cls := "com/example/tablewise/tablewise/propagation/TableQueue", name := "isEmpty", desc := "()Z" } : Jvm.MethodName)) ∈ tables_1 := List.mem_of_getElem? (i := 41) rfl
theorem own_w42 : (Jvm.Cond.instanceMethod ({ cls := "com/example/tablewise/tablewise/propagation/TableQueue", name := "isEmpty", desc := "()Z" } : Jvm.MethodName)) ∈ tables_1 := List.mem_of_getElem? (i := 42) rfl
theorem own_w43 : (Jvm.Cond.selects "com/example/tablewise/tablewise/propagation/TableQueue" ({ cls := "com/example/tablewise/tablewise/propagation/TableQueue", name := "isEmpty", desc := "()Z" } : Jvm.MethodName) ({ cls := "com/example/tablewise/tablewise/propagation/TableQueue", name := "isEmpty", desc := "()Z" } : Jvm.MethodName)) ∈ tables_1 := List.mem_of_getElem? (i := 43) rfl
theorem own_w44 : (Jvm.Cond.code ({ cls := "com/example/tablewise/tablewise/propagation/TableQueue", name := "isEmpty", desc := "()Z" } : Jvm.MethodName) prog_41_method_3_code (1 : Nat) (Option.some Jvm.ClassFile.FieldType.boolean)) ∈ tables_1 := List.mem_of_getElem? (i := 44) rfl
def own_dist : List (String × String) → Bool
  | [] => true
  | x :: r => r.all (fun y => x.1 != y.1) && own_dist r
theorem own_dist_e : ∀ (fs : List (String × String)), own_dist fs = true → ∀ (i j : Nat) n d n' d', fs[i]? = some (n, d) → fs[j]? = some (n', d') → i ≠ j → n ≠ n'
  | [], _, i, j, n, d, n', d', h1, _, _ => by simp at h1
  | x :: r, h, i, j, n, d, n', d', h1, h2, hij => by
    simp only [own_dist, Bool.and_eq_true, List.all_eq_true, bne_iff_ne, ne_eq] at h
    match i, j with
    | 0, 0 => exact absurd rfl hij
    | 0, b + 1 =>
      have g1 : x = (n, d) := Option.some.inj h1
      have g2 : r[b]? = some (n', d') := h2
      intro e
      refine h.1 _ (List.mem_of_getElem? g2) ?_
      rw [g1]
      exact e
    | a + 1, 0 =>
      have g1 : r[a]? = some (n, d) := h1
      have g2 : x = (n', d') := Option.some.inj h2
      intro e
      refine h.1 _ (List.mem_of_getElem? g1) ?_
      rw [g2]
      exact e.symm
    | a + 1, b + 1 => exact own_dist_e r h.2 a b n d n' d' h1 h2 (fun e => hij (by rw [e]))
theorem own_laid {Z : State} {a0 : Array Value} (hw : ∀ d ∈ tables_1, d.before a0 Z = true) {t : Nat} {C : String} {fs : List (String × String)} (h : own_cl t = some (C, fs)) : (∀ (i : Nat) n d, fs[i]? = some (n, d) → Laid Z a0 C C n d ∧ ∃ ty, parseFieldDescriptor d = some ty) ∧ ∀ (i j : Nat) n d n' d', fs[i]? = some (n, d) → fs[j]? = some (n', d') → i ≠ j → n ≠ n' := by
  unfold own_cl at h
  split at h
  · cases h
    refine ⟨fun i n d hi => ?_, own_dist_e _ (by decide +kernel)⟩
    match i, hi with
    | 0, hi => cases (show some ("tables", "[I") = some (n, d) from hi); exact ⟨Or.inr (hw _ own_w12), _, own_fd0_0⟩
    | 1, hi => cases (show some ("queued", "[Z") = some (n, d) from hi); exact ⟨Or.inr (hw _ own_w15), _, own_fd0_1⟩
    | 2, hi => cases (show some ("head", "I") = some (n, d) from hi); exact ⟨Or.inl (hw _ own_w22), _, own_fd0_2⟩
    | 3, hi => cases (show some ("count", "I") = some (n, d) from hi); exact ⟨Or.inl (hw _ own_w24), _, own_fd0_3⟩
    | k + 4, hi => exact nomatch (show none = some (n, d) from hi)
  · skip
    cases h
theorem own_dv0 : ∀ (i : Nat) nm d u, own_F0[i]? = some (nm, d) → own_V0[i]? = some u → ∃ ty, parseFieldDescriptor d = some ty ∧ u = defaultValue ty := by
  intro i nm d u hi hu
  match i, hi, hu with
  | 0, hi, hu => cases (show some ("tables", "[I") = some (nm, d) from hi); cases (show some (.null) = some u from hu); exact ⟨_, own_fd0_0, rfl⟩
  | 1, hi, hu => cases (show some ("queued", "[Z") = some (nm, d) from hi); cases (show some (.null) = some u from hu); exact ⟨_, own_fd0_1, rfl⟩
  | 2, hi, hu => cases (show some ("head", "I") = some (nm, d) from hi); cases (show some (.int 0) = some u from hu); exact ⟨_, own_fd0_2, rfl⟩
  | 3, hi, hu => cases (show some ("count", "I") = some (nm, d) from hi); cases (show some (.int 0) = some u from hu); exact ⟨_, own_fd0_3, rfl⟩
  | k + 4, hi, hu => exact nomatch (show none = some (nm, d) from hi)
/-! ### own_: a small memory model, and the walk over it
A memory is a list of cells (a tag and its values); the cell k of it stands at the heap's address n0 + k.
Every instruction has one law: from 'what is left behind it' to 'what is left at it'. -/
abbrev own_Mem := List (Nat × List Value)
def own_up (n0 : Nat) : Value → Value
  | .ref a => .ref (n0 + a)
  | v => v
def own_ty (t : Nat) : Option FieldType := if t = 100 then some .int else if t = 101 then some .long else if t = 102 then some .byte else if t = 103 then some .boolean else none
def own_Cell (Z : State) (n0 : Nat) (h : Heap) (a : Addr) (o : Nat × List Value) : Prop :=
  (∀ ty, own_ty o.1 = some ty → ∃ c : Cell, Arr Z h a c ty ∧ c.slots.toList = o.2 ∧ o.2.length < 2 ^ 31) ∧
  (∀ C fs, own_cl o.1 = some (C, fs) → Exa Z h a C ∧ ∀ (i : Nat) n d v, fs[i]? = some (n, d) → o.2[i]? = some v → Fld Z h a C n d (own_up n0 v))
def own_Rel (Z : State) (n0 : Nat) (h : Heap) (M : own_Mem) : Prop := h.size = n0 + M.length ∧ ∀ k o, M[k]? = some o → own_Cell Z n0 h (n0 + k) o
/-! what the instructions do to a memory -/
def own_at (M : own_Mem) (t a : Nat) : Option (List Value) := match M[a]? with
  | some o => if o.1 = t then some o.2 else none
  | none => none
def own_ix (vs : List Value) (j : Int32) : Option Value := if j < 0 then none else vs[j.toNatClampNeg]?
def own_vI : Option Value → Option Int32
  | some (.int x) => some x
  | _ => none
def own_vJ : Option Value → Option Int64
  | some (.long x) => some x
  | _ => none
def own_vR : Option Value → Option Nat
  | some (.ref x) => some x
  | _ => none
def own_ldI (t : Nat) (M : own_Mem) (a : Nat) (j : Int32) : Option Int32 := match own_at M t a with
  | some vs => own_vI (own_ix vs j)
  | none => none
def own_ldJ (t : Nat) (M : own_Mem) (a : Nat) (j : Int32) : Option Int64 := match own_at M t a with
  | some vs => own_vJ (own_ix vs j)
  | none => none
def own_sto (t : Nat) (M : own_Mem) (a : Nat) (j : Int32) (v : Value) : Option own_Mem := match own_at M t a with
  | some vs => if j < 0 ∨ vs.length ≤ j.toNatClampNeg then none else some (M.set a (t, vs.set j.toNatClampNeg v))
  | none => none
def own_len (t : Nat) (M : own_Mem) (a : Nat) : Option Int32 := match own_at M t a with
  | some vs => some vs.length.toInt32
  | none => none
def own_getI (t i : Nat) (M : own_Mem) (a : Nat) : Option Int32 := match own_at M t a with
  | some vs => own_vI vs[i]?
  | none => none
def own_getJ (t i : Nat) (M : own_Mem) (a : Nat) : Option Int64 := match own_at M t a with
  | some vs => own_vJ vs[i]?
  | none => none
def own_getR (t i : Nat) (M : own_Mem) (a : Nat) : Option Nat := match own_at M t a with
  | some vs => own_vR vs[i]?
  | none => none
def own_put (t i : Nat) (M : own_Mem) (a : Nat) (v : Value) : Option own_Mem := match own_at M t a with
  | some vs => if i < vs.length then some (M.set a (t, vs.set i v)) else none
  | none => none
def own_newA (t cap : Nat) (d : Value) (M : own_Mem) (n : Int32) : Option (Nat × own_Mem) := if n < 0 ∨ cap < n.toNatClampNeg then none else some (M.length, M ++ [(t, List.replicate n.toNatClampNeg d)])
def own_newO (t : Nat) (vs : List Value) (M : own_Mem) : Option (Nat × own_Mem) := some (M.length, M ++ [(t, vs)])
def own_let {α β : Type} (x : α) (k : α → Option β) : Option β := k x
def own_nz {β : Type} (b : Prop) [Decidable b] (k : Option β) : Option β := if b then none else k
/-! facts on a memory and the heap -/
theorem own_at_e {M : own_Mem} {t a : Nat} {vs : List Value} (h : own_at M t a = some vs) : M[a]? = some (t, vs) := by
  unfold own_at at h
  split at h
  · rename_i o ho
    split at h
    · rename_i ht
      cases h
      rw [ho, ← ht]
    · cases h
  · cases h
theorem own_vI_e {o : Option Value} {x : Int32} (h : own_vI o = some x) : o = some (.int x) := by
  unfold own_vI at h; split at h <;> cases h; rfl
theorem own_vJ_e {o : Option Value} {x : Int64} (h : own_vJ o = some x) : o = some (.long x) := by
  unfold own_vJ at h; split at h <;> cases h; rfl
theorem own_vR_e {o : Option Value} {x : Nat} (h : own_vR o = some x) : o = some (.ref x) := by
  unfold own_vR at h; split at h <;> cases h; rfl
theorem own_ix_e {vs : List Value} {j : Int32} {v : Value} (h : own_ix vs j = some v) : ¬ j < 0 ∧ vs[j.toNatClampNeg]? = some v := by
  unfold own_ix at h; split at h
  · cases h
  · exact ⟨by assumption, h⟩
theorem own_ldI_e {t : Nat} {M : own_Mem} {a : Nat} {j x : Int32} (h : own_ldI t M a j = some x) : ∃ vs, M[a]? = some (t, vs) ∧ ¬ j < 0 ∧ vs[j.toNatClampNeg]? = some (.int x) := by
  unfold own_ldI at h; split at h
  · rename_i vs hv; exact ⟨vs, own_at_e hv, own_ix_e (own_vI_e h)⟩
  · cases h
theorem own_ldJ_e {t : Nat} {M : own_Mem} {a : Nat} {j : Int32} {x : Int64} (h : own_ldJ t M a j = some x) : ∃ vs, M[a]? = some (t, vs) ∧ ¬ j < 0 ∧ vs[j.toNatClampNeg]? = some (.long x) := by
  unfold own_ldJ at h; split at h
  · rename_i vs hv; exact ⟨vs, own_at_e hv, own_ix_e (own_vJ_e h)⟩
  · cases h
theorem own_sto_e {t : Nat} {M M1 : own_Mem} {a : Nat} {j : Int32} {v : Value} (h : own_sto t M a j v = some M1) : ∃ vs, M[a]? = some (t, vs) ∧ ¬ (j < 0 ∨ vs.length ≤ j.toNatClampNeg) ∧ M1 = M.set a (t, vs.set j.toNatClampNeg v) := by
  unfold own_sto at h; split at h
  · rename_i vs hv; split at h
    · cases h
    · cases h; exact ⟨vs, own_at_e hv, by assumption, rfl⟩
  · cases h
theorem own_len_e {t : Nat} {M : own_Mem} {a : Nat} {x : Int32} (h : own_len t M a = some x) : ∃ vs, M[a]? = some (t, vs) ∧ x = vs.length.toInt32 := by
  unfold own_len at h; split at h
  · rename_i vs hv; cases h; exact ⟨vs, own_at_e hv, rfl⟩
  · cases h
theorem own_getI_e {t i : Nat} {M : own_Mem} {a : Nat} {x : Int32} (h : own_getI t i M a = some x) : ∃ vs, M[a]? = some (t, vs) ∧ vs[i]? = some (.int x) := by
  unfold own_getI at h; split at h
  · rename_i vs hv; exact ⟨vs, own_at_e hv, own_vI_e h⟩
  · cases h
theorem own_getJ_e {t i : Nat} {M : own_Mem} {a : Nat} {x : Int64} (h : own_getJ t i M a = some x) : ∃ vs, M[a]? = some (t, vs) ∧ vs[i]? = some (.long x) := by
  unfold own_getJ at h; split at h
  · rename_i vs hv; exact ⟨vs, own_at_e hv, own_vJ_e h⟩
  · cases h
theorem own_getR_e {t i : Nat} {M : own_Mem} {a : Nat} {x : Nat} (h : own_getR t i M a = some x) : ∃ vs, M[a]? = some (t, vs) ∧ vs[i]? = some (.ref x) := by
  unfold own_getR at h; split at h
  · rename_i vs hv; exact ⟨vs, own_at_e hv, own_vR_e h⟩
  · cases h
theorem own_put_e {t i : Nat} {M M1 : own_Mem} {a : Nat} {v : Value} (h : own_put t i M a v = some M1) : ∃ vs, M[a]? = some (t, vs) ∧ i < vs.length ∧ M1 = M.set a (t, vs.set i v) := by
  unfold own_put at h; split at h
  · rename_i vs hv; split at h
    · cases h; exact ⟨vs, own_at_e hv, by assumption, rfl⟩
    · cases h
  · cases h
theorem own_bind {α β : Type} {o : Option α} {k : α → Option β} {r : β} (h : o.bind k = some r) : ∃ q, o = some q ∧ k q = some r := by
  cases o with
  | none => cases h
  | some q => exact ⟨q, rfl, h⟩
theorem own_bk {α β : Type} {P : Prop} {o : Option α} {k : α → Option β} {r : β} (h : o.bind k = some r) (f : ∀ q, o = some q → k q = some r → P) : P := by
  obtain ⟨q, h1, h2⟩ := own_bind h
  exact f q h1 h2
theorem own_ty_cl {t : Nat} {ty : FieldType} (h : own_ty t = some ty) : own_cl t = none := by
  unfold own_ty at h
  split at h
  · subst t; rfl
  · split at h
    · subst t; rfl
    · split at h
      · subst t; rfl
      · split at h
        · subst t; rfl
        · cases h
section OwnRel
variable {Z : State} {a0 : Array Value} {n0 : Nat} {h h' : Heap} {M : own_Mem}
theorem own_arr (R : own_Rel Z n0 h M) {t a : Nat} {ty : FieldType} {vs : List Value} (ht : own_ty t = some ty) (hm : M[a]? = some (t, vs)) : ∃ c : Cell, Arr Z h (n0 + a) c ty ∧ c.slots.toList = vs ∧ vs.length < 2 ^ 31 := (R.2 a _ hm).1 ty ht
theorem own_obj (R : own_Rel Z n0 h M) {t a : Nat} {C : String} {fs : List (String × String)} {vs : List Value} (ht : own_cl t = some (C, fs)) (hm : M[a]? = some (t, vs)) : Exa Z h (n0 + a) C ∧ ∀ (i : Nat) n d v, fs[i]? = some (n, d) → vs[i]? = some v → Fld Z h (n0 + a) C n d (own_up n0 v) := (R.2 a _ hm).2 C fs ht
theorem own_inj {n0 a k : Nat} (h : ¬ k = a) : n0 + k ≠ n0 + a := fun e => h (Nat.add_left_cancel e)
theorem own_wrA (R : own_Rel Z n0 h M) {t a j : Nat} {ty : FieldType} {vs : List Value} {v : Value} (ht : own_ty t = some ty) (hm : M[a]? = some (t, vs)) (W : Wr h h' (n0 + a) j v) : own_Rel Z n0 h' (M.set a (t, vs.set j v)) := by
  refine ⟨by rw [W.size, R.1, List.length_set], fun k o hk => ?_⟩
  by_cases e : k = a
  · subst e
    have hlt : k < M.length := (List.getElem?_eq_some_iff.mp hm).1
    rw [List.getElem?_set_self hlt] at hk
    cases hk
    obtain ⟨c, A, hs, hl⟩ := own_arr R ht hm
    refine ⟨fun ty' ht' => ?_, fun C fs hc => (by rw [own_ty_cl ht] at hc; cases hc)⟩
    cases ht.symm.trans ht'
    refine ⟨_, A.same W, ?_, by simpa using hl⟩
    simp [Cell.setSlot, hs]
  · rw [List.getElem?_set_ne (fun q => e q.symm)] at hk
    have q := R.2 k o hk
    refine ⟨fun ty' ht' => ?_, fun C fs hc => ?_⟩
    · obtain ⟨c, A, r⟩ := q.1 ty' ht'
      exact ⟨c, A.other W (own_inj e), r⟩
    · obtain ⟨E, F⟩ := q.2 C fs hc
      exact ⟨E.wr W, fun i n d v h1 h2 => (F i n d v h1 h2).other W (Or.inl (own_inj e))⟩
theorem own_wrF (R : own_Rel Z n0 h M) (hw : ∀ d ∈ tables_1, d.before a0 Z = true) {t a i : Nat} {C n d : String} {fs : List (String × String)} {vs : List Value} {v : Value} (ht : own_cl t = some (C, fs)) (hm : M[a]? = some (t, vs)) (hi : fs[i]? = some (n, d)) (hv : i < vs.length) (W : Wr h h' (n0 + a) (Jvm.RoadKit.slotOf Z C n d) (own_up n0 v)) : own_Rel Z n0 h' (M.set a (t, vs.set i v)) := by
  refine ⟨by rw [W.size, R.1, List.length_set], fun k o hk => ?_⟩
  by_cases e : k = a
  · subst e
    have hlt : k < M.length := (List.getElem?_eq_some_iff.mp hm).1
    rw [List.getElem?_set_self hlt] at hk
    cases hk
    obtain ⟨E, F⟩ := own_obj R ht hm
    refine ⟨fun ty ht' => (by rw [own_ty_cl ht'] at ht; cases ht), fun C' fs' hc => ?_⟩
    cases ht.symm.trans hc
    obtain ⟨L, ND⟩ := own_laid hw ht
    refine ⟨E.wr W, fun i' n' d' v' h1 h2 => ?_⟩
    by_cases ei : i' = i
    · subst ei
      cases hi.symm.trans h1
      rw [List.getElem?_set_self hv] at h2
      cases h2
      exact (F _ _ _ _ hi (List.getElem?_eq_getElem hv)).same W
    · rw [List.getElem?_set_ne (fun q => ei q.symm)] at h2
      obtain ⟨L1, ty1, p1⟩ := L _ _ _ h1
      obtain ⟨L2, ty2, p2⟩ := L _ _ _ hi
      exact (F _ _ _ _ h1 h2).other W (Or.inr (slot_ne L1 L2 (ND _ _ _ _ _ _ h1 hi ei) p1 p2))
  · rw [List.getElem?_set_ne (fun q => e q.symm)] at hk
    have q := R.2 k o hk
    refine ⟨fun ty' ht' => ?_, fun C' fs' hc => ?_⟩
    · obtain ⟨c, A, r⟩ := q.1 ty' ht'
      exact ⟨c, A.other W (own_inj e), r⟩
    · obtain ⟨E, F⟩ := q.2 C' fs' hc
      exact ⟨E.wr W, fun i n d v h1 h2 => (F i n d v h1 h2).other W (Or.inl (own_inj e))⟩
theorem own_push (R : own_Rel Z n0 h M) {c : Cell} {o : Nat × List Value} (E : Ext h (h.push c)) (H : own_Cell Z n0 (h.push c) h.size o) : own_Rel Z n0 (h.push c) (M ++ [o]) := by
  refine ⟨by simp [R.1]; omega, fun k q hk => ?_⟩
  rcases Nat.lt_or_ge k (List.length M) with e | e
  · rw [List.getElem?_append_left e] at hk
    have z := R.2 k q hk
    refine ⟨fun ty' ht' => ?_, fun C' fs' hc => ?_⟩
    · obtain ⟨c, A, r⟩ := z.1 ty' ht'
      exact ⟨c, A.ext E, r⟩
    · obtain ⟨E', F⟩ := z.2 C' fs' hc
      exact ⟨E'.ext E, fun i n d v h1 h2 => (F i n d v h1 h2).ext E⟩
  · have ek : k = List.length M := by
      have hh := (List.getElem?_eq_some_iff.mp hk).1
      rw [List.length_append, List.length_singleton] at hh
      exact Nat.le_antisymm (Nat.lt_succ_iff.mp hh) e
    subst ek
    rw [List.getElem?_append_right (Nat.le_refl _)] at hk
    simp at hk
    subst hk
    rw [← R.1]
    exact H
end OwnRel
/-! ### own_W: what is left to do at a place of a body -/
abbrev own_Ctx := Program × Launch × Env × Room × State × MethodId × Array Value × List Frame × Method × Code × State × Array Value × Nat
def own_p (C : own_Ctx) : Program := C.1
def own_l (C : own_Ctx) : Launch := C.2.1
def own_e (C : own_Ctx) : Env := C.2.2.1
def own_R (C : own_Ctx) : Room := C.2.2.2.1
def own_s (C : own_Ctx) : State := C.2.2.2.2.1
def own_m (C : own_Ctx) : MethodId := C.2.2.2.2.2.1
def own_a (C : own_Ctx) : Array Value := C.2.2.2.2.2.2.1
def own_b (C : own_Ctx) : List Frame := C.2.2.2.2.2.2.2.1
def own_h (C : own_Ctx) : Method := C.2.2.2.2.2.2.2.2.1
def own_c (C : own_Ctx) : Code := C.2.2.2.2.2.2.2.2.2.1
def own_Z (C : own_Ctx) : State := C.2.2.2.2.2.2.2.2.2.2.1
def own_z (C : own_Ctx) : Array Value := C.2.2.2.2.2.2.2.2.2.2.2.1
def own_n (C : own_Ctx) : Nat := C.2.2.2.2.2.2.2.2.2.2.2.2
abbrev own_X (C : own_Ctx) (T : State) (locs : List Loc) (cs ss : Nat) : Prop := Stand (own_p C) (own_l C) (own_e C) (own_R C) (own_s C) (own_m C) (own_a C) (own_b C) (own_h C) (own_c C) T locs cs ss
abbrev own_Go (C : own_Ctx) (T : State) (pc : Nat) (Ls : List Slot) (st : List Value) (t : State) : Prop := Steps (own_p C).tables (own_e C) (own_b C) (T.setTop (mkF (own_m C) pc Ls.toArray st)) t
def own_S (C : own_Ctx) (T : State) (M : own_Mem) (cs ss : Nat) : Prop := ∃ locs, own_X C T locs cs ss ∧ Fr (own_n C) locs ∧ own_Rel (own_Z C) (own_n C) T.heap M ∧ cs ≤ (own_R C).cells ∧ ss ≤ (own_R C).slots
def own_K (C : own_Ctx) (bytes : ByteArray) (ml : Nat) (own : String) (ret : Option FieldType) (nm : String) (R : Room) : Prop :=
  (own_p C).tables.exec = Jvm.exec ∧ (own_c C).code = bytes ∧ (own_c C).maxLocals = ml ∧ (own_Z C).Warmed39 (own_s C).vm ∧ (own_s C).vm.findClass own = some (own_m C).cls ∧ (∀ d ∈ tables_1, d.before (own_z C) (own_Z C) = true) ∧ (own_h C).sig.returnType = ret ∧ (own_h C).name = nm ∧ (own_h C).locks = false ∧ own_R C = R
def own_W (C : own_Ctx) (v : Option Value) (M' M : own_Mem) (cs ss pc : Nat) (Ls : List Slot) (st : List Value) : Prop :=
  ∀ T, own_S C T M cs ss → ∃ U o, own_Go C T pc Ls st U ∧ U.status = .running ∧ Ended U (own_b C) o ∧ ∃ v' L, o = .returned v' ∧ (v' = v.map (own_up (own_n C)) ∧ own_Rel (own_Z C) (own_n C) U.heap M' ∧ Fr (own_n C) L) ∧ FrameEnd (own_s C) o U L (own_R C).cells (own_R C).slots
def own_nth : List Slot → Nat → Option Slot
  | [], _ => none
  | x :: _, 0 => some x
  | _ :: r, k + 1 => own_nth r k
theorem own_nth_e : ∀ (L : List Slot) (k : Nat), L.toArray[k]? = own_nth L k
  | [], k => by simp [own_nth]
  | x :: r, 0 => by simp [own_nth]
  | x :: r, k + 1 => by
    have q := own_nth_e r k
    simp only [List.getElem?_toArray] at q ⊢
    simpa [own_nth] using q
def own_One (z : Slot) : Prop := z = .unset ∨ ∃ w : Value, z = .val w ∧ w.category = 1
theorem own_one_u : own_One .unset := Or.inl rfl
theorem own_one_i {x : Int32} : own_One (.val (.int x)) := Or.inr ⟨_, rfl, rfl⟩
theorem own_one_r {x : Nat} : own_One (.val (.ref x)) := Or.inr ⟨_, rfl, rfl⟩
section OwnSteps
variable {C : own_Ctx} {bytes : ByteArray} {ml : Nat} {own : String} {ret : Option FieldType} {nm : String} {R : Room} {v : Option Value} {M' M M1 : own_Mem} {cs ss cs1 ss1 pc pc' pc1 pc2 : Nat} {Ls Ls' : List Slot} {st st' : List Value}
theorem own_K.x (K : own_K C bytes ml own ret nm R) : (own_p C).tables.exec = Jvm.exec := K.1
theorem own_K.kb (K : own_K C bytes ml own ret nm R) : (own_c C).code = bytes := K.2.1
theorem own_K.kl (K : own_K C bytes ml own ret nm R) : (own_c C).maxLocals = ml := K.2.2.1
theorem own_K.kz (K : own_K C bytes ml own ret nm R) : (own_Z C).Warmed39 (own_s C).vm := K.2.2.2.1
theorem own_K.ko (K : own_K C bytes ml own ret nm R) : (own_s C).vm.findClass own = some (own_m C).cls := K.2.2.2.2.1
theorem own_K.w (K : own_K C bytes ml own ret nm R) : ∀ d ∈ tables_1, d.before (own_z C) (own_Z C) = true := K.2.2.2.2.2.1
theorem own_K.kt (K : own_K C bytes ml own ret nm R) : (own_h C).sig.returnType = ret := K.2.2.2.2.2.2.1
theorem own_K.kn (K : own_K C bytes ml own ret nm R) : (own_h C).name = nm := K.2.2.2.2.2.2.2.1
theorem own_K.lk (K : own_K C bytes ml own ret nm R) : (own_h C).locks = false := K.2.2.2.2.2.2.2.2.1
theorem own_K.kr (K : own_K C bytes ml own ret nm R) : own_R C = R := K.2.2.2.2.2.2.2.2.2
theorem own_go (f : ∀ T, own_S C T M cs ss → ∃ T1, own_S C T1 M1 cs1 ss1 ∧ ∀ t, own_Go C T1 pc1 Ls' st' t → own_Go C T pc Ls st t) (k : own_W C v M' M1 cs1 ss1 pc1 Ls' st') : own_W C v M' M cs ss pc Ls st := fun T hT => by
  obtain ⟨T1, h1, h2⟩ := f T hT
  obtain ⟨U, o, h3, h4⟩ := k T1 h1
  exact ⟨U, o, h2 _ h3, h4⟩
theorem own_gp (f : ∀ T locs, own_X C T locs cs ss → ∀ t, own_Go C T pc1 Ls' st' t → own_Go C T pc Ls st t) (k : own_W C v M' M cs ss pc1 Ls' st') : own_W C v M' M cs ss pc Ls st :=
  own_go (fun T hT => ⟨T, hT, by obtain ⟨locs, X, -⟩ := hT; exact f T locs X⟩) k
theorem own_more (K : own_K C bytes ml own ret nm R) (h1 : cs ≤ cs1) (h2 : ss ≤ ss1) (h3 : cs1 ≤ R.cells) (h4 : ss1 ≤ R.slots) (k : own_W C v M' M cs1 ss1 pc Ls st) : own_W C v M' M cs ss pc Ls st :=
  fun T ⟨locs, X, N, r, _, _⟩ => k T ⟨locs, X.more h1 h2, N, r, by rw [K.kr]; exact h3, by rw [K.kr]; exact h4⟩
/-! constants and locals -/
theorem own_iconst (K : own_K C bytes ml own ret nm R) {i : Int} {x : Int32} (hd : decode bytes pc = .ok (.iconst i, 1)) (hx : Int32.ofInt i = x) (hn : pc + 1 = pc') (k : own_W C v M' M cs ss pc' Ls (.int x :: st)) : own_W C v M' M cs ss pc Ls st := by
  subst hn hx; exact own_gp (fun T locs X t q => XS.iconst X.here K.x rfl (hb K.kb hd) q) k
theorem own_bipush (K : own_K C bytes ml own ret nm R) {i : Int} {x : Int32} (hd : decode bytes pc = .ok (.bipush i, 2)) (hx : (Int8.ofInt i).toInt32 = x) (hn : pc + 2 = pc') (k : own_W C v M' M cs ss pc' Ls (.int x :: st)) : own_W C v M' M cs ss pc Ls st := by
  subst hn hx; exact own_gp (fun T locs X t q => XS.bipush X.here K.x rfl (hb K.kb hd) q) k
theorem own_sipush (K : own_K C bytes ml own ret nm R) {i : Int} {x : Int32} (hd : decode bytes pc = .ok (.sipush i, 3)) (hx : (Int16.ofInt i).toInt32 = x) (hn : pc + 3 = pc') (k : own_W C v M' M cs ss pc' Ls (.int x :: st)) : own_W C v M' M cs ss pc Ls st := by
  subst hn hx; exact own_gp (fun T locs X t q => XS.sipush X.here K.x rfl (hb K.kb hd) q) k
theorem own_lconst (K : own_K C bytes ml own ret nm R) {i : Fin 2} {x : Int64} (hd : decode bytes pc = .ok (.lconst i, 1)) (hx : Int64.ofNat i = x) (hn : pc + 1 = pc') (k : own_W C v M' M cs ss pc' Ls (.long x :: st)) : own_W C v M' M cs ss pc Ls st := by
  subst hn hx; exact own_gp (fun T locs X t q => XS.lconst X.here K.x rfl (hb K.kb hd) q) k
theorem own_ldc (K : own_K C bytes ml own ret nm R) {i : Nat} {x : Int32} (hd : decode bytes pc = .ok (.ldc i, 2)) (w : Jvm.Cond.constant own i x ∈ tables_1) (hn : pc + 2 = pc') (k : own_W C v M' M cs ss pc' Ls (.int x :: st)) : own_W C v M' M cs ss pc Ls st := by
  subst hn; exact own_gp (fun T locs X t q => X.ldcInt K.x K.ko (mvT K.kz (K.w _ w)) (g := mkF (own_m C) pc Ls.toArray st) rfl (hb K.kb hd) t q) k
theorem own_ldc2 (K : own_K C bytes ml own ret nm R) {i : Nat} {x : Int64} (hd : decode bytes pc = .ok (.ldc2_w i, 3)) (w : Jvm.Cond.constantLong own i x ∈ tables_1) (hn : pc + 3 = pc') (k : own_W C v M' M cs ss pc' Ls (.long x :: st)) : own_W C v M' M cs ss pc Ls st := by
  subst hn; exact own_gp (fun T locs X t q => X.ldc2Long K.x K.ko (mvT K.kz (K.w _ w)) (g := mkF (own_m C) pc Ls.toArray st) rfl (hb K.kb hd) t q) k
theorem own_iloadN (K : own_K C bytes ml own ret nm R) {i : Fin 4} {x : Int32} (hd : decode bytes pc = .ok (.iload_n i, 1)) (hl : own_nth Ls i.val = some (.val (.int x))) (hn : pc + 1 = pc') (k : own_W C v M' M cs ss pc' Ls (.int x :: st)) : own_W C v M' M cs ss pc Ls st := by
  subst hn; exact own_gp (fun T locs X t q => XS.iloadN X.here K.x rfl (hb K.kb hd) ((own_nth_e _ _).trans hl) q) k
theorem own_iload (K : own_K C bytes ml own ret nm R) {i : Nat} {x : Int32} (hd : decode bytes pc = .ok (.iload i, 2)) (hl : own_nth Ls i = some (.val (.int x))) (hn : pc + 2 = pc') (k : own_W C v M' M cs ss pc' Ls (.int x :: st)) : own_W C v M' M cs ss pc Ls st := by
  subst hn; exact own_gp (fun T locs X t q => XS.iload X.here K.x rfl (hb K.kb hd) ((own_nth_e _ _).trans hl) q) k
theorem own_lloadN (K : own_K C bytes ml own ret nm R) {i : Fin 4} {x : Int64} (hd : decode bytes pc = .ok (.lload_n i, 1)) (hl : own_nth Ls i.val = some (.val (.long x))) (hn : pc + 1 = pc') (k : own_W C v M' M cs ss pc' Ls (.long x :: st)) : own_W C v M' M cs ss pc Ls st := by
  subst hn; exact own_gp (fun T locs X t q => XS.lloadN X.here K.x rfl (hb K.kb hd) ((own_nth_e _ _).trans hl) q) k
theorem own_lload (K : own_K C bytes ml own ret nm R) {i : Nat} {x : Int64} (hd : decode bytes pc = .ok (.lload i, 2)) (hl : own_nth Ls i = some (.val (.long x))) (hn : pc + 2 = pc') (k : own_W C v M' M cs ss pc' Ls (.long x :: st)) : own_W C v M' M cs ss pc Ls st := by
  subst hn; exact own_gp (fun T locs X t q => XS.lload X.here K.x rfl (hb K.kb hd) ((own_nth_e _ _).trans hl) q) k
theorem own_aloadN (K : own_K C bytes ml own ret nm R) {i : Fin 4} {x : Nat} (hd : decode bytes pc = .ok (.aload_n i, 1)) (hl : own_nth Ls i.val = some (.val (.ref x))) (hn : pc + 1 = pc') (k : own_W C v M' M cs ss pc' Ls (.ref x :: st)) : own_W C v M' M cs ss pc Ls st := by
  subst hn; exact own_gp (fun T locs X t q => XS.aloadN X.here K.x rfl (hb K.kb hd) ((own_nth_e _ _).trans hl) rfl q) k
theorem own_aload (K : own_K C bytes ml own ret nm R) {i : Nat} {x : Nat} (hd : decode bytes pc = .ok (.aload i, 2)) (hl : own_nth Ls i = some (.val (.ref x))) (hn : pc + 2 = pc') (k : own_W C v M' M cs ss pc' Ls (.ref x :: st)) : own_W C v M' M cs ss pc Ls st := by
  subst hn; exact own_gp (fun T locs X t q => XS.aload X.here K.x rfl (hb K.kb hd) ((own_nth_e _ _).trans hl) rfl q) k
theorem own_sto1 {o : Slot} {i : Nat} {w : Value} (hl : own_nth Ls i = some o) (ho : own_One o) (hw : w.category = 1) (he : Ls.set i (.val w) = Ls') : storeLocals Ls.toArray i w = some Ls'.toArray := by
  rw [XS.store1 ((own_nth_e _ _).trans hl) ho hw, ← he]
  simp
theorem own_istoreN (K : own_K C bytes ml own ret nm R) {i : Fin 4} {x : Int32} (hd : decode bytes pc = .ok (.istore_n i, 1)) (hl : storeLocals Ls.toArray i.val (.int x) = some Ls'.toArray) (hn : pc + 1 = pc') (k : own_W C v M' M cs ss pc' Ls' st) : own_W C v M' M cs ss pc Ls (.int x :: st) := by
  subst hn; exact own_gp (fun T locs X t q => XS.istoreN X.here K.x rfl (hb K.kb hd) rfl hl q) k
theorem own_istore (K : own_K C bytes ml own ret nm R) {i : Nat} {x : Int32} (hd : decode bytes pc = .ok (.istore i, 2)) (hl : storeLocals Ls.toArray i (.int x) = some Ls'.toArray) (hn : pc + 2 = pc') (k : own_W C v M' M cs ss pc' Ls' st) : own_W C v M' M cs ss pc Ls (.int x :: st) := by
  subst hn; exact own_gp (fun T locs X t q => XS.istore X.here K.x rfl (hb K.kb hd) rfl hl q) k
theorem own_lstoreN (K : own_K C bytes ml own ret nm R) {i : Fin 4} {x : Int64} (hd : decode bytes pc = .ok (.lstore_n i, 1)) (hl : storeLocals Ls.toArray i.val (.long x) = some Ls'.toArray) (hn : pc + 1 = pc') (k : own_W C v M' M cs ss pc' Ls' st) : own_W C v M' M cs ss pc Ls (.long x :: st) := by
  subst hn; exact own_gp (fun T locs X t q => XS.lstoreN X.here K.x rfl (hb K.kb hd) rfl hl q) k
theorem own_lstore (K : own_K C bytes ml own ret nm R) {i : Nat} {x : Int64} (hd : decode bytes pc = .ok (.lstore i, 2)) (hl : storeLocals Ls.toArray i (.long x) = some Ls'.toArray) (hn : pc + 2 = pc') (k : own_W C v M' M cs ss pc' Ls' st) : own_W C v M' M cs ss pc Ls (.long x :: st) := by
  subst hn; exact own_gp (fun T locs X t q => XS.lstore X.here K.x rfl (hb K.kb hd) rfl hl q) k
theorem own_astoreN (K : own_K C bytes ml own ret nm R) {i : Fin 4} {x : Nat} (hd : decode bytes pc = .ok (.astore_n i, 1)) (hl : storeLocals Ls.toArray i.val (.ref x) = some Ls'.toArray) (hn : pc + 1 = pc') (k : own_W C v M' M cs ss pc' Ls' st) : own_W C v M' M cs ss pc Ls (.ref x :: st) := by
  subst hn; exact own_gp (fun T locs X t q => XS.astoreN X.here K.x rfl (hb K.kb hd) rfl rfl hl q) k
theorem own_astore (K : own_K C bytes ml own ret nm R) {i : Nat} {x : Nat} (hd : decode bytes pc = .ok (.astore i, 2)) (hl : storeLocals Ls.toArray i (.ref x) = some Ls'.toArray) (hn : pc + 2 = pc') (k : own_W C v M' M cs ss pc' Ls' st) : own_W C v M' M cs ss pc Ls (.ref x :: st) := by
  subst hn; exact own_gp (fun T locs X t q => XS.astore X.here K.x rfl (hb K.kb hd) rfl rfl hl q) k
theorem own_iinc (K : own_K C bytes ml own ret nm R) {i : Nat} {c : Int} {x y : Int32} (hd : decode bytes pc = .ok (.iinc i c, 3)) (hy : Int32.ofInt c = y) (hl : own_nth Ls i = some (.val (.int x))) (he : Ls.set i (.val (.int (x + y))) = Ls') (hn : pc + 3 = pc') (k : own_W C v M' M cs ss pc' Ls' st) : own_W C v M' M cs ss pc Ls st := by
  subst hn hy; exact own_gp (fun T locs X t q => XS.iinc X.here K.x rfl (hb K.kb hd) ((own_nth_e _ _).trans hl) (own_sto1 hl own_one_i rfl he) q) k
theorem own_letI {β : Type} {e : Int32} {kk : Int32 → Option β} {r : Option β} (h : own_let e kk = r) (k : ∀ x, kk x = r → own_W C v M' M cs ss pc Ls (.int x :: st)) : own_W C v M' M cs ss pc Ls (.int e :: st) := k e h
theorem own_letJ {β : Type} {e : Int64} {kk : Int64 → Option β} {r : Option β} (h : own_let e kk = r) (k : ∀ x, kk x = r → own_W C v M' M cs ss pc Ls (.long x :: st)) : own_W C v M' M cs ss pc Ls (.long e :: st) := k e h
/-! arithmetic -/
theorem own_iadd (K : own_K C bytes ml own ret nm R) {x y : Int32} (hd : decode bytes pc = .ok (.iadd, 1)) (hn : pc + 1 = pc') (k : own_W C v M' M cs ss pc' Ls (.int (x + y) :: st)) : own_W C v M' M cs ss pc Ls (.int y :: .int x :: st) := by
  subst hn; exact own_gp (fun T locs X t q => XS.iadd X.here K.x rfl (hb K.kb hd) rfl q) k
theorem own_isub (K : own_K C bytes ml own ret nm R) {x y : Int32} (hd : decode bytes pc = .ok (.isub, 1)) (hn : pc + 1 = pc') (k : own_W C v M' M cs ss pc' Ls (.int (x - y) :: st)) : own_W C v M' M cs ss pc Ls (.int y :: .int x :: st) := by
  subst hn; exact own_gp (fun T locs X t q => XS.isub X.here K.x rfl (hb K.kb hd) rfl q) k
theorem own_imul (K : own_K C bytes ml own ret nm R) {x y : Int32} (hd : decode bytes pc = .ok (.imul, 1)) (hn : pc + 1 = pc') (k : own_W C v M' M cs ss pc' Ls (.int (x * y) :: st)) : own_W C v M' M cs ss pc Ls (.int y :: .int x :: st) := by
  subst hn; exact own_gp (fun T locs X t q => XS.imul X.here K.x rfl (hb K.kb hd) rfl q) k
theorem own_iand (K : own_K C bytes ml own ret nm R) {x y : Int32} (hd : decode bytes pc = .ok (.iand, 1)) (hn : pc + 1 = pc') (k : own_W C v M' M cs ss pc' Ls (.int (x &&& y) :: st)) : own_W C v M' M cs ss pc Ls (.int y :: .int x :: st) := by
  subst hn; exact own_gp (fun T locs X t q => XS.iand X.here K.x rfl (hb K.kb hd) rfl q) k
theorem own_ior (K : own_K C bytes ml own ret nm R) {x y : Int32} (hd : decode bytes pc = .ok (.ior, 1)) (hn : pc + 1 = pc') (k : own_W C v M' M cs ss pc' Ls (.int (x ||| y) :: st)) : own_W C v M' M cs ss pc Ls (.int y :: .int x :: st) := by
  subst hn; exact own_gp (fun T locs X t q => XS.ior X.here K.x rfl (hb K.kb hd) rfl q) k
theorem own_ishl (K : own_K C bytes ml own ret nm R) {x y : Int32} (hd : decode bytes pc = .ok (.ishl, 1)) (hn : pc + 1 = pc') (k : own_W C v M' M cs ss pc' Ls (.int (x <<< (y &&& 31)) :: st)) : own_W C v M' M cs ss pc Ls (.int y :: .int x :: st) := by
  subst hn; exact own_gp (fun T locs X t q => XS.ishl X.here K.x rfl (hb K.kb hd) rfl q) k
theorem own_ishr (K : own_K C bytes ml own ret nm R) {x y : Int32} (hd : decode bytes pc = .ok (.ishr, 1)) (hn : pc + 1 = pc') (k : own_W C v M' M cs ss pc' Ls (.int (x >>> (y &&& 31)) :: st)) : own_W C v M' M cs ss pc Ls (.int y :: .int x :: st) := by
  subst hn; exact own_gp (fun T locs X t q => XS.ishr X.here K.x rfl (hb K.kb hd) rfl q) k
def own_ushr (x y : Int32) : Int32 := (x.toUInt32 >>> (y &&& 31).toUInt32).toInt32
def own_lushr (x : Int64) (y : Int32) : Int64 := (x.toUInt64 >>> (y &&& 0x3f).toInt64.toUInt64).toInt64
theorem own_iushr (K : own_K C bytes ml own ret nm R) {x y : Int32} (hd : decode bytes pc = .ok (.iushr, 1)) (hn : pc + 1 = pc') (k : own_W C v M' M cs ss pc' Ls (.int (own_ushr x y) :: st)) : own_W C v M' M cs ss pc Ls (.int y :: .int x :: st) := by
  subst hn; exact own_gp (fun T locs X t q => XS.iushr X.here K.x rfl (hb K.kb hd) rfl q) k
theorem own_idiv (K : own_K C bytes ml own ret nm R) {β : Type} {x y : Int32} {A : Option β} {r : β} (hd : decode bytes pc = .ok (.idiv, 1)) (h : own_nz (y = 0) A = some r) (hn : pc + 1 = pc') (k : A = some r → own_W C v M' M cs ss pc' Ls (.int (x / y) :: st)) : own_W C v M' M cs ss pc Ls (.int y :: .int x :: st) := by
  by_cases e : y = 0
  · simp [own_nz, e] at h
  · subst hn; exact own_gp (fun T locs X t q => XS.idiv X.here K.x rfl (hb K.kb hd) rfl e q) (k (by simpa [own_nz, e] using h))
theorem own_irem (K : own_K C bytes ml own ret nm R) {β : Type} {x y : Int32} {A : Option β} {r : β} (hd : decode bytes pc = .ok (.irem, 1)) (h : own_nz (y = 0) A = some r) (hn : pc + 1 = pc') (k : A = some r → own_W C v M' M cs ss pc' Ls (.int (x % y) :: st)) : own_W C v M' M cs ss pc Ls (.int y :: .int x :: st) := by
  by_cases e : y = 0
  · simp [own_nz, e] at h
  · subst hn; exact own_gp (fun T locs X t q => iremM X K.x rfl (hb K.kb hd) rfl e q) (k (by simpa [own_nz, e] using h))
theorem own_ldiv (K : own_K C bytes ml own ret nm R) {β : Type} {x y : Int64} {A : Option β} {r : β} (hd : decode bytes pc = .ok (.ldiv, 1)) (h : own_nz (y = 0) A = some r) (hn : pc + 1 = pc') (k : A = some r → own_W C v M' M cs ss pc' Ls (.long (x / y) :: st)) : own_W C v M' M cs ss pc Ls (.long y :: .long x :: st) := by
  by_cases e : y = 0
  · simp [own_nz, e] at h
  · subst hn; exact own_gp (fun T locs X t q => XS.ldiv X.here K.x rfl (hb K.kb hd) rfl e q) (k (by simpa [own_nz, e] using h))
theorem own_lrem (K : own_K C bytes ml own ret nm R) {β : Type} {x y : Int64} {A : Option β} {r : β} (hd : decode bytes pc = .ok (.lrem, 1)) (h : own_nz (y = 0) A = some r) (hn : pc + 1 = pc') (k : A = some r → own_W C v M' M cs ss pc' Ls (.long (x % y) :: st)) : own_W C v M' M cs ss pc Ls (.long y :: .long x :: st) := by
  by_cases e : y = 0
  · simp [own_nz, e] at h
  · subst hn; exact own_gp (fun T locs X t q => XS.lrem X.here K.x rfl (hb K.kb hd) rfl e (by rw [lrem_mod]; exact q)) (k (by simpa [own_nz, e] using h))
theorem own_ladd (K : own_K C bytes ml own ret nm R) {x y : Int64} (hd : decode bytes pc = .ok (.ladd, 1)) (hn : pc + 1 = pc') (k : own_W C v M' M cs ss pc' Ls (.long (x + y) :: st)) : own_W C v M' M cs ss pc Ls (.long y :: .long x :: st) := by
  subst hn; exact own_gp (fun T locs X t q => XS.ladd X.here K.x rfl (hb K.kb hd) rfl q) k
theorem own_lsub (K : own_K C bytes ml own ret nm R) {x y : Int64} (hd : decode bytes pc = .ok (.lsub, 1)) (hn : pc + 1 = pc') (k : own_W C v M' M cs ss pc' Ls (.long (x - y) :: st)) : own_W C v M' M cs ss pc Ls (.long y :: .long x :: st) := by
  subst hn; exact own_gp (fun T locs X t q => XS.lsub X.here K.x rfl (hb K.kb hd) rfl q) k
theorem own_lmul (K : own_K C bytes ml own ret nm R) {x y : Int64} (hd : decode bytes pc = .ok (.lmul, 1)) (hn : pc + 1 = pc') (k : own_W C v M' M cs ss pc' Ls (.long (x * y) :: st)) : own_W C v M' M cs ss pc Ls (.long y :: .long x :: st) := by
  subst hn; exact own_gp (fun T locs X t q => XS.lmul X.here K.x rfl (hb K.kb hd) rfl q) k
theorem own_land (K : own_K C bytes ml own ret nm R) {x y : Int64} (hd : decode bytes pc = .ok (.land, 1)) (hn : pc + 1 = pc') (k : own_W C v M' M cs ss pc' Ls (.long (x &&& y) :: st)) : own_W C v M' M cs ss pc Ls (.long y :: .long x :: st) := by
  subst hn; exact own_gp (fun T locs X t q => XS.land X.here K.x rfl (hb K.kb hd) rfl q) k
theorem own_lor (K : own_K C bytes ml own ret nm R) {x y : Int64} (hd : decode bytes pc = .ok (.lor, 1)) (hn : pc + 1 = pc') (k : own_W C v M' M cs ss pc' Ls (.long (x ||| y) :: st)) : own_W C v M' M cs ss pc Ls (.long y :: .long x :: st) := by
  subst hn; exact own_gp (fun T locs X t q => XS.lor X.here K.x rfl (hb K.kb hd) rfl q) k
theorem own_lxor (K : own_K C bytes ml own ret nm R) {x y : Int64} (hd : decode bytes pc = .ok (.lxor, 1)) (hn : pc + 1 = pc') (k : own_W C v M' M cs ss pc' Ls (.long (x ^^^ y) :: st)) : own_W C v M' M cs ss pc Ls (.long y :: .long x :: st) := by
  subst hn; exact own_gp (fun T locs X t q => XS.lxor X.here K.x rfl (hb K.kb hd) rfl q) k
theorem own_lshl (K : own_K C bytes ml own ret nm R) {x : Int64} {y : Int32} (hd : decode bytes pc = .ok (.lshl, 1)) (hn : pc + 1 = pc') (k : own_W C v M' M cs ss pc' Ls (.long (x <<< (y &&& 0x3f).toInt64) :: st)) : own_W C v M' M cs ss pc Ls (.int y :: .long x :: st) := by
  subst hn; exact own_gp (fun T locs X t q => XS.lshl X.here K.x rfl (hb K.kb hd) rfl q) k
theorem own_lshr (K : own_K C bytes ml own ret nm R) {x : Int64} {y : Int32} (hd : decode bytes pc = .ok (.lshr, 1)) (hn : pc + 1 = pc') (k : own_W C v M' M cs ss pc' Ls (.long (x >>> (y &&& 0x3f).toInt64) :: st)) : own_W C v M' M cs ss pc Ls (.int y :: .long x :: st) := by
  subst hn; exact own_gp (fun T locs X t q => XS.lshr X.here K.x rfl (hb K.kb hd) rfl q) k
theorem own_lushr' (K : own_K C bytes ml own ret nm R) {x : Int64} {y : Int32} (hd : decode bytes pc = .ok (.lushr, 1)) (hn : pc + 1 = pc') (k : own_W C v M' M cs ss pc' Ls (.long (own_lushr x y) :: st)) : own_W C v M' M cs ss pc Ls (.int y :: .long x :: st) := by
  subst hn; exact own_gp (fun T locs X t q => XS.lushr X.here K.x rfl (hb K.kb hd) rfl q) k
theorem own_i2l (K : own_K C bytes ml own ret nm R) {x : Int32} (hd : decode bytes pc = .ok (.i2l, 1)) (hn : pc + 1 = pc') (k : own_W C v M' M cs ss pc' Ls (.long x.toInt64 :: st)) : own_W C v M' M cs ss pc Ls (.int x :: st) := by
  subst hn; exact own_gp (fun T locs X t q => XS.i2l X.here K.x rfl (hb K.kb hd) rfl q) k
theorem own_l2i (K : own_K C bytes ml own ret nm R) {x : Int64} (hd : decode bytes pc = .ok (.l2i, 1)) (hn : pc + 1 = pc') (k : own_W C v M' M cs ss pc' Ls (.int x.toInt32 :: st)) : own_W C v M' M cs ss pc Ls (.long x :: st) := by
  subst hn; exact own_gp (fun T locs X t q => XS.l2i X.here K.x rfl (hb K.kb hd) rfl q) k
theorem own_i2b (K : own_K C bytes ml own ret nm R) {x : Int32} (hd : decode bytes pc = .ok (.i2b, 1)) (hn : pc + 1 = pc') (k : own_W C v M' M cs ss pc' Ls (.int (nar .byte x) :: st)) : own_W C v M' M cs ss pc Ls (.int x :: st) := by
  subst hn; exact own_gp (fun T locs X t q => XS.i2b X.here K.x rfl (hb K.kb hd) rfl q) k
theorem own_i2c (K : own_K C bytes ml own ret nm R) {x : Int32} (hd : decode bytes pc = .ok (.i2c, 1)) (hn : pc + 1 = pc') (k : own_W C v M' M cs ss pc' Ls (.int (nar .char x) :: st)) : own_W C v M' M cs ss pc Ls (.int x :: st) := by
  subst hn; exact own_gp (fun T locs X t q => XS.i2c X.here K.x rfl (hb K.kb hd) rfl q) k
theorem own_dup (K : own_K C bytes ml own ret nm R) {x : Value} (hd : decode bytes pc = .ok (.dup, 1)) (hc : x.category = 1) (hn : pc + 1 = pc') (k : own_W C v M' M cs ss pc' Ls (x :: x :: st)) : own_W C v M' M cs ss pc Ls (x :: st) := by
  subst hn; exact own_gp (fun T locs X t q => XS.dup X.here K.x rfl (hb K.kb hd) rfl hc q) k
theorem own_dupX1 (K : own_K C bytes ml own ret nm R) {x y : Value} (hd : decode bytes pc = .ok (.dup_x1, 1)) (hc : x.category = 1) (hc2 : y.category = 1) (hn : pc + 1 = pc') (k : own_W C v M' M cs ss pc' Ls (x :: y :: x :: st)) : own_W C v M' M cs ss pc Ls (x :: y :: st) := by
  subst hn; exact own_gp (fun T locs X t q => XS.dupX1 X.here K.x rfl (hb K.kb hd) rfl hc hc2 q) k
theorem own_dup2 (K : own_K C bytes ml own ret nm R) {x y : Value} (hd : decode bytes pc = .ok (.dup2, 1)) (hc : x.category = 1) (hc2 : y.category = 1) (hn : pc + 1 = pc') (k : own_W C v M' M cs ss pc' Ls (x :: y :: x :: y :: st)) : own_W C v M' M cs ss pc Ls (x :: y :: st) := by
  subst hn; exact own_gp (fun T locs X t q => Jvm.Free.XT.dup2 X.here K.x rfl (hb K.kb hd) rfl hc hc2 q) k
theorem own_pop (K : own_K C bytes ml own ret nm R) {x : Value} (hd : decode bytes pc = .ok (.pop, 1)) (hc : x.category = 1) (hn : pc + 1 = pc') (k : own_W C v M' M cs ss pc' Ls st) : own_W C v M' M cs ss pc Ls (x :: st) := by
  subst hn; exact own_gp (fun T locs X t q => XS.pop X.here K.x rfl (hb K.kb hd) rfl hc q) k
/-! jumps -/
theorem own_goto (K : own_K C bytes ml own ret nm R) {o : Int} (hd : decode bytes pc = .ok (.goto o, 3)) (hp : (pc : Int) + o = (pc' : Int)) (k : own_W C v M' M cs ss pc' Ls st) : own_W C v M' M cs ss pc Ls st :=
  own_gp (fun T locs X t q => XS.goto X.here K.x rfl (pc0 := pc) (pc' := pc') rfl (hb K.kb hd) (by omega) (by omega) q) k
theorem own_icmp (K : own_K C bytes ml own ret nm R) {cd : ClassFile.Cond} {o : Int} {x y : Int32} (hd : decode bytes pc = .ok (.if_icmp cd o, 3)) (hp : (pc : Int) + o = (pc1 : Int)) (hn : pc + 3 = pc2)
    (k1 : if_icmp.holds cd x y = true → own_W C v M' M cs ss pc1 Ls st) (k2 : if_icmp.holds cd x y = false → own_W C v M' M cs ss pc2 Ls st) : own_W C v M' M cs ss pc Ls (.int y :: .int x :: st) := by
  cases e : if_icmp.holds cd x y
  · subst hn; exact own_gp (fun T locs X t q => XS.icmpNo X.here K.x rfl (hb K.kb hd) rfl e q) (k2 e)
  · exact own_gp (fun T locs X t q => XS.icmpYes X.here K.x rfl (pc0 := pc) (pc' := pc1) rfl (hb K.kb hd) rfl e (by omega) (by omega) q) (k1 e)
theorem own_if (K : own_K C bytes ml own ret nm R) {cd : ClassFile.Cond} {o : Int} {x : Int32} (hd : decode bytes pc = .ok (.ifCond cd o, 3)) (hp : (pc : Int) + o = (pc1 : Int)) (hn : pc + 3 = pc2)
    (k1 : if_icmp.holds cd x 0 = true → own_W C v M' M cs ss pc1 Ls st) (k2 : if_icmp.holds cd x 0 = false → own_W C v M' M cs ss pc2 Ls st) : own_W C v M' M cs ss pc Ls (.int x :: st) := by
  cases e : if_icmp.holds cd x 0
  · subst hn; exact own_gp (fun T locs X t q => XS.ifNo X.here K.x rfl (hb K.kb hd) rfl ((if0 _ _).trans e) q) (k2 e)
  · exact own_gp (fun T locs X t q => XS.ifYes X.here K.x rfl (pc0 := pc) (pc' := pc1) rfl (hb K.kb hd) rfl ((if0 _ _).trans e) (by omega) (by omega) q) (k1 e)
theorem own_ilt (K : own_K C bytes ml own ret nm R) {β : Type} {A B r : Option β} {o : Int} {x y : Int32} (hd : decode bytes pc = .ok (.if_icmp .lt o, 3)) (h : (if x < y then A else B) = r) (hp : (pc : Int) + o = (pc1 : Int)) (hn : pc + 3 = pc2) (k1 : A = r → own_W C v M' M cs ss pc1 Ls st) (k2 : B = r → own_W C v M' M cs ss pc2 Ls st) : own_W C v M' M cs ss pc Ls (.int y :: .int x :: st) := by
  by_cases e : x < y
  · rw [if_pos e] at h; exact own_icmp K hd hp hn (fun _ => k1 h) (fun q => by rw [(tlt e).1] at q; cases q)
  · rw [if_neg e] at h; exact own_icmp K hd hp hn (fun q => by rw [(flt e).1] at q; cases q) (fun _ => k2 h)
theorem own_ige (K : own_K C bytes ml own ret nm R) {β : Type} {A B r : Option β} {o : Int} {x y : Int32} (hd : decode bytes pc = .ok (.if_icmp .ge o, 3)) (h : (if x < y then A else B) = r) (hp : (pc : Int) + o = (pc1 : Int)) (hn : pc + 3 = pc2) (k1 : B = r → own_W C v M' M cs ss pc1 Ls st) (k2 : A = r → own_W C v M' M cs ss pc2 Ls st) : own_W C v M' M cs ss pc Ls (.int y :: .int x :: st) := by
  by_cases e : x < y
  · rw [if_pos e] at h; exact own_icmp K hd hp hn (fun q => by rw [(tlt e).2.1] at q; cases q) (fun _ => k2 h)
  · rw [if_neg e] at h; exact own_icmp K hd hp hn (fun _ => k1 h) (fun q => by rw [(flt e).2.1] at q; cases q)
theorem own_igt (K : own_K C bytes ml own ret nm R) {β : Type} {A B r : Option β} {o : Int} {x y : Int32} (hd : decode bytes pc = .ok (.if_icmp .gt o, 3)) (h : (if y < x then A else B) = r) (hp : (pc : Int) + o = (pc1 : Int)) (hn : pc + 3 = pc2) (k1 : A = r → own_W C v M' M cs ss pc1 Ls st) (k2 : B = r → own_W C v M' M cs ss pc2 Ls st) : own_W C v M' M cs ss pc Ls (.int y :: .int x :: st) := by
  by_cases e : y < x
  · rw [if_pos e] at h; exact own_icmp K hd hp hn (fun _ => k1 h) (fun q => by rw [(tlt e).2.2.1] at q; cases q)
  · rw [if_neg e] at h; exact own_icmp K hd hp hn (fun q => by rw [(flt e).2.2.1] at q; cases q) (fun _ => k2 h)
theorem own_ile (K : own_K C bytes ml own ret nm R) {β : Type} {A B r : Option β} {o : Int} {x y : Int32} (hd : decode bytes pc = .ok (.if_icmp .le o, 3)) (h : (if y < x then A else B) = r) (hp : (pc : Int) + o = (pc1 : Int)) (hn : pc + 3 = pc2) (k1 : B = r → own_W C v M' M cs ss pc1 Ls st) (k2 : A = r → own_W C v M' M cs ss pc2 Ls st) : own_W C v M' M cs ss pc Ls (.int y :: .int x :: st) := by
  by_cases e : y < x
  · rw [if_pos e] at h; exact own_icmp K hd hp hn (fun q => by rw [(tlt e).2.2.2] at q; cases q) (fun _ => k2 h)
  · rw [if_neg e] at h; exact own_icmp K hd hp hn (fun _ => k1 h) (fun q => by rw [(flt e).2.2.2] at q; cases q)
theorem own_ieq (K : own_K C bytes ml own ret nm R) {β : Type} {A B r : Option β} {o : Int} {x y : Int32} (hd : decode bytes pc = .ok (.if_icmp .eq o, 3)) (h : (if x = y then A else B) = r) (hp : (pc : Int) + o = (pc1 : Int)) (hn : pc + 3 = pc2) (k1 : A = r → own_W C v M' M cs ss pc1 Ls st) (k2 : B = r → own_W C v M' M cs ss pc2 Ls st) : own_W C v M' M cs ss pc Ls (.int y :: .int x :: st) := by
  by_cases e : x = y
  · rw [if_pos e] at h; exact own_icmp K hd hp hn (fun _ => k1 h) (fun q => by rw [(teq e).1] at q; cases q)
  · rw [if_neg e] at h; exact own_icmp K hd hp hn (fun q => by rw [(feq e).1] at q; cases q) (fun _ => k2 h)
theorem own_ine (K : own_K C bytes ml own ret nm R) {β : Type} {A B r : Option β} {o : Int} {x y : Int32} (hd : decode bytes pc = .ok (.if_icmp .ne o, 3)) (h : (if x = y then A else B) = r) (hp : (pc : Int) + o = (pc1 : Int)) (hn : pc + 3 = pc2) (k1 : B = r → own_W C v M' M cs ss pc1 Ls st) (k2 : A = r → own_W C v M' M cs ss pc2 Ls st) : own_W C v M' M cs ss pc Ls (.int y :: .int x :: st) := by
  by_cases e : x = y
  · rw [if_pos e] at h; exact own_icmp K hd hp hn (fun q => by rw [(teq e).2] at q; cases q) (fun _ => k2 h)
  · rw [if_neg e] at h; exact own_icmp K hd hp hn (fun _ => k1 h) (fun q => by rw [(feq e).2] at q; cases q)
theorem own_zlt (K : own_K C bytes ml own ret nm R) {β : Type} {A B r : Option β} {o : Int} {x : Int32} (hd : decode bytes pc = .ok (.ifCond .lt o, 3)) (h : (if x < 0 then A else B) = r) (hp : (pc : Int) + o = (pc1 : Int)) (hn : pc + 3 = pc2) (k1 : A = r → own_W C v M' M cs ss pc1 Ls st) (k2 : B = r → own_W C v M' M cs ss pc2 Ls st) : own_W C v M' M cs ss pc Ls (.int x :: st) := by
  by_cases e : x < 0
  · rw [if_pos e] at h; exact own_if K hd hp hn (fun _ => k1 h) (fun q => by rw [(tlt e).1] at q; cases q)
  · rw [if_neg e] at h; exact own_if K hd hp hn (fun q => by rw [(flt e).1] at q; cases q) (fun _ => k2 h)
theorem own_zge (K : own_K C bytes ml own ret nm R) {β : Type} {A B r : Option β} {o : Int} {x : Int32} (hd : decode bytes pc = .ok (.ifCond .ge o, 3)) (h : (if x < 0 then A else B) = r) (hp : (pc : Int) + o = (pc1 : Int)) (hn : pc + 3 = pc2) (k1 : B = r → own_W C v M' M cs ss pc1 Ls st) (k2 : A = r → own_W C v M' M cs ss pc2 Ls st) : own_W C v M' M cs ss pc Ls (.int x :: st) := by
  by_cases e : x < 0
  · rw [if_pos e] at h; exact own_if K hd hp hn (fun q => by rw [(tlt e).2.1] at q; cases q) (fun _ => k2 h)
  · rw [if_neg e] at h; exact own_if K hd hp hn (fun _ => k1 h) (fun q => by rw [(flt e).2.1] at q; cases q)
theorem own_zgt (K : own_K C bytes ml own ret nm R) {β : Type} {A B r : Option β} {o : Int} {x : Int32} (hd : decode bytes pc = .ok (.ifCond .gt o, 3)) (h : (if 0 < x then A else B) = r) (hp : (pc : Int) + o = (pc1 : Int)) (hn : pc + 3 = pc2) (k1 : A = r → own_W C v M' M cs ss pc1 Ls st) (k2 : B = r → own_W C v M' M cs ss pc2 Ls st) : own_W C v M' M cs ss pc Ls (.int x :: st) := by
  by_cases e : 0 < x
  · rw [if_pos e] at h; exact own_if K hd hp hn (fun _ => k1 h) (fun q => by rw [(tlt e).2.2.1] at q; cases q)
  · rw [if_neg e] at h; exact own_if K hd hp hn (fun q => by rw [(flt e).2.2.1] at q; cases q) (fun _ => k2 h)
theorem own_zle (K : own_K C bytes ml own ret nm R) {β : Type} {A B r : Option β} {o : Int} {x : Int32} (hd : decode bytes pc = .ok (.ifCond .le o, 3)) (h : (if 0 < x then A else B) = r) (hp : (pc : Int) + o = (pc1 : Int)) (hn : pc + 3 = pc2) (k1 : B = r → own_W C v M' M cs ss pc1 Ls st) (k2 : A = r → own_W C v M' M cs ss pc2 Ls st) : own_W C v M' M cs ss pc Ls (.int x :: st) := by
  by_cases e : 0 < x
  · rw [if_pos e] at h; exact own_if K hd hp hn (fun q => by rw [(tlt e).2.2.2] at q; cases q) (fun _ => k2 h)
  · rw [if_neg e] at h; exact own_if K hd hp hn (fun _ => k1 h) (fun q => by rw [(flt e).2.2.2] at q; cases q)
theorem own_zeq (K : own_K C bytes ml own ret nm R) {β : Type} {A B r : Option β} {o : Int} {x : Int32} (hd : decode bytes pc = .ok (.ifCond .eq o, 3)) (h : (if x = 0 then A else B) = r) (hp : (pc : Int) + o = (pc1 : Int)) (hn : pc + 3 = pc2) (k1 : A = r → own_W C v M' M cs ss pc1 Ls st) (k2 : B = r → own_W C v M' M cs ss pc2 Ls st) : own_W C v M' M cs ss pc Ls (.int x :: st) := by
  by_cases e : x = 0
  · rw [if_pos e] at h; exact own_if K hd hp hn (fun _ => k1 h) (fun q => by rw [(teq e).1] at q; cases q)
  · rw [if_neg e] at h; exact own_if K hd hp hn (fun q => by rw [(feq e).1] at q; cases q) (fun _ => k2 h)
theorem own_zne (K : own_K C bytes ml own ret nm R) {β : Type} {A B r : Option β} {o : Int} {x : Int32} (hd : decode bytes pc = .ok (.ifCond .ne o, 3)) (h : (if x = 0 then A else B) = r) (hp : (pc : Int) + o = (pc1 : Int)) (hn : pc + 3 = pc2) (k1 : B = r → own_W C v M' M cs ss pc1 Ls st) (k2 : A = r → own_W C v M' M cs ss pc2 Ls st) : own_W C v M' M cs ss pc Ls (.int x :: st) := by
  by_cases e : x = 0
  · rw [if_pos e] at h; exact own_if K hd hp hn (fun q => by rw [(teq e).2] at q; cases q) (fun _ => k2 h)
  · rw [if_neg e] at h; exact own_if K hd hp hn (fun _ => k1 h) (fun q => by rw [(feq e).2] at q; cases q)
theorem own_lcv (K : own_K C bytes ml own ret nm R) {x y : Int64} (hd : decode bytes pc = .ok (.lcmp, 1)) (hn : pc + 1 = pc') (k : own_W C v M' M cs ss pc' Ls (.int (lcmpV x y) :: st)) : own_W C v M' M cs ss pc Ls (.long y :: .long x :: st) := by
  subst hn; exact own_gp (fun T locs X t q => XS.lcmp X.here K.x rfl (hb K.kb hd) rfl (by have e := lcW x y; unfold lcmpW at e; rw [e]; exact q)) k
theorem own_cge (K : own_K C bytes ml own ret nm R) {β : Type} {A B r : Option β} {o : Int} {x y : Int64} (hd : decode bytes pc = .ok (.lcmp, 1)) (hd2 : decode bytes pc' = .ok (.ifCond .ge o, 3)) (h : (if x < y then A else B) = r) (hm : pc + 1 = pc') (hp : (pc' : Int) + o = (pc1 : Int)) (hn : pc' + 3 = pc2) (k1 : B = r → own_W C v M' M cs ss pc1 Ls st) (k2 : A = r → own_W C v M' M cs ss pc2 Ls st) : own_W C v M' M cs ss pc Ls (.long y :: .long x :: st) :=
  own_lcv K hd hm (own_zge K hd2 (by simpa only [lc_lt] using h) hp hn k1 k2)
theorem own_clt (K : own_K C bytes ml own ret nm R) {β : Type} {A B r : Option β} {o : Int} {x y : Int64} (hd : decode bytes pc = .ok (.lcmp, 1)) (hd2 : decode bytes pc' = .ok (.ifCond .lt o, 3)) (h : (if x < y then A else B) = r) (hm : pc + 1 = pc') (hp : (pc' : Int) + o = (pc1 : Int)) (hn : pc' + 3 = pc2) (k1 : A = r → own_W C v M' M cs ss pc1 Ls st) (k2 : B = r → own_W C v M' M cs ss pc2 Ls st) : own_W C v M' M cs ss pc Ls (.long y :: .long x :: st) :=
  own_lcv K hd hm (own_zlt K hd2 (by simpa only [lc_lt] using h) hp hn k1 k2)
theorem own_cgt (K : own_K C bytes ml own ret nm R) {β : Type} {A B r : Option β} {o : Int} {x y : Int64} (hd : decode bytes pc = .ok (.lcmp, 1)) (hd2 : decode bytes pc' = .ok (.ifCond .gt o, 3)) (h : (if y < x then A else B) = r) (hm : pc + 1 = pc') (hp : (pc' : Int) + o = (pc1 : Int)) (hn : pc' + 3 = pc2) (k1 : A = r → own_W C v M' M cs ss pc1 Ls st) (k2 : B = r → own_W C v M' M cs ss pc2 Ls st) : own_W C v M' M cs ss pc Ls (.long y :: .long x :: st) :=
  own_lcv K hd hm (own_zgt K hd2 (by simpa only [lc_gt] using h) hp hn k1 k2)
theorem own_cle (K : own_K C bytes ml own ret nm R) {β : Type} {A B r : Option β} {o : Int} {x y : Int64} (hd : decode bytes pc = .ok (.lcmp, 1)) (hd2 : decode bytes pc' = .ok (.ifCond .le o, 3)) (h : (if y < x then A else B) = r) (hm : pc + 1 = pc') (hp : (pc' : Int) + o = (pc1 : Int)) (hn : pc' + 3 = pc2) (k1 : B = r → own_W C v M' M cs ss pc1 Ls st) (k2 : A = r → own_W C v M' M cs ss pc2 Ls st) : own_W C v M' M cs ss pc Ls (.long y :: .long x :: st) :=
  own_lcv K hd hm (own_zle K hd2 (by simpa only [lc_gt] using h) hp hn k1 k2)
theorem own_ceq (K : own_K C bytes ml own ret nm R) {β : Type} {A B r : Option β} {o : Int} {x y : Int64} (hd : decode bytes pc = .ok (.lcmp, 1)) (hd2 : decode bytes pc' = .ok (.ifCond .eq o, 3)) (h : (if x = y then A else B) = r) (hm : pc + 1 = pc') (hp : (pc' : Int) + o = (pc1 : Int)) (hn : pc' + 3 = pc2) (k1 : A = r → own_W C v M' M cs ss pc1 Ls st) (k2 : B = r → own_W C v M' M cs ss pc2 Ls st) : own_W C v M' M cs ss pc Ls (.long y :: .long x :: st) :=
  own_lcv K hd hm (own_zeq K hd2 (by simpa only [lc_eq] using h) hp hn k1 k2)
theorem own_cne (K : own_K C bytes ml own ret nm R) {β : Type} {A B r : Option β} {o : Int} {x y : Int64} (hd : decode bytes pc = .ok (.lcmp, 1)) (hd2 : decode bytes pc' = .ok (.ifCond .ne o, 3)) (h : (if x = y then A else B) = r) (hm : pc + 1 = pc') (hp : (pc' : Int) + o = (pc1 : Int)) (hn : pc' + 3 = pc2) (k1 : B = r → own_W C v M' M cs ss pc1 Ls st) (k2 : A = r → own_W C v M' M cs ss pc2 Ls st) : own_W C v M' M cs ss pc Ls (.long y :: .long x :: st) :=
  own_lcv K hd hm (own_zne K hd2 (by simpa only [lc_eq] using h) hp hn k1 k2)
end OwnSteps
section OwnHeap
variable {C : own_Ctx} {bytes : ByteArray} {ml : Nat} {own : String} {ret : Option FieldType} {nm : String} {R : Room} {v : Option Value} {M' M M1 : own_Mem} {cs ss cs1 ss1 pc pc' pc1 pc2 : Nat} {Ls Ls' : List Slot} {st st' : List Value}
/-! fields -/
theorem own_gf (K : own_K C bytes ml own ret nm R) {idx i t a : Nat} {C' n d : String} {fs : List (String × String)} {vs : List Value} {w0 : Value} (hd : decode bytes pc = .ok (.getfield idx, 3)) (w : Jvm.Cond.fieldLink own idx C' n d ∈ tables_1) (hc : own_cl t = some (C', fs)) (hi : fs[i]? = some (n, d)) (hm : M[a]? = some (t, vs)) (hv : vs[i]? = some w0) (hn : pc + 3 = pc')
    (k : own_W C v M' M cs ss pc' Ls (own_up (own_n C) w0 :: st)) : own_W C v M' M cs ss pc Ls (.ref (own_n C + a) :: st) := by
  subst hn
  refine own_go (fun T hT => ?_) k
  obtain ⟨locs, X, N, RR, b⟩ := hT
  have F := (own_obj RR hc hm).2 i n d _ hi hv
  obtain ⟨T1, X1, e1, st1⟩ := getF X K.x K.kz K.ko (host := "") (Or.inl (K.w _ w)) Via.refl rfl F (g := mkF (own_m C) pc Ls.toArray (.ref (own_n C + a) :: st)) rfl rfl (hb K.kb hd)
  exact ⟨T1, ⟨locs, X1, N, by rw [e1]; exact RR, b⟩, st1⟩
theorem own_gfI (K : own_K C bytes ml own ret nm R) {β : Type} {idx i t a : Nat} {C' n d : String} {fs : List (String × String)} {kk : Int32 → Option β} {r : β} (hd : decode bytes pc = .ok (.getfield idx, 3)) (w : Jvm.Cond.fieldLink own idx C' n d ∈ tables_1) (hc : own_cl t = some (C', fs)) (hi : fs[i]? = some (n, d)) (h : (own_getI t i M a).bind kk = some r) (hn : pc + 3 = pc')
    (k : ∀ x, kk x = some r → own_W C v M' M cs ss pc' Ls (.int x :: st)) : own_W C v M' M cs ss pc Ls (.ref (own_n C + a) :: st) := by
  obtain ⟨x, hx, hk⟩ := own_bind h
  obtain ⟨vs, hm, hv⟩ := own_getI_e hx
  exact own_gf K hd w hc hi hm hv hn (k x hk)
theorem own_gfJ (K : own_K C bytes ml own ret nm R) {β : Type} {idx i t a : Nat} {C' n d : String} {fs : List (String × String)} {kk : Int64 → Option β} {r : β} (hd : decode bytes pc = .ok (.getfield idx, 3)) (w : Jvm.Cond.fieldLink own idx C' n d ∈ tables_1) (hc : own_cl t = some (C', fs)) (hi : fs[i]? = some (n, d)) (h : (own_getJ t i M a).bind kk = some r) (hn : pc + 3 = pc')
    (k : ∀ x, kk x = some r → own_W C v M' M cs ss pc' Ls (.long x :: st)) : own_W C v M' M cs ss pc Ls (.ref (own_n C + a) :: st) := by
  obtain ⟨x, hx, hk⟩ := own_bind h
  obtain ⟨vs, hm, hv⟩ := own_getJ_e hx
  exact own_gf K hd w hc hi hm hv hn (k x hk)
theorem own_gfR (K : own_K C bytes ml own ret nm R) {β : Type} {idx i t a : Nat} {C' n d : String} {fs : List (String × String)} {kk : Nat → Option β} {r : β} (hd : decode bytes pc = .ok (.getfield idx, 3)) (w : Jvm.Cond.fieldLink own idx C' n d ∈ tables_1) (hc : own_cl t = some (C', fs)) (hi : fs[i]? = some (n, d)) (h : (own_getR t i M a).bind kk = some r) (hn : pc + 3 = pc')
    (k : ∀ x, kk x = some r → own_W C v M' M cs ss pc' Ls (.ref (own_n C + x) :: st)) : own_W C v M' M cs ss pc Ls (.ref (own_n C + a) :: st) := by
  obtain ⟨x, hx, hk⟩ := own_bind h
  obtain ⟨vs, hm, hv⟩ := own_getR_e hx
  exact own_gf K hd w hc hi hm hv hn (k x hk)
theorem own_pf (K : own_K C bytes ml own ret nm R) {β : Type} {idx i t a n1 : Nat} {C' n d : String} {fs : List (String × String)} {ty : FieldType} {w0 wr : Value} {kk : own_Mem → Option β} {r : β} (hd : decode bytes pc = .ok (.putfield idx, 3)) (w : Jvm.Cond.fieldLink own idx C' n d ∈ tables_1) (hc : own_cl t = some (C', fs)) (hi : fs[i]? = some (n, d))
    (hl : Jvm.Cond.lays C' C' n d ∈ tables_1 ∨ (Jvm.Cond.laysFinal C' C' n d ∈ tables_1 ∧ own = C' ∧ nm = "<init>")) (wi : Jvm.Cond.instantiable C' n1 ∈ tables_1) (hty : parseFieldDescriptor d = some ty) (hnr : narrow ty wr = own_up (own_n C) w0) (hft : fits ty (own_up (own_n C) w0) = true)
    (h : (own_put t i M a w0).bind kk = some r) (hn : pc + 3 = pc') (k : ∀ M1, kk M1 = some r → own_W C v M' M1 cs ss pc' Ls st) : own_W C v M' M cs ss pc Ls (wr :: .ref (own_n C + a) :: st) := by
  obtain ⟨M1, hx, hk⟩ := own_bind h
  obtain ⟨vs, hm, hv, rfl⟩ := own_put_e hx
  subst hn
  refine own_go (fun T hT => ?_) (k _ hk)
  obtain ⟨locs, X, N, RR, b⟩ := hT
  obtain ⟨E, F⟩ := own_obj RR hc hm
  have F0 := F i n d _ hi (List.getElem?_eq_getElem hv)
  have hL : (Jvm.Cond.lays C' C' n d).before (own_z C) (own_Z C) = true ∨ ((Jvm.Cond.laysFinal C' C' n d).before (own_z C) (own_Z C) = true ∧ own = C' ∧ (own_h C).name = "<init>") := by
    rcases hl with q | ⟨q1, q2, q3⟩
    · exact Or.inl (K.w _ q)
    · exact Or.inr ⟨K.w _ q1, q2, K.kn.trans q3⟩
  obtain ⟨T1, h1, X1, e1, W1, st1⟩ := putFN X K.x K.kz K.ko (K.w _ w) Via.refl rfl F0 E hL (K.w _ wi) hty hnr hft (g := mkF (own_m C) pc Ls.toArray (wr :: .ref (own_n C + a) :: st)) rfl rfl (hb K.kb hd)
  exact ⟨T1, ⟨_, X1, Fr.snoc X1 N (Nat.le_add_right _ _), by rw [e1]; exact own_wrF RR K.w hc hm hi hv W1, b⟩, st1⟩
/-! arrays -/
theorem own_slot {c : Cell} {vs : List Value} {j : Nat} {u : Value} (hs : c.slots.toList = vs) (hv : vs[j]? = some u) : c.slots[j]? = some u := by
  rw [← hs] at hv; simpa using hv
theorem own_size {c : Cell} {vs : List Value} (hs : c.slots.toList = vs) : c.slots.size = vs.length := by rw [← hs]; simp
theorem own_in {c : Cell} {vs : List Value} {j : Int32} {u : Value} (hs : c.slots.toList = vs) (hj : ¬ j < 0) (hv : vs[j.toNatClampNeg]? = some u) : ¬ (j < 0 ∨ c.slots.size ≤ j.toNatClampNeg) := by
  have := (List.getElem?_eq_some_iff.mp hv).1
  rw [own_size hs]
  rintro (q | q)
  · exact hj q
  · omega
theorem own_iaload (K : own_K C bytes ml own ret nm R) {β : Type} {a : Nat} {j : Int32} {kk : Int32 → Option β} {r : β} (hd : decode bytes pc = .ok (.iaload, 1)) (h : (own_ldI 100 M a j).bind kk = some r) (hn : pc + 1 = pc') (k : ∀ x, kk x = some r → own_W C v M' M cs ss pc' Ls (.int x :: st)) : own_W C v M' M cs ss pc Ls (.int j :: .ref (own_n C + a) :: st) := by
  obtain ⟨x, hx, hk⟩ := own_bind h
  obtain ⟨vs, hm, hj, hv⟩ := own_ldI_e hx
  subst hn
  refine own_go (fun T hT => ⟨T, hT, ?_⟩) (k x hk)
  obtain ⟨locs, X, N, RR, b⟩ := hT
  obtain ⟨c, A, hs, -⟩ := own_arr RR rfl hm
  exact fun t q => X.iaload K.x A.1 (State.isArrayOf_alike K.kz.alike A.2.1) A.2.2 (own_in hs hj hv) (own_slot hs hv) (g := mkF (own_m C) pc Ls.toArray (.int j :: .ref (own_n C + a) :: st)) rfl rfl (hb K.kb hd) t q
theorem own_laload (K : own_K C bytes ml own ret nm R) {β : Type} {a : Nat} {j : Int32} {kk : Int64 → Option β} {r : β} (hd : decode bytes pc = .ok (.laload, 1)) (h : (own_ldJ 101 M a j).bind kk = some r) (hn : pc + 1 = pc') (k : ∀ x, kk x = some r → own_W C v M' M cs ss pc' Ls (.long x :: st)) : own_W C v M' M cs ss pc Ls (.int j :: .ref (own_n C + a) :: st) := by
  obtain ⟨x, hx, hk⟩ := own_bind h
  obtain ⟨vs, hm, hj, hv⟩ := own_ldJ_e hx
  subst hn
  refine own_go (fun T hT => ⟨T, hT, ?_⟩) (k x hk)
  obtain ⟨locs, X, N, RR, b⟩ := hT
  obtain ⟨c, A, hs, -⟩ := own_arr RR rfl hm
  exact fun t q => X.laload K.x A.1 (State.isArrayOf_alike K.kz.alike A.2.1) A.2.2 (own_in hs hj hv) (own_slot hs hv) (g := mkF (own_m C) pc Ls.toArray (.int j :: .ref (own_n C + a) :: st)) rfl rfl (hb K.kb hd) t q
theorem own_baloadB (K : own_K C bytes ml own ret nm R) {β : Type} {a : Nat} {j : Int32} {kk : Int32 → Option β} {r : β} (hd : decode bytes pc = .ok (.baload, 1)) (h : (own_ldI 102 M a j).bind kk = some r) (hn : pc + 1 = pc') (k : ∀ x, kk x = some r → own_W C v M' M cs ss pc' Ls (.int x :: st)) : own_W C v M' M cs ss pc Ls (.int j :: .ref (own_n C + a) :: st) := by
  obtain ⟨x, hx, hk⟩ := own_bind h
  obtain ⟨vs, hm, hj, hv⟩ := own_ldI_e hx
  subst hn
  refine own_go (fun T hT => ⟨T, hT, ?_⟩) (k x hk)
  obtain ⟨locs, X, N, RR, b⟩ := hT
  obtain ⟨c, A, hs, -⟩ := own_arr RR rfl hm
  exact fun t q => X.baloadBytes K.x A.1 (State.isArrayOf_alike K.kz.alike A.2.1) A.2.2 (own_in hs hj hv) (own_slot hs hv) (g := mkF (own_m C) pc Ls.toArray (.int j :: .ref (own_n C + a) :: st)) rfl rfl (hb K.kb hd) t q
theorem own_baloadZ (K : own_K C bytes ml own ret nm R) {β : Type} {a : Nat} {j : Int32} {kk : Int32 → Option β} {r : β} (hd : decode bytes pc = .ok (.baload, 1)) (h : (own_ldI 103 M a j).bind kk = some r) (hn : pc + 1 = pc') (k : ∀ x, kk x = some r → own_W C v M' M cs ss pc' Ls (.int x :: st)) : own_W C v M' M cs ss pc Ls (.int j :: .ref (own_n C + a) :: st) := by
  obtain ⟨x, hx, hk⟩ := own_bind h
  obtain ⟨vs, hm, hj, hv⟩ := own_ldI_e hx
  subst hn
  refine own_go (fun T hT => ⟨T, hT, ?_⟩) (k x hk)
  obtain ⟨locs, X, N, RR, b⟩ := hT
  obtain ⟨c, A, hs, -⟩ := own_arr RR rfl hm
  exact fun t q => X.baloadBooleans K.x A.1 (State.isArrayOf_alike K.kz.alike A.2.1) A.2.2 (own_in hs hj hv) (own_slot hs hv) (g := mkF (own_m C) pc Ls.toArray (.int j :: .ref (own_n C + a) :: st)) rfl rfl (hb K.kb hd) t q
theorem own_alen (K : own_K C bytes ml own ret nm R) {β : Type} {a t : Nat} {ty : FieldType} {kk : Int32 → Option β} {r : β} (hd : decode bytes pc = .ok (.arraylength, 1)) (ht : own_ty t = some ty) (h : (own_len t M a).bind kk = some r) (hn : pc + 1 = pc') (k : ∀ x, kk x = some r → own_W C v M' M cs ss pc' Ls (.int x :: st)) : own_W C v M' M cs ss pc Ls (.ref (own_n C + a) :: st) := by
  obtain ⟨x, hx, hk⟩ := own_bind h
  obtain ⟨vs, hm, rfl⟩ := own_len_e hx
  subst hn
  refine own_go (fun T hT => ⟨T, hT, ?_⟩) (k _ hk)
  obtain ⟨locs, X, N, RR, b⟩ := hT
  obtain ⟨c, A, hs, -⟩ := own_arr RR ht hm
  refine fun t q => X.arraylength K.x A.1 (State.isArrayOf_alike K.kz.alike A.2.1) (g := mkF (own_m C) pc Ls.toArray (.ref (own_n C + a) :: st)) rfl rfl (hb K.kb hd) t ?_
  rw [own_size hs]
  exact q
theorem own_iastore (K : own_K C bytes ml own ret nm R) {β : Type} {a : Nat} {j x : Int32} {kk : own_Mem → Option β} {r : β} (hd : decode bytes pc = .ok (.iastore, 1)) (h : (own_sto 100 M a j (.int x)).bind kk = some r) (hn : pc + 1 = pc') (k : ∀ M1, kk M1 = some r → own_W C v M' M1 cs ss pc' Ls st) : own_W C v M' M cs ss pc Ls (.int x :: .int j :: .ref (own_n C + a) :: st) := by
  obtain ⟨M1, hx, hk⟩ := own_bind h
  obtain ⟨vs, hm, hj, rfl⟩ := own_sto_e hx
  subst hn
  refine own_go (fun T hT => ?_) (k _ hk)
  obtain ⟨locs, X, N, RR, b⟩ := hT
  obtain ⟨c, A, hs, -⟩ := own_arr RR rfl hm
  obtain ⟨T1, h1, X1, e1, W1, st1⟩ := stI X K.x K.kz rfl A (by rw [own_size hs]; exact hj) (g := mkF (own_m C) pc Ls.toArray (.int x :: .int j :: .ref (own_n C + a) :: st)) rfl rfl (hb K.kb hd)
  exact ⟨T1, ⟨_, X1, Fr.snoc X1 N (Nat.le_add_right _ _), by rw [e1]; exact own_wrA RR rfl hm W1, b⟩, st1⟩
theorem own_lastore (K : own_K C bytes ml own ret nm R) {β : Type} {a : Nat} {j : Int32} {x : Int64} {kk : own_Mem → Option β} {r : β} (hd : decode bytes pc = .ok (.lastore, 1)) (h : (own_sto 101 M a j (.long x)).bind kk = some r) (hn : pc + 1 = pc') (k : ∀ M1, kk M1 = some r → own_W C v M' M1 cs ss pc' Ls st) : own_W C v M' M cs ss pc Ls (.long x :: .int j :: .ref (own_n C + a) :: st) := by
  obtain ⟨M1, hx, hk⟩ := own_bind h
  obtain ⟨vs, hm, hj, rfl⟩ := own_sto_e hx
  subst hn
  refine own_go (fun T hT => ?_) (k _ hk)
  obtain ⟨locs, X, N, RR, b⟩ := hT
  obtain ⟨c, A, hs, -⟩ := own_arr RR rfl hm
  obtain ⟨T1, h1, X1, e1, W1, st1⟩ := stJ X K.x K.kz rfl A (by rw [own_size hs]; exact hj) (g := mkF (own_m C) pc Ls.toArray (.long x :: .int j :: .ref (own_n C + a) :: st)) rfl rfl (hb K.kb hd)
  exact ⟨T1, ⟨_, X1, Fr.snoc X1 N (Nat.le_add_right _ _), by rw [e1]; exact own_wrA RR rfl hm W1, b⟩, st1⟩
theorem own_bastoreB (K : own_K C bytes ml own ret nm R) {β : Type} {a : Nat} {j x : Int32} {kk : own_Mem → Option β} {r : β} (hd : decode bytes pc = .ok (.bastore, 1)) (h : (own_sto 102 M a j (.int (nar .byte x))).bind kk = some r) (hn : pc + 1 = pc') (k : ∀ M1, kk M1 = some r → own_W C v M' M1 cs ss pc' Ls st) : own_W C v M' M cs ss pc Ls (.int x :: .int j :: .ref (own_n C + a) :: st) := by
  obtain ⟨M1, hx, hk⟩ := own_bind h
  obtain ⟨vs, hm, hj, rfl⟩ := own_sto_e hx
  subst hn
  refine own_go (fun T hT => ?_) (k _ hk)
  obtain ⟨locs, X, N, RR, b⟩ := hT
  obtain ⟨c, A, hs, -⟩ := own_arr RR rfl hm
  obtain ⟨T1, h1, X1, e1, W1, st1⟩ := stB X K.x K.kz rfl A (by rw [own_size hs]; exact hj) (g := mkF (own_m C) pc Ls.toArray (.int x :: .int j :: .ref (own_n C + a) :: st)) rfl rfl (hb K.kb hd)
  exact ⟨T1, ⟨_, X1, Fr.snoc X1 N (Nat.le_add_right _ _), by rw [e1]; exact own_wrA RR rfl hm W1, b⟩, st1⟩
theorem own_bastoreZ (K : own_K C bytes ml own ret nm R) {β : Type} {a : Nat} {j x : Int32} {kk : own_Mem → Option β} {r : β} (hd : decode bytes pc = .ok (.bastore, 1)) (h : (own_sto 103 M a j (.int (nar .boolean x))).bind kk = some r) (hn : pc + 1 = pc') (k : ∀ M1, kk M1 = some r → own_W C v M' M1 cs ss pc' Ls st) : own_W C v M' M cs ss pc Ls (.int x :: .int j :: .ref (own_n C + a) :: st) := by
  obtain ⟨M1, hx, hk⟩ := own_bind h
  obtain ⟨vs, hm, hj, rfl⟩ := own_sto_e hx
  subst hn
  refine own_go (fun T hT => ?_) (k _ hk)
  obtain ⟨locs, X, N, RR, b⟩ := hT
  obtain ⟨c, A, hs, -⟩ := own_arr RR rfl hm
  obtain ⟨T1, h1, X1, e1, W1, st1⟩ := stZ X K.x K.kz rfl A (by rw [own_size hs]; exact hj) (g := mkF (own_m C) pc Ls.toArray (.int x :: .int j :: .ref (own_n C + a) :: st)) rfl rfl (hb K.kb hd)
  exact ⟨T1, ⟨_, X1, Fr.snoc X1 N (Nat.le_add_right _ _), by rw [e1]; exact own_wrA RR rfl hm W1, b⟩, st1⟩
/-! fresh cells -/
theorem own_ext (h : Heap) (c : Cell) : Ext h (h.push c) := ⟨by simp, fun a c' q => by
  rw [Array.getElem?_push_lt (Array.getElem?_eq_some_iff.mp q).1]; exact (Array.getElem?_eq_getElem _).symm.trans q⟩
theorem own_updef (n0 : Nat) (ty : FieldType) : own_up n0 (defaultValue ty) = defaultValue ty := by cases ty <;> rfl
theorem own_fresh {Z s : State} {a0 : Array Value} {h : Heap} {C' : String} {cC : ClassId} {kC : Class} (hZ : Z.Warmed39 s.vm) (g1 : s.vm.findClass C' = some cC) (g2 : s.vm.classes[cC]? = some kC) :
    Exa Z (h.push { cls := cC, slots := kC.instanceTypes.map defaultValue, vm := .none }) h.size C' ∧ ∀ {nm d : String} {ty : FieldType}, Laid Z a0 C' C' nm d → parseFieldDescriptor d = some ty → Fld Z (h.push { cls := cC, slots := kC.instanceTypes.map defaultValue, vm := .none }) h.size C' nm d (defaultValue ty) := by
  rw [hZ.alike.findClass] at g1
  obtain ⟨kZ, z1, -⟩ := Vm.findClass_spec g1
  obtain ⟨k', z2, z3⟩ := hZ.alike.2.2 _ _ z1
  cases g2.symm.trans z2
  have ei : kC.instanceTypes = kZ.instanceTypes := by rw [z3]
  have hN : (h.push ({ cls := cC, slots := kC.instanceTypes.map defaultValue, vm := .none } : Cell))[h.size]? = some { cls := cC, slots := kC.instanceTypes.map defaultValue, vm := .none } := by simp
  refine ⟨⟨_, kZ, hN, g1, z1, rfl, fun _ => by simp [ei]⟩, fun {nm d ty} L ht => ?_⟩
  obtain ⟨c1, k1, cf, kf, i, f, a1, a2, a3, a4, a5, a6, -⟩ := L.spec
  cases g1.symm.trans a1
  cases z1.symm.trans a2
  exact ⟨_, cf, kf, i, f, hN, a3, a4, by simp, rfl, a5, by simp [ei, a6, (State.fieldFound?_type a3 ht).2]⟩
theorem own_new (K : own_K C bytes ml own ret nm R) {β : Type} {idx n t : Nat} {C' : String} {fs : List (String × String)} {vs : List Value} {kk : Nat × own_Mem → Option β} {r : β} (hd : decode bytes pc = .ok (.new idx, 3)) (w1 : Jvm.Cond.classLink own idx C' ∈ tables_1) (w2 : Jvm.Cond.instantiable C' n ∈ tables_1) (w3 : Jvm.Cond.initialized C' ∈ tables_1)
    (hc : own_cl t = some (C', fs)) (hv : ∀ (i : Nat) nm d u, fs[i]? = some (nm, d) → vs[i]? = some u → ∃ ty, parseFieldDescriptor d = some ty ∧ u = defaultValue ty) (h : (own_newO t vs M).bind kk = some r) (e1 : cs + 1 = cs1) (e2 : ss + n = ss1) (h1 : cs1 ≤ R.cells) (h2 : ss1 ≤ R.slots) (hn : pc + 3 = pc')
    (k : ∀ q, kk q = some r → own_W C v M' q.2 cs1 ss1 pc' Ls (.ref (own_n C + q.1) :: st)) : own_W C v M' M cs ss pc Ls st := by
  subst hn e1 e2
  refine own_go (fun T hT => ?_) (k _ h)
  obtain ⟨locs, X, N, RR, b1, b2⟩ := hT
  obtain ⟨vm', cC, kC, g1, g2, g3, g4, X', stp⟩ := X.newCold K.x K.ko (mv K.kz (K.w _ w1)) (mv K.kz (K.w _ w2)) (mv K.kz (K.w _ w3)) (g := mkF (own_m C) pc Ls.toArray st) rfl (hb K.kb hd) (by rw [K.kr]; exact h1) (by rw [K.kr]; exact h2)
  obtain ⟨E, F⟩ := own_fresh (a0 := own_z C) (h := T.heap) K.kz g1 g2
  refine ⟨_, ⟨locs, X', N, ?_, by rw [K.kr]; exact h1, by rw [K.kr]; exact h2⟩, ?_⟩
  · refine own_push RR (own_ext _ _) ⟨fun ty ht => (by rw [own_ty_cl ht] at hc; cases hc), fun C2 fs2 hc2 => ?_⟩
    cases hc.symm.trans hc2
    refine ⟨E, fun i nm d u q1 q2 => ?_⟩
    obtain ⟨ty, p1, rfl⟩ := hv i nm d u q1 q2
    rw [own_updef]
    exact F ((own_laid K.w hc).1 _ _ _ q1).1 p1
  · intro t' q
    refine stp t' ?_
    have e : T.heap.size = own_n C + M.length := RR.1
    rw [e]
    exact q
theorem own_na (K : own_K C bytes ml own ret nm R) {β : Type} {aty : ArrayType} {t cap : Nat} {dv : Value} {n : Int32} {kk : Nat × own_Mem → Option β} {r : β} (hd : decode bytes pc = .ok (.newarray aty, 2)) (w : Jvm.Cond.arrayClass (newarray.typeOf aty) ∈ tables_1) (ht : own_ty t = some (newarray.typeOf aty)) (hdv : defaultValue (newarray.typeOf aty) = dv)
    (h : (own_newA t cap dv M n).bind kk = some r) (hcap : cap * 8 ≤ 536870912) (e1 : cs + 1 = cs1) (e2 : ss + cap = ss1) (h1 : cs1 ≤ R.cells) (h2 : ss1 ≤ R.slots) (hn : pc + 2 = pc')
    (k : ∀ q, kk q = some r → own_W C v M' q.2 cs1 ss1 pc' Ls (.ref (own_n C + q.1) :: st)) : own_W C v M' M cs ss pc Ls (.int n :: st) := by
  subst hn hdv e1 e2
  obtain ⟨q, hq, hk⟩ := own_bind h
  unfold own_newA at hq
  split at hq
  · cases hq
  rename_i hneg
  cases hq
  have hn0 : ¬ n < 0 := fun z => hneg (Or.inl z)
  have hn1 : n.toNatClampNeg ≤ cap := Nat.le_of_not_lt fun z => hneg (Or.inr z)
  refine own_go (fun T hT => ?_) (k _ hk)
  obtain ⟨locs, X, N, RR, b1, b2⟩ := hT
  have hcb : componentBytes (newarray.typeOf aty) ≤ 8 := by cases aty <;> decide
  obtain ⟨cA, kA, comp, g1, g2, g3, X', stp⟩ := X.newarrayPrim K.x (mvA K.kz (K.w _ w)) (g := mkF (own_m C) pc Ls.toArray (.int n :: st)) rfl (hb K.kb hd) rfl hn0 (Nat.le_trans (Nat.mul_le_mul hn1 hcb) hcap) (by rw [K.kr]; exact h1) (by rw [K.kr]; omega)
  have g1' := g1
  rw [K.kz.alike.findClass] at g1'
  obtain ⟨kZ, z1, -⟩ := Vm.findClass_spec g1'
  obtain ⟨k', z2, z3⟩ := K.kz.alike.2.2 _ _ z1
  cases g2.symm.trans z2
  refine ⟨_, ⟨locs, X'.more (Nat.le_refl _) (by omega), N, ?_, by rw [K.kr]; exact h1, by rw [K.kr]; exact h2⟩, ?_⟩
  · refine own_push RR (own_ext _ _) ⟨fun ty ht2 => ?_, fun C2 fs2 hc2 => (by rw [own_ty_cl ht] at hc2; cases hc2)⟩
    cases ht.symm.trans ht2
    refine ⟨_, ⟨by simp; rfl, ⟨by simp, kZ, z1, comp, by rw [← g3, z3]⟩, by simp⟩, by simp, ?_⟩
    have := (back32 hn0).2
    simpa using this
  · intro t' q
    refine stp t' ?_
    have e : T.heap.size = own_n C + M.length := RR.1
    rw [e]
    exact q
/-! calls -/
def own_Met (y : MethodName) (yb : ByteArray) (yml : Nat) (yret : Option FieldType) (rm : Room) (args : List Value) (M : own_Mem) (vr : Option Value) (M1 : own_Mem) : Prop :=
  ∀ (l : Launch) (Z : State) (a0 : Array Value) (n0 : Nat) (h0 : Heap) (ws : List Jvm.Cond), (∀ d ∈ tables_1, d.before a0 Z = true) → own_Rel Z n0 h0 M →
    MetFree l y (head1 (Jvm.Cond.code y yb yml yret :: ws) rm) (fun a U => a = (args.map (own_up n0)).toArray ∧ Z.Warmed39 U.vm ∧ U.heap = h0) (fun _ _ _ _ _ => True) (fun _ U o U' => ∃ v L, o = .returned v ∧ (v = vr.map (own_up n0) ∧ own_Rel Z n0 U'.heap M1 ∧ Fr n0 L) ∧ FrameEnd U o U' L rm.cells rm.slots)
theorem own_back (K : own_K C bytes ml own ret nm R) {y : MethodName} {yb : ByteArray} {yml : Nat} {yret : Option FieldType} {rm : Room} {args : List Value} {vr : Option Value} {T : State} {W : Nat} (w3 : Jvm.Cond.initialized y.cls ∈ tables_1) (w4 : Jvm.Cond.code y yb yml yret ∈ tables_1) (hf : rm.frames + 1 ≤ R.frames) (hl : W + (yml + 11) + rm.locals ≤ R.locals) (hM : own_Met y yb yml yret rm args M vr M1) (RR : own_Rel (own_Z C) (own_n C) T.heap M) :
    Back (own_l C) (own_R C) (own_p C) (own_e C) (own_b C) (own_s C) (own_a C) y 3 W (fun A a => a = (args.map (own_up (own_n C))).toArray ∧ A.U.heap = T.heap ∧ A.cells + rm.cells ≤ (own_R C).cells ∧ A.slots + rm.slots ≤ (own_R C).slots)
      (fun A _ v B => ∃ L, (v = vr.map (own_up (own_n C)) ∧ own_Rel (own_Z C) (own_n C) B.U.heap M1 ∧ Fr (own_n C) L) ∧ B.locs = A.locs ++ L ∧ B.cells = A.cells + rm.cells ∧ B.slots = A.slots + rm.slots) :=
  backOf (W := W) (Q := fun v h L => v = vr.map (own_up (own_n C)) ∧ own_Rel (own_Z C) (own_n C) h M1 ∧ Fr (own_n C) L) (hM (own_l C) (own_Z C) (own_z C) (own_n C) T.heap [] K.w RR) K.kz (K.w _ w4) (K.w _ w3) (by rw [K.kr]; exact hf) (by rw [K.kr]; exact hl)
theorem own_callS (K : own_K C bytes ml own ret nm R) {idx : Nat} {y : MethodName} {yb : ByteArray} {yml : Nat} {yret : Option FieldType} {rm : Room} {W : Nat} {argsL stk st1 : List Value} {vr : Option Value} (hd : decode bytes pc = .ok (.invokestatic idx, 3)) (w1 : Jvm.Cond.methodLink own idx y ∈ tables_1) (w2 : Jvm.Cond.static y ∈ tables_1) (w3 : Jvm.Cond.initialized y.cls ∈ tables_1) (w4 : Jvm.Cond.code y yb yml yret ∈ tables_1)
    (hy : y.cls ≠ "java/lang/invoke/MethodHandle" ∧ y.cls ≠ "java/lang/invoke/VarHandle") (hlen : ∀ sig, parseMethodDescriptor y.desc = some sig → argsL.length = sig.parameters.length) (hs : (argsL.map (own_up (own_n C))).reverse ++ st = stk) (hW : (st.map fun v => v.category).sum ≤ W) (hf : rm.frames + 1 ≤ R.frames) (hl : W + (yml + 11) + rm.locals ≤ R.locals) (e1 : cs + rm.cells = cs1) (e2 : ss + rm.slots = ss1) (h1 : cs1 ≤ R.cells) (h2 : ss1 ≤ R.slots) (hsz : Ls.length = ml) (hn : pc + 3 = pc')
    (hM : own_Met y yb yml yret rm argsL M vr M1) (hv : (vr.map (own_up (own_n C))).toList ++ st = st1) (k : own_W C v M' M1 cs1 ss1 pc' Ls st1) : own_W C v M' M cs ss pc Ls stk := by
  subst hn hs hv e1 e2
  refine own_go (fun T hT => ?_) k
  obtain ⟨locs, X, N, RR, b1, b2⟩ := hT
  obtain ⟨v2, vm1, ⟨T1, L1, c1, s1⟩, -, X1, ⟨Lc, ⟨rfl, RR1, N1⟩, l1, y1, z1⟩, st1⟩ := Jvm.LawKit.callS X K.x (y := y) K.ko (mvT K.kz (K.w _ w1)) (mvT K.kz (K.w _ w2)) (mvT K.kz (K.w _ w3)) (mvT K.kz (K.w _ w4)) hy (own_back K w3 w4 hf hl hM RR) (g := mkF (own_m C) pc Ls.toArray ((argsL.map (own_up (own_n C))).reverse ++ st)) rfl (by rw [K.kl]; simpa using hsz) (argsL := argsL.map (own_up (own_n C))) (rest := st) (fun sig q => by rw [List.length_map]; exact hlen sig q) rfl (by show 2 * 0 + _ ≤ _; simpa using hW) (hb K.kb hd) (fun _ _ => ⟨rfl, rfl, by rw [K.kr]; exact h1, by rw [K.kr]; exact h2⟩)
  dsimp only [Pt.U, Pt.locs, Pt.cells, Pt.slots] at X1 l1 y1 z1 st1 RR1
  subst l1 y1 z1
  exact ⟨T1, ⟨_, X1, Fr.app N N1, RR1, by rw [K.kr]; exact h1, by rw [K.kr]; exact h2⟩, st1⟩
theorem own_callI (K : own_K C bytes ml own ret nm R) {idx : Nat} {y : MethodName} {yb : ByteArray} {yml : Nat} {rm : Room} {W a : Nat} {argsL stk : List Value} (hd : decode bytes pc = .ok (.invokespecial idx, 3)) (hy1 : y.name = "<init>") (w1 : Jvm.Cond.methodLink own idx y ∈ tables_1) (w2 : Jvm.Cond.instanceMethod y ∈ tables_1) (w3 : Jvm.Cond.initialized y.cls ∈ tables_1) (w4 : Jvm.Cond.code y yb yml none ∈ tables_1)
    (hy : y.cls ≠ "java/lang/invoke/MethodHandle" ∧ y.cls ≠ "java/lang/invoke/VarHandle") (hlen : ∀ sig, parseMethodDescriptor y.desc = some sig → argsL.length = sig.parameters.length) (hs : (argsL.map (own_up (own_n C))).reverse ++ .ref (own_n C + a) :: st = stk) (hW : (st.map fun v => v.category).sum ≤ W) (hf : rm.frames + 1 ≤ R.frames) (hl : W + (yml + 11) + rm.locals ≤ R.locals) (e1 : cs + rm.cells = cs1) (e2 : ss + rm.slots = ss1) (h1 : cs1 ≤ R.cells) (h2 : ss1 ≤ R.slots) (hsz : Ls.length = ml) (hn : pc + 3 = pc')
    (hM : own_Met y yb yml none rm (.ref a :: argsL) M none M1) (k : own_W C v M' M1 cs1 ss1 pc' Ls st) : own_W C v M' M cs ss pc Ls stk := by
  subst hn hs e1 e2
  refine own_go (fun T hT => ?_) k
  obtain ⟨locs, X, N, RR, b1, b2⟩ := hT
  obtain ⟨v2, vm1, ⟨T1, L1, c1, s1⟩, -, X1, ⟨Lc, ⟨rfl, RR1, N1⟩, l1, y1, z1⟩, st1⟩ := X.specialBack K.x (y := y) hy1 K.ko (mvT K.kz (K.w _ w1)) (mvT K.kz (K.w _ w2)) (mvT K.kz (K.w _ w4)) hy (own_back K w3 w4 hf hl hM RR) (g := mkF (own_m C) pc Ls.toArray ((argsL.map (own_up (own_n C))).reverse ++ .ref (own_n C + a) :: st)) rfl (by rw [K.kl]; simpa using hsz) (Steps.refl _) (a := own_n C + a) (argsL := argsL.map (own_up (own_n C))) (rest := st) (fun sig q => by rw [List.length_map]; exact hlen sig q) rfl (by show 2 * 0 + _ ≤ _; simpa using hW) (hb K.kb hd) (fun _ _ => ⟨rfl, rfl, by rw [K.kr]; exact h1, by rw [K.kr]; exact h2⟩)
  dsimp only [Pt.U, Pt.locs, Pt.cells, Pt.slots] at X1 l1 y1 z1 st1 RR1
  subst l1 y1 z1
  exact ⟨T1, ⟨_, X1, Fr.app N N1, RR1, by rw [K.kr]; exact h1, by rw [K.kr]; exact h2⟩, fun t q => st1.trans q⟩
theorem own_callV (K : own_K C bytes ml own ret nm R) {idx t : Nat} {fs : List (String × String)} {vs : List Value} {y : MethodName} {yb : ByteArray} {yml : Nat} {yret : Option FieldType} {rm : Room} {W a : Nat} {argsL stk st1 : List Value} {vr : Option Value} (hd : decode bytes pc = .ok (.invokevirtual idx, 3)) (w1 : Jvm.Cond.methodLink own idx y ∈ tables_1) (w5 : Jvm.Cond.declares y ∈ tables_1) (w6 : Jvm.Cond.selects y.cls y y ∈ tables_1) (w2 : Jvm.Cond.instanceMethod y ∈ tables_1) (w3 : Jvm.Cond.initialized y.cls ∈ tables_1) (w4 : Jvm.Cond.code y yb yml yret ∈ tables_1)
    (hc : own_cl t = some (y.cls, fs)) (hat : own_at M t a = some vs)
    (hy : y.cls ≠ "java/lang/invoke/MethodHandle" ∧ y.cls ≠ "java/lang/invoke/VarHandle") (hlen : ∀ sig, parseMethodDescriptor y.desc = some sig → argsL.length = sig.parameters.length) (hs : (argsL.map (own_up (own_n C))).reverse ++ .ref (own_n C + a) :: st = stk) (hW : (st.map fun v => v.category).sum ≤ W) (hf : rm.frames + 1 ≤ R.frames) (hl : W + (yml + 11) + rm.locals ≤ R.locals) (e1 : cs + rm.cells = cs1) (e2 : ss + rm.slots = ss1) (h1 : cs1 ≤ R.cells) (h2 : ss1 ≤ R.slots) (hsz : Ls.length = ml) (hn : pc + 3 = pc')
    (hM : own_Met y yb yml yret rm (.ref a :: argsL) M vr M1) (hv : (vr.map (own_up (own_n C))).toList ++ st = st1) (k : own_W C v M' M1 cs1 ss1 pc' Ls st1) : own_W C v M' M cs ss pc Ls stk := by
  subst hn hs hv e1 e2
  refine own_go (fun T hT => ?_) k
  obtain ⟨locs, X, N, RR, b1, b2⟩ := hT
  obtain ⟨cq, kq, qa, qb, qc⟩ := isOf (T := T) K.kz rfl (own_obj RR hc (own_at_e hat)).1
  obtain ⟨v2, vm1, ⟨T1, L1, c1, s1⟩, -, X1, ⟨Lc, ⟨rfl, RR1, N1⟩, l1, y1, z1⟩, st1⟩ := X.virtualBack K.x (y := y) (z := y) K.ko (mvT K.kz (K.w _ w1)) (mvT K.kz (K.w _ w5)) (notFace_of_selects (args := #[]) (mvT K.kz (K.w _ w6))) (mvT K.kz (K.w _ w6)) (mvT K.kz (K.w _ w2)) hy (own_back K w3 w4 hf hl hM RR) qa qc (g := mkF (own_m C) pc Ls.toArray ((argsL.map (own_up (own_n C))).reverse ++ .ref (own_n C + a) :: st)) rfl (by rw [K.kl]; simpa using hsz) (Steps.refl _) (argsL := argsL.map (own_up (own_n C))) (rest := st) (fun sig q => by rw [List.length_map]; exact hlen sig q) rfl (by show 2 * 0 + _ ≤ _; simpa using hW) (hb K.kb hd) (fun _ _ => ⟨rfl, rfl, by rw [K.kr]; exact h1, by rw [K.kr]; exact h2⟩)
  dsimp only [Pt.U, Pt.locs, Pt.cells, Pt.slots] at X1 l1 y1 z1 st1 RR1
  subst l1 y1 z1
  exact ⟨T1, ⟨_, X1, Fr.app N N1, RR1, by rw [K.kr]; exact h1, by rw [K.kr]; exact h2⟩, fun t q => st1.trans q⟩
theorem own_callP (K : own_K C bytes ml own ret nm R) {idx t n1 : Nat} {fs : List (String × String)} {vs : List Value} {y : MethodName} {yb : ByteArray} {yml : Nat} {yret : Option FieldType} {rm : Room} {W a : Nat} {argsL stk st1 : List Value} {vr : Option Value} (hd : decode bytes pc = .ok (.invokevirtual idx, 3)) (w1 : Jvm.Cond.methodLink own idx y ∈ tables_1) (w5 : Jvm.Cond.privateMethod y ∈ tables_1) (w6 : Jvm.Cond.instantiable y.cls n1 ∈ tables_1) (w2 : Jvm.Cond.instanceMethod y ∈ tables_1) (w3 : Jvm.Cond.initialized y.cls ∈ tables_1) (w4 : Jvm.Cond.code y yb yml yret ∈ tables_1)
    (hc : own_cl t = some (y.cls, fs)) (hat : own_at M t a = some vs)
    (hy : y.cls ≠ "java/lang/invoke/MethodHandle" ∧ y.cls ≠ "java/lang/invoke/VarHandle") (hlen : ∀ sig, parseMethodDescriptor y.desc = some sig → argsL.length = sig.parameters.length) (hs : (argsL.map (own_up (own_n C))).reverse ++ .ref (own_n C + a) :: st = stk) (hW : (st.map fun v => v.category).sum ≤ W) (hf : rm.frames + 1 ≤ R.frames) (hl : W + (yml + 11) + rm.locals ≤ R.locals) (e1 : cs + rm.cells = cs1) (e2 : ss + rm.slots = ss1) (h1 : cs1 ≤ R.cells) (h2 : ss1 ≤ R.slots) (hsz : Ls.length = ml) (hn : pc + 3 = pc')
    (hM : own_Met y yb yml yret rm (.ref a :: argsL) M vr M1) (hv : (vr.map (own_up (own_n C))).toList ++ st = st1) (k : own_W C v M' M1 cs1 ss1 pc' Ls st1) : own_W C v M' M cs ss pc Ls stk := by
  subst hn hs hv e1 e2
  refine own_go (fun T hT => ?_) k
  obtain ⟨locs, X, N, RR, b1, b2⟩ := hT
  obtain ⟨cq, qa, qb⟩ := (own_obj RR hc (own_at_e hat)).1.cell
  have hpr : (own_s C).PrivateAt y := Cond.privateMethod_at (mvP K.kz (K.w _ w5) (args := #[]))
  obtain ⟨cI, kI, i1, i2, -, i3, -⟩ := Cond.instantiable_spec (show (Jvm.Cond.instantiable y.cls n1).before (own_a C) (own_s C) = true from mvT K.kz (K.w _ w6))
  have hni : kI.isInterface = false := by
    cases q : kI.isInterface
    · rfl
    · rw [q] at i3; simp at i3
  have hsel : (Jvm.Cond.selects y.cls y y).before (own_a C) (own_s C) = true := selects_self_of_private i1 i2 hni hpr (mvT K.kz (K.w _ w2)) hy
  obtain ⟨v2, vm1, ⟨T1, L1, c1, s1⟩, -, X1, ⟨Lc, ⟨rfl, RR1, N1⟩, l1, y1, z1⟩, st1⟩ := X.privateBack K.x (y := y) K.ko (mvT K.kz (K.w _ w1)) (mvT K.kz (K.w _ w2)) hsel hpr (mvT K.kz (K.w _ w4)) hy (own_back K w3 w4 hf hl hM RR) (g := mkF (own_m C) pc Ls.toArray ((argsL.map (own_up (own_n C))).reverse ++ .ref (own_n C + a) :: st)) rfl (by rw [K.kl]; simpa using hsz) (Steps.refl _) (a := own_n C + a) qa qb (argsL := argsL.map (own_up (own_n C))) (rest := st) (fun sig q => by rw [List.length_map]; exact hlen sig q) rfl (by show 2 * 0 + _ ≤ _; simpa using hW) (hb K.kb hd) (fun _ _ => ⟨rfl, rfl, by rw [K.kr]; exact h1, by rw [K.kr]; exact h2⟩)
  dsimp only [Pt.U, Pt.locs, Pt.cells, Pt.slots] at X1 l1 y1 z1 st1 RR1
  subst l1 y1 z1
  exact ⟨T1, ⟨_, X1, Fr.app N N1, RR1, by rw [K.kr]; exact h1, by rw [K.kr]; exact h2⟩, fun t q => st1.trans q⟩
theorem own_initO (K : own_K C bytes ml own ret nm R) {idx W a : Nat} (hd : decode bytes pc = .ok (.invokespecial idx, 3)) (w1 : Jvm.Cond.methodLink own idx Lib.objectInit ∈ tables_1) (w2 : Jvm.Cond.instanceMethod Lib.objectInit ∈ tables_1) (w3 : Jvm.Cond.code Lib.objectInit ⟨#[0xb1]⟩ 1 none ∈ tables_1) (hW : (st.map fun v => v.category).sum ≤ W) (hf : 1 ≤ R.frames) (hl : W + 12 ≤ R.locals) (hsz : Ls.length = ml) (hn : pc + 3 = pc')
    (k : own_W C v M' M cs ss pc' Ls st) : own_W C v M' M cs ss pc Ls (.ref a :: st) := by
  subst hn
  refine own_go (fun T hT => ?_) k
  obtain ⟨locs, X, N, RR, b⟩ := hT
  obtain ⟨T1, X1, e1, st1⟩ := initO X K.x K.kz K.ko (K.w _ w1) (K.w _ w2) (K.w _ w3) rfl (g := mkF (own_m C) pc Ls.toArray (.ref a :: st)) rfl (by rw [K.kl]; simpa using hsz) rfl (hb K.kb hd) (by rw [K.kr]; exact hf) (W := W) (by show 2 * 0 + _ ≤ _; simpa using hW) (by rw [K.kr]; exact hl)
  exact ⟨T1, ⟨locs, X1, N, by rw [e1]; exact RR, b⟩, st1⟩
/-! returns -/
theorem own_end {w : Option Value} (K : own_K C bytes ml own ret nm R) (hret : ret = none → w = none) (f : ∀ T locs, own_X C T locs cs ss → ∀ fs, (∀ (f : JFrame) (acts : List Action), f.method = own_m C → f.locked = none → f.entered = [] → (doReturn (own_e C) (T.setTop f) acts (w.map (own_up (own_n C)))).1 = T.setFrames fs) → own_Go C T pc Ls st (T.setFrames fs)) : own_W C w M M cs ss pc Ls st := fun T hT => by
  obtain ⟨locs, X, N, RR, b1, b2⟩ := hT
  obtain ⟨fs, hr, hrun, hended, hW, hsame⟩ := X.leave (v := w.map (own_up (own_n C))) (fun q => by rw [K.kt] at q; rw [hret q]; rfl) K.lk
  exact ⟨_, _, f T locs X fs hr, hrun, hended, _, _, rfl, ⟨rfl, RR, N⟩, ⟨_, rfl⟩, hW, hsame.mono b1 b2⟩
theorem own_retV (K : own_K C bytes ml own none nm R) {r : Unit × own_Mem} (hd : decode bytes pc = .ok (.return_, 1)) (h : some ((), M) = some r) : own_W C none r.2 M cs ss pc Ls [] := by
  cases h
  exact own_end K (fun _ => rfl) fun T locs X fs hr => X.returnOut K.x K.kt (hb K.kb hd) hr
theorem own_retJ (K : own_K C bytes ml own (some .long) nm R) {z : Int64} {r : Int64 × own_Mem} (hd : decode bytes pc = .ok (.lreturn, 1)) (h : some (z, M) = some r) : own_W C (some (.long r.1)) r.2 M cs ss pc Ls [.long z] := by
  cases h
  exact own_end K (fun q => by cases q) fun T locs X fs hr => X.lreturnOut K.x K.kt (hb K.kb hd) hr
theorem own_retR {ty : FieldType} (K : own_K C bytes ml own (some ty) nm R) {z : Nat} {r : Nat × own_Mem} (hd : decode bytes pc = .ok (.areturn, 1)) (ht : ty.isReference = true) (h : some (z, M) = some r) : own_W C (some (.ref r.1)) r.2 M cs ss pc Ls [.ref (own_n C + z)] := by
  cases h
  exact own_end K (fun q => by cases q) fun T locs X fs hr => X.areturnOut K.x rfl K.kt ht (hb K.kb hd) hr
theorem own_retI (K : own_K C bytes ml own (some .int) nm R) {z : Int32} {r : Int32 × own_Mem} (hd : decode bytes pc = .ok (.ireturn, 1)) (h : some (z, M) = some r) : own_W C (some (.int r.1)) r.2 M cs ss pc Ls [.int z] := by
  cases h
  exact own_end K (fun q => by cases q) fun T locs X fs hr => X.ireturnOut K.x K.kt rfl (Or.inl rfl) (hb K.kb hd) hr
theorem own_retN {ty : FieldType} (K : own_K C bytes ml own (some ty) nm R) {z : Int32} {r : Int32 × own_Mem} (hd : decode bytes pc = .ok (.ireturn, 1)) (ht : ty = .boolean ∨ ty = .byte ∨ ty = .char ∨ ty = .short) (h : some (nar ty z, M) = some r) : own_W C (some (.int r.1)) r.2 M cs ss pc Ls [.int z] := by
  cases h
  exact own_end K (fun q => by cases q) fun T locs X fs hr => retN X K.x K.kt ht (hb K.kb hd) hr
end OwnHeap
/-- a body's contract, out of its walk -/
theorem own_met {y : MethodName} {yb : ByteArray} {yml : Nat} {yret : Option FieldType} {rm : Room} {args : List Value} {M M1 : own_Mem} {vr : Option Value} {Ls : Nat → List Slot} (hpl : plainFor y = true) (hef : ∀ (m : MethodId) (n0 : Nat), entryFrame m (args.map (own_up n0)).toArray yml = mkF m 0 (Ls n0).toArray [])
    (hW : ∀ C, own_K C yb yml y.cls yret y.name rm → own_W C vr M1 M 0 0 0 (Ls (own_n C)) []) : own_Met y yb yml yret rm args M vr M1 := by
  intro l Z a0 n0 h0 ws hw RR
  refine MetFree.of_bodySF hpl hisR ?_
  intro p e s m args' below meth c s₁ Bd hml0 hP hK
  obtain ⟨rfl, hZ, hh⟩ := hP
  have X0 : Stand p l e rm s m (args.map (own_up n0)).toArray below meth c s₁ [] 0 0 := Stand.of_body Bd
  have e0 : s₁.heap = h0 := by rw [← hh, Bd.state]; rfl
  obtain ⟨U, o, g1, g2, g3, g4⟩ := hW (p, l, e, rm, s, m, (args.map (own_up n0)).toArray, below, meth, c, Z, a0, n0) ⟨Bd.exec, Bd.bytes, hml0, hZ, findClass_of_methodNamed Bd.named, hw, Bd.returns, (name_of_methodNamed Bd.named Bd.method).1, Bd.notSynchronized, rfl⟩ s₁ ⟨[], X0, Fr.nil n0, by rw [e0]; exact RR, Nat.zero_le _, Nat.zero_le _⟩
  exact ⟨U, o, castTop (hef m n0) g1, g2, g3, g4⟩
theorem own_lc0 : Int64.ofNat (0 : Fin 2) = (0 : Int64) := rfl
theorem own_lc1 : Int64.ofNat (1 : Fin 2) = (1 : Int64) := rfl
theorem own_ic0 : Int32.ofInt (0) = (0 : Int32) := by decide
theorem own_ic1 : Int32.ofInt (1) = (1 : Int32) := by decide
theorem own_ic2 : Int32.ofInt (2) = (2 : Int32) := by decide
theorem own_ic3 : Int32.ofInt (3) = (3 : Int32) := by decide
theorem own_ic4 : Int32.ofInt (4) = (4 : Int32) := by decide
theorem own_ic5 : Int32.ofInt (5) = (5 : Int32) := by decide
theorem own_pn0 : plainName "com/example/tablewise/tablewise/propagation/TableQueue" = true := by first | (simp [plainName, overriddenIn]; done) | decide +kernel
theorem own_pn1 : plainName "com/example/tablewise/tablewise/propagation/TableQueueOfferPinLaw" = true := by first | (simp [plainName, overriddenIn]; done) | decide +kernel
theorem own_pd0 : parseMethodDescriptor "([III)Z" = some ⟨[(.array .int), .int, .int], some .boolean⟩ := by decide +kernel
theorem own_pd1 : parseMethodDescriptor "()Z" = some ⟨[], some .boolean⟩ := by decide +kernel
theorem own_pd2 : parseMethodDescriptor "([II)I" = some ⟨[(.array .int), .int], some .int⟩ := by decide +kernel
theorem own_pd3 : parseMethodDescriptor "()I" = some ⟨[], some .int⟩ := by decide +kernel
theorem own_pd4 : parseMethodDescriptor "(I)V" = some ⟨[.int], none⟩ := by decide +kernel
theorem own_pd5 : parseMethodDescriptor "([III)I" = some ⟨[(.array .int), .int, .int], some .int⟩ := by decide +kernel
theorem m1_d0 : decode prog_41_method_1_code 0 = .ok (.aload_n 0, 1) := by decide +kernel
theorem m1_d1 : decode prog_41_method_1_code 1 = .ok (.invokespecial 1, 3) := by decide +kernel
theorem m1_d4 : decode prog_41_method_1_code 4 = .ok (.aload_n 0, 1) := by decide +kernel
theorem m1_d5 : decode prog_41_method_1_code 5 = .ok (.iload_n 1, 1) := by decide +kernel
theorem m1_d6 : decode prog_41_method_1_code 6 = .ok (.newarray .int, 2) := by decide +kernel
theorem m1_d8 : decode prog_41_method_1_code 8 = .ok (.putfield 7, 3) := by decide +kernel
theorem m1_d11 : decode prog_41_method_1_code 11 = .ok (.aload_n 0, 1) := by decide +kernel
theorem m1_d12 : decode prog_41_method_1_code 12 = .ok (.iload_n 1, 1) := by decide +kernel
theorem m1_d13 : decode prog_41_method_1_code 13 = .ok (.newarray .boolean, 2) := by decide +kernel
theorem m1_d15 : decode prog_41_method_1_code 15 = .ok (.putfield 13, 3) := by decide +kernel
theorem m1_d18 : decode prog_41_method_1_code 18 = .ok (.return_, 1) := by decide +kernel
def m1_rm : Room := { frames := 1, cells := 2, slots := 8, locals := 12 }
set_option maxRecDepth 65536 in
def m1 (a0 : Nat) (i1 : Int32) (M : own_Mem) : Option (Unit × own_Mem) := (own_newA 100 4 (.int 0) M i1).bind fun q1 => (own_put 0 0 q1.2 a0 (.ref q1.1)).bind fun M2 => (own_newA 103 4 (.int 0) M2 i1).bind fun q3 => (own_put 0 1 q3.2 a0 (.ref q3.1)).bind fun M4 => some ((), M4)
set_option maxRecDepth 65536 in
set_option maxHeartbeats 4000000 in
theorem m1_w {C : own_Ctx} (K : own_K C prog_41_method_1_code 2 "com/example/tablewise/tablewise/propagation/TableQueue" none "<init>" m1_rm) {a0 : Nat} {i1 : Int32} {M : own_Mem} {r : Unit × own_Mem} (h : m1 a0 i1 M = some r) : own_W C none r.2 M 0 0 0 [.val (.ref (own_n C + a0)), .val (.int i1)] [] := by
  unfold m1 at h
  refine own_aloadN K m1_d0 rfl rfl ?_
  refine own_initO K m1_d1 own_w7 own_w8 own_w9 (W := 0) (Nat.le_of_eq rfl) (by decide) (by decide) rfl rfl ?_
  refine own_aloadN K m1_d4 rfl rfl ?_
  refine own_iloadN K m1_d5 rfl rfl ?_
  refine own_na K m1_d6 own_w10 rfl rfl h (by decide) (cs1 := 1) (ss1 := 4) rfl rfl (by decide) (by decide) rfl (fun q1 h => ?_)
  refine own_pf K m1_d8 own_w11 (own_cl0) (i := 0) rfl (Or.inr ⟨own_w12, rfl, rfl⟩) own_w2 (ty := (.array .int)) own_fd0_0 (w0 := (.ref q1.1)) rfl rfl h rfl (fun M2 h => ?_)
  refine own_aloadN K m1_d11 rfl rfl ?_
  refine own_iloadN K m1_d12 rfl rfl ?_
  refine own_na K m1_d13 own_w13 rfl rfl h (by decide) (cs1 := 2) (ss1 := 8) rfl rfl (by decide) (by decide) rfl (fun q3 h => ?_)
  refine own_pf K m1_d15 own_w14 (own_cl0) (i := 1) rfl (Or.inr ⟨own_w15, rfl, rfl⟩) own_w2 (ty := (.array .boolean)) own_fd0_1 (w0 := (.ref q3.1)) rfl rfl h rfl (fun M4 h => ?_)
  exact own_retV K m1_d18 h
set_option maxRecDepth 65536 in
set_option maxHeartbeats 4000000 in
theorem m1_met {a0 : Nat} {i1 : Int32} {M : own_Mem} {q : Unit × own_Mem} (h : m1 a0 i1 M = some q) : own_Met ⟨"com/example/tablewise/tablewise/propagation/TableQueue", "<init>", "(I)V"⟩ prog_41_method_1_code 2 none m1_rm [.ref a0, .int i1] M none q.2 :=
  own_met (Ls := fun n0 => [.val (.ref (n0 + a0)), .val (.int i1)]) (plainFor_of_name own_pn0) (fun m n0 => by first | (simp [entryFrame, mkF, argsToLocals, Value.category, own_up]; done) | rfl) fun C K => m1_w K h
theorem m3_d0 : decode prog_41_method_2_code 0 = .ok (.aload_n 0, 1) := by decide +kernel
theorem m3_d1 : decode prog_41_method_2_code 1 = .ok (.getfield 13, 3) := by decide +kernel
theorem m3_d4 : decode prog_41_method_2_code 4 = .ok (.iload_n 1, 1) := by decide +kernel
theorem m3_d5 : decode prog_41_method_2_code 5 = .ok (.baload, 1) := by decide +kernel
theorem m3_d6 : decode prog_41_method_2_code 6 = .ok (.ifCond .ne 41, 3) := by decide +kernel
theorem m3_d9 : decode prog_41_method_2_code 9 = .ok (.aload_n 0, 1) := by decide +kernel
theorem m3_d10 : decode prog_41_method_2_code 10 = .ok (.getfield 13, 3) := by decide +kernel
theorem m3_d13 : decode prog_41_method_2_code 13 = .ok (.iload_n 1, 1) := by decide +kernel
theorem m3_d14 : decode prog_41_method_2_code 14 = .ok (.iconst 1, 1) := by decide +kernel
theorem m3_d15 : decode prog_41_method_2_code 15 = .ok (.bastore, 1) := by decide +kernel
theorem m3_d16 : decode prog_41_method_2_code 16 = .ok (.aload_n 0, 1) := by decide +kernel
theorem m3_d17 : decode prog_41_method_2_code 17 = .ok (.getfield 7, 3) := by decide +kernel
theorem m3_d20 : decode prog_41_method_2_code 20 = .ok (.aload_n 0, 1) := by decide +kernel
theorem m3_d21 : decode prog_41_method_2_code 21 = .ok (.getfield 17, 3) := by decide +kernel
theorem m3_d24 : decode prog_41_method_2_code 24 = .ok (.aload_n 0, 1) := by decide +kernel
theorem m3_d25 : decode prog_41_method_2_code 25 = .ok (.getfield 21, 3) := by decide +kernel
theorem m3_d28 : decode prog_41_method_2_code 28 = .ok (.iadd, 1) := by decide +kernel
theorem m3_d29 : decode prog_41_method_2_code 29 = .ok (.aload_n 0, 1) := by decide +kernel
theorem m3_d30 : decode prog_41_method_2_code 30 = .ok (.getfield 7, 3) := by decide +kernel
theorem m3_d33 : decode prog_41_method_2_code 33 = .ok (.arraylength, 1) := by decide +kernel
theorem m3_d34 : decode prog_41_method_2_code 34 = .ok (.irem, 1) := by decide +kernel
theorem m3_d35 : decode prog_41_method_2_code 35 = .ok (.iload_n 1, 1) := by decide +kernel
theorem m3_d36 : decode prog_41_method_2_code 36 = .ok (.iastore, 1) := by decide +kernel
theorem m3_d37 : decode prog_41_method_2_code 37 = .ok (.aload_n 0, 1) := by decide +kernel
theorem m3_d38 : decode prog_41_method_2_code 38 = .ok (.dup, 1) := by decide +kernel
theorem m3_d39 : decode prog_41_method_2_code 39 = .ok (.getfield 21, 3) := by decide +kernel
theorem m3_d42 : decode prog_41_method_2_code 42 = .ok (.iconst 1, 1) := by decide +kernel
theorem m3_d43 : decode prog_41_method_2_code 43 = .ok (.iadd, 1) := by decide +kernel
theorem m3_d44 : decode prog_41_method_2_code 44 = .ok (.putfield 21, 3) := by decide +kernel
theorem m3_d47 : decode prog_41_method_2_code 47 = .ok (.return_, 1) := by decide +kernel
def m3_rm : Room := { frames := 0, cells := 0, slots := 0, locals := 0 }
set_option maxRecDepth 65536 in
def m3_b47  (M : own_Mem) : Option (Unit × own_Mem) := some ((), M)
set_option maxRecDepth 65536 in
set_option maxHeartbeats 4000000 in
theorem m3_w47 {C : own_Ctx} (K : own_K C prog_41_method_2_code 2 "com/example/tablewise/tablewise/propagation/TableQueue" none "offer" m3_rm) {z0 : Slot} {z1 : Slot} (o0 : own_One z0) (o1 : own_One z1) {M : own_Mem} {r : Unit × own_Mem} (h : m3_b47  M = some r) : own_W C none r.2 M 0 0 47 [z0, z1] [] := by
  unfold m3_b47 at h
  exact own_retV K m3_d47 h
set_option maxRecDepth 65536 in
def m3 (a0 : Nat) (i1 : Int32) (M : own_Mem) : Option (Unit × own_Mem) := (own_getR 0 1 M a0).bind fun x1 => (own_ldI 103 M x1 i1).bind fun x2 => if x2 = 0 then ((own_getR 0 1 M a0).bind fun x3 => (own_sto 103 M x3 i1 (.int (nar .boolean (1 : Int32)))).bind fun M4 => (own_getR 0 0 M4 a0).bind fun x5 => (own_getI 0 2 M4 a0).bind fun x6 => (own_getI 0 3 M4 a0).bind fun x7 => (own_getR 0 0 M4 a0).bind fun x8 => (own_len 100 M4 x8).bind fun x9 => own_nz (x9 = 0) <| (own_sto 100 M4 x5 ((x6 + x7) % x9) (.int i1)).bind fun M10 => (own_getI 0 3 M10 a0).bind fun x11 => (own_put 0 3 M10 a0 (.int (x11 + (1 : Int32)))).bind fun M12 => m3_b47 M12) else (m3_b47 M)
set_option maxRecDepth 65536 in
set_option maxHeartbeats 4000000 in
theorem m3_w {C : own_Ctx} (K : own_K C prog_41_method_2_code 2 "com/example/tablewise/tablewise/propagation/TableQueue" none "offer" m3_rm) {a0 : Nat} {i1 : Int32} {M : own_Mem} {r : Unit × own_Mem} (h : m3 a0 i1 M = some r) : own_W C none r.2 M 0 0 0 [.val (.ref (own_n C + a0)), .val (.int i1)] [] := by
  unfold m3 at h
  refine own_aloadN K m3_d0 rfl rfl ?_
  refine own_gfR K m3_d1 own_w14 (own_cl0) (i := 1) rfl h rfl (fun x1 h => ?_)
  refine own_iloadN K m3_d4 rfl rfl ?_
  refine own_baloadZ K m3_d5 h rfl (fun x2 h => ?_)
  refine own_zne K m3_d6 h (pc1 := 47) (pc2 := 9) (by decide) rfl (fun h => ?_) (fun h => ?_)
  · exact m3_w47 K own_one_r own_one_i h
  · refine own_aloadN K m3_d9 rfl rfl ?_
    refine own_gfR K m3_d10 own_w14 (own_cl0) (i := 1) rfl h rfl (fun x3 h => ?_)
    refine own_iloadN K m3_d13 rfl rfl ?_
    refine own_iconst K m3_d14 own_ic1 rfl ?_
    refine own_bastoreZ K m3_d15 h rfl (fun M4 h => ?_)
    refine own_aloadN K m3_d16 rfl rfl ?_
    refine own_gfR K m3_d17 own_w11 (own_cl0) (i := 0) rfl h rfl (fun x5 h => ?_)
    refine own_aloadN K m3_d20 rfl rfl ?_
    refine own_gfI K m3_d21 own_w21 (own_cl0) (i := 2) rfl h rfl (fun x6 h => ?_)
    refine own_aloadN K m3_d24 rfl rfl ?_
    refine own_gfI K m3_d25 own_w23 (own_cl0) (i := 3) rfl h rfl (fun x7 h => ?_)
    refine own_iadd K m3_d28 rfl ?_
    refine own_aloadN K m3_d29 rfl rfl ?_
    refine own_gfR K m3_d30 own_w11 (own_cl0) (i := 0) rfl h rfl (fun x8 h => ?_)
    refine own_alen K m3_d33 (t := 100) rfl h rfl (fun x9 h => ?_)
    refine own_irem K m3_d34 h rfl (fun h => ?_)
    refine own_iloadN K m3_d35 rfl rfl ?_
    refine own_iastore K m3_d36 h rfl (fun M10 h => ?_)
    refine own_aloadN K m3_d37 rfl rfl ?_
    refine own_dup K m3_d38 rfl rfl ?_
    refine own_gfI K m3_d39 own_w23 (own_cl0) (i := 3) rfl h rfl (fun x11 h => ?_)
    refine own_iconst K m3_d42 own_ic1 rfl ?_
    refine own_iadd K m3_d43 rfl ?_
    refine own_pf K m3_d44 own_w23 (own_cl0) (i := 3) rfl (Or.inl own_w24) own_w2 (ty := .int) own_fd0_3 (w0 := (.int (x11 + (1 : Int32)))) rfl rfl h rfl (fun M12 h => ?_)
    exact m3_w47 K own_one_r own_one_i h
set_option maxRecDepth 65536 in
set_option maxHeartbeats 4000000 in
theorem m3_met {a0 : Nat} {i1 : Int32} {M : own_Mem} {q : Unit × own_Mem} (h : m3 a0 i1 M = some q) : own_Met ⟨"com/example/tablewise/tablewise/propagation/TableQueue", "offer", "(I)V"⟩ prog_41_method_2_code 2 none m3_rm [.ref a0, .int i1] M none q.2 :=
  own_met (Ls := fun n0 => [.val (.ref (n0 + a0)), .val (.int i1)]) (plainFor_of_name own_pn0) (fun m n0 => by first | (simp [entryFrame, mkF, argsToLocals, Value.category, own_up]; done) | rfl) fun C K => m3_w K h
theorem m5_d0 : decode method_2_code 0 = .ok (.iload_n 1, 1) := by decide +kernel
theorem m5_d1 : decode method_2_code 1 = .ok (.ifCond .le 10, 3) := by decide +kernel
theorem m5_d4 : decode method_2_code 4 = .ok (.aload_n 0, 1) := by decide +kernel
theorem m5_d5 : decode method_2_code 5 = .ok (.iconst 0, 1) := by decide +kernel
theorem m5_d6 : decode method_2_code 6 = .ok (.iaload, 1) := by decide +kernel
theorem m5_d7 : decode method_2_code 7 = .ok (.iload_n 2, 1) := by decide +kernel
theorem m5_d8 : decode method_2_code 8 = .ok (.if_icmp .eq 39, 3) := by decide +kernel
theorem m5_d11 : decode method_2_code 11 = .ok (.iload_n 1, 1) := by decide +kernel
theorem m5_d12 : decode method_2_code 12 = .ok (.iconst 1, 1) := by decide +kernel
theorem m5_d13 : decode method_2_code 13 = .ok (.if_icmp .le 10, 3) := by decide +kernel
theorem m5_d16 : decode method_2_code 16 = .ok (.aload_n 0, 1) := by decide +kernel
theorem m5_d17 : decode method_2_code 17 = .ok (.iconst 1, 1) := by decide +kernel
theorem m5_d18 : decode method_2_code 18 = .ok (.iaload, 1) := by decide +kernel
theorem m5_d19 : decode method_2_code 19 = .ok (.iload_n 2, 1) := by decide +kernel
theorem m5_d20 : decode method_2_code 20 = .ok (.if_icmp .eq 27, 3) := by decide +kernel
theorem m5_d23 : decode method_2_code 23 = .ok (.iload_n 1, 1) := by decide +kernel
theorem m5_d24 : decode method_2_code 24 = .ok (.iconst 2, 1) := by decide +kernel
theorem m5_d25 : decode method_2_code 25 = .ok (.if_icmp .le 10, 3) := by decide +kernel
theorem m5_d28 : decode method_2_code 28 = .ok (.aload_n 0, 1) := by decide +kernel
theorem m5_d29 : decode method_2_code 29 = .ok (.iconst 2, 1) := by decide +kernel
theorem m5_d30 : decode method_2_code 30 = .ok (.iaload, 1) := by decide +kernel
theorem m5_d31 : decode method_2_code 31 = .ok (.iload_n 2, 1) := by decide +kernel
theorem m5_d32 : decode method_2_code 32 = .ok (.if_icmp .eq 15, 3) := by decide +kernel
theorem m5_d35 : decode method_2_code 35 = .ok (.iload_n 1, 1) := by decide +kernel
theorem m5_d36 : decode method_2_code 36 = .ok (.iconst 3, 1) := by decide +kernel
theorem m5_d37 : decode method_2_code 37 = .ok (.if_icmp .le 14, 3) := by decide +kernel
theorem m5_d40 : decode method_2_code 40 = .ok (.aload_n 0, 1) := by decide +kernel
theorem m5_d41 : decode method_2_code 41 = .ok (.iconst 3, 1) := by decide +kernel
theorem m5_d42 : decode method_2_code 42 = .ok (.iaload, 1) := by decide +kernel
theorem m5_d43 : decode method_2_code 43 = .ok (.iload_n 2, 1) := by decide +kernel
theorem m5_d44 : decode method_2_code 44 = .ok (.if_icmp .ne 7, 3) := by decide +kernel
theorem m5_d47 : decode method_2_code 47 = .ok (.iconst 1, 1) := by decide +kernel
theorem m5_d48 : decode method_2_code 48 = .ok (.goto 4, 3) := by decide +kernel
theorem m5_d51 : decode method_2_code 51 = .ok (.iconst 0, 1) := by decide +kernel
theorem m5_d52 : decode method_2_code 52 = .ok (.ireturn, 1) := by decide +kernel
def m5_rm : Room := { frames := 0, cells := 0, slots := 0, locals := 0 }
set_option maxRecDepth 65536 in
def m5_b52 (t0 : Int32) (M : own_Mem) : Option (Int32 × own_Mem) := some (nar .boolean t0, M)
set_option maxRecDepth 65536 in
set_option maxHeartbeats 4000000 in
theorem m5_w52 {C : own_Ctx} (K : own_K C method_2_code 3 "com/example/tablewise/tablewise/propagation/TableQueueOfferPinLaw" (some .boolean) "has" m5_rm) {t0 : Int32} {z0 : Slot} {z1 : Slot} {z2 : Slot} (o0 : own_One z0) (o1 : own_One z1) (o2 : own_One z2) {M : own_Mem} {r : Int32 × own_Mem} (h : m5_b52 t0 M = some r) : own_W C (some (.int r.1)) r.2 M 0 0 52 [z0, z1, z2] [.int t0] := by
  unfold m5_b52 at h
  exact own_retN K m5_d52 (by simp) h
set_option maxRecDepth 65536 in
def m5_b47  (M : own_Mem) : Option (Int32 × own_Mem) := m5_b52 (1 : Int32) M
set_option maxRecDepth 65536 in
set_option maxHeartbeats 4000000 in
theorem m5_w47 {C : own_Ctx} (K : own_K C method_2_code 3 "com/example/tablewise/tablewise/propagation/TableQueueOfferPinLaw" (some .boolean) "has" m5_rm) {z0 : Slot} {z1 : Slot} {z2 : Slot} (o0 : own_One z0) (o1 : own_One z1) (o2 : own_One z2) {M : own_Mem} {r : Int32 × own_Mem} (h : m5_b47  M = some r) : own_W C (some (.int r.1)) r.2 M 0 0 47 [z0, z1, z2] [] := by
  unfold m5_b47 at h
  refine own_iconst K m5_d47 own_ic1 rfl ?_
  refine own_goto K m5_d48 (pc' := 52) (by decide) ?_
  exact m5_w52 K o0 o1 o2 h
set_option maxRecDepth 65536 in
def m5_b51  (M : own_Mem) : Option (Int32 × own_Mem) := m5_b52 (0 : Int32) M
set_option maxRecDepth 65536 in
set_option maxHeartbeats 4000000 in
theorem m5_w51 {C : own_Ctx} (K : own_K C method_2_code 3 "com/example/tablewise/tablewise/propagation/TableQueueOfferPinLaw" (some .boolean) "has" m5_rm) {z0 : Slot} {z1 : Slot} {z2 : Slot} (o0 : own_One z0) (o1 : own_One z1) (o2 : own_One z2) {M : own_Mem} {r : Int32 × own_Mem} (h : m5_b51  M = some r) : own_W C (some (.int r.1)) r.2 M 0 0 51 [z0, z1, z2] [] := by
  unfold m5_b51 at h
  refine own_iconst K m5_d51 own_ic0 rfl ?_
  exact m5_w52 K o0 o1 o2 h
set_option maxRecDepth 65536 in
def m5_b35 (a0 : Nat) (i1 : Int32) (i2 : Int32) (M : own_Mem) : Option (Int32 × own_Mem) := if (3 : Int32) < i1 then ((own_ldI 100 M a0 (3 : Int32)).bind fun x1 => if x1 = i2 then (m5_b47 M) else (m5_b51 M)) else (m5_b51 M)
set_option maxRecDepth 65536 in
set_option maxHeartbeats 4000000 in
theorem m5_w35 {C : own_Ctx} (K : own_K C method_2_code 3 "com/example/tablewise/tablewise/propagation/TableQueueOfferPinLaw" (some .boolean) "has" m5_rm) {a0 : Nat} {i1 : Int32} {i2 : Int32} {M : own_Mem} {r : Int32 × own_Mem} (h : m5_b35 a0 i1 i2 M = some r) : own_W C (some (.int r.1)) r.2 M 0 0 35 [.val (.ref (own_n C + a0)), .val (.int i1), .val (.int i2)] [] := by
  unfold m5_b35 at h
  refine own_iloadN K m5_d35 rfl rfl ?_
  refine own_iconst K m5_d36 own_ic3 rfl ?_
  refine own_ile K m5_d37 h (pc1 := 51) (pc2 := 40) (by decide) rfl (fun h => ?_) (fun h => ?_)
  · exact m5_w51 K own_one_r own_one_i own_one_i h
  · refine own_aloadN K m5_d40 rfl rfl ?_
    refine own_iconst K m5_d41 own_ic3 rfl ?_
    refine own_iaload K m5_d42 h rfl (fun x1 h => ?_)
    refine own_iloadN K m5_d43 rfl rfl ?_
    refine own_ine K m5_d44 h (pc1 := 51) (pc2 := 47) (by decide) rfl (fun h => ?_) (fun h => ?_)
    · exact m5_w51 K own_one_r own_one_i own_one_i h
    · exact m5_w47 K own_one_r own_one_i own_one_i h
set_option maxRecDepth 65536 in
def m5_b23 (a0 : Nat) (i1 : Int32) (i2 : Int32) (M : own_Mem) : Option (Int32 × own_Mem) := if (2 : Int32) < i1 then ((own_ldI 100 M a0 (2 : Int32)).bind fun x2 => if x2 = i2 then (m5_b47 M) else (m5_b35 a0 i1 i2 M)) else (m5_b35 a0 i1 i2 M)
set_option maxRecDepth 65536 in
set_option maxHeartbeats 4000000 in
theorem m5_w23 {C : own_Ctx} (K : own_K C method_2_code 3 "com/example/tablewise/tablewise/propagation/TableQueueOfferPinLaw" (some .boolean) "has" m5_rm) {a0 : Nat} {i1 : Int32} {i2 : Int32} {M : own_Mem} {r : Int32 × own_Mem} (h : m5_b23 a0 i1 i2 M = some r) : own_W C (some (.int r.1)) r.2 M 0 0 23 [.val (.ref (own_n C + a0)), .val (.int i1), .val (.int i2)] [] := by
  unfold m5_b23 at h
  refine own_iloadN K m5_d23 rfl rfl ?_
  refine own_iconst K m5_d24 own_ic2 rfl ?_
  refine own_ile K m5_d25 h (pc1 := 35) (pc2 := 28) (by decide) rfl (fun h => ?_) (fun h => ?_)
  · exact m5_w35 K  h
  · refine own_aloadN K m5_d28 rfl rfl ?_
    refine own_iconst K m5_d29 own_ic2 rfl ?_
    refine own_iaload K m5_d30 h rfl (fun x2 h => ?_)
    refine own_iloadN K m5_d31 rfl rfl ?_
    refine own_ieq K m5_d32 h (pc1 := 47) (pc2 := 35) (by decide) rfl (fun h => ?_) (fun h => ?_)
    · exact m5_w47 K own_one_r own_one_i own_one_i h
    · exact m5_w35 K  h
set_option maxRecDepth 65536 in
def m5_b11 (a0 : Nat) (i1 : Int32) (i2 : Int32) (M : own_Mem) : Option (Int32 × own_Mem) := if (1 : Int32) < i1 then ((own_ldI 100 M a0 (1 : Int32)).bind fun x3 => if x3 = i2 then (m5_b47 M) else (m5_b23 a0 i1 i2 M)) else (m5_b23 a0 i1 i2 M)
set_option maxRecDepth 65536 in
set_option maxHeartbeats 4000000 in
theorem m5_w11 {C : own_Ctx} (K : own_K C method_2_code 3 "com/example/tablewise/tablewise/propagation/TableQueueOfferPinLaw" (some .boolean) "has" m5_rm) {a0 : Nat} {i1 : Int32} {i2 : Int32} {M : own_Mem} {r : Int32 × own_Mem} (h : m5_b11 a0 i1 i2 M = some r) : own_W C (some (.int r.1)) r.2 M 0 0 11 [.val (.ref (own_n C + a0)), .val (.int i1), .val (.int i2)] [] := by
  unfold m5_b11 at h
  refine own_iloadN K m5_d11 rfl rfl ?_
  refine own_iconst K m5_d12 own_ic1 rfl ?_
  refine own_ile K m5_d13 h (pc1 := 23) (pc2 := 16) (by decide) rfl (fun h => ?_) (fun h => ?_)
  · exact m5_w23 K  h
  · refine own_aloadN K m5_d16 rfl rfl ?_
    refine own_iconst K m5_d17 own_ic1 rfl ?_
    refine own_iaload K m5_d18 h rfl (fun x3 h => ?_)
    refine own_iloadN K m5_d19 rfl rfl ?_
    refine own_ieq K m5_d20 h (pc1 := 47) (pc2 := 23) (by decide) rfl (fun h => ?_) (fun h => ?_)
    · exact m5_w47 K own_one_r own_one_i own_one_i h
    · exact m5_w23 K  h
set_option maxRecDepth 65536 in
def m5 (a0 : Nat) (i1 : Int32) (i2 : Int32) (M : own_Mem) : Option (Int32 × own_Mem) := if 0 < i1 then ((own_ldI 100 M a0 (0 : Int32)).bind fun x4 => if x4 = i2 then (m5_b47 M) else (m5_b11 a0 i1 i2 M)) else (m5_b11 a0 i1 i2 M)
set_option maxRecDepth 65536 in
set_option maxHeartbeats 4000000 in
theorem m5_w {C : own_Ctx} (K : own_K C method_2_code 3 "com/example/tablewise/tablewise/propagation/TableQueueOfferPinLaw" (some .boolean) "has" m5_rm) {a0 : Nat} {i1 : Int32} {i2 : Int32} {M : own_Mem} {r : Int32 × own_Mem} (h : m5 a0 i1 i2 M = some r) : own_W C (some (.int r.1)) r.2 M 0 0 0 [.val (.ref (own_n C + a0)), .val (.int i1), .val (.int i2)] [] := by
  unfold m5 at h
  refine own_iloadN K m5_d0 rfl rfl ?_
  refine own_zle K m5_d1 h (pc1 := 11) (pc2 := 4) (by decide) rfl (fun h => ?_) (fun h => ?_)
  · exact m5_w11 K  h
  · refine own_aloadN K m5_d4 rfl rfl ?_
    refine own_iconst K m5_d5 own_ic0 rfl ?_
    refine own_iaload K m5_d6 h rfl (fun x4 h => ?_)
    refine own_iloadN K m5_d7 rfl rfl ?_
    refine own_ieq K m5_d8 h (pc1 := 47) (pc2 := 11) (by decide) rfl (fun h => ?_) (fun h => ?_)
    · exact m5_w47 K own_one_r own_one_i own_one_i h
    · exact m5_w11 K  h
set_option maxRecDepth 65536 in
set_option maxHeartbeats 4000000 in
theorem m5_met {a0 : Nat} {i1 : Int32} {i2 : Int32} {M : own_Mem} {q : Int32 × own_Mem} (h : m5 a0 i1 i2 M = some q) : own_Met ⟨"com/example/tablewise/tablewise/propagation/TableQueueOfferPinLaw", "has", "([III)Z"⟩ method_2_code 3 (some .boolean) m5_rm [.ref a0, .int i1, .int i2] M (some (.int q.1)) q.2 :=
  own_met (Ls := fun n0 => [.val (.ref (n0 + a0)), .val (.int i1), .val (.int i2)]) (plainFor_of_name own_pn1) (fun m n0 => by first | (simp [entryFrame, mkF, argsToLocals, Value.category, own_up]; done) | rfl) fun C K => m5_w K h
theorem m4_d0 : decode method_3_code 0 = .ok (.aload_n 0, 1) := by decide +kernel
theorem m4_d1 : decode method_3_code 1 = .ok (.iload_n 1, 1) := by decide +kernel
theorem m4_d2 : decode method_3_code 2 = .ok (.iload_n 2, 1) := by decide +kernel
theorem m4_d3 : decode method_3_code 3 = .ok (.invokestatic 7, 3) := by decide +kernel
theorem m4_d6 : decode method_3_code 6 = .ok (.ifCond .eq 5, 3) := by decide +kernel
theorem m4_d9 : decode method_3_code 9 = .ok (.iload_n 1, 1) := by decide +kernel
theorem m4_d10 : decode method_3_code 10 = .ok (.ireturn, 1) := by decide +kernel
theorem m4_d11 : decode method_3_code 11 = .ok (.aload_n 0, 1) := by decide +kernel
theorem m4_d12 : decode method_3_code 12 = .ok (.iload_n 1, 1) := by decide +kernel
theorem m4_d13 : decode method_3_code 13 = .ok (.iload_n 2, 1) := by decide +kernel
theorem m4_d14 : decode method_3_code 14 = .ok (.iastore, 1) := by decide +kernel
theorem m4_d15 : decode method_3_code 15 = .ok (.iload_n 1, 1) := by decide +kernel
theorem m4_d16 : decode method_3_code 16 = .ok (.iconst 1, 1) := by decide +kernel
theorem m4_d17 : decode method_3_code 17 = .ok (.iadd, 1) := by decide +kernel
theorem m4_d18 : decode method_3_code 18 = .ok (.ireturn, 1) := by decide +kernel
def m4_rm : Room := { frames := 1, cells := 0, slots := 0, locals := 14 }
set_option maxRecDepth 65536 in
def m4 (a0 : Nat) (i1 : Int32) (i2 : Int32) (M : own_Mem) : Option (Int32 × own_Mem) := (m5 a0 i1 i2 M).bind fun q1 => if q1.1 = 0 then ((own_sto 100 q1.2 a0 i1 (.int i2)).bind fun M2 => some ((i1 + (1 : Int32)), M2)) else (some (i1, q1.2))
set_option maxRecDepth 65536 in
set_option maxHeartbeats 4000000 in
theorem m4_w {C : own_Ctx} (K : own_K C method_3_code 3 "com/example/tablewise/tablewise/propagation/TableQueueOfferPinLaw" (some .int) "push" m4_rm) {a0 : Nat} {i1 : Int32} {i2 : Int32} {M : own_Mem} {r : Int32 × own_Mem} (h : m4 a0 i1 i2 M = some r) : own_W C (some (.int r.1)) r.2 M 0 0 0 [.val (.ref (own_n C + a0)), .val (.int i1), .val (.int i2)] [] := by
  unfold m4 at h
  refine own_aloadN K m4_d0 rfl rfl ?_
  refine own_iloadN K m4_d1 rfl rfl ?_
  refine own_iloadN K m4_d2 rfl rfl ?_
  refine own_bk h (fun q1 hq1 h => ?_)
  refine own_callS K m4_d3 own_w29 own_w30 own_w27 own_w31 (argsL := [.ref a0, .int i1, .int i2]) (st := []) (by decide) (lenOf own_pd0 rfl) rfl (W := 0) (Nat.le_of_eq rfl) (by decide) (by decide) (cs1 := 0) (ss1 := 0) rfl rfl (by decide) (by decide) rfl rfl (m5_met hq1) (st1 := [.int q1.1]) rfl ?_
  refine own_zeq K m4_d6 h (pc1 := 11) (pc2 := 9) (by decide) rfl (fun h => ?_) (fun h => ?_)
  · refine own_aloadN K m4_d11 rfl rfl ?_
    refine own_iloadN K m4_d12 rfl rfl ?_
    refine own_iloadN K m4_d13 rfl rfl ?_
    refine own_iastore K m4_d14 h rfl (fun M2 h => ?_)
    refine own_iloadN K m4_d15 rfl rfl ?_
    refine own_iconst K m4_d16 own_ic1 rfl ?_
    refine own_iadd K m4_d17 rfl ?_
    exact own_retI K m4_d18 h
  · refine own_iloadN K m4_d9 rfl rfl ?_
    exact own_retI K m4_d10 h
set_option maxRecDepth 65536 in
set_option maxHeartbeats 4000000 in
theorem m4_met {a0 : Nat} {i1 : Int32} {i2 : Int32} {M : own_Mem} {q : Int32 × own_Mem} (h : m4 a0 i1 i2 M = some q) : own_Met ⟨"com/example/tablewise/tablewise/propagation/TableQueueOfferPinLaw", "push", "([III)I"⟩ method_3_code 3 (some .int) m4_rm [.ref a0, .int i1, .int i2] M (some (.int q.1)) q.2 :=
  own_met (Ls := fun n0 => [.val (.ref (n0 + a0)), .val (.int i1), .val (.int i2)]) (plainFor_of_name own_pn1) (fun m n0 => by first | (simp [entryFrame, mkF, argsToLocals, Value.category, own_up]; done) | rfl) fun C K => m4_w K h
theorem m6_d0 : decode prog_41_method_4_code 0 = .ok (.aload_n 0, 1) := by decide +kernel
theorem m6_d1 : decode prog_41_method_4_code 1 = .ok (.getfield 7, 3) := by decide +kernel
theorem m6_d4 : decode prog_41_method_4_code 4 = .ok (.aload_n 0, 1) := by decide +kernel
theorem m6_d5 : decode prog_41_method_4_code 5 = .ok (.getfield 17, 3) := by decide +kernel
theorem m6_d8 : decode prog_41_method_4_code 8 = .ok (.iaload, 1) := by decide +kernel
theorem m6_d9 : decode prog_41_method_4_code 9 = .ok (.istore_n 1, 1) := by decide +kernel
theorem m6_d10 : decode prog_41_method_4_code 10 = .ok (.aload_n 0, 1) := by decide +kernel
theorem m6_d11 : decode prog_41_method_4_code 11 = .ok (.aload_n 0, 1) := by decide +kernel
theorem m6_d12 : decode prog_41_method_4_code 12 = .ok (.getfield 17, 3) := by decide +kernel
theorem m6_d15 : decode prog_41_method_4_code 15 = .ok (.iconst 1, 1) := by decide +kernel
theorem m6_d16 : decode prog_41_method_4_code 16 = .ok (.iadd, 1) := by decide +kernel
theorem m6_d17 : decode prog_41_method_4_code 17 = .ok (.aload_n 0, 1) := by decide +kernel
theorem m6_d18 : decode prog_41_method_4_code 18 = .ok (.getfield 7, 3) := by decide +kernel
theorem m6_d21 : decode prog_41_method_4_code 21 = .ok (.arraylength, 1) := by decide +kernel
theorem m6_d22 : decode prog_41_method_4_code 22 = .ok (.irem, 1) := by decide +kernel
theorem m6_d23 : decode prog_41_method_4_code 23 = .ok (.putfield 17, 3) := by decide +kernel
theorem m6_d26 : decode prog_41_method_4_code 26 = .ok (.aload_n 0, 1) := by decide +kernel
theorem m6_d27 : decode prog_41_method_4_code 27 = .ok (.dup, 1) := by decide +kernel
theorem m6_d28 : decode prog_41_method_4_code 28 = .ok (.getfield 21, 3) := by decide +kernel
theorem m6_d31 : decode prog_41_method_4_code 31 = .ok (.iconst 1, 1) := by decide +kernel
theorem m6_d32 : decode prog_41_method_4_code 32 = .ok (.isub, 1) := by decide +kernel
theorem m6_d33 : decode prog_41_method_4_code 33 = .ok (.putfield 21, 3) := by decide +kernel
theorem m6_d36 : decode prog_41_method_4_code 36 = .ok (.aload_n 0, 1) := by decide +kernel
theorem m6_d37 : decode prog_41_method_4_code 37 = .ok (.getfield 13, 3) := by decide +kernel
theorem m6_d40 : decode prog_41_method_4_code 40 = .ok (.iload_n 1, 1) := by decide +kernel
theorem m6_d41 : decode prog_41_method_4_code 41 = .ok (.iconst 0, 1) := by decide +kernel
theorem m6_d42 : decode prog_41_method_4_code 42 = .ok (.bastore, 1) := by decide +kernel
theorem m6_d43 : decode prog_41_method_4_code 43 = .ok (.iload_n 1, 1) := by decide +kernel
theorem m6_d44 : decode prog_41_method_4_code 44 = .ok (.ireturn, 1) := by decide +kernel
def m6_rm : Room := { frames := 0, cells := 0, slots := 0, locals := 0 }
set_option maxRecDepth 65536 in
def m6 (a0 : Nat) (M : own_Mem) : Option (Int32 × own_Mem) := (own_getR 0 0 M a0).bind fun x1 => (own_getI 0 2 M a0).bind fun x2 => (own_ldI 100 M x1 x2).bind fun x3 => (own_getI 0 2 M a0).bind fun x4 => (own_getR 0 0 M a0).bind fun x5 => (own_len 100 M x5).bind fun x6 => own_nz (x6 = 0) <| (own_put 0 2 M a0 (.int ((x4 + (1 : Int32)) % x6))).bind fun M7 => (own_getI 0 3 M7 a0).bind fun x8 => (own_put 0 3 M7 a0 (.int (x8 - (1 : Int32)))).bind fun M9 => (own_getR 0 1 M9 a0).bind fun x10 => (own_sto 103 M9 x10 x3 (.int (nar .boolean (0 : Int32)))).bind fun M11 => some (x3, M11)
set_option maxRecDepth 65536 in
set_option maxHeartbeats 4000000 in
theorem m6_w {C : own_Ctx} (K : own_K C prog_41_method_4_code 2 "com/example/tablewise/tablewise/propagation/TableQueue" (some .int) "poll" m6_rm) {a0 : Nat} {M : own_Mem} {r : Int32 × own_Mem} (h : m6 a0 M = some r) : own_W C (some (.int r.1)) r.2 M 0 0 0 [.val (.ref (own_n C + a0)), .unset] [] := by
  unfold m6 at h
  refine own_aloadN K m6_d0 rfl rfl ?_
  refine own_gfR K m6_d1 own_w11 (own_cl0) (i := 0) rfl h rfl (fun x1 h => ?_)
  refine own_aloadN K m6_d4 rfl rfl ?_
  refine own_gfI K m6_d5 own_w21 (own_cl0) (i := 2) rfl h rfl (fun x2 h => ?_)
  refine own_iaload K m6_d8 h rfl (fun x3 h => ?_)
  refine own_istoreN K m6_d9 (Ls' := [.val (.ref (own_n C + a0)), .val (.int x3)]) rfl rfl ?_
  refine own_aloadN K m6_d10 rfl rfl ?_
  refine own_aloadN K m6_d11 rfl rfl ?_
  refine own_gfI K m6_d12 own_w21 (own_cl0) (i := 2) rfl h rfl (fun x4 h => ?_)
  refine own_iconst K m6_d15 own_ic1 rfl ?_
  refine own_iadd K m6_d16 rfl ?_
  refine own_aloadN K m6_d17 rfl rfl ?_
  refine own_gfR K m6_d18 own_w11 (own_cl0) (i := 0) rfl h rfl (fun x5 h => ?_)
  refine own_alen K m6_d21 (t := 100) rfl h rfl (fun x6 h => ?_)
  refine own_irem K m6_d22 h rfl (fun h => ?_)
  refine own_pf K m6_d23 own_w21 (own_cl0) (i := 2) rfl (Or.inl own_w22) own_w2 (ty := .int) own_fd0_2 (w0 := (.int ((x4 + (1 : Int32)) % x6))) rfl rfl h rfl (fun M7 h => ?_)
  refine own_aloadN K m6_d26 rfl rfl ?_
  refine own_dup K m6_d27 rfl rfl ?_
  refine own_gfI K m6_d28 own_w23 (own_cl0) (i := 3) rfl h rfl (fun x8 h => ?_)
  refine own_iconst K m6_d31 own_ic1 rfl ?_
  refine own_isub K m6_d32 rfl ?_
  refine own_pf K m6_d33 own_w23 (own_cl0) (i := 3) rfl (Or.inl own_w24) own_w2 (ty := .int) own_fd0_3 (w0 := (.int (x8 - (1 : Int32)))) rfl rfl h rfl (fun M9 h => ?_)
  refine own_aloadN K m6_d36 rfl rfl ?_
  refine own_gfR K m6_d37 own_w14 (own_cl0) (i := 1) rfl h rfl (fun x10 h => ?_)
  refine own_iloadN K m6_d40 rfl rfl ?_
  refine own_iconst K m6_d41 own_ic0 rfl ?_
  refine own_bastoreZ K m6_d42 h rfl (fun M11 h => ?_)
  refine own_iloadN K m6_d43 rfl rfl ?_
  exact own_retI K m6_d44 h
set_option maxRecDepth 65536 in
set_option maxHeartbeats 4000000 in
theorem m6_met {a0 : Nat} {M : own_Mem} {q : Int32 × own_Mem} (h : m6 a0 M = some q) : own_Met ⟨"com/example/tablewise/tablewise/propagation/TableQueue", "poll", "()I"⟩ prog_41_method_4_code 2 (some .int) m6_rm [.ref a0] M (some (.int q.1)) q.2 :=
  own_met (Ls := fun n0 => [.val (.ref (n0 + a0)), .unset]) (plainFor_of_name own_pn0) (fun m n0 => by first | (simp [entryFrame, mkF, argsToLocals, Value.category, own_up]; done) | rfl) fun C K => m6_w K h
theorem m7_d0 : decode method_4_code 0 = .ok (.aload_n 0, 1) := by decide +kernel
theorem m7_d1 : decode method_4_code 1 = .ok (.iconst 0, 1) := by decide +kernel
theorem m7_d2 : decode method_4_code 2 = .ok (.aload_n 0, 1) := by decide +kernel
theorem m7_d3 : decode method_4_code 3 = .ok (.iconst 1, 1) := by decide +kernel
theorem m7_d4 : decode method_4_code 4 = .ok (.iaload, 1) := by decide +kernel
theorem m7_d5 : decode method_4_code 5 = .ok (.iastore, 1) := by decide +kernel
theorem m7_d6 : decode method_4_code 6 = .ok (.aload_n 0, 1) := by decide +kernel
theorem m7_d7 : decode method_4_code 7 = .ok (.iconst 1, 1) := by decide +kernel
theorem m7_d8 : decode method_4_code 8 = .ok (.aload_n 0, 1) := by decide +kernel
theorem m7_d9 : decode method_4_code 9 = .ok (.iconst 2, 1) := by decide +kernel
theorem m7_d10 : decode method_4_code 10 = .ok (.iaload, 1) := by decide +kernel
theorem m7_d11 : decode method_4_code 11 = .ok (.iastore, 1) := by decide +kernel
theorem m7_d12 : decode method_4_code 12 = .ok (.aload_n 0, 1) := by decide +kernel
theorem m7_d13 : decode method_4_code 13 = .ok (.iconst 2, 1) := by decide +kernel
theorem m7_d14 : decode method_4_code 14 = .ok (.aload_n 0, 1) := by decide +kernel
theorem m7_d15 : decode method_4_code 15 = .ok (.iconst 3, 1) := by decide +kernel
theorem m7_d16 : decode method_4_code 16 = .ok (.iaload, 1) := by decide +kernel
theorem m7_d17 : decode method_4_code 17 = .ok (.iastore, 1) := by decide +kernel
theorem m7_d18 : decode method_4_code 18 = .ok (.aload_n 0, 1) := by decide +kernel
theorem m7_d19 : decode method_4_code 19 = .ok (.iconst 3, 1) := by decide +kernel
theorem m7_d20 : decode method_4_code 20 = .ok (.aload_n 0, 1) := by decide +kernel
theorem m7_d21 : decode method_4_code 21 = .ok (.iconst 4, 1) := by decide +kernel
theorem m7_d22 : decode method_4_code 22 = .ok (.iaload, 1) := by decide +kernel
theorem m7_d23 : decode method_4_code 23 = .ok (.iastore, 1) := by decide +kernel
theorem m7_d24 : decode method_4_code 24 = .ok (.iload_n 1, 1) := by decide +kernel
theorem m7_d25 : decode method_4_code 25 = .ok (.iconst 1, 1) := by decide +kernel
theorem m7_d26 : decode method_4_code 26 = .ok (.isub, 1) := by decide +kernel
theorem m7_d27 : decode method_4_code 27 = .ok (.ireturn, 1) := by decide +kernel
def m7_rm : Room := { frames := 0, cells := 0, slots := 0, locals := 0 }
set_option maxRecDepth 65536 in
def m7 (a0 : Nat) (i1 : Int32) (M : own_Mem) : Option (Int32 × own_Mem) := (own_ldI 100 M a0 (1 : Int32)).bind fun x1 => (own_sto 100 M a0 (0 : Int32) (.int x1)).bind fun M2 => (own_ldI 100 M2 a0 (2 : Int32)).bind fun x3 => (own_sto 100 M2 a0 (1 : Int32) (.int x3)).bind fun M4 => (own_ldI 100 M4 a0 (3 : Int32)).bind fun x5 => (own_sto 100 M4 a0 (2 : Int32) (.int x5)).bind fun M6 => (own_ldI 100 M6 a0 (4 : Int32)).bind fun x7 => (own_sto 100 M6 a0 (3 : Int32) (.int x7)).bind fun M8 => some ((i1 - (1 : Int32)), M8)
set_option maxRecDepth 65536 in
set_option maxHeartbeats 4000000 in
theorem m7_w {C : own_Ctx} (K : own_K C method_4_code 2 "com/example/tablewise/tablewise/propagation/TableQueueOfferPinLaw" (some .int) "pop" m7_rm) {a0 : Nat} {i1 : Int32} {M : own_Mem} {r : Int32 × own_Mem} (h : m7 a0 i1 M = some r) : own_W C (some (.int r.1)) r.2 M 0 0 0 [.val (.ref (own_n C + a0)), .val (.int i1)] [] := by
  unfold m7 at h
  refine own_aloadN K m7_d0 rfl rfl ?_
  refine own_iconst K m7_d1 own_ic0 rfl ?_
  refine own_aloadN K m7_d2 rfl rfl ?_
  refine own_iconst K m7_d3 own_ic1 rfl ?_
  refine own_iaload K m7_d4 h rfl (fun x1 h => ?_)
  refine own_iastore K m7_d5 h rfl (fun M2 h => ?_)
  refine own_aloadN K m7_d6 rfl rfl ?_
  refine own_iconst K m7_d7 own_ic1 rfl ?_
  refine own_aloadN K m7_d8 rfl rfl ?_
  refine own_iconst K m7_d9 own_ic2 rfl ?_
  refine own_iaload K m7_d10 h rfl (fun x3 h => ?_)
  refine own_iastore K m7_d11 h rfl (fun M4 h => ?_)
  refine own_aloadN K m7_d12 rfl rfl ?_
  refine own_iconst K m7_d13 own_ic2 rfl ?_
  refine own_aloadN K m7_d14 rfl rfl ?_
  refine own_iconst K m7_d15 own_ic3 rfl ?_
  refine own_iaload K m7_d16 h rfl (fun x5 h => ?_)
  refine own_iastore K m7_d17 h rfl (fun M6 h => ?_)
  refine own_aloadN K m7_d18 rfl rfl ?_
  refine own_iconst K m7_d19 own_ic3 rfl ?_
  refine own_aloadN K m7_d20 rfl rfl ?_
  refine own_iconst K m7_d21 own_ic4 rfl ?_
  refine own_iaload K m7_d22 h rfl (fun x7 h => ?_)
  refine own_iastore K m7_d23 h rfl (fun M8 h => ?_)
  refine own_iloadN K m7_d24 rfl rfl ?_
  refine own_iconst K m7_d25 own_ic1 rfl ?_
  refine own_isub K m7_d26 rfl ?_
  exact own_retI K m7_d27 h
set_option maxRecDepth 65536 in
set_option maxHeartbeats 4000000 in
theorem m7_met {a0 : Nat} {i1 : Int32} {M : own_Mem} {q : Int32 × own_Mem} (h : m7 a0 i1 M = some q) : own_Met ⟨"com/example/tablewise/tablewise/propagation/TableQueueOfferPinLaw", "pop", "([II)I"⟩ method_4_code 2 (some .int) m7_rm [.ref a0, .int i1] M (some (.int q.1)) q.2 :=
  own_met (Ls := fun n0 => [.val (.ref (n0 + a0)), .val (.int i1)]) (plainFor_of_name own_pn1) (fun m n0 => by first | (simp [entryFrame, mkF, argsToLocals, Value.category, own_up]; done) | rfl) fun C K => m7_w K h
theorem m8_d0 : decode prog_41_method_3_code 0 = .ok (.aload_n 0, 1) := by decide +kernel
theorem m8_d1 : decode prog_41_method_3_code 1 = .ok (.getfield 21, 3) := by decide +kernel
theorem m8_d4 : decode prog_41_method_3_code 4 = .ok (.ifCond .ne 7, 3) := by decide +kernel
theorem m8_d7 : decode prog_41_method_3_code 7 = .ok (.iconst 1, 1) := by decide +kernel
theorem m8_d8 : decode prog_41_method_3_code 8 = .ok (.goto 4, 3) := by decide +kernel
theorem m8_d11 : decode prog_41_method_3_code 11 = .ok (.iconst 0, 1) := by decide +kernel
theorem m8_d12 : decode prog_41_method_3_code 12 = .ok (.ireturn, 1) := by decide +kernel
def m8_rm : Room := { frames := 0, cells := 0, slots := 0, locals := 0 }
set_option maxRecDepth 65536 in
def m8_b12 (t0 : Int32) (M : own_Mem) : Option (Int32 × own_Mem) := some (nar .boolean t0, M)
set_option maxRecDepth 65536 in
set_option maxHeartbeats 4000000 in
theorem m8_w12 {C : own_Ctx} (K : own_K C prog_41_method_3_code 1 "com/example/tablewise/tablewise/propagation/TableQueue" (some .boolean) "isEmpty" m8_rm) {t0 : Int32} {z0 : Slot} (o0 : own_One z0) {M : own_Mem} {r : Int32 × own_Mem} (h : m8_b12 t0 M = some r) : own_W C (some (.int r.1)) r.2 M 0 0 12 [z0] [.int t0] := by
  unfold m8_b12 at h
  exact own_retN K m8_d12 (by simp) h
set_option maxRecDepth 65536 in
def m8 (a0 : Nat) (M : own_Mem) : Option (Int32 × own_Mem) := (own_getI 0 3 M a0).bind fun x1 => if x1 = 0 then (m8_b12 (1 : Int32) M) else (m8_b12 (0 : Int32) M)
set_option maxRecDepth 65536 in
set_option maxHeartbeats 4000000 in
theorem m8_w {C : own_Ctx} (K : own_K C prog_41_method_3_code 1 "com/example/tablewise/tablewise/propagation/TableQueue" (some .boolean) "isEmpty" m8_rm) {a0 : Nat} {M : own_Mem} {r : Int32 × own_Mem} (h : m8 a0 M = some r) : own_W C (some (.int r.1)) r.2 M 0 0 0 [.val (.ref (own_n C + a0))] [] := by
  unfold m8 at h
  refine own_aloadN K m8_d0 rfl rfl ?_
  refine own_gfI K m8_d1 own_w23 (own_cl0) (i := 3) rfl h rfl (fun x1 h => ?_)
  refine own_zne K m8_d4 h (pc1 := 11) (pc2 := 7) (by decide) rfl (fun h => ?_) (fun h => ?_)
  · refine own_iconst K m8_d11 own_ic0 rfl ?_
    exact m8_w12 K own_one_r h
  · refine own_iconst K m8_d7 own_ic1 rfl ?_
    refine own_goto K m8_d8 (pc' := 12) (by decide) ?_
    exact m8_w12 K own_one_r h
set_option maxRecDepth 65536 in
set_option maxHeartbeats 4000000 in
theorem m8_met {a0 : Nat} {M : own_Mem} {q : Int32 × own_Mem} (h : m8 a0 M = some q) : own_Met ⟨"com/example/tablewise/tablewise/propagation/TableQueue", "isEmpty", "()Z"⟩ prog_41_method_3_code 1 (some .boolean) m8_rm [.ref a0] M (some (.int q.1)) q.2 :=
  own_met (Ls := fun n0 => [.val (.ref (n0 + a0))]) (plainFor_of_name own_pn0) (fun m n0 => by first | (simp [entryFrame, mkF, argsToLocals, Value.category, own_up]; done) | rfl) fun C K => m8_w K h
set_option maxRecDepth 65536 in
def m0_b381 (t0 : Int32) (M : own_Mem) : Option (Int32 × own_Mem) := some (nar .boolean t0, M)
set_option maxRecDepth 65536 in
set_option maxHeartbeats 4000000 in
theorem m0_w381 {C : own_Ctx} (K : own_K C code maxLocals "com/example/tablewise/tablewise/propagation/TableQueueOfferPinLaw" ret "law" room_1) {t0 : Int32} {z0 : Slot} {z1 : Slot} {z2 : Slot} {z3 : Slot} {z4 : Slot} {z5 : Slot} {z6 : Slot} {z7 : Slot} {z8 : Slot} {z9 : Slot} {z10 : Slot} {z11 : Slot} {z12 : Slot} {z13 : Slot} {z14 : Slot} {z15 : Slot} {z16 : Slot} {z17 : Slot} (o0 : own_One z0) (o1 : own_One z1) (o2 : own_One z2) (o3 : own_One z3) (o4 : own_One z4) (o5 : own_One z5) (o6 : own_One z6) (o7 : own_One z7) (o8 : own_One z8) (o9 : own_One z9) (o10 : own_One z10) (o11 : own_One z11) (o12 : own_One z12) (o13 : own_One z13) (o14 : own_One z14) (o15 : own_One z15) (o16 : own_One z16) (o17 : own_One z17) {M : own_Mem} {r : Int32 × own_Mem} (h : m0_b381 t0 M = some r) : own_W C (some (.int r.1)) r.2 M 4 17 381 [z0, z1, z2, z3, z4, z5, z6, z7, z8, z9, z10, z11, z12, z13, z14, z15, z16, z17] [.int t0] := by
  unfold m0_b381 at h
  refine own_istore K at_381 (Ls' := [z0, z1, z2, z3, z4, z5, z6, z7, z8, z9, z10, z11, z12, z13, z14, z15, .val (.int t0), z17]) (own_sto1 rfl o16 rfl rfl) rfl ?_
  refine own_iload K at_383 rfl rfl ?_
  exact own_retN K at_385 (by simp) h
set_option maxRecDepth 65536 in
def m0_b380  (M : own_Mem) : Option (Int32 × own_Mem) := m0_b381 (0 : Int32) M
set_option maxRecDepth 65536 in
set_option maxHeartbeats 4000000 in
theorem m0_w380 {C : own_Ctx} (K : own_K C code maxLocals "com/example/tablewise/tablewise/propagation/TableQueueOfferPinLaw" ret "law" room_1) {z0 : Slot} {z1 : Slot} {z2 : Slot} {z3 : Slot} {z4 : Slot} {z5 : Slot} {z6 : Slot} {z7 : Slot} {z8 : Slot} {z9 : Slot} {z10 : Slot} {z11 : Slot} {z12 : Slot} {z13 : Slot} {z14 : Slot} {z15 : Slot} {z16 : Slot} {z17 : Slot} (o0 : own_One z0) (o1 : own_One z1) (o2 : own_One z2) (o3 : own_One z3) (o4 : own_One z4) (o5 : own_One z5) (o6 : own_One z6) (o7 : own_One z7) (o8 : own_One z8) (o9 : own_One z9) (o10 : own_One z10) (o11 : own_One z11) (o12 : own_One z12) (o13 : own_One z13) (o14 : own_One z14) (o15 : own_One z15) (o16 : own_One z16) (o17 : own_One z17) {M : own_Mem} {r : Int32 × own_Mem} (h : m0_b380  M = some r) : own_W C (some (.int r.1)) r.2 M 4 17 380 [z0, z1, z2, z3, z4, z5, z6, z7, z8, z9, z10, z11, z12, z13, z14, z15, z16, z17] [] := by
  unfold m0_b380 at h
  refine own_iconst K at_380 own_ic0 rfl ?_
  exact m0_w381 K o0 o1 o2 o3 o4 o5 o6 o7 o8 o9 o10 o11 o12 o13 o14 o15 o16 o17 h
set_option maxRecDepth 65536 in
def m0_b363 (a12 : Nat) (i16 : Int32) (M : own_Mem) : Option (Int32 × own_Mem) := if i16 = 0 then (m0_b380 M) else ((own_at M 0 a12).bind fun u2 => (m8 a12 M).bind fun q1 => if q1.1 = 0 then (m0_b380 q1.2) else (m0_b381 (1 : Int32) q1.2))
set_option maxRecDepth 65536 in
set_option maxHeartbeats 4000000 in
theorem m0_w363 {C : own_Ctx} (K : own_K C code maxLocals "com/example/tablewise/tablewise/propagation/TableQueueOfferPinLaw" ret "law" room_1) {a12 : Nat} {i16 : Int32} {z0 : Slot} {z1 : Slot} {z2 : Slot} {z3 : Slot} {z4 : Slot} {z5 : Slot} {z6 : Slot} {z7 : Slot} {z8 : Slot} {z9 : Slot} {z10 : Slot} {z11 : Slot} {z13 : Slot} {z14 : Slot} {z15 : Slot} {z17 : Slot} (o0 : own_One z0) (o1 : own_One z1) (o2 : own_One z2) (o3 : own_One z3) (o4 : own_One z4) (o5 : own_One z5) (o6 : own_One z6) (o7 : own_One z7) (o8 : own_One z8) (o9 : own_One z9) (o10 : own_One z10) (o11 : own_One z11) (o13 : own_One z13) (o14 : own_One z14) (o15 : own_One z15) (o17 : own_One z17) {M : own_Mem} {r : Int32 × own_Mem} (h : m0_b363 a12 i16 M = some r) : own_W C (some (.int r.1)) r.2 M 4 17 363 [z0, z1, z2, z3, z4, z5, z6, z7, z8, z9, z10, z11, .val (.ref (own_n C + a12)), z13, z14, z15, .val (.int i16), z17] [] := by
  unfold m0_b363 at h
  refine own_iload K at_363 rfl rfl ?_
  refine own_zeq K at_365 h (pc1 := 380) (pc2 := 368) (by decide) rfl (fun h => ?_) (fun h => ?_)
  · exact m0_w380 K o0 o1 o2 o3 o4 o5 o6 o7 o8 o9 o10 o11 own_one_r o13 o14 o15 own_one_i o17 h
  · refine own_aload K at_368 rfl rfl ?_
    refine own_bk h (fun u2 hu2 h => ?_)
    refine own_bk h (fun q1 hq1 h => ?_)
    refine own_callV K at_370 own_w40 own_w41 own_w43 own_w42 own_w3 own_w44 (own_cl0) hu2 (a := a12) (argsL := []) (st := []) (by decide) (lenOf own_pd1 rfl) rfl (W := 0) (Nat.le_of_eq rfl) (by decide) (by decide) (cs1 := 4) (ss1 := 17) rfl rfl (by decide) (by decide) rfl rfl (m8_met hq1) (st1 := [.int q1.1]) rfl ?_
    refine own_zeq K at_373 h (pc1 := 380) (pc2 := 376) (by decide) rfl (fun h => ?_) (fun h => ?_)
    · exact m0_w380 K o0 o1 o2 o3 o4 o5 o6 o7 o8 o9 o10 o11 own_one_r o13 o14 o15 own_one_i o17 h
    · refine own_iconst K at_376 own_ic1 rfl ?_
      refine own_goto K at_377 (pc' := 381) (by decide) ?_
      exact m0_w381 K o0 o1 o2 o3 o4 o5 o6 o7 o8 o9 o10 o11 own_one_r o13 o14 o15 own_one_i o17 h
set_option maxRecDepth 65536 in
def m0_b352 (a12 : Nat) (a13 : Nat) (i14 : Int32) (t0 : Int32) (M : own_Mem) : Option (Int32 × own_Mem) := (m7 a13 i14 M).bind fun q3 => m0_b363 a12 t0 q3.2
set_option maxRecDepth 65536 in
set_option maxHeartbeats 4000000 in
theorem m0_w352 {C : own_Ctx} (K : own_K C code maxLocals "com/example/tablewise/tablewise/propagation/TableQueueOfferPinLaw" ret "law" room_1) {a12 : Nat} {a13 : Nat} {i14 : Int32} {t0 : Int32} {z0 : Slot} {z1 : Slot} {z2 : Slot} {z3 : Slot} {z4 : Slot} {z5 : Slot} {z6 : Slot} {z7 : Slot} {z8 : Slot} {z9 : Slot} {z10 : Slot} {z11 : Slot} {z15 : Slot} {z16 : Slot} {z17 : Slot} (o0 : own_One z0) (o1 : own_One z1) (o2 : own_One z2) (o3 : own_One z3) (o4 : own_One z4) (o5 : own_One z5) (o6 : own_One z6) (o7 : own_One z7) (o8 : own_One z8) (o9 : own_One z9) (o10 : own_One z10) (o11 : own_One z11) (o15 : own_One z15) (o16 : own_One z16) (o17 : own_One z17) {M : own_Mem} {r : Int32 × own_Mem} (h : m0_b352 a12 a13 i14 t0 M = some r) : own_W C (some (.int r.1)) r.2 M 4 17 352 [z0, z1, z2, z3, z4, z5, z6, z7, z8, z9, z10, z11, .val (.ref (own_n C + a12)), .val (.ref (own_n C + a13)), .val (.int i14), z15, z16, z17] [.int t0] := by
  unfold m0_b352 at h
  refine own_istore K at_352 (Ls' := [z0, z1, z2, z3, z4, z5, z6, z7, z8, z9, z10, z11, .val (.ref (own_n C + a12)), .val (.ref (own_n C + a13)), .val (.int i14), z15, .val (.int t0), z17]) (own_sto1 rfl o16 rfl rfl) rfl ?_
  refine own_aload K at_354 rfl rfl ?_
  refine own_iload K at_356 rfl rfl ?_
  refine own_bk h (fun q3 hq3 h => ?_)
  refine own_callS K at_358 own_w37 own_w38 own_w27 own_w39 (argsL := [.ref a13, .int i14]) (st := []) (by decide) (lenOf own_pd2 rfl) rfl (W := 0) (Nat.le_of_eq rfl) (by decide) (by decide) (cs1 := 4) (ss1 := 17) rfl rfl (by decide) (by decide) rfl rfl (m7_met hq3) (st1 := [.int q3.1]) rfl ?_
  refine own_istore K at_361 (Ls' := [z0, z1, z2, z3, z4, z5, z6, z7, z8, z9, z10, z11, .val (.ref (own_n C + a12)), .val (.ref (own_n C + a13)), .val (.int q3.1), z15, .val (.int t0), z17]) rfl rfl ?_
  exact m0_w363 K o0 o1 o2 o3 o4 o5 o6 o7 o8 o9 o10 o11 own_one_r own_one_i o15 o17 h
set_option maxRecDepth 65536 in
def m0_b351 (a12 : Nat) (a13 : Nat) (i14 : Int32) (M : own_Mem) : Option (Int32 × own_Mem) := m0_b352 a12 a13 i14 (0 : Int32) M
set_option maxRecDepth 65536 in
set_option maxHeartbeats 4000000 in
theorem m0_w351 {C : own_Ctx} (K : own_K C code maxLocals "com/example/tablewise/tablewise/propagation/TableQueueOfferPinLaw" ret "law" room_1) {a12 : Nat} {a13 : Nat} {i14 : Int32} {z0 : Slot} {z1 : Slot} {z2 : Slot} {z3 : Slot} {z4 : Slot} {z5 : Slot} {z6 : Slot} {z7 : Slot} {z8 : Slot} {z9 : Slot} {z10 : Slot} {z11 : Slot} {z15 : Slot} {z16 : Slot} {z17 : Slot} (o0 : own_One z0) (o1 : own_One z1) (o2 : own_One z2) (o3 : own_One z3) (o4 : own_One z4) (o5 : own_One z5) (o6 : own_One z6) (o7 : own_One z7) (o8 : own_One z8) (o9 : own_One z9) (o10 : own_One z10) (o11 : own_One z11) (o15 : own_One z15) (o16 : own_One z16) (o17 : own_One z17) {M : own_Mem} {r : Int32 × own_Mem} (h : m0_b351 a12 a13 i14 M = some r) : own_W C (some (.int r.1)) r.2 M 4 17 351 [z0, z1, z2, z3, z4, z5, z6, z7, z8, z9, z10, z11, .val (.ref (own_n C + a12)), .val (.ref (own_n C + a13)), .val (.int i14), z15, z16, z17] [] := by
  unfold m0_b351 at h
  refine own_iconst K at_351 own_ic0 rfl ?_
  exact m0_w352 K o0 o1 o2 o3 o4 o5 o6 o7 o8 o9 o10 o11 o15 o16 o17 h
set_option maxRecDepth 65536 in
def m0_b321 (a12 : Nat) (a13 : Nat) (i14 : Int32) (i16 : Int32) (M : own_Mem) : Option (Int32 × own_Mem) := if 0 < i14 then ((own_at M 0 a12).bind fun u5 => (m6 a12 M).bind fun q4 => if i16 = 0 then (m0_b351 a12 a13 i14 q4.2) else ((own_ldI 100 q4.2 a13 (0 : Int32)).bind fun x6 => if q4.1 = x6 then (m0_b352 a12 a13 i14 (1 : Int32) q4.2) else (m0_b351 a12 a13 i14 q4.2))) else (m0_b363 a12 i16 M)
set_option maxRecDepth 65536 in
set_option maxHeartbeats 4000000 in
theorem m0_w321 {C : own_Ctx} (K : own_K C code maxLocals "com/example/tablewise/tablewise/propagation/TableQueueOfferPinLaw" ret "law" room_1) {a12 : Nat} {a13 : Nat} {i14 : Int32} {i16 : Int32} {z0 : Slot} {z1 : Slot} {z2 : Slot} {z3 : Slot} {z4 : Slot} {z5 : Slot} {z6 : Slot} {z7 : Slot} {z8 : Slot} {z9 : Slot} {z10 : Slot} {z11 : Slot} {z15 : Slot} {z17 : Slot} (o0 : own_One z0) (o1 : own_One z1) (o2 : own_One z2) (o3 : own_One z3) (o4 : own_One z4) (o5 : own_One z5) (o6 : own_One z6) (o7 : own_One z7) (o8 : own_One z8) (o9 : own_One z9) (o10 : own_One z10) (o11 : own_One z11) (o15 : own_One z15) (o17 : own_One z17) {M : own_Mem} {r : Int32 × own_Mem} (h : m0_b321 a12 a13 i14 i16 M = some r) : own_W C (some (.int r.1)) r.2 M 4 17 321 [z0, z1, z2, z3, z4, z5, z6, z7, z8, z9, z10, z11, .val (.ref (own_n C + a12)), .val (.ref (own_n C + a13)), .val (.int i14), z15, .val (.int i16), z17] [] := by
  unfold m0_b321 at h
  refine own_iload K at_321 rfl rfl ?_
  refine own_zle K at_323 h (pc1 := 363) (pc2 := 326) (by decide) rfl (fun h => ?_) (fun h => ?_)
  · exact m0_w363 K o0 o1 o2 o3 o4 o5 o6 o7 o8 o9 o10 o11 own_one_r own_one_i o15 o17 h
  · refine own_aload K at_326 rfl rfl ?_
    refine own_bk h (fun u5 hu5 h => ?_)
    refine own_bk h (fun q4 hq4 h => ?_)
    refine own_callV K at_328 own_w32 own_w33 own_w35 own_w34 own_w3 own_w36 (own_cl0) hu5 (a := a12) (argsL := []) (st := []) (by decide) (lenOf own_pd3 rfl) rfl (W := 0) (Nat.le_of_eq rfl) (by decide) (by decide) (cs1 := 4) (ss1 := 17) rfl rfl (by decide) (by decide) rfl rfl (m6_met hq4) (st1 := [.int q4.1]) rfl ?_
    refine own_istore K at_331 (Ls' := [z0, z1, z2, z3, z4, z5, z6, z7, z8, z9, z10, z11, .val (.ref (own_n C + a12)), .val (.ref (own_n C + a13)), .val (.int i14), z15, .val (.int i16), .val (.int q4.1)]) (own_sto1 rfl o17 rfl rfl) rfl ?_
    refine own_iload K at_333 rfl rfl ?_
    refine own_zeq K at_335 h (pc1 := 351) (pc2 := 338) (by decide) rfl (fun h => ?_) (fun h => ?_)
    · exact m0_w351 K o0 o1 o2 o3 o4 o5 o6 o7 o8 o9 o10 o11 o15 own_one_i own_one_i h
    · refine own_iload K at_338 rfl rfl ?_
      refine own_aload K at_340 rfl rfl ?_
      refine own_iconst K at_342 own_ic0 rfl ?_
      refine own_iaload K at_343 h rfl (fun x6 h => ?_)
      refine own_ine K at_344 h (pc1 := 351) (pc2 := 347) (by decide) rfl (fun h => ?_) (fun h => ?_)
      · exact m0_w351 K o0 o1 o2 o3 o4 o5 o6 o7 o8 o9 o10 o11 o15 own_one_i own_one_i h
      · refine own_iconst K at_347 own_ic1 rfl ?_
        refine own_goto K at_348 (pc' := 352) (by decide) ?_
        exact m0_w352 K o0 o1 o2 o3 o4 o5 o6 o7 o8 o9 o10 o11 o15 own_one_i own_one_i h
set_option maxRecDepth 65536 in
def m0_b310 (a12 : Nat) (a13 : Nat) (i14 : Int32) (t0 : Int32) (M : own_Mem) : Option (Int32 × own_Mem) := (m7 a13 i14 M).bind fun q7 => m0_b321 a12 a13 q7.1 t0 q7.2
set_option maxRecDepth 65536 in
set_option maxHeartbeats 4000000 in
theorem m0_w310 {C : own_Ctx} (K : own_K C code maxLocals "com/example/tablewise/tablewise/propagation/TableQueueOfferPinLaw" ret "law" room_1) {a12 : Nat} {a13 : Nat} {i14 : Int32} {t0 : Int32} {z0 : Slot} {z1 : Slot} {z2 : Slot} {z3 : Slot} {z4 : Slot} {z5 : Slot} {z6 : Slot} {z7 : Slot} {z8 : Slot} {z9 : Slot} {z10 : Slot} {z11 : Slot} {z15 : Slot} {z16 : Slot} {z17 : Slot} (o0 : own_One z0) (o1 : own_One z1) (o2 : own_One z2) (o3 : own_One z3) (o4 : own_One z4) (o5 : own_One z5) (o6 : own_One z6) (o7 : own_One z7) (o8 : own_One z8) (o9 : own_One z9) (o10 : own_One z10) (o11 : own_One z11) (o15 : own_One z15) (o16 : own_One z16) (o17 : own_One z17) {M : own_Mem} {r : Int32 × own_Mem} (h : m0_b310 a12 a13 i14 t0 M = some r) : own_W C (some (.int r.1)) r.2 M 4 17 310 [z0, z1, z2, z3, z4, z5, z6, z7, z8, z9, z10, z11, .val (.ref (own_n C + a12)), .val (.ref (own_n C + a13)), .val (.int i14), z15, z16, z17] [.int t0] := by
  unfold m0_b310 at h
  refine own_istore K at_310 (Ls' := [z0, z1, z2, z3, z4, z5, z6, z7, z8, z9, z10, z11, .val (.ref (own_n C + a12)), .val (.ref (own_n C + a13)), .val (.int i14), z15, .val (.int t0), z17]) (own_sto1 rfl o16 rfl rfl) rfl ?_
  refine own_aload K at_312 rfl rfl ?_
  refine own_iload K at_314 rfl rfl ?_
  refine own_bk h (fun q7 hq7 h => ?_)
  refine own_callS K at_316 own_w37 own_w38 own_w27 own_w39 (argsL := [.ref a13, .int i14]) (st := []) (by decide) (lenOf own_pd2 rfl) rfl (W := 0) (Nat.le_of_eq rfl) (by decide) (by decide) (cs1 := 4) (ss1 := 17) rfl rfl (by decide) (by decide) rfl rfl (m7_met hq7) (st1 := [.int q7.1]) rfl ?_
  refine own_istore K at_319 (Ls' := [z0, z1, z2, z3, z4, z5, z6, z7, z8, z9, z10, z11, .val (.ref (own_n C + a12)), .val (.ref (own_n C + a13)), .val (.int q7.1), z15, .val (.int t0), z17]) rfl rfl ?_
  exact m0_w321 K o0 o1 o2 o3 o4 o5 o6 o7 o8 o9 o10 o11 o15 o17 h
set_option maxRecDepth 65536 in
def m0_b309 (a12 : Nat) (a13 : Nat) (i14 : Int32) (M : own_Mem) : Option (Int32 × own_Mem) := m0_b310 a12 a13 i14 (0 : Int32) M
set_option maxRecDepth 65536 in
set_option maxHeartbeats 4000000 in
theorem m0_w309 {C : own_Ctx} (K : own_K C code maxLocals "com/example/tablewise/tablewise/propagation/TableQueueOfferPinLaw" ret "law" room_1) {a12 : Nat} {a13 : Nat} {i14 : Int32} {z0 : Slot} {z1 : Slot} {z2 : Slot} {z3 : Slot} {z4 : Slot} {z5 : Slot} {z6 : Slot} {z7 : Slot} {z8 : Slot} {z9 : Slot} {z10 : Slot} {z11 : Slot} {z15 : Slot} {z16 : Slot} {z17 : Slot} (o0 : own_One z0) (o1 : own_One z1) (o2 : own_One z2) (o3 : own_One z3) (o4 : own_One z4) (o5 : own_One z5) (o6 : own_One z6) (o7 : own_One z7) (o8 : own_One z8) (o9 : own_One z9) (o10 : own_One z10) (o11 : own_One z11) (o15 : own_One z15) (o16 : own_One z16) (o17 : own_One z17) {M : own_Mem} {r : Int32 × own_Mem} (h : m0_b309 a12 a13 i14 M = some r) : own_W C (some (.int r.1)) r.2 M 4 17 309 [z0, z1, z2, z3, z4, z5, z6, z7, z8, z9, z10, z11, .val (.ref (own_n C + a12)), .val (.ref (own_n C + a13)), .val (.int i14), z15, z16, z17] [] := by
  unfold m0_b309 at h
  refine own_iconst K at_309 own_ic0 rfl ?_
  exact m0_w310 K o0 o1 o2 o3 o4 o5 o6 o7 o8 o9 o10 o11 o15 o16 o17 h
set_option maxRecDepth 65536 in
def m0_b279 (a12 : Nat) (a13 : Nat) (i14 : Int32) (i16 : Int32) (M : own_Mem) : Option (Int32 × own_Mem) := if 0 < i14 then ((own_at M 0 a12).bind fun u9 => (m6 a12 M).bind fun q8 => if i16 = 0 then (m0_b309 a12 a13 i14 q8.2) else ((own_ldI 100 q8.2 a13 (0 : Int32)).bind fun x10 => if q8.1 = x10 then (m0_b310 a12 a13 i14 (1 : Int32) q8.2) else (m0_b309 a12 a13 i14 q8.2))) else (m0_b321 a12 a13 i14 i16 M)
set_option maxRecDepth 65536 in
set_option maxHeartbeats 4000000 in
theorem m0_w279 {C : own_Ctx} (K : own_K C code maxLocals "com/example/tablewise/tablewise/propagation/TableQueueOfferPinLaw" ret "law" room_1) {a12 : Nat} {a13 : Nat} {i14 : Int32} {i16 : Int32} {z0 : Slot} {z1 : Slot} {z2 : Slot} {z3 : Slot} {z4 : Slot} {z5 : Slot} {z6 : Slot} {z7 : Slot} {z8 : Slot} {z9 : Slot} {z10 : Slot} {z11 : Slot} {z15 : Slot} {z17 : Slot} (o0 : own_One z0) (o1 : own_One z1) (o2 : own_One z2) (o3 : own_One z3) (o4 : own_One z4) (o5 : own_One z5) (o6 : own_One z6) (o7 : own_One z7) (o8 : own_One z8) (o9 : own_One z9) (o10 : own_One z10) (o11 : own_One z11) (o15 : own_One z15) (o17 : own_One z17) {M : own_Mem} {r : Int32 × own_Mem} (h : m0_b279 a12 a13 i14 i16 M = some r) : own_W C (some (.int r.1)) r.2 M 4 17 279 [z0, z1, z2, z3, z4, z5, z6, z7, z8, z9, z10, z11, .val (.ref (own_n C + a12)), .val (.ref (own_n C + a13)), .val (.int i14), z15, .val (.int i16), z17] [] := by
  unfold m0_b279 at h
  refine own_iload K at_279 rfl rfl ?_
  refine own_zle K at_281 h (pc1 := 321) (pc2 := 284) (by decide) rfl (fun h => ?_) (fun h => ?_)
  · exact m0_w321 K o0 o1 o2 o3 o4 o5 o6 o7 o8 o9 o10 o11 o15 o17 h
  · refine own_aload K at_284 rfl rfl ?_
    refine own_bk h (fun u9 hu9 h => ?_)
    refine own_bk h (fun q8 hq8 h => ?_)
    refine own_callV K at_286 own_w32 own_w33 own_w35 own_w34 own_w3 own_w36 (own_cl0) hu9 (a := a12) (argsL := []) (st := []) (by decide) (lenOf own_pd3 rfl) rfl (W := 0) (Nat.le_of_eq rfl) (by decide) (by decide) (cs1 := 4) (ss1 := 17) rfl rfl (by decide) (by decide) rfl rfl (m6_met hq8) (st1 := [.int q8.1]) rfl ?_
    refine own_istore K at_289 (Ls' := [z0, z1, z2, z3, z4, z5, z6, z7, z8, z9, z10, z11, .val (.ref (own_n C + a12)), .val (.ref (own_n C + a13)), .val (.int i14), z15, .val (.int i16), .val (.int q8.1)]) (own_sto1 rfl o17 rfl rfl) rfl ?_
    refine own_iload K at_291 rfl rfl ?_
    refine own_zeq K at_293 h (pc1 := 309) (pc2 := 296) (by decide) rfl (fun h => ?_) (fun h => ?_)
    · exact m0_w309 K o0 o1 o2 o3 o4 o5 o6 o7 o8 o9 o10 o11 o15 own_one_i own_one_i h
    · refine own_iload K at_296 rfl rfl ?_
      refine own_aload K at_298 rfl rfl ?_
      refine own_iconst K at_300 own_ic0 rfl ?_
      refine own_iaload K at_301 h rfl (fun x10 h => ?_)
      refine own_ine K at_302 h (pc1 := 309) (pc2 := 305) (by decide) rfl (fun h => ?_) (fun h => ?_)
      · exact m0_w309 K o0 o1 o2 o3 o4 o5 o6 o7 o8 o9 o10 o11 o15 own_one_i own_one_i h
      · refine own_iconst K at_305 own_ic1 rfl ?_
        refine own_goto K at_306 (pc' := 310) (by decide) ?_
        exact m0_w310 K o0 o1 o2 o3 o4 o5 o6 o7 o8 o9 o10 o11 o15 own_one_i own_one_i h
set_option maxRecDepth 65536 in
def m0_b268 (a12 : Nat) (a13 : Nat) (i14 : Int32) (t0 : Int32) (M : own_Mem) : Option (Int32 × own_Mem) := (m7 a13 i14 M).bind fun q11 => m0_b279 a12 a13 q11.1 t0 q11.2
set_option maxRecDepth 65536 in
set_option maxHeartbeats 4000000 in
theorem m0_w268 {C : own_Ctx} (K : own_K C code maxLocals "com/example/tablewise/tablewise/propagation/TableQueueOfferPinLaw" ret "law" room_1) {a12 : Nat} {a13 : Nat} {i14 : Int32} {t0 : Int32} {z0 : Slot} {z1 : Slot} {z2 : Slot} {z3 : Slot} {z4 : Slot} {z5 : Slot} {z6 : Slot} {z7 : Slot} {z8 : Slot} {z9 : Slot} {z10 : Slot} {z11 : Slot} {z15 : Slot} {z16 : Slot} {z17 : Slot} (o0 : own_One z0) (o1 : own_One z1) (o2 : own_One z2) (o3 : own_One z3) (o4 : own_One z4) (o5 : own_One z5) (o6 : own_One z6) (o7 : own_One z7) (o8 : own_One z8) (o9 : own_One z9) (o10 : own_One z10) (o11 : own_One z11) (o15 : own_One z15) (o16 : own_One z16) (o17 : own_One z17) {M : own_Mem} {r : Int32 × own_Mem} (h : m0_b268 a12 a13 i14 t0 M = some r) : own_W C (some (.int r.1)) r.2 M 4 17 268 [z0, z1, z2, z3, z4, z5, z6, z7, z8, z9, z10, z11, .val (.ref (own_n C + a12)), .val (.ref (own_n C + a13)), .val (.int i14), z15, z16, z17] [.int t0] := by
  unfold m0_b268 at h
  refine own_istore K at_268 (Ls' := [z0, z1, z2, z3, z4, z5, z6, z7, z8, z9, z10, z11, .val (.ref (own_n C + a12)), .val (.ref (own_n C + a13)), .val (.int i14), z15, .val (.int t0), z17]) (own_sto1 rfl o16 rfl rfl) rfl ?_
  refine own_aload K at_270 rfl rfl ?_
  refine own_iload K at_272 rfl rfl ?_
  refine own_bk h (fun q11 hq11 h => ?_)
  refine own_callS K at_274 own_w37 own_w38 own_w27 own_w39 (argsL := [.ref a13, .int i14]) (st := []) (by decide) (lenOf own_pd2 rfl) rfl (W := 0) (Nat.le_of_eq rfl) (by decide) (by decide) (cs1 := 4) (ss1 := 17) rfl rfl (by decide) (by decide) rfl rfl (m7_met hq11) (st1 := [.int q11.1]) rfl ?_
  refine own_istore K at_277 (Ls' := [z0, z1, z2, z3, z4, z5, z6, z7, z8, z9, z10, z11, .val (.ref (own_n C + a12)), .val (.ref (own_n C + a13)), .val (.int q11.1), z15, .val (.int t0), z17]) rfl rfl ?_
  exact m0_w279 K o0 o1 o2 o3 o4 o5 o6 o7 o8 o9 o10 o11 o15 o17 h
set_option maxRecDepth 65536 in
def m0_b267 (a12 : Nat) (a13 : Nat) (i14 : Int32) (M : own_Mem) : Option (Int32 × own_Mem) := m0_b268 a12 a13 i14 (0 : Int32) M
set_option maxRecDepth 65536 in
set_option maxHeartbeats 4000000 in
theorem m0_w267 {C : own_Ctx} (K : own_K C code maxLocals "com/example/tablewise/tablewise/propagation/TableQueueOfferPinLaw" ret "law" room_1) {a12 : Nat} {a13 : Nat} {i14 : Int32} {z0 : Slot} {z1 : Slot} {z2 : Slot} {z3 : Slot} {z4 : Slot} {z5 : Slot} {z6 : Slot} {z7 : Slot} {z8 : Slot} {z9 : Slot} {z10 : Slot} {z11 : Slot} {z15 : Slot} {z16 : Slot} {z17 : Slot} (o0 : own_One z0) (o1 : own_One z1) (o2 : own_One z2) (o3 : own_One z3) (o4 : own_One z4) (o5 : own_One z5) (o6 : own_One z6) (o7 : own_One z7) (o8 : own_One z8) (o9 : own_One z9) (o10 : own_One z10) (o11 : own_One z11) (o15 : own_One z15) (o16 : own_One z16) (o17 : own_One z17) {M : own_Mem} {r : Int32 × own_Mem} (h : m0_b267 a12 a13 i14 M = some r) : own_W C (some (.int r.1)) r.2 M 4 17 267 [z0, z1, z2, z3, z4, z5, z6, z7, z8, z9, z10, z11, .val (.ref (own_n C + a12)), .val (.ref (own_n C + a13)), .val (.int i14), z15, z16, z17] [] := by
  unfold m0_b267 at h
  refine own_iconst K at_267 own_ic0 rfl ?_
  exact m0_w268 K o0 o1 o2 o3 o4 o5 o6 o7 o8 o9 o10 o11 o15 o16 o17 h
set_option maxRecDepth 65536 in
def m0_b237 (a12 : Nat) (a13 : Nat) (i14 : Int32) (i16 : Int32) (M : own_Mem) : Option (Int32 × own_Mem) := if 0 < i14 then ((own_at M 0 a12).bind fun u13 => (m6 a12 M).bind fun q12 => if i16 = 0 then (m0_b267 a12 a13 i14 q12.2) else ((own_ldI 100 q12.2 a13 (0 : Int32)).bind fun x14 => if q12.1 = x14 then (m0_b268 a12 a13 i14 (1 : Int32) q12.2) else (m0_b267 a12 a13 i14 q12.2))) else (m0_b279 a12 a13 i14 i16 M)
set_option maxRecDepth 65536 in
set_option maxHeartbeats 4000000 in
theorem m0_w237 {C : own_Ctx} (K : own_K C code maxLocals "com/example/tablewise/tablewise/propagation/TableQueueOfferPinLaw" ret "law" room_1) {a12 : Nat} {a13 : Nat} {i14 : Int32} {i16 : Int32} {z0 : Slot} {z1 : Slot} {z2 : Slot} {z3 : Slot} {z4 : Slot} {z5 : Slot} {z6 : Slot} {z7 : Slot} {z8 : Slot} {z9 : Slot} {z10 : Slot} {z11 : Slot} {z15 : Slot} {z17 : Slot} (o0 : own_One z0) (o1 : own_One z1) (o2 : own_One z2) (o3 : own_One z3) (o4 : own_One z4) (o5 : own_One z5) (o6 : own_One z6) (o7 : own_One z7) (o8 : own_One z8) (o9 : own_One z9) (o10 : own_One z10) (o11 : own_One z11) (o15 : own_One z15) (o17 : own_One z17) {M : own_Mem} {r : Int32 × own_Mem} (h : m0_b237 a12 a13 i14 i16 M = some r) : own_W C (some (.int r.1)) r.2 M 4 17 237 [z0, z1, z2, z3, z4, z5, z6, z7, z8, z9, z10, z11, .val (.ref (own_n C + a12)), .val (.ref (own_n C + a13)), .val (.int i14), z15, .val (.int i16), z17] [] := by
  unfold m0_b237 at h
  refine own_iload K at_237 rfl rfl ?_
  refine own_zle K at_239 h (pc1 := 279) (pc2 := 242) (by decide) rfl (fun h => ?_) (fun h => ?_)
  · exact m0_w279 K o0 o1 o2 o3 o4 o5 o6 o7 o8 o9 o10 o11 o15 o17 h
  · refine own_aload K at_242 rfl rfl ?_
    refine own_bk h (fun u13 hu13 h => ?_)
    refine own_bk h (fun q12 hq12 h => ?_)
    refine own_callV K at_244 own_w32 own_w33 own_w35 own_w34 own_w3 own_w36 (own_cl0) hu13 (a := a12) (argsL := []) (st := []) (by decide) (lenOf own_pd3 rfl) rfl (W := 0) (Nat.le_of_eq rfl) (by decide) (by decide) (cs1 := 4) (ss1 := 17) rfl rfl (by decide) (by decide) rfl rfl (m6_met hq12) (st1 := [.int q12.1]) rfl ?_
    refine own_istore K at_247 (Ls' := [z0, z1, z2, z3, z4, z5, z6, z7, z8, z9, z10, z11, .val (.ref (own_n C + a12)), .val (.ref (own_n C + a13)), .val (.int i14), z15, .val (.int i16), .val (.int q12.1)]) (own_sto1 rfl o17 rfl rfl) rfl ?_
    refine own_iload K at_249 rfl rfl ?_
    refine own_zeq K at_251 h (pc1 := 267) (pc2 := 254) (by decide) rfl (fun h => ?_) (fun h => ?_)
    · exact m0_w267 K o0 o1 o2 o3 o4 o5 o6 o7 o8 o9 o10 o11 o15 own_one_i own_one_i h
    · refine own_iload K at_254 rfl rfl ?_
      refine own_aload K at_256 rfl rfl ?_
      refine own_iconst K at_258 own_ic0 rfl ?_
      refine own_iaload K at_259 h rfl (fun x14 h => ?_)
      refine own_ine K at_260 h (pc1 := 267) (pc2 := 263) (by decide) rfl (fun h => ?_) (fun h => ?_)
      · exact m0_w267 K o0 o1 o2 o3 o4 o5 o6 o7 o8 o9 o10 o11 o15 own_one_i own_one_i h
      · refine own_iconst K at_263 own_ic1 rfl ?_
        refine own_goto K at_264 (pc' := 268) (by decide) ?_
        exact m0_w268 K o0 o1 o2 o3 o4 o5 o6 o7 o8 o9 o10 o11 o15 own_one_i own_one_i h
set_option maxRecDepth 65536 in
def m0_b226 (a12 : Nat) (a13 : Nat) (i14 : Int32) (t0 : Int32) (M : own_Mem) : Option (Int32 × own_Mem) := (m7 a13 i14 M).bind fun q15 => m0_b237 a12 a13 q15.1 t0 q15.2
set_option maxRecDepth 65536 in
set_option maxHeartbeats 4000000 in
theorem m0_w226 {C : own_Ctx} (K : own_K C code maxLocals "com/example/tablewise/tablewise/propagation/TableQueueOfferPinLaw" ret "law" room_1) {a12 : Nat} {a13 : Nat} {i14 : Int32} {t0 : Int32} {z0 : Slot} {z1 : Slot} {z2 : Slot} {z3 : Slot} {z4 : Slot} {z5 : Slot} {z6 : Slot} {z7 : Slot} {z8 : Slot} {z9 : Slot} {z10 : Slot} {z11 : Slot} {z15 : Slot} {z16 : Slot} {z17 : Slot} (o0 : own_One z0) (o1 : own_One z1) (o2 : own_One z2) (o3 : own_One z3) (o4 : own_One z4) (o5 : own_One z5) (o6 : own_One z6) (o7 : own_One z7) (o8 : own_One z8) (o9 : own_One z9) (o10 : own_One z10) (o11 : own_One z11) (o15 : own_One z15) (o16 : own_One z16) (o17 : own_One z17) {M : own_Mem} {r : Int32 × own_Mem} (h : m0_b226 a12 a13 i14 t0 M = some r) : own_W C (some (.int r.1)) r.2 M 4 17 226 [z0, z1, z2, z3, z4, z5, z6, z7, z8, z9, z10, z11, .val (.ref (own_n C + a12)), .val (.ref (own_n C + a13)), .val (.int i14), z15, z16, z17] [.int t0] := by
  unfold m0_b226 at h
  refine own_istore K at_226 (Ls' := [z0, z1, z2, z3, z4, z5, z6, z7, z8, z9, z10, z11, .val (.ref (own_n C + a12)), .val (.ref (own_n C + a13)), .val (.int i14), z15, .val (.int t0), z17]) (own_sto1 rfl o16 rfl rfl) rfl ?_
  refine own_aload K at_228 rfl rfl ?_
  refine own_iload K at_230 rfl rfl ?_
  refine own_bk h (fun q15 hq15 h => ?_)
  refine own_callS K at_232 own_w37 own_w38 own_w27 own_w39 (argsL := [.ref a13, .int i14]) (st := []) (by decide) (lenOf own_pd2 rfl) rfl (W := 0) (Nat.le_of_eq rfl) (by decide) (by decide) (cs1 := 4) (ss1 := 17) rfl rfl (by decide) (by decide) rfl rfl (m7_met hq15) (st1 := [.int q15.1]) rfl ?_
  refine own_istore K at_235 (Ls' := [z0, z1, z2, z3, z4, z5, z6, z7, z8, z9, z10, z11, .val (.ref (own_n C + a12)), .val (.ref (own_n C + a13)), .val (.int q15.1), z15, .val (.int t0), z17]) rfl rfl ?_
  exact m0_w237 K o0 o1 o2 o3 o4 o5 o6 o7 o8 o9 o10 o11 o15 o17 h
set_option maxRecDepth 65536 in
def m0_b221 (a12 : Nat) (a13 : Nat) (i14 : Int32) (M : own_Mem) : Option (Int32 × own_Mem) := m0_b226 a12 a13 i14 (1 : Int32) M
set_option maxRecDepth 65536 in
set_option maxHeartbeats 4000000 in
theorem m0_w221 {C : own_Ctx} (K : own_K C code maxLocals "com/example/tablewise/tablewise/propagation/TableQueueOfferPinLaw" ret "law" room_1) {a12 : Nat} {a13 : Nat} {i14 : Int32} {z0 : Slot} {z1 : Slot} {z2 : Slot} {z3 : Slot} {z4 : Slot} {z5 : Slot} {z6 : Slot} {z7 : Slot} {z8 : Slot} {z9 : Slot} {z10 : Slot} {z11 : Slot} {z15 : Slot} {z16 : Slot} {z17 : Slot} (o0 : own_One z0) (o1 : own_One z1) (o2 : own_One z2) (o3 : own_One z3) (o4 : own_One z4) (o5 : own_One z5) (o6 : own_One z6) (o7 : own_One z7) (o8 : own_One z8) (o9 : own_One z9) (o10 : own_One z10) (o11 : own_One z11) (o15 : own_One z15) (o16 : own_One z16) (o17 : own_One z17) {M : own_Mem} {r : Int32 × own_Mem} (h : m0_b221 a12 a13 i14 M = some r) : own_W C (some (.int r.1)) r.2 M 4 17 221 [z0, z1, z2, z3, z4, z5, z6, z7, z8, z9, z10, z11, .val (.ref (own_n C + a12)), .val (.ref (own_n C + a13)), .val (.int i14), z15, z16, z17] [] := by
  unfold m0_b221 at h
  refine own_iconst K at_221 own_ic1 rfl ?_
  refine own_goto K at_222 (pc' := 226) (by decide) ?_
  exact m0_w226 K o0 o1 o2 o3 o4 o5 o6 o7 o8 o9 o10 o11 o15 o16 o17 h
set_option maxRecDepth 65536 in
def m0_b225 (a12 : Nat) (a13 : Nat) (i14 : Int32) (M : own_Mem) : Option (Int32 × own_Mem) := m0_b226 a12 a13 i14 (0 : Int32) M
set_option maxRecDepth 65536 in
set_option maxHeartbeats 4000000 in
theorem m0_w225 {C : own_Ctx} (K : own_K C code maxLocals "com/example/tablewise/tablewise/propagation/TableQueueOfferPinLaw" ret "law" room_1) {a12 : Nat} {a13 : Nat} {i14 : Int32} {z0 : Slot} {z1 : Slot} {z2 : Slot} {z3 : Slot} {z4 : Slot} {z5 : Slot} {z6 : Slot} {z7 : Slot} {z8 : Slot} {z9 : Slot} {z10 : Slot} {z11 : Slot} {z15 : Slot} {z16 : Slot} {z17 : Slot} (o0 : own_One z0) (o1 : own_One z1) (o2 : own_One z2) (o3 : own_One z3) (o4 : own_One z4) (o5 : own_One z5) (o6 : own_One z6) (o7 : own_One z7) (o8 : own_One z8) (o9 : own_One z9) (o10 : own_One z10) (o11 : own_One z11) (o15 : own_One z15) (o16 : own_One z16) (o17 : own_One z17) {M : own_Mem} {r : Int32 × own_Mem} (h : m0_b225 a12 a13 i14 M = some r) : own_W C (some (.int r.1)) r.2 M 4 17 225 [z0, z1, z2, z3, z4, z5, z6, z7, z8, z9, z10, z11, .val (.ref (own_n C + a12)), .val (.ref (own_n C + a13)), .val (.int i14), z15, z16, z17] [] := by
  unfold m0_b225 at h
  refine own_iconst K at_225 own_ic0 rfl ?_
  exact m0_w226 K o0 o1 o2 o3 o4 o5 o6 o7 o8 o9 o10 o11 o15 o16 o17 h
set_option maxRecDepth 65536 in
def m0_b148 (i10 : Int32) (i11 : Int32) (a12 : Nat) (a13 : Nat) (i14 : Int32) (t0 : Int32) (M : own_Mem) : Option (Int32 × own_Mem) := (m7 a13 i14 M).bind fun q16 => (own_at q16.2 0 a12).bind fun u18 => (m3 a12 i10 q16.2).bind fun q17 => (m4 a13 q16.1 i10 q17.2).bind fun q19 => (own_at q19.2 0 a12).bind fun u21 => (m3 a12 i11 q19.2).bind fun q20 => (m4 a13 q19.1 i11 q20.2).bind fun q22 => if 0 < q22.1 then ((own_at q22.2 0 a12).bind fun u24 => (m6 a12 q22.2).bind fun q23 => if t0 = 0 then (m0_b225 a12 a13 q22.1 q23.2) else ((own_ldI 100 q23.2 a13 (0 : Int32)).bind fun x25 => if q23.1 = x25 then (m0_b221 a12 a13 q22.1 q23.2) else (m0_b225 a12 a13 q22.1 q23.2))) else (m0_b237 a12 a13 q22.1 t0 q22.2)
set_option maxRecDepth 65536 in
set_option maxHeartbeats 4000000 in
theorem m0_w148 {C : own_Ctx} (K : own_K C code maxLocals "com/example/tablewise/tablewise/propagation/TableQueueOfferPinLaw" ret "law" room_1) {i10 : Int32} {i11 : Int32} {a12 : Nat} {a13 : Nat} {i14 : Int32} {t0 : Int32} {z0 : Slot} {z1 : Slot} {z2 : Slot} {z3 : Slot} {z4 : Slot} {z5 : Slot} {z6 : Slot} {z7 : Slot} {z8 : Slot} {z9 : Slot} {z15 : Slot} (o0 : own_One z0) (o1 : own_One z1) (o2 : own_One z2) (o3 : own_One z3) (o4 : own_One z4) (o5 : own_One z5) (o6 : own_One z6) (o7 : own_One z7) (o8 : own_One z8) (o9 : own_One z9) (o15 : own_One z15) {M : own_Mem} {r : Int32 × own_Mem} (h : m0_b148 i10 i11 a12 a13 i14 t0 M = some r) : own_W C (some (.int r.1)) r.2 M 4 17 148 [z0, z1, z2, z3, z4, z5, z6, z7, z8, z9, .val (.int i10), .val (.int i11), .val (.ref (own_n C + a12)), .val (.ref (own_n C + a13)), .val (.int i14), z15, .unset, .unset] [.int t0] := by
  unfold m0_b148 at h
  refine own_istore K at_148 (Ls' := [z0, z1, z2, z3, z4, z5, z6, z7, z8, z9, .val (.int i10), .val (.int i11), .val (.ref (own_n C + a12)), .val (.ref (own_n C + a13)), .val (.int i14), z15, .val (.int t0), .unset]) rfl rfl ?_
  refine own_aload K at_150 rfl rfl ?_
  refine own_iload K at_152 rfl rfl ?_
  refine own_bk h (fun q16 hq16 h => ?_)
  refine own_callS K at_154 own_w37 own_w38 own_w27 own_w39 (argsL := [.ref a13, .int i14]) (st := []) (by decide) (lenOf own_pd2 rfl) rfl (W := 0) (Nat.le_of_eq rfl) (by decide) (by decide) (cs1 := 4) (ss1 := 17) rfl rfl (by decide) (by decide) rfl rfl (m7_met hq16) (st1 := [.int q16.1]) rfl ?_
  refine own_istore K at_157 (Ls' := [z0, z1, z2, z3, z4, z5, z6, z7, z8, z9, .val (.int i10), .val (.int i11), .val (.ref (own_n C + a12)), .val (.ref (own_n C + a13)), .val (.int q16.1), z15, .val (.int t0), .unset]) rfl rfl ?_
  refine own_aload K at_159 rfl rfl ?_
  refine own_iload K at_161 rfl rfl ?_
  refine own_bk h (fun u18 hu18 h => ?_)
  refine own_bk h (fun q17 hq17 h => ?_)
  refine own_callV K at_163 own_w16 own_w17 own_w19 own_w18 own_w3 own_w20 (own_cl0) hu18 (a := a12) (argsL := [.int i10]) (st := []) (by decide) (lenOf own_pd4 rfl) rfl (W := 0) (Nat.le_of_eq rfl) (by decide) (by decide) (cs1 := 4) (ss1 := 17) rfl rfl (by decide) (by decide) rfl rfl (m3_met hq17) (st1 := []) rfl ?_
  refine own_aload K at_166 rfl rfl ?_
  refine own_iload K at_168 rfl rfl ?_
  refine own_iload K at_170 rfl rfl ?_
  refine own_bk h (fun q19 hq19 h => ?_)
  refine own_callS K at_172 own_w25 own_w26 own_w27 own_w28 (argsL := [.ref a13, .int q16.1, .int i10]) (st := []) (by decide) (lenOf own_pd5 rfl) rfl (W := 0) (Nat.le_of_eq rfl) (by decide) (by decide) (cs1 := 4) (ss1 := 17) rfl rfl (by decide) (by decide) rfl rfl (m4_met hq19) (st1 := [.int q19.1]) rfl ?_
  refine own_istore K at_175 (Ls' := [z0, z1, z2, z3, z4, z5, z6, z7, z8, z9, .val (.int i10), .val (.int i11), .val (.ref (own_n C + a12)), .val (.ref (own_n C + a13)), .val (.int q19.1), z15, .val (.int t0), .unset]) rfl rfl ?_
  refine own_aload K at_177 rfl rfl ?_
  refine own_iload K at_179 rfl rfl ?_
  refine own_bk h (fun u21 hu21 h => ?_)
  refine own_bk h (fun q20 hq20 h => ?_)
  refine own_callV K at_181 own_w16 own_w17 own_w19 own_w18 own_w3 own_w20 (own_cl0) hu21 (a := a12) (argsL := [.int i11]) (st := []) (by decide) (lenOf own_pd4 rfl) rfl (W := 0) (Nat.le_of_eq rfl) (by decide) (by decide) (cs1 := 4) (ss1 := 17) rfl rfl (by decide) (by decide) rfl rfl (m3_met hq20) (st1 := []) rfl ?_
  refine own_aload K at_184 rfl rfl ?_
  refine own_iload K at_186 rfl rfl ?_
  refine own_iload K at_188 rfl rfl ?_
  refine own_bk h (fun q22 hq22 h => ?_)
  refine own_callS K at_190 own_w25 own_w26 own_w27 own_w28 (argsL := [.ref a13, .int q19.1, .int i11]) (st := []) (by decide) (lenOf own_pd5 rfl) rfl (W := 0) (Nat.le_of_eq rfl) (by decide) (by decide) (cs1 := 4) (ss1 := 17) rfl rfl (by decide) (by decide) rfl rfl (m4_met hq22) (st1 := [.int q22.1]) rfl ?_
  refine own_istore K at_193 (Ls' := [z0, z1, z2, z3, z4, z5, z6, z7, z8, z9, .val (.int i10), .val (.int i11), .val (.ref (own_n C + a12)), .val (.ref (own_n C + a13)), .val (.int q22.1), z15, .val (.int t0), .unset]) rfl rfl ?_
  refine own_iload K at_195 rfl rfl ?_
  refine own_zle K at_197 h (pc1 := 237) (pc2 := 200) (by decide) rfl (fun h => ?_) (fun h => ?_)
  · exact m0_w237 K o0 o1 o2 o3 o4 o5 o6 o7 o8 o9 own_one_i own_one_i o15 own_one_u h
  · refine own_aload K at_200 rfl rfl ?_
    refine own_bk h (fun u24 hu24 h => ?_)
    refine own_bk h (fun q23 hq23 h => ?_)
    refine own_callV K at_202 own_w32 own_w33 own_w35 own_w34 own_w3 own_w36 (own_cl0) hu24 (a := a12) (argsL := []) (st := []) (by decide) (lenOf own_pd3 rfl) rfl (W := 0) (Nat.le_of_eq rfl) (by decide) (by decide) (cs1 := 4) (ss1 := 17) rfl rfl (by decide) (by decide) rfl rfl (m6_met hq23) (st1 := [.int q23.1]) rfl ?_
    refine own_istore K at_205 (Ls' := [z0, z1, z2, z3, z4, z5, z6, z7, z8, z9, .val (.int i10), .val (.int i11), .val (.ref (own_n C + a12)), .val (.ref (own_n C + a13)), .val (.int q22.1), z15, .val (.int t0), .val (.int q23.1)]) rfl rfl ?_
    refine own_iload K at_207 rfl rfl ?_
    refine own_zeq K at_209 h (pc1 := 225) (pc2 := 212) (by decide) rfl (fun h => ?_) (fun h => ?_)
    · exact m0_w225 K o0 o1 o2 o3 o4 o5 o6 o7 o8 o9 own_one_i own_one_i o15 own_one_i own_one_i h
    · refine own_iload K at_212 rfl rfl ?_
      refine own_aload K at_214 rfl rfl ?_
      refine own_iconst K at_216 own_ic0 rfl ?_
      refine own_iaload K at_217 h rfl (fun x25 h => ?_)
      refine own_ine K at_218 h (pc1 := 225) (pc2 := 221) (by decide) rfl (fun h => ?_) (fun h => ?_)
      · exact m0_w225 K o0 o1 o2 o3 o4 o5 o6 o7 o8 o9 own_one_i own_one_i o15 own_one_i own_one_i h
      · exact m0_w221 K o0 o1 o2 o3 o4 o5 o6 o7 o8 o9 own_one_i own_one_i o15 own_one_i own_one_i h
set_option maxRecDepth 65536 in
def m0_b109 (i9 : Int32) (i10 : Int32) (i11 : Int32) (a12 : Nat) (a13 : Nat) (i14 : Int32) (M : own_Mem) : Option (Int32 × own_Mem) := (own_at M 0 a12).bind fun u27 => (m3 a12 i9 M).bind fun q26 => (m4 a13 i14 i9 q26.2).bind fun q28 => (own_at q28.2 0 a12).bind fun u30 => (m6 a12 q28.2).bind fun q29 => (own_ldI 100 q29.2 a13 (0 : Int32)).bind fun x31 => if q29.1 = x31 then (m0_b148 i10 i11 a12 a13 q28.1 (1 : Int32) q29.2) else (m0_b148 i10 i11 a12 a13 q28.1 (0 : Int32) q29.2)
set_option maxRecDepth 65536 in
set_option maxHeartbeats 4000000 in
theorem m0_w109 {C : own_Ctx} (K : own_K C code maxLocals "com/example/tablewise/tablewise/propagation/TableQueueOfferPinLaw" ret "law" room_1) {i9 : Int32} {i10 : Int32} {i11 : Int32} {a12 : Nat} {a13 : Nat} {i14 : Int32} {z0 : Slot} {z1 : Slot} {z2 : Slot} {z3 : Slot} {z4 : Slot} {z5 : Slot} {z6 : Slot} {z7 : Slot} {z8 : Slot} (o0 : own_One z0) (o1 : own_One z1) (o2 : own_One z2) (o3 : own_One z3) (o4 : own_One z4) (o5 : own_One z5) (o6 : own_One z6) (o7 : own_One z7) (o8 : own_One z8) {M : own_Mem} {r : Int32 × own_Mem} (h : m0_b109 i9 i10 i11 a12 a13 i14 M = some r) : own_W C (some (.int r.1)) r.2 M 4 17 109 [z0, z1, z2, z3, z4, z5, z6, z7, z8, .val (.int i9), .val (.int i10), .val (.int i11), .val (.ref (own_n C + a12)), .val (.ref (own_n C + a13)), .val (.int i14), .unset, .unset, .unset] [] := by
  unfold m0_b109 at h
  refine own_aload K at_109 rfl rfl ?_
  refine own_iload K at_111 rfl rfl ?_
  refine own_bk h (fun u27 hu27 h => ?_)
  refine own_bk h (fun q26 hq26 h => ?_)
  refine own_callV K at_113 own_w16 own_w17 own_w19 own_w18 own_w3 own_w20 (own_cl0) hu27 (a := a12) (argsL := [.int i9]) (st := []) (by decide) (lenOf own_pd4 rfl) rfl (W := 0) (Nat.le_of_eq rfl) (by decide) (by decide) (cs1 := 4) (ss1 := 17) rfl rfl (by decide) (by decide) rfl rfl (m3_met hq26) (st1 := []) rfl ?_
  refine own_aload K at_116 rfl rfl ?_
  refine own_iload K at_118 rfl rfl ?_
  refine own_iload K at_120 rfl rfl ?_
  refine own_bk h (fun q28 hq28 h => ?_)
  refine own_callS K at_122 own_w25 own_w26 own_w27 own_w28 (argsL := [.ref a13, .int i14, .int i9]) (st := []) (by decide) (lenOf own_pd5 rfl) rfl (W := 0) (Nat.le_of_eq rfl) (by decide) (by decide) (cs1 := 4) (ss1 := 17) rfl rfl (by decide) (by decide) rfl rfl (m4_met hq28) (st1 := [.int q28.1]) rfl ?_
  refine own_istore K at_125 (Ls' := [z0, z1, z2, z3, z4, z5, z6, z7, z8, .val (.int i9), .val (.int i10), .val (.int i11), .val (.ref (own_n C + a12)), .val (.ref (own_n C + a13)), .val (.int q28.1), .unset, .unset, .unset]) rfl rfl ?_
  refine own_aload K at_127 rfl rfl ?_
  refine own_bk h (fun u30 hu30 h => ?_)
  refine own_bk h (fun q29 hq29 h => ?_)
  refine own_callV K at_129 own_w32 own_w33 own_w35 own_w34 own_w3 own_w36 (own_cl0) hu30 (a := a12) (argsL := []) (st := []) (by decide) (lenOf own_pd3 rfl) rfl (W := 0) (Nat.le_of_eq rfl) (by decide) (by decide) (cs1 := 4) (ss1 := 17) rfl rfl (by decide) (by decide) rfl rfl (m6_met hq29) (st1 := [.int q29.1]) rfl ?_
  refine own_istore K at_132 (Ls' := [z0, z1, z2, z3, z4, z5, z6, z7, z8, .val (.int i9), .val (.int i10), .val (.int i11), .val (.ref (own_n C + a12)), .val (.ref (own_n C + a13)), .val (.int q28.1), .val (.int q29.1), .unset, .unset]) rfl rfl ?_
  refine own_iload K at_134 rfl rfl ?_
  refine own_aload K at_136 rfl rfl ?_
  refine own_iconst K at_138 own_ic0 rfl ?_
  refine own_iaload K at_139 h rfl (fun x31 h => ?_)
  refine own_ine K at_140 h (pc1 := 147) (pc2 := 143) (by decide) rfl (fun h => ?_) (fun h => ?_)
  · refine own_iconst K at_147 own_ic0 rfl ?_
    exact m0_w148 K o0 o1 o2 o3 o4 o5 o6 o7 o8 own_one_i own_one_i h
  · refine own_iconst K at_143 own_ic1 rfl ?_
    refine own_goto K at_144 (pc' := 148) (by decide) ?_
    exact m0_w148 K o0 o1 o2 o3 o4 o5 o6 o7 o8 own_one_i own_one_i h
set_option maxRecDepth 65536 in
def m0_b44 (i5 : Int32) (i6 : Int32) (i7 : Int32) (i8 : Int32) (i9 : Int32) (i10 : Int32) (M : own_Mem) : Option (Int32 × own_Mem) := own_nz (i6 = 0) <| own_let ((i5 &&& (2147483647 : Int32)) % i6) fun x32 => (own_newO 0 own_V0 M).bind fun q33 => (m1 q33.1 i6 q33.2).bind fun q34 => (own_newA 100 5 (.int 0) q34.2 (5 : Int32)).bind fun q35 => (own_at q35.2 0 q33.1).bind fun u37 => (m3 q33.1 i7 q35.2).bind fun q36 => (m4 q35.1 (0 : Int32) i7 q36.2).bind fun q38 => (own_at q38.2 0 q33.1).bind fun u40 => (m3 q33.1 i8 q38.2).bind fun q39 => (m4 q35.1 q38.1 i8 q39.2).bind fun q41 => m0_b109 i9 i10 x32 q33.1 q35.1 q41.1 q41.2
set_option maxRecDepth 65536 in
set_option maxHeartbeats 4000000 in
theorem m0_w44 {C : own_Ctx} (K : own_K C code maxLocals "com/example/tablewise/tablewise/propagation/TableQueueOfferPinLaw" ret "law" room_1) {i5 : Int32} {i6 : Int32} {i7 : Int32} {i8 : Int32} {i9 : Int32} {i10 : Int32} {z0 : Slot} {z1 : Slot} {z2 : Slot} {z3 : Slot} {z4 : Slot} (o0 : own_One z0) (o1 : own_One z1) (o2 : own_One z2) (o3 : own_One z3) (o4 : own_One z4) {M : own_Mem} {r : Int32 × own_Mem} (h : m0_b44 i5 i6 i7 i8 i9 i10 M = some r) : own_W C (some (.int r.1)) r.2 M 0 0 44 [z0, z1, z2, z3, z4, .val (.int i5), .val (.int i6), .val (.int i7), .val (.int i8), .val (.int i9), .val (.int i10), .unset, .unset, .unset, .unset, .unset, .unset, .unset] [] := by
  unfold m0_b44 at h
  refine own_iload K at_44 rfl rfl ?_
  refine own_ldc K at_46 own_w0 rfl ?_
  refine own_iand K at_48 rfl ?_
  refine own_iload K at_49 rfl rfl ?_
  refine own_irem K at_51 h rfl (fun h => ?_)
  refine own_letI h (fun x32 h => ?_)
  refine own_istore K at_52 (Ls' := [z0, z1, z2, z3, z4, .val (.int i5), .val (.int i6), .val (.int i7), .val (.int i8), .val (.int i9), .val (.int i10), .val (.int x32), .unset, .unset, .unset, .unset, .unset, .unset]) rfl rfl ?_
  refine own_new K at_54 own_w1 own_w2 own_w3 (own_cl0) own_dv0 h (cs1 := 1) (ss1 := 4) rfl rfl (by decide) (by decide) rfl (fun q33 h => ?_)
  refine own_dup K at_57 rfl rfl ?_
  refine own_iload K at_58 rfl rfl ?_
  refine own_bk h (fun q34 hq34 h => ?_)
  refine own_callI K at_60 rfl own_w4 own_w5 own_w3 own_w6 (a := q33.1) (argsL := [.int i6]) (st := [.ref (own_n C + q33.1)]) (by decide) (lenOf own_pd4 rfl) rfl (W := 1) (Nat.le_of_eq rfl) (by decide) (by decide) (cs1 := 3) (ss1 := 12) rfl rfl (by decide) (by decide) rfl rfl (m1_met hq34) ?_
  refine own_astore K at_63 (Ls' := [z0, z1, z2, z3, z4, .val (.int i5), .val (.int i6), .val (.int i7), .val (.int i8), .val (.int i9), .val (.int i10), .val (.int x32), .val (.ref (own_n C + q33.1)), .unset, .unset, .unset, .unset, .unset]) rfl rfl ?_
  refine own_iconst K at_65 own_ic5 rfl ?_
  refine own_na K at_66 own_w10 rfl rfl h (by decide) (cs1 := 4) (ss1 := 17) rfl rfl (by decide) (by decide) rfl (fun q35 h => ?_)
  refine own_astore K at_68 (Ls' := [z0, z1, z2, z3, z4, .val (.int i5), .val (.int i6), .val (.int i7), .val (.int i8), .val (.int i9), .val (.int i10), .val (.int x32), .val (.ref (own_n C + q33.1)), .val (.ref (own_n C + q35.1)), .unset, .unset, .unset, .unset]) rfl rfl ?_
  refine own_iconst K at_70 own_ic0 rfl ?_
  refine own_istore K at_71 (Ls' := [z0, z1, z2, z3, z4, .val (.int i5), .val (.int i6), .val (.int i7), .val (.int i8), .val (.int i9), .val (.int i10), .val (.int x32), .val (.ref (own_n C + q33.1)), .val (.ref (own_n C + q35.1)), .val (.int (0 : Int32)), .unset, .unset, .unset]) rfl rfl ?_
  refine own_aload K at_73 rfl rfl ?_
  refine own_iload K at_75 rfl rfl ?_
  refine own_bk h (fun u37 hu37 h => ?_)
  refine own_bk h (fun q36 hq36 h => ?_)
  refine own_callV K at_77 own_w16 own_w17 own_w19 own_w18 own_w3 own_w20 (own_cl0) hu37 (a := q33.1) (argsL := [.int i7]) (st := []) (by decide) (lenOf own_pd4 rfl) rfl (W := 0) (Nat.le_of_eq rfl) (by decide) (by decide) (cs1 := 4) (ss1 := 17) rfl rfl (by decide) (by decide) rfl rfl (m3_met hq36) (st1 := []) rfl ?_
  refine own_aload K at_80 rfl rfl ?_
  refine own_iload K at_82 rfl rfl ?_
  refine own_iload K at_84 rfl rfl ?_
  refine own_bk h (fun q38 hq38 h => ?_)
  refine own_callS K at_86 own_w25 own_w26 own_w27 own_w28 (argsL := [.ref q35.1, .int (0 : Int32), .int i7]) (st := []) (by decide) (lenOf own_pd5 rfl) rfl (W := 0) (Nat.le_of_eq rfl) (by decide) (by decide) (cs1 := 4) (ss1 := 17) rfl rfl (by decide) (by decide) rfl rfl (m4_met hq38) (st1 := [.int q38.1]) rfl ?_
  refine own_istore K at_89 (Ls' := [z0, z1, z2, z3, z4, .val (.int i5), .val (.int i6), .val (.int i7), .val (.int i8), .val (.int i9), .val (.int i10), .val (.int x32), .val (.ref (own_n C + q33.1)), .val (.ref (own_n C + q35.1)), .val (.int q38.1), .unset, .unset, .unset]) rfl rfl ?_
  refine own_aload K at_91 rfl rfl ?_
  refine own_iload K at_93 rfl rfl ?_
  refine own_bk h (fun u40 hu40 h => ?_)
  refine own_bk h (fun q39 hq39 h => ?_)
  refine own_callV K at_95 own_w16 own_w17 own_w19 own_w18 own_w3 own_w20 (own_cl0) hu40 (a := q33.1) (argsL := [.int i8]) (st := []) (by decide) (lenOf own_pd4 rfl) rfl (W := 0) (Nat.le_of_eq rfl) (by decide) (by decide) (cs1 := 4) (ss1 := 17) rfl rfl (by decide) (by decide) rfl rfl (m3_met hq39) (st1 := []) rfl ?_
  refine own_aload K at_98 rfl rfl ?_
  refine own_iload K at_100 rfl rfl ?_
  refine own_iload K at_102 rfl rfl ?_
  refine own_bk h (fun q41 hq41 h => ?_)
  refine own_callS K at_104 own_w25 own_w26 own_w27 own_w28 (argsL := [.ref q35.1, .int q38.1, .int i8]) (st := []) (by decide) (lenOf own_pd5 rfl) rfl (W := 0) (Nat.le_of_eq rfl) (by decide) (by decide) (cs1 := 4) (ss1 := 17) rfl rfl (by decide) (by decide) rfl rfl (m4_met hq41) (st1 := [.int q41.1]) rfl ?_
  refine own_istore K at_107 (Ls' := [z0, z1, z2, z3, z4, .val (.int i5), .val (.int i6), .val (.int i7), .val (.int i8), .val (.int i9), .val (.int i10), .val (.int x32), .val (.ref (own_n C + q33.1)), .val (.ref (own_n C + q35.1)), .val (.int q41.1), .unset, .unset, .unset]) rfl rfl ?_
  exact m0_w109 K o0 o1 o2 o3 o4 own_one_i own_one_i own_one_i own_one_i h
set_option maxRecDepth 65536 in
def m0 (i0 : Int32) (i1 : Int32) (i2 : Int32) (i3 : Int32) (i4 : Int32) (i5 : Int32) (M : own_Mem) : Option (Int32 × own_Mem) := own_let ((i0 &&& (3 : Int32)) + (1 : Int32)) fun x42 => own_nz (x42 = 0) <| own_let ((i1 &&& (2147483647 : Int32)) % x42) fun x43 => own_nz (x42 = 0) <| own_let ((i2 &&& (2147483647 : Int32)) % x42) fun x44 => own_nz (x42 = 0) <| own_let ((i3 &&& (2147483647 : Int32)) % x42) fun x45 => own_nz (x42 = 0) <| own_let ((i4 &&& (2147483647 : Int32)) % x42) fun x46 => m0_b44 i5 x42 x43 x44 x45 x46 M
set_option maxRecDepth 65536 in
set_option maxHeartbeats 4000000 in
theorem m0_w {C : own_Ctx} (K : own_K C code maxLocals "com/example/tablewise/tablewise/propagation/TableQueueOfferPinLaw" ret "law" room_1) {i0 : Int32} {i1 : Int32} {i2 : Int32} {i3 : Int32} {i4 : Int32} {i5 : Int32} {M : own_Mem} {r : Int32 × own_Mem} (h : m0 i0 i1 i2 i3 i4 i5 M = some r) : own_W C (some (.int r.1)) r.2 M 0 0 0 [.val (.int i0), .val (.int i1), .val (.int i2), .val (.int i3), .val (.int i4), .val (.int i5), .unset, .unset, .unset, .unset, .unset, .unset, .unset, .unset, .unset, .unset, .unset, .unset] [] := by
  unfold m0 at h
  refine own_iloadN K at_0 rfl rfl ?_
  refine own_iconst K at_1 own_ic3 rfl ?_
  refine own_iand K at_2 rfl ?_
  refine own_iconst K at_3 own_ic1 rfl ?_
  refine own_iadd K at_4 rfl ?_
  refine own_letI h (fun x42 h => ?_)
  refine own_istore K at_5 (Ls' := [.val (.int i0), .val (.int i1), .val (.int i2), .val (.int i3), .val (.int i4), .val (.int i5), .val (.int x42), .unset, .unset, .unset, .unset, .unset, .unset, .unset, .unset, .unset, .unset, .unset]) rfl rfl ?_
  refine own_iloadN K at_7 rfl rfl ?_
  refine own_ldc K at_8 own_w0 rfl ?_
  refine own_iand K at_10 rfl ?_
  refine own_iload K at_11 rfl rfl ?_
  refine own_irem K at_13 h rfl (fun h => ?_)
  refine own_letI h (fun x43 h => ?_)
  refine own_istore K at_14 (Ls' := [.val (.int i0), .val (.int i1), .val (.int i2), .val (.int i3), .val (.int i4), .val (.int i5), .val (.int x42), .val (.int x43), .unset, .unset, .unset, .unset, .unset, .unset, .unset, .unset, .unset, .unset]) rfl rfl ?_
  refine own_iloadN K at_16 rfl rfl ?_
  refine own_ldc K at_17 own_w0 rfl ?_
  refine own_iand K at_19 rfl ?_
  refine own_iload K at_20 rfl rfl ?_
  refine own_irem K at_22 h rfl (fun h => ?_)
  refine own_letI h (fun x44 h => ?_)
  refine own_istore K at_23 (Ls' := [.val (.int i0), .val (.int i1), .val (.int i2), .val (.int i3), .val (.int i4), .val (.int i5), .val (.int x42), .val (.int x43), .val (.int x44), .unset, .unset, .unset, .unset, .unset, .unset, .unset, .unset, .unset]) rfl rfl ?_
  refine own_iloadN K at_25 rfl rfl ?_
  refine own_ldc K at_26 own_w0 rfl ?_
  refine own_iand K at_28 rfl ?_
  refine own_iload K at_29 rfl rfl ?_
  refine own_irem K at_31 h rfl (fun h => ?_)
  refine own_letI h (fun x45 h => ?_)
  refine own_istore K at_32 (Ls' := [.val (.int i0), .val (.int i1), .val (.int i2), .val (.int i3), .val (.int i4), .val (.int i5), .val (.int x42), .val (.int x43), .val (.int x44), .val (.int x45), .unset, .unset, .unset, .unset, .unset, .unset, .unset, .unset]) rfl rfl ?_
  refine own_iload K at_34 rfl rfl ?_
  refine own_ldc K at_36 own_w0 rfl ?_
  refine own_iand K at_38 rfl ?_
  refine own_iload K at_39 rfl rfl ?_
  refine own_irem K at_41 h rfl (fun h => ?_)
  refine own_letI h (fun x46 h => ?_)
  refine own_istore K at_42 (Ls' := [.val (.int i0), .val (.int i1), .val (.int i2), .val (.int i3), .val (.int i4), .val (.int i5), .val (.int x42), .val (.int x43), .val (.int x44), .val (.int x45), .val (.int x46), .unset, .unset, .unset, .unset, .unset, .unset, .unset]) rfl rfl ?_
  exact m0_w44 K own_one_i own_one_i own_one_i own_one_i own_one_i h
set_option maxRecDepth 65536 in
set_option maxHeartbeats 4000000 in
theorem m0_met {i0 : Int32} {i1 : Int32} {i2 : Int32} {i3 : Int32} {i4 : Int32} {i5 : Int32} {M : own_Mem} {q : Int32 × own_Mem} (h : m0 i0 i1 i2 i3 i4 i5 M = some q) : own_Met x code maxLocals ret room_1 [.int i0, .int i1, .int i2, .int i3, .int i4, .int i5] M (some (.int q.1)) q.2 :=
  own_met (Ls := fun n0 => [.val (.int i0), .val (.int i1), .val (.int i2), .val (.int i3), .val (.int i4), .val (.int i5), .unset, .unset, .unset, .unset, .unset, .unset, .unset, .unset, .unset, .unset, .unset, .unset]) (plainFor_of_name own_pn1) (fun m n0 => by first | (simp [entryFrame, mkF, argsToLocals, Value.category, own_up, maxLocals]; done) | rfl) fun C K => m0_w K h
/-! ### the plain law -/
def lw_G (n a b c d e : Int32) : Option (Int32 × own_Mem) := (own_newO 0 own_V0 []).bind fun q33 => (m1 q33.1 n q33.2).bind fun q34 => (own_newA 100 5 (.int 0) q34.2 (5 : Int32)).bind fun q35 => (own_at q35.2 0 q33.1).bind fun u37 => (m3 q33.1 a q35.2).bind fun q36 => (m4 q35.1 (0 : Int32) a q36.2).bind fun q38 => (own_at q38.2 0 q33.1).bind fun u40 => (m3 q33.1 b q38.2).bind fun q39 => (m4 q35.1 q38.1 b q39.2).bind fun q41 => m0_b109 c d e q33.1 q35.1 q41.1 q41.2
def lw_one (o : Option (Int32 × own_Mem)) : Bool := match o with
  | some q => decide (q.1 = 1)
  | none => false
def lw_chk (n : Nat) : Bool := (List.range n).all fun a => (List.range n).all fun b => (List.range n).all fun c => (List.range n).all fun d => (List.range n).all fun e => lw_one (lw_G (Int32.ofNat n) (Int32.ofNat a) (Int32.ofNat b) (Int32.ofNat c) (Int32.ofNat d) (Int32.ofNat e))
theorem lw_c1 : lw_chk 1 = true := by decide +kernel
theorem lw_c2 : lw_chk 2 = true := by decide +kernel
theorem lw_c3 : lw_chk 3 = true := by decide +kernel
theorem lw_c4 : lw_chk 4 = true := by decide +kernel
theorem lw_nz {β : Type} {b : Prop} [Decidable b] (h : ¬ b) (k : Option β) : own_nz b k = k := if_neg h
theorem lw_let {α β : Type} (x : α) (k : α → Option β) : own_let x k = k x := rfl
theorem lw_use (n : Nat) (h : lw_chk n = true) (a b c d e : Nat) (ha : a < n) (hb : b < n) (hc : c < n) (hd : d < n) (he : e < n) : ∃ M', lw_G (Int32.ofNat n) (Int32.ofNat a) (Int32.ofNat b) (Int32.ofNat c) (Int32.ofNat d) (Int32.ofNat e) = some (1, M') := by
  unfold lw_chk at h
  have h1 := List.all_eq_true.mp h a (List.mem_range.mpr ha)
  have h2 := List.all_eq_true.mp h1 b (List.mem_range.mpr hb)
  have h3 := List.all_eq_true.mp h2 c (List.mem_range.mpr hc)
  have h4 := List.all_eq_true.mp h3 d (List.mem_range.mpr hd)
  have h5 := List.all_eq_true.mp h4 e (List.mem_range.mpr he)
  unfold lw_one at h5
  split at h5
  · rename_i q hq
    refine ⟨q.2, ?_⟩
    rw [hq]
    have e1 := of_decide_eq_true h5
    rw [← e1]
  · cases h5
theorem lw_nat (u : Int32) (h0 : 0 ≤ u.toInt) : u = Int32.ofNat u.toInt.toNat := Int32.toInt_inj.mp (by
  have := u.toInt_lt
  rw [Int32.toInt_ofNat_of_lt (by omega)]
  omega)
theorem lw_any (n a b c d e : Int32) (hn : 1 ≤ n.toInt ∧ n.toInt ≤ 4) (ha : 0 ≤ a.toInt ∧ a.toInt < n.toInt) (hb : 0 ≤ b.toInt ∧ b.toInt < n.toInt) (hc : 0 ≤ c.toInt ∧ c.toInt < n.toInt) (hd : 0 ≤ d.toInt ∧ d.toInt < n.toInt) (he : 0 ≤ e.toInt ∧ e.toInt < n.toInt) : ∃ M', lw_G n a b c d e = some (1, M') := by
  have h : lw_chk n.toInt.toNat = true := by
    have : n.toInt.toNat = 1 ∨ n.toInt.toNat = 2 ∨ n.toInt.toNat = 3 ∨ n.toInt.toNat = 4 := by omega
    rcases this with e | e | e | e <;> rw [e]
    · exact lw_c1
    · exact lw_c2
    · exact lw_c3
    · exact lw_c4
  have q := lw_use _ h a.toInt.toNat b.toInt.toNat c.toInt.toNat d.toInt.toNat e.toInt.toNat (by omega) (by omega) (by omega) (by omega) (by omega)
  rwa [← lw_nat n (by omega), ← lw_nat a ha.1, ← lw_nat b hb.1, ← lw_nat c hc.1, ← lw_nat d hd.1, ← lw_nat e he.1] at q
theorem own_law (i0 i1 i2 i3 i4 i5 : Int32) : ∃ M', m0 i0 i1 i2 i3 i4 i5 [] = some (1, M') := by
  have c0 : (0 : Int32).toInt = 0 := by decide
  have c1 : (1 : Int32).toInt = 1 := by decide
  have a0 : (i0 &&& 3).toInt = i0.toInt % 2 ^ 2 := Jvm.Kit.i32_mask i0 3 (k := 2) (by decide) (by decide)
  have an : ((i0 &&& 3) + 1).toInt = i0.toInt % 2 ^ 2 + 1 := by rw [Jvm.Kit.i32_add (by omega) (by omega), a0, c1]
  have hn : 1 ≤ ((i0 &&& 3) + 1).toInt ∧ ((i0 &&& 3) + 1).toInt ≤ 4 := by omega
  unfold m0
  rw [lw_let]
  generalize (i0 &&& 3) + 1 = n at hn ⊢
  have zn : ¬ (n = 0) := fun e => by have := congrArg Int32.toInt e; rw [c0] at this; omega
  have rem : ∀ i : Int32, 0 ≤ ((i &&& 2147483647) % n).toInt ∧ ((i &&& 2147483647) % n).toInt < n.toInt := fun i => by
    have q : (i &&& 2147483647).toInt = i.toInt % 2 ^ 31 := Jvm.Kit.i32_mask i 2147483647 (k := 31) (by decide) (by decide)
    rw [Jvm.Kit.i32_rem_nonneg (by omega)]
    exact ⟨Int.emod_nonneg _ (by omega), Int.emod_lt_of_pos _ (by omega)⟩
  rw [lw_nz zn, lw_let, lw_nz zn, lw_let, lw_nz zn, lw_let, lw_nz zn, lw_let]
  unfold m0_b44
  rw [lw_nz zn, lw_let]
  exact lw_any n _ _ _ _ _ hn (rem i1) (rem i2) (rem i3) (rem i4) (rem i5)
/-! ### the owed theorems -/
set_option maxRecDepth 65536 in
set_option maxHeartbeats 4000000 in
theorem own_comes {Post : Tables → Env → Array Value → State → Outcome → State → Prop} (hpost : ∀ tb e args s v u, (limb_1_1.after args s (.returned v) u = true ∧ limb_1_2.after args s (.returned v) u = true ∧ True) → FrameEnd s (.returned v) u (Jvm.fieldLocs frame_1_writes args s ++ Jvm.arrayLocs frame_1_arrays args s ++ Jvm.staticLocs frame_1_statics s) 16 128 → Post tb e args s (.returned v) u) :
    ArmFor flags0 classFile x code maxLocals ret World_1 tables_1 room_1 Calls_1 rest_1 Pre_1 Post := by
  intro l hfl _ _ p e ha hc hk s m args below hf hA hF happ hP
  obtain ⟨hcalls, hrest, hpre⟩ := hP
  obtain ⟨-, -, -, hnamed, -, -, -, hat⟩ := (Spec.applies_iff hf).mp happ
  obtain ⟨hg, hn⟩ := and_e (Cond.before_iff.mp (show (Jvm.Cond.and given_1 narrow_1).before args s = true from hpre))
  obtain ⟨g0a, g0b⟩ := and_e hg
  obtain ⟨g1a, g1b⟩ := and_e g0b
  obtain ⟨g2a, g2b⟩ := and_e g1b
  obtain ⟨g3a, g3b⟩ := and_e g2b
  obtain ⟨g4a, g4b⟩ := and_e g3b
  obtain ⟨g5a, g5b⟩ := and_e g4b
  obtain ⟨w0, w1, w2, w3, w4, w5, rfl⟩ : ∃ w0 w1 w2 w3 w4 w5 : Value, args = #[w0, w1, w2, w3, w4, w5] := by
    have hs : args.size = 6 := by simpa [Cond.value, given_1] using g0a
    obtain ⟨L⟩ := args
    match L, hs with
    | [w0, w1, w2, w3, w4, w5], _ => exact ⟨w0, w1, w2, w3, w4, w5, rfl⟩
  have hw := fun d (hd : d ∈ tables_1) => atoms_spec (ws := Jvm.Cond.code x code maxLocals ret :: tables_1) hat d (List.mem_cons_of_mem _ hd)
  obtain ⟨v0, ev0⟩ := is_v g1a
  obtain rfl : w0 = (.int v0) := Option.some.inj ev0
  obtain ⟨v1, ev1⟩ := is_v g2a
  obtain rfl : w1 = (.int v1) := Option.some.inj ev1
  obtain ⟨v2, ev2⟩ := is_v g3a
  obtain rfl : w2 = (.int v2) := Option.some.inj ev2
  obtain ⟨v3, ev3⟩ := is_v g4a
  obtain rfl : w3 = (.int v3) := Option.some.inj ev3
  obtain ⟨v4, ev4⟩ := is_v g5a
  obtain rfl : w4 = (.int v4) := Option.some.inj ev4
  obtain ⟨v5, ev5⟩ := is_v g5b
  obtain rfl : w5 = (.int v5) := Option.some.inj ev5
  obtain ⟨M', hM'⟩ := own_law v0 v1 v2 v3 v4 v5
  obtain ⟨n, o, h1, h2, h3, _, L, rfl, ⟨rfl, -, N⟩, hq⟩ := m0_met hM' l s _ s.heap.size s.heap tables_1 hw ⟨by simp, fun k o hk => by simp at hk⟩ p e ha hc hk s m _ below hf ((Spec.applies_iff_loose hf).mp happ).1 ⟨rfl, State.Warmed39.refl s, rfl⟩ trivial
  refine ⟨n, _, h1, h2, h3, hpost _ _ _ _ _ _ ⟨Cond.after_iff.mpr rfl, Cond.after_iff.mpr (eq_i res_at (Term.int_eval (1)) rfl), trivial⟩ ⟨hq.1, hq.2.1, (hq.2.2.sift fun y hy => Or.inr (N y hy)).mono (by decide) (by decide)⟩⟩
theorem main_1_1 : Claimed_1_1 := own_comes fun _ _ _ _ _ _ h hF => ⟨h.1, hF⟩
theorem main_1_2 : Claimed_1_2 := own_comes fun _ _ _ _ _ _ h hF => ⟨h.2.1, hF⟩
end Jvm.Pilot.@@N@@
namespace Jvm.Pilot.@@N@@
open Jvm Jvm.ClassFile Sem Op Lib Jvm.Free Jvm.Stand Jvm.Pilot.@@N@@.Jvm.D
/-! MADE BY PROGRAM (witnessworld.py) out of the Statement's table words and the real class files: 11 classes; the members and pool entries that the words name. The judged class is class 1, her method 4. -/
namespace start1
open Jvm.ClassFile
def u (s : String) : CpInfo := .utf8 (stringToUtf16 s)
/-- a pool by its gaps: so many unusable entries, then the entry; so many at the end -/
def gap : Nat → List CpInfo → List CpInfo
  | 0, r => r
  | n + 1, r => .unusable :: gap n r
def poolList (es : List (Nat × CpInfo)) (last : Nat) : List CpInfo := es.foldr (fun e r => gap e.1 (e.2 :: r)) (gap last [])
def pool (es : List (Nat × CpInfo)) (last : Nat) : Array CpInfo := ⟨poolList es last⟩
def fileOf (pool : Array CpInfo) (this : Nat) (attrs : Array Attribute := #[]) (ms : Array MethodInfo := #[]) (fl : Nat := 33) (sup : Nat := 0) (ifs : Array Nat := #[]) (fds : Array FieldInfo := #[]) : ClassFile where
  minorVersion := 0
  majorVersion := 65
  constantPool := pool
  accessFlags := fl
  thisClass := this
  superClass := sup
  interfaces := ifs
  fields := fds
  methods := ms
  attributes := attrs
def plain (name : String) (sup : Option ClassId) : Class where
  name := name
  kind := .ordinary
  loader := none
  accessFlags := 33
  super := sup
  interfaces := #[]
  cf := none
  fields := #[]
  methods := #[]
  instanceTypes := #[]
  staticTypes := #[]
  resolved := #[]
  callSites := []
  init := .initialized
  statics := none
  mirror := none

def pool0 : Array CpInfo := pool [(5, u "<init>"), (0, u "()V"), (1, .class_ 10), (1, u "java/lang/Object")] 113

def k0c0 : Code := { maxStack := 0, maxLocals := 1, code := object_method_1_code, exceptionTable := #[], attributes := #[] }
def k0m0 : Method := { name := "<init>", desc := "()V", sig := { parameters := [], returnType := none }, accessFlags := 1, code := some k0c0 }
/-- java/lang/Object -/
def k0 : Class := { plain "java/lang/Object" none with
  accessFlags := 33
  interfaces := #[]
  cf := some (fileOf pool0 8 #[] #[{ accessFlags := 1, nameIndex := 5, descriptorIndex := 6, attributes := #[] }] 33 0 #[] #[])
  fields := #[]
  methods := #[k0m0]
  instanceTypes := #[]
  staticTypes := #[]
  resolved := Array.replicate 124 none
  statics := none }

def pool1 : Array CpInfo := pool [(2, .class_ 4), (1, u "java/lang/Object"), (0, u "<init>"), (0, u "()V"), (0, .methodref 8 9), (0, .class_ 10), (0, .nameAndType 11 12), (0, u "com/example/tablewise/tablewise/propagation/TableQueueOfferPinLaw"), (0, u "has"), (0, u "([III)Z"), (0, .integer 2147483647), (0, .class_ 15), (0, u "com/example/tablewise/tablewise/propagation/TableQueue"), (0, .methodref 14 17), (0, .nameAndType 5 18), (0, u "(I)V"), (0, .methodref 14 20), (0, .nameAndType 21 18), (0, u "offer"), (0, .methodref 8 23), (0, .nameAndType 24 25), (0, u "push"), (0, u "([III)I"), (0, .methodref 14 27), (0, .nameAndType 28 29), (0, u "poll"), (0, u "()I"), (0, .methodref 8 31), (0, .nameAndType 32 33), (0, u "pop"), (0, u "([II)I"), (0, .methodref 14 35), (0, .nameAndType 36 37), (0, u "isEmpty"), (0, u "()Z"), (3, u "law"), (0, u "(IIIIII)Z")] 4

def k1m0 : Method := { name := "<init>", desc := "()V", sig := { parameters := [], returnType := none }, accessFlags := 1, code := none }
def k1c1 : Code := { maxStack := 2, maxLocals := 3, code := method_2_code, exceptionTable := #[], attributes := #[] }
def k1m1 : Method := { name := "has", desc := "([III)Z", sig := { parameters := [(.array .int), .int, .int], returnType := some .boolean }, accessFlags := 10, code := some k1c1 }
def k1c2 : Code := { maxStack := 3, maxLocals := 3, code := method_3_code, exceptionTable := #[], attributes := #[] }
def k1m2 : Method := { name := "push", desc := "([III)I", sig := { parameters := [(.array .int), .int, .int], returnType := some .int }, accessFlags := 10, code := some k1c2 }
def k1c3 : Code := { maxStack := 4, maxLocals := 2, code := method_4_code, exceptionTable := #[], attributes := #[] }
def k1m3 : Method := { name := "pop", desc := "([II)I", sig := { parameters := [(.array .int), .int], returnType := some .int }, accessFlags := 10, code := some k1c3 }
def k1c4 : Code := { maxStack := 3, maxLocals := 18, code := code, exceptionTable := #[], attributes := #[] }
def k1m4 : Method := { name := "law", desc := "(IIIIII)Z", sig := { parameters := [.int, .int, .int, .int, .int, .int], returnType := some .boolean }, accessFlags := 9, code := some k1c4 }
/-- com/example/tablewise/tablewise/propagation/TableQueueOfferPinLaw -/
def k1 : Class := { plain "com/example/tablewise/tablewise/propagation/TableQueueOfferPinLaw" (some 0) with
  accessFlags := 49
  interfaces := #[]
  cf := some (fileOf pool1 8 #[] #[{ accessFlags := 1, nameIndex := 5, descriptorIndex := 6, attributes := #[] }, { accessFlags := 10, nameIndex := 11, descriptorIndex := 12, attributes := #[] }, { accessFlags := 10, nameIndex := 24, descriptorIndex := 25, attributes := #[] }, { accessFlags := 10, nameIndex := 32, descriptorIndex := 33, attributes := #[] }, { accessFlags := 9, nameIndex := 41, descriptorIndex := 42, attributes := #[] }] 49 2 #[] #[])
  fields := #[]
  methods := #[k1m0, k1m1, k1m2, k1m3, k1m4]
  instanceTypes := #[]
  staticTypes := #[]
  resolved := Array.replicate 47 none
  statics := none }

def pool2 : Array CpInfo := pool [(1, .methodref 2 3), (0, .class_ 4), (0, .nameAndType 5 6), (0, u "java/lang/Object"), (0, u "<init>"), (0, u "()V"), (0, .fieldref 8 9), (0, .class_ 10), (0, .nameAndType 11 12), (0, u "com/example/tablewise/tablewise/propagation/TableQueue"), (0, u "tables"), (0, u "[I"), (0, .fieldref 8 14), (0, .nameAndType 15 16), (0, u "queued"), (0, u "[Z"), (0, .fieldref 8 18), (0, .nameAndType 19 20), (0, u "head"), (0, u "I"), (0, .fieldref 8 22), (0, .nameAndType 23 20), (0, u "count"), (2, u "poll"), (0, u "()I"), (0, u "(I)V"), (2, u "offer"), (1, u "isEmpty"), (0, u "()Z")] 3

def k2c0 : Code := { maxStack := 2, maxLocals := 2, code := prog_41_method_1_code, exceptionTable := #[], attributes := #[] }
def k2m0 : Method := { name := "<init>", desc := "(I)V", sig := { parameters := [.int], returnType := none }, accessFlags := 1, code := some k2c0 }
def k2c1 : Code := { maxStack := 3, maxLocals := 2, code := prog_41_method_2_code, exceptionTable := #[], attributes := #[] }
def k2m1 : Method := { name := "offer", desc := "(I)V", sig := { parameters := [.int], returnType := none }, accessFlags := 1, code := some k2c1 }
def k2c2 : Code := { maxStack := 1, maxLocals := 1, code := prog_41_method_3_code, exceptionTable := #[], attributes := #[] }
def k2m2 : Method := { name := "isEmpty", desc := "()Z", sig := { parameters := [], returnType := some .boolean }, accessFlags := 0, code := some k2c2 }
def k2c3 : Code := { maxStack := 3, maxLocals := 2, code := prog_41_method_4_code, exceptionTable := #[], attributes := #[] }
def k2m3 : Method := { name := "poll", desc := "()I", sig := { parameters := [], returnType := some .int }, accessFlags := 0, code := some k2c3 }
/-- com/example/tablewise/tablewise/propagation/TableQueue -/
def k2 : Class := { plain "com/example/tablewise/tablewise/propagation/TableQueue" (some 0) with
  accessFlags := 49
  interfaces := #[]
  cf := some (fileOf pool2 8 #[] #[{ accessFlags := 1, nameIndex := 5, descriptorIndex := 28, attributes := #[] }, { accessFlags := 1, nameIndex := 31, descriptorIndex := 28, attributes := #[] }, { accessFlags := 0, nameIndex := 33, descriptorIndex := 34, attributes := #[] }, { accessFlags := 0, nameIndex := 26, descriptorIndex := 27, attributes := #[] }] 49 2 #[] #[{ accessFlags := 18, nameIndex := 11, descriptorIndex := 12, attributes := #[] }, { accessFlags := 18, nameIndex := 15, descriptorIndex := 16, attributes := #[] }, { accessFlags := 2, nameIndex := 19, descriptorIndex := 20, attributes := #[] }, { accessFlags := 2, nameIndex := 23, descriptorIndex := 20, attributes := #[] }])
  fields := #[{ name := "tables", type := (.array .int), accessFlags := 18, slot := 0, constantValue := 0 }, { name := "queued", type := (.array .boolean), accessFlags := 18, slot := 1, constantValue := 0 }, { name := "head", type := .int, accessFlags := 2, slot := 2, constantValue := 0 }, { name := "count", type := .int, accessFlags := 2, slot := 3, constantValue := 0 }]
  methods := #[k2m0, k2m1, k2m2, k2m3]
  instanceTypes := #[(.array .int), (.array .boolean), .int, .int]
  staticTypes := #[]
  resolved := Array.replicate 38 none
  statics := none }

def pool3 : Array CpInfo := pool [(1, u "java/lang/Cloneable"), (0, .class_ 1), (0, u "java/lang/Object"), (0, .class_ 3)] 3

/-- java/lang/Cloneable -/
def k3 : Class := { plain "java/lang/Cloneable" (some 0) with
  accessFlags := 1537
  interfaces := #[]
  cf := some (fileOf pool3 2 #[] #[] 1537 4 #[] #[])
  fields := #[]
  methods := #[]
  instanceTypes := #[]
  staticTypes := #[]
  resolved := Array.replicate 8 none
  statics := none }

def pool4 : Array CpInfo := pool [(1, u "java/io/Serializable"), (0, .class_ 1), (0, u "java/lang/Object"), (0, .class_ 3)] 3

/-- java/io/Serializable -/
def k4 : Class := { plain "java/io/Serializable" (some 0) with
  accessFlags := 1537
  interfaces := #[]
  cf := some (fileOf pool4 2 #[] #[] 1537 4 #[] #[])
  fields := #[]
  methods := #[]
  instanceTypes := #[]
  staticTypes := #[]
  resolved := Array.replicate 8 none
  statics := none }

/-- the primitive boolean -/
def k5 : Class := { plain "boolean" none with kind := .primitive 'Z', accessFlags := 0x411 }
/-- [Z -/
def k6 : Class := { plain "[Z" (some 0) with kind := .array 5 .boolean, interfaces := #[3, 4], accessFlags := 1041 }

/-- the primitive byte -/
def k7 : Class := { plain "byte" none with kind := .primitive 'B', accessFlags := 0x411 }
/-- [B -/
def k8 : Class := { plain "[B" (some 0) with kind := .array 7 .byte, interfaces := #[3, 4], accessFlags := 1041 }

/-- the primitive int -/
def k9 : Class := { plain "int" none with kind := .primitive 'I', accessFlags := 0x411 }
/-- [I -/
def k10 : Class := { plain "[I" (some 0) with kind := .array 9 .int, interfaces := #[3, 4], accessFlags := 1041 }

def heap : Heap := #[]
def classes : Array Class := #[k0, k1, k2, k3, k4, k5, k6, k7, k8, k9, k10]
def interned : List (Array UInt16 × Addr) := []
def slotsUsed : Nat := 0
def theMethod : MethodId := ⟨1, 4⟩
def args0 : Array Value := #[.int 5, .int 5, .int 5, .int 5, .int 5, .int 5]
def aboutOver (below : List Frame) : State where
  vm := { classes := classes, interned := interned.toArray }
  heap := heap
  slotsUsed := slotsUsed
  threads := #[{ frames := .invoking theMethod args0 :: below }]
def below0 : List Frame := [.native { method := ⟨0, 0⟩, args := #[] }]
def about1 : State := aboutOver below0
def p0 : Program := .bare "" "" ""
def e0 : Env := launch0.env 0 0 0
theorem w_frames : about1.frames = Frame.invoking theMethod args0 :: below0 := rfl
set_option maxRecDepth 65536 in
theorem w_args : argsFit about1.vm theMethod args0 = true := by decide +kernel
set_option maxRecDepth 65536 in
theorem w_heap : heapFits about1 = true := by decide +kernel
set_option maxRecDepth 65536 in
theorem w_runnable : about1.curStatus? = some .runnable := by decide +kernel
set_option maxRecDepth 65536 in
theorem w_alone : about1.alone = true := by decide +kernel
set_option maxRecDepth 65536 in
theorem w_named : about1.methodNamed? x = some theMethod := by decide +kernel
set_option maxRecDepth 65536 in
theorem w_hears : about1.hears theMethod below0 = true := by decide +kernel
set_option maxRecDepth 65536 in
theorem w_ripe : about1.ripe theMethod args0 below0 = true := by decide +kernel
theorem w_running : about1.status = .running := rfl
set_option maxRecDepth 65536 in
theorem w_room : about1.hasRoom e0.platform room_1 = true :=
  launch0.hasRoom_least _ room_1 (by decide +kernel) (by decide +kernel) (by decide +kernel) (by decide +kernel) (by decide +kernel) (by decide +kernel)
theorem allAtoms_all (ts : List Jvm.Cond) (a : Array Jvm.Value) (st : Jvm.State) : (allAtoms ts).before a st = ts.all (fun c => c.before a st) := by
  induction ts with
  | nil => rfl
  | cons c t ih =>
    show (Jvm.Cond.and c (allAtoms t)).before a st = _
    rw [Jvm.Cond.before_and, ih, List.all_cons]
def words1 : List Jvm.Cond := Jvm.Cond.code x code maxLocals ret :: tables_1
/-- a 'code' word, met by the world's own term for the bytes: nothing is compared byte by byte -/
theorem code_word {y : MethodName} {bytes : ByteArray} {mx : Nat} {rt : Option FieldType} {a : Array Value} {s : State} {m : MethodId} {meth : Method} {c : Code} (h1 : s.methodNamed? y = some m) (h2 : s.vm.method? m = some meth) (h3 : meth.code = some c) (h4 : c.code = bytes)
    (h5 : (c.maxLocals == mx && c.exceptionTable.isEmpty && decide (c.maxStack ≤ mostOperands) && decide (meth.sig.returnType = rt) && !meth.locks && decide (parseMethodDescriptor y.desc = some meth.sig)) = true) : (Jvm.Cond.code y bytes mx rt).before a s = true := by
  simp only [Bool.and_eq_true, beq_iff_eq, Bool.not_eq_true', decide_eq_true_eq] at h5
  obtain ⟨⟨⟨⟨⟨g1, g2⟩, g3⟩, g4⟩, g5⟩, g6⟩ := h5
  simp [Cond.before, Cond.holds, Cond.value, h1, h2, h3, h4, g1, g2, g3, g4, g5, g6]
def isCode : Jvm.Cond → Bool
  | .code _ _ _ _ => true
  | _ => false
theorem all_split {L : List Jvm.Cond} {P : Jvm.Cond → Bool} (h1 : L.all (fun c => isCode c || P c) = true) (h2 : ∀ c ∈ L.filter isCode, P c = true) : L.all P = true := by
  refine List.all_eq_true.mpr fun c hc => ?_
  have h := List.all_eq_true.mp h1 c hc
  rcases Bool.eq_false_or_eq_true (isCode c) with hi | hi
  · exact h2 c (List.mem_filter.mpr ⟨hc, hi⟩)
  · simpa [hi] using h
set_option maxRecDepth 65536 in
theorem w_c0 : (Jvm.Cond.code x code maxLocals ret).before args0 about1 = true := code_word (m := ⟨1, 4⟩) (meth := k1m4) (c := k1c4) (by decide +kernel) rfl rfl rfl (by decide +kernel)
set_option maxRecDepth 65536 in
theorem w_c1 : (Jvm.Cond.code ({ cls := "com/example/tablewise/tablewise/propagation/TableQueue", name := "<init>", desc := "(I)V" } : Jvm.MethodName) prog_41_method_1_code (2 : Nat) (Option.none : Option Jvm.ClassFile.FieldType)).before args0 about1 = true := code_word (m := ⟨2, 0⟩) (meth := k2m0) (c := k2c0) (by decide +kernel) rfl rfl rfl (by decide +kernel)
set_option maxRecDepth 65536 in
theorem w_c2 : (Jvm.Cond.code ({ cls := "java/lang/Object", name := "<init>", desc := "()V" } : Jvm.MethodName) object_method_1_code (1 : Nat) (Option.none : Option Jvm.ClassFile.FieldType)).before args0 about1 = true := code_word (m := ⟨0, 0⟩) (meth := k0m0) (c := k0c0) (by decide +kernel) rfl rfl rfl (by decide +kernel)
set_option maxRecDepth 65536 in
theorem w_c3 : (Jvm.Cond.code ({ cls := "com/example/tablewise/tablewise/propagation/TableQueue", name := "offer", desc := "(I)V" } : Jvm.MethodName) prog_41_method_2_code (2 : Nat) (Option.none : Option Jvm.ClassFile.FieldType)).before args0 about1 = true := code_word (m := ⟨2, 1⟩) (meth := k2m1) (c := k2c1) (by decide +kernel) rfl rfl rfl (by decide +kernel)
set_option maxRecDepth 65536 in
theorem w_c4 : (Jvm.Cond.code ({ cls := "com/example/tablewise/tablewise/propagation/TableQueueOfferPinLaw", name := "push", desc := "([III)I" } : Jvm.MethodName) method_3_code (3 : Nat) (Option.some Jvm.ClassFile.FieldType.int)).before args0 about1 = true := code_word (m := ⟨1, 2⟩) (meth := k1m2) (c := k1c2) (by decide +kernel) rfl rfl rfl (by decide +kernel)
set_option maxRecDepth 65536 in
theorem w_c5 : (Jvm.Cond.code ({ cls := "com/example/tablewise/tablewise/propagation/TableQueueOfferPinLaw", name := "has", desc := "([III)Z" } : Jvm.MethodName) method_2_code (3 : Nat) (Option.some Jvm.ClassFile.FieldType.boolean)).before args0 about1 = true := code_word (m := ⟨1, 1⟩) (meth := k1m1) (c := k1c1) (by decide +kernel) rfl rfl rfl (by decide +kernel)
set_option maxRecDepth 65536 in
theorem w_c6 : (Jvm.Cond.code ({ cls := "com/example/tablewise/tablewise/propagation/TableQueue", name := "poll", desc := "()I" } : Jvm.MethodName) prog_41_method_4_code (2 : Nat) (Option.some Jvm.ClassFile.FieldType.int)).before args0 about1 = true := code_word (m := ⟨2, 3⟩) (meth := k2m3) (c := k2c3) (by decide +kernel) rfl rfl rfl (by decide +kernel)
set_option maxRecDepth 65536 in
theorem w_c7 : (Jvm.Cond.code ({ cls := "com/example/tablewise/tablewise/propagation/TableQueueOfferPinLaw", name := "pop", desc := "([II)I" } : Jvm.MethodName) method_4_code (2 : Nat) (Option.some Jvm.ClassFile.FieldType.int)).before args0 about1 = true := code_word (m := ⟨1, 3⟩) (meth := k1m3) (c := k1c3) (by decide +kernel) rfl rfl rfl (by decide +kernel)
set_option maxRecDepth 65536 in
theorem w_c8 : (Jvm.Cond.code ({ cls := "com/example/tablewise/tablewise/propagation/TableQueue", name := "isEmpty", desc := "()Z" } : Jvm.MethodName) prog_41_method_3_code (1 : Nat) (Option.some Jvm.ClassFile.FieldType.boolean)).before args0 about1 = true := code_word (m := ⟨2, 2⟩) (meth := k2m2) (c := k2c2) (by decide +kernel) rfl rfl rfl (by decide +kernel)
def codes1 : List Jvm.Cond := [Jvm.Cond.code x code maxLocals ret, Jvm.Cond.code ({ cls := "com/example/tablewise/tablewise/propagation/TableQueue", name := "<init>", desc := "(I)V" } : Jvm.MethodName) prog_41_method_1_code (2 : Nat) (Option.none : Option Jvm.ClassFile.FieldType), Jvm.Cond.code ({ cls := "java/lang/Object", name := "<init>", desc := "()V" } : Jvm.MethodName) object_method_1_code (1 : Nat) (Option.none : Option Jvm.ClassFile.FieldType), Jvm.Cond.code ({ cls := "com/example/tablewise/tablewise/propagation/TableQueue", name := "offer", desc := "(I)V" } : Jvm.MethodName) prog_41_method_2_code (2 : Nat) (Option.none : Option Jvm.ClassFile.FieldType), Jvm.Cond.code ({ cls := "com/example/tablewise/tablewise/propagation/TableQueueOfferPinLaw", name := "push", desc := "([III)I" } : Jvm.MethodName) method_3_code (3 : Nat) (Option.some Jvm.ClassFile.FieldType.int), Jvm.Cond.code ({ cls := "com/example/tablewise/tablewise/propagation/TableQueueOfferPinLaw", name := "has", desc := "([III)Z" } : Jvm.MethodName) method_2_code (3 : Nat) (Option.some Jvm.ClassFile.FieldType.boolean), Jvm.Cond.code ({ cls := "com/example/tablewise/tablewise/propagation/TableQueue", name := "poll", desc := "()I" } : Jvm.MethodName) prog_41_method_4_code (2 : Nat) (Option.some Jvm.ClassFile.FieldType.int), Jvm.Cond.code ({ cls := "com/example/tablewise/tablewise/propagation/TableQueueOfferPinLaw", name := "pop", desc := "([II)I" } : Jvm.MethodName) method_4_code (2 : Nat) (Option.some Jvm.ClassFile.FieldType.int), Jvm.Cond.code ({ cls := "com/example/tablewise/tablewise/propagation/TableQueue", name := "isEmpty", desc := "()Z" } : Jvm.MethodName) prog_41_method_3_code (1 : Nat) (Option.some Jvm.ClassFile.FieldType.boolean)]
set_option maxRecDepth 65536 in
theorem codes_eq : words1.filter isCode = codes1 := rfl
theorem w_codes : ∀ c ∈ words1.filter isCode, c.before args0 about1 = true := by
  rw [codes_eq]
  intro c hc
  simp only [codes1, List.mem_cons, List.not_mem_nil, or_false] at hc
  rcases hc with rfl | rfl | rfl | rfl | rfl | rfl | rfl | rfl | rfl
  · exact w_c0
  · exact w_c1
  · exact w_c2
  · exact w_c3
  · exact w_c4
  · exact w_c5
  · exact w_c6
  · exact w_c7
  · exact w_c8
set_option maxRecDepth 65536 in
theorem w_t1 : (words1.take 24).all (fun c => isCode c || c.before args0 about1) = true := by decide +kernel
set_option maxRecDepth 65536 in
theorem w_t2 : (words1.drop 24).all (fun c => isCode c || c.before args0 about1) = true := by decide +kernel
theorem w_tables : (allAtoms (Jvm.Cond.code x code maxLocals ret :: tables_1)).before args0 about1 = true := by
  rw [allAtoms_all]
  show words1.all (fun c => c.before args0 about1) = true
  refine all_split ?_ w_codes
  rw [← List.take_append_drop 24 words1, List.all_append, w_t1, w_t2]
  rfl
set_option maxRecDepth 65536 in
theorem w_case : (Jvm.Cond.and given_1 narrow_1).before args0 about1 = true := by decide +kernel
theorem w_applies : (headSpec (Jvm.Cond.code x code maxLocals ret :: tables_1) room_1).applies x e0.platform about1 = true :=
  (Spec.applies_iff w_frames).mpr ⟨w_running, w_runnable, w_alone, w_named, w_hears, w_ripe, w_room, w_tables⟩
theorem atStart : AtStart classFile x code maxLocals ret World_1 tables_1 room_1 Calls_1 rest_1 Pre_1 launch0 p0 e0 about1 theMethod args0 below0 :=
  ⟨lists_1, trivial, launch0.admits_env _ _ _, launch0.least_env, fairChoices_fair.cas, fairChoices_fair.clock, w_frames, w_args, w_heap, w_applies, trivial, trivial, w_case⟩
end start1
theorem witness_1 : WitnessClaimed_1 := ⟨start1.p0, start1.e0, start1.about1, start1.theMethod, start1.args0, start1.below0, start1.atStart⟩
end Jvm.Pilot.@@N@@
