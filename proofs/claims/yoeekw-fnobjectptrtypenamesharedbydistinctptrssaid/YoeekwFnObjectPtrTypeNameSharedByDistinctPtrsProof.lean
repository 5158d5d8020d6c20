/-
  THE PROOF OF 'Rows.FnObjectPtrTypeNameSharedByDistinctPtrsSaid'. The row's step is the guide's template (the shell that was given beside the statement); the walk is this seat's own work, over the leaves' contracts in YoeekwPtr.lean.
-/
import Derived.Test.YoeekwRows
import Derived.Test.YoeekwPtr
import Derived.WalkKit
import Derived.ProofKit
import Derived.OpenShut
import Derived.ShutString
namespace Go.Proofs.Yoeekw.fnObjectPtrTypeNameSharedByDistinctPtrs
open Go.ChangeShapes Go.WideShapes Go.ChangeAt Go.RowKit
open Go.ChangeMaps (open_string shut_string)
set_option linter.unusedVariables false      -- a walk need not use every 'w<i>' (that an integer argument fits its kind)

theorem own : ownKnob Eekg.prog.godebug = none := by kernel_rfl

/-! ### The walk: one theorem for each of the two zzPtr's branches -/
set_option maxHeartbeats 800000 in
theorem walk_false_false (a1 a3 : Int) (w : World) :
    Calls Eekg.prog 5 #[.bool false, .int .i64 a1, .bool false, .int .i64 a3] w fun e w' => e = .returned (.bool true) ∧ Grown w w' := by
  go_enter Eekg.func5, Eekg.ntmps5
  go_wp2_with fail
  refine (zzPtr_false _ _).mono ?_
  rintro e w' ⟨rfl, rfl⟩
  go_wp2_with fail
  refine (zzPtr_false _ _).mono ?_
  rintro e w' ⟨rfl, rfl⟩
  go_wp2_with (first
    | (go_at_call 11; refine (equals_any _ _ _ (by repeat (first | (apply IsRow.new; simp; done) | apply IsRow.old)) (by repeat (first | (apply IsRow.new; simp; done) | apply IsRow.old))).mono ?_; rintro e w' ⟨rfl, rfl⟩)
    | (go_at_call 10; refine (typeName_any _ _).mono ?_; rintro e w' ⟨rfl, rfl⟩)
    | (go_at_call 12; refine (intTypeName_any _ _).mono ?_; rintro e w' ⟨rfl, rfl⟩))
  go_ret
  exact ⟨rfl, by repeat (first | exact Grown.refl _ | apply Grown.drew | apply Grown.alloc)⟩

set_option maxHeartbeats 800000 in
theorem walk_false_true (a1 a3 : Int) (w : World) :
    Calls Eekg.prog 5 #[.bool false, .int .i64 a1, .bool true, .int .i64 a3] w fun e w' => e = .returned (.bool true) ∧ Grown w w' := by
  go_enter Eekg.func5, Eekg.ntmps5
  go_wp2_with fail
  refine (zzPtr_false _ _).mono ?_
  rintro e w' ⟨rfl, rfl⟩
  go_wp2_with fail
  refine (zzPtr_true _ _).mono ?_
  rintro e w' ⟨rfl, rfl⟩
  go_wp2_with (first
    | (go_at_call 11; refine (equals_any _ _ _ (by repeat (first | (apply IsRow.new; simp; done) | apply IsRow.old)) (by repeat (first | (apply IsRow.new; simp; done) | apply IsRow.old))).mono ?_; rintro e w' ⟨rfl, rfl⟩)
    | (go_at_call 10; refine (typeName_any _ _).mono ?_; rintro e w' ⟨rfl, rfl⟩)
    | (go_at_call 12; refine (intTypeName_any _ _).mono ?_; rintro e w' ⟨rfl, rfl⟩))
  go_ret
  exact ⟨rfl, by repeat (first | exact Grown.refl _ | apply Grown.drew | apply Grown.alloc)⟩

set_option maxHeartbeats 800000 in
theorem walk_true_false (a1 a3 : Int) (w : World) :
    Calls Eekg.prog 5 #[.bool true, .int .i64 a1, .bool false, .int .i64 a3] w fun e w' => e = .returned (.bool true) ∧ Grown w w' := by
  go_enter Eekg.func5, Eekg.ntmps5
  go_wp2_with fail
  refine (zzPtr_true _ _).mono ?_
  rintro e w' ⟨rfl, rfl⟩
  go_wp2_with fail
  refine (zzPtr_false _ _).mono ?_
  rintro e w' ⟨rfl, rfl⟩
  go_wp2_with (first
    | (go_at_call 11; refine (equals_any _ _ _ (by repeat (first | (apply IsRow.new; simp; done) | apply IsRow.old)) (by repeat (first | (apply IsRow.new; simp; done) | apply IsRow.old))).mono ?_; rintro e w' ⟨rfl, rfl⟩)
    | (go_at_call 10; refine (typeName_any _ _).mono ?_; rintro e w' ⟨rfl, rfl⟩)
    | (go_at_call 12; refine (intTypeName_any _ _).mono ?_; rintro e w' ⟨rfl, rfl⟩))
  go_ret
  exact ⟨rfl, by repeat (first | exact Grown.refl _ | apply Grown.drew | apply Grown.alloc)⟩

set_option maxHeartbeats 800000 in
theorem walk_true_true (a1 a3 : Int) (w : World) :
    Calls Eekg.prog 5 #[.bool true, .int .i64 a1, .bool true, .int .i64 a3] w fun e w' => e = .returned (.bool true) ∧ Grown w w' := by
  go_enter Eekg.func5, Eekg.ntmps5
  go_wp2_with fail
  refine (zzPtr_true _ _).mono ?_
  rintro e w' ⟨rfl, rfl⟩
  go_wp2_with fail
  refine (zzPtr_true _ _).mono ?_
  rintro e w' ⟨rfl, rfl⟩
  go_wp2_with (first
    | (go_at_call 11; refine (equals_any _ _ _ (by repeat (first | (apply IsRow.new; simp; done) | apply IsRow.old)) (by repeat (first | (apply IsRow.new; simp; done) | apply IsRow.old))).mono ?_; rintro e w' ⟨rfl, rfl⟩)
    | (go_at_call 10; refine (typeName_any _ _).mono ?_; rintro e w' ⟨rfl, rfl⟩)
    | (go_at_call 12; refine (intTypeName_any _ _).mono ?_; rintro e w' ⟨rfl, rfl⟩))
  go_ret
  exact ⟨rfl, by repeat (first | exact Grown.refl _ | apply Grown.drew | apply Grown.alloc)⟩

theorem walk (a0 : Bool) (a1 : Int) (a2 : Bool) (a3 : Int) (w1 : (Lit.int .i64 a1).wf = true) (w3 : (Lit.int .i64 a3).wf = true) (w : World) :
    Calls Eekg.prog 5 #[.bool a0, .int .i64 a1, .bool a2, .int .i64 a3] w fun e w' => e = .returned (.bool true) ∧ Grown w w' := by
  cases a0 <;> cases a2
  · exact walk_false_false a1 a3 w
  · exact walk_false_true a1 a3 w
  · exact walk_true_false a1 a3 w
  · exact walk_true_true a1 a3 w

/-! ### The row's step (the guide's template) -/
set_option maxRecDepth 100000 in
theorem lifted (os : Os) (started : os.Started) (H : Type) (enc : TypeId × Value → H) :
    ReturnsInHanded {} Eekg.checked os 5 .any (Rows.fnObjectPtrTypeNameSharedByDistinctPtrsSpec.pre6 enc Eekg.prog Eekg.f5 Rows.fnObjectPtrTypeNameSharedByDistinctPtrsRow.domain false) (Rows.fnObjectPtrTypeNameSharedByDistinctPtrsSpec.post enc Eekg.prog Eekg.f5 false true false false) := by
  refine returnsInHanded_of_change (C := Eekg.checked) own started (by kernel_rfl) Eekg.func5
    (ChangeSpec.witness6 (enc := enc) (C := Eekg.checked) false ⟨#[], #[.bool false, .int .i64 0, .bool false, .int .i64 0], []⟩ 8 (by kernel_rfl) (by kernel_rfl) (by kernel_rfl) (by kernel_rfl)) ?_
  intro W base args ds gs before hval0 hW hcnd _
  have hval : ∀ (j : Nat) t v, Eekg.f5.params[j]? = some t → args[j]? = some v → Value.okWide Eekg.prog W .any base t v := hval0
  have hW' := hW
  obtain ⟨p, q, hA0, hV, rfl, hfz, hnd⟩ := hW
  have hA : DataW.TrodAll enc Eekg.prog W 0 (fun _ => true) true Eekg.f5.params.toList args.toList ds p := hA0
  rw [Eekg.params5] at hA hval
  obtain ⟨v0, vs0, d0, ds0, p0, q0, hargs, rfl, rfl, h0, r0⟩ := trodAll_cons hA
  obtain ⟨v1, vs1, d1, ds1, p1, q1, rfl, rfl, rfl, h1, r1⟩ := trodAll_cons r0
  obtain ⟨v2, vs2, d2, ds2, p2, q2, rfl, rfl, rfl, h2, r2⟩ := trodAll_cons r1
  obtain ⟨v3, vs3, d3, ds3, p3, q3, rfl, rfl, rfl, h3, r3⟩ := trodAll_cons r2
  obtain ⟨rfl, rfl, rfl⟩ := trodAll_nil r3
  obtain rfl : args = #[v0, v1, v2, v3] := by cases args; simp_all
  obtain ⟨rfl, rfl⟩ := trodVars_none hV
  obtain ⟨a0, rfl, rfl, rfl⟩ := open_bool Eekg.underlying4 (hval 0 4 v0 rfl rfl) h0
  obtain ⟨a1, rfl, rfl, rfl, w1⟩ := open_int Eekg.underlying2 (hval 1 2 v1 rfl rfl) h1
  obtain ⟨a2, rfl, rfl, rfl⟩ := open_bool Eekg.underlying4 (hval 2 4 v2 rfl rfl) h2
  obtain ⟨a3, rfl, rfl, rfl, w3⟩ := open_int Eekg.underlying2 (hval 3 2 v3 rfl rfl) h3
  clear hA0 hval0
  simp only [List.append_nil] at hW'
  refine (walk a0 a1 a2 a3 w1 w3 W).mono fun e W' ⟨he, hg⟩ => ?_
  subst he
  exact ⟨_, rfl, post_of_same (pa := []) (pv := []) hW' (fun _ _ _ => (trodAll_cons_mk (shut_bool Eekg.underlying4 _) trodAll_mk0)) (fun sp _ => (trodAll_cons_mk (shut_bool Eekg.underlying4 _) (trodAll_cons_mk (shut_int Eekg.underlying2 w1) (trodAll_cons_mk (shut_bool Eekg.underlying4 _) (trodAll_cons_mk (shut_int Eekg.underlying2 w3) trodAll_mk0))))) (fun _ _ => rfl) rfl
    (hg.frame _) hg.2.1 (ok_one (by kernel_rfl) rfl (okWide_bool_mk Eekg.underlying4 _))⟩

theorem over : Rows.fnObjectPtrTypeNameSharedByDistinctPtrsRow.holds Eekg.pinned (OpenSpec.ofChange Rows.fnObjectPtrTypeNameSharedByDistinctPtrsSpec) :=
  OpenClaim.holds_of_wide 5 Eekg.f5 rfl rfl rfl rfl rfl rfl rfl ⟨rfl, rfl, rfl, rfl, rfl⟩ rfl rfl rfl rfl rfl (by kernel_rfl) Eekg.func5 (by kernel_rfl)
    (of_decide_eq_true (by kernel_rfl)) (by unfold Func.isWrapper; first | (rw [if_pos (by decide +kernel)]; kernel_rfl) | (rw [if_neg (by decide +kernel)]; exact ⟨rfl, rfl⟩))
    (fun os started H enc _ => lifted os started H enc)

/-- ████ THE STATEMENT ████ -/
theorem proved : Rows.FnObjectPtrTypeNameSharedByDistinctPtrsSaid :=
  over
end Go.Proofs.Yoeekw.fnObjectPtrTypeNameSharedByDistinctPtrs

namespace Go.Proofs.Yoeekw
/-- The same, under a plain name: what the claim hands in. -/
theorem fnObjectPtrTypeNameSharedByDistinctPtrs_holds : Rows.FnObjectPtrTypeNameSharedByDistinctPtrsSaid := fnObjectPtrTypeNameSharedByDistinctPtrs.proved
end Go.Proofs.Yoeekw
