/-
  THE PROOF OF 'Rows.FnObjectPtrTypeNameBracketsStringSaid'. The row's step is the guide's template (the shell that was given beside the statement); the walk is this seat's own work, over the leaves' contracts in YoeekwPtr.lean.
-/
import Derived.Test.YoeekwRows
import Derived.Test.YoeekwPtr
import Derived.WalkKit
import Derived.ProofKit
import Derived.OpenShut
import Derived.ShutString
namespace Go.Proofs.Yoeekw.fnObjectPtrTypeNameBracketsString
open Go.ChangeShapes Go.WideShapes Go.ChangeAt Go.RowKit
open Go.ChangeMaps (open_string shut_string)
set_option linter.unusedVariables false      -- a walk need not use every 'w<i>' (that an integer argument fits its kind)

theorem own : ownKnob Eekg.prog.godebug = none := by kernel_rfl

/-! ### The plain law: the type's name is the text in angle brackets -/
theorem brackets : ([60, 102, 114, 101, 101, 45, 118, 97, 114, 62] == ((⟨#[60]⟩ : ByteArray) ++ ⟨#[102, 114, 101, 101, 45, 118, 97, 114]⟩ ++ ⟨#[62]⟩).toList) = true := by
  decide +kernel

/-! ### The walk: one theorem a branch of zzPtr -/
set_option maxHeartbeats 400000 in
theorem walk_false (a1 : Int) (w : World) :
    Calls Eekg.prog 4 #[.bool false, .int .i64 a1] w fun e w' => e = .returned (.bool true) ∧ Grown w w' := by
  go_enter Eekg.func4, Eekg.ntmps4
  go_wp2_with (first
    | (go_at_call 8; refine (zzPtr_false _ _).mono ?_; rintro e w' ⟨rfl, rfl⟩)
    | (go_at_call 9; refine (string_any _ _).mono ?_; rintro e w' ⟨rfl, rfl⟩)
    | (go_at_call 10; refine (typeName_any _ _).mono ?_; rintro e w' ⟨rfl, rfl⟩))
  go_ret
  exact ⟨congrArg (fun b => Ending.returned (.bool b)) brackets, by repeat (first | exact Grown.refl _ | apply Grown.drew | apply Grown.alloc)⟩

set_option maxHeartbeats 400000 in
theorem walk_true (a1 : Int) (w : World) :
    Calls Eekg.prog 4 #[.bool true, .int .i64 a1] w fun e w' => e = .returned (.bool true) ∧ Grown w w' := by
  go_enter Eekg.func4, Eekg.ntmps4
  go_wp2_with (first
    | (go_at_call 8; refine (zzPtr_true _ _).mono ?_; rintro e w' ⟨rfl, rfl⟩)
    | (go_at_call 9; refine (string_any _ _).mono ?_; rintro e w' ⟨rfl, rfl⟩)
    | (go_at_call 10; refine (typeName_any _ _).mono ?_; rintro e w' ⟨rfl, rfl⟩))
  go_ret
  exact ⟨congrArg (fun b => Ending.returned (.bool b)) brackets, by repeat (first | exact Grown.refl _ | apply Grown.drew | apply Grown.alloc)⟩

theorem walk (a0 : Bool) (a1 : Int) (w1 : (Lit.int .i64 a1).wf = true) (w : World) :
    Calls Eekg.prog 4 #[.bool a0, .int .i64 a1] w fun e w' => e = .returned (.bool true) ∧ Grown w w' := by
  cases a0
  · exact walk_false a1 w
  · exact walk_true a1 w

/-! ### The row's step (the guide's template) -/
set_option maxRecDepth 100000 in
theorem lifted (os : Os) (started : os.Started) (H : Type) (enc : TypeId × Value → H) :
    ReturnsInHanded {} Eekg.checked os 4 .any (Rows.fnObjectPtrTypeNameBracketsStringSpec.pre6 enc Eekg.prog Eekg.f4 Rows.fnObjectPtrTypeNameBracketsStringRow.domain false) (Rows.fnObjectPtrTypeNameBracketsStringSpec.post enc Eekg.prog Eekg.f4 false true false false) := by
  refine returnsInHanded_of_change (C := Eekg.checked) own started (by kernel_rfl) Eekg.func4
    (ChangeSpec.witness6 (enc := enc) (C := Eekg.checked) false ⟨#[], #[.bool false, .int .i64 0], []⟩ 8 (by kernel_rfl) (by kernel_rfl) (by kernel_rfl) (by kernel_rfl)) ?_
  intro W base args ds gs before hval0 hW hcnd _
  have hval : ∀ (j : Nat) t v, Eekg.f4.params[j]? = some t → args[j]? = some v → Value.okWide Eekg.prog W .any base t v := hval0
  have hW' := hW
  obtain ⟨p, q, hA0, hV, rfl, hfz, hnd⟩ := hW
  have hA : DataW.TrodAll enc Eekg.prog W 0 (fun _ => true) true Eekg.f4.params.toList args.toList ds p := hA0
  rw [Eekg.params4] at hA hval
  obtain ⟨v0, vs0, d0, ds0, p0, q0, hargs, rfl, rfl, h0, r0⟩ := trodAll_cons hA
  obtain ⟨v1, vs1, d1, ds1, p1, q1, rfl, rfl, rfl, h1, r1⟩ := trodAll_cons r0
  obtain ⟨rfl, rfl, rfl⟩ := trodAll_nil r1
  obtain rfl : args = #[v0, v1] := by cases args; simp_all
  obtain ⟨rfl, rfl⟩ := trodVars_none hV
  obtain ⟨a0, rfl, rfl, rfl⟩ := open_bool Eekg.underlying4 (hval 0 4 v0 rfl rfl) h0
  obtain ⟨a1, rfl, rfl, rfl, w1⟩ := open_int Eekg.underlying2 (hval 1 2 v1 rfl rfl) h1
  clear hA0 hval0
  simp only [List.append_nil] at hW'
  refine (walk a0 a1 w1 W).mono fun e W' ⟨he, hg⟩ => ?_
  subst he
  exact ⟨_, rfl, post_of_same (pa := []) (pv := []) hW' (fun _ _ _ => (trodAll_cons_mk (shut_bool Eekg.underlying4 _) trodAll_mk0)) (fun sp _ => (trodAll_cons_mk (shut_bool Eekg.underlying4 _) (trodAll_cons_mk (shut_int Eekg.underlying2 w1) trodAll_mk0))) (fun _ _ => rfl) rfl
    (hg.frame _) hg.2.1 (ok_one (by kernel_rfl) rfl (okWide_bool_mk Eekg.underlying4 _))⟩

theorem over : Rows.fnObjectPtrTypeNameBracketsStringRow.holds Eekg.pinned (OpenSpec.ofChange Rows.fnObjectPtrTypeNameBracketsStringSpec) :=
  OpenClaim.holds_of_wide 4 Eekg.f4 rfl rfl rfl rfl rfl rfl rfl ⟨rfl, rfl, rfl, rfl, rfl⟩ rfl rfl rfl rfl rfl (by kernel_rfl) Eekg.func4 (by kernel_rfl)
    (of_decide_eq_true (by kernel_rfl)) (by unfold Func.isWrapper; first | (rw [if_pos (by decide +kernel)]; kernel_rfl) | (rw [if_neg (by decide +kernel)]; exact ⟨rfl, rfl⟩))
    (fun os started H enc _ => lifted os started H enc)

/-- ████ THE STATEMENT ████ -/
theorem proved : Rows.FnObjectPtrTypeNameBracketsStringSaid :=
  over
end Go.Proofs.Yoeekw.fnObjectPtrTypeNameBracketsString

namespace Go.Proofs.Yoeekw
/-- The same, under a plain name: what the claim hands in. -/
theorem fnObjectPtrTypeNameBracketsString_holds : Rows.FnObjectPtrTypeNameBracketsStringSaid := fnObjectPtrTypeNameBracketsString.proved
end Go.Proofs.Yoeekw
