/-
  No cell of these rows narrows 'for every input' (looked for: loops, veiled, ifaces, maps, wideKeys, modest, calm, conditions, laid).
  DERIVED. THE GIVEN ROWS OF THIS SEAT. 5 by the template 'for every input the law returns true; each argument reads behind the call as it read before'; 0 by the template 'total and deterministic' (their statements: YoeekwTotals.lean).
  GIVEN WITH THE SEED: the statements are not yours to turn. If you find one false, say at which input.
  Laid BY PROGRAM, IN A SANDBOX (cutbox-rows.mjs): the forced cells as the released guide's own fill.sh prints them over the translation c50e3ac398f0eb22… (all of the seat's roots in one cut). By AI agents, Wed Nov 11 2026. No macro, syntax, notation, axiom, sorry.
-/
import Derived.Test.YoeekwChecked
import GoSem.Claim
import GoSem.ClaimJoined
import GoSem.ClaimMapViews
import Derived.JoinedTies
import Derived.KernelRfl
namespace Go.Proofs.Yoeekw
/- THE CELL 'sum', in the pinned program and in every row, IS THE sha256 OF THE DUMP (.gsa) THAT YoeekwProg.lean LOADS. Nothing in Lean hashes anything: it is a label: what it is worth is what the hold of that sum in a sandbox is worth. -/
noncomputable def Eekg.pinned : Pinned := { name := "yoeekw", sum := "c50e3ac398f0eb22d5c1b6408d1dfbffe0a4cb425eea9c0b82ada72774dd98ea", checked := Eekg.checked }
namespace Rows
def none {H : Type} : Left H := { results := [], args := [] }

/-- 'zzlaws_root_b2.FnObjectPtrStringIgnoresCell': WHATEVER THE INPUT: true; the input reads as it did. -/
def fnObjectPtrStringIgnoresCellSpec : ChangeSpec := { name := "fnObjectPtrStringIgnoresCell", fn := fun _ => fun
  | [d1, d2, d3] => { results := [.lit (.bool true)], args := [d1, d2, d3] }
  | _ => none }
def fnObjectPtrStringIgnoresCellRow : OpenClaim := { program := "yoeekw", sum := "c50e3ac398f0eb22d5c1b6408d1dfbffe0a4cb425eea9c0b82ada72774dd98ea", func := "github.com/d5/tengo/v2/zzlaws_root_b2.FnObjectPtrStringIgnoresCell", spec := "fnObjectPtrStringIgnoresCell", apart := false }
def FnObjectPtrStringIgnoresCellSaid : Prop := fnObjectPtrStringIgnoresCellRow.holds Eekg.pinned (OpenSpec.ofChange fnObjectPtrStringIgnoresCellSpec)

/-- ITS FALSE NEIGHBOUR: 'it returns false'. Refute it at one input. -/
def fnObjectPtrStringIgnoresCellWrong : ChangeSpec := { name := "fnObjectPtrStringIgnoresCell", fn := fun _ => fun
  | [d1, d2, d3] => { results := [.lit (.bool false)], args := [d1, d2, d3] }
  | _ => none }
def FnObjectPtrStringIgnoresCellWrongFalsely : Prop := fnObjectPtrStringIgnoresCellRow.holds Eekg.pinned (OpenSpec.ofChange fnObjectPtrStringIgnoresCellWrong)

/-- 'zzlaws_root_b2.FnObjectPtrTypeNameBracketsString': WHATEVER THE INPUT: true; the input reads as it did. -/
def fnObjectPtrTypeNameBracketsStringSpec : ChangeSpec := { name := "fnObjectPtrTypeNameBracketsString", fn := fun _ => fun
  | [d1, d2] => { results := [.lit (.bool true)], args := [d1, d2] }
  | _ => none }
def fnObjectPtrTypeNameBracketsStringRow : OpenClaim := { program := "yoeekw", sum := "c50e3ac398f0eb22d5c1b6408d1dfbffe0a4cb425eea9c0b82ada72774dd98ea", func := "github.com/d5/tengo/v2/zzlaws_root_b2.FnObjectPtrTypeNameBracketsString", spec := "fnObjectPtrTypeNameBracketsString", apart := false }
def FnObjectPtrTypeNameBracketsStringSaid : Prop := fnObjectPtrTypeNameBracketsStringRow.holds Eekg.pinned (OpenSpec.ofChange fnObjectPtrTypeNameBracketsStringSpec)

/-- ITS FALSE NEIGHBOUR: 'it returns false'. Refute it at one input. -/
def fnObjectPtrTypeNameBracketsStringWrong : ChangeSpec := { name := "fnObjectPtrTypeNameBracketsString", fn := fun _ => fun
  | [d1, d2] => { results := [.lit (.bool false)], args := [d1, d2] }
  | _ => none }
def FnObjectPtrTypeNameBracketsStringWrongFalsely : Prop := fnObjectPtrTypeNameBracketsStringRow.holds Eekg.pinned (OpenSpec.ofChange fnObjectPtrTypeNameBracketsStringWrong)

/-- 'zzlaws_root_b2.FnObjectPtrTypeNameSharedByDistinctPtrs': WHATEVER THE INPUT: true; the input reads as it did. -/
def fnObjectPtrTypeNameSharedByDistinctPtrsSpec : ChangeSpec := { name := "fnObjectPtrTypeNameSharedByDistinctPtrs", fn := fun _ => fun
  | [d1, d2, d3, d4] => { results := [.lit (.bool true)], args := [d1, d2, d3, d4] }
  | _ => none }
def fnObjectPtrTypeNameSharedByDistinctPtrsRow : OpenClaim := { program := "yoeekw", sum := "c50e3ac398f0eb22d5c1b6408d1dfbffe0a4cb425eea9c0b82ada72774dd98ea", func := "github.com/d5/tengo/v2/zzlaws_root_b2.FnObjectPtrTypeNameSharedByDistinctPtrs", spec := "fnObjectPtrTypeNameSharedByDistinctPtrs", apart := false }
def FnObjectPtrTypeNameSharedByDistinctPtrsSaid : Prop := fnObjectPtrTypeNameSharedByDistinctPtrsRow.holds Eekg.pinned (OpenSpec.ofChange fnObjectPtrTypeNameSharedByDistinctPtrsSpec)

/-- ITS FALSE NEIGHBOUR: 'it returns false'. Refute it at one input. -/
def fnObjectPtrTypeNameSharedByDistinctPtrsWrong : ChangeSpec := { name := "fnObjectPtrTypeNameSharedByDistinctPtrs", fn := fun _ => fun
  | [d1, d2, d3, d4] => { results := [.lit (.bool false)], args := [d1, d2, d3, d4] }
  | _ => none }
def FnObjectPtrTypeNameSharedByDistinctPtrsWrongFalsely : Prop := fnObjectPtrTypeNameSharedByDistinctPtrsRow.holds Eekg.pinned (OpenSpec.ofChange fnObjectPtrTypeNameSharedByDistinctPtrsWrong)

/-- 'zzlaws_root_b2.FnObjectPtrCopySharesCell': WHATEVER THE INPUT: true; the input reads as it did. -/
def fnObjectPtrCopySharesCellSpec : ChangeSpec := { name := "fnObjectPtrCopySharesCell", fn := fun _ => fun
  | [d1, d2] => { results := [.lit (.bool true)], args := [d1, d2] }
  | _ => none }
def fnObjectPtrCopySharesCellRow : OpenClaim := { program := "yoeekw", sum := "c50e3ac398f0eb22d5c1b6408d1dfbffe0a4cb425eea9c0b82ada72774dd98ea", func := "github.com/d5/tengo/v2/zzlaws_root_b2.FnObjectPtrCopySharesCell", spec := "fnObjectPtrCopySharesCell", unfollowed := true, recurses := true, apart := false }
def FnObjectPtrCopySharesCellSaid : Prop := fnObjectPtrCopySharesCellRow.holds Eekg.pinned (OpenSpec.ofChange fnObjectPtrCopySharesCellSpec)

/-- ITS FALSE NEIGHBOUR: 'it returns false'. Refute it at one input. -/
def fnObjectPtrCopySharesCellWrong : ChangeSpec := { name := "fnObjectPtrCopySharesCell", fn := fun _ => fun
  | [d1, d2] => { results := [.lit (.bool false)], args := [d1, d2] }
  | _ => none }
def FnObjectPtrCopySharesCellWrongFalsely : Prop := fnObjectPtrCopySharesCellRow.holds Eekg.pinned (OpenSpec.ofChange fnObjectPtrCopySharesCellWrong)

/-- 'zzlaws_root_b2.FnObjectPtrCopyIsIdentity': WHATEVER THE INPUT: true; the input reads as it did. -/
def fnObjectPtrCopyIsIdentitySpec : ChangeSpec := { name := "fnObjectPtrCopyIsIdentity", fn := fun _ => fun
  | [d1, d2] => { results := [.lit (.bool true)], args := [d1, d2] }
  | _ => none }
def fnObjectPtrCopyIsIdentityRow : OpenClaim := { program := "yoeekw", sum := "c50e3ac398f0eb22d5c1b6408d1dfbffe0a4cb425eea9c0b82ada72774dd98ea", func := "github.com/d5/tengo/v2/zzlaws_root_b2.FnObjectPtrCopyIsIdentity", spec := "fnObjectPtrCopyIsIdentity", unfollowed := true, recurses := true, apart := false }
def FnObjectPtrCopyIsIdentitySaid : Prop := fnObjectPtrCopyIsIdentityRow.holds Eekg.pinned (OpenSpec.ofChange fnObjectPtrCopyIsIdentitySpec)

/-- ITS FALSE NEIGHBOUR: 'it returns false'. Refute it at one input. -/
def fnObjectPtrCopyIsIdentityWrong : ChangeSpec := { name := "fnObjectPtrCopyIsIdentity", fn := fun _ => fun
  | [d1, d2] => { results := [.lit (.bool false)], args := [d1, d2] }
  | _ => none }
def FnObjectPtrCopyIsIdentityWrongFalsely : Prop := fnObjectPtrCopyIsIdentityRow.holds Eekg.pinned (OpenSpec.ofChange fnObjectPtrCopyIsIdentityWrong)

end Rows
end Go.Proofs.Yoeekw
