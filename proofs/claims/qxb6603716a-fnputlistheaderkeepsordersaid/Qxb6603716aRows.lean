/-
  No cell of these rows narrows 'for every input' (looked for: loops, veiled, ifaces, maps, wideKeys, modest, calm, conditions, laid).
  DERIVED. THE GIVEN ROWS OF THIS SEAT. 5 by the template 'for every input the law returns true; each argument reads behind the call as it read before'; 0 by the template 'total and deterministic' (their statements: Qxb6603716aTotals.lean).
  GIVEN WITH THE SEED: the statements are not yours to turn. If you find one false, say at which input.
  Laid BY PROGRAM, IN A SANDBOX (cutbox-rows.mjs): the forced cells as the released guide's own fill.sh prints them over the translation a41e07b514a6d8da… (all of the seat's roots in one cut). By AI agents, Wed Nov 11 2026. No macro, syntax, notation, axiom, sorry.
-/
import Derived.Test.Qxb6603716aChecked
import GoSem.Claim
import GoSem.ClaimJoined
import GoSem.ClaimMapViews
import Derived.JoinedTies
import Derived.KernelRfl
namespace Go.Proofs.Qxb6603716a
/- THE CELL 'sum', in the pinned program and in every row, IS THE sha256 OF THE DUMP (.gsa) THAT Qxb6603716aProg.lean LOADS. Nothing in Lean hashes anything: it is a label: what it is worth is what the hold of that sum in a sandbox is worth. -/
noncomputable def Try.pinned : Pinned := { name := "qxb6603716a", sum := "a41e07b514a6d8dad2564d7e9120f84cdc2308e85ad3cf8b5339bf029ce3f74f", checked := Try.checked }
namespace Rows
def none {H : Type} : Left H := { results := [], args := [] }

/-- 'zzlaws_internal_bounds_b1.FnHeaderLenCaseTable': WHATEVER THE INPUT: true; the input reads as it did. -/
def fnHeaderLenCaseTableSpec : ChangeSpec := { name := "fnHeaderLenCaseTable", fn := fun _ => fun
  | [d] => { results := [.lit (.bool true)], args := [d] }
  | _ => none }
def fnHeaderLenCaseTableRow : OpenClaim := { program := "qxb6603716a", sum := "a41e07b514a6d8dad2564d7e9120f84cdc2308e85ad3cf8b5339bf029ce3f74f", func := "example.com/nestwire/nestwire/zzlaws_internal_bounds_b1.FnHeaderLenCaseTable", spec := "fnHeaderLenCaseTable", apart := false }
def FnHeaderLenCaseTableSaid : Prop := fnHeaderLenCaseTableRow.holds Try.pinned (OpenSpec.ofChange fnHeaderLenCaseTableSpec)

/-- ITS FALSE NEIGHBOUR: 'it returns false'. Refute it at one input. -/
def fnHeaderLenCaseTableWrong : ChangeSpec := { name := "fnHeaderLenCaseTable", fn := fun _ => fun
  | [d] => { results := [.lit (.bool false)], args := [d] }
  | _ => none }
def FnHeaderLenCaseTableWrongFalsely : Prop := fnHeaderLenCaseTableRow.holds Try.pinned (OpenSpec.ofChange fnHeaderLenCaseTableWrong)

/-- 'zzlaws_internal_bounds_b1.FnPutListHeaderDecodesBack': WHATEVER THE INPUT: true; the input reads as it did. -/
def fnPutListHeaderDecodesBackSpec : ChangeSpec := { name := "fnPutListHeaderDecodesBack", fn := fun _ => fun
  | [d1, d2] => { results := [.lit (.bool true)], args := [d1, d2] }
  | _ => none }
def fnPutListHeaderDecodesBackRow : OpenClaim := { program := "qxb6603716a", sum := "a41e07b514a6d8dad2564d7e9120f84cdc2308e85ad3cf8b5339bf029ce3f74f", func := "example.com/nestwire/nestwire/zzlaws_internal_bounds_b1.FnPutListHeaderDecodesBack", spec := "fnPutListHeaderDecodesBack", apart := false }
def FnPutListHeaderDecodesBackSaid : Prop := fnPutListHeaderDecodesBackRow.holds Try.pinned (OpenSpec.ofChange fnPutListHeaderDecodesBackSpec)

/-- ITS FALSE NEIGHBOUR: 'it returns false'. Refute it at one input. -/
def fnPutListHeaderDecodesBackWrong : ChangeSpec := { name := "fnPutListHeaderDecodesBack", fn := fun _ => fun
  | [d1, d2] => { results := [.lit (.bool false)], args := [d1, d2] }
  | _ => none }
def FnPutListHeaderDecodesBackWrongFalsely : Prop := fnPutListHeaderDecodesBackRow.holds Try.pinned (OpenSpec.ofChange fnPutListHeaderDecodesBackWrong)

/-- 'zzlaws_internal_bounds_b1.FnPutListHeaderKeepsOrder': WHATEVER THE INPUT: true; the input reads as it did. -/
def fnPutListHeaderKeepsOrderSpec : ChangeSpec := { name := "fnPutListHeaderKeepsOrder", fn := fun _ => fun
  | [d1, d2, d3, d4] => { results := [.lit (.bool true)], args := [d1, d2, d3, d4] }
  | _ => none }
def fnPutListHeaderKeepsOrderRow : OpenClaim := { program := "qxb6603716a", sum := "a41e07b514a6d8dad2564d7e9120f84cdc2308e85ad3cf8b5339bf029ce3f74f", func := "example.com/nestwire/nestwire/zzlaws_internal_bounds_b1.FnPutListHeaderKeepsOrder", spec := "fnPutListHeaderKeepsOrder", apart := false }
def FnPutListHeaderKeepsOrderSaid : Prop := fnPutListHeaderKeepsOrderRow.holds Try.pinned (OpenSpec.ofChange fnPutListHeaderKeepsOrderSpec)

/-- ITS FALSE NEIGHBOUR: 'it returns false'. Refute it at one input. -/
def fnPutListHeaderKeepsOrderWrong : ChangeSpec := { name := "fnPutListHeaderKeepsOrder", fn := fun _ => fun
  | [d1, d2, d3, d4] => { results := [.lit (.bool false)], args := [d1, d2, d3, d4] }
  | _ => none }
def FnPutListHeaderKeepsOrderWrongFalsely : Prop := fnPutListHeaderKeepsOrderRow.holds Try.pinned (OpenSpec.ofChange fnPutListHeaderKeepsOrderWrong)

/-- 'zzlaws_internal_bounds_b1.FnDeepListWrapsPrevious': WHATEVER THE INPUT: true; the input reads as it did. -/
def fnDeepListWrapsPreviousSpec : ChangeSpec := { name := "fnDeepListWrapsPrevious", fn := fun _ => fun
  | [d] => { results := [.lit (.bool true)], args := [d] }
  | _ => none }
def fnDeepListWrapsPreviousRow : OpenClaim := { program := "qxb6603716a", sum := "a41e07b514a6d8dad2564d7e9120f84cdc2308e85ad3cf8b5339bf029ce3f74f", func := "example.com/nestwire/nestwire/zzlaws_internal_bounds_b1.FnDeepListWrapsPrevious", spec := "fnDeepListWrapsPrevious", apart := false }
def FnDeepListWrapsPreviousSaid : Prop := fnDeepListWrapsPreviousRow.holds Try.pinned (OpenSpec.ofChange fnDeepListWrapsPreviousSpec)

/-- ITS FALSE NEIGHBOUR: 'it returns false'. Refute it at one input. -/
def fnDeepListWrapsPreviousWrong : ChangeSpec := { name := "fnDeepListWrapsPrevious", fn := fun _ => fun
  | [d] => { results := [.lit (.bool false)], args := [d] }
  | _ => none }
def FnDeepListWrapsPreviousWrongFalsely : Prop := fnDeepListWrapsPreviousRow.holds Try.pinned (OpenSpec.ofChange fnDeepListWrapsPreviousWrong)

/-- 'zzlaws_internal_bounds_b1.FnDeepListParsesAsNest': WHATEVER THE INPUT: true; the input reads as it did. -/
def fnDeepListParsesAsNestSpec : ChangeSpec := { name := "fnDeepListParsesAsNest", fn := fun _ => fun
  | [d] => { results := [.lit (.bool true)], args := [d] }
  | _ => none }
def fnDeepListParsesAsNestRow : OpenClaim := { program := "qxb6603716a", sum := "a41e07b514a6d8dad2564d7e9120f84cdc2308e85ad3cf8b5339bf029ce3f74f", func := "example.com/nestwire/nestwire/zzlaws_internal_bounds_b1.FnDeepListParsesAsNest", spec := "fnDeepListParsesAsNest", apart := false }
def FnDeepListParsesAsNestSaid : Prop := fnDeepListParsesAsNestRow.holds Try.pinned (OpenSpec.ofChange fnDeepListParsesAsNestSpec)

/-- ITS FALSE NEIGHBOUR: 'it returns false'. Refute it at one input. -/
def fnDeepListParsesAsNestWrong : ChangeSpec := { name := "fnDeepListParsesAsNest", fn := fun _ => fun
  | [d] => { results := [.lit (.bool false)], args := [d] }
  | _ => none }
def FnDeepListParsesAsNestWrongFalsely : Prop := fnDeepListParsesAsNestRow.holds Try.pinned (OpenSpec.ofChange fnDeepListParsesAsNestWrong)

end Rows
end Go.Proofs.Qxb6603716a
