/-
  No cell of these rows narrows 'for every input' (looked for: loops, veiled, ifaces, maps, wideKeys, modest, calm, conditions, laid).
  DERIVED. THE GIVEN ROWS OF THIS SEAT. 4 by the template 'for every input the law returns true; each argument reads behind the call as it read before'; 0 by the template 'total and deterministic' (their statements: Qxb6605208aTotals.lean).
  GIVEN WITH THE SEED: the statements are not yours to turn. If you find one false, say at which input.
  Laid BY PROGRAM, IN A SANDBOX (cutbox-rows.mjs): the forced cells as the released guide's own fill.sh prints them over the translation f12b7f6636c0b9fa… (all of the seat's roots in one cut). By AI agents, Wed Nov 11 2026. No macro, syntax, notation, axiom, sorry.
-/
import Derived.Test.Qxb6605208aChecked
import GoSem.Claim
import GoSem.ClaimJoined
import GoSem.ClaimMapViews
import Derived.JoinedTies
import Derived.KernelRfl
namespace Go.Proofs.Qxb6605208a
/- THE CELL 'sum', in the pinned program and in every row, IS THE sha256 OF THE DUMP (.gsa) THAT Qxb6605208aProg.lean LOADS. Nothing in Lean hashes anything: it is a label: what it is worth is what the hold of that sum in a sandbox is worth. -/
noncomputable def Try.pinned : Pinned := { name := "qxb6605208a", sum := "f12b7f6636c0b9fa3ce01c3a288986dca4ad619d839b1b50e32a3832ba801c4f", checked := Try.checked }
namespace Rows
def none {H : Type} : Left H := { results := [], args := [] }

/-- 'zzlaws_cedar_b1.FnUnionIsCanonicalRunsOfSetUnion': WHATEVER THE INPUT: true; the input reads as it did. -/
def fnUnionIsCanonicalRunsOfSetUnionSpec : ChangeSpec := { name := "fnUnionIsCanonicalRunsOfSetUnion", fn := fun _ => fun
  | [d1, d2, d3, d4] => { results := [.lit (.bool true)], args := [d1, d2, d3, d4] }
  | _ => none }
def fnUnionIsCanonicalRunsOfSetUnionRow : OpenClaim := { program := "qxb6605208a", sum := "f12b7f6636c0b9fa3ce01c3a288986dca4ad619d839b1b50e32a3832ba801c4f", func := "example.com/policy-to-permission/policy-to-permission/zzlaws_cedar_b1.FnUnionIsCanonicalRunsOfSetUnion", spec := "fnUnionIsCanonicalRunsOfSetUnion", apart := false }
def FnUnionIsCanonicalRunsOfSetUnionSaid : Prop := fnUnionIsCanonicalRunsOfSetUnionRow.holds Try.pinned (OpenSpec.ofChange fnUnionIsCanonicalRunsOfSetUnionSpec)

/-- ITS FALSE NEIGHBOUR: 'it returns false'. Refute it at one input. -/
def fnUnionIsCanonicalRunsOfSetUnionWrong : ChangeSpec := { name := "fnUnionIsCanonicalRunsOfSetUnion", fn := fun _ => fun
  | [d1, d2, d3, d4] => { results := [.lit (.bool false)], args := [d1, d2, d3, d4] }
  | _ => none }
def FnUnionIsCanonicalRunsOfSetUnionWrongFalsely : Prop := fnUnionIsCanonicalRunsOfSetUnionRow.holds Try.pinned (OpenSpec.ofChange fnUnionIsCanonicalRunsOfSetUnionWrong)

/-- 'zzlaws_cedar_b1.FnUnionCommutesAssociatesAndIsIdempotent': WHATEVER THE INPUT: true; the input reads as it did. -/
def fnUnionCommutesAssociatesAndIsIdempotentSpec : ChangeSpec := { name := "fnUnionCommutesAssociatesAndIsIdempotent", fn := fun _ => fun
  | [d1, d2, d3, d4, d5, d6] => { results := [.lit (.bool true)], args := [d1, d2, d3, d4, d5, d6] }
  | _ => none }
def fnUnionCommutesAssociatesAndIsIdempotentRow : OpenClaim := { program := "qxb6605208a", sum := "f12b7f6636c0b9fa3ce01c3a288986dca4ad619d839b1b50e32a3832ba801c4f", func := "example.com/policy-to-permission/policy-to-permission/zzlaws_cedar_b1.FnUnionCommutesAssociatesAndIsIdempotent", spec := "fnUnionCommutesAssociatesAndIsIdempotent", apart := false }
def FnUnionCommutesAssociatesAndIsIdempotentSaid : Prop := fnUnionCommutesAssociatesAndIsIdempotentRow.holds Try.pinned (OpenSpec.ofChange fnUnionCommutesAssociatesAndIsIdempotentSpec)

/-- ITS FALSE NEIGHBOUR: 'it returns false'. Refute it at one input. -/
def fnUnionCommutesAssociatesAndIsIdempotentWrong : ChangeSpec := { name := "fnUnionCommutesAssociatesAndIsIdempotent", fn := fun _ => fun
  | [d1, d2, d3, d4, d5, d6] => { results := [.lit (.bool false)], args := [d1, d2, d3, d4, d5, d6] }
  | _ => none }
def FnUnionCommutesAssociatesAndIsIdempotentWrongFalsely : Prop := fnUnionCommutesAssociatesAndIsIdempotentRow.holds Try.pinned (OpenSpec.ofChange fnUnionCommutesAssociatesAndIsIdempotentWrong)

/-- 'zzlaws_cedar_b1.FnHighestFirstIsStableSortByHeight': WHATEVER THE INPUT: true; the input reads as it did. -/
def fnHighestFirstIsStableSortByHeightSpec : ChangeSpec := { name := "fnHighestFirstIsStableSortByHeight", fn := fun _ => fun
  | [d1, d2, d3, d4, d5, d6] => { results := [.lit (.bool true)], args := [d1, d2, d3, d4, d5, d6] }
  | _ => none }
def fnHighestFirstIsStableSortByHeightRow : OpenClaim := { program := "qxb6605208a", sum := "f12b7f6636c0b9fa3ce01c3a288986dca4ad619d839b1b50e32a3832ba801c4f", func := "example.com/policy-to-permission/policy-to-permission/zzlaws_cedar_b1.FnHighestFirstIsStableSortByHeight", spec := "fnHighestFirstIsStableSortByHeight", apart := false }
def FnHighestFirstIsStableSortByHeightSaid : Prop := fnHighestFirstIsStableSortByHeightRow.holds Try.pinned (OpenSpec.ofChange fnHighestFirstIsStableSortByHeightSpec)

/-- ITS FALSE NEIGHBOUR: 'it returns false'. Refute it at one input. -/
def fnHighestFirstIsStableSortByHeightWrong : ChangeSpec := { name := "fnHighestFirstIsStableSortByHeight", fn := fun _ => fun
  | [d1, d2, d3, d4, d5, d6] => { results := [.lit (.bool false)], args := [d1, d2, d3, d4, d5, d6] }
  | _ => none }
def FnHighestFirstIsStableSortByHeightWrongFalsely : Prop := fnHighestFirstIsStableSortByHeightRow.holds Try.pinned (OpenSpec.ofChange fnHighestFirstIsStableSortByHeightWrong)

/-- 'zzlaws_cedar_b1.FnHighestFirstAgreesOverEveryWalkOrder': WHATEVER THE INPUT: true; the input reads as it did. -/
def fnHighestFirstAgreesOverEveryWalkOrderSpec : ChangeSpec := { name := "fnHighestFirstAgreesOverEveryWalkOrder", fn := fun _ => fun
  | [d1, d2, d3, d4, d5, d6] => { results := [.lit (.bool true)], args := [d1, d2, d3, d4, d5, d6] }
  | _ => none }
def fnHighestFirstAgreesOverEveryWalkOrderRow : OpenClaim := { program := "qxb6605208a", sum := "f12b7f6636c0b9fa3ce01c3a288986dca4ad619d839b1b50e32a3832ba801c4f", func := "example.com/policy-to-permission/policy-to-permission/zzlaws_cedar_b1.FnHighestFirstAgreesOverEveryWalkOrder", spec := "fnHighestFirstAgreesOverEveryWalkOrder", apart := false }
def FnHighestFirstAgreesOverEveryWalkOrderSaid : Prop := fnHighestFirstAgreesOverEveryWalkOrderRow.holds Try.pinned (OpenSpec.ofChange fnHighestFirstAgreesOverEveryWalkOrderSpec)

/-- ITS FALSE NEIGHBOUR: 'it returns false'. Refute it at one input. -/
def fnHighestFirstAgreesOverEveryWalkOrderWrong : ChangeSpec := { name := "fnHighestFirstAgreesOverEveryWalkOrder", fn := fun _ => fun
  | [d1, d2, d3, d4, d5, d6] => { results := [.lit (.bool false)], args := [d1, d2, d3, d4, d5, d6] }
  | _ => none }
def FnHighestFirstAgreesOverEveryWalkOrderWrongFalsely : Prop := fnHighestFirstAgreesOverEveryWalkOrderRow.holds Try.pinned (OpenSpec.ofChange fnHighestFirstAgreesOverEveryWalkOrderWrong)

end Rows
end Go.Proofs.Qxb6605208a
