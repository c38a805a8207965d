/-
  No cell of these rows narrows 'for every input' (looked for: loops, veiled, ifaces, maps, wideKeys, modest, calm, conditions, laid).
  DERIVED. THE GIVEN ROWS OF THIS SEAT. 4 by the template 'for every input the law returns true; each argument reads behind the call as it read before'; 0 by the template 'total and deterministic' (their statements: Qxb6605337aTotals.lean).
  GIVEN WITH THE SEED: the statements are not yours to turn. If you find one false, say at which input.
  Laid BY PROGRAM, IN A SANDBOX (cutbox-rows.mjs): the forced cells as the released guide's own fill.sh prints them over the translation 0a19c52c16b2ed73… (all of the seat's roots in one cut). By AI agents, Wed Nov 11 2026. No macro, syntax, notation, axiom, sorry.
-/
import Derived.Test.Qxb6605337aChecked
import GoSem.Claim
import GoSem.ClaimJoined
import GoSem.ClaimMapViews
import Derived.JoinedTies
import Derived.KernelRfl
namespace Go.Proofs.Qxb6605337a
/- THE CELL 'sum', in the pinned program and in every row, IS THE sha256 OF THE DUMP (.gsa) THAT Qxb6605337aProg.lean LOADS. Nothing in Lean hashes anything: it is a label: what it is worth is what the hold of that sum in a sandbox is worth. -/
noncomputable def Try.pinned : Pinned := { name := "qxb6605337a", sum := "0a19c52c16b2ed7308bde91ba6d75a33c4b25dba53b755034ba9e6bb8a3543c6", checked := Try.checked }
namespace Rows
def none {H : Type} : Left H := { results := [], args := [] }

/-- 'zzlaws_root_b1.FnKeyFindsFirstKeyWithID': WHATEVER THE INPUT: true; the input reads as it did. -/
def fnKeyFindsFirstKeyWithIDSpec : ChangeSpec := { name := "fnKeyFindsFirstKeyWithID", fn := fun _ => fun
  | [d1, d2, d3, d4] => { results := [.lit (.bool true)], args := [d1, d2, d3, d4] }
  | _ => none }
def fnKeyFindsFirstKeyWithIDRow : OpenClaim := { program := "qxb6605337a", sum := "0a19c52c16b2ed7308bde91ba6d75a33c4b25dba53b755034ba9e6bb8a3543c6", func := "example.com/pathbeat/pathbeat/zzlaws_root_b1.FnKeyFindsFirstKeyWithID", spec := "fnKeyFindsFirstKeyWithID", apart := false }
def FnKeyFindsFirstKeyWithIDSaid : Prop := fnKeyFindsFirstKeyWithIDRow.holds Try.pinned (OpenSpec.ofChange fnKeyFindsFirstKeyWithIDSpec)

/-- ITS FALSE NEIGHBOUR: 'it returns false'. Refute it at one input. -/
def fnKeyFindsFirstKeyWithIDWrong : ChangeSpec := { name := "fnKeyFindsFirstKeyWithID", fn := fun _ => fun
  | [d1, d2, d3, d4] => { results := [.lit (.bool false)], args := [d1, d2, d3, d4] }
  | _ => none }
def FnKeyFindsFirstKeyWithIDWrongFalsely : Prop := fnKeyFindsFirstKeyWithIDRow.holds Try.pinned (OpenSpec.ofChange fnKeyFindsFirstKeyWithIDWrong)

/-- 'zzlaws_root_b1.FnKeyAnswersExactlyThePresentIDs': WHATEVER THE INPUT: true; the input reads as it did. -/
def fnKeyAnswersExactlyThePresentIDsSpec : ChangeSpec := { name := "fnKeyAnswersExactlyThePresentIDs", fn := fun _ => fun
  | [d1, d2, d3] => { results := [.lit (.bool true)], args := [d1, d2, d3] }
  | _ => none }
def fnKeyAnswersExactlyThePresentIDsRow : OpenClaim := { program := "qxb6605337a", sum := "0a19c52c16b2ed7308bde91ba6d75a33c4b25dba53b755034ba9e6bb8a3543c6", func := "example.com/pathbeat/pathbeat/zzlaws_root_b1.FnKeyAnswersExactlyThePresentIDs", spec := "fnKeyAnswersExactlyThePresentIDs", apart := false }
def FnKeyAnswersExactlyThePresentIDsSaid : Prop := fnKeyAnswersExactlyThePresentIDsRow.holds Try.pinned (OpenSpec.ofChange fnKeyAnswersExactlyThePresentIDsSpec)

/-- ITS FALSE NEIGHBOUR: 'it returns false'. Refute it at one input. -/
def fnKeyAnswersExactlyThePresentIDsWrong : ChangeSpec := { name := "fnKeyAnswersExactlyThePresentIDs", fn := fun _ => fun
  | [d1, d2, d3] => { results := [.lit (.bool false)], args := [d1, d2, d3] }
  | _ => none }
def FnKeyAnswersExactlyThePresentIDsWrongFalsely : Prop := fnKeyAnswersExactlyThePresentIDsRow.holds Try.pinned (OpenSpec.ofChange fnKeyAnswersExactlyThePresentIDsWrong)

/-- 'zzlaws_root_b1.FnCloneIsEqualAndDisjoint': WHATEVER THE INPUT: true; the input reads as it did. -/
def fnCloneIsEqualAndDisjointSpec : ChangeSpec := { name := "fnCloneIsEqualAndDisjoint", fn := fun _ => fun
  | [d1, d2, d3] => { results := [.lit (.bool true)], args := [d1, d2, d3] }
  | _ => none }
def fnCloneIsEqualAndDisjointRow : OpenClaim := { program := "qxb6605337a", sum := "0a19c52c16b2ed7308bde91ba6d75a33c4b25dba53b755034ba9e6bb8a3543c6", func := "example.com/pathbeat/pathbeat/zzlaws_root_b1.FnCloneIsEqualAndDisjoint", spec := "fnCloneIsEqualAndDisjoint", apart := false }
def FnCloneIsEqualAndDisjointSaid : Prop := fnCloneIsEqualAndDisjointRow.holds Try.pinned (OpenSpec.ofChange fnCloneIsEqualAndDisjointSpec)

/-- ITS FALSE NEIGHBOUR: 'it returns false'. Refute it at one input. -/
def fnCloneIsEqualAndDisjointWrong : ChangeSpec := { name := "fnCloneIsEqualAndDisjoint", fn := fun _ => fun
  | [d1, d2, d3] => { results := [.lit (.bool false)], args := [d1, d2, d3] }
  | _ => none }
def FnCloneIsEqualAndDisjointWrongFalsely : Prop := fnCloneIsEqualAndDisjointRow.holds Try.pinned (OpenSpec.ofChange fnCloneIsEqualAndDisjointWrong)

/-- 'zzlaws_root_b1.FnKeyOnCloneFindsTheTwin': WHATEVER THE INPUT: true; the input reads as it did. -/
def fnKeyOnCloneFindsTheTwinSpec : ChangeSpec := { name := "fnKeyOnCloneFindsTheTwin", fn := fun _ => fun
  | [d1, d2, d3, d4] => { results := [.lit (.bool true)], args := [d1, d2, d3, d4] }
  | _ => none }
def fnKeyOnCloneFindsTheTwinRow : OpenClaim := { program := "qxb6605337a", sum := "0a19c52c16b2ed7308bde91ba6d75a33c4b25dba53b755034ba9e6bb8a3543c6", func := "example.com/pathbeat/pathbeat/zzlaws_root_b1.FnKeyOnCloneFindsTheTwin", spec := "fnKeyOnCloneFindsTheTwin", apart := false }
def FnKeyOnCloneFindsTheTwinSaid : Prop := fnKeyOnCloneFindsTheTwinRow.holds Try.pinned (OpenSpec.ofChange fnKeyOnCloneFindsTheTwinSpec)

/-- ITS FALSE NEIGHBOUR: 'it returns false'. Refute it at one input. -/
def fnKeyOnCloneFindsTheTwinWrong : ChangeSpec := { name := "fnKeyOnCloneFindsTheTwin", fn := fun _ => fun
  | [d1, d2, d3, d4] => { results := [.lit (.bool false)], args := [d1, d2, d3, d4] }
  | _ => none }
def FnKeyOnCloneFindsTheTwinWrongFalsely : Prop := fnKeyOnCloneFindsTheTwinRow.holds Try.pinned (OpenSpec.ofChange fnKeyOnCloneFindsTheTwinWrong)

end Rows
end Go.Proofs.Qxb6605337a
