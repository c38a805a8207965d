/-
  No cell of these rows narrows 'for every input' (looked for: loops, veiled, ifaces, maps, wideKeys, modest, calm, conditions, laid).
  DERIVED. THE GIVEN ROWS OF THIS SEAT. 4 by the template 'for every input the law returns true; each argument reads behind the call as it read before'; 0 by the template 'total and deterministic' (their statements: Qxb6605462aTotals.lean).
  GIVEN WITH THE SEED: the statements are not yours to turn. If you find one false, say at which input.
  Laid BY PROGRAM, IN A SANDBOX (cutbox-rows.mjs): the forced cells as the released guide's own fill.sh prints them over the translation 2ed693140fa7e296… (all of the seat's roots in one cut). By AI agents, Wed Nov 11 2026. No macro, syntax, notation, axiom, sorry.
-/
import Derived.Test.Qxb6605462aChecked
import GoSem.Claim
import GoSem.ClaimJoined
import GoSem.ClaimMapViews
import Derived.JoinedTies
import Derived.KernelRfl
namespace Go.Proofs.Qxb6605462a
/- THE CELL 'sum', in the pinned program and in every row, IS THE sha256 OF THE DUMP (.gsa) THAT Qxb6605462aProg.lean LOADS. Nothing in Lean hashes anything: it is a label: what it is worth is what the hold of that sum in a sandbox is worth. -/
noncomputable def Try.pinned : Pinned := { name := "qxb6605462a", sum := "2ed693140fa7e2964cf893d699a99ef6ec569d493742ccb3eff04105c107b975", checked := Try.checked }
namespace Rows
def none {H : Type} : Left H := { results := [], args := [] }

/-- 'zzlaws_internal_engine_b1.FnParseFractionMatchesRoundingModel': WHATEVER THE INPUT: true; the input reads as it did. -/
def fnParseFractionMatchesRoundingModelSpec : ChangeSpec := { name := "fnParseFractionMatchesRoundingModel", fn := fun _ => fun
  | [d] => { results := [.lit (.bool true)], args := [d] }
  | _ => none }
def fnParseFractionMatchesRoundingModelRow : OpenClaim := { program := "qxb6605462a", sum := "2ed693140fa7e2964cf893d699a99ef6ec569d493742ccb3eff04105c107b975", func := "example.com/stillframe/stillframe/zzlaws_internal_engine_b1.FnParseFractionMatchesRoundingModel", spec := "fnParseFractionMatchesRoundingModel", apart := false }
def FnParseFractionMatchesRoundingModelSaid : Prop := fnParseFractionMatchesRoundingModelRow.holds Try.pinned (OpenSpec.ofChange fnParseFractionMatchesRoundingModelSpec)

/-- ITS FALSE NEIGHBOUR: 'it returns false'. Refute it at one input. -/
def fnParseFractionMatchesRoundingModelWrong : ChangeSpec := { name := "fnParseFractionMatchesRoundingModel", fn := fun _ => fun
  | [d] => { results := [.lit (.bool false)], args := [d] }
  | _ => none }
def FnParseFractionMatchesRoundingModelWrongFalsely : Prop := fnParseFractionMatchesRoundingModelRow.holds Try.pinned (OpenSpec.ofChange fnParseFractionMatchesRoundingModelWrong)

/-- 'zzlaws_internal_engine_b1.FnParseFractionSixDigitRoundTrip': WHATEVER THE INPUT: true; the input reads as it did. -/
def fnParseFractionSixDigitRoundTripSpec : ChangeSpec := { name := "fnParseFractionSixDigitRoundTrip", fn := fun _ => fun
  | [d] => { results := [.lit (.bool true)], args := [d] }
  | _ => none }
def fnParseFractionSixDigitRoundTripRow : OpenClaim := { program := "qxb6605462a", sum := "2ed693140fa7e2964cf893d699a99ef6ec569d493742ccb3eff04105c107b975", func := "example.com/stillframe/stillframe/zzlaws_internal_engine_b1.FnParseFractionSixDigitRoundTrip", spec := "fnParseFractionSixDigitRoundTrip", apart := false }
def FnParseFractionSixDigitRoundTripSaid : Prop := fnParseFractionSixDigitRoundTripRow.holds Try.pinned (OpenSpec.ofChange fnParseFractionSixDigitRoundTripSpec)

/-- ITS FALSE NEIGHBOUR: 'it returns false'. Refute it at one input. -/
def fnParseFractionSixDigitRoundTripWrong : ChangeSpec := { name := "fnParseFractionSixDigitRoundTrip", fn := fun _ => fun
  | [d] => { results := [.lit (.bool false)], args := [d] }
  | _ => none }
def FnParseFractionSixDigitRoundTripWrongFalsely : Prop := fnParseFractionSixDigitRoundTripRow.holds Try.pinned (OpenSpec.ofChange fnParseFractionSixDigitRoundTripWrong)

/-- 'zzlaws_internal_engine_b1.FnUnquoteMatchesRunModel': WHATEVER THE INPUT: true; the input reads as it did. -/
def fnUnquoteMatchesRunModelSpec : ChangeSpec := { name := "fnUnquoteMatchesRunModel", fn := fun _ => fun
  | [d1, d2] => { results := [.lit (.bool true)], args := [d1, d2] }
  | _ => none }
def fnUnquoteMatchesRunModelRow : OpenClaim := { program := "qxb6605462a", sum := "2ed693140fa7e2964cf893d699a99ef6ec569d493742ccb3eff04105c107b975", func := "example.com/stillframe/stillframe/zzlaws_internal_engine_b1.FnUnquoteMatchesRunModel", spec := "fnUnquoteMatchesRunModel", inPlace := ["internal/abi.NoEscape"], apart := false }
def FnUnquoteMatchesRunModelSaid : Prop := fnUnquoteMatchesRunModelRow.holds Try.pinned (OpenSpec.ofChange fnUnquoteMatchesRunModelSpec)

/-- ITS FALSE NEIGHBOUR: 'it returns false'. Refute it at one input. -/
def fnUnquoteMatchesRunModelWrong : ChangeSpec := { name := "fnUnquoteMatchesRunModel", fn := fun _ => fun
  | [d1, d2] => { results := [.lit (.bool false)], args := [d1, d2] }
  | _ => none }
def FnUnquoteMatchesRunModelWrongFalsely : Prop := fnUnquoteMatchesRunModelRow.holds Try.pinned (OpenSpec.ofChange fnUnquoteMatchesRunModelWrong)

/-- 'zzlaws_internal_engine_b1.FnUnquoteUndoesQuoting': WHATEVER THE INPUT: true; the input reads as it did. -/
def fnUnquoteUndoesQuotingSpec : ChangeSpec := { name := "fnUnquoteUndoesQuoting", fn := fun _ => fun
  | [d1, d2, d3] => { results := [.lit (.bool true)], args := [d1, d2, d3] }
  | _ => none }
def fnUnquoteUndoesQuotingRow : OpenClaim := { program := "qxb6605462a", sum := "2ed693140fa7e2964cf893d699a99ef6ec569d493742ccb3eff04105c107b975", func := "example.com/stillframe/stillframe/zzlaws_internal_engine_b1.FnUnquoteUndoesQuoting", spec := "fnUnquoteUndoesQuoting", inPlace := ["internal/abi.NoEscape"], apart := false }
def FnUnquoteUndoesQuotingSaid : Prop := fnUnquoteUndoesQuotingRow.holds Try.pinned (OpenSpec.ofChange fnUnquoteUndoesQuotingSpec)

/-- ITS FALSE NEIGHBOUR: 'it returns false'. Refute it at one input. -/
def fnUnquoteUndoesQuotingWrong : ChangeSpec := { name := "fnUnquoteUndoesQuoting", fn := fun _ => fun
  | [d1, d2, d3] => { results := [.lit (.bool false)], args := [d1, d2, d3] }
  | _ => none }
def FnUnquoteUndoesQuotingWrongFalsely : Prop := fnUnquoteUndoesQuotingRow.holds Try.pinned (OpenSpec.ofChange fnUnquoteUndoesQuotingWrong)

end Rows
end Go.Proofs.Qxb6605462a
