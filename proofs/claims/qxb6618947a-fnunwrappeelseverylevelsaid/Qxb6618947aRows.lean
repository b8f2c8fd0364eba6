/-
  No cell of these rows narrows 'for every input' (looked for: loops, veiled, ifaces, maps, wideKeys, modest, calm, conditions, laid).
  DERIVED. THE GIVEN ROWS OF THIS SEAT. 4 by the template 'for every input the law returns true; each argument reads behind the call as it read before'; 0 by the template 'total and deterministic' (their statements: Qxb6618947aTotals.lean).
  GIVEN WITH THE SEED: the statements are not yours to turn. If you find one false, say at which input.
  Laid BY PROGRAM, IN A SANDBOX (cutbox-rows.mjs): the forced cells as the released guide's own fill.sh prints them over the translation 131eff2acab74140… (all of the seat's roots in one cut). By AI agents, Wed Nov 11 2026. No macro, syntax, notation, axiom, sorry.
-/
import Derived.Test.Qxb6618947aChecked
import GoSem.Claim
import GoSem.ClaimJoined
import GoSem.ClaimMapViews
import Derived.JoinedTies
import Derived.KernelRfl
namespace Go.Proofs.Qxb6618947a
/- THE CELL 'sum', in the pinned program and in every row, IS THE sha256 OF THE DUMP (.gsa) THAT Qxb6618947aProg.lean LOADS. Nothing in Lean hashes anything: it is a label: what it is worth is what the hold of that sum in a sandbox is worth. -/
noncomputable def Try.pinned : Pinned := { name := "qxb6618947a", sum := "131eff2acab7414001a2ecb98333108b0d957e061f7e1bd007155b03bbd22431", checked := Try.checked }
namespace Rows
def none {H : Type} : Left H := { results := [], args := [] }

/-- 'zzlaws_root_b1.FnFailedKeepsFirstError': WHATEVER THE INPUT: true; the input reads as it did. -/
def fnFailedKeepsFirstErrorSpec : ChangeSpec := { name := "fnFailedKeepsFirstError", fn := fun _ => fun
  | [d] => { results := [.lit (.bool true)], args := [d] }
  | _ => none }
def fnFailedKeepsFirstErrorRow : OpenClaim := { program := "qxb6618947a", sum := "131eff2acab7414001a2ecb98333108b0d957e061f7e1bd007155b03bbd22431", func := "example.com/makegood/makegood/zzlaws_root_b1.FnFailedKeepsFirstError", spec := "fnFailedKeepsFirstError", apart := false }
def FnFailedKeepsFirstErrorSaid : Prop := fnFailedKeepsFirstErrorRow.holds Try.pinned (OpenSpec.ofChange fnFailedKeepsFirstErrorSpec)

/-- ITS FALSE NEIGHBOUR: 'it returns false'. Refute it at one input. -/
def fnFailedKeepsFirstErrorWrong : ChangeSpec := { name := "fnFailedKeepsFirstError", fn := fun _ => fun
  | [d] => { results := [.lit (.bool false)], args := [d] }
  | _ => none }
def FnFailedKeepsFirstErrorWrongFalsely : Prop := fnFailedKeepsFirstErrorRow.holds Try.pinned (OpenSpec.ofChange fnFailedKeepsFirstErrorWrong)

/-- 'zzlaws_root_b1.FnUnwrapGivesBackWhatFailedWrapped': WHATEVER THE INPUT: true; the input reads as it did. -/
def fnUnwrapGivesBackWhatFailedWrappedSpec : ChangeSpec := { name := "fnUnwrapGivesBackWhatFailedWrapped", fn := fun _ => fun
  | [d1, d2, d3] => { results := [.lit (.bool true)], args := [d1, d2, d3] }
  | _ => none }
def fnUnwrapGivesBackWhatFailedWrappedRow : OpenClaim := { program := "qxb6618947a", sum := "131eff2acab7414001a2ecb98333108b0d957e061f7e1bd007155b03bbd22431", func := "example.com/makegood/makegood/zzlaws_root_b1.FnUnwrapGivesBackWhatFailedWrapped", spec := "fnUnwrapGivesBackWhatFailedWrapped", apart := false }
def FnUnwrapGivesBackWhatFailedWrappedSaid : Prop := fnUnwrapGivesBackWhatFailedWrappedRow.holds Try.pinned (OpenSpec.ofChange fnUnwrapGivesBackWhatFailedWrappedSpec)

/-- ITS FALSE NEIGHBOUR: 'it returns false'. Refute it at one input. -/
def fnUnwrapGivesBackWhatFailedWrappedWrong : ChangeSpec := { name := "fnUnwrapGivesBackWhatFailedWrapped", fn := fun _ => fun
  | [d1, d2, d3] => { results := [.lit (.bool false)], args := [d1, d2, d3] }
  | _ => none }
def FnUnwrapGivesBackWhatFailedWrappedWrongFalsely : Prop := fnUnwrapGivesBackWhatFailedWrappedRow.holds Try.pinned (OpenSpec.ofChange fnUnwrapGivesBackWhatFailedWrappedWrong)

/-- 'zzlaws_root_b1.FnUnwrapPeelsEveryLevel': WHATEVER THE INPUT: true; the input reads as it did. -/
def fnUnwrapPeelsEveryLevelSpec : ChangeSpec := { name := "fnUnwrapPeelsEveryLevel", fn := fun _ => fun
  | [d1, d2, d3] => { results := [.lit (.bool true)], args := [d1, d2, d3] }
  | _ => none }
def fnUnwrapPeelsEveryLevelRow : OpenClaim := { program := "qxb6618947a", sum := "131eff2acab7414001a2ecb98333108b0d957e061f7e1bd007155b03bbd22431", func := "example.com/makegood/makegood/zzlaws_root_b1.FnUnwrapPeelsEveryLevel", spec := "fnUnwrapPeelsEveryLevel", apart := false }
def FnUnwrapPeelsEveryLevelSaid : Prop := fnUnwrapPeelsEveryLevelRow.holds Try.pinned (OpenSpec.ofChange fnUnwrapPeelsEveryLevelSpec)

/-- ITS FALSE NEIGHBOUR: 'it returns false'. Refute it at one input. -/
def fnUnwrapPeelsEveryLevelWrong : ChangeSpec := { name := "fnUnwrapPeelsEveryLevel", fn := fun _ => fun
  | [d1, d2, d3] => { results := [.lit (.bool false)], args := [d1, d2, d3] }
  | _ => none }
def FnUnwrapPeelsEveryLevelWrongFalsely : Prop := fnUnwrapPeelsEveryLevelRow.holds Try.pinned (OpenSpec.ofChange fnUnwrapPeelsEveryLevelWrong)

/-- 'zzlaws_root_b1.FnFailedIgnoresNilErrors': WHATEVER THE INPUT: true; the input reads as it did. -/
def fnFailedIgnoresNilErrorsSpec : ChangeSpec := { name := "fnFailedIgnoresNilErrors", fn := fun _ => fun
  | [d1, d2, d3] => { results := [.lit (.bool true)], args := [d1, d2, d3] }
  | _ => none }
def fnFailedIgnoresNilErrorsRow : OpenClaim := { program := "qxb6618947a", sum := "131eff2acab7414001a2ecb98333108b0d957e061f7e1bd007155b03bbd22431", func := "example.com/makegood/makegood/zzlaws_root_b1.FnFailedIgnoresNilErrors", spec := "fnFailedIgnoresNilErrors", apart := false }
def FnFailedIgnoresNilErrorsSaid : Prop := fnFailedIgnoresNilErrorsRow.holds Try.pinned (OpenSpec.ofChange fnFailedIgnoresNilErrorsSpec)

/-- ITS FALSE NEIGHBOUR: 'it returns false'. Refute it at one input. -/
def fnFailedIgnoresNilErrorsWrong : ChangeSpec := { name := "fnFailedIgnoresNilErrors", fn := fun _ => fun
  | [d1, d2, d3] => { results := [.lit (.bool false)], args := [d1, d2, d3] }
  | _ => none }
def FnFailedIgnoresNilErrorsWrongFalsely : Prop := fnFailedIgnoresNilErrorsRow.holds Try.pinned (OpenSpec.ofChange fnFailedIgnoresNilErrorsWrong)

end Rows
end Go.Proofs.Qxb6618947a
