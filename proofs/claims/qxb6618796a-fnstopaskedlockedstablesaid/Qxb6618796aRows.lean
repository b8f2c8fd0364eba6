/-
  No cell of these rows narrows 'for every input' (looked for: loops, veiled, ifaces, maps, wideKeys, modest, calm, conditions, laid).
  DERIVED. THE GIVEN ROWS OF THIS SEAT. 3 by the template 'for every input the law returns true; each argument reads behind the call as it read before'; 0 by the template 'total and deterministic' (their statements: Qxb6618796aTotals.lean).
  GIVEN WITH THE SEED: the statements are not yours to turn. If you find one false, say at which input.
  Laid BY PROGRAM, IN A SANDBOX (cutbox-rows.mjs): the forced cells as the released guide's own fill.sh prints them over the translation bf2a3c9949f6b627… (all of the seat's roots in one cut). By AI agents, Wed Nov 11 2026. No macro, syntax, notation, axiom, sorry.
-/
import Derived.Test.Qxb6618796aChecked
import GoSem.Claim
import GoSem.ClaimJoined
import GoSem.ClaimMapViews
import Derived.JoinedTies
import Derived.KernelRfl
namespace Go.Proofs.Qxb6618796a
/- THE CELL 'sum', in the pinned program and in every row, IS THE sha256 OF THE DUMP (.gsa) THAT Qxb6618796aProg.lean LOADS. Nothing in Lean hashes anything: it is a label: what it is worth is what the hold of that sum in a sandbox is worth. -/
noncomputable def Try.pinned : Pinned := { name := "qxb6618796a", sum := "bf2a3c9949f6b627fdcc2be55790bde65c9b3b913f11e090feea9f8ec4c59883", checked := Try.checked }
namespace Rows
def none {H : Type} : Left H := { results := [], args := [] }

/-- 'zzlaws_root_b1.FnTaskErrorMessageAppends': WHATEVER THE INPUT: true; the input reads as it did. -/
def fnTaskErrorMessageAppendsSpec : ChangeSpec := { name := "fnTaskErrorMessageAppends", fn := fun _ => fun
  | [d1, d2, d3, d4] => { results := [.lit (.bool true)], args := [d1, d2, d3, d4] }
  | _ => none }
def fnTaskErrorMessageAppendsRow : OpenClaim := { program := "qxb6618796a", sum := "bf2a3c9949f6b627fdcc2be55790bde65c9b3b913f11e090feea9f8ec4c59883", func := "example.com/windlass/windlass/zzlaws_root_b1.FnTaskErrorMessageAppends", spec := "fnTaskErrorMessageAppends", unfollowed := true, recurses := true, apart := false }
def FnTaskErrorMessageAppendsSaid : Prop := fnTaskErrorMessageAppendsRow.holds Try.pinned (OpenSpec.ofChange fnTaskErrorMessageAppendsSpec)

/-- ITS FALSE NEIGHBOUR: 'it returns false'. Refute it at one input. -/
def fnTaskErrorMessageAppendsWrong : ChangeSpec := { name := "fnTaskErrorMessageAppends", fn := fun _ => fun
  | [d1, d2, d3, d4] => { results := [.lit (.bool false)], args := [d1, d2, d3, d4] }
  | _ => none }
def FnTaskErrorMessageAppendsWrongFalsely : Prop := fnTaskErrorMessageAppendsRow.holds Try.pinned (OpenSpec.ofChange fnTaskErrorMessageAppendsWrong)

/-- 'zzlaws_root_b1.FnTaskErrorStagePrefixTaskInjective': WHATEVER THE INPUT: true; the input reads as it did. -/
def fnTaskErrorStagePrefixTaskInjectiveSpec : ChangeSpec := { name := "fnTaskErrorStagePrefixTaskInjective", fn := fun _ => fun
  | [d1, d2, d3, d4, d5] => { results := [.lit (.bool true)], args := [d1, d2, d3, d4, d5] }
  | _ => none }
def fnTaskErrorStagePrefixTaskInjectiveRow : OpenClaim := { program := "qxb6618796a", sum := "bf2a3c9949f6b627fdcc2be55790bde65c9b3b913f11e090feea9f8ec4c59883", func := "example.com/windlass/windlass/zzlaws_root_b1.FnTaskErrorStagePrefixTaskInjective", spec := "fnTaskErrorStagePrefixTaskInjective", unfollowed := true, recurses := true, apart := false }
def FnTaskErrorStagePrefixTaskInjectiveSaid : Prop := fnTaskErrorStagePrefixTaskInjectiveRow.holds Try.pinned (OpenSpec.ofChange fnTaskErrorStagePrefixTaskInjectiveSpec)

/-- ITS FALSE NEIGHBOUR: 'it returns false'. Refute it at one input. -/
def fnTaskErrorStagePrefixTaskInjectiveWrong : ChangeSpec := { name := "fnTaskErrorStagePrefixTaskInjective", fn := fun _ => fun
  | [d1, d2, d3, d4, d5] => { results := [.lit (.bool false)], args := [d1, d2, d3, d4, d5] }
  | _ => none }
def FnTaskErrorStagePrefixTaskInjectiveWrongFalsely : Prop := fnTaskErrorStagePrefixTaskInjectiveRow.holds Try.pinned (OpenSpec.ofChange fnTaskErrorStagePrefixTaskInjectiveWrong)

/-- 'zzlaws_root_b1.FnStopAskedLockedStable': WHATEVER THE INPUT: true; the input reads as it did. -/
def fnStopAskedLockedStableSpec : ChangeSpec := { name := "fnStopAskedLockedStable", fn := fun _ => fun
  | [d] => { results := [.lit (.bool true)], args := [d] }
  | _ => none }
def fnStopAskedLockedStableRow : OpenClaim := { program := "qxb6618796a", sum := "bf2a3c9949f6b627fdcc2be55790bde65c9b3b913f11e090feea9f8ec4c59883", func := "example.com/windlass/windlass/zzlaws_root_b1.FnStopAskedLockedStable", spec := "fnStopAskedLockedStable", apart := false }
def FnStopAskedLockedStableSaid : Prop := fnStopAskedLockedStableRow.holds Try.pinned (OpenSpec.ofChange fnStopAskedLockedStableSpec)

/-- ITS FALSE NEIGHBOUR: 'it returns false'. Refute it at one input. -/
def fnStopAskedLockedStableWrong : ChangeSpec := { name := "fnStopAskedLockedStable", fn := fun _ => fun
  | [d] => { results := [.lit (.bool false)], args := [d] }
  | _ => none }
def FnStopAskedLockedStableWrongFalsely : Prop := fnStopAskedLockedStableRow.holds Try.pinned (OpenSpec.ofChange fnStopAskedLockedStableWrong)

end Rows
end Go.Proofs.Qxb6618796a
