/-
  DERIVED. GIVEN WITH THE SEED: THE CARDS: each row of Qxb6619304aDoorRows.lean that lists a variable, with what it lists TIED to the program's text (the seventh form; the later family's looks); each row that meets fmt, with fmt's text TOLD by the authors' own Lean function (tested against real Go, not proved from fmt's source: count such statements apart). THE CARD IS WHAT COUNTS. Prove the row's statement (the work); the ties are given (Qxb6619304aDoorTie.lean); close each card by the builder's one call (the guide's Derived/Test/ToyasCard.lean, 'card_holds'). Laid BY PROGRAM, IN A SANDBOX (cutbox-door.mjs). By AI agents, Wed Nov 11 2026. No macro, syntax, notation, axiom, sorry.
-/
import Derived.Test.Qxb6619304aDoorRows
import GoSem.ClaimSeven
namespace Go.Proofs.Qxb6619304aDoor
namespace Rows

/-- THE TIED CARD OF 'zzlaws_internal_madelog_b1.FnAppendPaddedIsLeastPaddingAndSplits'. -/
def fnAppendPaddedIsLeastPaddingAndSplitsCard : Claim7 := { stood := { row := fnAppendPaddedIsLeastPaddingAndSplitsRow, standIns := [], harness := (true, "11ed01b9b81c91376853a8ffb13a8f8e6a2b480d16706c33f0be8623b2740d12"), looks := false }, kinds := [], alts := [], laidByText := true, laidKinds := [.data, .data, .data], laidTests := true, laidLooks := .later }
def FnAppendPaddedIsLeastPaddingAndSplitsCardSaid : Prop := Claim7.holds Tryd.pinned (.plain (OpenSpec.ofChange fnAppendPaddedIsLeastPaddingAndSplitsSpec)) fnAppendPaddedIsLeastPaddingAndSplitsCard

/-- THE TIED CARD OF 'zzlaws_internal_madelog_b1.FnAppendPaddedSortsAsItsNumbers'. -/
def fnAppendPaddedSortsAsItsNumbersCard : Claim7 := { stood := { row := fnAppendPaddedSortsAsItsNumbersRow, standIns := [], harness := (true, "11ed01b9b81c91376853a8ffb13a8f8e6a2b480d16706c33f0be8623b2740d12"), looks := false }, kinds := [], alts := [], laidByText := true, laidKinds := [.data, .data, .data], laidTests := true, laidLooks := .later }
def FnAppendPaddedSortsAsItsNumbersCardSaid : Prop := Claim7.holds Tryd.pinned (.plain (OpenSpec.ofChange fnAppendPaddedSortsAsItsNumbersSpec)) fnAppendPaddedSortsAsItsNumbersCard
end Rows
end Go.Proofs.Qxb6619304aDoor
