/-
  NARROWER THAN 'FOR EVERY INPUT', by the rows' own cells (each row's printed sentence says how): FnCalleeAgreesWithAppendedNative: maps.
  DERIVED. THE GIVEN ROWS OF THIS SEAT. 3 by the template 'for every input the law returns true; each argument reads behind the call as it read before'; 0 by the template 'total and deterministic' (their statements: Qxb6621649aTotals.lean).
  GIVEN WITH THE SEED: the statements are not yours to turn. If you find one false, say at which input.
  Laid BY PROGRAM, IN A SANDBOX (cutbox-rows.mjs): the forced cells as the released guide's own fill.sh prints them over the translation 55b217a1dff0c8cd… (all of the seat's roots in one cut). By AI agents, Wed Nov 11 2026. No macro, syntax, notation, axiom, sorry.
-/
import Derived.Test.Qxb6621649aChecked
import GoSem.Claim
import GoSem.ClaimJoined
import GoSem.ClaimMapViews
import Derived.JoinedTies
import Derived.KernelRfl
namespace Go.Proofs.Qxb6621649a
/- THE CELL 'sum', in the pinned program and in every row, IS THE sha256 OF THE DUMP (.gsa) THAT Qxb6621649aProg.lean LOADS. Nothing in Lean hashes anything: it is a label: what it is worth is what the hold of that sum in a sandbox is worth. -/
noncomputable def Try.pinned : Pinned := { name := "qxb6621649a", sum := "55b217a1dff0c8cddee8e3f5f31bbc307a53dd75c4f671e000446efe865ffec9", checked := Try.checked }
namespace Rows
def none {H : Type} : Left H := { results := [], args := [] }

/-- 'zzlaws_internal_asm_b1.FnAppendQuotedDecodesCanonically': WHATEVER THE INPUT: true; the input reads as it did. -/
def fnAppendQuotedDecodesCanonicallySpec : ChangeSpec := { name := "fnAppendQuotedDecodesCanonically", fn := fun _ => fun
  | [d1, d2] => { results := [.lit (.bool true)], args := [d1, d2] }
  | _ => none }
def fnAppendQuotedDecodesCanonicallyRow : OpenClaim := { program := "qxb6621649a", sum := "55b217a1dff0c8cddee8e3f5f31bbc307a53dd75c4f671e000446efe865ffec9", func := "example.com/stavecode/stavecode/zzlaws_internal_asm_b1.FnAppendQuotedDecodesCanonically", spec := "fnAppendQuotedDecodesCanonically", apart := false }
def FnAppendQuotedDecodesCanonicallySaid : Prop := fnAppendQuotedDecodesCanonicallyRow.holds Try.pinned (OpenSpec.ofChange fnAppendQuotedDecodesCanonicallySpec)

/-- ITS FALSE NEIGHBOUR: 'it returns false'. Refute it at one input. -/
def fnAppendQuotedDecodesCanonicallyWrong : ChangeSpec := { name := "fnAppendQuotedDecodesCanonically", fn := fun _ => fun
  | [d1, d2] => { results := [.lit (.bool false)], args := [d1, d2] }
  | _ => none }
def FnAppendQuotedDecodesCanonicallyWrongFalsely : Prop := fnAppendQuotedDecodesCanonicallyRow.holds Try.pinned (OpenSpec.ofChange fnAppendQuotedDecodesCanonicallyWrong)

/-- 'zzlaws_internal_asm_b1.FnAppendQuotedSplitsAtAnyCut': WHATEVER THE INPUT: true; the input reads as it did. -/
def fnAppendQuotedSplitsAtAnyCutSpec : ChangeSpec := { name := "fnAppendQuotedSplitsAtAnyCut", fn := fun _ => fun
  | [d1, d2, d3] => { results := [.lit (.bool true)], args := [d1, d2, d3] }
  | _ => none }
def fnAppendQuotedSplitsAtAnyCutRow : OpenClaim := { program := "qxb6621649a", sum := "55b217a1dff0c8cddee8e3f5f31bbc307a53dd75c4f671e000446efe865ffec9", func := "example.com/stavecode/stavecode/zzlaws_internal_asm_b1.FnAppendQuotedSplitsAtAnyCut", spec := "fnAppendQuotedSplitsAtAnyCut", apart := false }
def FnAppendQuotedSplitsAtAnyCutSaid : Prop := fnAppendQuotedSplitsAtAnyCutRow.holds Try.pinned (OpenSpec.ofChange fnAppendQuotedSplitsAtAnyCutSpec)

/-- ITS FALSE NEIGHBOUR: 'it returns false'. Refute it at one input. -/
def fnAppendQuotedSplitsAtAnyCutWrong : ChangeSpec := { name := "fnAppendQuotedSplitsAtAnyCut", fn := fun _ => fun
  | [d1, d2, d3] => { results := [.lit (.bool false)], args := [d1, d2, d3] }
  | _ => none }
def FnAppendQuotedSplitsAtAnyCutWrongFalsely : Prop := fnAppendQuotedSplitsAtAnyCutRow.holds Try.pinned (OpenSpec.ofChange fnAppendQuotedSplitsAtAnyCutWrong)

/-- 'zzlaws_internal_asm_b1.FnCalleeAgreesWithAppendedNative': WHATEVER THE INPUT: true; the input reads as it did. -/
def fnCalleeAgreesWithAppendedNativeSpec : ChangeSpec := { name := "fnCalleeAgreesWithAppendedNative", fn := fun _ => fun
  | [d1, d2, d3, d4, d5, d6, d7] => { results := [.lit (.bool true)], args := [d1, d2, d3, d4, d5, d6, d7] }
  | _ => none }
def fnCalleeAgreesWithAppendedNativeRow : OpenClaim := { program := "qxb6621649a", sum := "55b217a1dff0c8cddee8e3f5f31bbc307a53dd75c4f671e000446efe865ffec9", func := "example.com/stavecode/stavecode/zzlaws_internal_asm_b1.FnCalleeAgreesWithAppendedNative", spec := "fnCalleeAgreesWithAppendedNative", maps := true, apart := false }
def FnCalleeAgreesWithAppendedNativeSaid : Prop := fnCalleeAgreesWithAppendedNativeRow.holds Try.pinned (OpenSpec.ofChange fnCalleeAgreesWithAppendedNativeSpec)

/-- ITS FALSE NEIGHBOUR: 'it returns false'. Refute it at one input. -/
def fnCalleeAgreesWithAppendedNativeWrong : ChangeSpec := { name := "fnCalleeAgreesWithAppendedNative", fn := fun _ => fun
  | [d1, d2, d3, d4, d5, d6, d7] => { results := [.lit (.bool false)], args := [d1, d2, d3, d4, d5, d6, d7] }
  | _ => none }
def FnCalleeAgreesWithAppendedNativeWrongFalsely : Prop := fnCalleeAgreesWithAppendedNativeRow.holds Try.pinned (OpenSpec.ofChange fnCalleeAgreesWithAppendedNativeWrong)

end Rows
end Go.Proofs.Qxb6621649a
