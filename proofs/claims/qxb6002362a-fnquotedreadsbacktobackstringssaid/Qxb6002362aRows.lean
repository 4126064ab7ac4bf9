/-
  No cell of these rows narrows 'for every input' (looked for: loops, veiled, ifaces, maps, wideKeys, modest, calm, conditions, laid).
  DERIVED. THE GIVEN ROWS OF THIS SEAT. 3 by the template 'for every input the law returns true; each argument reads behind the call as it read before'; 0 by the template 'total and deterministic' (their statements: Qxb6002362aTotals.lean).
  GIVEN WITH THE SEED: the statements are not yours to turn. If you find one false, say at which input.
  Laid BY PROGRAM, IN A SANDBOX (cutbox-rows.mjs): the forced cells as the released guide's own fill.sh prints them over the translation 37b765576811ebfe… (all of the seat's roots in one cut). By AI agents, Wed Nov 11 2026. No macro, syntax, notation, axiom, sorry.
-/
import Derived.Test.Qxb6002362aChecked
import GoSem.Claim
import GoSem.ClaimJoined
import GoSem.ClaimMapViews
import Derived.JoinedTies
import Derived.KernelRfl
namespace Go.Proofs.Qxb6002362a
/- THE CELL 'sum', in the pinned program and in every row, IS THE sha256 OF THE DUMP (.gsa) THAT Qxb6002362aProg.lean LOADS. Nothing in Lean hashes anything: it is a label: what it is worth is what the hold of that sum in a sandbox is worth. -/
noncomputable def Try.pinned : Pinned := { name := "qxb6002362a", sum := "37b765576811ebfec54d86c3f52380cd1477ac401f183c6f66f1101a7369c411", checked := Try.checked }
namespace Rows
def none {H : Type} : Left H := { results := [], args := [] }

/-- 'zzlaws_internal_syntax_g1.FnQuotedReadsUpToFirstClosingQuote': WHATEVER THE INPUT: true; the input reads as it did. -/
def fnQuotedReadsUpToFirstClosingQuoteSpec : ChangeSpec := { name := "fnQuotedReadsUpToFirstClosingQuote", fn := fun _ => fun
  | [d1, d2] => { results := [.lit (.bool true)], args := [d1, d2] }
  | _ => none }
def fnQuotedReadsUpToFirstClosingQuoteRow : OpenClaim := { program := "qxb6002362a", sum := "37b765576811ebfec54d86c3f52380cd1477ac401f183c6f66f1101a7369c411", func := "example.com/dialecta/dialecta/zzlaws_internal_syntax_g1.FnQuotedReadsUpToFirstClosingQuote", spec := "fnQuotedReadsUpToFirstClosingQuote", inPlace := ["internal/bytealg.IndexByteString"], apart := false }
def FnQuotedReadsUpToFirstClosingQuoteSaid : Prop := fnQuotedReadsUpToFirstClosingQuoteRow.holds Try.pinned (OpenSpec.ofChange fnQuotedReadsUpToFirstClosingQuoteSpec)

/-- ITS FALSE NEIGHBOUR: 'it returns false'. Refute it at one input. -/
def fnQuotedReadsUpToFirstClosingQuoteWrong : ChangeSpec := { name := "fnQuotedReadsUpToFirstClosingQuote", fn := fun _ => fun
  | [d1, d2] => { results := [.lit (.bool false)], args := [d1, d2] }
  | _ => none }
def FnQuotedReadsUpToFirstClosingQuoteWrongFalsely : Prop := fnQuotedReadsUpToFirstClosingQuoteRow.holds Try.pinned (OpenSpec.ofChange fnQuotedReadsUpToFirstClosingQuoteWrong)

/-- 'zzlaws_internal_syntax_g1.FnQuotedRoundTripAndUnclosed': WHATEVER THE INPUT: true; the input reads as it did. -/
def fnQuotedRoundTripAndUnclosedSpec : ChangeSpec := { name := "fnQuotedRoundTripAndUnclosed", fn := fun _ => fun
  | [d1, d2, d3] => { results := [.lit (.bool true)], args := [d1, d2, d3] }
  | _ => none }
def fnQuotedRoundTripAndUnclosedRow : OpenClaim := { program := "qxb6002362a", sum := "37b765576811ebfec54d86c3f52380cd1477ac401f183c6f66f1101a7369c411", func := "example.com/dialecta/dialecta/zzlaws_internal_syntax_g1.FnQuotedRoundTripAndUnclosed", spec := "fnQuotedRoundTripAndUnclosed", inPlace := ["internal/bytealg.IndexByteString"], apart := false }
def FnQuotedRoundTripAndUnclosedSaid : Prop := fnQuotedRoundTripAndUnclosedRow.holds Try.pinned (OpenSpec.ofChange fnQuotedRoundTripAndUnclosedSpec)

/-- ITS FALSE NEIGHBOUR: 'it returns false'. Refute it at one input. -/
def fnQuotedRoundTripAndUnclosedWrong : ChangeSpec := { name := "fnQuotedRoundTripAndUnclosed", fn := fun _ => fun
  | [d1, d2, d3] => { results := [.lit (.bool false)], args := [d1, d2, d3] }
  | _ => none }
def FnQuotedRoundTripAndUnclosedWrongFalsely : Prop := fnQuotedRoundTripAndUnclosedRow.holds Try.pinned (OpenSpec.ofChange fnQuotedRoundTripAndUnclosedWrong)

/-- 'zzlaws_internal_syntax_g1.FnQuotedReadsBackToBackStrings': WHATEVER THE INPUT: true; the input reads as it did. -/
def fnQuotedReadsBackToBackStringsSpec : ChangeSpec := { name := "fnQuotedReadsBackToBackStrings", fn := fun _ => fun
  | [d] => { results := [.lit (.bool true)], args := [d] }
  | _ => none }
def fnQuotedReadsBackToBackStringsRow : OpenClaim := { program := "qxb6002362a", sum := "37b765576811ebfec54d86c3f52380cd1477ac401f183c6f66f1101a7369c411", func := "example.com/dialecta/dialecta/zzlaws_internal_syntax_g1.FnQuotedReadsBackToBackStrings", spec := "fnQuotedReadsBackToBackStrings", inPlace := ["internal/bytealg.IndexByteString"], apart := false }
def FnQuotedReadsBackToBackStringsSaid : Prop := fnQuotedReadsBackToBackStringsRow.holds Try.pinned (OpenSpec.ofChange fnQuotedReadsBackToBackStringsSpec)

/-- ITS FALSE NEIGHBOUR: 'it returns false'. Refute it at one input. -/
def fnQuotedReadsBackToBackStringsWrong : ChangeSpec := { name := "fnQuotedReadsBackToBackStrings", fn := fun _ => fun
  | [d] => { results := [.lit (.bool false)], args := [d] }
  | _ => none }
def FnQuotedReadsBackToBackStringsWrongFalsely : Prop := fnQuotedReadsBackToBackStringsRow.holds Try.pinned (OpenSpec.ofChange fnQuotedReadsBackToBackStringsWrong)

end Rows
end Go.Proofs.Qxb6002362a
