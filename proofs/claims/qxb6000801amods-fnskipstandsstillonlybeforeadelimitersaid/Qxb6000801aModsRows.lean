/-
  No cell of these rows narrows 'for every input' (looked for: loops, veiled, ifaces, maps, wideKeys, modest, calm, conditions, laid).
  DERIVED. THE GIVEN ROWS OF THIS SEAT. 5 by the template 'for every input the law returns true; each argument reads behind the call as it read before'; 0 by the template 'total and deterministic' (their statements: Qxb6000801aModsTotals.lean).
  GIVEN WITH THE SEED: the statements are not yours to turn. If you find one false, say at which input.
  Laid BY PROGRAM, IN A SANDBOX (cutbox-rows.mjs): the forced cells as the released guide's own fill.sh prints them over the translation c3829c3ead96e53d… (all of the seat's roots in one cut). By AI agents, Wed Nov 11 2026. No macro, syntax, notation, axiom, sorry.
-/
import Derived.Test.Qxb6000801aModsChecked
import GoSem.Claim
import GoSem.ClaimJoined
import GoSem.ClaimMapViews
import Derived.JoinedTies
import Derived.KernelRfl
namespace Go.Proofs.Qxb6000801aMods
/- THE CELL 'sum', in the pinned program and in every row, IS THE sha256 OF THE DUMP (.gsa) THAT Qxb6000801aModsProg.lean LOADS. Nothing in Lean hashes anything: it is a label: what it is worth is what the hold of that sum in a sandbox is worth. -/
noncomputable def Trym.pinned : Pinned := { name := "qxb6000801amods", sum := "c3829c3ead96e53d59719a6f286c34d69f855b06b165d356ed7d68a581d2615f", checked := Trym.checked }
namespace Rows
def none {H : Type} : Left H := { results := [], args := [] }

/-- 'zzlaws_api_b1.FnSkipStandsStillOnlyBeforeADelimiter': WHATEVER THE INPUT: true; the input reads as it did. -/
def fnSkipStandsStillOnlyBeforeADelimiterSpec : ChangeSpec := { name := "fnSkipStandsStillOnlyBeforeADelimiter", fn := fun _ => fun
  | [d1, d2] => { results := [.lit (.bool true)], args := [d1, d2] }
  | _ => none }
def fnSkipStandsStillOnlyBeforeADelimiterRow : OpenClaim := { program := "qxb6000801amods", sum := "c3829c3ead96e53d59719a6f286c34d69f855b06b165d356ed7d68a581d2615f", func := "example.com/concordat/concordat/zzlaws_api_b1.FnSkipStandsStillOnlyBeforeADelimiter", spec := "fnSkipStandsStillOnlyBeforeADelimiter", inPlace := ["internal/bytealg.IndexByteString"], make := .lifted ["publicsums"], apart := false }
def FnSkipStandsStillOnlyBeforeADelimiterSaid : Prop := fnSkipStandsStillOnlyBeforeADelimiterRow.holds Trym.pinned (OpenSpec.ofChange fnSkipStandsStillOnlyBeforeADelimiterSpec)

/-- ITS FALSE NEIGHBOUR: 'it returns false'. Refute it at one input. -/
def fnSkipStandsStillOnlyBeforeADelimiterWrong : ChangeSpec := { name := "fnSkipStandsStillOnlyBeforeADelimiter", fn := fun _ => fun
  | [d1, d2] => { results := [.lit (.bool false)], args := [d1, d2] }
  | _ => none }
def FnSkipStandsStillOnlyBeforeADelimiterWrongFalsely : Prop := fnSkipStandsStillOnlyBeforeADelimiterRow.holds Trym.pinned (OpenSpec.ofChange fnSkipStandsStillOnlyBeforeADelimiterWrong)

/-- 'zzlaws_api_b1.FnSkipIgnoresBytesAfterItsEnd': WHATEVER THE INPUT: true; the input reads as it did. -/
def fnSkipIgnoresBytesAfterItsEndSpec : ChangeSpec := { name := "fnSkipIgnoresBytesAfterItsEnd", fn := fun _ => fun
  | [d1, d2, d3] => { results := [.lit (.bool true)], args := [d1, d2, d3] }
  | _ => none }
def fnSkipIgnoresBytesAfterItsEndRow : OpenClaim := { program := "qxb6000801amods", sum := "c3829c3ead96e53d59719a6f286c34d69f855b06b165d356ed7d68a581d2615f", func := "example.com/concordat/concordat/zzlaws_api_b1.FnSkipIgnoresBytesAfterItsEnd", spec := "fnSkipIgnoresBytesAfterItsEnd", inPlace := ["internal/bytealg.IndexByteString"], make := .lifted ["publicsums"], apart := false }
def FnSkipIgnoresBytesAfterItsEndSaid : Prop := fnSkipIgnoresBytesAfterItsEndRow.holds Trym.pinned (OpenSpec.ofChange fnSkipIgnoresBytesAfterItsEndSpec)

/-- ITS FALSE NEIGHBOUR: 'it returns false'. Refute it at one input. -/
def fnSkipIgnoresBytesAfterItsEndWrong : ChangeSpec := { name := "fnSkipIgnoresBytesAfterItsEnd", fn := fun _ => fun
  | [d1, d2, d3] => { results := [.lit (.bool false)], args := [d1, d2, d3] }
  | _ => none }
def FnSkipIgnoresBytesAfterItsEndWrongFalsely : Prop := fnSkipIgnoresBytesAfterItsEndRow.holds Trym.pinned (OpenSpec.ofChange fnSkipIgnoresBytesAfterItsEndWrong)

/-- 'zzlaws_api_b1.FnSkipStringRoundTripsQuote': WHATEVER THE INPUT: true; the input reads as it did. -/
def fnSkipStringRoundTripsQuoteSpec : ChangeSpec := { name := "fnSkipStringRoundTripsQuote", fn := fun _ => fun
  | [d1, d2, d3] => { results := [.lit (.bool true)], args := [d1, d2, d3] }
  | _ => none }
def fnSkipStringRoundTripsQuoteRow : OpenClaim := { program := "qxb6000801amods", sum := "c3829c3ead96e53d59719a6f286c34d69f855b06b165d356ed7d68a581d2615f", func := "example.com/concordat/concordat/zzlaws_api_b1.FnSkipStringRoundTripsQuote", spec := "fnSkipStringRoundTripsQuote", make := .lifted ["publicsums"], apart := false }
def FnSkipStringRoundTripsQuoteSaid : Prop := fnSkipStringRoundTripsQuoteRow.holds Trym.pinned (OpenSpec.ofChange fnSkipStringRoundTripsQuoteSpec)

/-- ITS FALSE NEIGHBOUR: 'it returns false'. Refute it at one input. -/
def fnSkipStringRoundTripsQuoteWrong : ChangeSpec := { name := "fnSkipStringRoundTripsQuote", fn := fun _ => fun
  | [d1, d2, d3] => { results := [.lit (.bool false)], args := [d1, d2, d3] }
  | _ => none }
def FnSkipStringRoundTripsQuoteWrongFalsely : Prop := fnSkipStringRoundTripsQuoteRow.holds Trym.pinned (OpenSpec.ofChange fnSkipStringRoundTripsQuoteWrong)

/-- 'zzlaws_api_b1.FnSkipStringStopsAtFirstUnescapedQuote': WHATEVER THE INPUT: true; the input reads as it did. -/
def fnSkipStringStopsAtFirstUnescapedQuoteSpec : ChangeSpec := { name := "fnSkipStringStopsAtFirstUnescapedQuote", fn := fun _ => fun
  | [d1, d2] => { results := [.lit (.bool true)], args := [d1, d2] }
  | _ => none }
def fnSkipStringStopsAtFirstUnescapedQuoteRow : OpenClaim := { program := "qxb6000801amods", sum := "c3829c3ead96e53d59719a6f286c34d69f855b06b165d356ed7d68a581d2615f", func := "example.com/concordat/concordat/zzlaws_api_b1.FnSkipStringStopsAtFirstUnescapedQuote", spec := "fnSkipStringStopsAtFirstUnescapedQuote", make := .lifted ["publicsums"], apart := false }
def FnSkipStringStopsAtFirstUnescapedQuoteSaid : Prop := fnSkipStringStopsAtFirstUnescapedQuoteRow.holds Trym.pinned (OpenSpec.ofChange fnSkipStringStopsAtFirstUnescapedQuoteSpec)

/-- ITS FALSE NEIGHBOUR: 'it returns false'. Refute it at one input. -/
def fnSkipStringStopsAtFirstUnescapedQuoteWrong : ChangeSpec := { name := "fnSkipStringStopsAtFirstUnescapedQuote", fn := fun _ => fun
  | [d1, d2] => { results := [.lit (.bool false)], args := [d1, d2] }
  | _ => none }
def FnSkipStringStopsAtFirstUnescapedQuoteWrongFalsely : Prop := fnSkipStringStopsAtFirstUnescapedQuoteRow.holds Trym.pinned (OpenSpec.ofChange fnSkipStringStopsAtFirstUnescapedQuoteWrong)

/-- 'zzlaws_api_b1.FnMoreAdvancesWithinBounds': WHATEVER THE INPUT: true; the input reads as it did. -/
def fnMoreAdvancesWithinBoundsSpec : ChangeSpec := { name := "fnMoreAdvancesWithinBounds", fn := fun _ => fun
  | [d1, d2] => { results := [.lit (.bool true)], args := [d1, d2] }
  | _ => none }
def fnMoreAdvancesWithinBoundsRow : OpenClaim := { program := "qxb6000801amods", sum := "c3829c3ead96e53d59719a6f286c34d69f855b06b165d356ed7d68a581d2615f", func := "example.com/concordat/concordat/zzlaws_api_b1.FnMoreAdvancesWithinBounds", spec := "fnMoreAdvancesWithinBounds", make := .lifted ["publicsums"], apart := false }
def FnMoreAdvancesWithinBoundsSaid : Prop := fnMoreAdvancesWithinBoundsRow.holds Trym.pinned (OpenSpec.ofChange fnMoreAdvancesWithinBoundsSpec)

/-- ITS FALSE NEIGHBOUR: 'it returns false'. Refute it at one input. -/
def fnMoreAdvancesWithinBoundsWrong : ChangeSpec := { name := "fnMoreAdvancesWithinBounds", fn := fun _ => fun
  | [d1, d2] => { results := [.lit (.bool false)], args := [d1, d2] }
  | _ => none }
def FnMoreAdvancesWithinBoundsWrongFalsely : Prop := fnMoreAdvancesWithinBoundsRow.holds Trym.pinned (OpenSpec.ofChange fnMoreAdvancesWithinBoundsWrong)

end Rows
end Go.Proofs.Qxb6000801aMods
