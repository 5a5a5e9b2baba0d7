/-
  No cell of these rows narrows 'for every input' (looked for: loops, veiled, ifaces, maps, wideKeys, modest, calm, conditions, laid).
  DERIVED. THE GIVEN ROWS OF THIS SEAT. 9 by the template 'for every input the law returns true; each argument reads behind the call as it read before'; 0 by the template 'total and deterministic' (their statements: Qxb6600016aModsTotals.lean).
  GIVEN WITH THE SEED: the statements are not yours to turn. If you find one false, say at which input.
  Laid BY PROGRAM, IN A SANDBOX (cutbox-rows.mjs): the forced cells as the released guide's own fill.sh prints them over the translation e67b0865c7fdbb81… (all of the seat's roots in one cut). By AI agents, Wed Nov 11 2026. No macro, syntax, notation, axiom, sorry.
-/
import Derived.Test.Qxb6600016aModsChecked
import GoSem.Claim
import GoSem.ClaimJoined
import GoSem.ClaimMapViews
import Derived.JoinedTies
import Derived.KernelRfl
namespace Go.Proofs.Qxb6600016aMods
/- THE CELL 'sum', in the pinned program and in every row, IS THE sha256 OF THE DUMP (.gsa) THAT Qxb6600016aModsProg.lean LOADS. Nothing in Lean hashes anything: it is a label: what it is worth is what the hold of that sum in a sandbox is worth. -/
noncomputable def Trym.pinned : Pinned := { name := "qxb6600016amods", sum := "e67b0865c7fdbb81ceb5304dc391f2b7758afee59eb9eb4a2d34de23a3816d57", checked := Trym.checked }
namespace Rows
def none {H : Type} : Left H := { results := [], args := [] }

/-- 'zzlaws_internal_proxy_b1.FnUnquoteRoundTrip': WHATEVER THE INPUT: true; the input reads as it did. -/
def fnUnquoteRoundTripSpec : ChangeSpec := { name := "fnUnquoteRoundTrip", fn := fun _ => fun
  | [d] => { results := [.lit (.bool true)], args := [d] }
  | _ => none }
def fnUnquoteRoundTripRow : OpenClaim := { program := "qxb6600016amods", sum := "e67b0865c7fdbb81ceb5304dc391f2b7758afee59eb9eb4a2d34de23a3816d57", func := "example.com/fusible/fusible/zzlaws_internal_proxy_b1.FnUnquoteRoundTrip", spec := "fnUnquoteRoundTrip", inPlace := ["internal/abi.NoEscape"], make := .lifted ["publicsums"], apart := false }
def FnUnquoteRoundTripSaid : Prop := fnUnquoteRoundTripRow.holds Trym.pinned (OpenSpec.ofChange fnUnquoteRoundTripSpec)

/-- ITS FALSE NEIGHBOUR: 'it returns false'. Refute it at one input. -/
def fnUnquoteRoundTripWrong : ChangeSpec := { name := "fnUnquoteRoundTrip", fn := fun _ => fun
  | [d] => { results := [.lit (.bool false)], args := [d] }
  | _ => none }
def FnUnquoteRoundTripWrongFalsely : Prop := fnUnquoteRoundTripRow.holds Trym.pinned (OpenSpec.ofChange fnUnquoteRoundTripWrong)

/-- 'zzlaws_internal_proxy_b1.FnUnquoteRefusesTruncatedOrExtended': WHATEVER THE INPUT: true; the input reads as it did. -/
def fnUnquoteRefusesTruncatedOrExtendedSpec : ChangeSpec := { name := "fnUnquoteRefusesTruncatedOrExtended", fn := fun _ => fun
  | [d1, d2, d3] => { results := [.lit (.bool true)], args := [d1, d2, d3] }
  | _ => none }
def fnUnquoteRefusesTruncatedOrExtendedRow : OpenClaim := { program := "qxb6600016amods", sum := "e67b0865c7fdbb81ceb5304dc391f2b7758afee59eb9eb4a2d34de23a3816d57", func := "example.com/fusible/fusible/zzlaws_internal_proxy_b1.FnUnquoteRefusesTruncatedOrExtended", spec := "fnUnquoteRefusesTruncatedOrExtended", inPlace := ["internal/abi.NoEscape"], make := .lifted ["publicsums"], apart := false }
def FnUnquoteRefusesTruncatedOrExtendedSaid : Prop := fnUnquoteRefusesTruncatedOrExtendedRow.holds Trym.pinned (OpenSpec.ofChange fnUnquoteRefusesTruncatedOrExtendedSpec)

/-- ITS FALSE NEIGHBOUR: 'it returns false'. Refute it at one input. -/
def fnUnquoteRefusesTruncatedOrExtendedWrong : ChangeSpec := { name := "fnUnquoteRefusesTruncatedOrExtended", fn := fun _ => fun
  | [d1, d2, d3] => { results := [.lit (.bool false)], args := [d1, d2, d3] }
  | _ => none }
def FnUnquoteRefusesTruncatedOrExtendedWrongFalsely : Prop := fnUnquoteRefusesTruncatedOrExtendedRow.holds Trym.pinned (OpenSpec.ofChange fnUnquoteRefusesTruncatedOrExtendedWrong)

/-- 'zzlaws_internal_proxy_b1.FnUnquoteAcceptedIsCanonical': WHATEVER THE INPUT: true; the input reads as it did. -/
def fnUnquoteAcceptedIsCanonicalSpec : ChangeSpec := { name := "fnUnquoteAcceptedIsCanonical", fn := fun _ => fun
  | [d] => { results := [.lit (.bool true)], args := [d] }
  | _ => none }
def fnUnquoteAcceptedIsCanonicalRow : OpenClaim := { program := "qxb6600016amods", sum := "e67b0865c7fdbb81ceb5304dc391f2b7758afee59eb9eb4a2d34de23a3816d57", func := "example.com/fusible/fusible/zzlaws_internal_proxy_b1.FnUnquoteAcceptedIsCanonical", spec := "fnUnquoteAcceptedIsCanonical", inPlace := ["internal/abi.NoEscape"], make := .lifted ["publicsums"], apart := false }
def FnUnquoteAcceptedIsCanonicalSaid : Prop := fnUnquoteAcceptedIsCanonicalRow.holds Trym.pinned (OpenSpec.ofChange fnUnquoteAcceptedIsCanonicalSpec)

/-- ITS FALSE NEIGHBOUR: 'it returns false'. Refute it at one input. -/
def fnUnquoteAcceptedIsCanonicalWrong : ChangeSpec := { name := "fnUnquoteAcceptedIsCanonical", fn := fun _ => fun
  | [d] => { results := [.lit (.bool false)], args := [d] }
  | _ => none }
def FnUnquoteAcceptedIsCanonicalWrongFalsely : Prop := fnUnquoteAcceptedIsCanonicalRow.holds Trym.pinned (OpenSpec.ofChange fnUnquoteAcceptedIsCanonicalWrong)

/-- 'zzlaws_internal_proxy_b1.FnUnescapePathRoundTrip': WHATEVER THE INPUT: true; the input reads as it did. -/
def fnUnescapePathRoundTripSpec : ChangeSpec := { name := "fnUnescapePathRoundTrip", fn := fun _ => fun
  | [d] => { results := [.lit (.bool true)], args := [d] }
  | _ => none }
def fnUnescapePathRoundTripRow : OpenClaim := { program := "qxb6600016amods", sum := "e67b0865c7fdbb81ceb5304dc391f2b7758afee59eb9eb4a2d34de23a3816d57", func := "example.com/fusible/fusible/zzlaws_internal_proxy_b1.FnUnescapePathRoundTrip", spec := "fnUnescapePathRoundTrip", inPlace := ["internal/bytealg.IndexByteString"], make := .lifted ["publicsums"], apart := false }
def FnUnescapePathRoundTripSaid : Prop := fnUnescapePathRoundTripRow.holds Trym.pinned (OpenSpec.ofChange fnUnescapePathRoundTripSpec)

/-- ITS FALSE NEIGHBOUR: 'it returns false'. Refute it at one input. -/
def fnUnescapePathRoundTripWrong : ChangeSpec := { name := "fnUnescapePathRoundTrip", fn := fun _ => fun
  | [d] => { results := [.lit (.bool false)], args := [d] }
  | _ => none }
def FnUnescapePathRoundTripWrongFalsely : Prop := fnUnescapePathRoundTripRow.holds Trym.pinned (OpenSpec.ofChange fnUnescapePathRoundTripWrong)

/-- 'zzlaws_internal_proxy_b1.FnUnescapePathRefusesIncompleteEscape': WHATEVER THE INPUT: true; the input reads as it did. -/
def fnUnescapePathRefusesIncompleteEscapeSpec : ChangeSpec := { name := "fnUnescapePathRefusesIncompleteEscape", fn := fun _ => fun
  | [d1, d2, d3] => { results := [.lit (.bool true)], args := [d1, d2, d3] }
  | _ => none }
def fnUnescapePathRefusesIncompleteEscapeRow : OpenClaim := { program := "qxb6600016amods", sum := "e67b0865c7fdbb81ceb5304dc391f2b7758afee59eb9eb4a2d34de23a3816d57", func := "example.com/fusible/fusible/zzlaws_internal_proxy_b1.FnUnescapePathRefusesIncompleteEscape", spec := "fnUnescapePathRefusesIncompleteEscape", inPlace := ["internal/bytealg.IndexByteString"], make := .lifted ["publicsums"], apart := false }
def FnUnescapePathRefusesIncompleteEscapeSaid : Prop := fnUnescapePathRefusesIncompleteEscapeRow.holds Trym.pinned (OpenSpec.ofChange fnUnescapePathRefusesIncompleteEscapeSpec)

/-- ITS FALSE NEIGHBOUR: 'it returns false'. Refute it at one input. -/
def fnUnescapePathRefusesIncompleteEscapeWrong : ChangeSpec := { name := "fnUnescapePathRefusesIncompleteEscape", fn := fun _ => fun
  | [d1, d2, d3] => { results := [.lit (.bool false)], args := [d1, d2, d3] }
  | _ => none }
def FnUnescapePathRefusesIncompleteEscapeWrongFalsely : Prop := fnUnescapePathRefusesIncompleteEscapeRow.holds Trym.pinned (OpenSpec.ofChange fnUnescapePathRefusesIncompleteEscapeWrong)

/-- 'zzlaws_internal_proxy_b1.FnUnescapePathConcat': WHATEVER THE INPUT: true; the input reads as it did. -/
def fnUnescapePathConcatSpec : ChangeSpec := { name := "fnUnescapePathConcat", fn := fun _ => fun
  | [d1, d2] => { results := [.lit (.bool true)], args := [d1, d2] }
  | _ => none }
def fnUnescapePathConcatRow : OpenClaim := { program := "qxb6600016amods", sum := "e67b0865c7fdbb81ceb5304dc391f2b7758afee59eb9eb4a2d34de23a3816d57", func := "example.com/fusible/fusible/zzlaws_internal_proxy_b1.FnUnescapePathConcat", spec := "fnUnescapePathConcat", inPlace := ["internal/bytealg.IndexByteString"], make := .lifted ["publicsums"], apart := false }
def FnUnescapePathConcatSaid : Prop := fnUnescapePathConcatRow.holds Trym.pinned (OpenSpec.ofChange fnUnescapePathConcatSpec)

/-- ITS FALSE NEIGHBOUR: 'it returns false'. Refute it at one input. -/
def fnUnescapePathConcatWrong : ChangeSpec := { name := "fnUnescapePathConcat", fn := fun _ => fun
  | [d1, d2] => { results := [.lit (.bool false)], args := [d1, d2] }
  | _ => none }
def FnUnescapePathConcatWrongFalsely : Prop := fnUnescapePathConcatRow.holds Trym.pinned (OpenSpec.ofChange fnUnescapePathConcatWrong)

/-- 'zzlaws_internal_proxy_b1.FnCombinedValueConcat': WHATEVER THE INPUT: true; the input reads as it did. -/
def fnCombinedValueConcatSpec : ChangeSpec := { name := "fnCombinedValueConcat", fn := fun _ => fun
  | [d1, d2, d3, d4, d5] => { results := [.lit (.bool true)], args := [d1, d2, d3, d4, d5] }
  | _ => none }
def fnCombinedValueConcatRow : OpenClaim := { program := "qxb6600016amods", sum := "e67b0865c7fdbb81ceb5304dc391f2b7758afee59eb9eb4a2d34de23a3816d57", func := "example.com/fusible/fusible/zzlaws_internal_proxy_b1.FnCombinedValueConcat", spec := "fnCombinedValueConcat", inPlace := ["internal/abi.NoEscape", "internal/bytealg.MakeNoZero"], make := .lifted ["publicsums"], apart := false }
def FnCombinedValueConcatSaid : Prop := fnCombinedValueConcatRow.holds Trym.pinned (OpenSpec.ofChange fnCombinedValueConcatSpec)

/-- ITS FALSE NEIGHBOUR: 'it returns false'. Refute it at one input. -/
def fnCombinedValueConcatWrong : ChangeSpec := { name := "fnCombinedValueConcat", fn := fun _ => fun
  | [d1, d2, d3, d4, d5] => { results := [.lit (.bool false)], args := [d1, d2, d3, d4, d5] }
  | _ => none }
def FnCombinedValueConcatWrongFalsely : Prop := fnCombinedValueConcatRow.holds Trym.pinned (OpenSpec.ofChange fnCombinedValueConcatWrong)

/-- 'zzlaws_internal_proxy_b1.FnCombinedValueIgnoresOtherNames': WHATEVER THE INPUT: true; the input reads as it did. -/
def fnCombinedValueIgnoresOtherNamesSpec : ChangeSpec := { name := "fnCombinedValueIgnoresOtherNames", fn := fun _ => fun
  | [d1, d2, d3] => { results := [.lit (.bool true)], args := [d1, d2, d3] }
  | _ => none }
def fnCombinedValueIgnoresOtherNamesRow : OpenClaim := { program := "qxb6600016amods", sum := "e67b0865c7fdbb81ceb5304dc391f2b7758afee59eb9eb4a2d34de23a3816d57", func := "example.com/fusible/fusible/zzlaws_internal_proxy_b1.FnCombinedValueIgnoresOtherNames", spec := "fnCombinedValueIgnoresOtherNames", inPlace := ["internal/abi.NoEscape", "internal/bytealg.MakeNoZero"], make := .lifted ["publicsums"], apart := false }
def FnCombinedValueIgnoresOtherNamesSaid : Prop := fnCombinedValueIgnoresOtherNamesRow.holds Trym.pinned (OpenSpec.ofChange fnCombinedValueIgnoresOtherNamesSpec)

/-- ITS FALSE NEIGHBOUR: 'it returns false'. Refute it at one input. -/
def fnCombinedValueIgnoresOtherNamesWrong : ChangeSpec := { name := "fnCombinedValueIgnoresOtherNames", fn := fun _ => fun
  | [d1, d2, d3] => { results := [.lit (.bool false)], args := [d1, d2, d3] }
  | _ => none }
def FnCombinedValueIgnoresOtherNamesWrongFalsely : Prop := fnCombinedValueIgnoresOtherNamesRow.holds Trym.pinned (OpenSpec.ofChange fnCombinedValueIgnoresOtherNamesWrong)

/-- 'zzlaws_internal_proxy_b1.FnCombinedValueLengthAndEnds': WHATEVER THE INPUT: true; the input reads as it did. -/
def fnCombinedValueLengthAndEndsSpec : ChangeSpec := { name := "fnCombinedValueLengthAndEnds", fn := fun _ => fun
  | [d1, d2, d3] => { results := [.lit (.bool true)], args := [d1, d2, d3] }
  | _ => none }
def fnCombinedValueLengthAndEndsRow : OpenClaim := { program := "qxb6600016amods", sum := "e67b0865c7fdbb81ceb5304dc391f2b7758afee59eb9eb4a2d34de23a3816d57", func := "example.com/fusible/fusible/zzlaws_internal_proxy_b1.FnCombinedValueLengthAndEnds", spec := "fnCombinedValueLengthAndEnds", inPlace := ["internal/abi.NoEscape", "internal/bytealg.MakeNoZero"], make := .lifted ["publicsums"], apart := false }
def FnCombinedValueLengthAndEndsSaid : Prop := fnCombinedValueLengthAndEndsRow.holds Trym.pinned (OpenSpec.ofChange fnCombinedValueLengthAndEndsSpec)

/-- ITS FALSE NEIGHBOUR: 'it returns false'. Refute it at one input. -/
def fnCombinedValueLengthAndEndsWrong : ChangeSpec := { name := "fnCombinedValueLengthAndEnds", fn := fun _ => fun
  | [d1, d2, d3] => { results := [.lit (.bool false)], args := [d1, d2, d3] }
  | _ => none }
def FnCombinedValueLengthAndEndsWrongFalsely : Prop := fnCombinedValueLengthAndEndsRow.holds Trym.pinned (OpenSpec.ofChange fnCombinedValueLengthAndEndsWrong)

end Rows
end Go.Proofs.Qxb6600016aMods
