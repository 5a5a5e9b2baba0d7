/-
  No cell of these rows narrows 'for every input' (looked for: loops, veiled, ifaces, maps, wideKeys, modest, calm, conditions, laid).
  DERIVED. THE GIVEN ROWS OF THIS SEAT. 6 by the template 'for every input the law returns true; each argument reads behind the call as it read before'; 0 by the template 'total and deterministic' (their statements: Qxb6001729aModsTotals.lean).
  GIVEN WITH THE SEED: the statements are not yours to turn. If you find one false, say at which input.
  Laid BY PROGRAM, IN A SANDBOX (cutbox-rows.mjs): the forced cells as the released guide's own fill.sh prints them over the translation 5617e7d1df5c5f9f… (all of the seat's roots in one cut). By AI agents, Wed Nov 11 2026. No macro, syntax, notation, axiom, sorry.
-/
import Derived.Test.Qxb6001729aModsChecked
import GoSem.Claim
import GoSem.ClaimJoined
import GoSem.ClaimMapViews
import Derived.JoinedTies
import Derived.KernelRfl
namespace Go.Proofs.Qxb6001729aMods
/- THE CELL 'sum', in the pinned program and in every row, IS THE sha256 OF THE DUMP (.gsa) THAT Qxb6001729aModsProg.lean LOADS. Nothing in Lean hashes anything: it is a label: what it is worth is what the hold of that sum in a sandbox is worth. -/
noncomputable def Trym.pinned : Pinned := { name := "qxb6001729amods", sum := "5617e7d1df5c5f9fef1943766c47f47a900078b61a99d7671a30a95f8987ab31", checked := Trym.checked }
namespace Rows
def none {H : Type} : Left H := { results := [], args := [] }

/-- 'zzlaws_pkg_manifest_b1.FnHoldsInOrderAgreesWithMatchFromTheEnd': WHATEVER THE INPUT: true; the input reads as it did. -/
def fnHoldsInOrderAgreesWithMatchFromTheEndSpec : ChangeSpec := { name := "fnHoldsInOrderAgreesWithMatchFromTheEnd", fn := fun _ => fun
  | [d1, d2] => { results := [.lit (.bool true)], args := [d1, d2] }
  | _ => none }
def fnHoldsInOrderAgreesWithMatchFromTheEndRow : OpenClaim := { program := "qxb6001729amods", sum := "5617e7d1df5c5f9fef1943766c47f47a900078b61a99d7671a30a95f8987ab31", func := "example.com/loadwarden/loadwarden/zzlaws_pkg_manifest_b1.FnHoldsInOrderAgreesWithMatchFromTheEnd", spec := "fnHoldsInOrderAgreesWithMatchFromTheEnd", make := .lifted ["publicsums"], apart := false }
def FnHoldsInOrderAgreesWithMatchFromTheEndSaid : Prop := fnHoldsInOrderAgreesWithMatchFromTheEndRow.holds Trym.pinned (OpenSpec.ofChange fnHoldsInOrderAgreesWithMatchFromTheEndSpec)

/-- ITS FALSE NEIGHBOUR: 'it returns false'. Refute it at one input. -/
def fnHoldsInOrderAgreesWithMatchFromTheEndWrong : ChangeSpec := { name := "fnHoldsInOrderAgreesWithMatchFromTheEnd", fn := fun _ => fun
  | [d1, d2] => { results := [.lit (.bool false)], args := [d1, d2] }
  | _ => none }
def FnHoldsInOrderAgreesWithMatchFromTheEndWrongFalsely : Prop := fnHoldsInOrderAgreesWithMatchFromTheEndRow.holds Trym.pinned (OpenSpec.ofChange fnHoldsInOrderAgreesWithMatchFromTheEndWrong)

/-- 'zzlaws_pkg_manifest_b1.FnHoldsInOrderIsTransitive': WHATEVER THE INPUT: true; the input reads as it did. -/
def fnHoldsInOrderIsTransitiveSpec : ChangeSpec := { name := "fnHoldsInOrderIsTransitive", fn := fun _ => fun
  | [d1, d2, d3] => { results := [.lit (.bool true)], args := [d1, d2, d3] }
  | _ => none }
def fnHoldsInOrderIsTransitiveRow : OpenClaim := { program := "qxb6001729amods", sum := "5617e7d1df5c5f9fef1943766c47f47a900078b61a99d7671a30a95f8987ab31", func := "example.com/loadwarden/loadwarden/zzlaws_pkg_manifest_b1.FnHoldsInOrderIsTransitive", spec := "fnHoldsInOrderIsTransitive", make := .lifted ["publicsums"], apart := false }
def FnHoldsInOrderIsTransitiveSaid : Prop := fnHoldsInOrderIsTransitiveRow.holds Trym.pinned (OpenSpec.ofChange fnHoldsInOrderIsTransitiveSpec)

/-- ITS FALSE NEIGHBOUR: 'it returns false'. Refute it at one input. -/
def fnHoldsInOrderIsTransitiveWrong : ChangeSpec := { name := "fnHoldsInOrderIsTransitive", fn := fun _ => fun
  | [d1, d2, d3] => { results := [.lit (.bool false)], args := [d1, d2, d3] }
  | _ => none }
def FnHoldsInOrderIsTransitiveWrongFalsely : Prop := fnHoldsInOrderIsTransitiveRow.holds Trym.pinned (OpenSpec.ofChange fnHoldsInOrderIsTransitiveWrong)

/-- 'zzlaws_pkg_manifest_b1.FnHoldsInOrderKeepsUnderWiderKeysAndFewerNames': WHATEVER THE INPUT: true; the input reads as it did. -/
def fnHoldsInOrderKeepsUnderWiderKeysAndFewerNamesSpec : ChangeSpec := { name := "fnHoldsInOrderKeepsUnderWiderKeysAndFewerNames", fn := fun _ => fun
  | [d1, d2, d3, d4, d5] => { results := [.lit (.bool true)], args := [d1, d2, d3, d4, d5] }
  | _ => none }
def fnHoldsInOrderKeepsUnderWiderKeysAndFewerNamesRow : OpenClaim := { program := "qxb6001729amods", sum := "5617e7d1df5c5f9fef1943766c47f47a900078b61a99d7671a30a95f8987ab31", func := "example.com/loadwarden/loadwarden/zzlaws_pkg_manifest_b1.FnHoldsInOrderKeepsUnderWiderKeysAndFewerNames", spec := "fnHoldsInOrderKeepsUnderWiderKeysAndFewerNames", make := .lifted ["publicsums"], apart := false }
def FnHoldsInOrderKeepsUnderWiderKeysAndFewerNamesSaid : Prop := fnHoldsInOrderKeepsUnderWiderKeysAndFewerNamesRow.holds Trym.pinned (OpenSpec.ofChange fnHoldsInOrderKeepsUnderWiderKeysAndFewerNamesSpec)

/-- ITS FALSE NEIGHBOUR: 'it returns false'. Refute it at one input. -/
def fnHoldsInOrderKeepsUnderWiderKeysAndFewerNamesWrong : ChangeSpec := { name := "fnHoldsInOrderKeepsUnderWiderKeysAndFewerNames", fn := fun _ => fun
  | [d1, d2, d3, d4, d5] => { results := [.lit (.bool false)], args := [d1, d2, d3, d4, d5] }
  | _ => none }
def FnHoldsInOrderKeepsUnderWiderKeysAndFewerNamesWrongFalsely : Prop := fnHoldsInOrderKeepsUnderWiderKeysAndFewerNamesRow.holds Trym.pinned (OpenSpec.ofChange fnHoldsInOrderKeepsUnderWiderKeysAndFewerNamesWrong)

/-- 'zzlaws_pkg_manifest_b1.FnSexagesimalAgreesWithFieldGrammar': WHATEVER THE INPUT: true; the input reads as it did. -/
def fnSexagesimalAgreesWithFieldGrammarSpec : ChangeSpec := { name := "fnSexagesimalAgreesWithFieldGrammar", fn := fun _ => fun
  | [d] => { results := [.lit (.bool true)], args := [d] }
  | _ => none }
def fnSexagesimalAgreesWithFieldGrammarRow : OpenClaim := { program := "qxb6001729amods", sum := "5617e7d1df5c5f9fef1943766c47f47a900078b61a99d7671a30a95f8987ab31", func := "example.com/loadwarden/loadwarden/zzlaws_pkg_manifest_b1.FnSexagesimalAgreesWithFieldGrammar", spec := "fnSexagesimalAgreesWithFieldGrammar", inPlace := ["internal/bytealg.IndexByte"], make := .lifted ["publicsums"], apart := false }
def FnSexagesimalAgreesWithFieldGrammarSaid : Prop := fnSexagesimalAgreesWithFieldGrammarRow.holds Trym.pinned (OpenSpec.ofChange fnSexagesimalAgreesWithFieldGrammarSpec)

/-- ITS FALSE NEIGHBOUR: 'it returns false'. Refute it at one input. -/
def fnSexagesimalAgreesWithFieldGrammarWrong : ChangeSpec := { name := "fnSexagesimalAgreesWithFieldGrammar", fn := fun _ => fun
  | [d] => { results := [.lit (.bool false)], args := [d] }
  | _ => none }
def FnSexagesimalAgreesWithFieldGrammarWrongFalsely : Prop := fnSexagesimalAgreesWithFieldGrammarRow.holds Trym.pinned (OpenSpec.ofChange fnSexagesimalAgreesWithFieldGrammarWrong)

/-- 'zzlaws_pkg_manifest_b1.FnSexagesimalTakesOneOptionalSign': WHATEVER THE INPUT: true; the input reads as it did. -/
def fnSexagesimalTakesOneOptionalSignSpec : ChangeSpec := { name := "fnSexagesimalTakesOneOptionalSign", fn := fun _ => fun
  | [d] => { results := [.lit (.bool true)], args := [d] }
  | _ => none }
def fnSexagesimalTakesOneOptionalSignRow : OpenClaim := { program := "qxb6001729amods", sum := "5617e7d1df5c5f9fef1943766c47f47a900078b61a99d7671a30a95f8987ab31", func := "example.com/loadwarden/loadwarden/zzlaws_pkg_manifest_b1.FnSexagesimalTakesOneOptionalSign", spec := "fnSexagesimalTakesOneOptionalSign", inPlace := ["internal/bytealg.IndexByte"], make := .lifted ["publicsums"], apart := false }
def FnSexagesimalTakesOneOptionalSignSaid : Prop := fnSexagesimalTakesOneOptionalSignRow.holds Trym.pinned (OpenSpec.ofChange fnSexagesimalTakesOneOptionalSignSpec)

/-- ITS FALSE NEIGHBOUR: 'it returns false'. Refute it at one input. -/
def fnSexagesimalTakesOneOptionalSignWrong : ChangeSpec := { name := "fnSexagesimalTakesOneOptionalSign", fn := fun _ => fun
  | [d] => { results := [.lit (.bool false)], args := [d] }
  | _ => none }
def FnSexagesimalTakesOneOptionalSignWrongFalsely : Prop := fnSexagesimalTakesOneOptionalSignRow.holds Trym.pinned (OpenSpec.ofChange fnSexagesimalTakesOneOptionalSignWrong)

/-- 'zzlaws_pkg_manifest_b1.FnSexagesimalAppendedFieldBelowSixty': WHATEVER THE INPUT: true; the input reads as it did. -/
def fnSexagesimalAppendedFieldBelowSixtySpec : ChangeSpec := { name := "fnSexagesimalAppendedFieldBelowSixty", fn := fun _ => fun
  | [d1, d2, d3] => { results := [.lit (.bool true)], args := [d1, d2, d3] }
  | _ => none }
def fnSexagesimalAppendedFieldBelowSixtyRow : OpenClaim := { program := "qxb6001729amods", sum := "5617e7d1df5c5f9fef1943766c47f47a900078b61a99d7671a30a95f8987ab31", func := "example.com/loadwarden/loadwarden/zzlaws_pkg_manifest_b1.FnSexagesimalAppendedFieldBelowSixty", spec := "fnSexagesimalAppendedFieldBelowSixty", inPlace := ["internal/bytealg.IndexByte"], make := .lifted ["publicsums"], apart := false }
def FnSexagesimalAppendedFieldBelowSixtySaid : Prop := fnSexagesimalAppendedFieldBelowSixtyRow.holds Trym.pinned (OpenSpec.ofChange fnSexagesimalAppendedFieldBelowSixtySpec)

/-- ITS FALSE NEIGHBOUR: 'it returns false'. Refute it at one input. -/
def fnSexagesimalAppendedFieldBelowSixtyWrong : ChangeSpec := { name := "fnSexagesimalAppendedFieldBelowSixty", fn := fun _ => fun
  | [d1, d2, d3] => { results := [.lit (.bool false)], args := [d1, d2, d3] }
  | _ => none }
def FnSexagesimalAppendedFieldBelowSixtyWrongFalsely : Prop := fnSexagesimalAppendedFieldBelowSixtyRow.holds Trym.pinned (OpenSpec.ofChange fnSexagesimalAppendedFieldBelowSixtyWrong)

end Rows
end Go.Proofs.Qxb6001729aMods
