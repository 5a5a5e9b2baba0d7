/-
  No cell of these rows narrows 'for every input' (looked for: loops, veiled, ifaces, maps, wideKeys, modest, calm, conditions, laid).
  DERIVED. THE GIVEN ROWS OF THIS SEAT. 4 by the template 'for every input the law returns true; each argument reads behind the call as it read before'; 0 by the template 'total and deterministic' (their statements: Qxb6601160aModsTotals.lean).
  GIVEN WITH THE SEED: the statements are not yours to turn. If you find one false, say at which input.
  Laid BY PROGRAM, IN A SANDBOX (cutbox-rows.mjs): the forced cells as the released guide's own fill.sh prints them over the translation 16c5b4f0880e720c… (all of the seat's roots in one cut). By AI agents, Wed Nov 11 2026. No macro, syntax, notation, axiom, sorry.
-/
import Derived.Test.Qxb6601160aModsChecked
import GoSem.Claim
import GoSem.ClaimJoined
import GoSem.ClaimMapViews
import Derived.JoinedTies
import Derived.KernelRfl
namespace Go.Proofs.Qxb6601160aMods
/- THE CELL 'sum', in the pinned program and in every row, IS THE sha256 OF THE DUMP (.gsa) THAT Qxb6601160aModsProg.lean LOADS. Nothing in Lean hashes anything: it is a label: what it is worth is what the hold of that sum in a sandbox is worth. -/
noncomputable def Trym.pinned : Pinned := { name := "qxb6601160amods", sum := "16c5b4f0880e720cc43a7f75e7fa2f43306ae4c6c7b50fbd9821982573fce19c", checked := Trym.checked }
namespace Rows
def none {H : Type} : Left H := { results := [], args := [] }

/-- 'zzlaws_manifest_b1.FnSeekFindsFirstContentLine': WHATEVER THE INPUT: true; the input reads as it did. -/
def fnSeekFindsFirstContentLineSpec : ChangeSpec := { name := "fnSeekFindsFirstContentLine", fn := fun _ => fun
  | [d1, d2, d3, d4, d5, d6, d7] => { results := [.lit (.bool true)], args := [d1, d2, d3, d4, d5, d6, d7] }
  | _ => none }
def fnSeekFindsFirstContentLineRow : OpenClaim := { program := "qxb6601160amods", sum := "16c5b4f0880e720cc43a7f75e7fa2f43306ae4c6c7b50fbd9821982573fce19c", func := "example.com/keyward/keyward/zzlaws_manifest_b1.FnSeekFindsFirstContentLine", spec := "fnSeekFindsFirstContentLine", inPlace := ["internal/bytealg.IndexByte"], make := .lifted ["publicsums"], apart := false }
def FnSeekFindsFirstContentLineSaid : Prop := fnSeekFindsFirstContentLineRow.holds Trym.pinned (OpenSpec.ofChange fnSeekFindsFirstContentLineSpec)

/-- ITS FALSE NEIGHBOUR: 'it returns false'. Refute it at one input. -/
def fnSeekFindsFirstContentLineWrong : ChangeSpec := { name := "fnSeekFindsFirstContentLine", fn := fun _ => fun
  | [d1, d2, d3, d4, d5, d6, d7] => { results := [.lit (.bool false)], args := [d1, d2, d3, d4, d5, d6, d7] }
  | _ => none }
def FnSeekFindsFirstContentLineWrongFalsely : Prop := fnSeekFindsFirstContentLineRow.holds Trym.pinned (OpenSpec.ofChange fnSeekFindsFirstContentLineWrong)

/-- 'zzlaws_manifest_b1.FnSeekIsIdempotent': WHATEVER THE INPUT: true; the input reads as it did. -/
def fnSeekIsIdempotentSpec : ChangeSpec := { name := "fnSeekIsIdempotent", fn := fun _ => fun
  | [d1, d2, d3, d4, d5, d6, d7] => { results := [.lit (.bool true)], args := [d1, d2, d3, d4, d5, d6, d7] }
  | _ => none }
def fnSeekIsIdempotentRow : OpenClaim := { program := "qxb6601160amods", sum := "16c5b4f0880e720cc43a7f75e7fa2f43306ae4c6c7b50fbd9821982573fce19c", func := "example.com/keyward/keyward/zzlaws_manifest_b1.FnSeekIsIdempotent", spec := "fnSeekIsIdempotent", inPlace := ["internal/bytealg.IndexByte"], make := .lifted ["publicsums"], apart := false }
def FnSeekIsIdempotentSaid : Prop := fnSeekIsIdempotentRow.holds Trym.pinned (OpenSpec.ofChange fnSeekIsIdempotentSpec)

/-- ITS FALSE NEIGHBOUR: 'it returns false'. Refute it at one input. -/
def fnSeekIsIdempotentWrong : ChangeSpec := { name := "fnSeekIsIdempotent", fn := fun _ => fun
  | [d1, d2, d3, d4, d5, d6, d7] => { results := [.lit (.bool false)], args := [d1, d2, d3, d4, d5, d6, d7] }
  | _ => none }
def FnSeekIsIdempotentWrongFalsely : Prop := fnSeekIsIdempotentRow.holds Trym.pinned (OpenSpec.ofChange fnSeekIsIdempotentWrong)

/-- 'zzlaws_manifest_b1.FnNestedInJoinRoundTrip': WHATEVER THE INPUT: true; the input reads as it did. -/
def fnNestedInJoinRoundTripSpec : ChangeSpec := { name := "fnNestedInJoinRoundTrip", fn := fun _ => fun
  | [d1, d2, d3, d4] => { results := [.lit (.bool true)], args := [d1, d2, d3, d4] }
  | _ => none }
def fnNestedInJoinRoundTripRow : OpenClaim := { program := "qxb6601160amods", sum := "16c5b4f0880e720cc43a7f75e7fa2f43306ae4c6c7b50fbd9821982573fce19c", func := "example.com/keyward/keyward/zzlaws_manifest_b1.FnNestedInJoinRoundTrip", spec := "fnNestedInJoinRoundTrip", make := .lifted ["publicsums"], apart := false }
def FnNestedInJoinRoundTripSaid : Prop := fnNestedInJoinRoundTripRow.holds Trym.pinned (OpenSpec.ofChange fnNestedInJoinRoundTripSpec)

/-- ITS FALSE NEIGHBOUR: 'it returns false'. Refute it at one input. -/
def fnNestedInJoinRoundTripWrong : ChangeSpec := { name := "fnNestedInJoinRoundTrip", fn := fun _ => fun
  | [d1, d2, d3, d4] => { results := [.lit (.bool false)], args := [d1, d2, d3, d4] }
  | _ => none }
def FnNestedInJoinRoundTripWrongFalsely : Prop := fnNestedInJoinRoundTripRow.holds Trym.pinned (OpenSpec.ofChange fnNestedInJoinRoundTripWrong)

/-- 'zzlaws_manifest_b1.FnNestedInTopLevelKeyInNothing': WHATEVER THE INPUT: true; the input reads as it did. -/
def fnNestedInTopLevelKeyInNothingSpec : ChangeSpec := { name := "fnNestedInTopLevelKeyInNothing", fn := fun _ => fun
  | [d1, d2] => { results := [.lit (.bool true)], args := [d1, d2] }
  | _ => none }
def fnNestedInTopLevelKeyInNothingRow : OpenClaim := { program := "qxb6601160amods", sum := "16c5b4f0880e720cc43a7f75e7fa2f43306ae4c6c7b50fbd9821982573fce19c", func := "example.com/keyward/keyward/zzlaws_manifest_b1.FnNestedInTopLevelKeyInNothing", spec := "fnNestedInTopLevelKeyInNothing", make := .lifted ["publicsums"], apart := false }
def FnNestedInTopLevelKeyInNothingSaid : Prop := fnNestedInTopLevelKeyInNothingRow.holds Trym.pinned (OpenSpec.ofChange fnNestedInTopLevelKeyInNothingSpec)

/-- ITS FALSE NEIGHBOUR: 'it returns false'. Refute it at one input. -/
def fnNestedInTopLevelKeyInNothingWrong : ChangeSpec := { name := "fnNestedInTopLevelKeyInNothing", fn := fun _ => fun
  | [d1, d2] => { results := [.lit (.bool false)], args := [d1, d2] }
  | _ => none }
def FnNestedInTopLevelKeyInNothingWrongFalsely : Prop := fnNestedInTopLevelKeyInNothingRow.holds Trym.pinned (OpenSpec.ofChange fnNestedInTopLevelKeyInNothingWrong)

end Rows
end Go.Proofs.Qxb6601160aMods
