/-
  No cell of these rows narrows 'for every input' (looked for: loops, veiled, ifaces, maps, wideKeys, modest, calm, conditions, laid).
  DERIVED. THE GIVEN ROWS OF THIS SEAT. 7 by the template 'for every input the law returns true; each argument reads behind the call as it read before'; 0 by the template 'total and deterministic' (their statements: Qxb6613590aTotals.lean).
  GIVEN WITH THE SEED: the statements are not yours to turn. If you find one false, say at which input.
  Laid BY PROGRAM, IN A SANDBOX (cutbox-rows.mjs): the forced cells as the released guide's own fill.sh prints them over the translation fed4b1dbba493cff… (all of the seat's roots in one cut). By AI agents, Wed Nov 11 2026. No macro, syntax, notation, axiom, sorry.
-/
import Derived.Test.Qxb6613590aChecked
import GoSem.Claim
import GoSem.ClaimJoined
import GoSem.ClaimMapViews
import Derived.JoinedTies
import Derived.KernelRfl
namespace Go.Proofs.Qxb6613590a
/- THE CELL 'sum', in the pinned program and in every row, IS THE sha256 OF THE DUMP (.gsa) THAT Qxb6613590aProg.lean LOADS. Nothing in Lean hashes anything: it is a label: what it is worth is what the hold of that sum in a sandbox is worth. -/
noncomputable def Try.pinned : Pinned := { name := "qxb6613590a", sum := "fed4b1dbba493cff5e45e5bd067ee011829ee6cc2488708607c60936dac0c15b", checked := Try.checked }
namespace Rows
def none {H : Type} : Left H := { results := [], args := [] }

/-- 'zzlaws_internal_checker_b1.FnPlaceOfFindsEachWritersOwnPlace': WHATEVER THE INPUT: true; the input reads as it did. -/
def fnPlaceOfFindsEachWritersOwnPlaceSpec : ChangeSpec := { name := "fnPlaceOfFindsEachWritersOwnPlace", fn := fun _ => fun
  | [d] => { results := [.lit (.bool true)], args := [d] }
  | _ => none }
def fnPlaceOfFindsEachWritersOwnPlaceRow : OpenClaim := { program := "qxb6613590a", sum := "fed4b1dbba493cff5e45e5bd067ee011829ee6cc2488708607c60936dac0c15b", func := "example.com/palimpsest/palimpsest/zzlaws_internal_checker_b1.FnPlaceOfFindsEachWritersOwnPlace", spec := "fnPlaceOfFindsEachWritersOwnPlace", apart := false }
def FnPlaceOfFindsEachWritersOwnPlaceSaid : Prop := fnPlaceOfFindsEachWritersOwnPlaceRow.holds Try.pinned (OpenSpec.ofChange fnPlaceOfFindsEachWritersOwnPlaceSpec)

/-- ITS FALSE NEIGHBOUR: 'it returns false'. Refute it at one input. -/
def fnPlaceOfFindsEachWritersOwnPlaceWrong : ChangeSpec := { name := "fnPlaceOfFindsEachWritersOwnPlace", fn := fun _ => fun
  | [d] => { results := [.lit (.bool false)], args := [d] }
  | _ => none }
def FnPlaceOfFindsEachWritersOwnPlaceWrongFalsely : Prop := fnPlaceOfFindsEachWritersOwnPlaceRow.holds Try.pinned (OpenSpec.ofChange fnPlaceOfFindsEachWritersOwnPlaceWrong)

/-- 'zzlaws_internal_checker_b1.FnPlaceOfAddsUpOverAnyCut': WHATEVER THE INPUT: true; the input reads as it did. -/
def fnPlaceOfAddsUpOverAnyCutSpec : ChangeSpec := { name := "fnPlaceOfAddsUpOverAnyCut", fn := fun _ => fun
  | [d1, d2, d3] => { results := [.lit (.bool true)], args := [d1, d2, d3] }
  | _ => none }
def fnPlaceOfAddsUpOverAnyCutRow : OpenClaim := { program := "qxb6613590a", sum := "fed4b1dbba493cff5e45e5bd067ee011829ee6cc2488708607c60936dac0c15b", func := "example.com/palimpsest/palimpsest/zzlaws_internal_checker_b1.FnPlaceOfAddsUpOverAnyCut", spec := "fnPlaceOfAddsUpOverAnyCut", apart := false }
def FnPlaceOfAddsUpOverAnyCutSaid : Prop := fnPlaceOfAddsUpOverAnyCutRow.holds Try.pinned (OpenSpec.ofChange fnPlaceOfAddsUpOverAnyCutSpec)

/-- ITS FALSE NEIGHBOUR: 'it returns false'. Refute it at one input. -/
def fnPlaceOfAddsUpOverAnyCutWrong : ChangeSpec := { name := "fnPlaceOfAddsUpOverAnyCut", fn := fun _ => fun
  | [d1, d2, d3] => { results := [.lit (.bool false)], args := [d1, d2, d3] }
  | _ => none }
def FnPlaceOfAddsUpOverAnyCutWrongFalsely : Prop := fnPlaceOfAddsUpOverAnyCutRow.holds Try.pinned (OpenSpec.ofChange fnPlaceOfAddsUpOverAnyCutWrong)

/-- 'zzlaws_internal_checker_b1.FnFirstIsTheLeastReadAndThePutBackOne': WHATEVER THE INPUT: true; the input reads as it did. -/
def fnFirstIsTheLeastReadAndThePutBackOneSpec : ChangeSpec := { name := "fnFirstIsTheLeastReadAndThePutBackOne", fn := fun _ => fun
  | [d1, d2, d3] => { results := [.lit (.bool true)], args := [d1, d2, d3] }
  | _ => none }
def fnFirstIsTheLeastReadAndThePutBackOneRow : OpenClaim := { program := "qxb6613590a", sum := "fed4b1dbba493cff5e45e5bd067ee011829ee6cc2488708607c60936dac0c15b", func := "example.com/palimpsest/palimpsest/zzlaws_internal_checker_b1.FnFirstIsTheLeastReadAndThePutBackOne", spec := "fnFirstIsTheLeastReadAndThePutBackOne", apart := false }
def FnFirstIsTheLeastReadAndThePutBackOneSaid : Prop := fnFirstIsTheLeastReadAndThePutBackOneRow.holds Try.pinned (OpenSpec.ofChange fnFirstIsTheLeastReadAndThePutBackOneSpec)

/-- ITS FALSE NEIGHBOUR: 'it returns false'. Refute it at one input. -/
def fnFirstIsTheLeastReadAndThePutBackOneWrong : ChangeSpec := { name := "fnFirstIsTheLeastReadAndThePutBackOne", fn := fun _ => fun
  | [d1, d2, d3] => { results := [.lit (.bool false)], args := [d1, d2, d3] }
  | _ => none }
def FnFirstIsTheLeastReadAndThePutBackOneWrongFalsely : Prop := fnFirstIsTheLeastReadAndThePutBackOneRow.holds Try.pinned (OpenSpec.ofChange fnFirstIsTheLeastReadAndThePutBackOneWrong)

/-- 'zzlaws_internal_checker_b1.FnPrecedesIsTheOrOfTheTwoBitsItAsks': WHATEVER THE INPUT: true; the input reads as it did. -/
def fnPrecedesIsTheOrOfTheTwoBitsItAsksSpec : ChangeSpec := { name := "fnPrecedesIsTheOrOfTheTwoBitsItAsks", fn := fun _ => fun
  | [d1, d2, d3, d4, d5, d6] => { results := [.lit (.bool true)], args := [d1, d2, d3, d4, d5, d6] }
  | _ => none }
def fnPrecedesIsTheOrOfTheTwoBitsItAsksRow : OpenClaim := { program := "qxb6613590a", sum := "fed4b1dbba493cff5e45e5bd067ee011829ee6cc2488708607c60936dac0c15b", func := "example.com/palimpsest/palimpsest/zzlaws_internal_checker_b1.FnPrecedesIsTheOrOfTheTwoBitsItAsks", spec := "fnPrecedesIsTheOrOfTheTwoBitsItAsks", apart := false }
def FnPrecedesIsTheOrOfTheTwoBitsItAsksSaid : Prop := fnPrecedesIsTheOrOfTheTwoBitsItAsksRow.holds Try.pinned (OpenSpec.ofChange fnPrecedesIsTheOrOfTheTwoBitsItAsksSpec)

/-- ITS FALSE NEIGHBOUR: 'it returns false'. Refute it at one input. -/
def fnPrecedesIsTheOrOfTheTwoBitsItAsksWrong : ChangeSpec := { name := "fnPrecedesIsTheOrOfTheTwoBitsItAsks", fn := fun _ => fun
  | [d1, d2, d3, d4, d5, d6] => { results := [.lit (.bool false)], args := [d1, d2, d3, d4, d5, d6] }
  | _ => none }
def FnPrecedesIsTheOrOfTheTwoBitsItAsksWrongFalsely : Prop := fnPrecedesIsTheOrOfTheTwoBitsItAsksRow.holds Try.pinned (OpenSpec.ofChange fnPrecedesIsTheOrOfTheTwoBitsItAsksWrong)

/-- 'zzlaws_internal_checker_b1.FnPrecedesAgreesWithTheMirroredRowsBackward': WHATEVER THE INPUT: true; the input reads as it did. -/
def fnPrecedesAgreesWithTheMirroredRowsBackwardSpec : ChangeSpec := { name := "fnPrecedesAgreesWithTheMirroredRowsBackward", fn := fun _ => fun
  | [d1, d2, d3, d4, d5, d6] => { results := [.lit (.bool true)], args := [d1, d2, d3, d4, d5, d6] }
  | _ => none }
def fnPrecedesAgreesWithTheMirroredRowsBackwardRow : OpenClaim := { program := "qxb6613590a", sum := "fed4b1dbba493cff5e45e5bd067ee011829ee6cc2488708607c60936dac0c15b", func := "example.com/palimpsest/palimpsest/zzlaws_internal_checker_b1.FnPrecedesAgreesWithTheMirroredRowsBackward", spec := "fnPrecedesAgreesWithTheMirroredRowsBackward", apart := false }
def FnPrecedesAgreesWithTheMirroredRowsBackwardSaid : Prop := fnPrecedesAgreesWithTheMirroredRowsBackwardRow.holds Try.pinned (OpenSpec.ofChange fnPrecedesAgreesWithTheMirroredRowsBackwardSpec)

/-- ITS FALSE NEIGHBOUR: 'it returns false'. Refute it at one input. -/
def fnPrecedesAgreesWithTheMirroredRowsBackwardWrong : ChangeSpec := { name := "fnPrecedesAgreesWithTheMirroredRowsBackward", fn := fun _ => fun
  | [d1, d2, d3, d4, d5, d6] => { results := [.lit (.bool false)], args := [d1, d2, d3, d4, d5, d6] }
  | _ => none }
def FnPrecedesAgreesWithTheMirroredRowsBackwardWrongFalsely : Prop := fnPrecedesAgreesWithTheMirroredRowsBackwardRow.holds Try.pinned (OpenSpec.ofChange fnPrecedesAgreesWithTheMirroredRowsBackwardWrong)

/-- 'zzlaws_internal_checker_b1.FnGraphInCommitOrderJoinsExactlyTheSerializationEdges': WHATEVER THE INPUT: true; the input reads as it did. -/
def fnGraphInCommitOrderJoinsExactlyTheSerializationEdgesSpec : ChangeSpec := { name := "fnGraphInCommitOrderJoinsExactlyTheSerializationEdges", fn := fun _ => fun
  | [d1, d2, d3, d4, d5, d6, d7, d8] => { results := [.lit (.bool true)], args := [d1, d2, d3, d4, d5, d6, d7, d8] }
  | _ => none }
def fnGraphInCommitOrderJoinsExactlyTheSerializationEdgesRow : OpenClaim := { program := "qxb6613590a", sum := "fed4b1dbba493cff5e45e5bd067ee011829ee6cc2488708607c60936dac0c15b", func := "example.com/palimpsest/palimpsest/zzlaws_internal_checker_b1.FnGraphInCommitOrderJoinsExactlyTheSerializationEdges", spec := "fnGraphInCommitOrderJoinsExactlyTheSerializationEdges", unfollowed := true, recurses := true, apart := false }
def FnGraphInCommitOrderJoinsExactlyTheSerializationEdgesSaid : Prop := fnGraphInCommitOrderJoinsExactlyTheSerializationEdgesRow.holds Try.pinned (OpenSpec.ofChange fnGraphInCommitOrderJoinsExactlyTheSerializationEdgesSpec)

/-- ITS FALSE NEIGHBOUR: 'it returns false'. Refute it at one input. -/
def fnGraphInCommitOrderJoinsExactlyTheSerializationEdgesWrong : ChangeSpec := { name := "fnGraphInCommitOrderJoinsExactlyTheSerializationEdges", fn := fun _ => fun
  | [d1, d2, d3, d4, d5, d6, d7, d8] => { results := [.lit (.bool false)], args := [d1, d2, d3, d4, d5, d6, d7, d8] }
  | _ => none }
def FnGraphInCommitOrderJoinsExactlyTheSerializationEdgesWrongFalsely : Prop := fnGraphInCommitOrderJoinsExactlyTheSerializationEdgesRow.holds Try.pinned (OpenSpec.ofChange fnGraphInCommitOrderJoinsExactlyTheSerializationEdgesWrong)

/-- 'zzlaws_internal_checker_b1.FnGraphInCommitOrderIgnoresTheOrderOfReads': WHATEVER THE INPUT: true; the input reads as it did. -/
def fnGraphInCommitOrderIgnoresTheOrderOfReadsSpec : ChangeSpec := { name := "fnGraphInCommitOrderIgnoresTheOrderOfReads", fn := fun _ => fun
  | [d1, d2, d3, d4, d5, d6, d7, d8] => { results := [.lit (.bool true)], args := [d1, d2, d3, d4, d5, d6, d7, d8] }
  | _ => none }
def fnGraphInCommitOrderIgnoresTheOrderOfReadsRow : OpenClaim := { program := "qxb6613590a", sum := "fed4b1dbba493cff5e45e5bd067ee011829ee6cc2488708607c60936dac0c15b", func := "example.com/palimpsest/palimpsest/zzlaws_internal_checker_b1.FnGraphInCommitOrderIgnoresTheOrderOfReads", spec := "fnGraphInCommitOrderIgnoresTheOrderOfReads", unfollowed := true, recurses := true, apart := false }
def FnGraphInCommitOrderIgnoresTheOrderOfReadsSaid : Prop := fnGraphInCommitOrderIgnoresTheOrderOfReadsRow.holds Try.pinned (OpenSpec.ofChange fnGraphInCommitOrderIgnoresTheOrderOfReadsSpec)

/-- ITS FALSE NEIGHBOUR: 'it returns false'. Refute it at one input. -/
def fnGraphInCommitOrderIgnoresTheOrderOfReadsWrong : ChangeSpec := { name := "fnGraphInCommitOrderIgnoresTheOrderOfReads", fn := fun _ => fun
  | [d1, d2, d3, d4, d5, d6, d7, d8] => { results := [.lit (.bool false)], args := [d1, d2, d3, d4, d5, d6, d7, d8] }
  | _ => none }
def FnGraphInCommitOrderIgnoresTheOrderOfReadsWrongFalsely : Prop := fnGraphInCommitOrderIgnoresTheOrderOfReadsRow.holds Try.pinned (OpenSpec.ofChange fnGraphInCommitOrderIgnoresTheOrderOfReadsWrong)

end Rows
end Go.Proofs.Qxb6613590a
