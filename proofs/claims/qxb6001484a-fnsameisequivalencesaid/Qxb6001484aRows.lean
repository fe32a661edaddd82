/-
  No cell of these rows narrows 'for every input' (looked for: loops, veiled, ifaces, maps, wideKeys, modest, calm, conditions, laid).
  DERIVED. THE GIVEN ROWS OF THIS SEAT. 5 by the template 'for every input the law returns true; each argument reads behind the call as it read before'; 0 by the template 'total and deterministic' (their statements: Qxb6001484aTotals.lean).
  GIVEN WITH THE SEED: the statements are not yours to turn. If you find one false, say at which input.
  Laid BY PROGRAM, IN A SANDBOX (cutbox-rows.mjs): the forced cells as the released guide's own fill.sh prints them over the translation e5c32e6e978ef372… (all of the seat's roots in one cut). By AI agents, Wed Nov 11 2026. No macro, syntax, notation, axiom, sorry.
-/
import Derived.Test.Qxb6001484aChecked
import GoSem.Claim
import GoSem.ClaimJoined
import GoSem.ClaimMapViews
import Derived.JoinedTies
import Derived.KernelRfl
namespace Go.Proofs.Qxb6001484a
/- THE CELL 'sum', in the pinned program and in every row, IS THE sha256 OF THE DUMP (.gsa) THAT Qxb6001484aProg.lean LOADS. Nothing in Lean hashes anything: it is a label: what it is worth is what the hold of that sum in a sandbox is worth. -/
noncomputable def Try.pinned : Pinned := { name := "qxb6001484a", sum := "e5c32e6e978ef372363e00eeb8850e42479d44205f81a84cf780cff36d234c77", checked := Try.checked }
namespace Rows
def none {H : Type} : Left H := { results := [], args := [] }

/-- 'zzlaws_internal_sheet_b1.FnCodeLengthSegmentsGB18030Stream': WHATEVER THE INPUT: true; the input reads as it did. -/
def fnCodeLengthSegmentsGB18030StreamSpec : ChangeSpec := { name := "fnCodeLengthSegmentsGB18030Stream", fn := fun _ => fun
  | [d] => { results := [.lit (.bool true)], args := [d] }
  | _ => none }
def fnCodeLengthSegmentsGB18030StreamRow : OpenClaim := { program := "qxb6001484a", sum := "e5c32e6e978ef372363e00eeb8850e42479d44205f81a84cf780cff36d234c77", func := "example.com/vestledger/vestledger/zzlaws_internal_sheet_b1.FnCodeLengthSegmentsGB18030Stream", spec := "fnCodeLengthSegmentsGB18030Stream", apart := false }
def FnCodeLengthSegmentsGB18030StreamSaid : Prop := fnCodeLengthSegmentsGB18030StreamRow.holds Try.pinned (OpenSpec.ofChange fnCodeLengthSegmentsGB18030StreamSpec)

/-- ITS FALSE NEIGHBOUR: 'it returns false'. Refute it at one input. -/
def fnCodeLengthSegmentsGB18030StreamWrong : ChangeSpec := { name := "fnCodeLengthSegmentsGB18030Stream", fn := fun _ => fun
  | [d] => { results := [.lit (.bool false)], args := [d] }
  | _ => none }
def FnCodeLengthSegmentsGB18030StreamWrongFalsely : Prop := fnCodeLengthSegmentsGB18030StreamRow.holds Try.pinned (OpenSpec.ofChange fnCodeLengthSegmentsGB18030StreamWrong)

/-- 'zzlaws_internal_sheet_b1.FnCodeLengthBoundedAndSelfContained': WHATEVER THE INPUT: true; the input reads as it did. -/
def fnCodeLengthBoundedAndSelfContainedSpec : ChangeSpec := { name := "fnCodeLengthBoundedAndSelfContained", fn := fun _ => fun
  | [d] => { results := [.lit (.bool true)], args := [d] }
  | _ => none }
def fnCodeLengthBoundedAndSelfContainedRow : OpenClaim := { program := "qxb6001484a", sum := "e5c32e6e978ef372363e00eeb8850e42479d44205f81a84cf780cff36d234c77", func := "example.com/vestledger/vestledger/zzlaws_internal_sheet_b1.FnCodeLengthBoundedAndSelfContained", spec := "fnCodeLengthBoundedAndSelfContained", apart := false }
def FnCodeLengthBoundedAndSelfContainedSaid : Prop := fnCodeLengthBoundedAndSelfContainedRow.holds Try.pinned (OpenSpec.ofChange fnCodeLengthBoundedAndSelfContainedSpec)

/-- ITS FALSE NEIGHBOUR: 'it returns false'. Refute it at one input. -/
def fnCodeLengthBoundedAndSelfContainedWrong : ChangeSpec := { name := "fnCodeLengthBoundedAndSelfContained", fn := fun _ => fun
  | [d] => { results := [.lit (.bool false)], args := [d] }
  | _ => none }
def FnCodeLengthBoundedAndSelfContainedWrongFalsely : Prop := fnCodeLengthBoundedAndSelfContainedRow.holds Try.pinned (OpenSpec.ofChange fnCodeLengthBoundedAndSelfContainedWrong)

/-- 'zzlaws_internal_sheet_b1.FnCodeLengthStableUnderExtension': WHATEVER THE INPUT: true; the input reads as it did. -/
def fnCodeLengthStableUnderExtensionSpec : ChangeSpec := { name := "fnCodeLengthStableUnderExtension", fn := fun _ => fun
  | [d1, d2] => { results := [.lit (.bool true)], args := [d1, d2] }
  | _ => none }
def fnCodeLengthStableUnderExtensionRow : OpenClaim := { program := "qxb6001484a", sum := "e5c32e6e978ef372363e00eeb8850e42479d44205f81a84cf780cff36d234c77", func := "example.com/vestledger/vestledger/zzlaws_internal_sheet_b1.FnCodeLengthStableUnderExtension", spec := "fnCodeLengthStableUnderExtension", apart := false }
def FnCodeLengthStableUnderExtensionSaid : Prop := fnCodeLengthStableUnderExtensionRow.holds Try.pinned (OpenSpec.ofChange fnCodeLengthStableUnderExtensionSpec)

/-- ITS FALSE NEIGHBOUR: 'it returns false'. Refute it at one input. -/
def fnCodeLengthStableUnderExtensionWrong : ChangeSpec := { name := "fnCodeLengthStableUnderExtension", fn := fun _ => fun
  | [d1, d2] => { results := [.lit (.bool false)], args := [d1, d2] }
  | _ => none }
def FnCodeLengthStableUnderExtensionWrongFalsely : Prop := fnCodeLengthStableUnderExtensionRow.holds Try.pinned (OpenSpec.ofChange fnCodeLengthStableUnderExtensionWrong)

/-- 'zzlaws_internal_sheet_b1.FnSameIsEquivalence': WHATEVER THE INPUT: true; the input reads as it did. -/
def fnSameIsEquivalenceSpec : ChangeSpec := { name := "fnSameIsEquivalence", fn := fun _ => fun
  | [d1, d2, d3] => { results := [.lit (.bool true)], args := [d1, d2, d3] }
  | _ => none }
def fnSameIsEquivalenceRow : OpenClaim := { program := "qxb6001484a", sum := "e5c32e6e978ef372363e00eeb8850e42479d44205f81a84cf780cff36d234c77", func := "example.com/vestledger/vestledger/zzlaws_internal_sheet_b1.FnSameIsEquivalence", spec := "fnSameIsEquivalence", apart := false }
def FnSameIsEquivalenceSaid : Prop := fnSameIsEquivalenceRow.holds Try.pinned (OpenSpec.ofChange fnSameIsEquivalenceSpec)

/-- ITS FALSE NEIGHBOUR: 'it returns false'. Refute it at one input. -/
def fnSameIsEquivalenceWrong : ChangeSpec := { name := "fnSameIsEquivalence", fn := fun _ => fun
  | [d1, d2, d3] => { results := [.lit (.bool false)], args := [d1, d2, d3] }
  | _ => none }
def FnSameIsEquivalenceWrongFalsely : Prop := fnSameIsEquivalenceRow.holds Try.pinned (OpenSpec.ofChange fnSameIsEquivalenceWrong)

/-- 'zzlaws_internal_sheet_b1.FnSameDetectsEveryChange': WHATEVER THE INPUT: true; the input reads as it did. -/
def fnSameDetectsEveryChangeSpec : ChangeSpec := { name := "fnSameDetectsEveryChange", fn := fun _ => fun
  | [d1, d2, d3] => { results := [.lit (.bool true)], args := [d1, d2, d3] }
  | _ => none }
def fnSameDetectsEveryChangeRow : OpenClaim := { program := "qxb6001484a", sum := "e5c32e6e978ef372363e00eeb8850e42479d44205f81a84cf780cff36d234c77", func := "example.com/vestledger/vestledger/zzlaws_internal_sheet_b1.FnSameDetectsEveryChange", spec := "fnSameDetectsEveryChange", apart := false }
def FnSameDetectsEveryChangeSaid : Prop := fnSameDetectsEveryChangeRow.holds Try.pinned (OpenSpec.ofChange fnSameDetectsEveryChangeSpec)

/-- ITS FALSE NEIGHBOUR: 'it returns false'. Refute it at one input. -/
def fnSameDetectsEveryChangeWrong : ChangeSpec := { name := "fnSameDetectsEveryChange", fn := fun _ => fun
  | [d1, d2, d3] => { results := [.lit (.bool false)], args := [d1, d2, d3] }
  | _ => none }
def FnSameDetectsEveryChangeWrongFalsely : Prop := fnSameDetectsEveryChangeRow.holds Try.pinned (OpenSpec.ofChange fnSameDetectsEveryChangeWrong)

end Rows
end Go.Proofs.Qxb6001484a
