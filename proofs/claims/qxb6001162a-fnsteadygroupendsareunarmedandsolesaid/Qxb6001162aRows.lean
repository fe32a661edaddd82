/-
  No cell of these rows narrows 'for every input' (looked for: loops, veiled, ifaces, maps, wideKeys, modest, calm, conditions, laid).
  DERIVED. THE GIVEN ROWS OF THIS SEAT. 8 by the template 'for every input the law returns true; each argument reads behind the call as it read before'; 0 by the template 'total and deterministic' (their statements: Qxb6001162aTotals.lean).
  GIVEN WITH THE SEED: the statements are not yours to turn. If you find one false, say at which input.
  Laid BY PROGRAM, IN A SANDBOX (cutbox-rows.mjs): the forced cells as the released guide's own fill.sh prints them over the translation c26130f381de16a6… (all of the seat's roots in one cut). By AI agents, Wed Nov 11 2026. No macro, syntax, notation, axiom, sorry.
-/
import Derived.Test.Qxb6001162aChecked
import GoSem.Claim
import GoSem.ClaimJoined
import GoSem.ClaimMapViews
import Derived.JoinedTies
import Derived.KernelRfl
namespace Go.Proofs.Qxb6001162a
/- THE CELL 'sum', in the pinned program and in every row, IS THE sha256 OF THE DUMP (.gsa) THAT Qxb6001162aProg.lean LOADS. Nothing in Lean hashes anything: it is a label: what it is worth is what the hold of that sum in a sandbox is worth. -/
noncomputable def Try.pinned : Pinned := { name := "qxb6001162a", sum := "c26130f381de16a63ed3630ec65c5e3db322441ad4641cbb56f5152257a9ffc8", checked := Try.checked }
namespace Rows
def none {H : Type} : Left H := { results := [], args := [] }

/-- 'zzlaws_pkg_nscang_b1.FnGroupEndsVaryKeptByExtension': WHATEVER THE INPUT: true; the input reads as it did. -/
def fnGroupEndsVaryKeptByExtensionSpec : ChangeSpec := { name := "fnGroupEndsVaryKeptByExtension", fn := fun _ => fun
  | [d1, d2, d3] => { results := [.lit (.bool true)], args := [d1, d2, d3] }
  | _ => none }
def fnGroupEndsVaryKeptByExtensionRow : OpenClaim := { program := "qxb6001162a", sum := "c26130f381de16a63ed3630ec65c5e3db322441ad4641cbb56f5152257a9ffc8", func := "example.com/molonglo/molonglo/zzlaws_pkg_nscang_b1.FnGroupEndsVaryKeptByExtension", spec := "fnGroupEndsVaryKeptByExtension", apart := false }
def FnGroupEndsVaryKeptByExtensionSaid : Prop := fnGroupEndsVaryKeptByExtensionRow.holds Try.pinned (OpenSpec.ofChange fnGroupEndsVaryKeptByExtensionSpec)

/-- ITS FALSE NEIGHBOUR: 'it returns false'. Refute it at one input. -/
def fnGroupEndsVaryKeptByExtensionWrong : ChangeSpec := { name := "fnGroupEndsVaryKeptByExtension", fn := fun _ => fun
  | [d1, d2, d3] => { results := [.lit (.bool false)], args := [d1, d2, d3] }
  | _ => none }
def FnGroupEndsVaryKeptByExtensionWrongFalsely : Prop := fnGroupEndsVaryKeptByExtensionRow.holds Try.pinned (OpenSpec.ofChange fnGroupEndsVaryKeptByExtensionWrong)

/-- 'zzlaws_pkg_nscang_b1.FnGroupEndsVaryFreeOfLayout': WHATEVER THE INPUT: true; the input reads as it did. -/
def fnGroupEndsVaryFreeOfLayoutSpec : ChangeSpec := { name := "fnGroupEndsVaryFreeOfLayout", fn := fun _ => fun
  | [d1, d2, d3] => { results := [.lit (.bool true)], args := [d1, d2, d3] }
  | _ => none }
def fnGroupEndsVaryFreeOfLayoutRow : OpenClaim := { program := "qxb6001162a", sum := "c26130f381de16a63ed3630ec65c5e3db322441ad4641cbb56f5152257a9ffc8", func := "example.com/molonglo/molonglo/zzlaws_pkg_nscang_b1.FnGroupEndsVaryFreeOfLayout", spec := "fnGroupEndsVaryFreeOfLayout", apart := false }
def FnGroupEndsVaryFreeOfLayoutSaid : Prop := fnGroupEndsVaryFreeOfLayoutRow.holds Try.pinned (OpenSpec.ofChange fnGroupEndsVaryFreeOfLayoutSpec)

/-- ITS FALSE NEIGHBOUR: 'it returns false'. Refute it at one input. -/
def fnGroupEndsVaryFreeOfLayoutWrong : ChangeSpec := { name := "fnGroupEndsVaryFreeOfLayout", fn := fun _ => fun
  | [d1, d2, d3] => { results := [.lit (.bool false)], args := [d1, d2, d3] }
  | _ => none }
def FnGroupEndsVaryFreeOfLayoutWrongFalsely : Prop := fnGroupEndsVaryFreeOfLayoutRow.holds Try.pinned (OpenSpec.ofChange fnGroupEndsVaryFreeOfLayoutWrong)

/-- 'zzlaws_pkg_nscang_b1.FnFirstStateEndsAreEndSaves': WHATEVER THE INPUT: true; the input reads as it did. -/
def fnFirstStateEndsAreEndSavesSpec : ChangeSpec := { name := "fnFirstStateEndsAreEndSaves", fn := fun _ => fun
  | [d1, d2, d3] => { results := [.lit (.bool true)], args := [d1, d2, d3] }
  | _ => none }
def fnFirstStateEndsAreEndSavesRow : OpenClaim := { program := "qxb6001162a", sum := "c26130f381de16a63ed3630ec65c5e3db322441ad4641cbb56f5152257a9ffc8", func := "example.com/molonglo/molonglo/zzlaws_pkg_nscang_b1.FnFirstStateEndsAreEndSaves", spec := "fnFirstStateEndsAreEndSaves", apart := false }
def FnFirstStateEndsAreEndSavesSaid : Prop := fnFirstStateEndsAreEndSavesRow.holds Try.pinned (OpenSpec.ofChange fnFirstStateEndsAreEndSavesSpec)

/-- ITS FALSE NEIGHBOUR: 'it returns false'. Refute it at one input. -/
def fnFirstStateEndsAreEndSavesWrong : ChangeSpec := { name := "fnFirstStateEndsAreEndSaves", fn := fun _ => fun
  | [d1, d2, d3] => { results := [.lit (.bool false)], args := [d1, d2, d3] }
  | _ => none }
def FnFirstStateEndsAreEndSavesWrongFalsely : Prop := fnFirstStateEndsAreEndSavesRow.holds Try.pinned (OpenSpec.ofChange fnFirstStateEndsAreEndSavesWrong)

/-- 'zzlaws_pkg_nscang_b1.FnFirstStateBeginsComeFromByteSteps': WHATEVER THE INPUT: true; the input reads as it did. -/
def fnFirstStateBeginsComeFromByteStepsSpec : ChangeSpec := { name := "fnFirstStateBeginsComeFromByteSteps", fn := fun _ => fun
  | [d1, d2, d3] => { results := [.lit (.bool true)], args := [d1, d2, d3] }
  | _ => none }
def fnFirstStateBeginsComeFromByteStepsRow : OpenClaim := { program := "qxb6001162a", sum := "c26130f381de16a63ed3630ec65c5e3db322441ad4641cbb56f5152257a9ffc8", func := "example.com/molonglo/molonglo/zzlaws_pkg_nscang_b1.FnFirstStateBeginsComeFromByteSteps", spec := "fnFirstStateBeginsComeFromByteSteps", apart := false }
def FnFirstStateBeginsComeFromByteStepsSaid : Prop := fnFirstStateBeginsComeFromByteStepsRow.holds Try.pinned (OpenSpec.ofChange fnFirstStateBeginsComeFromByteStepsSpec)

/-- ITS FALSE NEIGHBOUR: 'it returns false'. Refute it at one input. -/
def fnFirstStateBeginsComeFromByteStepsWrong : ChangeSpec := { name := "fnFirstStateBeginsComeFromByteSteps", fn := fun _ => fun
  | [d1, d2, d3] => { results := [.lit (.bool false)], args := [d1, d2, d3] }
  | _ => none }
def FnFirstStateBeginsComeFromByteStepsWrongFalsely : Prop := fnFirstStateBeginsComeFromByteStepsRow.holds Try.pinned (OpenSpec.ofChange fnFirstStateBeginsComeFromByteStepsWrong)

/-- 'zzlaws_pkg_nscang_b1.FnSteadyGroupEndsAreUnarmedAndSole': WHATEVER THE INPUT: true; the input reads as it did. -/
def fnSteadyGroupEndsAreUnarmedAndSoleSpec : ChangeSpec := { name := "fnSteadyGroupEndsAreUnarmedAndSole", fn := fun _ => fun
  | [d1, d2, d3] => { results := [.lit (.bool true)], args := [d1, d2, d3] }
  | _ => none }
def fnSteadyGroupEndsAreUnarmedAndSoleRow : OpenClaim := { program := "qxb6001162a", sum := "c26130f381de16a63ed3630ec65c5e3db322441ad4641cbb56f5152257a9ffc8", func := "example.com/molonglo/molonglo/zzlaws_pkg_nscang_b1.FnSteadyGroupEndsAreUnarmedAndSole", spec := "fnSteadyGroupEndsAreUnarmedAndSole", apart := false }
def FnSteadyGroupEndsAreUnarmedAndSoleSaid : Prop := fnSteadyGroupEndsAreUnarmedAndSoleRow.holds Try.pinned (OpenSpec.ofChange fnSteadyGroupEndsAreUnarmedAndSoleSpec)

/-- ITS FALSE NEIGHBOUR: 'it returns false'. Refute it at one input. -/
def fnSteadyGroupEndsAreUnarmedAndSoleWrong : ChangeSpec := { name := "fnSteadyGroupEndsAreUnarmedAndSole", fn := fun _ => fun
  | [d1, d2, d3] => { results := [.lit (.bool false)], args := [d1, d2, d3] }
  | _ => none }
def FnSteadyGroupEndsAreUnarmedAndSoleWrongFalsely : Prop := fnSteadyGroupEndsAreUnarmedAndSoleRow.holds Try.pinned (OpenSpec.ofChange fnSteadyGroupEndsAreUnarmedAndSoleWrong)

/-- 'zzlaws_pkg_nscang_b1.FnReachListsExactlyTheNewlySeen': WHATEVER THE INPUT: true; the input reads as it did. -/
def fnReachListsExactlyTheNewlySeenSpec : ChangeSpec := { name := "fnReachListsExactlyTheNewlySeen", fn := fun _ => fun
  | [d1, d2, d3, d4, d5, d6, d7] => { results := [.lit (.bool true)], args := [d1, d2, d3, d4, d5, d6, d7] }
  | _ => none }
def fnReachListsExactlyTheNewlySeenRow : OpenClaim := { program := "qxb6001162a", sum := "c26130f381de16a63ed3630ec65c5e3db322441ad4641cbb56f5152257a9ffc8", func := "example.com/molonglo/molonglo/zzlaws_pkg_nscang_b1.FnReachListsExactlyTheNewlySeen", spec := "fnReachListsExactlyTheNewlySeen", apart := false }
def FnReachListsExactlyTheNewlySeenSaid : Prop := fnReachListsExactlyTheNewlySeenRow.holds Try.pinned (OpenSpec.ofChange fnReachListsExactlyTheNewlySeenSpec)

/-- ITS FALSE NEIGHBOUR: 'it returns false'. Refute it at one input. -/
def fnReachListsExactlyTheNewlySeenWrong : ChangeSpec := { name := "fnReachListsExactlyTheNewlySeen", fn := fun _ => fun
  | [d1, d2, d3, d4, d5, d6, d7] => { results := [.lit (.bool false)], args := [d1, d2, d3, d4, d5, d6, d7] }
  | _ => none }
def FnReachListsExactlyTheNewlySeenWrongFalsely : Prop := fnReachListsExactlyTheNewlySeenRow.holds Try.pinned (OpenSpec.ofChange fnReachListsExactlyTheNewlySeenWrong)

/-- 'zzlaws_pkg_nscang_b1.FnReachEndedOnlyGrowsAndGrewSaysSo': WHATEVER THE INPUT: true; the input reads as it did. -/
def fnReachEndedOnlyGrowsAndGrewSaysSoSpec : ChangeSpec := { name := "fnReachEndedOnlyGrowsAndGrewSaysSo", fn := fun _ => fun
  | [d1, d2, d3, d4, d5, d6, d7] => { results := [.lit (.bool true)], args := [d1, d2, d3, d4, d5, d6, d7] }
  | _ => none }
def fnReachEndedOnlyGrowsAndGrewSaysSoRow : OpenClaim := { program := "qxb6001162a", sum := "c26130f381de16a63ed3630ec65c5e3db322441ad4641cbb56f5152257a9ffc8", func := "example.com/molonglo/molonglo/zzlaws_pkg_nscang_b1.FnReachEndedOnlyGrowsAndGrewSaysSo", spec := "fnReachEndedOnlyGrowsAndGrewSaysSo", apart := false }
def FnReachEndedOnlyGrowsAndGrewSaysSoSaid : Prop := fnReachEndedOnlyGrowsAndGrewSaysSoRow.holds Try.pinned (OpenSpec.ofChange fnReachEndedOnlyGrowsAndGrewSaysSoSpec)

/-- ITS FALSE NEIGHBOUR: 'it returns false'. Refute it at one input. -/
def fnReachEndedOnlyGrowsAndGrewSaysSoWrong : ChangeSpec := { name := "fnReachEndedOnlyGrowsAndGrewSaysSo", fn := fun _ => fun
  | [d1, d2, d3, d4, d5, d6, d7] => { results := [.lit (.bool false)], args := [d1, d2, d3, d4, d5, d6, d7] }
  | _ => none }
def FnReachEndedOnlyGrowsAndGrewSaysSoWrongFalsely : Prop := fnReachEndedOnlyGrowsAndGrewSaysSoRow.holds Try.pinned (OpenSpec.ofChange fnReachEndedOnlyGrowsAndGrewSaysSoWrong)

/-- 'zzlaws_pkg_nscang_b1.FnReachMorePermissionMoreWays': WHATEVER THE INPUT: true; the input reads as it did. -/
def fnReachMorePermissionMoreWaysSpec : ChangeSpec := { name := "fnReachMorePermissionMoreWays", fn := fun _ => fun
  | [d1, d2, d3, d4, d5, d6] => { results := [.lit (.bool true)], args := [d1, d2, d3, d4, d5, d6] }
  | _ => none }
def fnReachMorePermissionMoreWaysRow : OpenClaim := { program := "qxb6001162a", sum := "c26130f381de16a63ed3630ec65c5e3db322441ad4641cbb56f5152257a9ffc8", func := "example.com/molonglo/molonglo/zzlaws_pkg_nscang_b1.FnReachMorePermissionMoreWays", spec := "fnReachMorePermissionMoreWays", apart := false }
def FnReachMorePermissionMoreWaysSaid : Prop := fnReachMorePermissionMoreWaysRow.holds Try.pinned (OpenSpec.ofChange fnReachMorePermissionMoreWaysSpec)

/-- ITS FALSE NEIGHBOUR: 'it returns false'. Refute it at one input. -/
def fnReachMorePermissionMoreWaysWrong : ChangeSpec := { name := "fnReachMorePermissionMoreWays", fn := fun _ => fun
  | [d1, d2, d3, d4, d5, d6] => { results := [.lit (.bool false)], args := [d1, d2, d3, d4, d5, d6] }
  | _ => none }
def FnReachMorePermissionMoreWaysWrongFalsely : Prop := fnReachMorePermissionMoreWaysRow.holds Try.pinned (OpenSpec.ofChange fnReachMorePermissionMoreWaysWrong)

end Rows
end Go.Proofs.Qxb6001162a
