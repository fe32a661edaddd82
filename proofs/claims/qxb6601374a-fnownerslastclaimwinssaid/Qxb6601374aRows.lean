/-
  No cell of these rows narrows 'for every input' (looked for: loops, veiled, ifaces, maps, wideKeys, modest, calm, conditions, laid).
  DERIVED. THE GIVEN ROWS OF THIS SEAT. 1 by the template 'for every input the law returns true; each argument reads behind the call as it read before'; 0 by the template 'total and deterministic' (their statements: Qxb6601374aTotals.lean).
  GIVEN WITH THE SEED: the statements are not yours to turn. If you find one false, say at which input.
  Laid BY PROGRAM, IN A SANDBOX (cutbox-rows.mjs): the forced cells as the released guide's own fill.sh prints them over the translation a07716c2071df532… (all of the seat's roots in one cut). By AI agents, Wed Nov 11 2026. No macro, syntax, notation, axiom, sorry.
-/
import Derived.Test.Qxb6601374aChecked
import GoSem.Claim
import GoSem.ClaimJoined
import GoSem.ClaimMapViews
import Derived.JoinedTies
import Derived.KernelRfl
namespace Go.Proofs.Qxb6601374a
/- THE CELL 'sum', in the pinned program and in every row, IS THE sha256 OF THE DUMP (.gsa) THAT Qxb6601374aProg.lean LOADS. Nothing in Lean hashes anything: it is a label: what it is worth is what the hold of that sum in a sandbox is worth. -/
noncomputable def Try.pinned : Pinned := { name := "qxb6601374a", sum := "a07716c2071df5326849ec723afdb8cf3c64ff19521a823ffb653c6264351c8d", checked := Try.checked }
namespace Rows
def none {H : Type} : Left H := { results := [], args := [] }

/-- 'zzlaws_admin_b1.FnOwnersLastClaimWins': WHATEVER THE INPUT: true; the input reads as it did. -/
def fnOwnersLastClaimWinsSpec : ChangeSpec := { name := "fnOwnersLastClaimWins", fn := fun _ => fun
  | [d] => { results := [.lit (.bool true)], args := [d] }
  | _ => none }
def fnOwnersLastClaimWinsRow : OpenClaim := { program := "qxb6601374a", sum := "a07716c2071df5326849ec723afdb8cf3c64ff19521a823ffb653c6264351c8d", func := "example.com/reslot/reslot/zzlaws_admin_b1.FnOwnersLastClaimWins", spec := "fnOwnersLastClaimWins", apart := false }
def FnOwnersLastClaimWinsSaid : Prop := fnOwnersLastClaimWinsRow.holds Try.pinned (OpenSpec.ofChange fnOwnersLastClaimWinsSpec)

/-- ITS FALSE NEIGHBOUR: 'it returns false'. Refute it at one input. -/
def fnOwnersLastClaimWinsWrong : ChangeSpec := { name := "fnOwnersLastClaimWins", fn := fun _ => fun
  | [d] => { results := [.lit (.bool false)], args := [d] }
  | _ => none }
def FnOwnersLastClaimWinsWrongFalsely : Prop := fnOwnersLastClaimWinsRow.holds Try.pinned (OpenSpec.ofChange fnOwnersLastClaimWinsWrong)

end Rows
end Go.Proofs.Qxb6601374a
