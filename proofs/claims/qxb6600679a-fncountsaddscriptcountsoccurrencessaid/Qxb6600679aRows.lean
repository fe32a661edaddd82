/-
  No cell of these rows narrows 'for every input' (looked for: loops, veiled, ifaces, maps, wideKeys, modest, calm, conditions, laid).
  DERIVED. THE GIVEN ROWS OF THIS SEAT. 2 by the template 'for every input the law returns true; each argument reads behind the call as it read before'; 0 by the template 'total and deterministic' (their statements: Qxb6600679aTotals.lean).
  GIVEN WITH THE SEED: the statements are not yours to turn. If you find one false, say at which input.
  Laid BY PROGRAM, IN A SANDBOX (cutbox-rows.mjs): the forced cells as the released guide's own fill.sh prints them over the translation ac74fbf7d6481ec1… (all of the seat's roots in one cut). By AI agents, Wed Nov 11 2026. No macro, syntax, notation, axiom, sorry.
-/
import Derived.Test.Qxb6600679aChecked
import GoSem.Claim
import GoSem.ClaimJoined
import GoSem.ClaimMapViews
import Derived.JoinedTies
import Derived.KernelRfl
namespace Go.Proofs.Qxb6600679a
/- THE CELL 'sum', in the pinned program and in every row, IS THE sha256 OF THE DUMP (.gsa) THAT Qxb6600679aProg.lean LOADS. Nothing in Lean hashes anything: it is a label: what it is worth is what the hold of that sum in a sandbox is worth. -/
noncomputable def Try.pinned : Pinned := { name := "qxb6600679a", sum := "ac74fbf7d6481ec1d8191701c8cbb1e52b0ff6a227e1b587ee91aaaea0233210", checked := Try.checked }
namespace Rows
def none {H : Type} : Left H := { results := [], args := [] }

/-- 'zzlaws_root_b1.FnCountsAddScriptCountsOccurrences': WHATEVER THE INPUT: true; the input reads as it did. -/
def fnCountsAddScriptCountsOccurrencesSpec : ChangeSpec := { name := "fnCountsAddScriptCountsOccurrences", fn := fun _ => fun
  | [d] => { results := [.lit (.bool true)], args := [d] }
  | _ => none }
def fnCountsAddScriptCountsOccurrencesRow : OpenClaim := { program := "qxb6600679a", sum := "ac74fbf7d6481ec1d8191701c8cbb1e52b0ff6a227e1b587ee91aaaea0233210", func := "example.com/runqueue/runqueue/zzlaws_root_b1.FnCountsAddScriptCountsOccurrences", spec := "fnCountsAddScriptCountsOccurrences", apart := false }
def FnCountsAddScriptCountsOccurrencesSaid : Prop := fnCountsAddScriptCountsOccurrencesRow.holds Try.pinned (OpenSpec.ofChange fnCountsAddScriptCountsOccurrencesSpec)

/-- ITS FALSE NEIGHBOUR: 'it returns false'. Refute it at one input. -/
def fnCountsAddScriptCountsOccurrencesWrong : ChangeSpec := { name := "fnCountsAddScriptCountsOccurrences", fn := fun _ => fun
  | [d] => { results := [.lit (.bool false)], args := [d] }
  | _ => none }
def FnCountsAddScriptCountsOccurrencesWrongFalsely : Prop := fnCountsAddScriptCountsOccurrencesRow.holds Try.pinned (OpenSpec.ofChange fnCountsAddScriptCountsOccurrencesWrong)

/-- 'zzlaws_root_b1.FnCountsAddCommutes': WHATEVER THE INPUT: true; the input reads as it did. -/
def fnCountsAddCommutesSpec : ChangeSpec := { name := "fnCountsAddCommutes", fn := fun _ => fun
  | [d1, d2, d3, d4, d5, d6, d7, d8, d9] => { results := [.lit (.bool true)], args := [d1, d2, d3, d4, d5, d6, d7, d8, d9] }
  | _ => none }
def fnCountsAddCommutesRow : OpenClaim := { program := "qxb6600679a", sum := "ac74fbf7d6481ec1d8191701c8cbb1e52b0ff6a227e1b587ee91aaaea0233210", func := "example.com/runqueue/runqueue/zzlaws_root_b1.FnCountsAddCommutes", spec := "fnCountsAddCommutes", apart := false }
def FnCountsAddCommutesSaid : Prop := fnCountsAddCommutesRow.holds Try.pinned (OpenSpec.ofChange fnCountsAddCommutesSpec)

/-- ITS FALSE NEIGHBOUR: 'it returns false'. Refute it at one input. -/
def fnCountsAddCommutesWrong : ChangeSpec := { name := "fnCountsAddCommutes", fn := fun _ => fun
  | [d1, d2, d3, d4, d5, d6, d7, d8, d9] => { results := [.lit (.bool false)], args := [d1, d2, d3, d4, d5, d6, d7, d8, d9] }
  | _ => none }
def FnCountsAddCommutesWrongFalsely : Prop := fnCountsAddCommutesRow.holds Try.pinned (OpenSpec.ofChange fnCountsAddCommutesWrong)

end Rows
end Go.Proofs.Qxb6600679a
