/-
  No cell of these rows narrows 'for every input' (looked for: loops, veiled, ifaces, maps, wideKeys, modest, calm, conditions, laid).
  DERIVED. THE GIVEN ROWS OF THIS SEAT. 1 by the template 'for every input the law returns true; each argument reads behind the call as it read before'; 0 by the template 'total and deterministic' (their statements: Qxb6603689aTotals.lean).
  GIVEN WITH THE SEED: the statements are not yours to turn. If you find one false, say at which input.
  Laid BY PROGRAM, IN A SANDBOX (cutbox-rows.mjs): the forced cells as the released guide's own fill.sh prints them over the translation ee79859e1c76f9ef… (all of the seat's roots in one cut). By AI agents, Wed Nov 11 2026. No macro, syntax, notation, axiom, sorry.
-/
import Derived.Test.Qxb6603689aChecked
import GoSem.Claim
import GoSem.ClaimJoined
import GoSem.ClaimMapViews
import Derived.JoinedTies
import Derived.KernelRfl
namespace Go.Proofs.Qxb6603689a
/- THE CELL 'sum', in the pinned program and in every row, IS THE sha256 OF THE DUMP (.gsa) THAT Qxb6603689aProg.lean LOADS. Nothing in Lean hashes anything: it is a label: what it is worth is what the hold of that sum in a sandbox is worth. -/
noncomputable def Try.pinned : Pinned := { name := "qxb6603689a", sum := "ee79859e1c76f9ef9c0af289143d045136c5a59fe353c2175496bf51769ca12a", checked := Try.checked }
namespace Rows
def none {H : Type} : Left H := { results := [], args := [] }

/-- 'zzlaws_internal_timing_b1.FnFloorMatchesCountedRecurrenceModel': WHATEVER THE INPUT: true; the input reads as it did. -/
def fnFloorMatchesCountedRecurrenceModelSpec : ChangeSpec := { name := "fnFloorMatchesCountedRecurrenceModel", fn := fun _ => fun
  | [d] => { results := [.lit (.bool true)], args := [d] }
  | _ => none }
def fnFloorMatchesCountedRecurrenceModelRow : OpenClaim := { program := "qxb6603689a", sum := "ee79859e1c76f9ef9c0af289143d045136c5a59fe353c2175496bf51769ca12a", func := "example.com/humpback/humpback/zzlaws_internal_timing_b1.FnFloorMatchesCountedRecurrenceModel", spec := "fnFloorMatchesCountedRecurrenceModel", apart := false }
def FnFloorMatchesCountedRecurrenceModelSaid : Prop := fnFloorMatchesCountedRecurrenceModelRow.holds Try.pinned (OpenSpec.ofChange fnFloorMatchesCountedRecurrenceModelSpec)

/-- ITS FALSE NEIGHBOUR: 'it returns false'. Refute it at one input. -/
def fnFloorMatchesCountedRecurrenceModelWrong : ChangeSpec := { name := "fnFloorMatchesCountedRecurrenceModel", fn := fun _ => fun
  | [d] => { results := [.lit (.bool false)], args := [d] }
  | _ => none }
def FnFloorMatchesCountedRecurrenceModelWrongFalsely : Prop := fnFloorMatchesCountedRecurrenceModelRow.holds Try.pinned (OpenSpec.ofChange fnFloorMatchesCountedRecurrenceModelWrong)

end Rows
end Go.Proofs.Qxb6603689a
