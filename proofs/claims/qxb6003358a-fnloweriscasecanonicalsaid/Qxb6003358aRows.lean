/-
  No cell of these rows narrows 'for every input' (looked for: loops, veiled, ifaces, maps, wideKeys, modest, calm, conditions, laid).
  DERIVED. THE GIVEN ROWS OF THIS SEAT. 3 by the template 'for every input the law returns true; each argument reads behind the call as it read before'; 0 by the template 'total and deterministic' (their statements: Qxb6003358aTotals.lean).
  GIVEN WITH THE SEED: the statements are not yours to turn. If you find one false, say at which input.
  Laid BY PROGRAM, IN A SANDBOX (cutbox-rows.mjs): the forced cells as the released guide's own fill.sh prints them over the translation a49c52cbe2a12bdc… (all of the seat's roots in one cut). By AI agents, Wed Nov 11 2026. No macro, syntax, notation, axiom, sorry.
-/
import Derived.Test.Qxb6003358aChecked
import GoSem.Claim
import GoSem.ClaimJoined
import GoSem.ClaimMapViews
import Derived.JoinedTies
import Derived.KernelRfl
namespace Go.Proofs.Qxb6003358a
/- THE CELL 'sum', in the pinned program and in every row, IS THE sha256 OF THE DUMP (.gsa) THAT Qxb6003358aProg.lean LOADS. Nothing in Lean hashes anything: it is a label: what it is worth is what the hold of that sum in a sandbox is worth. -/
noncomputable def Try.pinned : Pinned := { name := "qxb6003358a", sum := "a49c52cbe2a12bdcf6e425fbf4086088d74b6b5490c6e6236529f5b1eb216860", checked := Try.checked }
namespace Rows
def none {H : Type} : Left H := { results := [], args := [] }

/-- 'zzlaws_wire_g2.FnLabelsInvertsWireBuild': WHATEVER THE INPUT: true; the input reads as it did. -/
def fnLabelsInvertsWireBuildSpec : ChangeSpec := { name := "fnLabelsInvertsWireBuild", fn := fun _ => fun
  | [d] => { results := [.lit (.bool true)], args := [d] }
  | _ => none }
def fnLabelsInvertsWireBuildRow : OpenClaim := { program := "qxb6003358a", sum := "a49c52cbe2a12bdcf6e425fbf4086088d74b6b5490c6e6236529f5b1eb216860", func := "example.com/zoneglass/zoneglass/zzlaws_wire_g2.FnLabelsInvertsWireBuild", spec := "fnLabelsInvertsWireBuild", apart := false }
def FnLabelsInvertsWireBuildSaid : Prop := fnLabelsInvertsWireBuildRow.holds Try.pinned (OpenSpec.ofChange fnLabelsInvertsWireBuildSpec)

/-- ITS FALSE NEIGHBOUR: 'it returns false'. Refute it at one input. -/
def fnLabelsInvertsWireBuildWrong : ChangeSpec := { name := "fnLabelsInvertsWireBuild", fn := fun _ => fun
  | [d] => { results := [.lit (.bool false)], args := [d] }
  | _ => none }
def FnLabelsInvertsWireBuildWrongFalsely : Prop := fnLabelsInvertsWireBuildRow.holds Try.pinned (OpenSpec.ofChange fnLabelsInvertsWireBuildWrong)

/-- 'zzlaws_wire_g2.FnParentDropsFirstLabel': WHATEVER THE INPUT: true; the input reads as it did. -/
def fnParentDropsFirstLabelSpec : ChangeSpec := { name := "fnParentDropsFirstLabel", fn := fun _ => fun
  | [d] => { results := [.lit (.bool true)], args := [d] }
  | _ => none }
def fnParentDropsFirstLabelRow : OpenClaim := { program := "qxb6003358a", sum := "a49c52cbe2a12bdcf6e425fbf4086088d74b6b5490c6e6236529f5b1eb216860", func := "example.com/zoneglass/zoneglass/zzlaws_wire_g2.FnParentDropsFirstLabel", spec := "fnParentDropsFirstLabel", apart := false }
def FnParentDropsFirstLabelSaid : Prop := fnParentDropsFirstLabelRow.holds Try.pinned (OpenSpec.ofChange fnParentDropsFirstLabelSpec)

/-- ITS FALSE NEIGHBOUR: 'it returns false'. Refute it at one input. -/
def fnParentDropsFirstLabelWrong : ChangeSpec := { name := "fnParentDropsFirstLabel", fn := fun _ => fun
  | [d] => { results := [.lit (.bool false)], args := [d] }
  | _ => none }
def FnParentDropsFirstLabelWrongFalsely : Prop := fnParentDropsFirstLabelRow.holds Try.pinned (OpenSpec.ofChange fnParentDropsFirstLabelWrong)

/-- 'zzlaws_wire_g2.FnLowerIsCaseCanonical': WHATEVER THE INPUT: true; the input reads as it did. -/
def fnLowerIsCaseCanonicalSpec : ChangeSpec := { name := "fnLowerIsCaseCanonical", fn := fun _ => fun
  | [d1, d2] => { results := [.lit (.bool true)], args := [d1, d2] }
  | _ => none }
def fnLowerIsCaseCanonicalRow : OpenClaim := { program := "qxb6003358a", sum := "a49c52cbe2a12bdcf6e425fbf4086088d74b6b5490c6e6236529f5b1eb216860", func := "example.com/zoneglass/zoneglass/zzlaws_wire_g2.FnLowerIsCaseCanonical", spec := "fnLowerIsCaseCanonical", apart := false }
def FnLowerIsCaseCanonicalSaid : Prop := fnLowerIsCaseCanonicalRow.holds Try.pinned (OpenSpec.ofChange fnLowerIsCaseCanonicalSpec)

/-- ITS FALSE NEIGHBOUR: 'it returns false'. Refute it at one input. -/
def fnLowerIsCaseCanonicalWrong : ChangeSpec := { name := "fnLowerIsCaseCanonical", fn := fun _ => fun
  | [d1, d2] => { results := [.lit (.bool false)], args := [d1, d2] }
  | _ => none }
def FnLowerIsCaseCanonicalWrongFalsely : Prop := fnLowerIsCaseCanonicalRow.holds Try.pinned (OpenSpec.ofChange fnLowerIsCaseCanonicalWrong)

end Rows
end Go.Proofs.Qxb6003358a
