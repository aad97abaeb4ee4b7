/-
  No cell of these rows narrows 'for every input' (looked for: loops, veiled, ifaces, maps, wideKeys, modest, calm, conditions, laid).
  DERIVED. THE GIVEN ROWS OF THIS SEAT. 5 by the template 'for every input the law returns true; each argument reads behind the call as it read before'; 0 by the template 'total and deterministic' (their statements: Qxb6003369aTotals.lean).
  GIVEN WITH THE SEED: the statements are not yours to turn. If you find one false, say at which input.
  Laid BY PROGRAM, IN A SANDBOX (cutbox-rows.mjs): the forced cells as the released guide's own fill.sh prints them over the translation a03ae023c05db410… (all of the seat's roots in one cut). By AI agents, Wed Nov 11 2026. No macro, syntax, notation, axiom, sorry.
-/
import Derived.Test.Qxb6003369aChecked
import GoSem.Claim
import GoSem.ClaimJoined
import GoSem.ClaimMapViews
import Derived.JoinedTies
import Derived.KernelRfl
namespace Go.Proofs.Qxb6003369a
/- THE CELL 'sum', in the pinned program and in every row, IS THE sha256 OF THE DUMP (.gsa) THAT Qxb6003369aProg.lean LOADS. Nothing in Lean hashes anything: it is a label: what it is worth is what the hold of that sum in a sandbox is worth. -/
noncomputable def Try.pinned : Pinned := { name := "qxb6003369a", sum := "a03ae023c05db41071296255e161c9a47cb5e50acc84e64a2e1648234104e5d8", checked := Try.checked }
namespace Rows
def none {H : Type} : Left H := { results := [], args := [] }

/-- 'zzlaws_root_g2.FnCompareMagnitudeMatchesIntegers': WHATEVER THE INPUT: true; the input reads as it did. -/
def fnCompareMagnitudeMatchesIntegersSpec : ChangeSpec := { name := "fnCompareMagnitudeMatchesIntegers", fn := fun _ => fun
  | [d1, d2, d3, d4, d5, d6] => { results := [.lit (.bool true)], args := [d1, d2, d3, d4, d5, d6] }
  | _ => none }
def fnCompareMagnitudeMatchesIntegersRow : OpenClaim := { program := "qxb6003369a", sum := "a03ae023c05db41071296255e161c9a47cb5e50acc84e64a2e1648234104e5d8", func := "example.com/fieldsieve/fieldsieve/zzlaws_root_g2.FnCompareMagnitudeMatchesIntegers", spec := "fnCompareMagnitudeMatchesIntegers", apart := false }
def FnCompareMagnitudeMatchesIntegersSaid : Prop := fnCompareMagnitudeMatchesIntegersRow.holds Try.pinned (OpenSpec.ofChange fnCompareMagnitudeMatchesIntegersSpec)

/-- ITS FALSE NEIGHBOUR: 'it returns false'. Refute it at one input. -/
def fnCompareMagnitudeMatchesIntegersWrong : ChangeSpec := { name := "fnCompareMagnitudeMatchesIntegers", fn := fun _ => fun
  | [d1, d2, d3, d4, d5, d6] => { results := [.lit (.bool false)], args := [d1, d2, d3, d4, d5, d6] }
  | _ => none }
def FnCompareMagnitudeMatchesIntegersWrongFalsely : Prop := fnCompareMagnitudeMatchesIntegersRow.holds Try.pinned (OpenSpec.ofChange fnCompareMagnitudeMatchesIntegersWrong)

/-- 'zzlaws_root_g2.FnCompareMagnitudeSwapAndResplit': WHATEVER THE INPUT: true; the input reads as it did. -/
def fnCompareMagnitudeSwapAndResplitSpec : ChangeSpec := { name := "fnCompareMagnitudeSwapAndResplit", fn := fun _ => fun
  | [d1, d2, d3, d4, d5, d6, d7, d8] => { results := [.lit (.bool true)], args := [d1, d2, d3, d4, d5, d6, d7, d8] }
  | _ => none }
def fnCompareMagnitudeSwapAndResplitRow : OpenClaim := { program := "qxb6003369a", sum := "a03ae023c05db41071296255e161c9a47cb5e50acc84e64a2e1648234104e5d8", func := "example.com/fieldsieve/fieldsieve/zzlaws_root_g2.FnCompareMagnitudeSwapAndResplit", spec := "fnCompareMagnitudeSwapAndResplit", apart := false }
def FnCompareMagnitudeSwapAndResplitSaid : Prop := fnCompareMagnitudeSwapAndResplitRow.holds Try.pinned (OpenSpec.ofChange fnCompareMagnitudeSwapAndResplitSpec)

/-- ITS FALSE NEIGHBOUR: 'it returns false'. Refute it at one input. -/
def fnCompareMagnitudeSwapAndResplitWrong : ChangeSpec := { name := "fnCompareMagnitudeSwapAndResplit", fn := fun _ => fun
  | [d1, d2, d3, d4, d5, d6, d7, d8] => { results := [.lit (.bool false)], args := [d1, d2, d3, d4, d5, d6, d7, d8] }
  | _ => none }
def FnCompareMagnitudeSwapAndResplitWrongFalsely : Prop := fnCompareMagnitudeSwapAndResplitRow.holds Try.pinned (OpenSpec.ofChange fnCompareMagnitudeSwapAndResplitWrong)

/-- 'zzlaws_root_g2.FnNewKMPBackIsLongestBorder': WHATEVER THE INPUT: true; the input reads as it did. -/
def fnNewKMPBackIsLongestBorderSpec : ChangeSpec := { name := "fnNewKMPBackIsLongestBorder", fn := fun _ => fun
  | [d] => { results := [.lit (.bool true)], args := [d] }
  | _ => none }
def fnNewKMPBackIsLongestBorderRow : OpenClaim := { program := "qxb6003369a", sum := "a03ae023c05db41071296255e161c9a47cb5e50acc84e64a2e1648234104e5d8", func := "example.com/fieldsieve/fieldsieve/zzlaws_root_g2.FnNewKMPBackIsLongestBorder", spec := "fnNewKMPBackIsLongestBorder", apart := false }
def FnNewKMPBackIsLongestBorderSaid : Prop := fnNewKMPBackIsLongestBorderRow.holds Try.pinned (OpenSpec.ofChange fnNewKMPBackIsLongestBorderSpec)

/-- ITS FALSE NEIGHBOUR: 'it returns false'. Refute it at one input. -/
def fnNewKMPBackIsLongestBorderWrong : ChangeSpec := { name := "fnNewKMPBackIsLongestBorder", fn := fun _ => fun
  | [d] => { results := [.lit (.bool false)], args := [d] }
  | _ => none }
def FnNewKMPBackIsLongestBorderWrongFalsely : Prop := fnNewKMPBackIsLongestBorderRow.holds Try.pinned (OpenSpec.ofChange fnNewKMPBackIsLongestBorderWrong)

/-- 'zzlaws_root_g2.FnCutAtRejoins': WHATEVER THE INPUT: true; the input reads as it did. -/
def fnCutAtRejoinsSpec : ChangeSpec := { name := "fnCutAtRejoins", fn := fun _ => fun
  | [d1, d2] => { results := [.lit (.bool true)], args := [d1, d2] }
  | _ => none }
def fnCutAtRejoinsRow : OpenClaim := { program := "qxb6003369a", sum := "a03ae023c05db41071296255e161c9a47cb5e50acc84e64a2e1648234104e5d8", func := "example.com/fieldsieve/fieldsieve/zzlaws_root_g2.FnCutAtRejoins", spec := "fnCutAtRejoins", apart := false }
def FnCutAtRejoinsSaid : Prop := fnCutAtRejoinsRow.holds Try.pinned (OpenSpec.ofChange fnCutAtRejoinsSpec)

/-- ITS FALSE NEIGHBOUR: 'it returns false'. Refute it at one input. -/
def fnCutAtRejoinsWrong : ChangeSpec := { name := "fnCutAtRejoins", fn := fun _ => fun
  | [d1, d2] => { results := [.lit (.bool false)], args := [d1, d2] }
  | _ => none }
def FnCutAtRejoinsWrongFalsely : Prop := fnCutAtRejoinsRow.holds Try.pinned (OpenSpec.ofChange fnCutAtRejoinsWrong)

/-- 'zzlaws_root_g2.FnCompareFoldedIsOrderOfLoweredWord': WHATEVER THE INPUT: true; the input reads as it did. -/
def fnCompareFoldedIsOrderOfLoweredWordSpec : ChangeSpec := { name := "fnCompareFoldedIsOrderOfLoweredWord", fn := fun _ => fun
  | [d1, d2, d3] => { results := [.lit (.bool true)], args := [d1, d2, d3] }
  | _ => none }
def fnCompareFoldedIsOrderOfLoweredWordRow : OpenClaim := { program := "qxb6003369a", sum := "a03ae023c05db41071296255e161c9a47cb5e50acc84e64a2e1648234104e5d8", func := "example.com/fieldsieve/fieldsieve/zzlaws_root_g2.FnCompareFoldedIsOrderOfLoweredWord", spec := "fnCompareFoldedIsOrderOfLoweredWord", apart := false }
def FnCompareFoldedIsOrderOfLoweredWordSaid : Prop := fnCompareFoldedIsOrderOfLoweredWordRow.holds Try.pinned (OpenSpec.ofChange fnCompareFoldedIsOrderOfLoweredWordSpec)

/-- ITS FALSE NEIGHBOUR: 'it returns false'. Refute it at one input. -/
def fnCompareFoldedIsOrderOfLoweredWordWrong : ChangeSpec := { name := "fnCompareFoldedIsOrderOfLoweredWord", fn := fun _ => fun
  | [d1, d2, d3] => { results := [.lit (.bool false)], args := [d1, d2, d3] }
  | _ => none }
def FnCompareFoldedIsOrderOfLoweredWordWrongFalsely : Prop := fnCompareFoldedIsOrderOfLoweredWordRow.holds Try.pinned (OpenSpec.ofChange fnCompareFoldedIsOrderOfLoweredWordWrong)

end Rows
end Go.Proofs.Qxb6003369a
