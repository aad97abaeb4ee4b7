/-
  DERIVED. GIVEN WITH THE SEED: THE CARDS: each row of Qxb6003358aDoorRows.lean that lists a variable, with what it lists TIED to the program's text (the seventh form; the later family's looks); each row that meets fmt, with fmt's text TOLD by the authors' own Lean function (tested against real Go, not proved from fmt's source: count such statements apart). THE CARD IS WHAT COUNTS. Prove the row's statement (the work); the ties are given (Qxb6003358aDoorTie.lean); close each card by the builder's one call (the guide's Derived/Test/ToyasCard.lean, 'card_holds'). Laid BY PROGRAM, IN A SANDBOX (cutbox-door.mjs). By AI agents, Wed Nov 11 2026. No macro, syntax, notation, axiom, sorry.
-/
import Derived.Test.Qxb6003358aDoorRows
import GoSem.ClaimSeven
namespace Go.Proofs.Qxb6003358aDoor
namespace Rows

/-- THE TIED CARD OF 'zzlaws_wire_g2.FnRcodeNamesEachCodeOnce'. -/
def fnRcodeNamesEachCodeOnceCard : Claim7 := { stood := { row := fnRcodeNamesEachCodeOnceRow, standIns := [], harness := (true, "7de1c068441c641ca6c88d3503b674787ef83421785bf70ce0944f6658ef7258"), looks := false }, kinds := [], alts := [], laidByText := true, laidKinds := [.data, .data, .data], laidTests := true, laidLooks := .later }
def FnRcodeNamesEachCodeOnceCardSaid : Prop := Claim7.holds Tryd.pinned (.plain (OpenSpec.ofChange fnRcodeNamesEachCodeOnceSpec)) fnRcodeNamesEachCodeOnceCard

/-- THE TIED CARD OF 'zzlaws_wire_g2.FnClassStringNamesEachClassOnce'. -/
def fnClassStringNamesEachClassOnceCard : Claim7 := { stood := { row := fnClassStringNamesEachClassOnceRow, standIns := [], harness := (true, "7de1c068441c641ca6c88d3503b674787ef83421785bf70ce0944f6658ef7258"), looks := false }, kinds := [], alts := [], laidByText := true, laidKinds := [.data, .data, .data], laidTests := true, laidLooks := .later }
def FnClassStringNamesEachClassOnceCardSaid : Prop := Claim7.holds Tryd.pinned (.plain (OpenSpec.ofChange fnClassStringNamesEachClassOnceSpec)) fnClassStringNamesEachClassOnceCard
end Rows
end Go.Proofs.Qxb6003358aDoor
