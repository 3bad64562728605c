/-
  DERIVED. GIVEN WITH THE SEED: THE CARDS: each row of YtbepljmeflndkaaGreatDoorRows.lean that lists a variable, with what it lists TIED to the program's text (the seventh form; the later family's looks); each row that meets fmt, with fmt's text TOLD by the authors' own Lean function (tested against real Go, not proved from fmt's source: count such statements apart). THE CARD IS WHAT COUNTS. Prove the row's statement (the work); the ties are given (YtbepljmeflndkaaGreatDoorTie.lean); close each card by the builder's one call (the guide's Derived/Test/ToyasCard.lean, 'card_holds'). Laid BY PROGRAM, IN A SANDBOX (cutbox-door.mjs). By AI agents, Wed Nov 11 2026. No macro, syntax, notation, axiom, sorry.
-/
import Derived.Test.YtbepljmeflndkaaGreatDoorRows
import GoSem.ClaimSeven
namespace Go.Proofs.YtbepljmeflndkaaGreatDoor
namespace Rows

/-- THE TIED CARD OF 'laws.FnCharstring'. -/
def fnCharstringCard : Claim7 := { stood := { row := fnCharstringRow, standIns := [], harness := (true, "6c0f0e7735eb40e70225f772f9d96d53a417378f4ed56b97d6db30042e838ba6"), looks := true }, kinds := [], alts := [], laidByText := true, laidKinds := [.data, .data, .widerDeep, .widerDeep, .data, .data, .data, .data, .data, .sentinel, .sentinel, .data, .pinned, .pinned], laidTests := true, laidLooks := .later }
def FnCharstringCardSaid : Prop := Claim7.holds Tryz.pinned (.plain (OpenSpec.ofChange fnCharstringSpec)) fnCharstringCard

/-- THE SECOND FORM's CARD OF 'laws.FnCharstring'. -/
def fnCharstringUptoCard : Claim7 := { stood := { row := fnCharstringUptoRow, standIns := [], harness := (true, "6c0f0e7735eb40e70225f772f9d96d53a417378f4ed56b97d6db30042e838ba6"), looks := true }, kinds := [], alts := [], laidByText := true, laidKinds := [.data, .data, .widerDeep, .widerDeep, .data, .data, .data, .data, .data, .sentinel, .sentinel, .data, .pinned, .pinned], laidTests := true, laidLooks := .later }
def FnCharstringUptoCardSaid : Prop := Claim7.holds Tryz.pinned (.plain (OpenSpec.upto fnCharstringSpec)) fnCharstringUptoCard
end Rows
end Go.Proofs.YtbepljmeflndkaaGreatDoor
