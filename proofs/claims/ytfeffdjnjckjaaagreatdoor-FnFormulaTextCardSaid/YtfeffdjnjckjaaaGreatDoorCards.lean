/-
  DERIVED. GIVEN WITH THE SEED: THE CARDS: each row of YtfeffdjnjckjaaaGreatDoorRows.lean that lists a variable, with what it lists TIED to the program's text (the seventh form; the later family's looks); each row that meets fmt, with fmt's text TOLD by the authors' own Lean function (tested against real Go, not proved from fmt's source: count such statements apart). THE CARD IS WHAT COUNTS. Prove the row's statement (the work); the ties are given (YtfeffdjnjckjaaaGreatDoorTie.lean); close each card by the builder's one call (the guide's Derived/Test/ToyasCard.lean, 'card_holds'). Laid BY PROGRAM, IN A SANDBOX (cutbox-door.mjs). By AI agents, Wed Nov 11 2026. No macro, syntax, notation, axiom, sorry.
-/
import Derived.Test.YtfeffdjnjckjaaaGreatDoorRows
import GoSem.ClaimSeven
namespace Go.Proofs.YtfeffdjnjckjaaaGreatDoor
namespace Rows

/-- THE TIED CARD OF 'laws.FnFormulaText'. -/
def fnFormulaTextCard : Claim7 := { stood := { row := fnFormulaTextRow, standIns := [], harness := (true, "ac1bd52a329eb2f3fe8d8836b9991453bd047fc149972afcb1c6cca0067e0298"), looks := true }, kinds := [], alts := [], laidByText := true, laidKinds := [.data, .data, .data, .data, .sentinel, .sentinel, .sentinel, .sentinel, .sentinel, .pinned], laidTests := true, laidLooks := .later }
def FnFormulaTextCardSaid : Prop := Claim7.holds Tryz.pinned (.plain (OpenSpec.ofChange fnFormulaTextSpec)) fnFormulaTextCard

/-- THE SECOND FORM's CARD OF 'laws.FnFormulaText'. -/
def fnFormulaTextUptoCard : Claim7 := { stood := { row := fnFormulaTextUptoRow, standIns := [], harness := (true, "ac1bd52a329eb2f3fe8d8836b9991453bd047fc149972afcb1c6cca0067e0298"), looks := true }, kinds := [], alts := [], laidByText := true, laidKinds := [.data, .data, .data, .data, .sentinel, .sentinel, .sentinel, .sentinel, .sentinel, .pinned], laidTests := true, laidLooks := .later }
def FnFormulaTextUptoCardSaid : Prop := Claim7.holds Tryz.pinned (.plain (OpenSpec.upto fnFormulaTextSpec)) fnFormulaTextUptoCard
end Rows
end Go.Proofs.YtfeffdjnjckjaaaGreatDoor
