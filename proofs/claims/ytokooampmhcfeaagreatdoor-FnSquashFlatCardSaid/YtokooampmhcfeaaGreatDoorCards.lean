/-
  DERIVED. GIVEN WITH THE SEED: THE CARDS: each row of YtokooampmhcfeaaGreatDoorRows.lean that lists a variable, with what it lists TIED to the program's text (the seventh form; the later family's looks); each row that meets fmt, with fmt's text TOLD by the authors' own Lean function (tested against real Go, not proved from fmt's source: count such statements apart). THE CARD IS WHAT COUNTS. Prove the row's statement (the work); the ties are given (YtokooampmhcfeaaGreatDoorTie.lean); close each card by the builder's one call (the guide's Derived/Test/ToyasCard.lean, 'card_holds'). Laid BY PROGRAM, IN A SANDBOX (cutbox-door.mjs). By AI agents, Wed Nov 11 2026. No macro, syntax, notation, axiom, sorry.
-/
import Derived.Test.YtokooampmhcfeaaGreatDoorRows
import GoSem.ClaimSeven
namespace Go.Proofs.YtokooampmhcfeaaGreatDoor
namespace Rows

/-- THE TIED CARD OF 'laws.FnFlat'. -/
def fnFlatCard : Claim7 := { stood := { row := fnFlatRow, standIns := [], harness := (true, "44aa33834507866ae84b1a413fbdb3b4350d0a25cdf3ed7e2c18d0e01fc0b517"), looks := true }, kinds := [], alts := [], laidByText := true, laidKinds := [.data, .data, .data, .data, .sentinel, .sentinel, .listed, .data, .sentinel, .sentinel, .sentinel, .sentinel, .pinned], laidTests := true, laidLooks := .later }
def FnFlatCardSaid : Prop := Claim7.holds Tryz.pinned (.plain (OpenSpec.ofChange fnFlatSpec)) fnFlatCard

/-- THE TIED CARD OF 'laws.FnSquashFlat'. -/
def fnSquashFlatCard : Claim7 := { stood := { row := fnSquashFlatRow, standIns := [], harness := (true, "44aa33834507866ae84b1a413fbdb3b4350d0a25cdf3ed7e2c18d0e01fc0b517"), looks := true }, kinds := [], alts := [], laidByText := true, laidKinds := [.data, .data, .data, .data, .sentinel, .sentinel, .listed, .data, .sentinel, .sentinel, .sentinel, .sentinel, .pinned], laidTests := true, laidLooks := .later }
def FnSquashFlatCardSaid : Prop := Claim7.holds Tryz.pinned (.plain (OpenSpec.ofChange fnSquashFlatSpec)) fnSquashFlatCard

/-- THE SECOND FORM's CARD OF 'laws.FnFlat'. -/
def fnFlatUptoCard : Claim7 := { stood := { row := fnFlatUptoRow, standIns := [], harness := (true, "44aa33834507866ae84b1a413fbdb3b4350d0a25cdf3ed7e2c18d0e01fc0b517"), looks := true }, kinds := [], alts := [], laidByText := true, laidKinds := [.data, .data, .data, .data, .sentinel, .sentinel, .listed, .data, .sentinel, .sentinel, .sentinel, .sentinel, .pinned], laidTests := true, laidLooks := .later }
def FnFlatUptoCardSaid : Prop := Claim7.holds Tryz.pinned (.plain (OpenSpec.upto fnFlatSpec)) fnFlatUptoCard

/-- THE SECOND FORM's CARD OF 'laws.FnSquashFlat'. -/
def fnSquashFlatUptoCard : Claim7 := { stood := { row := fnSquashFlatUptoRow, standIns := [], harness := (true, "44aa33834507866ae84b1a413fbdb3b4350d0a25cdf3ed7e2c18d0e01fc0b517"), looks := true }, kinds := [], alts := [], laidByText := true, laidKinds := [.data, .data, .data, .data, .sentinel, .sentinel, .listed, .data, .sentinel, .sentinel, .sentinel, .sentinel, .pinned], laidTests := true, laidLooks := .later }
def FnSquashFlatUptoCardSaid : Prop := Claim7.holds Tryz.pinned (.plain (OpenSpec.upto fnSquashFlatSpec)) fnSquashFlatUptoCard
end Rows
end Go.Proofs.YtokooampmhcfeaaGreatDoor
