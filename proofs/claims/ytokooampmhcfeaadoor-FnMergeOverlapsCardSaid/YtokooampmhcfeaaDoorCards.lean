/-
  DERIVED. GIVEN WITH THE SEED: THE CARDS: each row of YtokooampmhcfeaaDoorRows.lean that lists a variable, with what it lists TIED to the program's text (the seventh form; the later family's looks); each row that meets fmt, with fmt's text TOLD by the authors' own Lean function (tested against real Go, not proved from fmt's source: count such statements apart). THE CARD IS WHAT COUNTS. Prove the row's statement (the work); the ties are given (YtokooampmhcfeaaDoorTie.lean); close each card by the builder's one call (the guide's Derived/Test/ToyasCard.lean, 'card_holds'). Laid BY PROGRAM, IN A SANDBOX (cutbox-door.mjs). By AI agents, Wed Nov 11 2026. No macro, syntax, notation, axiom, sorry.
-/
import Derived.Test.YtokooampmhcfeaaDoorRows
import GoSem.ClaimSeven
namespace Go.Proofs.YtokooampmhcfeaaDoor
namespace Rows

/-- THE TIED CARD OF 'laws.FnRangeSorted'. -/
def fnRangeSortedCard : Claim7 := { stood := { row := fnRangeSortedRow, standIns := [], harness := (true, "4250695f5238175daabdb42aa77d832312feb6da842cdc30127f24d869c3d245"), looks := true }, kinds := [], alts := [], laidByText := true, laidKinds := [.data, .data, .data, .data, .sentinel, .sentinel, .sentinel, .sentinel, .sentinel, .sentinel, .pinned], laidTests := true, laidLooks := .later }
def FnRangeSortedCardSaid : Prop := Claim7.holds Tryd.pinned (.plain (OpenSpec.ofChange fnRangeSortedSpec)) fnRangeSortedCard

/-- THE TIED CARD OF 'laws.FnAdjustSpan'. -/
def fnAdjustSpanCard : Claim7 := { stood := { row := fnAdjustSpanRow, standIns := [], harness := (true, "4250695f5238175daabdb42aa77d832312feb6da842cdc30127f24d869c3d245"), looks := true }, kinds := [], alts := [], laidByText := true, laidKinds := [.data, .data, .data, .data, .sentinel, .sentinel, .sentinel, .sentinel, .sentinel, .pinned], laidTests := true, laidLooks := .later }
def FnAdjustSpanCardSaid : Prop := Claim7.holds Tryd.pinned (.plain (OpenSpec.ofChange fnAdjustSpanSpec)) fnAdjustSpanCard

/-- THE TIED CARD OF 'laws.FnRangeRef'. -/
def fnRangeRefCard : Claim7 := { stood := { row := fnRangeRefRow, standIns := [], harness := (true, "4250695f5238175daabdb42aa77d832312feb6da842cdc30127f24d869c3d245"), looks := true }, kinds := [], alts := [], laidByText := true, laidKinds := [.data, .data, .data, .data, .sentinel, .sentinel, .sentinel, .sentinel, .sentinel, .sentinel, .pinned], laidTests := true, laidLooks := .later }
def FnRangeRefCardSaid : Prop := Claim7.holds Tryd.pinned (.plain (OpenSpec.ofChange fnRangeRefSpec)) fnRangeRefCard

/-- THE TIED CARD OF 'laws.FnMergeOverlaps'. -/
def fnMergeOverlapsCard : Claim7 := { stood := { row := fnMergeOverlapsRow, standIns := [], harness := (true, "4250695f5238175daabdb42aa77d832312feb6da842cdc30127f24d869c3d245"), looks := true }, kinds := [], alts := [], laidByText := true, laidKinds := [.data, .data, .data, .data, .sentinel, .sentinel, .sentinel, .sentinel, .sentinel, .sentinel, .pinned], laidTests := true, laidLooks := .later }
def FnMergeOverlapsCardSaid : Prop := Claim7.holds Tryd.pinned (.plain (OpenSpec.ofChange fnMergeOverlapsSpec)) fnMergeOverlapsCard

/-- THE SECOND FORM's CARD OF 'laws.FnRangeSorted'. -/
def fnRangeSortedUptoCard : Claim7 := { stood := { row := fnRangeSortedUptoRow, standIns := [], harness := (true, "4250695f5238175daabdb42aa77d832312feb6da842cdc30127f24d869c3d245"), looks := true }, kinds := [], alts := [], laidByText := true, laidKinds := [.data, .data, .data, .data, .sentinel, .sentinel, .sentinel, .sentinel, .sentinel, .sentinel, .pinned], laidTests := true, laidLooks := .later }
def FnRangeSortedUptoCardSaid : Prop := Claim7.holds Tryd.pinned (.plain (OpenSpec.upto fnRangeSortedSpec)) fnRangeSortedUptoCard

/-- THE SECOND FORM's CARD OF 'laws.FnAdjustSpan'. -/
def fnAdjustSpanUptoCard : Claim7 := { stood := { row := fnAdjustSpanUptoRow, standIns := [], harness := (true, "4250695f5238175daabdb42aa77d832312feb6da842cdc30127f24d869c3d245"), looks := true }, kinds := [], alts := [], laidByText := true, laidKinds := [.data, .data, .data, .data, .sentinel, .sentinel, .sentinel, .sentinel, .sentinel, .pinned], laidTests := true, laidLooks := .later }
def FnAdjustSpanUptoCardSaid : Prop := Claim7.holds Tryd.pinned (.plain (OpenSpec.upto fnAdjustSpanSpec)) fnAdjustSpanUptoCard

/-- THE SECOND FORM's CARD OF 'laws.FnRangeRef'. -/
def fnRangeRefUptoCard : Claim7 := { stood := { row := fnRangeRefUptoRow, standIns := [], harness := (true, "4250695f5238175daabdb42aa77d832312feb6da842cdc30127f24d869c3d245"), looks := true }, kinds := [], alts := [], laidByText := true, laidKinds := [.data, .data, .data, .data, .sentinel, .sentinel, .sentinel, .sentinel, .sentinel, .sentinel, .pinned], laidTests := true, laidLooks := .later }
def FnRangeRefUptoCardSaid : Prop := Claim7.holds Tryd.pinned (.plain (OpenSpec.upto fnRangeRefSpec)) fnRangeRefUptoCard

/-- THE SECOND FORM's CARD OF 'laws.FnMergeOverlaps'. -/
def fnMergeOverlapsUptoCard : Claim7 := { stood := { row := fnMergeOverlapsUptoRow, standIns := [], harness := (true, "4250695f5238175daabdb42aa77d832312feb6da842cdc30127f24d869c3d245"), looks := true }, kinds := [], alts := [], laidByText := true, laidKinds := [.data, .data, .data, .data, .sentinel, .sentinel, .sentinel, .sentinel, .sentinel, .sentinel, .pinned], laidTests := true, laidLooks := .later }
def FnMergeOverlapsUptoCardSaid : Prop := Claim7.holds Tryd.pinned (.plain (OpenSpec.upto fnMergeOverlapsSpec)) fnMergeOverlapsUptoCard
end Rows
end Go.Proofs.YtokooampmhcfeaaDoor
