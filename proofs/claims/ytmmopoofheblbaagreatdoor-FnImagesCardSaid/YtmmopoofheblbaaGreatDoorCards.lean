/-
  DERIVED. GIVEN WITH THE SEED: THE CARDS: each row of YtmmopoofheblbaaGreatDoorRows.lean that lists a variable, with what it lists TIED to the program's text (the seventh form; the later family's looks); each row that meets fmt, with fmt's text TOLD by the authors' own Lean function (tested against real Go, not proved from fmt's source: count such statements apart). THE CARD IS WHAT COUNTS. Prove the row's statement (the work); the ties are given (YtmmopoofheblbaaGreatDoorTie.lean); close each card by the builder's one call (the guide's Derived/Test/ToyasCard.lean, 'card_holds'). Laid BY PROGRAM, IN A SANDBOX (cutbox-door.mjs). By AI agents, Wed Nov 11 2026. No macro, syntax, notation, axiom, sorry.
-/
import Derived.Test.YtmmopoofheblbaaGreatDoorRows
import GoSem.ClaimSeven
namespace Go.Proofs.YtmmopoofheblbaaGreatDoor
namespace Rows

/-- THE TIED CARD OF 'laws.FnBehind'. -/
def fnBehindCard : Claim7 := { stood := { row := fnBehindRow, standIns := [], harness := (true, "b518650fbbfed4353c0bfb5545725b71c66cc25a36878e115333e0438c854782"), looks := true }, kinds := [], alts := [], laidByText := true, laidKinds := [.data, .data, .data, .data, .sentinel, .sentinel, .data, .pinned], laidTests := true, laidLooks := .later }
def FnBehindCardSaid : Prop := Claim7.holds Tryz.pinned (.plain (OpenSpec.ofChange fnBehindSpec)) fnBehindCard

/-- THE TIED CARD OF 'laws.FnImages'. -/
def fnImagesCard : Claim7 := { stood := { row := fnImagesRow, standIns := [], harness := (true, "b518650fbbfed4353c0bfb5545725b71c66cc25a36878e115333e0438c854782"), looks := true }, kinds := [], alts := [], laidByText := true, laidKinds := [.data, .data, .data, .data, .sentinel, .sentinel, .data, .pinned], laidTests := true, laidLooks := .later }
def FnImagesCardSaid : Prop := Claim7.holds Tryz.pinned (.plain (OpenSpec.ofChange fnImagesSpec)) fnImagesCard

/-- THE TIED CARD OF 'laws.FnItemPlace'. -/
def fnItemPlaceCard : Claim7 := { stood := { row := fnItemPlaceRow, standIns := [], harness := (true, "b518650fbbfed4353c0bfb5545725b71c66cc25a36878e115333e0438c854782"), looks := true }, kinds := [], alts := [], laidByText := true, laidKinds := [.data, .data, .data, .data, .sentinel, .sentinel, .data, .pinned], laidTests := true, laidLooks := .later }
def FnItemPlaceCardSaid : Prop := Claim7.holds Tryz.pinned (.plain (OpenSpec.ofChange fnItemPlaceSpec)) fnItemPlaceCard

/-- THE TIED CARD OF 'laws.FnKeptInside'. -/
def fnKeptInsideCard : Claim7 := { stood := { row := fnKeptInsideRow, standIns := [], harness := (true, "b518650fbbfed4353c0bfb5545725b71c66cc25a36878e115333e0438c854782"), looks := true }, kinds := [], alts := [], laidByText := true, laidKinds := [.data, .data, .data, .data, .sentinel, .sentinel, .data, .pinned], laidTests := true, laidLooks := .later }
def FnKeptInsideCardSaid : Prop := Claim7.holds Tryz.pinned (.plain (OpenSpec.ofChange fnKeptInsideSpec)) fnKeptInsideCard

/-- THE TIED CARD OF 'laws.FnNewlines'. -/
def fnNewlinesCard : Claim7 := { stood := { row := fnNewlinesRow, standIns := [], harness := (true, "b518650fbbfed4353c0bfb5545725b71c66cc25a36878e115333e0438c854782"), looks := true }, kinds := [], alts := [], laidByText := true, laidKinds := [.data, .data, .data, .data, .sentinel, .sentinel, .data, .pinned], laidTests := true, laidLooks := .later }
def FnNewlinesCardSaid : Prop := Claim7.holds Tryz.pinned (.plain (OpenSpec.ofChange fnNewlinesSpec)) fnNewlinesCard

/-- THE TIED CARD OF 'laws.FnNumbered'. -/
def fnNumberedCard : Claim7 := { stood := { row := fnNumberedRow, standIns := [], harness := (true, "b518650fbbfed4353c0bfb5545725b71c66cc25a36878e115333e0438c854782"), looks := true }, kinds := [], alts := [], laidByText := true, laidKinds := [.data, .data, .data, .data, .sentinel, .sentinel, .data, .pinned], laidTests := true, laidLooks := .later }
def FnNumberedCardSaid : Prop := Claim7.holds Tryz.pinned (.plain (OpenSpec.ofChange fnNumberedSpec)) fnNumberedCard

/-- THE TIED CARD OF 'laws.FnOptionInlines'. -/
def fnOptionInlinesCard : Claim7 := { stood := { row := fnOptionInlinesRow, standIns := [], harness := (true, "b518650fbbfed4353c0bfb5545725b71c66cc25a36878e115333e0438c854782"), looks := true }, kinds := [], alts := [], laidByText := true, laidKinds := [.data, .data, .data, .data, .sentinel, .sentinel, .data, .pinned], laidTests := true, laidLooks := .later }
def FnOptionInlinesCardSaid : Prop := Claim7.holds Tryz.pinned (.plain (OpenSpec.ofChange fnOptionInlinesSpec)) fnOptionInlinesCard

/-- THE TIED CARD OF 'laws.FnOutdent'. -/
def fnOutdentCard : Claim7 := { stood := { row := fnOutdentRow, standIns := [], harness := (true, "b518650fbbfed4353c0bfb5545725b71c66cc25a36878e115333e0438c854782"), looks := true }, kinds := [], alts := [], laidByText := true, laidKinds := [.data, .data, .data, .data, .sentinel, .sentinel, .data, .pinned], laidTests := true, laidLooks := .later }
def FnOutdentCardSaid : Prop := Claim7.holds Tryz.pinned (.plain (OpenSpec.ofChange fnOutdentSpec)) fnOutdentCard

/-- THE TIED CARD OF 'laws.FnQuoted'. -/
def fnQuotedCard : Claim7 := { stood := { row := fnQuotedRow, standIns := [], harness := (true, "b518650fbbfed4353c0bfb5545725b71c66cc25a36878e115333e0438c854782"), looks := true }, kinds := [], alts := [], laidByText := true, laidKinds := [.data, .data, .data, .data, .sentinel, .sentinel, .data, .pinned], laidTests := true, laidLooks := .later }
def FnQuotedCardSaid : Prop := Claim7.holds Tryz.pinned (.plain (OpenSpec.ofChange fnQuotedSpec)) fnQuotedCard

/-- THE TIED CARD OF 'laws.FnUnusedRaw'. -/
def fnUnusedRawCard : Claim7 := { stood := { row := fnUnusedRawRow, standIns := [], harness := (true, "b518650fbbfed4353c0bfb5545725b71c66cc25a36878e115333e0438c854782"), looks := true }, kinds := [], alts := [], laidByText := true, laidKinds := [.data, .data, .data, .data, .sentinel, .sentinel, .data, .pinned], laidTests := true, laidLooks := .later }
def FnUnusedRawCardSaid : Prop := Claim7.holds Tryz.pinned (.plain (OpenSpec.ofChange fnUnusedRawSpec)) fnUnusedRawCard

/-- THE SECOND FORM's CARD OF 'laws.FnBehind'. -/
def fnBehindUptoCard : Claim7 := { stood := { row := fnBehindUptoRow, standIns := [], harness := (true, "b518650fbbfed4353c0bfb5545725b71c66cc25a36878e115333e0438c854782"), looks := true }, kinds := [], alts := [], laidByText := true, laidKinds := [.data, .data, .data, .data, .sentinel, .sentinel, .data, .pinned], laidTests := true, laidLooks := .later }
def FnBehindUptoCardSaid : Prop := Claim7.holds Tryz.pinned (.plain (OpenSpec.upto fnBehindSpec)) fnBehindUptoCard

/-- THE SECOND FORM's CARD OF 'laws.FnImages'. -/
def fnImagesUptoCard : Claim7 := { stood := { row := fnImagesUptoRow, standIns := [], harness := (true, "b518650fbbfed4353c0bfb5545725b71c66cc25a36878e115333e0438c854782"), looks := true }, kinds := [], alts := [], laidByText := true, laidKinds := [.data, .data, .data, .data, .sentinel, .sentinel, .data, .pinned], laidTests := true, laidLooks := .later }
def FnImagesUptoCardSaid : Prop := Claim7.holds Tryz.pinned (.plain (OpenSpec.upto fnImagesSpec)) fnImagesUptoCard

/-- THE SECOND FORM's CARD OF 'laws.FnItemPlace'. -/
def fnItemPlaceUptoCard : Claim7 := { stood := { row := fnItemPlaceUptoRow, standIns := [], harness := (true, "b518650fbbfed4353c0bfb5545725b71c66cc25a36878e115333e0438c854782"), looks := true }, kinds := [], alts := [], laidByText := true, laidKinds := [.data, .data, .data, .data, .sentinel, .sentinel, .data, .pinned], laidTests := true, laidLooks := .later }
def FnItemPlaceUptoCardSaid : Prop := Claim7.holds Tryz.pinned (.plain (OpenSpec.upto fnItemPlaceSpec)) fnItemPlaceUptoCard

/-- THE SECOND FORM's CARD OF 'laws.FnKeptInside'. -/
def fnKeptInsideUptoCard : Claim7 := { stood := { row := fnKeptInsideUptoRow, standIns := [], harness := (true, "b518650fbbfed4353c0bfb5545725b71c66cc25a36878e115333e0438c854782"), looks := true }, kinds := [], alts := [], laidByText := true, laidKinds := [.data, .data, .data, .data, .sentinel, .sentinel, .data, .pinned], laidTests := true, laidLooks := .later }
def FnKeptInsideUptoCardSaid : Prop := Claim7.holds Tryz.pinned (.plain (OpenSpec.upto fnKeptInsideSpec)) fnKeptInsideUptoCard

/-- THE SECOND FORM's CARD OF 'laws.FnNewlines'. -/
def fnNewlinesUptoCard : Claim7 := { stood := { row := fnNewlinesUptoRow, standIns := [], harness := (true, "b518650fbbfed4353c0bfb5545725b71c66cc25a36878e115333e0438c854782"), looks := true }, kinds := [], alts := [], laidByText := true, laidKinds := [.data, .data, .data, .data, .sentinel, .sentinel, .data, .pinned], laidTests := true, laidLooks := .later }
def FnNewlinesUptoCardSaid : Prop := Claim7.holds Tryz.pinned (.plain (OpenSpec.upto fnNewlinesSpec)) fnNewlinesUptoCard

/-- THE SECOND FORM's CARD OF 'laws.FnNumbered'. -/
def fnNumberedUptoCard : Claim7 := { stood := { row := fnNumberedUptoRow, standIns := [], harness := (true, "b518650fbbfed4353c0bfb5545725b71c66cc25a36878e115333e0438c854782"), looks := true }, kinds := [], alts := [], laidByText := true, laidKinds := [.data, .data, .data, .data, .sentinel, .sentinel, .data, .pinned], laidTests := true, laidLooks := .later }
def FnNumberedUptoCardSaid : Prop := Claim7.holds Tryz.pinned (.plain (OpenSpec.upto fnNumberedSpec)) fnNumberedUptoCard

/-- THE SECOND FORM's CARD OF 'laws.FnOptionInlines'. -/
def fnOptionInlinesUptoCard : Claim7 := { stood := { row := fnOptionInlinesUptoRow, standIns := [], harness := (true, "b518650fbbfed4353c0bfb5545725b71c66cc25a36878e115333e0438c854782"), looks := true }, kinds := [], alts := [], laidByText := true, laidKinds := [.data, .data, .data, .data, .sentinel, .sentinel, .data, .pinned], laidTests := true, laidLooks := .later }
def FnOptionInlinesUptoCardSaid : Prop := Claim7.holds Tryz.pinned (.plain (OpenSpec.upto fnOptionInlinesSpec)) fnOptionInlinesUptoCard

/-- THE SECOND FORM's CARD OF 'laws.FnOutdent'. -/
def fnOutdentUptoCard : Claim7 := { stood := { row := fnOutdentUptoRow, standIns := [], harness := (true, "b518650fbbfed4353c0bfb5545725b71c66cc25a36878e115333e0438c854782"), looks := true }, kinds := [], alts := [], laidByText := true, laidKinds := [.data, .data, .data, .data, .sentinel, .sentinel, .data, .pinned], laidTests := true, laidLooks := .later }
def FnOutdentUptoCardSaid : Prop := Claim7.holds Tryz.pinned (.plain (OpenSpec.upto fnOutdentSpec)) fnOutdentUptoCard

/-- THE SECOND FORM's CARD OF 'laws.FnQuoted'. -/
def fnQuotedUptoCard : Claim7 := { stood := { row := fnQuotedUptoRow, standIns := [], harness := (true, "b518650fbbfed4353c0bfb5545725b71c66cc25a36878e115333e0438c854782"), looks := true }, kinds := [], alts := [], laidByText := true, laidKinds := [.data, .data, .data, .data, .sentinel, .sentinel, .data, .pinned], laidTests := true, laidLooks := .later }
def FnQuotedUptoCardSaid : Prop := Claim7.holds Tryz.pinned (.plain (OpenSpec.upto fnQuotedSpec)) fnQuotedUptoCard

/-- THE SECOND FORM's CARD OF 'laws.FnUnusedRaw'. -/
def fnUnusedRawUptoCard : Claim7 := { stood := { row := fnUnusedRawUptoRow, standIns := [], harness := (true, "b518650fbbfed4353c0bfb5545725b71c66cc25a36878e115333e0438c854782"), looks := true }, kinds := [], alts := [], laidByText := true, laidKinds := [.data, .data, .data, .data, .sentinel, .sentinel, .data, .pinned], laidTests := true, laidLooks := .later }
def FnUnusedRawUptoCardSaid : Prop := Claim7.holds Tryz.pinned (.plain (OpenSpec.upto fnUnusedRawSpec)) fnUnusedRawUptoCard
end Rows
end Go.Proofs.YtmmopoofheblbaaGreatDoor
