/-
  DERIVED. GIVEN WITH THE SEED: THE CARDS: each row of YtdnlfdppjfjncaaGreatDoorRows.lean that lists a variable, with what it lists TIED to the program's text (the seventh form; the later family's looks); each row that meets fmt, with fmt's text TOLD by the authors' own Lean function (tested against real Go, not proved from fmt's source: count such statements apart). THE CARD IS WHAT COUNTS. Prove the row's statement (the work); the ties are given (YtdnlfdppjfjncaaGreatDoorTie.lean); close each card by the builder's one call (the guide's Derived/Test/ToyasCard.lean, 'card_holds'). Laid BY PROGRAM, IN A SANDBOX (cutbox-door.mjs). By AI agents, Wed Nov 11 2026. No macro, syntax, notation, axiom, sorry.
-/
import Derived.Test.YtdnlfdppjfjncaaGreatDoorRows
import GoSem.ClaimSeven
namespace Go.Proofs.YtdnlfdppjfjncaaGreatDoor
namespace Rows

/-- THE TIED CARD OF 'laws.FnAutolink'. -/
def fnAutolinkCard : Claim7 := { stood := { row := fnAutolinkRow, standIns := [], harness := (true, "e80ac551f16ff98717427f33c142b9b0131fbeefeec274df97fea67d5a4816aa"), looks := true }, kinds := [], alts := [], laidByText := true, laidKinds := [.data, .data, .data, .data, .sentinel, .sentinel, .data, .pinned], laidTests := true, laidLooks := .later }
def FnAutolinkCardSaid : Prop := Claim7.holds Tryz.pinned (.plain (OpenSpec.ofChange fnAutolinkSpec)) fnAutolinkCard

/-- THE TIED CARD OF 'laws.FnEscaped'. -/
def fnEscapedCard : Claim7 := { stood := { row := fnEscapedRow, standIns := [], harness := (true, "e80ac551f16ff98717427f33c142b9b0131fbeefeec274df97fea67d5a4816aa"), looks := true }, kinds := [], alts := [], laidByText := true, laidKinds := [.data, .data, .data, .data, .sentinel, .sentinel, .data, .pinned], laidTests := true, laidLooks := .later }
def FnEscapedCardSaid : Prop := Claim7.holds Tryz.pinned (.plain (OpenSpec.ofChange fnEscapedSpec)) fnEscapedCard

/-- THE TIED CARD OF 'laws.FnFence'. -/
def fnFenceCard : Claim7 := { stood := { row := fnFenceRow, standIns := [], harness := (true, "e80ac551f16ff98717427f33c142b9b0131fbeefeec274df97fea67d5a4816aa"), looks := true }, kinds := [], alts := [], laidByText := true, laidKinds := [.data, .data, .data, .data, .sentinel, .sentinel, .data, .pinned], laidTests := true, laidLooks := .later }
def FnFenceCardSaid : Prop := Claim7.holds Tryz.pinned (.plain (OpenSpec.ofChange fnFenceSpec)) fnFenceCard

/-- THE TIED CARD OF 'laws.FnImages'. -/
def fnImagesCard : Claim7 := { stood := { row := fnImagesRow, standIns := [], harness := (true, "e80ac551f16ff98717427f33c142b9b0131fbeefeec274df97fea67d5a4816aa"), looks := true }, kinds := [], alts := [], laidByText := true, laidKinds := [.data, .data, .data, .data, .sentinel, .sentinel, .data, .pinned], laidTests := true, laidLooks := .later }
def FnImagesCardSaid : Prop := Claim7.holds Tryz.pinned (.plain (OpenSpec.ofChange fnImagesSpec)) fnImagesCard

/-- THE TIED CARD OF 'laws.FnLazy'. -/
def fnLazyCard : Claim7 := { stood := { row := fnLazyRow, standIns := [], harness := (true, "e80ac551f16ff98717427f33c142b9b0131fbeefeec274df97fea67d5a4816aa"), looks := true }, kinds := [], alts := [], laidByText := true, laidKinds := [.data, .data, .data, .data, .sentinel, .sentinel, .data, .pinned], laidTests := true, laidLooks := .later }
def FnLazyCardSaid : Prop := Claim7.holds Tryz.pinned (.plain (OpenSpec.ofChange fnLazySpec)) fnLazyCard

/-- THE TIED CARD OF 'laws.FnLiteralLines'. -/
def fnLiteralLinesCard : Claim7 := { stood := { row := fnLiteralLinesRow, standIns := [], harness := (true, "e80ac551f16ff98717427f33c142b9b0131fbeefeec274df97fea67d5a4816aa"), looks := true }, kinds := [], alts := [], laidByText := true, laidKinds := [.data, .data, .data, .data, .sentinel, .sentinel, .data, .pinned], laidTests := true, laidLooks := .later }
def FnLiteralLinesCardSaid : Prop := Claim7.holds Tryz.pinned (.plain (OpenSpec.ofChange fnLiteralLinesSpec)) fnLiteralLinesCard

/-- THE TIED CARD OF 'laws.FnOpenTag'. -/
def fnOpenTagCard : Claim7 := { stood := { row := fnOpenTagRow, standIns := [], harness := (true, "e80ac551f16ff98717427f33c142b9b0131fbeefeec274df97fea67d5a4816aa"), looks := true }, kinds := [], alts := [], laidByText := true, laidKinds := [.data, .data, .data, .data, .sentinel, .sentinel, .data, .pinned], laidTests := true, laidLooks := .later }
def FnOpenTagCardSaid : Prop := Claim7.holds Tryz.pinned (.plain (OpenSpec.ofChange fnOpenTagSpec)) fnOpenTagCard

/-- THE TIED CARD OF 'laws.FnOutdent'. -/
def fnOutdentCard : Claim7 := { stood := { row := fnOutdentRow, standIns := [], harness := (true, "e80ac551f16ff98717427f33c142b9b0131fbeefeec274df97fea67d5a4816aa"), looks := true }, kinds := [], alts := [], laidByText := true, laidKinds := [.data, .data, .data, .data, .sentinel, .sentinel, .data, .pinned], laidTests := true, laidLooks := .later }
def FnOutdentCardSaid : Prop := Claim7.holds Tryz.pinned (.plain (OpenSpec.ofChange fnOutdentSpec)) fnOutdentCard

/-- THE TIED CARD OF 'laws.FnSeven'. -/
def fnSevenCard : Claim7 := { stood := { row := fnSevenRow, standIns := [], harness := (true, "e80ac551f16ff98717427f33c142b9b0131fbeefeec274df97fea67d5a4816aa"), looks := true }, kinds := [], alts := [], laidByText := true, laidKinds := [.data, .data, .data, .data, .sentinel, .sentinel, .data, .pinned], laidTests := true, laidLooks := .later }
def FnSevenCardSaid : Prop := Claim7.holds Tryz.pinned (.plain (OpenSpec.ofChange fnSevenSpec)) fnSevenCard

/-- THE TIED CARD OF 'laws.FnSmartQuotes'. -/
def fnSmartQuotesCard : Claim7 := { stood := { row := fnSmartQuotesRow, standIns := [], harness := (true, "e80ac551f16ff98717427f33c142b9b0131fbeefeec274df97fea67d5a4816aa"), looks := true }, kinds := [], alts := [], laidByText := true, laidKinds := [.data, .data, .data, .data, .sentinel, .sentinel, .data, .pinned], laidTests := true, laidLooks := .later }
def FnSmartQuotesCardSaid : Prop := Claim7.holds Tryz.pinned (.plain (OpenSpec.ofChange fnSmartQuotesSpec)) fnSmartQuotesCard

/-- THE TIED CARD OF 'laws.FnStruck'. -/
def fnStruckCard : Claim7 := { stood := { row := fnStruckRow, standIns := [], harness := (true, "e80ac551f16ff98717427f33c142b9b0131fbeefeec274df97fea67d5a4816aa"), looks := true }, kinds := [], alts := [], laidByText := true, laidKinds := [.data, .data, .data, .data, .sentinel, .sentinel, .data, .pinned], laidTests := true, laidLooks := .later }
def FnStruckCardSaid : Prop := Claim7.holds Tryz.pinned (.plain (OpenSpec.ofChange fnStruckSpec)) fnStruckCard

/-- THE TIED CARD OF 'laws.FnUnclosed'. -/
def fnUnclosedCard : Claim7 := { stood := { row := fnUnclosedRow, standIns := [], harness := (true, "e80ac551f16ff98717427f33c142b9b0131fbeefeec274df97fea67d5a4816aa"), looks := true }, kinds := [], alts := [], laidByText := true, laidKinds := [.data, .data, .data, .data, .sentinel, .sentinel, .data, .pinned], laidTests := true, laidLooks := .later }
def FnUnclosedCardSaid : Prop := Claim7.holds Tryz.pinned (.plain (OpenSpec.ofChange fnUnclosedSpec)) fnUnclosedCard

/-- THE SECOND FORM's CARD OF 'laws.FnAutolink'. -/
def fnAutolinkUptoCard : Claim7 := { stood := { row := fnAutolinkUptoRow, standIns := [], harness := (true, "e80ac551f16ff98717427f33c142b9b0131fbeefeec274df97fea67d5a4816aa"), looks := true }, kinds := [], alts := [], laidByText := true, laidKinds := [.data, .data, .data, .data, .sentinel, .sentinel, .data, .pinned], laidTests := true, laidLooks := .later }
def FnAutolinkUptoCardSaid : Prop := Claim7.holds Tryz.pinned (.plain (OpenSpec.upto fnAutolinkSpec)) fnAutolinkUptoCard

/-- THE SECOND FORM's CARD OF 'laws.FnEscaped'. -/
def fnEscapedUptoCard : Claim7 := { stood := { row := fnEscapedUptoRow, standIns := [], harness := (true, "e80ac551f16ff98717427f33c142b9b0131fbeefeec274df97fea67d5a4816aa"), looks := true }, kinds := [], alts := [], laidByText := true, laidKinds := [.data, .data, .data, .data, .sentinel, .sentinel, .data, .pinned], laidTests := true, laidLooks := .later }
def FnEscapedUptoCardSaid : Prop := Claim7.holds Tryz.pinned (.plain (OpenSpec.upto fnEscapedSpec)) fnEscapedUptoCard

/-- THE SECOND FORM's CARD OF 'laws.FnFence'. -/
def fnFenceUptoCard : Claim7 := { stood := { row := fnFenceUptoRow, standIns := [], harness := (true, "e80ac551f16ff98717427f33c142b9b0131fbeefeec274df97fea67d5a4816aa"), looks := true }, kinds := [], alts := [], laidByText := true, laidKinds := [.data, .data, .data, .data, .sentinel, .sentinel, .data, .pinned], laidTests := true, laidLooks := .later }
def FnFenceUptoCardSaid : Prop := Claim7.holds Tryz.pinned (.plain (OpenSpec.upto fnFenceSpec)) fnFenceUptoCard

/-- THE SECOND FORM's CARD OF 'laws.FnImages'. -/
def fnImagesUptoCard : Claim7 := { stood := { row := fnImagesUptoRow, standIns := [], harness := (true, "e80ac551f16ff98717427f33c142b9b0131fbeefeec274df97fea67d5a4816aa"), looks := true }, kinds := [], alts := [], laidByText := true, laidKinds := [.data, .data, .data, .data, .sentinel, .sentinel, .data, .pinned], laidTests := true, laidLooks := .later }
def FnImagesUptoCardSaid : Prop := Claim7.holds Tryz.pinned (.plain (OpenSpec.upto fnImagesSpec)) fnImagesUptoCard

/-- THE SECOND FORM's CARD OF 'laws.FnLazy'. -/
def fnLazyUptoCard : Claim7 := { stood := { row := fnLazyUptoRow, standIns := [], harness := (true, "e80ac551f16ff98717427f33c142b9b0131fbeefeec274df97fea67d5a4816aa"), looks := true }, kinds := [], alts := [], laidByText := true, laidKinds := [.data, .data, .data, .data, .sentinel, .sentinel, .data, .pinned], laidTests := true, laidLooks := .later }
def FnLazyUptoCardSaid : Prop := Claim7.holds Tryz.pinned (.plain (OpenSpec.upto fnLazySpec)) fnLazyUptoCard

/-- THE SECOND FORM's CARD OF 'laws.FnLiteralLines'. -/
def fnLiteralLinesUptoCard : Claim7 := { stood := { row := fnLiteralLinesUptoRow, standIns := [], harness := (true, "e80ac551f16ff98717427f33c142b9b0131fbeefeec274df97fea67d5a4816aa"), looks := true }, kinds := [], alts := [], laidByText := true, laidKinds := [.data, .data, .data, .data, .sentinel, .sentinel, .data, .pinned], laidTests := true, laidLooks := .later }
def FnLiteralLinesUptoCardSaid : Prop := Claim7.holds Tryz.pinned (.plain (OpenSpec.upto fnLiteralLinesSpec)) fnLiteralLinesUptoCard

/-- THE SECOND FORM's CARD OF 'laws.FnOpenTag'. -/
def fnOpenTagUptoCard : Claim7 := { stood := { row := fnOpenTagUptoRow, standIns := [], harness := (true, "e80ac551f16ff98717427f33c142b9b0131fbeefeec274df97fea67d5a4816aa"), looks := true }, kinds := [], alts := [], laidByText := true, laidKinds := [.data, .data, .data, .data, .sentinel, .sentinel, .data, .pinned], laidTests := true, laidLooks := .later }
def FnOpenTagUptoCardSaid : Prop := Claim7.holds Tryz.pinned (.plain (OpenSpec.upto fnOpenTagSpec)) fnOpenTagUptoCard

/-- THE SECOND FORM's CARD OF 'laws.FnOutdent'. -/
def fnOutdentUptoCard : Claim7 := { stood := { row := fnOutdentUptoRow, standIns := [], harness := (true, "e80ac551f16ff98717427f33c142b9b0131fbeefeec274df97fea67d5a4816aa"), looks := true }, kinds := [], alts := [], laidByText := true, laidKinds := [.data, .data, .data, .data, .sentinel, .sentinel, .data, .pinned], laidTests := true, laidLooks := .later }
def FnOutdentUptoCardSaid : Prop := Claim7.holds Tryz.pinned (.plain (OpenSpec.upto fnOutdentSpec)) fnOutdentUptoCard

/-- THE SECOND FORM's CARD OF 'laws.FnSeven'. -/
def fnSevenUptoCard : Claim7 := { stood := { row := fnSevenUptoRow, standIns := [], harness := (true, "e80ac551f16ff98717427f33c142b9b0131fbeefeec274df97fea67d5a4816aa"), looks := true }, kinds := [], alts := [], laidByText := true, laidKinds := [.data, .data, .data, .data, .sentinel, .sentinel, .data, .pinned], laidTests := true, laidLooks := .later }
def FnSevenUptoCardSaid : Prop := Claim7.holds Tryz.pinned (.plain (OpenSpec.upto fnSevenSpec)) fnSevenUptoCard

/-- THE SECOND FORM's CARD OF 'laws.FnSmartQuotes'. -/
def fnSmartQuotesUptoCard : Claim7 := { stood := { row := fnSmartQuotesUptoRow, standIns := [], harness := (true, "e80ac551f16ff98717427f33c142b9b0131fbeefeec274df97fea67d5a4816aa"), looks := true }, kinds := [], alts := [], laidByText := true, laidKinds := [.data, .data, .data, .data, .sentinel, .sentinel, .data, .pinned], laidTests := true, laidLooks := .later }
def FnSmartQuotesUptoCardSaid : Prop := Claim7.holds Tryz.pinned (.plain (OpenSpec.upto fnSmartQuotesSpec)) fnSmartQuotesUptoCard

/-- THE SECOND FORM's CARD OF 'laws.FnStruck'. -/
def fnStruckUptoCard : Claim7 := { stood := { row := fnStruckUptoRow, standIns := [], harness := (true, "e80ac551f16ff98717427f33c142b9b0131fbeefeec274df97fea67d5a4816aa"), looks := true }, kinds := [], alts := [], laidByText := true, laidKinds := [.data, .data, .data, .data, .sentinel, .sentinel, .data, .pinned], laidTests := true, laidLooks := .later }
def FnStruckUptoCardSaid : Prop := Claim7.holds Tryz.pinned (.plain (OpenSpec.upto fnStruckSpec)) fnStruckUptoCard

/-- THE SECOND FORM's CARD OF 'laws.FnUnclosed'. -/
def fnUnclosedUptoCard : Claim7 := { stood := { row := fnUnclosedUptoRow, standIns := [], harness := (true, "e80ac551f16ff98717427f33c142b9b0131fbeefeec274df97fea67d5a4816aa"), looks := true }, kinds := [], alts := [], laidByText := true, laidKinds := [.data, .data, .data, .data, .sentinel, .sentinel, .data, .pinned], laidTests := true, laidLooks := .later }
def FnUnclosedUptoCardSaid : Prop := Claim7.holds Tryz.pinned (.plain (OpenSpec.upto fnUnclosedSpec)) fnUnclosedUptoCard
end Rows
end Go.Proofs.YtdnlfdppjfjncaaGreatDoor
