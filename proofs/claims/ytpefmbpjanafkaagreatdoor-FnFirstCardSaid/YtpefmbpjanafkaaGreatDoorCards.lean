/-
  DERIVED. GIVEN WITH THE SEED: THE CARDS: each row of YtpefmbpjanafkaaGreatDoorRows.lean that lists a variable, with what it lists TIED to the program's text (the seventh form; the later family's looks); each row that meets fmt, with fmt's text TOLD by the authors' own Lean function (tested against real Go, not proved from fmt's source: count such statements apart). THE CARD IS WHAT COUNTS. Prove the row's statement (the work); the ties are given (YtpefmbpjanafkaaGreatDoorTie.lean); close each card by the builder's one call (the guide's Derived/Test/ToyasCard.lean, 'card_holds'). Laid BY PROGRAM, IN A SANDBOX (cutbox-door.mjs). By AI agents, Wed Nov 11 2026. No macro, syntax, notation, axiom, sorry.
-/
import Derived.Test.YtpefmbpjanafkaaGreatDoorRows
import GoSem.ClaimSeven
namespace Go.Proofs.YtpefmbpjanafkaaGreatDoor
namespace Rows

/-- THE TIED CARD OF 'laws.FnKeptTree'. -/
def fnKeptTreeCard : Claim7 := { stood := { row := fnKeptTreeRow, standIns := [], harness := (true, "74bf2e092f3722babcd1a1121cc14b0239e08c0846e625ba6ed199fb5f9c7304"), looks := true }, kinds := [], alts := [], laidByText := true, laidKinds := [.data, .data, .data, .data, .sentinel, .sentinel, .data, .pinned], laidTests := true, laidLooks := .later }
def FnKeptTreeCardSaid : Prop := Claim7.holds Tryz.pinned (.plain (OpenSpec.ofChange fnKeptTreeSpec)) fnKeptTreeCard

/-- THE TIED CARD OF 'laws.FnLazyAnywhere'. -/
def fnLazyAnywhereCard : Claim7 := { stood := { row := fnLazyAnywhereRow, standIns := [], harness := (true, "74bf2e092f3722babcd1a1121cc14b0239e08c0846e625ba6ed199fb5f9c7304"), looks := true }, kinds := [], alts := [], laidByText := true, laidKinds := [.data, .data, .data, .data, .sentinel, .sentinel, .data, .pinned], laidTests := true, laidLooks := .later }
def FnLazyAnywhereCardSaid : Prop := Claim7.holds Tryz.pinned (.plain (OpenSpec.ofChange fnLazyAnywhereSpec)) fnLazyAnywhereCard

/-- THE TIED CARD OF 'laws.FnDeep'. -/
def fnDeepCard : Claim7 := { stood := { row := fnDeepRow, standIns := [], harness := (true, "74bf2e092f3722babcd1a1121cc14b0239e08c0846e625ba6ed199fb5f9c7304"), looks := true }, kinds := [], alts := [], laidByText := true, laidKinds := [.data, .data, .data, .data, .sentinel, .sentinel, .data, .pinned], laidTests := true, laidLooks := .later }
def FnDeepCardSaid : Prop := Claim7.holds Tryz.pinned (.plain (OpenSpec.ofChange fnDeepSpec)) fnDeepCard

/-- THE TIED CARD OF 'laws.FnFenceTicks'. -/
def fnFenceTicksCard : Claim7 := { stood := { row := fnFenceTicksRow, standIns := [], harness := (true, "74bf2e092f3722babcd1a1121cc14b0239e08c0846e625ba6ed199fb5f9c7304"), looks := true }, kinds := [], alts := [], laidByText := true, laidKinds := [.data, .data, .data, .data, .sentinel, .sentinel, .data, .pinned], laidTests := true, laidLooks := .later }
def FnFenceTicksCardSaid : Prop := Claim7.holds Tryz.pinned (.plain (OpenSpec.ofChange fnFenceTicksSpec)) fnFenceTicksCard

/-- THE TIED CARD OF 'laws.FnFirst'. -/
def fnFirstCard : Claim7 := { stood := { row := fnFirstRow, standIns := [], harness := (true, "74bf2e092f3722babcd1a1121cc14b0239e08c0846e625ba6ed199fb5f9c7304"), looks := true }, kinds := [], alts := [], laidByText := true, laidKinds := [.data, .data, .data, .data, .sentinel, .sentinel, .data, .pinned], laidTests := true, laidLooks := .later }
def FnFirstCardSaid : Prop := Claim7.holds Tryz.pinned (.plain (OpenSpec.ofChange fnFirstSpec)) fnFirstCard

/-- THE TIED CARD OF 'laws.FnIndentColumns'. -/
def fnIndentColumnsCard : Claim7 := { stood := { row := fnIndentColumnsRow, standIns := [], harness := (true, "74bf2e092f3722babcd1a1121cc14b0239e08c0846e625ba6ed199fb5f9c7304"), looks := true }, kinds := [], alts := [], laidByText := true, laidKinds := [.data, .data, .data, .data, .sentinel, .sentinel, .data, .pinned], laidTests := true, laidLooks := .later }
def FnIndentColumnsCardSaid : Prop := Claim7.holds Tryz.pinned (.plain (OpenSpec.ofChange fnIndentColumnsSpec)) fnIndentColumnsCard

/-- THE TIED CARD OF 'laws.FnItems'. -/
def fnItemsCard : Claim7 := { stood := { row := fnItemsRow, standIns := [], harness := (true, "74bf2e092f3722babcd1a1121cc14b0239e08c0846e625ba6ed199fb5f9c7304"), looks := true }, kinds := [], alts := [], laidByText := true, laidKinds := [.data, .data, .data, .data, .sentinel, .sentinel, .data, .pinned], laidTests := true, laidLooks := .later }
def FnItemsCardSaid : Prop := Claim7.holds Tryz.pinned (.plain (OpenSpec.ofChange fnItemsSpec)) fnItemsCard

/-- THE TIED CARD OF 'laws.FnLabels'. -/
def fnLabelsCard : Claim7 := { stood := { row := fnLabelsRow, standIns := [], harness := (true, "74bf2e092f3722babcd1a1121cc14b0239e08c0846e625ba6ed199fb5f9c7304"), looks := true }, kinds := [], alts := [], laidByText := true, laidKinds := [.data, .data, .data, .data, .sentinel, .sentinel, .data, .pinned], laidTests := true, laidLooks := .later }
def FnLabelsCardSaid : Prop := Claim7.holds Tryz.pinned (.plain (OpenSpec.ofChange fnLabelsSpec)) fnLabelsCard

/-- THE TIED CARD OF 'laws.FnParagraphs'. -/
def fnParagraphsCard : Claim7 := { stood := { row := fnParagraphsRow, standIns := [], harness := (true, "74bf2e092f3722babcd1a1121cc14b0239e08c0846e625ba6ed199fb5f9c7304"), looks := true }, kinds := [], alts := [], laidByText := true, laidKinds := [.data, .data, .data, .data, .sentinel, .sentinel, .data, .pinned], laidTests := true, laidLooks := .later }
def FnParagraphsCardSaid : Prop := Claim7.holds Tryz.pinned (.plain (OpenSpec.ofChange fnParagraphsSpec)) fnParagraphsCard

/-- THE TIED CARD OF 'laws.FnRawBlock'. -/
def fnRawBlockCard : Claim7 := { stood := { row := fnRawBlockRow, standIns := [], harness := (true, "74bf2e092f3722babcd1a1121cc14b0239e08c0846e625ba6ed199fb5f9c7304"), looks := true }, kinds := [], alts := [], laidByText := true, laidKinds := [.data, .data, .data, .data, .sentinel, .sentinel, .data, .pinned], laidTests := true, laidLooks := .later }
def FnRawBlockCardSaid : Prop := Claim7.holds Tryz.pinned (.plain (OpenSpec.ofChange fnRawBlockSpec)) fnRawBlockCard

/-- THE TIED CARD OF 'laws.FnTaskList'. -/
def fnTaskListCard : Claim7 := { stood := { row := fnTaskListRow, standIns := [], harness := (true, "74bf2e092f3722babcd1a1121cc14b0239e08c0846e625ba6ed199fb5f9c7304"), looks := true }, kinds := [], alts := [], laidByText := true, laidKinds := [.data, .data, .data, .data, .sentinel, .sentinel, .data, .pinned], laidTests := true, laidLooks := .later }
def FnTaskListCardSaid : Prop := Claim7.holds Tryz.pinned (.plain (OpenSpec.ofChange fnTaskListSpec)) fnTaskListCard

/-- THE TIED CARD OF 'laws.FnUnderlined'. -/
def fnUnderlinedCard : Claim7 := { stood := { row := fnUnderlinedRow, standIns := [], harness := (true, "74bf2e092f3722babcd1a1121cc14b0239e08c0846e625ba6ed199fb5f9c7304"), looks := true }, kinds := [], alts := [], laidByText := true, laidKinds := [.data, .data, .data, .data, .sentinel, .sentinel, .data, .pinned], laidTests := true, laidLooks := .later }
def FnUnderlinedCardSaid : Prop := Claim7.holds Tryz.pinned (.plain (OpenSpec.ofChange fnUnderlinedSpec)) fnUnderlinedCard

/-- THE SECOND FORM's CARD OF 'laws.FnKeptTree'. -/
def fnKeptTreeUptoCard : Claim7 := { stood := { row := fnKeptTreeUptoRow, standIns := [], harness := (true, "74bf2e092f3722babcd1a1121cc14b0239e08c0846e625ba6ed199fb5f9c7304"), looks := true }, kinds := [], alts := [], laidByText := true, laidKinds := [.data, .data, .data, .data, .sentinel, .sentinel, .data, .pinned], laidTests := true, laidLooks := .later }
def FnKeptTreeUptoCardSaid : Prop := Claim7.holds Tryz.pinned (.plain (OpenSpec.upto fnKeptTreeSpec)) fnKeptTreeUptoCard

/-- THE SECOND FORM's CARD OF 'laws.FnLazyAnywhere'. -/
def fnLazyAnywhereUptoCard : Claim7 := { stood := { row := fnLazyAnywhereUptoRow, standIns := [], harness := (true, "74bf2e092f3722babcd1a1121cc14b0239e08c0846e625ba6ed199fb5f9c7304"), looks := true }, kinds := [], alts := [], laidByText := true, laidKinds := [.data, .data, .data, .data, .sentinel, .sentinel, .data, .pinned], laidTests := true, laidLooks := .later }
def FnLazyAnywhereUptoCardSaid : Prop := Claim7.holds Tryz.pinned (.plain (OpenSpec.upto fnLazyAnywhereSpec)) fnLazyAnywhereUptoCard

/-- THE SECOND FORM's CARD OF 'laws.FnDeep'. -/
def fnDeepUptoCard : Claim7 := { stood := { row := fnDeepUptoRow, standIns := [], harness := (true, "74bf2e092f3722babcd1a1121cc14b0239e08c0846e625ba6ed199fb5f9c7304"), looks := true }, kinds := [], alts := [], laidByText := true, laidKinds := [.data, .data, .data, .data, .sentinel, .sentinel, .data, .pinned], laidTests := true, laidLooks := .later }
def FnDeepUptoCardSaid : Prop := Claim7.holds Tryz.pinned (.plain (OpenSpec.upto fnDeepSpec)) fnDeepUptoCard

/-- THE SECOND FORM's CARD OF 'laws.FnFenceTicks'. -/
def fnFenceTicksUptoCard : Claim7 := { stood := { row := fnFenceTicksUptoRow, standIns := [], harness := (true, "74bf2e092f3722babcd1a1121cc14b0239e08c0846e625ba6ed199fb5f9c7304"), looks := true }, kinds := [], alts := [], laidByText := true, laidKinds := [.data, .data, .data, .data, .sentinel, .sentinel, .data, .pinned], laidTests := true, laidLooks := .later }
def FnFenceTicksUptoCardSaid : Prop := Claim7.holds Tryz.pinned (.plain (OpenSpec.upto fnFenceTicksSpec)) fnFenceTicksUptoCard

/-- THE SECOND FORM's CARD OF 'laws.FnFirst'. -/
def fnFirstUptoCard : Claim7 := { stood := { row := fnFirstUptoRow, standIns := [], harness := (true, "74bf2e092f3722babcd1a1121cc14b0239e08c0846e625ba6ed199fb5f9c7304"), looks := true }, kinds := [], alts := [], laidByText := true, laidKinds := [.data, .data, .data, .data, .sentinel, .sentinel, .data, .pinned], laidTests := true, laidLooks := .later }
def FnFirstUptoCardSaid : Prop := Claim7.holds Tryz.pinned (.plain (OpenSpec.upto fnFirstSpec)) fnFirstUptoCard

/-- THE SECOND FORM's CARD OF 'laws.FnIndentColumns'. -/
def fnIndentColumnsUptoCard : Claim7 := { stood := { row := fnIndentColumnsUptoRow, standIns := [], harness := (true, "74bf2e092f3722babcd1a1121cc14b0239e08c0846e625ba6ed199fb5f9c7304"), looks := true }, kinds := [], alts := [], laidByText := true, laidKinds := [.data, .data, .data, .data, .sentinel, .sentinel, .data, .pinned], laidTests := true, laidLooks := .later }
def FnIndentColumnsUptoCardSaid : Prop := Claim7.holds Tryz.pinned (.plain (OpenSpec.upto fnIndentColumnsSpec)) fnIndentColumnsUptoCard

/-- THE SECOND FORM's CARD OF 'laws.FnItems'. -/
def fnItemsUptoCard : Claim7 := { stood := { row := fnItemsUptoRow, standIns := [], harness := (true, "74bf2e092f3722babcd1a1121cc14b0239e08c0846e625ba6ed199fb5f9c7304"), looks := true }, kinds := [], alts := [], laidByText := true, laidKinds := [.data, .data, .data, .data, .sentinel, .sentinel, .data, .pinned], laidTests := true, laidLooks := .later }
def FnItemsUptoCardSaid : Prop := Claim7.holds Tryz.pinned (.plain (OpenSpec.upto fnItemsSpec)) fnItemsUptoCard

/-- THE SECOND FORM's CARD OF 'laws.FnLabels'. -/
def fnLabelsUptoCard : Claim7 := { stood := { row := fnLabelsUptoRow, standIns := [], harness := (true, "74bf2e092f3722babcd1a1121cc14b0239e08c0846e625ba6ed199fb5f9c7304"), looks := true }, kinds := [], alts := [], laidByText := true, laidKinds := [.data, .data, .data, .data, .sentinel, .sentinel, .data, .pinned], laidTests := true, laidLooks := .later }
def FnLabelsUptoCardSaid : Prop := Claim7.holds Tryz.pinned (.plain (OpenSpec.upto fnLabelsSpec)) fnLabelsUptoCard

/-- THE SECOND FORM's CARD OF 'laws.FnParagraphs'. -/
def fnParagraphsUptoCard : Claim7 := { stood := { row := fnParagraphsUptoRow, standIns := [], harness := (true, "74bf2e092f3722babcd1a1121cc14b0239e08c0846e625ba6ed199fb5f9c7304"), looks := true }, kinds := [], alts := [], laidByText := true, laidKinds := [.data, .data, .data, .data, .sentinel, .sentinel, .data, .pinned], laidTests := true, laidLooks := .later }
def FnParagraphsUptoCardSaid : Prop := Claim7.holds Tryz.pinned (.plain (OpenSpec.upto fnParagraphsSpec)) fnParagraphsUptoCard

/-- THE SECOND FORM's CARD OF 'laws.FnRawBlock'. -/
def fnRawBlockUptoCard : Claim7 := { stood := { row := fnRawBlockUptoRow, standIns := [], harness := (true, "74bf2e092f3722babcd1a1121cc14b0239e08c0846e625ba6ed199fb5f9c7304"), looks := true }, kinds := [], alts := [], laidByText := true, laidKinds := [.data, .data, .data, .data, .sentinel, .sentinel, .data, .pinned], laidTests := true, laidLooks := .later }
def FnRawBlockUptoCardSaid : Prop := Claim7.holds Tryz.pinned (.plain (OpenSpec.upto fnRawBlockSpec)) fnRawBlockUptoCard

/-- THE SECOND FORM's CARD OF 'laws.FnTaskList'. -/
def fnTaskListUptoCard : Claim7 := { stood := { row := fnTaskListUptoRow, standIns := [], harness := (true, "74bf2e092f3722babcd1a1121cc14b0239e08c0846e625ba6ed199fb5f9c7304"), looks := true }, kinds := [], alts := [], laidByText := true, laidKinds := [.data, .data, .data, .data, .sentinel, .sentinel, .data, .pinned], laidTests := true, laidLooks := .later }
def FnTaskListUptoCardSaid : Prop := Claim7.holds Tryz.pinned (.plain (OpenSpec.upto fnTaskListSpec)) fnTaskListUptoCard

/-- THE SECOND FORM's CARD OF 'laws.FnUnderlined'. -/
def fnUnderlinedUptoCard : Claim7 := { stood := { row := fnUnderlinedUptoRow, standIns := [], harness := (true, "74bf2e092f3722babcd1a1121cc14b0239e08c0846e625ba6ed199fb5f9c7304"), looks := true }, kinds := [], alts := [], laidByText := true, laidKinds := [.data, .data, .data, .data, .sentinel, .sentinel, .data, .pinned], laidTests := true, laidLooks := .later }
def FnUnderlinedUptoCardSaid : Prop := Claim7.holds Tryz.pinned (.plain (OpenSpec.upto fnUnderlinedSpec)) fnUnderlinedUptoCard
end Rows
end Go.Proofs.YtpefmbpjanafkaaGreatDoor
