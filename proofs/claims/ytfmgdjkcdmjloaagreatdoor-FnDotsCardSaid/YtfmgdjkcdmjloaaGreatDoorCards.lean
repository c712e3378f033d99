/-
  DERIVED. GIVEN WITH THE SEED: THE CARDS: each row of YtfmgdjkcdmjloaaGreatDoorRows.lean that lists a variable, with what it lists TIED to the program's text (the seventh form; the later family's looks); each row that meets fmt, with fmt's text TOLD by the authors' own Lean function (tested against real Go, not proved from fmt's source: count such statements apart). THE CARD IS WHAT COUNTS. Prove the row's statement (the work); the ties are given (YtfmgdjkcdmjloaaGreatDoorTie.lean); close each card by the builder's one call (the guide's Derived/Test/ToyasCard.lean, 'card_holds'). Laid BY PROGRAM, IN A SANDBOX (cutbox-door.mjs). By AI agents, Wed Nov 11 2026. No macro, syntax, notation, axiom, sorry.
-/
import Derived.Test.YtfmgdjkcdmjloaaGreatDoorRows
import GoSem.ClaimSeven
namespace Go.Proofs.YtfmgdjkcdmjloaaGreatDoor
namespace Rows

/-- THE TIED CARD OF 'laws.FnAddress'. -/
def fnAddressCard : Claim7 := { stood := { row := fnAddressRow, standIns := [], harness := (true, "5d0112a4d31c45c9a6c59f6cf5b513aa99900bb9657a26e038751aa8b31d6dd9"), looks := true }, kinds := [], alts := [], laidByText := true, laidKinds := [.data, .data, .data, .data, .sentinel, .sentinel, .data, .pinned], laidTests := true, laidLooks := .later }
def FnAddressCardSaid : Prop := Claim7.holds Tryz.pinned (.plain (OpenSpec.ofChange fnAddressSpec)) fnAddressCard

/-- THE TIED CARD OF 'laws.FnDots'. -/
def fnDotsCard : Claim7 := { stood := { row := fnDotsRow, standIns := [], harness := (true, "5d0112a4d31c45c9a6c59f6cf5b513aa99900bb9657a26e038751aa8b31d6dd9"), looks := true }, kinds := [], alts := [], laidByText := true, laidKinds := [.data, .data, .data, .data, .sentinel, .sentinel, .data, .pinned], laidTests := true, laidLooks := .later }
def FnDotsCardSaid : Prop := Claim7.holds Tryz.pinned (.plain (OpenSpec.ofChange fnDotsSpec)) fnDotsCard

/-- THE TIED CARD OF 'laws.FnHeadID'. -/
def fnHeadIDCard : Claim7 := { stood := { row := fnHeadIDRow, standIns := [], harness := (true, "5d0112a4d31c45c9a6c59f6cf5b513aa99900bb9657a26e038751aa8b31d6dd9"), looks := true }, kinds := [], alts := [], laidByText := true, laidKinds := [.data, .data, .data, .data, .sentinel, .sentinel, .data, .pinned], laidTests := true, laidLooks := .later }
def FnHeadIDCardSaid : Prop := Claim7.holds Tryz.pinned (.plain (OpenSpec.ofChange fnHeadIDSpec)) fnHeadIDCard

/-- THE TIED CARD OF 'laws.FnInnermost'. -/
def fnInnermostCard : Claim7 := { stood := { row := fnInnermostRow, standIns := [], harness := (true, "5d0112a4d31c45c9a6c59f6cf5b513aa99900bb9657a26e038751aa8b31d6dd9"), looks := true }, kinds := [], alts := [], laidByText := true, laidKinds := [.data, .data, .data, .data, .sentinel, .sentinel, .data, .pinned], laidTests := true, laidLooks := .later }
def FnInnermostCardSaid : Prop := Claim7.holds Tryz.pinned (.plain (OpenSpec.ofChange fnInnermostSpec)) fnInnermostCard

/-- THE TIED CARD OF 'laws.FnLink'. -/
def fnLinkCard : Claim7 := { stood := { row := fnLinkRow, standIns := [], harness := (true, "5d0112a4d31c45c9a6c59f6cf5b513aa99900bb9657a26e038751aa8b31d6dd9"), looks := true }, kinds := [], alts := [], laidByText := true, laidKinds := [.data, .data, .data, .data, .sentinel, .sentinel, .data, .pinned], laidTests := true, laidLooks := .later }
def FnLinkCardSaid : Prop := Claim7.holds Tryz.pinned (.plain (OpenSpec.ofChange fnLinkSpec)) fnLinkCard

/-- THE TIED CARD OF 'laws.FnNested'. -/
def fnNestedCard : Claim7 := { stood := { row := fnNestedRow, standIns := [], harness := (true, "5d0112a4d31c45c9a6c59f6cf5b513aa99900bb9657a26e038751aa8b31d6dd9"), looks := true }, kinds := [], alts := [], laidByText := true, laidKinds := [.data, .data, .data, .data, .sentinel, .sentinel, .data, .pinned], laidTests := true, laidLooks := .later }
def FnNestedCardSaid : Prop := Claim7.holds Tryz.pinned (.plain (OpenSpec.ofChange fnNestedSpec)) fnNestedCard

/-- THE TIED CARD OF 'laws.FnNumeric'. -/
def fnNumericCard : Claim7 := { stood := { row := fnNumericRow, standIns := [], harness := (true, "5d0112a4d31c45c9a6c59f6cf5b513aa99900bb9657a26e038751aa8b31d6dd9"), looks := true }, kinds := [], alts := [], laidByText := true, laidKinds := [.data, .data, .data, .data, .sentinel, .sentinel, .data, .pinned], laidTests := true, laidLooks := .later }
def FnNumericCardSaid : Prop := Claim7.holds Tryz.pinned (.plain (OpenSpec.ofChange fnNumericSpec)) fnNumericCard

/-- THE TIED CARD OF 'laws.FnWWW'. -/
def fnWWWCard : Claim7 := { stood := { row := fnWWWRow, standIns := [], harness := (true, "5d0112a4d31c45c9a6c59f6cf5b513aa99900bb9657a26e038751aa8b31d6dd9"), looks := true }, kinds := [], alts := [], laidByText := true, laidKinds := [.data, .data, .data, .data, .sentinel, .sentinel, .data, .pinned], laidTests := true, laidLooks := .later }
def FnWWWCardSaid : Prop := Claim7.holds Tryz.pinned (.plain (OpenSpec.ofChange fnWWWSpec)) fnWWWCard

/-- THE SECOND FORM's CARD OF 'laws.FnAddress'. -/
def fnAddressUptoCard : Claim7 := { stood := { row := fnAddressUptoRow, standIns := [], harness := (true, "5d0112a4d31c45c9a6c59f6cf5b513aa99900bb9657a26e038751aa8b31d6dd9"), looks := true }, kinds := [], alts := [], laidByText := true, laidKinds := [.data, .data, .data, .data, .sentinel, .sentinel, .data, .pinned], laidTests := true, laidLooks := .later }
def FnAddressUptoCardSaid : Prop := Claim7.holds Tryz.pinned (.plain (OpenSpec.upto fnAddressSpec)) fnAddressUptoCard

/-- THE SECOND FORM's CARD OF 'laws.FnDots'. -/
def fnDotsUptoCard : Claim7 := { stood := { row := fnDotsUptoRow, standIns := [], harness := (true, "5d0112a4d31c45c9a6c59f6cf5b513aa99900bb9657a26e038751aa8b31d6dd9"), looks := true }, kinds := [], alts := [], laidByText := true, laidKinds := [.data, .data, .data, .data, .sentinel, .sentinel, .data, .pinned], laidTests := true, laidLooks := .later }
def FnDotsUptoCardSaid : Prop := Claim7.holds Tryz.pinned (.plain (OpenSpec.upto fnDotsSpec)) fnDotsUptoCard

/-- THE SECOND FORM's CARD OF 'laws.FnHeadID'. -/
def fnHeadIDUptoCard : Claim7 := { stood := { row := fnHeadIDUptoRow, standIns := [], harness := (true, "5d0112a4d31c45c9a6c59f6cf5b513aa99900bb9657a26e038751aa8b31d6dd9"), looks := true }, kinds := [], alts := [], laidByText := true, laidKinds := [.data, .data, .data, .data, .sentinel, .sentinel, .data, .pinned], laidTests := true, laidLooks := .later }
def FnHeadIDUptoCardSaid : Prop := Claim7.holds Tryz.pinned (.plain (OpenSpec.upto fnHeadIDSpec)) fnHeadIDUptoCard

/-- THE SECOND FORM's CARD OF 'laws.FnInnermost'. -/
def fnInnermostUptoCard : Claim7 := { stood := { row := fnInnermostUptoRow, standIns := [], harness := (true, "5d0112a4d31c45c9a6c59f6cf5b513aa99900bb9657a26e038751aa8b31d6dd9"), looks := true }, kinds := [], alts := [], laidByText := true, laidKinds := [.data, .data, .data, .data, .sentinel, .sentinel, .data, .pinned], laidTests := true, laidLooks := .later }
def FnInnermostUptoCardSaid : Prop := Claim7.holds Tryz.pinned (.plain (OpenSpec.upto fnInnermostSpec)) fnInnermostUptoCard

/-- THE SECOND FORM's CARD OF 'laws.FnLink'. -/
def fnLinkUptoCard : Claim7 := { stood := { row := fnLinkUptoRow, standIns := [], harness := (true, "5d0112a4d31c45c9a6c59f6cf5b513aa99900bb9657a26e038751aa8b31d6dd9"), looks := true }, kinds := [], alts := [], laidByText := true, laidKinds := [.data, .data, .data, .data, .sentinel, .sentinel, .data, .pinned], laidTests := true, laidLooks := .later }
def FnLinkUptoCardSaid : Prop := Claim7.holds Tryz.pinned (.plain (OpenSpec.upto fnLinkSpec)) fnLinkUptoCard

/-- THE SECOND FORM's CARD OF 'laws.FnNested'. -/
def fnNestedUptoCard : Claim7 := { stood := { row := fnNestedUptoRow, standIns := [], harness := (true, "5d0112a4d31c45c9a6c59f6cf5b513aa99900bb9657a26e038751aa8b31d6dd9"), looks := true }, kinds := [], alts := [], laidByText := true, laidKinds := [.data, .data, .data, .data, .sentinel, .sentinel, .data, .pinned], laidTests := true, laidLooks := .later }
def FnNestedUptoCardSaid : Prop := Claim7.holds Tryz.pinned (.plain (OpenSpec.upto fnNestedSpec)) fnNestedUptoCard

/-- THE SECOND FORM's CARD OF 'laws.FnNumeric'. -/
def fnNumericUptoCard : Claim7 := { stood := { row := fnNumericUptoRow, standIns := [], harness := (true, "5d0112a4d31c45c9a6c59f6cf5b513aa99900bb9657a26e038751aa8b31d6dd9"), looks := true }, kinds := [], alts := [], laidByText := true, laidKinds := [.data, .data, .data, .data, .sentinel, .sentinel, .data, .pinned], laidTests := true, laidLooks := .later }
def FnNumericUptoCardSaid : Prop := Claim7.holds Tryz.pinned (.plain (OpenSpec.upto fnNumericSpec)) fnNumericUptoCard

/-- THE SECOND FORM's CARD OF 'laws.FnWWW'. -/
def fnWWWUptoCard : Claim7 := { stood := { row := fnWWWUptoRow, standIns := [], harness := (true, "5d0112a4d31c45c9a6c59f6cf5b513aa99900bb9657a26e038751aa8b31d6dd9"), looks := true }, kinds := [], alts := [], laidByText := true, laidKinds := [.data, .data, .data, .data, .sentinel, .sentinel, .data, .pinned], laidTests := true, laidLooks := .later }
def FnWWWUptoCardSaid : Prop := Claim7.holds Tryz.pinned (.plain (OpenSpec.upto fnWWWSpec)) fnWWWUptoCard
end Rows
end Go.Proofs.YtfmgdjkcdmjloaaGreatDoor
