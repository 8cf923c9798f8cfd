/-
  DERIVED. GIVEN WITH THE SEED: THE CARDS: each row of YtpclhlhcegcflaaGreatDoorRows.lean that lists a variable, with what it lists TIED to the program's text (the seventh form; the later family's looks); each row that meets fmt, with fmt's text TOLD by the authors' own Lean function (tested against real Go, not proved from fmt's source: count such statements apart). THE CARD IS WHAT COUNTS. Prove the row's statement (the work); the ties are given (YtpclhlhcegcflaaGreatDoorTie.lean); close each card by the builder's one call (the guide's Derived/Test/ToyasCard.lean, 'card_holds'). Laid BY PROGRAM, IN A SANDBOX (cutbox-door.mjs). By AI agents, Wed Nov 11 2026. No macro, syntax, notation, axiom, sorry.
-/
import Derived.Test.YtpclhlhcegcflaaGreatDoorRows
import GoSem.ClaimSeven
namespace Go.Proofs.YtpclhlhcegcflaaGreatDoor
namespace Rows

/-- THE TIED CARD OF 'laws.FnStory'. -/
def fnStoryCard : Claim7 := { stood := { row := fnStoryRow, standIns := [], harness := (true, "4882b15d2032bf7e0dbb7d66f34b5e460ef23978ae3d737b8bb73bb3f6e80227"), looks := true }, kinds := [], alts := [], laidByText := true, laidKinds := [.data, .pinned, .data, .listed, .data, .data, .sentinel, .sentinel, .data, .data, .data, .data, .data, .data, .data, .data, .data, .data, .pinned, .data, .data], laidTests := true, laidLooks := .later }
def FnStoryCardSaid : Prop := Claim7.holds Tryz.pinned (.plain (OpenSpec.ofChange fnStorySpec)) fnStoryCard

/-- THE TIED CARD OF 'laws.FnStoryTwo'. -/
def fnStoryTwoCard : Claim7 := { stood := { row := fnStoryTwoRow, standIns := [], harness := (true, "4882b15d2032bf7e0dbb7d66f34b5e460ef23978ae3d737b8bb73bb3f6e80227"), looks := true }, kinds := [], alts := [], laidByText := true, laidKinds := [.data, .pinned, .data, .listed, .data, .data, .sentinel, .sentinel, .data, .data, .data, .data, .data, .data, .data, .data, .data, .data, .pinned, .data, .data], laidTests := true, laidLooks := .later }
def FnStoryTwoCardSaid : Prop := Claim7.holds Tryz.pinned (.plain (OpenSpec.ofChange fnStoryTwoSpec)) fnStoryTwoCard

/-- THE TIED CARD OF 'laws.FnRetold'. -/
def fnRetoldCard : Claim7 := { stood := { row := fnRetoldRow, standIns := [], harness := (true, "4882b15d2032bf7e0dbb7d66f34b5e460ef23978ae3d737b8bb73bb3f6e80227"), looks := true }, kinds := [], alts := [], laidByText := true, laidKinds := [.data, .pinned, .data, .listed, .data, .data, .sentinel, .sentinel, .data, .data, .data, .data, .data, .data, .data, .data, .data, .data, .pinned, .data, .data], laidTests := true, laidLooks := .later }
def FnRetoldCardSaid : Prop := Claim7.holds Tryz.pinned (.plain (OpenSpec.ofChange fnRetoldSpec)) fnRetoldCard

/-- THE TIED CARD OF 'laws.FnStoryForms'. -/
def fnStoryFormsCard : Claim7 := { stood := { row := fnStoryFormsRow, standIns := [], harness := (true, "4882b15d2032bf7e0dbb7d66f34b5e460ef23978ae3d737b8bb73bb3f6e80227"), looks := true }, kinds := [], alts := [], laidByText := true, laidKinds := [.data, .pinned, .data, .listed, .data, .data, .sentinel, .sentinel, .data, .data, .data, .data, .data, .data, .data, .data, .data, .data, .pinned, .data, .data], laidTests := true, laidLooks := .later }
def FnStoryFormsCardSaid : Prop := Claim7.holds Tryz.pinned (.plain (OpenSpec.ofChange fnStoryFormsSpec)) fnStoryFormsCard

/-- THE TIED CARD OF 'laws.FnStoryRefused'. -/
def fnStoryRefusedCard : Claim7 := { stood := { row := fnStoryRefusedRow, standIns := [], harness := (true, "4882b15d2032bf7e0dbb7d66f34b5e460ef23978ae3d737b8bb73bb3f6e80227"), looks := true }, kinds := [], alts := [], laidByText := true, laidKinds := [.data, .pinned, .data, .listed, .data, .data, .sentinel, .sentinel, .data, .data, .data, .data, .data, .data, .data, .data, .data, .data, .pinned, .data, .data], laidTests := true, laidLooks := .later }
def FnStoryRefusedCardSaid : Prop := Claim7.holds Tryz.pinned (.plain (OpenSpec.ofChange fnStoryRefusedSpec)) fnStoryRefusedCard

/-- THE TIED CARD OF 'laws.FnStoryTexts'. -/
def fnStoryTextsCard : Claim7 := { stood := { row := fnStoryTextsRow, standIns := [], harness := (true, "4882b15d2032bf7e0dbb7d66f34b5e460ef23978ae3d737b8bb73bb3f6e80227"), looks := true }, kinds := [], alts := [], laidByText := true, laidKinds := [.data, .pinned, .data, .listed, .data, .data, .sentinel, .sentinel, .data, .data, .data, .data, .data, .data, .data, .data, .data, .data, .pinned, .data, .data], laidTests := true, laidLooks := .later }
def FnStoryTextsCardSaid : Prop := Claim7.holds Tryz.pinned (.plain (OpenSpec.ofChange fnStoryTextsSpec)) fnStoryTextsCard

/-- THE TIED CARD OF 'laws.FnRetoldRound'. -/
def fnRetoldRoundCard : Claim7 := { stood := { row := fnRetoldRoundRow, standIns := [], harness := (true, "4882b15d2032bf7e0dbb7d66f34b5e460ef23978ae3d737b8bb73bb3f6e80227"), looks := true }, kinds := [], alts := [], laidByText := true, laidKinds := [.data, .pinned, .data, .listed, .data, .data, .sentinel, .sentinel, .data, .data, .data, .data, .data, .data, .data, .data, .data, .data, .pinned, .data, .data], laidTests := true, laidLooks := .later }
def FnRetoldRoundCardSaid : Prop := Claim7.holds Tryz.pinned (.plain (OpenSpec.ofChange fnRetoldRoundSpec)) fnRetoldRoundCard

/-- THE TIED CARD OF 'laws.FnStoryPgn'. -/
def fnStoryPgnCard : Claim7 := { stood := { row := fnStoryPgnRow, standIns := [], harness := (true, "4882b15d2032bf7e0dbb7d66f34b5e460ef23978ae3d737b8bb73bb3f6e80227"), looks := true }, kinds := [], alts := [], laidByText := true, laidKinds := [.data, .pinned, .data, .listed, .data, .data, .sentinel, .sentinel, .data, .data, .data, .data, .data, .data, .data, .data, .data, .data, .pinned, .data, .data], laidTests := true, laidLooks := .later }
def FnStoryPgnCardSaid : Prop := Claim7.holds Tryz.pinned (.plain (OpenSpec.ofChange fnStoryPgnSpec)) fnStoryPgnCard

/-- THE SECOND FORM's CARD OF 'laws.FnStory'. -/
def fnStoryUptoCard : Claim7 := { stood := { row := fnStoryUptoRow, standIns := [], harness := (true, "4882b15d2032bf7e0dbb7d66f34b5e460ef23978ae3d737b8bb73bb3f6e80227"), looks := true }, kinds := [], alts := [], laidByText := true, laidKinds := [.data, .pinned, .data, .listed, .data, .data, .sentinel, .sentinel, .data, .data, .data, .data, .data, .data, .data, .data, .data, .data, .pinned, .data, .data], laidTests := true, laidLooks := .later }
def FnStoryUptoCardSaid : Prop := Claim7.holds Tryz.pinned (.plain (OpenSpec.upto fnStorySpec)) fnStoryUptoCard

/-- THE SECOND FORM's CARD OF 'laws.FnStoryTwo'. -/
def fnStoryTwoUptoCard : Claim7 := { stood := { row := fnStoryTwoUptoRow, standIns := [], harness := (true, "4882b15d2032bf7e0dbb7d66f34b5e460ef23978ae3d737b8bb73bb3f6e80227"), looks := true }, kinds := [], alts := [], laidByText := true, laidKinds := [.data, .pinned, .data, .listed, .data, .data, .sentinel, .sentinel, .data, .data, .data, .data, .data, .data, .data, .data, .data, .data, .pinned, .data, .data], laidTests := true, laidLooks := .later }
def FnStoryTwoUptoCardSaid : Prop := Claim7.holds Tryz.pinned (.plain (OpenSpec.upto fnStoryTwoSpec)) fnStoryTwoUptoCard

/-- THE SECOND FORM's CARD OF 'laws.FnRetold'. -/
def fnRetoldUptoCard : Claim7 := { stood := { row := fnRetoldUptoRow, standIns := [], harness := (true, "4882b15d2032bf7e0dbb7d66f34b5e460ef23978ae3d737b8bb73bb3f6e80227"), looks := true }, kinds := [], alts := [], laidByText := true, laidKinds := [.data, .pinned, .data, .listed, .data, .data, .sentinel, .sentinel, .data, .data, .data, .data, .data, .data, .data, .data, .data, .data, .pinned, .data, .data], laidTests := true, laidLooks := .later }
def FnRetoldUptoCardSaid : Prop := Claim7.holds Tryz.pinned (.plain (OpenSpec.upto fnRetoldSpec)) fnRetoldUptoCard

/-- THE SECOND FORM's CARD OF 'laws.FnStoryForms'. -/
def fnStoryFormsUptoCard : Claim7 := { stood := { row := fnStoryFormsUptoRow, standIns := [], harness := (true, "4882b15d2032bf7e0dbb7d66f34b5e460ef23978ae3d737b8bb73bb3f6e80227"), looks := true }, kinds := [], alts := [], laidByText := true, laidKinds := [.data, .pinned, .data, .listed, .data, .data, .sentinel, .sentinel, .data, .data, .data, .data, .data, .data, .data, .data, .data, .data, .pinned, .data, .data], laidTests := true, laidLooks := .later }
def FnStoryFormsUptoCardSaid : Prop := Claim7.holds Tryz.pinned (.plain (OpenSpec.upto fnStoryFormsSpec)) fnStoryFormsUptoCard

/-- THE SECOND FORM's CARD OF 'laws.FnStoryRefused'. -/
def fnStoryRefusedUptoCard : Claim7 := { stood := { row := fnStoryRefusedUptoRow, standIns := [], harness := (true, "4882b15d2032bf7e0dbb7d66f34b5e460ef23978ae3d737b8bb73bb3f6e80227"), looks := true }, kinds := [], alts := [], laidByText := true, laidKinds := [.data, .pinned, .data, .listed, .data, .data, .sentinel, .sentinel, .data, .data, .data, .data, .data, .data, .data, .data, .data, .data, .pinned, .data, .data], laidTests := true, laidLooks := .later }
def FnStoryRefusedUptoCardSaid : Prop := Claim7.holds Tryz.pinned (.plain (OpenSpec.upto fnStoryRefusedSpec)) fnStoryRefusedUptoCard

/-- THE SECOND FORM's CARD OF 'laws.FnStoryTexts'. -/
def fnStoryTextsUptoCard : Claim7 := { stood := { row := fnStoryTextsUptoRow, standIns := [], harness := (true, "4882b15d2032bf7e0dbb7d66f34b5e460ef23978ae3d737b8bb73bb3f6e80227"), looks := true }, kinds := [], alts := [], laidByText := true, laidKinds := [.data, .pinned, .data, .listed, .data, .data, .sentinel, .sentinel, .data, .data, .data, .data, .data, .data, .data, .data, .data, .data, .pinned, .data, .data], laidTests := true, laidLooks := .later }
def FnStoryTextsUptoCardSaid : Prop := Claim7.holds Tryz.pinned (.plain (OpenSpec.upto fnStoryTextsSpec)) fnStoryTextsUptoCard

/-- THE SECOND FORM's CARD OF 'laws.FnRetoldRound'. -/
def fnRetoldRoundUptoCard : Claim7 := { stood := { row := fnRetoldRoundUptoRow, standIns := [], harness := (true, "4882b15d2032bf7e0dbb7d66f34b5e460ef23978ae3d737b8bb73bb3f6e80227"), looks := true }, kinds := [], alts := [], laidByText := true, laidKinds := [.data, .pinned, .data, .listed, .data, .data, .sentinel, .sentinel, .data, .data, .data, .data, .data, .data, .data, .data, .data, .data, .pinned, .data, .data], laidTests := true, laidLooks := .later }
def FnRetoldRoundUptoCardSaid : Prop := Claim7.holds Tryz.pinned (.plain (OpenSpec.upto fnRetoldRoundSpec)) fnRetoldRoundUptoCard

/-- THE SECOND FORM's CARD OF 'laws.FnStoryPgn'. -/
def fnStoryPgnUptoCard : Claim7 := { stood := { row := fnStoryPgnUptoRow, standIns := [], harness := (true, "4882b15d2032bf7e0dbb7d66f34b5e460ef23978ae3d737b8bb73bb3f6e80227"), looks := true }, kinds := [], alts := [], laidByText := true, laidKinds := [.data, .pinned, .data, .listed, .data, .data, .sentinel, .sentinel, .data, .data, .data, .data, .data, .data, .data, .data, .data, .data, .pinned, .data, .data], laidTests := true, laidLooks := .later }
def FnStoryPgnUptoCardSaid : Prop := Claim7.holds Tryz.pinned (.plain (OpenSpec.upto fnStoryPgnSpec)) fnStoryPgnUptoCard
end Rows
end Go.Proofs.YtpclhlhcegcflaaGreatDoor
