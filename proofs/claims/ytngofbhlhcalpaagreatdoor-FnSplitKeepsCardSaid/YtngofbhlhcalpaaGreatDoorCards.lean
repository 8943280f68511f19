/-
  DERIVED. GIVEN WITH THE SEED: THE CARDS: each row of YtngofbhlhcalpaaGreatDoorRows.lean that lists a variable, with what it lists TIED to the program's text (the seventh form; the later family's looks); each row that meets fmt, with fmt's text TOLD by the authors' own Lean function (tested against real Go, not proved from fmt's source: count such statements apart). THE CARD IS WHAT COUNTS. Prove the row's statement (the work); the ties are given (YtngofbhlhcalpaaGreatDoorTie.lean); close each card by the builder's one call (the guide's Derived/Test/ToyasCard.lean, 'card_holds'). Laid BY PROGRAM, IN A SANDBOX (cutbox-door.mjs). By AI agents, Wed Nov 11 2026. No macro, syntax, notation, axiom, sorry.
-/
import Derived.Test.YtngofbhlhcalpaaGreatDoorRows
import GoSem.ClaimSeven
namespace Go.Proofs.YtngofbhlhcalpaaGreatDoor
namespace Rows

/-- THE TIED CARD OF 'laws.FnLexAlone'. -/
def fnLexAloneCard : Claim7 := { stood := { row := fnLexAloneRow, standIns := [], harness := (true, "f2eb74589f3c2e9b112687a90fecc5fa04e52758c97ef11ddfc12a666c49b0fe"), looks := true }, kinds := [], alts := [], laidByText := true, laidKinds := [.data, .data, .data, .data, .handle, .sentinel, .sentinel, .listed, .sentinel, .pinned], laidTests := true, laidLooks := .later }
def FnLexAloneCardSaid : Prop := Claim7.holds Tryz.pinned (.plain (OpenSpec.ofChange fnLexAloneSpec)) fnLexAloneCard

/-- THE TIED CARD OF 'laws.FnLexEnds'. -/
def fnLexEndsCard : Claim7 := { stood := { row := fnLexEndsRow, standIns := [], harness := (true, "f2eb74589f3c2e9b112687a90fecc5fa04e52758c97ef11ddfc12a666c49b0fe"), looks := true }, kinds := [], alts := [], laidByText := true, laidKinds := [.data, .data, .data, .data, .handle, .sentinel, .sentinel, .listed, .sentinel, .pinned], laidTests := true, laidLooks := .later }
def FnLexEndsCardSaid : Prop := Claim7.holds Tryz.pinned (.plain (OpenSpec.ofChange fnLexEndsSpec)) fnLexEndsCard

/-- THE TIED CARD OF 'laws.FnLexJoins'. -/
def fnLexJoinsCard : Claim7 := { stood := { row := fnLexJoinsRow, standIns := [], harness := (true, "f2eb74589f3c2e9b112687a90fecc5fa04e52758c97ef11ddfc12a666c49b0fe"), looks := true }, kinds := [], alts := [], laidByText := true, laidKinds := [.data, .data, .data, .data, .handle, .sentinel, .sentinel, .listed, .sentinel, .pinned], laidTests := true, laidLooks := .later }
def FnLexJoinsCardSaid : Prop := Claim7.holds Tryz.pinned (.plain (OpenSpec.ofChange fnLexJoinsSpec)) fnLexJoinsCard

/-- THE TIED CARD OF 'laws.FnLooseSame'. -/
def fnLooseSameCard : Claim7 := { stood := { row := fnLooseSameRow, standIns := [], harness := (true, "f2eb74589f3c2e9b112687a90fecc5fa04e52758c97ef11ddfc12a666c49b0fe"), looks := true }, kinds := [], alts := [], laidByText := true, laidKinds := [.data, .data, .data, .data, .handle, .sentinel, .sentinel, .listed, .sentinel, .pinned], laidTests := true, laidLooks := .later }
def FnLooseSameCardSaid : Prop := Claim7.holds Tryz.pinned (.plain (OpenSpec.ofChange fnLooseSameSpec)) fnLooseSameCard

/-- THE TIED CARD OF 'laws.FnLexSteps'. -/
def fnLexStepsCard : Claim7 := { stood := { row := fnLexStepsRow, standIns := [], harness := (true, "f2eb74589f3c2e9b112687a90fecc5fa04e52758c97ef11ddfc12a666c49b0fe"), looks := true }, kinds := [], alts := [], laidByText := true, laidKinds := [.data, .data, .data, .data, .handle, .sentinel, .sentinel, .listed, .sentinel, .pinned], laidTests := true, laidLooks := .later }
def FnLexStepsCardSaid : Prop := Claim7.holds Tryz.pinned (.plain (OpenSpec.ofChange fnLexStepsSpec)) fnLexStepsCard

/-- THE TIED CARD OF 'laws.FnSplitKeeps'. -/
def fnSplitKeepsCard : Claim7 := { stood := { row := fnSplitKeepsRow, standIns := [], harness := (true, "f2eb74589f3c2e9b112687a90fecc5fa04e52758c97ef11ddfc12a666c49b0fe"), looks := true }, kinds := [], alts := [], laidByText := true, laidKinds := [.data, .data, .data, .data, .handle, .sentinel, .sentinel, .listed, .sentinel, .pinned], laidTests := true, laidLooks := .later }
def FnSplitKeepsCardSaid : Prop := Claim7.holds Tryz.pinned (.plain (OpenSpec.ofChange fnSplitKeepsSpec)) fnSplitKeepsCard

/-- THE TIED CARD OF 'laws.FnBytesBack'. -/
def fnBytesBackCard : Claim7 := { stood := { row := fnBytesBackRow, standIns := [], harness := (true, "f2eb74589f3c2e9b112687a90fecc5fa04e52758c97ef11ddfc12a666c49b0fe"), looks := true }, kinds := [], alts := [], laidByText := true, laidKinds := [.data, .data, .data, .data, .handle, .sentinel, .sentinel, .listed, .sentinel, .pinned], laidTests := true, laidLooks := .later }
def FnBytesBackCardSaid : Prop := Claim7.holds Tryz.pinned (.plain (OpenSpec.ofChange fnBytesBackSpec)) fnBytesBackCard

/-- THE SECOND FORM's CARD OF 'laws.FnLexAlone'. -/
def fnLexAloneUptoCard : Claim7 := { stood := { row := fnLexAloneUptoRow, standIns := [], harness := (true, "f2eb74589f3c2e9b112687a90fecc5fa04e52758c97ef11ddfc12a666c49b0fe"), looks := true }, kinds := [], alts := [], laidByText := true, laidKinds := [.data, .data, .data, .data, .handle, .sentinel, .sentinel, .listed, .sentinel, .pinned], laidTests := true, laidLooks := .later }
def FnLexAloneUptoCardSaid : Prop := Claim7.holds Tryz.pinned (.plain (OpenSpec.upto fnLexAloneSpec)) fnLexAloneUptoCard

/-- THE SECOND FORM's CARD OF 'laws.FnLexEnds'. -/
def fnLexEndsUptoCard : Claim7 := { stood := { row := fnLexEndsUptoRow, standIns := [], harness := (true, "f2eb74589f3c2e9b112687a90fecc5fa04e52758c97ef11ddfc12a666c49b0fe"), looks := true }, kinds := [], alts := [], laidByText := true, laidKinds := [.data, .data, .data, .data, .handle, .sentinel, .sentinel, .listed, .sentinel, .pinned], laidTests := true, laidLooks := .later }
def FnLexEndsUptoCardSaid : Prop := Claim7.holds Tryz.pinned (.plain (OpenSpec.upto fnLexEndsSpec)) fnLexEndsUptoCard

/-- THE SECOND FORM's CARD OF 'laws.FnLexJoins'. -/
def fnLexJoinsUptoCard : Claim7 := { stood := { row := fnLexJoinsUptoRow, standIns := [], harness := (true, "f2eb74589f3c2e9b112687a90fecc5fa04e52758c97ef11ddfc12a666c49b0fe"), looks := true }, kinds := [], alts := [], laidByText := true, laidKinds := [.data, .data, .data, .data, .handle, .sentinel, .sentinel, .listed, .sentinel, .pinned], laidTests := true, laidLooks := .later }
def FnLexJoinsUptoCardSaid : Prop := Claim7.holds Tryz.pinned (.plain (OpenSpec.upto fnLexJoinsSpec)) fnLexJoinsUptoCard

/-- THE SECOND FORM's CARD OF 'laws.FnLooseSame'. -/
def fnLooseSameUptoCard : Claim7 := { stood := { row := fnLooseSameUptoRow, standIns := [], harness := (true, "f2eb74589f3c2e9b112687a90fecc5fa04e52758c97ef11ddfc12a666c49b0fe"), looks := true }, kinds := [], alts := [], laidByText := true, laidKinds := [.data, .data, .data, .data, .handle, .sentinel, .sentinel, .listed, .sentinel, .pinned], laidTests := true, laidLooks := .later }
def FnLooseSameUptoCardSaid : Prop := Claim7.holds Tryz.pinned (.plain (OpenSpec.upto fnLooseSameSpec)) fnLooseSameUptoCard

/-- THE SECOND FORM's CARD OF 'laws.FnLexSteps'. -/
def fnLexStepsUptoCard : Claim7 := { stood := { row := fnLexStepsUptoRow, standIns := [], harness := (true, "f2eb74589f3c2e9b112687a90fecc5fa04e52758c97ef11ddfc12a666c49b0fe"), looks := true }, kinds := [], alts := [], laidByText := true, laidKinds := [.data, .data, .data, .data, .handle, .sentinel, .sentinel, .listed, .sentinel, .pinned], laidTests := true, laidLooks := .later }
def FnLexStepsUptoCardSaid : Prop := Claim7.holds Tryz.pinned (.plain (OpenSpec.upto fnLexStepsSpec)) fnLexStepsUptoCard

/-- THE SECOND FORM's CARD OF 'laws.FnSplitKeeps'. -/
def fnSplitKeepsUptoCard : Claim7 := { stood := { row := fnSplitKeepsUptoRow, standIns := [], harness := (true, "f2eb74589f3c2e9b112687a90fecc5fa04e52758c97ef11ddfc12a666c49b0fe"), looks := true }, kinds := [], alts := [], laidByText := true, laidKinds := [.data, .data, .data, .data, .handle, .sentinel, .sentinel, .listed, .sentinel, .pinned], laidTests := true, laidLooks := .later }
def FnSplitKeepsUptoCardSaid : Prop := Claim7.holds Tryz.pinned (.plain (OpenSpec.upto fnSplitKeepsSpec)) fnSplitKeepsUptoCard

/-- THE SECOND FORM's CARD OF 'laws.FnBytesBack'. -/
def fnBytesBackUptoCard : Claim7 := { stood := { row := fnBytesBackUptoRow, standIns := [], harness := (true, "f2eb74589f3c2e9b112687a90fecc5fa04e52758c97ef11ddfc12a666c49b0fe"), looks := true }, kinds := [], alts := [], laidByText := true, laidKinds := [.data, .data, .data, .data, .handle, .sentinel, .sentinel, .listed, .sentinel, .pinned], laidTests := true, laidLooks := .later }
def FnBytesBackUptoCardSaid : Prop := Claim7.holds Tryz.pinned (.plain (OpenSpec.upto fnBytesBackSpec)) fnBytesBackUptoCard
end Rows
end Go.Proofs.YtngofbhlhcalpaaGreatDoor
