/-
  DERIVED. GIVEN WITH THE SEED: THE CARDS: each row of YtfhnjgoipajiaaaDoorRows.lean that lists a variable, with what it lists TIED to the program's text (the seventh form; the later family's looks); each row that meets fmt, with fmt's text TOLD by the authors' own Lean function (tested against real Go, not proved from fmt's source: count such statements apart). THE CARD IS WHAT COUNTS. Prove the row's statement (the work); the ties are given (YtfhnjgoipajiaaaDoorTie.lean); close each card by the builder's one call (the guide's Derived/Test/ToyasCard.lean, 'card_holds'). Laid BY PROGRAM, IN A SANDBOX (cutbox-door.mjs). By AI agents, Wed Nov 11 2026. No macro, syntax, notation, axiom, sorry.
-/
import Derived.Test.YtfhnjgoipajiaaaDoorRows
import GoSem.ClaimSeven
namespace Go.Proofs.YtfhnjgoipajiaaaDoor
namespace Rows

/-- THE TIED CARD OF 'laws.FnPosBack'. -/
def fnPosBackCard : Claim7 := { stood := { row := fnPosBackRow, standIns := [], harness := (true, "8428a153125c23e55b0300dab3d6ec2a5aea03802aace7a75a09f671af11b02e"), looks := true }, kinds := [], alts := [], laidByText := true, laidKinds := [.data, .data, .data, .sentinel, .sentinel, .listed, .data, .pinned, .pinned], laidTests := true, laidLooks := .later }
def FnPosBackCardSaid : Prop := Claim7.holds Tryd.pinned (.plain (OpenSpec.ofChange fnPosBackSpec)) fnPosBackCard

/-- THE SECOND FORM's CARD OF 'laws.FnPosBack'. -/
def fnPosBackUptoCard : Claim7 := { stood := { row := fnPosBackUptoRow, standIns := [], harness := (true, "8428a153125c23e55b0300dab3d6ec2a5aea03802aace7a75a09f671af11b02e"), looks := true }, kinds := [], alts := [], laidByText := true, laidKinds := [.data, .data, .data, .sentinel, .sentinel, .listed, .data, .pinned, .pinned], laidTests := true, laidLooks := .later }
def FnPosBackUptoCardSaid : Prop := Claim7.holds Tryd.pinned (.plain (OpenSpec.upto fnPosBackSpec)) fnPosBackUptoCard
end Rows
end Go.Proofs.YtfhnjgoipajiaaaDoor
