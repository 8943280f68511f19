/-
  DERIVED. GIVEN WITH THE SEED: THE CARDS: each row of YtngofbhlhcalpaaDoorRows.lean that lists a variable, with what it lists TIED to the program's text (the seventh form; the later family's looks); each row that meets fmt, with fmt's text TOLD by the authors' own Lean function (tested against real Go, not proved from fmt's source: count such statements apart). THE CARD IS WHAT COUNTS. Prove the row's statement (the work); the ties are given (YtngofbhlhcalpaaDoorTie.lean); close each card by the builder's one call (the guide's Derived/Test/ToyasCard.lean, 'card_holds'). Laid BY PROGRAM, IN A SANDBOX (cutbox-door.mjs). By AI agents, Wed Nov 11 2026. No macro, syntax, notation, axiom, sorry.
-/
import Derived.Test.YtngofbhlhcalpaaDoorRows
import GoSem.ClaimSeven
namespace Go.Proofs.YtngofbhlhcalpaaDoor
namespace Rows

/-- THE TIED CARD OF 'laws.FnBytesMean'. -/
def fnBytesMeanCard : Claim7 := { stood := { row := fnBytesMeanRow, standIns := [], harness := (true, "c81132ee0e039ef4760aacc39b26ddc98cb570dc7f7afc04df2697d96267e6be"), looks := false }, kinds := [], alts := [], laidByText := true, laidKinds := [.data, .data, .data, .sentinel], laidTests := true, laidLooks := .later }
def FnBytesMeanCardSaid : Prop := Claim7.holds Tryd.pinned (.plain (OpenSpec.ofChange fnBytesMeanSpec)) fnBytesMeanCard

/-- THE SECOND FORM's CARD OF 'laws.FnBytesMean'. -/
def fnBytesMeanUptoCard : Claim7 := { stood := { row := fnBytesMeanUptoRow, standIns := [], harness := (true, "c81132ee0e039ef4760aacc39b26ddc98cb570dc7f7afc04df2697d96267e6be"), looks := false }, kinds := [], alts := [], laidByText := true, laidKinds := [.data, .data, .data, .sentinel], laidTests := true, laidLooks := .later }
def FnBytesMeanUptoCardSaid : Prop := Claim7.holds Tryd.pinned (.plain (OpenSpec.upto fnBytesMeanSpec)) fnBytesMeanUptoCard
end Rows
end Go.Proofs.YtngofbhlhcalpaaDoor
