/-
  No cell of these rows narrows 'for every input' (looked for: loops, veiled, ifaces, maps, wideKeys, modest, calm, conditions, laid).
  DERIVED. THE GIVEN ROWS OF THIS SEAT. 4 by the template 'for every input the law returns true; each argument reads behind the call as it read before'; 0 by the template 'total and deterministic' (their statements: YthndckejdalabaaTotals.lean).
  GIVEN WITH THE SEED: the statements are not yours to turn. If you find one false, say at which input.
  Laid BY PROGRAM, IN A SANDBOX (cutbox-rows.mjs): the forced cells as the released guide's own fill.sh prints them over the translation ac41af886d8130c3… (all of the seat's roots in one cut). By AI agents, Wed Nov 11 2026. No macro, syntax, notation, axiom, sorry.
-/
import Derived.Test.YthndckejdalabaaChecked
import GoSem.Claim
import GoSem.ClaimJoined
import GoSem.ClaimMapViews
import Derived.JoinedTies
import Derived.KernelRfl
namespace Go.Proofs.Ythndckejdalabaa
/- THE CELL 'sum', in the pinned program and in every row, IS THE sha256 OF THE DUMP (.gsa) THAT YthndckejdalabaaProg.lean LOADS. Nothing in Lean hashes anything: it is a label: what it is worth is what the hold of that sum in a sandbox is worth. -/
noncomputable def Try.pinned : Pinned := { name := "ythndckejdalabaa", sum := "ac41af886d8130c3760026ef2dc8afa2494fd7e29a9b5f507dedf822132f9228", checked := Try.checked }
namespace Rows
def none {H : Type} : Left H := { results := [], args := [] }

/-- 'laws.FnPrinted': WHATEVER THE INPUT: true; the input reads as it did. -/
def fnPrintedSpec : ChangeSpec := { name := "fnPrinted", fn := fun _ => fun
  | [d] => { results := [.lit (.bool true)], args := [d] }
  | _ => none }
def fnPrintedRow : OpenClaim := { program := "ythndckejdalabaa", sum := "ac41af886d8130c3760026ef2dc8afa2494fd7e29a9b5f507dedf822132f9228", func := "pub-dabber/laws.FnPrinted", spec := "fnPrinted", apart := false }
def FnPrintedSaid : Prop := fnPrintedRow.holds Try.pinned (OpenSpec.ofChange fnPrintedSpec)

/-- ITS FALSE NEIGHBOUR: 'it returns false'. Refute it at one input. -/
def fnPrintedWrong : ChangeSpec := { name := "fnPrinted", fn := fun _ => fun
  | [d] => { results := [.lit (.bool false)], args := [d] }
  | _ => none }
def FnPrintedWrongFalsely : Prop := fnPrintedRow.holds Try.pinned (OpenSpec.ofChange fnPrintedWrong)

/-- 'laws.FnPlacesChosen': WHATEVER THE INPUT: true; the input reads as it did. -/
def fnPlacesChosenSpec : ChangeSpec := { name := "fnPlacesChosen", fn := fun _ => fun
  | [d1, d2, d3] => { results := [.lit (.bool true)], args := [d1, d2, d3] }
  | _ => none }
def fnPlacesChosenRow : OpenClaim := { program := "ythndckejdalabaa", sum := "ac41af886d8130c3760026ef2dc8afa2494fd7e29a9b5f507dedf822132f9228", func := "pub-dabber/laws.FnPlacesChosen", spec := "fnPlacesChosen", apart := false }
def FnPlacesChosenSaid : Prop := fnPlacesChosenRow.holds Try.pinned (OpenSpec.ofChange fnPlacesChosenSpec)

/-- ITS FALSE NEIGHBOUR: 'it returns false'. Refute it at one input. -/
def fnPlacesChosenWrong : ChangeSpec := { name := "fnPlacesChosen", fn := fun _ => fun
  | [d1, d2, d3] => { results := [.lit (.bool false)], args := [d1, d2, d3] }
  | _ => none }
def FnPlacesChosenWrongFalsely : Prop := fnPlacesChosenRow.holds Try.pinned (OpenSpec.ofChange fnPlacesChosenWrong)

/-- 'laws.FnKeywords': WHATEVER THE INPUT: true; the input reads as it did. -/
def fnKeywordsSpec : ChangeSpec := { name := "fnKeywords", fn := fun _ => fun
  | [d1, d2] => { results := [.lit (.bool true)], args := [d1, d2] }
  | _ => none }
def fnKeywordsRow : OpenClaim := { program := "ythndckejdalabaa", sum := "ac41af886d8130c3760026ef2dc8afa2494fd7e29a9b5f507dedf822132f9228", func := "pub-dabber/laws.FnKeywords", spec := "fnKeywords", apart := false }
def FnKeywordsSaid : Prop := fnKeywordsRow.holds Try.pinned (OpenSpec.ofChange fnKeywordsSpec)

/-- ITS FALSE NEIGHBOUR: 'it returns false'. Refute it at one input. -/
def fnKeywordsWrong : ChangeSpec := { name := "fnKeywords", fn := fun _ => fun
  | [d1, d2] => { results := [.lit (.bool false)], args := [d1, d2] }
  | _ => none }
def FnKeywordsWrongFalsely : Prop := fnKeywordsRow.holds Try.pinned (OpenSpec.ofChange fnKeywordsWrong)

/-- 'laws.FnLinesBack': WHATEVER THE INPUT: true; the input reads as it did. -/
def fnLinesBackSpec : ChangeSpec := { name := "fnLinesBack", fn := fun _ => fun
  | [d1, d2] => { results := [.lit (.bool true)], args := [d1, d2] }
  | _ => none }
def fnLinesBackRow : OpenClaim := { program := "ythndckejdalabaa", sum := "ac41af886d8130c3760026ef2dc8afa2494fd7e29a9b5f507dedf822132f9228", func := "pub-dabber/laws.FnLinesBack", spec := "fnLinesBack", apart := false }
def FnLinesBackSaid : Prop := fnLinesBackRow.holds Try.pinned (OpenSpec.ofChange fnLinesBackSpec)

/-- ITS FALSE NEIGHBOUR: 'it returns false'. Refute it at one input. -/
def fnLinesBackWrong : ChangeSpec := { name := "fnLinesBack", fn := fun _ => fun
  | [d1, d2] => { results := [.lit (.bool false)], args := [d1, d2] }
  | _ => none }
def FnLinesBackWrongFalsely : Prop := fnLinesBackRow.holds Try.pinned (OpenSpec.ofChange fnLinesBackWrong)

/- THE SECOND FORM. 'bulk': how many values and letters a reading holds, each counted each time it is reached (what is shared counts as often as it is met; a slice's spare places count too). A statement '..UptoSaid' is the law's where the arguments, and the package variables that the reading takes, are together of bulk at most 1048576: NARROWER than '..Said'. Prove '..Said' where nothing that the law and all that it calls make is longer than what came in: it says more and counts as full. Else prove '..UptoSaid'. A law counts once. -/
mutual
def uptoBulk {H : Type} : DataW H → Nat
  | .lit (.string bytes) => bytes.length + 1
  | .lit _ => 1
  | .nil => 1
  | .ptr d => uptoBulk d + 1
  | .slice elems spare => uptoBulkAll elems + uptoBulkAll spare + 1
  | .agg parts => uptoBulkAll parts + 1
  | .iface _ d => uptoBulk d + 1
  | .map entries => uptoBulkEntries entries + 1
  | .held _ => 1
def uptoBulkAll {H : Type} : List (DataW H) → Nat
  | [] => 0
  | d :: r => uptoBulk d + uptoBulkAll r
def uptoBulkEntries {H : Type} : List (Lit × DataW H) → Nat
  | [] => 0
  | x :: r => uptoBulkEntry x + uptoBulkEntries r
def uptoBulkEntry {H : Type} : Lit × DataW H → Nat
  | (.string bytes, d) => bytes.length + uptoBulk d + 1
  | (_, d) => uptoBulk d + 1
 end
def uptoSmall : (H : Type) → List (DataW H) → Bool := fun _ ds => decide (uptoBulkAll ds ≤ 1048576)
def OpenSpec.upto (s : _root_.Go.ChangeSpec) : _root_.Go.OpenSpec := { _root_.Go.OpenSpec.ofChange s with cond := some uptoSmall }

/-- 'laws.FnPrinted', WHERE WHAT IT READS IS OF BULK AT MOST 1048576: true; the input reads as it did. -/
def fnPrintedUptoRow : OpenClaim := { program := "ythndckejdalabaa", sum := "ac41af886d8130c3760026ef2dc8afa2494fd7e29a9b5f507dedf822132f9228", func := "pub-dabber/laws.FnPrinted", spec := "fnPrinted", apart := false, narrowed := true }
def FnPrintedUptoSaid : Prop := fnPrintedUptoRow.holds Try.pinned (OpenSpec.upto fnPrintedSpec)

/-- 'laws.FnPlacesChosen', WHERE WHAT IT READS IS OF BULK AT MOST 1048576: true; the input reads as it did. -/
def fnPlacesChosenUptoRow : OpenClaim := { program := "ythndckejdalabaa", sum := "ac41af886d8130c3760026ef2dc8afa2494fd7e29a9b5f507dedf822132f9228", func := "pub-dabber/laws.FnPlacesChosen", spec := "fnPlacesChosen", apart := false, narrowed := true }
def FnPlacesChosenUptoSaid : Prop := fnPlacesChosenUptoRow.holds Try.pinned (OpenSpec.upto fnPlacesChosenSpec)

/-- 'laws.FnKeywords', WHERE WHAT IT READS IS OF BULK AT MOST 1048576: true; the input reads as it did. -/
def fnKeywordsUptoRow : OpenClaim := { program := "ythndckejdalabaa", sum := "ac41af886d8130c3760026ef2dc8afa2494fd7e29a9b5f507dedf822132f9228", func := "pub-dabber/laws.FnKeywords", spec := "fnKeywords", apart := false, narrowed := true }
def FnKeywordsUptoSaid : Prop := fnKeywordsUptoRow.holds Try.pinned (OpenSpec.upto fnKeywordsSpec)

/-- 'laws.FnLinesBack', WHERE WHAT IT READS IS OF BULK AT MOST 1048576: true; the input reads as it did. -/
def fnLinesBackUptoRow : OpenClaim := { program := "ythndckejdalabaa", sum := "ac41af886d8130c3760026ef2dc8afa2494fd7e29a9b5f507dedf822132f9228", func := "pub-dabber/laws.FnLinesBack", spec := "fnLinesBack", apart := false, narrowed := true }
def FnLinesBackUptoSaid : Prop := fnLinesBackUptoRow.holds Try.pinned (OpenSpec.upto fnLinesBackSpec)

end Rows
end Go.Proofs.Ythndckejdalabaa
