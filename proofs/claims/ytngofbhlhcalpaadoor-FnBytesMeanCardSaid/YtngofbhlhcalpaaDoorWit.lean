/-
  What the row's listed variables give; a world that meets them. No statement of the seat is proved here.
-/
import Derived.Test.YtngofbhlhcalpaaDoorHexD
import Derived.Test.YtngofbhlhcalpaaDoorShelf
import Derived.Test.YtngofbhlhcalpaaDoorCards
import Derived.Lib.LaidU8
import Derived.LaidSub
import Derived.LaidHandle
import Derived.Lib.LaidTab
import Derived.Deep.DeepHandedRow
import Derived.Deep.DeepWitnessRowRef
import Derived.ProofKit
namespace Go.Proofs.YtngofbhlhcalpaaDoor.quo
open Go.RowKit Go.Proofs.YtngofbhlhcalpaaDoor.gen Go.Lib

theorem own : ownKnob Tryd.prog.godebug = none := by kernel_rfl

def bruijn : List Int := [0, 1, 56, 2, 57, 49, 28, 3, 61, 58, 42, 50, 38, 29, 17, 4, 62, 47, 59, 36, 45, 43, 51, 22, 53, 39, 33, 30, 24, 18, 12, 5, 63, 55, 48, 27, 60, 41, 37, 16, 46, 35, 44, 21, 52, 32, 23, 11, 54, 26, 40, 15, 34, 20, 31, 10, 25, 14, 19, 9, 13, 8, 7, 6]

noncomputable def laidWorld (os : Os) : World :=
  let N := (World.settled Tryd.prog os).heap.size
  let w0 := World.holding Tryd.prog os ⟨#[.cells #[.string ⟨#[98, 121, 116, 101, 115, 46, 66, 117, 102, 102, 101, 114, 58, 32, 116, 111, 111, 32, 108, 97, 114, 103, 101]⟩] 102], #[], []⟩
  let put (h : Array Obj) (g : Nat) (cs : Array Value) : Array Obj := h.modify g fun
    | .cells _ t frozen => .cells cs t frozen
    | o => o
  let h2 := put w0.heap 0 #[.iface 87 (.pointer (some ⟨N, 0, none⟩))]
  let h6 := put h2 1 (pow10Tab.map fun z => Value.int .u64 z).toArray
  let h9 := put h6 2 ([0, 1, 28, 2, 29, 14, 24, 3, 30, 22, 20, 15, 25, 17, 4, 8, 31, 27, 13, 23, 21, 19, 16, 7, 26, 12, 18, 6, 11, 5, 10, 9].map fun (z : Int) => Value.int .u8 z).toArray
  let h10 := put h9 3 (bruijn.map fun (z : Int) => Value.int .u8 z).toArray
  { w0 with heap := h10 }

abbrev laidL : List (String × DataW Unit) := Rows.fnBytesMeanRow.laid

theorem laid_met (os : Os) (args : Array Value) : laidMetH Tryd.prog laidL ((laidWorld os).forCall (fun _ _ => 0) ⟨#[], args, []⟩).memory :=
  laidMetH_of_parts (laidMet_of_run' 8 (by kernel_rfl) (by kernel_rfl)) (by kernel_rfl)

theorem dB : (Rows.laid_math_bits_deBruijn64tab : DataW Unit) = tabData .u8 bruijn := by kernel_rfl
theorem gB : Tryd.prog.globalNamed "math/bits.deBruijn64tab" = some 3 := by kernel_rfl
theorem gBT : (Tryd.prog.globals[3]?).map (·.type) = some 86 := by kernel_rfl
theorem cB1 : Tryd.prog.cellsOf 5 = 1 := by kernel_rfl
theorem cB2 : Tryd.prog.cellsOf 86 = 64 := by kernel_rfl

theorem tz_of_laid {W : World} (h : laidMetH Tryd.prog laidL W) : Tz W := by
  obtain ⟨h1, _⟩ := laidMetH_iff.1 h
  have r4 : VarReads Tryd.prog W "math/bits.deBruijn64tab" (tabData .u8 bruijn) := by
    rw [← dB]; exact laidMet.reads h1 (List.mem_filter.2 ⟨by simp [laidL, Rows.fnBytesMeanRow], rfl⟩)
  obtain ⟨g, t, cs, fuel, p, hg, hty, hvar, hd⟩ := r4
  obtain rfl := Option.some.inj (gB.symm.trans hg)
  obtain rfl := Option.some.inj (gBT.symm.trans hty)
  have h2 := cells_of_tab Tryd.underlying86 Tryd.underlying5 cB1 cB2 hd
  unfold Tz
  rw [World.var?_cell gB hvar 15, ← Array.getElem?_toList, h2]
  rfl

end Go.Proofs.YtngofbhlhcalpaaDoor.quo
