/-
  Lemmas and contracts of this claim, texts Ctx, Wit. No statement of the seat is proved here.
-/
import Derived.LaidSub
import Derived.LaidHandle
import Derived.Lib.LaidU8
import Derived.Test.YtngofbhlhcalpaaGreatDoorZ02
import Derived.Test.YtngofbhlhcalpaaGreatDoorCards
import Derived.Deep.DeepHandedRow
import Derived.Deep.DeepWitnessRowRef
import Derived.ProofKit
namespace Go.Proofs.YtngofbhlhcalpaaGreatDoor.lexer
open Go.RowKit Go.Proofs.YtngofbhlhcalpaaGreatDoor.gen Go.Lib

theorem gET : Tryz.prog.globalNamed "errors.errorType" = some 0 := by kernel_rfl
theorem rtT : (Tryz.prog.cutTypes.find? (·.1 == "internal/reflectlite.rtype")).map (·.2) = some 138 := by kernel_rfl
theorem oneRow : ((List.range 249).filter fun t => Tryz.prog.rowNamed t [101, 114, 114, 111, 114]) = [52] := by kernel_rfl
theorem typesSize : Tryz.prog.types.size = 249 := by kernel_rfl
theorem u8x : U8Extra Tryz.prog Tryz.lays260_ren := ⟨by kernel_rfl, by kernel_rfl, by kernel_rfl, by kernel_rfl, by kernel_rfl, by kernel_rfl, by kernel_rfl⟩
theorem whx : WhiteExtra Tryz.prog Tryz.lays199_ren := ⟨by kernel_rfl, by kernel_rfl, by kernel_rfl, by kernel_rfl, by kernel_rfl, by kernel_rfl, by kernel_rfl, by kernel_rfl⟩

theorem iface_cell {H : Type} {enc : TypeId × Value → H} {P : Program} {w : World} {base : Nat} {sp : Nat → Bool} {held : Bool} {fuel : Nat} {t : TypeId} {cs : List Value} {x : DataW H × List MemPlace}
    (ht : ∃ ms, P.underlying t = some (.interface ms)) (h : DataW.trod enc P w base sp held fuel t cs = some x) : ∃ v, cs = [v] ∧ (v = .nilIface ∨ ∃ te pe, v = .iface te pe) := by
  obtain ⟨ms, ht⟩ := ht
  cases fuel with
  | zero => simp [DataW.trod] at h
  | succ n =>
    unfold DataW.trod at h
    rw [ht] at h
    split at h <;> simp_all

abbrev laidL : List (String × DataW Unit) := Rows.fnLexEndsRow.laid

theorem d1 : Rows.laid_unicode_utf8_first = firstData := by kernel_rfl
theorem d2 : (Rows.laid_unicode_utf8_acceptRanges : DataW Unit) = acceptData := by kernel_rfl
theorem d3 : (Rows.laid_unicode_White_Space : DataW Unit) = whiteData := by kernel_rfl
theorem d4 : (Rows.laid_internal_strconv_uint64pow10 : DataW Unit) = tabData .u64 pow10Tab := by kernel_rfl
theorem mem_laid (n : String) (d : DataW Unit) (h : laidL.find? (fun x => x.1 == n) = some (n, d)) (hd : d.handleName?.isNone = true) : (n, d) ∈ laidL.filter fun x => x.2.handleName?.isNone :=
  List.mem_filter.2 ⟨List.mem_of_find?_eq_some h, hd⟩

theorem et_of_laid {W : World} (h2 : handlesMet Tryz.prog (laidL.filter fun x => x.2.handleName?.isSome) W) : EType W := by
  have hm : ("errors.errorType", (Rows.laid_errors_errorType : DataW Unit)) ∈ laidL.filter fun x => x.2.handleName?.isSome := List.mem_filter.2 ⟨by simp [laidL, Rows.fnLexEndsRow], rfl⟩
  obtain ⟨name, u, ty, e1, e2, e3, e4, e5⟩ := h2 _ hm
  have en : name = [101, 114, 114, 111, 114] := (Option.some.inj e1).symm
  subst en
  obtain rfl := Option.some.inj (rtT.symm.trans e2)
  have hm2 : ty ∈ (List.range 249).filter fun t => Tryz.prog.rowNamed t [101, 114, 114, 111, 114] := List.mem_filter.2 ⟨List.mem_range.2 (by rw [← typesSize]; exact e3), e4⟩
  rw [oneRow] at hm2
  obtain rfl := List.mem_singleton.1 hm2
  have hh : typeHandle Tryz.prog 52 = .pointer (some ⟨12, 52, none⟩) := by kernel_rfl
  rw [hh] at e5
  have := World.var?_cell gET e5 0
  exact this

theorem gPow : Tryz.prog.globalNamed "internal/strconv.uint64pow10" = some 5 := by kernel_rfl
theorem gPowT : (Tryz.prog.globals[5]?).map (·.type) = some 189 := by kernel_rfl
theorem cPow1 : Tryz.prog.cellsOf 102 = 1 := by kernel_rfl
theorem cPow2 : Tryz.prog.cellsOf 189 = 20 := by kernel_rfl
theorem gSyn : Tryz.prog.globalNamed "strconv.ErrSyntax" = some 6 := by kernel_rfl
theorem gSynT : (Tryz.prog.globals[6]?).map (·.type) = some 52 := by kernel_rfl

theorem ctx_of_laid {W : World} (h : laidMetH Tryz.prog laidL W) : Ctx W := by
  obtain ⟨h1, h2⟩ := laidMetH_iff.1 h
  have r1 : VarReads Tryz.prog W "unicode/utf8.first" firstData := by
    rw [← d1]; exact laidMet.reads h1 (List.mem_filter.2 ⟨by simp [laidL, Rows.fnLexEndsRow], rfl⟩)
  have r2 : VarReads Tryz.prog W "unicode/utf8.acceptRanges" acceptData := by
    rw [← d2]; exact laidMet.reads h1 (List.mem_filter.2 ⟨by simp [laidL, Rows.fnLexEndsRow], rfl⟩)
  have r3 : VarReads Tryz.prog W "unicode.White_Space" whiteData := by
    rw [← d3]; exact laidMet.reads h1 (List.mem_filter.2 ⟨by simp [laidL, Rows.fnLexEndsRow], rfl⟩)
  have r4 : VarReads Tryz.prog W "internal/strconv.uint64pow10" (tabData .u64 pow10Tab) := by
    rw [← d4]; exact laidMet.reads h1 (List.mem_filter.2 ⟨by simp [laidL, Rows.fnLexEndsRow], rfl⟩)
  have r5 : VarReads Tryz.prog W "strconv.ErrSyntax" Rows.laid_strconv_ErrSyntax :=
    laidMet.reads h1 (List.mem_filter.2 ⟨by simp [laidL, Rows.fnLexEndsRow], rfl⟩)
  refine ⟨⟨utf8Tabs_of_reads Tryz.lays260 u8x r1 r2, whiteTab_of_reads Tryz.lays199 whx r3, ?_, ?_⟩, et_of_laid h2⟩
  · obtain ⟨g, t, cs, fuel, p, hg, hty, hvar, hd⟩ := r4
    obtain rfl := Option.some.inj (gPow.symm.trans hg)
    obtain rfl := Option.some.inj (gPowT.symm.trans hty)
    unfold TabIs
    rw [hvar, ← cells_of_tab Tryz.underlying189 Tryz.underlying102 cPow1 cPow2 hd]
  · obtain ⟨g, t, cs, fuel, p, hg, hty, hvar, hd⟩ := r5
    obtain rfl := Option.some.inj (gSyn.symm.trans hg)
    obtain rfl := Option.some.inj (gSynT.symm.trans hty)
    obtain ⟨v, hv, hv2⟩ := iface_cell ⟨_, Tryz.underlying52⟩ hd
    refine ⟨v, ?_, hv2⟩
    rw [World.var?_cell gSyn hvar 0, ← Array.getElem?_toList, hv]
    rfl

end Go.Proofs.YtngofbhlhcalpaaGreatDoor.lexer

namespace Go.Proofs.YtngofbhlhcalpaaGreatDoor.lexer
open Go.RowKit Go.Proofs.YtngofbhlhcalpaaGreatDoor.gen Go.Lib

theorem own : ownKnob Tryz.prog.godebug = none := by kernel_rfl

def strVals (l : List UInt8) : Array Value := #[.string ⟨l.toArray⟩]

noncomputable def laidWorld (os : Os) : World :=
  let N := (World.settled Tryz.prog os).heap.size
  let w0 := World.holding Tryz.prog os ⟨#[.cells (whiteT.map fun (z : Nat) => Value.int .u16 (z : Int)).toArray 179, .cells #[.slice (some ⟨N, 0, none⟩) 7 7, .slice none 0 0, .int .i64 2] 176,
    .cells #[.string ⟨#[98, 121, 116, 101, 115, 46, 66, 117, 102, 102, 101, 114, 58, 32, 116, 111, 111, 32, 108, 97, 114, 103, 101]⟩] 219,
    .cells #[.string ⟨#[105, 110, 118, 97, 108, 105, 100, 32, 115, 121, 110, 116, 97, 120]⟩] 219,
    .cells #[.string ⟨#[118, 97, 108, 117, 101, 32, 111, 117, 116, 32, 111, 102, 32, 114, 97, 110, 103, 101]⟩] 219], #[], []⟩
  let put (h : Array Obj) (g : Nat) (cs : Array Value) : Array Obj := h.modify g fun
    | .cells _ t frozen => .cells cs t frozen
    | o => o
  let h1 := put w0.heap 0 #[.iface 138 (.agg #[.pointer (some ⟨12, 52, none⟩)])]
  let h2 := put h1 1 #[.iface 217 (.pointer (some ⟨N + 2, 0, none⟩))]
  let h3 := put h2 2 #[.pointer (some ⟨N + 1, 0, none⟩)]
  let h4 := put h3 3 (firstTab.map fun z => Value.int .u8 z).toArray
  let h5 := put h4 4 ((List.range 16).flatMap fun i => [Value.int .u8 (accLo i), Value.int .u8 (accHi i)]).toArray
  let h6 := put h5 5 (pow10Tab.map fun z => Value.int .u64 z).toArray
  let h7 := put h6 6 #[.iface 217 (.pointer (some ⟨N + 3, 0, none⟩))]
  let h8 := put h7 7 #[.iface 217 (.pointer (some ⟨N + 4, 0, none⟩))]
  let h9 := put h8 8 ([0, 1, 28, 2, 29, 14, 24, 3, 30, 22, 20, 15, 25, 17, 4, 8, 31, 27, 13, 23, 21, 19, 16, 7, 26, 12, 18, 6, 11, 5, 10, 9].map fun (z : Int) => Value.int .u8 z).toArray
  let h10 := put h9 9 ([0, 1, 56, 2, 57, 49, 28, 3, 61, 58, 42, 50, 38, 29, 17, 4, 62, 47, 59, 36, 45, 43, 51, 22, 53, 39, 33, 30, 24, 18, 12, 5, 63, 55, 48, 27, 60, 41, 37, 16, 46, 35, 44, 21, 52, 32, 23, 11, 54, 26, 40, 15, 34, 20, 31, 10, 25, 14, 19, 9, 13, 8, 7, 6].map fun (z : Int) => Value.int .u8 z).toArray
  { w0 with heap := h10 }

theorem laid_met (os : Os) (args : Array Value) : laidMetH Tryz.prog laidL ((laidWorld os).forCall (fun _ _ => 0) ⟨#[], args, []⟩).memory :=
  laidMetH_of_parts (laidMet_of_run' 8 (by kernel_rfl) (by kernel_rfl)) (by kernel_rfl)

end Go.Proofs.YtngofbhlhcalpaaGreatDoor.lexer
