/-
  What the row's listed variables give: the tables of the reader of positions; a world that meets them. No statement of the seat is proved here.
-/
import Derived.Test.YtfhnjgoipajiaaaDoorPlC
import Derived.Test.YtfhnjgoipajiaaaDoorCards
import Derived.PinnedBridge
import Derived.Lay
import Derived.LaidOnce
import Derived.LaidSub
import Derived.LaidHandle
import Derived.Lib.LaidU8
import Derived.Lib.LaidTab
import Derived.Deep.DeepHandedRow
import Derived.Deep.DeepWitnessRowRef
import Derived.ProofKit
namespace Go.Proofs.YtfhnjgoipajiaaaDoor.pl
open Go.RowKit Go.Proofs.YtfhnjgoipajiaaaDoor.gen Go.Lib

abbrev laidL : List (String × DataW Unit) := Rows.fnPosBackRow.laid

theorem own : ownKnob Tryd.prog.godebug = none := by kernel_rfl
theorem rgx : RExtra Tryd.prog Tryd.lays261_ren := ⟨by kernel_rfl, by kernel_rfl, by kernel_rfl, by kernel_rfl, by kernel_rfl, by kernel_rfl, by kernel_rfl, by kernel_rfl⟩
theorem whx : WhiteExtra Tryd.prog Tryd.lays199_ren := ⟨by kernel_rfl, by kernel_rfl, by kernel_rfl, by kernel_rfl, by kernel_rfl, by kernel_rfl, by kernel_rfl, by kernel_rfl⟩

theorem iface_cell {H : Type} {enc : TypeId × Value → H} {P : Program} {w : World} {base : Nat} {sp : Nat → Bool} {held : Bool} {fuel : Nat} {t : TypeId} {cs : List Value} {nm : String} {d : DataW H} {p : List MemPlace}
    (ht : ∃ ms, P.underlying t = some (.interface ms)) (h : DataW.trod enc P w base sp held fuel t cs = some (.iface nm d, p)) : ∃ te pe, cs = [.iface te pe] := by
  obtain ⟨ms, ht⟩ := ht
  cases fuel with
  | zero => simp [DataW.trod] at h
  | succ n =>
    unfold DataW.trod at h
    rw [ht] at h
    split at h <;> simp_all

theorem d1 : (Rows.laid_unicode_White_Space : DataW Unit) = whiteData := by kernel_rfl
theorem d2 : (Rows.laid_unicode_properties : DataW Unit) = tabData .u8 propertiesTab := by kernel_rfl
theorem d3 : (Rows.laid_internal_strconv_uint64pow10 : DataW Unit) = tabData .u64 pow10Tab := by kernel_rfl

theorem gPow : Tryd.prog.globalNamed "internal/strconv.uint64pow10" = some 6 := by kernel_rfl
theorem gPowT : (Tryd.prog.globals[6]?).map (·.type) = some 149 := by kernel_rfl
theorem cPow1 : Tryd.prog.cellsOf 133 = 1 := by kernel_rfl
theorem cPow2 : Tryd.prog.cellsOf 149 = 20 := by kernel_rfl
theorem gProp : Tryd.prog.globalNamed "unicode.properties" = some 2 := by kernel_rfl
theorem gPropT : (Tryd.prog.globals[2]?).map (·.type) = some 125 := by kernel_rfl
theorem cProp1 : Tryd.prog.cellsOf 5 = 1 := by kernel_rfl
theorem cProp2 : Tryd.prog.cellsOf 125 = 256 := by kernel_rfl
theorem gSyn : Tryd.prog.globalNamed "strconv.ErrSyntax" = some 4 := by kernel_rfl
theorem gSynT : (Tryd.prog.globals[4]?).map (·.type) = some 35 := by kernel_rfl
theorem gRng : Tryd.prog.globalNamed "strconv.ErrRange" = some 5 := by kernel_rfl
theorem gRngT : (Tryd.prog.globals[5]?).map (·.type) = some 35 := by kernel_rfl

theorem plainL : (laidL.all fun x => x.2.handleName?.isNone) = true := by kernel_rfl

theorem ctx_of_laid {W : World} (h : laidMetH Tryd.prog laidL W) : Ctx W := by
  rw [MakeChecks.laidMetH_plain _ _ _ plainL] at h
  have r1 : VarReads Tryd.prog W "unicode.White_Space" whiteData := by
    rw [← d1]; exact laidMet.reads h (by simp [laidL, Rows.fnPosBackRow])
  have r2 : VarReads Tryd.prog W "unicode.properties" (tabData .u8 propertiesTab) := by
    rw [← d2]; exact laidMet.reads h (by simp [laidL, Rows.fnPosBackRow])
  have r3 : VarReads Tryd.prog W "internal/strconv.uint64pow10" (tabData .u64 pow10Tab) := by
    rw [← d3]; exact laidMet.reads h (by simp [laidL, Rows.fnPosBackRow])
  have r4 : VarReads Tryd.prog W "strconv.ErrSyntax" Rows.laid_strconv_ErrSyntax := laidMet.reads h (by simp [laidL, Rows.fnPosBackRow])
  have r5 : VarReads Tryd.prog W "strconv.ErrRange" Rows.laid_strconv_ErrRange := laidMet.reads h (by simp [laidL, Rows.fnPosBackRow])
  have r6 : VarReads Tryd.prog W "unicode.Letter" (rtabData letterT) := by
    rw [← Pinned.letter_eq]; exact laidMet.reads h (by simp [laidL, Rows.fnPosBackRow, Rows.laid_unicode_Letter])
  have r7 : VarReads Tryd.prog W "unicode.Digit" (rtabData digitT) := by
    rw [← Pinned.digit_eq]; exact laidMet.reads h (by simp [laidL, Rows.fnPosBackRow, Rows.laid_unicode_Digit])
  refine ⟨?_, rvar_of_reads Tryd.lays261 rgx (g := 3) (by kernel_rfl) (by kernel_rfl) r6, rvar_of_reads Tryd.lays261 rgx (g := 1) (by kernel_rfl) (by kernel_rfl) r7, whiteTab_of_reads Tryd.lays199 whx r1, ?_, ?_, ?_⟩
  · obtain ⟨g, t, cs, fuel, p, hg, hty, hvar, hd⟩ := r2
    obtain rfl := Option.some.inj (gProp.symm.trans hg)
    obtain rfl := Option.some.inj (gPropT.symm.trans hty)
    unfold TabIs
    rw [hvar, ← cells_of_tab Tryd.underlying125 Tryd.underlying5 cProp1 cProp2 hd]
  · obtain ⟨g, t, cs, fuel, p, hg, hty, hvar, hd⟩ := r3
    obtain rfl := Option.some.inj (gPow.symm.trans hg)
    obtain rfl := Option.some.inj (gPowT.symm.trans hty)
    unfold TabIs
    rw [hvar, ← cells_of_tab Tryd.underlying149 Tryd.underlying133 cPow1 cPow2 hd]
  · obtain ⟨g, t, cs, fuel, p, hg, hty, hvar, hd⟩ := r4
    obtain rfl := Option.some.inj (gSyn.symm.trans hg)
    obtain rfl := Option.some.inj (gSynT.symm.trans hty)
    obtain ⟨te, pe, hv⟩ := iface_cell ⟨_, Tryd.underlying35⟩ hd
    refine ⟨te, pe, ?_⟩
    rw [hvar]
    have : cs = #[.iface te pe] := by cases cs; simp_all
    rw [this]
  · obtain ⟨g, t, cs, fuel, p, hg, hty, hvar, hd⟩ := r5
    obtain rfl := Option.some.inj (gRng.symm.trans hg)
    obtain rfl := Option.some.inj (gRngT.symm.trans hty)
    obtain ⟨te, pe, hv⟩ := iface_cell ⟨_, Tryd.underlying35⟩ hd
    refine ⟨te, pe, ?_⟩
    rw [hvar]
    have : cs = #[.iface te pe] := by cases cs; simp_all
    rw [this]

noncomputable def laidWorld (os : Os) : World := World.laidAll Tryd.prog os laidL
theorem laid_os (os : Os) : (laidWorld os).os = os := World.laidAll_os _ _ _
theorem laid_met (os : Os) (args : Array Value) : laidMetH Tryd.prog laidL ((laidWorld os).forCall (fun _ _ => 0) ⟨#[], args, []⟩).memory := by
  rw [MakeChecks.laidMetH_plain _ _ _ plainL]
  exact laidMet_laidAll _ (by kernel_rfl) (by kernel_rfl)

end Go.Proofs.YtfhnjgoipajiaaaDoor.pl
