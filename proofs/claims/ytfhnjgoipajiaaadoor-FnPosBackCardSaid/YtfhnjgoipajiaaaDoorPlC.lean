/-
  The tables that the reader of positions asks; the classes of runes. No statement of the seat is proved here.
-/
import Derived.Test.YtfhnjgoipajiaaaDoorPlB
import Derived.Test.YtfhnjgoipajiaaaDoorPlR
import Derived.Test.YtfhnjgoipajiaaaDoorShelf
import Derived.Test.YtfhnjgoipajiaaaDoorGen
namespace Go.Proofs.YtfhnjgoipajiaaaDoor.pl
open Go.RowKit Go.Proofs.YtfhnjgoipajiaaaDoor.gen

theorem cell_stays {w w' : World} {B : Nat} {a : Addr} {v : Value} (h : w.cell? a = some v) (hb : Below B w w') (hB : a.block < B) : w'.cell? a = some v := (hb.cell hB).trans h
theorem cell_on {w w' : World} {a : Addr} {v : Value} (h : w.cell? a = some v) (hb : Below w.heap.size w w') : w'.cell? a = some v := (hb.cell (World.block_lt_of_cell? _ _ h)).trans h

theorem var_stays {P : Program} {n : String} {g : Nat} {cs : Array Value} {w w' : World} (hg : P.globalNamed n = some g) (h : w.var? P n = some cs) (hb : Below w.heap.size w w') : w'.var? P n = some cs := by
  unfold World.var? at h ⊢
  rw [hg] at h ⊢
  simp only [Option.bind_some] at h ⊢
  have hlt : g < w.heap.size := by
    rcases Nat.lt_or_ge g w.heap.size with h' | h'
    · exact h'
    · rw [Array.getElem?_eq_none h'] at h; cases h
  rw [hb.block g hlt]
  exact h

theorem RgTab_on {k : IntKind} {R oR : Nat} {T : Array Lib.Rg} {w w' : World} (h : Lib.RgTab k R oR T w) (hb : Below w.heap.size w w') : Lib.RgTab k R oR T w' := fun i hi => by
  obtain ⟨h1, h2, h3⟩ := h i hi
  exact ⟨cell_on h1 hb, cell_on h2 hb, cell_on h3 hb⟩
theorem RVar_on {g : Nat} {T : Lib.RTab} {w w' : World} (h : Lib.RVar g T w) (hb : Below w.heap.size w w') : Lib.RVar g T w' := by
  obtain ⟨Tb, oT, h1, a16, a32, R16, o16, c16, R32, o32, c32, k1, k2, k3, k4, k5, k6, k7, k8⟩ := h
  exact ⟨Tb, oT, cell_on h1 hb, a16, a32, R16, o16, c16, R32, o32, c32, cell_on k1 hb, cell_on k2 hb, cell_on k3 hb, k4, k5, RgTab_on k6 hb, RgTab_on k7 hb, k8⟩

/-- The tables. -/
structure Ctx (w : World) : Prop where
  props : Lib.TabIs Tryd.prog w "unicode.properties" .u8 Lib.propertiesTab
  letter : Lib.RVar 3 Lib.letterT w
  digit : Lib.RVar 1 Lib.digitT w
  white : Lib.WhiteTab 0 w
  pow : Lib.TabIs Tryd.prog w "internal/strconv.uint64pow10" .u64 Lib.pow10Tab
  syn : ∃ tp p, w.var? Tryd.prog "strconv.ErrSyntax" = some #[.iface tp p]
  rng : ∃ tp p, w.var? Tryd.prog "strconv.ErrRange" = some #[.iface tp p]

theorem Ctx.below {w w' : World} (h : Ctx w) (hb : Below w.heap.size w w') : Ctx w' := by
  obtain ⟨tp1, p1, h1⟩ := h.syn
  obtain ⟨tp2, p2, h2⟩ := h.rng
  exact ⟨var_stays (g := 2) (by kernel_rfl) h.props hb, RVar_on h.letter hb, RVar_on h.digit hb, WhiteTab_below h.white hb, var_stays (g := 6) (by kernel_rfl) h.pow hb, ⟨tp1, p1, var_stays (g := 4) (by kernel_rfl) h1 hb⟩, ⟨tp2, p2, var_stays (g := 5) (by kernel_rfl) h2 hb⟩⟩

/-- The tables lie below the reader. -/
def Env (w : World) (pb : Nat) : Prop := ∃ W0, Ctx W0 ∧ Below W0.heap.size W0 w ∧ W0.heap.size ≤ pb

theorem Env.ctx {w : World} {pb : Nat} (h : Env w pb) : Ctx w := by
  obtain ⟨W0, ht, hb, _⟩ := h
  exact ht.below hb
theorem Env.frm {w w' : World} {pb : Nat} {S : List Nat} (h : Env w pb) (hf : Frm w w' S) (hS : ∀ x, x ∈ S → x = pb) : Env w' pb := by
  obtain ⟨W0, ht, hb, h1⟩ := h
  refine ⟨W0, ht, hb.trans (hf.belowOf (fun x hx => ?_) hb.size), h1⟩
  rw [hS x hx]
  exact h1
theorem Env.drewN {w : World} {pb : Nat} (h : Env w pb) (n : Nat) : Env (w.drewN n) pb := h.frm (S := []) ((Frm.refl w []).drewN n) (by simp)

/-- The classes of runes. -/
def cls : Cls := ⟨fun c => Lib.isLetterU (c : Int), fun c => Lib.isDigitU (c : Int), fun c => Lib.isSpaceR c⟩

theorem cls_ok : cls.Ok := by
  have key : ∀ c : Fin 128, cls.letter c.val = ((65 ≤ c.val && c.val ≤ 90) || (97 ≤ c.val && c.val ≤ 122)) ∧ cls.digit c.val = (48 ≤ c.val && c.val ≤ 57) ∧ cls.space c.val = ((9 ≤ c.val && c.val ≤ 13) || c.val == 32) := by decide +kernel
  exact ⟨fun c hc => key ⟨c, hc⟩⟩

/-- The reader, in memory: at the place p of the runes R. -/
structure At (w : World) (pb : Nat) (R : List Nat) (p : Nat) : Prop where
  blk : ∃ rb cap, w.heap[pb]? = some (.cells #[.slice (some ⟨rb, 0, none⟩) R.length cap, .int .i64 (p : Int)] 45 (0, 0)) ∧ rb < pb ∧ R.length ≤ cap ∧ cap ≤ maxLen ∧ ∀ j, (hj : j < R.length) → w.cell? ⟨rb, j, none⟩ = some (.int .i32 ((R[j]'hj : Nat) : Int))
  le : p ≤ R.length
  len : R.length ≤ 2147483647
  good : ∀ r ∈ R, GR r

theorem At.lt {w : World} {pb : Nat} {R : List Nat} {p : Nat} (h : At w pb R p) : pb < w.heap.size := by
  obtain ⟨rb, cap, h1, _⟩ := h.blk
  exact block_lt h1

theorem At.frm {w w' : World} {pb : Nat} {R : List Nat} {p : Nat} (h : At w pb R p) (hf : Frm w w' []) : At w' pb R p := by
  obtain ⟨rb, cap, h1, h2, h3, h4, h5⟩ := h.blk
  refine ⟨⟨rb, cap, (hf.block _ (block_lt h1) (by simp)).trans h1, h2, h3, h4, fun j hj => ?_⟩, h.le, h.len, h.good⟩
  have hb : rb < w.heap.size := Nat.lt_trans h2 (block_lt h1)
  rw [World.cell?_of_block (hf.block rb hb (by simp))]
  exact h5 j hj
theorem At.drewN {w : World} {pb : Nat} {R : List Nat} {p : Nat} (h : At w pb R p) (n : Nat) : At (w.drewN n) pb R p := h.frm ((Frm.refl w []).drewN n)

theorem At.move {w : World} {pb : Nat} {R : List Nat} {p : Nat} (h : At w pb R p) (q : Nat) (hq : q ≤ R.length) : At (w.setCell ⟨pb, 1, none⟩ (.int .i64 (q : Int))) pb R q := by
  obtain ⟨rb, cap, h1, h2, h3, h4, h5⟩ := h.blk
  refine ⟨⟨rb, cap, ?_, h2, h3, h4, fun j hj => ?_⟩, hq, h.len, h.good⟩
  · exact block_set h1 _
  · rw [World.cell?_of_block (Below.heap_setCell _ _ _ _ (by show rb ≠ pb; omega))]
    exact h5 j hj

theorem GR_le {r : Nat} (h : GR r) : r ≤ 1114111 := by unfold GR at h; omega

end Go.Proofs.YtfhnjgoipajiaaaDoor.pl
