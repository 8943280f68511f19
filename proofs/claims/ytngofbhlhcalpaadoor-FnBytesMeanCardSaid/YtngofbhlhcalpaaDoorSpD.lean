/-
  Contracts of the reference's spec.lToken, spec.Lex, spec.Literal at a literal of bytes. No statement of the seat is proved here.
-/
import Derived.Test.YtngofbhlhcalpaaDoorSpC
import Derived.Deep.RegionHeld3
namespace Go.Proofs.YtngofbhlhcalpaaDoor.quo
open Go.RowKit Go.Proofs.YtngofbhlhcalpaaDoor.gen

def kB : ByteArray := ⟨#[60, 98, 121, 116, 101, 115, 62]⟩
def kE : ByteArray := ⟨#[60, 101, 111, 102, 62]⟩

/-- A token in memory. -/
def tok8 (k sp raw txt : ByteArray) (p e : Int) : Array Value := #[.string k, .string sp, .string raw, .string txt, .int .i64 0, .int .i64 p, .int .i64 e, .slice none 0 0]
def TokIs (w : World) (tb : Nat) (k sp raw txt : ByteArray) (p e : Int) : Prop := w.heap[tb]? = some (.cells (tok8 k sp raw txt p e) 31 (0, 0))

theorem TokIs.below {w w' : World} {tb : Nat} {k sp raw txt : ByteArray} {p e : Int} (h : TokIs w tb k sp raw txt p e) (hb : Below w.heap.size w w') : TokIs w' tb k sp raw txt p e := (hb.block _ (block_lt h)).trans h
theorem TokIs.kind {w : World} {tb : Nat} {k sp raw txt : ByteArray} {p e : Int} (h : TokIs w tb k sp raw txt p e) (k' : ByteArray) : TokIs (w.setCell ⟨tb, 0, none⟩ (.string k')) tb k' sp raw txt p e := block_set h _
theorem TokIs.text {w : World} {tb : Nat} {k sp raw txt : ByteArray} {p e : Int} (h : TokIs w tb k sp raw txt p e) (t' : ByteArray) : TokIs (w.setCell ⟨tb, 3, none⟩ (.string t')) tb k sp raw t' p e := block_set h _
theorem TokIs.raw {w : World} {tb : Nat} {k sp raw txt : ByteArray} {p e : Int} (h : TokIs w tb k sp raw txt p e) (t' : ByteArray) : TokIs (w.setCell ⟨tb, 2, none⟩ (.string t')) tb k sp t' txt p e := block_set h _
theorem TokIs.space {w : World} {tb : Nat} {k sp raw txt : ByteArray} {p e : Int} (h : TokIs w tb k sp raw txt p e) (t' : ByteArray) : TokIs (w.setCell ⟨tb, 1, none⟩ (.string t')) tb k t' raw txt p e := block_set h _
theorem TokIs.pos {w : World} {tb : Nat} {k sp raw txt : ByteArray} {p e : Int} (h : TokIs w tb k sp raw txt p e) (p' : Int) : TokIs (w.setCell ⟨tb, 5, none⟩ (.int .i64 p')) tb k sp raw txt p' e := block_set h _
theorem TokIs.en {w : World} {tb : Nat} {k sp raw txt : ByteArray} {p e : Int} (h : TokIs w tb k sp raw txt p e) (p' : Int) : TokIs (w.setCell ⟨tb, 6, none⟩ (.int .i64 p')) tb k sp raw txt p p' := block_set h _

/-- The token's cells, as the walk asks them. -/
theorem TokIs.cells {w : World} {tb : Nat} {k sp raw txt : ByteArray} {p e : Int} (h : TokIs w tb k sp raw txt p e) :
    w.cell? ⟨tb, 0, none⟩ = some (.string k) ∧ w.cell? ⟨tb, 1, none⟩ = some (.string sp) ∧ w.cell? ⟨tb, 2, none⟩ = some (.string raw) ∧ w.cell? ⟨tb, 3, none⟩ = some (.string txt) ∧ w.cell? ⟨tb, 4, none⟩ = some (.int .i64 0) ∧ w.cell? ⟨tb, 5, none⟩ = some (.int .i64 p) ∧ w.cell? ⟨tb, 6, none⟩ = some (.int .i64 e) ∧ w.cell? ⟨tb, 7, none⟩ = some (.slice none 0 0) :=
  ⟨block_cell h 0, block_cell h 1, block_cell h 2, block_cell h 3, block_cell h 4, block_cell h 5, block_cell h 6, block_cell h 7⟩
theorem TokIs.free {w : World} {tb : Nat} {k sp raw txt : ByteArray} {p e : Int} (h : TokIs w tb k sp raw txt p e) (i : Nat) : w.frozen? ⟨tb, i, none⟩ = false := block_free h i

/-- What a reader of a token gives. -/
def TokRes2 (tb : Nat) (k sp raw txt : ByteArray) (p e : Int) (n : Int) (w : World) (en : Ending) (w' : World) : Prop :=
  en = .returned (.tuple #[.int .i64 n, .bool true]) ∧ TokIs w' tb k sp raw txt p e ∧ Frm w w' [tb]

set_option maxRecDepth 100000 in
theorem token_eof (s : ByteArray) (tb : Nat) (sp : ByteArray) (w : World) (ht : TokIs w tb ⟨#[]⟩ sp ⟨#[]⟩ ⟨#[]⟩ (s.size : Int) 0) :
    Calls Tryd.prog 19 #[.string s, .int .i64 (s.size : Int), .bool false, .bool false, .pointer (some ⟨tb, 0, none⟩)] w (TokRes2 tb kE sp ⟨#[]⟩ ⟨#[]⟩ (s.size : Int) 0 (s.size : Int) w) := by
  have HT := Lib.hid ht
  obtain ⟨c0, _⟩ := ht.cells
  have f0 := ht.free 0
  clear ht
  go_enter Tryd.func19, Tryd.ntmps19
  go_wp2_with fail
  go_ret2
  exact ⟨rfl, HT.out.kind _, (Frm.refl w _).setCell _ _ (.inl (by simp))⟩

theorem digit98 (w : World) : Calls Tryd.prog 29 #[.int .u8 98] w fun e w' => e = .returned (.bool false) ∧ w = w' := by
  go_enter Tryd.func29, Tryd.ntmps29
  go_wp2_with fail
  go_ret
  exact ⟨rfl, rfl⟩

set_option maxRecDepth 100000 in
set_option maxHeartbeats 1000000 in
theorem token_lit (s : ByteArray) (q : UInt8) (hq : q = 34 ∨ q = 39) (l : List UInt8) (hL : IsLit s q l) (tb : Nat) (sp : ByteArray) (w : World) (ht : TokIs w tb ⟨#[]⟩ sp ⟨#[]⟩ ⟨#[]⟩ 0 0) :
    Calls Tryd.prog 19 #[.string s, .int .i64 0, .bool false, .bool false, .pointer (some ⟨tb, 0, none⟩)] w (TokRes2 tb kB sp ⟨#[]⟩ ⟨l.toArray⟩ 0 0 (s.size : Int) w) := by
  have HT := Lib.hid ht
  have hsz := hL.sz
  obtain ⟨h0, e0, _⟩ := hL.at0
  obtain ⟨h1, e1, _⟩ := hL.at1
  have g0 : (s[0].toNat : Int) = 98 := by rw [e0]; rfl
  have z0 : ((0 : Int) == (s.size : Int)) = false := by rw [beq_eq_false_iff_ne]; omega
  have hd0 : (0 : Int) < (s.size : Int) := by omega
  have HP : Hid (∀ w, Calls Tryd.prog 32 #[.string s, .int .i64 0] w fun e w' => e = .returned (.tuple #[.int .i64 1, .bool false, .bool true]) ∧ w = w') := fun w => prefix_any s q hq w hsz h1 e0 e1
  have HQ : Hid (∀ w, Calls Tryd.prog 28 #[.string s, .int .i64 1, .bool false, .bool true] w (QuoRes s l w)) := fun w => by
    rcases hq with rfl | rfl
    · exact quoted_34 s l w hL
    · exact quoted_39 s l w hL
  clear ht hL e0 e1 hq
  go_enter Tryd.func19, Tryd.ntmps19
  go_wp2_with fail
  refine (digit98 _).mono ?_
  rintro e w' ⟨rfl, rfl⟩
  go_wp2_with fail
  refine (HP.out _).mono ?_
  rintro e w' ⟨rfl, rfl⟩
  go_wp2_with fail
  refine (HQ.out _).mono ?_
  rintro e w1 ⟨rfl, hb⟩
  have HT1 := Lib.hid (HT.out.below hb)
  have HB := Lib.hid hb
  obtain ⟨c0, _, _, c3, _⟩ := HT1.out.cells
  have f0 := HT1.out.free 0
  have f3 := HT1.out.free 3
  have k0 := ((HT1.out.kind ⟨#[60, 115, 116, 114, 105, 110, 103, 62]⟩).text ⟨l.toArray⟩).cells.1
  have kf := ((HT1.out.kind ⟨#[60, 115, 116, 114, 105, 110, 103, 62]⟩).text ⟨l.toArray⟩).free 0
  clear hb
  go_wp2_with fail
  go_ret2
  exact ⟨rfl, ((HT1.out.kind _).text _).kind _, (((((Frm.ofBelow HB.out [tb]).setCell _ _ (.inl (by simp))).setCell _ _ (.inl (by simp)))).setCell _ _ (.inl (by simp)))⟩

end Go.Proofs.YtngofbhlhcalpaaDoor.quo
