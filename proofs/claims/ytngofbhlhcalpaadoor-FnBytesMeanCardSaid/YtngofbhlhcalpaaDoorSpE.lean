/-
  Contracts of the reference's spec.Lex and spec.Literal at a literal of bytes. No statement of the seat is proved here.
-/
import Derived.Test.YtngofbhlhcalpaaDoorSpD
import Derived.Deep.AppendLies
namespace Go.Proofs.YtngofbhlhcalpaaDoor.quo
open Go.RowKit Go.Proofs.YtngofbhlhcalpaaDoor.gen

theorem infoTk : (Tryd.prog.info? 31).map (fun i => (i.zero, i.size, i.bytes)) = some (some (.agg #[.string ⟨#[]⟩, .string ⟨#[]⟩, .string ⟨#[]⟩, .string ⟨#[]⟩, .int .i64 0, .int .i64 0, .int .i64 0, .slice none 0 0]), 8, 112) := by kernel_rfl

theorem ext_empty (s : ByteArray) (k : Nat) : s.extract k k = ⟨#[]⟩ := by
  apply ByteArray.ext
  rw [ByteArray.data_extract]
  simp
  omega
theorem ext_all (s : ByteArray) : s.extract 0 s.size = s := by
  apply ByteArray.ext
  rw [ByteArray.data_extract]
  exact Array.extract_size

theorem TokIs.fresh (w : World) : TokIs (w.alloc (.cells (tok8 ⟨#[]⟩ ⟨#[]⟩ ⟨#[]⟩ ⟨#[]⟩ 0 0) 31)) w.heap.size ⟨#[]⟩ ⟨#[]⟩ ⟨#[]⟩ ⟨#[]⟩ 0 0 := heap_alloc_new w _

def tok_cells (n : Nat) : Array Value := ((tok8 ⟨#[]⟩ ⟨#[]⟩ ⟨#[]⟩ ⟨#[]⟩ 0 0).setIfInBounds 1 (.string ByteArray.empty)).setIfInBounds 5 (.int .i64 (n : Int))
theorem tok_start (w : World) : TokIs (w.alloc (.cells (((tok8 ⟨#[]⟩ ⟨#[]⟩ ⟨#[]⟩ ⟨#[]⟩ 0 0).setIfInBounds 1 (.string ByteArray.empty)).setIfInBounds 5 (.int .i64 0)) 31)) w.heap.size ⟨#[]⟩ ⟨#[]⟩ ⟨#[]⟩ ⟨#[]⟩ 0 0 := heap_alloc_new w _
theorem tok_startN (w : World) (n : Nat) : TokIs (w.alloc (.cells (((tok8 ⟨#[]⟩ ⟨#[]⟩ ⟨#[]⟩ ⟨#[]⟩ 0 0).setIfInBounds 1 (.string ByteArray.empty)).setIfInBounds 5 (.int .i64 (n : Int))) 31)) w.heap.size ⟨#[]⟩ ⟨#[]⟩ ⟨#[]⟩ ⟨#[]⟩ (n : Int) 0 := heap_alloc_new w _

theorem kB_ne : (kB.toList == [60, 101, 111, 102, 62]) = false := by rw [ByteArray.toList_eq]; decide
theorem kB_dot : (kB.toList == [46]) = false := by rw [ByteArray.toList_eq]; decide
theorem kE_eq : (kE.toList == [60, 101, 111, 102, 62]) = true := by rw [ByteArray.toList_eq]; decide

/-- The two tokens of the literal. -/
def LexLit (s : ByteArray) (l : List UInt8) (w : World) (e : Ending) (w' : World) : Prop :=
  ∃ g cap, e = .returned (.tuple #[.slice (some ⟨g, 0, none⟩) 2 cap, .int .i64 0, .bool true]) ∧ w'.cell? ⟨g, 0, none⟩ = some (.string kB) ∧ w'.cell? ⟨g, 2, none⟩ = some (.string s) ∧ w'.cell? ⟨g, 3, none⟩ = some (.string ⟨l.toArray⟩) ∧ Below w.heap.size w w'

/-- Behind the first token. -/
structure One (s : ByteArray) (l : List UInt8) (w : World) (v : Value) (wr : World) : Prop where
  own : wr.ownsRow w.heap.size 31 8 v 1 (tok8 kB ⟨#[]⟩ s ⟨l.toArray⟩ 0 (s.size : Int)).toList
  bel : Below w.heap.size w wr

set_option maxRecDepth 100000 in
set_option maxHeartbeats 4000000 in
theorem lex_lit_any (s : ByteArray) (q : UInt8) (hq : q = 34 ∨ q = 39) (l : List UInt8) (hL : IsLit s q l) (w : World) : Calls Tryd.prog 7 #[.string s] w (LexLit s l w) := by
  obtain ⟨i0, hi0, hz0, hz1, hz2'⟩ := info_parts infoTk
  have hsz := hL.sz
  obtain ⟨h0, e0, _⟩ := hL.at0
  have HF0 : Hid (Firm s 0) := .inr ⟨h0, e0⟩
  have HFN : Hid (Firm s s.size) := .inl rfl
  have hE0 := ext_empty s 0
  have hEN := ext_empty s s.size
  have hEA := ext_all s
  have HL := Lib.hid hL
  clear hL e0
  go_enter Tryd.func7, Tryd.ntmps7
  go_wp2_with fail
  go_loopg [5, 6] 2 (fun g v i wr => (g = 2 ∧ v = .slice none 0 0 ∧ i = .int .i64 0 ∧ wr = w) ∨ (∃ b cap, g = 1 ∧ v = .slice (some ⟨b, 0, none⟩) 1 cap ∧ i = .int .i64 (s.size : Int) ∧ Hid (One s l w (.slice (some ⟨b, 0, none⟩) 1 cap) wr)))
  case atStart => exact .inl ⟨rfl, rfl, rfl, rfl⟩
  case round =>
    rcases hrel with ⟨hg, rfl, rfl, rfl⟩ | ⟨b, cap, hg, rfl, rfl, HO⟩
    · have HT0 := Lib.hid (TokIs.fresh wr)
      have HB0 := Lib.hid ((Below.refl wr.heap.size wr).alloc (Nat.le_refl _) (.cells (tok8 ⟨#[]⟩ ⟨#[]⟩ ⟨#[]⟩ ⟨#[]⟩ 0 0) 31))
      go_wp2_with fail
      go_loopg [6] 1 (fun g i w2 => i = .int .i64 0 ∧ w2 = wr.alloc (.cells (tok8 ⟨#[]⟩ ⟨#[]⟩ ⟨#[]⟩ ⟨#[]⟩ 0 0) 31))
      case atStart => exact ⟨rfl, rfl⟩
      case round =>
        obtain ⟨rfl, rfl⟩ := hrel
        go_wp2_with fail
        refine (blanks_any s 0 _ hsz HF0.out).mono ?_
        rintro e w' ⟨rfl, rfl⟩
        go_wp2_with fail
        refine (comment_any s 0 _ hsz HF0.out).mono ?_
        rintro e w' ⟨rfl, rfl⟩
        obtain ⟨c0, c1, c2, c3, c4, c5, c6, c7⟩ := HT0.out.cells
        have f1 := HT0.out.free 1
        go_wp2_with fail
        refine (dotted_none _).mono ?_
        rintro e w' ⟨rfl, rfl⟩
        go_wp2_with fail
        refine (token_lit s q hq l HL.out wr.heap.size ⟨#[]⟩ _ (tok_start wr)).mono ?_
        rintro e w2 ⟨rfl, ht2, hf2⟩
        have HF2 := Lib.hid (((Frm.refl wr []).alloc (.cells (tok_cells 0) 31)).trans hf2 (fun x hx => by right; simp at hx; omega))
        have HT3 := Lib.hid ((ht2.raw s).en (s.size : Int))
        obtain ⟨c0, c1, c2, c3, c4, c5, c6, c7⟩ := ht2.cells
        have f2 := ht2.free 2
        have f6 := ht2.free 6
        have hz2 : wr.heap.size < w2.heap.size := block_lt ht2
        clear ht2 hf2
        go_wp2_with (at_builtin; refine wpList_append_own _ rfl (.tmp 99) (.tmp 101) 26 rfl wr.heap.size 31 i0 _ 8 112 Tryd.underlying26 hi0 hz0 hz1 hz2' rfl (by decide) _ 0 [] rfl (World.ownsRow_nil _ _ _ _) ⟨w2.heap.size, 0, none⟩ 1 1 (tok8 kB ⟨#[]⟩ s ⟨l.toArray⟩ 0 (s.size : Int)).toList rfl rfl ?c1 ?c2 ?c3 ?c4 ?c5 ?_)
        case c1 => exact World.news_of_block (cs := tok8 kB ⟨#[]⟩ s ⟨l.toArray⟩ 0 (s.size : Int)) (t := 31) (fr := (0, 0)) (by have h := heap_alloc_new ((w2.setCell ⟨wr.heap.size, 2, none⟩ (.string s)).setCell ⟨wr.heap.size, 6, none⟩ (.int .i64 (s.size : Int))) (.cells (tok8 kB ⟨#[]⟩ s ⟨l.toArray⟩ 0 (s.size : Int)) 31); rw [show ((w2.setCell ⟨wr.heap.size, 2, none⟩ (.string s)).setCell ⟨wr.heap.size, 6, none⟩ (.int .i64 (s.size : Int))).heap.size = w2.heap.size from by simp] at h; exact h)
        case c2 => simp [tok8, Value.oneCell']
        case c3 => unfold maxLen; omega
        case c4 => omega
        case c5 => simp; omega
        intro v' w5 hown1 hgrow _
        have hb5 : Below wr.heap.size wr w5 := by
          have h1 : Frm wr w2 [] := HF2.out
          refine Below.grown ((Below.alloc (((h1.below).setCell (p := ⟨wr.heap.size, 2, none⟩) (Nat.le_refl _) _).setCell (p := ⟨wr.heap.size, 6, none⟩) (Nat.le_refl _) _) (by simp; omega) _)) hgrow (by simp; omega) (fun k hk => by simp [Value.ownBlock] at hk)
        have k0 : w5.cell? ⟨wr.heap.size, 0, none⟩ = some (.string kB) := by
          rw [World.cell?_of_block (hgrow.block wr.heap.size (by simp; omega) (by simp [Value.ownBlock])), World.cell?_of_block (Below.heap_alloc _ _ _ (by simp; omega))]
          exact HT3.out.cells.1
        have HO1 : Hid (One s l wr v' w5) := ⟨hown1, hb5⟩
        clear hown1 hgrow hb5
        obtain ⟨b, cap, hv⟩ : ∃ b cap, v' = .slice (some ⟨b, 0, none⟩) 1 cap := by
          rcases HO1.out.own.2 with ⟨_, h0⟩ | ⟨g', cap', cur, h1, _⟩
          · omega
          · exact ⟨g', cap', h1⟩
        rw [hv] at HO1 ⊢
        have kne : (kB.toList == [60, 101, 111, 102, 62]) = false := kB_ne
        go_wp2_with fail
        go_roundg 1
        case measure => omega
        case rel => exact .inr ⟨_, _, rfl, rfl, rfl, HO1.out⟩
    · have hz5 := HO.out.bel.size
      have HT0 := Lib.hid (TokIs.fresh wr)
      have kc : wr.cell? ⟨b, 0, none⟩ = some (.string kB) := HO.out.own.cellAt 0 (by decide)
      have kd : (kB.toList == [46]) = false := kB_dot
      have hbl : b < wr.heap.size := World.block_lt_of_cell? _ _ kc
      have kA : ∀ o, (wr.alloc o).cell? ⟨b, 0, none⟩ = some (.string kB) := fun o => (World.cell?_of_block (Below.heap_alloc _ _ _ hbl)).trans kc
      have hneg : ¬ (s.size : Int) < 0 := by omega
      go_wp2_with fail
      go_loopg [6] 1 (fun g i w2 => i = .int .i64 (s.size : Int) ∧ w2 = wr.alloc (.cells (tok8 ⟨#[]⟩ ⟨#[]⟩ ⟨#[]⟩ ⟨#[]⟩ 0 0) 31))
      case atStart => exact ⟨rfl, rfl⟩
      case round =>
        obtain ⟨rfl, rfl⟩ := hrel
        go_wp2_with fail
        refine (blanks_any s s.size _ hsz HFN.out).mono ?_
        rintro e w' ⟨rfl, rfl⟩
        go_wp2_with fail
        refine (comment_any s s.size _ hsz HFN.out).mono ?_
        rintro e w' ⟨rfl, rfl⟩
        obtain ⟨c0, c1, c2, c3, c4, c5, c6, c7⟩ := HT0.out.cells
        have f1 := HT0.out.free 1
        have f5 := HT0.out.free 5
        go_wp2_with fail
        refine (dotted_bytes _).mono ?_
        rintro e w' ⟨rfl, rfl⟩
        go_wp2_with fail
        refine (token_eof s wr.heap.size ⟨#[]⟩ _ (tok_startN wr s.size)).mono ?_
        rintro e w2 ⟨rfl, ht2, hf2⟩
        have HF2 := Lib.hid (((Frm.refl wr []).alloc (.cells (tok_cells s.size) 31)).trans hf2 (fun x hx => by right; simp at hx; omega))
        have HT3 := Lib.hid ((ht2.raw ⟨#[]⟩).en (s.size : Int))
        obtain ⟨_, _, e2, _, _, _, e6, _⟩ := ht2.cells
        have f2 := ht2.free 2
        have f6 := ht2.free 6
        have hz2 : wr.heap.size < w2.heap.size := block_lt ht2
        obtain ⟨W3, hW3⟩ : ∃ W3, (w2.setCell ⟨wr.heap.size, 2, none⟩ (.string ByteArray.empty)).setCell ⟨wr.heap.size, 6, none⟩ (.int .i64 (s.size : Int)) = W3 := ⟨_, rfl⟩
        have HT4 : TokIs W3 wr.heap.size kE ⟨#[]⟩ ⟨#[]⟩ ⟨#[]⟩ (s.size : Int) (s.size : Int) := by rw [← hW3]; exact HT3.out
        obtain ⟨c0, c1, c2, c3, c4, c5, c6, c7⟩ := HT4.cells
        have hzW : W3.heap.size = w2.heap.size := by rw [← hW3]; simp
        have hbW : Below wr.heap.size wr W3 := by
          rw [← hW3]
          exact ((HF2.out.below).setCell (p := ⟨wr.heap.size, 2, none⟩) (Nat.le_refl _) _).setCell (p := ⟨wr.heap.size, 6, none⟩) (Nat.le_refl _) _
        have hown3 : (W3.alloc (.cells (tok8 kE ⟨#[]⟩ ⟨#[]⟩ ⟨#[]⟩ (s.size : Int) (s.size : Int)) 31)).ownsRow w.heap.size 31 8 (.slice (some ⟨b, 0, none⟩) 1 cap) 1 (tok8 kB ⟨#[]⟩ s ⟨l.toArray⟩ 0 (s.size : Int)).toList := by
          obtain ⟨k1, k2⟩ := HO.out.own
          refine World.ownsRow.alloc ⟨k1, ?_⟩ _
          rcases k2 with h9 | ⟨g9, c9, cur9, m1, m2, m3, m4⟩
          · exact .inl h9
          · exact .inr ⟨g9, c9, cur9, m1, m2, (hbW.block _ (block_lt m3)).trans m3, m4⟩
        clear ht2 hf2 HT4
        go_wp2_with (at_builtin; refine wpList_append_own _ rfl (.tmp 99) (.tmp 101) 26 rfl w.heap.size 31 i0 _ 8 112 Tryd.underlying26 hi0 hz0 hz1 hz2' rfl (by decide) _ 1 (tok8 kB ⟨#[]⟩ s ⟨l.toArray⟩ 0 (s.size : Int)).toList rfl ?c0 ⟨w2.heap.size, 0, none⟩ 1 1 (tok8 kE ⟨#[]⟩ ⟨#[]⟩ ⟨#[]⟩ (s.size : Int) (s.size : Int)).toList rfl rfl ?c1 ?c2 ?c3 ?c4 ?c5 ?_)
        case c0 => exact hown3
        case c1 => exact World.news_of_block (cs := tok8 kE ⟨#[]⟩ ⟨#[]⟩ ⟨#[]⟩ (s.size : Int) (s.size : Int)) (t := 31) (fr := (0, 0)) (by have h := heap_alloc_new W3 (.cells (tok8 kE ⟨#[]⟩ ⟨#[]⟩ ⟨#[]⟩ (s.size : Int) (s.size : Int)) 31); rw [hzW] at h; exact h)
        case c2 => simp [tok8, Value.oneCell']
        case c3 => unfold maxLen; omega
        case c4 => omega
        case c5 => have := hbW.size; simp; omega
        intro v' w5 hown5 hgrow _
        obtain ⟨b5, cap5, hv⟩ : ∃ b cap, v' = .slice (some ⟨b, 0, none⟩) 2 cap := by
          rcases hown5.2 with ⟨_, h0⟩ | ⟨g', cap', cur, h1, _⟩
          · omega
          · exact ⟨g', cap', h1⟩
        subst hv
        have hLL : Hid (LexLit s l w (.returned (.tuple #[.slice (some ⟨b5, 0, none⟩) 2 cap5, .int .i64 0, .bool true])) w5) := by
          refine ⟨b5, cap5, rfl, hown5.cellAt 0 (by decide), hown5.cellAt 2 (by decide), hown5.cellAt 3 (by decide), ?_⟩
          refine Below.grown ((HO.out.bel.trans (hbW.mono hz5)).alloc (by have := hbW.size; omega) _) hgrow (by have := hbW.size; simp; omega) (fun k hk => ?_)
          simp [Value.ownBlock] at hk
          subst hk
          exact (HO.out.own.lt b rfl).1
        have k0 : w5.cell? ⟨wr.heap.size, 0, none⟩ = some (.string kE) := by
          have hne : ¬ wr.heap.size = b := by omega
          rw [World.cell?_of_block (hgrow.block wr.heap.size (by simp; omega) (by simp [Value.ownBlock]; exact hne)), World.cell?_of_block (Below.heap_alloc W3 _ wr.heap.size (by omega))]
          exact c0
        have keq : (kE.toList == [60, 101, 111, 102, 62]) = true := kE_eq
        clear hown5 hgrow
        go_wp2_with fail
        go_ret3
        exact hLL.out

def BoolIs (b : Bool) (w : World) (e : Ending) (w' : World) : Prop := e = .returned (.bool b) ∧ Below w.heap.size w w'

set_option maxRecDepth 100000 in
set_option maxHeartbeats 1000000 in
theorem literal_any (s : ByteArray) (q : UInt8) (hq : q = 34 ∨ q = 39) (l : List UInt8) (hL : IsLit s q l) (w : World) : Calls Tryd.prog 5 #[.string s, .string ⟨l.toArray⟩, .bool true] w (BoolIs true w) := by
  have HL := Lib.hid hL
  clear hL
  go_enter Tryd.func5, Tryd.ntmps5
  go_wp2_with fail
  refine (lex_lit_any s q hq l HL.out _).mono ?_
  rintro e w1 ⟨g, cap, rfl, k0, k2, k3, hb⟩
  have HB := Lib.hid hb
  have hk : (kB.toList == [60, 98, 121, 116, 101, 115, 62]) = true := by rw [ByteArray.toList_eq]; decide
  clear hb
  go_wp2_with fail
  go_ret
  exact ⟨by first | rfl | simp, HB.out⟩

end Go.Proofs.YtngofbhlhcalpaaDoor.quo
