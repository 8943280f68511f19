/-
  Contract of laws.FnBytesBack. No statement of the seat is proved here.
-/
import Derived.Test.YtngofbhlhcalpaaGreatDoorZ37
import Derived.Test.YtngofbhlhcalpaaGreatDoorZ36
import Derived.Test.YtngofbhlhcalpaaGreatDoorZ02
namespace Go.Proofs.YtngofbhlhcalpaaGreatDoor.quo
open Go.RowKit Go.Proofs.YtngofbhlhcalpaaGreatDoor.gen
open Go.Proofs.YtngofbhlhcalpaaGreatDoor.lexer (Ctx lexAll lex_any LexRes itOf IT ToksAt TokAt litTk lex_lit kBytes)

def BoolIs (b : Bool) (w : World) (e : Ending) (w' : World) : Prop := e = .returned (.bool b) ∧ Below w.heap.size w w'

/-- 'string(b)' of bytes that came in. -/
theorem bytes_text {w : World} {v : Value} {l : List UInt8} (h : BytesAt w v l) : (convert 44 9 v).run Tryz.prog w = .ok (.string ⟨l.toArray⟩) w := by
  rcases h with ⟨rfl, ao, cap, rfl⟩ | ⟨b, off, cap, rfl, _, h3⟩
  · cases ao with
    | none => exact Lib.run_convert_nil_bytes w _ _ _ cap Tryz.underlying44 Tryz.underlying5 Tryz.underlying9
    | some a => exact run_convert_bytes_back w _ _ _ a cap [] Tryz.underlying44 Tryz.underlying5 Tryz.underlying9 fun j hj => by simp at hj
  · refine run_convert_bytes_back w _ _ _ ⟨b, off, none⟩ cap l Tryz.underlying44 Tryz.underlying5 Tryz.underlying9 fun j hj => ?_
    have hadd : (⟨b, off, none⟩ : Addr).add j = ⟨b, off + j, none⟩ := by unfold Addr.add; split <;> simp_all
    rw [hadd]
    exact h3 j hj

/-- What single gives: one token of bytes. -/
def OneRes (l : List UInt8) (w : World) (e : Ending) (w' : World) : Prop :=
  ∃ sp raw p n ca cn cc, e = .returned (.tuple #[.agg #[.string kBytes, .string sp, .string raw, .string ⟨l.toArray⟩, .int .i64 0, .int .i64 p, .int .i64 n, .slice ca cn cc], .bool true]) ∧ Below w.heap.size w w'

theorem put8 {W : World} {b : Nat} (k sp raw txt : ByteArray) (base p n : Int) (v : Value) (hb : W.heap[b]? = some (.cells #[.string ⟨#[]⟩, .string ⟨#[]⟩, .string ⟨#[]⟩, .string ⟨#[]⟩, .int .i64 0, .int .i64 0, .int .i64 0, .slice none 0 0] 30 (0, 0))) :
    ((((((((W.setCell ⟨b, 0, none⟩ (.string k)).setCell ⟨b, 1, none⟩ (.string sp)).setCell ⟨b, 2, none⟩ (.string raw)).setCell ⟨b, 3, none⟩ (.string txt)).setCell ⟨b, 4, none⟩ (.int .i64 base)).setCell ⟨b, 5, none⟩ (.int .i64 p)).setCell ⟨b, 6, none⟩ (.int .i64 n)).setCell ⟨b, 7, none⟩ v).heap[b]? = some (.cells #[.string k, .string sp, .string raw, .string txt, .int .i64 base, .int .i64 p, .int .i64 n, v] 30 (0, 0)) ∧
    Frm W ((((((((W.setCell ⟨b, 0, none⟩ (.string k)).setCell ⟨b, 1, none⟩ (.string sp)).setCell ⟨b, 2, none⟩ (.string raw)).setCell ⟨b, 3, none⟩ (.string txt)).setCell ⟨b, 4, none⟩ (.int .i64 base)).setCell ⟨b, 5, none⟩ (.int .i64 p)).setCell ⟨b, 6, none⟩ (.int .i64 n)).setCell ⟨b, 7, none⟩ v) [b] := by
  refine ⟨?_, ?_⟩
  · have c := (block_set (block_set (block_set (block_set (block_set (block_set (block_set (block_set hb (i := 0) (.string k)) (i := 1) (.string sp)) (i := 2) (.string raw)) (i := 3) (.string txt)) (i := 4) (.int .i64 base)) (i := 5) (.int .i64 p)) (i := 6) (.int .i64 n)) (i := 7) v)
    simp only [List.setIfInBounds_toArray, List.set_cons_zero, List.set_cons_succ] at c
    exact c
  · repeat (refine Frm.setCell ?_ _ _ (.inl (by simp)))
    exact Frm.refl W [b]

theorem lexAll_lit {s : ByteArray} {q : UInt8} {l : List UInt8} (hq : q = 34 ∨ q = 39) (hs : s.data.toList = lit q l) :
    lexAll s = ([(0, ⟨[], 0, litTk q l⟩), ((lit q l).length, ⟨[], 0, lexer.plain lexer.kEof 0⟩)], none) := by
  unfold lexAll
  rw [hs]
  exact lex_lit q hq l

set_option maxRecDepth 100000 in
set_option maxHeartbeats 1000000 in
theorem single_lit (s : ByteArray) (q : UInt8) (hq : q = 34 ∨ q = 39) (l : List UInt8) (hs : s.data.toList = lit q l) (hz : s.size ≤ 1048576) (w : World) (hc : Ctx w) : Calls Tryz.prog 24 #[.string s] w (OneRes l w) := by
  have hA := lexAll_lit hq hs
  have hLx : Hid (∀ W, Ctx W → Calls Tryz.prog 12 #[.string s] W (LexRes s W)) := fun W hW => lex_any s W hz hW (.inr (by rw [hA]))
  have HA := Lib.hid hA
  have hn : s.size = (lit q l).length := by rw [← hs, Array.length_toList]; rfl
  have HR : Hid ((itOf s (0, ⟨[], 0, litTk q l⟩)).raw = s) := by
    show s.extract (0 + (0 + 0)) (0 + (0 + 0 + (lit q l).length)) = s
    simp only [Nat.zero_add]
    rw [← hn]
    apply ByteArray.ext
    rw [ByteArray.data_extract]
    exact Array.extract_size
  have HC := Lib.hid hc
  clear hA hc hs hn
  go_enter Tryz.func24, Tryz.ntmps24
  go_wp2_with fail
  refine (hLx.out _ (HC.out.below ((Below.refl _ _).alloc (Nat.le_refl _) _))).mono ?_
  rintro e w1 ⟨v, rfl, hT, hb⟩
  rw [HA.out] at hT ⊢
  obtain ⟨g, cap, hv⟩ : ∃ g cap, v = .slice (some ⟨g, 0, none⟩) 2 cap := by
    rcases hT.shape with ⟨_, h0⟩ | ⟨g, cap, h1, _⟩
    · cases h0
    · exact ⟨g, cap, h1⟩
  subst hv
  obtain ⟨q0, q1, q2, q3, q4, q5, q6, ca, cn, cc, q7, _⟩ := hT.at_ 0 _ rfl
  have HB := Lib.hid hb
  have c0 : w1.cell? ⟨g, 0, none⟩ = some (.string kBytes) := q0
  obtain ⟨sp, c1⟩ : ∃ sp, w1.cell? ⟨g, 1, none⟩ = some (.string sp) := ⟨_, q1⟩
  have c2 : w1.cell? ⟨g, 2, none⟩ = some (.string s) := by rw [HR.out] at q2; exact q2
  have c3 : w1.cell? ⟨g, 3, none⟩ = some (.string ⟨l.toArray⟩) := q3
  have c4 : w1.cell? ⟨g, 4, none⟩ = some (.int .i64 0) := q4
  obtain ⟨p, c5⟩ : ∃ p, w1.cell? ⟨g, 5, none⟩ = some (.int .i64 p) := ⟨_, q5⟩
  obtain ⟨n, c6⟩ : ∃ n, w1.cell? ⟨g, 6, none⟩ = some (.int .i64 n) := ⟨_, q6⟩
  have c7 : w1.cell? ⟨g, 7, none⟩ = some (.slice ca cn cc) := q7
  have hblk : w1.heap[w.heap.size]? = some (.cells #[.string ⟨#[]⟩, .string ⟨#[]⟩, .string ⟨#[]⟩, .string ⟨#[]⟩, .int .i64 0, .int .i64 0, .int .i64 0, .slice none 0 0] 30 (0, 0)) :=
    (hb.block _ (by show w.heap.size < (w.heap.push _).size; rw [Array.size_push]; omega)).trans (heap_alloc_new w _)
  have d0 := block_cell hblk 0
  have d1 := block_cell hblk 1
  have d2 := block_cell hblk 2
  have d3 := block_cell hblk 3
  have d4 := block_cell hblk 4
  have d5 := block_cell hblk 5
  have d6 := block_cell hblk 6
  have d7 := block_cell hblk 7
  have f0 := block_free hblk 0
  have f1 := block_free hblk 1
  have f2 := block_free hblk 2
  have f3 := block_free hblk 3
  have f4 := block_free hblk 4
  have f5 := block_free hblk 5
  have f6 := block_free hblk 6
  have f7 := block_free hblk 7
  clear hT q0 q1 q2 q3 q4 q5 q6 q7 hb
  have HBK := Lib.hid hblk
  clear hblk
  go_wp2_with fail
  obtain ⟨D1, D2⟩ := put8 kBytes sp s ⟨l.toArray⟩ 0 p n (.slice ca cn cc) HBK.out
  generalize ((((((((w1.setCell ⟨w.heap.size, 0, none⟩ (.string kBytes)).setCell ⟨w.heap.size, 1, none⟩ (.string sp)).setCell ⟨w.heap.size, 2, none⟩ (.string s)).setCell ⟨w.heap.size, 3, none⟩ (.string ⟨l.toArray⟩)).setCell ⟨w.heap.size, 4, none⟩ (.int .i64 0)).setCell ⟨w.heap.size, 5, none⟩ (.int .i64 p)).setCell ⟨w.heap.size, 6, none⟩ (.int .i64 n)).setCell ⟨w.heap.size, 7, none⟩ (.slice ca cn cc)) = W9 at *
  have y0 := block_cell D1 0
  have y1 := block_cell D1 1
  have y2 := block_cell D1 2
  have y3 := block_cell D1 3
  have y4 := block_cell D1 4
  have y5 := block_cell D1 5
  have y6 := block_cell D1 6
  have y7 := block_cell D1 7
  have hbel9 : Below w.heap.size w W9 := by
    have h0 : Below w.heap.size w (w.alloc (.cells #[.string ⟨#[]⟩, .string ⟨#[]⟩, .string ⟨#[]⟩, .string ⟨#[]⟩, .int .i64 0, .int .i64 0, .int .i64 0, .slice none 0 0] 30)) := (Below.refl _ _).alloc (Nat.le_refl _) _
    have h1 : Below w.heap.size w w1 := h0.trans (HB.out.mono h0.size)
    exact ((Frm.ofBelow h1 []).trans D2 (fun x hx => by right; simp at hx; omega)).below
  clear D1 D2
  exact bodyPost_ret (v := .tuple #[.agg #[.string kBytes, .string sp, .string s, .string ⟨l.toArray⟩, .int .i64 0, .int .i64 p, .int .i64 n, .slice ca cn cc], .bool true]) (by simp [results, Tryz.results24, go_sem, y0, y1, y2, y3, y4, y5, y6, y7]) rfl ⟨_, _, _, _, _, _, _, rfl, hbel9⟩

set_option maxRecDepth 100000 in
set_option maxHeartbeats 1000000 in
theorem back_any (v : Value) (l : List UInt8) (w : World) (hl : l.length ≤ 9223372036854775807) (h : BytesAt w v l) (ht : Tz w) (hc : Ctx w) : Calls Tryz.prog 9 #[v] w (BoolIs true w) := by
  obtain ⟨n, hn⟩ : ∃ n, n = l.length := ⟨_, rfl⟩
  obtain ⟨ao, cap, hv⟩ : ∃ ao cap, v = .slice ao n cap := by
    rcases h with ⟨h1, ao, cap, h2⟩ | ⟨b, off, cap, h1, _⟩
    · exact ⟨ao, cap, by rw [h2, hn, h1]; rfl⟩
    · exact ⟨_, cap, by rw [h1, hn]⟩
  subst hv
  have HV := Lib.hid h
  have HT := Lib.hid ht
  have HC := Lib.hid hc
  clear h ht hc
  by_cases hbig : 2147483647 < n
  · have d1 : (2147483647 : Int) < (n : Int) := by omega
    clear hn
    go_enter Tryz.func9, Tryz.ntmps9
    go_wp2_with fail
    go_ret
    exact ⟨rfl, Below.refl _ _⟩
  · have d1 : ¬ (2147483647 : Int) < (n : Int) := by omega
    by_cases h2 : 16384 < n
    · have d2 : (16384 : Int) < (n : Int) := by omega
      clear hn
      go_enter Tryz.func9, Tryz.ntmps9
      go_wp2_with fail
      go_ret
      exact ⟨rfl, Below.refl _ _⟩
    · have d2 : ¬ (16384 : Int) < (n : Int) := by omega
      have hl2 : l.length ≤ 2147483647 := by omega
      obtain ⟨s, hs⟩ : ∃ s : ByteArray, s = ⟨(lit (qOf l) l).toArray⟩ := ⟨_, rfl⟩
      have hz : s.size ≤ 1048576 := by
        subst hs
        have h1 := lit_len (qOf l) l
        show (lit (qOf l) l).toArray.size ≤ _
        rw [List.size_toArray]
        omega
      have HQ : Hid (Calls Tryz.prog 25 #[.slice ao n cap] w fun e w' => e = .returned (.string s) ∧ Below w.heap.size w w') := by
        rw [hs]; exact impl_quote_any _ l w hl2 HV.out HT.out
      have HS : Hid (∀ W, Ctx W → Calls Tryz.prog 24 #[.string s] W (OneRes l W)) := fun W hW => single_lit s (qOf l) (qOf_cases l) l (by rw [hs]) hz W hW
      clear hn hs hbig hl hl2 hz h2
      go_enter Tryz.func9, Tryz.ntmps9
      go_wp2_with fail
      refine (HQ.out).mono ?_
      rintro e w1 ⟨rfl, hb⟩
      have HB := Lib.hid hb
      have hv1 := HV.out.below hb
      have HV1 := Lib.hid hv1
      clear hb hv1
      go_wp2_with fail
      refine (HS.out _ (HC.out.below HB.out)).mono ?_
      rintro e w2 ⟨sp, raw, p, n2, ca, cn, cc, rfl, hb2⟩
      have HB2 := Lib.hid (HB.out.trans (hb2.mono HB.out.size))
      have hW2 := HV1.out.below hb2
      have hcv : ∀ o, (convert 44 9 (.slice ao n cap)).run Tryz.prog (w2.alloc o) = .ok (.string ⟨l.toArray⟩) (w2.alloc o) := fun o => bytes_text (hW2.below ((Below.refl _ _).alloc (Nat.le_refl _) o))
      have hk : (kBytes.toList == [60, 98, 121, 116, 101, 115, 62]) = true := by rw [ByteArray.toList_eq]; decide
      clear hb2 hW2
      go_wp2_with fail
      go_ret
      exact ⟨by first | rfl | simp, HB2.out.alloc HB2.out.size _⟩

end Go.Proofs.YtngofbhlhcalpaaGreatDoor.quo
