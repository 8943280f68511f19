/-
  Lemmas and contracts of this claim, texts NextA, Next, NextC, NextT, LexI, LexW. No statement of the seat is proved here.
-/
import Derived.Test.YtngofbhlhcalpaaGreatDoorZ35
import Derived.Test.YtngofbhlhcalpaaGreatDoorZ34
import Derived.Test.YtngofbhlhcalpaaGreatDoorZ00
import Derived.Deep.LoopGhost
import Derived.Deep.RegionHeld3
import Derived.Deep.AppendLies
import Derived.Defers
import Derived.Recover
import Derived.Test.YtngofbhlhcalpaaGreatDoorZ02
namespace Go.Proofs.YtngofbhlhcalpaaGreatDoor.lexer
open Go.RowKit Go.Proofs.YtngofbhlhcalpaaGreatDoor.gen

/-- The lexer behind a token. -/
def nextX (s : ByteArray) (x : LX) (t : Nt) (v : Value) : LX where
  kind := t.tk.kind
  com := v
  space := s.extract (x.p + comsLen t.coms) (x.p + t.pre)
  raw := s.extract (x.p + t.pre) (x.p + t.len)
  text := t.tk.text
  base := t.tk.base
  ps := ((x.p + t.pre : Nat) : Int)
  en := ((x.p + t.len : Nat) : Int)
  p := x.p + t.len
  last := x.kind
  dot := dotOf x.dot t.tk

/-- What nextToken gives. -/
def NextRes (np : Bool) (lb fb : Nat) (fp s : ByteArray) (x : LX) (w : World) (e : Ending) (w' : World) : Prop :=
  (∃ t v, next x.kind x.dot (suf s x.p) = .ok t ∧ Goes (.tuple #[]) lb fb fp s (nextX s x t v) w e w' ∧ ComAt w' w.heap.size v (comsAt s x.p t.coms)) ∨
  (∃ off, next x.kind x.dot (suf s x.p) = .bad off ∧ np = false ∧ FaultL lb fb (x.p + off) w e w') ∨
  (∃ off y cs, next x.kind x.dot (suf s x.p) = .bad off ∧ np = true ∧ x.p < y.p ∧ y.kind ≠ kEof ∧ cs.length ≤ s.size ∧ Goes (.tuple #[]) lb fb fp s y w e w' ∧ ComAt w' w.heap.size y.com cs)

/-- The lexer ahead of a token. -/
def freshX (x : LX) : LX := { x with kind := kNone, com := .slice none 0 0, space := kNone, raw := kNone, text := kNone, base := 0, ps := 0, en := 0, last := x.kind }

/-- The loop over blanks and comments: k bytes are read, they held the comments done. -/
structure NI (lb fb : Nat) (fp s : ByteArray) (x : LX) (w : World) (k : Nat) (done : List PC) (v : Value) (wr : World) : Prop where
  st : St wr lb fb fp s { freshX x with com := v, p := x.p + k }
  frm : Frm w wr [lb]
  own : ComAt wr w.heap.size v done
  coms : comsAt s x.p (gap (suf s x.p)).1 = done ++ comsAt s (x.p + k) (gap (suf s (x.p + k))).1
  len : k + gapLen (gap (suf s (x.p + k))) = gapLen (gap (suf s x.p))
  lenC : k + comsLen (gap (suf s (x.p + k))).1 = comsLen (gap (suf s x.p)).1
  op : (gap (suf s (x.p + k))).2.2 = (gap (suf s x.p)).2.2
  num : done.length ≤ k

theorem NI.start {lb fb : Nat} {fp s : ByteArray} {x : LX} {w w0 : World} (hS : St w0 lb fb fp s (freshX x)) (hF : Frm w w0 [lb]) : NI lb fb fp s x w 0 [] (.slice none 0 0) w0 := by
  refine ⟨hS, hF, World.ownsRow_nil _ _ _ _, rfl, ?_, ?_, rfl, Nat.le_refl _⟩ <;> simp

section
variable {s : ByteArray} {x : LX} {k a n : Nat} {done : List PC}

theorem gap_step (h : com (suf s (x.p + k + spc (suf s (x.p + k)))) = .ok n) (ha : spc (suf s (x.p + k)) = a) :
    gap (suf s (x.p + k)) = ((a, n) :: (gap (suf s (x.p + (k + a + n)))).1, (gap (suf s (x.p + (k + a + n)))).2.1, (gap (suf s (x.p + (k + a + n)))).2.2) := by
  rw [gap_ok (suf s (x.p + k)) n (by rw [suf_drop']; exact h)]
  rw [suf_drop', ha, show x.p + k + (a + n) = x.p + (k + a + n) from by omega]
end

theorem St.setDot {w : World} {lb fb : Nat} {fp s : ByteArray} {x : LX} (h : St w lb fb fp s x) (b : Bool) : St (w.setCell ⟨lb, 11, none⟩ (.bool b)) lb fb fp s { x with dot := b } := h.set 11 _ _ rfl h.pz
theorem St.setRaw {w : World} {lb fb : Nat} {fp s : ByteArray} {x : LX} (h : St w lb fb fp s x) (t : ByteArray) : St (w.setCell ⟨lb, 4, none⟩ (.string t)) lb fb fp s { x with raw := t } := h.set 4 _ _ rfl h.pz
theorem St.setEn {w : World} {lb fb : Nat} {fp s : ByteArray} {x : LX} (h : St w lb fb fp s x) (n : Int) : St (w.setCell ⟨lb, 8, none⟩ (.int .i64 n)) lb fb fp s { x with en := n } := h.set 8 _ _ rfl h.pz

theorem NI.next {lb fb : Nat} {fp s : ByteArray} {x : LX} {w : World} {k a : Nat} {done : List PC} {v : Value} {wr : World} (h : NI lb fb fp s x w k done v wr) (hg : gap (suf s (x.p + k)) = ([], a, false)) :
    (∀ t, tokD x.kind x.dot (suf s (x.p + k + a)) = .ok t → next x.kind x.dot (suf s x.p) = .ok ⟨(gap (suf s x.p)).1, a, t⟩) ∧ (∀ o, tokD x.kind x.dot (suf s (x.p + k + a)) = .bad o → next x.kind x.dot (suf s x.p) = .bad (k + a + o)) ∧
    comsAt s x.p (gap (suf s x.p)).1 = done ∧ comsLen (gap (suf s x.p)).1 = k := by
  have h1 := h.len
  have h2 := h.lenC
  have h3 := h.op
  have h4 := h.coms
  rw [hg] at h1 h2 h3 h4
  simp only [gapLen, comsLen, Nat.add_zero, Nat.zero_add, comsAt, List.append_nil] at h1 h2 h3 h4
  have h5 : (gap (suf s x.p)).2.1 = a := by omega
  have h6 : gapLen (gap (suf s x.p)) = k + a := by unfold gapLen; omega
  refine ⟨fun t ht => ?_, fun o ho => ?_, h4, h2.symm⟩
  · unfold lexer.next
    simp only [← h3, Bool.false_eq_true, if_false, h6, suf_drop', show x.p + (k + a) = x.p + k + a from by omega, ht, h5]
  · unfold lexer.next
    simp only [← h3, Bool.false_eq_true, if_false, h6, suf_drop', show x.p + (k + a) = x.p + k + a from by omega, ho]

theorem mem_on {lb fb : Nat} {fp s : ByteArray} {x : LX} {w : World} {k a n : Nat} {done : List PC} {v v' : Value} {w2 w5 : World} {o : Obj} (hS2 : St w2 lb fb fp s { freshX x with com := v, p := x.p + k + a + n }) (hF2 : Frm w w2 [lb]) (hO2 : ComAt w2 w.heap.size v done) (hlb : lb < w.heap.size) (hfb : fb < w.heap.size) (hg : ((w2.alloc o).drew).grownBy w5 v.ownBlock)
    (hown : w5.ownsRow w.heap.size 83 4 v' (done.length + 1) (tcs done ++ PC.cells ⟨s.extract (x.p + k) (x.p + k + a), s.extract (x.p + k + a) (x.p + k + a + n), x.p + k + a, x.p + k + a + n⟩)) :
    St (w5.setCell ⟨lb, 2, none⟩ v') lb fb fp s { freshX x with com := v', p := x.p + k + a + n } ∧ Frm w (w5.setCell ⟨lb, 2, none⟩ v') [lb] ∧ ComAt (w5.setCell ⟨lb, 2, none⟩ v') w.heap.size v' (done ++ [⟨s.extract (x.p + k) (x.p + k + a), s.extract (x.p + k + a) (x.p + k + a + n), x.p + k + a, x.p + k + a + n⟩]) := by
  have hz := hF2.size
  have hne : ∀ b, b < w.heap.size → w5.heap[b]? = w2.heap[b]? := fun b hb => by
    have h1 := hg.block b (by show b < (w2.heap.push o).size; rw [Array.size_push]; omega) (fun e => by have := (hO2.lt b e.symm).1; omega)
    exact h1.trans (Below.heap_alloc w2 o b (by omega))
  have hS5 : St w5 lb fb fp s { freshX x with com := v, p := x.p + k + a + n } := ⟨(hne lb hlb).trans hS2.lex, (hne fb hfb).trans hS2.file, hS2.ne, hS2.sz, hS2.pz⟩
  have hF5 : Frm w w5 [lb] := by
    have h1 : Frm w2 ((w2.alloc o).drew) [] := ((Frm.refl w2 []).alloc o).drew
    refine (hF2.step (h1.mono (by simp))).trans (Frm.grown (S := v.ownBlock.toList) hg (fun b hb => .inl (by rw [hb]; simp))) (fun y hy => ?_)
    right
    cases hv : v.ownBlock with
    | none => rw [hv] at hy; simp at hy
    | some b => rw [hv] at hy; have : y = b := by simpa using hy
                subst this; exact (hO2.lt y hv).1
  refine ⟨hS5.set 2 _ _ rfl hS5.pz, hF5.setCell _ _ (.inl (by simp)), ?_⟩
  have h1 : ComAt w5 w.heap.size v' (done ++ [⟨s.extract (x.p + k) (x.p + k + a), s.extract (x.p + k + a) (x.p + k + a + n), x.p + k + a, x.p + k + a + n⟩]) := by
    unfold ComAt
    rw [List.length_append, tcs_snoc]
    exact hown
  exact h1.frm ((Frm.refl w5 [lb]).setCell ⟨lb, 2, none⟩ v' (.inl (by simp))) (by simpa using hlb)

theorem NI.on {lb fb : Nat} {fp s : ByteArray} {x : LX} {w : World} {k a n : Nat} {done : List PC} {v v' : Value} {wr w2 w5 : World} {o : Obj} (h : NI lb fb fp s x w k done v wr) (ha : spc (suf s (x.p + k)) = a) (hc : com (suf s (x.p + k + a)) = .ok n)
    (hS2 : St w2 lb fb fp s { freshX x with com := v, p := x.p + k + a + n }) (hF2 : Frm w w2 [lb]) (hO2 : ComAt w2 w.heap.size v done) (hlb : lb < w.heap.size) (hfb : fb < w.heap.size) (hg : ((w2.alloc o).drew).grownBy w5 v.ownBlock) (hn : 0 < n)
    (hown : w5.ownsRow w.heap.size 83 4 v' (done.length + 1) (tcs done ++ PC.cells ⟨s.extract (x.p + k) (x.p + k + a), s.extract (x.p + k + a) (x.p + k + a + n), x.p + k + a, x.p + k + a + n⟩)) :
    NI lb fb fp s x w (k + a + n) (done ++ [⟨s.extract (x.p + k) (x.p + k + a), s.extract (x.p + k + a) (x.p + k + a + n), x.p + k + a, x.p + k + a + n⟩]) v' (w5.setCell ⟨lb, 2, none⟩ v') := by
  have hz := hF2.size
  have hne : ∀ b, b < w.heap.size → w5.heap[b]? = w2.heap[b]? := fun b hb => by
    have h1 := hg.block b (by show b < (w2.heap.push o).size; rw [Array.size_push]; omega) (fun e => by have := (hO2.lt b e.symm).1; omega)
    exact h1.trans (Below.heap_alloc w2 o b (by omega))
  have hS5 : St w5 lb fb fp s { freshX x with com := v, p := x.p + k + a + n } := ⟨(hne lb hlb).trans hS2.lex, (hne fb hfb).trans hS2.file, hS2.ne, hS2.sz, hS2.pz⟩
  have hF5 : Frm w w5 [lb] := by
    have h1 : Frm w2 ((w2.alloc o).drew) [] := ((Frm.refl w2 []).alloc o).drew
    refine (hF2.step (h1.mono (by simp))).trans (Frm.grown (S := v.ownBlock.toList) hg (fun b hb => .inl (by rw [hb]; simp))) (fun y hy => ?_)
    right
    cases hv : v.ownBlock with
    | none => rw [hv] at hy; simp at hy
    | some b => rw [hv] at hy; have : y = b := by simpa using hy
                subst this; exact (hO2.lt y hv).1
  have hgs := gap_step (x := x) (k := k) (a := a) (n := n) (by rw [ha]; exact hc) ha
  refine ⟨?_, hF5.setCell _ _ (.inl (by simp)), ?_, ?_, ?_, ?_, ?_, ?_⟩
  · rw [show x.p + (k + a + n) = x.p + k + a + n from by omega]
    exact hS5.set 2 _ _ rfl hS5.pz
  · have h1 : ComAt w5 w.heap.size v' (done ++ [⟨s.extract (x.p + k) (x.p + k + a), s.extract (x.p + k + a) (x.p + k + a + n), x.p + k + a, x.p + k + a + n⟩]) := by
      unfold ComAt
      rw [List.length_append, tcs_snoc]
      exact hown
    exact h1.frm ((Frm.refl w5 [lb]).setCell ⟨lb, 2, none⟩ v' (.inl (by simp))) (by simpa using hlb)
  · rw [h.coms, hgs]
    simp only [comsAt, List.append_assoc, List.singleton_append, show x.p + (k + a + n) = x.p + k + a + n from by omega]
  · have := h.len
    rw [hgs] at this
    simp only [gapLen, comsLen] at this ⊢
    omega
  · have := h.lenC
    rw [hgs] at this
    simp only [comsLen] at this
    omega
  · have := h.op
    rw [hgs] at this
    exact this
  · rw [List.length_append, List.length_singleton]
    have := h.num
    omega

end Go.Proofs.YtngofbhlhcalpaaGreatDoor.lexer

namespace Go.Proofs.YtngofbhlhcalpaaGreatDoor.lexer
open Go.RowKit Go.Proofs.YtngofbhlhcalpaaGreatDoor.gen

theorem infoTC : (Tryz.prog.info? 83).map (fun i => (i.zero, i.size, i.bytes)) = some (some (.agg #[.string ⟨#[]⟩, .string ⟨#[]⟩, .int .i64 0, .int .i64 0]), 4, 48) := by kernel_rfl

theorem ComRes.ends {lb fb : Nat} {fp s : ByteArray} {x : LX} {np : Bool} {w : World} {e : Ending} {w' : World} (h : ComRes lb fb fp s x np w e w') :
    (∃ y b, e = .returned (.bool b) ∧ St w' lb fb fp s y ∧ Frm w w' [lb] ∧ ((com (suf s x.p) = .no ∧ b = false ∧ y = x) ∨ (∃ n, com (suf s x.p) = .ok n ∧ b = false ∧ y = { x with p := x.p + n }) ∨ (com (suf s x.p) = .opened ∧ np = true ∧ b = true ∧ y = { x with p := s.size }))) ∨
    (com (suf s x.p) = .opened ∧ np = false ∧ FaultL lb fb x.p w e w') := by
  unfold ComRes at h
  cases hc : com (suf s x.p) with
  | no => rw [hc] at h; obtain ⟨h1, h2, h3⟩ := h; exact .inl ⟨x, false, h1, h2, h3, .inl ⟨rfl, rfl, rfl⟩⟩
  | ok n => rw [hc] at h; obtain ⟨h1, h2, h3⟩ := h; exact .inl ⟨_, false, h1, h2, h3, .inr (.inl ⟨n, rfl, rfl, rfl⟩)⟩
  | opened =>
    rw [hc] at h
    rcases h with ⟨h0, h1, h2, h3⟩ | ⟨h0, h1⟩
    · exact .inl ⟨_, true, h1, h2, h3, .inr (.inr ⟨rfl, h0, rfl, rfl⟩)⟩
    · exact .inr ⟨rfl, h0, h1⟩

theorem com_cases {s : ByteArray} {x y : LX} {np b : Bool} (h : (∃ n, com (suf s x.p) = .ok n ∧ b = false ∧ y = { x with p := x.p + n }) ∨ (com (suf s x.p) = .opened ∧ np = true ∧ b = true ∧ y = { x with p := s.size })) (hp : x.p ≤ s.size) :
    ∃ n, 0 < n ∧ x.p + n ≤ s.size ∧ y = { x with p := x.p + n } ∧ ((com (suf s x.p) = .ok n ∧ b = false) ∨ (com (suf s x.p) = .opened ∧ np = true ∧ b = true)) := by
  rcases h with ⟨n, hc, hb, hy⟩ | ⟨hc, hn, hb, hy⟩
  · have h1 := com_le _ _ hc
    rw [suf_len] at h1
    exact ⟨n, h1.1, by omega, hy, .inl ⟨hc, hb⟩⟩
  · have hlt : x.p < s.size := by
      rcases Nat.lt_or_ge x.p s.size with h | h
      · exact h
      · rw [suf_nil s _ h] at hc; cases hc
    exact ⟨s.size - x.p, by omega, by omega, by rw [hy, Nat.add_sub_cancel' hp], .inr ⟨hc, hn, hb⟩⟩

set_option maxRecDepth 100000 in
set_option maxHeartbeats 8000000 in
theorem next_any (lb fb : Nat) (fp s : ByteArray) (x : LX) (np : Bool) (w : World) (hs : s.size ≤ 1048576) (hE : Env w lb fb) (hS : St w lb fb fp s x) (hok : NB s ∨ ∃ t, next x.kind x.dot (suf s x.p) = .ok t) :
    Calls Tryz.prog 38 #[.pointer (some ⟨lb, 0, none⟩), .bool np] w (NextRes np lb fb fp s x w) := by
  have hpz := hS.pz
  have hsz := hS.sz
  have k0 : w.cell? ⟨lb, 0, none⟩ = some (.pointer (some ⟨fb, 0, none⟩)) := hS.rd.c0
  have k9 : w.cell? ⟨lb, 9, none⟩ = some (.int .i64 (x.p : Int)) := hS.rd.c9
  have k1 : w.cell? ⟨lb, 1, none⟩ = some (.string x.kind) := block_cell hS.lex 1
  have f1 := block_free hS.lex 1
  have k2 : w.cell? ⟨lb, 2, none⟩ = some x.com := block_cell hS.lex 2
  have f2 := block_free hS.lex 2
  have k3 : w.cell? ⟨lb, 3, none⟩ = some (.string x.space) := block_cell hS.lex 3
  have f3 := block_free hS.lex 3
  have k4 : w.cell? ⟨lb, 4, none⟩ = some (.string x.raw) := block_cell hS.lex 4
  have f4 := block_free hS.lex 4
  have k5 : w.cell? ⟨lb, 5, none⟩ = some (.string x.text) := block_cell hS.lex 5
  have f5 := block_free hS.lex 5
  have k6 : w.cell? ⟨lb, 6, none⟩ = some (.int .i64 x.base) := block_cell hS.lex 6
  have f6 := block_free hS.lex 6
  have k7 : w.cell? ⟨lb, 7, none⟩ = some (.int .i64 x.ps) := block_cell hS.lex 7
  have f7 := block_free hS.lex 7
  have k8 : w.cell? ⟨lb, 8, none⟩ = some (.int .i64 x.en) := block_cell hS.lex 8
  have f8 := block_free hS.lex 8
  have k10 : w.cell? ⟨lb, 10, none⟩ = some (.string x.last) := block_cell hS.lex 10
  have f10 := block_free hS.lex 10
  have hS0 : St (((((((((w.setCell ⟨lb, 10, none⟩ (.string x.kind)).setCell ⟨lb, 1, none⟩ (.string ⟨#[]⟩)).setCell ⟨lb, 2, none⟩ (.slice none 0 0)).setCell ⟨lb, 3, none⟩ (.string ⟨#[]⟩)).setCell ⟨lb, 4, none⟩ (.string ⟨#[]⟩)).setCell ⟨lb, 5, none⟩ (.string ⟨#[]⟩)).setCell ⟨lb, 6, none⟩ (.int .i64 0)).setCell ⟨lb, 7, none⟩ (.int .i64 0)).setCell ⟨lb, 8, none⟩ (.int .i64 0)) lb fb fp s (freshX x) :=
    ((((((((hS.set 10 _ { x with last := x.kind } rfl hpz).set 1 _ { x with last := x.kind, kind := kNone } rfl hpz).set 2 _ { x with last := x.kind, kind := kNone, com := .slice none 0 0 } rfl hpz).set 3 _ { x with last := x.kind, kind := kNone, com := .slice none 0 0, space := kNone } rfl hpz).set 4 _ { x with last := x.kind, kind := kNone, com := .slice none 0 0, space := kNone, raw := kNone } rfl hpz).set 5 _ { x with last := x.kind, kind := kNone, com := .slice none 0 0, space := kNone, raw := kNone, text := kNone } rfl hpz).set 6 _ { x with last := x.kind, kind := kNone, com := .slice none 0 0, space := kNone, raw := kNone, text := kNone, base := 0 } rfl hpz).set 7 _ { x with last := x.kind, kind := kNone, com := .slice none 0 0, space := kNone, raw := kNone, text := kNone, base := 0, ps := 0 } rfl hpz).set 8 _ (freshX x) rfl hpz
  have hF0 : Frm w (((((((((w.setCell ⟨lb, 10, none⟩ (.string x.kind)).setCell ⟨lb, 1, none⟩ (.string ⟨#[]⟩)).setCell ⟨lb, 2, none⟩ (.slice none 0 0)).setCell ⟨lb, 3, none⟩ (.string ⟨#[]⟩)).setCell ⟨lb, 4, none⟩ (.string ⟨#[]⟩)).setCell ⟨lb, 5, none⟩ (.string ⟨#[]⟩)).setCell ⟨lb, 6, none⟩ (.int .i64 0)).setCell ⟨lb, 7, none⟩ (.int .i64 0)).setCell ⟨lb, 8, none⟩ (.int .i64 0)) [lb] := by
    repeat (refine Frm.setCell ?_ _ _ (.inl (by simp)))
    exact Frm.refl w [lb]
  have hlb := block_lt hS.lex
  have hfb := block_lt hS.file
  have HNI := Lib.hid (NI.start hS0 hF0)
  have HE := Lib.hid hE
  have HK := Lib.hid hok
  clear hS hE hok hS0 hF0
  go_enter Tryz.func38, Tryz.ntmps38
  go_wp2_with fail
  generalize (((((((((w.setCell ⟨lb, 10, none⟩ (.string x.kind)).setCell ⟨lb, 1, none⟩ (.string ⟨#[]⟩)).setCell ⟨lb, 2, none⟩ (.slice none 0 0)).setCell ⟨lb, 3, none⟩ (.string ⟨#[]⟩)).setCell ⟨lb, 4, none⟩ (.string ⟨#[]⟩)).setCell ⟨lb, 5, none⟩ (.string ⟨#[]⟩)).setCell ⟨lb, 6, none⟩ (.int .i64 0)).setCell ⟨lb, 7, none⟩ (.int .i64 0)).setCell ⟨lb, 8, none⟩ (.int .i64 0)) = w0 at *
  clear k0 k9 k1 k2 k3 k4 k5 k6 k7 k8 k10 f1 f2 f3 f4 f5 f6 f7 f8 f10
  go_loopg [4] s.size (fun g sp wr => (∃ t, sp = .string t) ∧ ∃ (k : Nat) (done : List PC) (v : Value), g = s.size - k ∧ x.p + k ≤ s.size ∧ Hid (NI lb fb fp s x w k done v wr))
  case atStart => exact ⟨⟨_, rfl⟩, 0, [], _, rfl, hpz, HNI⟩
  case round =>
    obtain ⟨⟨t, rfl⟩, k, done, v, hg, hpk, HI⟩ := hrel
    have c9 : wr.cell? ⟨lb, 9, none⟩ = some (.int .i64 ((x.p + k : Nat) : Int)) := HI.out.st.rd.c9
    obtain ⟨a, ha⟩ : ∃ a, spc (suf s (x.p + k)) = a := ⟨_, rfl⟩
    have hale : x.p + k + a ≤ s.size := by
      have := spc_le (suf s (x.p + k))
      rw [ha, suf_len] at this
      omega
    have HA := Lib.hid ha
    have HEr := Lib.hid (HE.out.frm HI.out.frm (by simp))
    clear ha
    go_wp2_with fail
    refine (skipSpaces_any lb fb fp s _ _ HEr.out HI.out.st a HA.out).mono ?_
    rintro e w1 ⟨rfl, hS1, hF1⟩
    have hR1 := hS1.rd
    have c0 : w1.cell? ⟨lb, 0, none⟩ = some (.pointer (some ⟨fb, 0, none⟩)) := hR1.c0
    have c9' : w1.cell? ⟨lb, 9, none⟩ = some (.int .i64 ((x.p + k + a : Nat) : Int)) := hR1.c9
    have cB : w1.cell? ⟨fb, 1, none⟩ = some (.string s) := hR1.cB
    have HS1 := Lib.hid hS1
    have HF1 := Lib.hid (HI.out.frm.step hF1)
    have HO1 := Lib.hid (HI.out.own.frm hF1 (by simpa using hlb))
    have HE1 := Lib.hid (HE.out.frm HF1.out (by simp))
    have i1 : (0 : Int) ≤ ((x.p + k : Nat) : Int) := by omega
    have i2 : ((x.p + k : Nat) : Int) ≤ ((x.p + k + a : Nat) : Int) := by omega
    have i3 : ((x.p + k + a : Nat) : Int) ≤ (s.size : Int) := by omega
    have i4 : (((x.p + k : Nat) : Int)).toNat = x.p + k := by omega
    have i5 : (((x.p + k + a : Nat) : Int)).toNat = x.p + k + a := by omega
    clear hS1 hF1 hR1 c9
    go_wp2_with fail
    go_quiet (fail)
    go_wp2_with fail
    refine (skipComment_any lb fb fp s _ np _ hs (HE1.out.drewN _) (HS1.out.drewN _)).mono ?_
    intro e w2 hc
    rcases ComRes.ends hc with ⟨y, b, rfl, hS2, hF2, hcase⟩ | ⟨hcom, rfl, hflt⟩
    case inr =>
      clear hc
      have hgap : gap (suf s (x.p + k)) = ([], a, true) := by
        rw [gap_opened _ (by rw [suf_drop', HA.out]; exact hcom), HA.out]
      have hbad : next x.kind x.dot (suf s x.p) = .bad (k + a) := by
        have h1 := HI.out.len
        have h2 := HI.out.op
        rw [hgap] at h1 h2
        unfold next
        simp only
        rw [← h2]
        simp only [if_true]
        rw [← h1]
        simp [gapLen, comsLen]
      have HB := Lib.hid hbad
      have HFl := Lib.hid (FaultL.then_ (HF1.out.drewN _) hflt)
      obtain ⟨eb, rfl, _⟩ := hflt
      clear hgap hbad hcom
      go_wp2_with fail
      exact ⟨rfl, .inr (.inl ⟨k + a, HB.out, rfl, by have := HFl.out; rw [show x.p + (k + a) = x.p + k + a from by omega]; exact this⟩)⟩
    case inl =>
      clear hc
      have HS2 := Lib.hid hS2
      have HF2 := Lib.hid ((HF1.out.drewN _).step hF2)
      have HO2 := Lib.hid ((HO1.out.frm ((Frm.refl w1 []).drewN _) (by simp)).frm hF2 (by simpa using hlb))
      have HE2 := Lib.hid (HE.out.frm HF2.out (by simp))
      clear hS2 hF2 c0 c9' cB HO1 HE1 HS1 i1 i2 i3 i4 i5 HEr
      rcases hcase with ⟨hcom, rfl, rfl⟩ | hcase
      case inl =>
        have c9 : w2.cell? ⟨lb, 9, none⟩ = some (.int .i64 ((x.p + k + a : Nat) : Int)) := HS2.out.rd.c9
        have k3 : w2.cell? ⟨lb, 3, none⟩ = some (.string kNone) := block_cell HS2.out.lex 3
        have f3 := block_free HS2.out.lex 3
        have k7 : w2.cell? ⟨lb, 7, none⟩ = some (.int .i64 0) := block_cell HS2.out.lex 7
        have f7 := block_free HS2.out.lex 7
        have k11 : w2.cell? ⟨lb, 11, none⟩ = some (.bool x.dot) := block_cell HS2.out.lex 11
        have HN := Lib.hid (show gap (suf s (x.p + k)) = ([], a, false) from by rw [gap_no _ (by rw [suf_drop', HA.out]; exact hcom), HA.out])
        have HS3 := Lib.hid (show St ((w2.setCell ⟨lb, 3, none⟩ (.string (s.extract (x.p + k) (x.p + k + a)))).setCell ⟨lb, 7, none⟩ (.int .i64 ((x.p : Int) + (k : Int) + (a : Int)))) lb fb fp s { freshX x with com := v, p := x.p + k + a, space := s.extract (x.p + k) (x.p + k + a), ps := (x.p : Int) + (k : Int) + (a : Int) } from
          (HS2.out.set 3 _ { freshX x with com := v, p := x.p + k + a, space := s.extract (x.p + k) (x.p + k + a) } rfl HS2.out.pz).set 7 _ _ rfl HS2.out.pz)
        have HF23 := Lib.hid (show Frm w2 ((w2.setCell ⟨lb, 3, none⟩ (.string (s.extract (x.p + k) (x.p + k + a)))).setCell ⟨lb, 7, none⟩ (.int .i64 ((x.p : Int) + (k : Int) + (a : Int)))) [lb] from ((Frm.refl w2 [lb]).setCell _ _ (.inl (by simp))).setCell _ _ (.inl (by simp)))
        clear hcom
        cases hd : x.dot with
        | true =>
          rw [hd] at k11
          go_wp2_with fail
          generalize ((w2.setCell ⟨lb, 3, none⟩ (.string (s.extract (x.p + k) (x.p + k + a)))).setCell ⟨lb, 7, none⟩ (.int .i64 ((x.p : Int) + (k : Int) + (a : Int)))) = w3 at *
          have HF3 := Lib.hid (HF2.out.step HF23.out)
          have HO3 := Lib.hid (HO2.out.frm HF23.out (by simpa using hlb))
          have HE3 := Lib.hid (HE.out.frm HF3.out (by simp))
          have HNX := Lib.hid (HI.out.next HN.out)
          have HK3 := Lib.hid (show NB s ∨ ∃ t, ftok x.kind (suf s (x.p + k + a)) = .ok t from by
            rcases HK.out with h | ⟨t, h⟩
            · exact .inl h
            · right
              cases ho : ftok x.kind (suf s (x.p + k + a)) with
              | ok t => exact ⟨t, rfl⟩
              | bad o =>
                have := HNX.out.2.1 o (by rw [hd]; exact ho)
                rw [this] at h
                cases h)
          clear c9 k3 f3 k7 f7 k11
          refine (field_any lb fb fp s _ np _ hs HE3.out HS3.out ⟨rfl, rfl, rfl⟩ HK3.out).mono ?_
          intro e w4 hres
          rcases hres with ⟨tk, ho, rfl, hS4, hF4⟩ | ⟨off, ho, rfl, hflt⟩ | ⟨off, y, ho, rfl, hyp, hyk, hyc, rfl, hS4, hF4⟩
          case inl =>
            have HNK := Lib.hid (HNX.out.1 tk (by rw [hd]; exact ho))
            have HC2 := Lib.hid (HNX.out.2.2)
            have hq4 : x.p + k + a + tk.n ≤ s.size := hS4.pz
            have HF4 := Lib.hid (HF3.out.step hF4)
            have HO4 := Lib.hid (HO3.out.frm hF4 (by simpa using hlb))
            have HS4 := Lib.hid hS4
            clear hS4 hF4 ho
            have k11 : w4.cell? ⟨lb, 11, none⟩ = some (.bool _) := block_cell HS4.out.lex 11
            have f11 := block_free HS4.out.lex 11
            go_upto_region 21 with fail
            have HS5 := Lib.hid (HS4.out.setDot false)
            have HF5 := Lib.hid (HF4.out.setCell ⟨lb, 11, none⟩ (.bool false) (.inl (by simp)))
            have HO5 := Lib.hid (HO4.out.frm ((Frm.refl w4 [lb]).setCell ⟨lb, 11, none⟩ (.bool false) (.inl (by simp))) (by simpa using hlb))
            generalize w4.setCell ⟨lb, 11, none⟩ (.bool false) = w5 at *
            have r0 : w5.cell? ⟨lb, 0, none⟩ = some (.pointer (some ⟨fb, 0, none⟩)) := HS5.out.rd.c0
            have r9 : w5.cell? ⟨lb, 9, none⟩ = some (.int .i64 ((x.p + k + a + tk.n : Nat) : Int)) := HS5.out.rd.c9
            have rB : w5.cell? ⟨fb, 1, none⟩ = some (.string s) := HS5.out.rd.cB
            have r4 : w5.cell? ⟨lb, 4, none⟩ = some (.string _) := block_cell HS5.out.lex 4
            have g4 := block_free HS5.out.lex 4
            have i1 : (0 : Int) ≤ (x.p : Int) + (k : Int) + (a : Int) := by omega
            have i2 : (x.p : Int) + (k : Int) + (a : Int) ≤ ((x.p + k + a + tk.n : Nat) : Int) := by omega
            have i3 : ((x.p + k + a + tk.n : Nat) : Int) ≤ (s.size : Int) := by omega
            have i4 : ((x.p : Int) + (k : Int) + (a : Int)).toNat = x.p + k + a := by omega
            have i5 : (((x.p + k + a + tk.n : Nat) : Int)).toNat = x.p + k + a + tk.n := by omega
            have HS6 := Lib.hid ((HS5.out.setRaw (s.extract (x.p + k + a) (x.p + k + a + tk.n))).drew)
            have HF6 := Lib.hid (((Frm.refl w5 [lb]).setCell ⟨lb, 4, none⟩ (.string (s.extract (x.p + k + a) (x.p + k + a + tk.n))) (.inl (by simp))).drew)
            clear k11 f11
            go_region
            generalize (w5.setCell ⟨lb, 4, none⟩ (.string (s.extract (x.p + k + a) (x.p + k + a + tk.n)))).drew = w7 at *
            have HF7 := Lib.hid (HF5.out.step HF6.out)
            have HO7 := Lib.hid (HO5.out.frm HF6.out (by simpa using hlb))
            have HS7 := HS6
            have q9 : w7.cell? ⟨lb, 9, none⟩ = some (.int .i64 ((x.p + k + a + tk.n : Nat) : Int)) := HS6.out.rd.c9
            have q8 : w7.cell? ⟨lb, 8, none⟩ = some (.int .i64 _) := block_cell HS6.out.lex 8
            have g8 := block_free HS6.out.lex 8
            clear r0 r9 rB r4 g4 i1 i2 i3 i4 i5
            go_wp2_with fail
            go_end0
            refine .inl ⟨⟨(gap (suf s x.p)).1, a, tk⟩, v, HNK.out, ⟨rfl, ?_, HF7.out.setCell _ _ (.inl (by simp))⟩, ?_⟩
            · have hx : nextX s x ⟨(gap (suf s x.p)).1, a, tk⟩ v = { ({ (LX.put { freshX x with com := v, p := x.p + k + a, space := s.extract (x.p + k) (x.p + k + a), ps := (x.p : Int) + (k : Int) + (a : Int) } tk) with dot := false } : LX) with raw := s.extract (x.p + k + a) (x.p + k + a + tk.n), en := ((x.p + k + a + tk.n : Nat) : Int) } := by
                have e2 := HC2.out.2
                simp only [nextX, Nt.pre, Nt.len, e2, LX.put, freshX, dotOf, hd]
                simp [Nat.add_assoc, Int.add_assoc]
              rw [hx]
              exact HS7.out.setEn _
            · rw [HC2.out.1]
              exact HO7.out.frm ((Frm.refl _ [lb]).setCell ⟨lb, 8, none⟩ _ (.inl (by simp))) (by simpa using hlb)
          case inr.inl =>
            have HNK := Lib.hid (HNX.out.2.1 off (by rw [hd]; exact ho))
            have HFl := Lib.hid (FaultL.then_ HF3.out hflt)
            obtain ⟨eb, rfl, _⟩ := hflt
            clear ho
            go_wp2_with fail
            exact ⟨rfl, .inr (.inl ⟨k + a + off, HNK.out, rfl, by have := HFl.out; rw [show x.p + (k + a + off) = x.p + k + a + off from by omega]; exact this⟩)⟩
          case inr.inr =>
            have HNK := Lib.hid (HNX.out.2.1 off (by rw [hd]; exact ho))
            have hq4 : y.p ≤ s.size := hS4.pz
            have hyp2 : x.p + k + a < y.p := hyp
            have HF4 := Lib.hid (HF3.out.step hF4)
            have HO4 := Lib.hid (HO3.out.frm hF4 (by simpa using hlb))
            have HS4 := Lib.hid hS4
            have HYC := Lib.hid (show y.com = v from hyc)
            have HYK := Lib.hid hyk
            clear hS4 hF4 ho hyc hyk hyp
            have k11 : w4.cell? ⟨lb, 11, none⟩ = some (.bool _) := block_cell HS4.out.lex 11
            have f11 := block_free HS4.out.lex 11
            go_upto_region 21 with fail
            have HS5 := Lib.hid (HS4.out.setDot false)
            have HF5 := Lib.hid (HF4.out.setCell ⟨lb, 11, none⟩ (.bool false) (.inl (by simp)))
            have HO5 := Lib.hid (HO4.out.frm ((Frm.refl w4 [lb]).setCell ⟨lb, 11, none⟩ (.bool false) (.inl (by simp))) (by simpa using hlb))
            generalize w4.setCell ⟨lb, 11, none⟩ (.bool false) = w5 at *
            have r0 : w5.cell? ⟨lb, 0, none⟩ = some (.pointer (some ⟨fb, 0, none⟩)) := HS5.out.rd.c0
            have r9 : w5.cell? ⟨lb, 9, none⟩ = some (.int .i64 ((y.p : Nat) : Int)) := HS5.out.rd.c9
            have rB : w5.cell? ⟨fb, 1, none⟩ = some (.string s) := HS5.out.rd.cB
            have r4 : w5.cell? ⟨lb, 4, none⟩ = some (.string _) := block_cell HS5.out.lex 4
            have g4 := block_free HS5.out.lex 4
            have i1 : (0 : Int) ≤ (x.p : Int) + (k : Int) + (a : Int) := by omega
            have i2 : (x.p : Int) + (k : Int) + (a : Int) ≤ ((y.p : Nat) : Int) := by omega
            have i3 : ((y.p : Nat) : Int) ≤ (s.size : Int) := by omega
            have i4 : ((x.p : Int) + (k : Int) + (a : Int)).toNat = x.p + k + a := by omega
            have i5 : (((y.p : Nat) : Int)).toNat = y.p := by omega
            have HS6 := Lib.hid ((HS5.out.setRaw (s.extract (x.p + k + a) (y.p))).drew)
            have HF6 := Lib.hid (((Frm.refl w5 [lb]).setCell ⟨lb, 4, none⟩ (.string (s.extract (x.p + k + a) (y.p))) (.inl (by simp))).drew)
            clear k11 f11
            go_region
            generalize (w5.setCell ⟨lb, 4, none⟩ (.string (s.extract (x.p + k + a) (y.p)))).drew = w7 at *
            have HF7 := Lib.hid (HF5.out.step HF6.out)
            have HO7 := Lib.hid (HO5.out.frm HF6.out (by simpa using hlb))
            have HS7 := HS6
            have q9 : w7.cell? ⟨lb, 9, none⟩ = some (.int .i64 ((y.p : Nat) : Int)) := HS6.out.rd.c9
            have q8 : w7.cell? ⟨lb, 8, none⟩ = some (.int .i64 _) := block_cell HS6.out.lex 8
            have g8 := block_free HS6.out.lex 8
            clear r0 r9 rB r4 g4 i1 i2 i3 i4 i5
            go_wp2_with fail
            go_end0
            refine .inr (.inr ⟨k + a + off, { ({ y with dot := false } : LX) with raw := s.extract (x.p + k + a) y.p, en := (y.p : Int) }, done, HNK.out, rfl, by show x.p < y.p; omega, HYK.out, by have := HI.out.num; omega, ⟨rfl, HS7.out.setEn _, HF7.out.setCell _ _ (.inl (by simp))⟩, ?_⟩)
            show ComAt _ _ y.com done
            rw [HYC.out]
            exact HO7.out.frm ((Frm.refl _ [lb]).setCell ⟨lb, 8, none⟩ _ (.inl (by simp))) (by simpa using hlb)
        | false =>
          rw [hd] at k11
          go_wp2_with fail
          generalize ((w2.setCell ⟨lb, 3, none⟩ (.string (s.extract (x.p + k) (x.p + k + a)))).setCell ⟨lb, 7, none⟩ (.int .i64 ((x.p : Int) + (k : Int) + (a : Int)))) = w3 at *
          have HF3 := Lib.hid (HF2.out.step HF23.out)
          have HO3 := Lib.hid (HO2.out.frm HF23.out (by simpa using hlb))
          have HE3 := Lib.hid (HE.out.frm HF3.out (by simp))
          have HNX := Lib.hid (HI.out.next HN.out)
          have HK3 := Lib.hid (show NB s ∨ ∃ t, tok x.kind (suf s (x.p + k + a)) = .ok t from by
            rcases HK.out with h | ⟨t, h⟩
            · exact .inl h
            · right
              cases ho : tok x.kind (suf s (x.p + k + a)) with
              | ok t => exact ⟨t, rfl⟩
              | bad o =>
                have := HNX.out.2.1 o (by rw [hd]; exact ho)
                rw [this] at h
                cases h)
          clear c9 k3 f3 k7 f7 k11
          refine (tok_any lb fb fp s _ np _ hs HE3.out HS3.out ⟨rfl, rfl, rfl⟩ HK3.out).mono ?_
          intro e w4 hres
          rcases hres with ⟨tk, ho, rfl, hS4, hF4⟩ | ⟨off, ho, rfl, hflt⟩ | ⟨off, y, ho, rfl, hyp, hyk, hyc, rfl, hS4, hF4⟩
          case inl =>
            have HNK := Lib.hid (HNX.out.1 tk (by rw [hd]; exact ho))
            have HC2 := Lib.hid (HNX.out.2.2)
            have hq4 : x.p + k + a + tk.n ≤ s.size := hS4.pz
            have HF4 := Lib.hid (HF3.out.step hF4)
            have HO4 := Lib.hid (HO3.out.frm hF4 (by simpa using hlb))
            have HS4 := Lib.hid hS4
            clear hS4 hF4 ho
            have k11 : w4.cell? ⟨lb, 11, none⟩ = some (.bool _) := block_cell HS4.out.lex 11
            have f11 := block_free HS4.out.lex 11
            go_upto_region 21 with fail
            have HS5 := HS4
            have HF5 := HF4
            have HO5 := HO4
            have r0 : w4.cell? ⟨lb, 0, none⟩ = some (.pointer (some ⟨fb, 0, none⟩)) := HS5.out.rd.c0
            have r9 : w4.cell? ⟨lb, 9, none⟩ = some (.int .i64 ((x.p + k + a + tk.n : Nat) : Int)) := HS5.out.rd.c9
            have rB : w4.cell? ⟨fb, 1, none⟩ = some (.string s) := HS5.out.rd.cB
            have r4 : w4.cell? ⟨lb, 4, none⟩ = some (.string _) := block_cell HS5.out.lex 4
            have g4 := block_free HS5.out.lex 4
            have i1 : (0 : Int) ≤ (x.p : Int) + (k : Int) + (a : Int) := by omega
            have i2 : (x.p : Int) + (k : Int) + (a : Int) ≤ ((x.p + k + a + tk.n : Nat) : Int) := by omega
            have i3 : ((x.p + k + a + tk.n : Nat) : Int) ≤ (s.size : Int) := by omega
            have i4 : ((x.p : Int) + (k : Int) + (a : Int)).toNat = x.p + k + a := by omega
            have i5 : (((x.p + k + a + tk.n : Nat) : Int)).toNat = x.p + k + a + tk.n := by omega
            have HS6 := Lib.hid ((HS5.out.setRaw (s.extract (x.p + k + a) (x.p + k + a + tk.n))).drew)
            have HF6 := Lib.hid (((Frm.refl w4 [lb]).setCell ⟨lb, 4, none⟩ (.string (s.extract (x.p + k + a) (x.p + k + a + tk.n))) (.inl (by simp))).drew)
            clear k11 f11
            go_region
            generalize (w4.setCell ⟨lb, 4, none⟩ (.string (s.extract (x.p + k + a) (x.p + k + a + tk.n)))).drew = w7 at *
            have HF7 := Lib.hid (HF5.out.step HF6.out)
            have HO7 := Lib.hid (HO5.out.frm HF6.out (by simpa using hlb))
            have HS7 := HS6
            have q9 : w7.cell? ⟨lb, 9, none⟩ = some (.int .i64 ((x.p + k + a + tk.n : Nat) : Int)) := HS6.out.rd.c9
            have q8 : w7.cell? ⟨lb, 8, none⟩ = some (.int .i64 _) := block_cell HS6.out.lex 8
            have g8 := block_free HS6.out.lex 8
            clear r0 r9 rB r4 g4 i1 i2 i3 i4 i5
            go_wp2_with fail
            go_end0
            refine .inl ⟨⟨(gap (suf s x.p)).1, a, tk⟩, v, HNK.out, ⟨rfl, ?_, HF7.out.setCell _ _ (.inl (by simp))⟩, ?_⟩
            · have hx : nextX s x ⟨(gap (suf s x.p)).1, a, tk⟩ v = { (LX.put { freshX x with com := v, p := x.p + k + a, space := s.extract (x.p + k) (x.p + k + a), ps := (x.p : Int) + (k : Int) + (a : Int) } tk) with raw := s.extract (x.p + k + a) (x.p + k + a + tk.n), en := ((x.p + k + a + tk.n : Nat) : Int) } := by
                have e2 := HC2.out.2
                simp only [nextX, Nt.pre, Nt.len, e2, LX.put, freshX, dotOf, hd]
                simp [Nat.add_assoc, Int.add_assoc]
              rw [hx]
              exact HS7.out.setEn _
            · rw [HC2.out.1]
              exact HO7.out.frm ((Frm.refl _ [lb]).setCell ⟨lb, 8, none⟩ _ (.inl (by simp))) (by simpa using hlb)
          case inr.inl =>
            have HNK := Lib.hid (HNX.out.2.1 off (by rw [hd]; exact ho))
            have HFl := Lib.hid (FaultL.then_ HF3.out hflt)
            obtain ⟨eb, rfl, _⟩ := hflt
            clear ho
            go_wp2_with fail
            exact ⟨rfl, .inr (.inl ⟨k + a + off, HNK.out, rfl, by have := HFl.out; rw [show x.p + (k + a + off) = x.p + k + a + off from by omega]; exact this⟩)⟩
          case inr.inr =>
            have HNK := Lib.hid (HNX.out.2.1 off (by rw [hd]; exact ho))
            have hq4 : y.p ≤ s.size := hS4.pz
            have hyp2 : x.p + k + a < y.p := hyp
            have HF4 := Lib.hid (HF3.out.step hF4)
            have HO4 := Lib.hid (HO3.out.frm hF4 (by simpa using hlb))
            have HS4 := Lib.hid hS4
            have HYC := Lib.hid (show y.com = v from hyc)
            have HYK := Lib.hid hyk
            clear hS4 hF4 ho hyc hyk hyp
            have k11 : w4.cell? ⟨lb, 11, none⟩ = some (.bool _) := block_cell HS4.out.lex 11
            have f11 := block_free HS4.out.lex 11
            go_upto_region 21 with fail
            have HS5 := HS4
            have HF5 := HF4
            have HO5 := HO4
            have r0 : w4.cell? ⟨lb, 0, none⟩ = some (.pointer (some ⟨fb, 0, none⟩)) := HS5.out.rd.c0
            have r9 : w4.cell? ⟨lb, 9, none⟩ = some (.int .i64 ((y.p : Nat) : Int)) := HS5.out.rd.c9
            have rB : w4.cell? ⟨fb, 1, none⟩ = some (.string s) := HS5.out.rd.cB
            have r4 : w4.cell? ⟨lb, 4, none⟩ = some (.string _) := block_cell HS5.out.lex 4
            have g4 := block_free HS5.out.lex 4
            have i1 : (0 : Int) ≤ (x.p : Int) + (k : Int) + (a : Int) := by omega
            have i2 : (x.p : Int) + (k : Int) + (a : Int) ≤ ((y.p : Nat) : Int) := by omega
            have i3 : ((y.p : Nat) : Int) ≤ (s.size : Int) := by omega
            have i4 : ((x.p : Int) + (k : Int) + (a : Int)).toNat = x.p + k + a := by omega
            have i5 : (((y.p : Nat) : Int)).toNat = y.p := by omega
            have HS6 := Lib.hid ((HS5.out.setRaw (s.extract (x.p + k + a) (y.p))).drew)
            have HF6 := Lib.hid (((Frm.refl w4 [lb]).setCell ⟨lb, 4, none⟩ (.string (s.extract (x.p + k + a) (y.p))) (.inl (by simp))).drew)
            clear k11 f11
            go_region
            generalize (w4.setCell ⟨lb, 4, none⟩ (.string (s.extract (x.p + k + a) (y.p)))).drew = w7 at *
            have HF7 := Lib.hid (HF5.out.step HF6.out)
            have HO7 := Lib.hid (HO5.out.frm HF6.out (by simpa using hlb))
            have HS7 := HS6
            have q9 : w7.cell? ⟨lb, 9, none⟩ = some (.int .i64 ((y.p : Nat) : Int)) := HS6.out.rd.c9
            have q8 : w7.cell? ⟨lb, 8, none⟩ = some (.int .i64 _) := block_cell HS6.out.lex 8
            have g8 := block_free HS6.out.lex 8
            clear r0 r9 rB r4 g4 i1 i2 i3 i4 i5
            go_wp2_with fail
            go_end0
            refine .inr (.inr ⟨k + a + off, { y with raw := s.extract (x.p + k + a) y.p, en := (y.p : Int) }, done, HNK.out, rfl, by show x.p < y.p; omega, HYK.out, by have := HI.out.num; omega, ⟨rfl, HS7.out.setEn _, HF7.out.setCell _ _ (.inl (by simp))⟩, ?_⟩)
            show ComAt _ _ y.com done
            rw [HYC.out]
            exact HO7.out.frm ((Frm.refl _ [lb]).setCell ⟨lb, 8, none⟩ _ (.inl (by simp))) (by simpa using hlb)
      case inr =>
        obtain ⟨n, hn0, hnn, rfl, hcs⟩ := com_cases hcase hale
        simp only at hnn hcs
        have HCS := Lib.hid hcs
        clear hcase hcs
        have c0 : w2.cell? ⟨lb, 0, none⟩ = some (.pointer (some ⟨fb, 0, none⟩)) := HS2.out.rd.c0
        have c9 : w2.cell? ⟨lb, 9, none⟩ = some (.int .i64 ((x.p + k + a + n : Nat) : Int)) := HS2.out.rd.c9
        have cB : w2.cell? ⟨fb, 1, none⟩ = some (.string s) := HS2.out.rd.cB
        have c2 : w2.cell? ⟨lb, 2, none⟩ = some v := block_cell HS2.out.lex 2
        have f2 := block_free HS2.out.lex 2
        have i1 : (0 : Int) ≤ (x.p : Int) + (k : Int) + (a : Int) := by omega
        have i2 : (x.p : Int) + (k : Int) + (a : Int) ≤ ((x.p + k + a + n : Nat) : Int) := by omega
        have i3 : ((x.p + k + a + n : Nat) : Int) ≤ (s.size : Int) := by omega
        have i4 : ((x.p : Int) + (k : Int) + (a : Int)).toNat = x.p + k + a := by omega
        have i5 : (((x.p + k + a + n : Nat) : Int)).toNat = x.p + k + a + n := by omega
        have i6 : (((x.p + k + a + n : Nat) : Int) == (x.p : Int) + (k : Int) + (a : Int)) = false := by simp; omega
        go_wp2_with fail
        obtain ⟨i0, hi0, hz0, hz1, hz2⟩ := info_parts infoTC
        have c9 : w2.cell? ⟨lb, 9, none⟩ = some (.int .i64 ((x.p : Int) + (k : Int) + (a : Int) + (n : Int))) := by rw [show (x.p : Int) + (k : Int) + (a : Int) + (n : Int) = ((x.p + k + a + n : Nat) : Int) from by omega]; exact c9
        have hown := HO2.out
        have lg : lb < w2.heap.size := block_lt HS2.out.lex
        have lf : fb < w2.heap.size := block_lt HS2.out.file
        have hlb2 : lb < w.heap.size := hlb
        have hfb2 : fb < w.heap.size := hfb
        have ag : v.ownBlock ≠ some lb := fun h => by have := (hown.lt lb h).1; omega
        have af : v.ownBlock ≠ some fb := fun h => by have := (hown.lt fb h).1; omega
        have hnum := HI.out.num
        have hsz9 := HF2.out.size
        have hn9 : done.length + 1 ≤ maxLen := by unfold maxLen; omega
        have hb9 : (done.length + 1) * 48 ≤ 140737488355328 := by omega
        have j1 : (0 : Int) ≤ (x.p : Int) + (k : Int) + (a : Int) + (n : Int) := by omega
        have j2 : (x.p : Int) + (k : Int) + (a : Int) ≤ (x.p : Int) + (k : Int) + (a : Int) + (n : Int) := by omega
        have j3 : (x.p : Int) + (k : Int) + (a : Int) + (n : Int) ≤ (s.size : Int) := by omega
        have j4 : ((x.p : Int) + (k : Int) + (a : Int) + (n : Int)).toNat = x.p + k + a + n := by omega
        have hkeep : ∀ o, ((w2.alloc o).drew).cell? ⟨lb, 0, none⟩ = some (.pointer (some ⟨fb, 0, none⟩)) ∧ ((w2.alloc o).drew).cell? ⟨lb, 9, none⟩ = some (.int .i64 ((x.p : Int) + (k : Int) + (a : Int) + (n : Int))) ∧ ((w2.alloc o).drew).cell? ⟨fb, 1, none⟩ = some (.string s) := fun o =>
          ⟨(World.cell?_of_block (Below.heap_alloc w2 o lb lg)).trans c0, (World.cell?_of_block (Below.heap_alloc w2 o lb lg)).trans c9, (World.cell?_of_block (Below.heap_alloc w2 o fb lf)).trans cB⟩
        have HKeep := Lib.hid hkeep
        have c2a : ∀ o, (w2.alloc o).cell? ⟨lb, 2, none⟩ = some v := fun o => (World.cell?_of_block (Below.heap_alloc w2 o lb lg)).trans c2
        have f2a : ∀ o, (w2.alloc o).frozen? ⟨lb, 2, none⟩ = false := fun o => (World.frozen?_of_block (Below.heap_alloc w2 o lb lg)).trans f2
        have HC2a := Lib.hid c2a
        have HF2a := Lib.hid f2a
        clear hkeep f2a
        refine wp_region_held_drew (S := fun w' => w'.cell? ⟨lb, 0, none⟩ = some (.pointer (some ⟨fb, 0, none⟩)) ∧ w'.cell? ⟨lb, 9, none⟩ = some (.int .i64 ((x.p : Int) + (k : Int) + (a : Int) + (n : Int))) ∧ w'.cell? ⟨fb, 1, none⟩ = some (.string s)) (by kernel_rfl) ?_ (fun hHeld => ?_)
        · (try dsimp only); (first | exact HKeep.out _ | go_keep | (go_split_ands; refine ⟨?_, ?_, ?_⟩; (rw [hgrow.cell_far _ (by simp; omega) (Ne.symm ag)]; assumption); (rw [hgrow.cell_far _ (by simp; omega) (Ne.symm ag)]; assumption); (rw [hgrow.cell_far _ (by simp; omega) (Ne.symm af)]; assumption)) | (go_split_ands; refine ⟨?_, ?_, ?_⟩ <;> (first | assumption | (simp; done) | (simp; assumption) | (go_simp; done) | (go_simp; assumption))))
        refine wpAnyH_take (i := 0) (oi := { dst := some 52, op := Op.move (Operand.tmp 0), type := _, pos := _, after := _, guard := _ }) (v := ?_) rfl (by kernel_rfl) (by kernel_rfl) (by kernel_rfl) (fun _ _ _ h => h) (Or.inl ⟨by rfl, ?_⟩) (by assumption) ?_
        rotate_left
        · (intro w hSw; (try dsimp only at hSw); first | (go_simp; done) | (go_simp; with_reducible rfl))
        try simp only [Act.put, List.setIfInBounds_toArray, List.set_cons_zero, List.set_cons_succ]
        refine wpAnyH_take (i := 1) (oi := { dst := some 53, op := Op.move (Operand.tmp 0), type := _, pos := _, after := _, guard := _ }) (v := ?_) rfl (by kernel_rfl) (by kernel_rfl) (by kernel_rfl) (fun _ _ _ h => h) (Or.inl ⟨by rfl, ?_⟩) (by assumption) ?_
        rotate_left
        · (intro w hSw; (try dsimp only at hSw); first | (go_simp; done) | (go_simp; with_reducible rfl))
        try simp only [Act.put, List.setIfInBounds_toArray, List.set_cons_zero, List.set_cons_succ]
        refine wpAnyH_take (i := 2) (oi := { dst := some 54, op := Op.nilCheck (Operand.tmp 53), type := _, pos := _, after := _, guard := _ }) (v := ?_) rfl (by kernel_rfl) (by kernel_rfl) (by kernel_rfl) (fun _ _ _ h => h) (Or.inl ⟨by rfl, ?_⟩) (by assumption) ?_
        rotate_left
        · (intro w hSw; (try dsimp only at hSw); first | (go_simp; done) | (go_simp; with_reducible rfl))
        try simp only [Act.put, List.setIfInBounds_toArray, List.set_cons_zero, List.set_cons_succ]
        refine wpAnyH_take (i := 3) (oi := { dst := some 55, op := Op.fieldAddr _ (Operand.tmp 54) 1, type := _, pos := _, after := _, guard := _ }) (v := ?_) rfl (by kernel_rfl) (by kernel_rfl) (by kernel_rfl) (fun _ _ _ h => h) (Or.inl ⟨by rfl, ?_⟩) (by assumption) ?_
        rotate_left
        · (intro w hSw; (try dsimp only at hSw); first | (go_simp; done) | (go_simp; with_reducible rfl))
        try simp only [Act.put, List.setIfInBounds_toArray, List.set_cons_zero, List.set_cons_succ]
        refine wpAnyH_take (i := 4) (oi := { dst := some 56, op := Op.fieldAddr _ (Operand.tmp 55) 1, type := _, pos := _, after := _, guard := _ }) (v := ?_) rfl (by kernel_rfl) (by kernel_rfl) (by kernel_rfl) (fun _ _ _ h => h) (Or.inl ⟨by rfl, ?_⟩) (by assumption) ?_
        rotate_left
        · (intro w hSw; (try dsimp only at hSw); first | (go_simp; done) | (go_simp; with_reducible rfl))
        try simp only [Act.put, List.setIfInBounds_toArray, List.set_cons_zero, List.set_cons_succ]
        refine wpAnyH_take (i := 6) (oi := { dst := some 58, op := Op.move (Operand.tmp 4), type := _, pos := _, after := _, guard := _ }) (v := ?_) rfl (by kernel_rfl) (by kernel_rfl) (by kernel_rfl) (fun _ _ _ h => h) (Or.inl ⟨by rfl, ?_⟩) (by assumption) ?_
        rotate_left
        · (intro w hSw; (try dsimp only at hSw); first | (go_simp; done) | (go_simp; with_reducible rfl))
        try simp only [Act.put, List.setIfInBounds_toArray, List.set_cons_zero, List.set_cons_succ]
        refine wpAnyH_take (i := 7) (oi := { dst := some 59, op := Op.move (Operand.tmp 0), type := _, pos := _, after := _, guard := _ }) (v := ?_) rfl (by kernel_rfl) (by kernel_rfl) (by kernel_rfl) (fun _ _ _ h => h) (Or.inl ⟨by rfl, ?_⟩) (by assumption) ?_
        rotate_left
        · (intro w hSw; (try dsimp only at hSw); first | (go_simp; done) | (go_simp; with_reducible rfl))
        try simp only [Act.put, List.setIfInBounds_toArray, List.set_cons_zero, List.set_cons_succ]
        refine wpAnyH_take (i := 8) (oi := { dst := some 60, op := Op.nilCheck (Operand.tmp 59), type := _, pos := _, after := _, guard := _ }) (v := ?_) rfl (by kernel_rfl) (by kernel_rfl) (by kernel_rfl) (fun _ _ _ h => h) (Or.inl ⟨by rfl, ?_⟩) (by assumption) ?_
        rotate_left
        · (intro w hSw; (try dsimp only at hSw); first | (go_simp; done) | (go_simp; with_reducible rfl))
        try simp only [Act.put, List.setIfInBounds_toArray, List.set_cons_zero, List.set_cons_succ]
        refine wpAnyH_take (i := 9) (oi := { dst := some 61, op := Op.fieldAddr _ (Operand.tmp 60) 0, type := _, pos := _, after := _, guard := _ }) (v := ?_) rfl (by kernel_rfl) (by kernel_rfl) (by kernel_rfl) (fun _ _ _ h => h) (Or.inl ⟨by rfl, ?_⟩) (by assumption) ?_
        rotate_left
        · (intro w hSw; (try dsimp only at hSw); first | (go_simp; done) | (go_simp; with_reducible rfl))
        try simp only [Act.put, List.setIfInBounds_toArray, List.set_cons_zero, List.set_cons_succ]
        refine wpAnyH_take (i := 10) (oi := { dst := some 62, op := Op.load _ (Operand.tmp 61), type := _, pos := _, after := _, guard := _ }) (v := ?_) rfl (by kernel_rfl) (by kernel_rfl) (by kernel_rfl) (fun _ _ _ h => h) (Or.inl ⟨by rfl, ?_⟩) (by assumption) ?_
        rotate_left
        · (intro w hSw; (try dsimp only at hSw); first | (go_simp; done) | (go_simp; with_reducible rfl))
        try simp only [Act.put, List.setIfInBounds_toArray, List.set_cons_zero, List.set_cons_succ]
        refine wpAnyH_take (i := 11) (oi := { dst := some 63, op := Op.nilCheck (Operand.tmp 62), type := _, pos := _, after := _, guard := _ }) (v := ?_) rfl (by kernel_rfl) (by kernel_rfl) (by kernel_rfl) (fun _ _ _ h => h) (Or.inl ⟨by rfl, ?_⟩) (by assumption) ?_
        rotate_left
        · (intro w hSw; (try dsimp only at hSw); first | (go_simp; done) | (go_simp; with_reducible rfl))
        try simp only [Act.put, List.setIfInBounds_toArray, List.set_cons_zero, List.set_cons_succ]
        refine wpAnyH_take (i := 12) (oi := { dst := some 64, op := Op.fieldAddr _ (Operand.tmp 63) 1, type := _, pos := _, after := _, guard := _ }) (v := ?_) rfl (by kernel_rfl) (by kernel_rfl) (by kernel_rfl) (fun _ _ _ h => h) (Or.inl ⟨by rfl, ?_⟩) (by assumption) ?_
        rotate_left
        · (intro w hSw; (try dsimp only at hSw); first | (go_simp; done) | (go_simp; with_reducible rfl))
        try simp only [Act.put, List.setIfInBounds_toArray, List.set_cons_zero, List.set_cons_succ]
        refine wpAnyH_take (i := 13) (oi := { dst := some 65, op := Op.load _ (Operand.tmp 64), type := _, pos := _, after := _, guard := _ }) (v := ?_) rfl (by kernel_rfl) (by kernel_rfl) (by kernel_rfl) (fun _ _ _ h => h) (Or.inl ⟨by rfl, ?_⟩) (by assumption) ?_
        rotate_left
        · (intro w hSw; (try dsimp only at hSw); first | (go_simp; done) | (go_simp; with_reducible rfl))
        try simp only [Act.put, List.setIfInBounds_toArray, List.set_cons_zero, List.set_cons_succ]
        refine wpAnyH_take (i := 14) (oi := { dst := some 66, op := Op.move (Operand.tmp 5), type := _, pos := _, after := _, guard := _ }) (v := ?_) rfl (by kernel_rfl) (by kernel_rfl) (by kernel_rfl) (fun _ _ _ h => h) (Or.inl ⟨by rfl, ?_⟩) (by assumption) ?_
        rotate_left
        · (intro w hSw; (try dsimp only at hSw); first | (go_simp; done) | (go_simp; with_reducible rfl))
        try simp only [Act.put, List.setIfInBounds_toArray, List.set_cons_zero, List.set_cons_succ]
        refine wpAnyH_take (i := 15) (oi := { dst := some 67, op := Op.move (Operand.tmp 0), type := _, pos := _, after := _, guard := _ }) (v := ?_) rfl (by kernel_rfl) (by kernel_rfl) (by kernel_rfl) (fun _ _ _ h => h) (Or.inl ⟨by rfl, ?_⟩) (by assumption) ?_
        rotate_left
        · (intro w hSw; (try dsimp only at hSw); first | (go_simp; done) | (go_simp; with_reducible rfl))
        try simp only [Act.put, List.setIfInBounds_toArray, List.set_cons_zero, List.set_cons_succ]
        refine wpAnyH_take (i := 16) (oi := { dst := some 68, op := Op.nilCheck (Operand.tmp 67), type := _, pos := _, after := _, guard := _ }) (v := ?_) rfl (by kernel_rfl) (by kernel_rfl) (by kernel_rfl) (fun _ _ _ h => h) (Or.inl ⟨by rfl, ?_⟩) (by assumption) ?_
        rotate_left
        · (intro w hSw; (try dsimp only at hSw); first | (go_simp; done) | (go_simp; with_reducible rfl))
        try simp only [Act.put, List.setIfInBounds_toArray, List.set_cons_zero, List.set_cons_succ]
        refine wpAnyH_take (i := 17) (oi := { dst := some 69, op := Op.fieldAddr _ (Operand.tmp 68) 2, type := _, pos := _, after := _, guard := _ }) (v := ?_) rfl (by kernel_rfl) (by kernel_rfl) (by kernel_rfl) (fun _ _ _ h => h) (Or.inl ⟨by rfl, ?_⟩) (by assumption) ?_
        rotate_left
        · (intro w hSw; (try dsimp only at hSw); first | (go_simp; done) | (go_simp; with_reducible rfl))
        try simp only [Act.put, List.setIfInBounds_toArray, List.set_cons_zero, List.set_cons_succ]
        refine wpAnyH_take (i := 18) (oi := { dst := some 70, op := Op.load _ (Operand.tmp 69), type := _, pos := _, after := _, guard := _ }) (v := ?_) rfl (by kernel_rfl) (by kernel_rfl) (by kernel_rfl) (fun _ _ _ h => h) (Or.inl ⟨by rfl, ?_⟩) (by assumption) ?_
        rotate_left
        · (intro w hSw; (try dsimp only at hSw); first | (go_simp; done) | (go_simp; with_reducible rfl))
        try simp only [Act.put, List.setIfInBounds_toArray, List.set_cons_zero, List.set_cons_succ]
        refine wpAnyH_take (i := 19) (oi := { dst := some 71, op := Op.slice _ (Operand.tmp 65) (some (Operand.tmp 66)) (some (Operand.tmp 70)) none, type := _, pos := _, after := _, guard := _ }) (v := ?_) rfl (by kernel_rfl) (by kernel_rfl) (by kernel_rfl) (fun _ _ _ h => h) (Or.inl ⟨by rfl, ?_⟩) (by assumption) ?_
        rotate_left
        · (intro w hSw; (try dsimp only at hSw); first | (go_simp; done) | (go_simp; with_reducible rfl))
        try simp only [Act.put, List.setIfInBounds_toArray, List.set_cons_zero, List.set_cons_succ]
        refine wpAnyH_take (i := 20) (oi := { dst := some 72, op := Op.move (Operand.tmp 5), type := _, pos := _, after := _, guard := _ }) (v := ?_) rfl (by kernel_rfl) (by kernel_rfl) (by kernel_rfl) (fun _ _ _ h => h) (Or.inl ⟨by rfl, ?_⟩) (by assumption) ?_
        rotate_left
        · (intro w hSw; (try dsimp only at hSw); first | (go_simp; done) | (go_simp; with_reducible rfl))
        try simp only [Act.put, List.setIfInBounds_toArray, List.set_cons_zero, List.set_cons_succ]
        refine wpAnyH_take (i := 21) (oi := { dst := some 73, op := Op.move (Operand.tmp 0), type := _, pos := _, after := _, guard := _ }) (v := ?_) rfl (by kernel_rfl) (by kernel_rfl) (by kernel_rfl) (fun _ _ _ h => h) (Or.inl ⟨by rfl, ?_⟩) (by assumption) ?_
        rotate_left
        · (intro w hSw; (try dsimp only at hSw); first | (go_simp; done) | (go_simp; with_reducible rfl))
        try simp only [Act.put, List.setIfInBounds_toArray, List.set_cons_zero, List.set_cons_succ]
        refine wpAnyH_take (i := 22) (oi := { dst := some 74, op := Op.nilCheck (Operand.tmp 73), type := _, pos := _, after := _, guard := _ }) (v := ?_) rfl (by kernel_rfl) (by kernel_rfl) (by kernel_rfl) (fun _ _ _ h => h) (Or.inl ⟨by rfl, ?_⟩) (by assumption) ?_
        rotate_left
        · (intro w hSw; (try dsimp only at hSw); first | (go_simp; done) | (go_simp; with_reducible rfl))
        try simp only [Act.put, List.setIfInBounds_toArray, List.set_cons_zero, List.set_cons_succ]
        refine wpAnyH_take (i := 23) (oi := { dst := some 75, op := Op.fieldAddr _ (Operand.tmp 74) 2, type := _, pos := _, after := _, guard := _ }) (v := ?_) rfl (by kernel_rfl) (by kernel_rfl) (by kernel_rfl) (fun _ _ _ h => h) (Or.inl ⟨by rfl, ?_⟩) (by assumption) ?_
        rotate_left
        · (intro w hSw; (try dsimp only at hSw); first | (go_simp; done) | (go_simp; with_reducible rfl))
        try simp only [Act.put, List.setIfInBounds_toArray, List.set_cons_zero, List.set_cons_succ]
        refine wpAnyH_take (i := 24) (oi := { dst := some 76, op := Op.load _ (Operand.tmp 75), type := _, pos := _, after := _, guard := _ }) (v := ?_) rfl (by kernel_rfl) (by kernel_rfl) (by kernel_rfl) (fun _ _ _ h => h) (Or.inl ⟨by rfl, ?_⟩) (by assumption) ?_
        rotate_left
        · (intro w hSw; (try dsimp only at hSw); first | (go_simp; done) | (go_simp; with_reducible rfl))
        try simp only [Act.put, List.setIfInBounds_toArray, List.set_cons_zero, List.set_cons_succ]
        refine wpAnyH_take (i := 25) (oi := { dst := some 77, op := Op.build _ #[(0, Operand.tmp 58), (1, Operand.tmp 71), (2, Operand.tmp 72), (3, Operand.tmp 76)], type := _, pos := _, after := _, guard := _ }) (v := ?_) rfl (by kernel_rfl) (by kernel_rfl) (by kernel_rfl) (fun _ _ _ h => h) (Or.inl ⟨by rfl, ?_⟩) (by assumption) ?_
        rotate_left
        · (intro w hSw; (try dsimp only at hSw); first | (go_simp; done) | (go_simp; with_reducible rfl))
        try simp only [Act.put, List.setIfInBounds_toArray, List.set_cons_zero, List.set_cons_succ]
        refine wpAnyH_ready (rs := [5, 26]) (by kernel_rfl) (by simp) ?_
        refine AllReadyH.cons (o := { dst := some 57, op := Op.load _ (Operand.tmp 56), type := _, pos := _, after := _, guard := _ }) rfl (fun K hK => ?_) ?_
        · skip
          go_simp
          refine hK.out _ _ ?_ (fun hHeld2 => ?_)
          · (try dsimp only); (first | exact HKeep.out _ | go_keep | (go_split_ands; refine ⟨?_, ?_, ?_⟩; (rw [hgrow.cell_far _ (by simp; omega) (Ne.symm ag)]; assumption); (rw [hgrow.cell_far _ (by simp; omega) (Ne.symm ag)]; assumption); (rw [hgrow.cell_far _ (by simp; omega) (Ne.symm af)]; assumption)) | (go_split_ands; refine ⟨?_, ?_, ?_⟩ <;> (first | assumption | (simp; done) | (simp; assumption) | (go_simp; done) | (go_simp; assumption))))
          clear hK K hHeld
          have hHeld := hHeld2
          clear hHeld2
          try simp only [Act.put, List.setIfInBounds_toArray, List.set_cons_zero, List.set_cons_succ]
          refine wpAnyH_ready (rs := [26]) (by kernel_rfl) (by simp) ?_
          refine AllReadyH.cons (o := { dst := some 78, op := Op.buildSlice _ 1 #[(0, Operand.tmp 77)], type := _, pos := _, after := _, guard := _ }) rfl (fun K hK => ?_) AllReadyH.nil
          go_simp
          refine hK.out _ _ ?_ (fun hHeld2 => ?_)
          · (try dsimp only); (first | exact HKeep.out _ | go_keep | (go_split_ands; refine ⟨?_, ?_, ?_⟩; (rw [hgrow.cell_far _ (by simp; omega) (Ne.symm ag)]; assumption); (rw [hgrow.cell_far _ (by simp; omega) (Ne.symm ag)]; assumption); (rw [hgrow.cell_far _ (by simp; omega) (Ne.symm af)]; assumption)) | (go_split_ands; refine ⟨?_, ?_, ?_⟩ <;> (first | assumption | (simp; done) | (simp; assumption) | (go_simp; done) | (go_simp; assumption))))
          clear hK K hHeld
          have hHeld := hHeld2
          clear hHeld2
          try simp only [Act.put, List.setIfInBounds_toArray, List.set_cons_zero, List.set_cons_succ]
          refine wpAnyH_ready (rs := [27]) (by kernel_rfl) (by simp) ?_
          refine AllReadyH.cons (o := { dst := some 79, op := Op.call { callee := Callee.builtin Builtin.append, args := #[Operand.tmp 57, Operand.tmp 78], argTypes := _ }, type := _, pos := _, after := _, guard := _ }) rfl (fun K hK => ?_) AllReadyH.nil
          refine step_append_lies _ (by rfl) _ _ _ (by rfl) w.heap.size 83 i0 _ 4 48 Tryz.underlying58 hi0 hz0 hz1 hz2 rfl (by omega) v done.length (tcs done) (by rfl) ((hown.alloc _).drew) ⟨w2.heap.size, 0, none⟩ 1 1 (PC.cells ⟨s.extract (x.p + k) (x.p + k + a), s.extract (x.p + k + a) (x.p + k + a + n), x.p + k + a, x.p + k + a + n⟩) (by rfl) (by rfl) (World.news_of_block (cs := #[.string (s.extract (x.p + k) (x.p + k + a)), .string (s.extract (x.p + k + a) (x.p + k + a + n)), .int .i64 ((x.p : Int) + (k : Int) + (a : Int)), .int .i64 ((x.p : Int) + (k : Int) + (a : Int) + (n : Int))]) (t := 83) (fr := (0, 0)) (heap_alloc_new w2 _)) (by simp [Value.oneCell', PC.cells]) (by omega) hn9 hb9 (by simp; omega) (w2.heap.size + 1) (by simp) ?_; intro gg cap w5 hown1 hgrow hat hlt; have p2 : w5.cell? ⟨lb, 2, none⟩ = some v := (hgrow.cell_far _ (by simp; omega) (Ne.symm ag)).trans (HC2a.out _); have pf : w5.frozen? ⟨lb, 2, none⟩ = false := (hgrow.frozen_far _ (by simp; omega) (Ne.symm ag)).trans (HF2a.out _)
          refine hK.out _ _ ?_ (fun hHeld2 => ?_)
          · (try dsimp only); (first | exact HKeep.out _ | go_keep | (go_split_ands; refine ⟨?_, ?_, ?_⟩; (rw [hgrow.cell_far _ (by simp; omega) (Ne.symm ag)]; assumption); (rw [hgrow.cell_far _ (by simp; omega) (Ne.symm ag)]; assumption); (rw [hgrow.cell_far _ (by simp; omega) (Ne.symm af)]; assumption)) | (go_split_ands; refine ⟨?_, ?_, ?_⟩ <;> (first | assumption | (simp; done) | (simp; assumption) | (go_simp; done) | (go_simp; assumption))))
          clear hK K hHeld
          have hHeld := hHeld2
          clear hHeld2
          try simp only [Act.put, List.setIfInBounds_toArray, List.set_cons_zero, List.set_cons_succ]
          refine wpAnyH_take (i := 28) (oi := { dst := some 80, op := Op.nilCheck (Operand.tmp 52), type := _, pos := _, after := _, guard := _ }) (v := ?_) rfl (by kernel_rfl) (by kernel_rfl) (by kernel_rfl) (fun _ _ _ h => h) (Or.inl ⟨by rfl, ?_⟩) (by assumption) ?_
          rotate_left
          · (intro w hSw; (try dsimp only at hSw); first | (go_simp; done) | (go_simp; with_reducible rfl))
          try simp only [Act.put, List.setIfInBounds_toArray, List.set_cons_zero, List.set_cons_succ]
          refine wpAnyH_take (i := 29) (oi := { dst := some 81, op := Op.fieldAddr _ (Operand.tmp 80) 1, type := _, pos := _, after := _, guard := _ }) (v := ?_) rfl (by kernel_rfl) (by kernel_rfl) (by kernel_rfl) (fun _ _ _ h => h) (Or.inl ⟨by rfl, ?_⟩) (by assumption) ?_
          rotate_left
          · (intro w hSw; (try dsimp only at hSw); first | (go_simp; done) | (go_simp; with_reducible rfl))
          try simp only [Act.put, List.setIfInBounds_toArray, List.set_cons_zero, List.set_cons_succ]
          refine wpAnyH_take (i := 30) (oi := { dst := some 82, op := Op.fieldAddr _ (Operand.tmp 81) 1, type := _, pos := _, after := _, guard := _ }) (v := ?_) rfl (by kernel_rfl) (by kernel_rfl) (by kernel_rfl) (fun _ _ _ h => h) (Or.inl ⟨by rfl, ?_⟩) (by assumption) ?_
          rotate_left
          · (intro w hSw; (try dsimp only at hSw); first | (go_simp; done) | (go_simp; with_reducible rfl))
          try simp only [Act.put, List.setIfInBounds_toArray, List.set_cons_zero, List.set_cons_succ]
          refine wpAnyH_ready (rs := [31]) (by kernel_rfl) (by simp) ?_
          refine AllReadyH.cons (o := { dst := none, op := Op.store _ (Operand.tmp 82) (Operand.tmp 79), type := _, pos := _, after := _, guard := _ }) rfl (fun K hK => ?_) AllReadyH.nil
          go_simp
          refine hK.out _ _ ?_ (fun hHeld2 => ?_)
          · (try dsimp only); (first | exact HKeep.out _ | go_keep | (go_split_ands; refine ⟨?_, ?_, ?_⟩; (rw [hgrow.cell_far _ (by simp; omega) (Ne.symm ag)]; assumption); (rw [hgrow.cell_far _ (by simp; omega) (Ne.symm ag)]; assumption); (rw [hgrow.cell_far _ (by simp; omega) (Ne.symm af)]; assumption)) | (go_split_ands; refine ⟨?_, ?_, ?_⟩ <;> (first | assumption | (simp; done) | (simp; assumption) | (go_simp; done) | (go_simp; assumption))))
          clear hK K hHeld
          have hHeld := hHeld2
          clear hHeld2
          try simp only [Act.put, List.setIfInBounds_toArray, List.set_cons_zero, List.set_cons_succ]
          refine wpAnyH_done (by kernel_rfl) ?_ _
          rcases HCS.out with ⟨hcom, rfl⟩ | ⟨hcom, rfl, rfl⟩
          · have HI9 := Lib.hid (HI.out.on HA.out hcom HS2.out HF2.out HO2.out hlb hfb hgrow hn0 hown1)
            clear hown hown1 hgrow p2 pf c2a hHeld hcom
            go_wp2_with fail
            go_roundg (s.size - (k + a + n))
            case measure => omega
            case rel => exact ⟨⟨_, rfl⟩, k + a + n, _, _, rfl, by omega, HI9⟩
          · skip
            have hgap : gap (suf s (x.p + k)) = ([], a, true) := by
              rw [gap_opened _ (by rw [suf_drop', HA.out]; exact hcom), HA.out]
            have hbad : next x.kind x.dot (suf s x.p) = .bad (k + a) := by
              have h1 := HI.out.len
              have h2 := HI.out.op
              rw [hgap] at h1 h2
              unfold next
              simp only
              rw [← h2]
              simp only [if_true]
              rw [← h1]
              simp [gapLen, comsLen]
            have HB := Lib.hid hbad
            clear hgap hbad hcom
            obtain ⟨M1, M2, M3⟩ := mem_on HS2.out HF2.out HO2.out hlb hfb hgrow hown1
            have HM1 := Lib.hid M1
            have HM2 := Lib.hid M2
            have HM3 := Lib.hid M3
            clear hown hown1 hgrow p2 pf c2a hHeld M1 M2 M3 c0 c9 cB c2 f2
            generalize w5.setCell ⟨lb, 2, none⟩ (.slice (some ⟨gg, 0, none⟩) (done.length + 1) cap) = w6 at *
            have r9 : w6.cell? ⟨lb, 9, none⟩ = some (.int .i64 ((x.p + k + a + n : Nat) : Int)) := HM1.out.rd.c9
            have k1 : w6.cell? ⟨lb, 1, none⟩ = some (.string kNone) := block_cell HM1.out.lex 1
            have k7 : w6.cell? ⟨lb, 7, none⟩ = some (.int .i64 0) := block_cell HM1.out.lex 7
            have k8 : w6.cell? ⟨lb, 8, none⟩ = some (.int .i64 0) := block_cell HM1.out.lex 8
            have f1 := block_free HM1.out.lex 1
            have f7 := block_free HM1.out.lex 7
            have f8 := block_free HM1.out.lex 8
            go_wp2_with fail
            refine bodyPost_ret (results_none rfl _ _ _) rfl ?_
            have hp6 : x.p + k + a + n ≤ s.size := HM1.out.pz
            have hS7 := HM1.out.set 7 (.int .i64 ((x.p : Int) + (k : Int) + (a : Int) + (n : Int))) { freshX x with com := .slice (some ⟨gg, 0, none⟩) (done.length + 1) cap, p := x.p + k + a + n, ps := (x.p : Int) + (k : Int) + (a : Int) + (n : Int) } rfl hp6
            have hS8 := hS7.set 8 (.int .i64 ((x.p : Int) + (k : Int) + (a : Int) + (n : Int))) { freshX x with com := .slice (some ⟨gg, 0, none⟩) (done.length + 1) cap, p := x.p + k + a + n, ps := (x.p : Int) + (k : Int) + (a : Int) + (n : Int), en := (x.p : Int) + (k : Int) + (a : Int) + (n : Int) } rfl hp6
            have hS9 := hS8.set 1 (.string kBad) { freshX x with com := .slice (some ⟨gg, 0, none⟩) (done.length + 1) cap, p := x.p + k + a + n, ps := (x.p : Int) + (k : Int) + (a : Int) + (n : Int), en := (x.p : Int) + (k : Int) + (a : Int) + (n : Int), kind := kBad } rfl hp6
            refine .inr (.inr ⟨k + a, _, _, HB.out, rfl, ?_, kBad_ne, by rw [List.length_append, List.length_singleton]; have := HI.out.num; omega, ⟨rfl, hS9, ((HM2.out.setCell _ _ (.inl (by simp))).setCell _ _ (.inl (by simp))).setCell _ _ (.inl (by simp))⟩, HM3.out.frm ((((Frm.refl _ [lb]).setCell _ _ (.inl (by simp))).setCell _ _ (.inl (by simp))).setCell _ _ (.inl (by simp))) (by simpa using hlb)⟩)
            show x.p < x.p + k + a + n
            omega
        refine AllReadyH.cons (o := { dst := some 78, op := Op.buildSlice _ 1 #[(0, Operand.tmp 77)], type := _, pos := _, after := _, guard := _ }) rfl (fun K hK => ?_) AllReadyH.nil
        · skip
          go_simp
          refine hK.out _ _ ?_ (fun hHeld2 => ?_)
          · (try dsimp only); (first | exact HKeep.out _ | go_keep | (go_split_ands; refine ⟨?_, ?_, ?_⟩; (rw [hgrow.cell_far _ (by simp; omega) (Ne.symm ag)]; assumption); (rw [hgrow.cell_far _ (by simp; omega) (Ne.symm ag)]; assumption); (rw [hgrow.cell_far _ (by simp; omega) (Ne.symm af)]; assumption)) | (go_split_ands; refine ⟨?_, ?_, ?_⟩ <;> (first | assumption | (simp; done) | (simp; assumption) | (go_simp; done) | (go_simp; assumption))))
          clear hK K hHeld
          have hHeld := hHeld2
          clear hHeld2
          try simp only [Act.put, List.setIfInBounds_toArray, List.set_cons_zero, List.set_cons_succ]
          refine wpAnyH_ready (rs := [5]) (by kernel_rfl) (by simp) ?_
          refine AllReadyH.cons (o := { dst := some 57, op := Op.load _ (Operand.tmp 56), type := _, pos := _, after := _, guard := _ }) rfl (fun K hK => ?_) AllReadyH.nil
          go_simp
          refine hK.out _ _ ?_ (fun hHeld2 => ?_)
          · (try dsimp only); (first | exact HKeep.out _ | go_keep | (go_split_ands; refine ⟨?_, ?_, ?_⟩; (rw [hgrow.cell_far _ (by simp; omega) (Ne.symm ag)]; assumption); (rw [hgrow.cell_far _ (by simp; omega) (Ne.symm ag)]; assumption); (rw [hgrow.cell_far _ (by simp; omega) (Ne.symm af)]; assumption)) | (go_split_ands; refine ⟨?_, ?_, ?_⟩ <;> (first | assumption | (simp; done) | (simp; assumption) | (go_simp; done) | (go_simp; assumption))))
          clear hK K hHeld
          have hHeld := hHeld2
          clear hHeld2
          try simp only [Act.put, List.setIfInBounds_toArray, List.set_cons_zero, List.set_cons_succ]
          refine wpAnyH_ready (rs := [27]) (by kernel_rfl) (by simp) ?_
          refine AllReadyH.cons (o := { dst := some 79, op := Op.call { callee := Callee.builtin Builtin.append, args := #[Operand.tmp 57, Operand.tmp 78], argTypes := _ }, type := _, pos := _, after := _, guard := _ }) rfl (fun K hK => ?_) AllReadyH.nil
          refine step_append_lies _ (by rfl) _ _ _ (by rfl) w.heap.size 83 i0 _ 4 48 Tryz.underlying58 hi0 hz0 hz1 hz2 rfl (by omega) v done.length (tcs done) (by rfl) ((hown.alloc _).drew) ⟨w2.heap.size, 0, none⟩ 1 1 (PC.cells ⟨s.extract (x.p + k) (x.p + k + a), s.extract (x.p + k + a) (x.p + k + a + n), x.p + k + a, x.p + k + a + n⟩) (by rfl) (by rfl) (World.news_of_block (cs := #[.string (s.extract (x.p + k) (x.p + k + a)), .string (s.extract (x.p + k + a) (x.p + k + a + n)), .int .i64 ((x.p : Int) + (k : Int) + (a : Int)), .int .i64 ((x.p : Int) + (k : Int) + (a : Int) + (n : Int))]) (t := 83) (fr := (0, 0)) (heap_alloc_new w2 _)) (by simp [Value.oneCell', PC.cells]) (by omega) hn9 hb9 (by simp; omega) (w2.heap.size + 1) (by simp) ?_; intro gg cap w5 hown1 hgrow hat hlt; have p2 : w5.cell? ⟨lb, 2, none⟩ = some v := (hgrow.cell_far _ (by simp; omega) (Ne.symm ag)).trans (HC2a.out _); have pf : w5.frozen? ⟨lb, 2, none⟩ = false := (hgrow.frozen_far _ (by simp; omega) (Ne.symm ag)).trans (HF2a.out _)
          refine hK.out _ _ ?_ (fun hHeld2 => ?_)
          · (try dsimp only); (first | exact HKeep.out _ | go_keep | (go_split_ands; refine ⟨?_, ?_, ?_⟩; (rw [hgrow.cell_far _ (by simp; omega) (Ne.symm ag)]; assumption); (rw [hgrow.cell_far _ (by simp; omega) (Ne.symm ag)]; assumption); (rw [hgrow.cell_far _ (by simp; omega) (Ne.symm af)]; assumption)) | (go_split_ands; refine ⟨?_, ?_, ?_⟩ <;> (first | assumption | (simp; done) | (simp; assumption) | (go_simp; done) | (go_simp; assumption))))
          clear hK K hHeld
          have hHeld := hHeld2
          clear hHeld2
          try simp only [Act.put, List.setIfInBounds_toArray, List.set_cons_zero, List.set_cons_succ]
          refine wpAnyH_take (i := 28) (oi := { dst := some 80, op := Op.nilCheck (Operand.tmp 52), type := _, pos := _, after := _, guard := _ }) (v := ?_) rfl (by kernel_rfl) (by kernel_rfl) (by kernel_rfl) (fun _ _ _ h => h) (Or.inl ⟨by rfl, ?_⟩) (by assumption) ?_
          rotate_left
          · (intro w hSw; (try dsimp only at hSw); first | (go_simp; done) | (go_simp; with_reducible rfl))
          try simp only [Act.put, List.setIfInBounds_toArray, List.set_cons_zero, List.set_cons_succ]
          refine wpAnyH_take (i := 29) (oi := { dst := some 81, op := Op.fieldAddr _ (Operand.tmp 80) 1, type := _, pos := _, after := _, guard := _ }) (v := ?_) rfl (by kernel_rfl) (by kernel_rfl) (by kernel_rfl) (fun _ _ _ h => h) (Or.inl ⟨by rfl, ?_⟩) (by assumption) ?_
          rotate_left
          · (intro w hSw; (try dsimp only at hSw); first | (go_simp; done) | (go_simp; with_reducible rfl))
          try simp only [Act.put, List.setIfInBounds_toArray, List.set_cons_zero, List.set_cons_succ]
          refine wpAnyH_take (i := 30) (oi := { dst := some 82, op := Op.fieldAddr _ (Operand.tmp 81) 1, type := _, pos := _, after := _, guard := _ }) (v := ?_) rfl (by kernel_rfl) (by kernel_rfl) (by kernel_rfl) (fun _ _ _ h => h) (Or.inl ⟨by rfl, ?_⟩) (by assumption) ?_
          rotate_left
          · (intro w hSw; (try dsimp only at hSw); first | (go_simp; done) | (go_simp; with_reducible rfl))
          try simp only [Act.put, List.setIfInBounds_toArray, List.set_cons_zero, List.set_cons_succ]
          refine wpAnyH_ready (rs := [31]) (by kernel_rfl) (by simp) ?_
          refine AllReadyH.cons (o := { dst := none, op := Op.store _ (Operand.tmp 82) (Operand.tmp 79), type := _, pos := _, after := _, guard := _ }) rfl (fun K hK => ?_) AllReadyH.nil
          go_simp
          refine hK.out _ _ ?_ (fun hHeld2 => ?_)
          · (try dsimp only); (first | exact HKeep.out _ | go_keep | (go_split_ands; refine ⟨?_, ?_, ?_⟩; (rw [hgrow.cell_far _ (by simp; omega) (Ne.symm ag)]; assumption); (rw [hgrow.cell_far _ (by simp; omega) (Ne.symm ag)]; assumption); (rw [hgrow.cell_far _ (by simp; omega) (Ne.symm af)]; assumption)) | (go_split_ands; refine ⟨?_, ?_, ?_⟩ <;> (first | assumption | (simp; done) | (simp; assumption) | (go_simp; done) | (go_simp; assumption))))
          clear hK K hHeld
          have hHeld := hHeld2
          clear hHeld2
          try simp only [Act.put, List.setIfInBounds_toArray, List.set_cons_zero, List.set_cons_succ]
          refine wpAnyH_done (by kernel_rfl) ?_ _
          rcases HCS.out with ⟨hcom, rfl⟩ | ⟨hcom, rfl, rfl⟩
          · have HI9 := Lib.hid (HI.out.on HA.out hcom HS2.out HF2.out HO2.out hlb hfb hgrow hn0 hown1)
            clear hown hown1 hgrow p2 pf c2a hHeld hcom
            go_wp2_with fail
            go_roundg (s.size - (k + a + n))
            case measure => omega
            case rel => exact ⟨⟨_, rfl⟩, k + a + n, _, _, rfl, by omega, HI9⟩
          · skip
            have hgap : gap (suf s (x.p + k)) = ([], a, true) := by
              rw [gap_opened _ (by rw [suf_drop', HA.out]; exact hcom), HA.out]
            have hbad : next x.kind x.dot (suf s x.p) = .bad (k + a) := by
              have h1 := HI.out.len
              have h2 := HI.out.op
              rw [hgap] at h1 h2
              unfold next
              simp only
              rw [← h2]
              simp only [if_true]
              rw [← h1]
              simp [gapLen, comsLen]
            have HB := Lib.hid hbad
            clear hgap hbad hcom
            obtain ⟨M1, M2, M3⟩ := mem_on HS2.out HF2.out HO2.out hlb hfb hgrow hown1
            have HM1 := Lib.hid M1
            have HM2 := Lib.hid M2
            have HM3 := Lib.hid M3
            clear hown hown1 hgrow p2 pf c2a hHeld M1 M2 M3 c0 c9 cB c2 f2
            generalize w5.setCell ⟨lb, 2, none⟩ (.slice (some ⟨gg, 0, none⟩) (done.length + 1) cap) = w6 at *
            have r9 : w6.cell? ⟨lb, 9, none⟩ = some (.int .i64 ((x.p + k + a + n : Nat) : Int)) := HM1.out.rd.c9
            have k1 : w6.cell? ⟨lb, 1, none⟩ = some (.string kNone) := block_cell HM1.out.lex 1
            have k7 : w6.cell? ⟨lb, 7, none⟩ = some (.int .i64 0) := block_cell HM1.out.lex 7
            have k8 : w6.cell? ⟨lb, 8, none⟩ = some (.int .i64 0) := block_cell HM1.out.lex 8
            have f1 := block_free HM1.out.lex 1
            have f7 := block_free HM1.out.lex 7
            have f8 := block_free HM1.out.lex 8
            go_wp2_with fail
            refine bodyPost_ret (results_none rfl _ _ _) rfl ?_
            have hp6 : x.p + k + a + n ≤ s.size := HM1.out.pz
            have hS7 := HM1.out.set 7 (.int .i64 ((x.p : Int) + (k : Int) + (a : Int) + (n : Int))) { freshX x with com := .slice (some ⟨gg, 0, none⟩) (done.length + 1) cap, p := x.p + k + a + n, ps := (x.p : Int) + (k : Int) + (a : Int) + (n : Int) } rfl hp6
            have hS8 := hS7.set 8 (.int .i64 ((x.p : Int) + (k : Int) + (a : Int) + (n : Int))) { freshX x with com := .slice (some ⟨gg, 0, none⟩) (done.length + 1) cap, p := x.p + k + a + n, ps := (x.p : Int) + (k : Int) + (a : Int) + (n : Int), en := (x.p : Int) + (k : Int) + (a : Int) + (n : Int) } rfl hp6
            have hS9 := hS8.set 1 (.string kBad) { freshX x with com := .slice (some ⟨gg, 0, none⟩) (done.length + 1) cap, p := x.p + k + a + n, ps := (x.p : Int) + (k : Int) + (a : Int) + (n : Int), en := (x.p : Int) + (k : Int) + (a : Int) + (n : Int), kind := kBad } rfl hp6
            refine .inr (.inr ⟨k + a, _, _, HB.out, rfl, ?_, kBad_ne, by rw [List.length_append, List.length_singleton]; have := HI.out.num; omega, ⟨rfl, hS9, ((HM2.out.setCell _ _ (.inl (by simp))).setCell _ _ (.inl (by simp))).setCell _ _ (.inl (by simp))⟩, HM3.out.frm ((((Frm.refl _ [lb]).setCell _ _ (.inl (by simp))).setCell _ _ (.inl (by simp))).setCell _ _ (.inl (by simp))) (by simpa using hlb)⟩)
            show x.p < x.p + k + a + n
            omega

end Go.Proofs.YtngofbhlhcalpaaGreatDoor.lexer

namespace Go.Proofs.YtngofbhlhcalpaaGreatDoor.lexer
open Go.RowKit Go.Proofs.YtngofbhlhcalpaaGreatDoor.gen

theorem isErr (x : Value) (w : World) : (Instr.typeAssert (.iface 72 x) 20 72 true).run Tryz.prog w = .ok (.tuple #[x, .bool true]) w := by kernel_rfl

set_option maxRecDepth 100000 in
theorem catch_fault (p : Addr) (x old : Value) (older : List PanicEntry) (w : World) (hc : w.cell? p = some old) (hz : w.frozen? p = false) :
    CallsD Tryz.prog 37 #[.pointer (some p)] (.panicking ({ v := .iface 72 x, recovered := false } :: older)) w fun e u' w' =>
      e = .returned (.tuple #[]) ∧ u' = .panicking ({ v := .iface 72 x, recovered := true } :: older) ∧ w' = w.setCell p (.iface 72 x) := by
  refine callsD_of_wpS Tryz.func37 rfl fun c₀ cs hu => ?_
  apply wpS_seq
  apply wpS_region
  simp [wpOpsS, go_sem, recoverD, hu, Tryz.ntmps37, Exit.thenS]
  have hta := isErr x
  refine wpS_of_wp ?_
  simp only [Array.replicate, List.replicate, List.setIfInBounds_toArray, List.set_cons_zero, List.set_cons_succ, List.append_toArray, List.cons_append, List.nil_append]
  go_wp2
  simp [bodyPostS, results, Tryz.results37]

theorem catch_idle (p : Addr) (w : World) :
    CallsD Tryz.prog 37 #[.pointer (some p)] .returning w fun e u' w' => e = .returned (.tuple #[]) ∧ u' = .returning ∧ w' = w := by
  refine callsD_of_wpS Tryz.func37 rfl fun c₀ cs hu => ?_
  apply wpS_seq
  apply wpS_region
  simp [wpOpsS, go_sem, recoverD, hu, Tryz.ntmps37, Exit.thenS]
  refine wpS_of_wp ?_
  simp only [Array.replicate, List.replicate, List.setIfInBounds_toArray, List.set_cons_zero, List.set_cons_succ, List.append_toArray, List.cons_append, List.nil_append]
  go_wp2
  cases c₀
  simp_all [bodyPostS, results, Tryz.results37]

end Go.Proofs.YtngofbhlhcalpaaGreatDoor.lexer

namespace Go.Proofs.YtngofbhlhcalpaaGreatDoor.lexer
open Go.RowKit Go.Proofs.YtngofbhlhcalpaaGreatDoor.gen

/-- What NextToken gives. -/
def NTRes (lb fb : Nat) (fp s : ByteArray) (x : LX) (w : World) (e : Ending) (w' : World) : Prop :=
  (∃ t v, next x.kind x.dot (suf s x.p) = .ok t ∧ e = .returned .nilIface ∧ St w' lb fb fp s (nextX s x t v) ∧ Frm w w' [lb] ∧ ComAt w' w.heap.size v (comsAt s x.p t.coms)) ∨
  (∃ off eb, next x.kind x.dot (suf s x.p) = .bad off ∧ e = .returned (.iface 72 (.pointer (some ⟨eb, 0, none⟩))) ∧ ErrAt eb (x.p + off) w' ∧ Frm w w' [lb, fb])

theorem ComAt.le {w : World} {base base' : Nat} {v : Value} {l : List PC} (h : ComAt w base v l) (hb : base' ≤ base) : ComAt w base' v l := by
  refine ⟨h.1, ?_⟩
  rcases h.2 with h2 | ⟨g, cap, cur, h1, h2, h3⟩
  · exact .inl h2
  · exact .inr ⟨g, cap, cur, h1, Nat.le_trans hb h2, h3⟩

set_option maxRecDepth 100000 in
set_option maxHeartbeats 1000000 in
theorem nextToken_any (lb fb : Nat) (fp s : ByteArray) (x : LX) (w : World) (hs : s.size ≤ 1048576) (hE : Env w lb fb) (hS : St w lb fb fp s x) (hok : NB s ∨ ∃ t, next x.kind x.dot (suf s x.p) = .ok t) :
    Calls Tryz.prog 27 #[.pointer (some ⟨lb, 0, none⟩)] w (NTRes lb fb fp s x w) := by
  have hmf : ∀ (fn : Fn) (first cap : Array Value) (w : World), (Instr.makeFunc fn first cap).run Tryz.prog w = .ok (.func fn first cap) w := fun _ _ _ _ => rfl
  have hlb := block_lt hS.lex
  have hfb := block_lt hS.file
  have hF0 : ∀ o, Frm w (w.alloc o) [] := fun o => (Frm.refl w []).alloc o
  have HF0 := Lib.hid hF0
  have HE := Lib.hid hE
  have HS := Lib.hid hS
  have HK := Lib.hid hok
  clear hE hS hok hF0
  go_enter_defers Tryz.func27, Tryz.ntmps27
  go_wp2_with fail
  refine (next_any lb fb fp s x false _ hs (HE.out.frm (HF0.out _) (by simp)) (HS.out.frm (HF0.out _)) HK.out).mono ?_
  intro e w2 hres
  rcases hres with ⟨t, v, ho, ⟨rfl, hS2, hF2⟩, hC2⟩ | ⟨off, ho, _, eb, rfl, hEr, hle, hF2⟩ | ⟨off, y, cs, ho, hnp, _⟩
  case inl =>
    have hc : w2.cell? ⟨w.heap.size, 0, none⟩ = some .nilIface := by
      have hb := hF2.block w.heap.size (by show w.heap.size < (w.heap.push _).size; rw [Array.size_push]; omega) (by simp; omega)
      rw [World.cell?_of_block hb]
      exact block_cell (heap_alloc_new w _) 0
    have HO := Lib.hid ho
    have HS2 := Lib.hid hS2
    have HF2 := Lib.hid (((HF0.out _).mono (T := [lb]) (by simp)).step hF2)
    have HC2 := Lib.hid hC2
    clear ho hS2 hF2 hC2
    go_wp2_with fail
    refine leaves_cons (f := 37) (args := #[.pointer (some ⟨w.heap.size, 0, none⟩)]) (by simp) (by simp [go_sem]) ?_
    refine (catch_idle ⟨w.heap.size, 0, none⟩ _).mono ?_
    rintro e u' w'' ⟨rfl, rfl, rfl⟩
    simp [Leaves, settle, results, Tryz.results27, go_sem, hc]
    refine .inl ⟨t, v, HO.out, rfl, HS2.out, HF2.out, HC2.out.le (by show _ ≤ (w.heap.push _).size; rw [Array.size_push]; omega)⟩
  case inr.inl =>
    have hc : w2.heap[w.heap.size]? = some (.cells #[.nilIface] 52 (0, 0)) := by
      have hb := hF2.block w.heap.size (by show w.heap.size < (w.heap.push _).size; rw [Array.size_push]; omega) (by simp; omega)
      rw [hb]
      exact heap_alloc_new w _
    have HO := Lib.hid ho
    have HER := Lib.hid hEr
    have HF2 := Lib.hid (((HF0.out _).mono (T := [lb, fb]) (by simp)).step hF2)
    have hle2 : w.heap.size < eb := by
      have : w.heap.size + 1 ≤ eb := by
        have h : (w.alloc (.cells #[.nilIface] 52)).heap.size ≤ eb := hle
        have e1 : (w.alloc (.cells #[.nilIface] 52)).heap.size = w.heap.size + 1 := by show (w.heap.push _).size = _; rw [Array.size_push]
        omega
      omega
    have HCc := Lib.hid hc
    clear ho hEr hF2 hle hc
    go_wp2_with fail
    refine leaves_cons (f := 37) (args := #[.pointer (some ⟨w.heap.size, 0, none⟩)]) (by simp) (by simp [go_sem]) ?_
    refine (catch_fault ⟨w.heap.size, 0, none⟩ _ .nilIface [] _ (block_cell HCc.out 0) (block_free HCc.out 0)).mono ?_
    rintro e u' w'' ⟨rfl, rfl, rfl⟩
    have hc3 : (w2.setCell ⟨w.heap.size, 0, none⟩ (.iface 72 (.pointer (some ⟨eb, 0, none⟩)))).cell? ⟨w.heap.size, 0, none⟩ = some (.iface 72 (.pointer (some ⟨eb, 0, none⟩))) := block_cell (block_set HCc.out _) 0
    generalize hW : w2.setCell ⟨w.heap.size, 0, none⟩ (.iface 72 (.pointer (some ⟨eb, 0, none⟩))) = w9 at *
    have hF9 : Frm w w9 [lb, fb] := by rw [← hW]; exact HF2.out.setCell _ _ (.inr (Nat.le_refl _))
    have hE9 : ErrAt eb (x.p + off) w9 := by
      obtain ⟨pb, c1, c2⟩ := HER.out
      have hpb : pb ≠ w.heap.size := by
        intro e
        subst e
        rw [block_cell HCc.out 1] at c2
        cases c2
      rw [← hW]
      refine ⟨pb, ?_, ?_⟩
      · rw [World.cell?_of_block (Below.heap_setCell _ _ _ _ (by show eb ≠ w.heap.size; omega))]; exact c1
      · rw [World.cell?_of_block (Below.heap_setCell _ _ _ _ (by show pb ≠ w.heap.size; exact hpb))]; exact c2
    simp [Leaves, settle, results, Tryz.results27, go_sem, hc3]
    exact .inr ⟨off, eb, HO.out, rfl, hE9, hF9⟩
  case inr.inr => cases hnp

end Go.Proofs.YtngofbhlhcalpaaGreatDoor.lexer

namespace Go.Proofs.YtngofbhlhcalpaaGreatDoor.lexer
open Go.RowKit Go.Proofs.YtngofbhlhcalpaaGreatDoor.gen

/-- A new lexer. -/
def newX : LX := ⟨kNone, .slice none 0 0, kNone, kNone, kNone, 0, 0, 0, 0, kNone, false⟩

/-- A lexer of the call's own, in memory; w is the world in which the call began. -/
structure LM (s : ByteArray) (w : World) (v : Value) (ts : List IT) (x : LX) (wr : World) : Prop where
  st : St wr (w.heap.size + 1) w.heap.size kNone s x
  env : Env wr (w.heap.size + 1) w.heap.size
  ety : EType wr
  bel : Below w.heap.size w wr
  own : ToksAt wr (w.heap.size + 1 + 1) v ts

def LexerRes (s : ByteArray) (w : World) (e : Ending) (w' : World) : Prop := e = .returned (.pointer (some ⟨w.heap.size + 1, 0, none⟩)) ∧ LM s w (.slice none 0 0) [] newX w'

set_option maxRecDepth 100000 in
theorem lexerOf_any (s : ByteArray) (w : World) (hs : s.size ≤ 1048576) (hc : Ctx w) : Calls Tryz.prog 26 #[.string s] w (LexerRes s w) := by
  have HC := Lib.hid hc
  clear hc
  go_enter Tryz.func26, Tryz.ntmps26
  go_wp2_with fail
  go_ret
  have hb : Below w.heap.size w ((w.alloc (.cells #[.string kNone, .string s, .slice none 0 0] 71)).alloc (.cells (newX.cells w.heap.size) 63)) := ((Below.refl _ _).alloc (Nat.le_refl _) _).alloc (by show _ ≤ (w.heap.push _).size; rw [Array.size_push]; omega) _
  have e1 : ∀ o, (w.alloc o).heap.size = w.heap.size + 1 := fun o => by show (w.heap.push _).size = _; rw [Array.size_push]
  refine ⟨rfl, ⟨?_, ?_, by omega, by omega, Nat.zero_le _⟩, ⟨w, HC.out.tabs, hb, by omega, by omega⟩, HC.out.ety.below hb, hb, ToksAt.nil _ _⟩
  · have := heap_alloc_new (w.alloc (.cells #[.string kNone, .string s, .slice none 0 0] 71)) (.cells (newX.cells w.heap.size) 63)
    rw [e1] at this
    exact this
  · exact (Below.heap_alloc _ _ _ (by rw [e1]; omega)).trans (heap_alloc_new w _)

/-- Behind a call that reads a token, one that makes it plain, and an append. -/
theorem LM.on {s : ByteArray} {w wr w2 w3 w5 : World} {v v' cv : Value} {x y : LX} {t : IT} {ps : List (IT × Value)} {o : Obj} (h : LM s w v (ps.map (·.1)) x wr) (hown : wr.ownsRow (w.heap.size + 1 + 1) 30 8 v ps.length (pcells ps))
    (hcs : ∀ p ∈ ps, ComI wr (w.heap.size + 1 + 1) p.2 p.1.coms) (hS2 : St w2 (w.heap.size + 1) w.heap.size kNone s y) (hF2 : Frm wr w2 [w.heap.size + 1]) (hc : ComI w3 w2.heap.size cv t.coms) (hb3 : Below w2.heap.size w2 w3)
    (hg : (w3.alloc o).grownBy w5 v.ownBlock) (hown' : w5.ownsRow (w.heap.size + 1 + 1) 30 8 v' (ps.length + 1) (pcells ps ++ t.cells cv)) : LM s w v' (ps.map (·.1) ++ [t]) y w5 := by
  have hlb := block_lt h.st.lex
  have hz := hF2.size
  have hF3 : Frm wr (w3.alloc o) [w.heap.size + 1] := (hF2.step ((Frm.ofBelow hb3 []).mono (by simp))).step (((Frm.refl w3 []).alloc o).mono (by simp))
  have hF5 : Frm (w3.alloc o) w5 v.ownBlock.toList := Frm.grown (S := v.ownBlock.toList) hg (fun b hb => .inl (by rw [hb]; simp))
  have hrow : ∀ y, y ∈ v.ownBlock.toList → w.heap.size + 1 + 1 ≤ y := fun y hy => by
    cases hv : v.ownBlock with
    | none => rw [hv] at hy; simp at hy
    | some b => rw [hv] at hy; have : y = b := by simpa using hy
                subst this; exact (hown.lt y hv).1
  have hS5 : St w5 (w.heap.size + 1) w.heap.size kNone s y := by
    have h1 : Frm w2 (w3.alloc o) [] := (Frm.ofBelow hb3 []).step ((Frm.refl w3 []).alloc o)
    have hS3 := hS2.frm h1
    exact ⟨(hF5.block _ (block_lt hS3.lex) (fun hm => by have := hrow _ hm; omega)).trans hS3.lex, (hF5.block _ (block_lt hS3.file) (fun hm => by have := hrow _ hm; omega)).trans hS3.file, hS3.ne, hS3.sz, hS3.pz⟩
  have hE3 := h.env.frm hF3 (by simp)
  have hbel3 : Below w.heap.size w (w3.alloc o) := ((Frm.ofBelow h.bel []).trans hF3 (fun x hx => by right; simp at hx; omega)).below
  have hbel5 : Below w.heap.size w w5 := ((Frm.ofBelow hbel3 []).trans hF5 (fun x hx => by right; have := hrow x hx; omega)).below
  refine ⟨hS5, ?_, ?_, hbel5, ?_⟩
  · obtain ⟨W0, a1, a2, a3, a4⟩ := hE3
    exact ⟨W0, a1, a2.trans (hF5.belowOf (fun x hx => by have := hrow x hx; omega) a2.size), a3, a4⟩
  · have h0 : 0 < w.heap.size := by
      obtain ⟨W0, a1, a2, a3, a4⟩ := h.env
      obtain ⟨ev, b1, _⟩ := a1.syn
      have := World.block_lt_of_cell? _ _ b1
      have : 0 < W0.heap.size := by
        rcases Nat.lt_or_ge 0 W0.heap.size with h' | h'
        · exact h'
        · exfalso; simp only at this; omega
      omega
    exact (h.ety.frm hF3 (by simp)).frm hF5 (fun hm => by have := hrow 0 hm; omega)
  · have hrow3 : (w3.alloc o).ownsRow (w.heap.size + 1 + 1) 30 8 v ps.length (pcells ps) := ownsRow_frm hown hF3 (by intro x hx; simp at hx; omega)
    exact ToksAt.snoc hrow3 (fun p hp => (hcs p hp).frm hF3 (by intro x hx; simp at hx; omega)) ((hc.le (by omega)).frm ((Frm.refl w3 []).alloc o) (by simp)) hg hown'

/-- Token by token: what is read, and what is to come. -/
structure LI (s : ByteArray) (w : World) (pre : List (Nat × Nt)) (v : Value) (x : LX) (wr : World) : Prop where
  mem : LM s w v (pre.map (itOf s)) x wr
  lex1 : (lexAll s).1 = pre ++ (lexL x.kind x.dot (suf s x.p) x.p).1
  lex2 : (lexAll s).2 = (lexL x.kind x.dot (suf s x.p) x.p).2
  num : pre.length ≤ x.p

theorem LI.start {s : ByteArray} {w wr : World} (h : LM s w (.slice none 0 0) [] newX wr) : LI s w [] (.slice none 0 0) newX wr := by
  have e : suf s 0 = s.data.toList := List.drop_zero
  refine ⟨h, ?_, ?_, Nat.zero_le _⟩
  · show (lexAll s).1 = [] ++ (lexL kNone false (suf s 0) 0).1
    rw [e]; rfl
  · show (lexAll s).2 = (lexL kNone false (suf s 0) 0).2
    rw [e]; rfl

theorem LI.hok {s : ByteArray} {w wr : World} {pre : List (Nat × Nt)} {v : Value} {x : LX} (h : LI s w pre v x wr) (hok : NB s ∨ (lexAll s).2 = none) : NB s ∨ ∃ t, next x.kind x.dot (suf s x.p) = .ok t := by
  rcases hok with h1 | h1
  · exact .inl h1
  · right
    cases hn : next x.kind x.dot (suf s x.p) with
    | ok t => exact ⟨t, rfl⟩
    | bad o =>
      have := h.lex2
      rw [lexL_bad _ hn, h1] at this
      cases this

end Go.Proofs.YtngofbhlhcalpaaGreatDoor.lexer

namespace Go.Proofs.YtngofbhlhcalpaaGreatDoor.lexer
open Go.RowKit Go.Proofs.YtngofbhlhcalpaaGreatDoor.gen

theorem LI.bad {s : ByteArray} {w wr w3 : World} {pre : List (Nat × Nt)} {v : Value} {x : LX} {off : Nat} (h : LI s w pre v x wr) (hn : next x.kind x.dot (suf s x.p) = .bad off) (hF : Frm wr w3 [w.heap.size + 1, w.heap.size]) :
    LexRes s w (.returned (.tuple #[v, .int .i64 ((x.p + off : Nat) : Int), .bool false])) w3 := by
  have h1 := h.lex1
  have h2 := h.lex2
  rw [lexL_bad _ hn] at h1 h2
  refine ⟨v, ?_, ?_, ?_⟩
  · rw [h2]; rfl
  · rw [h1, List.append_nil]
    exact (h.mem.own.frm hF (by intro x hx; simp at hx; omega)).le (by omega)
  · exact ((Frm.ofBelow h.mem.bel []).trans hF (fun x hx => by right; simp at hx; omega)).below

theorem gap_num : ∀ (m : Nat) (l : List UInt8), l.length ≤ m → (gap l).1.length ≤ comsLen (gap l).1 := by
  intro m
  induction m with
  | zero =>
    intro l h
    obtain rfl : l = [] := List.eq_nil_of_length_eq_zero (by omega)
    rw [gap_nil]; exact Nat.le_refl _
  | succ m ih =>
    intro l h
    cases hc : com (l.drop (spc l)) with
    | no => rw [gap_no l hc]; exact Nat.le_refl _
    | opened => rw [gap_opened l hc]; exact Nat.le_refl _
    | ok n =>
      have h2 := com_le _ _ hc
      rw [List.length_drop] at h2
      have := ih (l.drop (spc l + n)) (by rw [List.length_drop]; omega)
      rw [gap_ok l n hc]
      simp only [List.length_cons, comsLen]
      omega

theorem comsAt_len (s : ByteArray) : ∀ (l : List (Nat × Nat)) (p : Nat), (comsAt s p l).length = l.length := by
  intro l
  induction l with
  | nil => intro p; rfl
  | cons c r ih => intro p; simp only [comsAt, List.length_cons, ih]

theorem coms_bound {s : ByteArray} {x : LX} {t : Nt} (h : next x.kind x.dot (suf s x.p) = .ok t) (hs : s.size ≤ 1048576) : (itOf s (x.p, t)).coms.length ≤ 1048576 := by
  show (comsAt s x.p t.coms).length ≤ _
  rw [comsAt_len, (next_ok h).2.1]
  have h1 := gap_num _ (suf s x.p) (Nat.le_refl _)
  have h2 := gap_le (suf s x.p)
  unfold gapLen at h2
  rw [suf_len] at h2
  omega

theorem LI.more {s : ByteArray} {w wr w5 : World} {pre : List (Nat × Nt)} {v v' cv : Value} {x : LX} {t : Nt} (h : LI s w pre v x wr) (hn : next x.kind x.dot (suf s x.p) = .ok t) (hg : Good t.tk)
    (hm : LM s w v' (pre.map (itOf s) ++ [itOf s (x.p, t)]) (nextX s x t cv) w5) : LI s w (pre ++ [(x.p, t)]) v' (nextX s x t cv) w5 := by
  have hpos := hg.1
  have e : suf s (x.p + t.len) = (suf s x.p).drop t.len := (suf_drop' s x.p t.len).symm
  refine ⟨?_, ?_, ?_, ?_⟩
  · rw [List.map_append]; exact hm
  · rw [h.lex1, lexL_more _ hn hg]
    show pre ++ _ = pre ++ [(x.p, t)] ++ (lexL t.tk.kind (dotOf x.dot t.tk) (suf s (x.p + t.len)) (x.p + t.len)).1
    rw [e, List.append_assoc]; rfl
  · rw [h.lex2, lexL_more _ hn hg]
    show _ = (lexL t.tk.kind (dotOf x.dot t.tk) (suf s (x.p + t.len)) (x.p + t.len)).2
    rw [e]
  · have := h.num
    rw [List.length_append, List.length_singleton]
    show pre.length + 1 ≤ x.p + t.len
    unfold Nt.len
    omega

theorem LI.last {s : ByteArray} {w wr w5 : World} {pre : List (Nat × Nt)} {v v' : Value} {x y : LX} {t : Nt} (h : LI s w pre v x wr) (hn : next x.kind x.dot (suf s x.p) = .ok t) (hg : t.tk = plain kEof 0)
    (hm : LM s w v' (pre.map (itOf s) ++ [itOf s (x.p, t)]) y w5) : LexRes s w (.returned (.tuple #[v', .int .i64 0, .bool true])) w5 := by
  have h1 := h.lex1
  have h2 := h.lex2
  rw [lexL_eof _ hn hg] at h1 h2
  refine ⟨v', by rw [h2]; rfl, ?_, hm.bel⟩
  rw [h1, List.map_append]
  exact hm.own.le (by omega)

set_option maxRecDepth 100000 in
set_option maxHeartbeats 4000000 in
theorem lex_any (s : ByteArray) (w : World) (hs : s.size ≤ 1048576) (hc : Ctx w) (hok : NB s ∨ (lexAll s).2 = none) : Calls Tryz.prog 12 #[.string s] w (LexRes s w) := by
  obtain ⟨i0, hi0, hz0, hz1, hz2⟩ := info_parts infoIT
  have HC := Lib.hid hc
  have HK := Lib.hid hok
  clear hc hok
  go_enter Tryz.func12, Tryz.ntmps12
  go_wp2_with fail
  refine (lexerOf_any s _ hs HC.out).mono ?_
  rintro e w1 ⟨rfl, hM⟩
  have HM := Lib.hid (LI.start hM)
  clear hM
  go_wp2_with fail
  go_loopg [2] s.size (fun g v wr => ∃ (pre : List (Nat × Nt)) (x : LX), g = s.size - x.p ∧ Hid (LI s w pre v x wr))
  case atStart => exact ⟨[], newX, rfl, HM⟩
  case round =>
    obtain ⟨pre, x, hg, HI⟩ := hrel
    have h0 : 0 < w.heap.size := World.block_lt_of_cell? _ _ HC.out.ety
    go_wp2_with fail
    refine (nextToken_any _ _ _ s x _ hs HI.out.mem.env HI.out.mem.st (HI.out.hok HK.out)).mono ?_
    intro e w2 hres
    rcases hres with ⟨t, cv0, ho, rfl, hS2, hF2, hC2⟩ | ⟨off, eb, ho, rfl, hE2, hF2⟩
    case inr =>
      have HO := Lib.hid ho
      have HE2 := Lib.hid hE2
      have HET := Lib.hid (HI.out.mem.ety.frm hF2 (by simp; omega))
      have HF2 := Lib.hid hF2
      clear ho hE2 hF2
      go_wp2_with fail
      refine (place_any eb (x.p + off) _ HET.out HE2.out).mono ?_
      rintro e w3 ⟨rfl, hb3⟩
      have HB3 := Lib.hid (LI.bad HI.out HO.out (HF2.out.step ((Frm.ofBelow hb3 []).mono (by simp))))
      clear hb3
      go_wp2_with fail
      go_ret3
      exact HB3.out
    case inl =>
      obtain ⟨ca, cn, cc, rfl⟩ : ∃ ca cn cc, cv0 = .slice ca cn cc := by
        rcases hC2.2 with ⟨h9, _⟩ | ⟨g', cap', cur, h9, _⟩
        · exact ⟨_, _, _, h9⟩
        · exact ⟨_, _, _, h9⟩
      obtain ⟨T, hT⟩ : ∃ T, T = itOf s (x.p, t) := ⟨_, rfl⟩
      have hCb : T.coms.length ≤ 1048576 := by rw [hT]; exact coms_bound ho hs
      have hC2 : ComAt w2 wr.heap.size (.slice ca cn cc) T.coms := by rw [hT]; exact hC2
      have hS2 : St w2 (w.heap.size + 1) w.heap.size kNone s (nextX s x t (.slice ca cn cc)) := hS2
      have hTk : T.kind = t.tk.kind := by rw [hT]; rfl
      have hsub : w2.heap[w.heap.size + 1]? = some (.cells #[.pointer (some ⟨w.heap.size, 0, none⟩), .string T.kind, .slice ca cn cc, .string T.space, .string T.raw, .string T.text, .int .i64 T.base, .int .i64 T.pos, .int .i64 T.en, .int .i64 ((x.p + t.len : Nat) : Int), .string x.kind, .bool (dotOf x.dot t.tk)] 63 (0, 0)) := by rw [hT]; exact hS2.lex
      have c1 : w2.cell? ⟨w.heap.size + 1, 1, none⟩ = some (.string T.kind) := block_cell hsub 1
      have c2 : w2.cell? ⟨w.heap.size + 1, 2, none⟩ = some (.slice ca cn cc) := block_cell hsub 2
      have c3 : w2.cell? ⟨w.heap.size + 1, 3, none⟩ = some (.string T.space) := block_cell hsub 3
      have c4 : w2.cell? ⟨w.heap.size + 1, 4, none⟩ = some (.string T.raw) := block_cell hsub 4
      have c5 : w2.cell? ⟨w.heap.size + 1, 5, none⟩ = some (.string T.text) := block_cell hsub 5
      have c6 : w2.cell? ⟨w.heap.size + 1, 6, none⟩ = some (.int .i64 T.base) := block_cell hsub 6
      have c7 : w2.cell? ⟨w.heap.size + 1, 7, none⟩ = some (.int .i64 T.pos) := block_cell hsub 7
      have c8 : w2.cell? ⟨w.heap.size + 1, 8, none⟩ = some (.int .i64 T.en) := block_cell hsub 8
      have HO := Lib.hid ho
      have HS2 := Lib.hid hS2
      have HF2 := Lib.hid hF2
      have HC2 := Lib.hid hC2
      have HT := Lib.hid hT
      have HTk := Lib.hid hTk
      clear ho hS2 hF2 hC2 hT hTk hsub
      go_wp2_with fail
      refine (tokenOf_any T _ _ _ HC2.out hCb).mono ?_
      rintro e w3 ⟨cv, rfl, hcI, hb3⟩
      obtain ⟨da, dn, dc, rfl⟩ : ∃ da dn dc, cv = .slice da dn dc := by
        rcases hcI.2 with ⟨h9, _⟩ | ⟨g', cap', cur, h9, _⟩
        · exact ⟨_, _, _, h9⟩
        · exact ⟨_, _, _, h9⟩
      rw [show T.agg (.slice da dn dc) = .agg #[.string T.kind, .string T.space, .string T.raw, .string T.text, .int .i64 T.base, .int .i64 T.pos, .int .i64 T.en, .slice da dn dc] from rfl]
      obtain ⟨ps, hps, hown, hcs⟩ := HI.out.mem.own
      have hn : ps.length ≤ 1048576 := by
        have h1 := congrArg List.length hps
        rw [List.length_map, List.length_map] at h1
        have h2 := HI.out.num
        have h3 := HI.out.mem.st.pz
        omega
      have hF3 : Frm wr w3 [w.heap.size + 1] := HF2.out.step ((Frm.ofBelow hb3 []).mono (by simp))
      have hown3 : (w3.alloc (.cells #[.string T.kind, .string T.space, .string T.raw, .string T.text, .int .i64 T.base, .int .i64 T.pos, .int .i64 T.en, .slice da dn dc] 30)).ownsRow (w.heap.size + 1 + 1) 30 8 u2 ps.length (pcells ps) := (ownsRow_frm hown hF3 (by intro x hx; simp at hx; omega)).alloc _
      have hk63 : ps.length + 1 ≤ maxLen := by unfold maxLen; omega
      have hk112 : (ps.length + 1) * 112 ≤ 140737488355328 := by omega
      have hbase : w.heap.size + 1 + 1 ≤ w3.heap.size + 1 := by have := hF3.size; have := HI.out.mem.st; have := block_lt this.lex; omega
      have HPS := Lib.hid hps
      have HOW := Lib.hid hown
      have HCS := Lib.hid hcs
      have HCI := Lib.hid hcI
      have HB3 := Lib.hid hb3
      have HF3 := Lib.hid hF3
      clear hps hown hcs hcI hb3 hF3 c1 c2 c3 c4 c5 c6 c7 c8
      go_wp2_with (at_builtin; refine wpList_append_own _ rfl (.tmp 16) (.tmp 22) 24 rfl (w.heap.size + 1 + 1) 30 i0 _ 8 112 Tryz.underlying24 hi0 hz0 hz1 hz2 rfl (by decide) u2 ps.length (pcells ps) rfl hown3 ⟨w3.heap.size, 0, none⟩ 1 1 (T.cells (.slice da dn dc)) rfl rfl ?c1 ?c2 ?c3 ?c4 ?c5 ?_)
      case c1 => exact World.news_of_block (cs := #[.string T.kind, .string T.space, .string T.raw, .string T.text, .int .i64 T.base, .int .i64 T.pos, .int .i64 T.en, .slice da dn dc]) (t := 30) (fr := (0, 0)) (heap_alloc_new w3 _)
      case c2 => simp [IT.cells, Value.oneCell']
      case c3 => exact hk63
      case c4 => exact hk112
      case c5 => simp; omega
      intro v' w5 hown1 hgrow _
      obtain ⟨g', cap', rfl⟩ : ∃ g' cap', v' = .slice (some ⟨g', 0, none⟩) (ps.length + 1) cap' := by
        rcases hown1.2 with ⟨_, h0⟩ | ⟨g', cap', cur, h1, _⟩
        · omega
        · exact ⟨g', cap', h1⟩
      have hM : LM s w u2 (ps.map (·.1)) x wr := by rw [HPS.out]; exact HI.out.mem
      have hM5 := LM.on hM HOW.out HCS.out HS2.out HF2.out HCI.out HB3.out hgrow hown1
      rw [HPS.out, HT.out] at hM5
      have HM5 := Lib.hid hM5
      have c1 : w5.cell? ⟨w.heap.size + 1, 1, none⟩ = some (.string T.kind) := by rw [HTk.out]; exact block_cell hM5.st.lex 1
      clear hown1 hgrow hM hM5 hown3
      rcases (next_ok HO.out).2.2.2.2.2.2 with ⟨hk, _⟩ | ⟨hk, _⟩
      · have he : (T.kind.toList == [60, 101, 111, 102, 62]) = true := by
          rw [beq_iff_eq, HTk.out, hk, ByteArray.toList_eq]; rfl
        have HLast := Lib.hid (LI.last HI.out HO.out hk HM5.out)
        clear hk
        go_wp2_with fail
        go_ret3
        exact HLast.out
      · have he : (T.kind.toList == [60, 101, 111, 102, 62]) = false := by
          rw [beq_eq_false_iff_ne, HTk.out, ByteArray.toList_eq]
          exact kind_ne_list hk.2
        have HMore := Lib.hid (LI.more HI.out HO.out hk HM5.out)
        have hpos : 0 < t.len := by have := hk.1; unfold Nt.len; omega
        have hpz : x.p + t.len ≤ s.size := HM5.out.st.pz
        clear hk
        go_wp2_with fail
        go_roundg (s.size - (x.p + t.len))
        case measure => omega
        case rel => exact ⟨_, _, rfl, HMore⟩

end Go.Proofs.YtngofbhlhcalpaaGreatDoor.lexer
