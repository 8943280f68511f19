/-
  Contracts of memefish.ZzNext, ZzDot, impl.LexFrom by the plain lexer. No statement of the seat is proved here.
-/
import Derived.Test.YtngofbhlhcalpaaGreatDoorZ36
namespace Go.Proofs.YtngofbhlhcalpaaGreatDoor.lexer
open Go.RowKit Go.Proofs.YtngofbhlhcalpaaGreatDoor.gen

def fromX (last : ByteArray) (p : Nat) (dot : Bool) : LX := { newX with kind := last, p := p, dot := dot }

theorem LM.frm {s : ByteArray} {w wr w2 : World} {v : Value} {ts : List IT} {x y : LX} (h : LM s w v ts x wr) (hS : St w2 (w.heap.size + 1) w.heap.size kNone s y) (hF : Frm wr w2 [w.heap.size + 1]) (_h0 : 0 < w.heap.size) : LM s w v ts y w2 :=
  ⟨hS, h.env.frm hF (by simp), h.ety.frm hF (by simp), ((Frm.ofBelow h.bel []).trans hF (fun x hx => by right; simp at hx; omega)).below, h.own.frm hF (by intro x hx; simp at hx; omega)⟩

theorem bel2f {w w1 w2 : World} (h : Below w.heap.size w w1) (k : Below w1.heap.size w1 w2) : Below w.heap.size w w2 := h.trans (k.mono h.size)

/-- What ZzNext gives. -/
def ZzRes (s last : ByteArray) (p : Nat) (dot : Bool) (w : World) (e : Ending) (w' : World) : Prop :=
  (∃ t ca cn cc, next last dot (suf s p) = .ok t ∧ e = .returned (.tuple #[.pointer (some ⟨w.heap.size + 1, 0, none⟩), .nilIface]) ∧ LM s w (.slice none 0 0) [] (nextX s (fromX last p dot) t (.slice ca cn cc)) w' ∧ ComAt w' (w.heap.size + 1 + 1) (.slice ca cn cc) (comsAt s p t.coms)) ∨
  (∃ off eb, next last dot (suf s p) = .bad off ∧ e = .returned (.tuple #[.pointer (some ⟨w.heap.size + 1, 0, none⟩), .iface 72 (.pointer (some ⟨eb, 0, none⟩))]) ∧ ErrAt eb (p + off) w' ∧ EType w' ∧ Below w.heap.size w w')

set_option maxRecDepth 100000 in
set_option maxHeartbeats 1000000 in
theorem zzNext_any (s last : ByteArray) (p : Nat) (dot : Bool) (w : World) (hs : s.size ≤ 1048576) (hp : p ≤ s.size) (hc : Ctx w) (hok : NB s ∨ ∃ t, next last dot (suf s p) = .ok t) :
    Calls Tryz.prog 32 #[.string s, .int .i64 (p : Int), .string last, .bool dot] w (ZzRes s last p dot w) := by
  have HC := Lib.hid hc
  have HK := Lib.hid hok
  have h0 : 0 < w.heap.size := World.block_lt_of_cell? _ _ hc.ety
  have hb : Below w.heap.size w ((w.alloc (.cells #[.string kNone, .string s, .slice none 0 0] 71)).alloc (.cells ((fromX last p dot).cells w.heap.size) 63)) := ((Below.refl _ _).alloc (Nat.le_refl _) _).alloc (by show _ ≤ (w.heap.push _).size; rw [Array.size_push]; omega) _
  have e1 : ∀ o, (w.alloc o).heap.size = w.heap.size + 1 := fun o => by show (w.heap.push _).size = _; rw [Array.size_push]
  have hM : LM s w (.slice none 0 0) [] (fromX last p dot) ((w.alloc (.cells #[.string kNone, .string s, .slice none 0 0] 71)).alloc (.cells ((fromX last p dot).cells w.heap.size) 63)) := by
    refine ⟨⟨?_, ?_, by omega, by omega, hp⟩, ⟨w, HC.out.tabs, hb, by omega, by omega⟩, HC.out.ety.below hb, hb, ToksAt.nil _ _⟩
    · have := heap_alloc_new (w.alloc (.cells #[.string kNone, .string s, .slice none 0 0] 71)) (.cells ((fromX last p dot).cells w.heap.size) 63)
      rw [e1] at this
      exact this
    · exact (Below.heap_alloc _ _ _ (by rw [e1]; omega)).trans (heap_alloc_new w _)
  have HM := Lib.hid hM
  have hz2 : w.heap.size + 1 + 1 ≤ ((w.alloc (.cells #[.string kNone, .string s, .slice none 0 0] 71)).alloc (.cells ((fromX last p dot).cells w.heap.size) 63)).heap.size := by
    show _ ≤ ((w.alloc _).heap.push _).size
    rw [Array.size_push, e1]; exact Nat.le_refl _
  have HZ := Lib.hid hz2
  clear hc hok hM hb e1 hz2
  go_enter Tryz.func32, Tryz.ntmps32
  go_wp2_with fail
  refine (nextToken_any _ _ _ s (fromX last p dot) _ hs HM.out.env HM.out.st HK.out).mono ?_
  intro e w2 hres
  rcases hres with ⟨t, cv0, ho, rfl, hS2, hF2, hC2⟩ | ⟨off, eb, ho, rfl, hE2, hF2⟩
  · obtain ⟨ca, cn, cc, rfl⟩ : ∃ ca cn cc, cv0 = .slice ca cn cc := by
      rcases hC2.2 with ⟨h9, _⟩ | ⟨g', cap', cur, h9, _⟩
      · exact ⟨_, _, _, h9⟩
      · exact ⟨_, _, _, h9⟩
    have HR := Lib.hid (show ZzRes s last p dot w (.returned (.tuple #[.pointer (some ⟨w.heap.size + 1, 0, none⟩), .nilIface])) w2 from .inl ⟨t, ca, cn, cc, ho, rfl, HM.out.frm hS2 hF2 h0, hC2.le HZ.out⟩)
    clear ho hS2 hF2 hC2
    go_wp2_with fail
    go_ret2
    exact HR.out
  · have HR := Lib.hid (show ZzRes s last p dot w (.returned (.tuple #[.pointer (some ⟨w.heap.size + 1, 0, none⟩), .iface 72 (.pointer (some ⟨eb, 0, none⟩))])) w2 from
      .inr ⟨off, eb, ho, rfl, hE2, HM.out.ety.frm hF2 (by simp; omega), ((Frm.ofBelow HM.out.bel []).trans hF2 (fun x hx => by right; simp at hx; omega)).below⟩)
    clear ho hE2 hF2
    go_wp2_with fail
    go_ret2
    exact HR.out

theorem zzDot_any (lb fb : Nat) (fp s : ByteArray) (x : LX) (w : World) (hS : St w lb fb fp s x) : Calls Tryz.prog 33 #[.pointer (some ⟨lb, 0, none⟩)] w fun e w' => e = .returned (.bool x.dot) ∧ w = w' := by
  have c11 : w.cell? ⟨lb, 11, none⟩ = some (.bool x.dot) := block_cell hS.lex 11
  clear hS
  go_enter Tryz.func33, Tryz.ntmps33
  go_wp2_with fail
  go_ret
  exact ⟨rfl, rfl⟩

theorem put8 {W : World} {b : Nat} (t : IT) (v : Value) (hb : W.heap[b]? = some (.cells #[.string kNone, .string kNone, .string kNone, .string kNone, .int .i64 0, .int .i64 0, .int .i64 0, .slice none 0 0] 30 (0, 0))) :
    ((((((((W.setCell ⟨b, 0, none⟩ (.string t.kind)).setCell ⟨b, 1, none⟩ (.string t.space)).setCell ⟨b, 2, none⟩ (.string t.raw)).setCell ⟨b, 3, none⟩ (.string t.text)).setCell ⟨b, 4, none⟩ (.int .i64 t.base)).setCell ⟨b, 5, none⟩ (.int .i64 t.pos)).setCell ⟨b, 6, none⟩ (.int .i64 t.en)).setCell ⟨b, 7, none⟩ (v)).heap[b]? = some (.cells #[.string t.kind, .string t.space, .string t.raw, .string t.text, .int .i64 t.base, .int .i64 t.pos, .int .i64 t.en, v] 30 (0, 0)) ∧ Frm W ((((((((W.setCell ⟨b, 0, none⟩ (.string t.kind)).setCell ⟨b, 1, none⟩ (.string t.space)).setCell ⟨b, 2, none⟩ (.string t.raw)).setCell ⟨b, 3, none⟩ (.string t.text)).setCell ⟨b, 4, none⟩ (.int .i64 t.base)).setCell ⟨b, 5, none⟩ (.int .i64 t.pos)).setCell ⟨b, 6, none⟩ (.int .i64 t.en)).setCell ⟨b, 7, none⟩ (v)) [b] := by
  refine ⟨?_, ?_⟩
  · have c := (block_set (block_set (block_set (block_set (block_set (block_set (block_set (block_set hb (i := 0) (.string t.kind)) (i := 1) (.string t.space)) (i := 2) (.string t.raw)) (i := 3) (.string t.text)) (i := 4) (.int .i64 t.base)) (i := 5) (.int .i64 t.pos)) (i := 6) (.int .i64 t.en)) (i := 7) v)
    simp only [List.setIfInBounds_toArray, List.set_cons_zero, List.set_cons_succ] at c
    exact c
  · repeat (refine Frm.setCell ?_ _ _ (.inl (by simp)))
    exact Frm.refl W [b]

def zIT : IT := ⟨kNone, kNone, kNone, kNone, 0, 0, 0, []⟩

/-- What LexFrom gives. -/
def FromRes (s last : ByteArray) (p : Nat) (dot : Bool) (w : World) (e : Ending) (w' : World) : Prop :=
  (∃ t ca cn cc, next last dot (suf s p) = .ok t ∧ e = .returned (.tuple #[(itOf s (p, t)).agg (.slice ca cn cc), .bool (dotOf dot t.tk), .int .i64 0, .bool true]) ∧ ComI w' w.heap.size (.slice ca cn cc) (itOf s (p, t)).coms ∧ Below w.heap.size w w') ∨
  (∃ off, next last dot (suf s p) = .bad off ∧ e = .returned (.tuple #[.agg zeroIT.toArray, .bool false, .int .i64 ((p + off : Nat) : Int), .bool false]) ∧ Below w.heap.size w w')

set_option maxRecDepth 100000 in
set_option maxHeartbeats 400000 in
theorem lexFrom_any (s last : ByteArray) (p : Nat) (dot : Bool) (w : World) (hs : s.size ≤ 1048576) (hp : p ≤ s.size) (hc : Ctx w) (hok : NB s ∨ ∃ t, next last dot (suf s p) = .ok t) :
    Calls Tryz.prog 18 #[.string s, .int .i64 (p : Int), .string last, .bool dot] w (FromRes s last p dot w) := by
  have HC := Lib.hid hc
  have HK := Lib.hid hok
  have hbA : ∀ o, Below w.heap.size w (w.alloc o) := fun o => (Below.refl _ _).alloc (Nat.le_refl _) o
  have HBA := Lib.hid hbA
  clear hc hok hbA
  go_enter Tryz.func18, Tryz.ntmps18
  go_wp2_with fail
  obtain ⟨W1, hW1⟩ : ∃ W1, w.alloc (.cells #[.string kNone, .string kNone, .string kNone, .string kNone, .int .i64 0, .int .i64 0, .int .i64 0, .slice none 0 0] 30) = W1 := ⟨_, rfl⟩
  have hsz : W1.heap.size = w.heap.size + 1 := by rw [← hW1]; show (w.heap.push _).size = _; rw [Array.size_push]
  have hbw : Below w.heap.size w W1 := by rw [← hW1]; exact HBA.out _
  have hb0 : W1.heap[w.heap.size]? = some (.cells #[.string kNone, .string kNone, .string kNone, .string kNone, .int .i64 0, .int .i64 0, .int .i64 0, .slice none 0 0] 30 (0, 0)) := by rw [← hW1]; exact heap_alloc_new w _
  have hC1 : Ctx W1 := HC.out.below hbw
  have HBW := Lib.hid hbw
  have HB0 := Lib.hid hb0
  have HC1 := Lib.hid hC1
  have hz0 : 0 < W1.heap.size := by omega
  have HSZ := Lib.hid hsz
  have HZ0 := Lib.hid hz0
  clear hbw hb0 hC1 hsz hz0
  rw [show w.alloc (.cells #[.string ⟨#[]⟩, .string ⟨#[]⟩, .string ⟨#[]⟩, .string ⟨#[]⟩, .int .i64 0, .int .i64 0, .int .i64 0, .slice none 0 0] 30) = W1 from hW1]
  clear hW1
  refine (zzNext_any s last p dot _ hs hp HC1.out HK.out).mono ?_
  intro e w2 hres
  rcases hres with ⟨t, ca, cn, cc, ho, rfl, hM, hC2⟩ | ⟨off, eb, ho, rfl, hE2, hET, hb2⟩
  · obtain ⟨x, hx⟩ : ∃ x, fromX last p dot = x := ⟨_, rfl⟩
    have hxp : x.p = p := by rw [← hx]; rfl
    have hxd : x.dot = dot := by rw [← hx]; rfl
    have hxk : x.kind = last := by rw [← hx]; rfl
    rw [hx] at hM
    rw [← hxp] at ho hC2
    rw [← hxd, ← hxk] at ho
    obtain ⟨T, hT⟩ : ∃ T, T = itOf s (x.p, t) := ⟨_, rfl⟩
    have hCb : T.coms.length ≤ 1048576 := by rw [hT]; exact coms_bound ho hs
    have hC2 : ComAt w2 (W1.heap.size + 1 + 1) (.slice ca cn cc) T.coms := by rw [hT]; exact hC2
    have hsub : w2.heap[W1.heap.size + 1]? = some (.cells #[.pointer (some ⟨W1.heap.size, 0, none⟩), .string T.kind, .slice ca cn cc, .string T.space, .string T.raw, .string T.text, .int .i64 T.base, .int .i64 T.pos, .int .i64 T.en, .int .i64 ((x.p + t.len : Nat) : Int), .string x.kind, .bool (dotOf x.dot t.tk)] 63 (0, 0)) := by rw [hT]; exact hM.st.lex
    have c1 : w2.cell? ⟨W1.heap.size + 1, 1, none⟩ = some (.string T.kind) := block_cell hsub 1
    have c2 : w2.cell? ⟨W1.heap.size + 1, 2, none⟩ = some (.slice ca cn cc) := block_cell hsub 2
    have c3 : w2.cell? ⟨W1.heap.size + 1, 3, none⟩ = some (.string T.space) := block_cell hsub 3
    have c4 : w2.cell? ⟨W1.heap.size + 1, 4, none⟩ = some (.string T.raw) := block_cell hsub 4
    have c5 : w2.cell? ⟨W1.heap.size + 1, 5, none⟩ = some (.string T.text) := block_cell hsub 5
    have c6 : w2.cell? ⟨W1.heap.size + 1, 6, none⟩ = some (.int .i64 T.base) := block_cell hsub 6
    have c7 : w2.cell? ⟨W1.heap.size + 1, 7, none⟩ = some (.int .i64 T.pos) := block_cell hsub 7
    have c8 : w2.cell? ⟨W1.heap.size + 1, 8, none⟩ = some (.int .i64 T.en) := block_cell hsub 8
    have HM := Lib.hid hM
    have HC2 := Lib.hid hC2
    have HO := Lib.hid ho
    have HTq := Lib.hid hT
    have HXP := Lib.hid hxp
    have HXD := Lib.hid hxd
    have HXK := Lib.hid hxk
    clear hM hC2 ho hsub hT hxp hxd hxk hx
    go_wp2_with fail
    refine (tokenOf_any T _ _ _ HC2.out hCb).mono ?_
    rintro e w3 ⟨cv, rfl, hcI, hb3⟩
    obtain ⟨da, dn, dc, rfl⟩ : ∃ da dn dc, cv = .slice da dn dc := by
      rcases hcI.2 with ⟨h9, _⟩ | ⟨g', cap', cur, h9, _⟩
      · exact ⟨_, _, _, h9⟩
      · exact ⟨_, _, _, h9⟩
    have HB3 := Lib.hid hb3
    have HCI := Lib.hid hcI
    have hM3 : LM s W1 (.slice none 0 0) [] (nextX s x t (.slice ca cn cc)) w3 := HM.out.frm (HM.out.st.frm (Frm.ofBelow hb3 [])) ((Frm.ofBelow hb3 []).mono (by simp)) HZ0.out
    have HM3 := Lib.hid hM3
    clear hM3 hcI hb3
    rw [show T.agg (.slice da dn dc) = .agg #[.string T.kind, .string T.space, .string T.raw, .string T.text, .int .i64 T.base, .int .i64 T.pos, .int .i64 T.en, .slice da dn dc] from rfl]
    go_wp2_with fail
    refine (zzDot_any _ _ _ _ _ _ HM3.out.st).mono ?_
    rintro e w' ⟨rfl, rfl⟩
    have hbk : w3.heap[w.heap.size]? = some (.cells #[.string kNone, .string kNone, .string kNone, .string kNone, .int .i64 0, .int .i64 0, .int .i64 0, .slice none 0 0] 30 (0, 0)) := (HM3.out.bel.block _ (by have := HSZ.out; omega)).trans HB0.out
    have r0 : w3.cell? ⟨w.heap.size, 0, none⟩ = some (.string kNone) := block_cell hbk 0
    have r1 : w3.cell? ⟨w.heap.size, 1, none⟩ = some (.string kNone) := block_cell hbk 1
    have r2 : w3.cell? ⟨w.heap.size, 2, none⟩ = some (.string kNone) := block_cell hbk 2
    have r3 : w3.cell? ⟨w.heap.size, 3, none⟩ = some (.string kNone) := block_cell hbk 3
    have r4 : w3.cell? ⟨w.heap.size, 4, none⟩ = some (.int .i64 0) := block_cell hbk 4
    have r5 : w3.cell? ⟨w.heap.size, 5, none⟩ = some (.int .i64 0) := block_cell hbk 5
    have r6 : w3.cell? ⟨w.heap.size, 6, none⟩ = some (.int .i64 0) := block_cell hbk 6
    have r7 : w3.cell? ⟨w.heap.size, 7, none⟩ = some (.slice none 0 0) := block_cell hbk 7
    have f9 : ∀ j, w3.frozen? ⟨w.heap.size, j, none⟩ = false := fun j => block_free hbk j
    have HBK := Lib.hid hbk
    clear hbk c1 c2 c3 c4 c5 c6 c7 c8
    go_wp2_with fail
    obtain ⟨D1, D2⟩ := put8 T (.slice da dn dc) HBK.out
    generalize ((((((((w3.setCell ⟨w.heap.size, 0, none⟩ (.string T.kind)).setCell ⟨w.heap.size, 1, none⟩ (.string T.space)).setCell ⟨w.heap.size, 2, none⟩ (.string T.raw)).setCell ⟨w.heap.size, 3, none⟩ (.string T.text)).setCell ⟨w.heap.size, 4, none⟩ (.int .i64 T.base)).setCell ⟨w.heap.size, 5, none⟩ (.int .i64 T.pos)).setCell ⟨w.heap.size, 6, none⟩ (.int .i64 T.en)).setCell ⟨w.heap.size, 7, none⟩ (.slice da dn dc)) = W9 at *
    have y0 : W9.cell? ⟨w.heap.size, 0, none⟩ = some (.string T.kind) := block_cell D1 0
    have y1 : W9.cell? ⟨w.heap.size, 1, none⟩ = some (.string T.space) := block_cell D1 1
    have y2 : W9.cell? ⟨w.heap.size, 2, none⟩ = some (.string T.raw) := block_cell D1 2
    have y3 : W9.cell? ⟨w.heap.size, 3, none⟩ = some (.string T.text) := block_cell D1 3
    have y4 : W9.cell? ⟨w.heap.size, 4, none⟩ = some (.int .i64 T.base) := block_cell D1 4
    have y5 : W9.cell? ⟨w.heap.size, 5, none⟩ = some (.int .i64 T.pos) := block_cell D1 5
    have y6 : W9.cell? ⟨w.heap.size, 6, none⟩ = some (.int .i64 T.en) := block_cell D1 6
    have y7 : W9.cell? ⟨w.heap.size, 7, none⟩ = some (.slice da dn dc) := block_cell D1 7
    have HD2 := Lib.hid D2
    clear D1 D2
    have hbel9 : Below w.heap.size w W9 := by
      have h1 : Below w.heap.size w w3 := HBW.out.trans (HM3.out.bel.mono (by have := HSZ.out; omega))
      exact ((Frm.ofBelow h1 []).trans HD2.out (fun x hx => by right; simp at hx; omega)).below
    have hcom : ComI W9 w.heap.size (.slice da dn dc) T.coms := (HCI.out.frm HD2.out (by intro x hx; simp at hx; have h1 := HM.out.bel.size; have h2 := HSZ.out; omega)).le (by have h1 := HM.out.bel.size; have h2 := HSZ.out; omega)
    have HF9 := Lib.hid (show FromRes s last p dot w (.returned (.tuple #[T.agg (.slice da dn dc), .bool (dotOf dot t.tk), .int .i64 0, .bool true])) W9 from .inl ⟨t, da, dn, dc, by rw [← HXK.out, ← HXD.out, ← HXP.out]; exact HO.out, by rw [HTq.out, HXP.out], by rw [← HXP.out, ← HTq.out]; exact hcom, hbel9⟩)
    clear hbel9 hcom
    have hdd : (nextX s x t (.slice ca cn cc)).dot = dotOf dot t.tk := by rw [← HXD.out]; rfl
    exact bodyPost_ret (v := .tuple #[.agg #[.string T.kind, .string T.space, .string T.raw, .string T.text, .int .i64 T.base, .int .i64 T.pos, .int .i64 T.en, .slice da dn dc], .bool (dotOf dot t.tk), .int .i64 0, .bool true]) (by simp [results, Tryz.results18, go_sem, y0, y1, y2, y3, y4, y5, y6, y7, hdd]) rfl HF9.out
  · skip
    have HO := Lib.hid ho
    have HE2 := Lib.hid hE2
    have HET := Lib.hid hET
    have HB2 := Lib.hid hb2
    clear ho hE2 hET hb2
    go_wp2_with fail
    refine (place_any eb (p + off) _ HET.out HE2.out).mono ?_
    rintro e w3 ⟨rfl, hb3⟩
    have HB3 := Lib.hid (bel2f HB2.out hb3)
    clear hb3
    have hbk : w3.heap[w.heap.size]? = some (.cells #[.string kNone, .string kNone, .string kNone, .string kNone, .int .i64 0, .int .i64 0, .int .i64 0, .slice none 0 0] 30 (0, 0)) := (HB3.out.block _ (by have := HSZ.out; omega)).trans HB0.out
    have r0 : w3.cell? ⟨w.heap.size, 0, none⟩ = some (.string kNone) := block_cell hbk 0
    have r1 : w3.cell? ⟨w.heap.size, 1, none⟩ = some (.string kNone) := block_cell hbk 1
    have r2 : w3.cell? ⟨w.heap.size, 2, none⟩ = some (.string kNone) := block_cell hbk 2
    have r3 : w3.cell? ⟨w.heap.size, 3, none⟩ = some (.string kNone) := block_cell hbk 3
    have r4 : w3.cell? ⟨w.heap.size, 4, none⟩ = some (.int .i64 0) := block_cell hbk 4
    have r5 : w3.cell? ⟨w.heap.size, 5, none⟩ = some (.int .i64 0) := block_cell hbk 5
    have r6 : w3.cell? ⟨w.heap.size, 6, none⟩ = some (.int .i64 0) := block_cell hbk 6
    have r7 : w3.cell? ⟨w.heap.size, 7, none⟩ = some (.slice none 0 0) := block_cell hbk 7
    have f9 : ∀ j, w3.frozen? ⟨w.heap.size, j, none⟩ = false := fun j => block_free hbk j
    have HBK := Lib.hid hbk
    clear hbk
    go_wp2_with fail
    obtain ⟨D1, D2⟩ : ((((((((w3.setCell ⟨w.heap.size, 0, none⟩ (.string ⟨#[]⟩)).setCell ⟨w.heap.size, 1, none⟩ (.string ⟨#[]⟩)).setCell ⟨w.heap.size, 2, none⟩ (.string ⟨#[]⟩)).setCell ⟨w.heap.size, 3, none⟩ (.string ⟨#[]⟩)).setCell ⟨w.heap.size, 4, none⟩ (.int .i64 0)).setCell ⟨w.heap.size, 5, none⟩ (.int .i64 0)).setCell ⟨w.heap.size, 6, none⟩ (.int .i64 0)).setCell ⟨w.heap.size, 7, none⟩ (.slice none 0 0)).heap[w.heap.size]? = some (.cells #[.string kNone, .string kNone, .string kNone, .string kNone, .int .i64 0, .int .i64 0, .int .i64 0, .slice none 0 0] 30 (0, 0)) ∧ Frm w3 ((((((((w3.setCell ⟨w.heap.size, 0, none⟩ (.string ⟨#[]⟩)).setCell ⟨w.heap.size, 1, none⟩ (.string ⟨#[]⟩)).setCell ⟨w.heap.size, 2, none⟩ (.string ⟨#[]⟩)).setCell ⟨w.heap.size, 3, none⟩ (.string ⟨#[]⟩)).setCell ⟨w.heap.size, 4, none⟩ (.int .i64 0)).setCell ⟨w.heap.size, 5, none⟩ (.int .i64 0)).setCell ⟨w.heap.size, 6, none⟩ (.int .i64 0)).setCell ⟨w.heap.size, 7, none⟩ (.slice none 0 0)) [w.heap.size] := put8 zIT (.slice none 0 0) HBK.out
    generalize ((((((((w3.setCell ⟨w.heap.size, 0, none⟩ (.string ⟨#[]⟩)).setCell ⟨w.heap.size, 1, none⟩ (.string ⟨#[]⟩)).setCell ⟨w.heap.size, 2, none⟩ (.string ⟨#[]⟩)).setCell ⟨w.heap.size, 3, none⟩ (.string ⟨#[]⟩)).setCell ⟨w.heap.size, 4, none⟩ (.int .i64 0)).setCell ⟨w.heap.size, 5, none⟩ (.int .i64 0)).setCell ⟨w.heap.size, 6, none⟩ (.int .i64 0)).setCell ⟨w.heap.size, 7, none⟩ (.slice none 0 0)) = W9 at *
    have y0 : W9.cell? ⟨w.heap.size, 0, none⟩ = some (.string kNone) := block_cell D1 0
    have y1 : W9.cell? ⟨w.heap.size, 1, none⟩ = some (.string kNone) := block_cell D1 1
    have y2 : W9.cell? ⟨w.heap.size, 2, none⟩ = some (.string kNone) := block_cell D1 2
    have y3 : W9.cell? ⟨w.heap.size, 3, none⟩ = some (.string kNone) := block_cell D1 3
    have y4 : W9.cell? ⟨w.heap.size, 4, none⟩ = some (.int .i64 0) := block_cell D1 4
    have y5 : W9.cell? ⟨w.heap.size, 5, none⟩ = some (.int .i64 0) := block_cell D1 5
    have y6 : W9.cell? ⟨w.heap.size, 6, none⟩ = some (.int .i64 0) := block_cell D1 6
    have y7 : W9.cell? ⟨w.heap.size, 7, none⟩ = some (.slice none 0 0) := block_cell D1 7
    have HD2 := Lib.hid D2
    clear D1 D2
    have hbel9 : Below w.heap.size w W9 := by
      have h1 : Below w.heap.size w w3 := HBW.out.trans (HB3.out.mono (by have := HSZ.out; omega))
      exact ((Frm.ofBelow h1 []).trans HD2.out (fun x hx => by right; simp at hx; omega)).below
    have HF9 := Lib.hid (show FromRes s last p dot w (.returned (.tuple #[.agg zeroIT.toArray, .bool false, .int .i64 ((p + off : Nat) : Int), .bool false])) W9 from .inr ⟨off, HO.out, rfl, hbel9⟩)
    clear hbel9
    exact bodyPost_ret (v := .tuple #[.agg zeroIT.toArray, .bool false, .int .i64 ((p + off : Nat) : Int), .bool false]) (by simp [results, Tryz.results18, go_sem, y0, y1, y2, y3, y4, y5, y6, y7, zeroIT]; rfl) rfl HF9.out

end Go.Proofs.YtngofbhlhcalpaaGreatDoor.lexer
