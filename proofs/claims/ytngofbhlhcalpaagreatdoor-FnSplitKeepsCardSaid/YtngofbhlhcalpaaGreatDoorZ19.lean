/-
  Lemmas and contracts of this claim, texts QuoK, Com, TokB2, TokL, LetA. No statement of the seat is proved here.
-/
import Derived.Test.YtngofbhlhcalpaaGreatDoorZ15
import Derived.Test.YtngofbhlhcalpaaGreatDoorZ17
import Derived.Test.YtngofbhlhcalpaaGreatDoorZ03
import Derived.BigRegion
import Derived.Test.YtngofbhlhcalpaaGreatDoorZ18
namespace Go.Proofs.YtngofbhlhcalpaaGreatDoor.lexer
open Go.RowKit Go.Proofs.YtngofbhlhcalpaaGreatDoor.gen

theorem FaultL.then_ {lb fb p : Nat} {w w1 w' : World} {e : Ending} (hF : Frm w w1 [lb]) (h : FaultL lb fb p w1 e w') : FaultL lb fb p w e w' := by
  obtain ⟨eb, h1, h2, h3, h4⟩ := h
  exact ⟨eb, h1, h2, Nat.le_trans hF.size h3, (hF.mono (by simp)).step h4⟩

def qfin (Q : List UInt8) (ident : Bool) (k : ByteArray) (z : List UInt8 × Nat × QEnd) : Out :=
  match z.2.2 with
  | .closed => if ident && z.1.isEmpty then .bad 0 else .ok ⟨k, ⟨z.1.toArray⟩, 0, Q.length + z.2.1 + Q.length, none⟩
  | .unclosed => .bad 0
  | .newline => .bad 0
  | .escape => .bad (Q.length + z.2.1)

theorem qtok_fin (Q : List UInt8) (raw uni ident : Bool) (k : ByteArray) (l : List UInt8) : qtok Q raw uni ident k l = qfin Q ident k (qr Q raw uni (l.drop Q.length)) := by
  unfold qtok
  generalize qr Q raw uni (l.drop Q.length) = z
  obtain ⟨a, b, d⟩ := z
  cases d <;> rfl

theorem qfin_closed (Q : List UInt8) (ident : Bool) (k : ByteArray) (a : List UInt8) (b : Nat) : qfin Q ident k (a, b, .closed) = if ident && a.isEmpty then .bad 0 else .ok ⟨k, ⟨a.toArray⟩, 0, Q.length + b + Q.length, none⟩ := rfl

theorem qtok_kind {Q : List UInt8} {raw uni ident : Bool} {k k2 : ByteArray} {l : List UInt8} {t : Tk} (h : qtok Q raw uni ident k l = .ok t) : ∃ t2, qtok Q raw uni ident k2 l = .ok t2 := by
  rw [qtok_fin] at h ⊢
  generalize qr Q raw uni (l.drop Q.length) = z at h ⊢
  obtain ⟨a, b, d⟩ := z
  cases d
  · rw [qfin_closed] at h ⊢
    cases hc : ident && a.isEmpty with
    | true => rw [hc] at h; cases h
    | false => exact ⟨_, rfl⟩
  · cases h
  · cases h
  · cases h

theorem qtok_isBad {s : ByteArray} {p : Nat} {Q : List UInt8} {raw uni ident : Bool} (h : QBad ident (qr Q raw uni (suf s (p + Q.length)))) (kind : ByteArray) : ∃ off, qtok Q raw uni ident kind (suf s p) = .bad off := by
  rw [qtok_fin, suf_drop']
  generalize qr Q raw uni (suf s (p + Q.length)) = z at h ⊢
  obtain ⟨a, b, d⟩ := z
  cases d
  · rcases h with h | h
    · exact absurd rfl h
    · rw [qfin_closed]; simp only at h; rw [h]; exact ⟨_, rfl⟩
  · exact ⟨_, rfl⟩
  · exact ⟨_, rfl⟩
  · exact ⟨_, rfl⟩

theorem qtok_good {s : ByteArray} {p : Nat} {Q : List UInt8} {raw uni ident : Bool} {bs : List UInt8} {n : Nat} (kind : ByteArray) (h : qr Q raw uni (suf s (p + Q.length)) = (bs, n, .closed)) (h2 : (ident && bs.isEmpty) = false) :
    qtok Q raw uni ident kind (suf s p) = .ok ⟨kind, ⟨bs.toArray⟩, 0, Q.length + n + Q.length, none⟩ := by
  unfold qtok
  rw [suf_drop', h]
  simp only [h2, Bool.false_eq_true, if_false]

theorem delim_len (l : List UInt8) (h : l ≠ []) : 0 < (delim l).length ∧ (delim l).length ≤ 3 ∧ (delim l).length ≤ l.length := by
  match l, h with
  | [a], _ => simp [delim]
  | [a, b], _ => simp [delim]
  | a :: b :: d :: r, _ =>
    unfold delim
    simp only
    split <;> simp

/-- What a reader of a literal gives. -/
def LitRes (lb fb : Nat) (fp s : ByteArray) (x : LX) (raw uni np : Bool) (kind : ByteArray) (w : World) (e : Ending) (w' : World) : Prop :=
  TokRes np lb fb fp s x (qtok (delim (suf s x.p)) raw uni false kind (suf s x.p)) w e w'

def nameOf (q name : ByteArray) : ByteArray := if q.size = 3 then ⟨#[116, 114, 105, 112, 108, 101, 45, 113, 117, 111, 116, 101, 100, 32]⟩ ++ name else name

set_option maxRecDepth 100000 in
set_option maxHeartbeats 4000000 in
theorem consumeRawBytes_any (lb fb : Nat) (fp s : ByteArray) (x : LX) (np : Bool) (w : World) (hs : s.size ≤ 1048576) (hE : Env w lb fb) (hS : St w lb fb fp s x) (hF : Fresh x) (h0 : byt s ((x.p : Int) + 0) = 34 ∨ byt s ((x.p : Int) + 0) = 39)
    (hok : NB s ∨ ∃ t, qtok (delim (suf s x.p)) true false false kBytes (suf s x.p) = .ok t) :
    Calls Tryz.prog 76 #[.pointer (some ⟨lb, 0, none⟩), .bool np] w (LitRes lb fb fp s x true false np kBytes w) := by
  have hlt : x.p < s.size := by
    have : 0 ≤ byt s ((x.p : Int) + 0) := by rcases h0 with h | h <;> rw [h] <;> decide
    have := (byt_lt s _ this).2
    omega
  have hne : suf s x.p ≠ [] := by
    intro h
    have := suf_len s x.p
    rw [h] at this
    simp at this; omega
  obtain ⟨hd1, hd2, hd3⟩ := delim_len _ hne
  rw [suf_len] at hd3
  have hok2 : NB s ∨ ∃ t, qtok (delim (suf s x.p)) true false false kNone (suf s x.p) = .ok t := hok.imp id (fun ⟨t, ht⟩ => qtok_kind ht)
  obtain ⟨Q, hQ⟩ : ∃ Q, delim (suf s x.p) = Q := ⟨_, rfl⟩
  rw [hQ] at hd1 hd2 hd3 hok2
  have hS1 := hS.set 1 (.string kBytes) { x with kind := kBytes } rfl hS.pz
  have hF1 : Frm w (w.setCell ⟨lb, 1, none⟩ (.string kBytes)) [lb] := (Frm.refl w [lb]).setCell _ _ (.inl (by simp))
  have hE1 := hE.frm hF1 (by simp)
  have hdel : Calls Tryz.prog 101 #[.pointer (some ⟨lb, 0, none⟩)] (w.setCell ⟨lb, 1, none⟩ (.string kBytes)) (DelRes Q (w.setCell ⟨lb, 1, none⟩ (.string kBytes))) := by
    rw [← hQ]
    rcases h0 with h0 | h0
    · exact delim34 lb fb s x.p _ hS1.rd h0
    · exact delim39 lb fb s x.p _ hS1.rd h0
  have c1 := block_cell hS.lex 1
  have f1 := block_free hS.lex 1
  have HS1 := Lib.hid hS1
  have HE1 := Lib.hid hE1
  have HF1 := Lib.hid hF1
  have HD := Lib.hid hdel
  have HQ := Lib.hid hQ
  have HK := Lib.hid hok2
  have HX := Lib.hid hF
  clear hS hE hF hok hok2 hne hQ hS1 hE1 hF1 hdel
  go_enter Tryz.func76, Tryz.ntmps76
  go_wp2_with fail
  refine HD.out.mono ?_
  rintro e w2 ⟨rfl, hb2⟩
  have hS2 := HS1.out.frm (Frm.ofBelow hb2 [])
  have hE2 := HE1.out.frm (Frm.ofBelow hb2 []) (by simp)
  have hF2 := HF1.out.step (Frm.ofBelow hb2 [lb])
  have HS2 := Lib.hid hS2
  have HE2 := Lib.hid hE2
  have HF2 := Lib.hid hF2
  clear hS2 hE2 hF2 hb2
  go_wp2_with fail
  refine (quoted_any lb fb fp s { x with kind := kBytes } ⟨Q.toArray⟩ _ (nameOf ⟨Q.toArray⟩ _) true false false np _ hs HE2.out HS2.out ?_ ⟨by show 0 < Q.toArray.size; rw [List.size_toArray]; exact hd1, by show Q.toArray.size ≤ 3; rw [List.size_toArray]; exact hd2⟩ ?_ rfl ?_ HK.out).mono ?_
  · decide
  · show x.p + Q.toArray.size ≤ s.size
    rw [List.size_toArray]; omega
  · unfold nameOf
    split <;> decide +kernel
  · intro e w3 hres
    rcases hres with ⟨bs, n, hq, hid, rfl, hS3, hF3⟩ | ⟨off, hbad, rfl, hflt⟩ | ⟨n, t, b, hbad, rfl, hn, rfl, hS3, hF3⟩
    · have c5 := block_cell hS3.lex 5
      have f5 := block_free hS3.lex 5
      have HS3 := Lib.hid hS3
      have HF3 := Lib.hid (HF2.out.step hF3)
      have HG := Lib.hid (qtok_good kBytes hq hid)
      clear hS3 hF3 hq hid
      go_wp2_with fail
      go_end0
      refine .inl ⟨⟨kBytes, ⟨bs.toArray⟩, 0, Q.length + n + Q.length, none⟩, ?_, rfl, ?_, HF3.out.setCell _ _ (.inl (by simp))⟩
      · rw [HQ.out]; exact HG.out
      · refine HS3.out.set 5 _ _ ?_ HS3.out.pz
        simp [LX.cells, LX.put, HX.out.base]
    · have HB := Lib.hid (hbad kBytes)
      have HFl := Lib.hid (FaultL.then_ HF2.out hflt)
      obtain ⟨eb, rfl, _⟩ := hflt
      clear hbad
      go_wp2_with fail
      exact ⟨rfl, .inr (.inl ⟨off, by rw [HQ.out]; exact HB.out, rfl, HFl.out⟩)⟩
    · have c5 := block_cell hS3.lex 5
      have f5 := block_free hS3.lex 5
      have c1' := block_cell hS3.lex 1
      have f1' := block_free hS3.lex 1
      have HS3 := Lib.hid hS3
      have HF3 := Lib.hid (HF2.out.step hF3)
      have HB := Lib.hid (qtok_isBad hbad kBytes)
      have HN := Lib.hid hn
      clear hS3 hF3 hbad hn
      cases b with
      | true =>
        go_wp2_with fail
        go_end0
        refine .inr (.inr ?_)
        obtain ⟨off, hoff⟩ := HB.out
        refine ⟨off, { x with kind := kBad, text := t, p := x.p + n }, by rw [HQ.out]; exact hoff, rfl, Nat.lt_add_of_pos_right HN.out, kBad_ne, rfl, rfl, ?_, (HF3.out.setCell _ _ (.inl (by simp))).setCell _ _ (.inl (by simp))⟩
        exact (HS3.out.set 5 _ { x with kind := kBytes, text := t, p := x.p + n } rfl HS3.out.pz).set 1 _ _ rfl HS3.out.pz
      | false =>
        go_wp2_with fail
        go_end0
        refine .inr (.inr ?_)
        obtain ⟨off, hoff⟩ := HB.out
        refine ⟨off, { x with kind := kBytes, text := t, p := x.p + n }, by rw [HQ.out]; exact hoff, rfl, Nat.lt_add_of_pos_right HN.out, by simp [kBytes, kEof], rfl, rfl, ?_, HF3.out.setCell _ _ (.inl (by simp))⟩
        exact HS3.out.set 5 _ _ rfl HS3.out.pz

set_option maxRecDepth 100000 in
set_option maxHeartbeats 4000000 in
theorem consumeBytes_any (lb fb : Nat) (fp s : ByteArray) (x : LX) (np : Bool) (w : World) (hs : s.size ≤ 1048576) (hE : Env w lb fb) (hS : St w lb fb fp s x) (hF : Fresh x) (h0 : byt s ((x.p : Int) + 0) = 34 ∨ byt s ((x.p : Int) + 0) = 39)
    (hok : NB s ∨ ∃ t, qtok (delim (suf s x.p)) false false false kBytes (suf s x.p) = .ok t) :
    Calls Tryz.prog 77 #[.pointer (some ⟨lb, 0, none⟩), .bool np] w (LitRes lb fb fp s x false false np kBytes w) := by
  have hlt : x.p < s.size := by
    have : 0 ≤ byt s ((x.p : Int) + 0) := by rcases h0 with h | h <;> rw [h] <;> decide
    have := (byt_lt s _ this).2
    omega
  have hne : suf s x.p ≠ [] := by
    intro h
    have := suf_len s x.p
    rw [h] at this
    simp at this; omega
  obtain ⟨hd1, hd2, hd3⟩ := delim_len _ hne
  rw [suf_len] at hd3
  have hok2 : NB s ∨ ∃ t, qtok (delim (suf s x.p)) false false false kNone (suf s x.p) = .ok t := hok.imp id (fun ⟨t, ht⟩ => qtok_kind ht)
  obtain ⟨Q, hQ⟩ : ∃ Q, delim (suf s x.p) = Q := ⟨_, rfl⟩
  rw [hQ] at hd1 hd2 hd3 hok2
  have hS1 := hS.set 1 (.string kBytes) { x with kind := kBytes } rfl hS.pz
  have hF1 : Frm w (w.setCell ⟨lb, 1, none⟩ (.string kBytes)) [lb] := (Frm.refl w [lb]).setCell _ _ (.inl (by simp))
  have hE1 := hE.frm hF1 (by simp)
  have hdel : Calls Tryz.prog 101 #[.pointer (some ⟨lb, 0, none⟩)] (w.setCell ⟨lb, 1, none⟩ (.string kBytes)) (DelRes Q (w.setCell ⟨lb, 1, none⟩ (.string kBytes))) := by
    rw [← hQ]
    rcases h0 with h0 | h0
    · exact delim34 lb fb s x.p _ hS1.rd h0
    · exact delim39 lb fb s x.p _ hS1.rd h0
  have c1 := block_cell hS.lex 1
  have f1 := block_free hS.lex 1
  have HS1 := Lib.hid hS1
  have HE1 := Lib.hid hE1
  have HF1 := Lib.hid hF1
  have HD := Lib.hid hdel
  have HQ := Lib.hid hQ
  have HK := Lib.hid hok2
  have HX := Lib.hid hF
  clear hS hE hF hok hok2 hne hQ hS1 hE1 hF1 hdel
  go_enter Tryz.func77, Tryz.ntmps77
  go_wp2_with fail
  refine HD.out.mono ?_
  rintro e w2 ⟨rfl, hb2⟩
  have hS2 := HS1.out.frm (Frm.ofBelow hb2 [])
  have hE2 := HE1.out.frm (Frm.ofBelow hb2 []) (by simp)
  have hF2 := HF1.out.step (Frm.ofBelow hb2 [lb])
  have HS2 := Lib.hid hS2
  have HE2 := Lib.hid hE2
  have HF2 := Lib.hid hF2
  clear hS2 hE2 hF2 hb2
  go_wp2_with fail
  refine (quoted_any lb fb fp s { x with kind := kBytes } ⟨Q.toArray⟩ _ (nameOf ⟨Q.toArray⟩ _) false false false np _ hs HE2.out HS2.out ?_ ⟨by show 0 < Q.toArray.size; rw [List.size_toArray]; exact hd1, by show Q.toArray.size ≤ 3; rw [List.size_toArray]; exact hd2⟩ ?_ rfl ?_ HK.out).mono ?_
  · decide
  · show x.p + Q.toArray.size ≤ s.size
    rw [List.size_toArray]; omega
  · unfold nameOf
    split <;> decide +kernel
  · intro e w3 hres
    rcases hres with ⟨bs, n, hq, hid, rfl, hS3, hF3⟩ | ⟨off, hbad, rfl, hflt⟩ | ⟨n, t, b, hbad, rfl, hn, rfl, hS3, hF3⟩
    · have c5 := block_cell hS3.lex 5
      have f5 := block_free hS3.lex 5
      have HS3 := Lib.hid hS3
      have HF3 := Lib.hid (HF2.out.step hF3)
      have HG := Lib.hid (qtok_good kBytes hq hid)
      clear hS3 hF3 hq hid
      go_wp2_with fail
      go_end0
      refine .inl ⟨⟨kBytes, ⟨bs.toArray⟩, 0, Q.length + n + Q.length, none⟩, ?_, rfl, ?_, HF3.out.setCell _ _ (.inl (by simp))⟩
      · rw [HQ.out]; exact HG.out
      · refine HS3.out.set 5 _ _ ?_ HS3.out.pz
        simp [LX.cells, LX.put, HX.out.base]
    · have HB := Lib.hid (hbad kBytes)
      have HFl := Lib.hid (FaultL.then_ HF2.out hflt)
      obtain ⟨eb, rfl, _⟩ := hflt
      clear hbad
      go_wp2_with fail
      exact ⟨rfl, .inr (.inl ⟨off, by rw [HQ.out]; exact HB.out, rfl, HFl.out⟩)⟩
    · have c5 := block_cell hS3.lex 5
      have f5 := block_free hS3.lex 5
      have c1' := block_cell hS3.lex 1
      have f1' := block_free hS3.lex 1
      have HS3 := Lib.hid hS3
      have HF3 := Lib.hid (HF2.out.step hF3)
      have HB := Lib.hid (qtok_isBad hbad kBytes)
      have HN := Lib.hid hn
      clear hS3 hF3 hbad hn
      cases b with
      | true =>
        go_wp2_with fail
        go_end0
        refine .inr (.inr ?_)
        obtain ⟨off, hoff⟩ := HB.out
        refine ⟨off, { x with kind := kBad, text := t, p := x.p + n }, by rw [HQ.out]; exact hoff, rfl, Nat.lt_add_of_pos_right HN.out, kBad_ne, rfl, rfl, ?_, (HF3.out.setCell _ _ (.inl (by simp))).setCell _ _ (.inl (by simp))⟩
        exact (HS3.out.set 5 _ { x with kind := kBytes, text := t, p := x.p + n } rfl HS3.out.pz).set 1 _ _ rfl HS3.out.pz
      | false =>
        go_wp2_with fail
        go_end0
        refine .inr (.inr ?_)
        obtain ⟨off, hoff⟩ := HB.out
        refine ⟨off, { x with kind := kBytes, text := t, p := x.p + n }, by rw [HQ.out]; exact hoff, rfl, Nat.lt_add_of_pos_right HN.out, by simp [kBytes, kEof], rfl, rfl, ?_, HF3.out.setCell _ _ (.inl (by simp))⟩
        exact HS3.out.set 5 _ _ rfl HS3.out.pz

set_option maxRecDepth 100000 in
set_option maxHeartbeats 4000000 in
theorem consumeRawString_any (lb fb : Nat) (fp s : ByteArray) (x : LX) (np : Bool) (w : World) (hs : s.size ≤ 1048576) (hE : Env w lb fb) (hS : St w lb fb fp s x) (hF : Fresh x) (h0 : byt s ((x.p : Int) + 0) = 34 ∨ byt s ((x.p : Int) + 0) = 39)
    (hok : NB s ∨ ∃ t, qtok (delim (suf s x.p)) true true false kString (suf s x.p) = .ok t) :
    Calls Tryz.prog 78 #[.pointer (some ⟨lb, 0, none⟩), .bool np] w (LitRes lb fb fp s x true true np kString w) := by
  have hlt : x.p < s.size := by
    have : 0 ≤ byt s ((x.p : Int) + 0) := by rcases h0 with h | h <;> rw [h] <;> decide
    have := (byt_lt s _ this).2
    omega
  have hne : suf s x.p ≠ [] := by
    intro h
    have := suf_len s x.p
    rw [h] at this
    simp at this; omega
  obtain ⟨hd1, hd2, hd3⟩ := delim_len _ hne
  rw [suf_len] at hd3
  have hok2 : NB s ∨ ∃ t, qtok (delim (suf s x.p)) true true false kNone (suf s x.p) = .ok t := hok.imp id (fun ⟨t, ht⟩ => qtok_kind ht)
  obtain ⟨Q, hQ⟩ : ∃ Q, delim (suf s x.p) = Q := ⟨_, rfl⟩
  rw [hQ] at hd1 hd2 hd3 hok2
  have hS1 := hS.set 1 (.string kString) { x with kind := kString } rfl hS.pz
  have hF1 : Frm w (w.setCell ⟨lb, 1, none⟩ (.string kString)) [lb] := (Frm.refl w [lb]).setCell _ _ (.inl (by simp))
  have hE1 := hE.frm hF1 (by simp)
  have hdel : Calls Tryz.prog 101 #[.pointer (some ⟨lb, 0, none⟩)] (w.setCell ⟨lb, 1, none⟩ (.string kString)) (DelRes Q (w.setCell ⟨lb, 1, none⟩ (.string kString))) := by
    rw [← hQ]
    rcases h0 with h0 | h0
    · exact delim34 lb fb s x.p _ hS1.rd h0
    · exact delim39 lb fb s x.p _ hS1.rd h0
  have c1 := block_cell hS.lex 1
  have f1 := block_free hS.lex 1
  have HS1 := Lib.hid hS1
  have HE1 := Lib.hid hE1
  have HF1 := Lib.hid hF1
  have HD := Lib.hid hdel
  have HQ := Lib.hid hQ
  have HK := Lib.hid hok2
  have HX := Lib.hid hF
  clear hS hE hF hok hok2 hne hQ hS1 hE1 hF1 hdel
  go_enter Tryz.func78, Tryz.ntmps78
  go_wp2_with fail
  refine HD.out.mono ?_
  rintro e w2 ⟨rfl, hb2⟩
  have hS2 := HS1.out.frm (Frm.ofBelow hb2 [])
  have hE2 := HE1.out.frm (Frm.ofBelow hb2 []) (by simp)
  have hF2 := HF1.out.step (Frm.ofBelow hb2 [lb])
  have HS2 := Lib.hid hS2
  have HE2 := Lib.hid hE2
  have HF2 := Lib.hid hF2
  clear hS2 hE2 hF2 hb2
  go_wp2_with fail
  refine (quoted_any lb fb fp s { x with kind := kString } ⟨Q.toArray⟩ _ (nameOf ⟨Q.toArray⟩ _) true true false np _ hs HE2.out HS2.out ?_ ⟨by show 0 < Q.toArray.size; rw [List.size_toArray]; exact hd1, by show Q.toArray.size ≤ 3; rw [List.size_toArray]; exact hd2⟩ ?_ rfl ?_ HK.out).mono ?_
  · decide
  · show x.p + Q.toArray.size ≤ s.size
    rw [List.size_toArray]; omega
  · unfold nameOf
    split <;> decide +kernel
  · intro e w3 hres
    rcases hres with ⟨bs, n, hq, hid, rfl, hS3, hF3⟩ | ⟨off, hbad, rfl, hflt⟩ | ⟨n, t, b, hbad, rfl, hn, rfl, hS3, hF3⟩
    · have c5 := block_cell hS3.lex 5
      have f5 := block_free hS3.lex 5
      have HS3 := Lib.hid hS3
      have HF3 := Lib.hid (HF2.out.step hF3)
      have HG := Lib.hid (qtok_good kString hq hid)
      clear hS3 hF3 hq hid
      go_wp2_with fail
      go_end0
      refine .inl ⟨⟨kString, ⟨bs.toArray⟩, 0, Q.length + n + Q.length, none⟩, ?_, rfl, ?_, HF3.out.setCell _ _ (.inl (by simp))⟩
      · rw [HQ.out]; exact HG.out
      · refine HS3.out.set 5 _ _ ?_ HS3.out.pz
        simp [LX.cells, LX.put, HX.out.base]
    · have HB := Lib.hid (hbad kString)
      have HFl := Lib.hid (FaultL.then_ HF2.out hflt)
      obtain ⟨eb, rfl, _⟩ := hflt
      clear hbad
      go_wp2_with fail
      exact ⟨rfl, .inr (.inl ⟨off, by rw [HQ.out]; exact HB.out, rfl, HFl.out⟩)⟩
    · have c5 := block_cell hS3.lex 5
      have f5 := block_free hS3.lex 5
      have c1' := block_cell hS3.lex 1
      have f1' := block_free hS3.lex 1
      have HS3 := Lib.hid hS3
      have HF3 := Lib.hid (HF2.out.step hF3)
      have HB := Lib.hid (qtok_isBad hbad kString)
      have HN := Lib.hid hn
      clear hS3 hF3 hbad hn
      cases b with
      | true =>
        go_wp2_with fail
        go_end0
        refine .inr (.inr ?_)
        obtain ⟨off, hoff⟩ := HB.out
        refine ⟨off, { x with kind := kBad, text := t, p := x.p + n }, by rw [HQ.out]; exact hoff, rfl, Nat.lt_add_of_pos_right HN.out, kBad_ne, rfl, rfl, ?_, (HF3.out.setCell _ _ (.inl (by simp))).setCell _ _ (.inl (by simp))⟩
        exact (HS3.out.set 5 _ { x with kind := kString, text := t, p := x.p + n } rfl HS3.out.pz).set 1 _ _ rfl HS3.out.pz
      | false =>
        go_wp2_with fail
        go_end0
        refine .inr (.inr ?_)
        obtain ⟨off, hoff⟩ := HB.out
        refine ⟨off, { x with kind := kString, text := t, p := x.p + n }, by rw [HQ.out]; exact hoff, rfl, Nat.lt_add_of_pos_right HN.out, by simp [kString, kEof], rfl, rfl, ?_, HF3.out.setCell _ _ (.inl (by simp))⟩
        exact HS3.out.set 5 _ _ rfl HS3.out.pz

set_option maxRecDepth 100000 in
set_option maxHeartbeats 4000000 in
theorem consumeString_any (lb fb : Nat) (fp s : ByteArray) (x : LX) (np : Bool) (w : World) (hs : s.size ≤ 1048576) (hE : Env w lb fb) (hS : St w lb fb fp s x) (hF : Fresh x) (h0 : byt s ((x.p : Int) + 0) = 34 ∨ byt s ((x.p : Int) + 0) = 39)
    (hok : NB s ∨ ∃ t, qtok (delim (suf s x.p)) false true false kString (suf s x.p) = .ok t) :
    Calls Tryz.prog 79 #[.pointer (some ⟨lb, 0, none⟩), .bool np] w (LitRes lb fb fp s x false true np kString w) := by
  have hlt : x.p < s.size := by
    have : 0 ≤ byt s ((x.p : Int) + 0) := by rcases h0 with h | h <;> rw [h] <;> decide
    have := (byt_lt s _ this).2
    omega
  have hne : suf s x.p ≠ [] := by
    intro h
    have := suf_len s x.p
    rw [h] at this
    simp at this; omega
  obtain ⟨hd1, hd2, hd3⟩ := delim_len _ hne
  rw [suf_len] at hd3
  have hok2 : NB s ∨ ∃ t, qtok (delim (suf s x.p)) false true false kNone (suf s x.p) = .ok t := hok.imp id (fun ⟨t, ht⟩ => qtok_kind ht)
  obtain ⟨Q, hQ⟩ : ∃ Q, delim (suf s x.p) = Q := ⟨_, rfl⟩
  rw [hQ] at hd1 hd2 hd3 hok2
  have hS1 := hS.set 1 (.string kString) { x with kind := kString } rfl hS.pz
  have hF1 : Frm w (w.setCell ⟨lb, 1, none⟩ (.string kString)) [lb] := (Frm.refl w [lb]).setCell _ _ (.inl (by simp))
  have hE1 := hE.frm hF1 (by simp)
  have hdel : Calls Tryz.prog 101 #[.pointer (some ⟨lb, 0, none⟩)] (w.setCell ⟨lb, 1, none⟩ (.string kString)) (DelRes Q (w.setCell ⟨lb, 1, none⟩ (.string kString))) := by
    rw [← hQ]
    rcases h0 with h0 | h0
    · exact delim34 lb fb s x.p _ hS1.rd h0
    · exact delim39 lb fb s x.p _ hS1.rd h0
  have c1 := block_cell hS.lex 1
  have f1 := block_free hS.lex 1
  have HS1 := Lib.hid hS1
  have HE1 := Lib.hid hE1
  have HF1 := Lib.hid hF1
  have HD := Lib.hid hdel
  have HQ := Lib.hid hQ
  have HK := Lib.hid hok2
  have HX := Lib.hid hF
  clear hS hE hF hok hok2 hne hQ hS1 hE1 hF1 hdel
  go_enter Tryz.func79, Tryz.ntmps79
  go_wp2_with fail
  refine HD.out.mono ?_
  rintro e w2 ⟨rfl, hb2⟩
  have hS2 := HS1.out.frm (Frm.ofBelow hb2 [])
  have hE2 := HE1.out.frm (Frm.ofBelow hb2 []) (by simp)
  have hF2 := HF1.out.step (Frm.ofBelow hb2 [lb])
  have HS2 := Lib.hid hS2
  have HE2 := Lib.hid hE2
  have HF2 := Lib.hid hF2
  clear hS2 hE2 hF2 hb2
  go_wp2_with fail
  refine (quoted_any lb fb fp s { x with kind := kString } ⟨Q.toArray⟩ _ (nameOf ⟨Q.toArray⟩ _) false true false np _ hs HE2.out HS2.out ?_ ⟨by show 0 < Q.toArray.size; rw [List.size_toArray]; exact hd1, by show Q.toArray.size ≤ 3; rw [List.size_toArray]; exact hd2⟩ ?_ rfl ?_ HK.out).mono ?_
  · decide
  · show x.p + Q.toArray.size ≤ s.size
    rw [List.size_toArray]; omega
  · unfold nameOf
    split <;> decide +kernel
  · intro e w3 hres
    rcases hres with ⟨bs, n, hq, hid, rfl, hS3, hF3⟩ | ⟨off, hbad, rfl, hflt⟩ | ⟨n, t, b, hbad, rfl, hn, rfl, hS3, hF3⟩
    · have c5 := block_cell hS3.lex 5
      have f5 := block_free hS3.lex 5
      have HS3 := Lib.hid hS3
      have HF3 := Lib.hid (HF2.out.step hF3)
      have HG := Lib.hid (qtok_good kString hq hid)
      clear hS3 hF3 hq hid
      go_wp2_with fail
      go_end0
      refine .inl ⟨⟨kString, ⟨bs.toArray⟩, 0, Q.length + n + Q.length, none⟩, ?_, rfl, ?_, HF3.out.setCell _ _ (.inl (by simp))⟩
      · rw [HQ.out]; exact HG.out
      · refine HS3.out.set 5 _ _ ?_ HS3.out.pz
        simp [LX.cells, LX.put, HX.out.base]
    · have HB := Lib.hid (hbad kString)
      have HFl := Lib.hid (FaultL.then_ HF2.out hflt)
      obtain ⟨eb, rfl, _⟩ := hflt
      clear hbad
      go_wp2_with fail
      exact ⟨rfl, .inr (.inl ⟨off, by rw [HQ.out]; exact HB.out, rfl, HFl.out⟩)⟩
    · have c5 := block_cell hS3.lex 5
      have f5 := block_free hS3.lex 5
      have c1' := block_cell hS3.lex 1
      have f1' := block_free hS3.lex 1
      have HS3 := Lib.hid hS3
      have HF3 := Lib.hid (HF2.out.step hF3)
      have HB := Lib.hid (qtok_isBad hbad kString)
      have HN := Lib.hid hn
      clear hS3 hF3 hbad hn
      cases b with
      | true =>
        go_wp2_with fail
        go_end0
        refine .inr (.inr ?_)
        obtain ⟨off, hoff⟩ := HB.out
        refine ⟨off, { x with kind := kBad, text := t, p := x.p + n }, by rw [HQ.out]; exact hoff, rfl, Nat.lt_add_of_pos_right HN.out, kBad_ne, rfl, rfl, ?_, (HF3.out.setCell _ _ (.inl (by simp))).setCell _ _ (.inl (by simp))⟩
        exact (HS3.out.set 5 _ { x with kind := kString, text := t, p := x.p + n } rfl HS3.out.pz).set 1 _ _ rfl HS3.out.pz
      | false =>
        go_wp2_with fail
        go_end0
        refine .inr (.inr ?_)
        obtain ⟨off, hoff⟩ := HB.out
        refine ⟨off, { x with kind := kString, text := t, p := x.p + n }, by rw [HQ.out]; exact hoff, rfl, Nat.lt_add_of_pos_right HN.out, by simp [kString, kEof], rfl, rfl, ?_, HF3.out.setCell _ _ (.inl (by simp))⟩
        exact HS3.out.set 5 _ _ rfl HS3.out.pz

end Go.Proofs.YtngofbhlhcalpaaGreatDoor.lexer

namespace Go.Proofs.YtngofbhlhcalpaaGreatDoor.lexer
open Go.RowKit Go.Proofs.YtngofbhlhcalpaaGreatDoor.gen
open Go.Lib (headSpace isSpaceR decodeL)

/-- Up to the first place of a text, and with it. -/
def upto (q : List UInt8) : List UInt8 → Option Nat
  | [] => none
  | c :: r => if (c :: r).take q.length == q then some q.length else (upto q r).map (· + 1)

theorem upto_line (l : List UInt8) : lineLen l = (upto [10] l).getD l.length := by
  induction l with
  | nil => rfl
  | cons c r ih =>
    have h1 : ((c :: r).take [(10 : UInt8)].length == [10]) = (nn c == 10) := by
      simp only [List.length_singleton, List.take_succ_cons, List.take_zero]
      rw [Bool.eq_iff_iff, beq_iff_eq, beq_iff_eq]
      constructor
      · intro h; cases h; rfl
      · intro h
        have : c = 10 := UInt8.toNat_inj.1 (by unfold nn at h; show c.toNat = 10; omega)
        rw [this]
    unfold lineLen upto
    rw [h1]
    cases nn c == 10 with
    | true => rfl
    | false =>
      simp only [Bool.false_eq_true, if_false]
      rw [ih]
      cases upto [10] r <;> simp

theorem upto_block (l : List UInt8) : blockEnd l = upto [42, 47] l := by
  induction l with
  | nil => rfl
  | cons c r ih =>
    have h1 : ((c :: r).take [(42 : UInt8), 47].length == [42, 47]) = (nn c == 42 && headIs 47 r) := by
      cases r with
      | nil => simp [headIs]
      | cons d r2 =>
        simp only [List.length_cons, List.length_nil, List.take_succ_cons, List.take_zero, headIs]
        rw [Bool.eq_iff_iff, Bool.and_eq_true, beq_iff_eq, beq_iff_eq, beq_iff_eq]
        constructor
        · intro h; cases h; exact ⟨rfl, rfl⟩
        · rintro ⟨h, h2⟩
          have e1 : c = 42 := UInt8.toNat_inj.1 (by unfold nn at h; show c.toNat = 42; omega)
          have e2 : d = 47 := UInt8.toNat_inj.1 (by unfold nn at h2; show d.toNat = 47; omega)
          rw [e1, e2]
    unfold blockEnd upto
    rw [h1, ih]
    rfl

def UntilRes (lb fb : Nat) (fp s : ByteArray) (x : LX) (Q : List UInt8) (must np : Bool) (w : World) (e : Ending) (w' : World) : Prop :=
  (∃ n, upto Q (suf s x.p) = some n ∧ Goes (.bool false) lb fb fp s { x with p := x.p + n } w e w') ∨
  (upto Q (suf s x.p) = none ∧ must = false ∧ Goes (.bool false) lb fb fp s { x with p := s.size } w e w') ∨
  (upto Q (suf s x.p) = none ∧ must = true ∧ np = true ∧ Goes (.bool true) lb fb fp s { x with p := s.size } w e w') ∨
  (upto Q (suf s x.p) = none ∧ must = true ∧ np = false ∧ FaultL lb fb x.p w e w')

set_option maxRecDepth 100000 in
set_option maxHeartbeats 4000000 in
theorem until_any (lb fb : Nat) (fp s : ByteArray) (x : LX) (q : ByteArray) (must np : Bool) (w : World) (hs : s.size ≤ 1048576) (hE : Env w lb fb) (hS : St w lb fb fp s x) (hq : 0 < q.size ∧ q.size ≤ 3) :
    Calls Tryz.prog 66 #[.pointer (some ⟨lb, 0, none⟩), .string q, .bool must, .bool np] w (UntilRes lb fb fp s x q.data.toList must np w) := by
  obtain ⟨hq1, hq2⟩ := hq
  have hpz := hS.pz
  have hsz := hS.sz
  have c9 : w.cell? ⟨lb, 9, none⟩ = some (.int .i64 (x.p : Int)) := hS.rd.c9
  have HS := Lib.hid hS
  have HE := Lib.hid hE
  clear hS hE
  go_enter Tryz.func66, Tryz.ntmps66
  go_wp2_with fail
  clear c9
  go_loopg [8] s.size (fun g r wr => r = .bool false ∧ ∃ k : Nat, g = s.size - k ∧ x.p + k ≤ s.size ∧ Hid (St wr lb fb fp s { x with p := x.p + k } ∧ Frm w wr [lb] ∧ upto q.data.toList (suf s x.p) = (upto q.data.toList (suf s (x.p + k))).map (· + k)))
  case atStart => exact ⟨rfl, 0, rfl, hpz, HS.out, Frm.refl _ _, by simp⟩
  case round =>
    obtain ⟨rfl, k, hg, hpk, HK⟩ := hrel
    have hR := HK.out.1.rd
    rcases suf_byt s (x.p + k) with ⟨_, hsuf, hge⟩ | ⟨c, hb, hsuf, hlt⟩
    · have HN : Hid (upto q.data.toList (suf s x.p) = none) := by
        have := HK.out.2.2
        rw [hsuf] at this
        exact this
      have hkz : x.p + k = s.size := by omega
      clear hsuf
      have HKz := Lib.hid hkz
      cases must with
      | false =>
        go_wp2_with (go_at_call 61; refine (eof_yes lb fb s (x.p + k) _ hR hge).mono ?_; rintro e w' ⟨rfl, nq, rfl⟩)
        go_ret
        exact .inr (.inl ⟨HN.out, rfl, rfl, HKz.out ▸ HK.out.1.drewN _, HK.out.2.1.drewN _⟩)
      | true =>
        cases np with
        | true =>
          go_wp2_with (go_at_call 61; refine (eof_yes lb fb s (x.p + k) _ hR hge).mono ?_; rintro e w' ⟨rfl, nq, rfl⟩)
          go_ret
          exact .inr (.inr (.inl ⟨HN.out, rfl, rfl, rfl, HKz.out ▸ HK.out.1.drewN _, HK.out.2.1.drewN _⟩))
        | false =>
          have c9 : wr.cell? ⟨lb, 9, none⟩ = some (.int .i64 ((x.p + k : Nat) : Int)) := hR.c9
          have HEk := Lib.hid (HE.out.frm HK.out.2.1 (by simp))
          go_wp2_with (go_at_call 61; refine (eof_yes lb fb s (x.p + k) _ hR hge).mono ?_; rintro e w' ⟨rfl, nq, rfl⟩)
          refine (panicfAt_int lb fb fp s _ _ _ x.p (x.p + k) _ _ hs (by omega) (by omega) (by omega) (by omega) (HK.out.1.drewN _) (HEk.out.drewN _)).mono ?_
          rintro e w6 ⟨eb, rfl, hea, hl, hf⟩
          go_wp2_with fail
          exact ⟨rfl, .inr (.inr (.inr ⟨HN.out, rfl, rfl, _, rfl, hea, Nat.le_trans HK.out.2.1.size hl, ((HK.out.2.1.drewN _).mono (by simp)).step (hf.mono (by simp))⟩))⟩
    · have hbd := nn_bd c
      obtain ⟨t, ht⟩ : ∃ t, t = s.extract (x.p + k + 0) (min (x.p + k + q.size) s.size) := ⟨_, rfl⟩
      have htq : (t.toList == q.toList) = ((suf s (x.p + k)).take q.data.toList.length == q.data.toList) := by
        rw [ht, ByteArray.toList_eq, ByteArray.toList_eq, Nat.add_zero, ext_suf_min, len_list]
      have HT := Lib.hid ht
      clear ht
      cases hcl : (suf s (x.p + k)).take q.data.toList.length == q.data.toList with
      | true =>
        have HU : Hid (upto q.data.toList (suf s x.p) = some (k + q.size)) := by
          have h1 := HK.out.2.2
          have h2 : upto q.data.toList (suf s (x.p + k)) = some q.data.toList.length := by
            rw [hsuf] at hcl ⊢
            unfold upto; rw [hcl]; rfl
          rw [h2] at h1
          rw [len_list] at h1
          rw [Nat.add_comm]; exact h1
        have hroom : x.p + k + q.size ≤ s.size := by
          have h1 : (suf s (x.p + k)).take q.data.toList.length = q.data.toList := by simpa using hcl
          have h2 := congrArg List.length h1
          rw [List.length_take, suf_len, len_list] at h2
          omega
        rw [hcl] at htq
        clear hsuf hcl
        go_wp2_with (go_at_call 61; refine (eof_no lb fb s (x.p + k) _ hR hlt).mono ?_; rintro e w' ⟨rfl, nq, rfl⟩)
        refine (slice_int lb fb s (x.p + k) _ _ 0 q.size t _ (hR.drewN _) (by omega) (by omega) (by omega) (by omega) (by omega) HT.out).mono ?_
        rintro e w' ⟨rfl, nq, rfl⟩
        go_wp2_with fail
        refine (skipN_any lb fb fp s _ q.size { x with p := x.p + (k + q.size) } _ (HK.out.1.drewN _) ⟨by omega, by show ((x.p + k : Nat) : Int) + _ ≤ _; omega⟩ (by show _ = { x with p := (((x.p + k : Nat) : Int) + (q.size : Int)).toNat }; congr 1; omega)).mono ?_
        rintro e w8 ⟨rfl, hS8, hF8⟩
        have HS8 := Lib.hid hS8
        have HF8 := Lib.hid ((HK.out.2.1.drewN _).step hF8)
        clear hS8 hF8
        go_wp2_with fail
        go_ret
        exact .inl ⟨_, HU.out, rfl, HS8.out, HF8.out⟩
      | false =>
        have HU : Hid (upto q.data.toList (suf s x.p) = (upto q.data.toList (suf s (x.p + (k + 1)))).map (· + (k + 1))) := by
          have h1 := HK.out.2.2
          have h2 : upto q.data.toList (suf s (x.p + k)) = (upto q.data.toList (suf s (x.p + (k + 1)))).map (· + 1) := by
            rw [hsuf] at hcl ⊢
            rw [upto, hcl]; rfl
          rw [h2, Option.map_map] at h1
          refine h1.trans ?_
          congr 1
          funext y
          simp only [Function.comp_apply]
          omega
        rw [hcl] at htq
        have hb2 : byt s (((x.p + k : Nat) : Int) + 0) = nn c := by rw [← hb]; congr 1
        have HB := Lib.hid hb2
        clear hsuf hcl hb hb2
        go_wp2_with (go_at_call 61; refine (eof_no lb fb s (x.p + k) _ hR hlt).mono ?_; rintro e w' ⟨rfl, nq, rfl⟩)
        refine (slice_int lb fb s (x.p + k) _ _ 0 q.size t _ (hR.drewN _) (by omega) (by omega) (by omega) (by omega) (by omega) HT.out).mono ?_
        rintro e w' ⟨rfl, nq, rfl⟩
        go_wp2_with fail
        refine (skip_any lb fb fp s _ (nn c) { x with p := x.p + (k + 1) } _ (HK.out.1.drewN _) ⟨hbd.1, HB.out⟩ rfl).mono ?_
        rintro e w8 ⟨rfl, hS8, hF8⟩
        have HS8 := Lib.hid hS8
        have HF8 := Lib.hid ((HK.out.2.1.drewN _).step hF8)
        clear hS8 hF8
        go_wp2_with fail
        go_roundg (s.size - (k + 1))
        case measure => omega
        case rel => exact ⟨rfl, k + 1, rfl, by omega, HS8.out, HF8.out, HU.out⟩

end Go.Proofs.YtngofbhlhcalpaaGreatDoor.lexer

namespace Go.Proofs.YtngofbhlhcalpaaGreatDoor.lexer
open Go.RowKit Go.Proofs.YtngofbhlhcalpaaGreatDoor.gen

def BqRes (np : Bool) (lb fb : Nat) (fp s : ByteArray) (x : LX) (w : World) (e : Ending) (w' : World) : Prop := TokRes np lb fb fp s x (qtok [96] false true true kIdent (suf s x.p)) w e w'

set_option maxRecDepth 100000 in
set_option maxHeartbeats 8000000 in
theorem tok_bq (lb fb : Nat) (fp s : ByteArray) (x : LX) (np : Bool) (w : World) (hs : s.size ≤ 1048576) (hE : Env w lb fb) (hS : St w lb fb fp s x) (hF : Fresh x) (h0 : byt s ((x.p : Int) + 0) = 96)
    (hok : NB s ∨ ∃ t, qtok [96] false true true kIdent (suf s x.p) = .ok t) :
    Calls Tryz.prog 52 #[.pointer (some ⟨lb, 0, none⟩), .bool np] w (BqRes np lb fb fp s x w) := by
  have hR := hS.rd
  have hsz := hS.sz
  have hlt2 := (byt_lt s _ (by rw [h0]; decide : 0 ≤ byt s ((x.p : Int) + 0))).2
  have hlt : x.p < s.size := by omega
  have hok2 : NB s ∨ ∃ t, qtok [96] false true true kNone (suf s x.p) = .ok t := hok.imp id (fun ⟨t, ht⟩ => qtok_kind ht)
  have c1 := block_cell hS.lex 1
  have f1 := block_free hS.lex 1
  have HS := Lib.hid hS
  have HE := Lib.hid hE
  have HK := Lib.hid hok2
  have HX := Lib.hid hF
  clear hS hE hF hok hok2
  have HSn := Lib.hid (show ∀ n, St ((w.drewN n).setCell ⟨lb, 1, none⟩ (.string kIdent)) lb fb fp s { x with kind := kIdent } from fun n => (HS.out.drewN n).set 1 (.string kIdent) _ rfl HS.out.pz)
  have HFn := Lib.hid (show ∀ n, Frm w ((w.drewN n).setCell ⟨lb, 1, none⟩ (.string kIdent)) [lb] from fun n => ((Frm.refl w [lb]).drewN n).setCell ⟨lb, 1, none⟩ (.string kIdent) (.inl (by simp)))
  go_enter Tryz.func52, Tryz.ntmps52
  go_wp2_with (first | (go_at_call 61; first | ((with_reducible refine (eof_yes _ _ _ _ _ (hR.drewN _) ?_).mono ?_); omega; rintro e w' ⟨rfl, nq, rfl⟩) | ((with_reducible refine (eof_yes _ _ _ _ _ hR ?_).mono ?_); omega; rintro e w' ⟨rfl, nq, rfl⟩) | ((with_reducible refine (eof_no _ _ _ _ _ (hR.drewN _) ?_).mono ?_); omega; rintro e w' ⟨rfl, nq, rfl⟩) | ((with_reducible refine (eof_no _ _ _ _ _ hR ?_).mono ?_); omega; rintro e w' ⟨rfl, nq, rfl⟩)) | (go_at_call 69; first | ((with_reducible refine (peek_any _ _ _ _ _ _ _ (hR.drewN _) ⟨?_, ?_, by assumption⟩).mono ?_); omega; omega; rintro e w' ⟨rfl, nq, rfl⟩) | ((with_reducible refine (peek_any _ _ _ _ _ _ _ hR ⟨?_, ?_, by assumption⟩).mono ?_); omega; omega; rintro e w' ⟨rfl, nq, rfl⟩)))
  refine (quoted_any lb fb fp s { x with kind := kIdent } ⟨#[96]⟩ _ (nameOf ⟨#[96]⟩ _) false true true np _ hs ?_ (HSn.out _) ?_ ⟨by decide, by decide⟩ ?_ rfl ?_ HK.out).mono ?_
  · exact HE.out.frm (HFn.out _) (by simp)
  · decide
  · show x.p + 1 ≤ s.size; omega
  · decide +kernel
  · intro e w3 hres
    rcases hres with ⟨bs, n, hq, hid, rfl, hS3, hF3⟩ | ⟨off, hbad, rfl, hflt⟩ | ⟨n, t, b, hbad, rfl, hn, rfl, hS3, hF3⟩
    · have c5 := block_cell hS3.lex 5
      have f5 := block_free hS3.lex 5
      have HS3 := Lib.hid hS3
      have HF3 := Lib.hid ((HFn.out _).step hF3)
      have HG := Lib.hid (qtok_good kIdent hq hid)
      clear hS3 hF3 hq hid
      go_wp2_with fail
      go_end0
      refine .inl ⟨⟨kIdent, ⟨bs.toArray⟩, 0, [(96 : UInt8)].length + n + [(96 : UInt8)].length, none⟩, HG.out, rfl, ?_, HF3.out.setCell _ _ (.inl (by simp))⟩
      refine HS3.out.set 5 _ _ ?_ HS3.out.pz
      simp [LX.cells, LX.put, HX.out.base]
    · have HB := Lib.hid (hbad kIdent)
      have HFl := Lib.hid (FaultL.then_ (HFn.out _) hflt)
      obtain ⟨eb, rfl, _⟩ := hflt
      clear hbad
      go_wp2_with fail
      exact ⟨rfl, .inr (.inl ⟨off, HB.out, rfl, HFl.out⟩)⟩
    · have c5 := block_cell hS3.lex 5
      have f5 := block_free hS3.lex 5
      have c1' := block_cell hS3.lex 1
      have f1' := block_free hS3.lex 1
      have HS3 := Lib.hid hS3
      have HF3 := Lib.hid ((HFn.out _).step hF3)
      have HB := Lib.hid (qtok_isBad hbad kIdent)
      have HN := Lib.hid hn
      clear hS3 hF3 hbad hn
      cases b with
      | true =>
        go_wp2_with fail
        go_end0
        refine .inr (.inr ?_)
        obtain ⟨off, hoff⟩ := HB.out
        refine ⟨off, { x with kind := kBad, text := t, p := x.p + n }, hoff, rfl, Nat.lt_add_of_pos_right HN.out, kBad_ne, rfl, rfl, ?_, (HF3.out.setCell _ _ (.inl (by simp))).setCell _ _ (.inl (by simp))⟩
        exact (HS3.out.set 5 _ { x with kind := kIdent, text := t, p := x.p + n } rfl HS3.out.pz).set 1 _ _ rfl HS3.out.pz
      | false =>
        go_wp2_with fail
        go_end0
        refine .inr (.inr ?_)
        obtain ⟨off, hoff⟩ := HB.out
        refine ⟨off, { x with kind := kIdent, text := t, p := x.p + n }, hoff, rfl, Nat.lt_add_of_pos_right HN.out, by simp [kIdent, kEof], rfl, rfl, ?_, HF3.out.setCell _ _ (.inl (by simp))⟩
        exact HS3.out.set 5 _ _ rfl HS3.out.pz

end Go.Proofs.YtngofbhlhcalpaaGreatDoor.lexer

namespace Go.Proofs.YtngofbhlhcalpaaGreatDoor.lexer
open Go.RowKit Go.Proofs.YtngofbhlhcalpaaGreatDoor.gen

theorem TokRes.shift {np : Bool} {lb fb : Nat} {fp s : ByteArray} {x : LX} {o : Out} {w w1 : World} {e : Ending} {w' : World} (i : Nat) (hF : Frm w w1 [lb]) (h : TokRes np lb fb fp s { x with p := x.p + i } o w1 e w') :
    TokRes np lb fb fp s x (o.shift i) w e w' := by
  rcases h with ⟨t, rfl, he, hS, hF2⟩ | ⟨off, rfl, hnp, hf⟩ | ⟨off, y, rfl, hnp, hp, hk, hc, he, hS, hF2⟩
  · refine .inl ⟨{ t with n := t.n + i }, rfl, he, ?_, hF.step hF2⟩
    have : x.put { t with n := t.n + i } = LX.put { x with p := x.p + i } t := by
      simp only [LX.put]; congr 1; omega
    rw [this]; exact hS
  · refine .inr (.inl ⟨off + i, rfl, hnp, ?_⟩)
    have := FaultL.then_ hF hf
    rw [show x.p + (off + i) = x.p + i + off from by omega]; exact this
  · exact .inr (.inr ⟨off + i, y, rfl, hnp, by simp only at hp; omega, hk, hc, he, hS, hF.step hF2⟩)

theorem TokRes.ends {np : Bool} {lb fb : Nat} {fp s : ByteArray} {x : LX} {o : Out} {w : World} {e : Ending} {w' : World} (h : TokRes np lb fb fp s x o w e w') : e = .returned (.tuple #[]) ∨ ∃ ch, e = .panicked ch := by
  rcases h with ⟨t, _, he, _⟩ | ⟨off, _, _, eb, he, _⟩ | ⟨off, y, _, _, _, _, _, he, _⟩
  · exact .inl he
  · exact .inr ⟨_, he⟩
  · exact .inl he

/-- What a word or a literal with letters ahead gives. -/
def LetRes (np : Bool) (lb fb : Nat) (fp s : ByteArray) (x : LX) (P : Option (Nat × Bool × Bool)) (w : World) (e : Ending) (w' : World) : Prop :=
  match P with
  | some (i, b, r) => TokRes np lb fb fp s x ((qtok (delim (suf s (x.p + i))) r (!b) false (if b then kBytes else kString) (suf s (x.p + i))).shift i) w e w'
  | none => WordG lb fb fp s x (idLen (suf s x.p)) w e w'

theorem pre_b (f : Nat) (r : Bool) (d : UInt8) (t : List UInt8) (h : nn d = 66 ∨ nn d = 98) : pre (f + 1) false r (d :: t) = (pre f true r t).map fun x => (x.1 + 1, x.2) := by
  rw [pre]
  rcases h with h | h <;> simp [h]
theorem pre_r (f : Nat) (b : Bool) (d : UInt8) (t : List UInt8) (h : nn d = 82 ∨ nn d = 114) : pre (f + 1) b false (d :: t) = (pre f b true t).map fun x => (x.1 + 1, x.2) := by
  rw [pre]
  rcases h with h | h <;> simp [h]
theorem pre_q (f : Nat) (b r : Bool) (d : UInt8) (t : List UInt8) (h : nn d = 34 ∨ nn d = 39) : pre (f + 1) b r (d :: t) = some (0, b, r) := by
  rw [pre]
  rcases h with h | h <;> simp [h]
theorem pre_no (f : Nat) (b r : Bool) (d : UInt8) (t : List UInt8) (h1 : b = true ∨ (¬ nn d = 66 ∧ ¬ nn d = 98)) (h2 : r = true ∨ (¬ nn d = 82 ∧ ¬ nn d = 114)) (h3 : ¬ nn d = 34 ∧ ¬ nn d = 39) : pre (f + 1) b r (d :: t) = none := by
  rw [pre]
  have g1 : (!b && (nn d == 66 || nn d == 98)) = false := by rcases h1 with h | h <;> simp [h]
  have g2 : (!r && (nn d == 82 || nn d == 114)) = false := by rcases h2 with h | h <;> simp [h]
  have g3 : (nn d == 34 || nn d == 39) = false := by simp [h3]
  simp only [g1, g2, g3, Bool.false_eq_true, if_false]

/-- The prefix loop's state. -/
def PreAt (s : ByteArray) (p k : Nat) (b r : Bool) (P : Option (Nat × Bool × Bool)) : Prop := k ≤ 3 ∧ p + k ≤ s.size ∧ (pre (3 - k) b r (suf s (p + k))).map (fun x => (x.1 + k, x.2)) = P

theorem PreAt.on {s : ByteArray} {p k : Nat} {b r b' r' : Bool} {P : Option (Nat × Bool × Bool)} {d : UInt8} (h : PreAt s p k b r P) (hk : k < 3) (hsuf : suf s (p + k) = d :: suf s (p + k + 1)) (hlt : p + k < s.size)
    (hp : ∀ f t, pre (f + 1) b r (d :: t) = (pre f b' r' t).map fun x => (x.1 + 1, x.2)) : PreAt s p (k + 1) b' r' P := by
  obtain ⟨_, _, h3⟩ := h
  refine ⟨by omega, by omega, ?_⟩
  rw [show 3 - k = (3 - (k + 1)) + 1 from by omega, hsuf, hp] at h3
  rw [← h3, Option.map_map]
  congr 1
  funext y
  simp only [Function.comp_apply]
  congr 1
  omega
theorem PreAt.none_ {s : ByteArray} {p k : Nat} {b r : Bool} {P : Option (Nat × Bool × Bool)} {d : UInt8} (h : PreAt s p k b r P) (hk : k < 3) (hsuf : suf s (p + k) = d :: suf s (p + k + 1)) (hp : ∀ f t, pre (f + 1) b r (d :: t) = none) : P = none := by
  obtain ⟨_, _, h3⟩ := h
  rw [show 3 - k = (2 - k) + 1 from by omega, hsuf, hp] at h3
  rw [← h3]; rfl
theorem PreAt.some_ {s : ByteArray} {p k : Nat} {b r : Bool} {P : Option (Nat × Bool × Bool)} {d : UInt8} (h : PreAt s p k b r P) (hk : k < 3) (hsuf : suf s (p + k) = d :: suf s (p + k + 1)) (hq : nn d = 34 ∨ nn d = 39) : P = some (k, b, r) := by
  obtain ⟨_, _, h3⟩ := h
  rw [show 3 - k = (2 - k) + 1 from by omega, hsuf, pre_q _ _ _ _ _ hq] at h3
  rw [← h3]; simp
theorem PreAt.out {s : ByteArray} {p k : Nat} {b r : Bool} {P : Option (Nat × Bool × Bool)} (h : PreAt s p k b r P) (hk : k = 3 ∨ s.size ≤ p + k) : P = none := by
  obtain ⟨_, _, h3⟩ := h
  rcases hk with hk | hk
  · subst hk; rw [← h3]; simp [pre]
  · rw [suf_nil s _ hk] at h3
    rw [← h3]
    cases 3 - k <;> simp [pre]

end Go.Proofs.YtngofbhlhcalpaaGreatDoor.lexer

namespace Go.Proofs.YtngofbhlhcalpaaGreatDoor.lexer
open Go.RowKit Go.Proofs.YtngofbhlhcalpaaGreatDoor.gen

noncomputable def firstScope : Code → Option Code
  | .scope c => some c
  | .seq a b => match firstScope a with
    | some c => some c
    | none => firstScope b
  | .block _ c => firstScope c
  | .loop c => firstScope c
  | .cond _ a b => match firstScope a with
    | some c => some c
    | none => firstScope b
  | _ => none

noncomputable def lScope : Code := ((Tryz.f52.body.bind firstScope).getD .skip)
noncomputable def lBody : Code := ((firstLoop lScope).getD .skip)

set_option maxRecDepth 1000000 in
theorem list_letters68 (L : List Value) (h : L.length = 68) : ∃ V : Nat → Value, L = [V 348, V 349, V 350, V 351, V 352, V 353, V 354, V 355, V 356, V 357, V 358, V 359, V 360, V 361, V 362, V 363, V 364, V 365, V 366, V 367, V 368, V 369, V 370, V 371, V 372, V 373, V 374, V 375, V 376, V 377, V 378, V 379, V 380, V 381, V 382, V 383, V 384, V 385, V 386, V 387, V 388, V 389, V 390, V 391, V 392, V 393, V 394, V 395, V 396, V 397, V 398, V 399, V 400, V 401, V 402, V 403, V 404, V 405, V 406, V 407, V 408, V 409, V 410, V 411, V 412, V 413, V 414, V 415] := by
  refine ⟨fun n => L.getD (n - 348) undef, ?_⟩
  exact (list_fn L undef 68 h).trans (by kernel_rfl)

structure LCtx (lb fb : Nat) (fp s : ByteArray) (x : LX) (np : Bool) (P : Option (Nat × Bool × Bool)) (w : World) : Prop where
  st : St w lb fb fp s x
  env : Env w lb fb
  fresh : Fresh x
  size : s.size ≤ 1048576
  ok : NB s ∨ ∀ i b r, P = some (i, b, r) → ∃ t, qtok (delim (suf s (x.p + i))) r (!b) false (if b then kBytes else kString) (suf s (x.p + i)) = .ok t

/-- The frame. -/
def LFr (lb : Nat) (np : Bool) (U : Nat → Value) (b r i : Value) (M : List Value) : Array Value :=
  List.toArray (.pointer (some ⟨lb, 0, none⟩) :: .bool np :: U 2 :: U 3 :: U 4 :: U 5 :: U 6 :: b :: r :: i :: ([U 10, U 11, U 12, U 13, U 14, U 15, U 16, U 17, U 18, U 19, U 20, U 21, U 22, U 23, U 24, U 25, U 26, U 27, U 28, U 29, U 30, U 31, U 32, U 33, U 34, U 35, U 36, U 37, U 38, U 39, U 40, U 41, U 42, U 43, U 44, U 45, U 46, U 47, U 48, U 49, U 50, U 51, U 52, U 53, U 54, U 55, U 56, U 57, U 58, U 59, U 60, U 61, U 62, U 63, U 64, U 65, U 66, U 67, U 68, U 69, U 70, U 71, U 72, U 73, U 74, U 75, U 76, U 77, U 78, U 79, U 80, U 81, U 82, U 83, U 84, U 85, U 86, U 87, U 88, U 89, U 90, U 91, U 92, U 93, U 94, U 95, U 96, U 97, U 98, U 99, U 100, U 101, U 102, U 103, U 104, U 105, U 106, U 107, U 108, U 109, U 110, U 111, U 112, U 113, U 114, U 115, U 116, U 117, U 118, U 119, U 120, U 121, U 122, U 123, U 124, U 125, U 126, U 127, U 128, U 129, U 130, U 131, U 132, U 133, U 134, U 135, U 136, U 137, U 138, U 139, U 140, U 141, U 142, U 143, U 144, U 145, U 146, U 147, U 148, U 149, U 150, U 151, U 152, U 153, U 154, U 155, U 156, U 157, U 158, U 159, U 160, U 161, U 162, U 163, U 164, U 165, U 166, U 167, U 168, U 169, U 170, U 171, U 172, U 173, U 174, U 175, U 176, U 177, U 178, U 179, U 180, U 181, U 182, U 183, U 184, U 185, U 186, U 187, U 188, U 189, U 190, U 191, U 192, U 193, U 194, U 195, U 196, U 197, U 198, U 199, U 200, U 201, U 202, U 203, U 204, U 205, U 206, U 207, U 208, U 209, U 210, U 211, U 212, U 213, U 214, U 215, U 216, U 217, U 218, U 219, U 220, U 221, U 222, U 223, U 224, U 225, U 226, U 227, U 228, U 229, U 230, U 231, U 232, U 233, U 234, U 235, U 236, U 237, U 238, U 239, U 240, U 241, U 242, U 243, U 244, U 245, U 246, U 247, U 248, U 249, U 250, U 251, U 252, U 253, U 254, U 255, U 256, U 257, U 258, U 259, U 260, U 261, U 262, U 263, U 264, U 265, U 266, U 267, U 268, U 269, U 270, U 271, U 272, U 273, U 274, U 275, U 276, U 277, U 278, U 279, U 280, U 281, U 282, U 283, U 284, U 285, U 286, U 287, U 288, U 289, U 290, U 291, U 292, U 293, U 294, U 295, U 296, U 297, U 298, U 299, U 300, U 301, U 302, U 303, U 304, U 305, U 306, U 307, U 308, U 309, U 310, U 311, U 312, U 313, U 314, U 315, U 316, U 317, U 318, U 319, U 320, U 321, U 322, U 323, U 324, U 325, U 326, U 327, U 328, U 329, U 330, U 331, U 332, U 333, U 334, U 335, U 336, U 337, U 338, U 339, U 340, U 341, U 342, U 343, U 344, U 345, U 346, U 347] ++ (M ++ [U 416, U 417, U 418, U 419, U 420, U 421, U 422, U 423, U 424, U 425, U 426, U 427, U 428, U 429, U 430, U 431, U 432, U 433, U 434, U 435, U 436, U 437, U 438, U 439, U 440, U 441, U 442, U 443, U 444, U 445, U 446, U 447, U 448, U 449, U 450, U 451, U 452, U 453, U 454, U 455, U 456, U 457, U 458, U 459, U 460, U 461, U 462, U 463])))

def LInv (lb : Nat) (s : ByteArray) (x : LX) (np : Bool) (P : Option (Nat × Bool × Bool)) (U : Nat → Value) (w : World) (a : Act) (w' : World) : Prop :=
  a.defers = [] ∧ ∃ (k : Nat) (b r : Bool) (M : List Value) (m : Nat), PreAt s x.p k b r P ∧ M.length = 68 ∧ a.tmps = LFr lb np U (.bool b) (.bool r) (.int .i64 k) M ∧ w' = w.drewN m

def LOut (lb : Nat) (np : Bool) (P : Option (Nat × Bool × Bool)) (U : Nat → Value) (w : World) (a : Act) (w' : World) : Prop :=
  P = none ∧ a.defers = [] ∧ ∃ (b r i : Value) (M : List Value) (m : Nat), M.length = 68 ∧ a.tmps = LFr lb np U b r i M ∧ w' = w.drewN m

def Lmu (a : Act) : Nat := 3 - (intOf (a.tmps.getD 9 undef)).toNat

def LPost (lb fb : Nat) (fp s : ByteArray) (x : LX) (np : Bool) (P : Option (Nat × Bool × Bool)) (U : Nat → Value) (w : World) (k : Nat) : Exit → Act → World → Prop
  | .normal, a, w' => LInv lb s x np P U w a w' ∧ Lmu a < 3 - k
  | .exit n, a, w' => n = 9 ∧ LOut lb np P U w a w'
  | .ret, a, w' => a.defers = [] ∧ LetRes np lb fb fp s x P w (.returned (.tuple #[])) w'
  | .panic chain, a, w' => a.defers = [] ∧ LetRes np lb fb fp s x P w (.panicked chain) w'
  | _, _, _ => False

def SPost (lb fb : Nat) (fp s : ByteArray) (x : LX) (np : Bool) (P : Option (Nat × Bool × Bool)) (U : Nat → Value) (w : World) : Exit → Act → World → Prop
  | .normal, a, w' => LOut lb np P U w a w'
  | .ret, a, w' => a.defers = [] ∧ LetRes np lb fb fp s x P w (.returned (.tuple #[])) w'
  | .panic chain, a, w' => a.defers = [] ∧ LetRes np lb fb fp s x P w (.panicked chain) w'
  | _, _, _ => False

theorem LPost.next {lb fb : Nat} {fp s : ByteArray} {x : LX} {np : Bool} {P : Option (Nat × Bool × Bool)} {U : Nat → Value} {w : World} {k : Nat} {i : Int} {b r : Bool} {m : Nat} (hA : PreAt s x.p (k + 1) b r P) (hi : i = ((k + 1 : Nat) : Int)) (hk : k < 3) {t : Array Value}
    (ht : ∃ M : List Value, M.length = 68 ∧ t = LFr lb np U (.bool b) (.bool r) (.int .i64 i) M) : LPost lb fb fp s x np P U w k .normal ⟨t, []⟩ (w.drewN m) := by
  subst hi
  obtain ⟨M, h1, rfl⟩ := ht
  refine ⟨⟨rfl, k + 1, b, r, M, m, hA, h1, rfl, rfl⟩, ?_⟩
  show 3 - (((k + 1 : Nat) : Int)).toNat < 3 - k
  omega
theorem LPost.out {lb fb : Nat} {fp s : ByteArray} {x : LX} {np : Bool} {P : Option (Nat × Bool × Bool)} {U : Nat → Value} {w : World} {k : Nat} {m : Nat} (hP : P = none) {t : Array Value}
    (ht : ∃ (b r i : Value) (M : List Value), M.length = 68 ∧ t = LFr lb np U b r i M) : LPost lb fb fp s x np P U w k (.exit 9) ⟨t, []⟩ (w.drewN m) := by
  obtain ⟨b, r, i, M, h1, rfl⟩ := ht
  exact ⟨rfl, hP, rfl, b, r, i, M, m, h1, rfl, rfl⟩

end Go.Proofs.YtngofbhlhcalpaaGreatDoor.lexer
