/-
  Lemmas and contracts of this claim, texts TokD. No statement of the seat is proved here.
-/
import Derived.Test.YtngofbhlhcalpaaGreatDoorZ17
import Derived.Test.YtngofbhlhcalpaaGreatDoorZ18
namespace Go.Proofs.YtngofbhlhcalpaaGreatDoor.lexer
open Go.RowKit Go.Proofs.YtngofbhlhcalpaaGreatDoor.gen
open Go.Proofs.YtngofbhlhcalpaaGreatDoor.upper (clash)

theorem dotted_eq (k : ByteArray) : dotted k = (k.toList == [60, 105, 100, 101, 110, 116, 62] || k.toList == [60, 112, 97, 114, 97, 109, 62] || k.toList == [41] || k.toList == [93]) := by
  unfold dotted; rw [ByteArray.toList_eq]; rfl

theorem isND_any (k : ByteArray) (w : World) :
    Calls Tryz.prog 71 #[.string k] w fun e w' => e = .returned (.bool (dotted k)) ∧ w = w' := by
  go_enter Tryz.func71, Tryz.ntmps71
  go_wp2
  all_goals first
    | (go_ret; refine ⟨ret_bool ?_, rfl⟩; rw [dotted_eq]; simp only [*, Bool.or_true, Bool.true_or, Bool.or_false]; done)
    | (go_ret; refine ⟨ret_bool ?_, rfl⟩; exact clash (b := k.toList == _) (by assumption) (by assumption))
    | trace_state

set_option maxRecDepth 100000 in
set_option maxHeartbeats 4000000 in
theorem tok_eof (lb fb : Nat) (fp s : ByteArray) (x : LX) (np : Bool) (w : World) (hS : St w lb fb fp s x) (hge : s.size ≤ x.p) :
    Calls Tryz.prog 52 #[.pointer (some ⟨lb, 0, none⟩), .bool np] w (Goes (.tuple #[]) lb fb fp s { x with kind := kEof } w) := by
  have hR := hS.rd
  have c1 := block_cell hS.lex 1
  have f1 := block_free hS.lex 1
  have HS := Lib.hid hS
  clear hS
  go_enter Tryz.func52, Tryz.ntmps52
  go_wp2_with (first | (go_at_call 61; first | ((with_reducible refine (eof_yes _ _ _ _ _ (hR.drewN _) ?_).mono ?_); omega; rintro e w' ⟨rfl, nq, rfl⟩) | ((with_reducible refine (eof_yes _ _ _ _ _ hR ?_).mono ?_); omega; rintro e w' ⟨rfl, nq, rfl⟩) | ((with_reducible refine (eof_no _ _ _ _ _ (hR.drewN _) ?_).mono ?_); omega; rintro e w' ⟨rfl, nq, rfl⟩) | ((with_reducible refine (eof_no _ _ _ _ _ hR ?_).mono ?_); omega; rintro e w' ⟨rfl, nq, rfl⟩)))
  go_end0
  exact ⟨rfl, (HS.out.drewN _).set 1 _ _ rfl HS.out.pz, ((Frm.refl _ _).drewN _).setCell _ _ (.inl (by simp))⟩

set_option maxRecDepth 100000 in
set_option maxHeartbeats 4000000 in
theorem tok_n48 (lb fb : Nat) (fp s : ByteArray) (x : LX) (np : Bool) (w : World) (hs : s.size ≤ 1048576) (hE : Env w lb fb) (hS : St w lb fb fp s x) (hF : Fresh x) (c : UInt8) (r : List UInt8) (hc : suf s x.p = c :: r) (h0 : byt s ((x.p : Int) + 0) = 48) (h1 : nn c = 48) :
    Calls Tryz.prog 52 #[.pointer (some ⟨lb, 0, none⟩), .bool np] w (TokRes np lb fb fp s x (num (suf s x.p)) w) := by
  have hR := hS.rd
  have hlt2 := (byt_lt s _ (by rw [h0]; decide : 0 ≤ byt s ((x.p : Int) + 0))).2
  have hlt : x.p < s.size := by omega
  have HS := Lib.hid hS
  have HE := Lib.hid hE
  have HF := Lib.hid hF
  have HC := Lib.hid hc
  clear hS hE hF hc
  go_enter Tryz.func52, Tryz.ntmps52
  go_wp2_with (first | (go_at_call 61; first | ((with_reducible refine (eof_yes _ _ _ _ _ (hR.drewN _) ?_).mono ?_); omega; rintro e w' ⟨rfl, nq, rfl⟩) | ((with_reducible refine (eof_yes _ _ _ _ _ hR ?_).mono ?_); omega; rintro e w' ⟨rfl, nq, rfl⟩) | ((with_reducible refine (eof_no _ _ _ _ _ (hR.drewN _) ?_).mono ?_); omega; rintro e w' ⟨rfl, nq, rfl⟩) | ((with_reducible refine (eof_no _ _ _ _ _ hR ?_).mono ?_); omega; rintro e w' ⟨rfl, nq, rfl⟩)) | (go_at_call 69; first | ((with_reducible refine (peek_any _ _ _ _ _ _ _ (hR.drewN _) ⟨?_, ?_, by assumption⟩).mono ?_); omega; omega; rintro e w' ⟨rfl, nq, rfl⟩) | ((with_reducible refine (peek_any _ _ _ _ _ _ _ hR ⟨?_, ?_, by assumption⟩).mono ?_); omega; omega; rintro e w' ⟨rfl, nq, rfl⟩)))
  refine (number_any lb fb fp s x np _ hs (HE.out.drewN _) (HS.out.drewN _) HF.out c r HC.out (.inl (by rw [h1]; decide))).mono ?_
  rintro e w1 (⟨t, ht, rfl, hS1, hF1⟩ | ⟨off, ht, hn, eb, rfl, hg1, hg2, hg3⟩ | ⟨off, y, ht, hn, hy1, hy2, hy3, rfl, hS1, hF1⟩)
  · go_wp2_with fail
    go_end0
    exact .inl ⟨t, ht, rfl, hS1, ((Frm.refl _ _).drewN _).step hF1⟩
  · have HT := Lib.hid ht
    have HN := Lib.hid hn
    clear ht hn
    go_wp2_with fail
    exact ⟨rfl, .inr (.inl ⟨off, HT.out, HN.out, eb, rfl, hg1, hg2, ((Frm.refl _ _).drewN _).step hg3⟩)⟩
  · have HT := Lib.hid ht
    have HN := Lib.hid hn
    have HY := Lib.hid hy2
    clear ht hn hy2
    go_wp2_with fail
    go_end0
    exact .inr (.inr ⟨off, y, HT.out, HN.out, hy1, HY.out, hy3, rfl, hS1, ((Frm.refl _ _).drewN _).step hF1⟩)

set_option maxRecDepth 100000 in
set_option maxHeartbeats 4000000 in
theorem tok_n49 (lb fb : Nat) (fp s : ByteArray) (x : LX) (np : Bool) (w : World) (hs : s.size ≤ 1048576) (hE : Env w lb fb) (hS : St w lb fb fp s x) (hF : Fresh x) (c : UInt8) (r : List UInt8) (hc : suf s x.p = c :: r) (h0 : byt s ((x.p : Int) + 0) = 49) (h1 : nn c = 49) :
    Calls Tryz.prog 52 #[.pointer (some ⟨lb, 0, none⟩), .bool np] w (TokRes np lb fb fp s x (num (suf s x.p)) w) := by
  have hR := hS.rd
  have hlt2 := (byt_lt s _ (by rw [h0]; decide : 0 ≤ byt s ((x.p : Int) + 0))).2
  have hlt : x.p < s.size := by omega
  have HS := Lib.hid hS
  have HE := Lib.hid hE
  have HF := Lib.hid hF
  have HC := Lib.hid hc
  clear hS hE hF hc
  go_enter Tryz.func52, Tryz.ntmps52
  go_wp2_with (first | (go_at_call 61; first | ((with_reducible refine (eof_yes _ _ _ _ _ (hR.drewN _) ?_).mono ?_); omega; rintro e w' ⟨rfl, nq, rfl⟩) | ((with_reducible refine (eof_yes _ _ _ _ _ hR ?_).mono ?_); omega; rintro e w' ⟨rfl, nq, rfl⟩) | ((with_reducible refine (eof_no _ _ _ _ _ (hR.drewN _) ?_).mono ?_); omega; rintro e w' ⟨rfl, nq, rfl⟩) | ((with_reducible refine (eof_no _ _ _ _ _ hR ?_).mono ?_); omega; rintro e w' ⟨rfl, nq, rfl⟩)) | (go_at_call 69; first | ((with_reducible refine (peek_any _ _ _ _ _ _ _ (hR.drewN _) ⟨?_, ?_, by assumption⟩).mono ?_); omega; omega; rintro e w' ⟨rfl, nq, rfl⟩) | ((with_reducible refine (peek_any _ _ _ _ _ _ _ hR ⟨?_, ?_, by assumption⟩).mono ?_); omega; omega; rintro e w' ⟨rfl, nq, rfl⟩)))
  refine (number_any lb fb fp s x np _ hs (HE.out.drewN _) (HS.out.drewN _) HF.out c r HC.out (.inl (by rw [h1]; decide))).mono ?_
  rintro e w1 (⟨t, ht, rfl, hS1, hF1⟩ | ⟨off, ht, hn, eb, rfl, hg1, hg2, hg3⟩ | ⟨off, y, ht, hn, hy1, hy2, hy3, rfl, hS1, hF1⟩)
  · go_wp2_with fail
    go_end0
    exact .inl ⟨t, ht, rfl, hS1, ((Frm.refl _ _).drewN _).step hF1⟩
  · have HT := Lib.hid ht
    have HN := Lib.hid hn
    clear ht hn
    go_wp2_with fail
    exact ⟨rfl, .inr (.inl ⟨off, HT.out, HN.out, eb, rfl, hg1, hg2, ((Frm.refl _ _).drewN _).step hg3⟩)⟩
  · have HT := Lib.hid ht
    have HN := Lib.hid hn
    have HY := Lib.hid hy2
    clear ht hn hy2
    go_wp2_with fail
    go_end0
    exact .inr (.inr ⟨off, y, HT.out, HN.out, hy1, HY.out, hy3, rfl, hS1, ((Frm.refl _ _).drewN _).step hF1⟩)

set_option maxRecDepth 100000 in
set_option maxHeartbeats 4000000 in
theorem tok_n50 (lb fb : Nat) (fp s : ByteArray) (x : LX) (np : Bool) (w : World) (hs : s.size ≤ 1048576) (hE : Env w lb fb) (hS : St w lb fb fp s x) (hF : Fresh x) (c : UInt8) (r : List UInt8) (hc : suf s x.p = c :: r) (h0 : byt s ((x.p : Int) + 0) = 50) (h1 : nn c = 50) :
    Calls Tryz.prog 52 #[.pointer (some ⟨lb, 0, none⟩), .bool np] w (TokRes np lb fb fp s x (num (suf s x.p)) w) := by
  have hR := hS.rd
  have hlt2 := (byt_lt s _ (by rw [h0]; decide : 0 ≤ byt s ((x.p : Int) + 0))).2
  have hlt : x.p < s.size := by omega
  have HS := Lib.hid hS
  have HE := Lib.hid hE
  have HF := Lib.hid hF
  have HC := Lib.hid hc
  clear hS hE hF hc
  go_enter Tryz.func52, Tryz.ntmps52
  go_wp2_with (first | (go_at_call 61; first | ((with_reducible refine (eof_yes _ _ _ _ _ (hR.drewN _) ?_).mono ?_); omega; rintro e w' ⟨rfl, nq, rfl⟩) | ((with_reducible refine (eof_yes _ _ _ _ _ hR ?_).mono ?_); omega; rintro e w' ⟨rfl, nq, rfl⟩) | ((with_reducible refine (eof_no _ _ _ _ _ (hR.drewN _) ?_).mono ?_); omega; rintro e w' ⟨rfl, nq, rfl⟩) | ((with_reducible refine (eof_no _ _ _ _ _ hR ?_).mono ?_); omega; rintro e w' ⟨rfl, nq, rfl⟩)) | (go_at_call 69; first | ((with_reducible refine (peek_any _ _ _ _ _ _ _ (hR.drewN _) ⟨?_, ?_, by assumption⟩).mono ?_); omega; omega; rintro e w' ⟨rfl, nq, rfl⟩) | ((with_reducible refine (peek_any _ _ _ _ _ _ _ hR ⟨?_, ?_, by assumption⟩).mono ?_); omega; omega; rintro e w' ⟨rfl, nq, rfl⟩)))
  refine (number_any lb fb fp s x np _ hs (HE.out.drewN _) (HS.out.drewN _) HF.out c r HC.out (.inl (by rw [h1]; decide))).mono ?_
  rintro e w1 (⟨t, ht, rfl, hS1, hF1⟩ | ⟨off, ht, hn, eb, rfl, hg1, hg2, hg3⟩ | ⟨off, y, ht, hn, hy1, hy2, hy3, rfl, hS1, hF1⟩)
  · go_wp2_with fail
    go_end0
    exact .inl ⟨t, ht, rfl, hS1, ((Frm.refl _ _).drewN _).step hF1⟩
  · have HT := Lib.hid ht
    have HN := Lib.hid hn
    clear ht hn
    go_wp2_with fail
    exact ⟨rfl, .inr (.inl ⟨off, HT.out, HN.out, eb, rfl, hg1, hg2, ((Frm.refl _ _).drewN _).step hg3⟩)⟩
  · have HT := Lib.hid ht
    have HN := Lib.hid hn
    have HY := Lib.hid hy2
    clear ht hn hy2
    go_wp2_with fail
    go_end0
    exact .inr (.inr ⟨off, y, HT.out, HN.out, hy1, HY.out, hy3, rfl, hS1, ((Frm.refl _ _).drewN _).step hF1⟩)

set_option maxRecDepth 100000 in
set_option maxHeartbeats 4000000 in
theorem tok_n51 (lb fb : Nat) (fp s : ByteArray) (x : LX) (np : Bool) (w : World) (hs : s.size ≤ 1048576) (hE : Env w lb fb) (hS : St w lb fb fp s x) (hF : Fresh x) (c : UInt8) (r : List UInt8) (hc : suf s x.p = c :: r) (h0 : byt s ((x.p : Int) + 0) = 51) (h1 : nn c = 51) :
    Calls Tryz.prog 52 #[.pointer (some ⟨lb, 0, none⟩), .bool np] w (TokRes np lb fb fp s x (num (suf s x.p)) w) := by
  have hR := hS.rd
  have hlt2 := (byt_lt s _ (by rw [h0]; decide : 0 ≤ byt s ((x.p : Int) + 0))).2
  have hlt : x.p < s.size := by omega
  have HS := Lib.hid hS
  have HE := Lib.hid hE
  have HF := Lib.hid hF
  have HC := Lib.hid hc
  clear hS hE hF hc
  go_enter Tryz.func52, Tryz.ntmps52
  go_wp2_with (first | (go_at_call 61; first | ((with_reducible refine (eof_yes _ _ _ _ _ (hR.drewN _) ?_).mono ?_); omega; rintro e w' ⟨rfl, nq, rfl⟩) | ((with_reducible refine (eof_yes _ _ _ _ _ hR ?_).mono ?_); omega; rintro e w' ⟨rfl, nq, rfl⟩) | ((with_reducible refine (eof_no _ _ _ _ _ (hR.drewN _) ?_).mono ?_); omega; rintro e w' ⟨rfl, nq, rfl⟩) | ((with_reducible refine (eof_no _ _ _ _ _ hR ?_).mono ?_); omega; rintro e w' ⟨rfl, nq, rfl⟩)) | (go_at_call 69; first | ((with_reducible refine (peek_any _ _ _ _ _ _ _ (hR.drewN _) ⟨?_, ?_, by assumption⟩).mono ?_); omega; omega; rintro e w' ⟨rfl, nq, rfl⟩) | ((with_reducible refine (peek_any _ _ _ _ _ _ _ hR ⟨?_, ?_, by assumption⟩).mono ?_); omega; omega; rintro e w' ⟨rfl, nq, rfl⟩)))
  refine (number_any lb fb fp s x np _ hs (HE.out.drewN _) (HS.out.drewN _) HF.out c r HC.out (.inl (by rw [h1]; decide))).mono ?_
  rintro e w1 (⟨t, ht, rfl, hS1, hF1⟩ | ⟨off, ht, hn, eb, rfl, hg1, hg2, hg3⟩ | ⟨off, y, ht, hn, hy1, hy2, hy3, rfl, hS1, hF1⟩)
  · go_wp2_with fail
    go_end0
    exact .inl ⟨t, ht, rfl, hS1, ((Frm.refl _ _).drewN _).step hF1⟩
  · have HT := Lib.hid ht
    have HN := Lib.hid hn
    clear ht hn
    go_wp2_with fail
    exact ⟨rfl, .inr (.inl ⟨off, HT.out, HN.out, eb, rfl, hg1, hg2, ((Frm.refl _ _).drewN _).step hg3⟩)⟩
  · have HT := Lib.hid ht
    have HN := Lib.hid hn
    have HY := Lib.hid hy2
    clear ht hn hy2
    go_wp2_with fail
    go_end0
    exact .inr (.inr ⟨off, y, HT.out, HN.out, hy1, HY.out, hy3, rfl, hS1, ((Frm.refl _ _).drewN _).step hF1⟩)

set_option maxRecDepth 100000 in
set_option maxHeartbeats 4000000 in
theorem tok_n52 (lb fb : Nat) (fp s : ByteArray) (x : LX) (np : Bool) (w : World) (hs : s.size ≤ 1048576) (hE : Env w lb fb) (hS : St w lb fb fp s x) (hF : Fresh x) (c : UInt8) (r : List UInt8) (hc : suf s x.p = c :: r) (h0 : byt s ((x.p : Int) + 0) = 52) (h1 : nn c = 52) :
    Calls Tryz.prog 52 #[.pointer (some ⟨lb, 0, none⟩), .bool np] w (TokRes np lb fb fp s x (num (suf s x.p)) w) := by
  have hR := hS.rd
  have hlt2 := (byt_lt s _ (by rw [h0]; decide : 0 ≤ byt s ((x.p : Int) + 0))).2
  have hlt : x.p < s.size := by omega
  have HS := Lib.hid hS
  have HE := Lib.hid hE
  have HF := Lib.hid hF
  have HC := Lib.hid hc
  clear hS hE hF hc
  go_enter Tryz.func52, Tryz.ntmps52
  go_wp2_with (first | (go_at_call 61; first | ((with_reducible refine (eof_yes _ _ _ _ _ (hR.drewN _) ?_).mono ?_); omega; rintro e w' ⟨rfl, nq, rfl⟩) | ((with_reducible refine (eof_yes _ _ _ _ _ hR ?_).mono ?_); omega; rintro e w' ⟨rfl, nq, rfl⟩) | ((with_reducible refine (eof_no _ _ _ _ _ (hR.drewN _) ?_).mono ?_); omega; rintro e w' ⟨rfl, nq, rfl⟩) | ((with_reducible refine (eof_no _ _ _ _ _ hR ?_).mono ?_); omega; rintro e w' ⟨rfl, nq, rfl⟩)) | (go_at_call 69; first | ((with_reducible refine (peek_any _ _ _ _ _ _ _ (hR.drewN _) ⟨?_, ?_, by assumption⟩).mono ?_); omega; omega; rintro e w' ⟨rfl, nq, rfl⟩) | ((with_reducible refine (peek_any _ _ _ _ _ _ _ hR ⟨?_, ?_, by assumption⟩).mono ?_); omega; omega; rintro e w' ⟨rfl, nq, rfl⟩)))
  refine (number_any lb fb fp s x np _ hs (HE.out.drewN _) (HS.out.drewN _) HF.out c r HC.out (.inl (by rw [h1]; decide))).mono ?_
  rintro e w1 (⟨t, ht, rfl, hS1, hF1⟩ | ⟨off, ht, hn, eb, rfl, hg1, hg2, hg3⟩ | ⟨off, y, ht, hn, hy1, hy2, hy3, rfl, hS1, hF1⟩)
  · go_wp2_with fail
    go_end0
    exact .inl ⟨t, ht, rfl, hS1, ((Frm.refl _ _).drewN _).step hF1⟩
  · have HT := Lib.hid ht
    have HN := Lib.hid hn
    clear ht hn
    go_wp2_with fail
    exact ⟨rfl, .inr (.inl ⟨off, HT.out, HN.out, eb, rfl, hg1, hg2, ((Frm.refl _ _).drewN _).step hg3⟩)⟩
  · have HT := Lib.hid ht
    have HN := Lib.hid hn
    have HY := Lib.hid hy2
    clear ht hn hy2
    go_wp2_with fail
    go_end0
    exact .inr (.inr ⟨off, y, HT.out, HN.out, hy1, HY.out, hy3, rfl, hS1, ((Frm.refl _ _).drewN _).step hF1⟩)

set_option maxRecDepth 100000 in
set_option maxHeartbeats 4000000 in
theorem tok_n53 (lb fb : Nat) (fp s : ByteArray) (x : LX) (np : Bool) (w : World) (hs : s.size ≤ 1048576) (hE : Env w lb fb) (hS : St w lb fb fp s x) (hF : Fresh x) (c : UInt8) (r : List UInt8) (hc : suf s x.p = c :: r) (h0 : byt s ((x.p : Int) + 0) = 53) (h1 : nn c = 53) :
    Calls Tryz.prog 52 #[.pointer (some ⟨lb, 0, none⟩), .bool np] w (TokRes np lb fb fp s x (num (suf s x.p)) w) := by
  have hR := hS.rd
  have hlt2 := (byt_lt s _ (by rw [h0]; decide : 0 ≤ byt s ((x.p : Int) + 0))).2
  have hlt : x.p < s.size := by omega
  have HS := Lib.hid hS
  have HE := Lib.hid hE
  have HF := Lib.hid hF
  have HC := Lib.hid hc
  clear hS hE hF hc
  go_enter Tryz.func52, Tryz.ntmps52
  go_wp2_with (first | (go_at_call 61; first | ((with_reducible refine (eof_yes _ _ _ _ _ (hR.drewN _) ?_).mono ?_); omega; rintro e w' ⟨rfl, nq, rfl⟩) | ((with_reducible refine (eof_yes _ _ _ _ _ hR ?_).mono ?_); omega; rintro e w' ⟨rfl, nq, rfl⟩) | ((with_reducible refine (eof_no _ _ _ _ _ (hR.drewN _) ?_).mono ?_); omega; rintro e w' ⟨rfl, nq, rfl⟩) | ((with_reducible refine (eof_no _ _ _ _ _ hR ?_).mono ?_); omega; rintro e w' ⟨rfl, nq, rfl⟩)) | (go_at_call 69; first | ((with_reducible refine (peek_any _ _ _ _ _ _ _ (hR.drewN _) ⟨?_, ?_, by assumption⟩).mono ?_); omega; omega; rintro e w' ⟨rfl, nq, rfl⟩) | ((with_reducible refine (peek_any _ _ _ _ _ _ _ hR ⟨?_, ?_, by assumption⟩).mono ?_); omega; omega; rintro e w' ⟨rfl, nq, rfl⟩)))
  refine (number_any lb fb fp s x np _ hs (HE.out.drewN _) (HS.out.drewN _) HF.out c r HC.out (.inl (by rw [h1]; decide))).mono ?_
  rintro e w1 (⟨t, ht, rfl, hS1, hF1⟩ | ⟨off, ht, hn, eb, rfl, hg1, hg2, hg3⟩ | ⟨off, y, ht, hn, hy1, hy2, hy3, rfl, hS1, hF1⟩)
  · go_wp2_with fail
    go_end0
    exact .inl ⟨t, ht, rfl, hS1, ((Frm.refl _ _).drewN _).step hF1⟩
  · have HT := Lib.hid ht
    have HN := Lib.hid hn
    clear ht hn
    go_wp2_with fail
    exact ⟨rfl, .inr (.inl ⟨off, HT.out, HN.out, eb, rfl, hg1, hg2, ((Frm.refl _ _).drewN _).step hg3⟩)⟩
  · have HT := Lib.hid ht
    have HN := Lib.hid hn
    have HY := Lib.hid hy2
    clear ht hn hy2
    go_wp2_with fail
    go_end0
    exact .inr (.inr ⟨off, y, HT.out, HN.out, hy1, HY.out, hy3, rfl, hS1, ((Frm.refl _ _).drewN _).step hF1⟩)

set_option maxRecDepth 100000 in
set_option maxHeartbeats 4000000 in
theorem tok_n54 (lb fb : Nat) (fp s : ByteArray) (x : LX) (np : Bool) (w : World) (hs : s.size ≤ 1048576) (hE : Env w lb fb) (hS : St w lb fb fp s x) (hF : Fresh x) (c : UInt8) (r : List UInt8) (hc : suf s x.p = c :: r) (h0 : byt s ((x.p : Int) + 0) = 54) (h1 : nn c = 54) :
    Calls Tryz.prog 52 #[.pointer (some ⟨lb, 0, none⟩), .bool np] w (TokRes np lb fb fp s x (num (suf s x.p)) w) := by
  have hR := hS.rd
  have hlt2 := (byt_lt s _ (by rw [h0]; decide : 0 ≤ byt s ((x.p : Int) + 0))).2
  have hlt : x.p < s.size := by omega
  have HS := Lib.hid hS
  have HE := Lib.hid hE
  have HF := Lib.hid hF
  have HC := Lib.hid hc
  clear hS hE hF hc
  go_enter Tryz.func52, Tryz.ntmps52
  go_wp2_with (first | (go_at_call 61; first | ((with_reducible refine (eof_yes _ _ _ _ _ (hR.drewN _) ?_).mono ?_); omega; rintro e w' ⟨rfl, nq, rfl⟩) | ((with_reducible refine (eof_yes _ _ _ _ _ hR ?_).mono ?_); omega; rintro e w' ⟨rfl, nq, rfl⟩) | ((with_reducible refine (eof_no _ _ _ _ _ (hR.drewN _) ?_).mono ?_); omega; rintro e w' ⟨rfl, nq, rfl⟩) | ((with_reducible refine (eof_no _ _ _ _ _ hR ?_).mono ?_); omega; rintro e w' ⟨rfl, nq, rfl⟩)) | (go_at_call 69; first | ((with_reducible refine (peek_any _ _ _ _ _ _ _ (hR.drewN _) ⟨?_, ?_, by assumption⟩).mono ?_); omega; omega; rintro e w' ⟨rfl, nq, rfl⟩) | ((with_reducible refine (peek_any _ _ _ _ _ _ _ hR ⟨?_, ?_, by assumption⟩).mono ?_); omega; omega; rintro e w' ⟨rfl, nq, rfl⟩)))
  refine (number_any lb fb fp s x np _ hs (HE.out.drewN _) (HS.out.drewN _) HF.out c r HC.out (.inl (by rw [h1]; decide))).mono ?_
  rintro e w1 (⟨t, ht, rfl, hS1, hF1⟩ | ⟨off, ht, hn, eb, rfl, hg1, hg2, hg3⟩ | ⟨off, y, ht, hn, hy1, hy2, hy3, rfl, hS1, hF1⟩)
  · go_wp2_with fail
    go_end0
    exact .inl ⟨t, ht, rfl, hS1, ((Frm.refl _ _).drewN _).step hF1⟩
  · have HT := Lib.hid ht
    have HN := Lib.hid hn
    clear ht hn
    go_wp2_with fail
    exact ⟨rfl, .inr (.inl ⟨off, HT.out, HN.out, eb, rfl, hg1, hg2, ((Frm.refl _ _).drewN _).step hg3⟩)⟩
  · have HT := Lib.hid ht
    have HN := Lib.hid hn
    have HY := Lib.hid hy2
    clear ht hn hy2
    go_wp2_with fail
    go_end0
    exact .inr (.inr ⟨off, y, HT.out, HN.out, hy1, HY.out, hy3, rfl, hS1, ((Frm.refl _ _).drewN _).step hF1⟩)

set_option maxRecDepth 100000 in
set_option maxHeartbeats 4000000 in
theorem tok_n55 (lb fb : Nat) (fp s : ByteArray) (x : LX) (np : Bool) (w : World) (hs : s.size ≤ 1048576) (hE : Env w lb fb) (hS : St w lb fb fp s x) (hF : Fresh x) (c : UInt8) (r : List UInt8) (hc : suf s x.p = c :: r) (h0 : byt s ((x.p : Int) + 0) = 55) (h1 : nn c = 55) :
    Calls Tryz.prog 52 #[.pointer (some ⟨lb, 0, none⟩), .bool np] w (TokRes np lb fb fp s x (num (suf s x.p)) w) := by
  have hR := hS.rd
  have hlt2 := (byt_lt s _ (by rw [h0]; decide : 0 ≤ byt s ((x.p : Int) + 0))).2
  have hlt : x.p < s.size := by omega
  have HS := Lib.hid hS
  have HE := Lib.hid hE
  have HF := Lib.hid hF
  have HC := Lib.hid hc
  clear hS hE hF hc
  go_enter Tryz.func52, Tryz.ntmps52
  go_wp2_with (first | (go_at_call 61; first | ((with_reducible refine (eof_yes _ _ _ _ _ (hR.drewN _) ?_).mono ?_); omega; rintro e w' ⟨rfl, nq, rfl⟩) | ((with_reducible refine (eof_yes _ _ _ _ _ hR ?_).mono ?_); omega; rintro e w' ⟨rfl, nq, rfl⟩) | ((with_reducible refine (eof_no _ _ _ _ _ (hR.drewN _) ?_).mono ?_); omega; rintro e w' ⟨rfl, nq, rfl⟩) | ((with_reducible refine (eof_no _ _ _ _ _ hR ?_).mono ?_); omega; rintro e w' ⟨rfl, nq, rfl⟩)) | (go_at_call 69; first | ((with_reducible refine (peek_any _ _ _ _ _ _ _ (hR.drewN _) ⟨?_, ?_, by assumption⟩).mono ?_); omega; omega; rintro e w' ⟨rfl, nq, rfl⟩) | ((with_reducible refine (peek_any _ _ _ _ _ _ _ hR ⟨?_, ?_, by assumption⟩).mono ?_); omega; omega; rintro e w' ⟨rfl, nq, rfl⟩)))
  refine (number_any lb fb fp s x np _ hs (HE.out.drewN _) (HS.out.drewN _) HF.out c r HC.out (.inl (by rw [h1]; decide))).mono ?_
  rintro e w1 (⟨t, ht, rfl, hS1, hF1⟩ | ⟨off, ht, hn, eb, rfl, hg1, hg2, hg3⟩ | ⟨off, y, ht, hn, hy1, hy2, hy3, rfl, hS1, hF1⟩)
  · go_wp2_with fail
    go_end0
    exact .inl ⟨t, ht, rfl, hS1, ((Frm.refl _ _).drewN _).step hF1⟩
  · have HT := Lib.hid ht
    have HN := Lib.hid hn
    clear ht hn
    go_wp2_with fail
    exact ⟨rfl, .inr (.inl ⟨off, HT.out, HN.out, eb, rfl, hg1, hg2, ((Frm.refl _ _).drewN _).step hg3⟩)⟩
  · have HT := Lib.hid ht
    have HN := Lib.hid hn
    have HY := Lib.hid hy2
    clear ht hn hy2
    go_wp2_with fail
    go_end0
    exact .inr (.inr ⟨off, y, HT.out, HN.out, hy1, HY.out, hy3, rfl, hS1, ((Frm.refl _ _).drewN _).step hF1⟩)

set_option maxRecDepth 100000 in
set_option maxHeartbeats 4000000 in
theorem tok_n56 (lb fb : Nat) (fp s : ByteArray) (x : LX) (np : Bool) (w : World) (hs : s.size ≤ 1048576) (hE : Env w lb fb) (hS : St w lb fb fp s x) (hF : Fresh x) (c : UInt8) (r : List UInt8) (hc : suf s x.p = c :: r) (h0 : byt s ((x.p : Int) + 0) = 56) (h1 : nn c = 56) :
    Calls Tryz.prog 52 #[.pointer (some ⟨lb, 0, none⟩), .bool np] w (TokRes np lb fb fp s x (num (suf s x.p)) w) := by
  have hR := hS.rd
  have hlt2 := (byt_lt s _ (by rw [h0]; decide : 0 ≤ byt s ((x.p : Int) + 0))).2
  have hlt : x.p < s.size := by omega
  have HS := Lib.hid hS
  have HE := Lib.hid hE
  have HF := Lib.hid hF
  have HC := Lib.hid hc
  clear hS hE hF hc
  go_enter Tryz.func52, Tryz.ntmps52
  go_wp2_with (first | (go_at_call 61; first | ((with_reducible refine (eof_yes _ _ _ _ _ (hR.drewN _) ?_).mono ?_); omega; rintro e w' ⟨rfl, nq, rfl⟩) | ((with_reducible refine (eof_yes _ _ _ _ _ hR ?_).mono ?_); omega; rintro e w' ⟨rfl, nq, rfl⟩) | ((with_reducible refine (eof_no _ _ _ _ _ (hR.drewN _) ?_).mono ?_); omega; rintro e w' ⟨rfl, nq, rfl⟩) | ((with_reducible refine (eof_no _ _ _ _ _ hR ?_).mono ?_); omega; rintro e w' ⟨rfl, nq, rfl⟩)) | (go_at_call 69; first | ((with_reducible refine (peek_any _ _ _ _ _ _ _ (hR.drewN _) ⟨?_, ?_, by assumption⟩).mono ?_); omega; omega; rintro e w' ⟨rfl, nq, rfl⟩) | ((with_reducible refine (peek_any _ _ _ _ _ _ _ hR ⟨?_, ?_, by assumption⟩).mono ?_); omega; omega; rintro e w' ⟨rfl, nq, rfl⟩)))
  refine (number_any lb fb fp s x np _ hs (HE.out.drewN _) (HS.out.drewN _) HF.out c r HC.out (.inl (by rw [h1]; decide))).mono ?_
  rintro e w1 (⟨t, ht, rfl, hS1, hF1⟩ | ⟨off, ht, hn, eb, rfl, hg1, hg2, hg3⟩ | ⟨off, y, ht, hn, hy1, hy2, hy3, rfl, hS1, hF1⟩)
  · go_wp2_with fail
    go_end0
    exact .inl ⟨t, ht, rfl, hS1, ((Frm.refl _ _).drewN _).step hF1⟩
  · have HT := Lib.hid ht
    have HN := Lib.hid hn
    clear ht hn
    go_wp2_with fail
    exact ⟨rfl, .inr (.inl ⟨off, HT.out, HN.out, eb, rfl, hg1, hg2, ((Frm.refl _ _).drewN _).step hg3⟩)⟩
  · have HT := Lib.hid ht
    have HN := Lib.hid hn
    have HY := Lib.hid hy2
    clear ht hn hy2
    go_wp2_with fail
    go_end0
    exact .inr (.inr ⟨off, y, HT.out, HN.out, hy1, HY.out, hy3, rfl, hS1, ((Frm.refl _ _).drewN _).step hF1⟩)

set_option maxRecDepth 100000 in
set_option maxHeartbeats 4000000 in
theorem tok_n57 (lb fb : Nat) (fp s : ByteArray) (x : LX) (np : Bool) (w : World) (hs : s.size ≤ 1048576) (hE : Env w lb fb) (hS : St w lb fb fp s x) (hF : Fresh x) (c : UInt8) (r : List UInt8) (hc : suf s x.p = c :: r) (h0 : byt s ((x.p : Int) + 0) = 57) (h1 : nn c = 57) :
    Calls Tryz.prog 52 #[.pointer (some ⟨lb, 0, none⟩), .bool np] w (TokRes np lb fb fp s x (num (suf s x.p)) w) := by
  have hR := hS.rd
  have hlt2 := (byt_lt s _ (by rw [h0]; decide : 0 ≤ byt s ((x.p : Int) + 0))).2
  have hlt : x.p < s.size := by omega
  have HS := Lib.hid hS
  have HE := Lib.hid hE
  have HF := Lib.hid hF
  have HC := Lib.hid hc
  clear hS hE hF hc
  go_enter Tryz.func52, Tryz.ntmps52
  go_wp2_with (first | (go_at_call 61; first | ((with_reducible refine (eof_yes _ _ _ _ _ (hR.drewN _) ?_).mono ?_); omega; rintro e w' ⟨rfl, nq, rfl⟩) | ((with_reducible refine (eof_yes _ _ _ _ _ hR ?_).mono ?_); omega; rintro e w' ⟨rfl, nq, rfl⟩) | ((with_reducible refine (eof_no _ _ _ _ _ (hR.drewN _) ?_).mono ?_); omega; rintro e w' ⟨rfl, nq, rfl⟩) | ((with_reducible refine (eof_no _ _ _ _ _ hR ?_).mono ?_); omega; rintro e w' ⟨rfl, nq, rfl⟩)) | (go_at_call 69; first | ((with_reducible refine (peek_any _ _ _ _ _ _ _ (hR.drewN _) ⟨?_, ?_, by assumption⟩).mono ?_); omega; omega; rintro e w' ⟨rfl, nq, rfl⟩) | ((with_reducible refine (peek_any _ _ _ _ _ _ _ hR ⟨?_, ?_, by assumption⟩).mono ?_); omega; omega; rintro e w' ⟨rfl, nq, rfl⟩)))
  refine (number_any lb fb fp s x np _ hs (HE.out.drewN _) (HS.out.drewN _) HF.out c r HC.out (.inl (by rw [h1]; decide))).mono ?_
  rintro e w1 (⟨t, ht, rfl, hS1, hF1⟩ | ⟨off, ht, hn, eb, rfl, hg1, hg2, hg3⟩ | ⟨off, y, ht, hn, hy1, hy2, hy3, rfl, hS1, hF1⟩)
  · go_wp2_with fail
    go_end0
    exact .inl ⟨t, ht, rfl, hS1, ((Frm.refl _ _).drewN _).step hF1⟩
  · have HT := Lib.hid ht
    have HN := Lib.hid hn
    clear ht hn
    go_wp2_with fail
    exact ⟨rfl, .inr (.inl ⟨off, HT.out, HN.out, eb, rfl, hg1, hg2, ((Frm.refl _ _).drewN _).step hg3⟩)⟩
  · have HT := Lib.hid ht
    have HN := Lib.hid hn
    have HY := Lib.hid hy2
    clear ht hn hy2
    go_wp2_with fail
    go_end0
    exact .inr (.inr ⟨off, y, HT.out, HN.out, hy1, HY.out, hy3, rfl, hS1, ((Frm.refl _ _).drewN _).step hF1⟩)

def DotG (lb fb : Nat) (fp s : ByteArray) (x : LX) (d : Bool) (w : World) (e : Ending) (w' : World) : Prop := Goes (.tuple #[]) lb fb fp s { x with p := x.p + 1, kind := ⟨#[46]⟩, dot := d } w e w'

set_option maxRecDepth 100000 in
set_option maxHeartbeats 4000000 in
theorem tok_dotYes (lb fb : Nat) (fp s : ByteArray) (x : LX) (np : Bool) (w : World) (hS : St w lb fb fp s x) (h0 : byt s ((x.p : Int) + 0) = 46) (hd : dotted x.last = true) :
    Calls Tryz.prog 52 #[.pointer (some ⟨lb, 0, none⟩), .bool np] w (DotG lb fb fp s x true w) := by
  have hR := hS.rd
  have hsz := hS.sz
  have hlt2 := (byt_lt s _ (by rw [h0]; decide : 0 ≤ byt s ((x.p : Int) + 0))).2
  have hlt : x.p < s.size := by omega
  have c10 : w.cell? ⟨lb, 10, none⟩ = some (.string x.last) := block_cell hS.lex 10
  have HS := Lib.hid hS
  have HD := Lib.hid hd
  clear hS hd
  go_enter Tryz.func52, Tryz.ntmps52
  go_wp2_with (first | (go_at_call 71; refine (isND_any _ _).mono ?_; rw [HD.out]; rintro e w' ⟨rfl, rfl⟩) | (first | (go_at_call 61; first | ((with_reducible refine (eof_yes _ _ _ _ _ (hR.drewN _) ?_).mono ?_); omega; rintro e w' ⟨rfl, nq, rfl⟩) | ((with_reducible refine (eof_yes _ _ _ _ _ hR ?_).mono ?_); omega; rintro e w' ⟨rfl, nq, rfl⟩) | ((with_reducible refine (eof_no _ _ _ _ _ (hR.drewN _) ?_).mono ?_); omega; rintro e w' ⟨rfl, nq, rfl⟩) | ((with_reducible refine (eof_no _ _ _ _ _ hR ?_).mono ?_); omega; rintro e w' ⟨rfl, nq, rfl⟩)) | (go_at_call 69; first | ((with_reducible refine (peek_any _ _ _ _ _ _ _ (hR.drewN _) ⟨?_, ?_, by assumption⟩).mono ?_); omega; omega; rintro e w' ⟨rfl, nq, rfl⟩) | ((with_reducible refine (peek_any _ _ _ _ _ _ _ hR ⟨?_, ?_, by assumption⟩).mono ?_); omega; omega; rintro e w' ⟨rfl, nq, rfl⟩))))
  refine (skip_any lb fb fp s x 46 { x with p := x.p + 1 } _ (HS.out.drewN _) ⟨by omega, h0⟩ rfl).mono ?_
  rintro e w1 ⟨rfl, hS1, hF1⟩
  have hF1' : Frm w w1 [lb] := ((Frm.refl w [lb]).drewN _).step hF1
  have c1 := block_cell hS1.lex 1
  have f1 := block_free hS1.lex 1
  have c11 := block_cell hS1.lex 11
  have f11 := block_free hS1.lex 11
  have HS1 := Lib.hid hS1
  clear hS1 hF1 hR
  go_wp2_with fail
  go_end0
  exact ⟨rfl, (HS1.out.set 1 _ { x with p := x.p + 1, kind := ⟨#[46]⟩ } rfl HS1.out.pz).set 11 _ _ rfl HS1.out.pz, (hF1'.setCell _ _ (.inl (by simp))).setCell _ _ (.inl (by simp))⟩

set_option maxRecDepth 100000 in
set_option maxHeartbeats 4000000 in
theorem tok_dotEnd (lb fb : Nat) (fp s : ByteArray) (x : LX) (np : Bool) (w : World) (hS : St w lb fb fp s x) (h0 : byt s ((x.p : Int) + 0) = 46) (hd : dotted x.last = false) (h1 : s.size ≤ x.p + 1) :
    Calls Tryz.prog 52 #[.pointer (some ⟨lb, 0, none⟩), .bool np] w (DotG lb fb fp s x false w) := by
  have hR := hS.rd
  have hsz := hS.sz
  have hlt2 := (byt_lt s _ (by rw [h0]; decide : 0 ≤ byt s ((x.p : Int) + 0))).2
  have hlt : x.p < s.size := by omega
  have c10 : w.cell? ⟨lb, 10, none⟩ = some (.string x.last) := block_cell hS.lex 10
  have HS := Lib.hid hS
  have HD := Lib.hid hd
  clear hS hd
  go_enter Tryz.func52, Tryz.ntmps52
  go_wp2_with (first | (go_at_call 71; refine (isND_any _ _).mono ?_; rw [HD.out]; rintro e w' ⟨rfl, rfl⟩) | (first | (go_at_call 61; first | ((with_reducible refine (eof_yes _ _ _ _ _ (hR.drewN _) ?_).mono ?_); omega; rintro e w' ⟨rfl, nq, rfl⟩) | ((with_reducible refine (eof_yes _ _ _ _ _ hR ?_).mono ?_); omega; rintro e w' ⟨rfl, nq, rfl⟩) | ((with_reducible refine (eof_no _ _ _ _ _ (hR.drewN _) ?_).mono ?_); omega; rintro e w' ⟨rfl, nq, rfl⟩) | ((with_reducible refine (eof_no _ _ _ _ _ hR ?_).mono ?_); omega; rintro e w' ⟨rfl, nq, rfl⟩)) | (go_at_call 69; first | ((with_reducible refine (peek_any _ _ _ _ _ _ _ (hR.drewN _) ⟨?_, ?_, by assumption⟩).mono ?_); omega; omega; rintro e w' ⟨rfl, nq, rfl⟩) | ((with_reducible refine (peek_any _ _ _ _ _ _ _ hR ⟨?_, ?_, by assumption⟩).mono ?_); omega; omega; rintro e w' ⟨rfl, nq, rfl⟩)) | (go_at_call 67; first | ((with_reducible refine (peekOk_yes _ _ _ _ _ _ (hR.drewN _) ?_).mono ?_); omega; rintro e w' ⟨rfl, nq, rfl⟩) | ((with_reducible refine (peekOk_yes _ _ _ _ _ _ hR ?_).mono ?_); omega; rintro e w' ⟨rfl, nq, rfl⟩) | ((with_reducible refine (peekOk_no _ _ _ _ _ _ (hR.drewN _) ?_).mono ?_); omega; rintro e w' ⟨rfl, nq, rfl⟩) | ((with_reducible refine (peekOk_no _ _ _ _ _ _ hR ?_).mono ?_); omega; rintro e w' ⟨rfl, nq, rfl⟩))))
  refine (skip_any lb fb fp s x 46 { x with p := x.p + 1 } _ (HS.out.drewN _) ⟨by omega, h0⟩ rfl).mono ?_
  rintro e w1 ⟨rfl, hS1, hF1⟩
  have hF1' : Frm w w1 [lb] := ((Frm.refl w [lb]).drewN _).step hF1
  have c1 := block_cell hS1.lex 1
  have f1 := block_free hS1.lex 1
  have c11 := block_cell hS1.lex 11
  have f11 := block_free hS1.lex 11
  have HS1 := Lib.hid hS1
  clear hS1 hF1 hR
  go_wp2_with fail
  go_end0
  exact ⟨rfl, (HS1.out.set 1 _ { x with p := x.p + 1, kind := ⟨#[46]⟩ } rfl HS1.out.pz).set 11 _ _ rfl HS1.out.pz, (hF1'.setCell _ _ (.inl (by simp))).setCell _ _ (.inl (by simp))⟩

set_option maxRecDepth 100000 in
set_option maxHeartbeats 4000000 in
theorem tok_dotNo (lb fb : Nat) (fp s : ByteArray) (x : LX) (np : Bool) (w : World) (hS : St w lb fb fp s x) (h0 : byt s ((x.p : Int) + 0) = 46) (hd : dotted x.last = false) (c : Int) (hc0 : 0 ≤ c) (h1 : byt s ((x.p : Int) + 1) = c) (hc : dg c = false) :
    Calls Tryz.prog 52 #[.pointer (some ⟨lb, 0, none⟩), .bool np] w (DotG lb fb fp s x false w) := by
  have hlt3 := (byt_lt s _ (by rw [h1]; exact hc0 : 0 ≤ byt s ((x.p : Int) + 1))).2
  have hR := hS.rd
  have hsz := hS.sz
  have hlt2 := (byt_lt s _ (by rw [h0]; decide : 0 ≤ byt s ((x.p : Int) + 0))).2
  have hlt : x.p < s.size := by omega
  have c10 : w.cell? ⟨lb, 10, none⟩ = some (.string x.last) := block_cell hS.lex 10
  have HS := Lib.hid hS
  have HD := Lib.hid hd
  clear hS hd
  go_enter Tryz.func52, Tryz.ntmps52
  go_wp2_with (first | (go_at_call 71; refine (isND_any _ _).mono ?_; rw [HD.out]; rintro e w' ⟨rfl, rfl⟩) | (first | (go_at_call 61; first | ((with_reducible refine (eof_yes _ _ _ _ _ (hR.drewN _) ?_).mono ?_); omega; rintro e w' ⟨rfl, nq, rfl⟩) | ((with_reducible refine (eof_yes _ _ _ _ _ hR ?_).mono ?_); omega; rintro e w' ⟨rfl, nq, rfl⟩) | ((with_reducible refine (eof_no _ _ _ _ _ (hR.drewN _) ?_).mono ?_); omega; rintro e w' ⟨rfl, nq, rfl⟩) | ((with_reducible refine (eof_no _ _ _ _ _ hR ?_).mono ?_); omega; rintro e w' ⟨rfl, nq, rfl⟩)) | (go_at_call 69; first | ((with_reducible refine (peek_any _ _ _ _ _ _ _ (hR.drewN _) ⟨?_, ?_, by assumption⟩).mono ?_); omega; omega; rintro e w' ⟨rfl, nq, rfl⟩) | ((with_reducible refine (peek_any _ _ _ _ _ _ _ hR ⟨?_, ?_, by assumption⟩).mono ?_); omega; omega; rintro e w' ⟨rfl, nq, rfl⟩)) | (go_at_call 67; first | ((with_reducible refine (peekOk_yes _ _ _ _ _ _ (hR.drewN _) ?_).mono ?_); omega; rintro e w' ⟨rfl, nq, rfl⟩) | ((with_reducible refine (peekOk_yes _ _ _ _ _ _ hR ?_).mono ?_); omega; rintro e w' ⟨rfl, nq, rfl⟩) | ((with_reducible refine (peekOk_no _ _ _ _ _ _ (hR.drewN _) ?_).mono ?_); omega; rintro e w' ⟨rfl, nq, rfl⟩) | ((with_reducible refine (peekOk_no _ _ _ _ _ _ hR ?_).mono ?_); omega; rintro e w' ⟨rfl, nq, rfl⟩)) | (go_at_call 72; refine (isDigit_any _ _).mono ?_; rintro e w' ⟨rfl, rfl⟩)))
  refine (skip_any lb fb fp s x 46 { x with p := x.p + 1 } _ (HS.out.drewN _) ⟨by omega, h0⟩ rfl).mono ?_
  rintro e w1 ⟨rfl, hS1, hF1⟩
  have hF1' : Frm w w1 [lb] := ((Frm.refl w [lb]).drewN _).step hF1
  have c1 := block_cell hS1.lex 1
  have f1 := block_free hS1.lex 1
  have c11 := block_cell hS1.lex 11
  have f11 := block_free hS1.lex 11
  have HS1 := Lib.hid hS1
  clear hS1 hF1 hR
  go_wp2_with fail
  go_end0
  exact ⟨rfl, (HS1.out.set 1 _ { x with p := x.p + 1, kind := ⟨#[46]⟩ } rfl HS1.out.pz).set 11 _ _ rfl HS1.out.pz, (hF1'.setCell _ _ (.inl (by simp))).setCell _ _ (.inl (by simp))⟩

set_option maxRecDepth 100000 in
set_option maxHeartbeats 4000000 in
theorem tok_dotNum (lb fb : Nat) (fp s : ByteArray) (x : LX) (np : Bool) (w : World) (hs : s.size ≤ 1048576) (hE : Env w lb fb) (hS : St w lb fb fp s x) (hF : Fresh x) (c : UInt8) (r : List UInt8) (hc : suf s x.p = c :: r) (h46 : nn c = 46) (h0 : byt s ((x.p : Int) + 0) = 46) (hd : dotted x.last = false) (d : Int) (hd0 : 0 ≤ d) (h1 : byt s ((x.p : Int) + 1) = d) (hdg : dg d = true) :
    Calls Tryz.prog 52 #[.pointer (some ⟨lb, 0, none⟩), .bool np] w (TokRes np lb fb fp s x (num (suf s x.p)) w) := by
  have hlt3 := (byt_lt s _ (by rw [h1]; exact hd0 : 0 ≤ byt s ((x.p : Int) + 1))).2
  have HE := Lib.hid hE
  have HF := Lib.hid hF
  have HC := Lib.hid hc
  have H46 := Lib.hid h46
  clear hE hF hc h46
  have hR := hS.rd
  have hsz := hS.sz
  have hlt2 := (byt_lt s _ (by rw [h0]; decide : 0 ≤ byt s ((x.p : Int) + 0))).2
  have hlt : x.p < s.size := by omega
  have c10 : w.cell? ⟨lb, 10, none⟩ = some (.string x.last) := block_cell hS.lex 10
  have HS := Lib.hid hS
  have HD := Lib.hid hd
  clear hS hd
  go_enter Tryz.func52, Tryz.ntmps52
  go_wp2_with (first | (go_at_call 71; refine (isND_any _ _).mono ?_; rw [HD.out]; rintro e w' ⟨rfl, rfl⟩) | (first | (go_at_call 61; first | ((with_reducible refine (eof_yes _ _ _ _ _ (hR.drewN _) ?_).mono ?_); omega; rintro e w' ⟨rfl, nq, rfl⟩) | ((with_reducible refine (eof_yes _ _ _ _ _ hR ?_).mono ?_); omega; rintro e w' ⟨rfl, nq, rfl⟩) | ((with_reducible refine (eof_no _ _ _ _ _ (hR.drewN _) ?_).mono ?_); omega; rintro e w' ⟨rfl, nq, rfl⟩) | ((with_reducible refine (eof_no _ _ _ _ _ hR ?_).mono ?_); omega; rintro e w' ⟨rfl, nq, rfl⟩)) | (go_at_call 69; first | ((with_reducible refine (peek_any _ _ _ _ _ _ _ (hR.drewN _) ⟨?_, ?_, by assumption⟩).mono ?_); omega; omega; rintro e w' ⟨rfl, nq, rfl⟩) | ((with_reducible refine (peek_any _ _ _ _ _ _ _ hR ⟨?_, ?_, by assumption⟩).mono ?_); omega; omega; rintro e w' ⟨rfl, nq, rfl⟩)) | (go_at_call 67; first | ((with_reducible refine (peekOk_yes _ _ _ _ _ _ (hR.drewN _) ?_).mono ?_); omega; rintro e w' ⟨rfl, nq, rfl⟩) | ((with_reducible refine (peekOk_yes _ _ _ _ _ _ hR ?_).mono ?_); omega; rintro e w' ⟨rfl, nq, rfl⟩) | ((with_reducible refine (peekOk_no _ _ _ _ _ _ (hR.drewN _) ?_).mono ?_); omega; rintro e w' ⟨rfl, nq, rfl⟩) | ((with_reducible refine (peekOk_no _ _ _ _ _ _ hR ?_).mono ?_); omega; rintro e w' ⟨rfl, nq, rfl⟩)) | (go_at_call 72; refine (isDigit_any _ _).mono ?_; rintro e w' ⟨rfl, rfl⟩)))
  refine (number_any lb fb fp s x np _ hs (HE.out.drewN _) (HS.out.drewN _) HF.out c r HC.out (.inr H46.out)).mono ?_
  rintro e w1 (⟨t, ht, rfl, hS1, hF1⟩ | ⟨off, ht, hn, eb, rfl, hg1, hg2, hg3⟩ | ⟨off, y, ht, hn, hy1, hy2, hy3, rfl, hS1, hF1⟩)
  · go_wp2_with fail
    go_end0
    exact .inl ⟨t, ht, rfl, hS1, ((Frm.refl _ _).drewN _).step hF1⟩
  · have HT := Lib.hid ht
    have HN := Lib.hid hn
    clear ht hn
    go_wp2_with fail
    exact ⟨rfl, .inr (.inl ⟨off, HT.out, HN.out, eb, rfl, hg1, hg2, ((Frm.refl _ _).drewN _).step hg3⟩)⟩
  · have HT := Lib.hid ht
    have HN := Lib.hid hn
    have HY := Lib.hid hy2
    clear ht hn hy2
    go_wp2_with fail
    go_end0
    exact .inr (.inr ⟨off, y, HT.out, HN.out, hy1, HY.out, hy3, rfl, hS1, ((Frm.refl _ _).drewN _).step hF1⟩)

end Go.Proofs.YtngofbhlhcalpaaGreatDoor.lexer
