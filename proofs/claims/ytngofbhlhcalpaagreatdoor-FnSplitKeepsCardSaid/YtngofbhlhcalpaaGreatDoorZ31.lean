/-
  Lemmas and contracts of this claim, texts TokE. No statement of the seat is proved here.
-/
import Derived.BigRegion
import Derived.Test.YtngofbhlhcalpaaGreatDoorZ18
namespace Go.Proofs.YtngofbhlhcalpaaGreatDoor.lexer
open Go.RowKit Go.Proofs.YtngofbhlhcalpaaGreatDoor.gen

theorem St.drew {w : World} {lb fb : Nat} {fp s : ByteArray} {x : LX} (h : St w lb fb fp s x) : St w.drew lb fb fp s x := ⟨h.lex, h.file, h.ne, h.sz, h.pz⟩

set_option maxRecDepth 100000 in
set_option maxHeartbeats 4000000 in
theorem tok_at (lb fb : Nat) (fp s : ByteArray) (x : LX) (np : Bool) (w : World) (hS : St w lb fb fp s x) (h0 : byt s ((x.p : Int) + 0) = 64) (c : Int) (h1 : byt s ((x.p : Int) + 1) = c) (hc : ¬ c = 64) (hi : ids c = false) :
    Calls Tryz.prog 52 #[.pointer (some ⟨lb, 0, none⟩), .bool np] w (Goes (.tuple #[]) lb fb fp s { x with p := x.p + 1, kind := ⟨#[64]⟩ } w) := by
  have hR := hS.rd
  have hsz := hS.sz
  have hlt2 := (byt_lt s _ (by rw [h0]; decide : 0 ≤ byt s ((x.p : Int) + 0))).2
  have hlt : x.p < s.size := by omega
  have HS := Lib.hid hS
  clear hS
  by_cases hc0 : 0 ≤ c
  · have hlt3 := (byt_lt s _ (by rw [h1]; exact hc0 : 0 ≤ byt s ((x.p : Int) + 1))).2
    go_enter Tryz.func52, Tryz.ntmps52
    go_wp2_with (first | (go_at_call 61; first | ((with_reducible refine (eof_yes _ _ _ _ _ (hR.drewN _) ?_).mono ?_); omega; rintro e w' ⟨rfl, nq, rfl⟩) | ((with_reducible refine (eof_yes _ _ _ _ _ hR ?_).mono ?_); omega; rintro e w' ⟨rfl, nq, rfl⟩) | ((with_reducible refine (eof_no _ _ _ _ _ (hR.drewN _) ?_).mono ?_); omega; rintro e w' ⟨rfl, nq, rfl⟩) | ((with_reducible refine (eof_no _ _ _ _ _ hR ?_).mono ?_); omega; rintro e w' ⟨rfl, nq, rfl⟩)) | (go_at_call 69; first | ((with_reducible refine (peek_any _ _ _ _ _ _ _ (hR.drewN _) ⟨?_, ?_, by assumption⟩).mono ?_); omega; omega; rintro e w' ⟨rfl, nq, rfl⟩) | ((with_reducible refine (peek_any _ _ _ _ _ _ _ hR ⟨?_, ?_, by assumption⟩).mono ?_); omega; omega; rintro e w' ⟨rfl, nq, rfl⟩)) | (go_at_call 65; first | ((with_reducible refine (peekIs_yes _ _ _ _ _ _ _ (hR.drewN _) ?_).mono ?_); omega; rintro e w' ⟨rfl, nq, rfl⟩) | ((with_reducible refine (peekIs_yes _ _ _ _ _ _ _ hR ?_).mono ?_); omega; rintro e w' ⟨rfl, nq, rfl⟩) | ((with_reducible refine (peekIs_no _ _ _ _ _ _ _ (hR.drewN _) ?_).mono ?_); omega; rintro e w' ⟨rfl, nq, rfl⟩) | ((with_reducible refine (peekIs_no _ _ _ _ _ _ _ hR ?_).mono ?_); omega; rintro e w' ⟨rfl, nq, rfl⟩)) | (go_at_call 67; first | ((with_reducible refine (peekOk_yes _ _ _ _ _ _ (hR.drewN _) ?_).mono ?_); omega; rintro e w' ⟨rfl, nq, rfl⟩) | ((with_reducible refine (peekOk_yes _ _ _ _ _ _ hR ?_).mono ?_); omega; rintro e w' ⟨rfl, nq, rfl⟩) | ((with_reducible refine (peekOk_no _ _ _ _ _ _ (hR.drewN _) ?_).mono ?_); omega; rintro e w' ⟨rfl, nq, rfl⟩) | ((with_reducible refine (peekOk_no _ _ _ _ _ _ hR ?_).mono ?_); omega; rintro e w' ⟨rfl, nq, rfl⟩)) | (go_at_call 74; refine (isIdentStart_any _ _).mono ?_; rintro e w' ⟨rfl, rfl⟩))
    refine (skip_any lb fb fp s x 64 { x with p := x.p + 1 } _ (HS.out.drewN _) ⟨by omega, h0⟩ rfl).mono ?_
    rintro e w1 ⟨rfl, hS1, hF1⟩
    have hF1' : Frm w w1 [lb] := ((Frm.refl w [lb]).drewN _).step hF1
    have f1 := block_free hS1.lex 1
    have c1 := block_cell hS1.lex 1
    have HS1 := Lib.hid hS1
    clear hS1 hR hF1
    go_wp2_with fail
    go_end0
    exact ⟨rfl, HS1.out.set 1 _ _ rfl HS1.out.pz, hF1'.setCell _ _ (.inl (by simp))⟩
  · have hge3 : (s.size : Int) ≤ (x.p : Int) + 1 := by
      rcases Int.lt_or_le ((x.p : Int) + 1) s.size with hlt | hge
      · have := byt_ge s ((x.p : Int) + 1) (by omega) hlt
        omega
      · exact hge
    go_enter Tryz.func52, Tryz.ntmps52
    go_wp2_with (first | (go_at_call 61; first | ((with_reducible refine (eof_yes _ _ _ _ _ (hR.drewN _) ?_).mono ?_); omega; rintro e w' ⟨rfl, nq, rfl⟩) | ((with_reducible refine (eof_yes _ _ _ _ _ hR ?_).mono ?_); omega; rintro e w' ⟨rfl, nq, rfl⟩) | ((with_reducible refine (eof_no _ _ _ _ _ (hR.drewN _) ?_).mono ?_); omega; rintro e w' ⟨rfl, nq, rfl⟩) | ((with_reducible refine (eof_no _ _ _ _ _ hR ?_).mono ?_); omega; rintro e w' ⟨rfl, nq, rfl⟩)) | (go_at_call 69; first | ((with_reducible refine (peek_any _ _ _ _ _ _ _ (hR.drewN _) ⟨?_, ?_, by assumption⟩).mono ?_); omega; omega; rintro e w' ⟨rfl, nq, rfl⟩) | ((with_reducible refine (peek_any _ _ _ _ _ _ _ hR ⟨?_, ?_, by assumption⟩).mono ?_); omega; omega; rintro e w' ⟨rfl, nq, rfl⟩)) | (go_at_call 65; first | ((with_reducible refine (peekIs_yes _ _ _ _ _ _ _ (hR.drewN _) ?_).mono ?_); omega; rintro e w' ⟨rfl, nq, rfl⟩) | ((with_reducible refine (peekIs_yes _ _ _ _ _ _ _ hR ?_).mono ?_); omega; rintro e w' ⟨rfl, nq, rfl⟩) | ((with_reducible refine (peekIs_no _ _ _ _ _ _ _ (hR.drewN _) ?_).mono ?_); omega; rintro e w' ⟨rfl, nq, rfl⟩) | ((with_reducible refine (peekIs_no _ _ _ _ _ _ _ hR ?_).mono ?_); omega; rintro e w' ⟨rfl, nq, rfl⟩)) | (go_at_call 67; first | ((with_reducible refine (peekOk_yes _ _ _ _ _ _ (hR.drewN _) ?_).mono ?_); omega; rintro e w' ⟨rfl, nq, rfl⟩) | ((with_reducible refine (peekOk_yes _ _ _ _ _ _ hR ?_).mono ?_); omega; rintro e w' ⟨rfl, nq, rfl⟩) | ((with_reducible refine (peekOk_no _ _ _ _ _ _ (hR.drewN _) ?_).mono ?_); omega; rintro e w' ⟨rfl, nq, rfl⟩) | ((with_reducible refine (peekOk_no _ _ _ _ _ _ hR ?_).mono ?_); omega; rintro e w' ⟨rfl, nq, rfl⟩)) | (go_at_call 74; refine (isIdentStart_any _ _).mono ?_; rintro e w' ⟨rfl, rfl⟩))
    refine (skip_any lb fb fp s x 64 { x with p := x.p + 1 } _ (HS.out.drewN _) ⟨by omega, h0⟩ rfl).mono ?_
    rintro e w1 ⟨rfl, hS1, hF1⟩
    have hF1' : Frm w w1 [lb] := ((Frm.refl w [lb]).drewN _).step hF1
    have f1 := block_free hS1.lex 1
    have c1 := block_cell hS1.lex 1
    have HS1 := Lib.hid hS1
    clear hS1 hR hF1
    go_wp2_with fail
    go_end0
    exact ⟨rfl, HS1.out.set 1 _ _ rfl HS1.out.pz, hF1'.setCell _ _ (.inl (by simp))⟩


set_option maxRecDepth 100000 in
set_option maxHeartbeats 4000000 in
theorem tok_bad (lb fb : Nat) (fp s : ByteArray) (x : LX) (np : Bool) (c : Int) (w : World) (hs : s.size ≤ 1048576) (hE : Env w lb fb) (hS : St w lb fb fp s x) (h0 : byt s ((x.p : Int) + 0) = c) (hc0 : 0 ≤ c) (hc : ids c = false)
    (hq : ¬ single c = true ∧ ¬ sign c = true ∧ ¬ dg c = true ∧ ¬ c = 46 ∧ ¬ c = 96 ∧ ¬ c = 34 ∧ ¬ c = 39) :
    Calls Tryz.prog 52 #[.pointer (some ⟨lb, 0, none⟩), .bool np] w (TokRes np lb fb fp s x (.bad 0) w) := by
  have hR := hS.rd
  have hsz := hS.sz
  have hlt2 := (byt_lt s _ (by rw [h0]; omega : 0 ≤ byt s ((x.p : Int) + 0))).2
  have hlt : x.p < s.size := by omega
  have HS := Lib.hid hS
  have HE := Lib.hid hE
  have hni : ¬ (97 ≤ c ∧ c ≤ 122) ∧ ¬ (65 ≤ c ∧ c ≤ 90) := by
    have := hc
    simp only [ids, Bool.or_eq_false_iff, Bool.and_eq_false_iff, decide_eq_false_iff_not] at this
    omega
  simp only [single, sign, dg, Bool.or_eq_true, Bool.and_eq_true, decide_eq_true_eq, beq_iff_eq, not_or, not_and] at hq
  have q40 : (c == (40 : Int)) = false := by simp; omega
  have q41 : (c == (41 : Int)) = false := by simp; omega
  have q123 : (c == (123 : Int)) = false := by simp; omega
  have q125 : (c == (125 : Int)) = false := by simp; omega
  have q59 : (c == (59 : Int)) = false := by simp; omega
  have q44 : (c == (44 : Int)) = false := by simp; omega
  have q91 : (c == (91 : Int)) = false := by simp; omega
  have q93 : (c == (93 : Int)) = false := by simp; omega
  have q126 : (c == (126 : Int)) = false := by simp; omega
  have q42 : (c == (42 : Int)) = false := by simp; omega
  have q47 : (c == (47 : Int)) = false := by simp; omega
  have q38 : (c == (38 : Int)) = false := by simp; omega
  have q94 : (c == (94 : Int)) = false := by simp; omega
  have q37 : (c == (37 : Int)) = false := by simp; omega
  have q58 : (c == (58 : Int)) = false := by simp; omega
  have q63 : (c == (63 : Int)) = false := by simp; omega
  have q92 : (c == (92 : Int)) = false := by simp; omega
  have q36 : (c == (36 : Int)) = false := by simp; omega
  have q46 : (c == (46 : Int)) = false := by simp; omega
  have q60 : (c == (60 : Int)) = false := by simp; omega
  have q62 : (c == (62 : Int)) = false := by simp; omega
  have q43 : (c == (43 : Int)) = false := by simp; omega
  have q45 : (c == (45 : Int)) = false := by simp; omega
  have q61 : (c == (61 : Int)) = false := by simp; omega
  have q124 : (c == (124 : Int)) = false := by simp; omega
  have q33 : (c == (33 : Int)) = false := by simp; omega
  have q64 : (c == (64 : Int)) = false := by simp; omega
  have q96 : (c == (96 : Int)) = false := by simp; omega
  have q48 : (c == (48 : Int)) = false := by simp; omega
  have q49 : (c == (49 : Int)) = false := by simp; omega
  have q50 : (c == (50 : Int)) = false := by simp; omega
  have q51 : (c == (51 : Int)) = false := by simp; omega
  have q52 : (c == (52 : Int)) = false := by simp; omega
  have q53 : (c == (53 : Int)) = false := by simp; omega
  have q54 : (c == (54 : Int)) = false := by simp; omega
  have q55 : (c == (55 : Int)) = false := by simp; omega
  have q56 : (c == (56 : Int)) = false := by simp; omega
  have q57 : (c == (57 : Int)) = false := by simp; omega
  have q66 : (c == (66 : Int)) = false := by simp; omega
  have q98 : (c == (98 : Int)) = false := by simp; omega
  have q82 : (c == (82 : Int)) = false := by simp; omega
  have q114 : (c == (114 : Int)) = false := by simp; omega
  have q34 : (c == (34 : Int)) = false := by simp; omega
  have q39 : (c == (39 : Int)) = false := by simp; omega
  clear hS hE hq hni
  go_enter Tryz.func52, Tryz.ntmps52
  cases np with
  | true =>
    go_wp2_with (first | (go_at_call 61; first | ((with_reducible refine (eof_yes _ _ _ _ _ (hR.drewN _) ?_).mono ?_); omega; rintro e w' ⟨rfl, nq, rfl⟩) | ((with_reducible refine (eof_yes _ _ _ _ _ hR ?_).mono ?_); omega; rintro e w' ⟨rfl, nq, rfl⟩) | ((with_reducible refine (eof_no _ _ _ _ _ (hR.drewN _) ?_).mono ?_); omega; rintro e w' ⟨rfl, nq, rfl⟩) | ((with_reducible refine (eof_no _ _ _ _ _ hR ?_).mono ?_); omega; rintro e w' ⟨rfl, nq, rfl⟩)) | (go_at_call 69; first | ((with_reducible refine (peek_any _ _ _ _ _ _ _ (hR.drewN _) ⟨?_, ?_, by assumption⟩).mono ?_); omega; omega; rintro e w' ⟨rfl, nq, rfl⟩) | ((with_reducible refine (peek_any _ _ _ _ _ _ _ hR ⟨?_, ?_, by assumption⟩).mono ?_); omega; omega; rintro e w' ⟨rfl, nq, rfl⟩)) | (go_at_call 74; refine (isIdentStart_any _ _).mono ?_; rintro e w' ⟨rfl, rfl⟩))
    refine (skip_any lb fb fp s x c { x with p := x.p + 1 } _ (HS.out.drewN _) ⟨by omega, h0⟩ rfl).mono ?_
    rintro e w1 ⟨rfl, hS1, hF1⟩
    have hF1' : Frm w w1 [lb] := ((Frm.refl w [lb]).drewN _).step hF1
    have f1 := block_free hS1.lex 1
    have c1 := block_cell hS1.lex 1
    have HS1 := Lib.hid hS1
    clear hS1 hR hF1
    go_wp2_with fail
    go_end0
    exact .inr (.inr ⟨0, { x with p := x.p + 1, kind := kBad }, rfl, rfl, Nat.lt_succ_self _, kBad_ne, rfl, rfl, HS1.out.set 1 _ _ rfl HS1.out.pz, hF1'.setCell _ _ (.inl (by simp))⟩)
  | false =>
    go_wp2_with (first | (go_at_call 61; first | ((with_reducible refine (eof_yes _ _ _ _ _ (hR.drewN _) ?_).mono ?_); omega; rintro e w' ⟨rfl, nq, rfl⟩) | ((with_reducible refine (eof_yes _ _ _ _ _ hR ?_).mono ?_); omega; rintro e w' ⟨rfl, nq, rfl⟩) | ((with_reducible refine (eof_no _ _ _ _ _ (hR.drewN _) ?_).mono ?_); omega; rintro e w' ⟨rfl, nq, rfl⟩) | ((with_reducible refine (eof_no _ _ _ _ _ hR ?_).mono ?_); omega; rintro e w' ⟨rfl, nq, rfl⟩)) | (go_at_call 69; first | ((with_reducible refine (peek_any _ _ _ _ _ _ _ (hR.drewN _) ⟨?_, ?_, by assumption⟩).mono ?_); omega; omega; rintro e w' ⟨rfl, nq, rfl⟩) | ((with_reducible refine (peek_any _ _ _ _ _ _ _ hR ⟨?_, ?_, by assumption⟩).mono ?_); omega; omega; rintro e w' ⟨rfl, nq, rfl⟩)) | (go_at_call 74; refine (isIdentStart_any _ _).mono ?_; rintro e w' ⟨rfl, rfl⟩))
    refine (errorf_any lb fb fp s x _ _ hs HS.out.pz (HS.out.drewN _) (HE.out.drewN _)).mono ?_
    rintro e w1 ⟨eb, rfl, h2, h3, h4⟩
    have hF1' := ((Frm.refl w [lb, fb]).drewN _).step (h4.mono (by simp))
    go_wp2_with fail
    exact ⟨rfl, .inr (.inl ⟨0, rfl, rfl, eb, rfl, h2, h3, hF1'⟩)⟩

set_option maxRecDepth 100000 in
set_option maxHeartbeats 8000000 in
theorem tok_param (lb fb : Nat) (fp s : ByteArray) (x : LX) (np : Bool) (w : World) (hS : St w lb fb fp s x) (h0 : byt s ((x.p : Int) + 0) = 64) (c : Int) (h1 : byt s ((x.p : Int) + 1) = c) (hi : ids c = true)
    (N : Nat) (hN : 1 + idLen (suf s (x.p + 1)) = N) :
    Calls Tryz.prog 52 #[.pointer (some ⟨lb, 0, none⟩), .bool np] w (Goes (.tuple #[]) lb fb fp s { x with p := x.p + N, kind := kParam, text := s.extract (x.p + 1) (x.p + N) } w) := by
  have hR := hS.rd
  have hsz := hS.sz
  have hcc := ids_cases c hi
  have hlt2 := (byt_lt s _ (by rw [h1]; omega : 0 ≤ byt s ((x.p : Int) + 1))).2
  have hlt : x.p < s.size := by omega
  have HS := Lib.hid hS
  have HN := Lib.hid hN
  have HP : Hid (x.p + N ≤ s.size) := by
    have h1 := idLen_le (suf s (x.p + 1))
    rw [suf_len] at h1
    show x.p + N ≤ s.size
    omega
  have hN1 : 1 ≤ N := by omega
  have hc0 : 0 ≤ c := by omega
  have hc64 : ¬ c = 64 := by omega
  clear hS hN hcc
  go_enter Tryz.func52, Tryz.ntmps52
  go_upto_block 7 with (first | (go_at_call 61; first | ((with_reducible refine (eof_yes _ _ _ _ _ (hR.drewN _) ?_).mono ?_); omega; rintro e w' ⟨rfl, nq, rfl⟩) | ((with_reducible refine (eof_yes _ _ _ _ _ hR ?_).mono ?_); omega; rintro e w' ⟨rfl, nq, rfl⟩) | ((with_reducible refine (eof_no _ _ _ _ _ (hR.drewN _) ?_).mono ?_); omega; rintro e w' ⟨rfl, nq, rfl⟩) | ((with_reducible refine (eof_no _ _ _ _ _ hR ?_).mono ?_); omega; rintro e w' ⟨rfl, nq, rfl⟩)) | (go_at_call 69; first | ((with_reducible refine (peek_any _ _ _ _ _ _ _ (hR.drewN _) ⟨?_, ?_, by assumption⟩).mono ?_); omega; omega; rintro e w' ⟨rfl, nq, rfl⟩) | ((with_reducible refine (peek_any _ _ _ _ _ _ _ hR ⟨?_, ?_, by assumption⟩).mono ?_); omega; omega; rintro e w' ⟨rfl, nq, rfl⟩)) | (go_at_call 65; first | ((with_reducible refine (peekIs_yes _ _ _ _ _ _ _ (hR.drewN _) ?_).mono ?_); omega; rintro e w' ⟨rfl, nq, rfl⟩) | ((with_reducible refine (peekIs_yes _ _ _ _ _ _ _ hR ?_).mono ?_); omega; rintro e w' ⟨rfl, nq, rfl⟩) | ((with_reducible refine (peekIs_no _ _ _ _ _ _ _ (hR.drewN _) ?_).mono ?_); omega; rintro e w' ⟨rfl, nq, rfl⟩) | ((with_reducible refine (peekIs_no _ _ _ _ _ _ _ hR ?_).mono ?_); omega; rintro e w' ⟨rfl, nq, rfl⟩)) | (go_at_call 67; first | ((with_reducible refine (peekOk_yes _ _ _ _ _ _ (hR.drewN _) ?_).mono ?_); omega; rintro e w' ⟨rfl, nq, rfl⟩) | ((with_reducible refine (peekOk_yes _ _ _ _ _ _ hR ?_).mono ?_); omega; rintro e w' ⟨rfl, nq, rfl⟩) | ((with_reducible refine (peekOk_no _ _ _ _ _ _ (hR.drewN _) ?_).mono ?_); omega; rintro e w' ⟨rfl, nq, rfl⟩) | ((with_reducible refine (peekOk_no _ _ _ _ _ _ hR ?_).mono ?_); omega; rintro e w' ⟨rfl, nq, rfl⟩)) | (go_at_call 74; refine (isIdentStart_any _ _).mono ?_; rintro e w' ⟨rfl, rfl⟩))
  go_cut [5] from 259 to 269 (fun i wx => i = .int .i64 N ∧ ∃ nq, wx = w.drewN nq)
  case first =>
    go_wp2_with fail
    go_loopw [5] (fun i wr => IdRel s x.p N i w wr) (fun i _ => s.size - (intOf i).toNat)
    case atStart => exact ⟨1, _, rfl, rfl, by omega, by simpa using HN.out⟩
    case round =>
      obtain ⟨k, nq, rfl, rfl, hpk, hk1⟩ := hrel
      have HK1 := Lib.hid hk1
      clear hk1
      rcases suf_byt s (x.p + k) with ⟨hb, hsuf, hge⟩ | ⟨d, hb, hsuf, hlt⟩
      · have hk : k = N := by have := HK1.out; rw [hsuf] at this; simpa [idLen] using this
        subst hk
        have hge2 : (s.size : Int) ≤ (x.p : Int) + (k : Int) := by omega
        clear hb hsuf
        go_wp2_with (first | (go_at_call 67; first | ((with_reducible refine (peekOk_yes _ _ _ _ _ _ (hR.drewN _) ?_).mono ?_); omega; rintro e w' ⟨rfl, nq, rfl⟩) | ((with_reducible refine (peekOk_yes _ _ _ _ _ _ hR ?_).mono ?_); omega; rintro e w' ⟨rfl, nq, rfl⟩) | ((with_reducible refine (peekOk_no _ _ _ _ _ _ (hR.drewN _) ?_).mono ?_); omega; rintro e w' ⟨rfl, nq, rfl⟩) | ((with_reducible refine (peekOk_no _ _ _ _ _ _ hR ?_).mono ?_); omega; rintro e w' ⟨rfl, nq, rfl⟩)))
        go_meet
        exact ⟨rfl, _, rfl⟩
      · have hbd := nn_bd d
        rw [show ((x.p + k : Nat) : Int) = (x.p : Int) + (k : Int) from by omega] at hb
        have hlt3 : (x.p : Int) + (k : Int) < s.size := by omega
        cases hd : idp (nn d) with
        | true =>
          have hk1 : k + 1 + idLen (suf s (x.p + k + 1)) = N := by have := HK1.out; rw [hsuf] at this; simp only [idLen, hd, if_true] at this; omega
          have HK3 := Lib.hid hk1
          clear hk1 HK1 hsuf
          go_wp2_with (first | (go_at_call 67; first | ((with_reducible refine (peekOk_yes _ _ _ _ _ _ (hR.drewN _) ?_).mono ?_); omega; rintro e w' ⟨rfl, nq, rfl⟩) | ((with_reducible refine (peekOk_yes _ _ _ _ _ _ hR ?_).mono ?_); omega; rintro e w' ⟨rfl, nq, rfl⟩) | ((with_reducible refine (peekOk_no _ _ _ _ _ _ (hR.drewN _) ?_).mono ?_); omega; rintro e w' ⟨rfl, nq, rfl⟩) | ((with_reducible refine (peekOk_no _ _ _ _ _ _ hR ?_).mono ?_); omega; rintro e w' ⟨rfl, nq, rfl⟩)) | (go_at_call 69; first | ((with_reducible refine (peek_any _ _ _ _ _ _ _ (hR.drewN _) ⟨?_, ?_, by assumption⟩).mono ?_); omega; omega; rintro e w' ⟨rfl, nq, rfl⟩) | ((with_reducible refine (peek_any _ _ _ _ _ _ _ hR ⟨?_, ?_, by assumption⟩).mono ?_); omega; omega; rintro e w' ⟨rfl, nq, rfl⟩)) | (go_at_call 68; refine (isIdentPart_any _ _).mono ?_; rintro e w' ⟨rfl, rfl⟩))
          go_roundw
          case rel => exact ⟨k + 1, _, by go_num, rfl, by omega, HK3.out⟩
          case measure => simp [intOf]; omega
        | false =>
          have hk : k = N := by have := HK1.out; rw [hsuf] at this; simpa [idLen, hd] using this
          subst hk
          clear hsuf
          go_wp2_with (first | (go_at_call 67; first | ((with_reducible refine (peekOk_yes _ _ _ _ _ _ (hR.drewN _) ?_).mono ?_); omega; rintro e w' ⟨rfl, nq, rfl⟩) | ((with_reducible refine (peekOk_yes _ _ _ _ _ _ hR ?_).mono ?_); omega; rintro e w' ⟨rfl, nq, rfl⟩) | ((with_reducible refine (peekOk_no _ _ _ _ _ _ (hR.drewN _) ?_).mono ?_); omega; rintro e w' ⟨rfl, nq, rfl⟩) | ((with_reducible refine (peekOk_no _ _ _ _ _ _ hR ?_).mono ?_); omega; rintro e w' ⟨rfl, nq, rfl⟩)) | (go_at_call 69; first | ((with_reducible refine (peek_any _ _ _ _ _ _ _ (hR.drewN _) ⟨?_, ?_, by assumption⟩).mono ?_); omega; omega; rintro e w' ⟨rfl, nq, rfl⟩) | ((with_reducible refine (peek_any _ _ _ _ _ _ _ hR ⟨?_, ?_, by assumption⟩).mono ?_); omega; omega; rintro e w' ⟨rfl, nq, rfl⟩)) | (go_at_call 68; refine (isIdentPart_any _ _).mono ?_; rintro e w' ⟨rfl, rfl⟩))
          go_meet
          exact ⟨rfl, _, rfl⟩
  case rest =>
    obtain ⟨rfl, nq, rfl⟩ := hcut
    have hpn := HP.out
    have hS0 := HS.out.drewN nq
    have c1 := block_cell hS0.lex 1
    have f1 := block_free hS0.lex 1
    have hS1 := hS0.set 1 (.string ⟨#[60, 112, 97, 114, 97, 109, 62]⟩) { x with kind := ⟨#[60, 112, 97, 114, 97, 109, 62]⟩ } rfl hS0.pz
    have hF1 : Frm w ((w.drewN nq).setCell ⟨lb, 1, none⟩ (.string ⟨#[60, 112, 97, 114, 97, 109, 62]⟩)) [lb] := ((Frm.refl w [lb]).drewN _).setCell _ _ (.inl (by simp))
    have HS1 := Lib.hid hS1
    have HF1 := Lib.hid hF1
    clear hS0 hS1 hF1 h1 hi hlt2
    go_upto_region 95 with fail
    generalize (w.drewN nq).setCell ⟨lb, 1, none⟩ (.string ⟨#[60, 112, 97, 114, 97, 109, 62]⟩) = w1 at *
    have r0 := HS1.out.rd.c0
    have r9 : w1.cell? ⟨lb, 9, none⟩ = some (.int .i64 (x.p : Int)) := HS1.out.rd.c9
    have rB := HS1.out.rd.cB
    have c5 : w1.cell? ⟨lb, 5, none⟩ = some (.string x.text) := block_cell HS1.out.lex 5
    have f5 := block_free HS1.out.lex 5
    have e1 : IntKind.i64.wrap ((x.p : Int) + 1) = (x.p : Int) + 1 := IntWalk.i64_in _ (by omega)
    have e2 : IntKind.i64.wrap ((x.p : Int) + (N : Int)) = (x.p : Int) + (N : Int) := IntWalk.i64_in _ (by omega)
    have e3 : ((x.p : Int) + 1).toNat = x.p + 1 := by omega
    have e4 : ((x.p : Int) + (N : Int)).toNat = x.p + N := by omega
    have i1 : (0 : Int) ≤ (x.p : Int) + 1 := by omega
    have i2 : (x.p : Int) + 1 ≤ (x.p : Int) + (N : Int) := by omega
    have i3 : (x.p : Int) + (N : Int) ≤ (s.size : Int) := by omega
    have hS2 := (HS1.out.set 5 (.string (s.extract (x.p + 1) (x.p + N))) { x with kind := ⟨#[60, 112, 97, 114, 97, 109, 62]⟩, text := s.extract (x.p + 1) (x.p + N) } rfl HS1.out.pz).drew
    have hF2 := (HF1.out.setCell ⟨lb, 5, none⟩ (.string (s.extract (x.p + 1) (x.p + N))) (.inl (by simp))).drew
    have HS2 := Lib.hid hS2
    have HF2 := Lib.hid hF2
    clear hS2 hF2
    go_region
    generalize (w1.setCell ⟨lb, 5, none⟩ (.string (s.extract (x.p + 1) (x.p + N)))).drew = w2 at *
    go_wp2_with fail
    refine (skipN_any lb fb fp s _ N { x with kind := ⟨#[60, 112, 97, 114, 97, 109, 62]⟩, text := s.extract (x.p + 1) (x.p + N), p := x.p + N } _ HS2.out ⟨by omega, by show (x.p : Int) + _ ≤ _; omega⟩ (by show _ = { x with p := ((x.p : Int) + (N : Int)).toNat, kind := _, text := _ }; rw [e4])).mono ?_
    rintro e w3 ⟨rfl, hS3, hF3⟩
    have HS3 := Lib.hid hS3
    clear hS3
    go_wp2_with fail
    go_end0
    exact ⟨rfl, HS3.out, HF2.out.step hF3⟩

end Go.Proofs.YtngofbhlhcalpaaGreatDoor.lexer
