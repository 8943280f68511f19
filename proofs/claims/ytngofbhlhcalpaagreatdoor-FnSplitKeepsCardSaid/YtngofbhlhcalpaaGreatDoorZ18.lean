/-
  Lemmas and contracts of this claim, texts TokB, TokC. No statement of the seat is proved here.
-/
import Derived.Test.YtngofbhlhcalpaaGreatDoorZ02
import Derived.BigRegion
namespace Go.Proofs.YtngofbhlhcalpaaGreatDoor.lexer
open Go.RowKit Go.Proofs.YtngofbhlhcalpaaGreatDoor.gen

set_option maxRecDepth 100000 in
set_option maxHeartbeats 4000000 in
theorem tok_t60_60 (lb fb : Nat) (fp s : ByteArray) (x : LX) (np : Bool) (w : World) (hS : St w lb fb fp s x) (h0 : byt s ((x.p : Int) + 0) = 60) (h1 : byt s ((x.p : Int) + 1) = 60) :
    Calls Tryz.prog 52 #[.pointer (some ⟨lb, 0, none⟩), .bool np] w (Goes (.tuple #[]) lb fb fp s { x with p := x.p + 2, kind := ⟨#[60, 60]⟩ } w) := by
  have hR := hS.rd
  have hlt2 := (byt_lt s _ (by rw [h1]; decide : 0 ≤ byt s ((x.p : Int) + 1))).2
  have hlt : x.p < s.size := by omega
  have HS := Lib.hid hS
  clear hS
  go_enter Tryz.func52, Tryz.ntmps52
  go_wp2_with (first | (go_at_call 61; first | ((with_reducible refine (eof_yes _ _ _ _ _ (hR.drewN _) ?_).mono ?_); omega; rintro e w' ⟨rfl, nq, rfl⟩) | ((with_reducible refine (eof_yes _ _ _ _ _ hR ?_).mono ?_); omega; rintro e w' ⟨rfl, nq, rfl⟩) | ((with_reducible refine (eof_no _ _ _ _ _ (hR.drewN _) ?_).mono ?_); omega; rintro e w' ⟨rfl, nq, rfl⟩) | ((with_reducible refine (eof_no _ _ _ _ _ hR ?_).mono ?_); omega; rintro e w' ⟨rfl, nq, rfl⟩)) | (go_at_call 69; first | ((with_reducible refine (peek_any _ _ _ _ _ _ _ (hR.drewN _) ⟨?_, ?_, by assumption⟩).mono ?_); omega; omega; rintro e w' ⟨rfl, nq, rfl⟩) | ((with_reducible refine (peek_any _ _ _ _ _ _ _ hR ⟨?_, ?_, by assumption⟩).mono ?_); omega; omega; rintro e w' ⟨rfl, nq, rfl⟩)) | (go_at_call 65; first | ((with_reducible refine (peekIs_yes _ _ _ _ _ _ _ (hR.drewN _) ?_).mono ?_); omega; rintro e w' ⟨rfl, nq, rfl⟩) | ((with_reducible refine (peekIs_yes _ _ _ _ _ _ _ hR ?_).mono ?_); omega; rintro e w' ⟨rfl, nq, rfl⟩) | ((with_reducible refine (peekIs_no _ _ _ _ _ _ _ (hR.drewN _) ?_).mono ?_); omega; rintro e w' ⟨rfl, nq, rfl⟩) | ((with_reducible refine (peekIs_no _ _ _ _ _ _ _ hR ?_).mono ?_); omega; rintro e w' ⟨rfl, nq, rfl⟩)))
  refine (skipN_any lb fb fp s x 2 { x with p := x.p + 2 } _ (HS.out.drewN _) ⟨by omega, by omega⟩ (by rw [show ((x.p : Int) + (2 : Int)).toNat = x.p + 2 from by omega])).mono ?_
  rintro e w1 ⟨rfl, hS1, hF1⟩
  have hF1' : Frm w w1 [lb] := ((Frm.refl w [lb]).drewN _).step hF1
  have f1 := block_free hS1.lex 1
  have c1 := block_cell hS1.lex 1
  have HS1 := Lib.hid hS1
  clear hS1 hR hF1
  go_wp2_with fail
  go_end0
  exact ⟨rfl, HS1.out.set 1 _ _ rfl HS1.out.pz, hF1'.setCell _ _ (.inl (by simp))⟩

set_option maxRecDepth 100000 in
set_option maxHeartbeats 4000000 in
theorem tok_t60_61 (lb fb : Nat) (fp s : ByteArray) (x : LX) (np : Bool) (w : World) (hS : St w lb fb fp s x) (h0 : byt s ((x.p : Int) + 0) = 60) (h1 : byt s ((x.p : Int) + 1) = 61) :
    Calls Tryz.prog 52 #[.pointer (some ⟨lb, 0, none⟩), .bool np] w (Goes (.tuple #[]) lb fb fp s { x with p := x.p + 2, kind := ⟨#[60, 61]⟩ } w) := by
  have hR := hS.rd
  have hlt2 := (byt_lt s _ (by rw [h1]; decide : 0 ≤ byt s ((x.p : Int) + 1))).2
  have hlt : x.p < s.size := by omega
  have HS := Lib.hid hS
  clear hS
  go_enter Tryz.func52, Tryz.ntmps52
  go_wp2_with (first | (go_at_call 61; first | ((with_reducible refine (eof_yes _ _ _ _ _ (hR.drewN _) ?_).mono ?_); omega; rintro e w' ⟨rfl, nq, rfl⟩) | ((with_reducible refine (eof_yes _ _ _ _ _ hR ?_).mono ?_); omega; rintro e w' ⟨rfl, nq, rfl⟩) | ((with_reducible refine (eof_no _ _ _ _ _ (hR.drewN _) ?_).mono ?_); omega; rintro e w' ⟨rfl, nq, rfl⟩) | ((with_reducible refine (eof_no _ _ _ _ _ hR ?_).mono ?_); omega; rintro e w' ⟨rfl, nq, rfl⟩)) | (go_at_call 69; first | ((with_reducible refine (peek_any _ _ _ _ _ _ _ (hR.drewN _) ⟨?_, ?_, by assumption⟩).mono ?_); omega; omega; rintro e w' ⟨rfl, nq, rfl⟩) | ((with_reducible refine (peek_any _ _ _ _ _ _ _ hR ⟨?_, ?_, by assumption⟩).mono ?_); omega; omega; rintro e w' ⟨rfl, nq, rfl⟩)) | (go_at_call 65; first | ((with_reducible refine (peekIs_yes _ _ _ _ _ _ _ (hR.drewN _) ?_).mono ?_); omega; rintro e w' ⟨rfl, nq, rfl⟩) | ((with_reducible refine (peekIs_yes _ _ _ _ _ _ _ hR ?_).mono ?_); omega; rintro e w' ⟨rfl, nq, rfl⟩) | ((with_reducible refine (peekIs_no _ _ _ _ _ _ _ (hR.drewN _) ?_).mono ?_); omega; rintro e w' ⟨rfl, nq, rfl⟩) | ((with_reducible refine (peekIs_no _ _ _ _ _ _ _ hR ?_).mono ?_); omega; rintro e w' ⟨rfl, nq, rfl⟩)))
  refine (skipN_any lb fb fp s x 2 { x with p := x.p + 2 } _ (HS.out.drewN _) ⟨by omega, by omega⟩ (by rw [show ((x.p : Int) + (2 : Int)).toNat = x.p + 2 from by omega])).mono ?_
  rintro e w1 ⟨rfl, hS1, hF1⟩
  have hF1' : Frm w w1 [lb] := ((Frm.refl w [lb]).drewN _).step hF1
  have f1 := block_free hS1.lex 1
  have c1 := block_cell hS1.lex 1
  have HS1 := Lib.hid hS1
  clear hS1 hR hF1
  go_wp2_with fail
  go_end0
  exact ⟨rfl, HS1.out.set 1 _ _ rfl HS1.out.pz, hF1'.setCell _ _ (.inl (by simp))⟩

set_option maxRecDepth 100000 in
set_option maxHeartbeats 4000000 in
theorem tok_t60_62 (lb fb : Nat) (fp s : ByteArray) (x : LX) (np : Bool) (w : World) (hS : St w lb fb fp s x) (h0 : byt s ((x.p : Int) + 0) = 60) (h1 : byt s ((x.p : Int) + 1) = 62) :
    Calls Tryz.prog 52 #[.pointer (some ⟨lb, 0, none⟩), .bool np] w (Goes (.tuple #[]) lb fb fp s { x with p := x.p + 2, kind := ⟨#[60, 62]⟩ } w) := by
  have hR := hS.rd
  have hlt2 := (byt_lt s _ (by rw [h1]; decide : 0 ≤ byt s ((x.p : Int) + 1))).2
  have hlt : x.p < s.size := by omega
  have HS := Lib.hid hS
  clear hS
  go_enter Tryz.func52, Tryz.ntmps52
  go_wp2_with (first | (go_at_call 61; first | ((with_reducible refine (eof_yes _ _ _ _ _ (hR.drewN _) ?_).mono ?_); omega; rintro e w' ⟨rfl, nq, rfl⟩) | ((with_reducible refine (eof_yes _ _ _ _ _ hR ?_).mono ?_); omega; rintro e w' ⟨rfl, nq, rfl⟩) | ((with_reducible refine (eof_no _ _ _ _ _ (hR.drewN _) ?_).mono ?_); omega; rintro e w' ⟨rfl, nq, rfl⟩) | ((with_reducible refine (eof_no _ _ _ _ _ hR ?_).mono ?_); omega; rintro e w' ⟨rfl, nq, rfl⟩)) | (go_at_call 69; first | ((with_reducible refine (peek_any _ _ _ _ _ _ _ (hR.drewN _) ⟨?_, ?_, by assumption⟩).mono ?_); omega; omega; rintro e w' ⟨rfl, nq, rfl⟩) | ((with_reducible refine (peek_any _ _ _ _ _ _ _ hR ⟨?_, ?_, by assumption⟩).mono ?_); omega; omega; rintro e w' ⟨rfl, nq, rfl⟩)) | (go_at_call 65; first | ((with_reducible refine (peekIs_yes _ _ _ _ _ _ _ (hR.drewN _) ?_).mono ?_); omega; rintro e w' ⟨rfl, nq, rfl⟩) | ((with_reducible refine (peekIs_yes _ _ _ _ _ _ _ hR ?_).mono ?_); omega; rintro e w' ⟨rfl, nq, rfl⟩) | ((with_reducible refine (peekIs_no _ _ _ _ _ _ _ (hR.drewN _) ?_).mono ?_); omega; rintro e w' ⟨rfl, nq, rfl⟩) | ((with_reducible refine (peekIs_no _ _ _ _ _ _ _ hR ?_).mono ?_); omega; rintro e w' ⟨rfl, nq, rfl⟩)))
  refine (skipN_any lb fb fp s x 2 { x with p := x.p + 2 } _ (HS.out.drewN _) ⟨by omega, by omega⟩ (by rw [show ((x.p : Int) + (2 : Int)).toNat = x.p + 2 from by omega])).mono ?_
  rintro e w1 ⟨rfl, hS1, hF1⟩
  have hF1' : Frm w w1 [lb] := ((Frm.refl w [lb]).drewN _).step hF1
  have f1 := block_free hS1.lex 1
  have c1 := block_cell hS1.lex 1
  have HS1 := Lib.hid hS1
  clear hS1 hR hF1
  go_wp2_with fail
  go_end0
  exact ⟨rfl, HS1.out.set 1 _ _ rfl HS1.out.pz, hF1'.setCell _ _ (.inl (by simp))⟩

set_option maxRecDepth 100000 in
set_option maxHeartbeats 4000000 in
theorem tok_t62_62 (lb fb : Nat) (fp s : ByteArray) (x : LX) (np : Bool) (w : World) (hS : St w lb fb fp s x) (h0 : byt s ((x.p : Int) + 0) = 62) (h1 : byt s ((x.p : Int) + 1) = 62) :
    Calls Tryz.prog 52 #[.pointer (some ⟨lb, 0, none⟩), .bool np] w (Goes (.tuple #[]) lb fb fp s { x with p := x.p + 2, kind := ⟨#[62, 62]⟩ } w) := by
  have hR := hS.rd
  have hlt2 := (byt_lt s _ (by rw [h1]; decide : 0 ≤ byt s ((x.p : Int) + 1))).2
  have hlt : x.p < s.size := by omega
  have HS := Lib.hid hS
  clear hS
  go_enter Tryz.func52, Tryz.ntmps52
  go_wp2_with (first | (go_at_call 61; first | ((with_reducible refine (eof_yes _ _ _ _ _ (hR.drewN _) ?_).mono ?_); omega; rintro e w' ⟨rfl, nq, rfl⟩) | ((with_reducible refine (eof_yes _ _ _ _ _ hR ?_).mono ?_); omega; rintro e w' ⟨rfl, nq, rfl⟩) | ((with_reducible refine (eof_no _ _ _ _ _ (hR.drewN _) ?_).mono ?_); omega; rintro e w' ⟨rfl, nq, rfl⟩) | ((with_reducible refine (eof_no _ _ _ _ _ hR ?_).mono ?_); omega; rintro e w' ⟨rfl, nq, rfl⟩)) | (go_at_call 69; first | ((with_reducible refine (peek_any _ _ _ _ _ _ _ (hR.drewN _) ⟨?_, ?_, by assumption⟩).mono ?_); omega; omega; rintro e w' ⟨rfl, nq, rfl⟩) | ((with_reducible refine (peek_any _ _ _ _ _ _ _ hR ⟨?_, ?_, by assumption⟩).mono ?_); omega; omega; rintro e w' ⟨rfl, nq, rfl⟩)) | (go_at_call 65; first | ((with_reducible refine (peekIs_yes _ _ _ _ _ _ _ (hR.drewN _) ?_).mono ?_); omega; rintro e w' ⟨rfl, nq, rfl⟩) | ((with_reducible refine (peekIs_yes _ _ _ _ _ _ _ hR ?_).mono ?_); omega; rintro e w' ⟨rfl, nq, rfl⟩) | ((with_reducible refine (peekIs_no _ _ _ _ _ _ _ (hR.drewN _) ?_).mono ?_); omega; rintro e w' ⟨rfl, nq, rfl⟩) | ((with_reducible refine (peekIs_no _ _ _ _ _ _ _ hR ?_).mono ?_); omega; rintro e w' ⟨rfl, nq, rfl⟩)))
  refine (skipN_any lb fb fp s x 2 { x with p := x.p + 2 } _ (HS.out.drewN _) ⟨by omega, by omega⟩ (by rw [show ((x.p : Int) + (2 : Int)).toNat = x.p + 2 from by omega])).mono ?_
  rintro e w1 ⟨rfl, hS1, hF1⟩
  have hF1' : Frm w w1 [lb] := ((Frm.refl w [lb]).drewN _).step hF1
  have f1 := block_free hS1.lex 1
  have c1 := block_cell hS1.lex 1
  have HS1 := Lib.hid hS1
  clear hS1 hR hF1
  go_wp2_with fail
  go_end0
  exact ⟨rfl, HS1.out.set 1 _ _ rfl HS1.out.pz, hF1'.setCell _ _ (.inl (by simp))⟩

set_option maxRecDepth 100000 in
set_option maxHeartbeats 4000000 in
theorem tok_t62_61 (lb fb : Nat) (fp s : ByteArray) (x : LX) (np : Bool) (w : World) (hS : St w lb fb fp s x) (h0 : byt s ((x.p : Int) + 0) = 62) (h1 : byt s ((x.p : Int) + 1) = 61) :
    Calls Tryz.prog 52 #[.pointer (some ⟨lb, 0, none⟩), .bool np] w (Goes (.tuple #[]) lb fb fp s { x with p := x.p + 2, kind := ⟨#[62, 61]⟩ } w) := by
  have hR := hS.rd
  have hlt2 := (byt_lt s _ (by rw [h1]; decide : 0 ≤ byt s ((x.p : Int) + 1))).2
  have hlt : x.p < s.size := by omega
  have HS := Lib.hid hS
  clear hS
  go_enter Tryz.func52, Tryz.ntmps52
  go_wp2_with (first | (go_at_call 61; first | ((with_reducible refine (eof_yes _ _ _ _ _ (hR.drewN _) ?_).mono ?_); omega; rintro e w' ⟨rfl, nq, rfl⟩) | ((with_reducible refine (eof_yes _ _ _ _ _ hR ?_).mono ?_); omega; rintro e w' ⟨rfl, nq, rfl⟩) | ((with_reducible refine (eof_no _ _ _ _ _ (hR.drewN _) ?_).mono ?_); omega; rintro e w' ⟨rfl, nq, rfl⟩) | ((with_reducible refine (eof_no _ _ _ _ _ hR ?_).mono ?_); omega; rintro e w' ⟨rfl, nq, rfl⟩)) | (go_at_call 69; first | ((with_reducible refine (peek_any _ _ _ _ _ _ _ (hR.drewN _) ⟨?_, ?_, by assumption⟩).mono ?_); omega; omega; rintro e w' ⟨rfl, nq, rfl⟩) | ((with_reducible refine (peek_any _ _ _ _ _ _ _ hR ⟨?_, ?_, by assumption⟩).mono ?_); omega; omega; rintro e w' ⟨rfl, nq, rfl⟩)) | (go_at_call 65; first | ((with_reducible refine (peekIs_yes _ _ _ _ _ _ _ (hR.drewN _) ?_).mono ?_); omega; rintro e w' ⟨rfl, nq, rfl⟩) | ((with_reducible refine (peekIs_yes _ _ _ _ _ _ _ hR ?_).mono ?_); omega; rintro e w' ⟨rfl, nq, rfl⟩) | ((with_reducible refine (peekIs_no _ _ _ _ _ _ _ (hR.drewN _) ?_).mono ?_); omega; rintro e w' ⟨rfl, nq, rfl⟩) | ((with_reducible refine (peekIs_no _ _ _ _ _ _ _ hR ?_).mono ?_); omega; rintro e w' ⟨rfl, nq, rfl⟩)))
  refine (skipN_any lb fb fp s x 2 { x with p := x.p + 2 } _ (HS.out.drewN _) ⟨by omega, by omega⟩ (by rw [show ((x.p : Int) + (2 : Int)).toNat = x.p + 2 from by omega])).mono ?_
  rintro e w1 ⟨rfl, hS1, hF1⟩
  have hF1' : Frm w w1 [lb] := ((Frm.refl w [lb]).drewN _).step hF1
  have f1 := block_free hS1.lex 1
  have c1 := block_cell hS1.lex 1
  have HS1 := Lib.hid hS1
  clear hS1 hR hF1
  go_wp2_with fail
  go_end0
  exact ⟨rfl, HS1.out.set 1 _ _ rfl HS1.out.pz, hF1'.setCell _ _ (.inl (by simp))⟩

set_option maxRecDepth 100000 in
set_option maxHeartbeats 4000000 in
theorem tok_t43_61 (lb fb : Nat) (fp s : ByteArray) (x : LX) (np : Bool) (w : World) (hS : St w lb fb fp s x) (h0 : byt s ((x.p : Int) + 0) = 43) (h1 : byt s ((x.p : Int) + 1) = 61) :
    Calls Tryz.prog 52 #[.pointer (some ⟨lb, 0, none⟩), .bool np] w (Goes (.tuple #[]) lb fb fp s { x with p := x.p + 2, kind := ⟨#[43, 61]⟩ } w) := by
  have hR := hS.rd
  have hlt2 := (byt_lt s _ (by rw [h1]; decide : 0 ≤ byt s ((x.p : Int) + 1))).2
  have hlt : x.p < s.size := by omega
  have HS := Lib.hid hS
  clear hS
  go_enter Tryz.func52, Tryz.ntmps52
  go_wp2_with (first | (go_at_call 61; first | ((with_reducible refine (eof_yes _ _ _ _ _ (hR.drewN _) ?_).mono ?_); omega; rintro e w' ⟨rfl, nq, rfl⟩) | ((with_reducible refine (eof_yes _ _ _ _ _ hR ?_).mono ?_); omega; rintro e w' ⟨rfl, nq, rfl⟩) | ((with_reducible refine (eof_no _ _ _ _ _ (hR.drewN _) ?_).mono ?_); omega; rintro e w' ⟨rfl, nq, rfl⟩) | ((with_reducible refine (eof_no _ _ _ _ _ hR ?_).mono ?_); omega; rintro e w' ⟨rfl, nq, rfl⟩)) | (go_at_call 69; first | ((with_reducible refine (peek_any _ _ _ _ _ _ _ (hR.drewN _) ⟨?_, ?_, by assumption⟩).mono ?_); omega; omega; rintro e w' ⟨rfl, nq, rfl⟩) | ((with_reducible refine (peek_any _ _ _ _ _ _ _ hR ⟨?_, ?_, by assumption⟩).mono ?_); omega; omega; rintro e w' ⟨rfl, nq, rfl⟩)) | (go_at_call 65; first | ((with_reducible refine (peekIs_yes _ _ _ _ _ _ _ (hR.drewN _) ?_).mono ?_); omega; rintro e w' ⟨rfl, nq, rfl⟩) | ((with_reducible refine (peekIs_yes _ _ _ _ _ _ _ hR ?_).mono ?_); omega; rintro e w' ⟨rfl, nq, rfl⟩) | ((with_reducible refine (peekIs_no _ _ _ _ _ _ _ (hR.drewN _) ?_).mono ?_); omega; rintro e w' ⟨rfl, nq, rfl⟩) | ((with_reducible refine (peekIs_no _ _ _ _ _ _ _ hR ?_).mono ?_); omega; rintro e w' ⟨rfl, nq, rfl⟩)))
  refine (skipN_any lb fb fp s x 2 { x with p := x.p + 2 } _ (HS.out.drewN _) ⟨by omega, by omega⟩ (by rw [show ((x.p : Int) + (2 : Int)).toNat = x.p + 2 from by omega])).mono ?_
  rintro e w1 ⟨rfl, hS1, hF1⟩
  have hF1' : Frm w w1 [lb] := ((Frm.refl w [lb]).drewN _).step hF1
  have f1 := block_free hS1.lex 1
  have c1 := block_cell hS1.lex 1
  have HS1 := Lib.hid hS1
  clear hS1 hR hF1
  go_wp2_with fail
  go_end0
  exact ⟨rfl, HS1.out.set 1 _ _ rfl HS1.out.pz, hF1'.setCell _ _ (.inl (by simp))⟩

set_option maxRecDepth 100000 in
set_option maxHeartbeats 4000000 in
theorem tok_t45_61 (lb fb : Nat) (fp s : ByteArray) (x : LX) (np : Bool) (w : World) (hS : St w lb fb fp s x) (h0 : byt s ((x.p : Int) + 0) = 45) (h1 : byt s ((x.p : Int) + 1) = 61) :
    Calls Tryz.prog 52 #[.pointer (some ⟨lb, 0, none⟩), .bool np] w (Goes (.tuple #[]) lb fb fp s { x with p := x.p + 2, kind := ⟨#[45, 61]⟩ } w) := by
  have hR := hS.rd
  have hlt2 := (byt_lt s _ (by rw [h1]; decide : 0 ≤ byt s ((x.p : Int) + 1))).2
  have hlt : x.p < s.size := by omega
  have HS := Lib.hid hS
  clear hS
  go_enter Tryz.func52, Tryz.ntmps52
  go_wp2_with (first | (go_at_call 61; first | ((with_reducible refine (eof_yes _ _ _ _ _ (hR.drewN _) ?_).mono ?_); omega; rintro e w' ⟨rfl, nq, rfl⟩) | ((with_reducible refine (eof_yes _ _ _ _ _ hR ?_).mono ?_); omega; rintro e w' ⟨rfl, nq, rfl⟩) | ((with_reducible refine (eof_no _ _ _ _ _ (hR.drewN _) ?_).mono ?_); omega; rintro e w' ⟨rfl, nq, rfl⟩) | ((with_reducible refine (eof_no _ _ _ _ _ hR ?_).mono ?_); omega; rintro e w' ⟨rfl, nq, rfl⟩)) | (go_at_call 69; first | ((with_reducible refine (peek_any _ _ _ _ _ _ _ (hR.drewN _) ⟨?_, ?_, by assumption⟩).mono ?_); omega; omega; rintro e w' ⟨rfl, nq, rfl⟩) | ((with_reducible refine (peek_any _ _ _ _ _ _ _ hR ⟨?_, ?_, by assumption⟩).mono ?_); omega; omega; rintro e w' ⟨rfl, nq, rfl⟩)) | (go_at_call 65; first | ((with_reducible refine (peekIs_yes _ _ _ _ _ _ _ (hR.drewN _) ?_).mono ?_); omega; rintro e w' ⟨rfl, nq, rfl⟩) | ((with_reducible refine (peekIs_yes _ _ _ _ _ _ _ hR ?_).mono ?_); omega; rintro e w' ⟨rfl, nq, rfl⟩) | ((with_reducible refine (peekIs_no _ _ _ _ _ _ _ (hR.drewN _) ?_).mono ?_); omega; rintro e w' ⟨rfl, nq, rfl⟩) | ((with_reducible refine (peekIs_no _ _ _ _ _ _ _ hR ?_).mono ?_); omega; rintro e w' ⟨rfl, nq, rfl⟩)))
  refine (skipN_any lb fb fp s x 2 { x with p := x.p + 2 } _ (HS.out.drewN _) ⟨by omega, by omega⟩ (by rw [show ((x.p : Int) + (2 : Int)).toNat = x.p + 2 from by omega])).mono ?_
  rintro e w1 ⟨rfl, hS1, hF1⟩
  have hF1' : Frm w w1 [lb] := ((Frm.refl w [lb]).drewN _).step hF1
  have f1 := block_free hS1.lex 1
  have c1 := block_cell hS1.lex 1
  have HS1 := Lib.hid hS1
  clear hS1 hR hF1
  go_wp2_with fail
  go_end0
  exact ⟨rfl, HS1.out.set 1 _ _ rfl HS1.out.pz, hF1'.setCell _ _ (.inl (by simp))⟩

set_option maxRecDepth 100000 in
set_option maxHeartbeats 4000000 in
theorem tok_t45_62 (lb fb : Nat) (fp s : ByteArray) (x : LX) (np : Bool) (w : World) (hS : St w lb fb fp s x) (h0 : byt s ((x.p : Int) + 0) = 45) (h1 : byt s ((x.p : Int) + 1) = 62) :
    Calls Tryz.prog 52 #[.pointer (some ⟨lb, 0, none⟩), .bool np] w (Goes (.tuple #[]) lb fb fp s { x with p := x.p + 2, kind := ⟨#[45, 62]⟩ } w) := by
  have hR := hS.rd
  have hlt2 := (byt_lt s _ (by rw [h1]; decide : 0 ≤ byt s ((x.p : Int) + 1))).2
  have hlt : x.p < s.size := by omega
  have HS := Lib.hid hS
  clear hS
  go_enter Tryz.func52, Tryz.ntmps52
  go_wp2_with (first | (go_at_call 61; first | ((with_reducible refine (eof_yes _ _ _ _ _ (hR.drewN _) ?_).mono ?_); omega; rintro e w' ⟨rfl, nq, rfl⟩) | ((with_reducible refine (eof_yes _ _ _ _ _ hR ?_).mono ?_); omega; rintro e w' ⟨rfl, nq, rfl⟩) | ((with_reducible refine (eof_no _ _ _ _ _ (hR.drewN _) ?_).mono ?_); omega; rintro e w' ⟨rfl, nq, rfl⟩) | ((with_reducible refine (eof_no _ _ _ _ _ hR ?_).mono ?_); omega; rintro e w' ⟨rfl, nq, rfl⟩)) | (go_at_call 69; first | ((with_reducible refine (peek_any _ _ _ _ _ _ _ (hR.drewN _) ⟨?_, ?_, by assumption⟩).mono ?_); omega; omega; rintro e w' ⟨rfl, nq, rfl⟩) | ((with_reducible refine (peek_any _ _ _ _ _ _ _ hR ⟨?_, ?_, by assumption⟩).mono ?_); omega; omega; rintro e w' ⟨rfl, nq, rfl⟩)) | (go_at_call 65; first | ((with_reducible refine (peekIs_yes _ _ _ _ _ _ _ (hR.drewN _) ?_).mono ?_); omega; rintro e w' ⟨rfl, nq, rfl⟩) | ((with_reducible refine (peekIs_yes _ _ _ _ _ _ _ hR ?_).mono ?_); omega; rintro e w' ⟨rfl, nq, rfl⟩) | ((with_reducible refine (peekIs_no _ _ _ _ _ _ _ (hR.drewN _) ?_).mono ?_); omega; rintro e w' ⟨rfl, nq, rfl⟩) | ((with_reducible refine (peekIs_no _ _ _ _ _ _ _ hR ?_).mono ?_); omega; rintro e w' ⟨rfl, nq, rfl⟩)))
  refine (skipN_any lb fb fp s x 2 { x with p := x.p + 2 } _ (HS.out.drewN _) ⟨by omega, by omega⟩ (by rw [show ((x.p : Int) + (2 : Int)).toNat = x.p + 2 from by omega])).mono ?_
  rintro e w1 ⟨rfl, hS1, hF1⟩
  have hF1' : Frm w w1 [lb] := ((Frm.refl w [lb]).drewN _).step hF1
  have f1 := block_free hS1.lex 1
  have c1 := block_cell hS1.lex 1
  have HS1 := Lib.hid hS1
  clear hS1 hR hF1
  go_wp2_with fail
  go_end0
  exact ⟨rfl, HS1.out.set 1 _ _ rfl HS1.out.pz, hF1'.setCell _ _ (.inl (by simp))⟩

set_option maxRecDepth 100000 in
set_option maxHeartbeats 4000000 in
theorem tok_t61_62 (lb fb : Nat) (fp s : ByteArray) (x : LX) (np : Bool) (w : World) (hS : St w lb fb fp s x) (h0 : byt s ((x.p : Int) + 0) = 61) (h1 : byt s ((x.p : Int) + 1) = 62) :
    Calls Tryz.prog 52 #[.pointer (some ⟨lb, 0, none⟩), .bool np] w (Goes (.tuple #[]) lb fb fp s { x with p := x.p + 2, kind := ⟨#[61, 62]⟩ } w) := by
  have hR := hS.rd
  have hlt2 := (byt_lt s _ (by rw [h1]; decide : 0 ≤ byt s ((x.p : Int) + 1))).2
  have hlt : x.p < s.size := by omega
  have HS := Lib.hid hS
  clear hS
  go_enter Tryz.func52, Tryz.ntmps52
  go_wp2_with (first | (go_at_call 61; first | ((with_reducible refine (eof_yes _ _ _ _ _ (hR.drewN _) ?_).mono ?_); omega; rintro e w' ⟨rfl, nq, rfl⟩) | ((with_reducible refine (eof_yes _ _ _ _ _ hR ?_).mono ?_); omega; rintro e w' ⟨rfl, nq, rfl⟩) | ((with_reducible refine (eof_no _ _ _ _ _ (hR.drewN _) ?_).mono ?_); omega; rintro e w' ⟨rfl, nq, rfl⟩) | ((with_reducible refine (eof_no _ _ _ _ _ hR ?_).mono ?_); omega; rintro e w' ⟨rfl, nq, rfl⟩)) | (go_at_call 69; first | ((with_reducible refine (peek_any _ _ _ _ _ _ _ (hR.drewN _) ⟨?_, ?_, by assumption⟩).mono ?_); omega; omega; rintro e w' ⟨rfl, nq, rfl⟩) | ((with_reducible refine (peek_any _ _ _ _ _ _ _ hR ⟨?_, ?_, by assumption⟩).mono ?_); omega; omega; rintro e w' ⟨rfl, nq, rfl⟩)) | (go_at_call 65; first | ((with_reducible refine (peekIs_yes _ _ _ _ _ _ _ (hR.drewN _) ?_).mono ?_); omega; rintro e w' ⟨rfl, nq, rfl⟩) | ((with_reducible refine (peekIs_yes _ _ _ _ _ _ _ hR ?_).mono ?_); omega; rintro e w' ⟨rfl, nq, rfl⟩) | ((with_reducible refine (peekIs_no _ _ _ _ _ _ _ (hR.drewN _) ?_).mono ?_); omega; rintro e w' ⟨rfl, nq, rfl⟩) | ((with_reducible refine (peekIs_no _ _ _ _ _ _ _ hR ?_).mono ?_); omega; rintro e w' ⟨rfl, nq, rfl⟩)))
  refine (skipN_any lb fb fp s x 2 { x with p := x.p + 2 } _ (HS.out.drewN _) ⟨by omega, by omega⟩ (by rw [show ((x.p : Int) + (2 : Int)).toNat = x.p + 2 from by omega])).mono ?_
  rintro e w1 ⟨rfl, hS1, hF1⟩
  have hF1' : Frm w w1 [lb] := ((Frm.refl w [lb]).drewN _).step hF1
  have f1 := block_free hS1.lex 1
  have c1 := block_cell hS1.lex 1
  have HS1 := Lib.hid hS1
  clear hS1 hR hF1
  go_wp2_with fail
  go_end0
  exact ⟨rfl, HS1.out.set 1 _ _ rfl HS1.out.pz, hF1'.setCell _ _ (.inl (by simp))⟩

set_option maxRecDepth 100000 in
set_option maxHeartbeats 4000000 in
theorem tok_t124_62 (lb fb : Nat) (fp s : ByteArray) (x : LX) (np : Bool) (w : World) (hS : St w lb fb fp s x) (h0 : byt s ((x.p : Int) + 0) = 124) (h1 : byt s ((x.p : Int) + 1) = 62) :
    Calls Tryz.prog 52 #[.pointer (some ⟨lb, 0, none⟩), .bool np] w (Goes (.tuple #[]) lb fb fp s { x with p := x.p + 2, kind := ⟨#[124, 62]⟩ } w) := by
  have hR := hS.rd
  have hlt2 := (byt_lt s _ (by rw [h1]; decide : 0 ≤ byt s ((x.p : Int) + 1))).2
  have hlt : x.p < s.size := by omega
  have HS := Lib.hid hS
  clear hS
  go_enter Tryz.func52, Tryz.ntmps52
  go_wp2_with (first | (go_at_call 61; first | ((with_reducible refine (eof_yes _ _ _ _ _ (hR.drewN _) ?_).mono ?_); omega; rintro e w' ⟨rfl, nq, rfl⟩) | ((with_reducible refine (eof_yes _ _ _ _ _ hR ?_).mono ?_); omega; rintro e w' ⟨rfl, nq, rfl⟩) | ((with_reducible refine (eof_no _ _ _ _ _ (hR.drewN _) ?_).mono ?_); omega; rintro e w' ⟨rfl, nq, rfl⟩) | ((with_reducible refine (eof_no _ _ _ _ _ hR ?_).mono ?_); omega; rintro e w' ⟨rfl, nq, rfl⟩)) | (go_at_call 69; first | ((with_reducible refine (peek_any _ _ _ _ _ _ _ (hR.drewN _) ⟨?_, ?_, by assumption⟩).mono ?_); omega; omega; rintro e w' ⟨rfl, nq, rfl⟩) | ((with_reducible refine (peek_any _ _ _ _ _ _ _ hR ⟨?_, ?_, by assumption⟩).mono ?_); omega; omega; rintro e w' ⟨rfl, nq, rfl⟩)) | (go_at_call 65; first | ((with_reducible refine (peekIs_yes _ _ _ _ _ _ _ (hR.drewN _) ?_).mono ?_); omega; rintro e w' ⟨rfl, nq, rfl⟩) | ((with_reducible refine (peekIs_yes _ _ _ _ _ _ _ hR ?_).mono ?_); omega; rintro e w' ⟨rfl, nq, rfl⟩) | ((with_reducible refine (peekIs_no _ _ _ _ _ _ _ (hR.drewN _) ?_).mono ?_); omega; rintro e w' ⟨rfl, nq, rfl⟩) | ((with_reducible refine (peekIs_no _ _ _ _ _ _ _ hR ?_).mono ?_); omega; rintro e w' ⟨rfl, nq, rfl⟩)))
  refine (skipN_any lb fb fp s x 2 { x with p := x.p + 2 } _ (HS.out.drewN _) ⟨by omega, by omega⟩ (by rw [show ((x.p : Int) + (2 : Int)).toNat = x.p + 2 from by omega])).mono ?_
  rintro e w1 ⟨rfl, hS1, hF1⟩
  have hF1' : Frm w w1 [lb] := ((Frm.refl w [lb]).drewN _).step hF1
  have f1 := block_free hS1.lex 1
  have c1 := block_cell hS1.lex 1
  have HS1 := Lib.hid hS1
  clear hS1 hR hF1
  go_wp2_with fail
  go_end0
  exact ⟨rfl, HS1.out.set 1 _ _ rfl HS1.out.pz, hF1'.setCell _ _ (.inl (by simp))⟩

set_option maxRecDepth 100000 in
set_option maxHeartbeats 4000000 in
theorem tok_t124_124 (lb fb : Nat) (fp s : ByteArray) (x : LX) (np : Bool) (w : World) (hS : St w lb fb fp s x) (h0 : byt s ((x.p : Int) + 0) = 124) (h1 : byt s ((x.p : Int) + 1) = 124) :
    Calls Tryz.prog 52 #[.pointer (some ⟨lb, 0, none⟩), .bool np] w (Goes (.tuple #[]) lb fb fp s { x with p := x.p + 2, kind := ⟨#[124, 124]⟩ } w) := by
  have hR := hS.rd
  have hlt2 := (byt_lt s _ (by rw [h1]; decide : 0 ≤ byt s ((x.p : Int) + 1))).2
  have hlt : x.p < s.size := by omega
  have HS := Lib.hid hS
  clear hS
  go_enter Tryz.func52, Tryz.ntmps52
  go_wp2_with (first | (go_at_call 61; first | ((with_reducible refine (eof_yes _ _ _ _ _ (hR.drewN _) ?_).mono ?_); omega; rintro e w' ⟨rfl, nq, rfl⟩) | ((with_reducible refine (eof_yes _ _ _ _ _ hR ?_).mono ?_); omega; rintro e w' ⟨rfl, nq, rfl⟩) | ((with_reducible refine (eof_no _ _ _ _ _ (hR.drewN _) ?_).mono ?_); omega; rintro e w' ⟨rfl, nq, rfl⟩) | ((with_reducible refine (eof_no _ _ _ _ _ hR ?_).mono ?_); omega; rintro e w' ⟨rfl, nq, rfl⟩)) | (go_at_call 69; first | ((with_reducible refine (peek_any _ _ _ _ _ _ _ (hR.drewN _) ⟨?_, ?_, by assumption⟩).mono ?_); omega; omega; rintro e w' ⟨rfl, nq, rfl⟩) | ((with_reducible refine (peek_any _ _ _ _ _ _ _ hR ⟨?_, ?_, by assumption⟩).mono ?_); omega; omega; rintro e w' ⟨rfl, nq, rfl⟩)) | (go_at_call 65; first | ((with_reducible refine (peekIs_yes _ _ _ _ _ _ _ (hR.drewN _) ?_).mono ?_); omega; rintro e w' ⟨rfl, nq, rfl⟩) | ((with_reducible refine (peekIs_yes _ _ _ _ _ _ _ hR ?_).mono ?_); omega; rintro e w' ⟨rfl, nq, rfl⟩) | ((with_reducible refine (peekIs_no _ _ _ _ _ _ _ (hR.drewN _) ?_).mono ?_); omega; rintro e w' ⟨rfl, nq, rfl⟩) | ((with_reducible refine (peekIs_no _ _ _ _ _ _ _ hR ?_).mono ?_); omega; rintro e w' ⟨rfl, nq, rfl⟩)))
  refine (skipN_any lb fb fp s x 2 { x with p := x.p + 2 } _ (HS.out.drewN _) ⟨by omega, by omega⟩ (by rw [show ((x.p : Int) + (2 : Int)).toNat = x.p + 2 from by omega])).mono ?_
  rintro e w1 ⟨rfl, hS1, hF1⟩
  have hF1' : Frm w w1 [lb] := ((Frm.refl w [lb]).drewN _).step hF1
  have f1 := block_free hS1.lex 1
  have c1 := block_cell hS1.lex 1
  have HS1 := Lib.hid hS1
  clear hS1 hR hF1
  go_wp2_with fail
  go_end0
  exact ⟨rfl, HS1.out.set 1 _ _ rfl HS1.out.pz, hF1'.setCell _ _ (.inl (by simp))⟩

set_option maxRecDepth 100000 in
set_option maxHeartbeats 4000000 in
theorem tok_t33_61 (lb fb : Nat) (fp s : ByteArray) (x : LX) (np : Bool) (w : World) (hS : St w lb fb fp s x) (h0 : byt s ((x.p : Int) + 0) = 33) (h1 : byt s ((x.p : Int) + 1) = 61) :
    Calls Tryz.prog 52 #[.pointer (some ⟨lb, 0, none⟩), .bool np] w (Goes (.tuple #[]) lb fb fp s { x with p := x.p + 2, kind := ⟨#[33, 61]⟩ } w) := by
  have hR := hS.rd
  have hlt2 := (byt_lt s _ (by rw [h1]; decide : 0 ≤ byt s ((x.p : Int) + 1))).2
  have hlt : x.p < s.size := by omega
  have HS := Lib.hid hS
  clear hS
  go_enter Tryz.func52, Tryz.ntmps52
  go_wp2_with (first | (go_at_call 61; first | ((with_reducible refine (eof_yes _ _ _ _ _ (hR.drewN _) ?_).mono ?_); omega; rintro e w' ⟨rfl, nq, rfl⟩) | ((with_reducible refine (eof_yes _ _ _ _ _ hR ?_).mono ?_); omega; rintro e w' ⟨rfl, nq, rfl⟩) | ((with_reducible refine (eof_no _ _ _ _ _ (hR.drewN _) ?_).mono ?_); omega; rintro e w' ⟨rfl, nq, rfl⟩) | ((with_reducible refine (eof_no _ _ _ _ _ hR ?_).mono ?_); omega; rintro e w' ⟨rfl, nq, rfl⟩)) | (go_at_call 69; first | ((with_reducible refine (peek_any _ _ _ _ _ _ _ (hR.drewN _) ⟨?_, ?_, by assumption⟩).mono ?_); omega; omega; rintro e w' ⟨rfl, nq, rfl⟩) | ((with_reducible refine (peek_any _ _ _ _ _ _ _ hR ⟨?_, ?_, by assumption⟩).mono ?_); omega; omega; rintro e w' ⟨rfl, nq, rfl⟩)) | (go_at_call 65; first | ((with_reducible refine (peekIs_yes _ _ _ _ _ _ _ (hR.drewN _) ?_).mono ?_); omega; rintro e w' ⟨rfl, nq, rfl⟩) | ((with_reducible refine (peekIs_yes _ _ _ _ _ _ _ hR ?_).mono ?_); omega; rintro e w' ⟨rfl, nq, rfl⟩) | ((with_reducible refine (peekIs_no _ _ _ _ _ _ _ (hR.drewN _) ?_).mono ?_); omega; rintro e w' ⟨rfl, nq, rfl⟩) | ((with_reducible refine (peekIs_no _ _ _ _ _ _ _ hR ?_).mono ?_); omega; rintro e w' ⟨rfl, nq, rfl⟩)))
  refine (skipN_any lb fb fp s x 2 { x with p := x.p + 2 } _ (HS.out.drewN _) ⟨by omega, by omega⟩ (by rw [show ((x.p : Int) + (2 : Int)).toNat = x.p + 2 from by omega])).mono ?_
  rintro e w1 ⟨rfl, hS1, hF1⟩
  have hF1' : Frm w w1 [lb] := ((Frm.refl w [lb]).drewN _).step hF1
  have f1 := block_free hS1.lex 1
  have c1 := block_cell hS1.lex 1
  have HS1 := Lib.hid hS1
  clear hS1 hR hF1
  go_wp2_with fail
  go_end0
  exact ⟨rfl, HS1.out.set 1 _ _ rfl HS1.out.pz, hF1'.setCell _ _ (.inl (by simp))⟩

set_option maxRecDepth 100000 in
set_option maxHeartbeats 4000000 in
theorem tok_t64_64 (lb fb : Nat) (fp s : ByteArray) (x : LX) (np : Bool) (w : World) (hS : St w lb fb fp s x) (h0 : byt s ((x.p : Int) + 0) = 64) (h1 : byt s ((x.p : Int) + 1) = 64) :
    Calls Tryz.prog 52 #[.pointer (some ⟨lb, 0, none⟩), .bool np] w (Goes (.tuple #[]) lb fb fp s { x with p := x.p + 2, kind := ⟨#[64, 64]⟩ } w) := by
  have hR := hS.rd
  have hlt2 := (byt_lt s _ (by rw [h1]; decide : 0 ≤ byt s ((x.p : Int) + 1))).2
  have hlt : x.p < s.size := by omega
  have HS := Lib.hid hS
  clear hS
  go_enter Tryz.func52, Tryz.ntmps52
  go_wp2_with (first | (go_at_call 61; first | ((with_reducible refine (eof_yes _ _ _ _ _ (hR.drewN _) ?_).mono ?_); omega; rintro e w' ⟨rfl, nq, rfl⟩) | ((with_reducible refine (eof_yes _ _ _ _ _ hR ?_).mono ?_); omega; rintro e w' ⟨rfl, nq, rfl⟩) | ((with_reducible refine (eof_no _ _ _ _ _ (hR.drewN _) ?_).mono ?_); omega; rintro e w' ⟨rfl, nq, rfl⟩) | ((with_reducible refine (eof_no _ _ _ _ _ hR ?_).mono ?_); omega; rintro e w' ⟨rfl, nq, rfl⟩)) | (go_at_call 69; first | ((with_reducible refine (peek_any _ _ _ _ _ _ _ (hR.drewN _) ⟨?_, ?_, by assumption⟩).mono ?_); omega; omega; rintro e w' ⟨rfl, nq, rfl⟩) | ((with_reducible refine (peek_any _ _ _ _ _ _ _ hR ⟨?_, ?_, by assumption⟩).mono ?_); omega; omega; rintro e w' ⟨rfl, nq, rfl⟩)) | (go_at_call 65; first | ((with_reducible refine (peekIs_yes _ _ _ _ _ _ _ (hR.drewN _) ?_).mono ?_); omega; rintro e w' ⟨rfl, nq, rfl⟩) | ((with_reducible refine (peekIs_yes _ _ _ _ _ _ _ hR ?_).mono ?_); omega; rintro e w' ⟨rfl, nq, rfl⟩) | ((with_reducible refine (peekIs_no _ _ _ _ _ _ _ (hR.drewN _) ?_).mono ?_); omega; rintro e w' ⟨rfl, nq, rfl⟩) | ((with_reducible refine (peekIs_no _ _ _ _ _ _ _ hR ?_).mono ?_); omega; rintro e w' ⟨rfl, nq, rfl⟩)))
  refine (skipN_any lb fb fp s x 2 { x with p := x.p + 2 } _ (HS.out.drewN _) ⟨by omega, by omega⟩ (by rw [show ((x.p : Int) + (2 : Int)).toNat = x.p + 2 from by omega])).mono ?_
  rintro e w1 ⟨rfl, hS1, hF1⟩
  have hF1' : Frm w w1 [lb] := ((Frm.refl w [lb]).drewN _).step hF1
  have f1 := block_free hS1.lex 1
  have c1 := block_cell hS1.lex 1
  have HS1 := Lib.hid hS1
  clear hS1 hR hF1
  go_wp2_with fail
  go_end0
  exact ⟨rfl, HS1.out.set 1 _ _ rfl HS1.out.pz, hF1'.setCell _ _ (.inl (by simp))⟩

set_option maxRecDepth 100000 in
set_option maxHeartbeats 4000000 in
theorem tok_o60 (lb fb : Nat) (fp s : ByteArray) (x : LX) (np : Bool) (w : World) (hS : St w lb fb fp s x) (h0 : byt s ((x.p : Int) + 0) = 60) (h1 : ¬ byt s ((x.p : Int) + 1) = 60 ∧ ¬ byt s ((x.p : Int) + 1) = 61 ∧ ¬ byt s ((x.p : Int) + 1) = 62) :
    Calls Tryz.prog 52 #[.pointer (some ⟨lb, 0, none⟩), .bool np] w (Goes (.tuple #[]) lb fb fp s { x with p := x.p + 1, kind := ⟨#[60]⟩ } w) := by
  have hR := hS.rd
  have hsz := hS.sz
  have hlt2 := (byt_lt s _ (by rw [h0]; decide : 0 ≤ byt s ((x.p : Int) + 0))).2
  have hlt : x.p < s.size := by omega
  have HS := Lib.hid hS
  clear hS
  go_enter Tryz.func52, Tryz.ntmps52
  go_wp2_with (first | (go_at_call 61; first | ((with_reducible refine (eof_yes _ _ _ _ _ (hR.drewN _) ?_).mono ?_); omega; rintro e w' ⟨rfl, nq, rfl⟩) | ((with_reducible refine (eof_yes _ _ _ _ _ hR ?_).mono ?_); omega; rintro e w' ⟨rfl, nq, rfl⟩) | ((with_reducible refine (eof_no _ _ _ _ _ (hR.drewN _) ?_).mono ?_); omega; rintro e w' ⟨rfl, nq, rfl⟩) | ((with_reducible refine (eof_no _ _ _ _ _ hR ?_).mono ?_); omega; rintro e w' ⟨rfl, nq, rfl⟩)) | (go_at_call 69; first | ((with_reducible refine (peek_any _ _ _ _ _ _ _ (hR.drewN _) ⟨?_, ?_, by assumption⟩).mono ?_); omega; omega; rintro e w' ⟨rfl, nq, rfl⟩) | ((with_reducible refine (peek_any _ _ _ _ _ _ _ hR ⟨?_, ?_, by assumption⟩).mono ?_); omega; omega; rintro e w' ⟨rfl, nq, rfl⟩)) | (go_at_call 65; first | ((with_reducible refine (peekIs_yes _ _ _ _ _ _ _ (hR.drewN _) ?_).mono ?_); omega; rintro e w' ⟨rfl, nq, rfl⟩) | ((with_reducible refine (peekIs_yes _ _ _ _ _ _ _ hR ?_).mono ?_); omega; rintro e w' ⟨rfl, nq, rfl⟩) | ((with_reducible refine (peekIs_no _ _ _ _ _ _ _ (hR.drewN _) ?_).mono ?_); omega; rintro e w' ⟨rfl, nq, rfl⟩) | ((with_reducible refine (peekIs_no _ _ _ _ _ _ _ hR ?_).mono ?_); omega; rintro e w' ⟨rfl, nq, rfl⟩)))
  refine (skip_any lb fb fp s x 60 { x with p := x.p + 1 } _ (HS.out.drewN _) ⟨by omega, h0⟩ rfl).mono ?_
  rintro e w1 ⟨rfl, hS1, hF1⟩
  have hF1' : Frm w w1 [lb] := ((Frm.refl w [lb]).drewN _).step hF1
  have f1 := block_free hS1.lex 1
  have c1 := block_cell hS1.lex 1
  have HS1 := Lib.hid hS1
  clear hS1 hR hF1
  go_wp2_with fail
  go_end0
  exact ⟨rfl, HS1.out.set 1 _ _ rfl HS1.out.pz, hF1'.setCell _ _ (.inl (by simp))⟩

set_option maxRecDepth 100000 in
set_option maxHeartbeats 4000000 in
theorem tok_o62 (lb fb : Nat) (fp s : ByteArray) (x : LX) (np : Bool) (w : World) (hS : St w lb fb fp s x) (h0 : byt s ((x.p : Int) + 0) = 62) (h1 : ¬ byt s ((x.p : Int) + 1) = 62 ∧ ¬ byt s ((x.p : Int) + 1) = 61 ∧ ¬ byt s ((x.p : Int) + 1) = 61) :
    Calls Tryz.prog 52 #[.pointer (some ⟨lb, 0, none⟩), .bool np] w (Goes (.tuple #[]) lb fb fp s { x with p := x.p + 1, kind := ⟨#[62]⟩ } w) := by
  have hR := hS.rd
  have hsz := hS.sz
  have hlt2 := (byt_lt s _ (by rw [h0]; decide : 0 ≤ byt s ((x.p : Int) + 0))).2
  have hlt : x.p < s.size := by omega
  have HS := Lib.hid hS
  clear hS
  go_enter Tryz.func52, Tryz.ntmps52
  go_wp2_with (first | (go_at_call 61; first | ((with_reducible refine (eof_yes _ _ _ _ _ (hR.drewN _) ?_).mono ?_); omega; rintro e w' ⟨rfl, nq, rfl⟩) | ((with_reducible refine (eof_yes _ _ _ _ _ hR ?_).mono ?_); omega; rintro e w' ⟨rfl, nq, rfl⟩) | ((with_reducible refine (eof_no _ _ _ _ _ (hR.drewN _) ?_).mono ?_); omega; rintro e w' ⟨rfl, nq, rfl⟩) | ((with_reducible refine (eof_no _ _ _ _ _ hR ?_).mono ?_); omega; rintro e w' ⟨rfl, nq, rfl⟩)) | (go_at_call 69; first | ((with_reducible refine (peek_any _ _ _ _ _ _ _ (hR.drewN _) ⟨?_, ?_, by assumption⟩).mono ?_); omega; omega; rintro e w' ⟨rfl, nq, rfl⟩) | ((with_reducible refine (peek_any _ _ _ _ _ _ _ hR ⟨?_, ?_, by assumption⟩).mono ?_); omega; omega; rintro e w' ⟨rfl, nq, rfl⟩)) | (go_at_call 65; first | ((with_reducible refine (peekIs_yes _ _ _ _ _ _ _ (hR.drewN _) ?_).mono ?_); omega; rintro e w' ⟨rfl, nq, rfl⟩) | ((with_reducible refine (peekIs_yes _ _ _ _ _ _ _ hR ?_).mono ?_); omega; rintro e w' ⟨rfl, nq, rfl⟩) | ((with_reducible refine (peekIs_no _ _ _ _ _ _ _ (hR.drewN _) ?_).mono ?_); omega; rintro e w' ⟨rfl, nq, rfl⟩) | ((with_reducible refine (peekIs_no _ _ _ _ _ _ _ hR ?_).mono ?_); omega; rintro e w' ⟨rfl, nq, rfl⟩)))
  refine (skip_any lb fb fp s x 62 { x with p := x.p + 1 } _ (HS.out.drewN _) ⟨by omega, h0⟩ rfl).mono ?_
  rintro e w1 ⟨rfl, hS1, hF1⟩
  have hF1' : Frm w w1 [lb] := ((Frm.refl w [lb]).drewN _).step hF1
  have f1 := block_free hS1.lex 1
  have c1 := block_cell hS1.lex 1
  have HS1 := Lib.hid hS1
  clear hS1 hR hF1
  go_wp2_with fail
  go_end0
  exact ⟨rfl, HS1.out.set 1 _ _ rfl HS1.out.pz, hF1'.setCell _ _ (.inl (by simp))⟩

set_option maxRecDepth 100000 in
set_option maxHeartbeats 4000000 in
theorem tok_o43 (lb fb : Nat) (fp s : ByteArray) (x : LX) (np : Bool) (w : World) (hS : St w lb fb fp s x) (h0 : byt s ((x.p : Int) + 0) = 43) (h1 : ¬ byt s ((x.p : Int) + 1) = 61 ∧ ¬ byt s ((x.p : Int) + 1) = 61 ∧ ¬ byt s ((x.p : Int) + 1) = 61) :
    Calls Tryz.prog 52 #[.pointer (some ⟨lb, 0, none⟩), .bool np] w (Goes (.tuple #[]) lb fb fp s { x with p := x.p + 1, kind := ⟨#[43]⟩ } w) := by
  have hR := hS.rd
  have hsz := hS.sz
  have hlt2 := (byt_lt s _ (by rw [h0]; decide : 0 ≤ byt s ((x.p : Int) + 0))).2
  have hlt : x.p < s.size := by omega
  have HS := Lib.hid hS
  clear hS
  go_enter Tryz.func52, Tryz.ntmps52
  go_wp2_with (first | (go_at_call 61; first | ((with_reducible refine (eof_yes _ _ _ _ _ (hR.drewN _) ?_).mono ?_); omega; rintro e w' ⟨rfl, nq, rfl⟩) | ((with_reducible refine (eof_yes _ _ _ _ _ hR ?_).mono ?_); omega; rintro e w' ⟨rfl, nq, rfl⟩) | ((with_reducible refine (eof_no _ _ _ _ _ (hR.drewN _) ?_).mono ?_); omega; rintro e w' ⟨rfl, nq, rfl⟩) | ((with_reducible refine (eof_no _ _ _ _ _ hR ?_).mono ?_); omega; rintro e w' ⟨rfl, nq, rfl⟩)) | (go_at_call 69; first | ((with_reducible refine (peek_any _ _ _ _ _ _ _ (hR.drewN _) ⟨?_, ?_, by assumption⟩).mono ?_); omega; omega; rintro e w' ⟨rfl, nq, rfl⟩) | ((with_reducible refine (peek_any _ _ _ _ _ _ _ hR ⟨?_, ?_, by assumption⟩).mono ?_); omega; omega; rintro e w' ⟨rfl, nq, rfl⟩)) | (go_at_call 65; first | ((with_reducible refine (peekIs_yes _ _ _ _ _ _ _ (hR.drewN _) ?_).mono ?_); omega; rintro e w' ⟨rfl, nq, rfl⟩) | ((with_reducible refine (peekIs_yes _ _ _ _ _ _ _ hR ?_).mono ?_); omega; rintro e w' ⟨rfl, nq, rfl⟩) | ((with_reducible refine (peekIs_no _ _ _ _ _ _ _ (hR.drewN _) ?_).mono ?_); omega; rintro e w' ⟨rfl, nq, rfl⟩) | ((with_reducible refine (peekIs_no _ _ _ _ _ _ _ hR ?_).mono ?_); omega; rintro e w' ⟨rfl, nq, rfl⟩)))
  refine (skip_any lb fb fp s x 43 { x with p := x.p + 1 } _ (HS.out.drewN _) ⟨by omega, h0⟩ rfl).mono ?_
  rintro e w1 ⟨rfl, hS1, hF1⟩
  have hF1' : Frm w w1 [lb] := ((Frm.refl w [lb]).drewN _).step hF1
  have f1 := block_free hS1.lex 1
  have c1 := block_cell hS1.lex 1
  have HS1 := Lib.hid hS1
  clear hS1 hR hF1
  go_wp2_with fail
  go_end0
  exact ⟨rfl, HS1.out.set 1 _ _ rfl HS1.out.pz, hF1'.setCell _ _ (.inl (by simp))⟩

set_option maxRecDepth 100000 in
set_option maxHeartbeats 4000000 in
theorem tok_o45 (lb fb : Nat) (fp s : ByteArray) (x : LX) (np : Bool) (w : World) (hS : St w lb fb fp s x) (h0 : byt s ((x.p : Int) + 0) = 45) (h1 : ¬ byt s ((x.p : Int) + 1) = 61 ∧ ¬ byt s ((x.p : Int) + 1) = 62 ∧ ¬ byt s ((x.p : Int) + 1) = 62) :
    Calls Tryz.prog 52 #[.pointer (some ⟨lb, 0, none⟩), .bool np] w (Goes (.tuple #[]) lb fb fp s { x with p := x.p + 1, kind := ⟨#[45]⟩ } w) := by
  have hR := hS.rd
  have hsz := hS.sz
  have hlt2 := (byt_lt s _ (by rw [h0]; decide : 0 ≤ byt s ((x.p : Int) + 0))).2
  have hlt : x.p < s.size := by omega
  have HS := Lib.hid hS
  clear hS
  go_enter Tryz.func52, Tryz.ntmps52
  go_wp2_with (first | (go_at_call 61; first | ((with_reducible refine (eof_yes _ _ _ _ _ (hR.drewN _) ?_).mono ?_); omega; rintro e w' ⟨rfl, nq, rfl⟩) | ((with_reducible refine (eof_yes _ _ _ _ _ hR ?_).mono ?_); omega; rintro e w' ⟨rfl, nq, rfl⟩) | ((with_reducible refine (eof_no _ _ _ _ _ (hR.drewN _) ?_).mono ?_); omega; rintro e w' ⟨rfl, nq, rfl⟩) | ((with_reducible refine (eof_no _ _ _ _ _ hR ?_).mono ?_); omega; rintro e w' ⟨rfl, nq, rfl⟩)) | (go_at_call 69; first | ((with_reducible refine (peek_any _ _ _ _ _ _ _ (hR.drewN _) ⟨?_, ?_, by assumption⟩).mono ?_); omega; omega; rintro e w' ⟨rfl, nq, rfl⟩) | ((with_reducible refine (peek_any _ _ _ _ _ _ _ hR ⟨?_, ?_, by assumption⟩).mono ?_); omega; omega; rintro e w' ⟨rfl, nq, rfl⟩)) | (go_at_call 65; first | ((with_reducible refine (peekIs_yes _ _ _ _ _ _ _ (hR.drewN _) ?_).mono ?_); omega; rintro e w' ⟨rfl, nq, rfl⟩) | ((with_reducible refine (peekIs_yes _ _ _ _ _ _ _ hR ?_).mono ?_); omega; rintro e w' ⟨rfl, nq, rfl⟩) | ((with_reducible refine (peekIs_no _ _ _ _ _ _ _ (hR.drewN _) ?_).mono ?_); omega; rintro e w' ⟨rfl, nq, rfl⟩) | ((with_reducible refine (peekIs_no _ _ _ _ _ _ _ hR ?_).mono ?_); omega; rintro e w' ⟨rfl, nq, rfl⟩)))
  refine (skip_any lb fb fp s x 45 { x with p := x.p + 1 } _ (HS.out.drewN _) ⟨by omega, h0⟩ rfl).mono ?_
  rintro e w1 ⟨rfl, hS1, hF1⟩
  have hF1' : Frm w w1 [lb] := ((Frm.refl w [lb]).drewN _).step hF1
  have f1 := block_free hS1.lex 1
  have c1 := block_cell hS1.lex 1
  have HS1 := Lib.hid hS1
  clear hS1 hR hF1
  go_wp2_with fail
  go_end0
  exact ⟨rfl, HS1.out.set 1 _ _ rfl HS1.out.pz, hF1'.setCell _ _ (.inl (by simp))⟩

set_option maxRecDepth 100000 in
set_option maxHeartbeats 4000000 in
theorem tok_o61 (lb fb : Nat) (fp s : ByteArray) (x : LX) (np : Bool) (w : World) (hS : St w lb fb fp s x) (h0 : byt s ((x.p : Int) + 0) = 61) (h1 : ¬ byt s ((x.p : Int) + 1) = 62 ∧ ¬ byt s ((x.p : Int) + 1) = 62 ∧ ¬ byt s ((x.p : Int) + 1) = 62) :
    Calls Tryz.prog 52 #[.pointer (some ⟨lb, 0, none⟩), .bool np] w (Goes (.tuple #[]) lb fb fp s { x with p := x.p + 1, kind := ⟨#[61]⟩ } w) := by
  have hR := hS.rd
  have hsz := hS.sz
  have hlt2 := (byt_lt s _ (by rw [h0]; decide : 0 ≤ byt s ((x.p : Int) + 0))).2
  have hlt : x.p < s.size := by omega
  have HS := Lib.hid hS
  clear hS
  go_enter Tryz.func52, Tryz.ntmps52
  go_wp2_with (first | (go_at_call 61; first | ((with_reducible refine (eof_yes _ _ _ _ _ (hR.drewN _) ?_).mono ?_); omega; rintro e w' ⟨rfl, nq, rfl⟩) | ((with_reducible refine (eof_yes _ _ _ _ _ hR ?_).mono ?_); omega; rintro e w' ⟨rfl, nq, rfl⟩) | ((with_reducible refine (eof_no _ _ _ _ _ (hR.drewN _) ?_).mono ?_); omega; rintro e w' ⟨rfl, nq, rfl⟩) | ((with_reducible refine (eof_no _ _ _ _ _ hR ?_).mono ?_); omega; rintro e w' ⟨rfl, nq, rfl⟩)) | (go_at_call 69; first | ((with_reducible refine (peek_any _ _ _ _ _ _ _ (hR.drewN _) ⟨?_, ?_, by assumption⟩).mono ?_); omega; omega; rintro e w' ⟨rfl, nq, rfl⟩) | ((with_reducible refine (peek_any _ _ _ _ _ _ _ hR ⟨?_, ?_, by assumption⟩).mono ?_); omega; omega; rintro e w' ⟨rfl, nq, rfl⟩)) | (go_at_call 65; first | ((with_reducible refine (peekIs_yes _ _ _ _ _ _ _ (hR.drewN _) ?_).mono ?_); omega; rintro e w' ⟨rfl, nq, rfl⟩) | ((with_reducible refine (peekIs_yes _ _ _ _ _ _ _ hR ?_).mono ?_); omega; rintro e w' ⟨rfl, nq, rfl⟩) | ((with_reducible refine (peekIs_no _ _ _ _ _ _ _ (hR.drewN _) ?_).mono ?_); omega; rintro e w' ⟨rfl, nq, rfl⟩) | ((with_reducible refine (peekIs_no _ _ _ _ _ _ _ hR ?_).mono ?_); omega; rintro e w' ⟨rfl, nq, rfl⟩)))
  refine (skip_any lb fb fp s x 61 { x with p := x.p + 1 } _ (HS.out.drewN _) ⟨by omega, h0⟩ rfl).mono ?_
  rintro e w1 ⟨rfl, hS1, hF1⟩
  have hF1' : Frm w w1 [lb] := ((Frm.refl w [lb]).drewN _).step hF1
  have f1 := block_free hS1.lex 1
  have c1 := block_cell hS1.lex 1
  have HS1 := Lib.hid hS1
  clear hS1 hR hF1
  go_wp2_with fail
  go_end0
  exact ⟨rfl, HS1.out.set 1 _ _ rfl HS1.out.pz, hF1'.setCell _ _ (.inl (by simp))⟩

set_option maxRecDepth 100000 in
set_option maxHeartbeats 4000000 in
theorem tok_o124 (lb fb : Nat) (fp s : ByteArray) (x : LX) (np : Bool) (w : World) (hS : St w lb fb fp s x) (h0 : byt s ((x.p : Int) + 0) = 124) (h1 : ¬ byt s ((x.p : Int) + 1) = 62 ∧ ¬ byt s ((x.p : Int) + 1) = 124 ∧ ¬ byt s ((x.p : Int) + 1) = 124) :
    Calls Tryz.prog 52 #[.pointer (some ⟨lb, 0, none⟩), .bool np] w (Goes (.tuple #[]) lb fb fp s { x with p := x.p + 1, kind := ⟨#[124]⟩ } w) := by
  have hR := hS.rd
  have hsz := hS.sz
  have hlt2 := (byt_lt s _ (by rw [h0]; decide : 0 ≤ byt s ((x.p : Int) + 0))).2
  have hlt : x.p < s.size := by omega
  have HS := Lib.hid hS
  clear hS
  go_enter Tryz.func52, Tryz.ntmps52
  go_wp2_with (first | (go_at_call 61; first | ((with_reducible refine (eof_yes _ _ _ _ _ (hR.drewN _) ?_).mono ?_); omega; rintro e w' ⟨rfl, nq, rfl⟩) | ((with_reducible refine (eof_yes _ _ _ _ _ hR ?_).mono ?_); omega; rintro e w' ⟨rfl, nq, rfl⟩) | ((with_reducible refine (eof_no _ _ _ _ _ (hR.drewN _) ?_).mono ?_); omega; rintro e w' ⟨rfl, nq, rfl⟩) | ((with_reducible refine (eof_no _ _ _ _ _ hR ?_).mono ?_); omega; rintro e w' ⟨rfl, nq, rfl⟩)) | (go_at_call 69; first | ((with_reducible refine (peek_any _ _ _ _ _ _ _ (hR.drewN _) ⟨?_, ?_, by assumption⟩).mono ?_); omega; omega; rintro e w' ⟨rfl, nq, rfl⟩) | ((with_reducible refine (peek_any _ _ _ _ _ _ _ hR ⟨?_, ?_, by assumption⟩).mono ?_); omega; omega; rintro e w' ⟨rfl, nq, rfl⟩)) | (go_at_call 65; first | ((with_reducible refine (peekIs_yes _ _ _ _ _ _ _ (hR.drewN _) ?_).mono ?_); omega; rintro e w' ⟨rfl, nq, rfl⟩) | ((with_reducible refine (peekIs_yes _ _ _ _ _ _ _ hR ?_).mono ?_); omega; rintro e w' ⟨rfl, nq, rfl⟩) | ((with_reducible refine (peekIs_no _ _ _ _ _ _ _ (hR.drewN _) ?_).mono ?_); omega; rintro e w' ⟨rfl, nq, rfl⟩) | ((with_reducible refine (peekIs_no _ _ _ _ _ _ _ hR ?_).mono ?_); omega; rintro e w' ⟨rfl, nq, rfl⟩)))
  refine (skip_any lb fb fp s x 124 { x with p := x.p + 1 } _ (HS.out.drewN _) ⟨by omega, h0⟩ rfl).mono ?_
  rintro e w1 ⟨rfl, hS1, hF1⟩
  have hF1' : Frm w w1 [lb] := ((Frm.refl w [lb]).drewN _).step hF1
  have f1 := block_free hS1.lex 1
  have c1 := block_cell hS1.lex 1
  have HS1 := Lib.hid hS1
  clear hS1 hR hF1
  go_wp2_with fail
  go_end0
  exact ⟨rfl, HS1.out.set 1 _ _ rfl HS1.out.pz, hF1'.setCell _ _ (.inl (by simp))⟩

set_option maxRecDepth 100000 in
set_option maxHeartbeats 4000000 in
theorem tok_o33 (lb fb : Nat) (fp s : ByteArray) (x : LX) (np : Bool) (w : World) (hS : St w lb fb fp s x) (h0 : byt s ((x.p : Int) + 0) = 33) (h1 : ¬ byt s ((x.p : Int) + 1) = 61 ∧ ¬ byt s ((x.p : Int) + 1) = 61 ∧ ¬ byt s ((x.p : Int) + 1) = 61) :
    Calls Tryz.prog 52 #[.pointer (some ⟨lb, 0, none⟩), .bool np] w (Goes (.tuple #[]) lb fb fp s { x with p := x.p + 1, kind := ⟨#[33]⟩ } w) := by
  have hR := hS.rd
  have hsz := hS.sz
  have hlt2 := (byt_lt s _ (by rw [h0]; decide : 0 ≤ byt s ((x.p : Int) + 0))).2
  have hlt : x.p < s.size := by omega
  have HS := Lib.hid hS
  clear hS
  go_enter Tryz.func52, Tryz.ntmps52
  go_wp2_with (first | (go_at_call 61; first | ((with_reducible refine (eof_yes _ _ _ _ _ (hR.drewN _) ?_).mono ?_); omega; rintro e w' ⟨rfl, nq, rfl⟩) | ((with_reducible refine (eof_yes _ _ _ _ _ hR ?_).mono ?_); omega; rintro e w' ⟨rfl, nq, rfl⟩) | ((with_reducible refine (eof_no _ _ _ _ _ (hR.drewN _) ?_).mono ?_); omega; rintro e w' ⟨rfl, nq, rfl⟩) | ((with_reducible refine (eof_no _ _ _ _ _ hR ?_).mono ?_); omega; rintro e w' ⟨rfl, nq, rfl⟩)) | (go_at_call 69; first | ((with_reducible refine (peek_any _ _ _ _ _ _ _ (hR.drewN _) ⟨?_, ?_, by assumption⟩).mono ?_); omega; omega; rintro e w' ⟨rfl, nq, rfl⟩) | ((with_reducible refine (peek_any _ _ _ _ _ _ _ hR ⟨?_, ?_, by assumption⟩).mono ?_); omega; omega; rintro e w' ⟨rfl, nq, rfl⟩)) | (go_at_call 65; first | ((with_reducible refine (peekIs_yes _ _ _ _ _ _ _ (hR.drewN _) ?_).mono ?_); omega; rintro e w' ⟨rfl, nq, rfl⟩) | ((with_reducible refine (peekIs_yes _ _ _ _ _ _ _ hR ?_).mono ?_); omega; rintro e w' ⟨rfl, nq, rfl⟩) | ((with_reducible refine (peekIs_no _ _ _ _ _ _ _ (hR.drewN _) ?_).mono ?_); omega; rintro e w' ⟨rfl, nq, rfl⟩) | ((with_reducible refine (peekIs_no _ _ _ _ _ _ _ hR ?_).mono ?_); omega; rintro e w' ⟨rfl, nq, rfl⟩)))
  refine (skip_any lb fb fp s x 33 { x with p := x.p + 1 } _ (HS.out.drewN _) ⟨by omega, h0⟩ rfl).mono ?_
  rintro e w1 ⟨rfl, hS1, hF1⟩
  have hF1' : Frm w w1 [lb] := ((Frm.refl w [lb]).drewN _).step hF1
  have f1 := block_free hS1.lex 1
  have c1 := block_cell hS1.lex 1
  have HS1 := Lib.hid hS1
  clear hS1 hR hF1
  go_wp2_with fail
  go_end0
  exact ⟨rfl, HS1.out.set 1 _ _ rfl HS1.out.pz, hF1'.setCell _ _ (.inl (by simp))⟩

end Go.Proofs.YtngofbhlhcalpaaGreatDoor.lexer

namespace Go.Proofs.YtngofbhlhcalpaaGreatDoor.lexer
open Go.RowKit Go.Proofs.YtngofbhlhcalpaaGreatDoor.gen
open Go.Proofs.YtngofbhlhcalpaaGreatDoor.upper (up isKw toUpper_any zzKeyword_any)

def IdRel (s : ByteArray) (p N : Nat) (i : Value) (w wr : World) : Prop :=
  ∃ (k nq : Nat), i = .int .i64 k ∧ wr = w.drewN nq ∧ p + k ≤ s.size ∧ k + idLen (suf s (p + k)) = N

theorem ext_suf (s : ByteArray) (p N : Nat) : (s.extract p (p + N)).data.toList = (suf s p).take N := by
  rw [ByteArray.data_extract, Array.toList_extract]
  unfold suf
  simp [List.take_drop]

def wordX (x : LX) (t : List UInt8) (N : Nat) : LX := if isKw (up t) then { x with p := x.p + N, kind := ⟨(up t).toArray⟩ } else { x with p := x.p + N, kind := kIdent, text := ⟨t.toArray⟩ }

def WordG (lb fb : Nat) (fp s : ByteArray) (x : LX) (N : Nat) (w : World) (e : Ending) (w' : World) : Prop := Goes (.tuple #[]) lb fb fp s (wordX x ((suf s x.p).take N) N) w e w'

theorem ids_cases (c : Int) (h : ids c = true) : (97 ≤ c ∧ c ≤ 122) ∨ (65 ≤ c ∧ c ≤ 90) ∨ c = 95 := by
  simp only [ids, Bool.or_eq_true, Bool.and_eq_true, decide_eq_true_eq, beq_iff_eq] at h
  omega

set_option maxRecDepth 100000 in
set_option maxHeartbeats 4000000 in
theorem tok_word (lb fb : Nat) (fp s : ByteArray) (x : LX) (np : Bool) (c : Int) (w : World) (hS : St w lb fb fp s x) (h0 : byt s ((x.p : Int) + 0) = c) (hc : ids c = true) (hl : ¬ c = 66 ∧ ¬ c = 98 ∧ ¬ c = 82 ∧ ¬ c = 114)
    (N : Nat) (hN : idLen (suf s x.p) = N) :
    Calls Tryz.prog 52 #[.pointer (some ⟨lb, 0, none⟩), .bool np] w (WordG lb fb fp s x N w) := by
  have hR := hS.rd
  have hsz := hS.sz
  have hcc : (97 ≤ c ∧ c ≤ 122) ∨ (65 ≤ c ∧ c ≤ 90) ∨ c = 95 := ids_cases c hc
  have hlt2 := (byt_lt s _ (by rw [h0]; omega : 0 ≤ byt s ((x.p : Int) + 0))).2
  have hlt : x.p < s.size := by omega
  have HS := Lib.hid hS
  have HN := Lib.hid hN
  have HP : Hid (x.p + N ≤ s.size) := by
    have h1 := idLen_le (suf s x.p)
    rw [hN, suf_len] at h1
    show x.p + N ≤ s.size
    omega
  have q40 : (c == (40 : Int)) = false := by simp; omega
  have q41 : (c == (41 : Int)) = false := by simp; omega
  have q123 : (c == (123 : Int)) = false := by simp; omega
  have q125 : (c == (125 : Int)) = false := by simp; omega
  have q59 : (c == (59 : Int)) = false := by simp; omega
  have q44 : (c == (44 : Int)) = false := by simp; omega
  have q91 : (c == (91 : Int)) = false := by simp; omega
  have q93 : (c == (93 : Int)) = false := by simp; omega
  have q126 : (c == (126 : Int)) = false := by simp; omega
  have q42 : (c == (42 : Int)) = false := by simp; omega
  have q47 : (c == (47 : Int)) = false := by simp; omega
  have q38 : (c == (38 : Int)) = false := by simp; omega
  have q94 : (c == (94 : Int)) = false := by simp; omega
  have q37 : (c == (37 : Int)) = false := by simp; omega
  have q58 : (c == (58 : Int)) = false := by simp; omega
  have q63 : (c == (63 : Int)) = false := by simp; omega
  have q92 : (c == (92 : Int)) = false := by simp; omega
  have q36 : (c == (36 : Int)) = false := by simp; omega
  have q46 : (c == (46 : Int)) = false := by simp; omega
  have q60 : (c == (60 : Int)) = false := by simp; omega
  have q62 : (c == (62 : Int)) = false := by simp; omega
  have q43 : (c == (43 : Int)) = false := by simp; omega
  have q45 : (c == (45 : Int)) = false := by simp; omega
  have q61 : (c == (61 : Int)) = false := by simp; omega
  have q124 : (c == (124 : Int)) = false := by simp; omega
  have q33 : (c == (33 : Int)) = false := by simp; omega
  have q64 : (c == (64 : Int)) = false := by simp; omega
  have q96 : (c == (96 : Int)) = false := by simp; omega
  have q48 : (c == (48 : Int)) = false := by simp; omega
  have q49 : (c == (49 : Int)) = false := by simp; omega
  have q50 : (c == (50 : Int)) = false := by simp; omega
  have q51 : (c == (51 : Int)) = false := by simp; omega
  have q52 : (c == (52 : Int)) = false := by simp; omega
  have q53 : (c == (53 : Int)) = false := by simp; omega
  have q54 : (c == (54 : Int)) = false := by simp; omega
  have q55 : (c == (55 : Int)) = false := by simp; omega
  have q56 : (c == (56 : Int)) = false := by simp; omega
  have q57 : (c == (57 : Int)) = false := by simp; omega
  have q66 : (c == (66 : Int)) = false := by simp; omega
  have q98 : (c == (98 : Int)) = false := by simp; omega
  have q82 : (c == (82 : Int)) = false := by simp; omega
  have q114 : (c == (114 : Int)) = false := by simp; omega
  have q34 : (c == (34 : Int)) = false := by simp; omega
  have q39 : (c == (39 : Int)) = false := by simp; omega
  have hc0 : 0 ≤ c := by omega
  clear hS hN hl hcc
  go_enter Tryz.func52, Tryz.ntmps52
  go_upto_block 13 with (first | (go_at_call 61; first | ((with_reducible refine (eof_yes _ _ _ _ _ (hR.drewN _) ?_).mono ?_); omega; rintro e w' ⟨rfl, nq, rfl⟩) | ((with_reducible refine (eof_yes _ _ _ _ _ hR ?_).mono ?_); omega; rintro e w' ⟨rfl, nq, rfl⟩) | ((with_reducible refine (eof_no _ _ _ _ _ (hR.drewN _) ?_).mono ?_); omega; rintro e w' ⟨rfl, nq, rfl⟩) | ((with_reducible refine (eof_no _ _ _ _ _ hR ?_).mono ?_); omega; rintro e w' ⟨rfl, nq, rfl⟩)) | (go_at_call 69; first | ((with_reducible refine (peek_any _ _ _ _ _ _ _ (hR.drewN _) ⟨?_, ?_, by assumption⟩).mono ?_); omega; omega; rintro e w' ⟨rfl, nq, rfl⟩) | ((with_reducible refine (peek_any _ _ _ _ _ _ _ hR ⟨?_, ?_, by assumption⟩).mono ?_); omega; omega; rintro e w' ⟨rfl, nq, rfl⟩)) | (go_at_call 74; refine (isIdentStart_any _ _).mono ?_; rintro e w' ⟨rfl, rfl⟩))
  go_cut [10] from 419 to 429 (fun i wx => i = .int .i64 N ∧ ∃ nq, wx = w.drewN nq)
  case first =>
    go_wp2_with fail
    go_loopw [10] (fun i wr => IdRel s x.p N i w wr) (fun i _ => s.size - (intOf i).toNat)
    case atStart => exact ⟨0, _, rfl, rfl, by omega, by simpa using HN.out⟩
    case round =>
      obtain ⟨k, nq, rfl, rfl, hpk, hk1⟩ := hrel
      have HK1 := Lib.hid hk1
      clear hk1
      rcases suf_byt s (x.p + k) with ⟨hb, hsuf, hge⟩ | ⟨d, hb, hsuf, hlt⟩
      · have hk : k = N := by have := HK1.out; rw [hsuf] at this; simpa [idLen] using this
        subst hk
        have hge2 : (s.size : Int) ≤ (x.p : Int) + (k : Int) := by omega
        clear hb hsuf
        go_wp2_with (first | (go_at_call 67; first | ((with_reducible refine (peekOk_yes _ _ _ _ _ _ (hR.drewN _) ?_).mono ?_); omega; rintro e w' ⟨rfl, nq, rfl⟩) | ((with_reducible refine (peekOk_yes _ _ _ _ _ _ hR ?_).mono ?_); omega; rintro e w' ⟨rfl, nq, rfl⟩) | ((with_reducible refine (peekOk_no _ _ _ _ _ _ (hR.drewN _) ?_).mono ?_); omega; rintro e w' ⟨rfl, nq, rfl⟩) | ((with_reducible refine (peekOk_no _ _ _ _ _ _ hR ?_).mono ?_); omega; rintro e w' ⟨rfl, nq, rfl⟩)))
        go_meet
        exact ⟨rfl, _, rfl⟩
      · have hbd := nn_bd d
        rw [show ((x.p + k : Nat) : Int) = (x.p : Int) + (k : Int) from by omega] at hb
        have hlt3 : (x.p : Int) + (k : Int) < s.size := by omega
        cases hd : idp (nn d) with
        | true =>
          have hk1 : k + 1 + idLen (suf s (x.p + k + 1)) = N := by have := HK1.out; rw [hsuf] at this; simp only [idLen, hd, if_true] at this; omega
          have HK3 := Lib.hid hk1
          clear hk1 HK1 hsuf
          go_wp2_with (first | (go_at_call 67; first | ((with_reducible refine (peekOk_yes _ _ _ _ _ _ (hR.drewN _) ?_).mono ?_); omega; rintro e w' ⟨rfl, nq, rfl⟩) | ((with_reducible refine (peekOk_yes _ _ _ _ _ _ hR ?_).mono ?_); omega; rintro e w' ⟨rfl, nq, rfl⟩) | ((with_reducible refine (peekOk_no _ _ _ _ _ _ (hR.drewN _) ?_).mono ?_); omega; rintro e w' ⟨rfl, nq, rfl⟩) | ((with_reducible refine (peekOk_no _ _ _ _ _ _ hR ?_).mono ?_); omega; rintro e w' ⟨rfl, nq, rfl⟩)) | (go_at_call 69; first | ((with_reducible refine (peek_any _ _ _ _ _ _ _ (hR.drewN _) ⟨?_, ?_, by assumption⟩).mono ?_); omega; omega; rintro e w' ⟨rfl, nq, rfl⟩) | ((with_reducible refine (peek_any _ _ _ _ _ _ _ hR ⟨?_, ?_, by assumption⟩).mono ?_); omega; omega; rintro e w' ⟨rfl, nq, rfl⟩)) | (go_at_call 68; refine (isIdentPart_any _ _).mono ?_; rintro e w' ⟨rfl, rfl⟩))
          go_roundw
          case rel => exact ⟨k + 1, _, by go_num, rfl, by omega, HK3.out⟩
          case measure => simp [intOf]; omega
        | false =>
          have hk : k = N := by have := HK1.out; rw [hsuf] at this; simpa [idLen, hd] using this
          subst hk
          clear hsuf
          go_wp2_with (first | (go_at_call 67; first | ((with_reducible refine (peekOk_yes _ _ _ _ _ _ (hR.drewN _) ?_).mono ?_); omega; rintro e w' ⟨rfl, nq, rfl⟩) | ((with_reducible refine (peekOk_yes _ _ _ _ _ _ hR ?_).mono ?_); omega; rintro e w' ⟨rfl, nq, rfl⟩) | ((with_reducible refine (peekOk_no _ _ _ _ _ _ (hR.drewN _) ?_).mono ?_); omega; rintro e w' ⟨rfl, nq, rfl⟩) | ((with_reducible refine (peekOk_no _ _ _ _ _ _ hR ?_).mono ?_); omega; rintro e w' ⟨rfl, nq, rfl⟩)) | (go_at_call 69; first | ((with_reducible refine (peek_any _ _ _ _ _ _ _ (hR.drewN _) ⟨?_, ?_, by assumption⟩).mono ?_); omega; omega; rintro e w' ⟨rfl, nq, rfl⟩) | ((with_reducible refine (peek_any _ _ _ _ _ _ _ hR ⟨?_, ?_, by assumption⟩).mono ?_); omega; omega; rintro e w' ⟨rfl, nq, rfl⟩)) | (go_at_call 68; refine (isIdentPart_any _ _).mono ?_; rintro e w' ⟨rfl, rfl⟩))
          go_meet
          exact ⟨rfl, _, rfl⟩
  case rest =>
    obtain ⟨rfl, nq, rfl⟩ := hcut
    have hpn := HP.out
    go_wp2_with fail
    refine (slice_any lb fb s x.p 0 N (s.extract x.p (x.p + N)) _ (HS.out.rd.drewN _) (by omega) (by omega) (by omega) (by rw [show min (x.p + N) s.size = x.p + N from by omega]; rfl)).mono ?_
    rintro e w1 ⟨rfl, nq1, rfl⟩
    go_wp2_with fail
    refine (skipN_any lb fb fp s x N { x with p := x.p + N } _ (HS.out.drewN _) ⟨by omega, by omega⟩ (by rw [show ((x.p : Int) + (N : Int)).toNat = x.p + N from by omega])).mono ?_
    rintro e w1 ⟨rfl, hS1, hF1⟩
    have hF1' : Frm w w1 [lb] := ((Frm.refl w [lb]).drewN _).step hF1
    have ht : (s.extract x.p (x.p + N)).data.toList = (suf s x.p).take N := ext_suf s x.p N
    have hts := extract_le s x.p (x.p + N)
    generalize s.extract x.p (x.p + N) = t at *
    go_wp2_with fail
    refine (toUpper_any t _ (by omega)).mono ?_
    rintro e w2 ⟨rfl, hb2⟩
    have hS2 := hS1.frm (Frm.ofBelow hb2 [])
    have hF2 := hF1'.step (Frm.ofBelow hb2 [lb])
    have c1 := block_cell hS2.lex 1
    have f1 := block_free hS2.lex 1
    have c5 := block_cell hS2.lex 5
    have f5 := block_free hS2.lex 5
    have HS2 := Lib.hid hS2
    have HT := Lib.hid ht
    clear hS1 hS2 hR hF1 hF1' ht hb2
    obtain ⟨U, hU⟩ : ∃ U : ByteArray, U = ⟨(up t.data.toList).toArray⟩ := ⟨_, rfl⟩
    have HU := Lib.hid hU
    rw [← hU]
    clear hU
    go_wp2_with fail
    refine (zzKeyword_any U _).mono ?_
    have hUl : U.data.toList = up ((suf s x.p).take N) := by rw [HU.out, HT.out]
    rintro e w3 ⟨rfl, rfl⟩
    rw [hUl]
    cases hk : isKw (up ((suf s x.p).take N)) with
    | true =>
      have HX := Lib.hid (show wordX x ((suf s x.p).take N) N = { x with p := x.p + N, kind := U } by rw [HU.out, HT.out]; simp [wordX, hk])
      clear hUl hk
      go_wp2_with fail
      go_end0
      refine ⟨rfl, ?_, hF2.setCell _ _ (.inl (by simp))⟩
      rw [HX.out]
      exact HS2.out.set 1 _ _ rfl HS2.out.pz
    | false =>
      have HX := Lib.hid (show wordX x ((suf s x.p).take N) N = { x with p := x.p + N, kind := kIdent, text := t } by rw [show t = ⟨((suf s x.p).take N).toArray⟩ by rw [← HT.out]]; simp [wordX, hk])
      clear hUl hk
      go_wp2_with fail
      go_end0
      refine ⟨rfl, ?_, (hF2.setCell _ _ (.inl (by simp))).setCell _ _ (.inl (by simp))⟩
      rw [HX.out]
      exact (HS2.out.set 1 _ { x with p := x.p + N, kind := kIdent } rfl HS2.out.pz).set 5 _ _ rfl HS2.out.pz

end Go.Proofs.YtngofbhlhcalpaaGreatDoor.lexer
