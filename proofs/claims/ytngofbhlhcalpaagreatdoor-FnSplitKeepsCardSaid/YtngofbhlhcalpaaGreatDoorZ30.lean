/-
  Lemmas and contracts of this claim, texts TokA. No statement of the seat is proved here.
-/
import Derived.Test.YtngofbhlhcalpaaGreatDoorZ02
namespace Go.Proofs.YtngofbhlhcalpaaGreatDoor.lexer
open Go.RowKit Go.Proofs.YtngofbhlhcalpaaGreatDoor.gen

set_option maxRecDepth 100000 in
set_option maxHeartbeats 4000000 in
theorem tok_s40 (lb fb : Nat) (fp s : ByteArray) (x : LX) (np : Bool) (w : World) (hS : St w lb fb fp s x) (h0 : byt s ((x.p : Int) + 0) = 40) (hlt : x.p < s.size) :
    Calls Tryz.prog 52 #[.pointer (some ⟨lb, 0, none⟩), .bool np] w (Goes (.tuple #[]) lb fb fp s { x with p := x.p + 1, kind := ⟨#[40]⟩ } w) := by
  have hR := hS.rd
  have HS := Lib.hid hS
  clear hS
  go_enter Tryz.func52, Tryz.ntmps52
  go_wp2_with (first | (go_at_call 61; first | ((with_reducible refine (eof_yes _ _ _ _ _ (hR.drewN _) ?_).mono ?_); omega; rintro e w' ⟨rfl, nq, rfl⟩) | ((with_reducible refine (eof_yes _ _ _ _ _ hR ?_).mono ?_); omega; rintro e w' ⟨rfl, nq, rfl⟩) | ((with_reducible refine (eof_no _ _ _ _ _ (hR.drewN _) ?_).mono ?_); omega; rintro e w' ⟨rfl, nq, rfl⟩) | ((with_reducible refine (eof_no _ _ _ _ _ hR ?_).mono ?_); omega; rintro e w' ⟨rfl, nq, rfl⟩)) | (go_at_call 69; first | ((with_reducible refine (peek_any _ _ _ _ _ _ _ (hR.drewN _) ⟨?_, ?_, by assumption⟩).mono ?_); omega; omega; rintro e w' ⟨rfl, nq, rfl⟩) | ((with_reducible refine (peek_any _ _ _ _ _ _ _ hR ⟨?_, ?_, by assumption⟩).mono ?_); omega; omega; rintro e w' ⟨rfl, nq, rfl⟩)))
  refine (skip_any lb fb fp s x 40 { x with p := x.p + 1 } _ (HS.out.drewN _) ⟨by omega, h0⟩ rfl).mono ?_
  rintro e w1 ⟨rfl, hS1, hF1⟩
  have hF1' : Frm w w1 [lb] := ((Frm.refl w [lb]).drewN _).step hF1
  have hq := (OwnC.one w1 (.int .u8 40) 5 0 (Nat.zero_le _)).text (P := Tryz.prog) (l := [40]) 44 57 5 (by kernel_rfl) (by kernel_rfl) (by kernel_rfl)
  have hS2 : St (w1.alloc (.cells #[.int .u8 40] 5)) lb fb fp s { x with p := x.p + 1 } := hS1.frm ((Frm.refl _ _).alloc _)
  have hF2 : Frm w (w1.alloc (.cells #[.int .u8 40] 5)) [lb] := hF1'.alloc _
  have f1 := block_free hS2.lex 1
  have c1 := block_cell hS2.lex 1
  have HS2 := Lib.hid hS2
  clear hS1 hS2 hR hF1
  go_wp2_with fail
  go_end0
  exact ⟨rfl, HS2.out.set 1 _ _ rfl HS2.out.pz, hF2.setCell _ _ (.inl (by simp))⟩

set_option maxRecDepth 100000 in
set_option maxHeartbeats 4000000 in
theorem tok_s41 (lb fb : Nat) (fp s : ByteArray) (x : LX) (np : Bool) (w : World) (hS : St w lb fb fp s x) (h0 : byt s ((x.p : Int) + 0) = 41) (hlt : x.p < s.size) :
    Calls Tryz.prog 52 #[.pointer (some ⟨lb, 0, none⟩), .bool np] w (Goes (.tuple #[]) lb fb fp s { x with p := x.p + 1, kind := ⟨#[41]⟩ } w) := by
  have hR := hS.rd
  have HS := Lib.hid hS
  clear hS
  go_enter Tryz.func52, Tryz.ntmps52
  go_wp2_with (first | (go_at_call 61; first | ((with_reducible refine (eof_yes _ _ _ _ _ (hR.drewN _) ?_).mono ?_); omega; rintro e w' ⟨rfl, nq, rfl⟩) | ((with_reducible refine (eof_yes _ _ _ _ _ hR ?_).mono ?_); omega; rintro e w' ⟨rfl, nq, rfl⟩) | ((with_reducible refine (eof_no _ _ _ _ _ (hR.drewN _) ?_).mono ?_); omega; rintro e w' ⟨rfl, nq, rfl⟩) | ((with_reducible refine (eof_no _ _ _ _ _ hR ?_).mono ?_); omega; rintro e w' ⟨rfl, nq, rfl⟩)) | (go_at_call 69; first | ((with_reducible refine (peek_any _ _ _ _ _ _ _ (hR.drewN _) ⟨?_, ?_, by assumption⟩).mono ?_); omega; omega; rintro e w' ⟨rfl, nq, rfl⟩) | ((with_reducible refine (peek_any _ _ _ _ _ _ _ hR ⟨?_, ?_, by assumption⟩).mono ?_); omega; omega; rintro e w' ⟨rfl, nq, rfl⟩)))
  refine (skip_any lb fb fp s x 41 { x with p := x.p + 1 } _ (HS.out.drewN _) ⟨by omega, h0⟩ rfl).mono ?_
  rintro e w1 ⟨rfl, hS1, hF1⟩
  have hF1' : Frm w w1 [lb] := ((Frm.refl w [lb]).drewN _).step hF1
  have hq := (OwnC.one w1 (.int .u8 41) 5 0 (Nat.zero_le _)).text (P := Tryz.prog) (l := [41]) 44 57 5 (by kernel_rfl) (by kernel_rfl) (by kernel_rfl)
  have hS2 : St (w1.alloc (.cells #[.int .u8 41] 5)) lb fb fp s { x with p := x.p + 1 } := hS1.frm ((Frm.refl _ _).alloc _)
  have hF2 : Frm w (w1.alloc (.cells #[.int .u8 41] 5)) [lb] := hF1'.alloc _
  have f1 := block_free hS2.lex 1
  have c1 := block_cell hS2.lex 1
  have HS2 := Lib.hid hS2
  clear hS1 hS2 hR hF1
  go_wp2_with fail
  go_end0
  exact ⟨rfl, HS2.out.set 1 _ _ rfl HS2.out.pz, hF2.setCell _ _ (.inl (by simp))⟩

set_option maxRecDepth 100000 in
set_option maxHeartbeats 4000000 in
theorem tok_s123 (lb fb : Nat) (fp s : ByteArray) (x : LX) (np : Bool) (w : World) (hS : St w lb fb fp s x) (h0 : byt s ((x.p : Int) + 0) = 123) (hlt : x.p < s.size) :
    Calls Tryz.prog 52 #[.pointer (some ⟨lb, 0, none⟩), .bool np] w (Goes (.tuple #[]) lb fb fp s { x with p := x.p + 1, kind := ⟨#[123]⟩ } w) := by
  have hR := hS.rd
  have HS := Lib.hid hS
  clear hS
  go_enter Tryz.func52, Tryz.ntmps52
  go_wp2_with (first | (go_at_call 61; first | ((with_reducible refine (eof_yes _ _ _ _ _ (hR.drewN _) ?_).mono ?_); omega; rintro e w' ⟨rfl, nq, rfl⟩) | ((with_reducible refine (eof_yes _ _ _ _ _ hR ?_).mono ?_); omega; rintro e w' ⟨rfl, nq, rfl⟩) | ((with_reducible refine (eof_no _ _ _ _ _ (hR.drewN _) ?_).mono ?_); omega; rintro e w' ⟨rfl, nq, rfl⟩) | ((with_reducible refine (eof_no _ _ _ _ _ hR ?_).mono ?_); omega; rintro e w' ⟨rfl, nq, rfl⟩)) | (go_at_call 69; first | ((with_reducible refine (peek_any _ _ _ _ _ _ _ (hR.drewN _) ⟨?_, ?_, by assumption⟩).mono ?_); omega; omega; rintro e w' ⟨rfl, nq, rfl⟩) | ((with_reducible refine (peek_any _ _ _ _ _ _ _ hR ⟨?_, ?_, by assumption⟩).mono ?_); omega; omega; rintro e w' ⟨rfl, nq, rfl⟩)))
  refine (skip_any lb fb fp s x 123 { x with p := x.p + 1 } _ (HS.out.drewN _) ⟨by omega, h0⟩ rfl).mono ?_
  rintro e w1 ⟨rfl, hS1, hF1⟩
  have hF1' : Frm w w1 [lb] := ((Frm.refl w [lb]).drewN _).step hF1
  have hq := (OwnC.one w1 (.int .u8 123) 5 0 (Nat.zero_le _)).text (P := Tryz.prog) (l := [123]) 44 57 5 (by kernel_rfl) (by kernel_rfl) (by kernel_rfl)
  have hS2 : St (w1.alloc (.cells #[.int .u8 123] 5)) lb fb fp s { x with p := x.p + 1 } := hS1.frm ((Frm.refl _ _).alloc _)
  have hF2 : Frm w (w1.alloc (.cells #[.int .u8 123] 5)) [lb] := hF1'.alloc _
  have f1 := block_free hS2.lex 1
  have c1 := block_cell hS2.lex 1
  have HS2 := Lib.hid hS2
  clear hS1 hS2 hR hF1
  go_wp2_with fail
  go_end0
  exact ⟨rfl, HS2.out.set 1 _ _ rfl HS2.out.pz, hF2.setCell _ _ (.inl (by simp))⟩

set_option maxRecDepth 100000 in
set_option maxHeartbeats 4000000 in
theorem tok_s125 (lb fb : Nat) (fp s : ByteArray) (x : LX) (np : Bool) (w : World) (hS : St w lb fb fp s x) (h0 : byt s ((x.p : Int) + 0) = 125) (hlt : x.p < s.size) :
    Calls Tryz.prog 52 #[.pointer (some ⟨lb, 0, none⟩), .bool np] w (Goes (.tuple #[]) lb fb fp s { x with p := x.p + 1, kind := ⟨#[125]⟩ } w) := by
  have hR := hS.rd
  have HS := Lib.hid hS
  clear hS
  go_enter Tryz.func52, Tryz.ntmps52
  go_wp2_with (first | (go_at_call 61; first | ((with_reducible refine (eof_yes _ _ _ _ _ (hR.drewN _) ?_).mono ?_); omega; rintro e w' ⟨rfl, nq, rfl⟩) | ((with_reducible refine (eof_yes _ _ _ _ _ hR ?_).mono ?_); omega; rintro e w' ⟨rfl, nq, rfl⟩) | ((with_reducible refine (eof_no _ _ _ _ _ (hR.drewN _) ?_).mono ?_); omega; rintro e w' ⟨rfl, nq, rfl⟩) | ((with_reducible refine (eof_no _ _ _ _ _ hR ?_).mono ?_); omega; rintro e w' ⟨rfl, nq, rfl⟩)) | (go_at_call 69; first | ((with_reducible refine (peek_any _ _ _ _ _ _ _ (hR.drewN _) ⟨?_, ?_, by assumption⟩).mono ?_); omega; omega; rintro e w' ⟨rfl, nq, rfl⟩) | ((with_reducible refine (peek_any _ _ _ _ _ _ _ hR ⟨?_, ?_, by assumption⟩).mono ?_); omega; omega; rintro e w' ⟨rfl, nq, rfl⟩)))
  refine (skip_any lb fb fp s x 125 { x with p := x.p + 1 } _ (HS.out.drewN _) ⟨by omega, h0⟩ rfl).mono ?_
  rintro e w1 ⟨rfl, hS1, hF1⟩
  have hF1' : Frm w w1 [lb] := ((Frm.refl w [lb]).drewN _).step hF1
  have hq := (OwnC.one w1 (.int .u8 125) 5 0 (Nat.zero_le _)).text (P := Tryz.prog) (l := [125]) 44 57 5 (by kernel_rfl) (by kernel_rfl) (by kernel_rfl)
  have hS2 : St (w1.alloc (.cells #[.int .u8 125] 5)) lb fb fp s { x with p := x.p + 1 } := hS1.frm ((Frm.refl _ _).alloc _)
  have hF2 : Frm w (w1.alloc (.cells #[.int .u8 125] 5)) [lb] := hF1'.alloc _
  have f1 := block_free hS2.lex 1
  have c1 := block_cell hS2.lex 1
  have HS2 := Lib.hid hS2
  clear hS1 hS2 hR hF1
  go_wp2_with fail
  go_end0
  exact ⟨rfl, HS2.out.set 1 _ _ rfl HS2.out.pz, hF2.setCell _ _ (.inl (by simp))⟩

set_option maxRecDepth 100000 in
set_option maxHeartbeats 4000000 in
theorem tok_s59 (lb fb : Nat) (fp s : ByteArray) (x : LX) (np : Bool) (w : World) (hS : St w lb fb fp s x) (h0 : byt s ((x.p : Int) + 0) = 59) (hlt : x.p < s.size) :
    Calls Tryz.prog 52 #[.pointer (some ⟨lb, 0, none⟩), .bool np] w (Goes (.tuple #[]) lb fb fp s { x with p := x.p + 1, kind := ⟨#[59]⟩ } w) := by
  have hR := hS.rd
  have HS := Lib.hid hS
  clear hS
  go_enter Tryz.func52, Tryz.ntmps52
  go_wp2_with (first | (go_at_call 61; first | ((with_reducible refine (eof_yes _ _ _ _ _ (hR.drewN _) ?_).mono ?_); omega; rintro e w' ⟨rfl, nq, rfl⟩) | ((with_reducible refine (eof_yes _ _ _ _ _ hR ?_).mono ?_); omega; rintro e w' ⟨rfl, nq, rfl⟩) | ((with_reducible refine (eof_no _ _ _ _ _ (hR.drewN _) ?_).mono ?_); omega; rintro e w' ⟨rfl, nq, rfl⟩) | ((with_reducible refine (eof_no _ _ _ _ _ hR ?_).mono ?_); omega; rintro e w' ⟨rfl, nq, rfl⟩)) | (go_at_call 69; first | ((with_reducible refine (peek_any _ _ _ _ _ _ _ (hR.drewN _) ⟨?_, ?_, by assumption⟩).mono ?_); omega; omega; rintro e w' ⟨rfl, nq, rfl⟩) | ((with_reducible refine (peek_any _ _ _ _ _ _ _ hR ⟨?_, ?_, by assumption⟩).mono ?_); omega; omega; rintro e w' ⟨rfl, nq, rfl⟩)))
  refine (skip_any lb fb fp s x 59 { x with p := x.p + 1 } _ (HS.out.drewN _) ⟨by omega, h0⟩ rfl).mono ?_
  rintro e w1 ⟨rfl, hS1, hF1⟩
  have hF1' : Frm w w1 [lb] := ((Frm.refl w [lb]).drewN _).step hF1
  have hq := (OwnC.one w1 (.int .u8 59) 5 0 (Nat.zero_le _)).text (P := Tryz.prog) (l := [59]) 44 57 5 (by kernel_rfl) (by kernel_rfl) (by kernel_rfl)
  have hS2 : St (w1.alloc (.cells #[.int .u8 59] 5)) lb fb fp s { x with p := x.p + 1 } := hS1.frm ((Frm.refl _ _).alloc _)
  have hF2 : Frm w (w1.alloc (.cells #[.int .u8 59] 5)) [lb] := hF1'.alloc _
  have f1 := block_free hS2.lex 1
  have c1 := block_cell hS2.lex 1
  have HS2 := Lib.hid hS2
  clear hS1 hS2 hR hF1
  go_wp2_with fail
  go_end0
  exact ⟨rfl, HS2.out.set 1 _ _ rfl HS2.out.pz, hF2.setCell _ _ (.inl (by simp))⟩

set_option maxRecDepth 100000 in
set_option maxHeartbeats 4000000 in
theorem tok_s44 (lb fb : Nat) (fp s : ByteArray) (x : LX) (np : Bool) (w : World) (hS : St w lb fb fp s x) (h0 : byt s ((x.p : Int) + 0) = 44) (hlt : x.p < s.size) :
    Calls Tryz.prog 52 #[.pointer (some ⟨lb, 0, none⟩), .bool np] w (Goes (.tuple #[]) lb fb fp s { x with p := x.p + 1, kind := ⟨#[44]⟩ } w) := by
  have hR := hS.rd
  have HS := Lib.hid hS
  clear hS
  go_enter Tryz.func52, Tryz.ntmps52
  go_wp2_with (first | (go_at_call 61; first | ((with_reducible refine (eof_yes _ _ _ _ _ (hR.drewN _) ?_).mono ?_); omega; rintro e w' ⟨rfl, nq, rfl⟩) | ((with_reducible refine (eof_yes _ _ _ _ _ hR ?_).mono ?_); omega; rintro e w' ⟨rfl, nq, rfl⟩) | ((with_reducible refine (eof_no _ _ _ _ _ (hR.drewN _) ?_).mono ?_); omega; rintro e w' ⟨rfl, nq, rfl⟩) | ((with_reducible refine (eof_no _ _ _ _ _ hR ?_).mono ?_); omega; rintro e w' ⟨rfl, nq, rfl⟩)) | (go_at_call 69; first | ((with_reducible refine (peek_any _ _ _ _ _ _ _ (hR.drewN _) ⟨?_, ?_, by assumption⟩).mono ?_); omega; omega; rintro e w' ⟨rfl, nq, rfl⟩) | ((with_reducible refine (peek_any _ _ _ _ _ _ _ hR ⟨?_, ?_, by assumption⟩).mono ?_); omega; omega; rintro e w' ⟨rfl, nq, rfl⟩)))
  refine (skip_any lb fb fp s x 44 { x with p := x.p + 1 } _ (HS.out.drewN _) ⟨by omega, h0⟩ rfl).mono ?_
  rintro e w1 ⟨rfl, hS1, hF1⟩
  have hF1' : Frm w w1 [lb] := ((Frm.refl w [lb]).drewN _).step hF1
  have hq := (OwnC.one w1 (.int .u8 44) 5 0 (Nat.zero_le _)).text (P := Tryz.prog) (l := [44]) 44 57 5 (by kernel_rfl) (by kernel_rfl) (by kernel_rfl)
  have hS2 : St (w1.alloc (.cells #[.int .u8 44] 5)) lb fb fp s { x with p := x.p + 1 } := hS1.frm ((Frm.refl _ _).alloc _)
  have hF2 : Frm w (w1.alloc (.cells #[.int .u8 44] 5)) [lb] := hF1'.alloc _
  have f1 := block_free hS2.lex 1
  have c1 := block_cell hS2.lex 1
  have HS2 := Lib.hid hS2
  clear hS1 hS2 hR hF1
  go_wp2_with fail
  go_end0
  exact ⟨rfl, HS2.out.set 1 _ _ rfl HS2.out.pz, hF2.setCell _ _ (.inl (by simp))⟩

set_option maxRecDepth 100000 in
set_option maxHeartbeats 4000000 in
theorem tok_s91 (lb fb : Nat) (fp s : ByteArray) (x : LX) (np : Bool) (w : World) (hS : St w lb fb fp s x) (h0 : byt s ((x.p : Int) + 0) = 91) (hlt : x.p < s.size) :
    Calls Tryz.prog 52 #[.pointer (some ⟨lb, 0, none⟩), .bool np] w (Goes (.tuple #[]) lb fb fp s { x with p := x.p + 1, kind := ⟨#[91]⟩ } w) := by
  have hR := hS.rd
  have HS := Lib.hid hS
  clear hS
  go_enter Tryz.func52, Tryz.ntmps52
  go_wp2_with (first | (go_at_call 61; first | ((with_reducible refine (eof_yes _ _ _ _ _ (hR.drewN _) ?_).mono ?_); omega; rintro e w' ⟨rfl, nq, rfl⟩) | ((with_reducible refine (eof_yes _ _ _ _ _ hR ?_).mono ?_); omega; rintro e w' ⟨rfl, nq, rfl⟩) | ((with_reducible refine (eof_no _ _ _ _ _ (hR.drewN _) ?_).mono ?_); omega; rintro e w' ⟨rfl, nq, rfl⟩) | ((with_reducible refine (eof_no _ _ _ _ _ hR ?_).mono ?_); omega; rintro e w' ⟨rfl, nq, rfl⟩)) | (go_at_call 69; first | ((with_reducible refine (peek_any _ _ _ _ _ _ _ (hR.drewN _) ⟨?_, ?_, by assumption⟩).mono ?_); omega; omega; rintro e w' ⟨rfl, nq, rfl⟩) | ((with_reducible refine (peek_any _ _ _ _ _ _ _ hR ⟨?_, ?_, by assumption⟩).mono ?_); omega; omega; rintro e w' ⟨rfl, nq, rfl⟩)))
  refine (skip_any lb fb fp s x 91 { x with p := x.p + 1 } _ (HS.out.drewN _) ⟨by omega, h0⟩ rfl).mono ?_
  rintro e w1 ⟨rfl, hS1, hF1⟩
  have hF1' : Frm w w1 [lb] := ((Frm.refl w [lb]).drewN _).step hF1
  have hq := (OwnC.one w1 (.int .u8 91) 5 0 (Nat.zero_le _)).text (P := Tryz.prog) (l := [91]) 44 57 5 (by kernel_rfl) (by kernel_rfl) (by kernel_rfl)
  have hS2 : St (w1.alloc (.cells #[.int .u8 91] 5)) lb fb fp s { x with p := x.p + 1 } := hS1.frm ((Frm.refl _ _).alloc _)
  have hF2 : Frm w (w1.alloc (.cells #[.int .u8 91] 5)) [lb] := hF1'.alloc _
  have f1 := block_free hS2.lex 1
  have c1 := block_cell hS2.lex 1
  have HS2 := Lib.hid hS2
  clear hS1 hS2 hR hF1
  go_wp2_with fail
  go_end0
  exact ⟨rfl, HS2.out.set 1 _ _ rfl HS2.out.pz, hF2.setCell _ _ (.inl (by simp))⟩

set_option maxRecDepth 100000 in
set_option maxHeartbeats 4000000 in
theorem tok_s93 (lb fb : Nat) (fp s : ByteArray) (x : LX) (np : Bool) (w : World) (hS : St w lb fb fp s x) (h0 : byt s ((x.p : Int) + 0) = 93) (hlt : x.p < s.size) :
    Calls Tryz.prog 52 #[.pointer (some ⟨lb, 0, none⟩), .bool np] w (Goes (.tuple #[]) lb fb fp s { x with p := x.p + 1, kind := ⟨#[93]⟩ } w) := by
  have hR := hS.rd
  have HS := Lib.hid hS
  clear hS
  go_enter Tryz.func52, Tryz.ntmps52
  go_wp2_with (first | (go_at_call 61; first | ((with_reducible refine (eof_yes _ _ _ _ _ (hR.drewN _) ?_).mono ?_); omega; rintro e w' ⟨rfl, nq, rfl⟩) | ((with_reducible refine (eof_yes _ _ _ _ _ hR ?_).mono ?_); omega; rintro e w' ⟨rfl, nq, rfl⟩) | ((with_reducible refine (eof_no _ _ _ _ _ (hR.drewN _) ?_).mono ?_); omega; rintro e w' ⟨rfl, nq, rfl⟩) | ((with_reducible refine (eof_no _ _ _ _ _ hR ?_).mono ?_); omega; rintro e w' ⟨rfl, nq, rfl⟩)) | (go_at_call 69; first | ((with_reducible refine (peek_any _ _ _ _ _ _ _ (hR.drewN _) ⟨?_, ?_, by assumption⟩).mono ?_); omega; omega; rintro e w' ⟨rfl, nq, rfl⟩) | ((with_reducible refine (peek_any _ _ _ _ _ _ _ hR ⟨?_, ?_, by assumption⟩).mono ?_); omega; omega; rintro e w' ⟨rfl, nq, rfl⟩)))
  refine (skip_any lb fb fp s x 93 { x with p := x.p + 1 } _ (HS.out.drewN _) ⟨by omega, h0⟩ rfl).mono ?_
  rintro e w1 ⟨rfl, hS1, hF1⟩
  have hF1' : Frm w w1 [lb] := ((Frm.refl w [lb]).drewN _).step hF1
  have hq := (OwnC.one w1 (.int .u8 93) 5 0 (Nat.zero_le _)).text (P := Tryz.prog) (l := [93]) 44 57 5 (by kernel_rfl) (by kernel_rfl) (by kernel_rfl)
  have hS2 : St (w1.alloc (.cells #[.int .u8 93] 5)) lb fb fp s { x with p := x.p + 1 } := hS1.frm ((Frm.refl _ _).alloc _)
  have hF2 : Frm w (w1.alloc (.cells #[.int .u8 93] 5)) [lb] := hF1'.alloc _
  have f1 := block_free hS2.lex 1
  have c1 := block_cell hS2.lex 1
  have HS2 := Lib.hid hS2
  clear hS1 hS2 hR hF1
  go_wp2_with fail
  go_end0
  exact ⟨rfl, HS2.out.set 1 _ _ rfl HS2.out.pz, hF2.setCell _ _ (.inl (by simp))⟩

set_option maxRecDepth 100000 in
set_option maxHeartbeats 4000000 in
theorem tok_s126 (lb fb : Nat) (fp s : ByteArray) (x : LX) (np : Bool) (w : World) (hS : St w lb fb fp s x) (h0 : byt s ((x.p : Int) + 0) = 126) (hlt : x.p < s.size) :
    Calls Tryz.prog 52 #[.pointer (some ⟨lb, 0, none⟩), .bool np] w (Goes (.tuple #[]) lb fb fp s { x with p := x.p + 1, kind := ⟨#[126]⟩ } w) := by
  have hR := hS.rd
  have HS := Lib.hid hS
  clear hS
  go_enter Tryz.func52, Tryz.ntmps52
  go_wp2_with (first | (go_at_call 61; first | ((with_reducible refine (eof_yes _ _ _ _ _ (hR.drewN _) ?_).mono ?_); omega; rintro e w' ⟨rfl, nq, rfl⟩) | ((with_reducible refine (eof_yes _ _ _ _ _ hR ?_).mono ?_); omega; rintro e w' ⟨rfl, nq, rfl⟩) | ((with_reducible refine (eof_no _ _ _ _ _ (hR.drewN _) ?_).mono ?_); omega; rintro e w' ⟨rfl, nq, rfl⟩) | ((with_reducible refine (eof_no _ _ _ _ _ hR ?_).mono ?_); omega; rintro e w' ⟨rfl, nq, rfl⟩)) | (go_at_call 69; first | ((with_reducible refine (peek_any _ _ _ _ _ _ _ (hR.drewN _) ⟨?_, ?_, by assumption⟩).mono ?_); omega; omega; rintro e w' ⟨rfl, nq, rfl⟩) | ((with_reducible refine (peek_any _ _ _ _ _ _ _ hR ⟨?_, ?_, by assumption⟩).mono ?_); omega; omega; rintro e w' ⟨rfl, nq, rfl⟩)))
  refine (skip_any lb fb fp s x 126 { x with p := x.p + 1 } _ (HS.out.drewN _) ⟨by omega, h0⟩ rfl).mono ?_
  rintro e w1 ⟨rfl, hS1, hF1⟩
  have hF1' : Frm w w1 [lb] := ((Frm.refl w [lb]).drewN _).step hF1
  have hq := (OwnC.one w1 (.int .u8 126) 5 0 (Nat.zero_le _)).text (P := Tryz.prog) (l := [126]) 44 57 5 (by kernel_rfl) (by kernel_rfl) (by kernel_rfl)
  have hS2 : St (w1.alloc (.cells #[.int .u8 126] 5)) lb fb fp s { x with p := x.p + 1 } := hS1.frm ((Frm.refl _ _).alloc _)
  have hF2 : Frm w (w1.alloc (.cells #[.int .u8 126] 5)) [lb] := hF1'.alloc _
  have f1 := block_free hS2.lex 1
  have c1 := block_cell hS2.lex 1
  have HS2 := Lib.hid hS2
  clear hS1 hS2 hR hF1
  go_wp2_with fail
  go_end0
  exact ⟨rfl, HS2.out.set 1 _ _ rfl HS2.out.pz, hF2.setCell _ _ (.inl (by simp))⟩

set_option maxRecDepth 100000 in
set_option maxHeartbeats 4000000 in
theorem tok_s42 (lb fb : Nat) (fp s : ByteArray) (x : LX) (np : Bool) (w : World) (hS : St w lb fb fp s x) (h0 : byt s ((x.p : Int) + 0) = 42) (hlt : x.p < s.size) :
    Calls Tryz.prog 52 #[.pointer (some ⟨lb, 0, none⟩), .bool np] w (Goes (.tuple #[]) lb fb fp s { x with p := x.p + 1, kind := ⟨#[42]⟩ } w) := by
  have hR := hS.rd
  have HS := Lib.hid hS
  clear hS
  go_enter Tryz.func52, Tryz.ntmps52
  go_wp2_with (first | (go_at_call 61; first | ((with_reducible refine (eof_yes _ _ _ _ _ (hR.drewN _) ?_).mono ?_); omega; rintro e w' ⟨rfl, nq, rfl⟩) | ((with_reducible refine (eof_yes _ _ _ _ _ hR ?_).mono ?_); omega; rintro e w' ⟨rfl, nq, rfl⟩) | ((with_reducible refine (eof_no _ _ _ _ _ (hR.drewN _) ?_).mono ?_); omega; rintro e w' ⟨rfl, nq, rfl⟩) | ((with_reducible refine (eof_no _ _ _ _ _ hR ?_).mono ?_); omega; rintro e w' ⟨rfl, nq, rfl⟩)) | (go_at_call 69; first | ((with_reducible refine (peek_any _ _ _ _ _ _ _ (hR.drewN _) ⟨?_, ?_, by assumption⟩).mono ?_); omega; omega; rintro e w' ⟨rfl, nq, rfl⟩) | ((with_reducible refine (peek_any _ _ _ _ _ _ _ hR ⟨?_, ?_, by assumption⟩).mono ?_); omega; omega; rintro e w' ⟨rfl, nq, rfl⟩)))
  refine (skip_any lb fb fp s x 42 { x with p := x.p + 1 } _ (HS.out.drewN _) ⟨by omega, h0⟩ rfl).mono ?_
  rintro e w1 ⟨rfl, hS1, hF1⟩
  have hF1' : Frm w w1 [lb] := ((Frm.refl w [lb]).drewN _).step hF1
  have hq := (OwnC.one w1 (.int .u8 42) 5 0 (Nat.zero_le _)).text (P := Tryz.prog) (l := [42]) 44 57 5 (by kernel_rfl) (by kernel_rfl) (by kernel_rfl)
  have hS2 : St (w1.alloc (.cells #[.int .u8 42] 5)) lb fb fp s { x with p := x.p + 1 } := hS1.frm ((Frm.refl _ _).alloc _)
  have hF2 : Frm w (w1.alloc (.cells #[.int .u8 42] 5)) [lb] := hF1'.alloc _
  have f1 := block_free hS2.lex 1
  have c1 := block_cell hS2.lex 1
  have HS2 := Lib.hid hS2
  clear hS1 hS2 hR hF1
  go_wp2_with fail
  go_end0
  exact ⟨rfl, HS2.out.set 1 _ _ rfl HS2.out.pz, hF2.setCell _ _ (.inl (by simp))⟩

set_option maxRecDepth 100000 in
set_option maxHeartbeats 4000000 in
theorem tok_s47 (lb fb : Nat) (fp s : ByteArray) (x : LX) (np : Bool) (w : World) (hS : St w lb fb fp s x) (h0 : byt s ((x.p : Int) + 0) = 47) (hlt : x.p < s.size) :
    Calls Tryz.prog 52 #[.pointer (some ⟨lb, 0, none⟩), .bool np] w (Goes (.tuple #[]) lb fb fp s { x with p := x.p + 1, kind := ⟨#[47]⟩ } w) := by
  have hR := hS.rd
  have HS := Lib.hid hS
  clear hS
  go_enter Tryz.func52, Tryz.ntmps52
  go_wp2_with (first | (go_at_call 61; first | ((with_reducible refine (eof_yes _ _ _ _ _ (hR.drewN _) ?_).mono ?_); omega; rintro e w' ⟨rfl, nq, rfl⟩) | ((with_reducible refine (eof_yes _ _ _ _ _ hR ?_).mono ?_); omega; rintro e w' ⟨rfl, nq, rfl⟩) | ((with_reducible refine (eof_no _ _ _ _ _ (hR.drewN _) ?_).mono ?_); omega; rintro e w' ⟨rfl, nq, rfl⟩) | ((with_reducible refine (eof_no _ _ _ _ _ hR ?_).mono ?_); omega; rintro e w' ⟨rfl, nq, rfl⟩)) | (go_at_call 69; first | ((with_reducible refine (peek_any _ _ _ _ _ _ _ (hR.drewN _) ⟨?_, ?_, by assumption⟩).mono ?_); omega; omega; rintro e w' ⟨rfl, nq, rfl⟩) | ((with_reducible refine (peek_any _ _ _ _ _ _ _ hR ⟨?_, ?_, by assumption⟩).mono ?_); omega; omega; rintro e w' ⟨rfl, nq, rfl⟩)))
  refine (skip_any lb fb fp s x 47 { x with p := x.p + 1 } _ (HS.out.drewN _) ⟨by omega, h0⟩ rfl).mono ?_
  rintro e w1 ⟨rfl, hS1, hF1⟩
  have hF1' : Frm w w1 [lb] := ((Frm.refl w [lb]).drewN _).step hF1
  have hq := (OwnC.one w1 (.int .u8 47) 5 0 (Nat.zero_le _)).text (P := Tryz.prog) (l := [47]) 44 57 5 (by kernel_rfl) (by kernel_rfl) (by kernel_rfl)
  have hS2 : St (w1.alloc (.cells #[.int .u8 47] 5)) lb fb fp s { x with p := x.p + 1 } := hS1.frm ((Frm.refl _ _).alloc _)
  have hF2 : Frm w (w1.alloc (.cells #[.int .u8 47] 5)) [lb] := hF1'.alloc _
  have f1 := block_free hS2.lex 1
  have c1 := block_cell hS2.lex 1
  have HS2 := Lib.hid hS2
  clear hS1 hS2 hR hF1
  go_wp2_with fail
  go_end0
  exact ⟨rfl, HS2.out.set 1 _ _ rfl HS2.out.pz, hF2.setCell _ _ (.inl (by simp))⟩

set_option maxRecDepth 100000 in
set_option maxHeartbeats 4000000 in
theorem tok_s38 (lb fb : Nat) (fp s : ByteArray) (x : LX) (np : Bool) (w : World) (hS : St w lb fb fp s x) (h0 : byt s ((x.p : Int) + 0) = 38) (hlt : x.p < s.size) :
    Calls Tryz.prog 52 #[.pointer (some ⟨lb, 0, none⟩), .bool np] w (Goes (.tuple #[]) lb fb fp s { x with p := x.p + 1, kind := ⟨#[38]⟩ } w) := by
  have hR := hS.rd
  have HS := Lib.hid hS
  clear hS
  go_enter Tryz.func52, Tryz.ntmps52
  go_wp2_with (first | (go_at_call 61; first | ((with_reducible refine (eof_yes _ _ _ _ _ (hR.drewN _) ?_).mono ?_); omega; rintro e w' ⟨rfl, nq, rfl⟩) | ((with_reducible refine (eof_yes _ _ _ _ _ hR ?_).mono ?_); omega; rintro e w' ⟨rfl, nq, rfl⟩) | ((with_reducible refine (eof_no _ _ _ _ _ (hR.drewN _) ?_).mono ?_); omega; rintro e w' ⟨rfl, nq, rfl⟩) | ((with_reducible refine (eof_no _ _ _ _ _ hR ?_).mono ?_); omega; rintro e w' ⟨rfl, nq, rfl⟩)) | (go_at_call 69; first | ((with_reducible refine (peek_any _ _ _ _ _ _ _ (hR.drewN _) ⟨?_, ?_, by assumption⟩).mono ?_); omega; omega; rintro e w' ⟨rfl, nq, rfl⟩) | ((with_reducible refine (peek_any _ _ _ _ _ _ _ hR ⟨?_, ?_, by assumption⟩).mono ?_); omega; omega; rintro e w' ⟨rfl, nq, rfl⟩)))
  refine (skip_any lb fb fp s x 38 { x with p := x.p + 1 } _ (HS.out.drewN _) ⟨by omega, h0⟩ rfl).mono ?_
  rintro e w1 ⟨rfl, hS1, hF1⟩
  have hF1' : Frm w w1 [lb] := ((Frm.refl w [lb]).drewN _).step hF1
  have hq := (OwnC.one w1 (.int .u8 38) 5 0 (Nat.zero_le _)).text (P := Tryz.prog) (l := [38]) 44 57 5 (by kernel_rfl) (by kernel_rfl) (by kernel_rfl)
  have hS2 : St (w1.alloc (.cells #[.int .u8 38] 5)) lb fb fp s { x with p := x.p + 1 } := hS1.frm ((Frm.refl _ _).alloc _)
  have hF2 : Frm w (w1.alloc (.cells #[.int .u8 38] 5)) [lb] := hF1'.alloc _
  have f1 := block_free hS2.lex 1
  have c1 := block_cell hS2.lex 1
  have HS2 := Lib.hid hS2
  clear hS1 hS2 hR hF1
  go_wp2_with fail
  go_end0
  exact ⟨rfl, HS2.out.set 1 _ _ rfl HS2.out.pz, hF2.setCell _ _ (.inl (by simp))⟩

set_option maxRecDepth 100000 in
set_option maxHeartbeats 4000000 in
theorem tok_s94 (lb fb : Nat) (fp s : ByteArray) (x : LX) (np : Bool) (w : World) (hS : St w lb fb fp s x) (h0 : byt s ((x.p : Int) + 0) = 94) (hlt : x.p < s.size) :
    Calls Tryz.prog 52 #[.pointer (some ⟨lb, 0, none⟩), .bool np] w (Goes (.tuple #[]) lb fb fp s { x with p := x.p + 1, kind := ⟨#[94]⟩ } w) := by
  have hR := hS.rd
  have HS := Lib.hid hS
  clear hS
  go_enter Tryz.func52, Tryz.ntmps52
  go_wp2_with (first | (go_at_call 61; first | ((with_reducible refine (eof_yes _ _ _ _ _ (hR.drewN _) ?_).mono ?_); omega; rintro e w' ⟨rfl, nq, rfl⟩) | ((with_reducible refine (eof_yes _ _ _ _ _ hR ?_).mono ?_); omega; rintro e w' ⟨rfl, nq, rfl⟩) | ((with_reducible refine (eof_no _ _ _ _ _ (hR.drewN _) ?_).mono ?_); omega; rintro e w' ⟨rfl, nq, rfl⟩) | ((with_reducible refine (eof_no _ _ _ _ _ hR ?_).mono ?_); omega; rintro e w' ⟨rfl, nq, rfl⟩)) | (go_at_call 69; first | ((with_reducible refine (peek_any _ _ _ _ _ _ _ (hR.drewN _) ⟨?_, ?_, by assumption⟩).mono ?_); omega; omega; rintro e w' ⟨rfl, nq, rfl⟩) | ((with_reducible refine (peek_any _ _ _ _ _ _ _ hR ⟨?_, ?_, by assumption⟩).mono ?_); omega; omega; rintro e w' ⟨rfl, nq, rfl⟩)))
  refine (skip_any lb fb fp s x 94 { x with p := x.p + 1 } _ (HS.out.drewN _) ⟨by omega, h0⟩ rfl).mono ?_
  rintro e w1 ⟨rfl, hS1, hF1⟩
  have hF1' : Frm w w1 [lb] := ((Frm.refl w [lb]).drewN _).step hF1
  have hq := (OwnC.one w1 (.int .u8 94) 5 0 (Nat.zero_le _)).text (P := Tryz.prog) (l := [94]) 44 57 5 (by kernel_rfl) (by kernel_rfl) (by kernel_rfl)
  have hS2 : St (w1.alloc (.cells #[.int .u8 94] 5)) lb fb fp s { x with p := x.p + 1 } := hS1.frm ((Frm.refl _ _).alloc _)
  have hF2 : Frm w (w1.alloc (.cells #[.int .u8 94] 5)) [lb] := hF1'.alloc _
  have f1 := block_free hS2.lex 1
  have c1 := block_cell hS2.lex 1
  have HS2 := Lib.hid hS2
  clear hS1 hS2 hR hF1
  go_wp2_with fail
  go_end0
  exact ⟨rfl, HS2.out.set 1 _ _ rfl HS2.out.pz, hF2.setCell _ _ (.inl (by simp))⟩

set_option maxRecDepth 100000 in
set_option maxHeartbeats 4000000 in
theorem tok_s37 (lb fb : Nat) (fp s : ByteArray) (x : LX) (np : Bool) (w : World) (hS : St w lb fb fp s x) (h0 : byt s ((x.p : Int) + 0) = 37) (hlt : x.p < s.size) :
    Calls Tryz.prog 52 #[.pointer (some ⟨lb, 0, none⟩), .bool np] w (Goes (.tuple #[]) lb fb fp s { x with p := x.p + 1, kind := ⟨#[37]⟩ } w) := by
  have hR := hS.rd
  have HS := Lib.hid hS
  clear hS
  go_enter Tryz.func52, Tryz.ntmps52
  go_wp2_with (first | (go_at_call 61; first | ((with_reducible refine (eof_yes _ _ _ _ _ (hR.drewN _) ?_).mono ?_); omega; rintro e w' ⟨rfl, nq, rfl⟩) | ((with_reducible refine (eof_yes _ _ _ _ _ hR ?_).mono ?_); omega; rintro e w' ⟨rfl, nq, rfl⟩) | ((with_reducible refine (eof_no _ _ _ _ _ (hR.drewN _) ?_).mono ?_); omega; rintro e w' ⟨rfl, nq, rfl⟩) | ((with_reducible refine (eof_no _ _ _ _ _ hR ?_).mono ?_); omega; rintro e w' ⟨rfl, nq, rfl⟩)) | (go_at_call 69; first | ((with_reducible refine (peek_any _ _ _ _ _ _ _ (hR.drewN _) ⟨?_, ?_, by assumption⟩).mono ?_); omega; omega; rintro e w' ⟨rfl, nq, rfl⟩) | ((with_reducible refine (peek_any _ _ _ _ _ _ _ hR ⟨?_, ?_, by assumption⟩).mono ?_); omega; omega; rintro e w' ⟨rfl, nq, rfl⟩)))
  refine (skip_any lb fb fp s x 37 { x with p := x.p + 1 } _ (HS.out.drewN _) ⟨by omega, h0⟩ rfl).mono ?_
  rintro e w1 ⟨rfl, hS1, hF1⟩
  have hF1' : Frm w w1 [lb] := ((Frm.refl w [lb]).drewN _).step hF1
  have hq := (OwnC.one w1 (.int .u8 37) 5 0 (Nat.zero_le _)).text (P := Tryz.prog) (l := [37]) 44 57 5 (by kernel_rfl) (by kernel_rfl) (by kernel_rfl)
  have hS2 : St (w1.alloc (.cells #[.int .u8 37] 5)) lb fb fp s { x with p := x.p + 1 } := hS1.frm ((Frm.refl _ _).alloc _)
  have hF2 : Frm w (w1.alloc (.cells #[.int .u8 37] 5)) [lb] := hF1'.alloc _
  have f1 := block_free hS2.lex 1
  have c1 := block_cell hS2.lex 1
  have HS2 := Lib.hid hS2
  clear hS1 hS2 hR hF1
  go_wp2_with fail
  go_end0
  exact ⟨rfl, HS2.out.set 1 _ _ rfl HS2.out.pz, hF2.setCell _ _ (.inl (by simp))⟩

set_option maxRecDepth 100000 in
set_option maxHeartbeats 4000000 in
theorem tok_s58 (lb fb : Nat) (fp s : ByteArray) (x : LX) (np : Bool) (w : World) (hS : St w lb fb fp s x) (h0 : byt s ((x.p : Int) + 0) = 58) (hlt : x.p < s.size) :
    Calls Tryz.prog 52 #[.pointer (some ⟨lb, 0, none⟩), .bool np] w (Goes (.tuple #[]) lb fb fp s { x with p := x.p + 1, kind := ⟨#[58]⟩ } w) := by
  have hR := hS.rd
  have HS := Lib.hid hS
  clear hS
  go_enter Tryz.func52, Tryz.ntmps52
  go_wp2_with (first | (go_at_call 61; first | ((with_reducible refine (eof_yes _ _ _ _ _ (hR.drewN _) ?_).mono ?_); omega; rintro e w' ⟨rfl, nq, rfl⟩) | ((with_reducible refine (eof_yes _ _ _ _ _ hR ?_).mono ?_); omega; rintro e w' ⟨rfl, nq, rfl⟩) | ((with_reducible refine (eof_no _ _ _ _ _ (hR.drewN _) ?_).mono ?_); omega; rintro e w' ⟨rfl, nq, rfl⟩) | ((with_reducible refine (eof_no _ _ _ _ _ hR ?_).mono ?_); omega; rintro e w' ⟨rfl, nq, rfl⟩)) | (go_at_call 69; first | ((with_reducible refine (peek_any _ _ _ _ _ _ _ (hR.drewN _) ⟨?_, ?_, by assumption⟩).mono ?_); omega; omega; rintro e w' ⟨rfl, nq, rfl⟩) | ((with_reducible refine (peek_any _ _ _ _ _ _ _ hR ⟨?_, ?_, by assumption⟩).mono ?_); omega; omega; rintro e w' ⟨rfl, nq, rfl⟩)))
  refine (skip_any lb fb fp s x 58 { x with p := x.p + 1 } _ (HS.out.drewN _) ⟨by omega, h0⟩ rfl).mono ?_
  rintro e w1 ⟨rfl, hS1, hF1⟩
  have hF1' : Frm w w1 [lb] := ((Frm.refl w [lb]).drewN _).step hF1
  have hq := (OwnC.one w1 (.int .u8 58) 5 0 (Nat.zero_le _)).text (P := Tryz.prog) (l := [58]) 44 57 5 (by kernel_rfl) (by kernel_rfl) (by kernel_rfl)
  have hS2 : St (w1.alloc (.cells #[.int .u8 58] 5)) lb fb fp s { x with p := x.p + 1 } := hS1.frm ((Frm.refl _ _).alloc _)
  have hF2 : Frm w (w1.alloc (.cells #[.int .u8 58] 5)) [lb] := hF1'.alloc _
  have f1 := block_free hS2.lex 1
  have c1 := block_cell hS2.lex 1
  have HS2 := Lib.hid hS2
  clear hS1 hS2 hR hF1
  go_wp2_with fail
  go_end0
  exact ⟨rfl, HS2.out.set 1 _ _ rfl HS2.out.pz, hF2.setCell _ _ (.inl (by simp))⟩

set_option maxRecDepth 100000 in
set_option maxHeartbeats 4000000 in
theorem tok_s63 (lb fb : Nat) (fp s : ByteArray) (x : LX) (np : Bool) (w : World) (hS : St w lb fb fp s x) (h0 : byt s ((x.p : Int) + 0) = 63) (hlt : x.p < s.size) :
    Calls Tryz.prog 52 #[.pointer (some ⟨lb, 0, none⟩), .bool np] w (Goes (.tuple #[]) lb fb fp s { x with p := x.p + 1, kind := ⟨#[63]⟩ } w) := by
  have hR := hS.rd
  have HS := Lib.hid hS
  clear hS
  go_enter Tryz.func52, Tryz.ntmps52
  go_wp2_with (first | (go_at_call 61; first | ((with_reducible refine (eof_yes _ _ _ _ _ (hR.drewN _) ?_).mono ?_); omega; rintro e w' ⟨rfl, nq, rfl⟩) | ((with_reducible refine (eof_yes _ _ _ _ _ hR ?_).mono ?_); omega; rintro e w' ⟨rfl, nq, rfl⟩) | ((with_reducible refine (eof_no _ _ _ _ _ (hR.drewN _) ?_).mono ?_); omega; rintro e w' ⟨rfl, nq, rfl⟩) | ((with_reducible refine (eof_no _ _ _ _ _ hR ?_).mono ?_); omega; rintro e w' ⟨rfl, nq, rfl⟩)) | (go_at_call 69; first | ((with_reducible refine (peek_any _ _ _ _ _ _ _ (hR.drewN _) ⟨?_, ?_, by assumption⟩).mono ?_); omega; omega; rintro e w' ⟨rfl, nq, rfl⟩) | ((with_reducible refine (peek_any _ _ _ _ _ _ _ hR ⟨?_, ?_, by assumption⟩).mono ?_); omega; omega; rintro e w' ⟨rfl, nq, rfl⟩)))
  refine (skip_any lb fb fp s x 63 { x with p := x.p + 1 } _ (HS.out.drewN _) ⟨by omega, h0⟩ rfl).mono ?_
  rintro e w1 ⟨rfl, hS1, hF1⟩
  have hF1' : Frm w w1 [lb] := ((Frm.refl w [lb]).drewN _).step hF1
  have hq := (OwnC.one w1 (.int .u8 63) 5 0 (Nat.zero_le _)).text (P := Tryz.prog) (l := [63]) 44 57 5 (by kernel_rfl) (by kernel_rfl) (by kernel_rfl)
  have hS2 : St (w1.alloc (.cells #[.int .u8 63] 5)) lb fb fp s { x with p := x.p + 1 } := hS1.frm ((Frm.refl _ _).alloc _)
  have hF2 : Frm w (w1.alloc (.cells #[.int .u8 63] 5)) [lb] := hF1'.alloc _
  have f1 := block_free hS2.lex 1
  have c1 := block_cell hS2.lex 1
  have HS2 := Lib.hid hS2
  clear hS1 hS2 hR hF1
  go_wp2_with fail
  go_end0
  exact ⟨rfl, HS2.out.set 1 _ _ rfl HS2.out.pz, hF2.setCell _ _ (.inl (by simp))⟩

set_option maxRecDepth 100000 in
set_option maxHeartbeats 4000000 in
theorem tok_s92 (lb fb : Nat) (fp s : ByteArray) (x : LX) (np : Bool) (w : World) (hS : St w lb fb fp s x) (h0 : byt s ((x.p : Int) + 0) = 92) (hlt : x.p < s.size) :
    Calls Tryz.prog 52 #[.pointer (some ⟨lb, 0, none⟩), .bool np] w (Goes (.tuple #[]) lb fb fp s { x with p := x.p + 1, kind := ⟨#[92]⟩ } w) := by
  have hR := hS.rd
  have HS := Lib.hid hS
  clear hS
  go_enter Tryz.func52, Tryz.ntmps52
  go_wp2_with (first | (go_at_call 61; first | ((with_reducible refine (eof_yes _ _ _ _ _ (hR.drewN _) ?_).mono ?_); omega; rintro e w' ⟨rfl, nq, rfl⟩) | ((with_reducible refine (eof_yes _ _ _ _ _ hR ?_).mono ?_); omega; rintro e w' ⟨rfl, nq, rfl⟩) | ((with_reducible refine (eof_no _ _ _ _ _ (hR.drewN _) ?_).mono ?_); omega; rintro e w' ⟨rfl, nq, rfl⟩) | ((with_reducible refine (eof_no _ _ _ _ _ hR ?_).mono ?_); omega; rintro e w' ⟨rfl, nq, rfl⟩)) | (go_at_call 69; first | ((with_reducible refine (peek_any _ _ _ _ _ _ _ (hR.drewN _) ⟨?_, ?_, by assumption⟩).mono ?_); omega; omega; rintro e w' ⟨rfl, nq, rfl⟩) | ((with_reducible refine (peek_any _ _ _ _ _ _ _ hR ⟨?_, ?_, by assumption⟩).mono ?_); omega; omega; rintro e w' ⟨rfl, nq, rfl⟩)))
  refine (skip_any lb fb fp s x 92 { x with p := x.p + 1 } _ (HS.out.drewN _) ⟨by omega, h0⟩ rfl).mono ?_
  rintro e w1 ⟨rfl, hS1, hF1⟩
  have hF1' : Frm w w1 [lb] := ((Frm.refl w [lb]).drewN _).step hF1
  have hq := (OwnC.one w1 (.int .u8 92) 5 0 (Nat.zero_le _)).text (P := Tryz.prog) (l := [92]) 44 57 5 (by kernel_rfl) (by kernel_rfl) (by kernel_rfl)
  have hS2 : St (w1.alloc (.cells #[.int .u8 92] 5)) lb fb fp s { x with p := x.p + 1 } := hS1.frm ((Frm.refl _ _).alloc _)
  have hF2 : Frm w (w1.alloc (.cells #[.int .u8 92] 5)) [lb] := hF1'.alloc _
  have f1 := block_free hS2.lex 1
  have c1 := block_cell hS2.lex 1
  have HS2 := Lib.hid hS2
  clear hS1 hS2 hR hF1
  go_wp2_with fail
  go_end0
  exact ⟨rfl, HS2.out.set 1 _ _ rfl HS2.out.pz, hF2.setCell _ _ (.inl (by simp))⟩

set_option maxRecDepth 100000 in
set_option maxHeartbeats 4000000 in
theorem tok_s36 (lb fb : Nat) (fp s : ByteArray) (x : LX) (np : Bool) (w : World) (hS : St w lb fb fp s x) (h0 : byt s ((x.p : Int) + 0) = 36) (hlt : x.p < s.size) :
    Calls Tryz.prog 52 #[.pointer (some ⟨lb, 0, none⟩), .bool np] w (Goes (.tuple #[]) lb fb fp s { x with p := x.p + 1, kind := ⟨#[36]⟩ } w) := by
  have hR := hS.rd
  have HS := Lib.hid hS
  clear hS
  go_enter Tryz.func52, Tryz.ntmps52
  go_wp2_with (first | (go_at_call 61; first | ((with_reducible refine (eof_yes _ _ _ _ _ (hR.drewN _) ?_).mono ?_); omega; rintro e w' ⟨rfl, nq, rfl⟩) | ((with_reducible refine (eof_yes _ _ _ _ _ hR ?_).mono ?_); omega; rintro e w' ⟨rfl, nq, rfl⟩) | ((with_reducible refine (eof_no _ _ _ _ _ (hR.drewN _) ?_).mono ?_); omega; rintro e w' ⟨rfl, nq, rfl⟩) | ((with_reducible refine (eof_no _ _ _ _ _ hR ?_).mono ?_); omega; rintro e w' ⟨rfl, nq, rfl⟩)) | (go_at_call 69; first | ((with_reducible refine (peek_any _ _ _ _ _ _ _ (hR.drewN _) ⟨?_, ?_, by assumption⟩).mono ?_); omega; omega; rintro e w' ⟨rfl, nq, rfl⟩) | ((with_reducible refine (peek_any _ _ _ _ _ _ _ hR ⟨?_, ?_, by assumption⟩).mono ?_); omega; omega; rintro e w' ⟨rfl, nq, rfl⟩)))
  refine (skip_any lb fb fp s x 36 { x with p := x.p + 1 } _ (HS.out.drewN _) ⟨by omega, h0⟩ rfl).mono ?_
  rintro e w1 ⟨rfl, hS1, hF1⟩
  have hF1' : Frm w w1 [lb] := ((Frm.refl w [lb]).drewN _).step hF1
  have hq := (OwnC.one w1 (.int .u8 36) 5 0 (Nat.zero_le _)).text (P := Tryz.prog) (l := [36]) 44 57 5 (by kernel_rfl) (by kernel_rfl) (by kernel_rfl)
  have hS2 : St (w1.alloc (.cells #[.int .u8 36] 5)) lb fb fp s { x with p := x.p + 1 } := hS1.frm ((Frm.refl _ _).alloc _)
  have hF2 : Frm w (w1.alloc (.cells #[.int .u8 36] 5)) [lb] := hF1'.alloc _
  have f1 := block_free hS2.lex 1
  have c1 := block_cell hS2.lex 1
  have HS2 := Lib.hid hS2
  clear hS1 hS2 hR hF1
  go_wp2_with fail
  go_end0
  exact ⟨rfl, HS2.out.set 1 _ _ rfl HS2.out.pz, hF2.setCell _ _ (.inl (by simp))⟩

end Go.Proofs.YtngofbhlhcalpaaGreatDoor.lexer
