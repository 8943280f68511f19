/-
  Lemmas and contracts of this claim, texts TokM5. No statement of the seat is proved here.
-/
import Derived.BigRegion
import Derived.Test.YtngofbhlhcalpaaGreatDoorZ24
namespace Go.Proofs.YtngofbhlhcalpaaGreatDoor.lexer
open Go.RowKit Go.Proofs.YtngofbhlhcalpaaGreatDoor.gen
open Go.Proofs.YtngofbhlhcalpaaGreatDoor.upper (up isKw toUpper_any zzKeyword_any)


set_option maxRecDepth 100000 in
set_option maxHeartbeats 16000000 in
theorem tok_let34 (lb fb : Nat) (fp s : ByteArray) (x : LX) (np : Bool) (w : World) (hs : s.size ≤ 1048576) (hE : Env w lb fb) (hS : St w lb fb fp s x) (hF : Fresh x) (h0 : byt s ((x.p : Int) + 0) = 34)
    (P : Option (Nat × Bool × Bool)) (hP : pre 3 false false (suf s x.p) = P) (hok : NB s ∨ ∀ i b r, P = some (i, b, r) → ∃ t, qtok (delim (suf s (x.p + i))) r (!b) false (if b then kBytes else kString) (suf s (x.p + i)) = .ok t) :
    Calls Tryz.prog 52 #[.pointer (some ⟨lb, 0, none⟩), .bool np] w (LetRes np lb fb fp s x P w) := by
  have hR := hS.rd
  have hsz := hS.sz
  have hlt2 := (byt_lt s _ (by rw [h0]; decide : 0 ≤ byt s ((x.p : Int) + 0))).2
  have hlt : x.p < s.size := by omega
  have HA := Lib.hid (show PreAt s x.p 0 false false P from ⟨by omega, by omega, by rw [← hP]; simp⟩)
  have HC := Lib.hid (show LCtx lb fb fp s x np P w from ⟨hS, hE, hF, hs, hok⟩)
  have HS := Lib.hid hS
  have HPN := Lib.hid hP
  have HNo := Lib.hid (show P = none → False from fun h => by
    obtain ⟨d, hd, hd2⟩ := suf_byt2 s x.p 0 34 (by omega) h0
    cases hs : suf s x.p with
    | nil => rw [hs] at hd; simp at hd
    | cons a r =>
      rw [hs] at hd hP
      simp at hd
      subst hd
      rw [pre_q _ _ _ _ _ (by omega), h] at hP
      cases hP)
  clear hS hE hF hok hP
  go_enter Tryz.func52, Tryz.ntmps52
  go_upto_block 0 with (first | (go_at_call 61; first | ((with_reducible refine (eof_yes _ _ _ _ _ (hR.drewN _) ?_).mono ?_); omega; rintro e w' ⟨rfl, nq, rfl⟩) | ((with_reducible refine (eof_yes _ _ _ _ _ hR ?_).mono ?_); omega; rintro e w' ⟨rfl, nq, rfl⟩) | ((with_reducible refine (eof_no _ _ _ _ _ (hR.drewN _) ?_).mono ?_); omega; rintro e w' ⟨rfl, nq, rfl⟩) | ((with_reducible refine (eof_no _ _ _ _ _ hR ?_).mono ?_); omega; rintro e w' ⟨rfl, nq, rfl⟩)) | (go_at_call 69; first | ((with_reducible refine (peek_any _ _ _ _ _ _ _ (hR.drewN _) ⟨?_, ?_, by assumption⟩).mono ?_); omega; omega; rintro e w' ⟨rfl, nq, rfl⟩) | ((with_reducible refine (peek_any _ _ _ _ _ _ _ hR ⟨?_, ?_, by assumption⟩).mono ?_); omega; omega; rintro e w' ⟨rfl, nq, rfl⟩)))
  go_cut [4, 5, 6, 7, 8, 9] from 21 to 415 (fun _ _ _ _ _ _ wx => P = none ∧ ∃ nq, wx = w.drewN nq)
  case first =>
    go_wp2_with fail
    go_step3
    refine wp_mono (let_scope2 lb fb fp s x np P w _ _ _ _ _ _ _ _ _ [_, _, _, _, _, _, _, _, _, _, _, _, _, _, _, _, _, _, _, _, _, _, _, _, _, _, _, _, _, _, _, _, _, _, _, _, _, _, _, _, _, _, _, _, _, _, _, _, _, _, _, _, _, _, _, _, _, _, _, _, _, _, _, _, _, _, _, _, _, _, _, _, _, _, _, _, _, _, _, _, _, _, _, _, _, _, _, _, _, _, _, _, _, _, _, _, _, _, _, _, _, _, _, _, _, _, _, _, _, _, _, _, _, _, _, _, _, _, _, _, _, _, _, _, _, _, _, _, _, _, _, _, _, _, _, _, _, _, _, _, _, _, _, _, _, _, _, _, _, _, _, _, _, _, _, _, _, _, _, _, _, _, _, _, _, _, _, _, _, _, _, _, _, _, _, _, _, _, _, _, _, _, _, _, _, _, _, _, _, _, _, _, _, _, _, _, _, _, _, _, _, _, _, _, _, _, _, _, _, _, _, _, _, _, _, _, _, _, _, _, _, _, _, _, _, _, _, _, _, _, _, _, _, _, _, _, _, _, _, _, _, _, _, _, _, _, _, _, _, _, _, _, _, _, _, _, _, _, _, _, _, _, _, _, _, _, _, _, _, _, _, _, _, _, _, _, _, _, _, _, _, _, _, _, _, _, _, _, _, _, _, _, _, _, _, _, _, _, _, _, _, _, _, _, _, _, _, _, _, _, _, _, _, _, _, _, _, _, _, _, _, _, _, _, _, _, _, _, _, _, _, _, _, _, _, _, _, _] [_, _, _, _, _, _, _, _, _, _, _, _, _, _, _, _, _, _, _, _, _, _, _, _, _, _, _, _, _, _, _, _, _, _, _, _, _, _, _, _, _, _, _, _, _, _, _, _, _, _, _, _, _, _, _, _, _, _, _, _, _, _, _, _, _, _, _, _] [_, _, _, _, _, _, _, _, _, _, _, _, _, _, _, _, _, _, _, _, _, _, _, _, _, _, _, _, _, _, _, _, _, _, _, _, _, _, _, _, _, _, _, _, _, _, _, _] rfl rfl rfl HC.out HA.out) ?_
    intro e a' w' hQ
    cases e with
    | ret => exact bodyPost_ret (results_none rfl _ _ _) hQ.1 hQ.2
    | panic chain => exact hQ
    | outgrown => exact hQ.elim
    | goto g => exact hQ.elim
    | exit n => exact hQ.elim
    | normal =>
      obtain ⟨hp, hdf, b, r, i, M, m, hM, htm, rfl⟩ := hQ
      obtain ⟨tm, df⟩ := a'
      obtain ⟨V, rfl⟩ := list_letters68 M hM
      simp only at hdf htm
      subst hdf htm
      rw [Exit.noGoto_normal]
      go_wp2_with fail
      go_meet
      exact ⟨hp, _, rfl⟩
  case rest =>
    obtain ⟨hp, nq0, rfl⟩ := hcut
    exact (HNo.out hp).elim

set_option maxRecDepth 100000 in
set_option maxHeartbeats 16000000 in
theorem tok_let39 (lb fb : Nat) (fp s : ByteArray) (x : LX) (np : Bool) (w : World) (hs : s.size ≤ 1048576) (hE : Env w lb fb) (hS : St w lb fb fp s x) (hF : Fresh x) (h0 : byt s ((x.p : Int) + 0) = 39)
    (P : Option (Nat × Bool × Bool)) (hP : pre 3 false false (suf s x.p) = P) (hok : NB s ∨ ∀ i b r, P = some (i, b, r) → ∃ t, qtok (delim (suf s (x.p + i))) r (!b) false (if b then kBytes else kString) (suf s (x.p + i)) = .ok t) :
    Calls Tryz.prog 52 #[.pointer (some ⟨lb, 0, none⟩), .bool np] w (LetRes np lb fb fp s x P w) := by
  have hR := hS.rd
  have hsz := hS.sz
  have hlt2 := (byt_lt s _ (by rw [h0]; decide : 0 ≤ byt s ((x.p : Int) + 0))).2
  have hlt : x.p < s.size := by omega
  have HA := Lib.hid (show PreAt s x.p 0 false false P from ⟨by omega, by omega, by rw [← hP]; simp⟩)
  have HC := Lib.hid (show LCtx lb fb fp s x np P w from ⟨hS, hE, hF, hs, hok⟩)
  have HS := Lib.hid hS
  have HPN := Lib.hid hP
  have HNo := Lib.hid (show P = none → False from fun h => by
    obtain ⟨d, hd, hd2⟩ := suf_byt2 s x.p 0 39 (by omega) h0
    cases hs : suf s x.p with
    | nil => rw [hs] at hd; simp at hd
    | cons a r =>
      rw [hs] at hd hP
      simp at hd
      subst hd
      rw [pre_q _ _ _ _ _ (by omega), h] at hP
      cases hP)
  clear hS hE hF hok hP
  go_enter Tryz.func52, Tryz.ntmps52
  go_upto_block 0 with (first | (go_at_call 61; first | ((with_reducible refine (eof_yes _ _ _ _ _ (hR.drewN _) ?_).mono ?_); omega; rintro e w' ⟨rfl, nq, rfl⟩) | ((with_reducible refine (eof_yes _ _ _ _ _ hR ?_).mono ?_); omega; rintro e w' ⟨rfl, nq, rfl⟩) | ((with_reducible refine (eof_no _ _ _ _ _ (hR.drewN _) ?_).mono ?_); omega; rintro e w' ⟨rfl, nq, rfl⟩) | ((with_reducible refine (eof_no _ _ _ _ _ hR ?_).mono ?_); omega; rintro e w' ⟨rfl, nq, rfl⟩)) | (go_at_call 69; first | ((with_reducible refine (peek_any _ _ _ _ _ _ _ (hR.drewN _) ⟨?_, ?_, by assumption⟩).mono ?_); omega; omega; rintro e w' ⟨rfl, nq, rfl⟩) | ((with_reducible refine (peek_any _ _ _ _ _ _ _ hR ⟨?_, ?_, by assumption⟩).mono ?_); omega; omega; rintro e w' ⟨rfl, nq, rfl⟩)))
  go_cut [4, 5, 6, 7, 8, 9] from 21 to 415 (fun _ _ _ _ _ _ wx => P = none ∧ ∃ nq, wx = w.drewN nq)
  case first =>
    go_wp2_with fail
    go_step3
    refine wp_mono (let_scope2 lb fb fp s x np P w _ _ _ _ _ _ _ _ _ [_, _, _, _, _, _, _, _, _, _, _, _, _, _, _, _, _, _, _, _, _, _, _, _, _, _, _, _, _, _, _, _, _, _, _, _, _, _, _, _, _, _, _, _, _, _, _, _, _, _, _, _, _, _, _, _, _, _, _, _, _, _, _, _, _, _, _, _, _, _, _, _, _, _, _, _, _, _, _, _, _, _, _, _, _, _, _, _, _, _, _, _, _, _, _, _, _, _, _, _, _, _, _, _, _, _, _, _, _, _, _, _, _, _, _, _, _, _, _, _, _, _, _, _, _, _, _, _, _, _, _, _, _, _, _, _, _, _, _, _, _, _, _, _, _, _, _, _, _, _, _, _, _, _, _, _, _, _, _, _, _, _, _, _, _, _, _, _, _, _, _, _, _, _, _, _, _, _, _, _, _, _, _, _, _, _, _, _, _, _, _, _, _, _, _, _, _, _, _, _, _, _, _, _, _, _, _, _, _, _, _, _, _, _, _, _, _, _, _, _, _, _, _, _, _, _, _, _, _, _, _, _, _, _, _, _, _, _, _, _, _, _, _, _, _, _, _, _, _, _, _, _, _, _, _, _, _, _, _, _, _, _, _, _, _, _, _, _, _, _, _, _, _, _, _, _, _, _, _, _, _, _, _, _, _, _, _, _, _, _, _, _, _, _, _, _, _, _, _, _, _, _, _, _, _, _, _, _, _, _, _, _, _, _, _, _, _, _, _, _, _, _, _, _, _, _, _, _, _, _, _, _, _, _, _, _, _, _] [_, _, _, _, _, _, _, _, _, _, _, _, _, _, _, _, _, _, _, _, _, _, _, _, _, _, _, _, _, _, _, _, _, _, _, _, _, _, _, _, _, _, _, _, _, _, _, _, _, _, _, _, _, _, _, _, _, _, _, _, _, _, _, _, _, _, _, _] [_, _, _, _, _, _, _, _, _, _, _, _, _, _, _, _, _, _, _, _, _, _, _, _, _, _, _, _, _, _, _, _, _, _, _, _, _, _, _, _, _, _, _, _, _, _, _, _] rfl rfl rfl HC.out HA.out) ?_
    intro e a' w' hQ
    cases e with
    | ret => exact bodyPost_ret (results_none rfl _ _ _) hQ.1 hQ.2
    | panic chain => exact hQ
    | outgrown => exact hQ.elim
    | goto g => exact hQ.elim
    | exit n => exact hQ.elim
    | normal =>
      obtain ⟨hp, hdf, b, r, i, M, m, hM, htm, rfl⟩ := hQ
      obtain ⟨tm, df⟩ := a'
      obtain ⟨V, rfl⟩ := list_letters68 M hM
      simp only at hdf htm
      subst hdf htm
      rw [Exit.noGoto_normal]
      go_wp2_with fail
      go_meet
      exact ⟨hp, _, rfl⟩
  case rest =>
    obtain ⟨hp, nq0, rfl⟩ := hcut
    exact (HNo.out hp).elim


end Go.Proofs.YtngofbhlhcalpaaGreatDoor.lexer
