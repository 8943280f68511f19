/-
  Lemmas and contracts of this claim, texts TokM4. No statement of the seat is proved here.
-/
import Derived.BigRegion
import Derived.Test.YtngofbhlhcalpaaGreatDoorZ24
namespace Go.Proofs.YtngofbhlhcalpaaGreatDoor.lexer
open Go.RowKit Go.Proofs.YtngofbhlhcalpaaGreatDoor.gen
open Go.Proofs.YtngofbhlhcalpaaGreatDoor.upper (up isKw toUpper_any zzKeyword_any)


set_option maxRecDepth 100000 in
set_option maxHeartbeats 16000000 in
theorem tok_let114 (lb fb : Nat) (fp s : ByteArray) (x : LX) (np : Bool) (w : World) (hs : s.size ≤ 1048576) (hE : Env w lb fb) (hS : St w lb fb fp s x) (hF : Fresh x) (h0 : byt s ((x.p : Int) + 0) = 114)
    (P : Option (Nat × Bool × Bool)) (hP : pre 3 false false (suf s x.p) = P) (hok : NB s ∨ ∀ i b r, P = some (i, b, r) → ∃ t, qtok (delim (suf s (x.p + i))) r (!b) false (if b then kBytes else kString) (suf s (x.p + i)) = .ok t) :
    Calls Tryz.prog 52 #[.pointer (some ⟨lb, 0, none⟩), .bool np] w (LetRes np lb fb fp s x P w) := by
  have hR := hS.rd
  have hsz := hS.sz
  have hlt2 := (byt_lt s _ (by rw [h0]; decide : 0 ≤ byt s ((x.p : Int) + 0))).2
  have hlt : x.p < s.size := by omega
  have HA := Lib.hid (show PreAt s x.p 0 false false P from ⟨by omega, by omega, by rw [← hP]; simp⟩)
  have HC := Lib.hid (show LCtx lb fb fp s x np P w from ⟨hS, hE, hF, hs, hok⟩)
  have HS := Lib.hid hS
  have HPN := Lib.hid hP
  obtain ⟨N, hN⟩ : ∃ N, idLen (suf s x.p) = N := ⟨_, rfl⟩
  have HN := Lib.hid hN
  have HP : Hid (x.p + N ≤ s.size) := by
    have h1 := idLen_le (suf s x.p)
    rw [hN, suf_len] at h1
    show x.p + N ≤ s.size
    omega
  clear hN
  clear hS hE hF hok hP
  go_enter Tryz.func52, Tryz.ntmps52
  go_upto_block 0 with (first | (go_at_call 61; first | ((with_reducible refine (eof_yes _ _ _ _ _ (hR.drewN _) ?_).mono ?_); omega; rintro e w' ⟨rfl, nq, rfl⟩) | ((with_reducible refine (eof_yes _ _ _ _ _ hR ?_).mono ?_); omega; rintro e w' ⟨rfl, nq, rfl⟩) | ((with_reducible refine (eof_no _ _ _ _ _ (hR.drewN _) ?_).mono ?_); omega; rintro e w' ⟨rfl, nq, rfl⟩) | ((with_reducible refine (eof_no _ _ _ _ _ hR ?_).mono ?_); omega; rintro e w' ⟨rfl, nq, rfl⟩)) | (go_at_call 69; first | ((with_reducible refine (peek_any _ _ _ _ _ _ _ (hR.drewN _) ⟨?_, ?_, by assumption⟩).mono ?_); omega; omega; rintro e w' ⟨rfl, nq, rfl⟩) | ((with_reducible refine (peek_any _ _ _ _ _ _ _ hR ⟨?_, ?_, by assumption⟩).mono ?_); omega; omega; rintro e w' ⟨rfl, nq, rfl⟩)))
  go_cut [4, 5, 6, 7, 8, 9] from 21 to 415 (fun _ _ _ _ _ _ wx => P = none ∧ ∃ nq, wx = w.drewN nq)
  case first =>
    go_wp2_with fail
    go_step3
    refine wp_mono (let_scope2 lb fb fp s x np P w _ _ _ _ _ _ _ _ _ [_, _, _, _, _, _, _, _, _, _, _, _, _, _, _, _, _, _, _, _, _, _, _, _, _, _, _, _, _, _, _, _, _, _, _, _, _, _, _, _, _, _, _, _, _, _, _, _, _, _, _, _, _, _, _, _, _, _, _, _, _, _, _, _, _, _, _, _, _, _, _, _, _, _, _, _, _, _, _, _, _, _, _, _, _, _, _, _, _, _, _, _, _, _, _, _, _, _, _, _, _, _, _, _, _, _, _, _, _, _, _, _, _, _, _, _, _, _, _, _, _, _, _, _, _, _, _, _, _, _, _, _, _, _, _, _, _, _, _, _, _, _, _, _, _, _, _, _, _, _, _, _, _, _, _, _, _, _, _, _, _, _, _, _, _, _, _, _, _, _, _, _, _, _, _, _, _, _, _, _, _, _, _, _, _, _, _, _, _, _, _, _, _, _, _, _, _, _, _, _, _, _, _, _, _, _, _, _, _, _, _, _, _, _, _, _, _, _, _, _, _, _, _, _, _, _, _, _, _, _, _, _, _, _, _, _, _, _, _, _, _, _, _, _, _, _, _, _, _, _, _, _, _, _, _, _, _, _, _, _, _, _, _, _, _, _, _, _, _, _, _, _, _, _, _, _, _, _, _, _, _, _, _, _, _, _, _, _, _, _, _, _, _, _, _, _, _, _, _, _, _, _, _, _, _, _, _, _, _, _, _, _, _, _, _, _, _, _, _, _, _, _, _, _, _, _, _, _, _, _, _, _, _, _, _, _, _, _] [_, _, _, _, _, _, _, _, _, _, _, _, _, _, _, _, _, _, _, _, _, _, _, _, _, _, _, _, _, _, _, _, _, _, _, _, _, _, _, _, _, _, _, _, _, _, _, _, _, _, _, _, _, _, _, _, _, _, _, _, _, _, _, _, _, _, _, _] [_, _, _, _, _, _, _, _, _, _, _, _, _, _, _, _, _, _, _, _, _, _, _, _, _, _, _, _, _, _, _, _, _, _, _, _, _, _, _, _, _, _, _, _, _, _, _, _] rfl rfl rfl HC.out HA.out) ?_
    intro e a' w' hQ
    cases e with
    | ret => exact bodyPost_ret (results_none rfl _ _ _) hQ.1 hQ.2
    | panic chain => exact hQ
    | outgrown => exact hQ.elim
    | goto g => exact hQ.elim
    | exit n => exact hQ.elim
    | normal =>
      obtain ⟨hp, hdf, b, r, i, M, m, hM, htm, rfl⟩ := hQ
      obtain ⟨tm, df⟩ := a'
      obtain ⟨V, rfl⟩ := list_letters68 M hM
      simp only at hdf htm
      subst hdf htm
      rw [Exit.noGoto_normal]
      go_wp2_with fail
      go_meet
      exact ⟨hp, _, rfl⟩
  case rest =>
    obtain ⟨hp, nq0, rfl⟩ := hcut
    subst hp
    have hi : ids 114 = true := by decide
    go_upto_block 13 with (first | (go_at_call 61; first | ((with_reducible refine (eof_yes _ _ _ _ _ (hR.drewN _) ?_).mono ?_); omega; rintro e w' ⟨rfl, nq, rfl⟩) | ((with_reducible refine (eof_yes _ _ _ _ _ hR ?_).mono ?_); omega; rintro e w' ⟨rfl, nq, rfl⟩) | ((with_reducible refine (eof_no _ _ _ _ _ (hR.drewN _) ?_).mono ?_); omega; rintro e w' ⟨rfl, nq, rfl⟩) | ((with_reducible refine (eof_no _ _ _ _ _ hR ?_).mono ?_); omega; rintro e w' ⟨rfl, nq, rfl⟩)) | (go_at_call 69; first | ((with_reducible refine (peek_any _ _ _ _ _ _ _ (hR.drewN _) ⟨?_, ?_, by assumption⟩).mono ?_); omega; omega; rintro e w' ⟨rfl, nq, rfl⟩) | ((with_reducible refine (peek_any _ _ _ _ _ _ _ hR ⟨?_, ?_, by assumption⟩).mono ?_); omega; omega; rintro e w' ⟨rfl, nq, rfl⟩)) | (go_at_call 74; refine (isIdentStart_any _ _).mono ?_; rintro e w' ⟨rfl, rfl⟩))
    go_cut [10] from 419 to 429 (fun i wx => i = .int .i64 N ∧ ∃ nq, wx = w.drewN nq)
    case first =>
      go_wp2_with fail
      go_loopw [10] (fun i wr => IdRel s x.p N i w wr) (fun i _ => s.size - (intOf i).toNat)
      case atStart => exact ⟨0, _, rfl, rfl, by omega, by simpa using HN.out⟩
      case round =>
        obtain ⟨k, nq, rfl, rfl, hpk, hk1⟩ := hrel
        have HK1 := Lib.hid hk1
        clear hk1
        rcases suf_byt s (x.p + k) with ⟨hb, hsuf, hge⟩ | ⟨d, hb, hsuf, hlt⟩
        · have hk : k = N := by have := HK1.out; rw [hsuf] at this; simpa [idLen] using this
          subst hk
          have hge2 : (s.size : Int) ≤ (x.p : Int) + (k : Int) := by omega
          clear hb hsuf
          go_wp2_with (first | (go_at_call 67; first | ((with_reducible refine (peekOk_yes _ _ _ _ _ _ (hR.drewN _) ?_).mono ?_); omega; rintro e w' ⟨rfl, nq, rfl⟩) | ((with_reducible refine (peekOk_yes _ _ _ _ _ _ hR ?_).mono ?_); omega; rintro e w' ⟨rfl, nq, rfl⟩) | ((with_reducible refine (peekOk_no _ _ _ _ _ _ (hR.drewN _) ?_).mono ?_); omega; rintro e w' ⟨rfl, nq, rfl⟩) | ((with_reducible refine (peekOk_no _ _ _ _ _ _ hR ?_).mono ?_); omega; rintro e w' ⟨rfl, nq, rfl⟩)))
          go_meet
          exact ⟨rfl, _, rfl⟩
        · have hbd := nn_bd d
          rw [show ((x.p + k : Nat) : Int) = (x.p : Int) + (k : Int) from by omega] at hb
          have hlt3 : (x.p : Int) + (k : Int) < s.size := by omega
          cases hd : idp (nn d) with
          | true =>
            have hk1 : k + 1 + idLen (suf s (x.p + k + 1)) = N := by have := HK1.out; rw [hsuf] at this; simp only [idLen, hd, if_true] at this; omega
            have HK3 := Lib.hid hk1
            clear hk1 HK1 hsuf
            go_wp2_with (first | (go_at_call 67; first | ((with_reducible refine (peekOk_yes _ _ _ _ _ _ (hR.drewN _) ?_).mono ?_); omega; rintro e w' ⟨rfl, nq, rfl⟩) | ((with_reducible refine (peekOk_yes _ _ _ _ _ _ hR ?_).mono ?_); omega; rintro e w' ⟨rfl, nq, rfl⟩) | ((with_reducible refine (peekOk_no _ _ _ _ _ _ (hR.drewN _) ?_).mono ?_); omega; rintro e w' ⟨rfl, nq, rfl⟩) | ((with_reducible refine (peekOk_no _ _ _ _ _ _ hR ?_).mono ?_); omega; rintro e w' ⟨rfl, nq, rfl⟩)) | (go_at_call 69; first | ((with_reducible refine (peek_any _ _ _ _ _ _ _ (hR.drewN _) ⟨?_, ?_, by assumption⟩).mono ?_); omega; omega; rintro e w' ⟨rfl, nq, rfl⟩) | ((with_reducible refine (peek_any _ _ _ _ _ _ _ hR ⟨?_, ?_, by assumption⟩).mono ?_); omega; omega; rintro e w' ⟨rfl, nq, rfl⟩)) | (go_at_call 68; refine (isIdentPart_any _ _).mono ?_; rintro e w' ⟨rfl, rfl⟩))
            go_roundw
            case rel => exact ⟨k + 1, _, by go_num, rfl, by omega, HK3.out⟩
            case measure => simp [intOf]; omega
          | false =>
            have hk : k = N := by have := HK1.out; rw [hsuf] at this; simpa [idLen, hd] using this
            subst hk
            clear hsuf
            go_wp2_with (first | (go_at_call 67; first | ((with_reducible refine (peekOk_yes _ _ _ _ _ _ (hR.drewN _) ?_).mono ?_); omega; rintro e w' ⟨rfl, nq, rfl⟩) | ((with_reducible refine (peekOk_yes _ _ _ _ _ _ hR ?_).mono ?_); omega; rintro e w' ⟨rfl, nq, rfl⟩) | ((with_reducible refine (peekOk_no _ _ _ _ _ _ (hR.drewN _) ?_).mono ?_); omega; rintro e w' ⟨rfl, nq, rfl⟩) | ((with_reducible refine (peekOk_no _ _ _ _ _ _ hR ?_).mono ?_); omega; rintro e w' ⟨rfl, nq, rfl⟩)) | (go_at_call 69; first | ((with_reducible refine (peek_any _ _ _ _ _ _ _ (hR.drewN _) ⟨?_, ?_, by assumption⟩).mono ?_); omega; omega; rintro e w' ⟨rfl, nq, rfl⟩) | ((with_reducible refine (peek_any _ _ _ _ _ _ _ hR ⟨?_, ?_, by assumption⟩).mono ?_); omega; omega; rintro e w' ⟨rfl, nq, rfl⟩)) | (go_at_call 68; refine (isIdentPart_any _ _).mono ?_; rintro e w' ⟨rfl, rfl⟩))
            go_meet
            exact ⟨rfl, _, rfl⟩
    case rest =>
      obtain ⟨rfl, nq, rfl⟩ := hcut
      have hpn := HP.out
      go_wp2_with fail
      refine (slice_any lb fb s x.p 0 N (s.extract x.p (x.p + N)) _ (HS.out.rd.drewN _) (by omega) (by omega) (by omega) (by rw [show min (x.p + N) s.size = x.p + N from by omega]; rfl)).mono ?_
      rintro e w1 ⟨rfl, nq1, rfl⟩
      go_wp2_with fail
      refine (skipN_any lb fb fp s x N { x with p := x.p + N } _ (HS.out.drewN _) ⟨by omega, by omega⟩ (by rw [show ((x.p : Int) + (N : Int)).toNat = x.p + N from by omega])).mono ?_
      rintro e w1 ⟨rfl, hS1, hF1⟩
      have hF1' : Frm w w1 [lb] := ((Frm.refl w [lb]).drewN _).step hF1
      have ht : (s.extract x.p (x.p + N)).data.toList = (suf s x.p).take N := ext_suf s x.p N
      have hts := extract_le s x.p (x.p + N)
      generalize s.extract x.p (x.p + N) = t at *
      go_wp2_with fail
      refine (toUpper_any t _ (by omega)).mono ?_
      rintro e w2 ⟨rfl, hb2⟩
      have hS2 := hS1.frm (Frm.ofBelow hb2 [])
      have hF2 := hF1'.step (Frm.ofBelow hb2 [lb])
      have c1 := block_cell hS2.lex 1
      have f1 := block_free hS2.lex 1
      have c5 := block_cell hS2.lex 5
      have f5 := block_free hS2.lex 5
      have HS2 := Lib.hid hS2
      have HT := Lib.hid ht
      clear hS1 hS2 hR hF1 hF1' ht hb2
      obtain ⟨U, hU⟩ : ∃ U : ByteArray, U = ⟨(up t.data.toList).toArray⟩ := ⟨_, rfl⟩
      have HU := Lib.hid hU
      rw [← hU]
      clear hU
      go_wp2_with fail
      refine (zzKeyword_any U _).mono ?_
      have hUl : U.data.toList = up ((suf s x.p).take N) := by rw [HU.out, HT.out]
      rintro e w3 ⟨rfl, rfl⟩
      rw [hUl]
      cases hk : isKw (up ((suf s x.p).take N)) with
      | true =>
        have HX := Lib.hid (show wordX x ((suf s x.p).take (idLen (suf s x.p))) (idLen (suf s x.p)) = { x with p := x.p + N, kind := U } by rw [HN.out, HU.out, HT.out]; simp [wordX, hk])
        clear hUl hk
        go_wp2_with fail
        go_end0
        refine ⟨rfl, ?_, hF2.setCell _ _ (.inl (by simp))⟩
        rw [HX.out]
        exact HS2.out.set 1 _ _ rfl HS2.out.pz
      | false =>
        have HX := Lib.hid (show wordX x ((suf s x.p).take (idLen (suf s x.p))) (idLen (suf s x.p)) = { x with p := x.p + N, kind := kIdent, text := t } by rw [HN.out, show t = ⟨((suf s x.p).take N).toArray⟩ by rw [← HT.out]]; simp [wordX, hk])
        clear hUl hk
        go_wp2_with fail
        go_end0
        refine ⟨rfl, ?_, (hF2.setCell _ _ (.inl (by simp))).setCell _ _ (.inl (by simp))⟩
        rw [HX.out]
        exact (HS2.out.set 1 _ { x with p := x.p + N, kind := kIdent } rfl HS2.out.pz).set 5 _ _ rfl HS2.out.pz


end Go.Proofs.YtngofbhlhcalpaaGreatDoor.lexer
