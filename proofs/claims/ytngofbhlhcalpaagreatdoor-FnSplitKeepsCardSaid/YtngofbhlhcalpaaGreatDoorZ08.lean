/-
  Lemmas and contracts of this claim, texts QuoG4. No statement of the seat is proved here.
-/
import Derived.Test.YtngofbhlhcalpaaGreatDoorZ05
namespace Go.Proofs.YtngofbhlhcalpaaGreatDoor.lexer
open Go.RowKit Go.Proofs.YtngofbhlhcalpaaGreatDoor.gen
open Go.Proofs.YtngofbhlhcalpaaGreatDoor.upper (bv bv_len)



set_option maxRecDepth 100000 in
set_option maxHeartbeats 16000000 in
theorem round_octGood
    (lb fb : Nat) (fp s : ByteArray) (x : LX) (q nm : ByteArray) (raw uni ident np : Bool) (z : List UInt8 × Nat × QEnd) (w : World) (k : Nat) (l : List UInt8) (he : Bool) (v : Value) (wr : World) (U : Nat → Value)
        (H : QCtx lb fb fp s x q nm raw uni ident np z w k l he v wr)
    (c d : UInt8) (hb : byt s ((x.p : Int) + (k : Int)) = nn c) (h92 : nn c = 92) (hbd : byt s ((x.p + k + 1 : Nat) : Int) = nn d) (hsuf : suf s (x.p + k) = c :: d :: suf s (x.p + k + 2)) (_hlt : x.p + k + 1 < s.size) (hcl : ((suf s (x.p + k)).take q.data.toList.length == q.data.toList) = false)
    (a b : UInt8) (hba : byt s ((x.p + (k + 2) : Nat) : Int) = nn a) (hbb : byt s ((x.p + (k + 3) : Nat) : Int) = nn b) (hsuf2 : suf s (x.p + k + 2) = a :: b :: suf s (x.p + k + 4)) (hlt4 : x.p + k + 4 ≤ s.size)
    (hraw : raw = false) (hd : nn d = 48 ∨ nn d = 49 ∨ nn d = 50 ∨ nn d = 51) (ha : oc (nn a) = true) (hb2 : oc (nn b) = true) :
    Code.wp Tryz.prog qBody (QPost lb fb fp s x q nm raw uni ident np z w k) ⟨QFr lb q nm raw uni np (.int .i64 k) v (.bool he) (uls U), []⟩ wr := by
  have hsz := H.size
  have hsz2 : s.size ≤ 2147483647 := by omega
  have hki := H.qs.hi
  have hQk := H.qs.lo
  obtain ⟨hqp, hq3⟩ := H.qpos
  have hlk := H.qs.len
  have hR := H.st'.rd
  have HH := Lib.hid H
  clear H
  unfold QFr uls
  conv => arg 2; whnf
  subst hraw
  have ho := dv_oct d hd
  obtain ⟨D, hDe⟩ : ∃ D, D = dvs 8 [d, a, b] := ⟨_, rfl⟩
  have HQ := Lib.hid (qr_escape (uni := uni) (bs := [UInt8.ofNat D]) (n := 4) hsuf hcl h92 (by omega) (by
    rw [hsuf2, hDe]
    have h64 : dvs 8 [d, a, b] = dv d * 64 + dvs 8 [a, b] := by simp [dvs]; omega
    rw [h64]
    rcases hd with hd | hd | hd | hd <;> simp [esc, simple, hd, octN, ha, hb2]))
  have hD : D ≤ 255 := by
    rw [hDe]
    exact oct_le d a b ho.1 3 (by simp [ha, hb2, ho.2])
  have hbda := nn_bd a
  have hbdb := nn_bd b
  have HY := Lib.hid (show (D : Int) = nn (UInt8.ofNat D) from by simp [nn]; omega)
  obtain ⟨t2, ht2⟩ : ∃ t2, t2 = s.extract (x.p + (k + 1)) (min (x.p + (k + 4)) s.size) := ⟨_, rfl⟩
  have hl2 : t2.data.toList = [d, a, b] := by
    rw [ht2, show x.p + (k + 4) = x.p + (k + 1) + 3 from by omega, ext_suf_min]
    (have h1 := congrArg (List.drop 1) hsuf; rw [suf_drop', hsuf2] at h1; rw [show x.p + (k + 1) = x.p + k + 1 from by omega, h1]; rfl)
  have hs2 : t2.size = 3 := by rw [← len_list, hl2]; rfl
  have hparse : ∀ W, Syn W → Calls Tryz.prog 97 #[.string t2, .int .i64 8, .int .i64 8] W (ParseOk D W) := fun W hW => by
    have := parse_8_8 t2 W hW (by omega) (by omega) (fun j hj => by rw [hl2] at hj ⊢; exact oct_le d a b ho.1 j hj) true (by rw [hl2]; simp [ha, hb2, ho.2])
    rw [hl2, ← hDe] at this
    exact this
  have HT2 := Lib.hid ht2
  have HP := Lib.hid hparse
  clear hDe ht2 hl2 hs2 hparse
  have hb1 : byt s ((x.p : Int) + ((k : Int) + 1)) = nn d := by rw [← hbd, show ((x.p : Int) + ((k : Int) + 1)) = (((x.p + k + 1 : Nat) : Int)) from by omega]
  have hbdd := nn_bd d
  have hb92 : byt s ((x.p : Int) + (k : Int)) = 92 := by rw [hb, h92]
  clear hb hbd
  clear h92 hsuf2
  rcases hd with hd | hd | hd | hd
  all_goals
    rw [hd] at hb1
    clear hd hbdd
    have hlt3 : (x.p : Int) + (k : Int) < s.size := by omega
    obtain ⟨t, ht⟩ : ∃ t, t = s.extract (x.p + k) (min (x.p + (k + q.size)) s.size) := ⟨_, rfl⟩
    have htq : (t.toList == q.toList) = false := by rw [ht, delim_eq]; exact hcl
    have HT := Lib.hid ht
    have HC := Lib.hid hcl
    have HU := Lib.hid hsuf
    clear ht hcl hsuf
    go_wp2_with (first | (go_at_call 67; first | ((with_reducible refine (peekOk_yes _ _ _ _ _ _ (hR.drewN _) ?_).mono ?_); omega; rintro e w' ⟨rfl, nq, rfl⟩) | ((with_reducible refine (peekOk_yes _ _ _ _ _ _ hR ?_).mono ?_); omega; rintro e w' ⟨rfl, nq, rfl⟩) | ((with_reducible refine (peekOk_no _ _ _ _ _ _ (hR.drewN _) ?_).mono ?_); omega; rintro e w' ⟨rfl, nq, rfl⟩) | ((with_reducible refine (peekOk_no _ _ _ _ _ _ hR ?_).mono ?_); omega; rintro e w' ⟨rfl, nq, rfl⟩)))
    refine (slice_int lb fb s x.p _ _ k (k + q.size) t _ (hR.drewN _) (by omega) (by omega) (by omega) (by omega) (by omega) HT.out).mono ?_
    rintro e w' ⟨rfl, nq, rfl⟩
    go_wp2_with (first | (go_at_call 69; first | ((with_reducible refine (peek_any _ _ _ _ _ _ _ (hR.drewN _) ⟨?_, ?_, by assumption⟩).mono ?_); omega; omega; rintro e w' ⟨rfl, nq, rfl⟩) | ((with_reducible refine (peek_any _ _ _ _ _ _ _ hR ⟨?_, ?_, by assumption⟩).mono ?_); omega; omega; rintro e w' ⟨rfl, nq, rfl⟩)) | (go_at_call 67; first | ((with_reducible refine (peekOk_yes _ _ _ _ _ _ (hR.drewN _) ?_).mono ?_); omega; rintro e w' ⟨rfl, nq, rfl⟩) | ((with_reducible refine (peekOk_yes _ _ _ _ _ _ hR ?_).mono ?_); omega; rintro e w' ⟨rfl, nq, rfl⟩) | ((with_reducible refine (peekOk_no _ _ _ _ _ _ (hR.drewN _) ?_).mono ?_); omega; rintro e w' ⟨rfl, nq, rfl⟩) | ((with_reducible refine (peekOk_no _ _ _ _ _ _ hR ?_).mono ?_); omega; rintro e w' ⟨rfl, nq, rfl⟩)))
    go_loopw [393, 16] (fun j h wx => ∃ (n : Int) (m : Nat), j = .int .i64 n ∧ 0 ≤ n ∧ n ≤ 2 ∧ h = .bool he ∧ wx = wr.drewN m) (fun j _ _ => 2 - (intOf j).toNat)
    case atStart => exact ⟨0, _, rfl, by omega, by omega, rfl, rfl⟩
    case round =>
      obtain ⟨n, m, rfl, hn0, hn, rfl, rfl⟩ := hrel
      rcases (show n = 0 ∨ n = 1 ∨ n = 2 by omega) with rfl | rfl | rfl
      case inl =>
        go_wp2_with (first | (go_at_call 69; first | ((with_reducible refine (peek_at lb fb s x.p _ _ (k + 2) _ (hR.drewN _) ?_ ?_ hba).mono ?_); omega; omega; rintro e w' ⟨rfl, nq, rfl⟩) | ((with_reducible refine (peek_at lb fb s x.p _ _ (k + 3) _ (hR.drewN _) ?_ ?_ hbb).mono ?_); omega; omega; rintro e w' ⟨rfl, nq, rfl⟩)) | (first | (go_at_call 67; first | ((with_reducible refine (peekOk_yes _ _ _ _ _ _ (hR.drewN _) ?_).mono ?_); omega; rintro e w' ⟨rfl, nq, rfl⟩) | ((with_reducible refine (peekOk_yes _ _ _ _ _ _ hR ?_).mono ?_); omega; rintro e w' ⟨rfl, nq, rfl⟩) | ((with_reducible refine (peekOk_no _ _ _ _ _ _ (hR.drewN _) ?_).mono ?_); omega; rintro e w' ⟨rfl, nq, rfl⟩) | ((with_reducible refine (peekOk_no _ _ _ _ _ _ hR ?_).mono ?_); omega; rintro e w' ⟨rfl, nq, rfl⟩)) | (go_at_call 99; refine (isOctal_any _ _).mono ?_; rintro e w' ⟨rfl, rfl⟩)))
        all_goals
          go_roundw
          case rel => exact ⟨1, _, rfl, by omega, by omega, rfl, rfl⟩
          case measure => simp [intOf]
      case inr.inl =>
        go_wp2_with (first | (go_at_call 69; first | ((with_reducible refine (peek_at lb fb s x.p _ _ (k + 2) _ (hR.drewN _) ?_ ?_ hba).mono ?_); omega; omega; rintro e w' ⟨rfl, nq, rfl⟩) | ((with_reducible refine (peek_at lb fb s x.p _ _ (k + 3) _ (hR.drewN _) ?_ ?_ hbb).mono ?_); omega; omega; rintro e w' ⟨rfl, nq, rfl⟩)) | (first | (go_at_call 67; first | ((with_reducible refine (peekOk_yes _ _ _ _ _ _ (hR.drewN _) ?_).mono ?_); omega; rintro e w' ⟨rfl, nq, rfl⟩) | ((with_reducible refine (peekOk_yes _ _ _ _ _ _ hR ?_).mono ?_); omega; rintro e w' ⟨rfl, nq, rfl⟩) | ((with_reducible refine (peekOk_no _ _ _ _ _ _ (hR.drewN _) ?_).mono ?_); omega; rintro e w' ⟨rfl, nq, rfl⟩) | ((with_reducible refine (peekOk_no _ _ _ _ _ _ hR ?_).mono ?_); omega; rintro e w' ⟨rfl, nq, rfl⟩)) | (go_at_call 99; refine (isOctal_any _ _).mono ?_; rintro e w' ⟨rfl, rfl⟩)))
        all_goals
          go_roundw
          case rel => exact ⟨2, _, rfl, by omega, by omega, rfl, rfl⟩
          case measure => simp [intOf]
      case inr.inr =>
        go_wp2_with fail
        refine (slice_int lb fb s x.p _ _ (k + 1) (k + 4) t2 _ (hR.drewN _) (by omega) (by omega) (by omega) (by omega) (by omega) HT2.out).mono ?_
        rintro e w' ⟨rfl, nq, rfl⟩
        go_wp2_with fail
        refine (HP.out _ (HH.out.drewN _).env'.tabs.syn).mono ?_
        rintro e w1 ⟨rfl, hbel⟩
        have HH1 := Lib.hid (HH.out.next ((HH.out.drewN _).frm.step (Frm.ofBelow hbel [])) ((HH.out.drewN _).own.below hbel) HH.out.qs)
        clear hbel HP
        go_wp2_with (at_builtin; refine app_one HH1.out.frm HH1.out.own rfl (.tmp 460) (.tmp 463) rfl rfl _ (UInt8.ofNat D) HY.out rfl (by omega) ?_)
        intro g' cap' w1 hO hF
        go_wp2_with fail
        exact QPost.next rfl (by omega) (QCtx.next HH.out hF hO (HH.out.qs.on 4 [UInt8.ofNat D] (by omega) (by simp) HQ.out)) (by omega)

end Go.Proofs.YtngofbhlhcalpaaGreatDoor.lexer
