/-
  Lemmas and contracts of this claim, texts QuoG5. No statement of the seat is proved here.
-/
import Derived.Test.YtngofbhlhcalpaaGreatDoorZ05
namespace Go.Proofs.YtngofbhlhcalpaaGreatDoor.lexer
open Go.RowKit Go.Proofs.YtngofbhlhcalpaaGreatDoor.gen
open Go.Proofs.YtngofbhlhcalpaaGreatDoor.upper (bv bv_len)



set_option maxRecDepth 100000 in
set_option maxHeartbeats 16000000 in
theorem round_octPass
    (lb fb : Nat) (fp s : ByteArray) (x : LX) (q nm : ByteArray) (raw uni ident np : Bool) (z : List UInt8 × Nat × QEnd) (w : World) (k : Nat) (l : List UInt8) (he : Bool) (v : Value) (wr : World) (U : Nat → Value)
        (H : QCtx lb fb fp s x q nm raw uni ident np z w k l he v wr)
    (c d : UInt8) (hb : byt s ((x.p : Int) + (k : Int)) = nn c) (h92 : nn c = 92) (hbd : byt s ((x.p + k + 1 : Nat) : Int) = nn d) (hsuf : suf s (x.p + k) = c :: d :: suf s (x.p + k + 2)) (_hlt : x.p + k + 1 < s.size) (hcl : ((suf s (x.p + k)).take q.data.toList.length == q.data.toList) = false)
    (a b : UInt8) (hba : byt s ((x.p + (k + 2) : Nat) : Int) = nn a) (hbb : byt s ((x.p + (k + 3) : Nat) : Int) = nn b) (hsuf2 : suf s (x.p + k + 2) = a :: b :: suf s (x.p + k + 4)) (hlt4 : x.p + k + 4 ≤ s.size)
    (hraw : raw = false) (hnp : np = true) (hd : nn d = 48 ∨ nn d = 49 ∨ nn d = 50 ∨ nn d = 51) (hab : (oc (nn a) && oc (nn b)) = false) :
    Code.wp Tryz.prog qBody (QPost lb fb fp s x q nm raw uni ident np z w k) ⟨QFr lb q nm raw uni np (.int .i64 k) v (.bool he) (uls U), []⟩ wr := by
  have hsz := H.size
  have hsz2 : s.size ≤ 2147483647 := by omega
  have hki := H.qs.hi
  have hQk := H.qs.lo
  obtain ⟨hqp, hq3⟩ := H.qpos
  have hlk := H.qs.len
  have hR := H.st'.rd
  have HH := Lib.hid H
  clear H
  unfold QFr uls
  conv => arg 2; whnf
  subst hraw hnp
  have ho := dv_oct d hd
  have HQ := Lib.hid (qr_other (uni := uni) hsuf hcl h92 (by
    rw [hsuf2]
    rcases hd with hd | hd | hd | hd <;> simp [esc, simple, hd, octN, List.all_cons] <;> simpa using hab))
  obtain ⟨t2, ht2⟩ : ∃ t2, t2 = s.extract (x.p + (k + 1)) (min (x.p + (k + 4)) s.size) := ⟨_, rfl⟩
  have hl2 : t2.data.toList = [d, a, b] := by
    rw [ht2, show x.p + (k + 4) = x.p + (k + 1) + 3 from by omega, ext_suf_min]
    (have h1 := congrArg (List.drop 1) hsuf; rw [suf_drop', hsuf2] at h1; rw [show x.p + (k + 1) = x.p + k + 1 from by omega, h1]; rfl)
  have hs2 : t2.size = 3 := by rw [← len_list, hl2]; rfl
  have hparse : ∀ W, Syn W → Calls Tryz.prog 97 #[.string t2, .int .i64 8, .int .i64 8] W (ParseErr W) := fun W hW => by
    have := parse_8_8 t2 W hW (by omega) (by omega) (fun j hj => by rw [hl2] at hj ⊢; exact oct_le d a b ho.1 j hj) false (by rw [hl2]; simpa [ho.2] using hab)
    exact this
  have HT2 := Lib.hid ht2
  have HP := Lib.hid hparse
  clear ht2 hl2 hs2 hparse hab
  have hbda := nn_bd a
  have hbdb := nn_bd b
  have hb1 : byt s ((x.p : Int) + ((k : Int) + 1)) = nn d := by rw [← hbd, show ((x.p : Int) + ((k : Int) + 1)) = (((x.p + k + 1 : Nat) : Int)) from by omega]
  have hbdd := nn_bd d
  have hb92 : byt s ((x.p : Int) + (k : Int)) = 92 := by rw [hb, h92]
  clear hb hbd
  clear h92 hsuf2
  rcases hd with hd | hd | hd | hd
  all_goals
    rw [hd] at hb1
    clear hd hbdd
    have hlt3 : (x.p : Int) + (k : Int) < s.size := by omega
    obtain ⟨t, ht⟩ : ∃ t, t = s.extract (x.p + k) (min (x.p + (k + q.size)) s.size) := ⟨_, rfl⟩
    have htq : (t.toList == q.toList) = false := by rw [ht, delim_eq]; exact hcl
    have HT := Lib.hid ht
    have HC := Lib.hid hcl
    have HU := Lib.hid hsuf
    clear ht hcl hsuf
    go_wp2_with (first | (go_at_call 67; first | ((with_reducible refine (peekOk_yes _ _ _ _ _ _ (hR.drewN _) ?_).mono ?_); omega; rintro e w' ⟨rfl, nq, rfl⟩) | ((with_reducible refine (peekOk_yes _ _ _ _ _ _ hR ?_).mono ?_); omega; rintro e w' ⟨rfl, nq, rfl⟩) | ((with_reducible refine (peekOk_no _ _ _ _ _ _ (hR.drewN _) ?_).mono ?_); omega; rintro e w' ⟨rfl, nq, rfl⟩) | ((with_reducible refine (peekOk_no _ _ _ _ _ _ hR ?_).mono ?_); omega; rintro e w' ⟨rfl, nq, rfl⟩)))
    refine (slice_int lb fb s x.p _ _ k (k + q.size) t _ (hR.drewN _) (by omega) (by omega) (by omega) (by omega) (by omega) HT.out).mono ?_
    rintro e w' ⟨rfl, nq, rfl⟩
    go_wp2_with (first | (go_at_call 69; first | ((with_reducible refine (peek_any _ _ _ _ _ _ _ (hR.drewN _) ⟨?_, ?_, by assumption⟩).mono ?_); omega; omega; rintro e w' ⟨rfl, nq, rfl⟩) | ((with_reducible refine (peek_any _ _ _ _ _ _ _ hR ⟨?_, ?_, by assumption⟩).mono ?_); omega; omega; rintro e w' ⟨rfl, nq, rfl⟩)) | (go_at_call 67; first | ((with_reducible refine (peekOk_yes _ _ _ _ _ _ (hR.drewN _) ?_).mono ?_); omega; rintro e w' ⟨rfl, nq, rfl⟩) | ((with_reducible refine (peekOk_yes _ _ _ _ _ _ hR ?_).mono ?_); omega; rintro e w' ⟨rfl, nq, rfl⟩) | ((with_reducible refine (peekOk_no _ _ _ _ _ _ (hR.drewN _) ?_).mono ?_); omega; rintro e w' ⟨rfl, nq, rfl⟩) | ((with_reducible refine (peekOk_no _ _ _ _ _ _ hR ?_).mono ?_); omega; rintro e w' ⟨rfl, nq, rfl⟩)))
    go_loopw [393, 16] (fun j h wx => ∃ (n : Int) (m : Nat), j = .int .i64 n ∧ 0 ≤ n ∧ n ≤ 2 ∧ (∃ hv, h = .bool hv) ∧ wx = wr.drewN m) (fun j _ _ => 2 - (intOf j).toNat)
    case atStart => exact ⟨0, _, rfl, by omega, by omega, ⟨_, rfl⟩, rfl⟩
    case round =>
      obtain ⟨n, m, rfl, hn0, hn, ⟨hv, rfl⟩, rfl⟩ := hrel
      rcases (show n = 0 ∨ n = 1 ∨ n = 2 by omega) with rfl | rfl | rfl
      case inl =>
        go_wp2_with (first | (go_at_call 69; first | ((with_reducible refine (peek_at lb fb s x.p _ _ (k + 2) _ (hR.drewN _) ?_ ?_ hba).mono ?_); omega; omega; rintro e w' ⟨rfl, nq, rfl⟩) | ((with_reducible refine (peek_at lb fb s x.p _ _ (k + 3) _ (hR.drewN _) ?_ ?_ hbb).mono ?_); omega; omega; rintro e w' ⟨rfl, nq, rfl⟩)) | (first | (go_at_call 67; first | ((with_reducible refine (peekOk_yes _ _ _ _ _ _ (hR.drewN _) ?_).mono ?_); omega; rintro e w' ⟨rfl, nq, rfl⟩) | ((with_reducible refine (peekOk_yes _ _ _ _ _ _ hR ?_).mono ?_); omega; rintro e w' ⟨rfl, nq, rfl⟩) | ((with_reducible refine (peekOk_no _ _ _ _ _ _ (hR.drewN _) ?_).mono ?_); omega; rintro e w' ⟨rfl, nq, rfl⟩) | ((with_reducible refine (peekOk_no _ _ _ _ _ _ hR ?_).mono ?_); omega; rintro e w' ⟨rfl, nq, rfl⟩)) | (go_at_call 99; refine (isOctal_any _ _).mono ?_; rintro e w' ⟨rfl, rfl⟩)))
        all_goals
          go_roundw
          case rel => exact ⟨1, _, rfl, by omega, by omega, ⟨_, rfl⟩, rfl⟩
          case measure => simp [intOf]
      case inr.inl =>
        go_wp2_with (first | (go_at_call 69; first | ((with_reducible refine (peek_at lb fb s x.p _ _ (k + 2) _ (hR.drewN _) ?_ ?_ hba).mono ?_); omega; omega; rintro e w' ⟨rfl, nq, rfl⟩) | ((with_reducible refine (peek_at lb fb s x.p _ _ (k + 3) _ (hR.drewN _) ?_ ?_ hbb).mono ?_); omega; omega; rintro e w' ⟨rfl, nq, rfl⟩)) | (first | (go_at_call 67; first | ((with_reducible refine (peekOk_yes _ _ _ _ _ _ (hR.drewN _) ?_).mono ?_); omega; rintro e w' ⟨rfl, nq, rfl⟩) | ((with_reducible refine (peekOk_yes _ _ _ _ _ _ hR ?_).mono ?_); omega; rintro e w' ⟨rfl, nq, rfl⟩) | ((with_reducible refine (peekOk_no _ _ _ _ _ _ (hR.drewN _) ?_).mono ?_); omega; rintro e w' ⟨rfl, nq, rfl⟩) | ((with_reducible refine (peekOk_no _ _ _ _ _ _ hR ?_).mono ?_); omega; rintro e w' ⟨rfl, nq, rfl⟩)) | (go_at_call 99; refine (isOctal_any _ _).mono ?_; rintro e w' ⟨rfl, rfl⟩)))
        all_goals
          go_roundw
          case rel => exact ⟨2, _, rfl, by omega, by omega, ⟨_, rfl⟩, rfl⟩
          case measure => simp [intOf]
      case inr.inr =>
        go_wp2_with fail
        refine (slice_int lb fb s x.p _ _ (k + 1) (k + 4) t2 _ (hR.drewN _) (by omega) (by omega) (by omega) (by omega) (by omega) HT2.out).mono ?_
        rintro e w' ⟨rfl, nq, rfl⟩
        go_wp2_with fail
        refine (HP.out _ (HH.out.drewN _).env'.tabs.syn).mono ?_
        rintro e w1 ⟨N, rfl, hbel⟩
        have HH1 := Lib.hid (HH.out.next ((HH.out.drewN _).frm.step (Frm.ofBelow hbel [])) ((HH.out.drewN _).own.below hbel) HH.out.qs)
        clear hbel HP
        go_wp2_with fail
        exact QPost.next rfl (by omega) (QCtx.next HH.out HH1.out.frm HH1.out.own (HH.out.qs.fault rfl (fun _ => by rw [HQ.out]; simp) 2 (by omega) true)) (by omega)

end Go.Proofs.YtngofbhlhcalpaaGreatDoor.lexer
