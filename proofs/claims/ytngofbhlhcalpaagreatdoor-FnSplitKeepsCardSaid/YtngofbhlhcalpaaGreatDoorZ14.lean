/-
  Lemmas and contracts of this claim, texts QuoU6. No statement of the seat is proved here.
-/
import Derived.Test.YtngofbhlhcalpaaGreatDoorZ11
namespace Go.Proofs.YtngofbhlhcalpaaGreatDoor.lexer
open Go.RowKit Go.Proofs.YtngofbhlhcalpaaGreatDoor.gen
open Go.Proofs.YtngofbhlhcalpaaGreatDoor.upper (bv bv_len)



set_option maxRecDepth 100000 in
set_option maxHeartbeats 16000000 in
theorem round_uniFaultScalar
    (lb fb : Nat) (fp s : ByteArray) (x : LX) (q nm : ByteArray) (raw uni ident np : Bool) (z : List UInt8 × Nat × QEnd) (w : World) (k : Nat) (l : List UInt8) (he : Bool) (v : Value) (wr : World) (U : Nat → Value)
        (H : QCtx lb fb fp s x q nm raw uni ident np z w k l he v wr)
    (c d : UInt8) (hb : byt s ((x.p : Int) + (k : Int)) = nn c) (h92 : nn c = 92) (hbd : byt s ((x.p + k + 1 : Nat) : Int) = nn d) (hsuf : suf s (x.p + k) = c :: d :: suf s (x.p + k + 2)) (hlt : x.p + k + 1 < s.size) (hcl : ((suf s (x.p + k)).take q.data.toList.length == q.data.toList) = false)
    (N : Nat) (hN : x.p + k + 2 + N ≤ s.size)
    (hraw : raw = false) (huni : uni = true) (hd : (nn d = 117 ∧ N = 4) ∨ (nn d = 85 ∧ N = 8))
    (hall : ((suf s (x.p + k + 2)).take N).all (fun c => hx (nn c)) = true) (D : Nat) (hDe : D = dvs 16 ((suf s (x.p + k + 2)).take N)) (hsc : scalar D = false) (hnp : np = false) :
    Code.wp Tryz.prog qBody (QPost lb fb fp s x q nm raw uni ident np z w k) ⟨QFr lb q nm raw uni np (.int .i64 k) v (.bool he) (uls U), []⟩ wr := by
  have hsz := H.size
  have hsz2 : s.size ≤ 2147483647 := by omega
  have hki := H.qs.hi
  have hQk := H.qs.lo
  obtain ⟨hqp, hq3⟩ := H.qpos
  have hlk := H.qs.len
  have hR := H.st'.rd
  have HH := Lib.hid H
  clear H
  unfold QFr uls
  conv => arg 2; whnf
  subst hraw huni hnp
  have hsufd : (suf s (x.p + k + 2)).length = s.size - (x.p + k + 2) := suf_len s _
  obtain ⟨t2, ht2⟩ : ∃ t2, t2 = s.extract (x.p + (k + 2)) (min (x.p + (k + 2 + N)) s.size) := ⟨_, rfl⟩
  have hl2 : t2.data.toList = (suf s (x.p + k + 2)).take N := by
    rw [ht2, show x.p + (k + 2 + N) = x.p + (k + 2) + N from by omega, ext_suf_min, show x.p + (k + 2) = x.p + k + 2 from by omega]
  have hs2 : t2.size = N := by rw [← len_list, hl2, List.length_take]; omega
  have hN8 : 0 < N ∧ N ≤ 8 := by rcases hd with ⟨_, h⟩ | ⟨_, h⟩ <;> omega
  have hesc : esc true (d :: suf s (x.p + k + 2)) = if scalar D then some (u8s D, 2 + N) else none := by
    rw [esc_u d _ N hd, hexN, if_pos ⟨by omega, hall⟩, ← hDe]; rfl
  rw [hsc] at hesc
  have HQ := Lib.hid (qr_other (uni := true) hsuf hcl h92 hesc)
  have HB := Lib.hid (bad_esc HH.out HQ.out)
  have hparse : ∀ W, Syn W → Calls Tryz.prog 97 #[.string t2, .int .i64 16, .int .i64 32] W (ParseOk D W) := fun W hW => by
    have := parse_16_32 t2 W hW (by omega) (by omega) (fun j hj => by have := dvs_hex t2.data.toList 8 (by rw [len_list]; omega) j hj; simpa using this) true (by rw [hl2]; exact hall)
    rw [hl2, ← hDe] at this
    exact this
  have HT2 := Lib.hid ht2
  have HP := Lib.hid hparse
  have HA := Lib.hid hall
  have HSC := Lib.hid hsc
  have hD32 : D ≤ 4294967295 := by
    have := dvs_hex ((suf s (x.p + k + 2)).take N) 8 (by rw [List.length_take]; omega) N (by rw [List.take_take, Nat.min_self]; exact hall)
    rw [List.take_take, Nat.min_self, ← hDe] at this
    simpa using this
  have hsc2 : (55296 ≤ D ∧ D < 57344) ∨ 1114111 < D := by
    have h0 : ¬ (D < 55296 ∨ (57344 ≤ D ∧ D ≤ 1114111)) := by
      intro h
      have h1 : scalar D = true := by simpa [scalar] using h
      rw [hsc] at h1
      cases h1
    omega
  clear hDe ht2 hl2 hs2 hparse hall hesc hsc
  have hb1 : byt s ((x.p : Int) + ((k : Int) + 1)) = nn d := by rw [← hbd, show ((x.p : Int) + ((k : Int) + 1)) = (((x.p + k + 1 : Nat) : Int)) from by omega]
  have hbdd := nn_bd d
  have hb92 : byt s ((x.p : Int) + (k : Int)) = 92 := by rw [hb, h92]
  clear hb hbd
  clear h92
  have e2 : IntKind.i64.wrap ((x.p : Int) + ((k : Int) + 1 + 1)) = (x.p : Int) + (k : Int) + 2 := by rw [IntWalk.i64_in _ (by omega)]; omega
  have e3 : IntKind.i64.wrap ((x.p : Int) + (k : Int) + 2 - 2) = (x.p : Int) + (k : Int) := by rw [IntWalk.i64_in _ (by omega)]; omega
  have e4 : IntKind.i64.wrap ((x.p : Int) + (k : Int) + 2 + 4) = (x.p : Int) + (k : Int) + 6 := by rw [IntWalk.i64_in _ (by omega)]; omega
  have e5 : IntKind.i64.wrap ((x.p : Int) + (k : Int) + 2 + 8) = (x.p : Int) + (k : Int) + 10 := by rw [IntWalk.i64_in _ (by omega)]; omega
  rcases hd with ⟨hd, hNN⟩ | ⟨hd, hNN⟩
  case inl =>
    rw [hd] at hb1
    subst hNN
    clear hd hbdd
    have hlt3 : (x.p : Int) + (k : Int) < s.size := by omega
    obtain ⟨t, ht⟩ : ∃ t, t = s.extract (x.p + k) (min (x.p + (k + q.size)) s.size) := ⟨_, rfl⟩
    have htq : (t.toList == q.toList) = false := by rw [ht, delim_eq]; exact hcl
    have HT := Lib.hid ht
    have HC := Lib.hid hcl
    have HU := Lib.hid hsuf
    clear ht hcl hsuf
    go_wp2_with (first | (go_at_call 67; first | ((with_reducible refine (peekOk_yes _ _ _ _ _ _ (hR.drewN _) ?_).mono ?_); omega; rintro e w' ⟨rfl, nq, rfl⟩) | ((with_reducible refine (peekOk_yes _ _ _ _ _ _ hR ?_).mono ?_); omega; rintro e w' ⟨rfl, nq, rfl⟩) | ((with_reducible refine (peekOk_no _ _ _ _ _ _ (hR.drewN _) ?_).mono ?_); omega; rintro e w' ⟨rfl, nq, rfl⟩) | ((with_reducible refine (peekOk_no _ _ _ _ _ _ hR ?_).mono ?_); omega; rintro e w' ⟨rfl, nq, rfl⟩)))
    refine (slice_int lb fb s x.p _ _ k (k + q.size) t _ (hR.drewN _) (by omega) (by omega) (by omega) (by omega) (by omega) HT.out).mono ?_
    rintro e w' ⟨rfl, nq, rfl⟩
    go_wp2_with (first | (go_at_call 69; first | ((with_reducible refine (peek_any _ _ _ _ _ _ _ (hR.drewN _) ⟨?_, ?_, by assumption⟩).mono ?_); omega; omega; rintro e w' ⟨rfl, nq, rfl⟩) | ((with_reducible refine (peek_any _ _ _ _ _ _ _ hR ⟨?_, ?_, by assumption⟩).mono ?_); omega; omega; rintro e w' ⟨rfl, nq, rfl⟩)) | (go_at_call 67; first | ((with_reducible refine (peekOk_yes _ _ _ _ _ _ (hR.drewN _) ?_).mono ?_); omega; rintro e w' ⟨rfl, nq, rfl⟩) | ((with_reducible refine (peekOk_yes _ _ _ _ _ _ hR ?_).mono ?_); omega; rintro e w' ⟨rfl, nq, rfl⟩) | ((with_reducible refine (peekOk_no _ _ _ _ _ _ (hR.drewN _) ?_).mono ?_); omega; rintro e w' ⟨rfl, nq, rfl⟩) | ((with_reducible refine (peekOk_no _ _ _ _ _ _ hR ?_).mono ?_); omega; rintro e w' ⟨rfl, nq, rfl⟩)))
    go_loopw [23, 16] (fun j h wx => ∃ (n m : Nat), j = .int .i64 n ∧ n ≤ 4 ∧ h = .bool he ∧ wx = wr.drewN m) (fun j _ _ => 4 - (intOf j).toNat)
    case atStart => exact ⟨0, _, rfl, by omega, rfl, rfl⟩
    case round =>
      obtain ⟨n, m, rfl, hn, rfl, rfl⟩ := hrel
      by_cases hlt9 : n < 4
      case pos =>
        obtain ⟨c2, hbc⟩ := byte_at s x.p (k + 2 + n) (by omega)
        have hbdc := nn_bd c2
        have hat : ((suf s (x.p + k + 2)).take 4)[n]? = some c2 := take_all_of s (x.p + k + 2) _ n c2 (by omega) (by omega) (by rw [← hbc]; congr 1; omega)
        have hxc : hx (nn c2) = true := List.all_eq_true.1 HA.out c2 (List.mem_of_getElem? hat)
        clear hat
        go_wp2_with (first | (go_at_call 69; ((with_reducible refine (peek_at lb fb s x.p _ _ (k + 2 + n) _ (hR.drewN _) ?_ ?_ hbc).mono ?_); omega; omega; rintro e w' ⟨rfl, nq, rfl⟩)) | (first | (go_at_call 67; first | ((with_reducible refine (peekOk_yes _ _ _ _ _ _ (hR.drewN _) ?_).mono ?_); omega; rintro e w' ⟨rfl, nq, rfl⟩) | ((with_reducible refine (peekOk_yes _ _ _ _ _ _ hR ?_).mono ?_); omega; rintro e w' ⟨rfl, nq, rfl⟩) | ((with_reducible refine (peekOk_no _ _ _ _ _ _ (hR.drewN _) ?_).mono ?_); omega; rintro e w' ⟨rfl, nq, rfl⟩) | ((with_reducible refine (peekOk_no _ _ _ _ _ _ hR ?_).mono ?_); omega; rintro e w' ⟨rfl, nq, rfl⟩)) | (go_at_call 69; first | ((with_reducible refine (peek_any _ _ _ _ _ _ _ (hR.drewN _) ⟨?_, ?_, by assumption⟩).mono ?_); omega; omega; rintro e w' ⟨rfl, nq, rfl⟩) | ((with_reducible refine (peek_any _ _ _ _ _ _ _ hR ⟨?_, ?_, by assumption⟩).mono ?_); omega; omega; rintro e w' ⟨rfl, nq, rfl⟩)) | (go_at_call 95; refine (isHex_any _ _).mono ?_; rintro e w' ⟨rfl, rfl⟩)))
        go_roundw
        case rel => exact ⟨n + 1, _, by go_num, by omega, rfl, rfl⟩
        case measure => simp [intOf]; omega
      case neg =>
        obtain rfl : n = 4 := by omega
        go_wp2_with fail
        refine (slice_int lb fb s x.p _ _ (k + 2) (k + 2 + 4) t2 _ (hR.drewN _) (by omega) (by omega) (by omega) (by omega) (by omega) HT2.out).mono ?_
        rintro e w' ⟨rfl, nq, rfl⟩
        go_wp2_with fail
        refine (HP.out _ (HH.out.drewN _).env'.tabs.syn).mono ?_
        rintro e w1 ⟨rfl, hbel⟩
        have HH1 := Lib.hid (HH.out.next ((HH.out.drewN _).frm.step (Frm.ofBelow hbel [])) ((HH.out.drewN _).own.below hbel) HH.out.qs)
        clear hbel HP
        rcases hsc2 with ⟨hsc2, hsc3⟩ | hsc2
        all_goals
          have hR1 := HH1.out.st'.rd
          go_wp2_with fail
          have c0 : w1.cell? ⟨lb, 0, none⟩ = some (.pointer (some ⟨fb, 0, none⟩)) := hR1.c0
          have c9 : w1.cell? ⟨lb, 9, none⟩ = some (.int .i64 (x.p : Int)) := hR1.c9
          refine region_tail 16 (by kernel_rfl) (by kernel_rfl) fun W hW => ?_
          have HW := Lib.hid (show QCtx lb fb fp s x q nm _ _ ident false z w _ _ _ _ W from hW ▸ HH1.out.drewN 1)
          clear hW
          have c9d : W.cell? ⟨lb, 9, none⟩ = some (.int .i64 (x.p : Int)) := HW.out.st'.rd.c9
          simp only [List.take_succ_cons, List.take_zero, List.drop_succ_cons, List.drop_zero]
          repeat still_step
          refine wpStill_nil ?_
          go_wp2_with fail
          refine (panicfAt_int lb fb fp s x _ _ (x.p + k) (x.p + k + 2 + 4) _ _ hsz (by omega) (by omega) (by omega) (by omega) HW.out.st' HW.out.env').mono ?_
          rintro e w6 ⟨eb, rfl, hea, hl, hf⟩
          go_wp2_with fail
          exact ⟨rfl, .inr (.inl ⟨k, HB.out, rfl, _, rfl, hea, Nat.le_trans HW.out.frm.size hl, (HW.out.frm.mono (by simp)).step (hf.mono (by simp))⟩)⟩
  case inr =>
    rw [hd] at hb1
    subst hNN
    clear hd hbdd
    have hlt3 : (x.p : Int) + (k : Int) < s.size := by omega
    obtain ⟨t, ht⟩ : ∃ t, t = s.extract (x.p + k) (min (x.p + (k + q.size)) s.size) := ⟨_, rfl⟩
    have htq : (t.toList == q.toList) = false := by rw [ht, delim_eq]; exact hcl
    have HT := Lib.hid ht
    have HC := Lib.hid hcl
    have HU := Lib.hid hsuf
    clear ht hcl hsuf
    go_wp2_with (first | (go_at_call 67; first | ((with_reducible refine (peekOk_yes _ _ _ _ _ _ (hR.drewN _) ?_).mono ?_); omega; rintro e w' ⟨rfl, nq, rfl⟩) | ((with_reducible refine (peekOk_yes _ _ _ _ _ _ hR ?_).mono ?_); omega; rintro e w' ⟨rfl, nq, rfl⟩) | ((with_reducible refine (peekOk_no _ _ _ _ _ _ (hR.drewN _) ?_).mono ?_); omega; rintro e w' ⟨rfl, nq, rfl⟩) | ((with_reducible refine (peekOk_no _ _ _ _ _ _ hR ?_).mono ?_); omega; rintro e w' ⟨rfl, nq, rfl⟩)))
    refine (slice_int lb fb s x.p _ _ k (k + q.size) t _ (hR.drewN _) (by omega) (by omega) (by omega) (by omega) (by omega) HT.out).mono ?_
    rintro e w' ⟨rfl, nq, rfl⟩
    go_wp2_with (first | (go_at_call 69; first | ((with_reducible refine (peek_any _ _ _ _ _ _ _ (hR.drewN _) ⟨?_, ?_, by assumption⟩).mono ?_); omega; omega; rintro e w' ⟨rfl, nq, rfl⟩) | ((with_reducible refine (peek_any _ _ _ _ _ _ _ hR ⟨?_, ?_, by assumption⟩).mono ?_); omega; omega; rintro e w' ⟨rfl, nq, rfl⟩)) | (go_at_call 67; first | ((with_reducible refine (peekOk_yes _ _ _ _ _ _ (hR.drewN _) ?_).mono ?_); omega; rintro e w' ⟨rfl, nq, rfl⟩) | ((with_reducible refine (peekOk_yes _ _ _ _ _ _ hR ?_).mono ?_); omega; rintro e w' ⟨rfl, nq, rfl⟩) | ((with_reducible refine (peekOk_no _ _ _ _ _ _ (hR.drewN _) ?_).mono ?_); omega; rintro e w' ⟨rfl, nq, rfl⟩) | ((with_reducible refine (peekOk_no _ _ _ _ _ _ hR ?_).mono ?_); omega; rintro e w' ⟨rfl, nq, rfl⟩)))
    go_loopw [23, 16] (fun j h wx => ∃ (n m : Nat), j = .int .i64 n ∧ n ≤ 8 ∧ h = .bool he ∧ wx = wr.drewN m) (fun j _ _ => 8 - (intOf j).toNat)
    case atStart => exact ⟨0, _, rfl, by omega, rfl, rfl⟩
    case round =>
      obtain ⟨n, m, rfl, hn, rfl, rfl⟩ := hrel
      by_cases hlt9 : n < 8
      case pos =>
        obtain ⟨c2, hbc⟩ := byte_at s x.p (k + 2 + n) (by omega)
        have hbdc := nn_bd c2
        have hat : ((suf s (x.p + k + 2)).take 8)[n]? = some c2 := take_all_of s (x.p + k + 2) _ n c2 (by omega) (by omega) (by rw [← hbc]; congr 1; omega)
        have hxc : hx (nn c2) = true := List.all_eq_true.1 HA.out c2 (List.mem_of_getElem? hat)
        clear hat
        go_wp2_with (first | (go_at_call 69; ((with_reducible refine (peek_at lb fb s x.p _ _ (k + 2 + n) _ (hR.drewN _) ?_ ?_ hbc).mono ?_); omega; omega; rintro e w' ⟨rfl, nq, rfl⟩)) | (first | (go_at_call 67; first | ((with_reducible refine (peekOk_yes _ _ _ _ _ _ (hR.drewN _) ?_).mono ?_); omega; rintro e w' ⟨rfl, nq, rfl⟩) | ((with_reducible refine (peekOk_yes _ _ _ _ _ _ hR ?_).mono ?_); omega; rintro e w' ⟨rfl, nq, rfl⟩) | ((with_reducible refine (peekOk_no _ _ _ _ _ _ (hR.drewN _) ?_).mono ?_); omega; rintro e w' ⟨rfl, nq, rfl⟩) | ((with_reducible refine (peekOk_no _ _ _ _ _ _ hR ?_).mono ?_); omega; rintro e w' ⟨rfl, nq, rfl⟩)) | (go_at_call 69; first | ((with_reducible refine (peek_any _ _ _ _ _ _ _ (hR.drewN _) ⟨?_, ?_, by assumption⟩).mono ?_); omega; omega; rintro e w' ⟨rfl, nq, rfl⟩) | ((with_reducible refine (peek_any _ _ _ _ _ _ _ hR ⟨?_, ?_, by assumption⟩).mono ?_); omega; omega; rintro e w' ⟨rfl, nq, rfl⟩)) | (go_at_call 95; refine (isHex_any _ _).mono ?_; rintro e w' ⟨rfl, rfl⟩)))
        go_roundw
        case rel => exact ⟨n + 1, _, by go_num, by omega, rfl, rfl⟩
        case measure => simp [intOf]; omega
      case neg =>
        obtain rfl : n = 8 := by omega
        go_wp2_with fail
        refine (slice_int lb fb s x.p _ _ (k + 2) (k + 2 + 8) t2 _ (hR.drewN _) (by omega) (by omega) (by omega) (by omega) (by omega) HT2.out).mono ?_
        rintro e w' ⟨rfl, nq, rfl⟩
        go_wp2_with fail
        refine (HP.out _ (HH.out.drewN _).env'.tabs.syn).mono ?_
        rintro e w1 ⟨rfl, hbel⟩
        have HH1 := Lib.hid (HH.out.next ((HH.out.drewN _).frm.step (Frm.ofBelow hbel [])) ((HH.out.drewN _).own.below hbel) HH.out.qs)
        clear hbel HP
        rcases hsc2 with ⟨hsc2, hsc3⟩ | hsc2
        all_goals
          have hR1 := HH1.out.st'.rd
          go_wp2_with fail
          have c0 : w1.cell? ⟨lb, 0, none⟩ = some (.pointer (some ⟨fb, 0, none⟩)) := hR1.c0
          have c9 : w1.cell? ⟨lb, 9, none⟩ = some (.int .i64 (x.p : Int)) := hR1.c9
          refine region_tail 16 (by kernel_rfl) (by kernel_rfl) fun W hW => ?_
          have HW := Lib.hid (show QCtx lb fb fp s x q nm _ _ ident false z w _ _ _ _ W from hW ▸ HH1.out.drewN 1)
          clear hW
          have c9d : W.cell? ⟨lb, 9, none⟩ = some (.int .i64 (x.p : Int)) := HW.out.st'.rd.c9
          simp only [List.take_succ_cons, List.take_zero, List.drop_succ_cons, List.drop_zero]
          repeat still_step
          refine wpStill_nil ?_
          go_wp2_with fail
          refine (panicfAt_int lb fb fp s x _ _ (x.p + k) (x.p + k + 2 + 8) _ _ hsz (by omega) (by omega) (by omega) (by omega) HW.out.st' HW.out.env').mono ?_
          rintro e w6 ⟨eb, rfl, hea, hl, hf⟩
          go_wp2_with fail
          exact ⟨rfl, .inr (.inl ⟨k, HB.out, rfl, _, rfl, hea, Nat.le_trans HW.out.frm.size hl, (HW.out.frm.mono (by simp)).step (hf.mono (by simp))⟩)⟩

end Go.Proofs.YtngofbhlhcalpaaGreatDoor.lexer
