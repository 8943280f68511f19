/-
  Lemmas and contracts of this claim, texts QuoG3. No statement of the seat is proved here.
-/
import Derived.Test.YtngofbhlhcalpaaGreatDoorZ05
namespace Go.Proofs.YtngofbhlhcalpaaGreatDoor.lexer
open Go.RowKit Go.Proofs.YtngofbhlhcalpaaGreatDoor.gen
open Go.Proofs.YtngofbhlhcalpaaGreatDoor.upper (bv bv_len)



set_option maxRecDepth 100000 in
set_option maxHeartbeats 16000000 in
theorem round_hexFault
    (lb fb : Nat) (fp s : ByteArray) (x : LX) (q nm : ByteArray) (raw uni ident np : Bool) (z : List UInt8 × Nat × QEnd) (w : World) (k : Nat) (l : List UInt8) (he : Bool) (v : Value) (wr : World) (U : Nat → Value)
        (H : QCtx lb fb fp s x q nm raw uni ident np z w k l he v wr)
    (c d : UInt8) (hb : byt s ((x.p : Int) + (k : Int)) = nn c) (h92 : nn c = 92) (hbd : byt s ((x.p + k + 1 : Nat) : Int) = nn d) (hsuf : suf s (x.p + k) = c :: d :: suf s (x.p + k + 2)) (_hlt : x.p + k + 1 < s.size) (hcl : ((suf s (x.p + k)).take q.data.toList.length == q.data.toList) = false)
    (a b : UInt8) (hba : byt s ((x.p + (k + 2) : Nat) : Int) = nn a) (hbb : byt s ((x.p + (k + 3) : Nat) : Int) = nn b) (hsuf2 : suf s (x.p + k + 2) = a :: b :: suf s (x.p + k + 4)) (hlt4 : x.p + k + 4 ≤ s.size)
    (hraw : raw = false) (hnp : np = false) (hd : nn d = 120 ∨ nn d = 88) (hab : (hx (nn a) && hx (nn b)) = false) :
    Code.wp Tryz.prog qBody (QPost lb fb fp s x q nm raw uni ident np z w k) ⟨QFr lb q nm raw uni np (.int .i64 k) v (.bool he) (uls U), []⟩ wr := by
  have hsz := H.size
  have hsz2 : s.size ≤ 2147483647 := by omega
  have hki := H.qs.hi
  have hQk := H.qs.lo
  obtain ⟨hqp, hq3⟩ := H.qpos
  have hlk := H.qs.len
  have hR := H.st'.rd
  have HH := Lib.hid H
  clear H
  unfold QFr uls
  conv => arg 2; whnf
  subst hraw hnp
  skip
  have HQ := Lib.hid (qr_other (uni := uni) hsuf hcl h92 (by
    rw [hsuf2]
    rcases hd with hd | hd <;> simp [esc, simple, hd, hexN, List.all_cons] <;> simpa using hab))
  have HB := Lib.hid (bad_esc HH.out HQ.out)
  have hbda := nn_bd a
  have hbdb := nn_bd b
  have hb1 : byt s ((x.p : Int) + ((k : Int) + 1)) = nn d := by rw [← hbd, show ((x.p : Int) + ((k : Int) + 1)) = (((x.p + k + 1 : Nat) : Int)) from by omega]
  have hbdd := nn_bd d
  have hb92 : byt s ((x.p : Int) + (k : Int)) = 92 := by rw [hb, h92]
  clear hb hbd
  have e2 : IntKind.i64.wrap ((x.p : Int) + ((k : Int) + 1 + 1)) = (x.p : Int) + (k : Int) + 2 := by rw [IntWalk.i64_in _ (by omega)]; omega
  have e3 : IntKind.i64.wrap ((x.p : Int) + (k : Int) + 2 - 2) = (x.p : Int) + (k : Int) := by rw [IntWalk.i64_in _ (by omega)]; omega
  have e4 : IntKind.i64.wrap ((x.p : Int) + (k : Int) + 2 + 0) = (x.p : Int) + (k : Int) + 2 := by rw [IntWalk.i64_in _ (by omega)]; omega
  have e5 : IntKind.i64.wrap ((x.p : Int) + (k : Int) + 2 + 1) = (x.p : Int) + (k : Int) + 3 := by rw [IntWalk.i64_in _ (by omega)]; omega
  have e6 : IntKind.i64.wrap ((x.p : Int) + (k : Int) + 3 + 1) = (x.p : Int) + (k : Int) + 4 := by rw [IntWalk.i64_in _ (by omega)]; omega
  clear h92 hsuf2
  rcases hd with hd | hd
  all_goals
    rw [hd] at hb1
    clear hd hbdd
    have hlt3 : (x.p : Int) + (k : Int) < s.size := by omega
    obtain ⟨t, ht⟩ : ∃ t, t = s.extract (x.p + k) (min (x.p + (k + q.size)) s.size) := ⟨_, rfl⟩
    have htq : (t.toList == q.toList) = false := by rw [ht, delim_eq]; exact hcl
    have HT := Lib.hid ht
    have HC := Lib.hid hcl
    have HU := Lib.hid hsuf
    clear ht hcl hsuf
    go_wp2_with (first | (go_at_call 67; first | ((with_reducible refine (peekOk_yes _ _ _ _ _ _ (hR.drewN _) ?_).mono ?_); omega; rintro e w' ⟨rfl, nq, rfl⟩) | ((with_reducible refine (peekOk_yes _ _ _ _ _ _ hR ?_).mono ?_); omega; rintro e w' ⟨rfl, nq, rfl⟩) | ((with_reducible refine (peekOk_no _ _ _ _ _ _ (hR.drewN _) ?_).mono ?_); omega; rintro e w' ⟨rfl, nq, rfl⟩) | ((with_reducible refine (peekOk_no _ _ _ _ _ _ hR ?_).mono ?_); omega; rintro e w' ⟨rfl, nq, rfl⟩)))
    refine (slice_int lb fb s x.p _ _ k (k + q.size) t _ (hR.drewN _) (by omega) (by omega) (by omega) (by omega) (by omega) HT.out).mono ?_
    rintro e w' ⟨rfl, nq, rfl⟩
    go_wp2_with (first | (go_at_call 69; first | ((with_reducible refine (peek_any _ _ _ _ _ _ _ (hR.drewN _) ⟨?_, ?_, by assumption⟩).mono ?_); omega; omega; rintro e w' ⟨rfl, nq, rfl⟩) | ((with_reducible refine (peek_any _ _ _ _ _ _ _ hR ⟨?_, ?_, by assumption⟩).mono ?_); omega; omega; rintro e w' ⟨rfl, nq, rfl⟩)) | (go_at_call 67; first | ((with_reducible refine (peekOk_yes _ _ _ _ _ _ (hR.drewN _) ?_).mono ?_); omega; rintro e w' ⟨rfl, nq, rfl⟩) | ((with_reducible refine (peekOk_yes _ _ _ _ _ _ hR ?_).mono ?_); omega; rintro e w' ⟨rfl, nq, rfl⟩) | ((with_reducible refine (peekOk_no _ _ _ _ _ _ (hR.drewN _) ?_).mono ?_); omega; rintro e w' ⟨rfl, nq, rfl⟩) | ((with_reducible refine (peekOk_no _ _ _ _ _ _ hR ?_).mono ?_); omega; rintro e w' ⟨rfl, nq, rfl⟩)))
    go_loopw [184, 16] (fun j h wx => ∃ (n : Int) (m : Nat), j = .int .i64 n ∧ 0 ≤ n ∧ n ≤ 1 ∧ (h = .bool he ∧ (n = 1 → hx (nn a) = true)) ∧ wx = wr.drewN m) (fun j _ _ => 2 - (intOf j).toNat)
    case atStart => exact ⟨0, _, rfl, by omega, by omega, ⟨rfl, by omega⟩, rfl⟩
    case round =>
      obtain ⟨n, m, rfl, hn0, hn, ⟨rfl, hn1⟩, rfl⟩ := hrel
      rcases (show n = 0 ∨ n = 1 by omega) with rfl | rfl
      case inl =>
        clear hn1
        cases ha : hx (nn a) with
        | true =>
          go_wp2_with (first | (go_at_call 69; first | ((with_reducible refine (peek_at lb fb s x.p _ _ (k + 2) _ (hR.drewN _) ?_ ?_ hba).mono ?_); omega; omega; rintro e w' ⟨rfl, nq, rfl⟩) | ((with_reducible refine (peek_at lb fb s x.p _ _ (k + 3) _ (hR.drewN _) ?_ ?_ hbb).mono ?_); omega; omega; rintro e w' ⟨rfl, nq, rfl⟩)) | (first | (go_at_call 67; first | ((with_reducible refine (peekOk_yes _ _ _ _ _ _ (hR.drewN _) ?_).mono ?_); omega; rintro e w' ⟨rfl, nq, rfl⟩) | ((with_reducible refine (peekOk_yes _ _ _ _ _ _ hR ?_).mono ?_); omega; rintro e w' ⟨rfl, nq, rfl⟩) | ((with_reducible refine (peekOk_no _ _ _ _ _ _ (hR.drewN _) ?_).mono ?_); omega; rintro e w' ⟨rfl, nq, rfl⟩) | ((with_reducible refine (peekOk_no _ _ _ _ _ _ hR ?_).mono ?_); omega; rintro e w' ⟨rfl, nq, rfl⟩)) | (go_at_call 95; refine (isHex_any _ _).mono ?_; rintro e w' ⟨rfl, rfl⟩)))
          all_goals
            go_roundw
            case rel => exact ⟨1, _, rfl, by omega, by omega, ⟨rfl, fun _ => by first | exact ha | trivial⟩, rfl⟩
            case measure => simp [intOf]
        | false =>
          go_wp2_with (first | (go_at_call 69; first | ((with_reducible refine (peek_at lb fb s x.p _ _ (k + 2) _ (hR.drewN _) ?_ ?_ hba).mono ?_); omega; omega; rintro e w' ⟨rfl, nq, rfl⟩) | ((with_reducible refine (peek_at lb fb s x.p _ _ (k + 3) _ (hR.drewN _) ?_ ?_ hbb).mono ?_); omega; omega; rintro e w' ⟨rfl, nq, rfl⟩)) | (first | (go_at_call 67; first | ((with_reducible refine (peekOk_yes _ _ _ _ _ _ (hR.drewN _) ?_).mono ?_); omega; rintro e w' ⟨rfl, nq, rfl⟩) | ((with_reducible refine (peekOk_yes _ _ _ _ _ _ hR ?_).mono ?_); omega; rintro e w' ⟨rfl, nq, rfl⟩) | ((with_reducible refine (peekOk_no _ _ _ _ _ _ (hR.drewN _) ?_).mono ?_); omega; rintro e w' ⟨rfl, nq, rfl⟩) | ((with_reducible refine (peekOk_no _ _ _ _ _ _ hR ?_).mono ?_); omega; rintro e w' ⟨rfl, nq, rfl⟩)) | (go_at_call 95; refine (isHex_any _ _).mono ?_; rintro e w' ⟨rfl, rfl⟩)))
          have c0 : wr.cell? ⟨lb, 0, none⟩ = some (.pointer (some ⟨fb, 0, none⟩)) := hR.c0
          have c9 : wr.cell? ⟨lb, 9, none⟩ = some (.int .i64 (x.p : Int)) := hR.c9
          refine region_tail 17 (by kernel_rfl) (by kernel_rfl) fun W hW => ?_
          have HW := Lib.hid (show QCtx lb fb fp s x q nm _ _ ident false z w _ _ _ _ W from hW ▸ (HH.out.drewN _).drewN 1)
          clear hW
          have c9d : W.cell? ⟨lb, 9, none⟩ = some (.int .i64 (x.p : Int)) := HW.out.st'.rd.c9
          simp only [List.take_succ_cons, List.take_zero, List.drop_succ_cons, List.drop_zero]
          repeat still_step
          refine wpStill_nil ?_
          go_wp2_with fail
          refine (panicfAt_int lb fb fp s x _ _ (x.p + k) (x.p + k + 3) _ _ hsz (by omega) (by omega) (by omega) (by omega) HW.out.st' HW.out.env').mono ?_
          rintro e w6 ⟨eb, rfl, hea, hl, hf⟩
          go_wp2_with fail
          exact ⟨rfl, .inr (.inl ⟨k, HB.out, rfl, _, rfl, hea, Nat.le_trans HW.out.frm.size hl, (HW.out.frm.mono (by simp)).step (hf.mono (by simp))⟩)⟩
      case inr =>
        have ha := hn1 rfl
        have hb2 : hx (nn b) = false := by rw [ha] at hab; simpa using hab
        clear hn1 hab
        go_wp2_with (first | (go_at_call 69; first | ((with_reducible refine (peek_at lb fb s x.p _ _ (k + 2) _ (hR.drewN _) ?_ ?_ hba).mono ?_); omega; omega; rintro e w' ⟨rfl, nq, rfl⟩) | ((with_reducible refine (peek_at lb fb s x.p _ _ (k + 3) _ (hR.drewN _) ?_ ?_ hbb).mono ?_); omega; omega; rintro e w' ⟨rfl, nq, rfl⟩)) | (first | (go_at_call 67; first | ((with_reducible refine (peekOk_yes _ _ _ _ _ _ (hR.drewN _) ?_).mono ?_); omega; rintro e w' ⟨rfl, nq, rfl⟩) | ((with_reducible refine (peekOk_yes _ _ _ _ _ _ hR ?_).mono ?_); omega; rintro e w' ⟨rfl, nq, rfl⟩) | ((with_reducible refine (peekOk_no _ _ _ _ _ _ (hR.drewN _) ?_).mono ?_); omega; rintro e w' ⟨rfl, nq, rfl⟩) | ((with_reducible refine (peekOk_no _ _ _ _ _ _ hR ?_).mono ?_); omega; rintro e w' ⟨rfl, nq, rfl⟩)) | (go_at_call 95; refine (isHex_any _ _).mono ?_; rintro e w' ⟨rfl, rfl⟩)))
        have c0 : wr.cell? ⟨lb, 0, none⟩ = some (.pointer (some ⟨fb, 0, none⟩)) := hR.c0
        have c9 : wr.cell? ⟨lb, 9, none⟩ = some (.int .i64 (x.p : Int)) := hR.c9
        refine region_tail 17 (by kernel_rfl) (by kernel_rfl) fun W hW => ?_
        have HW := Lib.hid (show QCtx lb fb fp s x q nm _ _ ident false z w _ _ _ _ W from hW ▸ (HH.out.drewN _).drewN 1)
        clear hW
        have c9d : W.cell? ⟨lb, 9, none⟩ = some (.int .i64 (x.p : Int)) := HW.out.st'.rd.c9
        simp only [List.take_succ_cons, List.take_zero, List.drop_succ_cons, List.drop_zero]
        repeat still_step
        refine wpStill_nil ?_
        go_wp2_with fail
        refine (panicfAt_int lb fb fp s x _ _ (x.p + k) (x.p + k + 4) _ _ hsz (by omega) (by omega) (by omega) (by omega) HW.out.st' HW.out.env').mono ?_
        rintro e w6 ⟨eb, rfl, hea, hl, hf⟩
        go_wp2_with fail
        exact ⟨rfl, .inr (.inl ⟨k, HB.out, rfl, _, rfl, hea, Nat.le_trans HW.out.frm.size hl, (HW.out.frm.mono (by simp)).step (hf.mono (by simp))⟩)⟩

end Go.Proofs.YtngofbhlhcalpaaGreatDoor.lexer
