/-
  Lemmas and contracts of this claim, texts QuoE, QuoF. No statement of the seat is proved here.
-/
import Derived.Test.YtngofbhlhcalpaaGreatDoorZ03
namespace Go.Proofs.YtngofbhlhcalpaaGreatDoor.lexer
open Go.RowKit Go.Proofs.YtngofbhlhcalpaaGreatDoor.gen
open Go.Proofs.YtngofbhlhcalpaaGreatDoor.upper (bv bv_len)


set_option maxRecDepth 100000 in
set_option maxHeartbeats 4000000 in
theorem round_raw
    (lb fb : Nat) (fp s : ByteArray) (x : LX) (q nm : ByteArray) (raw uni ident np : Bool) (z : List UInt8 × Nat × QEnd) (w : World) (k : Nat) (l : List UInt8) (he : Bool) (v : Value) (wr : World) (U : Nat → Value)
        (H : QCtx lb fb fp s x q nm raw uni ident np z w k l he v wr)
    (c d : UInt8) (hb : byt s ((x.p : Int) + (k : Int)) = nn c) (h92 : nn c = 92) (hbd : byt s ((x.p + k + 1 : Nat) : Int) = nn d) (hsuf : suf s (x.p + k) = c :: d :: suf s (x.p + k + 2)) (hlt : x.p + k + 1 < s.size) (hcl : ((suf s (x.p + k)).take q.data.toList.length == q.data.toList) = false)
    (hraw : raw = true) :
    Code.wp Tryz.prog qBody (QPost lb fb fp s x q nm raw uni ident np z w k) ⟨QFr lb q nm raw uni np (.int .i64 k) v (.bool he) (uls U), []⟩ wr := by
  have hsz := H.size
  have hsz2 : s.size ≤ 2147483647 := by omega
  have hki := H.qs.hi
  have hQk := H.qs.lo
  obtain ⟨hqp, hq3⟩ := H.qpos
  have hlk := H.qs.len
  have hR := H.st'.rd
  have HH := Lib.hid H
  clear H
  unfold QFr uls
  conv => arg 2; whnf
  subst hraw
  have hqr : qr q.data.toList true uni (suf s (x.p + k)) = ([c, d] ++ (qr q.data.toList true uni (suf s (x.p + (k + 2)))).1, (qr q.data.toList true uni (suf s (x.p + (k + 2)))).2.1 + 2, (qr q.data.toList true uni (suf s (x.p + (k + 2)))).2.2) := by
    rw [hsuf, qr_raw _ _ _ _ _ (by rw [← hsuf]; exact hcl) h92]; rfl
  have HQ := Lib.hid hqr
  have hy : (92 : Int) = nn c := h92.symm
  have HY := Lib.hid hy
  clear hqr hy
  have hb1 : byt s ((x.p : Int) + ((k : Int) + 1)) = nn d := by rw [← hbd, show ((x.p : Int) + ((k : Int) + 1)) = (((x.p + k + 1 : Nat) : Int)) from by omega]
  have hbdd := nn_bd d
  have hb92 : byt s ((x.p : Int) + (k : Int)) = 92 := by rw [hb, h92]
  clear hb hbd
  clear h92
  have hlt3 : (x.p : Int) + (k : Int) < s.size := by omega
  obtain ⟨t, ht⟩ : ∃ t, t = s.extract (x.p + k) (min (x.p + (k + q.size)) s.size) := ⟨_, rfl⟩
  have htq : (t.toList == q.toList) = false := by rw [ht, delim_eq]; exact hcl
  have HT := Lib.hid ht
  have HC := Lib.hid hcl
  have HU := Lib.hid hsuf
  clear ht hcl hsuf
  go_wp2_with (first | (go_at_call 67; first | ((with_reducible refine (peekOk_yes _ _ _ _ _ _ (hR.drewN _) ?_).mono ?_); omega; rintro e w' ⟨rfl, nq, rfl⟩) | ((with_reducible refine (peekOk_yes _ _ _ _ _ _ hR ?_).mono ?_); omega; rintro e w' ⟨rfl, nq, rfl⟩) | ((with_reducible refine (peekOk_no _ _ _ _ _ _ (hR.drewN _) ?_).mono ?_); omega; rintro e w' ⟨rfl, nq, rfl⟩) | ((with_reducible refine (peekOk_no _ _ _ _ _ _ hR ?_).mono ?_); omega; rintro e w' ⟨rfl, nq, rfl⟩)))
  refine (slice_int lb fb s x.p _ _ k (k + q.size) t _ (hR.drewN _) (by omega) (by omega) (by omega) (by omega) (by omega) HT.out).mono ?_
  rintro e w' ⟨rfl, nq, rfl⟩
  go_wp2_with (first | (at_builtin; refine app_two ((HH.out.drewN _).frm) ((HH.out.drewN _).own) rfl (.tmp 115) (.tmp 117) rfl rfl _ _ c d HY.out rfl rfl (by omega) ?_) | (first | (go_at_call 69; first | ((with_reducible refine (peek_any _ _ _ _ _ _ _ (hR.drewN _) ⟨?_, ?_, by assumption⟩).mono ?_); omega; omega; rintro e w' ⟨rfl, nq, rfl⟩) | ((with_reducible refine (peek_any _ _ _ _ _ _ _ hR ⟨?_, ?_, by assumption⟩).mono ?_); omega; omega; rintro e w' ⟨rfl, nq, rfl⟩)) | (go_at_call 67; first | ((with_reducible refine (peekOk_yes _ _ _ _ _ _ (hR.drewN _) ?_).mono ?_); omega; rintro e w' ⟨rfl, nq, rfl⟩) | ((with_reducible refine (peekOk_yes _ _ _ _ _ _ hR ?_).mono ?_); omega; rintro e w' ⟨rfl, nq, rfl⟩) | ((with_reducible refine (peekOk_no _ _ _ _ _ _ (hR.drewN _) ?_).mono ?_); omega; rintro e w' ⟨rfl, nq, rfl⟩) | ((with_reducible refine (peekOk_no _ _ _ _ _ _ hR ?_).mono ?_); omega; rintro e w' ⟨rfl, nq, rfl⟩))))
  intro g' cap' w1 hO hF
  go_wp2_with fail
  exact QPost.next rfl (by omega) (QCtx.next HH.out hF hO (HH.out.qs.on 2 [c, d] (by omega) (by simp) HQ.out)) (by omega)

theorem esc_simple (uni : Bool) (d b : UInt8) (r : List UInt8) (h : simple d = some b) : esc uni (d :: r) = some ([b], 2) := by unfold esc; simp [h]

theorem qr_simple {s : ByteArray} {p k : Nat} {Q : List UInt8} {uni : Bool} {c d b : UInt8} (hsuf : suf s (p + k) = c :: d :: suf s (p + k + 2)) (hcl : ((suf s (p + k)).take Q.length == Q) = false) (h92 : nn c = 92) (h : simple d = some b) :
    qr Q false uni (suf s (p + k)) = ([b] ++ (qr Q false uni (suf s (p + (k + 2)))).1, (qr Q false uni (suf s (p + (k + 2)))).2.1 + 2, (qr Q false uni (suf s (p + (k + 2)))).2.2) := by
  rw [hsuf, qr_esc _ _ _ _ [b] 2 (by rw [← hsuf]; exact hcl) h92 (esc_simple _ _ _ _ h)]
  rfl

set_option maxRecDepth 100000 in
set_option maxHeartbeats 4000000 in
theorem round_simple97
    (lb fb : Nat) (fp s : ByteArray) (x : LX) (q nm : ByteArray) (raw uni ident np : Bool) (z : List UInt8 × Nat × QEnd) (w : World) (k : Nat) (l : List UInt8) (he : Bool) (v : Value) (wr : World) (U : Nat → Value)
        (H : QCtx lb fb fp s x q nm raw uni ident np z w k l he v wr)
    (c d : UInt8) (hb : byt s ((x.p : Int) + (k : Int)) = nn c) (h92 : nn c = 92) (hbd : byt s ((x.p + k + 1 : Nat) : Int) = nn d) (hsuf : suf s (x.p + k) = c :: d :: suf s (x.p + k + 2)) (hlt : x.p + k + 1 < s.size) (hcl : ((suf s (x.p + k)).take q.data.toList.length == q.data.toList) = false)
    (hraw : raw = false) (hd : nn d = 97) :
    Code.wp Tryz.prog qBody (QPost lb fb fp s x q nm raw uni ident np z w k) ⟨QFr lb q nm raw uni np (.int .i64 k) v (.bool he) (uls U), []⟩ wr := by
  have hsz := H.size
  have hsz2 : s.size ≤ 2147483647 := by omega
  have hki := H.qs.hi
  have hQk := H.qs.lo
  obtain ⟨hqp, hq3⟩ := H.qpos
  have hlk := H.qs.len
  have hR := H.st'.rd
  have HH := Lib.hid H
  clear H
  unfold QFr uls
  conv => arg 2; whnf
  subst hraw
  have HQ := Lib.hid (qr_simple (uni := uni) (b := 7) hsuf hcl h92 (by simp [simple, hd]))
  have hb1 : byt s ((x.p : Int) + ((k : Int) + 1)) = nn d := by rw [← hbd, show ((x.p : Int) + ((k : Int) + 1)) = (((x.p + k + 1 : Nat) : Int)) from by omega]
  have hbdd := nn_bd d
  have hb92 : byt s ((x.p : Int) + (k : Int)) = 92 := by rw [hb, h92]
  clear hb hbd
  rw [hd] at hb1
  clear h92 hd hbdd
  have hlt3 : (x.p : Int) + (k : Int) < s.size := by omega
  obtain ⟨t, ht⟩ : ∃ t, t = s.extract (x.p + k) (min (x.p + (k + q.size)) s.size) := ⟨_, rfl⟩
  have htq : (t.toList == q.toList) = false := by rw [ht, delim_eq]; exact hcl
  have HT := Lib.hid ht
  have HC := Lib.hid hcl
  have HU := Lib.hid hsuf
  clear ht hcl hsuf
  go_wp2_with (first | (go_at_call 67; first | ((with_reducible refine (peekOk_yes _ _ _ _ _ _ (hR.drewN _) ?_).mono ?_); omega; rintro e w' ⟨rfl, nq, rfl⟩) | ((with_reducible refine (peekOk_yes _ _ _ _ _ _ hR ?_).mono ?_); omega; rintro e w' ⟨rfl, nq, rfl⟩) | ((with_reducible refine (peekOk_no _ _ _ _ _ _ (hR.drewN _) ?_).mono ?_); omega; rintro e w' ⟨rfl, nq, rfl⟩) | ((with_reducible refine (peekOk_no _ _ _ _ _ _ hR ?_).mono ?_); omega; rintro e w' ⟨rfl, nq, rfl⟩)))
  refine (slice_int lb fb s x.p _ _ k (k + q.size) t _ (hR.drewN _) (by omega) (by omega) (by omega) (by omega) (by omega) HT.out).mono ?_
  rintro e w' ⟨rfl, nq, rfl⟩
  go_wp2_with (first | (at_builtin; refine app_one ((HH.out.drewN _).frm) ((HH.out.drewN _).own) rfl (.tmp 138) (.tmp 139) rfl rfl _ 7 rfl rfl (by omega) ?_) | (first | (go_at_call 69; first | ((with_reducible refine (peek_any _ _ _ _ _ _ _ (hR.drewN _) ⟨?_, ?_, by assumption⟩).mono ?_); omega; omega; rintro e w' ⟨rfl, nq, rfl⟩) | ((with_reducible refine (peek_any _ _ _ _ _ _ _ hR ⟨?_, ?_, by assumption⟩).mono ?_); omega; omega; rintro e w' ⟨rfl, nq, rfl⟩)) | (go_at_call 67; first | ((with_reducible refine (peekOk_yes _ _ _ _ _ _ (hR.drewN _) ?_).mono ?_); omega; rintro e w' ⟨rfl, nq, rfl⟩) | ((with_reducible refine (peekOk_yes _ _ _ _ _ _ hR ?_).mono ?_); omega; rintro e w' ⟨rfl, nq, rfl⟩) | ((with_reducible refine (peekOk_no _ _ _ _ _ _ (hR.drewN _) ?_).mono ?_); omega; rintro e w' ⟨rfl, nq, rfl⟩) | ((with_reducible refine (peekOk_no _ _ _ _ _ _ hR ?_).mono ?_); omega; rintro e w' ⟨rfl, nq, rfl⟩))))
  intro g' cap' w1 hO hF
  go_wp2_with fail
  exact QPost.next rfl (by omega) (QCtx.next HH.out hF hO (HH.out.qs.on 2 [7] (by omega) (by simp) HQ.out)) (by omega)

set_option maxRecDepth 100000 in
set_option maxHeartbeats 4000000 in
theorem round_simple98
    (lb fb : Nat) (fp s : ByteArray) (x : LX) (q nm : ByteArray) (raw uni ident np : Bool) (z : List UInt8 × Nat × QEnd) (w : World) (k : Nat) (l : List UInt8) (he : Bool) (v : Value) (wr : World) (U : Nat → Value)
        (H : QCtx lb fb fp s x q nm raw uni ident np z w k l he v wr)
    (c d : UInt8) (hb : byt s ((x.p : Int) + (k : Int)) = nn c) (h92 : nn c = 92) (hbd : byt s ((x.p + k + 1 : Nat) : Int) = nn d) (hsuf : suf s (x.p + k) = c :: d :: suf s (x.p + k + 2)) (hlt : x.p + k + 1 < s.size) (hcl : ((suf s (x.p + k)).take q.data.toList.length == q.data.toList) = false)
    (hraw : raw = false) (hd : nn d = 98) :
    Code.wp Tryz.prog qBody (QPost lb fb fp s x q nm raw uni ident np z w k) ⟨QFr lb q nm raw uni np (.int .i64 k) v (.bool he) (uls U), []⟩ wr := by
  have hsz := H.size
  have hsz2 : s.size ≤ 2147483647 := by omega
  have hki := H.qs.hi
  have hQk := H.qs.lo
  obtain ⟨hqp, hq3⟩ := H.qpos
  have hlk := H.qs.len
  have hR := H.st'.rd
  have HH := Lib.hid H
  clear H
  unfold QFr uls
  conv => arg 2; whnf
  subst hraw
  have HQ := Lib.hid (qr_simple (uni := uni) (b := 8) hsuf hcl h92 (by simp [simple, hd]))
  have hb1 : byt s ((x.p : Int) + ((k : Int) + 1)) = nn d := by rw [← hbd, show ((x.p : Int) + ((k : Int) + 1)) = (((x.p + k + 1 : Nat) : Int)) from by omega]
  have hbdd := nn_bd d
  have hb92 : byt s ((x.p : Int) + (k : Int)) = 92 := by rw [hb, h92]
  clear hb hbd
  rw [hd] at hb1
  clear h92 hd hbdd
  have hlt3 : (x.p : Int) + (k : Int) < s.size := by omega
  obtain ⟨t, ht⟩ : ∃ t, t = s.extract (x.p + k) (min (x.p + (k + q.size)) s.size) := ⟨_, rfl⟩
  have htq : (t.toList == q.toList) = false := by rw [ht, delim_eq]; exact hcl
  have HT := Lib.hid ht
  have HC := Lib.hid hcl
  have HU := Lib.hid hsuf
  clear ht hcl hsuf
  go_wp2_with (first | (go_at_call 67; first | ((with_reducible refine (peekOk_yes _ _ _ _ _ _ (hR.drewN _) ?_).mono ?_); omega; rintro e w' ⟨rfl, nq, rfl⟩) | ((with_reducible refine (peekOk_yes _ _ _ _ _ _ hR ?_).mono ?_); omega; rintro e w' ⟨rfl, nq, rfl⟩) | ((with_reducible refine (peekOk_no _ _ _ _ _ _ (hR.drewN _) ?_).mono ?_); omega; rintro e w' ⟨rfl, nq, rfl⟩) | ((with_reducible refine (peekOk_no _ _ _ _ _ _ hR ?_).mono ?_); omega; rintro e w' ⟨rfl, nq, rfl⟩)))
  refine (slice_int lb fb s x.p _ _ k (k + q.size) t _ (hR.drewN _) (by omega) (by omega) (by omega) (by omega) (by omega) HT.out).mono ?_
  rintro e w' ⟨rfl, nq, rfl⟩
  go_wp2_with (first | (at_builtin; refine app_one ((HH.out.drewN _).frm) ((HH.out.drewN _).own) rfl (.tmp 143) (.tmp 144) rfl rfl _ 8 rfl rfl (by omega) ?_) | (first | (go_at_call 69; first | ((with_reducible refine (peek_any _ _ _ _ _ _ _ (hR.drewN _) ⟨?_, ?_, by assumption⟩).mono ?_); omega; omega; rintro e w' ⟨rfl, nq, rfl⟩) | ((with_reducible refine (peek_any _ _ _ _ _ _ _ hR ⟨?_, ?_, by assumption⟩).mono ?_); omega; omega; rintro e w' ⟨rfl, nq, rfl⟩)) | (go_at_call 67; first | ((with_reducible refine (peekOk_yes _ _ _ _ _ _ (hR.drewN _) ?_).mono ?_); omega; rintro e w' ⟨rfl, nq, rfl⟩) | ((with_reducible refine (peekOk_yes _ _ _ _ _ _ hR ?_).mono ?_); omega; rintro e w' ⟨rfl, nq, rfl⟩) | ((with_reducible refine (peekOk_no _ _ _ _ _ _ (hR.drewN _) ?_).mono ?_); omega; rintro e w' ⟨rfl, nq, rfl⟩) | ((with_reducible refine (peekOk_no _ _ _ _ _ _ hR ?_).mono ?_); omega; rintro e w' ⟨rfl, nq, rfl⟩))))
  intro g' cap' w1 hO hF
  go_wp2_with fail
  exact QPost.next rfl (by omega) (QCtx.next HH.out hF hO (HH.out.qs.on 2 [8] (by omega) (by simp) HQ.out)) (by omega)

set_option maxRecDepth 100000 in
set_option maxHeartbeats 4000000 in
theorem round_simple102
    (lb fb : Nat) (fp s : ByteArray) (x : LX) (q nm : ByteArray) (raw uni ident np : Bool) (z : List UInt8 × Nat × QEnd) (w : World) (k : Nat) (l : List UInt8) (he : Bool) (v : Value) (wr : World) (U : Nat → Value)
        (H : QCtx lb fb fp s x q nm raw uni ident np z w k l he v wr)
    (c d : UInt8) (hb : byt s ((x.p : Int) + (k : Int)) = nn c) (h92 : nn c = 92) (hbd : byt s ((x.p + k + 1 : Nat) : Int) = nn d) (hsuf : suf s (x.p + k) = c :: d :: suf s (x.p + k + 2)) (hlt : x.p + k + 1 < s.size) (hcl : ((suf s (x.p + k)).take q.data.toList.length == q.data.toList) = false)
    (hraw : raw = false) (hd : nn d = 102) :
    Code.wp Tryz.prog qBody (QPost lb fb fp s x q nm raw uni ident np z w k) ⟨QFr lb q nm raw uni np (.int .i64 k) v (.bool he) (uls U), []⟩ wr := by
  have hsz := H.size
  have hsz2 : s.size ≤ 2147483647 := by omega
  have hki := H.qs.hi
  have hQk := H.qs.lo
  obtain ⟨hqp, hq3⟩ := H.qpos
  have hlk := H.qs.len
  have hR := H.st'.rd
  have HH := Lib.hid H
  clear H
  unfold QFr uls
  conv => arg 2; whnf
  subst hraw
  have HQ := Lib.hid (qr_simple (uni := uni) (b := 12) hsuf hcl h92 (by simp [simple, hd]))
  have hb1 : byt s ((x.p : Int) + ((k : Int) + 1)) = nn d := by rw [← hbd, show ((x.p : Int) + ((k : Int) + 1)) = (((x.p + k + 1 : Nat) : Int)) from by omega]
  have hbdd := nn_bd d
  have hb92 : byt s ((x.p : Int) + (k : Int)) = 92 := by rw [hb, h92]
  clear hb hbd
  rw [hd] at hb1
  clear h92 hd hbdd
  have hlt3 : (x.p : Int) + (k : Int) < s.size := by omega
  obtain ⟨t, ht⟩ : ∃ t, t = s.extract (x.p + k) (min (x.p + (k + q.size)) s.size) := ⟨_, rfl⟩
  have htq : (t.toList == q.toList) = false := by rw [ht, delim_eq]; exact hcl
  have HT := Lib.hid ht
  have HC := Lib.hid hcl
  have HU := Lib.hid hsuf
  clear ht hcl hsuf
  go_wp2_with (first | (go_at_call 67; first | ((with_reducible refine (peekOk_yes _ _ _ _ _ _ (hR.drewN _) ?_).mono ?_); omega; rintro e w' ⟨rfl, nq, rfl⟩) | ((with_reducible refine (peekOk_yes _ _ _ _ _ _ hR ?_).mono ?_); omega; rintro e w' ⟨rfl, nq, rfl⟩) | ((with_reducible refine (peekOk_no _ _ _ _ _ _ (hR.drewN _) ?_).mono ?_); omega; rintro e w' ⟨rfl, nq, rfl⟩) | ((with_reducible refine (peekOk_no _ _ _ _ _ _ hR ?_).mono ?_); omega; rintro e w' ⟨rfl, nq, rfl⟩)))
  refine (slice_int lb fb s x.p _ _ k (k + q.size) t _ (hR.drewN _) (by omega) (by omega) (by omega) (by omega) (by omega) HT.out).mono ?_
  rintro e w' ⟨rfl, nq, rfl⟩
  go_wp2_with (first | (at_builtin; refine app_one ((HH.out.drewN _).frm) ((HH.out.drewN _).own) rfl (.tmp 148) (.tmp 149) rfl rfl _ 12 rfl rfl (by omega) ?_) | (first | (go_at_call 69; first | ((with_reducible refine (peek_any _ _ _ _ _ _ _ (hR.drewN _) ⟨?_, ?_, by assumption⟩).mono ?_); omega; omega; rintro e w' ⟨rfl, nq, rfl⟩) | ((with_reducible refine (peek_any _ _ _ _ _ _ _ hR ⟨?_, ?_, by assumption⟩).mono ?_); omega; omega; rintro e w' ⟨rfl, nq, rfl⟩)) | (go_at_call 67; first | ((with_reducible refine (peekOk_yes _ _ _ _ _ _ (hR.drewN _) ?_).mono ?_); omega; rintro e w' ⟨rfl, nq, rfl⟩) | ((with_reducible refine (peekOk_yes _ _ _ _ _ _ hR ?_).mono ?_); omega; rintro e w' ⟨rfl, nq, rfl⟩) | ((with_reducible refine (peekOk_no _ _ _ _ _ _ (hR.drewN _) ?_).mono ?_); omega; rintro e w' ⟨rfl, nq, rfl⟩) | ((with_reducible refine (peekOk_no _ _ _ _ _ _ hR ?_).mono ?_); omega; rintro e w' ⟨rfl, nq, rfl⟩))))
  intro g' cap' w1 hO hF
  go_wp2_with fail
  exact QPost.next rfl (by omega) (QCtx.next HH.out hF hO (HH.out.qs.on 2 [12] (by omega) (by simp) HQ.out)) (by omega)

set_option maxRecDepth 100000 in
set_option maxHeartbeats 4000000 in
theorem round_simple110
    (lb fb : Nat) (fp s : ByteArray) (x : LX) (q nm : ByteArray) (raw uni ident np : Bool) (z : List UInt8 × Nat × QEnd) (w : World) (k : Nat) (l : List UInt8) (he : Bool) (v : Value) (wr : World) (U : Nat → Value)
        (H : QCtx lb fb fp s x q nm raw uni ident np z w k l he v wr)
    (c d : UInt8) (hb : byt s ((x.p : Int) + (k : Int)) = nn c) (h92 : nn c = 92) (hbd : byt s ((x.p + k + 1 : Nat) : Int) = nn d) (hsuf : suf s (x.p + k) = c :: d :: suf s (x.p + k + 2)) (hlt : x.p + k + 1 < s.size) (hcl : ((suf s (x.p + k)).take q.data.toList.length == q.data.toList) = false)
    (hraw : raw = false) (hd : nn d = 110) :
    Code.wp Tryz.prog qBody (QPost lb fb fp s x q nm raw uni ident np z w k) ⟨QFr lb q nm raw uni np (.int .i64 k) v (.bool he) (uls U), []⟩ wr := by
  have hsz := H.size
  have hsz2 : s.size ≤ 2147483647 := by omega
  have hki := H.qs.hi
  have hQk := H.qs.lo
  obtain ⟨hqp, hq3⟩ := H.qpos
  have hlk := H.qs.len
  have hR := H.st'.rd
  have HH := Lib.hid H
  clear H
  unfold QFr uls
  conv => arg 2; whnf
  subst hraw
  have HQ := Lib.hid (qr_simple (uni := uni) (b := 10) hsuf hcl h92 (by simp [simple, hd]))
  have hb1 : byt s ((x.p : Int) + ((k : Int) + 1)) = nn d := by rw [← hbd, show ((x.p : Int) + ((k : Int) + 1)) = (((x.p + k + 1 : Nat) : Int)) from by omega]
  have hbdd := nn_bd d
  have hb92 : byt s ((x.p : Int) + (k : Int)) = 92 := by rw [hb, h92]
  clear hb hbd
  rw [hd] at hb1
  clear h92 hd hbdd
  have hlt3 : (x.p : Int) + (k : Int) < s.size := by omega
  obtain ⟨t, ht⟩ : ∃ t, t = s.extract (x.p + k) (min (x.p + (k + q.size)) s.size) := ⟨_, rfl⟩
  have htq : (t.toList == q.toList) = false := by rw [ht, delim_eq]; exact hcl
  have HT := Lib.hid ht
  have HC := Lib.hid hcl
  have HU := Lib.hid hsuf
  clear ht hcl hsuf
  go_wp2_with (first | (go_at_call 67; first | ((with_reducible refine (peekOk_yes _ _ _ _ _ _ (hR.drewN _) ?_).mono ?_); omega; rintro e w' ⟨rfl, nq, rfl⟩) | ((with_reducible refine (peekOk_yes _ _ _ _ _ _ hR ?_).mono ?_); omega; rintro e w' ⟨rfl, nq, rfl⟩) | ((with_reducible refine (peekOk_no _ _ _ _ _ _ (hR.drewN _) ?_).mono ?_); omega; rintro e w' ⟨rfl, nq, rfl⟩) | ((with_reducible refine (peekOk_no _ _ _ _ _ _ hR ?_).mono ?_); omega; rintro e w' ⟨rfl, nq, rfl⟩)))
  refine (slice_int lb fb s x.p _ _ k (k + q.size) t _ (hR.drewN _) (by omega) (by omega) (by omega) (by omega) (by omega) HT.out).mono ?_
  rintro e w' ⟨rfl, nq, rfl⟩
  go_wp2_with (first | (at_builtin; refine app_one ((HH.out.drewN _).frm) ((HH.out.drewN _).own) rfl (.tmp 153) (.tmp 154) rfl rfl _ 10 rfl rfl (by omega) ?_) | (first | (go_at_call 69; first | ((with_reducible refine (peek_any _ _ _ _ _ _ _ (hR.drewN _) ⟨?_, ?_, by assumption⟩).mono ?_); omega; omega; rintro e w' ⟨rfl, nq, rfl⟩) | ((with_reducible refine (peek_any _ _ _ _ _ _ _ hR ⟨?_, ?_, by assumption⟩).mono ?_); omega; omega; rintro e w' ⟨rfl, nq, rfl⟩)) | (go_at_call 67; first | ((with_reducible refine (peekOk_yes _ _ _ _ _ _ (hR.drewN _) ?_).mono ?_); omega; rintro e w' ⟨rfl, nq, rfl⟩) | ((with_reducible refine (peekOk_yes _ _ _ _ _ _ hR ?_).mono ?_); omega; rintro e w' ⟨rfl, nq, rfl⟩) | ((with_reducible refine (peekOk_no _ _ _ _ _ _ (hR.drewN _) ?_).mono ?_); omega; rintro e w' ⟨rfl, nq, rfl⟩) | ((with_reducible refine (peekOk_no _ _ _ _ _ _ hR ?_).mono ?_); omega; rintro e w' ⟨rfl, nq, rfl⟩))))
  intro g' cap' w1 hO hF
  go_wp2_with fail
  exact QPost.next rfl (by omega) (QCtx.next HH.out hF hO (HH.out.qs.on 2 [10] (by omega) (by simp) HQ.out)) (by omega)

set_option maxRecDepth 100000 in
set_option maxHeartbeats 4000000 in
theorem round_simple114
    (lb fb : Nat) (fp s : ByteArray) (x : LX) (q nm : ByteArray) (raw uni ident np : Bool) (z : List UInt8 × Nat × QEnd) (w : World) (k : Nat) (l : List UInt8) (he : Bool) (v : Value) (wr : World) (U : Nat → Value)
        (H : QCtx lb fb fp s x q nm raw uni ident np z w k l he v wr)
    (c d : UInt8) (hb : byt s ((x.p : Int) + (k : Int)) = nn c) (h92 : nn c = 92) (hbd : byt s ((x.p + k + 1 : Nat) : Int) = nn d) (hsuf : suf s (x.p + k) = c :: d :: suf s (x.p + k + 2)) (hlt : x.p + k + 1 < s.size) (hcl : ((suf s (x.p + k)).take q.data.toList.length == q.data.toList) = false)
    (hraw : raw = false) (hd : nn d = 114) :
    Code.wp Tryz.prog qBody (QPost lb fb fp s x q nm raw uni ident np z w k) ⟨QFr lb q nm raw uni np (.int .i64 k) v (.bool he) (uls U), []⟩ wr := by
  have hsz := H.size
  have hsz2 : s.size ≤ 2147483647 := by omega
  have hki := H.qs.hi
  have hQk := H.qs.lo
  obtain ⟨hqp, hq3⟩ := H.qpos
  have hlk := H.qs.len
  have hR := H.st'.rd
  have HH := Lib.hid H
  clear H
  unfold QFr uls
  conv => arg 2; whnf
  subst hraw
  have HQ := Lib.hid (qr_simple (uni := uni) (b := 13) hsuf hcl h92 (by simp [simple, hd]))
  have hb1 : byt s ((x.p : Int) + ((k : Int) + 1)) = nn d := by rw [← hbd, show ((x.p : Int) + ((k : Int) + 1)) = (((x.p + k + 1 : Nat) : Int)) from by omega]
  have hbdd := nn_bd d
  have hb92 : byt s ((x.p : Int) + (k : Int)) = 92 := by rw [hb, h92]
  clear hb hbd
  rw [hd] at hb1
  clear h92 hd hbdd
  have hlt3 : (x.p : Int) + (k : Int) < s.size := by omega
  obtain ⟨t, ht⟩ : ∃ t, t = s.extract (x.p + k) (min (x.p + (k + q.size)) s.size) := ⟨_, rfl⟩
  have htq : (t.toList == q.toList) = false := by rw [ht, delim_eq]; exact hcl
  have HT := Lib.hid ht
  have HC := Lib.hid hcl
  have HU := Lib.hid hsuf
  clear ht hcl hsuf
  go_wp2_with (first | (go_at_call 67; first | ((with_reducible refine (peekOk_yes _ _ _ _ _ _ (hR.drewN _) ?_).mono ?_); omega; rintro e w' ⟨rfl, nq, rfl⟩) | ((with_reducible refine (peekOk_yes _ _ _ _ _ _ hR ?_).mono ?_); omega; rintro e w' ⟨rfl, nq, rfl⟩) | ((with_reducible refine (peekOk_no _ _ _ _ _ _ (hR.drewN _) ?_).mono ?_); omega; rintro e w' ⟨rfl, nq, rfl⟩) | ((with_reducible refine (peekOk_no _ _ _ _ _ _ hR ?_).mono ?_); omega; rintro e w' ⟨rfl, nq, rfl⟩)))
  refine (slice_int lb fb s x.p _ _ k (k + q.size) t _ (hR.drewN _) (by omega) (by omega) (by omega) (by omega) (by omega) HT.out).mono ?_
  rintro e w' ⟨rfl, nq, rfl⟩
  go_wp2_with (first | (at_builtin; refine app_one ((HH.out.drewN _).frm) ((HH.out.drewN _).own) rfl (.tmp 158) (.tmp 159) rfl rfl _ 13 rfl rfl (by omega) ?_) | (first | (go_at_call 69; first | ((with_reducible refine (peek_any _ _ _ _ _ _ _ (hR.drewN _) ⟨?_, ?_, by assumption⟩).mono ?_); omega; omega; rintro e w' ⟨rfl, nq, rfl⟩) | ((with_reducible refine (peek_any _ _ _ _ _ _ _ hR ⟨?_, ?_, by assumption⟩).mono ?_); omega; omega; rintro e w' ⟨rfl, nq, rfl⟩)) | (go_at_call 67; first | ((with_reducible refine (peekOk_yes _ _ _ _ _ _ (hR.drewN _) ?_).mono ?_); omega; rintro e w' ⟨rfl, nq, rfl⟩) | ((with_reducible refine (peekOk_yes _ _ _ _ _ _ hR ?_).mono ?_); omega; rintro e w' ⟨rfl, nq, rfl⟩) | ((with_reducible refine (peekOk_no _ _ _ _ _ _ (hR.drewN _) ?_).mono ?_); omega; rintro e w' ⟨rfl, nq, rfl⟩) | ((with_reducible refine (peekOk_no _ _ _ _ _ _ hR ?_).mono ?_); omega; rintro e w' ⟨rfl, nq, rfl⟩))))
  intro g' cap' w1 hO hF
  go_wp2_with fail
  exact QPost.next rfl (by omega) (QCtx.next HH.out hF hO (HH.out.qs.on 2 [13] (by omega) (by simp) HQ.out)) (by omega)

set_option maxRecDepth 100000 in
set_option maxHeartbeats 4000000 in
theorem round_simple116
    (lb fb : Nat) (fp s : ByteArray) (x : LX) (q nm : ByteArray) (raw uni ident np : Bool) (z : List UInt8 × Nat × QEnd) (w : World) (k : Nat) (l : List UInt8) (he : Bool) (v : Value) (wr : World) (U : Nat → Value)
        (H : QCtx lb fb fp s x q nm raw uni ident np z w k l he v wr)
    (c d : UInt8) (hb : byt s ((x.p : Int) + (k : Int)) = nn c) (h92 : nn c = 92) (hbd : byt s ((x.p + k + 1 : Nat) : Int) = nn d) (hsuf : suf s (x.p + k) = c :: d :: suf s (x.p + k + 2)) (hlt : x.p + k + 1 < s.size) (hcl : ((suf s (x.p + k)).take q.data.toList.length == q.data.toList) = false)
    (hraw : raw = false) (hd : nn d = 116) :
    Code.wp Tryz.prog qBody (QPost lb fb fp s x q nm raw uni ident np z w k) ⟨QFr lb q nm raw uni np (.int .i64 k) v (.bool he) (uls U), []⟩ wr := by
  have hsz := H.size
  have hsz2 : s.size ≤ 2147483647 := by omega
  have hki := H.qs.hi
  have hQk := H.qs.lo
  obtain ⟨hqp, hq3⟩ := H.qpos
  have hlk := H.qs.len
  have hR := H.st'.rd
  have HH := Lib.hid H
  clear H
  unfold QFr uls
  conv => arg 2; whnf
  subst hraw
  have HQ := Lib.hid (qr_simple (uni := uni) (b := 9) hsuf hcl h92 (by simp [simple, hd]))
  have hb1 : byt s ((x.p : Int) + ((k : Int) + 1)) = nn d := by rw [← hbd, show ((x.p : Int) + ((k : Int) + 1)) = (((x.p + k + 1 : Nat) : Int)) from by omega]
  have hbdd := nn_bd d
  have hb92 : byt s ((x.p : Int) + (k : Int)) = 92 := by rw [hb, h92]
  clear hb hbd
  rw [hd] at hb1
  clear h92 hd hbdd
  have hlt3 : (x.p : Int) + (k : Int) < s.size := by omega
  obtain ⟨t, ht⟩ : ∃ t, t = s.extract (x.p + k) (min (x.p + (k + q.size)) s.size) := ⟨_, rfl⟩
  have htq : (t.toList == q.toList) = false := by rw [ht, delim_eq]; exact hcl
  have HT := Lib.hid ht
  have HC := Lib.hid hcl
  have HU := Lib.hid hsuf
  clear ht hcl hsuf
  go_wp2_with (first | (go_at_call 67; first | ((with_reducible refine (peekOk_yes _ _ _ _ _ _ (hR.drewN _) ?_).mono ?_); omega; rintro e w' ⟨rfl, nq, rfl⟩) | ((with_reducible refine (peekOk_yes _ _ _ _ _ _ hR ?_).mono ?_); omega; rintro e w' ⟨rfl, nq, rfl⟩) | ((with_reducible refine (peekOk_no _ _ _ _ _ _ (hR.drewN _) ?_).mono ?_); omega; rintro e w' ⟨rfl, nq, rfl⟩) | ((with_reducible refine (peekOk_no _ _ _ _ _ _ hR ?_).mono ?_); omega; rintro e w' ⟨rfl, nq, rfl⟩)))
  refine (slice_int lb fb s x.p _ _ k (k + q.size) t _ (hR.drewN _) (by omega) (by omega) (by omega) (by omega) (by omega) HT.out).mono ?_
  rintro e w' ⟨rfl, nq, rfl⟩
  go_wp2_with (first | (at_builtin; refine app_one ((HH.out.drewN _).frm) ((HH.out.drewN _).own) rfl (.tmp 163) (.tmp 164) rfl rfl _ 9 rfl rfl (by omega) ?_) | (first | (go_at_call 69; first | ((with_reducible refine (peek_any _ _ _ _ _ _ _ (hR.drewN _) ⟨?_, ?_, by assumption⟩).mono ?_); omega; omega; rintro e w' ⟨rfl, nq, rfl⟩) | ((with_reducible refine (peek_any _ _ _ _ _ _ _ hR ⟨?_, ?_, by assumption⟩).mono ?_); omega; omega; rintro e w' ⟨rfl, nq, rfl⟩)) | (go_at_call 67; first | ((with_reducible refine (peekOk_yes _ _ _ _ _ _ (hR.drewN _) ?_).mono ?_); omega; rintro e w' ⟨rfl, nq, rfl⟩) | ((with_reducible refine (peekOk_yes _ _ _ _ _ _ hR ?_).mono ?_); omega; rintro e w' ⟨rfl, nq, rfl⟩) | ((with_reducible refine (peekOk_no _ _ _ _ _ _ (hR.drewN _) ?_).mono ?_); omega; rintro e w' ⟨rfl, nq, rfl⟩) | ((with_reducible refine (peekOk_no _ _ _ _ _ _ hR ?_).mono ?_); omega; rintro e w' ⟨rfl, nq, rfl⟩))))
  intro g' cap' w1 hO hF
  go_wp2_with fail
  exact QPost.next rfl (by omega) (QCtx.next HH.out hF hO (HH.out.qs.on 2 [9] (by omega) (by simp) HQ.out)) (by omega)

set_option maxRecDepth 100000 in
set_option maxHeartbeats 4000000 in
theorem round_simple118
    (lb fb : Nat) (fp s : ByteArray) (x : LX) (q nm : ByteArray) (raw uni ident np : Bool) (z : List UInt8 × Nat × QEnd) (w : World) (k : Nat) (l : List UInt8) (he : Bool) (v : Value) (wr : World) (U : Nat → Value)
        (H : QCtx lb fb fp s x q nm raw uni ident np z w k l he v wr)
    (c d : UInt8) (hb : byt s ((x.p : Int) + (k : Int)) = nn c) (h92 : nn c = 92) (hbd : byt s ((x.p + k + 1 : Nat) : Int) = nn d) (hsuf : suf s (x.p + k) = c :: d :: suf s (x.p + k + 2)) (hlt : x.p + k + 1 < s.size) (hcl : ((suf s (x.p + k)).take q.data.toList.length == q.data.toList) = false)
    (hraw : raw = false) (hd : nn d = 118) :
    Code.wp Tryz.prog qBody (QPost lb fb fp s x q nm raw uni ident np z w k) ⟨QFr lb q nm raw uni np (.int .i64 k) v (.bool he) (uls U), []⟩ wr := by
  have hsz := H.size
  have hsz2 : s.size ≤ 2147483647 := by omega
  have hki := H.qs.hi
  have hQk := H.qs.lo
  obtain ⟨hqp, hq3⟩ := H.qpos
  have hlk := H.qs.len
  have hR := H.st'.rd
  have HH := Lib.hid H
  clear H
  unfold QFr uls
  conv => arg 2; whnf
  subst hraw
  have HQ := Lib.hid (qr_simple (uni := uni) (b := 11) hsuf hcl h92 (by simp [simple, hd]))
  have hb1 : byt s ((x.p : Int) + ((k : Int) + 1)) = nn d := by rw [← hbd, show ((x.p : Int) + ((k : Int) + 1)) = (((x.p + k + 1 : Nat) : Int)) from by omega]
  have hbdd := nn_bd d
  have hb92 : byt s ((x.p : Int) + (k : Int)) = 92 := by rw [hb, h92]
  clear hb hbd
  rw [hd] at hb1
  clear h92 hd hbdd
  have hlt3 : (x.p : Int) + (k : Int) < s.size := by omega
  obtain ⟨t, ht⟩ : ∃ t, t = s.extract (x.p + k) (min (x.p + (k + q.size)) s.size) := ⟨_, rfl⟩
  have htq : (t.toList == q.toList) = false := by rw [ht, delim_eq]; exact hcl
  have HT := Lib.hid ht
  have HC := Lib.hid hcl
  have HU := Lib.hid hsuf
  clear ht hcl hsuf
  go_wp2_with (first | (go_at_call 67; first | ((with_reducible refine (peekOk_yes _ _ _ _ _ _ (hR.drewN _) ?_).mono ?_); omega; rintro e w' ⟨rfl, nq, rfl⟩) | ((with_reducible refine (peekOk_yes _ _ _ _ _ _ hR ?_).mono ?_); omega; rintro e w' ⟨rfl, nq, rfl⟩) | ((with_reducible refine (peekOk_no _ _ _ _ _ _ (hR.drewN _) ?_).mono ?_); omega; rintro e w' ⟨rfl, nq, rfl⟩) | ((with_reducible refine (peekOk_no _ _ _ _ _ _ hR ?_).mono ?_); omega; rintro e w' ⟨rfl, nq, rfl⟩)))
  refine (slice_int lb fb s x.p _ _ k (k + q.size) t _ (hR.drewN _) (by omega) (by omega) (by omega) (by omega) (by omega) HT.out).mono ?_
  rintro e w' ⟨rfl, nq, rfl⟩
  go_wp2_with (first | (at_builtin; refine app_one ((HH.out.drewN _).frm) ((HH.out.drewN _).own) rfl (.tmp 168) (.tmp 169) rfl rfl _ 11 rfl rfl (by omega) ?_) | (first | (go_at_call 69; first | ((with_reducible refine (peek_any _ _ _ _ _ _ _ (hR.drewN _) ⟨?_, ?_, by assumption⟩).mono ?_); omega; omega; rintro e w' ⟨rfl, nq, rfl⟩) | ((with_reducible refine (peek_any _ _ _ _ _ _ _ hR ⟨?_, ?_, by assumption⟩).mono ?_); omega; omega; rintro e w' ⟨rfl, nq, rfl⟩)) | (go_at_call 67; first | ((with_reducible refine (peekOk_yes _ _ _ _ _ _ (hR.drewN _) ?_).mono ?_); omega; rintro e w' ⟨rfl, nq, rfl⟩) | ((with_reducible refine (peekOk_yes _ _ _ _ _ _ hR ?_).mono ?_); omega; rintro e w' ⟨rfl, nq, rfl⟩) | ((with_reducible refine (peekOk_no _ _ _ _ _ _ (hR.drewN _) ?_).mono ?_); omega; rintro e w' ⟨rfl, nq, rfl⟩) | ((with_reducible refine (peekOk_no _ _ _ _ _ _ hR ?_).mono ?_); omega; rintro e w' ⟨rfl, nq, rfl⟩))))
  intro g' cap' w1 hO hF
  go_wp2_with fail
  exact QPost.next rfl (by omega) (QCtx.next HH.out hF hO (HH.out.qs.on 2 [11] (by omega) (by simp) HQ.out)) (by omega)

set_option maxRecDepth 100000 in
set_option maxHeartbeats 4000000 in
theorem round_simple92
    (lb fb : Nat) (fp s : ByteArray) (x : LX) (q nm : ByteArray) (raw uni ident np : Bool) (z : List UInt8 × Nat × QEnd) (w : World) (k : Nat) (l : List UInt8) (he : Bool) (v : Value) (wr : World) (U : Nat → Value)
        (H : QCtx lb fb fp s x q nm raw uni ident np z w k l he v wr)
    (c d : UInt8) (hb : byt s ((x.p : Int) + (k : Int)) = nn c) (h92 : nn c = 92) (hbd : byt s ((x.p + k + 1 : Nat) : Int) = nn d) (hsuf : suf s (x.p + k) = c :: d :: suf s (x.p + k + 2)) (hlt : x.p + k + 1 < s.size) (hcl : ((suf s (x.p + k)).take q.data.toList.length == q.data.toList) = false)
    (hraw : raw = false) (hd : nn d = 92) :
    Code.wp Tryz.prog qBody (QPost lb fb fp s x q nm raw uni ident np z w k) ⟨QFr lb q nm raw uni np (.int .i64 k) v (.bool he) (uls U), []⟩ wr := by
  have hsz := H.size
  have hsz2 : s.size ≤ 2147483647 := by omega
  have hki := H.qs.hi
  have hQk := H.qs.lo
  obtain ⟨hqp, hq3⟩ := H.qpos
  have hlk := H.qs.len
  have hR := H.st'.rd
  have HH := Lib.hid H
  clear H
  unfold QFr uls
  conv => arg 2; whnf
  subst hraw
  have HQ := Lib.hid (qr_simple (uni := uni) (b := d) hsuf hcl h92 (by simp [simple, hd]))
  have HY := Lib.hid hd.symm
  have hb1 : byt s ((x.p : Int) + ((k : Int) + 1)) = nn d := by rw [← hbd, show ((x.p : Int) + ((k : Int) + 1)) = (((x.p + k + 1 : Nat) : Int)) from by omega]
  have hbdd := nn_bd d
  have hb92 : byt s ((x.p : Int) + (k : Int)) = 92 := by rw [hb, h92]
  clear hb hbd
  rw [hd] at hb1
  clear h92 hd hbdd
  have hlt3 : (x.p : Int) + (k : Int) < s.size := by omega
  obtain ⟨t, ht⟩ : ∃ t, t = s.extract (x.p + k) (min (x.p + (k + q.size)) s.size) := ⟨_, rfl⟩
  have htq : (t.toList == q.toList) = false := by rw [ht, delim_eq]; exact hcl
  have HT := Lib.hid ht
  have HC := Lib.hid hcl
  have HU := Lib.hid hsuf
  clear ht hcl hsuf
  go_wp2_with (first | (go_at_call 67; first | ((with_reducible refine (peekOk_yes _ _ _ _ _ _ (hR.drewN _) ?_).mono ?_); omega; rintro e w' ⟨rfl, nq, rfl⟩) | ((with_reducible refine (peekOk_yes _ _ _ _ _ _ hR ?_).mono ?_); omega; rintro e w' ⟨rfl, nq, rfl⟩) | ((with_reducible refine (peekOk_no _ _ _ _ _ _ (hR.drewN _) ?_).mono ?_); omega; rintro e w' ⟨rfl, nq, rfl⟩) | ((with_reducible refine (peekOk_no _ _ _ _ _ _ hR ?_).mono ?_); omega; rintro e w' ⟨rfl, nq, rfl⟩)))
  refine (slice_int lb fb s x.p _ _ k (k + q.size) t _ (hR.drewN _) (by omega) (by omega) (by omega) (by omega) (by omega) HT.out).mono ?_
  rintro e w' ⟨rfl, nq, rfl⟩
  go_wp2_with (first | (at_builtin; refine app_one ((HH.out.drewN _).frm) ((HH.out.drewN _).own) rfl (.tmp 177) (.tmp 179) rfl rfl _ d HY.out rfl (by omega) ?_) | (first | (go_at_call 69; first | ((with_reducible refine (peek_any _ _ _ _ _ _ _ (hR.drewN _) ⟨?_, ?_, by assumption⟩).mono ?_); omega; omega; rintro e w' ⟨rfl, nq, rfl⟩) | ((with_reducible refine (peek_any _ _ _ _ _ _ _ hR ⟨?_, ?_, by assumption⟩).mono ?_); omega; omega; rintro e w' ⟨rfl, nq, rfl⟩)) | (go_at_call 67; first | ((with_reducible refine (peekOk_yes _ _ _ _ _ _ (hR.drewN _) ?_).mono ?_); omega; rintro e w' ⟨rfl, nq, rfl⟩) | ((with_reducible refine (peekOk_yes _ _ _ _ _ _ hR ?_).mono ?_); omega; rintro e w' ⟨rfl, nq, rfl⟩) | ((with_reducible refine (peekOk_no _ _ _ _ _ _ (hR.drewN _) ?_).mono ?_); omega; rintro e w' ⟨rfl, nq, rfl⟩) | ((with_reducible refine (peekOk_no _ _ _ _ _ _ hR ?_).mono ?_); omega; rintro e w' ⟨rfl, nq, rfl⟩))))
  intro g' cap' w1 hO hF
  go_wp2_with fail
  exact QPost.next rfl (by omega) (QCtx.next HH.out hF hO (HH.out.qs.on 2 [d] (by omega) (by simp) HQ.out)) (by omega)

set_option maxRecDepth 100000 in
set_option maxHeartbeats 4000000 in
theorem round_simple63
    (lb fb : Nat) (fp s : ByteArray) (x : LX) (q nm : ByteArray) (raw uni ident np : Bool) (z : List UInt8 × Nat × QEnd) (w : World) (k : Nat) (l : List UInt8) (he : Bool) (v : Value) (wr : World) (U : Nat → Value)
        (H : QCtx lb fb fp s x q nm raw uni ident np z w k l he v wr)
    (c d : UInt8) (hb : byt s ((x.p : Int) + (k : Int)) = nn c) (h92 : nn c = 92) (hbd : byt s ((x.p + k + 1 : Nat) : Int) = nn d) (hsuf : suf s (x.p + k) = c :: d :: suf s (x.p + k + 2)) (hlt : x.p + k + 1 < s.size) (hcl : ((suf s (x.p + k)).take q.data.toList.length == q.data.toList) = false)
    (hraw : raw = false) (hd : nn d = 63) :
    Code.wp Tryz.prog qBody (QPost lb fb fp s x q nm raw uni ident np z w k) ⟨QFr lb q nm raw uni np (.int .i64 k) v (.bool he) (uls U), []⟩ wr := by
  have hsz := H.size
  have hsz2 : s.size ≤ 2147483647 := by omega
  have hki := H.qs.hi
  have hQk := H.qs.lo
  obtain ⟨hqp, hq3⟩ := H.qpos
  have hlk := H.qs.len
  have hR := H.st'.rd
  have HH := Lib.hid H
  clear H
  unfold QFr uls
  conv => arg 2; whnf
  subst hraw
  have HQ := Lib.hid (qr_simple (uni := uni) (b := d) hsuf hcl h92 (by simp [simple, hd]))
  have HY := Lib.hid hd.symm
  have hb1 : byt s ((x.p : Int) + ((k : Int) + 1)) = nn d := by rw [← hbd, show ((x.p : Int) + ((k : Int) + 1)) = (((x.p + k + 1 : Nat) : Int)) from by omega]
  have hbdd := nn_bd d
  have hb92 : byt s ((x.p : Int) + (k : Int)) = 92 := by rw [hb, h92]
  clear hb hbd
  rw [hd] at hb1
  clear h92 hd hbdd
  have hlt3 : (x.p : Int) + (k : Int) < s.size := by omega
  obtain ⟨t, ht⟩ : ∃ t, t = s.extract (x.p + k) (min (x.p + (k + q.size)) s.size) := ⟨_, rfl⟩
  have htq : (t.toList == q.toList) = false := by rw [ht, delim_eq]; exact hcl
  have HT := Lib.hid ht
  have HC := Lib.hid hcl
  have HU := Lib.hid hsuf
  clear ht hcl hsuf
  go_wp2_with (first | (go_at_call 67; first | ((with_reducible refine (peekOk_yes _ _ _ _ _ _ (hR.drewN _) ?_).mono ?_); omega; rintro e w' ⟨rfl, nq, rfl⟩) | ((with_reducible refine (peekOk_yes _ _ _ _ _ _ hR ?_).mono ?_); omega; rintro e w' ⟨rfl, nq, rfl⟩) | ((with_reducible refine (peekOk_no _ _ _ _ _ _ (hR.drewN _) ?_).mono ?_); omega; rintro e w' ⟨rfl, nq, rfl⟩) | ((with_reducible refine (peekOk_no _ _ _ _ _ _ hR ?_).mono ?_); omega; rintro e w' ⟨rfl, nq, rfl⟩)))
  refine (slice_int lb fb s x.p _ _ k (k + q.size) t _ (hR.drewN _) (by omega) (by omega) (by omega) (by omega) (by omega) HT.out).mono ?_
  rintro e w' ⟨rfl, nq, rfl⟩
  go_wp2_with (first | (at_builtin; refine app_one ((HH.out.drewN _).frm) ((HH.out.drewN _).own) rfl (.tmp 177) (.tmp 179) rfl rfl _ d HY.out rfl (by omega) ?_) | (first | (go_at_call 69; first | ((with_reducible refine (peek_any _ _ _ _ _ _ _ (hR.drewN _) ⟨?_, ?_, by assumption⟩).mono ?_); omega; omega; rintro e w' ⟨rfl, nq, rfl⟩) | ((with_reducible refine (peek_any _ _ _ _ _ _ _ hR ⟨?_, ?_, by assumption⟩).mono ?_); omega; omega; rintro e w' ⟨rfl, nq, rfl⟩)) | (go_at_call 67; first | ((with_reducible refine (peekOk_yes _ _ _ _ _ _ (hR.drewN _) ?_).mono ?_); omega; rintro e w' ⟨rfl, nq, rfl⟩) | ((with_reducible refine (peekOk_yes _ _ _ _ _ _ hR ?_).mono ?_); omega; rintro e w' ⟨rfl, nq, rfl⟩) | ((with_reducible refine (peekOk_no _ _ _ _ _ _ (hR.drewN _) ?_).mono ?_); omega; rintro e w' ⟨rfl, nq, rfl⟩) | ((with_reducible refine (peekOk_no _ _ _ _ _ _ hR ?_).mono ?_); omega; rintro e w' ⟨rfl, nq, rfl⟩))))
  intro g' cap' w1 hO hF
  go_wp2_with fail
  exact QPost.next rfl (by omega) (QCtx.next HH.out hF hO (HH.out.qs.on 2 [d] (by omega) (by simp) HQ.out)) (by omega)

set_option maxRecDepth 100000 in
set_option maxHeartbeats 4000000 in
theorem round_simple34
    (lb fb : Nat) (fp s : ByteArray) (x : LX) (q nm : ByteArray) (raw uni ident np : Bool) (z : List UInt8 × Nat × QEnd) (w : World) (k : Nat) (l : List UInt8) (he : Bool) (v : Value) (wr : World) (U : Nat → Value)
        (H : QCtx lb fb fp s x q nm raw uni ident np z w k l he v wr)
    (c d : UInt8) (hb : byt s ((x.p : Int) + (k : Int)) = nn c) (h92 : nn c = 92) (hbd : byt s ((x.p + k + 1 : Nat) : Int) = nn d) (hsuf : suf s (x.p + k) = c :: d :: suf s (x.p + k + 2)) (hlt : x.p + k + 1 < s.size) (hcl : ((suf s (x.p + k)).take q.data.toList.length == q.data.toList) = false)
    (hraw : raw = false) (hd : nn d = 34) :
    Code.wp Tryz.prog qBody (QPost lb fb fp s x q nm raw uni ident np z w k) ⟨QFr lb q nm raw uni np (.int .i64 k) v (.bool he) (uls U), []⟩ wr := by
  have hsz := H.size
  have hsz2 : s.size ≤ 2147483647 := by omega
  have hki := H.qs.hi
  have hQk := H.qs.lo
  obtain ⟨hqp, hq3⟩ := H.qpos
  have hlk := H.qs.len
  have hR := H.st'.rd
  have HH := Lib.hid H
  clear H
  unfold QFr uls
  conv => arg 2; whnf
  subst hraw
  have HQ := Lib.hid (qr_simple (uni := uni) (b := d) hsuf hcl h92 (by simp [simple, hd]))
  have HY := Lib.hid hd.symm
  have hb1 : byt s ((x.p : Int) + ((k : Int) + 1)) = nn d := by rw [← hbd, show ((x.p : Int) + ((k : Int) + 1)) = (((x.p + k + 1 : Nat) : Int)) from by omega]
  have hbdd := nn_bd d
  have hb92 : byt s ((x.p : Int) + (k : Int)) = 92 := by rw [hb, h92]
  clear hb hbd
  rw [hd] at hb1
  clear h92 hd hbdd
  have hlt3 : (x.p : Int) + (k : Int) < s.size := by omega
  obtain ⟨t, ht⟩ : ∃ t, t = s.extract (x.p + k) (min (x.p + (k + q.size)) s.size) := ⟨_, rfl⟩
  have htq : (t.toList == q.toList) = false := by rw [ht, delim_eq]; exact hcl
  have HT := Lib.hid ht
  have HC := Lib.hid hcl
  have HU := Lib.hid hsuf
  clear ht hcl hsuf
  go_wp2_with (first | (go_at_call 67; first | ((with_reducible refine (peekOk_yes _ _ _ _ _ _ (hR.drewN _) ?_).mono ?_); omega; rintro e w' ⟨rfl, nq, rfl⟩) | ((with_reducible refine (peekOk_yes _ _ _ _ _ _ hR ?_).mono ?_); omega; rintro e w' ⟨rfl, nq, rfl⟩) | ((with_reducible refine (peekOk_no _ _ _ _ _ _ (hR.drewN _) ?_).mono ?_); omega; rintro e w' ⟨rfl, nq, rfl⟩) | ((with_reducible refine (peekOk_no _ _ _ _ _ _ hR ?_).mono ?_); omega; rintro e w' ⟨rfl, nq, rfl⟩)))
  refine (slice_int lb fb s x.p _ _ k (k + q.size) t _ (hR.drewN _) (by omega) (by omega) (by omega) (by omega) (by omega) HT.out).mono ?_
  rintro e w' ⟨rfl, nq, rfl⟩
  go_wp2_with (first | (at_builtin; refine app_one ((HH.out.drewN _).frm) ((HH.out.drewN _).own) rfl (.tmp 177) (.tmp 179) rfl rfl _ d HY.out rfl (by omega) ?_) | (first | (go_at_call 69; first | ((with_reducible refine (peek_any _ _ _ _ _ _ _ (hR.drewN _) ⟨?_, ?_, by assumption⟩).mono ?_); omega; omega; rintro e w' ⟨rfl, nq, rfl⟩) | ((with_reducible refine (peek_any _ _ _ _ _ _ _ hR ⟨?_, ?_, by assumption⟩).mono ?_); omega; omega; rintro e w' ⟨rfl, nq, rfl⟩)) | (go_at_call 67; first | ((with_reducible refine (peekOk_yes _ _ _ _ _ _ (hR.drewN _) ?_).mono ?_); omega; rintro e w' ⟨rfl, nq, rfl⟩) | ((with_reducible refine (peekOk_yes _ _ _ _ _ _ hR ?_).mono ?_); omega; rintro e w' ⟨rfl, nq, rfl⟩) | ((with_reducible refine (peekOk_no _ _ _ _ _ _ (hR.drewN _) ?_).mono ?_); omega; rintro e w' ⟨rfl, nq, rfl⟩) | ((with_reducible refine (peekOk_no _ _ _ _ _ _ hR ?_).mono ?_); omega; rintro e w' ⟨rfl, nq, rfl⟩))))
  intro g' cap' w1 hO hF
  go_wp2_with fail
  exact QPost.next rfl (by omega) (QCtx.next HH.out hF hO (HH.out.qs.on 2 [d] (by omega) (by simp) HQ.out)) (by omega)

set_option maxRecDepth 100000 in
set_option maxHeartbeats 4000000 in
theorem round_simple39
    (lb fb : Nat) (fp s : ByteArray) (x : LX) (q nm : ByteArray) (raw uni ident np : Bool) (z : List UInt8 × Nat × QEnd) (w : World) (k : Nat) (l : List UInt8) (he : Bool) (v : Value) (wr : World) (U : Nat → Value)
        (H : QCtx lb fb fp s x q nm raw uni ident np z w k l he v wr)
    (c d : UInt8) (hb : byt s ((x.p : Int) + (k : Int)) = nn c) (h92 : nn c = 92) (hbd : byt s ((x.p + k + 1 : Nat) : Int) = nn d) (hsuf : suf s (x.p + k) = c :: d :: suf s (x.p + k + 2)) (hlt : x.p + k + 1 < s.size) (hcl : ((suf s (x.p + k)).take q.data.toList.length == q.data.toList) = false)
    (hraw : raw = false) (hd : nn d = 39) :
    Code.wp Tryz.prog qBody (QPost lb fb fp s x q nm raw uni ident np z w k) ⟨QFr lb q nm raw uni np (.int .i64 k) v (.bool he) (uls U), []⟩ wr := by
  have hsz := H.size
  have hsz2 : s.size ≤ 2147483647 := by omega
  have hki := H.qs.hi
  have hQk := H.qs.lo
  obtain ⟨hqp, hq3⟩ := H.qpos
  have hlk := H.qs.len
  have hR := H.st'.rd
  have HH := Lib.hid H
  clear H
  unfold QFr uls
  conv => arg 2; whnf
  subst hraw
  have HQ := Lib.hid (qr_simple (uni := uni) (b := d) hsuf hcl h92 (by simp [simple, hd]))
  have HY := Lib.hid hd.symm
  have hb1 : byt s ((x.p : Int) + ((k : Int) + 1)) = nn d := by rw [← hbd, show ((x.p : Int) + ((k : Int) + 1)) = (((x.p + k + 1 : Nat) : Int)) from by omega]
  have hbdd := nn_bd d
  have hb92 : byt s ((x.p : Int) + (k : Int)) = 92 := by rw [hb, h92]
  clear hb hbd
  rw [hd] at hb1
  clear h92 hd hbdd
  have hlt3 : (x.p : Int) + (k : Int) < s.size := by omega
  obtain ⟨t, ht⟩ : ∃ t, t = s.extract (x.p + k) (min (x.p + (k + q.size)) s.size) := ⟨_, rfl⟩
  have htq : (t.toList == q.toList) = false := by rw [ht, delim_eq]; exact hcl
  have HT := Lib.hid ht
  have HC := Lib.hid hcl
  have HU := Lib.hid hsuf
  clear ht hcl hsuf
  go_wp2_with (first | (go_at_call 67; first | ((with_reducible refine (peekOk_yes _ _ _ _ _ _ (hR.drewN _) ?_).mono ?_); omega; rintro e w' ⟨rfl, nq, rfl⟩) | ((with_reducible refine (peekOk_yes _ _ _ _ _ _ hR ?_).mono ?_); omega; rintro e w' ⟨rfl, nq, rfl⟩) | ((with_reducible refine (peekOk_no _ _ _ _ _ _ (hR.drewN _) ?_).mono ?_); omega; rintro e w' ⟨rfl, nq, rfl⟩) | ((with_reducible refine (peekOk_no _ _ _ _ _ _ hR ?_).mono ?_); omega; rintro e w' ⟨rfl, nq, rfl⟩)))
  refine (slice_int lb fb s x.p _ _ k (k + q.size) t _ (hR.drewN _) (by omega) (by omega) (by omega) (by omega) (by omega) HT.out).mono ?_
  rintro e w' ⟨rfl, nq, rfl⟩
  go_wp2_with (first | (at_builtin; refine app_one ((HH.out.drewN _).frm) ((HH.out.drewN _).own) rfl (.tmp 177) (.tmp 179) rfl rfl _ d HY.out rfl (by omega) ?_) | (first | (go_at_call 69; first | ((with_reducible refine (peek_any _ _ _ _ _ _ _ (hR.drewN _) ⟨?_, ?_, by assumption⟩).mono ?_); omega; omega; rintro e w' ⟨rfl, nq, rfl⟩) | ((with_reducible refine (peek_any _ _ _ _ _ _ _ hR ⟨?_, ?_, by assumption⟩).mono ?_); omega; omega; rintro e w' ⟨rfl, nq, rfl⟩)) | (go_at_call 67; first | ((with_reducible refine (peekOk_yes _ _ _ _ _ _ (hR.drewN _) ?_).mono ?_); omega; rintro e w' ⟨rfl, nq, rfl⟩) | ((with_reducible refine (peekOk_yes _ _ _ _ _ _ hR ?_).mono ?_); omega; rintro e w' ⟨rfl, nq, rfl⟩) | ((with_reducible refine (peekOk_no _ _ _ _ _ _ (hR.drewN _) ?_).mono ?_); omega; rintro e w' ⟨rfl, nq, rfl⟩) | ((with_reducible refine (peekOk_no _ _ _ _ _ _ hR ?_).mono ?_); omega; rintro e w' ⟨rfl, nq, rfl⟩))))
  intro g' cap' w1 hO hF
  go_wp2_with fail
  exact QPost.next rfl (by omega) (QCtx.next HH.out hF hO (HH.out.qs.on 2 [d] (by omega) (by simp) HQ.out)) (by omega)

set_option maxRecDepth 100000 in
set_option maxHeartbeats 4000000 in
theorem round_simple96
    (lb fb : Nat) (fp s : ByteArray) (x : LX) (q nm : ByteArray) (raw uni ident np : Bool) (z : List UInt8 × Nat × QEnd) (w : World) (k : Nat) (l : List UInt8) (he : Bool) (v : Value) (wr : World) (U : Nat → Value)
        (H : QCtx lb fb fp s x q nm raw uni ident np z w k l he v wr)
    (c d : UInt8) (hb : byt s ((x.p : Int) + (k : Int)) = nn c) (h92 : nn c = 92) (hbd : byt s ((x.p + k + 1 : Nat) : Int) = nn d) (hsuf : suf s (x.p + k) = c :: d :: suf s (x.p + k + 2)) (hlt : x.p + k + 1 < s.size) (hcl : ((suf s (x.p + k)).take q.data.toList.length == q.data.toList) = false)
    (hraw : raw = false) (hd : nn d = 96) :
    Code.wp Tryz.prog qBody (QPost lb fb fp s x q nm raw uni ident np z w k) ⟨QFr lb q nm raw uni np (.int .i64 k) v (.bool he) (uls U), []⟩ wr := by
  have hsz := H.size
  have hsz2 : s.size ≤ 2147483647 := by omega
  have hki := H.qs.hi
  have hQk := H.qs.lo
  obtain ⟨hqp, hq3⟩ := H.qpos
  have hlk := H.qs.len
  have hR := H.st'.rd
  have HH := Lib.hid H
  clear H
  unfold QFr uls
  conv => arg 2; whnf
  subst hraw
  have HQ := Lib.hid (qr_simple (uni := uni) (b := d) hsuf hcl h92 (by simp [simple, hd]))
  have HY := Lib.hid hd.symm
  have hb1 : byt s ((x.p : Int) + ((k : Int) + 1)) = nn d := by rw [← hbd, show ((x.p : Int) + ((k : Int) + 1)) = (((x.p + k + 1 : Nat) : Int)) from by omega]
  have hbdd := nn_bd d
  have hb92 : byt s ((x.p : Int) + (k : Int)) = 92 := by rw [hb, h92]
  clear hb hbd
  rw [hd] at hb1
  clear h92 hd hbdd
  have hlt3 : (x.p : Int) + (k : Int) < s.size := by omega
  obtain ⟨t, ht⟩ : ∃ t, t = s.extract (x.p + k) (min (x.p + (k + q.size)) s.size) := ⟨_, rfl⟩
  have htq : (t.toList == q.toList) = false := by rw [ht, delim_eq]; exact hcl
  have HT := Lib.hid ht
  have HC := Lib.hid hcl
  have HU := Lib.hid hsuf
  clear ht hcl hsuf
  go_wp2_with (first | (go_at_call 67; first | ((with_reducible refine (peekOk_yes _ _ _ _ _ _ (hR.drewN _) ?_).mono ?_); omega; rintro e w' ⟨rfl, nq, rfl⟩) | ((with_reducible refine (peekOk_yes _ _ _ _ _ _ hR ?_).mono ?_); omega; rintro e w' ⟨rfl, nq, rfl⟩) | ((with_reducible refine (peekOk_no _ _ _ _ _ _ (hR.drewN _) ?_).mono ?_); omega; rintro e w' ⟨rfl, nq, rfl⟩) | ((with_reducible refine (peekOk_no _ _ _ _ _ _ hR ?_).mono ?_); omega; rintro e w' ⟨rfl, nq, rfl⟩)))
  refine (slice_int lb fb s x.p _ _ k (k + q.size) t _ (hR.drewN _) (by omega) (by omega) (by omega) (by omega) (by omega) HT.out).mono ?_
  rintro e w' ⟨rfl, nq, rfl⟩
  go_wp2_with (first | (at_builtin; refine app_one ((HH.out.drewN _).frm) ((HH.out.drewN _).own) rfl (.tmp 177) (.tmp 179) rfl rfl _ d HY.out rfl (by omega) ?_) | (first | (go_at_call 69; first | ((with_reducible refine (peek_any _ _ _ _ _ _ _ (hR.drewN _) ⟨?_, ?_, by assumption⟩).mono ?_); omega; omega; rintro e w' ⟨rfl, nq, rfl⟩) | ((with_reducible refine (peek_any _ _ _ _ _ _ _ hR ⟨?_, ?_, by assumption⟩).mono ?_); omega; omega; rintro e w' ⟨rfl, nq, rfl⟩)) | (go_at_call 67; first | ((with_reducible refine (peekOk_yes _ _ _ _ _ _ (hR.drewN _) ?_).mono ?_); omega; rintro e w' ⟨rfl, nq, rfl⟩) | ((with_reducible refine (peekOk_yes _ _ _ _ _ _ hR ?_).mono ?_); omega; rintro e w' ⟨rfl, nq, rfl⟩) | ((with_reducible refine (peekOk_no _ _ _ _ _ _ (hR.drewN _) ?_).mono ?_); omega; rintro e w' ⟨rfl, nq, rfl⟩) | ((with_reducible refine (peekOk_no _ _ _ _ _ _ hR ?_).mono ?_); omega; rintro e w' ⟨rfl, nq, rfl⟩))))
  intro g' cap' w1 hO hF
  go_wp2_with fail
  exact QPost.next rfl (by omega) (QCtx.next HH.out hF hO (HH.out.qs.on 2 [d] (by omega) (by simp) HQ.out)) (by omega)

end Go.Proofs.YtngofbhlhcalpaaGreatDoor.lexer

namespace Go.Proofs.YtngofbhlhcalpaaGreatDoor.lexer
open Go.RowKit Go.Proofs.YtngofbhlhcalpaaGreatDoor.gen
open Go.Proofs.YtngofbhlhcalpaaGreatDoor.upper (bv bv_len)


def otherEsc (d : Int) : Bool := !(d == 97 || d == 98 || d == 102 || d == 110 || d == 114 || d == 116 || d == 118 || d == 92 || d == 63 || d == 34 || d == 39 || d == 96 || d == 120 || d == 88 || d == 117 || d == 85 || d == 48 || d == 49 || d == 50 || d == 51)

theorem esc_other (uni : Bool) (d : UInt8) (r : List UInt8) (h : otherEsc (nn d) = true) : esc uni (d :: r) = none := by
  simp only [otherEsc, Bool.not_eq_true', Bool.or_eq_false_iff] at h
  simp only [esc, simple, h]
  simp

theorem qr_other {s : ByteArray} {p k : Nat} {Q : List UInt8} {uni : Bool} {c d : UInt8} (hsuf : suf s (p + k) = c :: d :: suf s (p + k + 2)) (hcl : ((suf s (p + k)).take Q.length == Q) = false) (h92 : nn c = 92)
    (h : esc uni (d :: suf s (p + k + 2)) = none) : qr Q false uni (suf s (p + k)) = ([], 0, .escape) := by
  rw [hsuf, qr_escBad _ _ _ _ (by rw [← hsuf]; exact hcl) h92 h]

theorem bad_esc {lb fb : Nat} {fp s : ByteArray} {x : LX} {q nm : ByteArray} {uni ident : Bool} {z : List UInt8 × Nat × QEnd} {w : World} {k : Nat} {l : List UInt8} {he : Bool} {v : Value} {wr : World}
    (H : QCtx lb fb fp s x q nm false uni ident false z w k l he v wr) (hq : qr q.data.toList false uni (suf s (x.p + k)) = ([], 0, .escape)) : ∀ kind, qtok q.data.toList false uni ident kind (suf s x.p) = .bad k := by
  have h1 := H.qs.exact rfl
  rw [hq] at h1
  exact qtok_bad H.z k (.inl ⟨h1.2.2.2.symm, by have := h1.2.2.1; simpa using this⟩)

set_option maxRecDepth 100000 in
set_option maxHeartbeats 4000000 in
theorem round_other
    (lb fb : Nat) (fp s : ByteArray) (x : LX) (q nm : ByteArray) (raw uni ident np : Bool) (z : List UInt8 × Nat × QEnd) (w : World) (k : Nat) (l : List UInt8) (he : Bool) (v : Value) (wr : World) (U : Nat → Value)
        (H : QCtx lb fb fp s x q nm raw uni ident np z w k l he v wr)
    (c d : UInt8) (hb : byt s ((x.p : Int) + (k : Int)) = nn c) (h92 : nn c = 92) (hbd : byt s ((x.p + k + 1 : Nat) : Int) = nn d) (hsuf : suf s (x.p + k) = c :: d :: suf s (x.p + k + 2)) (hlt : x.p + k + 1 < s.size) (hcl : ((suf s (x.p + k)).take q.data.toList.length == q.data.toList) = false)
    (hraw : raw = false) (hd : otherEsc (nn d) = true) :
    Code.wp Tryz.prog qBody (QPost lb fb fp s x q nm raw uni ident np z w k) ⟨QFr lb q nm raw uni np (.int .i64 k) v (.bool he) (uls U), []⟩ wr := by
  have hsz := H.size
  have hsz2 : s.size ≤ 2147483647 := by omega
  have hki := H.qs.hi
  have hQk := H.qs.lo
  obtain ⟨hqp, hq3⟩ := H.qpos
  have hlk := H.qs.len
  have hR := H.st'.rd
  have HH := Lib.hid H
  clear H
  unfold QFr uls
  conv => arg 2; whnf
  subst hraw
  have HQ := Lib.hid (qr_other (uni := uni) hsuf hcl h92 (esc_other uni d _ hd))
  simp only [otherEsc, Bool.not_eq_true', Bool.or_eq_false_iff] at hd
  obtain ⟨⟨⟨⟨⟨⟨⟨⟨⟨⟨⟨⟨⟨⟨⟨⟨⟨⟨⟨d1, d2⟩, d3⟩, d4⟩, d5⟩, d6⟩, d7⟩, d8⟩, d9⟩, d10⟩, d11⟩, d12⟩, d13⟩, d14⟩, d15⟩, d16⟩, d17⟩, d18⟩, d19⟩, d20⟩ := hd
  have hb1 : byt s ((x.p : Int) + ((k : Int) + 1)) = nn d := by rw [← hbd, show ((x.p : Int) + ((k : Int) + 1)) = (((x.p + k + 1 : Nat) : Int)) from by omega]
  have hbdd := nn_bd d
  have hb92 : byt s ((x.p : Int) + (k : Int)) = 92 := by rw [hb, h92]
  clear hb hbd
  have e2 : IntKind.i64.wrap ((x.p : Int) + ((k : Int) + 1 + 1)) = (x.p : Int) + (k : Int) + 2 := by rw [IntWalk.i64_in _ (by omega)]; omega
  have e3 : IntKind.i64.wrap ((x.p : Int) + (k : Int) + 2 - 2) = (x.p : Int) + (k : Int) := by rw [IntWalk.i64_in _ (by omega)]; omega
  clear h92
  cases np with
  | true =>
    have hlt3 : (x.p : Int) + (k : Int) < s.size := by omega
    obtain ⟨t, ht⟩ : ∃ t, t = s.extract (x.p + k) (min (x.p + (k + q.size)) s.size) := ⟨_, rfl⟩
    have htq : (t.toList == q.toList) = false := by rw [ht, delim_eq]; exact hcl
    have HT := Lib.hid ht
    have HC := Lib.hid hcl
    have HU := Lib.hid hsuf
    clear ht hcl hsuf
    go_wp2_with (first | (go_at_call 67; first | ((with_reducible refine (peekOk_yes _ _ _ _ _ _ (hR.drewN _) ?_).mono ?_); omega; rintro e w' ⟨rfl, nq, rfl⟩) | ((with_reducible refine (peekOk_yes _ _ _ _ _ _ hR ?_).mono ?_); omega; rintro e w' ⟨rfl, nq, rfl⟩) | ((with_reducible refine (peekOk_no _ _ _ _ _ _ (hR.drewN _) ?_).mono ?_); omega; rintro e w' ⟨rfl, nq, rfl⟩) | ((with_reducible refine (peekOk_no _ _ _ _ _ _ hR ?_).mono ?_); omega; rintro e w' ⟨rfl, nq, rfl⟩)))
    refine (slice_int lb fb s x.p _ _ k (k + q.size) t _ (hR.drewN _) (by omega) (by omega) (by omega) (by omega) (by omega) HT.out).mono ?_
    rintro e w' ⟨rfl, nq, rfl⟩
    go_wp2_with (first | (go_at_call 69; first | ((with_reducible refine (peek_any _ _ _ _ _ _ _ (hR.drewN _) ⟨?_, ?_, by assumption⟩).mono ?_); omega; omega; rintro e w' ⟨rfl, nq, rfl⟩) | ((with_reducible refine (peek_any _ _ _ _ _ _ _ hR ⟨?_, ?_, by assumption⟩).mono ?_); omega; omega; rintro e w' ⟨rfl, nq, rfl⟩)) | (go_at_call 67; first | ((with_reducible refine (peekOk_yes _ _ _ _ _ _ (hR.drewN _) ?_).mono ?_); omega; rintro e w' ⟨rfl, nq, rfl⟩) | ((with_reducible refine (peekOk_yes _ _ _ _ _ _ hR ?_).mono ?_); omega; rintro e w' ⟨rfl, nq, rfl⟩) | ((with_reducible refine (peekOk_no _ _ _ _ _ _ (hR.drewN _) ?_).mono ?_); omega; rintro e w' ⟨rfl, nq, rfl⟩) | ((with_reducible refine (peekOk_no _ _ _ _ _ _ hR ?_).mono ?_); omega; rintro e w' ⟨rfl, nq, rfl⟩)))
    exact QPost.next rfl (by omega) (QCtx.next HH.out (HH.out.drewN _).frm (HH.out.drewN _).own (HH.out.qs.fault rfl (fun _ => by rw [HQ.out]; simp) 2 (by omega) true)) (by omega)
  | false =>
    have HB := Lib.hid (bad_esc HH.out HQ.out)
    have hlt3 : (x.p : Int) + (k : Int) < s.size := by omega
    obtain ⟨t, ht⟩ : ∃ t, t = s.extract (x.p + k) (min (x.p + (k + q.size)) s.size) := ⟨_, rfl⟩
    have htq : (t.toList == q.toList) = false := by rw [ht, delim_eq]; exact hcl
    have HT := Lib.hid ht
    have HC := Lib.hid hcl
    have HU := Lib.hid hsuf
    clear ht hcl hsuf
    go_wp2_with (first | (go_at_call 67; first | ((with_reducible refine (peekOk_yes _ _ _ _ _ _ (hR.drewN _) ?_).mono ?_); omega; rintro e w' ⟨rfl, nq, rfl⟩) | ((with_reducible refine (peekOk_yes _ _ _ _ _ _ hR ?_).mono ?_); omega; rintro e w' ⟨rfl, nq, rfl⟩) | ((with_reducible refine (peekOk_no _ _ _ _ _ _ (hR.drewN _) ?_).mono ?_); omega; rintro e w' ⟨rfl, nq, rfl⟩) | ((with_reducible refine (peekOk_no _ _ _ _ _ _ hR ?_).mono ?_); omega; rintro e w' ⟨rfl, nq, rfl⟩)))
    refine (slice_int lb fb s x.p _ _ k (k + q.size) t _ (hR.drewN _) (by omega) (by omega) (by omega) (by omega) (by omega) HT.out).mono ?_
    rintro e w' ⟨rfl, nq, rfl⟩
    go_wp2_with (first | (go_at_call 69; first | ((with_reducible refine (peek_any _ _ _ _ _ _ _ (hR.drewN _) ⟨?_, ?_, by assumption⟩).mono ?_); omega; omega; rintro e w' ⟨rfl, nq, rfl⟩) | ((with_reducible refine (peek_any _ _ _ _ _ _ _ hR ⟨?_, ?_, by assumption⟩).mono ?_); omega; omega; rintro e w' ⟨rfl, nq, rfl⟩)) | (go_at_call 67; first | ((with_reducible refine (peekOk_yes _ _ _ _ _ _ (hR.drewN _) ?_).mono ?_); omega; rintro e w' ⟨rfl, nq, rfl⟩) | ((with_reducible refine (peekOk_yes _ _ _ _ _ _ hR ?_).mono ?_); omega; rintro e w' ⟨rfl, nq, rfl⟩) | ((with_reducible refine (peekOk_no _ _ _ _ _ _ (hR.drewN _) ?_).mono ?_); omega; rintro e w' ⟨rfl, nq, rfl⟩) | ((with_reducible refine (peekOk_no _ _ _ _ _ _ hR ?_).mono ?_); omega; rintro e w' ⟨rfl, nq, rfl⟩)))
    have c0 : wr.cell? ⟨lb, 0, none⟩ = some (.pointer (some ⟨fb, 0, none⟩)) := hR.c0
    have c9 : wr.cell? ⟨lb, 9, none⟩ = some (.int .i64 (x.p : Int)) := hR.c9
    refine region_tail 14 (by kernel_rfl) (by kernel_rfl) fun W hW => ?_
    have HW := Lib.hid (show QCtx lb fb fp s x q nm _ _ ident false z w _ _ _ _ W from hW ▸ (HH.out.drewN _).drewN 1)
    clear hW
    have c9d : W.cell? ⟨lb, 9, none⟩ = some (.int .i64 (x.p : Int)) := HW.out.st'.rd.c9
    simp only [List.take_succ_cons, List.take_zero, List.drop_succ_cons, List.drop_zero]
    repeat still_step
    refine wpStill_nil ?_
    go_wp2_with fail
    refine (panicfAt_int lb fb fp s x _ _ (x.p + k) (x.p + k + 2) _ _ hsz (by omega) (by omega) (by omega) (by omega) HW.out.st' HW.out.env').mono ?_
    rintro e w6 ⟨eb, rfl, hea, hl, hf⟩
    go_wp2_with fail
    exact ⟨rfl, .inr (.inl ⟨k, HB.out, rfl, _, rfl, hea, Nat.le_trans HW.out.frm.size hl, (HW.out.frm.mono (by simp)).step (hf.mono (by simp))⟩)⟩

end Go.Proofs.YtngofbhlhcalpaaGreatDoor.lexer
