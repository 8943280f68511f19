/-
  Lemmas and contracts of this claim, texts Enc, QuoU, QuoU1, QuoU2. No statement of the seat is proved here.
-/
import Derived.Shelf.Spec.EncodeRune
import Derived.Test.YtngofbhlhcalpaaGreatDoorZ01
import Derived.Test.YtngofbhlhcalpaaGreatDoorZ05
namespace Go.Proofs
open Go.RowKit

def Tryz.lays7_30_ren : Go.Shelf.Ren := ⟨fun | 30 => 98 | 47 => 112 | n => n, fun | 0 => 0 | 3 => 3 | 4 => 4 | 5 => 5 | 21 => 21 | 25 => 162 | 27 => 121 | 30 => 44 | n => n, fun | n => n⟩
theorem Tryz.lays7_30 : Go.Proofs.Lays7.n30 Tryz.prog Tryz.lays7_30_ren := {
  mixed := by kernel_rfl
  f30 := Tryz.func98.trans (congrArg some (by kernel_rfl))
  f47 := Tryz.func112.trans (congrArg some (by kernel_rfl))
  t0 := Tryz.underlying0
  a0 := Tryz.isAgg0
  z0 := Tryz.sizeOf0
  v0 := Tryz.zeroValue0
  i0 := by kernel_rfl
  t3 := Tryz.underlying3
  a3 := Tryz.isAgg3
  z3 := Tryz.sizeOf3
  v3 := Tryz.zeroValue3
  i3 := by kernel_rfl
  t4 := Tryz.underlying4
  a4 := Tryz.isAgg4
  z4 := Tryz.sizeOf4
  v4 := Tryz.zeroValue4
  i4 := by kernel_rfl
  t5 := Tryz.underlying5
  a5 := Tryz.isAgg5
  z5 := Tryz.sizeOf5
  v5 := Tryz.zeroValue5
  i5 := by kernel_rfl
  t21 := Tryz.underlying21
  a21 := Tryz.isAgg21
  z21 := Tryz.sizeOf21
  v21 := Tryz.zeroValue21
  i21 := by kernel_rfl
  t25 := Tryz.underlying162
  a25 := Tryz.isAgg162
  z25 := Tryz.sizeOf162
  v25 := Tryz.zeroValue162
  i25 := by kernel_rfl
  t27 := Tryz.underlying121
  a27 := Tryz.isAgg121
  z27 := Tryz.sizeOf121
  v27 := Tryz.zeroValue121
  i27 := by kernel_rfl
  t30 := Tryz.underlying44
  a30 := Tryz.isAgg44
  z30 := Tryz.sizeOf44
  v30 := Tryz.zeroValue44
  i30 := by kernel_rfl }

theorem Tryz.utf8_EncodeRune (b off len cap : Nat) (r : Int) (hlo : -2147483648 ≤ r) (hhi : r ≤ 2147483647) (w : World) (hl : (Lib.runeCells r).length ≤ len)
    (hc : ∀ j, j < (Lib.runeCells r).length → (w.cell? ⟨b, off + j, none⟩).isSome = true) (hf : ∀ j, j < (Lib.runeCells r).length → w.frozen? ⟨b, off + j, none⟩ = false) :
    Calls Tryz.prog 98 #[.slice (some ⟨b, off, none⟩) len cap, .int .i32 r] w fun e w' => e = .returned (.int .i64 (Lib.runeCells r).length) ∧ w' = w.setCells b off (Lib.runeCells r) :=
  Any7.utf8_EncodeRune Tryz.lays7_30 b off len cap r hlo hhi w hl hc hf

end Go.Proofs

namespace Go.Proofs.YtngofbhlhcalpaaGreatDoor.lexer
open Go.RowKit Go.Proofs.YtngofbhlhcalpaaGreatDoor.gen
open Go.Proofs.YtngofbhlhcalpaaGreatDoor.upper (bv bv_len)

theorem u8s_cells (D : Nat) (h : scalar D = true) : bv (u8s D) = Go.Lib.runeCells (D : Int) := by
  have hs : D < 55296 ∨ (57344 ≤ D ∧ D ≤ 1114111) := by simpa [scalar] using h
  unfold u8s
  split
  · rw [Go.Lib.runeCells, Go.Lib.encodeRuneZ_one (by omega) (by omega)]; simp [bv]; omega
  · split
    · rw [Go.Lib.runeCells, Go.Lib.encodeRuneZ_two (by omega) (by omega)]; simp [bv]; omega
    · split
      · rw [Go.Lib.runeCells, Go.Lib.encodeRuneZ_three (by omega)]; simp [bv]; omega
      · rw [Go.Lib.runeCells, Go.Lib.encodeRuneZ_four (by omega) (by omega)]; simp [bv]; omega

theorem u8s_len (D : Nat) : 0 < (u8s D).length ∧ (u8s D).length ≤ 4 := by
  unfold u8s
  repeat' split
  all_goals simp

theorem runeCells_len (D : Nat) (h : scalar D = true) : (Go.Lib.runeCells (D : Int)).length = (u8s D).length := by rw [← u8s_cells D h, bv_len]

theorem esc_u (d : UInt8) (r : List UInt8) (N : Nat) (hd : (nn d = 117 ∧ N = 4) ∨ (nn d = 85 ∧ N = 8)) :
    esc true (d :: r) = (hexN N r).bind fun u => if scalar u then some (u8s u, 2 + N) else none := by
  rcases hd with ⟨h, rfl⟩ | ⟨h, rfl⟩ <;> simp [esc, simple, h]
theorem esc_u_no (d : UInt8) (r : List UInt8) (hd : nn d = 117 ∨ nn d = 85) : esc false (d :: r) = none := by
  rcases hd with h | h <;> simp [esc, simple, h]

/-- The world behind EncodeRune in a new block. -/
theorem enc_world {w w1 W : World} {v : Value} {xs : List Value} {o : Obj} {vs : List Value} (hF : Frm w w1 []) (hO : OwnC w1 w.heap.size v xs) (hW : W = (w1.alloc o).setCells w1.heap.size 0 vs) :
    Frm w W [] ∧ OwnC W w.heap.size v xs := by
  subst hW
  have hg := grownBy_setCells (w1.alloc o) w1.heap.size 0 vs
  refine ⟨(hF.alloc o).trans (Frm.grown (S := [w1.heap.size]) hg (by intro k hk; left; simpa using hk.symm)) (by intro y hy; right; have := hF.size; simp at hy; omega), ?_⟩
  refine (hO.alloc o).kept hg ?_
  cases hv : v.ownBlock with
  | none => exact .inl rfl
  | some g =>
    right
    intro h
    have := (hO.lt g hv).2
    cases h
    omega

theorem take_all_of (s : ByteArray) (p N n : Nat) (c : UInt8) (hp : p + N ≤ s.size) (hn : n < N) (hc : byt s ((p + n : Nat) : Int) = nn c) : ((suf s p).take N)[n]? = some c := by
  rw [List.getElem?_take, if_pos hn]
  rcases suf_byt s (p + n) with ⟨_, _, h⟩ | ⟨d, h1, h2, _⟩
  · omega
  · rw [hc] at h1
    have h3 : c = d := by
      have : c.toNat = d.toNat := by unfold nn at h1; omega
      exact UInt8.toNat_inj.1 this
    have h4 : (suf s (p + n))[0]? = some d := by rw [h2]; rfl
    unfold suf at h4 ⊢
    rw [List.getElem?_drop] at h4
    rw [List.getElem?_drop, h3]
    simpa using h4

theorem take_snoc_all (l : List UInt8) (f : UInt8 → Bool) (N n : Nat) (c : UInt8) (h : (l.take N)[n]? = some c) (h1 : (l.take n).all f = true) (h2 : f c = true) : (l.take (n + 1)).all f = true := by
  rw [List.getElem?_take] at h
  split at h
  · have hl := (List.getElem?_eq_some_iff.1 h).1
    rw [List.take_succ_eq_append_getElem hl, List.all_append, h1]
    have : l[n] = c := (List.getElem?_eq_some_iff.1 h).2
    simp [this, h2]
  · cases h

theorem byte_at (s : ByteArray) (p n : Nat) (h : p + n < s.size) : ∃ c : UInt8, byt s ((p + n : Nat) : Int) = nn c := ⟨s[p + n], byt_in s (p + n) h⟩

end Go.Proofs.YtngofbhlhcalpaaGreatDoor.lexer

namespace Go.Proofs.YtngofbhlhcalpaaGreatDoor.lexer
open Go.RowKit Go.Proofs.YtngofbhlhcalpaaGreatDoor.gen
open Go.Proofs.YtngofbhlhcalpaaGreatDoor.upper (bv bv_len)



set_option maxRecDepth 100000 in
set_option maxHeartbeats 16000000 in
theorem round_uniNone
    (lb fb : Nat) (fp s : ByteArray) (x : LX) (q nm : ByteArray) (raw uni ident np : Bool) (z : List UInt8 × Nat × QEnd) (w : World) (k : Nat) (l : List UInt8) (he : Bool) (v : Value) (wr : World) (U : Nat → Value)
        (H : QCtx lb fb fp s x q nm raw uni ident np z w k l he v wr)
    (c d : UInt8) (hb : byt s ((x.p : Int) + (k : Int)) = nn c) (h92 : nn c = 92) (hbd : byt s ((x.p + k + 1 : Nat) : Int) = nn d) (hsuf : suf s (x.p + k) = c :: d :: suf s (x.p + k + 2)) (hlt : x.p + k + 1 < s.size) (hcl : ((suf s (x.p + k)).take q.data.toList.length == q.data.toList) = false)
    (hraw : raw = false) (huni : uni = false) (hd : nn d = 117 ∨ nn d = 85) :
    Code.wp Tryz.prog qBody (QPost lb fb fp s x q nm raw uni ident np z w k) ⟨QFr lb q nm raw uni np (.int .i64 k) v (.bool he) (uls U), []⟩ wr := by
  have hsz := H.size
  have hsz2 : s.size ≤ 2147483647 := by omega
  have hki := H.qs.hi
  have hQk := H.qs.lo
  obtain ⟨hqp, hq3⟩ := H.qpos
  have hlk := H.qs.len
  have hR := H.st'.rd
  have HH := Lib.hid H
  clear H
  unfold QFr uls
  conv => arg 2; whnf
  subst hraw huni
  have HQ := Lib.hid (qr_other (uni := false) hsuf hcl h92 (esc_u_no d _ hd))
  have hb1 : byt s ((x.p : Int) + ((k : Int) + 1)) = nn d := by rw [← hbd, show ((x.p : Int) + ((k : Int) + 1)) = (((x.p + k + 1 : Nat) : Int)) from by omega]
  have hbdd := nn_bd d
  have hb92 : byt s ((x.p : Int) + (k : Int)) = 92 := by rw [hb, h92]
  clear hb hbd
  have e2 : IntKind.i64.wrap ((x.p : Int) + ((k : Int) + 1 + 1)) = (x.p : Int) + (k : Int) + 2 := by rw [IntWalk.i64_in _ (by omega)]; omega
  have e3 : IntKind.i64.wrap ((x.p : Int) + (k : Int) + 2 - 2) = (x.p : Int) + (k : Int) := by rw [IntWalk.i64_in _ (by omega)]; omega
  clear h92
  rcases hd with hd | hd
  all_goals
    rw [hd] at hb1
    clear hd hbdd
    cases np with
    | true =>
      have hlt3 : (x.p : Int) + (k : Int) < s.size := by omega
      obtain ⟨t, ht⟩ : ∃ t, t = s.extract (x.p + k) (min (x.p + (k + q.size)) s.size) := ⟨_, rfl⟩
      have htq : (t.toList == q.toList) = false := by rw [ht, delim_eq]; exact hcl
      have HT := Lib.hid ht
      have HC := Lib.hid hcl
      have HU := Lib.hid hsuf
      clear ht hcl hsuf
      go_wp2_with (first | (go_at_call 67; first | ((with_reducible refine (peekOk_yes _ _ _ _ _ _ (hR.drewN _) ?_).mono ?_); omega; rintro e w' ⟨rfl, nq, rfl⟩) | ((with_reducible refine (peekOk_yes _ _ _ _ _ _ hR ?_).mono ?_); omega; rintro e w' ⟨rfl, nq, rfl⟩) | ((with_reducible refine (peekOk_no _ _ _ _ _ _ (hR.drewN _) ?_).mono ?_); omega; rintro e w' ⟨rfl, nq, rfl⟩) | ((with_reducible refine (peekOk_no _ _ _ _ _ _ hR ?_).mono ?_); omega; rintro e w' ⟨rfl, nq, rfl⟩)))
      refine (slice_int lb fb s x.p _ _ k (k + q.size) t _ (hR.drewN _) (by omega) (by omega) (by omega) (by omega) (by omega) HT.out).mono ?_
      rintro e w' ⟨rfl, nq, rfl⟩
      go_wp2_with (first | (go_at_call 69; first | ((with_reducible refine (peek_any _ _ _ _ _ _ _ (hR.drewN _) ⟨?_, ?_, by assumption⟩).mono ?_); omega; omega; rintro e w' ⟨rfl, nq, rfl⟩) | ((with_reducible refine (peek_any _ _ _ _ _ _ _ hR ⟨?_, ?_, by assumption⟩).mono ?_); omega; omega; rintro e w' ⟨rfl, nq, rfl⟩)) | (go_at_call 67; first | ((with_reducible refine (peekOk_yes _ _ _ _ _ _ (hR.drewN _) ?_).mono ?_); omega; rintro e w' ⟨rfl, nq, rfl⟩) | ((with_reducible refine (peekOk_yes _ _ _ _ _ _ hR ?_).mono ?_); omega; rintro e w' ⟨rfl, nq, rfl⟩) | ((with_reducible refine (peekOk_no _ _ _ _ _ _ (hR.drewN _) ?_).mono ?_); omega; rintro e w' ⟨rfl, nq, rfl⟩) | ((with_reducible refine (peekOk_no _ _ _ _ _ _ hR ?_).mono ?_); omega; rintro e w' ⟨rfl, nq, rfl⟩)))
      exact QPost.next rfl (by omega) (QCtx.next HH.out (HH.out.drewN _).frm (HH.out.drewN _).own (HH.out.qs.fault rfl (fun _ => by rw [HQ.out]; simp) 2 (by omega) true)) (by omega)
    | false =>
      have HB := Lib.hid (bad_esc HH.out HQ.out)
      have hlt3 : (x.p : Int) + (k : Int) < s.size := by omega
      obtain ⟨t, ht⟩ : ∃ t, t = s.extract (x.p + k) (min (x.p + (k + q.size)) s.size) := ⟨_, rfl⟩
      have htq : (t.toList == q.toList) = false := by rw [ht, delim_eq]; exact hcl
      have HT := Lib.hid ht
      have HC := Lib.hid hcl
      have HU := Lib.hid hsuf
      clear ht hcl hsuf
      go_wp2_with (first | (go_at_call 67; first | ((with_reducible refine (peekOk_yes _ _ _ _ _ _ (hR.drewN _) ?_).mono ?_); omega; rintro e w' ⟨rfl, nq, rfl⟩) | ((with_reducible refine (peekOk_yes _ _ _ _ _ _ hR ?_).mono ?_); omega; rintro e w' ⟨rfl, nq, rfl⟩) | ((with_reducible refine (peekOk_no _ _ _ _ _ _ (hR.drewN _) ?_).mono ?_); omega; rintro e w' ⟨rfl, nq, rfl⟩) | ((with_reducible refine (peekOk_no _ _ _ _ _ _ hR ?_).mono ?_); omega; rintro e w' ⟨rfl, nq, rfl⟩)))
      refine (slice_int lb fb s x.p _ _ k (k + q.size) t _ (hR.drewN _) (by omega) (by omega) (by omega) (by omega) (by omega) HT.out).mono ?_
      rintro e w' ⟨rfl, nq, rfl⟩
      go_wp2_with (first | (go_at_call 69; first | ((with_reducible refine (peek_any _ _ _ _ _ _ _ (hR.drewN _) ⟨?_, ?_, by assumption⟩).mono ?_); omega; omega; rintro e w' ⟨rfl, nq, rfl⟩) | ((with_reducible refine (peek_any _ _ _ _ _ _ _ hR ⟨?_, ?_, by assumption⟩).mono ?_); omega; omega; rintro e w' ⟨rfl, nq, rfl⟩)) | (go_at_call 67; first | ((with_reducible refine (peekOk_yes _ _ _ _ _ _ (hR.drewN _) ?_).mono ?_); omega; rintro e w' ⟨rfl, nq, rfl⟩) | ((with_reducible refine (peekOk_yes _ _ _ _ _ _ hR ?_).mono ?_); omega; rintro e w' ⟨rfl, nq, rfl⟩) | ((with_reducible refine (peekOk_no _ _ _ _ _ _ (hR.drewN _) ?_).mono ?_); omega; rintro e w' ⟨rfl, nq, rfl⟩) | ((with_reducible refine (peekOk_no _ _ _ _ _ _ hR ?_).mono ?_); omega; rintro e w' ⟨rfl, nq, rfl⟩)))
      have c0 : wr.cell? ⟨lb, 0, none⟩ = some (.pointer (some ⟨fb, 0, none⟩)) := hR.c0
      have c9 : wr.cell? ⟨lb, 9, none⟩ = some (.int .i64 (x.p : Int)) := hR.c9
      refine region_tail 14 (by kernel_rfl) (by kernel_rfl) fun W hW => ?_
      have HW := Lib.hid (show QCtx lb fb fp s x q nm _ _ ident false z w _ _ _ _ W from hW ▸ (HH.out.drewN _).drewN 1)
      clear hW
      have c9d : W.cell? ⟨lb, 9, none⟩ = some (.int .i64 (x.p : Int)) := HW.out.st'.rd.c9
      simp only [List.take_succ_cons, List.take_zero, List.drop_succ_cons, List.drop_zero]
      repeat still_step
      refine wpStill_nil ?_
      go_wp2_with fail
      refine (panicfAt_int lb fb fp s x _ _ (x.p + k) (x.p + k + 2) _ _ hsz (by omega) (by omega) (by omega) (by omega) HW.out.st' HW.out.env').mono ?_
      rintro e w6 ⟨eb, rfl, hea, hl, hf⟩
      go_wp2_with fail
      exact ⟨rfl, .inr (.inl ⟨k, HB.out, rfl, _, rfl, hea, Nat.le_trans HW.out.frm.size hl, (HW.out.frm.mono (by simp)).step (hf.mono (by simp))⟩)⟩

end Go.Proofs.YtngofbhlhcalpaaGreatDoor.lexer

namespace Go.Proofs.YtngofbhlhcalpaaGreatDoor.lexer
open Go.RowKit Go.Proofs.YtngofbhlhcalpaaGreatDoor.gen
open Go.Proofs.YtngofbhlhcalpaaGreatDoor.upper (bv bv_len)



set_option maxRecDepth 100000 in
set_option maxHeartbeats 16000000 in
theorem round_uniGood
    (lb fb : Nat) (fp s : ByteArray) (x : LX) (q nm : ByteArray) (raw uni ident np : Bool) (z : List UInt8 × Nat × QEnd) (w : World) (k : Nat) (l : List UInt8) (he : Bool) (v : Value) (wr : World) (U : Nat → Value)
        (H : QCtx lb fb fp s x q nm raw uni ident np z w k l he v wr)
    (c d : UInt8) (hb : byt s ((x.p : Int) + (k : Int)) = nn c) (h92 : nn c = 92) (hbd : byt s ((x.p + k + 1 : Nat) : Int) = nn d) (hsuf : suf s (x.p + k) = c :: d :: suf s (x.p + k + 2)) (hlt : x.p + k + 1 < s.size) (hcl : ((suf s (x.p + k)).take q.data.toList.length == q.data.toList) = false)
    (N : Nat) (hN : x.p + k + 2 + N ≤ s.size)
    (hraw : raw = false) (huni : uni = true) (hd : (nn d = 117 ∧ N = 4) ∨ (nn d = 85 ∧ N = 8))
    (hall : ((suf s (x.p + k + 2)).take N).all (fun c => hx (nn c)) = true) (D : Nat) (hDe : D = dvs 16 ((suf s (x.p + k + 2)).take N)) (hsc : scalar D = true) :
    Code.wp Tryz.prog qBody (QPost lb fb fp s x q nm raw uni ident np z w k) ⟨QFr lb q nm raw uni np (.int .i64 k) v (.bool he) (uls U), []⟩ wr := by
  have hsz := H.size
  have hsz2 : s.size ≤ 2147483647 := by omega
  have hki := H.qs.hi
  have hQk := H.qs.lo
  obtain ⟨hqp, hq3⟩ := H.qpos
  have hlk := H.qs.len
  have hR := H.st'.rd
  have HH := Lib.hid H
  clear H
  unfold QFr uls
  conv => arg 2; whnf
  subst hraw huni
  have hsufd : (suf s (x.p + k + 2)).length = s.size - (x.p + k + 2) := suf_len s _
  obtain ⟨t2, ht2⟩ : ∃ t2, t2 = s.extract (x.p + (k + 2)) (min (x.p + (k + 2 + N)) s.size) := ⟨_, rfl⟩
  have hl2 : t2.data.toList = (suf s (x.p + k + 2)).take N := by
    rw [ht2, show x.p + (k + 2 + N) = x.p + (k + 2) + N from by omega, ext_suf_min, show x.p + (k + 2) = x.p + k + 2 from by omega]
  have hs2 : t2.size = N := by rw [← len_list, hl2, List.length_take]; omega
  have hN8 : 0 < N ∧ N ≤ 8 := by rcases hd with ⟨_, h⟩ | ⟨_, h⟩ <;> omega
  have hesc : esc true (d :: suf s (x.p + k + 2)) = if scalar D then some (u8s D, 2 + N) else none := by
    rw [esc_u d _ N hd, hexN, if_pos ⟨by omega, hall⟩, ← hDe]; rfl
  rw [hsc] at hesc
  have HQ := Lib.hid (qr_escape (uni := true) (bs := u8s D) (n := 2 + N) hsuf hcl h92 (by omega) hesc)
  have hparse : ∀ W, Syn W → Calls Tryz.prog 97 #[.string t2, .int .i64 16, .int .i64 32] W (ParseOk D W) := fun W hW => by
    have := parse_16_32 t2 W hW (by omega) (by omega) (fun j hj => by have := dvs_hex t2.data.toList 8 (by rw [len_list]; omega) j hj; simpa using this) true (by rw [hl2]; exact hall)
    rw [hl2, ← hDe] at this
    exact this
  have HT2 := Lib.hid ht2
  have HP := Lib.hid hparse
  have HA := Lib.hid hall
  have HSC := Lib.hid hsc
  have hD32 : D ≤ 4294967295 := by
    have := dvs_hex ((suf s (x.p + k + 2)).take N) 8 (by rw [List.length_take]; omega) N (by rw [List.take_take, Nat.min_self]; exact hall)
    rw [List.take_take, Nat.min_self, ← hDe] at this
    simpa using this
  have hsc2 : D < 55296 ∨ (57344 ≤ D ∧ D ≤ 1114111) := by simpa [scalar] using hsc
  clear hDe ht2 hl2 hs2 hparse hall hesc hsc
  have hb1 : byt s ((x.p : Int) + ((k : Int) + 1)) = nn d := by rw [← hbd, show ((x.p : Int) + ((k : Int) + 1)) = (((x.p + k + 1 : Nat) : Int)) from by omega]
  have hbdd := nn_bd d
  have hb92 : byt s ((x.p : Int) + (k : Int)) = 92 := by rw [hb, h92]
  clear hb hbd
  clear h92
  rcases hd with ⟨hd, hNN⟩ | ⟨hd, hNN⟩
  case inl =>
    rw [hd] at hb1
    subst hNN
    clear hd hbdd
    have hlt3 : (x.p : Int) + (k : Int) < s.size := by omega
    obtain ⟨t, ht⟩ : ∃ t, t = s.extract (x.p + k) (min (x.p + (k + q.size)) s.size) := ⟨_, rfl⟩
    have htq : (t.toList == q.toList) = false := by rw [ht, delim_eq]; exact hcl
    have HT := Lib.hid ht
    have HC := Lib.hid hcl
    have HU := Lib.hid hsuf
    clear ht hcl hsuf
    go_wp2_with (first | (go_at_call 67; first | ((with_reducible refine (peekOk_yes _ _ _ _ _ _ (hR.drewN _) ?_).mono ?_); omega; rintro e w' ⟨rfl, nq, rfl⟩) | ((with_reducible refine (peekOk_yes _ _ _ _ _ _ hR ?_).mono ?_); omega; rintro e w' ⟨rfl, nq, rfl⟩) | ((with_reducible refine (peekOk_no _ _ _ _ _ _ (hR.drewN _) ?_).mono ?_); omega; rintro e w' ⟨rfl, nq, rfl⟩) | ((with_reducible refine (peekOk_no _ _ _ _ _ _ hR ?_).mono ?_); omega; rintro e w' ⟨rfl, nq, rfl⟩)))
    refine (slice_int lb fb s x.p _ _ k (k + q.size) t _ (hR.drewN _) (by omega) (by omega) (by omega) (by omega) (by omega) HT.out).mono ?_
    rintro e w' ⟨rfl, nq, rfl⟩
    go_wp2_with (first | (go_at_call 69; first | ((with_reducible refine (peek_any _ _ _ _ _ _ _ (hR.drewN _) ⟨?_, ?_, by assumption⟩).mono ?_); omega; omega; rintro e w' ⟨rfl, nq, rfl⟩) | ((with_reducible refine (peek_any _ _ _ _ _ _ _ hR ⟨?_, ?_, by assumption⟩).mono ?_); omega; omega; rintro e w' ⟨rfl, nq, rfl⟩)) | (go_at_call 67; first | ((with_reducible refine (peekOk_yes _ _ _ _ _ _ (hR.drewN _) ?_).mono ?_); omega; rintro e w' ⟨rfl, nq, rfl⟩) | ((with_reducible refine (peekOk_yes _ _ _ _ _ _ hR ?_).mono ?_); omega; rintro e w' ⟨rfl, nq, rfl⟩) | ((with_reducible refine (peekOk_no _ _ _ _ _ _ (hR.drewN _) ?_).mono ?_); omega; rintro e w' ⟨rfl, nq, rfl⟩) | ((with_reducible refine (peekOk_no _ _ _ _ _ _ hR ?_).mono ?_); omega; rintro e w' ⟨rfl, nq, rfl⟩)))
    go_loopw [23, 16] (fun j h wx => ∃ (n m : Nat), j = .int .i64 n ∧ n ≤ 4 ∧ h = .bool he ∧ wx = wr.drewN m) (fun j _ _ => 4 - (intOf j).toNat)
    case atStart => exact ⟨0, _, rfl, by omega, rfl, rfl⟩
    case round =>
      obtain ⟨n, m, rfl, hn, rfl, rfl⟩ := hrel
      by_cases hlt9 : n < 4
      case pos =>
        obtain ⟨c2, hbc⟩ := byte_at s x.p (k + 2 + n) (by omega)
        have hbdc := nn_bd c2
        have hat : ((suf s (x.p + k + 2)).take 4)[n]? = some c2 := take_all_of s (x.p + k + 2) _ n c2 (by omega) (by omega) (by rw [← hbc]; congr 1; omega)
        have hxc : hx (nn c2) = true := List.all_eq_true.1 HA.out c2 (List.mem_of_getElem? hat)
        clear hat
        go_wp2_with (first | (go_at_call 69; ((with_reducible refine (peek_at lb fb s x.p _ _ (k + 2 + n) _ (hR.drewN _) ?_ ?_ hbc).mono ?_); omega; omega; rintro e w' ⟨rfl, nq, rfl⟩)) | (first | (go_at_call 67; first | ((with_reducible refine (peekOk_yes _ _ _ _ _ _ (hR.drewN _) ?_).mono ?_); omega; rintro e w' ⟨rfl, nq, rfl⟩) | ((with_reducible refine (peekOk_yes _ _ _ _ _ _ hR ?_).mono ?_); omega; rintro e w' ⟨rfl, nq, rfl⟩) | ((with_reducible refine (peekOk_no _ _ _ _ _ _ (hR.drewN _) ?_).mono ?_); omega; rintro e w' ⟨rfl, nq, rfl⟩) | ((with_reducible refine (peekOk_no _ _ _ _ _ _ hR ?_).mono ?_); omega; rintro e w' ⟨rfl, nq, rfl⟩)) | (go_at_call 69; first | ((with_reducible refine (peek_any _ _ _ _ _ _ _ (hR.drewN _) ⟨?_, ?_, by assumption⟩).mono ?_); omega; omega; rintro e w' ⟨rfl, nq, rfl⟩) | ((with_reducible refine (peek_any _ _ _ _ _ _ _ hR ⟨?_, ?_, by assumption⟩).mono ?_); omega; omega; rintro e w' ⟨rfl, nq, rfl⟩)) | (go_at_call 95; refine (isHex_any _ _).mono ?_; rintro e w' ⟨rfl, rfl⟩)))
        go_roundw
        case rel => exact ⟨n + 1, _, by go_num, by omega, rfl, rfl⟩
        case measure => simp [intOf]; omega
      case neg =>
        obtain rfl : n = 4 := by omega
        go_wp2_with fail
        refine (slice_int lb fb s x.p _ _ (k + 2) (k + 2 + 4) t2 _ (hR.drewN _) (by omega) (by omega) (by omega) (by omega) (by omega) HT2.out).mono ?_
        rintro e w' ⟨rfl, nq, rfl⟩
        go_wp2_with fail
        refine (HP.out _ (HH.out.drewN _).env'.tabs.syn).mono ?_
        rintro e w1 ⟨rfl, hbel⟩
        have HH1 := Lib.hid (HH.out.next ((HH.out.drewN _).frm.step (Frm.ofBelow hbel [])) ((HH.out.drewN _).own.below hbel) HH.out.qs)
        clear hbel HP
        rcases hsc2 with hsc2 | ⟨hsc2, hsc3⟩
        all_goals
          go_wp2_with fail
          refine (Tryz.utf8_EncodeRune _ 0 4 4 _ (by omega) (by omega) _ ?_ ?_ ?_).mono ?_
          · rw [runeCells_len D HSC.out]; exact (u8s_len D).2
          · intro j hj
            rw [runeCells_len D HSC.out] at hj
            have := (u8s_len D).2
            rcases (show j = 0 ∨ j = 1 ∨ j = 2 ∨ j = 3 by omega) with rfl | rfl | rfl | rfl <;> simp
          · intro j hj
            exact block_free (heap_alloc_new w1 _) _
          rintro e W ⟨rfl, hW⟩
          have hEW := enc_world HH1.out.frm HH1.out.own hW
          have hcells : ∀ j u, (bv (u8s D))[j]? = some u → W.cell? ((⟨w1.heap.size, 0, none⟩ : Addr).add j) = some u := by
            intro j u hj
            rw [u8s_cells D HSC.out] at hj
            rw [hW]
            have hjl := (List.getElem?_eq_some_iff.1 hj).1
            have := World.cell?_setCells_in w1.heap.size (Go.Lib.runeCells (D : Int)) 0 (w1.alloc (.cells #[.int .u8 0, .int .u8 0, .int .u8 0, .int .u8 0] 158)) (fun j hj => by
              rw [runeCells_len D HSC.out] at hj
              have := (u8s_len D).2
              rcases (show j = 0 ∨ j = 1 ∨ j = 2 ∨ j = 3 by omega) with rfl | rfl | rfl | rfl <;> simp) j hjl
            refine Eq.trans ?_ (this.trans ((List.getElem?_eq_getElem hjl).symm.trans hj))
            congr 1
            simp [Addr.add]
            try (intro h; omega)
          have hlen := runeCells_len D HSC.out
          rw [hlen]
          have hEW1 := Lib.hid hEW
          have hcells1 := Lib.hid hcells
          obtain ⟨hu1, hu2⟩ := u8s_len D
          have hu3 : ((u8s D).length : Int) ≤ 4 := by omega
          have hu4 : (0 : Int) ≤ ((u8s D).length : Int) := by omega
          clear hW hEW hcells hlen
          go_wp2_with (at_builtin; refine app_list hEW1.out.1 hEW1.out.2 rfl (.tmp 381) (.tmp 383) rfl rfl ⟨w1.heap.size, 0, none⟩ _ 4 (u8s D) rfl rfl hu1 (by omega) hcells1.out (by omega) ?_)
          intro g' cap' w2 hO hF
          go_wp2_with fail
          exact QPost.next rfl (by omega) (QCtx.next HH.out hF hO (HH.out.qs.on (2 + 4) (u8s D) (by omega) (by omega) HQ.out)) (by omega)
  case inr =>
    rw [hd] at hb1
    subst hNN
    clear hd hbdd
    have hlt3 : (x.p : Int) + (k : Int) < s.size := by omega
    obtain ⟨t, ht⟩ : ∃ t, t = s.extract (x.p + k) (min (x.p + (k + q.size)) s.size) := ⟨_, rfl⟩
    have htq : (t.toList == q.toList) = false := by rw [ht, delim_eq]; exact hcl
    have HT := Lib.hid ht
    have HC := Lib.hid hcl
    have HU := Lib.hid hsuf
    clear ht hcl hsuf
    go_wp2_with (first | (go_at_call 67; first | ((with_reducible refine (peekOk_yes _ _ _ _ _ _ (hR.drewN _) ?_).mono ?_); omega; rintro e w' ⟨rfl, nq, rfl⟩) | ((with_reducible refine (peekOk_yes _ _ _ _ _ _ hR ?_).mono ?_); omega; rintro e w' ⟨rfl, nq, rfl⟩) | ((with_reducible refine (peekOk_no _ _ _ _ _ _ (hR.drewN _) ?_).mono ?_); omega; rintro e w' ⟨rfl, nq, rfl⟩) | ((with_reducible refine (peekOk_no _ _ _ _ _ _ hR ?_).mono ?_); omega; rintro e w' ⟨rfl, nq, rfl⟩)))
    refine (slice_int lb fb s x.p _ _ k (k + q.size) t _ (hR.drewN _) (by omega) (by omega) (by omega) (by omega) (by omega) HT.out).mono ?_
    rintro e w' ⟨rfl, nq, rfl⟩
    go_wp2_with (first | (go_at_call 69; first | ((with_reducible refine (peek_any _ _ _ _ _ _ _ (hR.drewN _) ⟨?_, ?_, by assumption⟩).mono ?_); omega; omega; rintro e w' ⟨rfl, nq, rfl⟩) | ((with_reducible refine (peek_any _ _ _ _ _ _ _ hR ⟨?_, ?_, by assumption⟩).mono ?_); omega; omega; rintro e w' ⟨rfl, nq, rfl⟩)) | (go_at_call 67; first | ((with_reducible refine (peekOk_yes _ _ _ _ _ _ (hR.drewN _) ?_).mono ?_); omega; rintro e w' ⟨rfl, nq, rfl⟩) | ((with_reducible refine (peekOk_yes _ _ _ _ _ _ hR ?_).mono ?_); omega; rintro e w' ⟨rfl, nq, rfl⟩) | ((with_reducible refine (peekOk_no _ _ _ _ _ _ (hR.drewN _) ?_).mono ?_); omega; rintro e w' ⟨rfl, nq, rfl⟩) | ((with_reducible refine (peekOk_no _ _ _ _ _ _ hR ?_).mono ?_); omega; rintro e w' ⟨rfl, nq, rfl⟩)))
    go_loopw [23, 16] (fun j h wx => ∃ (n m : Nat), j = .int .i64 n ∧ n ≤ 8 ∧ h = .bool he ∧ wx = wr.drewN m) (fun j _ _ => 8 - (intOf j).toNat)
    case atStart => exact ⟨0, _, rfl, by omega, rfl, rfl⟩
    case round =>
      obtain ⟨n, m, rfl, hn, rfl, rfl⟩ := hrel
      by_cases hlt9 : n < 8
      case pos =>
        obtain ⟨c2, hbc⟩ := byte_at s x.p (k + 2 + n) (by omega)
        have hbdc := nn_bd c2
        have hat : ((suf s (x.p + k + 2)).take 8)[n]? = some c2 := take_all_of s (x.p + k + 2) _ n c2 (by omega) (by omega) (by rw [← hbc]; congr 1; omega)
        have hxc : hx (nn c2) = true := List.all_eq_true.1 HA.out c2 (List.mem_of_getElem? hat)
        clear hat
        go_wp2_with (first | (go_at_call 69; ((with_reducible refine (peek_at lb fb s x.p _ _ (k + 2 + n) _ (hR.drewN _) ?_ ?_ hbc).mono ?_); omega; omega; rintro e w' ⟨rfl, nq, rfl⟩)) | (first | (go_at_call 67; first | ((with_reducible refine (peekOk_yes _ _ _ _ _ _ (hR.drewN _) ?_).mono ?_); omega; rintro e w' ⟨rfl, nq, rfl⟩) | ((with_reducible refine (peekOk_yes _ _ _ _ _ _ hR ?_).mono ?_); omega; rintro e w' ⟨rfl, nq, rfl⟩) | ((with_reducible refine (peekOk_no _ _ _ _ _ _ (hR.drewN _) ?_).mono ?_); omega; rintro e w' ⟨rfl, nq, rfl⟩) | ((with_reducible refine (peekOk_no _ _ _ _ _ _ hR ?_).mono ?_); omega; rintro e w' ⟨rfl, nq, rfl⟩)) | (go_at_call 69; first | ((with_reducible refine (peek_any _ _ _ _ _ _ _ (hR.drewN _) ⟨?_, ?_, by assumption⟩).mono ?_); omega; omega; rintro e w' ⟨rfl, nq, rfl⟩) | ((with_reducible refine (peek_any _ _ _ _ _ _ _ hR ⟨?_, ?_, by assumption⟩).mono ?_); omega; omega; rintro e w' ⟨rfl, nq, rfl⟩)) | (go_at_call 95; refine (isHex_any _ _).mono ?_; rintro e w' ⟨rfl, rfl⟩)))
        go_roundw
        case rel => exact ⟨n + 1, _, by go_num, by omega, rfl, rfl⟩
        case measure => simp [intOf]; omega
      case neg =>
        obtain rfl : n = 8 := by omega
        go_wp2_with fail
        refine (slice_int lb fb s x.p _ _ (k + 2) (k + 2 + 8) t2 _ (hR.drewN _) (by omega) (by omega) (by omega) (by omega) (by omega) HT2.out).mono ?_
        rintro e w' ⟨rfl, nq, rfl⟩
        go_wp2_with fail
        refine (HP.out _ (HH.out.drewN _).env'.tabs.syn).mono ?_
        rintro e w1 ⟨rfl, hbel⟩
        have HH1 := Lib.hid (HH.out.next ((HH.out.drewN _).frm.step (Frm.ofBelow hbel [])) ((HH.out.drewN _).own.below hbel) HH.out.qs)
        clear hbel HP
        rcases hsc2 with hsc2 | ⟨hsc2, hsc3⟩
        all_goals
          go_wp2_with fail
          refine (Tryz.utf8_EncodeRune _ 0 4 4 _ (by omega) (by omega) _ ?_ ?_ ?_).mono ?_
          · rw [runeCells_len D HSC.out]; exact (u8s_len D).2
          · intro j hj
            rw [runeCells_len D HSC.out] at hj
            have := (u8s_len D).2
            rcases (show j = 0 ∨ j = 1 ∨ j = 2 ∨ j = 3 by omega) with rfl | rfl | rfl | rfl <;> simp
          · intro j hj
            exact block_free (heap_alloc_new w1 _) _
          rintro e W ⟨rfl, hW⟩
          have hEW := enc_world HH1.out.frm HH1.out.own hW
          have hcells : ∀ j u, (bv (u8s D))[j]? = some u → W.cell? ((⟨w1.heap.size, 0, none⟩ : Addr).add j) = some u := by
            intro j u hj
            rw [u8s_cells D HSC.out] at hj
            rw [hW]
            have hjl := (List.getElem?_eq_some_iff.1 hj).1
            have := World.cell?_setCells_in w1.heap.size (Go.Lib.runeCells (D : Int)) 0 (w1.alloc (.cells #[.int .u8 0, .int .u8 0, .int .u8 0, .int .u8 0] 158)) (fun j hj => by
              rw [runeCells_len D HSC.out] at hj
              have := (u8s_len D).2
              rcases (show j = 0 ∨ j = 1 ∨ j = 2 ∨ j = 3 by omega) with rfl | rfl | rfl | rfl <;> simp) j hjl
            refine Eq.trans ?_ (this.trans ((List.getElem?_eq_getElem hjl).symm.trans hj))
            congr 1
            simp [Addr.add]
            try (intro h; omega)
          have hlen := runeCells_len D HSC.out
          rw [hlen]
          have hEW1 := Lib.hid hEW
          have hcells1 := Lib.hid hcells
          obtain ⟨hu1, hu2⟩ := u8s_len D
          have hu3 : ((u8s D).length : Int) ≤ 4 := by omega
          have hu4 : (0 : Int) ≤ ((u8s D).length : Int) := by omega
          clear hW hEW hcells hlen
          go_wp2_with (at_builtin; refine app_list hEW1.out.1 hEW1.out.2 rfl (.tmp 381) (.tmp 383) rfl rfl ⟨w1.heap.size, 0, none⟩ _ 4 (u8s D) rfl rfl hu1 (by omega) hcells1.out (by omega) ?_)
          intro g' cap' w2 hO hF
          go_wp2_with fail
          exact QPost.next rfl (by omega) (QCtx.next HH.out hF hO (HH.out.qs.on (2 + 8) (u8s D) (by omega) (by omega) HQ.out)) (by omega)

end Go.Proofs.YtngofbhlhcalpaaGreatDoor.lexer
