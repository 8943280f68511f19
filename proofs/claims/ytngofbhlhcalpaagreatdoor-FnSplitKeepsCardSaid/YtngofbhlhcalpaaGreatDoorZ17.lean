/-
  Lemmas and contracts of this claim, texts NumH, NumB, Delim. No statement of the seat is proved here.
-/
import Derived.Test.YtngofbhlhcalpaaGreatDoorZ16
import Derived.Test.YtngofbhlhcalpaaGreatDoorZ02
namespace Go.Proofs.YtngofbhlhcalpaaGreatDoor.lexer
open Go.RowKit Go.Proofs.YtngofbhlhcalpaaGreatDoor.gen

def HexRel (s : ByteArray) (p N : Nat) (i a b : Value) (w wr : World) : Prop :=
  ∃ (k nq : Nat), i = .int .i64 k ∧ a = .bool true ∧ b = .bool false ∧ wr = w.drewN nq ∧ p + k ≤ s.size ∧ k + (numU (suf s (p + k)) true true false).1 = N

theorem hex_int (t : List UInt8) : (numU t true true false).2 = true := by
  induction t with
  | nil => rfl
  | cons c r ih =>
    cases h : hx (nn c) with
    | true => rw [numU_hex c r _ _ h]; exact ih
    | false => rw [numU_hexEnd c r _ _ h]

set_option maxRecDepth 100000 in
set_option maxHeartbeats 2000000 in
theorem num16_any (lb fb : Nat) (fp s : ByteArray) (x : LX) (np : Bool) (w : World) (hs : s.size ≤ 1048576) (hE : Env w lb fb) (hS : St w lb fb fp s x) (N : Nat)
    (hx0 : byt s ((x.p : Int) + 0) = 48) (hx1 : byt s ((x.p : Int) + 1) = 120 ∨ byt s ((x.p : Int) + 1) = 88)
    (hN : 2 + (numU (suf s (x.p + 2)) true true false).1 = N) :
    Calls Tryz.prog 73 #[.pointer (some ⟨lb, 0, none⟩), .bool np] w (NumRes np lb fb fp s x N true 16 w) := by
  have hR := hS.rd
  have h2 : x.p + 2 ≤ s.size := by
    have := byt_lt s ((x.p : Int) + 1) (by rcases hx1 with h | h <;> omega)
    omega
  have HP : Hid (x.p + N ≤ s.size) := by
    have h1 := numU_le _ (suf s (x.p + 2)) true true false (Nat.le_refl _)
    rw [suf_len] at h1
    show x.p + N ≤ s.size
    omega
  have HN := Lib.hid hN
  have HEn := Lib.hid hE
  have HS := Lib.hid hS
  have hsz := hS.sz
  have hpz := hS.pz
  clear hN hE hS
  go_enter Tryz.func73, Tryz.ntmps73
  go_upto_region 2 with fail
  go_cut [24] from 10 to 24 (fun c wx => c = .bool true ∧ ∃ nq, wx = w.drewN nq)
  case first =>
    rcases hx1 with hx1 | hx1
    all_goals
      go_wp2_with (first | (go_at_call 65; first | ((with_reducible refine (peekIs_yes _ _ _ _ _ _ _ (hR.drewN _) ?_).mono ?_); omega; rintro e w' ⟨rfl, nq, rfl⟩) | ((with_reducible refine (peekIs_yes _ _ _ _ _ _ _ hR ?_).mono ?_); omega; rintro e w' ⟨rfl, nq, rfl⟩) | ((with_reducible refine (peekIs_no _ _ _ _ _ _ _ (hR.drewN _) ?_).mono ?_); omega; rintro e w' ⟨rfl, nq, rfl⟩) | ((with_reducible refine (peekIs_no _ _ _ _ _ _ _ hR ?_).mono ?_); omega; rintro e w' ⟨rfl, nq, rfl⟩)))
      go_meet
      exact ⟨rfl, _, rfl⟩
  case rest =>
    obtain ⟨rfl, nq0, rfl⟩ := hcut
    clear hx0 hx1
    go_upto_block 0 with fail
    go_cut [4, 6] from 27 to 106 (fun i a wx => i = .int .i64 N ∧ a = .bool true ∧ ∃ nq, wx = w.drewN nq)
    case first =>
      go_wp2_with fail
      go_loopw [4, 6, 7] (fun i a b wr => HexRel s x.p N i a b w wr) (fun i _ _ _ => s.size - (intOf i).toNat)
      case atStart => exact ⟨2, _, rfl, rfl, rfl, rfl, by omega, HN.out⟩
      case round =>
        obtain ⟨k, nq, rfl, rfl, rfl, rfl, hpk, hk1⟩ := hrel
        have HK1 := Lib.hid hk1
        clear hk1
        rcases suf_byt s (x.p + k) with ⟨hb, hsuf, hge⟩ | ⟨c, hb, hsuf, hlt⟩
        · have hk : k = N := by have := HK1.out; rw [hsuf] at this; simpa [numU] using this
          subst hk
          have hge2 : (s.size : Int) ≤ (x.p : Int) + (k : Int) := by omega
          clear hb hsuf
          go_wp2_with (first | (go_at_call 67; first | ((with_reducible refine (peekOk_yes _ _ _ _ _ _ (hR.drewN _) ?_).mono ?_); omega; rintro e w' ⟨rfl, nq, rfl⟩) | ((with_reducible refine (peekOk_yes _ _ _ _ _ _ hR ?_).mono ?_); omega; rintro e w' ⟨rfl, nq, rfl⟩) | ((with_reducible refine (peekOk_no _ _ _ _ _ _ (hR.drewN _) ?_).mono ?_); omega; rintro e w' ⟨rfl, nq, rfl⟩) | ((with_reducible refine (peekOk_no _ _ _ _ _ _ hR ?_).mono ?_); omega; rintro e w' ⟨rfl, nq, rfl⟩)))
          go_meet
          exact ⟨rfl, rfl, _, rfl⟩
        · have hbd := nn_bd c
          rw [show ((x.p + k : Nat) : Int) = (x.p : Int) + (k : Int) from by omega] at hb
          have hlt2 : (x.p : Int) + (k : Int) < s.size := by omega
          have Hs := Lib.hid hsuf
          clear hsuf
          cases hd : hx (nn c) with
          | true =>
            have h1 := numU_hex c (suf s (x.p + k + 1)) true false hd
            have hk1 : k + 1 + (numU (suf s (x.p + k + 1)) true true false).1 = N := by have := HK1.out; rw [Hs.out, h1] at this; rw [← this]; show _ = k + (_ + 1); omega
            have HK3 := Lib.hid hk1
            clear h1 hk1 HK1
            go_wp2_with (first | (go_at_call 67; first | ((with_reducible refine (peekOk_yes _ _ _ _ _ _ (hR.drewN _) ?_).mono ?_); omega; rintro e w' ⟨rfl, nq, rfl⟩) | ((with_reducible refine (peekOk_yes _ _ _ _ _ _ hR ?_).mono ?_); omega; rintro e w' ⟨rfl, nq, rfl⟩) | ((with_reducible refine (peekOk_no _ _ _ _ _ _ (hR.drewN _) ?_).mono ?_); omega; rintro e w' ⟨rfl, nq, rfl⟩) | ((with_reducible refine (peekOk_no _ _ _ _ _ _ hR ?_).mono ?_); omega; rintro e w' ⟨rfl, nq, rfl⟩)) | (go_at_call 69; first | ((with_reducible refine (peek_any _ _ _ _ _ _ _ (hR.drewN _) ⟨?_, ?_, by assumption⟩).mono ?_); omega; omega; rintro e w' ⟨rfl, nq, rfl⟩) | ((with_reducible refine (peek_any _ _ _ _ _ _ _ hR ⟨?_, ?_, by assumption⟩).mono ?_); omega; omega; rintro e w' ⟨rfl, nq, rfl⟩)) | (go_at_call 95; refine (isHex_any _ _).mono ?_; rintro e w' ⟨rfl, rfl⟩))
            go_roundw
            case rel => exact ⟨k + 1, _, by go_num, rfl, rfl, rfl, by omega, HK3.out⟩
            case measure => simp [intOf]; omega
          | false =>
            have h1 := numU_hexEnd c (suf s (x.p + k + 1)) true false hd
            have hk : k = N := by have := HK1.out; rw [Hs.out, h1] at this; simpa using this
            subst hk
            clear h1
            go_wp2_with (first | (go_at_call 67; first | ((with_reducible refine (peekOk_yes _ _ _ _ _ _ (hR.drewN _) ?_).mono ?_); omega; rintro e w' ⟨rfl, nq, rfl⟩) | ((with_reducible refine (peekOk_yes _ _ _ _ _ _ hR ?_).mono ?_); omega; rintro e w' ⟨rfl, nq, rfl⟩) | ((with_reducible refine (peekOk_no _ _ _ _ _ _ (hR.drewN _) ?_).mono ?_); omega; rintro e w' ⟨rfl, nq, rfl⟩) | ((with_reducible refine (peekOk_no _ _ _ _ _ _ hR ?_).mono ?_); omega; rintro e w' ⟨rfl, nq, rfl⟩)) | (go_at_call 69; first | ((with_reducible refine (peek_any _ _ _ _ _ _ _ (hR.drewN _) ⟨?_, ?_, by assumption⟩).mono ?_); omega; omega; rintro e w' ⟨rfl, nq, rfl⟩) | ((with_reducible refine (peek_any _ _ _ _ _ _ _ hR ⟨?_, ?_, by assumption⟩).mono ?_); omega; omega; rintro e w' ⟨rfl, nq, rfl⟩)) | (go_at_call 95; refine (isHex_any _ _).mono ?_; rintro e w' ⟨rfl, rfl⟩))
            go_meet
            exact ⟨rfl, rfl, _, rfl⟩
    case rest =>
      obtain ⟨rfl, rfl, nq, rfl⟩ := hcut
      clear HN
      have hpn := HP.out
      go_wp2_with fail
      refine (skipN_any lb fb fp s x N { x with p := x.p + N } _ (HS.out.drewN _) (by omega) (by rw [show ((x.p : Int) + (N : Int)).toNat = x.p + N from by omega])).mono ?_
      rintro e w1 ⟨rfl, hS1, hF1⟩
      have hF1' : Frm w w1 [lb] := ((Frm.refl w [lb]).drewN _).step hF1
      have c1 := block_cell hS1.lex 1
      have f1 := block_free hS1.lex 1
      have c6 := block_cell hS1.lex 6
      have f6 := block_free hS1.lex 6
      have HS1 := Lib.hid hS1
      clear hS1 hR hF1
      have hS2 := (HS1.out.set 1 (.string ⟨#[60, 105, 110, 116, 62]⟩) { x with p := x.p + N, kind := ⟨#[60, 105, 110, 116, 62]⟩ } rfl HS1.out.pz).set 6 (.int .i64 16) { x with p := x.p + N, kind := ⟨#[60, 105, 110, 116, 62]⟩, base := 16 } rfl HS1.out.pz
      have hR : Rd _ lb fb s (x.p + N) := hS2.rd
      have hF2 := (hF1'.setCell ⟨lb, 1, none⟩ (.string ⟨#[60, 105, 110, 116, 62]⟩) (.inl (by simp))).setCell ⟨lb, 6, none⟩ (.int .i64 16) (.inl (by simp))
      have HS2 := Lib.hid hS2
      have HF2 := Lib.hid hF2
      clear hS2 hF2 hF1'
      rcases suf_byt s (x.p + N) with ⟨hb, hsuf, hge⟩ | ⟨c2, hb, hsuf, hlt⟩
      · have HI := Lib.hid (show idpHead (suf s (x.p + N)) = false by rw [hsuf]; rfl)
        clear hb hsuf
        go_wp2_with (first | (go_at_call 67; first | ((with_reducible refine (peekOk_yes _ _ _ _ _ _ (hR.drewN _) ?_).mono ?_); omega; rintro e w' ⟨rfl, nq, rfl⟩) | ((with_reducible refine (peekOk_yes _ _ _ _ _ _ hR ?_).mono ?_); omega; rintro e w' ⟨rfl, nq, rfl⟩) | ((with_reducible refine (peekOk_no _ _ _ _ _ _ (hR.drewN _) ?_).mono ?_); omega; rintro e w' ⟨rfl, nq, rfl⟩) | ((with_reducible refine (peekOk_no _ _ _ _ _ _ hR ?_).mono ?_); omega; rintro e w' ⟨rfl, nq, rfl⟩)))
        go_end0
        exact .inl ⟨HI.out, rfl, HS2.out.drewN _, HF2.out.drewN _⟩
      · first
        | (exfalso; omega)
        | (have HI := Lib.hid (show idpHead (suf s (x.p + N)) = idp (nn c2) by rw [hsuf]; rfl)
           have hbd2 := nn_bd c2
           have hb0 : byt s (((x.p + N : Nat) : Int) + 0) = nn c2 := by rw [← hb]; congr 1
           clear hb hsuf
           cases hi0 : idp (nn c2) with
           | false =>
             go_wp2_with (first | (go_at_call 67; first | ((with_reducible refine (peekOk_yes _ _ _ _ _ _ (hR.drewN _) ?_).mono ?_); omega; rintro e w' ⟨rfl, nq, rfl⟩) | ((with_reducible refine (peekOk_yes _ _ _ _ _ _ hR ?_).mono ?_); omega; rintro e w' ⟨rfl, nq, rfl⟩) | ((with_reducible refine (peekOk_no _ _ _ _ _ _ (hR.drewN _) ?_).mono ?_); omega; rintro e w' ⟨rfl, nq, rfl⟩) | ((with_reducible refine (peekOk_no _ _ _ _ _ _ hR ?_).mono ?_); omega; rintro e w' ⟨rfl, nq, rfl⟩)) | (go_at_call 69; first | ((with_reducible refine (peek_any _ _ _ _ _ _ _ (hR.drewN _) ⟨?_, ?_, by assumption⟩).mono ?_); omega; omega; rintro e w' ⟨rfl, nq, rfl⟩) | ((with_reducible refine (peek_any _ _ _ _ _ _ _ hR ⟨?_, ?_, by assumption⟩).mono ?_); omega; omega; rintro e w' ⟨rfl, nq, rfl⟩)) | (go_at_call 68; refine (isIdentPart_any _ _).mono ?_; rintro e w' ⟨rfl, rfl⟩))
             go_end0
             exact .inl ⟨HI.out.trans hi0, rfl, HS2.out.drewN _, HF2.out.drewN _⟩
           | true =>
             cases np with
             | true =>
               have c1' := block_cell HS2.out.lex 1
               have f1' := block_free HS2.out.lex 1
               go_wp2_with (first | (go_at_call 67; first | ((with_reducible refine (peekOk_yes _ _ _ _ _ _ (hR.drewN _) ?_).mono ?_); omega; rintro e w' ⟨rfl, nq, rfl⟩) | ((with_reducible refine (peekOk_yes _ _ _ _ _ _ hR ?_).mono ?_); omega; rintro e w' ⟨rfl, nq, rfl⟩) | ((with_reducible refine (peekOk_no _ _ _ _ _ _ (hR.drewN _) ?_).mono ?_); omega; rintro e w' ⟨rfl, nq, rfl⟩) | ((with_reducible refine (peekOk_no _ _ _ _ _ _ hR ?_).mono ?_); omega; rintro e w' ⟨rfl, nq, rfl⟩)) | (go_at_call 69; first | ((with_reducible refine (peek_any _ _ _ _ _ _ _ (hR.drewN _) ⟨?_, ?_, by assumption⟩).mono ?_); omega; omega; rintro e w' ⟨rfl, nq, rfl⟩) | ((with_reducible refine (peek_any _ _ _ _ _ _ _ hR ⟨?_, ?_, by assumption⟩).mono ?_); omega; omega; rintro e w' ⟨rfl, nq, rfl⟩)) | (go_at_call 68; refine (isIdentPart_any _ _).mono ?_; rintro e w' ⟨rfl, rfl⟩))
               go_end0
               exact .inr (.inl ⟨HI.out.trans hi0, rfl, rfl, (HS2.out.drewN _).set 1 _ _ rfl HS2.out.pz, (HF2.out.drewN _).setCell _ _ (.inl (by simp))⟩)
             | false =>
               go_wp2_with (first | (go_at_call 67; first | ((with_reducible refine (peekOk_yes _ _ _ _ _ _ (hR.drewN _) ?_).mono ?_); omega; rintro e w' ⟨rfl, nq, rfl⟩) | ((with_reducible refine (peekOk_yes _ _ _ _ _ _ hR ?_).mono ?_); omega; rintro e w' ⟨rfl, nq, rfl⟩) | ((with_reducible refine (peekOk_no _ _ _ _ _ _ (hR.drewN _) ?_).mono ?_); omega; rintro e w' ⟨rfl, nq, rfl⟩) | ((with_reducible refine (peekOk_no _ _ _ _ _ _ hR ?_).mono ?_); omega; rintro e w' ⟨rfl, nq, rfl⟩)) | (go_at_call 69; first | ((with_reducible refine (peek_any _ _ _ _ _ _ _ (hR.drewN _) ⟨?_, ?_, by assumption⟩).mono ?_); omega; omega; rintro e w' ⟨rfl, nq, rfl⟩) | ((with_reducible refine (peek_any _ _ _ _ _ _ _ hR ⟨?_, ?_, by assumption⟩).mono ?_); omega; omega; rintro e w' ⟨rfl, nq, rfl⟩)) | (go_at_call 68; refine (isIdentPart_any _ _).mono ?_; rintro e w' ⟨rfl, rfl⟩))
               refine (panicf_any lb fb fp s _ _ _ hs HS2.out.pz (HS2.out.drewN _) (HEn.out.frm (HF2.out.drewN _) (by simp))).mono ?_
               rintro e w5 hf
               have hf2 := Fault.from (HF2.out.drewN _) hf
               obtain ⟨eb, rfl, h1, h2, h3⟩ := hf2
               go_wp2_with fail
               exact ⟨rfl, .inr (.inr ⟨HI.out.trans hi0, rfl, eb, rfl, h1, h2, h3⟩)⟩)

end Go.Proofs.YtngofbhlhcalpaaGreatDoor.lexer

namespace Go.Proofs.YtngofbhlhcalpaaGreatDoor.lexer
open Go.RowKit Go.Proofs.YtngofbhlhcalpaaGreatDoor.gen

theorem suf_drop (s : ByteArray) (p k : Nat) : (suf s p).drop k = suf s (p + k) := by unfold suf; rw [List.drop_drop]

theorem byt_suf (s : ByteArray) (p k : Nat) (c : UInt8) (h : (suf s p)[k]? = some c) : byt s ((p : Int) + (k : Int)) = nn c := by
  rcases suf_byt s (p + k) with ⟨_, h2, _⟩ | ⟨d, h1, h2, _⟩
  · unfold suf at h h2
    rw [List.getElem?_drop] at h
    have := (List.getElem?_eq_some_iff.1 h).1
    rw [List.drop_eq_nil_iff] at h2
    omega
  · rw [show ((p : Int) + (k : Int)) = ((p + k : Nat) : Int) from by omega, h1]
    unfold suf at h h2
    rw [List.getElem?_drop] at h
    have h3 : (List.drop (p + k) s.data.toList)[0]? = some d := by rw [h2]; rfl
    rw [List.getElem?_drop] at h3
    rw [Nat.add_zero] at h3
    rw [h] at h3
    exact congrArg nn (Option.some.inj h3).symm

theorem suf_byt2 (s : ByteArray) (p k : Nat) (c : Int) (hc : 0 ≤ c) (h : byt s ((p : Int) + (k : Int)) = c) : ∃ d, (suf s p)[k]? = some d ∧ nn d = c := by
  rcases suf_byt s (p + k) with ⟨h1, _, _⟩ | ⟨d, h1, h2, _⟩
  · rw [show ((p + k : Nat) : Int) = (p : Int) + (k : Int) from by omega, h] at h1; omega
  · refine ⟨d, ?_, ?_⟩
    · have h3 : (suf s (p + k))[0]? = some d := by rw [h2]; rfl
      rw [← suf_drop, List.getElem?_drop] at h3
      simpa using h3
    · rw [← h1, ← h]; congr 1

theorem isHexNum_iff (s : ByteArray) (p : Nat) : isHexNum (suf s p) = true ↔ (byt s ((p : Int) + 0) = 48 ∧ (byt s ((p : Int) + 1) = 120 ∨ byt s ((p : Int) + 1) = 88)) := by
  constructor
  · intro h
    cases hs : suf s p with
    | nil => rw [hs] at h; simp [isHexNum] at h
    | cons c r =>
      cases r with
      | nil => rw [hs] at h; simp [isHexNum] at h
      | cons d r2 =>
        have h1 := byt_suf s p 0 c (by rw [hs]; rfl)
        have h2 := byt_suf s p 1 d (by rw [hs]; rfl)
        rw [hs] at h
        simp only [isHexNum, Bool.and_eq_true, Bool.or_eq_true, beq_iff_eq] at h
        refine ⟨h1.trans h.1, ?_⟩
        have h3 : byt s ((p : Int) + 1) = nn d := h2
        rw [h3]; exact h.2
  · rintro ⟨h1, h2⟩
    obtain ⟨c, hc, hc2⟩ := suf_byt2 s p 0 48 (by omega) h1
    have : ∃ z, 0 ≤ z ∧ byt s ((p : Int) + 1) = z ∧ (z = 120 ∨ z = 88) := by
      rcases h2 with h2 | h2
      · exact ⟨120, by omega, h2, .inl rfl⟩
      · exact ⟨88, by omega, h2, .inr rfl⟩
    obtain ⟨z, hz0, hz1, hz2⟩ := this
    obtain ⟨d, hd, hd2⟩ := suf_byt2 s p 1 z hz0 hz1
    cases hs : suf s p with
    | nil => rw [hs] at hc; simp at hc
    | cons a r =>
      cases r with
      | nil => rw [hs] at hd; simp at hd
      | cons b r2 =>
        rw [hs] at hc hd
        simp at hc hd
        subst hc hd
        simp only [isHexNum, Bool.and_eq_true, Bool.or_eq_true, beq_iff_eq]
        exact ⟨hc2, by rw [hd2]; exact hz2⟩

theorem numU_pos (c : UInt8) (r : List UInt8) (h : dg (nn c) = true ∨ nn c = 46) : 0 < (numU (c :: r) false true false).1 := by
  rcases h with h | h
  · rw [numU_dig c r _ _ h]; exact Nat.succ_pos _
  · rw [numU_dot c r h]; exact Nat.succ_pos _

theorem number_any (lb fb : Nat) (fp s : ByteArray) (x : LX) (np : Bool) (w : World) (hs : s.size ≤ 1048576) (hE : Env w lb fb) (hS : St w lb fb fp s x) (hF : Fresh x) (c : UInt8) (r : List UInt8)
    (hc : suf s x.p = c :: r) (hd : dg (nn c) = true ∨ nn c = 46) :
    Calls Tryz.prog 73 #[.pointer (some ⟨lb, 0, none⟩), .bool np] w (TokRes np lb fb fp s x (num (suf s x.p)) w) := by
  cases hx : isHexNum (suf s x.p) with
  | true =>
    have h2 := (isHexNum_iff s x.p).1 hx
    refine (num16_any lb fb fp s x np w hs hE hS _ h2.1 h2.2 rfl).mono ?_
    rintro e w' (⟨h3, h4⟩ | ⟨h3, rfl, h4⟩ | ⟨h3, rfl, h4⟩)
    · refine .inl ⟨⟨kInt, kNone, 16, 2 + (numU (suf s (x.p + 2)) true true false).1, none⟩, ?_, ?_⟩
      · simp only [num, hx, if_true, suf_drop, h3, Bool.false_eq_true, if_false]
      · refine (show Goes _ _ _ _ _ _ _ _ _ from ?_)
        have : x.put ⟨kInt, kNone, 16, 2 + (numU (suf s (x.p + 2)) true true false).1, none⟩ = numX x (2 + (numU (suf s (x.p + 2)) true true false).1) true 16 := by
          simp [LX.put, numX, hF.text, kInt]
        rw [this]; exact h4
    · refine .inr (.inr ⟨2 + (numU (suf s (x.p + 2)) true true false).1, _, ?_, rfl, ?_, kBad_ne, ?_, h4⟩)
      · simp only [num, hx, if_true, suf_drop, h3]
      · simp [numX]; omega
      · rfl
    · refine .inr (.inl ⟨2 + (numU (suf s (x.p + 2)) true true false).1, ?_, rfl, h4⟩)
      simp only [num, hx, if_true, suf_drop, h3]
  | false =>
    have h2 : ¬ (byt s ((x.p : Int) + 0) = 48 ∧ (byt s ((x.p : Int) + 1) = 120 ∨ byt s ((x.p : Int) + 1) = 88)) := fun h => by
      rw [(isHexNum_iff s x.p).2 h] at hx; cases hx
    have hpos : 0 < (numU (suf s x.p) false true false).1 := by rw [hc]; exact numU_pos c r hd
    refine (num10_any lb fb fp s x np w hs hE hS _ _ h2 rfl).mono ?_
    rintro e w' (⟨h3, h4⟩ | ⟨h3, rfl, h4⟩ | ⟨h3, rfl, h4⟩)
    · refine .inl ⟨⟨if (numU (suf s x.p) false true false).2 then kInt else kFloat, kNone, if (numU (suf s x.p) false true false).2 then 10 else 0, (numU (suf s x.p) false true false).1, none⟩, ?_, ?_⟩
      · simp only [num, hx, Bool.false_eq_true, if_false, suf_drop, h3]
      · have : x.put ⟨if (numU (suf s x.p) false true false).2 then kInt else kFloat, kNone, if (numU (suf s x.p) false true false).2 then 10 else 0, (numU (suf s x.p) false true false).1, none⟩ = numX x (numU (suf s x.p) false true false).1 (numU (suf s x.p) false true false).2 10 := by
          simp [LX.put, numX, hF.text, hF.base, kInt, kFloat]
        rw [this]; exact h4
    · refine .inr (.inr ⟨(numU (suf s x.p) false true false).1, _, ?_, rfl, ?_, kBad_ne, ?_, h4⟩)
      · simp only [num, hx, Bool.false_eq_true, if_false, suf_drop, h3, if_true]
      · simp [numX]; omega
      · rfl
    · refine .inr (.inl ⟨(numU (suf s x.p) false true false).1, ?_, rfl, h4⟩)
      simp only [num, hx, Bool.false_eq_true, if_false, suf_drop, h3, if_true]

end Go.Proofs.YtngofbhlhcalpaaGreatDoor.lexer

namespace Go.Proofs.YtngofbhlhcalpaaGreatDoor.lexer
open Go.RowKit Go.Proofs.YtngofbhlhcalpaaGreatDoor.gen

def DelRes (D : List UInt8) (w : World) (e : Ending) (w' : World) : Prop := e = .returned (.string ⟨D.toArray⟩) ∧ Below w.heap.size w w'

theorem delim_one (l : List UInt8) (c : UInt8) (h : l[0]? = some c) (hn : ¬ (l[1]? = some c ∧ l[2]? = some c)) : delim l = [c] := by
  match l, h, hn with
  | [a], h, _ => simp at h; subst h; rfl
  | [a, b], h, _ => simp at h; subst h; rfl
  | a :: b :: d :: r, h, hn =>
    simp at h; subst h
    have : ¬ ((nn a == nn b && nn a == nn d) = true) := by
      intro h2
      rw [Bool.and_eq_true, beq_iff_eq, beq_iff_eq] at h2
      have e1 : b = a := by unfold nn at h2; exact UInt8.toNat_inj.1 (by omega)
      have e2 : d = a := by unfold nn at h2; exact UInt8.toNat_inj.1 (by omega)
      exact hn ⟨by rw [e1]; rfl, by rw [e2]; rfl⟩
    simp only [delim, this]
    rfl
theorem delim_three (l : List UInt8) (c : UInt8) (h : l[0]? = some c) (h1 : l[1]? = some c) (h2 : l[2]? = some c) : delim l = [c, c, c] := by
  match l, h, h1, h2 with
  | a :: b :: d :: r, h, h1, h2 => simp at h h1 h2; subst h h1 h2; simp [delim]

set_option maxRecDepth 100000 in
set_option maxHeartbeats 4000000 in
theorem delim34 (lb fb : Nat) (s : ByteArray) (p : Nat) (w : World) (h : Rd w lb fb s p) (h0 : byt s ((p : Int) + 0) = 34) :
    Calls Tryz.prog 101 #[.pointer (some ⟨lb, 0, none⟩)] w (DelRes (delim (suf s p)) w) := by
  have hsz := h.sz
  have hR := h
  have hlt := (byt_lt s _ (by rw [h0]; decide : 0 ≤ byt s ((p : Int) + 0))).2
  obtain ⟨c0, hc0, hc1⟩ := suf_byt2 s p 0 34 (by omega) h0
  have hc : c0 = 34 := UInt8.toNat_inj.1 (by unfold nn at hc1; show c0.toNat = 34; omega)
  subst hc
  clear hc1 h
  by_cases h1 : byt s ((p : Int) + 1) = 34
  case neg =>
    have HD := Lib.hid (delim_one (suf s p) 34 hc0 (fun hh => by have := byt_suf s p 1 34 hh.1; exact h1 this))
    clear hc0
    go_enter Tryz.func101, Tryz.ntmps101
    go_wp2_with (first | (go_at_call 69; first | ((with_reducible refine (peek_any _ _ _ _ _ _ _ (hR.drewN _) ⟨?_, ?_, by assumption⟩).mono ?_); omega; omega; rintro e w' ⟨rfl, nq, rfl⟩) | ((with_reducible refine (peek_any _ _ _ _ _ _ _ hR ⟨?_, ?_, by assumption⟩).mono ?_); omega; omega; rintro e w' ⟨rfl, nq, rfl⟩)))
    go_loopw [3, 5] (fun i t wr => i = .int .i64 1 ∧ t = .bool true ∧ ∃ n, wr = w.drewN n) (fun i _ _ => 3 - (intOf i).toNat)
    case atStart => exact ⟨rfl, rfl, _, rfl⟩
    case round =>
      obtain ⟨rfl, rfl, n, rfl⟩ := hrel
      have hq : ∀ m, (convert 44 9 (.slice (some ⟨w.heap.size, 0, none⟩) 1 1)).run Tryz.prog ((w.drewN m).alloc (.cells #[.int .u8 34] 5)) = .ok (.string ⟨#[34]⟩) ((w.drewN m).alloc (.cells #[.int .u8 34] 5)) := fun m => (OwnC.one (w.drewN m) (.int .u8 34) 5 0 (Nat.zero_le _)).text (P := Tryz.prog) (l := [34]) 44 9 5 (by kernel_rfl) (by kernel_rfl) (by kernel_rfl)
      go_wp2_with (first | (go_at_call 65; first | ((with_reducible refine (peekIs_yes _ _ _ _ _ _ _ (hR.drewN _) ?_).mono ?_); omega; rintro e w' ⟨rfl, nq, rfl⟩) | ((with_reducible refine (peekIs_yes _ _ _ _ _ _ _ hR ?_).mono ?_); omega; rintro e w' ⟨rfl, nq, rfl⟩) | ((with_reducible refine (peekIs_no _ _ _ _ _ _ _ (hR.drewN _) ?_).mono ?_); omega; rintro e w' ⟨rfl, nq, rfl⟩) | ((with_reducible refine (peekIs_no _ _ _ _ _ _ _ hR ?_).mono ?_); omega; rintro e w' ⟨rfl, nq, rfl⟩)))
      go_ret
      exact ⟨by rw [HD.out]; rfl, (gen.below_drewN (Below.refl _ _) _).alloc (Nat.le_refl _) _⟩
  case pos =>
    by_cases h2 : byt s ((p : Int) + 2) = 34
    case neg =>
      have HD := Lib.hid (delim_one (suf s p) 34 hc0 (fun hh => by have := byt_suf s p 2 34 hh.2; exact h2 this))
      clear hc0
      go_enter Tryz.func101, Tryz.ntmps101
      go_wp2_with (first | (go_at_call 69; first | ((with_reducible refine (peek_any _ _ _ _ _ _ _ (hR.drewN _) ⟨?_, ?_, by assumption⟩).mono ?_); omega; omega; rintro e w' ⟨rfl, nq, rfl⟩) | ((with_reducible refine (peek_any _ _ _ _ _ _ _ hR ⟨?_, ?_, by assumption⟩).mono ?_); omega; omega; rintro e w' ⟨rfl, nq, rfl⟩)))
      go_loopw [3, 5] (fun i t wr => ∃ (k : Int) (n : Nat), i = .int .i64 k ∧ t = .bool true ∧ wr = w.drewN n ∧ 1 ≤ k ∧ k ≤ 2) (fun i _ _ => 3 - (intOf i).toNat)
      case atStart => exact ⟨1, _, rfl, rfl, rfl, by omega, by omega⟩
      case round =>
        obtain ⟨k, n, rfl, rfl, rfl, hk1, hk2⟩ := hrel
        rcases (show k = 1 ∨ k = 2 by omega) with rfl | rfl
        case inl =>
          go_wp2_with (first | (go_at_call 65; first | ((with_reducible refine (peekIs_yes _ _ _ _ _ _ _ (hR.drewN _) ?_).mono ?_); omega; rintro e w' ⟨rfl, nq, rfl⟩) | ((with_reducible refine (peekIs_yes _ _ _ _ _ _ _ hR ?_).mono ?_); omega; rintro e w' ⟨rfl, nq, rfl⟩) | ((with_reducible refine (peekIs_no _ _ _ _ _ _ _ (hR.drewN _) ?_).mono ?_); omega; rintro e w' ⟨rfl, nq, rfl⟩) | ((with_reducible refine (peekIs_no _ _ _ _ _ _ _ hR ?_).mono ?_); omega; rintro e w' ⟨rfl, nq, rfl⟩)))
          go_roundw
          case rel => exact ⟨2, _, rfl, rfl, rfl, by omega, by omega⟩
          case measure => simp [intOf]
        case inr =>
          have hq : ∀ m, (convert 44 9 (.slice (some ⟨w.heap.size, 0, none⟩) 1 1)).run Tryz.prog ((w.drewN m).alloc (.cells #[.int .u8 34] 5)) = .ok (.string ⟨#[34]⟩) ((w.drewN m).alloc (.cells #[.int .u8 34] 5)) := fun m => (OwnC.one (w.drewN m) (.int .u8 34) 5 0 (Nat.zero_le _)).text (P := Tryz.prog) (l := [34]) 44 9 5 (by kernel_rfl) (by kernel_rfl) (by kernel_rfl)
          go_wp2_with (first | (go_at_call 65; first | ((with_reducible refine (peekIs_yes _ _ _ _ _ _ _ (hR.drewN _) ?_).mono ?_); omega; rintro e w' ⟨rfl, nq, rfl⟩) | ((with_reducible refine (peekIs_yes _ _ _ _ _ _ _ hR ?_).mono ?_); omega; rintro e w' ⟨rfl, nq, rfl⟩) | ((with_reducible refine (peekIs_no _ _ _ _ _ _ _ (hR.drewN _) ?_).mono ?_); omega; rintro e w' ⟨rfl, nq, rfl⟩) | ((with_reducible refine (peekIs_no _ _ _ _ _ _ _ hR ?_).mono ?_); omega; rintro e w' ⟨rfl, nq, rfl⟩)))
          go_ret
          exact ⟨by rw [HD.out]; rfl, (gen.below_drewN (Below.refl _ _) _).alloc (Nat.le_refl _) _⟩
    case pos =>
      have HD := Lib.hid (delim_three (suf s p) 34 hc0 (by
        obtain ⟨c1, hc1, hc2⟩ := suf_byt2 s p 1 34 (by omega) h1
        rw [hc1, show c1 = 34 from UInt8.toNat_inj.1 (by unfold nn at hc2; show c1.toNat = 34; omega)]) (by
        obtain ⟨c1, hc1, hc2⟩ := suf_byt2 s p 2 34 (by omega) h2
        rw [hc1, show c1 = 34 from UInt8.toNat_inj.1 (by unfold nn at hc2; show c1.toNat = 34; omega)]))
      clear hc0
      go_enter Tryz.func101, Tryz.ntmps101
      go_wp2_with (first | (go_at_call 69; first | ((with_reducible refine (peek_any _ _ _ _ _ _ _ (hR.drewN _) ⟨?_, ?_, by assumption⟩).mono ?_); omega; omega; rintro e w' ⟨rfl, nq, rfl⟩) | ((with_reducible refine (peek_any _ _ _ _ _ _ _ hR ⟨?_, ?_, by assumption⟩).mono ?_); omega; omega; rintro e w' ⟨rfl, nq, rfl⟩)))
      go_loopw [3, 5] (fun i t wr => ∃ (k : Int) (n : Nat), i = .int .i64 k ∧ t = .bool true ∧ wr = w.drewN n ∧ 1 ≤ k ∧ k ≤ 3) (fun i _ _ => 3 - (intOf i).toNat)
      case atStart => exact ⟨1, _, rfl, rfl, rfl, by omega, by omega⟩
      case round =>
        obtain ⟨k, n, rfl, rfl, rfl, hk1, hk2⟩ := hrel
        rcases (show k = 1 ∨ k = 2 ∨ k = 3 by omega) with rfl | rfl | rfl
        case inl =>
          go_wp2_with (first | (go_at_call 65; first | ((with_reducible refine (peekIs_yes _ _ _ _ _ _ _ (hR.drewN _) ?_).mono ?_); omega; rintro e w' ⟨rfl, nq, rfl⟩) | ((with_reducible refine (peekIs_yes _ _ _ _ _ _ _ hR ?_).mono ?_); omega; rintro e w' ⟨rfl, nq, rfl⟩) | ((with_reducible refine (peekIs_no _ _ _ _ _ _ _ (hR.drewN _) ?_).mono ?_); omega; rintro e w' ⟨rfl, nq, rfl⟩) | ((with_reducible refine (peekIs_no _ _ _ _ _ _ _ hR ?_).mono ?_); omega; rintro e w' ⟨rfl, nq, rfl⟩)))
          go_roundw
          case rel => exact ⟨2, _, rfl, rfl, rfl, by omega, by omega⟩
          case measure => simp [intOf]
        case inr.inl =>
          go_wp2_with (first | (go_at_call 65; first | ((with_reducible refine (peekIs_yes _ _ _ _ _ _ _ (hR.drewN _) ?_).mono ?_); omega; rintro e w' ⟨rfl, nq, rfl⟩) | ((with_reducible refine (peekIs_yes _ _ _ _ _ _ _ hR ?_).mono ?_); omega; rintro e w' ⟨rfl, nq, rfl⟩) | ((with_reducible refine (peekIs_no _ _ _ _ _ _ _ (hR.drewN _) ?_).mono ?_); omega; rintro e w' ⟨rfl, nq, rfl⟩) | ((with_reducible refine (peekIs_no _ _ _ _ _ _ _ hR ?_).mono ?_); omega; rintro e w' ⟨rfl, nq, rfl⟩)))
          go_roundw
          case rel => exact ⟨3, _, rfl, rfl, rfl, by omega, by omega⟩
          case measure => simp [intOf]
        case inr.inr =>
          go_wp2_with fail
          go_ret
          exact ⟨by rw [HD.out]; rfl, gen.below_drewN (Below.refl _ _) _⟩

set_option maxRecDepth 100000 in
set_option maxHeartbeats 4000000 in
theorem delim39 (lb fb : Nat) (s : ByteArray) (p : Nat) (w : World) (h : Rd w lb fb s p) (h0 : byt s ((p : Int) + 0) = 39) :
    Calls Tryz.prog 101 #[.pointer (some ⟨lb, 0, none⟩)] w (DelRes (delim (suf s p)) w) := by
  have hsz := h.sz
  have hR := h
  have hlt := (byt_lt s _ (by rw [h0]; decide : 0 ≤ byt s ((p : Int) + 0))).2
  obtain ⟨c0, hc0, hc1⟩ := suf_byt2 s p 0 39 (by omega) h0
  have hc : c0 = 39 := UInt8.toNat_inj.1 (by unfold nn at hc1; show c0.toNat = 39; omega)
  subst hc
  clear hc1 h
  by_cases h1 : byt s ((p : Int) + 1) = 39
  case neg =>
    have HD := Lib.hid (delim_one (suf s p) 39 hc0 (fun hh => by have := byt_suf s p 1 39 hh.1; exact h1 this))
    clear hc0
    go_enter Tryz.func101, Tryz.ntmps101
    go_wp2_with (first | (go_at_call 69; first | ((with_reducible refine (peek_any _ _ _ _ _ _ _ (hR.drewN _) ⟨?_, ?_, by assumption⟩).mono ?_); omega; omega; rintro e w' ⟨rfl, nq, rfl⟩) | ((with_reducible refine (peek_any _ _ _ _ _ _ _ hR ⟨?_, ?_, by assumption⟩).mono ?_); omega; omega; rintro e w' ⟨rfl, nq, rfl⟩)))
    go_loopw [3, 5] (fun i t wr => i = .int .i64 1 ∧ t = .bool true ∧ ∃ n, wr = w.drewN n) (fun i _ _ => 3 - (intOf i).toNat)
    case atStart => exact ⟨rfl, rfl, _, rfl⟩
    case round =>
      obtain ⟨rfl, rfl, n, rfl⟩ := hrel
      have hq : ∀ m, (convert 44 9 (.slice (some ⟨w.heap.size, 0, none⟩) 1 1)).run Tryz.prog ((w.drewN m).alloc (.cells #[.int .u8 39] 5)) = .ok (.string ⟨#[39]⟩) ((w.drewN m).alloc (.cells #[.int .u8 39] 5)) := fun m => (OwnC.one (w.drewN m) (.int .u8 39) 5 0 (Nat.zero_le _)).text (P := Tryz.prog) (l := [39]) 44 9 5 (by kernel_rfl) (by kernel_rfl) (by kernel_rfl)
      go_wp2_with (first | (go_at_call 65; first | ((with_reducible refine (peekIs_yes _ _ _ _ _ _ _ (hR.drewN _) ?_).mono ?_); omega; rintro e w' ⟨rfl, nq, rfl⟩) | ((with_reducible refine (peekIs_yes _ _ _ _ _ _ _ hR ?_).mono ?_); omega; rintro e w' ⟨rfl, nq, rfl⟩) | ((with_reducible refine (peekIs_no _ _ _ _ _ _ _ (hR.drewN _) ?_).mono ?_); omega; rintro e w' ⟨rfl, nq, rfl⟩) | ((with_reducible refine (peekIs_no _ _ _ _ _ _ _ hR ?_).mono ?_); omega; rintro e w' ⟨rfl, nq, rfl⟩)))
      go_ret
      exact ⟨by rw [HD.out]; rfl, (gen.below_drewN (Below.refl _ _) _).alloc (Nat.le_refl _) _⟩
  case pos =>
    by_cases h2 : byt s ((p : Int) + 2) = 39
    case neg =>
      have HD := Lib.hid (delim_one (suf s p) 39 hc0 (fun hh => by have := byt_suf s p 2 39 hh.2; exact h2 this))
      clear hc0
      go_enter Tryz.func101, Tryz.ntmps101
      go_wp2_with (first | (go_at_call 69; first | ((with_reducible refine (peek_any _ _ _ _ _ _ _ (hR.drewN _) ⟨?_, ?_, by assumption⟩).mono ?_); omega; omega; rintro e w' ⟨rfl, nq, rfl⟩) | ((with_reducible refine (peek_any _ _ _ _ _ _ _ hR ⟨?_, ?_, by assumption⟩).mono ?_); omega; omega; rintro e w' ⟨rfl, nq, rfl⟩)))
      go_loopw [3, 5] (fun i t wr => ∃ (k : Int) (n : Nat), i = .int .i64 k ∧ t = .bool true ∧ wr = w.drewN n ∧ 1 ≤ k ∧ k ≤ 2) (fun i _ _ => 3 - (intOf i).toNat)
      case atStart => exact ⟨1, _, rfl, rfl, rfl, by omega, by omega⟩
      case round =>
        obtain ⟨k, n, rfl, rfl, rfl, hk1, hk2⟩ := hrel
        rcases (show k = 1 ∨ k = 2 by omega) with rfl | rfl
        case inl =>
          go_wp2_with (first | (go_at_call 65; first | ((with_reducible refine (peekIs_yes _ _ _ _ _ _ _ (hR.drewN _) ?_).mono ?_); omega; rintro e w' ⟨rfl, nq, rfl⟩) | ((with_reducible refine (peekIs_yes _ _ _ _ _ _ _ hR ?_).mono ?_); omega; rintro e w' ⟨rfl, nq, rfl⟩) | ((with_reducible refine (peekIs_no _ _ _ _ _ _ _ (hR.drewN _) ?_).mono ?_); omega; rintro e w' ⟨rfl, nq, rfl⟩) | ((with_reducible refine (peekIs_no _ _ _ _ _ _ _ hR ?_).mono ?_); omega; rintro e w' ⟨rfl, nq, rfl⟩)))
          go_roundw
          case rel => exact ⟨2, _, rfl, rfl, rfl, by omega, by omega⟩
          case measure => simp [intOf]
        case inr =>
          have hq : ∀ m, (convert 44 9 (.slice (some ⟨w.heap.size, 0, none⟩) 1 1)).run Tryz.prog ((w.drewN m).alloc (.cells #[.int .u8 39] 5)) = .ok (.string ⟨#[39]⟩) ((w.drewN m).alloc (.cells #[.int .u8 39] 5)) := fun m => (OwnC.one (w.drewN m) (.int .u8 39) 5 0 (Nat.zero_le _)).text (P := Tryz.prog) (l := [39]) 44 9 5 (by kernel_rfl) (by kernel_rfl) (by kernel_rfl)
          go_wp2_with (first | (go_at_call 65; first | ((with_reducible refine (peekIs_yes _ _ _ _ _ _ _ (hR.drewN _) ?_).mono ?_); omega; rintro e w' ⟨rfl, nq, rfl⟩) | ((with_reducible refine (peekIs_yes _ _ _ _ _ _ _ hR ?_).mono ?_); omega; rintro e w' ⟨rfl, nq, rfl⟩) | ((with_reducible refine (peekIs_no _ _ _ _ _ _ _ (hR.drewN _) ?_).mono ?_); omega; rintro e w' ⟨rfl, nq, rfl⟩) | ((with_reducible refine (peekIs_no _ _ _ _ _ _ _ hR ?_).mono ?_); omega; rintro e w' ⟨rfl, nq, rfl⟩)))
          go_ret
          exact ⟨by rw [HD.out]; rfl, (gen.below_drewN (Below.refl _ _) _).alloc (Nat.le_refl _) _⟩
    case pos =>
      have HD := Lib.hid (delim_three (suf s p) 39 hc0 (by
        obtain ⟨c1, hc1, hc2⟩ := suf_byt2 s p 1 39 (by omega) h1
        rw [hc1, show c1 = 39 from UInt8.toNat_inj.1 (by unfold nn at hc2; show c1.toNat = 39; omega)]) (by
        obtain ⟨c1, hc1, hc2⟩ := suf_byt2 s p 2 39 (by omega) h2
        rw [hc1, show c1 = 39 from UInt8.toNat_inj.1 (by unfold nn at hc2; show c1.toNat = 39; omega)]))
      clear hc0
      go_enter Tryz.func101, Tryz.ntmps101
      go_wp2_with (first | (go_at_call 69; first | ((with_reducible refine (peek_any _ _ _ _ _ _ _ (hR.drewN _) ⟨?_, ?_, by assumption⟩).mono ?_); omega; omega; rintro e w' ⟨rfl, nq, rfl⟩) | ((with_reducible refine (peek_any _ _ _ _ _ _ _ hR ⟨?_, ?_, by assumption⟩).mono ?_); omega; omega; rintro e w' ⟨rfl, nq, rfl⟩)))
      go_loopw [3, 5] (fun i t wr => ∃ (k : Int) (n : Nat), i = .int .i64 k ∧ t = .bool true ∧ wr = w.drewN n ∧ 1 ≤ k ∧ k ≤ 3) (fun i _ _ => 3 - (intOf i).toNat)
      case atStart => exact ⟨1, _, rfl, rfl, rfl, by omega, by omega⟩
      case round =>
        obtain ⟨k, n, rfl, rfl, rfl, hk1, hk2⟩ := hrel
        rcases (show k = 1 ∨ k = 2 ∨ k = 3 by omega) with rfl | rfl | rfl
        case inl =>
          go_wp2_with (first | (go_at_call 65; first | ((with_reducible refine (peekIs_yes _ _ _ _ _ _ _ (hR.drewN _) ?_).mono ?_); omega; rintro e w' ⟨rfl, nq, rfl⟩) | ((with_reducible refine (peekIs_yes _ _ _ _ _ _ _ hR ?_).mono ?_); omega; rintro e w' ⟨rfl, nq, rfl⟩) | ((with_reducible refine (peekIs_no _ _ _ _ _ _ _ (hR.drewN _) ?_).mono ?_); omega; rintro e w' ⟨rfl, nq, rfl⟩) | ((with_reducible refine (peekIs_no _ _ _ _ _ _ _ hR ?_).mono ?_); omega; rintro e w' ⟨rfl, nq, rfl⟩)))
          go_roundw
          case rel => exact ⟨2, _, rfl, rfl, rfl, by omega, by omega⟩
          case measure => simp [intOf]
        case inr.inl =>
          go_wp2_with (first | (go_at_call 65; first | ((with_reducible refine (peekIs_yes _ _ _ _ _ _ _ (hR.drewN _) ?_).mono ?_); omega; rintro e w' ⟨rfl, nq, rfl⟩) | ((with_reducible refine (peekIs_yes _ _ _ _ _ _ _ hR ?_).mono ?_); omega; rintro e w' ⟨rfl, nq, rfl⟩) | ((with_reducible refine (peekIs_no _ _ _ _ _ _ _ (hR.drewN _) ?_).mono ?_); omega; rintro e w' ⟨rfl, nq, rfl⟩) | ((with_reducible refine (peekIs_no _ _ _ _ _ _ _ hR ?_).mono ?_); omega; rintro e w' ⟨rfl, nq, rfl⟩)))
          go_roundw
          case rel => exact ⟨3, _, rfl, rfl, rfl, by omega, by omega⟩
          case measure => simp [intOf]
        case inr.inr =>
          go_wp2_with fail
          go_ret
          exact ⟨by rw [HD.out]; rfl, gen.below_drewN (Below.refl _ _) _⟩

end Go.Proofs.YtngofbhlhcalpaaGreatDoor.lexer
