/-
  Lemmas and contracts of this claim, texts NumT, Num. No statement of the seat is proved here.
-/
import Derived.Deep.DeepCutAuto
import Derived.Deep.CutBlock
import Derived.Deep.LoopGhost
import Derived.Test.YtngofbhlhcalpaaGreatDoorZ00
import Derived.Test.YtngofbhlhcalpaaGreatDoorZ01
namespace Go.Proofs.YtngofbhlhcalpaaGreatDoor.lexer
open Go.RowKit Go.Proofs.YtngofbhlhcalpaaGreatDoor.gen

def numX (x : LX) (N : Nat) (I : Bool) (b : Int) : LX := { x with p := x.p + N, kind := if I then ⟨#[60, 105, 110, 116, 62]⟩ else ⟨#[60, 102, 108, 111, 97, 116, 62]⟩, base := if I then b else x.base }

def NumRes (np : Bool) (lb fb : Nat) (fp s : ByteArray) (x : LX) (N : Nat) (I : Bool) (b : Int) (w : World) (e : Ending) (w' : World) : Prop :=
  (idpHead (suf s (x.p + N)) = false ∧ Goes (.tuple #[]) lb fb fp s (numX x N I b) w e w') ∨
  (idpHead (suf s (x.p + N)) = true ∧ np = true ∧ Goes (.tuple #[]) lb fb fp s { numX x N I b with kind := ⟨#[60, 98, 97, 100, 62]⟩ } w e w') ∨
  (idpHead (suf s (x.p + N)) = true ∧ np = false ∧ FaultL lb fb (x.p + N) w e w')

def NumRel (s : ByteArray) (p N : Nat) (I b16 : Bool) (i a b : Value) (w wr : World) : Prop :=
  ∃ (k nq : Nat) (int exp : Bool), i = .int .i64 k ∧ a = .bool int ∧ b = .bool exp ∧ wr = w.drewN nq ∧ p + k ≤ s.size ∧ k + (numU (suf s (p + k)) b16 int exp).1 = N ∧ (numU (suf s (p + k)) b16 int exp).2 = I

end Go.Proofs.YtngofbhlhcalpaaGreatDoor.lexer

namespace Go.Proofs.YtngofbhlhcalpaaGreatDoor.lexer
open Go.RowKit Go.Proofs.YtngofbhlhcalpaaGreatDoor.gen


set_option maxRecDepth 100000 in
set_option maxHeartbeats 8000000 in
theorem num10_any (lb fb : Nat) (fp s : ByteArray) (x : LX) (np : Bool) (w : World) (hs : s.size ≤ 1048576) (hE : Env w lb fb) (hS : St w lb fb fp s x) (N : Nat) (I : Bool)
    (hx0 : ¬ (byt s ((x.p : Int) + 0) = 48 ∧ (byt s ((x.p : Int) + 1) = 120 ∨ byt s ((x.p : Int) + 1) = 88)))
    (hN : (numU (suf s x.p) false true false) = (N, I)) :
    Calls Tryz.prog 73 #[.pointer (some ⟨lb, 0, none⟩), .bool np] w (NumRes np lb fb fp s x N I 10 w) := by
  have hR := hS.rd
  have HP : Hid (x.p + N ≤ s.size) := by
    have h1 := numU_le _ (suf s x.p) false true false (Nat.le_refl _)
    rw [hN, suf_len] at h1
    have h2 := hS.pz
    show x.p + N ≤ s.size
    have h3 : N ≤ s.size - x.p := h1
    omega
  have HN := Lib.hid hN
  have HEn := Lib.hid hE
  have HS := Lib.hid hS
  have hsz := hS.sz
  have hpz := hS.pz
  clear hN hE hS
  go_enter Tryz.func73, Tryz.ntmps73
  go_upto_region 2 with fail
  go_cut [24] from 10 to 24 (fun c wx => c = .bool false ∧ ∃ nq, wx = w.drewN nq)
  case first =>
    by_cases h0 : byt s ((x.p : Int) + 0) = 48
    · have h1 : ¬ byt s ((x.p : Int) + 1) = 120 := fun e => hx0 ⟨h0, .inl e⟩
      have h2 : ¬ byt s ((x.p : Int) + 1) = 88 := fun e => hx0 ⟨h0, .inr e⟩
      clear hx0
      go_wp2_with (first | (go_at_call 65; first | ((with_reducible refine (peekIs_yes _ _ _ _ _ _ _ (hR.drewN _) ?_).mono ?_); omega; rintro e w' ⟨rfl, nq, rfl⟩) | ((with_reducible refine (peekIs_yes _ _ _ _ _ _ _ hR ?_).mono ?_); omega; rintro e w' ⟨rfl, nq, rfl⟩) | ((with_reducible refine (peekIs_no _ _ _ _ _ _ _ (hR.drewN _) ?_).mono ?_); omega; rintro e w' ⟨rfl, nq, rfl⟩) | ((with_reducible refine (peekIs_no _ _ _ _ _ _ _ hR ?_).mono ?_); omega; rintro e w' ⟨rfl, nq, rfl⟩)))
      go_meet
      exact ⟨rfl, _, rfl⟩
    · clear hx0
      go_wp2_with (first | (go_at_call 65; first | ((with_reducible refine (peekIs_yes _ _ _ _ _ _ _ (hR.drewN _) ?_).mono ?_); omega; rintro e w' ⟨rfl, nq, rfl⟩) | ((with_reducible refine (peekIs_yes _ _ _ _ _ _ _ hR ?_).mono ?_); omega; rintro e w' ⟨rfl, nq, rfl⟩) | ((with_reducible refine (peekIs_no _ _ _ _ _ _ _ (hR.drewN _) ?_).mono ?_); omega; rintro e w' ⟨rfl, nq, rfl⟩) | ((with_reducible refine (peekIs_no _ _ _ _ _ _ _ hR ?_).mono ?_); omega; rintro e w' ⟨rfl, nq, rfl⟩)))
      go_meet
      exact ⟨rfl, _, rfl⟩
  case rest =>
    obtain ⟨rfl, nq0, rfl⟩ := hcut
    clear hx0
    go_upto_block 0 with fail
    go_cut [4, 6] from 27 to 106 (fun i a wx => i = .int .i64 N ∧ a = .bool I ∧ ∃ nq, wx = w.drewN nq)
    case first =>
      go_wp2_with fail
      go_loopw [4, 6, 7] (fun i a b wr => NumRel s x.p N I false i a b w wr) (fun i _ _ _ => s.size - (intOf i).toNat)
      case atStart => exact ⟨0, _, true, false, rfl, rfl, rfl, rfl, by omega, by simpa using congrArg Prod.fst HN.out, by simpa using congrArg Prod.snd HN.out⟩
      case round =>
        obtain ⟨k, nq, int, exp, rfl, rfl, rfl, rfl, hpk, hk1, hk2⟩ := hrel
        have HK1 := Lib.hid hk1
        have HK2 := Lib.hid hk2
        clear hk1 hk2
        rcases suf_byt s (x.p + k) with ⟨hb, hsuf, hge⟩ | ⟨c, hb, hsuf, hlt⟩
        · have hk : k = N := by have := HK1.out; rw [hsuf] at this; simpa [numU] using this
          have hi : int = I := by have := HK2.out; rw [hsuf] at this; simpa [numU] using this
          subst hk hi
          have hge2 : (s.size : Int) ≤ (x.p : Int) + (k : Int) := by omega
          clear hb hsuf
          cases int with
          | true =>
            go_wp2_with (first | (go_at_call 67; first | ((with_reducible refine (peekOk_yes _ _ _ _ _ _ (hR.drewN _) ?_).mono ?_); omega; rintro e w' ⟨rfl, nq, rfl⟩) | ((with_reducible refine (peekOk_yes _ _ _ _ _ _ hR ?_).mono ?_); omega; rintro e w' ⟨rfl, nq, rfl⟩) | ((with_reducible refine (peekOk_no _ _ _ _ _ _ (hR.drewN _) ?_).mono ?_); omega; rintro e w' ⟨rfl, nq, rfl⟩) | ((with_reducible refine (peekOk_no _ _ _ _ _ _ hR ?_).mono ?_); omega; rintro e w' ⟨rfl, nq, rfl⟩)))
            go_meet
            exact ⟨rfl, rfl, _, rfl⟩
          | false =>
            go_wp2_with (first | (go_at_call 67; first | ((with_reducible refine (peekOk_yes _ _ _ _ _ _ (hR.drewN _) ?_).mono ?_); omega; rintro e w' ⟨rfl, nq, rfl⟩) | ((with_reducible refine (peekOk_yes _ _ _ _ _ _ hR ?_).mono ?_); omega; rintro e w' ⟨rfl, nq, rfl⟩) | ((with_reducible refine (peekOk_no _ _ _ _ _ _ (hR.drewN _) ?_).mono ?_); omega; rintro e w' ⟨rfl, nq, rfl⟩) | ((with_reducible refine (peekOk_no _ _ _ _ _ _ hR ?_).mono ?_); omega; rintro e w' ⟨rfl, nq, rfl⟩)))
            go_meet
            exact ⟨rfl, rfl, _, rfl⟩
        · have hbd := nn_bd c
          rw [show ((x.p + k : Nat) : Int) = (x.p : Int) + (k : Int) from by omega] at hb
          have hlt2 : (x.p : Int) + (k : Int) < s.size := by omega
          have Hs := Lib.hid hsuf
          clear hsuf
          cases hd : dg (nn c) with
          | true =>
            have h1 := numU_dig c (suf s (x.p + k + 1)) int exp hd
            have hk1 : k + 1 + (numU (suf s (x.p + k + 1)) false int exp).1 = N := by have := HK1.out; rw [Hs.out, h1] at this; rw [← this]; show _ = k + (_ + 1); omega
            have hk2 : (numU (suf s (x.p + k + 1)) false int exp).2 = I := by have := HK2.out; rw [Hs.out, h1] at this; exact this
            have HK3 := Lib.hid hk1
            have HK4 := Lib.hid hk2
            clear h1 hk1 hk2 HK1 HK2
            go_wp2_with (first | (go_at_call 67; first | ((with_reducible refine (peekOk_yes _ _ _ _ _ _ (hR.drewN _) ?_).mono ?_); omega; rintro e w' ⟨rfl, nq, rfl⟩) | ((with_reducible refine (peekOk_yes _ _ _ _ _ _ hR ?_).mono ?_); omega; rintro e w' ⟨rfl, nq, rfl⟩) | ((with_reducible refine (peekOk_no _ _ _ _ _ _ (hR.drewN _) ?_).mono ?_); omega; rintro e w' ⟨rfl, nq, rfl⟩) | ((with_reducible refine (peekOk_no _ _ _ _ _ _ hR ?_).mono ?_); omega; rintro e w' ⟨rfl, nq, rfl⟩)) | (go_at_call 69; first | ((with_reducible refine (peek_any _ _ _ _ _ _ _ (hR.drewN _) ⟨?_, ?_, by assumption⟩).mono ?_); omega; omega; rintro e w' ⟨rfl, nq, rfl⟩) | ((with_reducible refine (peek_any _ _ _ _ _ _ _ hR ⟨?_, ?_, by assumption⟩).mono ?_); omega; omega; rintro e w' ⟨rfl, nq, rfl⟩)) | (go_at_call 72; refine (isDigit_any _ _).mono ?_; rintro e w' ⟨rfl, rfl⟩))
            go_roundw
            case rel => exact ⟨k + 1, _, int, exp, by go_num, rfl, rfl, rfl, by omega, HK3.out, HK4.out⟩
            case measure => simp [intOf]; omega
          | false =>
            cases exp with
            | true =>
              cases int with
              | true =>
                have h1 : numU (c :: suf s (x.p + k + 1)) false true true = (0, true) := numU_stop c _ _ _ hd (fun _ h => by cases h.2) (fun _ => rfl)
                have hk : k = N := by have := HK1.out; rw [Hs.out, h1] at this; simpa using this
                have hi : true = I := by have := HK2.out; rw [Hs.out, h1] at this; simpa using this
                subst hk hi
                clear h1
                go_wp2_with (first | (go_at_call 67; first | ((with_reducible refine (peekOk_yes _ _ _ _ _ _ (hR.drewN _) ?_).mono ?_); omega; rintro e w' ⟨rfl, nq, rfl⟩) | ((with_reducible refine (peekOk_yes _ _ _ _ _ _ hR ?_).mono ?_); omega; rintro e w' ⟨rfl, nq, rfl⟩) | ((with_reducible refine (peekOk_no _ _ _ _ _ _ (hR.drewN _) ?_).mono ?_); omega; rintro e w' ⟨rfl, nq, rfl⟩) | ((with_reducible refine (peekOk_no _ _ _ _ _ _ hR ?_).mono ?_); omega; rintro e w' ⟨rfl, nq, rfl⟩)) | (go_at_call 69; first | ((with_reducible refine (peek_any _ _ _ _ _ _ _ (hR.drewN _) ⟨?_, ?_, by assumption⟩).mono ?_); omega; omega; rintro e w' ⟨rfl, nq, rfl⟩) | ((with_reducible refine (peek_any _ _ _ _ _ _ _ hR ⟨?_, ?_, by assumption⟩).mono ?_); omega; omega; rintro e w' ⟨rfl, nq, rfl⟩)) | (go_at_call 72; refine (isDigit_any _ _).mono ?_; rintro e w' ⟨rfl, rfl⟩))
                go_meet
                exact ⟨rfl, rfl, _, rfl⟩
              | false =>
                have h1 : numU (c :: suf s (x.p + k + 1)) false false true = (0, false) := numU_stop c _ _ _ hd (fun _ h => by cases h.1) (fun _ => rfl)
                have hk : k = N := by have := HK1.out; rw [Hs.out, h1] at this; simpa using this
                have hi : false = I := by have := HK2.out; rw [Hs.out, h1] at this; simpa using this
                subst hk hi
                clear h1
                go_wp2_with (first | (go_at_call 67; first | ((with_reducible refine (peekOk_yes _ _ _ _ _ _ (hR.drewN _) ?_).mono ?_); omega; rintro e w' ⟨rfl, nq, rfl⟩) | ((with_reducible refine (peekOk_yes _ _ _ _ _ _ hR ?_).mono ?_); omega; rintro e w' ⟨rfl, nq, rfl⟩) | ((with_reducible refine (peekOk_no _ _ _ _ _ _ (hR.drewN _) ?_).mono ?_); omega; rintro e w' ⟨rfl, nq, rfl⟩) | ((with_reducible refine (peekOk_no _ _ _ _ _ _ hR ?_).mono ?_); omega; rintro e w' ⟨rfl, nq, rfl⟩)) | (go_at_call 69; first | ((with_reducible refine (peek_any _ _ _ _ _ _ _ (hR.drewN _) ⟨?_, ?_, by assumption⟩).mono ?_); omega; omega; rintro e w' ⟨rfl, nq, rfl⟩) | ((with_reducible refine (peek_any _ _ _ _ _ _ _ hR ⟨?_, ?_, by assumption⟩).mono ?_); omega; omega; rintro e w' ⟨rfl, nq, rfl⟩)) | (go_at_call 72; refine (isDigit_any _ _).mono ?_; rintro e w' ⟨rfl, rfl⟩))
                go_meet
                exact ⟨rfl, rfl, _, rfl⟩
            | false =>
              by_cases c46 : nn c = 46
              · cases int with
                | true =>
                  have h1 := numU_dot c (suf s (x.p + k + 1)) c46
                  have hk1 : k + 1 + (numU (suf s (x.p + k + 1)) false false false).1 = N := by have := HK1.out; rw [Hs.out, h1] at this; rw [← this]; show _ = k + (_ + 1); omega
                  have hk2 : (numU (suf s (x.p + k + 1)) false false false).2 = I := by have := HK2.out; rw [Hs.out, h1] at this; exact this
                  have HK3 := Lib.hid hk1
                  have HK4 := Lib.hid hk2
                  clear h1 hk1 hk2 HK1 HK2
                  go_wp2_with (first | (go_at_call 67; first | ((with_reducible refine (peekOk_yes _ _ _ _ _ _ (hR.drewN _) ?_).mono ?_); omega; rintro e w' ⟨rfl, nq, rfl⟩) | ((with_reducible refine (peekOk_yes _ _ _ _ _ _ hR ?_).mono ?_); omega; rintro e w' ⟨rfl, nq, rfl⟩) | ((with_reducible refine (peekOk_no _ _ _ _ _ _ (hR.drewN _) ?_).mono ?_); omega; rintro e w' ⟨rfl, nq, rfl⟩) | ((with_reducible refine (peekOk_no _ _ _ _ _ _ hR ?_).mono ?_); omega; rintro e w' ⟨rfl, nq, rfl⟩)) | (go_at_call 69; first | ((with_reducible refine (peek_any _ _ _ _ _ _ _ (hR.drewN _) ⟨?_, ?_, by assumption⟩).mono ?_); omega; omega; rintro e w' ⟨rfl, nq, rfl⟩) | ((with_reducible refine (peek_any _ _ _ _ _ _ _ hR ⟨?_, ?_, by assumption⟩).mono ?_); omega; omega; rintro e w' ⟨rfl, nq, rfl⟩)) | (go_at_call 72; refine (isDigit_any _ _).mono ?_; rintro e w' ⟨rfl, rfl⟩))
                  go_roundw
                  case rel => exact ⟨k + 1, _, false, false, by go_num, rfl, rfl, rfl, by omega, HK3.out, HK4.out⟩
                  case measure => simp [intOf]; omega
                | false =>
                  have h1 : numU (c :: suf s (x.p + k + 1)) false false false = (0, false) := numU_stop c _ _ _ hd (fun _ h => by cases h.1) (fun h => by omega)
                  have hk : k = N := by have := HK1.out; rw [Hs.out, h1] at this; simpa using this
                  have hi : false = I := by have := HK2.out; rw [Hs.out, h1] at this; simpa using this
                  subst hk hi
                  clear h1
                  go_wp2_with (first | (go_at_call 67; first | ((with_reducible refine (peekOk_yes _ _ _ _ _ _ (hR.drewN _) ?_).mono ?_); omega; rintro e w' ⟨rfl, nq, rfl⟩) | ((with_reducible refine (peekOk_yes _ _ _ _ _ _ hR ?_).mono ?_); omega; rintro e w' ⟨rfl, nq, rfl⟩) | ((with_reducible refine (peekOk_no _ _ _ _ _ _ (hR.drewN _) ?_).mono ?_); omega; rintro e w' ⟨rfl, nq, rfl⟩) | ((with_reducible refine (peekOk_no _ _ _ _ _ _ hR ?_).mono ?_); omega; rintro e w' ⟨rfl, nq, rfl⟩)) | (go_at_call 69; first | ((with_reducible refine (peek_any _ _ _ _ _ _ _ (hR.drewN _) ⟨?_, ?_, by assumption⟩).mono ?_); omega; omega; rintro e w' ⟨rfl, nq, rfl⟩) | ((with_reducible refine (peek_any _ _ _ _ _ _ _ hR ⟨?_, ?_, by assumption⟩).mono ?_); omega; omega; rintro e w' ⟨rfl, nq, rfl⟩)) | (go_at_call 72; refine (isDigit_any _ _).mono ?_; rintro e w' ⟨rfl, rfl⟩))
                  go_meet
                  exact ⟨rfl, rfl, _, rfl⟩
              · by_cases ce : nn c = 69 ∨ nn c = 101
                · cases int with
                  | true =>
                    have ce2 : nn c = 69 ∨ nn c = 101 := ce
                    clear ce2
                    rcases suf_byt s (x.p + k + 1) with ⟨hb1, hsuf1, hge1⟩ | ⟨d, hb1, hsuf1, hlt1⟩
                    · have Hs1 := Lib.hid hsuf1
                      have hge3 : (s.size : Int) ≤ (x.p : Int) + ((k : Int) + 1) := by omega
                      have hbf : byt s ((x.p : Int) + ((k : Int) + 1)) = -1 := by rw [show (x.p : Int) + ((k : Int) + 1) = ((x.p + k + 1 : Nat) : Int) from by omega]; exact hb1
                      clear hb1 hsuf1
                      have h1 : numU (c :: suf s (x.p + k + 1)) false true false = (0, true) := by rw [Hs1.out]; exact numU_expNo c _ _ ce (fun d r2 e => by cases e)
                      have hk : k = N := by have := HK1.out; rw [Hs.out, h1] at this; simpa using this
                      have hi : true = I := by have := HK2.out; rw [Hs.out, h1] at this; simpa using this
                      subst hk hi
                      clear h1
                      rcases ce with ce | ce
                      all_goals
                        go_wp2_with (first | (go_at_call 67; first | ((with_reducible refine (peekOk_yes _ _ _ _ _ _ (hR.drewN _) ?_).mono ?_); omega; rintro e w' ⟨rfl, nq, rfl⟩) | ((with_reducible refine (peekOk_yes _ _ _ _ _ _ hR ?_).mono ?_); omega; rintro e w' ⟨rfl, nq, rfl⟩) | ((with_reducible refine (peekOk_no _ _ _ _ _ _ (hR.drewN _) ?_).mono ?_); omega; rintro e w' ⟨rfl, nq, rfl⟩) | ((with_reducible refine (peekOk_no _ _ _ _ _ _ hR ?_).mono ?_); omega; rintro e w' ⟨rfl, nq, rfl⟩)) | (go_at_call 69; first | ((with_reducible refine (peek_any _ _ _ _ _ _ _ (hR.drewN _) ⟨?_, ?_, by assumption⟩).mono ?_); omega; omega; rintro e w' ⟨rfl, nq, rfl⟩) | ((with_reducible refine (peek_any _ _ _ _ _ _ _ hR ⟨?_, ?_, by assumption⟩).mono ?_); omega; omega; rintro e w' ⟨rfl, nq, rfl⟩)) | (go_at_call 72; refine (isDigit_any _ _).mono ?_; rintro e w' ⟨rfl, rfl⟩) | (go_at_call 65; first | ((with_reducible refine (peekIs_yes _ _ _ _ _ _ _ (hR.drewN _) ?_).mono ?_); omega; rintro e w' ⟨rfl, nq, rfl⟩) | ((with_reducible refine (peekIs_yes _ _ _ _ _ _ _ hR ?_).mono ?_); omega; rintro e w' ⟨rfl, nq, rfl⟩) | ((with_reducible refine (peekIs_no _ _ _ _ _ _ _ (hR.drewN _) ?_).mono ?_); omega; rintro e w' ⟨rfl, nq, rfl⟩) | ((with_reducible refine (peekIs_no _ _ _ _ _ _ _ hR ?_).mono ?_); omega; rintro e w' ⟨rfl, nq, rfl⟩)))
                        go_meet
                        exact ⟨rfl, rfl, _, rfl⟩
                    · have Hs1 := Lib.hid hsuf1
                      have hb1' : byt s ((x.p : Int) + ((k : Int) + 1)) = nn d := by rw [show (x.p : Int) + ((k : Int) + 1) = ((x.p + k + 1 : Nat) : Int) from by omega]; exact hb1
                      have hbdd := nn_bd d
                      have hlt3 : (x.p : Int) + ((k : Int) + 1) < s.size := by omega
                      clear hb1 hsuf1
                      by_cases hs : nn d = 43 ∨ nn d = 45
                      · rcases suf_byt s (x.p + k + 1 + 1) with ⟨hb2, hsuf2, hge2⟩ | ⟨e2, hb2, hsuf2, hlt2'⟩
                        · have hge4 : (s.size : Int) ≤ (x.p : Int) + ((k : Int) + 1 + 1) := by omega
                          have hdh : dgHead (suf s (x.p + k + 1 + 1)) = false := by rw [hsuf2]; rfl
                          clear hb2 hsuf2
                          have h1 : numU (c :: suf s (x.p + k + 1)) false true false = (0, true) := numU_expNo c _ _ ce (by rw [Hs1.out]; intro d' r2 e; cases e; exact .inl ⟨hs, hdh⟩)
                          have hk : k = N := by have := HK1.out; rw [Hs.out, h1] at this; simpa using this
                          have hi : true = I := by have := HK2.out; rw [Hs.out, h1] at this; simpa using this
                          subst hk hi
                          clear h1
                          clear hdh
                          rcases ce with ce | ce <;> rcases hs with hs | hs
                          all_goals
                            go_wp2_with (first | (go_at_call 67; first | ((with_reducible refine (peekOk_yes _ _ _ _ _ _ (hR.drewN _) ?_).mono ?_); omega; rintro e w' ⟨rfl, nq, rfl⟩) | ((with_reducible refine (peekOk_yes _ _ _ _ _ _ hR ?_).mono ?_); omega; rintro e w' ⟨rfl, nq, rfl⟩) | ((with_reducible refine (peekOk_no _ _ _ _ _ _ (hR.drewN _) ?_).mono ?_); omega; rintro e w' ⟨rfl, nq, rfl⟩) | ((with_reducible refine (peekOk_no _ _ _ _ _ _ hR ?_).mono ?_); omega; rintro e w' ⟨rfl, nq, rfl⟩)) | (go_at_call 69; first | ((with_reducible refine (peek_any _ _ _ _ _ _ _ (hR.drewN _) ⟨?_, ?_, by assumption⟩).mono ?_); omega; omega; rintro e w' ⟨rfl, nq, rfl⟩) | ((with_reducible refine (peek_any _ _ _ _ _ _ _ hR ⟨?_, ?_, by assumption⟩).mono ?_); omega; omega; rintro e w' ⟨rfl, nq, rfl⟩)) | (go_at_call 72; refine (isDigit_any _ _).mono ?_; rintro e w' ⟨rfl, rfl⟩) | (go_at_call 65; first | ((with_reducible refine (peekIs_yes _ _ _ _ _ _ _ (hR.drewN _) ?_).mono ?_); omega; rintro e w' ⟨rfl, nq, rfl⟩) | ((with_reducible refine (peekIs_yes _ _ _ _ _ _ _ hR ?_).mono ?_); omega; rintro e w' ⟨rfl, nq, rfl⟩) | ((with_reducible refine (peekIs_no _ _ _ _ _ _ _ (hR.drewN _) ?_).mono ?_); omega; rintro e w' ⟨rfl, nq, rfl⟩) | ((with_reducible refine (peekIs_no _ _ _ _ _ _ _ hR ?_).mono ?_); omega; rintro e w' ⟨rfl, nq, rfl⟩)))
                            go_meet
                            exact ⟨rfl, rfl, _, rfl⟩
                        · have hb2' : byt s ((x.p : Int) + ((k : Int) + 1 + 1)) = nn e2 := by rw [show (x.p : Int) + ((k : Int) + 1 + 1) = ((x.p + k + 1 + 1 : Nat) : Int) from by omega]; exact hb2
                          have hbd2 := nn_bd e2
                          have hlt4 : (x.p : Int) + ((k : Int) + 1 + 1) < s.size := by omega
                          have hdh : dgHead (suf s (x.p + k + 1 + 1)) = dg (nn e2) := by rw [hsuf2]; rfl
                          have HDH := Lib.hid hdh
                          clear hb2 hsuf2 hdh
                          cases hd2 : dg (nn e2) with
                          | true =>
                            have h1 := numU_exp2 c d (suf s (x.p + k + 1 + 1)) true ce hs (HDH.out.trans hd2)
                            have hk1 : k + 1 + 1 + (numU (suf s (x.p + k + 1 + 1)) false false true).1 = N := by have := HK1.out; rw [Hs.out, Hs1.out, h1] at this; rw [← this]; show _ = k + (_ + 2); omega
                            have hk2 : (numU (suf s (x.p + k + 1 + 1)) false false true).2 = I := by have := HK2.out; rw [Hs.out, Hs1.out, h1] at this; exact this
                            have HK3 := Lib.hid hk1
                            have HK4 := Lib.hid hk2
                            clear h1 hk1 hk2 HK1 HK2
                            rcases ce with ce | ce <;> rcases hs with hs | hs
                            all_goals
                              go_wp2_with (first | (go_at_call 67; first | ((with_reducible refine (peekOk_yes _ _ _ _ _ _ (hR.drewN _) ?_).mono ?_); omega; rintro e w' ⟨rfl, nq, rfl⟩) | ((with_reducible refine (peekOk_yes _ _ _ _ _ _ hR ?_).mono ?_); omega; rintro e w' ⟨rfl, nq, rfl⟩) | ((with_reducible refine (peekOk_no _ _ _ _ _ _ (hR.drewN _) ?_).mono ?_); omega; rintro e w' ⟨rfl, nq, rfl⟩) | ((with_reducible refine (peekOk_no _ _ _ _ _ _ hR ?_).mono ?_); omega; rintro e w' ⟨rfl, nq, rfl⟩)) | (go_at_call 69; first | ((with_reducible refine (peek_any _ _ _ _ _ _ _ (hR.drewN _) ⟨?_, ?_, by assumption⟩).mono ?_); omega; omega; rintro e w' ⟨rfl, nq, rfl⟩) | ((with_reducible refine (peek_any _ _ _ _ _ _ _ hR ⟨?_, ?_, by assumption⟩).mono ?_); omega; omega; rintro e w' ⟨rfl, nq, rfl⟩)) | (go_at_call 72; refine (isDigit_any _ _).mono ?_; rintro e w' ⟨rfl, rfl⟩) | (go_at_call 65; first | ((with_reducible refine (peekIs_yes _ _ _ _ _ _ _ (hR.drewN _) ?_).mono ?_); omega; rintro e w' ⟨rfl, nq, rfl⟩) | ((with_reducible refine (peekIs_yes _ _ _ _ _ _ _ hR ?_).mono ?_); omega; rintro e w' ⟨rfl, nq, rfl⟩) | ((with_reducible refine (peekIs_no _ _ _ _ _ _ _ (hR.drewN _) ?_).mono ?_); omega; rintro e w' ⟨rfl, nq, rfl⟩) | ((with_reducible refine (peekIs_no _ _ _ _ _ _ _ hR ?_).mono ?_); omega; rintro e w' ⟨rfl, nq, rfl⟩)))
                              go_roundw
                              case rel => exact ⟨k + 1 + 1, _, false, true, by go_num, rfl, rfl, rfl, by omega, HK3.out, HK4.out⟩
                              case measure => simp [intOf]; omega
                          | false =>
                            have h1 : numU (c :: suf s (x.p + k + 1)) false true false = (0, true) := numU_expNo c _ _ ce (by rw [Hs1.out]; intro d' r2 e; cases e; exact .inl ⟨hs, HDH.out.trans hd2⟩)
                            have hk : k = N := by have := HK1.out; rw [Hs.out, h1] at this; simpa using this
                            have hi : true = I := by have := HK2.out; rw [Hs.out, h1] at this; simpa using this
                            subst hk hi
                            clear h1
                            rcases ce with ce | ce <;> rcases hs with hs | hs
                            all_goals
                              go_wp2_with (first | (go_at_call 67; first | ((with_reducible refine (peekOk_yes _ _ _ _ _ _ (hR.drewN _) ?_).mono ?_); omega; rintro e w' ⟨rfl, nq, rfl⟩) | ((with_reducible refine (peekOk_yes _ _ _ _ _ _ hR ?_).mono ?_); omega; rintro e w' ⟨rfl, nq, rfl⟩) | ((with_reducible refine (peekOk_no _ _ _ _ _ _ (hR.drewN _) ?_).mono ?_); omega; rintro e w' ⟨rfl, nq, rfl⟩) | ((with_reducible refine (peekOk_no _ _ _ _ _ _ hR ?_).mono ?_); omega; rintro e w' ⟨rfl, nq, rfl⟩)) | (go_at_call 69; first | ((with_reducible refine (peek_any _ _ _ _ _ _ _ (hR.drewN _) ⟨?_, ?_, by assumption⟩).mono ?_); omega; omega; rintro e w' ⟨rfl, nq, rfl⟩) | ((with_reducible refine (peek_any _ _ _ _ _ _ _ hR ⟨?_, ?_, by assumption⟩).mono ?_); omega; omega; rintro e w' ⟨rfl, nq, rfl⟩)) | (go_at_call 72; refine (isDigit_any _ _).mono ?_; rintro e w' ⟨rfl, rfl⟩) | (go_at_call 65; first | ((with_reducible refine (peekIs_yes _ _ _ _ _ _ _ (hR.drewN _) ?_).mono ?_); omega; rintro e w' ⟨rfl, nq, rfl⟩) | ((with_reducible refine (peekIs_yes _ _ _ _ _ _ _ hR ?_).mono ?_); omega; rintro e w' ⟨rfl, nq, rfl⟩) | ((with_reducible refine (peekIs_no _ _ _ _ _ _ _ (hR.drewN _) ?_).mono ?_); omega; rintro e w' ⟨rfl, nq, rfl⟩) | ((with_reducible refine (peekIs_no _ _ _ _ _ _ _ hR ?_).mono ?_); omega; rintro e w' ⟨rfl, nq, rfl⟩)))
                              go_meet
                              exact ⟨rfl, rfl, _, rfl⟩
                      · have hs1 : ¬ nn d = 43 := fun e => hs (.inl e)
                        have hs2 : ¬ nn d = 45 := fun e => hs (.inr e)
                        cases hd2 : dg (nn d) with
                        | true =>
                          have h1 := numU_exp1 c d (suf s (x.p + k + 1 + 1)) true ce hd2
                          have hk1 : k + 1 + (numU (suf s (x.p + k + 1)) false false true).1 = N := by have := HK1.out; rw [Hs.out, Hs1.out, h1, ← Hs1.out] at this; rw [← this]; show _ = k + (_ + 1); omega
                          have hk2 : (numU (suf s (x.p + k + 1)) false false true).2 = I := by have := HK2.out; rw [Hs.out, Hs1.out, h1, ← Hs1.out] at this; exact this
                          have HK3 := Lib.hid hk1
                          have HK4 := Lib.hid hk2
                          clear h1 hk1 hk2 HK1 HK2
                          rcases ce with ce | ce
                          all_goals
                            go_wp2_with (first | (go_at_call 67; first | ((with_reducible refine (peekOk_yes _ _ _ _ _ _ (hR.drewN _) ?_).mono ?_); omega; rintro e w' ⟨rfl, nq, rfl⟩) | ((with_reducible refine (peekOk_yes _ _ _ _ _ _ hR ?_).mono ?_); omega; rintro e w' ⟨rfl, nq, rfl⟩) | ((with_reducible refine (peekOk_no _ _ _ _ _ _ (hR.drewN _) ?_).mono ?_); omega; rintro e w' ⟨rfl, nq, rfl⟩) | ((with_reducible refine (peekOk_no _ _ _ _ _ _ hR ?_).mono ?_); omega; rintro e w' ⟨rfl, nq, rfl⟩)) | (go_at_call 69; first | ((with_reducible refine (peek_any _ _ _ _ _ _ _ (hR.drewN _) ⟨?_, ?_, by assumption⟩).mono ?_); omega; omega; rintro e w' ⟨rfl, nq, rfl⟩) | ((with_reducible refine (peek_any _ _ _ _ _ _ _ hR ⟨?_, ?_, by assumption⟩).mono ?_); omega; omega; rintro e w' ⟨rfl, nq, rfl⟩)) | (go_at_call 72; refine (isDigit_any _ _).mono ?_; rintro e w' ⟨rfl, rfl⟩) | (go_at_call 65; first | ((with_reducible refine (peekIs_yes _ _ _ _ _ _ _ (hR.drewN _) ?_).mono ?_); omega; rintro e w' ⟨rfl, nq, rfl⟩) | ((with_reducible refine (peekIs_yes _ _ _ _ _ _ _ hR ?_).mono ?_); omega; rintro e w' ⟨rfl, nq, rfl⟩) | ((with_reducible refine (peekIs_no _ _ _ _ _ _ _ (hR.drewN _) ?_).mono ?_); omega; rintro e w' ⟨rfl, nq, rfl⟩) | ((with_reducible refine (peekIs_no _ _ _ _ _ _ _ hR ?_).mono ?_); omega; rintro e w' ⟨rfl, nq, rfl⟩)))
                            go_roundw
                            case rel => exact ⟨k + 1, _, false, true, by go_num, rfl, rfl, rfl, by omega, HK3.out, HK4.out⟩
                            case measure => simp [intOf]; omega
                        | false =>
                          have h1 : numU (c :: suf s (x.p + k + 1)) false true false = (0, true) := numU_expNo c _ _ ce (by rw [Hs1.out]; intro d' r2 e; cases e; exact .inr ⟨hs1, hs2, hd2⟩)
                          have hk : k = N := by have := HK1.out; rw [Hs.out, h1] at this; simpa using this
                          have hi : true = I := by have := HK2.out; rw [Hs.out, h1] at this; simpa using this
                          subst hk hi
                          clear h1
                          rcases ce with ce | ce
                          all_goals
                            go_wp2_with (first | (go_at_call 67; first | ((with_reducible refine (peekOk_yes _ _ _ _ _ _ (hR.drewN _) ?_).mono ?_); omega; rintro e w' ⟨rfl, nq, rfl⟩) | ((with_reducible refine (peekOk_yes _ _ _ _ _ _ hR ?_).mono ?_); omega; rintro e w' ⟨rfl, nq, rfl⟩) | ((with_reducible refine (peekOk_no _ _ _ _ _ _ (hR.drewN _) ?_).mono ?_); omega; rintro e w' ⟨rfl, nq, rfl⟩) | ((with_reducible refine (peekOk_no _ _ _ _ _ _ hR ?_).mono ?_); omega; rintro e w' ⟨rfl, nq, rfl⟩)) | (go_at_call 69; first | ((with_reducible refine (peek_any _ _ _ _ _ _ _ (hR.drewN _) ⟨?_, ?_, by assumption⟩).mono ?_); omega; omega; rintro e w' ⟨rfl, nq, rfl⟩) | ((with_reducible refine (peek_any _ _ _ _ _ _ _ hR ⟨?_, ?_, by assumption⟩).mono ?_); omega; omega; rintro e w' ⟨rfl, nq, rfl⟩)) | (go_at_call 72; refine (isDigit_any _ _).mono ?_; rintro e w' ⟨rfl, rfl⟩) | (go_at_call 65; first | ((with_reducible refine (peekIs_yes _ _ _ _ _ _ _ (hR.drewN _) ?_).mono ?_); omega; rintro e w' ⟨rfl, nq, rfl⟩) | ((with_reducible refine (peekIs_yes _ _ _ _ _ _ _ hR ?_).mono ?_); omega; rintro e w' ⟨rfl, nq, rfl⟩) | ((with_reducible refine (peekIs_no _ _ _ _ _ _ _ (hR.drewN _) ?_).mono ?_); omega; rintro e w' ⟨rfl, nq, rfl⟩) | ((with_reducible refine (peekIs_no _ _ _ _ _ _ _ hR ?_).mono ?_); omega; rintro e w' ⟨rfl, nq, rfl⟩)))
                            go_meet
                            exact ⟨rfl, rfl, _, rfl⟩
                  | false =>
                    have ce2 : nn c = 69 ∨ nn c = 101 := ce
                    clear ce2
                    rcases suf_byt s (x.p + k + 1) with ⟨hb1, hsuf1, hge1⟩ | ⟨d, hb1, hsuf1, hlt1⟩
                    · have Hs1 := Lib.hid hsuf1
                      have hge3 : (s.size : Int) ≤ (x.p : Int) + ((k : Int) + 1) := by omega
                      have hbf : byt s ((x.p : Int) + ((k : Int) + 1)) = -1 := by rw [show (x.p : Int) + ((k : Int) + 1) = ((x.p + k + 1 : Nat) : Int) from by omega]; exact hb1
                      clear hb1 hsuf1
                      have h1 : numU (c :: suf s (x.p + k + 1)) false false false = (0, false) := by rw [Hs1.out]; exact numU_expNo c _ _ ce (fun d r2 e => by cases e)
                      have hk : k = N := by have := HK1.out; rw [Hs.out, h1] at this; simpa using this
                      have hi : false = I := by have := HK2.out; rw [Hs.out, h1] at this; simpa using this
                      subst hk hi
                      clear h1
                      rcases ce with ce | ce
                      all_goals
                        go_wp2_with (first | (go_at_call 67; first | ((with_reducible refine (peekOk_yes _ _ _ _ _ _ (hR.drewN _) ?_).mono ?_); omega; rintro e w' ⟨rfl, nq, rfl⟩) | ((with_reducible refine (peekOk_yes _ _ _ _ _ _ hR ?_).mono ?_); omega; rintro e w' ⟨rfl, nq, rfl⟩) | ((with_reducible refine (peekOk_no _ _ _ _ _ _ (hR.drewN _) ?_).mono ?_); omega; rintro e w' ⟨rfl, nq, rfl⟩) | ((with_reducible refine (peekOk_no _ _ _ _ _ _ hR ?_).mono ?_); omega; rintro e w' ⟨rfl, nq, rfl⟩)) | (go_at_call 69; first | ((with_reducible refine (peek_any _ _ _ _ _ _ _ (hR.drewN _) ⟨?_, ?_, by assumption⟩).mono ?_); omega; omega; rintro e w' ⟨rfl, nq, rfl⟩) | ((with_reducible refine (peek_any _ _ _ _ _ _ _ hR ⟨?_, ?_, by assumption⟩).mono ?_); omega; omega; rintro e w' ⟨rfl, nq, rfl⟩)) | (go_at_call 72; refine (isDigit_any _ _).mono ?_; rintro e w' ⟨rfl, rfl⟩) | (go_at_call 65; first | ((with_reducible refine (peekIs_yes _ _ _ _ _ _ _ (hR.drewN _) ?_).mono ?_); omega; rintro e w' ⟨rfl, nq, rfl⟩) | ((with_reducible refine (peekIs_yes _ _ _ _ _ _ _ hR ?_).mono ?_); omega; rintro e w' ⟨rfl, nq, rfl⟩) | ((with_reducible refine (peekIs_no _ _ _ _ _ _ _ (hR.drewN _) ?_).mono ?_); omega; rintro e w' ⟨rfl, nq, rfl⟩) | ((with_reducible refine (peekIs_no _ _ _ _ _ _ _ hR ?_).mono ?_); omega; rintro e w' ⟨rfl, nq, rfl⟩)))
                        go_meet
                        exact ⟨rfl, rfl, _, rfl⟩
                    · have Hs1 := Lib.hid hsuf1
                      have hb1' : byt s ((x.p : Int) + ((k : Int) + 1)) = nn d := by rw [show (x.p : Int) + ((k : Int) + 1) = ((x.p + k + 1 : Nat) : Int) from by omega]; exact hb1
                      have hbdd := nn_bd d
                      have hlt3 : (x.p : Int) + ((k : Int) + 1) < s.size := by omega
                      clear hb1 hsuf1
                      by_cases hs : nn d = 43 ∨ nn d = 45
                      · rcases suf_byt s (x.p + k + 1 + 1) with ⟨hb2, hsuf2, hge2⟩ | ⟨e2, hb2, hsuf2, hlt2'⟩
                        · have hge4 : (s.size : Int) ≤ (x.p : Int) + ((k : Int) + 1 + 1) := by omega
                          have hdh : dgHead (suf s (x.p + k + 1 + 1)) = false := by rw [hsuf2]; rfl
                          clear hb2 hsuf2
                          have h1 : numU (c :: suf s (x.p + k + 1)) false false false = (0, false) := numU_expNo c _ _ ce (by rw [Hs1.out]; intro d' r2 e; cases e; exact .inl ⟨hs, hdh⟩)
                          have hk : k = N := by have := HK1.out; rw [Hs.out, h1] at this; simpa using this
                          have hi : false = I := by have := HK2.out; rw [Hs.out, h1] at this; simpa using this
                          subst hk hi
                          clear h1
                          clear hdh
                          rcases ce with ce | ce <;> rcases hs with hs | hs
                          all_goals
                            go_wp2_with (first | (go_at_call 67; first | ((with_reducible refine (peekOk_yes _ _ _ _ _ _ (hR.drewN _) ?_).mono ?_); omega; rintro e w' ⟨rfl, nq, rfl⟩) | ((with_reducible refine (peekOk_yes _ _ _ _ _ _ hR ?_).mono ?_); omega; rintro e w' ⟨rfl, nq, rfl⟩) | ((with_reducible refine (peekOk_no _ _ _ _ _ _ (hR.drewN _) ?_).mono ?_); omega; rintro e w' ⟨rfl, nq, rfl⟩) | ((with_reducible refine (peekOk_no _ _ _ _ _ _ hR ?_).mono ?_); omega; rintro e w' ⟨rfl, nq, rfl⟩)) | (go_at_call 69; first | ((with_reducible refine (peek_any _ _ _ _ _ _ _ (hR.drewN _) ⟨?_, ?_, by assumption⟩).mono ?_); omega; omega; rintro e w' ⟨rfl, nq, rfl⟩) | ((with_reducible refine (peek_any _ _ _ _ _ _ _ hR ⟨?_, ?_, by assumption⟩).mono ?_); omega; omega; rintro e w' ⟨rfl, nq, rfl⟩)) | (go_at_call 72; refine (isDigit_any _ _).mono ?_; rintro e w' ⟨rfl, rfl⟩) | (go_at_call 65; first | ((with_reducible refine (peekIs_yes _ _ _ _ _ _ _ (hR.drewN _) ?_).mono ?_); omega; rintro e w' ⟨rfl, nq, rfl⟩) | ((with_reducible refine (peekIs_yes _ _ _ _ _ _ _ hR ?_).mono ?_); omega; rintro e w' ⟨rfl, nq, rfl⟩) | ((with_reducible refine (peekIs_no _ _ _ _ _ _ _ (hR.drewN _) ?_).mono ?_); omega; rintro e w' ⟨rfl, nq, rfl⟩) | ((with_reducible refine (peekIs_no _ _ _ _ _ _ _ hR ?_).mono ?_); omega; rintro e w' ⟨rfl, nq, rfl⟩)))
                            go_meet
                            exact ⟨rfl, rfl, _, rfl⟩
                        · have hb2' : byt s ((x.p : Int) + ((k : Int) + 1 + 1)) = nn e2 := by rw [show (x.p : Int) + ((k : Int) + 1 + 1) = ((x.p + k + 1 + 1 : Nat) : Int) from by omega]; exact hb2
                          have hbd2 := nn_bd e2
                          have hlt4 : (x.p : Int) + ((k : Int) + 1 + 1) < s.size := by omega
                          have hdh : dgHead (suf s (x.p + k + 1 + 1)) = dg (nn e2) := by rw [hsuf2]; rfl
                          have HDH := Lib.hid hdh
                          clear hb2 hsuf2 hdh
                          cases hd2 : dg (nn e2) with
                          | true =>
                            have h1 := numU_exp2 c d (suf s (x.p + k + 1 + 1)) false ce hs (HDH.out.trans hd2)
                            have hk1 : k + 1 + 1 + (numU (suf s (x.p + k + 1 + 1)) false false true).1 = N := by have := HK1.out; rw [Hs.out, Hs1.out, h1] at this; rw [← this]; show _ = k + (_ + 2); omega
                            have hk2 : (numU (suf s (x.p + k + 1 + 1)) false false true).2 = I := by have := HK2.out; rw [Hs.out, Hs1.out, h1] at this; exact this
                            have HK3 := Lib.hid hk1
                            have HK4 := Lib.hid hk2
                            clear h1 hk1 hk2 HK1 HK2
                            rcases ce with ce | ce <;> rcases hs with hs | hs
                            all_goals
                              go_wp2_with (first | (go_at_call 67; first | ((with_reducible refine (peekOk_yes _ _ _ _ _ _ (hR.drewN _) ?_).mono ?_); omega; rintro e w' ⟨rfl, nq, rfl⟩) | ((with_reducible refine (peekOk_yes _ _ _ _ _ _ hR ?_).mono ?_); omega; rintro e w' ⟨rfl, nq, rfl⟩) | ((with_reducible refine (peekOk_no _ _ _ _ _ _ (hR.drewN _) ?_).mono ?_); omega; rintro e w' ⟨rfl, nq, rfl⟩) | ((with_reducible refine (peekOk_no _ _ _ _ _ _ hR ?_).mono ?_); omega; rintro e w' ⟨rfl, nq, rfl⟩)) | (go_at_call 69; first | ((with_reducible refine (peek_any _ _ _ _ _ _ _ (hR.drewN _) ⟨?_, ?_, by assumption⟩).mono ?_); omega; omega; rintro e w' ⟨rfl, nq, rfl⟩) | ((with_reducible refine (peek_any _ _ _ _ _ _ _ hR ⟨?_, ?_, by assumption⟩).mono ?_); omega; omega; rintro e w' ⟨rfl, nq, rfl⟩)) | (go_at_call 72; refine (isDigit_any _ _).mono ?_; rintro e w' ⟨rfl, rfl⟩) | (go_at_call 65; first | ((with_reducible refine (peekIs_yes _ _ _ _ _ _ _ (hR.drewN _) ?_).mono ?_); omega; rintro e w' ⟨rfl, nq, rfl⟩) | ((with_reducible refine (peekIs_yes _ _ _ _ _ _ _ hR ?_).mono ?_); omega; rintro e w' ⟨rfl, nq, rfl⟩) | ((with_reducible refine (peekIs_no _ _ _ _ _ _ _ (hR.drewN _) ?_).mono ?_); omega; rintro e w' ⟨rfl, nq, rfl⟩) | ((with_reducible refine (peekIs_no _ _ _ _ _ _ _ hR ?_).mono ?_); omega; rintro e w' ⟨rfl, nq, rfl⟩)))
                              go_roundw
                              case rel => exact ⟨k + 1 + 1, _, false, true, by go_num, rfl, rfl, rfl, by omega, HK3.out, HK4.out⟩
                              case measure => simp [intOf]; omega
                          | false =>
                            have h1 : numU (c :: suf s (x.p + k + 1)) false false false = (0, false) := numU_expNo c _ _ ce (by rw [Hs1.out]; intro d' r2 e; cases e; exact .inl ⟨hs, HDH.out.trans hd2⟩)
                            have hk : k = N := by have := HK1.out; rw [Hs.out, h1] at this; simpa using this
                            have hi : false = I := by have := HK2.out; rw [Hs.out, h1] at this; simpa using this
                            subst hk hi
                            clear h1
                            rcases ce with ce | ce <;> rcases hs with hs | hs
                            all_goals
                              go_wp2_with (first | (go_at_call 67; first | ((with_reducible refine (peekOk_yes _ _ _ _ _ _ (hR.drewN _) ?_).mono ?_); omega; rintro e w' ⟨rfl, nq, rfl⟩) | ((with_reducible refine (peekOk_yes _ _ _ _ _ _ hR ?_).mono ?_); omega; rintro e w' ⟨rfl, nq, rfl⟩) | ((with_reducible refine (peekOk_no _ _ _ _ _ _ (hR.drewN _) ?_).mono ?_); omega; rintro e w' ⟨rfl, nq, rfl⟩) | ((with_reducible refine (peekOk_no _ _ _ _ _ _ hR ?_).mono ?_); omega; rintro e w' ⟨rfl, nq, rfl⟩)) | (go_at_call 69; first | ((with_reducible refine (peek_any _ _ _ _ _ _ _ (hR.drewN _) ⟨?_, ?_, by assumption⟩).mono ?_); omega; omega; rintro e w' ⟨rfl, nq, rfl⟩) | ((with_reducible refine (peek_any _ _ _ _ _ _ _ hR ⟨?_, ?_, by assumption⟩).mono ?_); omega; omega; rintro e w' ⟨rfl, nq, rfl⟩)) | (go_at_call 72; refine (isDigit_any _ _).mono ?_; rintro e w' ⟨rfl, rfl⟩) | (go_at_call 65; first | ((with_reducible refine (peekIs_yes _ _ _ _ _ _ _ (hR.drewN _) ?_).mono ?_); omega; rintro e w' ⟨rfl, nq, rfl⟩) | ((with_reducible refine (peekIs_yes _ _ _ _ _ _ _ hR ?_).mono ?_); omega; rintro e w' ⟨rfl, nq, rfl⟩) | ((with_reducible refine (peekIs_no _ _ _ _ _ _ _ (hR.drewN _) ?_).mono ?_); omega; rintro e w' ⟨rfl, nq, rfl⟩) | ((with_reducible refine (peekIs_no _ _ _ _ _ _ _ hR ?_).mono ?_); omega; rintro e w' ⟨rfl, nq, rfl⟩)))
                              go_meet
                              exact ⟨rfl, rfl, _, rfl⟩
                      · have hs1 : ¬ nn d = 43 := fun e => hs (.inl e)
                        have hs2 : ¬ nn d = 45 := fun e => hs (.inr e)
                        cases hd2 : dg (nn d) with
                        | true =>
                          have h1 := numU_exp1 c d (suf s (x.p + k + 1 + 1)) false ce hd2
                          have hk1 : k + 1 + (numU (suf s (x.p + k + 1)) false false true).1 = N := by have := HK1.out; rw [Hs.out, Hs1.out, h1, ← Hs1.out] at this; rw [← this]; show _ = k + (_ + 1); omega
                          have hk2 : (numU (suf s (x.p + k + 1)) false false true).2 = I := by have := HK2.out; rw [Hs.out, Hs1.out, h1, ← Hs1.out] at this; exact this
                          have HK3 := Lib.hid hk1
                          have HK4 := Lib.hid hk2
                          clear h1 hk1 hk2 HK1 HK2
                          rcases ce with ce | ce
                          all_goals
                            go_wp2_with (first | (go_at_call 67; first | ((with_reducible refine (peekOk_yes _ _ _ _ _ _ (hR.drewN _) ?_).mono ?_); omega; rintro e w' ⟨rfl, nq, rfl⟩) | ((with_reducible refine (peekOk_yes _ _ _ _ _ _ hR ?_).mono ?_); omega; rintro e w' ⟨rfl, nq, rfl⟩) | ((with_reducible refine (peekOk_no _ _ _ _ _ _ (hR.drewN _) ?_).mono ?_); omega; rintro e w' ⟨rfl, nq, rfl⟩) | ((with_reducible refine (peekOk_no _ _ _ _ _ _ hR ?_).mono ?_); omega; rintro e w' ⟨rfl, nq, rfl⟩)) | (go_at_call 69; first | ((with_reducible refine (peek_any _ _ _ _ _ _ _ (hR.drewN _) ⟨?_, ?_, by assumption⟩).mono ?_); omega; omega; rintro e w' ⟨rfl, nq, rfl⟩) | ((with_reducible refine (peek_any _ _ _ _ _ _ _ hR ⟨?_, ?_, by assumption⟩).mono ?_); omega; omega; rintro e w' ⟨rfl, nq, rfl⟩)) | (go_at_call 72; refine (isDigit_any _ _).mono ?_; rintro e w' ⟨rfl, rfl⟩) | (go_at_call 65; first | ((with_reducible refine (peekIs_yes _ _ _ _ _ _ _ (hR.drewN _) ?_).mono ?_); omega; rintro e w' ⟨rfl, nq, rfl⟩) | ((with_reducible refine (peekIs_yes _ _ _ _ _ _ _ hR ?_).mono ?_); omega; rintro e w' ⟨rfl, nq, rfl⟩) | ((with_reducible refine (peekIs_no _ _ _ _ _ _ _ (hR.drewN _) ?_).mono ?_); omega; rintro e w' ⟨rfl, nq, rfl⟩) | ((with_reducible refine (peekIs_no _ _ _ _ _ _ _ hR ?_).mono ?_); omega; rintro e w' ⟨rfl, nq, rfl⟩)))
                            go_roundw
                            case rel => exact ⟨k + 1, _, false, true, by go_num, rfl, rfl, rfl, by omega, HK3.out, HK4.out⟩
                            case measure => simp [intOf]; omega
                        | false =>
                          have h1 : numU (c :: suf s (x.p + k + 1)) false false false = (0, false) := numU_expNo c _ _ ce (by rw [Hs1.out]; intro d' r2 e; cases e; exact .inr ⟨hs1, hs2, hd2⟩)
                          have hk : k = N := by have := HK1.out; rw [Hs.out, h1] at this; simpa using this
                          have hi : false = I := by have := HK2.out; rw [Hs.out, h1] at this; simpa using this
                          subst hk hi
                          clear h1
                          rcases ce with ce | ce
                          all_goals
                            go_wp2_with (first | (go_at_call 67; first | ((with_reducible refine (peekOk_yes _ _ _ _ _ _ (hR.drewN _) ?_).mono ?_); omega; rintro e w' ⟨rfl, nq, rfl⟩) | ((with_reducible refine (peekOk_yes _ _ _ _ _ _ hR ?_).mono ?_); omega; rintro e w' ⟨rfl, nq, rfl⟩) | ((with_reducible refine (peekOk_no _ _ _ _ _ _ (hR.drewN _) ?_).mono ?_); omega; rintro e w' ⟨rfl, nq, rfl⟩) | ((with_reducible refine (peekOk_no _ _ _ _ _ _ hR ?_).mono ?_); omega; rintro e w' ⟨rfl, nq, rfl⟩)) | (go_at_call 69; first | ((with_reducible refine (peek_any _ _ _ _ _ _ _ (hR.drewN _) ⟨?_, ?_, by assumption⟩).mono ?_); omega; omega; rintro e w' ⟨rfl, nq, rfl⟩) | ((with_reducible refine (peek_any _ _ _ _ _ _ _ hR ⟨?_, ?_, by assumption⟩).mono ?_); omega; omega; rintro e w' ⟨rfl, nq, rfl⟩)) | (go_at_call 72; refine (isDigit_any _ _).mono ?_; rintro e w' ⟨rfl, rfl⟩) | (go_at_call 65; first | ((with_reducible refine (peekIs_yes _ _ _ _ _ _ _ (hR.drewN _) ?_).mono ?_); omega; rintro e w' ⟨rfl, nq, rfl⟩) | ((with_reducible refine (peekIs_yes _ _ _ _ _ _ _ hR ?_).mono ?_); omega; rintro e w' ⟨rfl, nq, rfl⟩) | ((with_reducible refine (peekIs_no _ _ _ _ _ _ _ (hR.drewN _) ?_).mono ?_); omega; rintro e w' ⟨rfl, nq, rfl⟩) | ((with_reducible refine (peekIs_no _ _ _ _ _ _ _ hR ?_).mono ?_); omega; rintro e w' ⟨rfl, nq, rfl⟩)))
                            go_meet
                            exact ⟨rfl, rfl, _, rfl⟩
                · have ce1 : ¬ nn c = 69 := fun e => ce (.inl e)
                  have ce2 : ¬ nn c = 101 := fun e => ce (.inr e)
                  have ce3 : (nn c == 69) = false := beq_eq_false_iff_ne.2 ce1
                  have ce4 : (nn c == 101) = false := beq_eq_false_iff_ne.2 ce2
                  have ce5 : (nn c == 46) = false := beq_eq_false_iff_ne.2 c46
                  cases int with
                  | true =>
                    have h1 : numU (c :: suf s (x.p + k + 1)) false true false = (0, true) := numU_stop c _ _ _ hd (fun h => absurd h c46) (fun h => absurd h ce)
                    have hk : k = N := by have := HK1.out; rw [Hs.out, h1] at this; simpa using this
                    have hi : true = I := by have := HK2.out; rw [Hs.out, h1] at this; simpa using this
                    subst hk hi
                    clear h1
                    go_wp2_with (first | (go_at_call 67; first | ((with_reducible refine (peekOk_yes _ _ _ _ _ _ (hR.drewN _) ?_).mono ?_); omega; rintro e w' ⟨rfl, nq, rfl⟩) | ((with_reducible refine (peekOk_yes _ _ _ _ _ _ hR ?_).mono ?_); omega; rintro e w' ⟨rfl, nq, rfl⟩) | ((with_reducible refine (peekOk_no _ _ _ _ _ _ (hR.drewN _) ?_).mono ?_); omega; rintro e w' ⟨rfl, nq, rfl⟩) | ((with_reducible refine (peekOk_no _ _ _ _ _ _ hR ?_).mono ?_); omega; rintro e w' ⟨rfl, nq, rfl⟩)) | (go_at_call 69; first | ((with_reducible refine (peek_any _ _ _ _ _ _ _ (hR.drewN _) ⟨?_, ?_, by assumption⟩).mono ?_); omega; omega; rintro e w' ⟨rfl, nq, rfl⟩) | ((with_reducible refine (peek_any _ _ _ _ _ _ _ hR ⟨?_, ?_, by assumption⟩).mono ?_); omega; omega; rintro e w' ⟨rfl, nq, rfl⟩)) | (go_at_call 72; refine (isDigit_any _ _).mono ?_; rintro e w' ⟨rfl, rfl⟩))
                    go_meet
                    exact ⟨rfl, rfl, _, rfl⟩
                  | false =>
                    have h1 : numU (c :: suf s (x.p + k + 1)) false false false = (0, false) := numU_stop c _ _ _ hd (fun h => absurd h c46) (fun h => absurd h ce)
                    have hk : k = N := by have := HK1.out; rw [Hs.out, h1] at this; simpa using this
                    have hi : false = I := by have := HK2.out; rw [Hs.out, h1] at this; simpa using this
                    subst hk hi
                    clear h1
                    go_wp2_with (first | (go_at_call 67; first | ((with_reducible refine (peekOk_yes _ _ _ _ _ _ (hR.drewN _) ?_).mono ?_); omega; rintro e w' ⟨rfl, nq, rfl⟩) | ((with_reducible refine (peekOk_yes _ _ _ _ _ _ hR ?_).mono ?_); omega; rintro e w' ⟨rfl, nq, rfl⟩) | ((with_reducible refine (peekOk_no _ _ _ _ _ _ (hR.drewN _) ?_).mono ?_); omega; rintro e w' ⟨rfl, nq, rfl⟩) | ((with_reducible refine (peekOk_no _ _ _ _ _ _ hR ?_).mono ?_); omega; rintro e w' ⟨rfl, nq, rfl⟩)) | (go_at_call 69; first | ((with_reducible refine (peek_any _ _ _ _ _ _ _ (hR.drewN _) ⟨?_, ?_, by assumption⟩).mono ?_); omega; omega; rintro e w' ⟨rfl, nq, rfl⟩) | ((with_reducible refine (peek_any _ _ _ _ _ _ _ hR ⟨?_, ?_, by assumption⟩).mono ?_); omega; omega; rintro e w' ⟨rfl, nq, rfl⟩)) | (go_at_call 72; refine (isDigit_any _ _).mono ?_; rintro e w' ⟨rfl, rfl⟩))
                    go_meet
                    exact ⟨rfl, rfl, _, rfl⟩
    case rest =>
      obtain ⟨rfl, rfl, nq, rfl⟩ := hcut
      clear HN
      have hpn := HP.out
      cases I with
      | true =>
        go_wp2_with fail
        refine (skipN_any lb fb fp s x N { x with p := x.p + N } _ (HS.out.drewN _) (by omega) (by rw [show ((x.p : Int) + (N : Int)).toNat = x.p + N from by omega])).mono ?_
        rintro e w1 ⟨rfl, hS1, hF1⟩
        have hF1' : Frm w w1 [lb] := ((Frm.refl w [lb]).drewN _).step hF1
        have c1 := block_cell hS1.lex 1
        have f1 := block_free hS1.lex 1
        have c6 := block_cell hS1.lex 6
        have f6 := block_free hS1.lex 6
        have HS1 := Lib.hid hS1
        clear hS1 hR hF1
        have hS2 := (HS1.out.set 1 (.string ⟨#[60, 105, 110, 116, 62]⟩) { x with p := x.p + N, kind := ⟨#[60, 105, 110, 116, 62]⟩ } rfl HS1.out.pz).set 6 (.int .i64 10) { x with p := x.p + N, kind := ⟨#[60, 105, 110, 116, 62]⟩, base := 10 } rfl HS1.out.pz
        have hR : Rd _ lb fb s (x.p + N) := hS2.rd
        have hF2 := (hF1'.setCell ⟨lb, 1, none⟩ (.string ⟨#[60, 105, 110, 116, 62]⟩) (.inl (by simp))).setCell ⟨lb, 6, none⟩ (.int .i64 10) (.inl (by simp))
        have HS2 := Lib.hid hS2
        have HF2 := Lib.hid hF2
        clear hS2 hF2 hF1'
        rcases suf_byt s (x.p + N) with ⟨hb, hsuf, hge⟩ | ⟨c2, hb, hsuf, hlt⟩
        · have HI := Lib.hid (show idpHead (suf s (x.p + N)) = false by rw [hsuf]; rfl)
          clear hb hsuf
          go_wp2_with (first | (go_at_call 67; first | ((with_reducible refine (peekOk_yes _ _ _ _ _ _ (hR.drewN _) ?_).mono ?_); omega; rintro e w' ⟨rfl, nq, rfl⟩) | ((with_reducible refine (peekOk_yes _ _ _ _ _ _ hR ?_).mono ?_); omega; rintro e w' ⟨rfl, nq, rfl⟩) | ((with_reducible refine (peekOk_no _ _ _ _ _ _ (hR.drewN _) ?_).mono ?_); omega; rintro e w' ⟨rfl, nq, rfl⟩) | ((with_reducible refine (peekOk_no _ _ _ _ _ _ hR ?_).mono ?_); omega; rintro e w' ⟨rfl, nq, rfl⟩)))
          go_end0
          exact .inl ⟨HI.out, rfl, HS2.out.drewN _, HF2.out.drewN _⟩
        · first
          | (exfalso; omega)
          | (have HI := Lib.hid (show idpHead (suf s (x.p + N)) = idp (nn c2) by rw [hsuf]; rfl)
             have hbd2 := nn_bd c2
             have hb0 : byt s (((x.p + N : Nat) : Int) + 0) = nn c2 := by rw [← hb]; congr 1
             clear hb hsuf
             cases hi0 : idp (nn c2) with
             | false =>
               go_wp2_with (first | (go_at_call 67; first | ((with_reducible refine (peekOk_yes _ _ _ _ _ _ (hR.drewN _) ?_).mono ?_); omega; rintro e w' ⟨rfl, nq, rfl⟩) | ((with_reducible refine (peekOk_yes _ _ _ _ _ _ hR ?_).mono ?_); omega; rintro e w' ⟨rfl, nq, rfl⟩) | ((with_reducible refine (peekOk_no _ _ _ _ _ _ (hR.drewN _) ?_).mono ?_); omega; rintro e w' ⟨rfl, nq, rfl⟩) | ((with_reducible refine (peekOk_no _ _ _ _ _ _ hR ?_).mono ?_); omega; rintro e w' ⟨rfl, nq, rfl⟩)) | (go_at_call 69; first | ((with_reducible refine (peek_any _ _ _ _ _ _ _ (hR.drewN _) ⟨?_, ?_, by assumption⟩).mono ?_); omega; omega; rintro e w' ⟨rfl, nq, rfl⟩) | ((with_reducible refine (peek_any _ _ _ _ _ _ _ hR ⟨?_, ?_, by assumption⟩).mono ?_); omega; omega; rintro e w' ⟨rfl, nq, rfl⟩)) | (go_at_call 68; refine (isIdentPart_any _ _).mono ?_; rintro e w' ⟨rfl, rfl⟩))
               go_end0
               exact .inl ⟨HI.out.trans hi0, rfl, HS2.out.drewN _, HF2.out.drewN _⟩
             | true =>
               cases np with
               | true =>
                 have c1' := block_cell HS2.out.lex 1
                 have f1' := block_free HS2.out.lex 1
                 go_wp2_with (first | (go_at_call 67; first | ((with_reducible refine (peekOk_yes _ _ _ _ _ _ (hR.drewN _) ?_).mono ?_); omega; rintro e w' ⟨rfl, nq, rfl⟩) | ((with_reducible refine (peekOk_yes _ _ _ _ _ _ hR ?_).mono ?_); omega; rintro e w' ⟨rfl, nq, rfl⟩) | ((with_reducible refine (peekOk_no _ _ _ _ _ _ (hR.drewN _) ?_).mono ?_); omega; rintro e w' ⟨rfl, nq, rfl⟩) | ((with_reducible refine (peekOk_no _ _ _ _ _ _ hR ?_).mono ?_); omega; rintro e w' ⟨rfl, nq, rfl⟩)) | (go_at_call 69; first | ((with_reducible refine (peek_any _ _ _ _ _ _ _ (hR.drewN _) ⟨?_, ?_, by assumption⟩).mono ?_); omega; omega; rintro e w' ⟨rfl, nq, rfl⟩) | ((with_reducible refine (peek_any _ _ _ _ _ _ _ hR ⟨?_, ?_, by assumption⟩).mono ?_); omega; omega; rintro e w' ⟨rfl, nq, rfl⟩)) | (go_at_call 68; refine (isIdentPart_any _ _).mono ?_; rintro e w' ⟨rfl, rfl⟩))
                 go_end0
                 exact .inr (.inl ⟨HI.out.trans hi0, rfl, rfl, (HS2.out.drewN _).set 1 _ _ rfl HS2.out.pz, (HF2.out.drewN _).setCell _ _ (.inl (by simp))⟩)
               | false =>
                 go_wp2_with (first | (go_at_call 67; first | ((with_reducible refine (peekOk_yes _ _ _ _ _ _ (hR.drewN _) ?_).mono ?_); omega; rintro e w' ⟨rfl, nq, rfl⟩) | ((with_reducible refine (peekOk_yes _ _ _ _ _ _ hR ?_).mono ?_); omega; rintro e w' ⟨rfl, nq, rfl⟩) | ((with_reducible refine (peekOk_no _ _ _ _ _ _ (hR.drewN _) ?_).mono ?_); omega; rintro e w' ⟨rfl, nq, rfl⟩) | ((with_reducible refine (peekOk_no _ _ _ _ _ _ hR ?_).mono ?_); omega; rintro e w' ⟨rfl, nq, rfl⟩)) | (go_at_call 69; first | ((with_reducible refine (peek_any _ _ _ _ _ _ _ (hR.drewN _) ⟨?_, ?_, by assumption⟩).mono ?_); omega; omega; rintro e w' ⟨rfl, nq, rfl⟩) | ((with_reducible refine (peek_any _ _ _ _ _ _ _ hR ⟨?_, ?_, by assumption⟩).mono ?_); omega; omega; rintro e w' ⟨rfl, nq, rfl⟩)) | (go_at_call 68; refine (isIdentPart_any _ _).mono ?_; rintro e w' ⟨rfl, rfl⟩))
                 refine (panicf_any lb fb fp s _ _ _ hs HS2.out.pz (HS2.out.drewN _) (HEn.out.frm (HF2.out.drewN _) (by simp))).mono ?_
                 rintro e w5 hf
                 have hf2 := Fault.from (HF2.out.drewN _) hf
                 obtain ⟨eb, rfl, h1, h2, h3⟩ := hf2
                 go_wp2_with fail
                 exact ⟨rfl, .inr (.inr ⟨HI.out.trans hi0, rfl, eb, rfl, h1, h2, h3⟩)⟩)
      | false =>
        go_wp2_with fail
        refine (skipN_any lb fb fp s x N { x with p := x.p + N } _ (HS.out.drewN _) (by omega) (by rw [show ((x.p : Int) + (N : Int)).toNat = x.p + N from by omega])).mono ?_
        rintro e w1 ⟨rfl, hS1, hF1⟩
        have hF1' : Frm w w1 [lb] := ((Frm.refl w [lb]).drewN _).step hF1
        have c1 := block_cell hS1.lex 1
        have f1 := block_free hS1.lex 1
        have c6 := block_cell hS1.lex 6
        have f6 := block_free hS1.lex 6
        have HS1 := Lib.hid hS1
        clear hS1 hR hF1
        have hS2 := HS1.out.set 1 (.string ⟨#[60, 102, 108, 111, 97, 116, 62]⟩) { x with p := x.p + N, kind := ⟨#[60, 102, 108, 111, 97, 116, 62]⟩ } rfl HS1.out.pz
        have hR : Rd _ lb fb s (x.p + N) := hS2.rd
        have hF2 := hF1'.setCell ⟨lb, 1, none⟩ (.string ⟨#[60, 102, 108, 111, 97, 116, 62]⟩) (.inl (by simp))
        have HS2 := Lib.hid hS2
        have HF2 := Lib.hid hF2
        clear hS2 hF2 hF1'
        rcases suf_byt s (x.p + N) with ⟨hb, hsuf, hge⟩ | ⟨c2, hb, hsuf, hlt⟩
        · have HI := Lib.hid (show idpHead (suf s (x.p + N)) = false by rw [hsuf]; rfl)
          clear hb hsuf
          go_wp2_with (first | (go_at_call 67; first | ((with_reducible refine (peekOk_yes _ _ _ _ _ _ (hR.drewN _) ?_).mono ?_); omega; rintro e w' ⟨rfl, nq, rfl⟩) | ((with_reducible refine (peekOk_yes _ _ _ _ _ _ hR ?_).mono ?_); omega; rintro e w' ⟨rfl, nq, rfl⟩) | ((with_reducible refine (peekOk_no _ _ _ _ _ _ (hR.drewN _) ?_).mono ?_); omega; rintro e w' ⟨rfl, nq, rfl⟩) | ((with_reducible refine (peekOk_no _ _ _ _ _ _ hR ?_).mono ?_); omega; rintro e w' ⟨rfl, nq, rfl⟩)))
          go_end0
          exact .inl ⟨HI.out, rfl, HS2.out.drewN _, HF2.out.drewN _⟩
        · first
          | (exfalso; omega)
          | (have HI := Lib.hid (show idpHead (suf s (x.p + N)) = idp (nn c2) by rw [hsuf]; rfl)
             have hbd2 := nn_bd c2
             have hb0 : byt s (((x.p + N : Nat) : Int) + 0) = nn c2 := by rw [← hb]; congr 1
             clear hb hsuf
             cases hi0 : idp (nn c2) with
             | false =>
               go_wp2_with (first | (go_at_call 67; first | ((with_reducible refine (peekOk_yes _ _ _ _ _ _ (hR.drewN _) ?_).mono ?_); omega; rintro e w' ⟨rfl, nq, rfl⟩) | ((with_reducible refine (peekOk_yes _ _ _ _ _ _ hR ?_).mono ?_); omega; rintro e w' ⟨rfl, nq, rfl⟩) | ((with_reducible refine (peekOk_no _ _ _ _ _ _ (hR.drewN _) ?_).mono ?_); omega; rintro e w' ⟨rfl, nq, rfl⟩) | ((with_reducible refine (peekOk_no _ _ _ _ _ _ hR ?_).mono ?_); omega; rintro e w' ⟨rfl, nq, rfl⟩)) | (go_at_call 69; first | ((with_reducible refine (peek_any _ _ _ _ _ _ _ (hR.drewN _) ⟨?_, ?_, by assumption⟩).mono ?_); omega; omega; rintro e w' ⟨rfl, nq, rfl⟩) | ((with_reducible refine (peek_any _ _ _ _ _ _ _ hR ⟨?_, ?_, by assumption⟩).mono ?_); omega; omega; rintro e w' ⟨rfl, nq, rfl⟩)) | (go_at_call 68; refine (isIdentPart_any _ _).mono ?_; rintro e w' ⟨rfl, rfl⟩))
               go_end0
               exact .inl ⟨HI.out.trans hi0, rfl, HS2.out.drewN _, HF2.out.drewN _⟩
             | true =>
               cases np with
               | true =>
                 have c1' := block_cell HS2.out.lex 1
                 have f1' := block_free HS2.out.lex 1
                 go_wp2_with (first | (go_at_call 67; first | ((with_reducible refine (peekOk_yes _ _ _ _ _ _ (hR.drewN _) ?_).mono ?_); omega; rintro e w' ⟨rfl, nq, rfl⟩) | ((with_reducible refine (peekOk_yes _ _ _ _ _ _ hR ?_).mono ?_); omega; rintro e w' ⟨rfl, nq, rfl⟩) | ((with_reducible refine (peekOk_no _ _ _ _ _ _ (hR.drewN _) ?_).mono ?_); omega; rintro e w' ⟨rfl, nq, rfl⟩) | ((with_reducible refine (peekOk_no _ _ _ _ _ _ hR ?_).mono ?_); omega; rintro e w' ⟨rfl, nq, rfl⟩)) | (go_at_call 69; first | ((with_reducible refine (peek_any _ _ _ _ _ _ _ (hR.drewN _) ⟨?_, ?_, by assumption⟩).mono ?_); omega; omega; rintro e w' ⟨rfl, nq, rfl⟩) | ((with_reducible refine (peek_any _ _ _ _ _ _ _ hR ⟨?_, ?_, by assumption⟩).mono ?_); omega; omega; rintro e w' ⟨rfl, nq, rfl⟩)) | (go_at_call 68; refine (isIdentPart_any _ _).mono ?_; rintro e w' ⟨rfl, rfl⟩))
                 go_end0
                 exact .inr (.inl ⟨HI.out.trans hi0, rfl, rfl, (HS2.out.drewN _).set 1 _ _ rfl HS2.out.pz, (HF2.out.drewN _).setCell _ _ (.inl (by simp))⟩)
               | false =>
                 go_wp2_with (first | (go_at_call 67; first | ((with_reducible refine (peekOk_yes _ _ _ _ _ _ (hR.drewN _) ?_).mono ?_); omega; rintro e w' ⟨rfl, nq, rfl⟩) | ((with_reducible refine (peekOk_yes _ _ _ _ _ _ hR ?_).mono ?_); omega; rintro e w' ⟨rfl, nq, rfl⟩) | ((with_reducible refine (peekOk_no _ _ _ _ _ _ (hR.drewN _) ?_).mono ?_); omega; rintro e w' ⟨rfl, nq, rfl⟩) | ((with_reducible refine (peekOk_no _ _ _ _ _ _ hR ?_).mono ?_); omega; rintro e w' ⟨rfl, nq, rfl⟩)) | (go_at_call 69; first | ((with_reducible refine (peek_any _ _ _ _ _ _ _ (hR.drewN _) ⟨?_, ?_, by assumption⟩).mono ?_); omega; omega; rintro e w' ⟨rfl, nq, rfl⟩) | ((with_reducible refine (peek_any _ _ _ _ _ _ _ hR ⟨?_, ?_, by assumption⟩).mono ?_); omega; omega; rintro e w' ⟨rfl, nq, rfl⟩)) | (go_at_call 68; refine (isIdentPart_any _ _).mono ?_; rintro e w' ⟨rfl, rfl⟩))
                 refine (panicf_any lb fb fp s _ _ _ hs HS2.out.pz (HS2.out.drewN _) (HEn.out.frm (HF2.out.drewN _) (by simp))).mono ?_
                 rintro e w5 hf
                 have hf2 := Fault.from (HF2.out.drewN _) hf
                 obtain ⟨eb, rfl, h1, h2, h3⟩ := hf2
                 go_wp2_with fail
                 exact ⟨rfl, .inr (.inr ⟨HI.out.trans hi0, rfl, eb, rfl, h1, h2, h3⟩)⟩)

end Go.Proofs.YtngofbhlhcalpaaGreatDoor.lexer
