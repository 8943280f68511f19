/-
  Contracts of the small readers of the language of positions: eof, current, next, skip, consume, expect. No statement of the seat is proved here.
-/
import Derived.Test.YtfhnjgoipajiaaaDoorPlC
import Derived.Deep.QuietTactic
import Derived.BigQuiet
import Derived.Deep.LoopGhost
namespace Go.Proofs.YtfhnjgoipajiaaaDoor.pl
open Go.RowKit Go.Proofs.YtfhnjgoipajiaaaDoor.gen

def Drawn (v : Value) (w : World) (e : Ending) (w' : World) : Prop := e = .returned v ∧ ∃ n, w' = w.drewN n

theorem eof_any (pb : Nat) (R : List Nat) (p : Nat) (w : World) (h : At w pb R p) : Calls Tryd.prog 13 #[.pointer (some ⟨pb, 0, none⟩)] w (Drawn (.bool (decide (R.length ≤ p))) w) := by
  obtain ⟨rb, cap, h1, _⟩ := h.blk
  have hl := h.len
  have hp := h.le
  obtain ⟨n, hn⟩ : ∃ n, R.length = n := ⟨_, rfl⟩
  rw [hn] at h1 hl hp ⊢
  have c0 : w.cell? ⟨pb, 0, none⟩ = some (.slice (some ⟨rb, 0, none⟩) n cap) := block_cell h1 0
  have c1 : w.cell? ⟨pb, 1, none⟩ = some (.int .i64 (p : Int)) := block_cell h1 1
  clear h h1 hn
  by_cases hd : n ≤ p
  · have d1 : (n : Int) ≤ (p : Int) := by omega
    go_enter Tryd.func13, Tryd.ntmps13
    go_wp2_with fail
    go_quiet (fail)
    go_wp2
    go_ret
    exact ⟨by simp [hd], _, rfl⟩
  · have d1 : ¬ (n : Int) ≤ (p : Int) := by omega
    go_enter Tryd.func13, Tryd.ntmps13
    go_wp2_with fail
    go_quiet (fail)
    go_wp2
    go_ret
    exact ⟨by simp [hd], _, rfl⟩

theorem current_any (pb : Nat) (R : List Nat) (p : Nat) (w : World) (h : At w pb R p) (hp : p < R.length) : Calls Tryd.prog 16 #[.pointer (some ⟨pb, 0, none⟩)] w (Drawn (.int .i32 ((R[p] : Nat) : Int)) w) := by
  obtain ⟨rb, cap, h1, _, _, _, h5⟩ := h.blk
  have hl := h.len
  have c2 := h5 p hp
  obtain ⟨c, hc⟩ : ∃ c, R[p] = c := ⟨_, rfl⟩
  rw [hc] at c2 ⊢
  obtain ⟨n, hn⟩ : ∃ n, R.length = n := ⟨_, rfl⟩
  rw [hn] at h1 hl hp
  have c0 : w.cell? ⟨pb, 0, none⟩ = some (.slice (some ⟨rb, 0, none⟩) n cap) := block_cell h1 0
  have c1 : w.cell? ⟨pb, 1, none⟩ = some (.int .i64 (p : Int)) := block_cell h1 1
  have d0 : (0 : Int) ≤ (p : Int) := by omega
  have d1 : (p : Int) < (n : Int) := by omega
  clear h h1 hn h5 hc
  go_enter Tryd.func16, Tryd.ntmps16
  go_wp2_with fail
  go_quiet (fail)
  go_wp2
  go_ret
  exact ⟨rfl, _, rfl⟩

theorem next_any (pb : Nat) (R : List Nat) (p : Nat) (w : World) (h : At w pb R p) (hp : p < R.length) : Calls Tryd.prog 17 #[.pointer (some ⟨pb, 0, none⟩)] w fun e w' => e = .returned (.tuple #[]) ∧ At w' pb R (p + 1) ∧ Frm w w' [pb] := by
  obtain ⟨rb, cap, h1, _⟩ := h.blk
  have hl := h.len
  have HM := Lib.hid (h.move (p + 1) hp)
  have c1 : w.cell? ⟨pb, 1, none⟩ = some (.int .i64 (p : Int)) := block_cell h1 1
  have f1 : w.frozen? ⟨pb, 1, none⟩ = false := block_free h1 1
  have hw : IntKind.i64.wrap ((p : Int) + 1) = ((p + 1 : Nat) : Int) := by rw [IntWalk.i64_in _ (by omega)]; rfl
  clear h h1
  go_enter Tryd.func17, Tryd.ntmps17
  go_wp2_with fail
  go_end0
  exact ⟨rfl, HM.out, (Frm.refl w _).setCell _ _ (.inl (by simp))⟩

theorem isSpace_any (c : Nat) (hc : GR c) (pb : Nat) (w : World) (hE : Env w pb) : Calls Tryd.prog 15 #[.int .i32 (c : Int)] w (Drawn (.bool (cls.space c)) w) := by
  have h := Tryd.unicode_IsSpace_any_d (c : Int) w (by omega) (by have := GR_le hc; omega) hE.ctx.white
  rw [Go.Lib.isSpaceZ_nat] at h
  exact h

def FRes (v : Value) (w : World) (e : Ending) (w' : World) : Prop := e = .returned v ∧ Below w.heap.size w w'

theorem isLetter_any (c : Nat) (hc : GR c) (pb : Nat) (w : World) (hE : Env w pb) : Calls Tryd.prog 33 #[.int .i32 (c : Int)] w (FRes (.bool (cls.letter c)) w) :=
  Tryd.unicode_IsLetter_all (c : Int) w (by omega) (by have := GR_le hc; omega) hE.ctx.props hE.ctx.letter
theorem isDigit_any (c : Nat) (hc : GR c) (pb : Nat) (w : World) (hE : Env w pb) : Calls Tryd.prog 31 #[.int .i32 (c : Int)] w (FRes (.bool (cls.digit c)) w) :=
  Tryd.unicode_IsDigit_all (c : Int) w (by omega) (by have := GR_le hc; omega) hE.ctx.digit

/-- The reader has gone on, to where l is left. -/
def Left (w : World) (pb : Nat) (R l : List Nat) : Prop := ∃ p, R.drop p = l ∧ At w pb R p

theorem drop_cons {R : List Nat} {p : Nat} (h : p < R.length) : R.drop p = R[p] :: R.drop (p + 1) := List.drop_eq_getElem_cons h

theorem skip_cons {c : Nat} {r : List Nat} (h : cls.space c = true) : skipS cls (c :: r) = skipS cls r := by
  unfold skipS
  rw [List.dropWhile_cons, if_pos h]

set_option maxRecDepth 100000 in
set_option maxHeartbeats 1000000 in
theorem skip_any (pb : Nat) (R : List Nat) (p : Nat) (w : World) (h : At w pb R p) (hE : Env w pb) : Calls Tryd.prog 11 #[.pointer (some ⟨pb, 0, none⟩)] w fun e w' => e = .returned (.tuple #[]) ∧ Left w' pb R (skipS cls (R.drop p)) ∧ Frm w w' [pb] := by
  have HA := Lib.hid h
  have HE := Lib.hid hE
  clear h hE
  go_enter Tryd.func11, Tryd.ntmps11
  go_wp2_with fail
  go_loopg [] (R.length - p) (fun g wr => ∃ k, g = R.length - k ∧ Hid (At wr pb R k ∧ Frm w wr [pb] ∧ skipS cls (R.drop k) = skipS cls (R.drop p)))
  case atStart => exact ⟨p, rfl, HA.out, Frm.refl _ _, rfl⟩
  case round =>
    obtain ⟨k, hg, HK⟩ := hrel
    have HEk := Lib.hid (HE.out.frm HK.out.2.1 (by simp))
    by_cases hlt : k < R.length
    · have hd : decide (R.length ≤ k) = false := decide_eq_false (by omega)
      have hg2 := HK.out.1.good R[k] (List.getElem_mem hlt)
      have hdr := drop_cons hlt
      obtain ⟨c, hc⟩ : ∃ c, R[k] = c := ⟨_, rfl⟩
      have HCur := Lib.hid (fun W (hW : At W pb R k) => current_any pb R k W hW hlt)
      rw [hc] at hg2 hdr
      have HCur2 : Hid (∀ W, At W pb R k → Calls Tryd.prog 16 #[.pointer (some ⟨pb, 0, none⟩)] W (Drawn (.int .i32 (c : Int)) W)) := by rw [← hc]; exact HCur.out
      go_wp2_with fail
      refine (eof_any pb R k _ HK.out.1).mono ?_
      rintro e w1 ⟨rfl, q1, rfl⟩
      rw [hd]
      go_wp2_with fail
      refine (HCur2.out _ (HK.out.1.drewN _)).mono ?_
      rintro e w1 ⟨rfl, q2, rfl⟩
      go_wp2_with fail
      refine (isSpace_any c hg2 pb _ (HEk.out.drewN _)).mono ?_
      rintro e w1 ⟨rfl, q3, rfl⟩
      cases hs : cls.space c with
      | true =>
        have HS : Hid (skipS cls (R.drop (k + 1)) = skipS cls (R.drop p)) := by
          show skipS cls (R.drop (k + 1)) = _
          rw [← HK.out.2.2, hdr, skip_cons hs]
        clear hdr hs
        go_wp2_with fail
        refine (next_any pb R k _ (HK.out.1.drewN _) hlt).mono ?_
        rintro e w2 ⟨rfl, ha2, hf2⟩
        have HA2 := Lib.hid ha2
        have HF2 := Lib.hid ((HK.out.2.1.drewN _).step hf2)
        clear ha2 hf2
        go_wp2_with fail
        go_roundg (R.length - (k + 1))
        case measure => omega
        case rel => exact ⟨k + 1, rfl, HA2.out, HF2.out, HS.out⟩
      | false =>
        have HS : Hid (R.drop k = skipS cls (R.drop p)) := by
          show R.drop k = _
          rw [← HK.out.2.2, hdr, skip_no hs]
        clear hdr hs
        go_wp2_with fail
        go_end0
        exact ⟨rfl, ⟨k, HS.out, HK.out.1.drewN _⟩, HK.out.2.1.drewN _⟩
    · have hd : decide (R.length ≤ k) = true := decide_eq_true (by omega)
      have hn : R.drop k = [] := List.drop_eq_nil_of_le (by omega)
      have HS : Hid (R.drop k = skipS cls (R.drop p)) := by
        show R.drop k = _
        rw [← HK.out.2.2, hn]; rfl
      clear hn
      go_wp2_with fail
      refine (eof_any pb R k _ HK.out.1).mono ?_
      rintro e w1 ⟨rfl, q1, rfl⟩
      rw [hd]
      go_wp2_with fail
      go_end0
      exact ⟨rfl, ⟨k, HS.out, HK.out.1.drewN _⟩, HK.out.2.1.drewN _⟩

end Go.Proofs.YtfhnjgoipajiaaaDoor.pl
