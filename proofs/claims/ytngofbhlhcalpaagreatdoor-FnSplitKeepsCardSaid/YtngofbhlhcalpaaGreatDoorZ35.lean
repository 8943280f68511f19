/-
  Lemmas and contracts of this claim, texts ComB. No statement of the seat is proved here.
-/
import Derived.Test.YtngofbhlhcalpaaGreatDoorZ19
import Derived.Test.YtngofbhlhcalpaaGreatDoorZ34
namespace Go.Proofs.YtngofbhlhcalpaaGreatDoor.lexer
open Go.RowKit Go.Proofs.YtngofbhlhcalpaaGreatDoor.gen
open Go.Lib (headSpace isSpaceR decodeL)

theorem dec_ascii (c : UInt8) (r : List UInt8) : (c.toNat < 128 → decodeL (c :: r) = (c.toNat, 1)) ∧ (128 ≤ c.toNat → 128 ≤ (decodeL (c :: r)).1) := by
  have h0 : ((⟨(c :: r).toArray⟩ : ByteArray).get! (0 + 0)) = c := rfl
  constructor
  · intro h
    unfold decodeL Go.Utf8.decode
    simp only [h0]
    rw [if_pos (by omega)]
  · intro h
    unfold decodeL Go.Utf8.decode
    simp only [h0]
    rw [if_neg (by omega)]
    have h1 : ∀ k, ((⟨(c :: r).toArray⟩ : ByteArray).get! k).toNat < 256 := fun k => (((⟨(c :: r).toArray⟩ : ByteArray).get! k)).toNat_lt
    repeat' split
    all_goals (simp only [Go.Utf8.runeError])
    all_goals (try omega)
    all_goals (rename_i h2; simp only [Bool.and_eq_true, decide_eq_true_eq, ge_iff_le] at h2; omega)

/-- What skipComment gives. -/
def ComRes (lb fb : Nat) (fp s : ByteArray) (x : LX) (np : Bool) (w : World) (e : Ending) (w' : World) : Prop :=
  match com (suf s x.p) with
  | .no => Goes (.bool false) lb fb fp s x w e w'
  | .ok n => Goes (.bool false) lb fb fp s { x with p := x.p + n } w e w'
  | .opened => (np = true ∧ Goes (.bool true) lb fb fp s { x with p := s.size } w e w') ∨ (np = false ∧ FaultL lb fb x.p w e w')

theorem com_line (l : List UInt8) (c : UInt8) (r : List UInt8) (h : l = c :: r) (hc : nn c = 35 ∨ (nn c = 45 ∧ headIs 45 r = true)) : com l = .ok (lineLen l) := by
  subst h
  have : (nn c == 35 || (nn c == 45 && headIs 45 r)) = true := by
    rcases hc with hc | ⟨hc, h2⟩
    · rw [hc]; rfl
    · rw [hc, h2]; rfl
  simp only [com, this, if_true]
theorem com_block (l : List UInt8) (c : UInt8) (r : List UInt8) (h : l = c :: r) (hc : nn c = 47) (h2 : headIs 42 r = true) : com l = match blockEnd l with
    | some n => .ok n
    | none => .opened := by
  subst h
  have g1 : (nn c == 35 || (nn c == 45 && headIs 45 r)) = false := by rw [hc]; rfl
  have g2 : (nn c == 47 && headIs 42 r) = true := by rw [hc, h2]; rfl
  simp only [com, g1, g2, Bool.false_eq_true, if_false, if_true]
  cases blockEnd (c :: r) <;> rfl
theorem com_none (l : List UInt8) (h : ∀ c r, l = c :: r → ¬ nn c = 35 ∧ (nn c = 45 → headIs 45 r = false) ∧ (nn c = 47 → headIs 42 r = false)) : com l = .no := by
  cases l with
  | nil => rfl
  | cons c r =>
    obtain ⟨h1, h2, h3⟩ := h c r rfl
    have g1 : (nn c == 35 || (nn c == 45 && headIs 45 r)) = false := by
      have : (nn c == 35) = false := by simpa using h1
      rw [this, Bool.false_or]
      cases h4 : nn c == 45 with
      | false => rfl
      | true => rw [h2 (by simpa using h4)]; rfl
    have g2 : (nn c == 47 && headIs 42 r) = false := by
      cases h4 : nn c == 47 with
      | false => rfl
      | true => rw [h3 (by simpa using h4)]; rfl
    simp only [com, g1, g2, Bool.false_eq_true, if_false]

theorem UntilRes.ends {lb fb : Nat} {fp s : ByteArray} {x : LX} {Q : List UInt8} {must np : Bool} {w : World} {e : Ending} {w' : World} (h : UntilRes lb fb fp s x Q must np w e w') : e = .returned (.bool false) ∨ e = .returned (.bool true) ∨ ∃ ch, e = .panicked ch := by
  rcases h with ⟨n, _, he, _⟩ | ⟨_, _, he, _⟩ | ⟨_, _, _, he, _⟩ | ⟨_, _, _, eb, he, _⟩
  · exact .inl he
  · exact .inl he
  · exact .inr (.inl he)
  · exact .inr (.inr ⟨_, he⟩)

theorem until_line {lb fb : Nat} {fp s : ByteArray} {x : LX} {np : Bool} {w w1 : World} {e : Ending} {w' : World} (hp : x.p ≤ s.size) (hF : Frm w w1 [lb]) (hc : com (suf s x.p) = .ok (lineLen (suf s x.p))) (h : UntilRes lb fb fp s x [10] false np w1 e w') : ComRes lb fb fp s x np w e w' := by
  unfold ComRes
  rw [hc]
  simp only
  rw [upto_line]
  rcases h with ⟨n, h1, h2, h3, h4⟩ | ⟨h1, _, h2, h3, h4⟩ | ⟨_, h, _⟩ | ⟨_, h, _⟩
  · rw [h1]; exact ⟨h2, h3, hF.step h4⟩
  · rw [h1]
    refine ⟨h2, ?_, hF.step h4⟩
    simp only [Option.getD_none]
    rw [suf_len, show x.p + (s.size - x.p) = s.size from by omega]; exact h3
  · cases h
  · cases h
theorem until_block {lb fb : Nat} {fp s : ByteArray} {x : LX} {np : Bool} {w w1 : World} {e : Ending} {w' : World} (hF : Frm w w1 [lb]) (hc : com (suf s x.p) = match blockEnd (suf s x.p) with
    | some n => .ok n
    | none => .opened) (h : UntilRes lb fb fp s x [42, 47] true np w1 e w') : ComRes lb fb fp s x np w e w' := by
  unfold ComRes
  rw [hc, upto_block]
  rcases h with ⟨n, h1, h2, h3, h4⟩ | ⟨_, h, _⟩ | ⟨h1, _, hn, h2, h3, h4⟩ | ⟨h1, _, hn, h2⟩
  · rw [h1]; exact ⟨h2, h3, hF.step h4⟩
  · cases h
  · rw [h1]; exact .inl ⟨hn, h2, h3, hF.step h4⟩
  · rw [h1]; exact .inr ⟨hn, FaultL.then_ hF h2⟩

theorem headIs_byt (s : ByteArray) (p : Nat) (c : UInt8) (r : List UInt8) (h : suf s p = c :: r) (k : Int) (hk : 0 ≤ k) : (headIs k r = true ↔ byt s ((p : Int) + 1) = k) := by
  rcases second s p c r h with ⟨h1, h2, _⟩ | ⟨d, r2, h1, h2⟩
  · rw [h1, h2]; simp [headIs]; omega
  · rw [h1, h2]; simp [headIs]

set_option maxRecDepth 100000 in
set_option maxHeartbeats 8000000 in
theorem skipComment_any (lb fb : Nat) (fp s : ByteArray) (x : LX) (np : Bool) (w : World) (hs : s.size ≤ 1048576) (hE : Env w lb fb) (hS : St w lb fb fp s x) :
    Calls Tryz.prog 50 #[.pointer (some ⟨lb, 0, none⟩), .bool np] w (ComRes lb fb fp s x np w) := by
  have hpz := hS.pz
  have hsz := hS.sz
  have hR := hS.rd
  obtain ⟨r, z, hrz⟩ : ∃ r z, Go.Lib.decodeGo (s.extract x.p s.size) = (r, z) := ⟨_, _, rfl⟩
  have HDec := Lib.hid (show ∀ W, Env W lb fb → Calls Tryz.prog 62 #[.string (s.extract x.p s.size)] W (fun e w' => e = .returned (.tuple #[.int .i32 (r : Int), .int .i64 (z : Int)]) ∧ Below W.heap.size W w') from fun W hW => by
    have := Tryz.utf8_DecodeRuneInString (s.extract x.p s.size) W hW.tabs.utf
    rw [hrz] at this
    exact this)
  have e0 : (0 : Int) ≤ (x.p : Int) := by omega
  have e1 : (x.p : Int) ≤ (s.size : Int) := by omega
  have c0 : w.cell? ⟨lb, 0, none⟩ = some (.pointer (some ⟨fb, 0, none⟩)) := hR.c0
  have c9 : w.cell? ⟨lb, 9, none⟩ = some (.int .i64 (x.p : Int)) := hR.c9
  have cB : w.cell? ⟨fb, 1, none⟩ = some (.string s) := hR.cB
  -- which rune it is
  have hrune : (∃ c t, suf s x.p = c :: t ∧ ((nn c < 128 ∧ (r : Int) = nn c) ∨ (128 ≤ nn c ∧ 128 ≤ r))) ∨ (suf s x.p = [] ∧ r = 65533) := by
    rcases suf_byt s x.p with ⟨_, hsuf, hge⟩ | ⟨c, _, hsuf, hlt⟩
    · right
      refine ⟨hsuf, ?_⟩
      have : (s.extract x.p s.size).size = 0 := by rw [ByteArray.size_extract]; omega
      unfold Go.Lib.decodeGo at hrz
      rw [if_pos this] at hrz
      exact (congrArg Prod.fst hrz).symm
    · left
      rw [dec_suf s x.p hlt, hsuf] at hrz
      refine ⟨c, _, hsuf, ?_⟩
      have hd := dec_ascii c (suf s (x.p + 1))
      unfold nn
      rcases Nat.lt_or_ge c.toNat 128 with h | h
      · left
        have := hd.1 h
        rw [hrz] at this
        refine ⟨by omega, ?_⟩
        have h3 : r = c.toNat := congrArg Prod.fst this
        rw [h3]
      · right
        have := hd.2 h
        rw [hrz] at this
        exact ⟨by omega, this⟩
  have HS := Lib.hid hS
  have HE := Lib.hid hE
  clear hrz hS hE
  -- the cases
  by_cases hline : ∃ c t, suf s x.p = c :: t ∧ (nn c = 35 ∨ (nn c = 45 ∧ headIs 45 t = true))
  case pos =>
    obtain ⟨c, t, hsuf, hc⟩ := hline
    have HC := Lib.hid (com_line _ c t hsuf hc)
    have hr : (r : Int) = nn c := by
      rcases hrune with ⟨c2, t2, h2, h3⟩ | ⟨h2, _⟩
      · rw [hsuf] at h2
        cases h2
        rcases h3 with h3 | h3
        · exact h3.2
        · rcases hc with h | h
          · omega
          · have := h.1; omega
      · rw [hsuf] at h2; cases h2
    have hiff := headIs_byt s x.p c t hsuf 45 (by omega)
    obtain ⟨q, hqv⟩ : ∃ q : ByteArray, q = ⟨#[10]⟩ := ⟨_, rfl⟩
    clear hrune
    rcases hc with hc | ⟨hc, hh⟩
    case inl =>
      obtain rfl : r = 35 := by omega
      clear hr hc hsuf hiff
      go_enter Tryz.func50, Tryz.ntmps50
      go_wp2_with fail
      go_region_with (go_at_call 62; refine (HDec.out _ (HE.out.drewN _)).mono ?_; rintro e w6 ⟨rfl, hb6⟩)
      all_goals
        have hF6 : Frm w w6 [] := (Frm.refl w []).drewN _ |>.step (Frm.ofBelow hb6 [])
        have HS6 := Lib.hid (HS.out.frm hF6)
        have HE6 := Lib.hid (HE.out.frm hF6 (by simp))
        have HF6 := Lib.hid (hF6.mono (T := [lb]) (by simp))
        have hR6 := HS6.out.rd
        clear hb6 hF6
        go_wp2_with fail
        refine (until_any lb fb fp s x ⟨#[10]⟩ false np _ hs HE6.out HS6.out ⟨by decide, by decide⟩).mono ?_
        intro e w9 hu
        have HU := Lib.hid hu
        rcases UntilRes.ends hu with rfl | rfl | ⟨ch, rfl⟩
        case inl =>
          clear hu
          go_wp2_with fail
          go_ret
          exact until_line hpz HF6.out HC.out HU.out
        case inr.inl =>
          clear hu
          go_wp2_with fail
          go_ret
          exact until_line hpz HF6.out HC.out HU.out
        case inr.inr =>
          clear hu
          go_wp2_with fail
          exact ⟨rfl, until_line hpz HF6.out HC.out HU.out⟩
    case inr =>
      obtain rfl : r = 45 := by omega
      have hb1 := hiff.1 hh
      clear hr hc hsuf hiff hh
      go_enter Tryz.func50, Tryz.ntmps50
      go_wp2_with fail
      go_region_with (go_at_call 62; refine (HDec.out _ (HE.out.drewN _)).mono ?_; rintro e w6 ⟨rfl, hb6⟩)
      all_goals
        have hF6 : Frm w w6 [] := (Frm.refl w []).drewN _ |>.step (Frm.ofBelow hb6 [])
        have HS6 := Lib.hid (HS.out.frm hF6)
        have HE6 := Lib.hid (HE.out.frm hF6 (by simp))
        have HF6 := Lib.hid (hF6.mono (T := [lb]) (by simp))
        have hR6 := HS6.out.rd
        clear hb6 hF6
        go_wp2_with (go_at_call 65; refine (peekIs_yes lb fb s x.p _ _ _ hR6 ⟨by omega, by omega, hb1⟩).mono ?_; rintro e w' ⟨rfl, nq, rfl⟩)
        refine (until_any lb fb fp s x ⟨#[10]⟩ false np _ hs (HE6.out.drewN _) (HS6.out.drewN _) ⟨by decide, by decide⟩).mono ?_
        intro e w9 hu
        have HU := Lib.hid hu
        rcases UntilRes.ends hu with rfl | rfl | ⟨ch, rfl⟩
        case inl =>
          clear hu
          go_wp2_with fail
          go_ret
          exact until_line hpz (HF6.out.drewN _) HC.out HU.out
        case inr.inl =>
          clear hu
          go_wp2_with fail
          go_ret
          exact until_line hpz (HF6.out.drewN _) HC.out HU.out
        case inr.inr =>
          clear hu
          go_wp2_with fail
          exact ⟨rfl, until_line hpz (HF6.out.drewN _) HC.out HU.out⟩
  case neg =>
    by_cases hblk : ∃ c t, suf s x.p = c :: t ∧ nn c = 47 ∧ headIs 42 t = true
    case pos =>
      obtain ⟨c, t, hsuf, hc, hh⟩ := hblk
      have HC := Lib.hid (com_block _ c t hsuf hc hh)
      have hr : (r : Int) = nn c := by
        rcases hrune with ⟨c2, t2, h2, h3⟩ | ⟨h2, _⟩
        · rw [hsuf] at h2
          cases h2
          omega
        · rw [hsuf] at h2; cases h2
      have hb1 := (headIs_byt s x.p c t hsuf 42 (by omega)).1 hh
      clear hrune hline
      obtain rfl : r = 47 := by omega
      clear hr hc hsuf hh
      go_enter Tryz.func50, Tryz.ntmps50
      go_wp2_with fail
      go_region_with (go_at_call 62; refine (HDec.out _ (HE.out.drewN _)).mono ?_; rintro e w6 ⟨rfl, hb6⟩)
      all_goals
        have hF6 : Frm w w6 [] := (Frm.refl w []).drewN _ |>.step (Frm.ofBelow hb6 [])
        have HS6 := Lib.hid (HS.out.frm hF6)
        have HE6 := Lib.hid (HE.out.frm hF6 (by simp))
        have HF6 := Lib.hid (hF6.mono (T := [lb]) (by simp))
        have hR6 := HS6.out.rd
        clear hb6 hF6
        go_wp2_with (go_at_call 65; refine (peekIs_yes lb fb s x.p _ _ _ hR6 ⟨by omega, by omega, hb1⟩).mono ?_; rintro e w' ⟨rfl, nq, rfl⟩)
        refine (until_any lb fb fp s x ⟨#[42, 47]⟩ true np _ hs (HE6.out.drewN _) (HS6.out.drewN _) ⟨by decide, by decide⟩).mono ?_
        intro e w9 hu
        have HU := Lib.hid hu
        rcases UntilRes.ends hu with rfl | rfl | ⟨ch, rfl⟩
        case inl =>
          clear hu
          go_wp2_with fail
          go_ret
          exact until_block (HF6.out.drewN _) HC.out HU.out
        case inr.inl =>
          clear hu
          go_wp2_with fail
          go_ret
          exact until_block (HF6.out.drewN _) HC.out HU.out
        case inr.inr =>
          clear hu
          go_wp2_with fail
          exact ⟨rfl, until_block (HF6.out.drewN _) HC.out HU.out⟩
    case neg =>
      have HC := Lib.hid (show com (suf s x.p) = .no from com_none _ (fun c t h => ⟨fun h2 => hline ⟨c, t, h, .inl h2⟩, fun h2 => by
        cases h3 : headIs 45 t with
        | false => rfl
        | true => exact absurd ⟨c, t, h, .inr ⟨h2, h3⟩⟩ hline, fun h2 => by
        cases h3 : headIs 42 t with
        | false => rfl
        | true => exact absurd ⟨c, t, h, h2, h3⟩ hblk⟩))
      have hno : (¬ (r : Int) = 35) ∧ ((r : Int) = 45 → ¬ byt s ((x.p : Int) + 1) = 45) ∧ ((r : Int) = 47 → ¬ byt s ((x.p : Int) + 1) = 42) := by
        rcases hrune with ⟨c, t, h2, h3⟩ | ⟨h2, h3⟩
        · have i1 := headIs_byt s x.p c t h2 45 (by omega)
          have i2 := headIs_byt s x.p c t h2 42 (by omega)
          rcases h3 with h3 | h3
          · refine ⟨fun h4 => hline ⟨c, t, h2, .inl (by omega)⟩, fun h4 h5 => hline ⟨c, t, h2, .inr ⟨by omega, i1.2 h5⟩⟩, fun h4 h5 => hblk ⟨c, t, h2, by omega, i2.2 h5⟩⟩
          · exact ⟨by omega, fun h4 => by omega, fun h4 => by omega⟩
        · subst h3
          exact ⟨by decide, fun h4 => absurd h4 (by decide), fun h4 => absurd h4 (by decide)⟩
      obtain ⟨n1, n2, n3⟩ := hno
      have hfin : ∀ (w9 : World) (e : Ending), Frm w w9 [lb] → St w9 lb fb fp s x → e = .returned (.bool false) → ComRes lb fb fp s x np w e w9 := by
        intro w9 e h1 h2 h3
        unfold ComRes
        rw [HC.out]
        exact ⟨h3, h2, h1⟩
      have HFin := Lib.hid hfin
      clear hline hblk hrune hfin
      by_cases h45 : r = 45
      case pos =>
        subst h45
        have hb1 := n2 rfl
        clear n1 n2 n3
        go_enter Tryz.func50, Tryz.ntmps50
        go_wp2_with fail
        go_region_with (go_at_call 62; refine (HDec.out _ (HE.out.drewN _)).mono ?_; rintro e w6 ⟨rfl, hb6⟩)
        all_goals
          have hF6 : Frm w w6 [] := (Frm.refl w []).drewN _ |>.step (Frm.ofBelow hb6 [])
          have HS6 := Lib.hid (HS.out.frm hF6)
          have HE6 := Lib.hid (HE.out.frm hF6 (by simp))
          have HF6 := Lib.hid (hF6.mono (T := [lb]) (by simp))
          have hR6 := HS6.out.rd
          clear hb6 hF6
          go_wp2_with (go_at_call 65; refine (peekIs_no lb fb s x.p _ _ _ hR6 ⟨by omega, by omega, hb1⟩).mono ?_; rintro e w' ⟨rfl, nq, rfl⟩)
          go_ret
          exact HFin.out _ _ (HF6.out.drewN _) (HS6.out.drewN _) rfl
      case neg =>
        by_cases h47 : r = 47
        case pos =>
          subst h47
          have hb1 := n3 rfl
          clear n1 n2 n3
          go_enter Tryz.func50, Tryz.ntmps50
          go_wp2_with fail
          go_region_with (go_at_call 62; refine (HDec.out _ (HE.out.drewN _)).mono ?_; rintro e w6 ⟨rfl, hb6⟩)
          all_goals
            have hF6 : Frm w w6 [] := (Frm.refl w []).drewN _ |>.step (Frm.ofBelow hb6 [])
            have HS6 := Lib.hid (HS.out.frm hF6)
            have HE6 := Lib.hid (HE.out.frm hF6 (by simp))
            have HF6 := Lib.hid (hF6.mono (T := [lb]) (by simp))
            have hR6 := HS6.out.rd
            clear hb6 hF6
            go_wp2_with (go_at_call 65; refine (peekIs_no lb fb s x.p _ _ _ hR6 ⟨by omega, by omega, hb1⟩).mono ?_; rintro e w' ⟨rfl, nq, rfl⟩)
            go_ret
            exact HFin.out _ _ (HF6.out.drewN _) (HS6.out.drewN _) rfl
        case neg =>
          have d1 : ((r : Int) == 35) = false := by simpa using n1
          have d2 : ((r : Int) == 45) = false := by simp; omega
          have d3 : ((r : Int) == 47) = false := by simp; omega
          clear n1 n2 n3 h45 h47
          go_enter Tryz.func50, Tryz.ntmps50
          go_wp2_with fail
          go_region_with (go_at_call 62; refine (HDec.out _ (HE.out.drewN _)).mono ?_; rintro e w6 ⟨rfl, hb6⟩)
          all_goals
            have hF6 : Frm w w6 [] := (Frm.refl w []).drewN _ |>.step (Frm.ofBelow hb6 [])
            have HS6 := Lib.hid (HS.out.frm hF6)
            have HE6 := Lib.hid (HE.out.frm hF6 (by simp))
            have HF6 := Lib.hid (hF6.mono (T := [lb]) (by simp))
            have hR6 := HS6.out.rd
            clear hb6 hF6
            go_wp2_with fail
            go_ret
            exact HFin.out _ _ HF6.out HS6.out rfl

end Go.Proofs.YtngofbhlhcalpaaGreatDoor.lexer
