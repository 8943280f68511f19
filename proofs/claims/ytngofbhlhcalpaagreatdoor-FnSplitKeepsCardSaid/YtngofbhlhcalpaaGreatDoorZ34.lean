/-
  Lemmas and contracts of this claim, texts TokZ, Field. No statement of the seat is proved here.
-/
import Derived.Test.YtngofbhlhcalpaaGreatDoorZ30
import Derived.Test.YtngofbhlhcalpaaGreatDoorZ18
import Derived.Test.YtngofbhlhcalpaaGreatDoorZ32
import Derived.Test.YtngofbhlhcalpaaGreatDoorZ31
import Derived.Test.YtngofbhlhcalpaaGreatDoorZ19
import Derived.Test.YtngofbhlhcalpaaGreatDoorZ25
import Derived.Test.YtngofbhlhcalpaaGreatDoorZ26
import Derived.Test.YtngofbhlhcalpaaGreatDoorZ27
import Derived.Test.YtngofbhlhcalpaaGreatDoorZ28
import Derived.Test.YtngofbhlhcalpaaGreatDoorZ29
import Derived.BigRegion
namespace Go.Proofs.YtngofbhlhcalpaaGreatDoor.lexer
open Go.RowKit Go.Proofs.YtngofbhlhcalpaaGreatDoor.gen
open Go.Proofs.YtngofbhlhcalpaaGreatDoor.upper (up isKw)

theorem put_plain (x : LX) (h : Fresh x) (k : ByteArray) (n : Nat) : x.put (plain k n) = { x with p := x.p + n, kind := k } := by
  simp [LX.put, plain, h.text, h.base]

theorem TokRes.plain {np : Bool} {lb fb : Nat} {fp s : ByteArray} {x : LX} {o : Out} {w : World} {e : Ending} {w' : World} (hF : Fresh x) (k : ByteArray) (n : Nat) (ho : o = .ok (plain k n)) (h : Goes (.tuple #[]) lb fb fp s { x with p := x.p + n, kind := k } w e w') :
    TokRes np lb fb fp s x o w e w' := .inl ⟨_, ho, by rw [put_plain x hF]; exact h⟩

theorem u8_of (c : UInt8) (n : Nat) (hn : n < 256) (h : nn c = (n : Int)) : c = UInt8.ofNat n := by
  refine UInt8.toNat_inj.1 ?_
  show c.toNat = n % 2 ^ 8
  unfold nn at h
  omega

theorem word_res {np : Bool} {lb fb : Nat} {fp s : ByteArray} {x : LX} {o : Out} {w : World} {e : Ending} {w' : World} (hF : Fresh x) (ho : o = word (suf s x.p)) (h : WordG lb fb fp s x (idLen (suf s x.p)) w e w') : TokRes np lb fb fp s x o w e w' := by
  subst ho
  unfold word
  simp only
  cases hk : isKw (up ((suf s x.p).take (idLen (suf s x.p)))) with
  | true =>
    refine .inl ⟨plain ⟨(up ((suf s x.p).take (idLen (suf s x.p)))).toArray⟩ (idLen (suf s x.p)), by simp, ?_⟩
    rw [put_plain x hF]
    have : wordX x ((suf s x.p).take (idLen (suf s x.p))) (idLen (suf s x.p)) = { x with p := x.p + idLen (suf s x.p), kind := ⟨(up ((suf s x.p).take (idLen (suf s x.p)))).toArray⟩ } := by simp [wordX, hk]
    rw [← this]; exact h
  | false =>
    refine .inl ⟨⟨kIdent, ⟨((suf s x.p).take (idLen (suf s x.p))).toArray⟩, 0, idLen (suf s x.p), none⟩, by simp, ?_⟩
    have : wordX x ((suf s x.p).take (idLen (suf s x.p))) (idLen (suf s x.p)) = x.put ⟨kIdent, ⟨((suf s x.p).take (idLen (suf s x.p))).toArray⟩, 0, idLen (suf s x.p), none⟩ := by
      simp [wordX, hk, LX.put, hF.base]
    rw [← this]; exact h

/-- What the plain lexer says at letters. -/
theorem tok_pre (last : ByteArray) (c : UInt8) (r : List UInt8) (h1 : single (nn c) = false) (h2 : ¬ nn c = 46) (h3 : sign (nn c) = false) (h4 : ¬ nn c = 96) (h5 : dg (nn c) = false) :
    tok last (c :: r) = match pre 3 false false (c :: r) with
      | some (i, b, w) => (qtok (delim ((c :: r).drop i)) w (!b) false (if b then kBytes else kString) ((c :: r).drop i)).shift i
      | none => if ids (nn c) then word (c :: r) else .bad 0 := by
  have g2 : (nn c == 46) = false := by simpa using h2
  have g4 : (nn c == 96) = false := by simpa using h4
  simp only [tok, h1, g2, h3, g4, h5, Bool.false_eq_true, if_false]
  rfl

theorem shift_ok {o : Out} {i : Nat} {t : Tk} (h : o.shift i = .ok t) : ∃ t2, o = .ok t2 := by
  cases o with
  | ok t2 => exact ⟨t2, rfl⟩
  | bad _ => cases h

theorem let_res {np : Bool} {lb fb : Nat} {fp s : ByteArray} {x : LX} {o : Out} {w : World} {e : Ending} {w' : World} (hF : Fresh x) (hi : pre 3 false false (suf s x.p) = none → o = word (suf s x.p))
    (ho : ∀ i b r, pre 3 false false (suf s x.p) = some (i, b, r) → o = (qtok (delim (suf s (x.p + i))) r (!b) false (if b then kBytes else kString) (suf s (x.p + i))).shift i) (h : LetRes np lb fb fp s x (pre 3 false false (suf s x.p)) w e w') : TokRes np lb fb fp s x o w e w' := by
  cases hP : pre 3 false false (suf s x.p) with
  | none => rw [hP] at h; exact word_res hF (hi hP) h
  | some y =>
    obtain ⟨i, b, r⟩ := y
    rw [hP] at h
    rw [ho i b r hP]
    exact h

theorem single_cases (c : Int) (h : single c = true) : c = 40 ∨ c = 41 ∨ c = 123 ∨ c = 125 ∨ c = 59 ∨ c = 44 ∨ c = 91 ∨ c = 93 ∨ c = 126 ∨ c = 42 ∨ c = 47 ∨ c = 38 ∨ c = 94 ∨ c = 37 ∨ c = 58 ∨ c = 63 ∨ c = 92 ∨ c = 36 := by
  simp only [single, Bool.or_eq_true, beq_iff_eq] at h
  omega
theorem sign_cases (c : Int) (h : sign c = true) : c = 60 ∨ c = 62 ∨ c = 43 ∨ c = 45 ∨ c = 61 ∨ c = 124 ∨ c = 33 ∨ c = 64 := by
  simp only [sign, Bool.or_eq_true, beq_iff_eq] at h
  omega
theorem dg_cases (c : Int) (h : dg c = true) : c = 48 ∨ c = 49 ∨ c = 50 ∨ c = 51 ∨ c = 52 ∨ c = 53 ∨ c = 54 ∨ c = 55 ∨ c = 56 ∨ c = 57 := by
  simp only [dg, Bool.and_eq_true, decide_eq_true_eq] at h
  omega

/-- The second byte. -/
theorem second (s : ByteArray) (p : Nat) (c : UInt8) (r : List UInt8) (h : suf s p = c :: r) : (r = [] ∧ byt s ((p : Int) + 1) = -1 ∧ s.size ≤ p + 1) ∨ ∃ d r2, r = d :: r2 ∧ byt s ((p : Int) + 1) = nn d := by
  have hr : suf s (p + 1) = r := by
    have := congrArg (List.drop 1) h
    rw [suf_drop'] at this
    simpa using this
  rcases suf_byt s (p + 1) with ⟨h1, h2, h3⟩ | ⟨d, h1, h2, h3⟩
  · exact .inl ⟨by rw [← hr, h2], by rw [← h1]; congr 1, h3⟩
  · exact .inr ⟨d, suf s (p + 1 + 1), by rw [← hr, h2], by rw [← h1]; congr 1⟩

theorem twoHead_no (c : UInt8) (r : List UInt8) (h : ∀ d r2, r = d :: r2 → two (nn c) (nn d) = false) : twoHead c r = none := by
  cases r with
  | nil => rfl
  | cons d r2 => simp [twoHead, h d r2 rfl]
theorem twoHead_yes (c d : UInt8) (r2 : List UInt8) (h : two (nn c) (nn d) = true) : twoHead c (d :: r2) = some d := by simp [twoHead, h]

theorem tok_single (last : ByteArray) (c : UInt8) (r : List UInt8) (h : single (nn c) = true) : tok last (c :: r) = .ok (plain ⟨#[c]⟩ 1) := by simp [tok, h]
theorem sign_not (c : Int) (h : sign c = true) : single c = false ∧ (c == 46) = false := by
  rcases sign_cases c h with h | h | h | h | h | h | h | h <;> subst h <;> decide
theorem tok_two (last : ByteArray) (c d : UInt8) (r2 : List UInt8) (h : sign (nn c) = true) (h2 : two (nn c) (nn d) = true) : tok last (c :: d :: r2) = .ok (plain ⟨#[c, d]⟩ 2) := by
  have := sign_not _ h
  simp only [tok, this.1, this.2, h, twoHead_yes c d r2 h2, Bool.false_eq_true, if_false, if_true]
theorem tok_one (last : ByteArray) (c : UInt8) (r : List UInt8) (h : sign (nn c) = true) (h64 : ¬ nn c = 64 ∨ idsHead r = false) (h2 : ∀ d r2, r = d :: r2 → two (nn c) (nn d) = false) : tok last (c :: r) = .ok (plain ⟨#[c]⟩ 1) := by
  have := sign_not _ h
  have h3 : (nn c == 64 && idsHead r) = false := by
    rcases h64 with h | h
    · have : (nn c == 64) = false := by simpa using h
      rw [this]; rfl
    · rw [h]; simp
  simp only [tok, this.1, this.2, h, twoHead_no c r h2, h3, Bool.false_eq_true, if_false, if_true]
theorem tok_par (last : ByteArray) (c : UInt8) (r : List UInt8) (h : nn c = 64) (h64 : idsHead r = true) (h2 : ∀ d r2, r = d :: r2 → two (nn c) (nn d) = false) : tok last (c :: r) = .ok ⟨kParam, ⟨(r.take (idLen r)).toArray⟩, 0, 1 + idLen r, none⟩ := by
  have hs : sign (nn c) = true := by rw [h]; decide
  have := sign_not _ hs
  have h3 : (nn c == 64 && idsHead r) = true := by rw [h, h64]; decide
  simp only [tok, this.1, this.2, hs, twoHead_no c r h2, h3, Bool.false_eq_true, if_false, if_true]
theorem tok_num (last : ByteArray) (c : UInt8) (r : List UInt8) (h : dg (nn c) = true) : tok last (c :: r) = num (c :: r) := by
  have g : single (nn c) = false ∧ (nn c == 46) = false ∧ sign (nn c) = false ∧ (nn c == 96) = false := by
    rcases dg_cases _ h with h | h | h | h | h | h | h | h | h | h <;> rw [h] <;> decide
  simp only [tok, g.1, g.2.1, g.2.2.1, g.2.2.2, h, Bool.false_eq_true, if_false, if_true]
theorem tok_back (last : ByteArray) (c : UInt8) (r : List UInt8) (h : nn c = 96) : tok last (c :: r) = qtok [96] false true true kIdent (c :: r) := by
  have g : single (nn c) = false ∧ (nn c == 46) = false ∧ sign (nn c) = false ∧ (nn c == 96) = true := by rw [h]; decide
  simp only [tok, g.1, g.2.1, g.2.2.1, g.2.2.2, Bool.false_eq_true, if_false, if_true]
theorem tok_point (last : ByteArray) (c : UInt8) (r : List UInt8) (h : nn c = 46) : tok last (c :: r) = if !dotted last && dgHead r then num (c :: r) else .ok ⟨⟨#[46]⟩, kNone, 0, 1, some (dotted last)⟩ := by
  have g : single (nn c) = false ∧ (nn c == 46) = true := by rw [h]; decide
  simp only [tok, g.1, g.2, Bool.false_eq_true, if_false, if_true]

theorem pre_none (c : UInt8) (r : List UInt8) (h : ¬ nn c = 66 ∧ ¬ nn c = 98 ∧ ¬ nn c = 82 ∧ ¬ nn c = 114 ∧ ¬ nn c = 34 ∧ ¬ nn c = 39) : pre 3 false false (c :: r) = none :=
  pre_no 2 false false c r (.inr ⟨h.1, h.2.1⟩) (.inr ⟨h.2.2.1, h.2.2.2.1⟩) ⟨h.2.2.2.2.1, h.2.2.2.2.2⟩

theorem let_not (c : Int) (h : c = 66 ∨ c = 98 ∨ c = 82 ∨ c = 114 ∨ c = 34 ∨ c = 39) : single c = false ∧ ¬ c = 46 ∧ sign c = false ∧ ¬ c = 96 ∧ dg c = false := by
  rcases h with h | h | h | h | h | h <;> subst h <;> decide

theorem let_tok {np : Bool} {lb fb : Nat} {fp s : ByteArray} {x : LX} {w : World} {e : Ending} {w' : World} {c : UInt8} {r : List UInt8} (hF : Fresh x) (hsuf : suf s x.p = c :: r) (hc : nn c = 66 ∨ nn c = 98 ∨ nn c = 82 ∨ nn c = 114 ∨ nn c = 34 ∨ nn c = 39)
    (hid : ids (nn c) = true ∨ ∃ y, pre 3 false false (suf s x.p) = some y) (h : LetRes np lb fb fp s x (pre 3 false false (suf s x.p)) w e w') : TokRes np lb fb fp s x (tok x.last (suf s x.p)) w e w' := by
  obtain ⟨g1, g2, g3, g4, g5⟩ := let_not _ hc
  have ht := tok_pre x.last c r g1 g2 g3 g4 g5
  refine let_res hF ?_ ?_ h
  · intro hP
    rcases hid with hid | ⟨y, hy⟩
    · rw [hsuf] at hP ⊢; rw [ht, hP]; simp only [hid, if_true]
    · rw [hy] at hP; cases hP
  · intro i b w1 hP
    rw [← suf_drop']
    rw [hsuf] at hP ⊢; rw [ht, hP]

theorem let_ok {s : ByteArray} {x : LX} {c : UInt8} {r : List UInt8} (hsuf : suf s x.p = c :: r) (hc : nn c = 66 ∨ nn c = 98 ∨ nn c = 82 ∨ nn c = 114 ∨ nn c = 34 ∨ nn c = 39) (hok : NB s ∨ ∃ t, tok x.last (suf s x.p) = .ok t) :
    NB s ∨ ∀ i b w1, pre 3 false false (suf s x.p) = some (i, b, w1) → ∃ t, qtok (delim (suf s (x.p + i))) w1 (!b) false (if b then kBytes else kString) (suf s (x.p + i)) = .ok t := by
  obtain ⟨g1, g2, g3, g4, g5⟩ := let_not _ hc
  have ht := tok_pre x.last c r g1 g2 g3 g4 g5
  rcases hok with h | ⟨t, h⟩
  · exact .inl h
  · right
    intro i b w1 hP
    rw [← suf_drop']
    rw [hsuf] at hP h ⊢
    rw [ht, hP] at h
    exact shift_ok h

/-- consumeToken by the plain lexer. -/
theorem tok_any (lb fb : Nat) (fp s : ByteArray) (x : LX) (np : Bool) (w : World) (hs : s.size ≤ 1048576) (hE : Env w lb fb) (hS : St w lb fb fp s x) (hF : Fresh x) (hok : NB s ∨ ∃ t, tok x.last (suf s x.p) = .ok t) :
    Calls Tryz.prog 52 #[.pointer (some ⟨lb, 0, none⟩), .bool np] w (TokRes np lb fb fp s x (tok x.last (suf s x.p)) w) := by
  rcases suf_byt s x.p with ⟨_, h2, hge⟩ | ⟨c, hb, hsuf, hlt⟩
  · rw [h2]
    refine (tok_eof lb fb fp s x np w hS hge).mono ?_
    intro e w' h
    exact TokRes.plain hF kEof 0 rfl h
  · have h0 : byt s ((x.p : Int) + 0) = nn c := by rw [← hb]; congr 1
    obtain ⟨r, hr⟩ : ∃ r, suf s (x.p + 1) = r := ⟨_, rfl⟩
    rw [hr] at hsuf
    have hbd := nn_bd c
    cases hsg : single (nn c) with
    | true =>
      rw [hsuf]
      have ht := tok_single x.last c r hsg
      rcases single_cases _ hsg with h | h | h | h | h | h | h | h | h | h | h | h | h | h | h | h | h | h
      · have hc := u8_of c 40 (by omega) h
        rw [h] at h0
        subst hc
        exact (tok_s40 lb fb fp s x np w hS h0 hlt).mono fun e w' hG => TokRes.plain hF _ 1 ht hG
      · have hc := u8_of c 41 (by omega) h
        rw [h] at h0
        subst hc
        exact (tok_s41 lb fb fp s x np w hS h0 hlt).mono fun e w' hG => TokRes.plain hF _ 1 ht hG
      · have hc := u8_of c 123 (by omega) h
        rw [h] at h0
        subst hc
        exact (tok_s123 lb fb fp s x np w hS h0 hlt).mono fun e w' hG => TokRes.plain hF _ 1 ht hG
      · have hc := u8_of c 125 (by omega) h
        rw [h] at h0
        subst hc
        exact (tok_s125 lb fb fp s x np w hS h0 hlt).mono fun e w' hG => TokRes.plain hF _ 1 ht hG
      · have hc := u8_of c 59 (by omega) h
        rw [h] at h0
        subst hc
        exact (tok_s59 lb fb fp s x np w hS h0 hlt).mono fun e w' hG => TokRes.plain hF _ 1 ht hG
      · have hc := u8_of c 44 (by omega) h
        rw [h] at h0
        subst hc
        exact (tok_s44 lb fb fp s x np w hS h0 hlt).mono fun e w' hG => TokRes.plain hF _ 1 ht hG
      · have hc := u8_of c 91 (by omega) h
        rw [h] at h0
        subst hc
        exact (tok_s91 lb fb fp s x np w hS h0 hlt).mono fun e w' hG => TokRes.plain hF _ 1 ht hG
      · have hc := u8_of c 93 (by omega) h
        rw [h] at h0
        subst hc
        exact (tok_s93 lb fb fp s x np w hS h0 hlt).mono fun e w' hG => TokRes.plain hF _ 1 ht hG
      · have hc := u8_of c 126 (by omega) h
        rw [h] at h0
        subst hc
        exact (tok_s126 lb fb fp s x np w hS h0 hlt).mono fun e w' hG => TokRes.plain hF _ 1 ht hG
      · have hc := u8_of c 42 (by omega) h
        rw [h] at h0
        subst hc
        exact (tok_s42 lb fb fp s x np w hS h0 hlt).mono fun e w' hG => TokRes.plain hF _ 1 ht hG
      · have hc := u8_of c 47 (by omega) h
        rw [h] at h0
        subst hc
        exact (tok_s47 lb fb fp s x np w hS h0 hlt).mono fun e w' hG => TokRes.plain hF _ 1 ht hG
      · have hc := u8_of c 38 (by omega) h
        rw [h] at h0
        subst hc
        exact (tok_s38 lb fb fp s x np w hS h0 hlt).mono fun e w' hG => TokRes.plain hF _ 1 ht hG
      · have hc := u8_of c 94 (by omega) h
        rw [h] at h0
        subst hc
        exact (tok_s94 lb fb fp s x np w hS h0 hlt).mono fun e w' hG => TokRes.plain hF _ 1 ht hG
      · have hc := u8_of c 37 (by omega) h
        rw [h] at h0
        subst hc
        exact (tok_s37 lb fb fp s x np w hS h0 hlt).mono fun e w' hG => TokRes.plain hF _ 1 ht hG
      · have hc := u8_of c 58 (by omega) h
        rw [h] at h0
        subst hc
        exact (tok_s58 lb fb fp s x np w hS h0 hlt).mono fun e w' hG => TokRes.plain hF _ 1 ht hG
      · have hc := u8_of c 63 (by omega) h
        rw [h] at h0
        subst hc
        exact (tok_s63 lb fb fp s x np w hS h0 hlt).mono fun e w' hG => TokRes.plain hF _ 1 ht hG
      · have hc := u8_of c 92 (by omega) h
        rw [h] at h0
        subst hc
        exact (tok_s92 lb fb fp s x np w hS h0 hlt).mono fun e w' hG => TokRes.plain hF _ 1 ht hG
      · have hc := u8_of c 36 (by omega) h
        rw [h] at h0
        subst hc
        exact (tok_s36 lb fb fp s x np w hS h0 hlt).mono fun e w' hG => TokRes.plain hF _ 1 ht hG
    | false =>
      by_cases h46 : nn c = 46
      · have ht := tok_point x.last c r h46
        rw [hsuf, ht]
        rw [h46] at h0
        have hc := u8_of c 46 (by omega) h46
        have hdot : ∀ {e w'}, DotG lb fb fp s x (dotted x.last) w e w' → TokRes np lb fb fp s x (.ok ⟨⟨#[46]⟩, kNone, 0, 1, some (dotted x.last)⟩) w e w' := fun {e w'} hG => by
          refine .inl ⟨_, rfl, ?_⟩
          have : x.put ⟨⟨#[46]⟩, kNone, 0, 1, some (dotted x.last)⟩ = { x with p := x.p + 1, kind := ⟨#[46]⟩, dot := dotted x.last } := by simp [LX.put, hF.text, hF.base]
          rw [this]; exact hG
        cases hd : dotted x.last with
        | true =>
          simp only [Bool.not_true, Bool.false_and, Bool.false_eq_true, if_false]
          rw [hd] at hdot
          exact (tok_dotYes lb fb fp s x np w hS h0 hd).mono fun e w' hG => hdot hG
        | false =>
          rw [hd] at hdot
          rcases second s x.p c r hsuf with ⟨hr0, h1, hge⟩ | ⟨d, r2, hr2, h1⟩
          · subst hr0
            simp only [dgHead, Bool.and_false, Bool.false_eq_true, if_false]
            exact (tok_dotEnd lb fb fp s x np w hS h0 hd hge).mono fun e w' hG => hdot hG
          · subst hr2
            have hbdd := nn_bd d
            cases hdg : dg (nn d) with
            | true =>
              simp only [dgHead, hdg, Bool.not_false, Bool.and_true, if_true]
              have := tok_dotNum lb fb fp s x np w hs hE hS hF c (d :: r2) hsuf h46 h0 hd (nn d) hbdd.1 h1 hdg
              rw [hsuf] at this
              exact this
            | false =>
              simp only [dgHead, hdg, Bool.and_false, Bool.false_eq_true, if_false]
              exact (tok_dotNo lb fb fp s x np w hS h0 hd (nn d) hbdd.1 h1 hdg).mono fun e w' hG => hdot hG
      · cases hsn : sign (nn c) with
        | true =>
          rw [hsuf]
          rcases second s x.p c r hsuf with ⟨hr0, h1, hge⟩ | ⟨d, r2, hr2, h1⟩
          · have ht := tok_one x.last c r hsn (.inr (by rw [hr0]; rfl)) (by intro d r2 h; rw [hr0] at h; cases h)
            rcases sign_cases _ hsn with h | h | h | h | h | h | h | h
            · have hc := u8_of c 60 (by omega) h
              rw [h] at h0
              subst hc
              exact (tok_o60 lb fb fp s x np w hS h0 ⟨by rw [h1]; decide, by rw [h1]; decide, by rw [h1]; decide⟩).mono fun e w' hG => TokRes.plain hF _ 1 ht hG
            · have hc := u8_of c 62 (by omega) h
              rw [h] at h0
              subst hc
              exact (tok_o62 lb fb fp s x np w hS h0 ⟨by rw [h1]; decide, by rw [h1]; decide, by rw [h1]; decide⟩).mono fun e w' hG => TokRes.plain hF _ 1 ht hG
            · have hc := u8_of c 43 (by omega) h
              rw [h] at h0
              subst hc
              exact (tok_o43 lb fb fp s x np w hS h0 ⟨by rw [h1]; decide, by rw [h1]; decide, by rw [h1]; decide⟩).mono fun e w' hG => TokRes.plain hF _ 1 ht hG
            · have hc := u8_of c 45 (by omega) h
              rw [h] at h0
              subst hc
              exact (tok_o45 lb fb fp s x np w hS h0 ⟨by rw [h1]; decide, by rw [h1]; decide, by rw [h1]; decide⟩).mono fun e w' hG => TokRes.plain hF _ 1 ht hG
            · have hc := u8_of c 61 (by omega) h
              rw [h] at h0
              subst hc
              exact (tok_o61 lb fb fp s x np w hS h0 ⟨by rw [h1]; decide, by rw [h1]; decide, by rw [h1]; decide⟩).mono fun e w' hG => TokRes.plain hF _ 1 ht hG
            · have hc := u8_of c 124 (by omega) h
              rw [h] at h0
              subst hc
              exact (tok_o124 lb fb fp s x np w hS h0 ⟨by rw [h1]; decide, by rw [h1]; decide, by rw [h1]; decide⟩).mono fun e w' hG => TokRes.plain hF _ 1 ht hG
            · have hc := u8_of c 33 (by omega) h
              rw [h] at h0
              subst hc
              exact (tok_o33 lb fb fp s x np w hS h0 ⟨by rw [h1]; decide, by rw [h1]; decide, by rw [h1]; decide⟩).mono fun e w' hG => TokRes.plain hF _ 1 ht hG
            · have hc := u8_of c 64 (by omega) h
              rw [h] at h0
              subst hc
              exact (tok_at lb fb fp s x np w hS h0 (-1) h1 (by decide) (by decide)).mono fun e w' hG => TokRes.plain hF _ 1 ht hG
          · subst hr2
            have hbdd := nn_bd d
            cases htw : two (nn c) (nn d) with
            | true =>
              have ht := tok_two x.last c d r2 hsn htw
              simp only [two, Bool.or_eq_true, Bool.and_eq_true, beq_iff_eq] at htw
              rcases htw with ((((((⟨hc, (hd | hd) | hd⟩ | ⟨hc, hd | hd⟩) | ⟨hc, hd⟩) | ⟨hc, hd | hd⟩) | ⟨hc, hd⟩) | ⟨hc, hd | hd⟩) | ⟨hc, hd⟩) | ⟨hc, hd⟩
              · have hc1 := u8_of c 60 (by omega) hc
                have hd1 := u8_of d 60 (by omega) hd
                rw [hc] at h0
                rw [hd] at h1
                subst hc1 hd1
                exact (tok_t60_60 lb fb fp s x np w hS h0 h1).mono fun e w' hG => TokRes.plain hF _ 2 ht hG
              · have hc1 := u8_of c 60 (by omega) hc
                have hd1 := u8_of d 61 (by omega) hd
                rw [hc] at h0
                rw [hd] at h1
                subst hc1 hd1
                exact (tok_t60_61 lb fb fp s x np w hS h0 h1).mono fun e w' hG => TokRes.plain hF _ 2 ht hG
              · have hc1 := u8_of c 60 (by omega) hc
                have hd1 := u8_of d 62 (by omega) hd
                rw [hc] at h0
                rw [hd] at h1
                subst hc1 hd1
                exact (tok_t60_62 lb fb fp s x np w hS h0 h1).mono fun e w' hG => TokRes.plain hF _ 2 ht hG
              · have hc1 := u8_of c 62 (by omega) hc
                have hd1 := u8_of d 62 (by omega) hd
                rw [hc] at h0
                rw [hd] at h1
                subst hc1 hd1
                exact (tok_t62_62 lb fb fp s x np w hS h0 h1).mono fun e w' hG => TokRes.plain hF _ 2 ht hG
              · have hc1 := u8_of c 62 (by omega) hc
                have hd1 := u8_of d 61 (by omega) hd
                rw [hc] at h0
                rw [hd] at h1
                subst hc1 hd1
                exact (tok_t62_61 lb fb fp s x np w hS h0 h1).mono fun e w' hG => TokRes.plain hF _ 2 ht hG
              · have hc1 := u8_of c 43 (by omega) hc
                have hd1 := u8_of d 61 (by omega) hd
                rw [hc] at h0
                rw [hd] at h1
                subst hc1 hd1
                exact (tok_t43_61 lb fb fp s x np w hS h0 h1).mono fun e w' hG => TokRes.plain hF _ 2 ht hG
              · have hc1 := u8_of c 45 (by omega) hc
                have hd1 := u8_of d 61 (by omega) hd
                rw [hc] at h0
                rw [hd] at h1
                subst hc1 hd1
                exact (tok_t45_61 lb fb fp s x np w hS h0 h1).mono fun e w' hG => TokRes.plain hF _ 2 ht hG
              · have hc1 := u8_of c 45 (by omega) hc
                have hd1 := u8_of d 62 (by omega) hd
                rw [hc] at h0
                rw [hd] at h1
                subst hc1 hd1
                exact (tok_t45_62 lb fb fp s x np w hS h0 h1).mono fun e w' hG => TokRes.plain hF _ 2 ht hG
              · have hc1 := u8_of c 61 (by omega) hc
                have hd1 := u8_of d 62 (by omega) hd
                rw [hc] at h0
                rw [hd] at h1
                subst hc1 hd1
                exact (tok_t61_62 lb fb fp s x np w hS h0 h1).mono fun e w' hG => TokRes.plain hF _ 2 ht hG
              · have hc1 := u8_of c 124 (by omega) hc
                have hd1 := u8_of d 62 (by omega) hd
                rw [hc] at h0
                rw [hd] at h1
                subst hc1 hd1
                exact (tok_t124_62 lb fb fp s x np w hS h0 h1).mono fun e w' hG => TokRes.plain hF _ 2 ht hG
              · have hc1 := u8_of c 124 (by omega) hc
                have hd1 := u8_of d 124 (by omega) hd
                rw [hc] at h0
                rw [hd] at h1
                subst hc1 hd1
                exact (tok_t124_124 lb fb fp s x np w hS h0 h1).mono fun e w' hG => TokRes.plain hF _ 2 ht hG
              · have hc1 := u8_of c 33 (by omega) hc
                have hd1 := u8_of d 61 (by omega) hd
                rw [hc] at h0
                rw [hd] at h1
                subst hc1 hd1
                exact (tok_t33_61 lb fb fp s x np w hS h0 h1).mono fun e w' hG => TokRes.plain hF _ 2 ht hG
              · have hc1 := u8_of c 64 (by omega) hc
                have hd1 := u8_of d 64 (by omega) hd
                rw [hc] at h0
                rw [hd] at h1
                subst hc1 hd1
                exact (tok_t64_64 lb fb fp s x np w hS h0 h1).mono fun e w' hG => TokRes.plain hF _ 2 ht hG
            | false =>
              have hno : ∀ d' r2', d :: r2 = d' :: r2' → two (nn c) (nn d') = false := by intro d' r2' h; cases h; exact htw
              rcases sign_cases _ hsn with h | h | h | h | h | h | h | h
              · have ht := tok_one x.last c (d :: r2) hsn (.inl (by omega)) hno
                have hc := u8_of c 60 (by omega) h
                rw [h] at h0 htw
                simp only [two, Bool.or_eq_false_iff, Bool.and_eq_false_iff, beq_eq_false_iff_ne] at htw
                subst hc
                exact (tok_o60 lb fb fp s x np w hS h0 ⟨by rw [h1]; omega, by rw [h1]; omega, by rw [h1]; omega⟩).mono fun e w' hG => TokRes.plain hF _ 1 ht hG
              · have ht := tok_one x.last c (d :: r2) hsn (.inl (by omega)) hno
                have hc := u8_of c 62 (by omega) h
                rw [h] at h0 htw
                simp only [two, Bool.or_eq_false_iff, Bool.and_eq_false_iff, beq_eq_false_iff_ne] at htw
                subst hc
                exact (tok_o62 lb fb fp s x np w hS h0 ⟨by rw [h1]; omega, by rw [h1]; omega, by rw [h1]; omega⟩).mono fun e w' hG => TokRes.plain hF _ 1 ht hG
              · have ht := tok_one x.last c (d :: r2) hsn (.inl (by omega)) hno
                have hc := u8_of c 43 (by omega) h
                rw [h] at h0 htw
                simp only [two, Bool.or_eq_false_iff, Bool.and_eq_false_iff, beq_eq_false_iff_ne] at htw
                subst hc
                exact (tok_o43 lb fb fp s x np w hS h0 ⟨by rw [h1]; omega, by rw [h1]; omega, by rw [h1]; omega⟩).mono fun e w' hG => TokRes.plain hF _ 1 ht hG
              · have ht := tok_one x.last c (d :: r2) hsn (.inl (by omega)) hno
                have hc := u8_of c 45 (by omega) h
                rw [h] at h0 htw
                simp only [two, Bool.or_eq_false_iff, Bool.and_eq_false_iff, beq_eq_false_iff_ne] at htw
                subst hc
                exact (tok_o45 lb fb fp s x np w hS h0 ⟨by rw [h1]; omega, by rw [h1]; omega, by rw [h1]; omega⟩).mono fun e w' hG => TokRes.plain hF _ 1 ht hG
              · have ht := tok_one x.last c (d :: r2) hsn (.inl (by omega)) hno
                have hc := u8_of c 61 (by omega) h
                rw [h] at h0 htw
                simp only [two, Bool.or_eq_false_iff, Bool.and_eq_false_iff, beq_eq_false_iff_ne] at htw
                subst hc
                exact (tok_o61 lb fb fp s x np w hS h0 ⟨by rw [h1]; omega, by rw [h1]; omega, by rw [h1]; omega⟩).mono fun e w' hG => TokRes.plain hF _ 1 ht hG
              · have ht := tok_one x.last c (d :: r2) hsn (.inl (by omega)) hno
                have hc := u8_of c 124 (by omega) h
                rw [h] at h0 htw
                simp only [two, Bool.or_eq_false_iff, Bool.and_eq_false_iff, beq_eq_false_iff_ne] at htw
                subst hc
                exact (tok_o124 lb fb fp s x np w hS h0 ⟨by rw [h1]; omega, by rw [h1]; omega, by rw [h1]; omega⟩).mono fun e w' hG => TokRes.plain hF _ 1 ht hG
              · have ht := tok_one x.last c (d :: r2) hsn (.inl (by omega)) hno
                have hc := u8_of c 33 (by omega) h
                rw [h] at h0 htw
                simp only [two, Bool.or_eq_false_iff, Bool.and_eq_false_iff, beq_eq_false_iff_ne] at htw
                subst hc
                exact (tok_o33 lb fb fp s x np w hS h0 ⟨by rw [h1]; omega, by rw [h1]; omega, by rw [h1]; omega⟩).mono fun e w' hG => TokRes.plain hF _ 1 ht hG
              · have hd64 : ¬ nn d = 64 := by
                  intro hd
                  rw [h, hd] at htw
                  revert htw; decide
                cases hi : ids (nn d) with
                | false =>
                  have ht := tok_one x.last c (d :: r2) hsn (.inr hi) hno
                  have hc := u8_of c 64 (by omega) h
                  rw [h] at h0
                  subst hc
                  exact (tok_at lb fb fp s x np w hS h0 (nn d) h1 hd64 hi).mono fun e w' hG => TokRes.plain hF _ 1 ht hG
                | true =>
                  have ht := tok_par x.last c (d :: r2) h hi hno
                  rw [h] at h0
                  refine (tok_param lb fb fp s x np w hS h0 (nn d) h1 hi (1 + idLen (d :: r2)) (by rw [hr])).mono fun e w' hG => .inl ⟨_, ht, ?_⟩
                  have hext : s.extract (x.p + 1) (x.p + (1 + idLen (d :: r2))) = ⟨((d :: r2).take (idLen (d :: r2))).toArray⟩ := by
                    refine bytes_ext ?_
                    rw [show x.p + (1 + idLen (d :: r2)) = x.p + 1 + idLen (d :: r2) from by omega, ext_suf, hr]
                  have : x.put ⟨kParam, ⟨((d :: r2).take (idLen (d :: r2))).toArray⟩, 0, 1 + idLen (d :: r2), none⟩ = { x with p := x.p + (1 + idLen (d :: r2)), kind := kParam, text := s.extract (x.p + 1) (x.p + (1 + idLen (d :: r2))) } := by
                    rw [hext]; simp [LX.put, hF.base]
                  rw [this]; exact hG
        | false =>
          by_cases h96 : nn c = 96
          · have ht := tok_back x.last c r h96
            rw [h96] at h0
            rw [hsuf, ht] at hok ⊢
            rw [← hsuf] at hok ⊢
            exact tok_bq lb fb fp s x np w hs hE hS hF h0 hok
          · cases hdg : dg (nn c) with
            | true =>
              have ht := tok_num x.last c r hdg
              rw [hsuf, ht, ← hsuf]
              rcases dg_cases _ hdg with h | h | h | h | h | h | h | h | h | h
              · rw [h] at h0; exact tok_n48 lb fb fp s x np w hs hE hS hF c r hsuf h0 h
              · rw [h] at h0; exact tok_n49 lb fb fp s x np w hs hE hS hF c r hsuf h0 h
              · rw [h] at h0; exact tok_n50 lb fb fp s x np w hs hE hS hF c r hsuf h0 h
              · rw [h] at h0; exact tok_n51 lb fb fp s x np w hs hE hS hF c r hsuf h0 h
              · rw [h] at h0; exact tok_n52 lb fb fp s x np w hs hE hS hF c r hsuf h0 h
              · rw [h] at h0; exact tok_n53 lb fb fp s x np w hs hE hS hF c r hsuf h0 h
              · rw [h] at h0; exact tok_n54 lb fb fp s x np w hs hE hS hF c r hsuf h0 h
              · rw [h] at h0; exact tok_n55 lb fb fp s x np w hs hE hS hF c r hsuf h0 h
              · rw [h] at h0; exact tok_n56 lb fb fp s x np w hs hE hS hF c r hsuf h0 h
              · rw [h] at h0; exact tok_n57 lb fb fp s x np w hs hE hS hF c r hsuf h0 h
            | false =>
              by_cases hlet : nn c = 66 ∨ nn c = 98 ∨ nn c = 82 ∨ nn c = 114 ∨ nn c = 34 ∨ nn c = 39
              · have hok2 := let_ok hsuf hlet hok
                rcases hlet with h | h | h | h | h | h
                · have hid : ids (nn c) = true := by rw [h]; decide
                  have hl : nn c = 66 ∨ nn c = 98 ∨ nn c = 82 ∨ nn c = 114 ∨ nn c = 34 ∨ nn c = 39 := by omega
                  rw [h] at h0
                  exact (tok_let66 lb fb fp s x np w hs hE hS hF h0 _ rfl hok2).mono fun e w' hG => let_tok hF hsuf hl (.inl hid) hG
                · have hid : ids (nn c) = true := by rw [h]; decide
                  have hl : nn c = 66 ∨ nn c = 98 ∨ nn c = 82 ∨ nn c = 114 ∨ nn c = 34 ∨ nn c = 39 := by omega
                  rw [h] at h0
                  exact (tok_let98 lb fb fp s x np w hs hE hS hF h0 _ rfl hok2).mono fun e w' hG => let_tok hF hsuf hl (.inl hid) hG
                · have hid : ids (nn c) = true := by rw [h]; decide
                  have hl : nn c = 66 ∨ nn c = 98 ∨ nn c = 82 ∨ nn c = 114 ∨ nn c = 34 ∨ nn c = 39 := by omega
                  rw [h] at h0
                  exact (tok_let82 lb fb fp s x np w hs hE hS hF h0 _ rfl hok2).mono fun e w' hG => let_tok hF hsuf hl (.inl hid) hG
                · have hid : ids (nn c) = true := by rw [h]; decide
                  have hl : nn c = 66 ∨ nn c = 98 ∨ nn c = 82 ∨ nn c = 114 ∨ nn c = 34 ∨ nn c = 39 := by omega
                  rw [h] at h0
                  exact (tok_let114 lb fb fp s x np w hs hE hS hF h0 _ rfl hok2).mono fun e w' hG => let_tok hF hsuf hl (.inl hid) hG
                · have hl : nn c = 66 ∨ nn c = 98 ∨ nn c = 82 ∨ nn c = 114 ∨ nn c = 34 ∨ nn c = 39 := by omega
                  have hp : ∃ y, pre 3 false false (suf s x.p) = some y := ⟨_, by rw [hsuf]; exact pre_q 2 false false c r (by omega)⟩
                  rw [h] at h0
                  exact (tok_let34 lb fb fp s x np w hs hE hS hF h0 _ rfl hok2).mono fun e w' hG => let_tok hF hsuf hl (.inr hp) hG
                · have hl : nn c = 66 ∨ nn c = 98 ∨ nn c = 82 ∨ nn c = 114 ∨ nn c = 34 ∨ nn c = 39 := by omega
                  have hp : ∃ y, pre 3 false false (suf s x.p) = some y := ⟨_, by rw [hsuf]; exact pre_q 2 false false c r (by omega)⟩
                  rw [h] at h0
                  exact (tok_let39 lb fb fp s x np w hs hE hS hF h0 _ rfl hok2).mono fun e w' hG => let_tok hF hsuf hl (.inr hp) hG
              · have hn : ¬ nn c = 66 ∧ ¬ nn c = 98 ∧ ¬ nn c = 82 ∧ ¬ nn c = 114 ∧ ¬ nn c = 34 ∧ ¬ nn c = 39 := by omega
                have ht := tok_pre x.last c r hsg h46 hsn h96 hdg
                rw [pre_none c r hn] at ht
                cases hi : ids (nn c) with
                | true =>
                  rw [hi] at ht
                  exact (tok_word lb fb fp s x np (nn c) w hS h0 hi ⟨hn.1, hn.2.1, hn.2.2.1, hn.2.2.2.1⟩ _ rfl).mono fun e w' hG => word_res hF (by rw [hsuf, ht]; rfl) hG
                | false =>
                  rw [hi] at ht
                  rw [hsuf, ht]
                  exact tok_bad lb fb fp s x np (nn c) w hs hE hS h0 hbd.1 hi ⟨by rw [hsg]; simp, by rw [hsn]; simp, by rw [hdg]; simp, h46, h96, hn.2.2.2.2.1, hn.2.2.2.2.2⟩

end Go.Proofs.YtngofbhlhcalpaaGreatDoor.lexer

namespace Go.Proofs.YtngofbhlhcalpaaGreatDoor.lexer
open Go.RowKit Go.Proofs.YtngofbhlhcalpaaGreatDoor.gen

set_option maxRecDepth 100000 in
set_option maxHeartbeats 4000000 in
theorem field_word (lb fb : Nat) (fp s : ByteArray) (x : LX) (np : Bool) (w : World) (hS : St w lb fb fp s x) (c : Int) (h0 : byt s ((x.p : Int) + 0) = c) (hi : idp c = true) (N : Nat) (hN : idLen (suf s x.p) = N) :
    Calls Tryz.prog 51 #[.pointer (some ⟨lb, 0, none⟩), .bool np] w (Goes (.tuple #[]) lb fb fp s { x with p := x.p + N, kind := kIdent, text := s.extract x.p (x.p + N) } w) := by
  have hR := hS.rd
  have hsz := hS.sz
  have hc0 : 0 ≤ c := by
    have h2 := hi
    simp only [idp, ids, dg, Bool.or_eq_true, Bool.and_eq_true, decide_eq_true_eq, beq_iff_eq] at h2
    omega
  have hlt2 := (byt_lt s _ (by rw [h0]; exact hc0 : 0 ≤ byt s ((x.p : Int) + 0))).2
  have hlt : x.p < s.size := by omega
  have HS := Lib.hid hS
  have HN := Lib.hid hN
  have HP : Hid (x.p + N ≤ s.size) := by
    have h1 := idLen_le (suf s x.p)
    rw [hN, suf_len] at h1
    show x.p + N ≤ s.size
    omega
  clear hS hN
  go_enter Tryz.func51, Tryz.ntmps51
  go_upto_block 0 with (first | (go_at_call 69; first | ((with_reducible refine (peek_any _ _ _ _ _ _ _ (hR.drewN _) ⟨?_, ?_, by assumption⟩).mono ?_); omega; omega; rintro e w' ⟨rfl, nq, rfl⟩) | ((with_reducible refine (peek_any _ _ _ _ _ _ _ hR ⟨?_, ?_, by assumption⟩).mono ?_); omega; omega; rintro e w' ⟨rfl, nq, rfl⟩)) | (go_at_call 67; first | ((with_reducible refine (peekOk_yes _ _ _ _ _ _ (hR.drewN _) ?_).mono ?_); omega; rintro e w' ⟨rfl, nq, rfl⟩) | ((with_reducible refine (peekOk_yes _ _ _ _ _ _ hR ?_).mono ?_); omega; rintro e w' ⟨rfl, nq, rfl⟩) | ((with_reducible refine (peekOk_no _ _ _ _ _ _ (hR.drewN _) ?_).mono ?_); omega; rintro e w' ⟨rfl, nq, rfl⟩) | ((with_reducible refine (peekOk_no _ _ _ _ _ _ hR ?_).mono ?_); omega; rintro e w' ⟨rfl, nq, rfl⟩)) | (go_at_call 68; refine (isIdentPart_any _ _).mono ?_; rintro e w' ⟨rfl, rfl⟩))
  go_cut [4] from 12 to 22 (fun i wx => i = .int .i64 N ∧ ∃ nq, wx = w.drewN nq)
  case first =>
    go_wp2_with fail
    go_loopw [4] (fun i wr => IdRel s x.p N i w wr) (fun i _ => s.size - (intOf i).toNat)
    case atStart => exact ⟨0, _, rfl, rfl, by omega, by simpa using HN.out⟩
    case round =>
      obtain ⟨k, nq, rfl, rfl, hpk, hk1⟩ := hrel
      have HK1 := Lib.hid hk1
      clear hk1
      rcases suf_byt s (x.p + k) with ⟨hb, hsuf, hge⟩ | ⟨d, hb, hsuf, hlt⟩
      · have hk : k = N := by have := HK1.out; rw [hsuf] at this; simpa [idLen] using this
        subst hk
        have hge2 : (s.size : Int) ≤ (x.p : Int) + (k : Int) := by omega
        clear hb hsuf
        go_wp2_with (first | (go_at_call 67; first | ((with_reducible refine (peekOk_yes _ _ _ _ _ _ (hR.drewN _) ?_).mono ?_); omega; rintro e w' ⟨rfl, nq, rfl⟩) | ((with_reducible refine (peekOk_yes _ _ _ _ _ _ hR ?_).mono ?_); omega; rintro e w' ⟨rfl, nq, rfl⟩) | ((with_reducible refine (peekOk_no _ _ _ _ _ _ (hR.drewN _) ?_).mono ?_); omega; rintro e w' ⟨rfl, nq, rfl⟩) | ((with_reducible refine (peekOk_no _ _ _ _ _ _ hR ?_).mono ?_); omega; rintro e w' ⟨rfl, nq, rfl⟩)))
        go_meet
        exact ⟨rfl, _, rfl⟩
      · have hbd := nn_bd d
        rw [show ((x.p + k : Nat) : Int) = (x.p : Int) + (k : Int) from by omega] at hb
        have hlt3 : (x.p : Int) + (k : Int) < s.size := by omega
        cases hd : idp (nn d) with
        | true =>
          have hk1 : k + 1 + idLen (suf s (x.p + k + 1)) = N := by have := HK1.out; rw [hsuf] at this; simp only [idLen, hd, if_true] at this; omega
          have HK3 := Lib.hid hk1
          clear hk1 HK1 hsuf
          go_wp2_with (first | (go_at_call 67; first | ((with_reducible refine (peekOk_yes _ _ _ _ _ _ (hR.drewN _) ?_).mono ?_); omega; rintro e w' ⟨rfl, nq, rfl⟩) | ((with_reducible refine (peekOk_yes _ _ _ _ _ _ hR ?_).mono ?_); omega; rintro e w' ⟨rfl, nq, rfl⟩) | ((with_reducible refine (peekOk_no _ _ _ _ _ _ (hR.drewN _) ?_).mono ?_); omega; rintro e w' ⟨rfl, nq, rfl⟩) | ((with_reducible refine (peekOk_no _ _ _ _ _ _ hR ?_).mono ?_); omega; rintro e w' ⟨rfl, nq, rfl⟩)) | (go_at_call 69; first | ((with_reducible refine (peek_any _ _ _ _ _ _ _ (hR.drewN _) ⟨?_, ?_, by assumption⟩).mono ?_); omega; omega; rintro e w' ⟨rfl, nq, rfl⟩) | ((with_reducible refine (peek_any _ _ _ _ _ _ _ hR ⟨?_, ?_, by assumption⟩).mono ?_); omega; omega; rintro e w' ⟨rfl, nq, rfl⟩)) | (go_at_call 68; refine (isIdentPart_any _ _).mono ?_; rintro e w' ⟨rfl, rfl⟩))
          go_roundw
          case rel => exact ⟨k + 1, _, by go_num, rfl, by omega, HK3.out⟩
          case measure => simp [intOf]; omega
        | false =>
          have hk : k = N := by have := HK1.out; rw [hsuf] at this; simpa [idLen, hd] using this
          subst hk
          clear hsuf
          go_wp2_with (first | (go_at_call 67; first | ((with_reducible refine (peekOk_yes _ _ _ _ _ _ (hR.drewN _) ?_).mono ?_); omega; rintro e w' ⟨rfl, nq, rfl⟩) | ((with_reducible refine (peekOk_yes _ _ _ _ _ _ hR ?_).mono ?_); omega; rintro e w' ⟨rfl, nq, rfl⟩) | ((with_reducible refine (peekOk_no _ _ _ _ _ _ (hR.drewN _) ?_).mono ?_); omega; rintro e w' ⟨rfl, nq, rfl⟩) | ((with_reducible refine (peekOk_no _ _ _ _ _ _ hR ?_).mono ?_); omega; rintro e w' ⟨rfl, nq, rfl⟩)) | (go_at_call 69; first | ((with_reducible refine (peek_any _ _ _ _ _ _ _ (hR.drewN _) ⟨?_, ?_, by assumption⟩).mono ?_); omega; omega; rintro e w' ⟨rfl, nq, rfl⟩) | ((with_reducible refine (peek_any _ _ _ _ _ _ _ hR ⟨?_, ?_, by assumption⟩).mono ?_); omega; omega; rintro e w' ⟨rfl, nq, rfl⟩)) | (go_at_call 68; refine (isIdentPart_any _ _).mono ?_; rintro e w' ⟨rfl, rfl⟩))
          go_meet
          exact ⟨rfl, _, rfl⟩
  case rest =>
    obtain ⟨rfl, nq, rfl⟩ := hcut
    have hpn := HP.out
    have hS0 := HS.out.drewN nq
    have c1 := block_cell hS0.lex 1
    have f1 := block_free hS0.lex 1
    have hS1 := hS0.set 1 (.string kIdent) { x with kind := kIdent } rfl hS0.pz
    have hF1 : Frm w ((w.drewN nq).setCell ⟨lb, 1, none⟩ (.string kIdent)) [lb] := ((Frm.refl w [lb]).drewN _).setCell _ _ (.inl (by simp))
    have HS1 := Lib.hid hS1
    have HF1 := Lib.hid hF1
    clear hS0 hS1 hF1 hi hlt2
    go_upto_region 5 with fail
    change Code.wp _ _ _ _ ((w.drewN nq).setCell ⟨lb, 1, none⟩ (.string kIdent))
    generalize (w.drewN nq).setCell ⟨lb, 1, none⟩ (.string kIdent) = w1 at *
    have r0 := HS1.out.rd.c0
    have r9 : w1.cell? ⟨lb, 9, none⟩ = some (.int .i64 (x.p : Int)) := HS1.out.rd.c9
    have rB := HS1.out.rd.cB
    have c5 : w1.cell? ⟨lb, 5, none⟩ = some (.string x.text) := block_cell HS1.out.lex 5
    have f5 := block_free HS1.out.lex 5
    have e2 : IntKind.i64.wrap ((x.p : Int) + (N : Int)) = (x.p : Int) + (N : Int) := IntWalk.i64_in _ (by omega)
    have e4 : ((x.p : Int) + (N : Int)).toNat = x.p + N := by omega
    have i1 : (0 : Int) ≤ (x.p : Int) := by omega
    have i2 : (x.p : Int) ≤ (x.p : Int) + (N : Int) := by omega
    have i3 : (x.p : Int) + (N : Int) ≤ (s.size : Int) := by omega
    have hS2 := (HS1.out.set 5 (.string (s.extract x.p (x.p + N))) { x with kind := kIdent, text := s.extract x.p (x.p + N) } rfl HS1.out.pz).drew
    have hF2 := (HF1.out.setCell ⟨lb, 5, none⟩ (.string (s.extract x.p (x.p + N))) (.inl (by simp))).drew
    have HS2 := Lib.hid hS2
    have HF2 := Lib.hid hF2
    clear hS2 hF2
    go_region
    generalize (w1.setCell ⟨lb, 5, none⟩ (.string (s.extract x.p (x.p + N)))).drew = w2 at *
    go_wp2_with fail
    refine (skipN_any lb fb fp s _ N { x with kind := kIdent, text := s.extract x.p (x.p + N), p := x.p + N } _ HS2.out ⟨by omega, by show (x.p : Int) + _ ≤ _; omega⟩ (by show _ = { x with p := ((x.p : Int) + (N : Int)).toNat, kind := _, text := _ }; rw [e4])).mono ?_
    rintro e w3 ⟨rfl, hS3, hF3⟩
    have HS3 := Lib.hid hS3
    clear hS3
    go_wp2_with fail
    go_end0
    exact ⟨rfl, HS3.out, HF2.out.step hF3⟩

def FieldRes (np : Bool) (lb fb : Nat) (fp s : ByteArray) (x : LX) (w : World) (e : Ending) (w' : World) : Prop := TokRes np lb fb fp s x (tok x.last (suf s x.p)) w e w'

set_option maxRecDepth 100000 in
theorem field_tok (lb fb : Nat) (fp s : ByteArray) (x : LX) (np : Bool) (w : World) (hs : s.size ≤ 1048576) (hE : Env w lb fb) (hS : St w lb fb fp s x) (hF : Fresh x) (hok : NB s ∨ ∃ t, tok x.last (suf s x.p) = .ok t) (hi : idpHead (suf s x.p) = false) :
    Calls Tryz.prog 51 #[.pointer (some ⟨lb, 0, none⟩), .bool np] w (FieldRes np lb fb fp s x w) := by
  have hR := hS.rd
  have hsz := hS.sz
  have HT := Lib.hid (show ∀ n, Calls Tryz.prog 52 #[.pointer (some ⟨lb, 0, none⟩), .bool np] (w.drewN n) (FieldRes np lb fb fp s x w) from fun n =>
    (tok_any lb fb fp s x np (w.drewN n) hs (hE.drewN n) (hS.drewN n) hF hok).mono fun e w' h => by
      have := TokRes.shift 0 (x := x) ((Frm.refl w [lb]).drewN n) h
      have h0 : ∀ o : Out, o.shift 0 = o := fun o => by cases o <;> rfl
      rw [h0] at this
      exact this)
  rcases suf_byt s x.p with ⟨hb, h2, hge⟩ | ⟨c, hb, hsuf, hlt⟩
  · have hge2 : (s.size : Int) ≤ (x.p : Int) + 0 := by omega
    clear hS hF hok hi hb h2 hE
    go_enter Tryz.func51, Tryz.ntmps51
    go_wp2_with (first | (go_at_call 69; first | ((with_reducible refine (peek_any _ _ _ _ _ _ _ (hR.drewN _) ⟨?_, ?_, by assumption⟩).mono ?_); omega; omega; rintro e w' ⟨rfl, nq, rfl⟩) | ((with_reducible refine (peek_any _ _ _ _ _ _ _ hR ⟨?_, ?_, by assumption⟩).mono ?_); omega; omega; rintro e w' ⟨rfl, nq, rfl⟩)) | (go_at_call 67; first | ((with_reducible refine (peekOk_yes _ _ _ _ _ _ (hR.drewN _) ?_).mono ?_); omega; rintro e w' ⟨rfl, nq, rfl⟩) | ((with_reducible refine (peekOk_yes _ _ _ _ _ _ hR ?_).mono ?_); omega; rintro e w' ⟨rfl, nq, rfl⟩) | ((with_reducible refine (peekOk_no _ _ _ _ _ _ (hR.drewN _) ?_).mono ?_); omega; rintro e w' ⟨rfl, nq, rfl⟩) | ((with_reducible refine (peekOk_no _ _ _ _ _ _ hR ?_).mono ?_); omega; rintro e w' ⟨rfl, nq, rfl⟩)) | (go_at_call 68; refine (isIdentPart_any _ _).mono ?_; rintro e w' ⟨rfl, rfl⟩))
    refine (HT.out _).mono ?_
    intro e w' h
    have HR := Lib.hid h
    rcases TokRes.ends h with rfl | ⟨ch, rfl⟩
    all_goals
      clear h
      go_wp2_with fail
    · go_end0
      exact HR.out
    · exact ⟨rfl, HR.out⟩
  · have hb0 : byt s ((x.p : Int) + 0) = nn c := by rw [← hb]; congr 1
    have hbd := nn_bd c
    have hi2 : idp (nn c) = false := by rw [hsuf] at hi; exact hi
    clear hS hF hok hi hb hsuf hE
    go_enter Tryz.func51, Tryz.ntmps51
    go_wp2_with (first | (go_at_call 69; first | ((with_reducible refine (peek_any _ _ _ _ _ _ _ (hR.drewN _) ⟨?_, ?_, by assumption⟩).mono ?_); omega; omega; rintro e w' ⟨rfl, nq, rfl⟩) | ((with_reducible refine (peek_any _ _ _ _ _ _ _ hR ⟨?_, ?_, by assumption⟩).mono ?_); omega; omega; rintro e w' ⟨rfl, nq, rfl⟩)) | (go_at_call 67; first | ((with_reducible refine (peekOk_yes _ _ _ _ _ _ (hR.drewN _) ?_).mono ?_); omega; rintro e w' ⟨rfl, nq, rfl⟩) | ((with_reducible refine (peekOk_yes _ _ _ _ _ _ hR ?_).mono ?_); omega; rintro e w' ⟨rfl, nq, rfl⟩) | ((with_reducible refine (peekOk_no _ _ _ _ _ _ (hR.drewN _) ?_).mono ?_); omega; rintro e w' ⟨rfl, nq, rfl⟩) | ((with_reducible refine (peekOk_no _ _ _ _ _ _ hR ?_).mono ?_); omega; rintro e w' ⟨rfl, nq, rfl⟩)) | (go_at_call 68; refine (isIdentPart_any _ _).mono ?_; rintro e w' ⟨rfl, rfl⟩))
    refine (HT.out _).mono ?_
    intro e w' h
    have HR := Lib.hid h
    rcases TokRes.ends h with rfl | ⟨ch, rfl⟩
    all_goals
      clear h
      go_wp2_with fail
    · go_end0
      exact HR.out
    · exact ⟨rfl, HR.out⟩

/-- consumeFieldToken by the plain lexer. -/
theorem field_any (lb fb : Nat) (fp s : ByteArray) (x : LX) (np : Bool) (w : World) (hs : s.size ≤ 1048576) (hE : Env w lb fb) (hS : St w lb fb fp s x) (hF : Fresh x) (hok : NB s ∨ ∃ t, ftok x.last (suf s x.p) = .ok t) :
    Calls Tryz.prog 51 #[.pointer (some ⟨lb, 0, none⟩), .bool np] w (TokRes np lb fb fp s x (ftok x.last (suf s x.p)) w) := by
  cases hi : idpHead (suf s x.p) with
  | false =>
    have hf : ftok x.last (suf s x.p) = tok x.last (suf s x.p) := by simp [ftok, hi]
    rw [hf] at hok ⊢
    exact field_tok lb fb fp s x np w hs hE hS hF hok hi
  | true =>
    have hf : ftok x.last (suf s x.p) = .ok ⟨kIdent, ⟨((suf s x.p).take (idLen (suf s x.p))).toArray⟩, 0, idLen (suf s x.p), none⟩ := by simp [ftok, hi]
    rw [hf]
    cases hsf : suf s x.p with
    | nil => rw [hsf] at hi; cases hi
    | cons c r =>
      have hb0 : byt s ((x.p : Int) + 0) = nn c := byt_suf s x.p 0 c (by rw [hsf]; rfl)
      have hi2 : idp (nn c) = true := by rw [hsf] at hi; exact hi
      rw [← hsf]
      refine (field_word lb fb fp s x np w hS (nn c) hb0 hi2 _ rfl).mono fun e w' h => .inl ⟨_, rfl, ?_⟩
      have hext : s.extract x.p (x.p + idLen (suf s x.p)) = ⟨((suf s x.p).take (idLen (suf s x.p))).toArray⟩ := bytes_ext (by rw [ext_suf])
      have : x.put ⟨kIdent, ⟨((suf s x.p).take (idLen (suf s x.p))).toArray⟩, 0, idLen (suf s x.p), none⟩ = { x with p := x.p + idLen (suf s x.p), kind := kIdent, text := s.extract x.p (x.p + idLen (suf s x.p)) } := by
        rw [hext]; simp [LX.put, hF.base]
      rw [this]; exact h

end Go.Proofs.YtngofbhlhcalpaaGreatDoor.lexer
